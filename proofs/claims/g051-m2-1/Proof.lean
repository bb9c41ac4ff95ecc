import JvmDerived
import JvmDerived.Pilot.@@N@@Statement
import JvmDerived.Pilot.@@N@@Code
set_option linter.unusedVariables false
set_option linter.unusedSimpArgs false
namespace Jvm.RoadKit
open Sem ClassFile Op Lib Jvm.Stand Jvm.Free Jvm.LawKit
section New
variable {p : Program} {l : Launch} {e : Env} {R : Room} {s : State} {m : MethodId} {args : Array Value} {below : List Frame} {meth : Method} {c : Code} {T : State} {locs : List Loc} {cells slots : Nat}
theorem retI (X : Stand p l e R s m args below meth c T locs cells slots) (hx : p.tables.exec = Jvm.exec) {pc : Nat} {Ls : Array Slot} {z : Int32} {rest : List Value} (hret : meth.sig.returnType = some .int) (hd : decode c.code pc = .ok (.ireturn, 1)) {fs : List Frame}
    (hl : ∀ (f : JFrame) (acts : List Action), f.method = m → f.locked = none → f.entered = [] → (doReturn e (T.setTop f) acts (some (.int z))).1 = T.setFrames fs) : Steps p.tables e below (T.setTop (mkF m pc Ls (.int z :: rest))) (T.setFrames fs) := by
  have hm' : T.vm.method? m = some meth := X.method'
  have hn : narrow .int (.int z) = .int z := rfl
  show Steps p.tables e below (T.setTop { method := m, pc := pc, locals := Ls, stack := _ :: rest, locked := none }) _
  jvm_step X.here [X.here.top, hx, hd, hm', hret, hn]
  first | (intro acts; rw [hl _ acts rfl rfl rfl]) | rw [hl _ _ rfl rfl rfl]
  exact Steps.refl _
end New
end Jvm.RoadKit
namespace Jvm.RoadKit
open Sem ClassFile Op Lib Jvm.Stand Jvm.Free Jvm.LawKit
section OwnArr
variable {p : Program} {l : Launch} {e : Env} {R : Room} {s : State} {m : MethodId} {args : Array Value} {below : List Frame} {meth : Method} {c : Code} {T : State} {locs : List Loc} {cells slots : Nat} {Z : State} {h h' : Heap} {a b : Addr} {ty : FieldType} {n : Nat} {f : Nat → Value}
/-- an array of n places, place j holds f j -/
def own_arr (Z : State) (h : Heap) (a : Addr) (ty : FieldType) (n : Nat) (f : Nat → Value) : Prop := ∃ c : Cell, Arr Z h a c ty ∧ c.slots.size = n ∧ ∀ j, j < n → c.slots[j]? = some (f j)
theorem own_arr.lt (F : own_arr Z h a ty n f) : a < h.size := by obtain ⟨c, A, -⟩ := F; exact A.lt
theorem own_arr.ext (F : own_arr Z h a ty n f) (E : Ext h h') : own_arr Z h' a ty n f := by obtain ⟨c, A, r⟩ := F; exact ⟨c, A.ext E, r⟩
theorem own_arr.other {sl : Nat} {v : Value} (F : own_arr Z h b ty n f) (W : Wr h h' a sl v) (q : b ≠ a) : own_arr Z h' b ty n f := by obtain ⟨c, A, r⟩ := F; exact ⟨c, A.other W q, r⟩
theorem own_arr.keep {ws : List Addr} (F : own_arr Z h a ty n f) (K : Keep h h' ws) (q : a ∉ ws) : own_arr Z h' a ty n f := by obtain ⟨c, A, r⟩ := F; exact ⟨c, ⟨K.2.1 a c A.1 q, A.2⟩, r⟩
theorem own_arr.to {n' : Nat} {f' : Nat → Value} (F : own_arr Z h a ty n f) (q : n = n') (r : ∀ j, j < n → f j = f' j) : own_arr Z h a ty n' f' := by obtain ⟨c, A, s, t⟩ := F; subst q; exact ⟨c, A, s, fun j hj => (t j hj).trans (congrArg some (r j hj))⟩
theorem own_arr.new {k : ClassId} {z : Int32} (A : Arr Z h a (newA k ty z) ty) : own_arr Z h a ty z.toNatClampNeg (fun _ => defaultValue ty) := ⟨_, A, sz_new _ _ _, fun j hj => by simp [newA, hj]⟩
theorem own_arr.newI {k : ClassId} {z : Int32} {i : Nat} (A : Arr Z h a (newA k .int z) .int) (q : z.toNatClampNeg = i) : own_arr Z h a .int i (fun _ => .int 0) := q ▸ own_arr.new A
theorem own_arr.newB {k : ClassId} {z : Int32} {i : Nat} (A : Arr Z h a (newA k .byte z) .byte) (q : z.toNatClampNeg = i) : own_arr Z h a .byte i (fun _ => .int 0) := q ▸ own_arr.new A
theorem own_arr.newJ {k : ClassId} {z : Int32} {i : Nat} (A : Arr Z h a (newA k .long z) .long) (q : z.toNatClampNeg = i) : own_arr Z h a .long i (fun _ => .long 0) := q ▸ own_arr.new A
theorem own_arr.set {j : Nat} {v : Value} (F : own_arr Z h a ty n f) (W : Wr h h' a j v) : own_arr Z h' a ty n (fun i => if i = j then v else f i) := by
  obtain ⟨c, A, s, t⟩ := F
  refine ⟨_, A.same W, by rw [sz_set]; exact s, fun i hi => ?_⟩
  by_cases q : i = j
  · subst q; simp [Cell.setSlot, s, hi]
  · simp only [q, if_false]; rw [← t i hi]; exact Array.getElem?_setIfInBounds_ne fun z => q z.symm
theorem own_in {j : Int32} {k : Nat} {cl : Cell} (h0 : ¬ j < 0) (hj : j.toNatClampNeg = k) (hk : k < n) (q : cl.slots.size = n) : ¬ (j < 0 ∨ cl.slots.size ≤ j.toNatClampNeg) := by
  rintro (r | r)
  · exact h0 r
  · omega
theorem own_ldI {g : Nat → Int32} (X : Stand p l e R s m args below meth c T locs cells slots) (hx : p.tables.exec = Jvm.exec) (hZ : Z.Warmed39 s.vm) (eT : T.heap = h) (A : own_arr Z h a .int n (fun i => .int (g i))) {j : Int32} {k : Nat} (h0 : ¬ j < 0) (hj : j.toNatClampNeg = k) (hk : k < n)
    {fr : JFrame} (hg : fr.method = m) {rest : List Value} (hs : fr.stack = .int j :: .ref a :: rest) (hd : decode c.code fr.pc = .ok (.iaload, 1)) (target : State)
    (hr : Steps p.tables e below (T.setTop { fr with pc := fr.pc + 1, stack := .int (g k) :: rest }) target) : Steps p.tables e below (T.setTop fr) target := by
  obtain ⟨cl, A, s, t⟩ := A
  exact X.iaload hx (by rw [eT]; exact A.1) (State.isArrayOf_alike hZ.alike A.2.1) A.2.2 (own_in h0 hj hk s) (by rw [hj]; exact t k hk) hg hs hd _ hr
theorem own_ldB {g : Nat → Int32} (X : Stand p l e R s m args below meth c T locs cells slots) (hx : p.tables.exec = Jvm.exec) (hZ : Z.Warmed39 s.vm) (eT : T.heap = h) (A : own_arr Z h a .byte n (fun i => .int (g i))) {j : Int32} {k : Nat} (h0 : ¬ j < 0) (hj : j.toNatClampNeg = k) (hk : k < n)
    {fr : JFrame} (hg : fr.method = m) {rest : List Value} (hs : fr.stack = .int j :: .ref a :: rest) (hd : decode c.code fr.pc = .ok (.baload, 1)) (target : State)
    (hr : Steps p.tables e below (T.setTop { fr with pc := fr.pc + 1, stack := .int (g k) :: rest }) target) : Steps p.tables e below (T.setTop fr) target := by
  obtain ⟨cl, A, s, t⟩ := A
  exact X.baloadBytes hx (by rw [eT]; exact A.1) (State.isArrayOf_alike hZ.alike A.2.1) A.2.2 (own_in h0 hj hk s) (by rw [hj]; exact t k hk) hg hs hd _ hr
theorem own_ldJ {g : Nat → Int64} (X : Stand p l e R s m args below meth c T locs cells slots) (hx : p.tables.exec = Jvm.exec) (hZ : Z.Warmed39 s.vm) (eT : T.heap = h) (A : own_arr Z h a .long n (fun i => .long (g i))) {j : Int32} {k : Nat} (h0 : ¬ j < 0) (hj : j.toNatClampNeg = k) (hk : k < n)
    {fr : JFrame} (hg : fr.method = m) {rest : List Value} (hs : fr.stack = .int j :: .ref a :: rest) (hd : decode c.code fr.pc = .ok (.laload, 1)) (target : State)
    (hr : Steps p.tables e below (T.setTop { fr with pc := fr.pc + 1, stack := .long (g k) :: rest }) target) : Steps p.tables e below (T.setTop fr) target := by
  obtain ⟨cl, A, s, t⟩ := A
  exact X.laload hx (by rw [eT]; exact A.1) (State.isArrayOf_alike hZ.alike A.2.1) A.2.2 (own_in h0 hj hk s) (by rw [hj]; exact t k hk) hg hs hd _ hr
theorem own_len (X : Stand p l e R s m args below meth c T locs cells slots) (hx : p.tables.exec = Jvm.exec) (hZ : Z.Warmed39 s.vm) (eT : T.heap = h) (A : own_arr Z h a ty n f) {z : Int32} (q : n.toInt32 = z)
    {fr : JFrame} (hg : fr.method = m) {rest : List Value} (hs : fr.stack = .ref a :: rest) (hd : decode c.code fr.pc = .ok (.arraylength, 1)) (target : State)
    (hr : Steps p.tables e below (T.setTop { fr with pc := fr.pc + 1, stack := .int z :: rest }) target) : Steps p.tables e below (T.setTop fr) target := by
  obtain ⟨cl, A, s, t⟩ := A
  refine X.arraylength hx (by rw [eT]; exact A.1) (State.isArrayOf_alike hZ.alike A.2.1) hg hs hd _ ?_
  rw [s, q]; exact hr
theorem own_stI {g : Nat → Int32} (X : Stand p l e R s m args below meth c T locs cells slots) (hx : p.tables.exec = Jvm.exec) (hZ : Z.Warmed39 s.vm) (eT : T.heap = h) (A : own_arr Z h a .int n (fun i => .int (g i))) {j x : Int32} {k : Nat} (h0 : ¬ j < 0) (hj : j.toNatClampNeg = k) (hk : k < n)
    {fr : JFrame} (hg : fr.method = m) {rest : List Value} (hs : fr.stack = .int x :: .int j :: .ref a :: rest) (hd : decode c.code fr.pc = .ok (.iastore, 1)) :
    ∃ T' h', Stand p l e R s m args below meth c T' (locs ++ [⟨a, k⟩]) cells slots ∧ T'.heap = h' ∧ Wr h h' a k (.int x) ∧ own_arr Z h' a .int n (fun i => .int (if i = k then x else g i)) ∧ ∀ target, Steps p.tables e below (T'.setTop { fr with pc := fr.pc + 1, stack := rest }) target → Steps p.tables e below (T.setTop fr) target := by
  have A' := A
  obtain ⟨cl, A, s, t⟩ := A
  obtain ⟨T', h', X', e', W, st⟩ := stI X hx hZ eT A (own_in h0 hj hk s) hg hs hd
  rw [hj] at X' W
  exact ⟨T', h', X', e', W, (A'.set W).to rfl fun j _ => by by_cases q : j = k <;> simp [q], st⟩
theorem own_stJ {g : Nat → Int64} (X : Stand p l e R s m args below meth c T locs cells slots) (hx : p.tables.exec = Jvm.exec) (hZ : Z.Warmed39 s.vm) (eT : T.heap = h) (A : own_arr Z h a .long n (fun i => .long (g i))) {j : Int32} {x : Int64} {k : Nat} (h0 : ¬ j < 0) (hj : j.toNatClampNeg = k) (hk : k < n)
    {fr : JFrame} (hg : fr.method = m) {rest : List Value} (hs : fr.stack = .long x :: .int j :: .ref a :: rest) (hd : decode c.code fr.pc = .ok (.lastore, 1)) :
    ∃ T' h', Stand p l e R s m args below meth c T' (locs ++ [⟨a, k⟩]) cells slots ∧ T'.heap = h' ∧ Wr h h' a k (.long x) ∧ own_arr Z h' a .long n (fun i => .long (if i = k then x else g i)) ∧ ∀ target, Steps p.tables e below (T'.setTop { fr with pc := fr.pc + 1, stack := rest }) target → Steps p.tables e below (T.setTop fr) target := by
  have A' := A
  obtain ⟨cl, A, s, t⟩ := A
  obtain ⟨T', h', X', e', W, st⟩ := stJ X hx hZ eT A (own_in h0 hj hk s) hg hs hd
  rw [hj] at X' W
  exact ⟨T', h', X', e', W, (A'.set W).to rfl fun j _ => by by_cases q : j = k <;> simp [q], st⟩
theorem own_stB {g : Nat → Int32} (X : Stand p l e R s m args below meth c T locs cells slots) (hx : p.tables.exec = Jvm.exec) (hZ : Z.Warmed39 s.vm) (eT : T.heap = h) (A : own_arr Z h a .byte n (fun i => .int (g i))) {j x : Int32} {k : Nat} (h0 : ¬ j < 0) (hj : j.toNatClampNeg = k) (hk : k < n)
    {fr : JFrame} (hg : fr.method = m) {rest : List Value} (hs : fr.stack = .int x :: .int j :: .ref a :: rest) (hd : decode c.code fr.pc = .ok (.bastore, 1)) :
    ∃ T' h', Stand p l e R s m args below meth c T' (locs ++ [⟨a, k⟩]) cells slots ∧ T'.heap = h' ∧ Wr h h' a k (.int (x.toInt8.toInt32)) ∧ own_arr Z h' a .byte n (fun i => .int (if i = k then x.toInt8.toInt32 else g i)) ∧ ∀ target, Steps p.tables e below (T'.setTop { fr with pc := fr.pc + 1, stack := rest }) target → Steps p.tables e below (T.setTop fr) target := by
  have A' := A
  obtain ⟨cl, A, s, t⟩ := A
  obtain ⟨T', h', X', e', W, st⟩ := stB X hx hZ eT A (own_in h0 hj hk s) hg hs hd
  rw [hj] at X' W
  exact ⟨T', h', X', e', W, (A'.set W).to rfl fun j _ => by by_cases q : j = k <;> simp [q, nar], st⟩
end OwnArr
end Jvm.RoadKit
namespace Jvm.Pilot.@@N@@
open Jvm Jvm.ClassFile Sem Op Lib Jvm.Free Jvm.Stand Jvm.LawKit Jvm.RoadKit Bundle Jvm.Pilot.@@N@@.Jvm.D
theorem d1_0 : decode jdk_29_method_70_code 0 = .ok (.lload_n 0, 1) := by decide +kernel
theorem d1_1 : decode jdk_29_method_70_code 1 = .ok (.lload_n 2, 1) := by decide +kernel
theorem d1_2 : decode jdk_29_method_70_code 2 = .ok (.lcmp, 1) := by decide +kernel
theorem d1_3 : decode jdk_29_method_70_code 3 = .ok (.ifCond .gt 7, 3) := by decide +kernel
theorem d1_10 : decode jdk_29_method_70_code 10 = .ok (.lload_n 2, 1) := by decide +kernel
theorem d1_11 : decode jdk_29_method_70_code 11 = .ok (.lreturn, 1) := by decide +kernel
theorem d1_6 : decode jdk_29_method_70_code 6 = .ok (.lload_n 0, 1) := by decide +kernel
theorem d1_7 : decode jdk_29_method_70_code 7 = .ok (.goto 4, 3) := by decide +kernel
def own_mnl (p0 : Int64) (p1 : Int64) : Int64 := (if p1 < p0 then p1 else p0)
theorem ef_1 (m : MethodId) (x0 : Int64) (x1 : Int64) : entryFrame m #[(.long x0), (.long x1)] 4 = mkF m 0 #[.val (.long x0), .second, .val (.long x1), .second] [] := by first | (simp [entryFrame, mkF, argsToLocals, Value.category]; done) | rfl
def Q1 (Z : State) (p0 : Int64) (p1 : Int64) (h0 : Heap) (n0 : Nat) (v : Option Value) (h : Heap) (L : List Loc) : Prop := v = some (.long (own_mnl p0 p1)) ∧ Fr n0 L ∧ h = h0
set_option maxRecDepth 65536 in
set_option maxHeartbeats 40000000 in
theorem rm1 (l : Launch) (Z : State) (a0 : Array Value) (hw : ∀ d ∈ tables_1, d.before a0 Z = true) (ws : List Jvm.Cond) (p0 : Int64) (p1 : Int64) (h0 : Heap) (n0 : Nat) (Z0 : n0 ≤ h0.size) :
    MetFree l (⟨"java/lang/Math", "min", "(JJ)J"⟩ : MethodName) (head1 (Jvm.Cond.code (⟨"java/lang/Math", "min", "(JJ)J"⟩ : MethodName) jdk_29_method_70_code 4 (some .long) :: ws) ({ frames := 0, cells := 0, slots := 0, locals := 0 } : Room)) (fun a U => a = #[(.long p0), (.long p1)] ∧ Z.Warmed39 U.vm ∧ U.heap = h0) (fun _ _ _ _ _ => True) (fun _ U o U' => ∃ v L, o = .returned v ∧ Q1 Z p0 p1 h0 n0 v U'.heap L ∧ FrameEnd U o U' L ({ frames := 0, cells := 0, slots := 0, locals := 0 } : Room).cells ({ frames := 0, cells := 0, slots := 0, locals := 0 } : Room).slots) := by
  refine MetFree.of_bodySF (Jvm.Free.JP.mathPlain rfl (by decide +kernel)) hisR ?_
  intro p e s m args below meth c s₁ Bd hml0 hP hK
  obtain ⟨rfl, hZ, hh⟩ := hP
  have hx := Bd.exec
  have hby := Bd.bytes
  have hml : c.maxLocals = 4 := hml0
  have hown : s.vm.findClass "java/lang/Math" = some m.cls := findClass_of_methodNamed Bd.named
  have hnm := (name_of_methodNamed Bd.named Bd.method).1
  have X0 : Stand p l e ({ frames := 0, cells := 0, slots := 0, locals := 0 } : Room) s m #[(.long p0), (.long p1)] below meth c s₁ [] 0 0 := Stand.of_body Bd
  have e0 : s₁.heap = h0 := by rw [← hh, Bd.state]; rfl
  have N0 := Fr.nil n0
  have pre0 : ∀ t, Steps p.tables e below (s₁.setTop (mkF m 0 #[.val (.long p0), .second, .val (.long p1), .second] [])) t → Steps p.tables e below (s₁.setTop (entryFrame m #[(.long p0), (.long p1)] 4)) t := fun t k => castTop (ef_1 m p0 p1) k
  have pre1 : ∀ t, Steps p.tables e below (s₁.setTop (mkF m 3 #[.val (.long p0), .second, .val (.long p1), .second] [(.int (lcmpW p0 p1))])) t → Steps p.tables e below (s₁.setTop (entryFrame m #[(.long p0), (.long p1)] 4)) t := by
    intro t kont
    refine pre0 t ?_
    show Steps p.tables e below (s₁.setTop (mkF m 0 #[.val (.long p0), .second, .val (.long p1), .second] [])) _
    refine XS.lloadN X0.here hx rfl (hb hby d1_0) rfl ?_
    show Steps p.tables e below (s₁.setTop (mkF m 1 #[.val (.long p0), .second, .val (.long p1), .second] [(.long p0)])) _
    refine XS.lloadN X0.here hx rfl (hb hby d1_1) rfl ?_
    show Steps p.tables e below (s₁.setTop (mkF m 2 #[.val (.long p0), .second, .val (.long p1), .second] [(.long p1), (.long p0)])) _
    refine XS.lcmp X0.here hx rfl (hb hby d1_2) rfl ?_
    exact kont
  by_cases hc3 : p1 < p0
  · have pre2 : ∀ t, Steps p.tables e below (s₁.setTop (mkF m 11 #[.val (.long p0), .second, .val (.long p1), .second] [(.long p1)])) t → Steps p.tables e below (s₁.setTop (entryFrame m #[(.long p0), (.long p1)] 4)) t := by
      intro t kont
      refine pre1 t ?_
      show Steps p.tables e below (s₁.setTop (mkF m 3 #[.val (.long p0), .second, .val (.long p1), .second] [(.int (lcmpW p0 p1))])) _
      refine XS.ifYes X0.here hx rfl (pc0 := 3) (pc' := 10) rfl (hb hby d1_3) rfl ((if0 _ _).trans (tlt ((lw_gt _ _).mpr hc3)).2.2.1) (by decide) (by decide) ?_
      show Steps p.tables e below (s₁.setTop (mkF m 10 #[.val (.long p0), .second, .val (.long p1), .second] [])) _
      refine XS.lloadN X0.here hx rfl (hb hby d1_10) rfl ?_
      exact kont
    obtain ⟨fs, hr, hrun, hended, hW, hsame⟩ := X0.leave (v := some (.long p1)) (fun h => by rw [Bd.returns] at h; cases h)
    refine ⟨_, _, pre2 _ ?_, hrun, hended, _, _, rfl, ?_, ⟨_, rfl⟩, hW, hsame.mono (by decide) (by decide)⟩
    · exact lreturnOut X0 hx Bd.returns (hb hby d1_11) hr
    · show Q1 Z p0 p1 h0 n0 _ s₁.heap _
      rw [e0]
      refine ⟨?_, N0, rfl⟩
      unfold own_mnl; rw [if_pos hc3]
  · have pre3 : ∀ t, Steps p.tables e below (s₁.setTop (mkF m 11 #[.val (.long p0), .second, .val (.long p1), .second] [(.long p0)])) t → Steps p.tables e below (s₁.setTop (entryFrame m #[(.long p0), (.long p1)] 4)) t := by
      intro t kont
      refine pre1 t ?_
      show Steps p.tables e below (s₁.setTop (mkF m 3 #[.val (.long p0), .second, .val (.long p1), .second] [(.int (lcmpW p0 p1))])) _
      refine XS.ifNo X0.here hx rfl (hb hby d1_3) rfl ((if0 _ _).trans (flt (fun q => hc3 ((lw_gt _ _).mp q))).2.2.1) ?_
      show Steps p.tables e below (s₁.setTop (mkF m 6 #[.val (.long p0), .second, .val (.long p1), .second] [])) _
      refine XS.lloadN X0.here hx rfl (hb hby d1_6) rfl ?_
      show Steps p.tables e below (s₁.setTop (mkF m 7 #[.val (.long p0), .second, .val (.long p1), .second] [(.long p0)])) _
      refine XS.goto X0.here hx rfl (pc0 := 7) (pc' := 11) rfl (hb hby d1_7) (by decide) (by decide) ?_
      exact kont
    obtain ⟨fs, hr, hrun, hended, hW, hsame⟩ := X0.leave (v := some (.long p0)) (fun h => by rw [Bd.returns] at h; cases h)
    refine ⟨_, _, pre3 _ ?_, hrun, hended, _, _, rfl, ?_, ⟨_, rfl⟩, hW, hsame.mono (by decide) (by decide)⟩
    · exact lreturnOut X0 hx Bd.returns (hb hby d1_11) hr
    · show Q1 Z p0 p1 h0 n0 _ s₁.heap _
      rw [e0]
      refine ⟨?_, N0, rfl⟩
      unfold own_mnl; rw [if_neg hc3]
def own_al (Z : State) (h : Heap) (n0 : Nat) (t be ba bn bf : Addr) (dr ow lw sz : Int32) (ne : Nat) (ge ga gn gf : Nat → Int32) : Prop :=
  Exa Z h t "com/example/impronta/impronta/engine/Alignments" ∧ Fld Z h t "com/example/impronta/impronta/engine/Alignments" "direct" "I" (.int dr) ∧ Fld Z h t "com/example/impronta/impronta/engine/Alignments" "ownSlots" "Z" (.int ow) ∧ Fld Z h t "com/example/impronta/impronta/engine/Alignments" "lowest" "I" (.int lw) ∧ Fld Z h t "com/example/impronta/impronta/engine/Alignments" "size" "I" (.int sz) ∧ Fld Z h t "com/example/impronta/impronta/engine/Alignments" "shift" "I" (.int (28 : Int32)) ∧ Fld Z h t "com/example/impronta/impronta/engine/Alignments" "endsByAlignment" "[I" (.ref be) ∧ Fld Z h t "com/example/impronta/impronta/engine/Alignments" "alignments" "[I" (.ref ba) ∧ Fld Z h t "com/example/impronta/impronta/engine/Alignments" "ends" "[I" (.ref bn) ∧ Fld Z h t "com/example/impronta/impronta/engine/Alignments" "filled" "[I" (.ref bf) ∧ own_arr Z h be .int ne (fun i => .int (ge i)) ∧ own_arr Z h ba .int 16 (fun i => .int (ga i)) ∧ own_arr Z h bn .int 16 (fun i => .int (gn i)) ∧ own_arr Z h bf .int 8 (fun i => .int (gf i)) ∧ (t ≠ be ∧ t ≠ ba ∧ t ≠ bn ∧ t ≠ bf ∧ be ≠ ba ∧ be ≠ bn ∧ be ≠ bf ∧ ba ≠ bn ∧ ba ≠ bf ∧ bn ≠ bf) ∧ (n0 ≤ t ∧ n0 ≤ be ∧ n0 ≤ ba ∧ n0 ≤ bn ∧ n0 ≤ bf)
theorem own_home (a : Int32) : ¬ (((a * (-1640531527 : Int32)).toUInt32 >>> ((28 : Int32) &&& 31).toUInt32).toInt32) < 0 ∧ (((a * (-1640531527 : Int32)).toUInt32 >>> ((28 : Int32) &&& 31).toUInt32).toInt32).toNatClampNeg < 16 := by
  have e := c_iushr (a * (-1640531527 : Int32)) 28 28 (by decide) (by decide)
  have r := rng32 (a * (-1640531527 : Int32))
  rw [Int32.lt_iff_toInt_lt, Int32.toNatClampNeg, e]
  have o : (0 : Int32).toInt = 0 := rfl
  omega
theorem own_nxt (s : Int32) : ¬ ((s + (1 : Int32)) &&& (15 : Int32)) < 0 ∧ ((s + (1 : Int32)) &&& (15 : Int32)).toNatClampNeg < 16 := by
  have e := c_mask (s + (1 : Int32)) 15 4 (by decide) (by decide)
  rw [Int32.lt_iff_toInt_lt, Int32.toNatClampNeg, e]
  have o : (0 : Int32).toInt = 0 := rfl
  omega
theorem d5_0 : decode jdk_65_method_103_code 0 = .ok (.iconst 0, 1) := by decide +kernel
theorem d5_1 : decode jdk_65_method_103_code 1 = .ok (.istore_n 2, 1) := by decide +kernel
theorem d5_2 : decode jdk_65_method_103_code 2 = .ok (.aload_n 0, 1) := by decide +kernel
theorem d5_3 : decode jdk_65_method_103_code 3 = .ok (.arraylength, 1) := by decide +kernel
theorem d5_4 : decode jdk_65_method_103_code 4 = .ok (.istore_n 3, 1) := by decide +kernel
theorem d5_5 : decode jdk_65_method_103_code 5 = .ok (.iload_n 2, 1) := by decide +kernel
theorem d5_6 : decode jdk_65_method_103_code 6 = .ok (.iload_n 3, 1) := by decide +kernel
theorem d5_7 : decode jdk_65_method_103_code 7 = .ok (.if_icmp .ge 13, 3) := by decide +kernel
theorem d5_10 : decode jdk_65_method_103_code 10 = .ok (.aload_n 0, 1) := by decide +kernel
theorem d5_11 : decode jdk_65_method_103_code 11 = .ok (.iload_n 2, 1) := by decide +kernel
theorem d5_12 : decode jdk_65_method_103_code 12 = .ok (.iload_n 1, 1) := by decide +kernel
theorem d5_13 : decode jdk_65_method_103_code 13 = .ok (.iastore, 1) := by decide +kernel
theorem d5_14 : decode jdk_65_method_103_code 14 = .ok (.iinc 2 1, 3) := by decide +kernel
theorem d5_17 : decode jdk_65_method_103_code 17 = .ok (.goto (-12), 3) := by decide +kernel
theorem d5_20 : decode jdk_65_method_103_code 20 = .ok (.return_, 1) := by decide +kernel
theorem pn_5 : plainName "java/util/Arrays" = true := by first | (simp [plainName, overriddenIn]; done) | decide +kernel
theorem ef_5 (m : MethodId) (x0 : Addr) (x1 : Int32) : entryFrame m #[(.ref x0), (.int x1)] 4 = mkF m 0 #[.val (.ref x0), .val (.int x1), .unset, .unset] [] := by first | (simp [entryFrame, mkF, argsToLocals, Value.category]; done) | rfl
def Q5 (Z : State) (p0 : Addr) (p1 : Int32) (g : Nat → Int32) (h0 : Heap) (n0 : Nat) (v : Option Value) (h : Heap) (L : List Loc) : Prop := v = none ∧ Fr n0 L ∧ Keep h0 h [p0] ∧ own_arr Z h p0 .int 16 (fun _ => .int p1)
set_option maxRecDepth 65536 in
set_option maxHeartbeats 40000000 in
theorem rm5 (l : Launch) (Z : State) (a0 : Array Value) (hw : ∀ d ∈ tables_1, d.before a0 Z = true) (ws : List Jvm.Cond) (p0 : Addr) (p1 : Int32) (g : Nat → Int32) (h0 : Heap) (n0 : Nat) (Z0 : n0 ≤ h0.size) (Ap : own_arr Z h0 p0 .int 16 (fun i => .int (g i))) (gp : n0 ≤ p0) :
    MetFree l (⟨"java/util/Arrays", "fill", "([II)V"⟩ : MethodName) (head1 (Jvm.Cond.code (⟨"java/util/Arrays", "fill", "([II)V"⟩ : MethodName) jdk_65_method_103_code 4 none :: ws) ({ frames := 0, cells := 0, slots := 0, locals := 0 } : Room)) (fun a U => a = #[(.ref p0), (.int p1)] ∧ Z.Warmed39 U.vm ∧ U.heap = h0) (fun _ _ _ _ _ => True) (fun _ U o U' => ∃ v L, o = .returned v ∧ Q5 Z p0 p1 g h0 n0 v U'.heap L ∧ FrameEnd U o U' L ({ frames := 0, cells := 0, slots := 0, locals := 0 } : Room).cells ({ frames := 0, cells := 0, slots := 0, locals := 0 } : Room).slots) := by
  refine MetFree.of_bodySF (plainFor_of_name pn_5) hisR ?_
  intro p e s m args below meth c s₁ Bd hml0 hP hK
  obtain ⟨rfl, hZ, hh⟩ := hP
  have hx := Bd.exec
  have hby := Bd.bytes
  have hml : c.maxLocals = 4 := hml0
  have hown : s.vm.findClass "java/util/Arrays" = some m.cls := findClass_of_methodNamed Bd.named
  have hnm := (name_of_methodNamed Bd.named Bd.method).1
  have X0 : Stand p l e ({ frames := 0, cells := 0, slots := 0, locals := 0 } : Room) s m #[(.ref p0), (.int p1)] below meth c s₁ [] 0 0 := Stand.of_body Bd
  have e0 : s₁.heap = h0 := by rw [← hh, Bd.state]; rfl
  have N0 := Fr.nil n0
  have pre0 : ∀ t, Steps p.tables e below (s₁.setTop (mkF m 0 #[.val (.ref p0), .val (.int p1), .unset, .unset] [])) t → Steps p.tables e below (s₁.setTop (entryFrame m #[(.ref p0), (.int p1)] 4)) t := fun t k => castTop (ef_5 m p0 p1) k
  have pre4 : ∀ t, Steps p.tables e below (s₁.setTop (mkF m 13 #[.val (.ref p0), .val (.int p1), .val (.int (0 : Int32)), .val (.int (16 : Int32))] [(.int p1), (.int (0 : Int32)), (.ref p0)])) t → Steps p.tables e below (s₁.setTop (entryFrame m #[(.ref p0), (.int p1)] 4)) t := by
    intro t kont
    refine pre0 t ?_
    show Steps p.tables e below (s₁.setTop (mkF m 0 #[.val (.ref p0), .val (.int p1), .unset, .unset] [])) _
    refine XS.iconst X0.here hx rfl (hb hby d5_0) ?_
    show Steps p.tables e below (s₁.setTop (mkF m 1 #[.val (.ref p0), .val (.int p1), .unset, .unset] [(.int (0 : Int32))])) _
    refine XS.istoreN X0.here hx rfl (hb hby d5_1) rfl (l' := #[.val (.ref p0), .val (.int p1), .val (.int (0 : Int32)), .unset]) rfl ?_
    show Steps p.tables e below (s₁.setTop (mkF m 2 #[.val (.ref p0), .val (.int p1), .val (.int (0 : Int32)), .unset] [])) _
    refine XS.aloadN X0.here hx rfl (hb hby d5_2) rfl rfl ?_
    show Steps p.tables e below (s₁.setTop (mkF m 3 #[.val (.ref p0), .val (.int p1), .val (.int (0 : Int32)), .unset] [(.ref p0)])) _
    refine own_len X0 hx hZ e0 Ap (z := (16 : Int32)) (by decide) (fr := (mkF m 3 #[.val (.ref p0), .val (.int p1), .val (.int (0 : Int32)), .unset] [(.ref p0)])) rfl rfl (hb hby d5_3) _ ?_
    show Steps p.tables e below (s₁.setTop (mkF m 4 #[.val (.ref p0), .val (.int p1), .val (.int (0 : Int32)), .unset] [(.int (16 : Int32))])) _
    refine XS.istoreN X0.here hx rfl (hb hby d5_4) rfl (l' := #[.val (.ref p0), .val (.int p1), .val (.int (0 : Int32)), .val (.int (16 : Int32))]) rfl ?_
    show Steps p.tables e below (s₁.setTop (mkF m 5 #[.val (.ref p0), .val (.int p1), .val (.int (0 : Int32)), .val (.int (16 : Int32))] [])) _
    refine XS.iloadN X0.here hx rfl (hb hby d5_5) rfl ?_
    show Steps p.tables e below (s₁.setTop (mkF m 6 #[.val (.ref p0), .val (.int p1), .val (.int (0 : Int32)), .val (.int (16 : Int32))] [(.int (0 : Int32))])) _
    refine XS.iloadN X0.here hx rfl (hb hby d5_6) rfl ?_
    show Steps p.tables e below (s₁.setTop (mkF m 7 #[.val (.ref p0), .val (.int p1), .val (.int (0 : Int32)), .val (.int (16 : Int32))] [(.int (16 : Int32)), (.int (0 : Int32))])) _
    refine XS.icmpNo X0.here hx rfl (hb hby d5_7) rfl (tlt (by decide)).2.1 ?_
    show Steps p.tables e below (s₁.setTop (mkF m 10 #[.val (.ref p0), .val (.int p1), .val (.int (0 : Int32)), .val (.int (16 : Int32))] [])) _
    refine XS.aloadN X0.here hx rfl (hb hby d5_10) rfl rfl ?_
    show Steps p.tables e below (s₁.setTop (mkF m 11 #[.val (.ref p0), .val (.int p1), .val (.int (0 : Int32)), .val (.int (16 : Int32))] [(.ref p0)])) _
    refine XS.iloadN X0.here hx rfl (hb hby d5_11) rfl ?_
    show Steps p.tables e below (s₁.setTop (mkF m 12 #[.val (.ref p0), .val (.int p1), .val (.int (0 : Int32)), .val (.int (16 : Int32))] [(.int (0 : Int32)), (.ref p0)])) _
    refine XS.iloadN X0.here hx rfl (hb hby d5_12) rfl ?_
    exact kont
  obtain ⟨T5, h5, X5, e5, W5, V5, st5⟩ := own_stI X0 hx hZ e0 Ap (k := 0) (by decide) (by decide) (by decide) (fr := (mkF m 13 #[.val (.ref p0), .val (.int p1), .val (.int (0 : Int32)), .val (.int (16 : Int32))] [(.int p1), (.int (0 : Int32)), (.ref p0)])) rfl rfl (hb hby d5_13)
  obtain ⟨u13, hu13⟩ : ∃ z : Nat → Int32, z = fun i => if i = 0 then p1 else g i := ⟨_, rfl⟩
  replace V5 : own_arr Z h5 p0 .int 16 (fun i => .int (u13 i)) := by rw [hu13]; exact V5
  have K5 : Keep h0 h5 [p0] := (Keep.refl h0 [p0]).wr W5 (Or.inl (List.mem_of_getElem? (i := 0) rfl))
  have Z5 : n0 ≤ h5.size := Nat.le_trans Z0 (Keep.of_wr W5).1
  have N5 := Fr.snoc X5 N0 gp
  have pre6 : ∀ t, Steps p.tables e below (T5.setTop (mkF m 14 #[.val (.ref p0), .val (.int p1), .val (.int (0 : Int32)), .val (.int (16 : Int32))] [])) t → Steps p.tables e below (s₁.setTop (entryFrame m #[(.ref p0), (.int p1)] 4)) t := fun t kont => pre4 t (st5 _ kont)
  have pre7 : ∀ t, Steps p.tables e below (T5.setTop (mkF m 13 #[.val (.ref p0), .val (.int p1), .val (.int (1 : Int32)), .val (.int (16 : Int32))] [(.int p1), (.int (1 : Int32)), (.ref p0)])) t → Steps p.tables e below (s₁.setTop (entryFrame m #[(.ref p0), (.int p1)] 4)) t := by
    intro t kont
    refine pre6 t ?_
    show Steps p.tables e below (T5.setTop (mkF m 14 #[.val (.ref p0), .val (.int p1), .val (.int (0 : Int32)), .val (.int (16 : Int32))] [])) _
    refine XS.iinc X5.here hx rfl (hb hby d5_14) rfl (l' := #[.val (.ref p0), .val (.int p1), .val (.int (1 : Int32)), .val (.int (16 : Int32))]) rfl ?_
    show Steps p.tables e below (T5.setTop (mkF m 17 #[.val (.ref p0), .val (.int p1), .val (.int (1 : Int32)), .val (.int (16 : Int32))] [])) _
    refine XS.goto X5.here hx rfl (pc0 := 17) (pc' := 5) rfl (hb hby d5_17) (by decide) (by decide) ?_
    show Steps p.tables e below (T5.setTop (mkF m 5 #[.val (.ref p0), .val (.int p1), .val (.int (1 : Int32)), .val (.int (16 : Int32))] [])) _
    refine XS.iloadN X5.here hx rfl (hb hby d5_5) rfl ?_
    show Steps p.tables e below (T5.setTop (mkF m 6 #[.val (.ref p0), .val (.int p1), .val (.int (1 : Int32)), .val (.int (16 : Int32))] [(.int (1 : Int32))])) _
    refine XS.iloadN X5.here hx rfl (hb hby d5_6) rfl ?_
    show Steps p.tables e below (T5.setTop (mkF m 7 #[.val (.ref p0), .val (.int p1), .val (.int (1 : Int32)), .val (.int (16 : Int32))] [(.int (16 : Int32)), (.int (1 : Int32))])) _
    refine XS.icmpNo X5.here hx rfl (hb hby d5_7) rfl (tlt (by decide)).2.1 ?_
    show Steps p.tables e below (T5.setTop (mkF m 10 #[.val (.ref p0), .val (.int p1), .val (.int (1 : Int32)), .val (.int (16 : Int32))] [])) _
    refine XS.aloadN X5.here hx rfl (hb hby d5_10) rfl rfl ?_
    show Steps p.tables e below (T5.setTop (mkF m 11 #[.val (.ref p0), .val (.int p1), .val (.int (1 : Int32)), .val (.int (16 : Int32))] [(.ref p0)])) _
    refine XS.iloadN X5.here hx rfl (hb hby d5_11) rfl ?_
    show Steps p.tables e below (T5.setTop (mkF m 12 #[.val (.ref p0), .val (.int p1), .val (.int (1 : Int32)), .val (.int (16 : Int32))] [(.int (1 : Int32)), (.ref p0)])) _
    refine XS.iloadN X5.here hx rfl (hb hby d5_12) rfl ?_
    exact kont
  obtain ⟨T8, h8, X8, e8, W8, V8, st8⟩ := own_stI X5 hx hZ e5 V5 (k := 1) (by decide) (by decide) (by decide) (fr := (mkF m 13 #[.val (.ref p0), .val (.int p1), .val (.int (1 : Int32)), .val (.int (16 : Int32))] [(.int p1), (.int (1 : Int32)), (.ref p0)])) rfl rfl (hb hby d5_13)
  obtain ⟨u13', hu13'⟩ : ∃ z : Nat → Int32, z = fun i => if i = 1 then p1 else u13 i := ⟨_, rfl⟩
  replace V8 : own_arr Z h8 p0 .int 16 (fun i => .int (u13' i)) := by rw [hu13']; exact V8
  have K8 : Keep h0 h8 [p0] := (K5).wr W8 (Or.inl (List.mem_of_getElem? (i := 0) rfl))
  have Z8 : n0 ≤ h8.size := Nat.le_trans Z5 (Keep.of_wr W8).1
  have N8 := Fr.snoc X8 N5 gp
  have pre9 : ∀ t, Steps p.tables e below (T8.setTop (mkF m 14 #[.val (.ref p0), .val (.int p1), .val (.int (1 : Int32)), .val (.int (16 : Int32))] [])) t → Steps p.tables e below (s₁.setTop (entryFrame m #[(.ref p0), (.int p1)] 4)) t := fun t kont => pre7 t (st8 _ kont)
  have pre10 : ∀ t, Steps p.tables e below (T8.setTop (mkF m 13 #[.val (.ref p0), .val (.int p1), .val (.int (2 : Int32)), .val (.int (16 : Int32))] [(.int p1), (.int (2 : Int32)), (.ref p0)])) t → Steps p.tables e below (s₁.setTop (entryFrame m #[(.ref p0), (.int p1)] 4)) t := by
    intro t kont
    refine pre9 t ?_
    show Steps p.tables e below (T8.setTop (mkF m 14 #[.val (.ref p0), .val (.int p1), .val (.int (1 : Int32)), .val (.int (16 : Int32))] [])) _
    refine XS.iinc X8.here hx rfl (hb hby d5_14) rfl (l' := #[.val (.ref p0), .val (.int p1), .val (.int (2 : Int32)), .val (.int (16 : Int32))]) rfl ?_
    show Steps p.tables e below (T8.setTop (mkF m 17 #[.val (.ref p0), .val (.int p1), .val (.int (2 : Int32)), .val (.int (16 : Int32))] [])) _
    refine XS.goto X8.here hx rfl (pc0 := 17) (pc' := 5) rfl (hb hby d5_17) (by decide) (by decide) ?_
    show Steps p.tables e below (T8.setTop (mkF m 5 #[.val (.ref p0), .val (.int p1), .val (.int (2 : Int32)), .val (.int (16 : Int32))] [])) _
    refine XS.iloadN X8.here hx rfl (hb hby d5_5) rfl ?_
    show Steps p.tables e below (T8.setTop (mkF m 6 #[.val (.ref p0), .val (.int p1), .val (.int (2 : Int32)), .val (.int (16 : Int32))] [(.int (2 : Int32))])) _
    refine XS.iloadN X8.here hx rfl (hb hby d5_6) rfl ?_
    show Steps p.tables e below (T8.setTop (mkF m 7 #[.val (.ref p0), .val (.int p1), .val (.int (2 : Int32)), .val (.int (16 : Int32))] [(.int (16 : Int32)), (.int (2 : Int32))])) _
    refine XS.icmpNo X8.here hx rfl (hb hby d5_7) rfl (tlt (by decide)).2.1 ?_
    show Steps p.tables e below (T8.setTop (mkF m 10 #[.val (.ref p0), .val (.int p1), .val (.int (2 : Int32)), .val (.int (16 : Int32))] [])) _
    refine XS.aloadN X8.here hx rfl (hb hby d5_10) rfl rfl ?_
    show Steps p.tables e below (T8.setTop (mkF m 11 #[.val (.ref p0), .val (.int p1), .val (.int (2 : Int32)), .val (.int (16 : Int32))] [(.ref p0)])) _
    refine XS.iloadN X8.here hx rfl (hb hby d5_11) rfl ?_
    show Steps p.tables e below (T8.setTop (mkF m 12 #[.val (.ref p0), .val (.int p1), .val (.int (2 : Int32)), .val (.int (16 : Int32))] [(.int (2 : Int32)), (.ref p0)])) _
    refine XS.iloadN X8.here hx rfl (hb hby d5_12) rfl ?_
    exact kont
  obtain ⟨T11, h11, X11, e11, W11, V11, st11⟩ := own_stI X8 hx hZ e8 V8 (k := 2) (by decide) (by decide) (by decide) (fr := (mkF m 13 #[.val (.ref p0), .val (.int p1), .val (.int (2 : Int32)), .val (.int (16 : Int32))] [(.int p1), (.int (2 : Int32)), (.ref p0)])) rfl rfl (hb hby d5_13)
  obtain ⟨u13'', hu13''⟩ : ∃ z : Nat → Int32, z = fun i => if i = 2 then p1 else u13' i := ⟨_, rfl⟩
  replace V11 : own_arr Z h11 p0 .int 16 (fun i => .int (u13'' i)) := by rw [hu13'']; exact V11
  have K11 : Keep h0 h11 [p0] := (K8).wr W11 (Or.inl (List.mem_of_getElem? (i := 0) rfl))
  have Z11 : n0 ≤ h11.size := Nat.le_trans Z8 (Keep.of_wr W11).1
  have N11 := Fr.snoc X11 N8 gp
  have pre12 : ∀ t, Steps p.tables e below (T11.setTop (mkF m 14 #[.val (.ref p0), .val (.int p1), .val (.int (2 : Int32)), .val (.int (16 : Int32))] [])) t → Steps p.tables e below (s₁.setTop (entryFrame m #[(.ref p0), (.int p1)] 4)) t := fun t kont => pre10 t (st11 _ kont)
  have pre13 : ∀ t, Steps p.tables e below (T11.setTop (mkF m 13 #[.val (.ref p0), .val (.int p1), .val (.int (3 : Int32)), .val (.int (16 : Int32))] [(.int p1), (.int (3 : Int32)), (.ref p0)])) t → Steps p.tables e below (s₁.setTop (entryFrame m #[(.ref p0), (.int p1)] 4)) t := by
    intro t kont
    refine pre12 t ?_
    show Steps p.tables e below (T11.setTop (mkF m 14 #[.val (.ref p0), .val (.int p1), .val (.int (2 : Int32)), .val (.int (16 : Int32))] [])) _
    refine XS.iinc X11.here hx rfl (hb hby d5_14) rfl (l' := #[.val (.ref p0), .val (.int p1), .val (.int (3 : Int32)), .val (.int (16 : Int32))]) rfl ?_
    show Steps p.tables e below (T11.setTop (mkF m 17 #[.val (.ref p0), .val (.int p1), .val (.int (3 : Int32)), .val (.int (16 : Int32))] [])) _
    refine XS.goto X11.here hx rfl (pc0 := 17) (pc' := 5) rfl (hb hby d5_17) (by decide) (by decide) ?_
    show Steps p.tables e below (T11.setTop (mkF m 5 #[.val (.ref p0), .val (.int p1), .val (.int (3 : Int32)), .val (.int (16 : Int32))] [])) _
    refine XS.iloadN X11.here hx rfl (hb hby d5_5) rfl ?_
    show Steps p.tables e below (T11.setTop (mkF m 6 #[.val (.ref p0), .val (.int p1), .val (.int (3 : Int32)), .val (.int (16 : Int32))] [(.int (3 : Int32))])) _
    refine XS.iloadN X11.here hx rfl (hb hby d5_6) rfl ?_
    show Steps p.tables e below (T11.setTop (mkF m 7 #[.val (.ref p0), .val (.int p1), .val (.int (3 : Int32)), .val (.int (16 : Int32))] [(.int (16 : Int32)), (.int (3 : Int32))])) _
    refine XS.icmpNo X11.here hx rfl (hb hby d5_7) rfl (tlt (by decide)).2.1 ?_
    show Steps p.tables e below (T11.setTop (mkF m 10 #[.val (.ref p0), .val (.int p1), .val (.int (3 : Int32)), .val (.int (16 : Int32))] [])) _
    refine XS.aloadN X11.here hx rfl (hb hby d5_10) rfl rfl ?_
    show Steps p.tables e below (T11.setTop (mkF m 11 #[.val (.ref p0), .val (.int p1), .val (.int (3 : Int32)), .val (.int (16 : Int32))] [(.ref p0)])) _
    refine XS.iloadN X11.here hx rfl (hb hby d5_11) rfl ?_
    show Steps p.tables e below (T11.setTop (mkF m 12 #[.val (.ref p0), .val (.int p1), .val (.int (3 : Int32)), .val (.int (16 : Int32))] [(.int (3 : Int32)), (.ref p0)])) _
    refine XS.iloadN X11.here hx rfl (hb hby d5_12) rfl ?_
    exact kont
  obtain ⟨T14, h14, X14, e14, W14, V14, st14⟩ := own_stI X11 hx hZ e11 V11 (k := 3) (by decide) (by decide) (by decide) (fr := (mkF m 13 #[.val (.ref p0), .val (.int p1), .val (.int (3 : Int32)), .val (.int (16 : Int32))] [(.int p1), (.int (3 : Int32)), (.ref p0)])) rfl rfl (hb hby d5_13)
  obtain ⟨u13''', hu13'''⟩ : ∃ z : Nat → Int32, z = fun i => if i = 3 then p1 else u13'' i := ⟨_, rfl⟩
  replace V14 : own_arr Z h14 p0 .int 16 (fun i => .int (u13''' i)) := by rw [hu13''']; exact V14
  have K14 : Keep h0 h14 [p0] := (K11).wr W14 (Or.inl (List.mem_of_getElem? (i := 0) rfl))
  have Z14 : n0 ≤ h14.size := Nat.le_trans Z11 (Keep.of_wr W14).1
  have N14 := Fr.snoc X14 N11 gp
  have pre15 : ∀ t, Steps p.tables e below (T14.setTop (mkF m 14 #[.val (.ref p0), .val (.int p1), .val (.int (3 : Int32)), .val (.int (16 : Int32))] [])) t → Steps p.tables e below (s₁.setTop (entryFrame m #[(.ref p0), (.int p1)] 4)) t := fun t kont => pre13 t (st14 _ kont)
  have pre16 : ∀ t, Steps p.tables e below (T14.setTop (mkF m 13 #[.val (.ref p0), .val (.int p1), .val (.int (4 : Int32)), .val (.int (16 : Int32))] [(.int p1), (.int (4 : Int32)), (.ref p0)])) t → Steps p.tables e below (s₁.setTop (entryFrame m #[(.ref p0), (.int p1)] 4)) t := by
    intro t kont
    refine pre15 t ?_
    show Steps p.tables e below (T14.setTop (mkF m 14 #[.val (.ref p0), .val (.int p1), .val (.int (3 : Int32)), .val (.int (16 : Int32))] [])) _
    refine XS.iinc X14.here hx rfl (hb hby d5_14) rfl (l' := #[.val (.ref p0), .val (.int p1), .val (.int (4 : Int32)), .val (.int (16 : Int32))]) rfl ?_
    show Steps p.tables e below (T14.setTop (mkF m 17 #[.val (.ref p0), .val (.int p1), .val (.int (4 : Int32)), .val (.int (16 : Int32))] [])) _
    refine XS.goto X14.here hx rfl (pc0 := 17) (pc' := 5) rfl (hb hby d5_17) (by decide) (by decide) ?_
    show Steps p.tables e below (T14.setTop (mkF m 5 #[.val (.ref p0), .val (.int p1), .val (.int (4 : Int32)), .val (.int (16 : Int32))] [])) _
    refine XS.iloadN X14.here hx rfl (hb hby d5_5) rfl ?_
    show Steps p.tables e below (T14.setTop (mkF m 6 #[.val (.ref p0), .val (.int p1), .val (.int (4 : Int32)), .val (.int (16 : Int32))] [(.int (4 : Int32))])) _
    refine XS.iloadN X14.here hx rfl (hb hby d5_6) rfl ?_
    show Steps p.tables e below (T14.setTop (mkF m 7 #[.val (.ref p0), .val (.int p1), .val (.int (4 : Int32)), .val (.int (16 : Int32))] [(.int (16 : Int32)), (.int (4 : Int32))])) _
    refine XS.icmpNo X14.here hx rfl (hb hby d5_7) rfl (tlt (by decide)).2.1 ?_
    show Steps p.tables e below (T14.setTop (mkF m 10 #[.val (.ref p0), .val (.int p1), .val (.int (4 : Int32)), .val (.int (16 : Int32))] [])) _
    refine XS.aloadN X14.here hx rfl (hb hby d5_10) rfl rfl ?_
    show Steps p.tables e below (T14.setTop (mkF m 11 #[.val (.ref p0), .val (.int p1), .val (.int (4 : Int32)), .val (.int (16 : Int32))] [(.ref p0)])) _
    refine XS.iloadN X14.here hx rfl (hb hby d5_11) rfl ?_
    show Steps p.tables e below (T14.setTop (mkF m 12 #[.val (.ref p0), .val (.int p1), .val (.int (4 : Int32)), .val (.int (16 : Int32))] [(.int (4 : Int32)), (.ref p0)])) _
    refine XS.iloadN X14.here hx rfl (hb hby d5_12) rfl ?_
    exact kont
  obtain ⟨T17, h17, X17, e17, W17, V17, st17⟩ := own_stI X14 hx hZ e14 V14 (k := 4) (by decide) (by decide) (by decide) (fr := (mkF m 13 #[.val (.ref p0), .val (.int p1), .val (.int (4 : Int32)), .val (.int (16 : Int32))] [(.int p1), (.int (4 : Int32)), (.ref p0)])) rfl rfl (hb hby d5_13)
  obtain ⟨u13'''', hu13''''⟩ : ∃ z : Nat → Int32, z = fun i => if i = 4 then p1 else u13''' i := ⟨_, rfl⟩
  replace V17 : own_arr Z h17 p0 .int 16 (fun i => .int (u13'''' i)) := by rw [hu13'''']; exact V17
  have K17 : Keep h0 h17 [p0] := (K14).wr W17 (Or.inl (List.mem_of_getElem? (i := 0) rfl))
  have Z17 : n0 ≤ h17.size := Nat.le_trans Z14 (Keep.of_wr W17).1
  have N17 := Fr.snoc X17 N14 gp
  have pre18 : ∀ t, Steps p.tables e below (T17.setTop (mkF m 14 #[.val (.ref p0), .val (.int p1), .val (.int (4 : Int32)), .val (.int (16 : Int32))] [])) t → Steps p.tables e below (s₁.setTop (entryFrame m #[(.ref p0), (.int p1)] 4)) t := fun t kont => pre16 t (st17 _ kont)
  have pre19 : ∀ t, Steps p.tables e below (T17.setTop (mkF m 13 #[.val (.ref p0), .val (.int p1), .val (.int (5 : Int32)), .val (.int (16 : Int32))] [(.int p1), (.int (5 : Int32)), (.ref p0)])) t → Steps p.tables e below (s₁.setTop (entryFrame m #[(.ref p0), (.int p1)] 4)) t := by
    intro t kont
    refine pre18 t ?_
    show Steps p.tables e below (T17.setTop (mkF m 14 #[.val (.ref p0), .val (.int p1), .val (.int (4 : Int32)), .val (.int (16 : Int32))] [])) _
    refine XS.iinc X17.here hx rfl (hb hby d5_14) rfl (l' := #[.val (.ref p0), .val (.int p1), .val (.int (5 : Int32)), .val (.int (16 : Int32))]) rfl ?_
    show Steps p.tables e below (T17.setTop (mkF m 17 #[.val (.ref p0), .val (.int p1), .val (.int (5 : Int32)), .val (.int (16 : Int32))] [])) _
    refine XS.goto X17.here hx rfl (pc0 := 17) (pc' := 5) rfl (hb hby d5_17) (by decide) (by decide) ?_
    show Steps p.tables e below (T17.setTop (mkF m 5 #[.val (.ref p0), .val (.int p1), .val (.int (5 : Int32)), .val (.int (16 : Int32))] [])) _
    refine XS.iloadN X17.here hx rfl (hb hby d5_5) rfl ?_
    show Steps p.tables e below (T17.setTop (mkF m 6 #[.val (.ref p0), .val (.int p1), .val (.int (5 : Int32)), .val (.int (16 : Int32))] [(.int (5 : Int32))])) _
    refine XS.iloadN X17.here hx rfl (hb hby d5_6) rfl ?_
    show Steps p.tables e below (T17.setTop (mkF m 7 #[.val (.ref p0), .val (.int p1), .val (.int (5 : Int32)), .val (.int (16 : Int32))] [(.int (16 : Int32)), (.int (5 : Int32))])) _
    refine XS.icmpNo X17.here hx rfl (hb hby d5_7) rfl (tlt (by decide)).2.1 ?_
    show Steps p.tables e below (T17.setTop (mkF m 10 #[.val (.ref p0), .val (.int p1), .val (.int (5 : Int32)), .val (.int (16 : Int32))] [])) _
    refine XS.aloadN X17.here hx rfl (hb hby d5_10) rfl rfl ?_
    show Steps p.tables e below (T17.setTop (mkF m 11 #[.val (.ref p0), .val (.int p1), .val (.int (5 : Int32)), .val (.int (16 : Int32))] [(.ref p0)])) _
    refine XS.iloadN X17.here hx rfl (hb hby d5_11) rfl ?_
    show Steps p.tables e below (T17.setTop (mkF m 12 #[.val (.ref p0), .val (.int p1), .val (.int (5 : Int32)), .val (.int (16 : Int32))] [(.int (5 : Int32)), (.ref p0)])) _
    refine XS.iloadN X17.here hx rfl (hb hby d5_12) rfl ?_
    exact kont
  obtain ⟨T20, h20, X20, e20, W20, V20, st20⟩ := own_stI X17 hx hZ e17 V17 (k := 5) (by decide) (by decide) (by decide) (fr := (mkF m 13 #[.val (.ref p0), .val (.int p1), .val (.int (5 : Int32)), .val (.int (16 : Int32))] [(.int p1), (.int (5 : Int32)), (.ref p0)])) rfl rfl (hb hby d5_13)
  obtain ⟨u13''''', hu13'''''⟩ : ∃ z : Nat → Int32, z = fun i => if i = 5 then p1 else u13'''' i := ⟨_, rfl⟩
  replace V20 : own_arr Z h20 p0 .int 16 (fun i => .int (u13''''' i)) := by rw [hu13''''']; exact V20
  have K20 : Keep h0 h20 [p0] := (K17).wr W20 (Or.inl (List.mem_of_getElem? (i := 0) rfl))
  have Z20 : n0 ≤ h20.size := Nat.le_trans Z17 (Keep.of_wr W20).1
  have N20 := Fr.snoc X20 N17 gp
  have pre21 : ∀ t, Steps p.tables e below (T20.setTop (mkF m 14 #[.val (.ref p0), .val (.int p1), .val (.int (5 : Int32)), .val (.int (16 : Int32))] [])) t → Steps p.tables e below (s₁.setTop (entryFrame m #[(.ref p0), (.int p1)] 4)) t := fun t kont => pre19 t (st20 _ kont)
  have pre22 : ∀ t, Steps p.tables e below (T20.setTop (mkF m 13 #[.val (.ref p0), .val (.int p1), .val (.int (6 : Int32)), .val (.int (16 : Int32))] [(.int p1), (.int (6 : Int32)), (.ref p0)])) t → Steps p.tables e below (s₁.setTop (entryFrame m #[(.ref p0), (.int p1)] 4)) t := by
    intro t kont
    refine pre21 t ?_
    show Steps p.tables e below (T20.setTop (mkF m 14 #[.val (.ref p0), .val (.int p1), .val (.int (5 : Int32)), .val (.int (16 : Int32))] [])) _
    refine XS.iinc X20.here hx rfl (hb hby d5_14) rfl (l' := #[.val (.ref p0), .val (.int p1), .val (.int (6 : Int32)), .val (.int (16 : Int32))]) rfl ?_
    show Steps p.tables e below (T20.setTop (mkF m 17 #[.val (.ref p0), .val (.int p1), .val (.int (6 : Int32)), .val (.int (16 : Int32))] [])) _
    refine XS.goto X20.here hx rfl (pc0 := 17) (pc' := 5) rfl (hb hby d5_17) (by decide) (by decide) ?_
    show Steps p.tables e below (T20.setTop (mkF m 5 #[.val (.ref p0), .val (.int p1), .val (.int (6 : Int32)), .val (.int (16 : Int32))] [])) _
    refine XS.iloadN X20.here hx rfl (hb hby d5_5) rfl ?_
    show Steps p.tables e below (T20.setTop (mkF m 6 #[.val (.ref p0), .val (.int p1), .val (.int (6 : Int32)), .val (.int (16 : Int32))] [(.int (6 : Int32))])) _
    refine XS.iloadN X20.here hx rfl (hb hby d5_6) rfl ?_
    show Steps p.tables e below (T20.setTop (mkF m 7 #[.val (.ref p0), .val (.int p1), .val (.int (6 : Int32)), .val (.int (16 : Int32))] [(.int (16 : Int32)), (.int (6 : Int32))])) _
    refine XS.icmpNo X20.here hx rfl (hb hby d5_7) rfl (tlt (by decide)).2.1 ?_
    show Steps p.tables e below (T20.setTop (mkF m 10 #[.val (.ref p0), .val (.int p1), .val (.int (6 : Int32)), .val (.int (16 : Int32))] [])) _
    refine XS.aloadN X20.here hx rfl (hb hby d5_10) rfl rfl ?_
    show Steps p.tables e below (T20.setTop (mkF m 11 #[.val (.ref p0), .val (.int p1), .val (.int (6 : Int32)), .val (.int (16 : Int32))] [(.ref p0)])) _
    refine XS.iloadN X20.here hx rfl (hb hby d5_11) rfl ?_
    show Steps p.tables e below (T20.setTop (mkF m 12 #[.val (.ref p0), .val (.int p1), .val (.int (6 : Int32)), .val (.int (16 : Int32))] [(.int (6 : Int32)), (.ref p0)])) _
    refine XS.iloadN X20.here hx rfl (hb hby d5_12) rfl ?_
    exact kont
  obtain ⟨T23, h23, X23, e23, W23, V23, st23⟩ := own_stI X20 hx hZ e20 V20 (k := 6) (by decide) (by decide) (by decide) (fr := (mkF m 13 #[.val (.ref p0), .val (.int p1), .val (.int (6 : Int32)), .val (.int (16 : Int32))] [(.int p1), (.int (6 : Int32)), (.ref p0)])) rfl rfl (hb hby d5_13)
  obtain ⟨u13'''''', hu13''''''⟩ : ∃ z : Nat → Int32, z = fun i => if i = 6 then p1 else u13''''' i := ⟨_, rfl⟩
  replace V23 : own_arr Z h23 p0 .int 16 (fun i => .int (u13'''''' i)) := by rw [hu13'''''']; exact V23
  have K23 : Keep h0 h23 [p0] := (K20).wr W23 (Or.inl (List.mem_of_getElem? (i := 0) rfl))
  have Z23 : n0 ≤ h23.size := Nat.le_trans Z20 (Keep.of_wr W23).1
  have N23 := Fr.snoc X23 N20 gp
  have pre24 : ∀ t, Steps p.tables e below (T23.setTop (mkF m 14 #[.val (.ref p0), .val (.int p1), .val (.int (6 : Int32)), .val (.int (16 : Int32))] [])) t → Steps p.tables e below (s₁.setTop (entryFrame m #[(.ref p0), (.int p1)] 4)) t := fun t kont => pre22 t (st23 _ kont)
  have pre25 : ∀ t, Steps p.tables e below (T23.setTop (mkF m 13 #[.val (.ref p0), .val (.int p1), .val (.int (7 : Int32)), .val (.int (16 : Int32))] [(.int p1), (.int (7 : Int32)), (.ref p0)])) t → Steps p.tables e below (s₁.setTop (entryFrame m #[(.ref p0), (.int p1)] 4)) t := by
    intro t kont
    refine pre24 t ?_
    show Steps p.tables e below (T23.setTop (mkF m 14 #[.val (.ref p0), .val (.int p1), .val (.int (6 : Int32)), .val (.int (16 : Int32))] [])) _
    refine XS.iinc X23.here hx rfl (hb hby d5_14) rfl (l' := #[.val (.ref p0), .val (.int p1), .val (.int (7 : Int32)), .val (.int (16 : Int32))]) rfl ?_
    show Steps p.tables e below (T23.setTop (mkF m 17 #[.val (.ref p0), .val (.int p1), .val (.int (7 : Int32)), .val (.int (16 : Int32))] [])) _
    refine XS.goto X23.here hx rfl (pc0 := 17) (pc' := 5) rfl (hb hby d5_17) (by decide) (by decide) ?_
    show Steps p.tables e below (T23.setTop (mkF m 5 #[.val (.ref p0), .val (.int p1), .val (.int (7 : Int32)), .val (.int (16 : Int32))] [])) _
    refine XS.iloadN X23.here hx rfl (hb hby d5_5) rfl ?_
    show Steps p.tables e below (T23.setTop (mkF m 6 #[.val (.ref p0), .val (.int p1), .val (.int (7 : Int32)), .val (.int (16 : Int32))] [(.int (7 : Int32))])) _
    refine XS.iloadN X23.here hx rfl (hb hby d5_6) rfl ?_
    show Steps p.tables e below (T23.setTop (mkF m 7 #[.val (.ref p0), .val (.int p1), .val (.int (7 : Int32)), .val (.int (16 : Int32))] [(.int (16 : Int32)), (.int (7 : Int32))])) _
    refine XS.icmpNo X23.here hx rfl (hb hby d5_7) rfl (tlt (by decide)).2.1 ?_
    show Steps p.tables e below (T23.setTop (mkF m 10 #[.val (.ref p0), .val (.int p1), .val (.int (7 : Int32)), .val (.int (16 : Int32))] [])) _
    refine XS.aloadN X23.here hx rfl (hb hby d5_10) rfl rfl ?_
    show Steps p.tables e below (T23.setTop (mkF m 11 #[.val (.ref p0), .val (.int p1), .val (.int (7 : Int32)), .val (.int (16 : Int32))] [(.ref p0)])) _
    refine XS.iloadN X23.here hx rfl (hb hby d5_11) rfl ?_
    show Steps p.tables e below (T23.setTop (mkF m 12 #[.val (.ref p0), .val (.int p1), .val (.int (7 : Int32)), .val (.int (16 : Int32))] [(.int (7 : Int32)), (.ref p0)])) _
    refine XS.iloadN X23.here hx rfl (hb hby d5_12) rfl ?_
    exact kont
  obtain ⟨T26, h26, X26, e26, W26, V26, st26⟩ := own_stI X23 hx hZ e23 V23 (k := 7) (by decide) (by decide) (by decide) (fr := (mkF m 13 #[.val (.ref p0), .val (.int p1), .val (.int (7 : Int32)), .val (.int (16 : Int32))] [(.int p1), (.int (7 : Int32)), (.ref p0)])) rfl rfl (hb hby d5_13)
  obtain ⟨u13''''''', hu13'''''''⟩ : ∃ z : Nat → Int32, z = fun i => if i = 7 then p1 else u13'''''' i := ⟨_, rfl⟩
  replace V26 : own_arr Z h26 p0 .int 16 (fun i => .int (u13''''''' i)) := by rw [hu13''''''']; exact V26
  have K26 : Keep h0 h26 [p0] := (K23).wr W26 (Or.inl (List.mem_of_getElem? (i := 0) rfl))
  have Z26 : n0 ≤ h26.size := Nat.le_trans Z23 (Keep.of_wr W26).1
  have N26 := Fr.snoc X26 N23 gp
  have pre27 : ∀ t, Steps p.tables e below (T26.setTop (mkF m 14 #[.val (.ref p0), .val (.int p1), .val (.int (7 : Int32)), .val (.int (16 : Int32))] [])) t → Steps p.tables e below (s₁.setTop (entryFrame m #[(.ref p0), (.int p1)] 4)) t := fun t kont => pre25 t (st26 _ kont)
  have pre28 : ∀ t, Steps p.tables e below (T26.setTop (mkF m 13 #[.val (.ref p0), .val (.int p1), .val (.int (8 : Int32)), .val (.int (16 : Int32))] [(.int p1), (.int (8 : Int32)), (.ref p0)])) t → Steps p.tables e below (s₁.setTop (entryFrame m #[(.ref p0), (.int p1)] 4)) t := by
    intro t kont
    refine pre27 t ?_
    show Steps p.tables e below (T26.setTop (mkF m 14 #[.val (.ref p0), .val (.int p1), .val (.int (7 : Int32)), .val (.int (16 : Int32))] [])) _
    refine XS.iinc X26.here hx rfl (hb hby d5_14) rfl (l' := #[.val (.ref p0), .val (.int p1), .val (.int (8 : Int32)), .val (.int (16 : Int32))]) rfl ?_
    show Steps p.tables e below (T26.setTop (mkF m 17 #[.val (.ref p0), .val (.int p1), .val (.int (8 : Int32)), .val (.int (16 : Int32))] [])) _
    refine XS.goto X26.here hx rfl (pc0 := 17) (pc' := 5) rfl (hb hby d5_17) (by decide) (by decide) ?_
    show Steps p.tables e below (T26.setTop (mkF m 5 #[.val (.ref p0), .val (.int p1), .val (.int (8 : Int32)), .val (.int (16 : Int32))] [])) _
    refine XS.iloadN X26.here hx rfl (hb hby d5_5) rfl ?_
    show Steps p.tables e below (T26.setTop (mkF m 6 #[.val (.ref p0), .val (.int p1), .val (.int (8 : Int32)), .val (.int (16 : Int32))] [(.int (8 : Int32))])) _
    refine XS.iloadN X26.here hx rfl (hb hby d5_6) rfl ?_
    show Steps p.tables e below (T26.setTop (mkF m 7 #[.val (.ref p0), .val (.int p1), .val (.int (8 : Int32)), .val (.int (16 : Int32))] [(.int (16 : Int32)), (.int (8 : Int32))])) _
    refine XS.icmpNo X26.here hx rfl (hb hby d5_7) rfl (tlt (by decide)).2.1 ?_
    show Steps p.tables e below (T26.setTop (mkF m 10 #[.val (.ref p0), .val (.int p1), .val (.int (8 : Int32)), .val (.int (16 : Int32))] [])) _
    refine XS.aloadN X26.here hx rfl (hb hby d5_10) rfl rfl ?_
    show Steps p.tables e below (T26.setTop (mkF m 11 #[.val (.ref p0), .val (.int p1), .val (.int (8 : Int32)), .val (.int (16 : Int32))] [(.ref p0)])) _
    refine XS.iloadN X26.here hx rfl (hb hby d5_11) rfl ?_
    show Steps p.tables e below (T26.setTop (mkF m 12 #[.val (.ref p0), .val (.int p1), .val (.int (8 : Int32)), .val (.int (16 : Int32))] [(.int (8 : Int32)), (.ref p0)])) _
    refine XS.iloadN X26.here hx rfl (hb hby d5_12) rfl ?_
    exact kont
  obtain ⟨T29, h29, X29, e29, W29, V29, st29⟩ := own_stI X26 hx hZ e26 V26 (k := 8) (by decide) (by decide) (by decide) (fr := (mkF m 13 #[.val (.ref p0), .val (.int p1), .val (.int (8 : Int32)), .val (.int (16 : Int32))] [(.int p1), (.int (8 : Int32)), (.ref p0)])) rfl rfl (hb hby d5_13)
  obtain ⟨u13'''''''', hu13''''''''⟩ : ∃ z : Nat → Int32, z = fun i => if i = 8 then p1 else u13''''''' i := ⟨_, rfl⟩
  replace V29 : own_arr Z h29 p0 .int 16 (fun i => .int (u13'''''''' i)) := by rw [hu13'''''''']; exact V29
  have K29 : Keep h0 h29 [p0] := (K26).wr W29 (Or.inl (List.mem_of_getElem? (i := 0) rfl))
  have Z29 : n0 ≤ h29.size := Nat.le_trans Z26 (Keep.of_wr W29).1
  have N29 := Fr.snoc X29 N26 gp
  have pre30 : ∀ t, Steps p.tables e below (T29.setTop (mkF m 14 #[.val (.ref p0), .val (.int p1), .val (.int (8 : Int32)), .val (.int (16 : Int32))] [])) t → Steps p.tables e below (s₁.setTop (entryFrame m #[(.ref p0), (.int p1)] 4)) t := fun t kont => pre28 t (st29 _ kont)
  have pre31 : ∀ t, Steps p.tables e below (T29.setTop (mkF m 13 #[.val (.ref p0), .val (.int p1), .val (.int (9 : Int32)), .val (.int (16 : Int32))] [(.int p1), (.int (9 : Int32)), (.ref p0)])) t → Steps p.tables e below (s₁.setTop (entryFrame m #[(.ref p0), (.int p1)] 4)) t := by
    intro t kont
    refine pre30 t ?_
    show Steps p.tables e below (T29.setTop (mkF m 14 #[.val (.ref p0), .val (.int p1), .val (.int (8 : Int32)), .val (.int (16 : Int32))] [])) _
    refine XS.iinc X29.here hx rfl (hb hby d5_14) rfl (l' := #[.val (.ref p0), .val (.int p1), .val (.int (9 : Int32)), .val (.int (16 : Int32))]) rfl ?_
    show Steps p.tables e below (T29.setTop (mkF m 17 #[.val (.ref p0), .val (.int p1), .val (.int (9 : Int32)), .val (.int (16 : Int32))] [])) _
    refine XS.goto X29.here hx rfl (pc0 := 17) (pc' := 5) rfl (hb hby d5_17) (by decide) (by decide) ?_
    show Steps p.tables e below (T29.setTop (mkF m 5 #[.val (.ref p0), .val (.int p1), .val (.int (9 : Int32)), .val (.int (16 : Int32))] [])) _
    refine XS.iloadN X29.here hx rfl (hb hby d5_5) rfl ?_
    show Steps p.tables e below (T29.setTop (mkF m 6 #[.val (.ref p0), .val (.int p1), .val (.int (9 : Int32)), .val (.int (16 : Int32))] [(.int (9 : Int32))])) _
    refine XS.iloadN X29.here hx rfl (hb hby d5_6) rfl ?_
    show Steps p.tables e below (T29.setTop (mkF m 7 #[.val (.ref p0), .val (.int p1), .val (.int (9 : Int32)), .val (.int (16 : Int32))] [(.int (16 : Int32)), (.int (9 : Int32))])) _
    refine XS.icmpNo X29.here hx rfl (hb hby d5_7) rfl (tlt (by decide)).2.1 ?_
    show Steps p.tables e below (T29.setTop (mkF m 10 #[.val (.ref p0), .val (.int p1), .val (.int (9 : Int32)), .val (.int (16 : Int32))] [])) _
    refine XS.aloadN X29.here hx rfl (hb hby d5_10) rfl rfl ?_
    show Steps p.tables e below (T29.setTop (mkF m 11 #[.val (.ref p0), .val (.int p1), .val (.int (9 : Int32)), .val (.int (16 : Int32))] [(.ref p0)])) _
    refine XS.iloadN X29.here hx rfl (hb hby d5_11) rfl ?_
    show Steps p.tables e below (T29.setTop (mkF m 12 #[.val (.ref p0), .val (.int p1), .val (.int (9 : Int32)), .val (.int (16 : Int32))] [(.int (9 : Int32)), (.ref p0)])) _
    refine XS.iloadN X29.here hx rfl (hb hby d5_12) rfl ?_
    exact kont
  obtain ⟨T32, h32, X32, e32, W32, V32, st32⟩ := own_stI X29 hx hZ e29 V29 (k := 9) (by decide) (by decide) (by decide) (fr := (mkF m 13 #[.val (.ref p0), .val (.int p1), .val (.int (9 : Int32)), .val (.int (16 : Int32))] [(.int p1), (.int (9 : Int32)), (.ref p0)])) rfl rfl (hb hby d5_13)
  obtain ⟨u13''''''''', hu13'''''''''⟩ : ∃ z : Nat → Int32, z = fun i => if i = 9 then p1 else u13'''''''' i := ⟨_, rfl⟩
  replace V32 : own_arr Z h32 p0 .int 16 (fun i => .int (u13''''''''' i)) := by rw [hu13''''''''']; exact V32
  have K32 : Keep h0 h32 [p0] := (K29).wr W32 (Or.inl (List.mem_of_getElem? (i := 0) rfl))
  have Z32 : n0 ≤ h32.size := Nat.le_trans Z29 (Keep.of_wr W32).1
  have N32 := Fr.snoc X32 N29 gp
  have pre33 : ∀ t, Steps p.tables e below (T32.setTop (mkF m 14 #[.val (.ref p0), .val (.int p1), .val (.int (9 : Int32)), .val (.int (16 : Int32))] [])) t → Steps p.tables e below (s₁.setTop (entryFrame m #[(.ref p0), (.int p1)] 4)) t := fun t kont => pre31 t (st32 _ kont)
  have pre34 : ∀ t, Steps p.tables e below (T32.setTop (mkF m 13 #[.val (.ref p0), .val (.int p1), .val (.int (10 : Int32)), .val (.int (16 : Int32))] [(.int p1), (.int (10 : Int32)), (.ref p0)])) t → Steps p.tables e below (s₁.setTop (entryFrame m #[(.ref p0), (.int p1)] 4)) t := by
    intro t kont
    refine pre33 t ?_
    show Steps p.tables e below (T32.setTop (mkF m 14 #[.val (.ref p0), .val (.int p1), .val (.int (9 : Int32)), .val (.int (16 : Int32))] [])) _
    refine XS.iinc X32.here hx rfl (hb hby d5_14) rfl (l' := #[.val (.ref p0), .val (.int p1), .val (.int (10 : Int32)), .val (.int (16 : Int32))]) rfl ?_
    show Steps p.tables e below (T32.setTop (mkF m 17 #[.val (.ref p0), .val (.int p1), .val (.int (10 : Int32)), .val (.int (16 : Int32))] [])) _
    refine XS.goto X32.here hx rfl (pc0 := 17) (pc' := 5) rfl (hb hby d5_17) (by decide) (by decide) ?_
    show Steps p.tables e below (T32.setTop (mkF m 5 #[.val (.ref p0), .val (.int p1), .val (.int (10 : Int32)), .val (.int (16 : Int32))] [])) _
    refine XS.iloadN X32.here hx rfl (hb hby d5_5) rfl ?_
    show Steps p.tables e below (T32.setTop (mkF m 6 #[.val (.ref p0), .val (.int p1), .val (.int (10 : Int32)), .val (.int (16 : Int32))] [(.int (10 : Int32))])) _
    refine XS.iloadN X32.here hx rfl (hb hby d5_6) rfl ?_
    show Steps p.tables e below (T32.setTop (mkF m 7 #[.val (.ref p0), .val (.int p1), .val (.int (10 : Int32)), .val (.int (16 : Int32))] [(.int (16 : Int32)), (.int (10 : Int32))])) _
    refine XS.icmpNo X32.here hx rfl (hb hby d5_7) rfl (tlt (by decide)).2.1 ?_
    show Steps p.tables e below (T32.setTop (mkF m 10 #[.val (.ref p0), .val (.int p1), .val (.int (10 : Int32)), .val (.int (16 : Int32))] [])) _
    refine XS.aloadN X32.here hx rfl (hb hby d5_10) rfl rfl ?_
    show Steps p.tables e below (T32.setTop (mkF m 11 #[.val (.ref p0), .val (.int p1), .val (.int (10 : Int32)), .val (.int (16 : Int32))] [(.ref p0)])) _
    refine XS.iloadN X32.here hx rfl (hb hby d5_11) rfl ?_
    show Steps p.tables e below (T32.setTop (mkF m 12 #[.val (.ref p0), .val (.int p1), .val (.int (10 : Int32)), .val (.int (16 : Int32))] [(.int (10 : Int32)), (.ref p0)])) _
    refine XS.iloadN X32.here hx rfl (hb hby d5_12) rfl ?_
    exact kont
  obtain ⟨T35, h35, X35, e35, W35, V35, st35⟩ := own_stI X32 hx hZ e32 V32 (k := 10) (by decide) (by decide) (by decide) (fr := (mkF m 13 #[.val (.ref p0), .val (.int p1), .val (.int (10 : Int32)), .val (.int (16 : Int32))] [(.int p1), (.int (10 : Int32)), (.ref p0)])) rfl rfl (hb hby d5_13)
  obtain ⟨u13'''''''''', hu13''''''''''⟩ : ∃ z : Nat → Int32, z = fun i => if i = 10 then p1 else u13''''''''' i := ⟨_, rfl⟩
  replace V35 : own_arr Z h35 p0 .int 16 (fun i => .int (u13'''''''''' i)) := by rw [hu13'''''''''']; exact V35
  have K35 : Keep h0 h35 [p0] := (K32).wr W35 (Or.inl (List.mem_of_getElem? (i := 0) rfl))
  have Z35 : n0 ≤ h35.size := Nat.le_trans Z32 (Keep.of_wr W35).1
  have N35 := Fr.snoc X35 N32 gp
  have pre36 : ∀ t, Steps p.tables e below (T35.setTop (mkF m 14 #[.val (.ref p0), .val (.int p1), .val (.int (10 : Int32)), .val (.int (16 : Int32))] [])) t → Steps p.tables e below (s₁.setTop (entryFrame m #[(.ref p0), (.int p1)] 4)) t := fun t kont => pre34 t (st35 _ kont)
  have pre37 : ∀ t, Steps p.tables e below (T35.setTop (mkF m 13 #[.val (.ref p0), .val (.int p1), .val (.int (11 : Int32)), .val (.int (16 : Int32))] [(.int p1), (.int (11 : Int32)), (.ref p0)])) t → Steps p.tables e below (s₁.setTop (entryFrame m #[(.ref p0), (.int p1)] 4)) t := by
    intro t kont
    refine pre36 t ?_
    show Steps p.tables e below (T35.setTop (mkF m 14 #[.val (.ref p0), .val (.int p1), .val (.int (10 : Int32)), .val (.int (16 : Int32))] [])) _
    refine XS.iinc X35.here hx rfl (hb hby d5_14) rfl (l' := #[.val (.ref p0), .val (.int p1), .val (.int (11 : Int32)), .val (.int (16 : Int32))]) rfl ?_
    show Steps p.tables e below (T35.setTop (mkF m 17 #[.val (.ref p0), .val (.int p1), .val (.int (11 : Int32)), .val (.int (16 : Int32))] [])) _
    refine XS.goto X35.here hx rfl (pc0 := 17) (pc' := 5) rfl (hb hby d5_17) (by decide) (by decide) ?_
    show Steps p.tables e below (T35.setTop (mkF m 5 #[.val (.ref p0), .val (.int p1), .val (.int (11 : Int32)), .val (.int (16 : Int32))] [])) _
    refine XS.iloadN X35.here hx rfl (hb hby d5_5) rfl ?_
    show Steps p.tables e below (T35.setTop (mkF m 6 #[.val (.ref p0), .val (.int p1), .val (.int (11 : Int32)), .val (.int (16 : Int32))] [(.int (11 : Int32))])) _
    refine XS.iloadN X35.here hx rfl (hb hby d5_6) rfl ?_
    show Steps p.tables e below (T35.setTop (mkF m 7 #[.val (.ref p0), .val (.int p1), .val (.int (11 : Int32)), .val (.int (16 : Int32))] [(.int (16 : Int32)), (.int (11 : Int32))])) _
    refine XS.icmpNo X35.here hx rfl (hb hby d5_7) rfl (tlt (by decide)).2.1 ?_
    show Steps p.tables e below (T35.setTop (mkF m 10 #[.val (.ref p0), .val (.int p1), .val (.int (11 : Int32)), .val (.int (16 : Int32))] [])) _
    refine XS.aloadN X35.here hx rfl (hb hby d5_10) rfl rfl ?_
    show Steps p.tables e below (T35.setTop (mkF m 11 #[.val (.ref p0), .val (.int p1), .val (.int (11 : Int32)), .val (.int (16 : Int32))] [(.ref p0)])) _
    refine XS.iloadN X35.here hx rfl (hb hby d5_11) rfl ?_
    show Steps p.tables e below (T35.setTop (mkF m 12 #[.val (.ref p0), .val (.int p1), .val (.int (11 : Int32)), .val (.int (16 : Int32))] [(.int (11 : Int32)), (.ref p0)])) _
    refine XS.iloadN X35.here hx rfl (hb hby d5_12) rfl ?_
    exact kont
  obtain ⟨T38, h38, X38, e38, W38, V38, st38⟩ := own_stI X35 hx hZ e35 V35 (k := 11) (by decide) (by decide) (by decide) (fr := (mkF m 13 #[.val (.ref p0), .val (.int p1), .val (.int (11 : Int32)), .val (.int (16 : Int32))] [(.int p1), (.int (11 : Int32)), (.ref p0)])) rfl rfl (hb hby d5_13)
  obtain ⟨u13''''''''''', hu13'''''''''''⟩ : ∃ z : Nat → Int32, z = fun i => if i = 11 then p1 else u13'''''''''' i := ⟨_, rfl⟩
  replace V38 : own_arr Z h38 p0 .int 16 (fun i => .int (u13''''''''''' i)) := by rw [hu13''''''''''']; exact V38
  have K38 : Keep h0 h38 [p0] := (K35).wr W38 (Or.inl (List.mem_of_getElem? (i := 0) rfl))
  have Z38 : n0 ≤ h38.size := Nat.le_trans Z35 (Keep.of_wr W38).1
  have N38 := Fr.snoc X38 N35 gp
  have pre39 : ∀ t, Steps p.tables e below (T38.setTop (mkF m 14 #[.val (.ref p0), .val (.int p1), .val (.int (11 : Int32)), .val (.int (16 : Int32))] [])) t → Steps p.tables e below (s₁.setTop (entryFrame m #[(.ref p0), (.int p1)] 4)) t := fun t kont => pre37 t (st38 _ kont)
  have pre40 : ∀ t, Steps p.tables e below (T38.setTop (mkF m 13 #[.val (.ref p0), .val (.int p1), .val (.int (12 : Int32)), .val (.int (16 : Int32))] [(.int p1), (.int (12 : Int32)), (.ref p0)])) t → Steps p.tables e below (s₁.setTop (entryFrame m #[(.ref p0), (.int p1)] 4)) t := by
    intro t kont
    refine pre39 t ?_
    show Steps p.tables e below (T38.setTop (mkF m 14 #[.val (.ref p0), .val (.int p1), .val (.int (11 : Int32)), .val (.int (16 : Int32))] [])) _
    refine XS.iinc X38.here hx rfl (hb hby d5_14) rfl (l' := #[.val (.ref p0), .val (.int p1), .val (.int (12 : Int32)), .val (.int (16 : Int32))]) rfl ?_
    show Steps p.tables e below (T38.setTop (mkF m 17 #[.val (.ref p0), .val (.int p1), .val (.int (12 : Int32)), .val (.int (16 : Int32))] [])) _
    refine XS.goto X38.here hx rfl (pc0 := 17) (pc' := 5) rfl (hb hby d5_17) (by decide) (by decide) ?_
    show Steps p.tables e below (T38.setTop (mkF m 5 #[.val (.ref p0), .val (.int p1), .val (.int (12 : Int32)), .val (.int (16 : Int32))] [])) _
    refine XS.iloadN X38.here hx rfl (hb hby d5_5) rfl ?_
    show Steps p.tables e below (T38.setTop (mkF m 6 #[.val (.ref p0), .val (.int p1), .val (.int (12 : Int32)), .val (.int (16 : Int32))] [(.int (12 : Int32))])) _
    refine XS.iloadN X38.here hx rfl (hb hby d5_6) rfl ?_
    show Steps p.tables e below (T38.setTop (mkF m 7 #[.val (.ref p0), .val (.int p1), .val (.int (12 : Int32)), .val (.int (16 : Int32))] [(.int (16 : Int32)), (.int (12 : Int32))])) _
    refine XS.icmpNo X38.here hx rfl (hb hby d5_7) rfl (tlt (by decide)).2.1 ?_
    show Steps p.tables e below (T38.setTop (mkF m 10 #[.val (.ref p0), .val (.int p1), .val (.int (12 : Int32)), .val (.int (16 : Int32))] [])) _
    refine XS.aloadN X38.here hx rfl (hb hby d5_10) rfl rfl ?_
    show Steps p.tables e below (T38.setTop (mkF m 11 #[.val (.ref p0), .val (.int p1), .val (.int (12 : Int32)), .val (.int (16 : Int32))] [(.ref p0)])) _
    refine XS.iloadN X38.here hx rfl (hb hby d5_11) rfl ?_
    show Steps p.tables e below (T38.setTop (mkF m 12 #[.val (.ref p0), .val (.int p1), .val (.int (12 : Int32)), .val (.int (16 : Int32))] [(.int (12 : Int32)), (.ref p0)])) _
    refine XS.iloadN X38.here hx rfl (hb hby d5_12) rfl ?_
    exact kont
  obtain ⟨T41, h41, X41, e41, W41, V41, st41⟩ := own_stI X38 hx hZ e38 V38 (k := 12) (by decide) (by decide) (by decide) (fr := (mkF m 13 #[.val (.ref p0), .val (.int p1), .val (.int (12 : Int32)), .val (.int (16 : Int32))] [(.int p1), (.int (12 : Int32)), (.ref p0)])) rfl rfl (hb hby d5_13)
  obtain ⟨u13'''''''''''', hu13''''''''''''⟩ : ∃ z : Nat → Int32, z = fun i => if i = 12 then p1 else u13''''''''''' i := ⟨_, rfl⟩
  replace V41 : own_arr Z h41 p0 .int 16 (fun i => .int (u13'''''''''''' i)) := by rw [hu13'''''''''''']; exact V41
  have K41 : Keep h0 h41 [p0] := (K38).wr W41 (Or.inl (List.mem_of_getElem? (i := 0) rfl))
  have Z41 : n0 ≤ h41.size := Nat.le_trans Z38 (Keep.of_wr W41).1
  have N41 := Fr.snoc X41 N38 gp
  have pre42 : ∀ t, Steps p.tables e below (T41.setTop (mkF m 14 #[.val (.ref p0), .val (.int p1), .val (.int (12 : Int32)), .val (.int (16 : Int32))] [])) t → Steps p.tables e below (s₁.setTop (entryFrame m #[(.ref p0), (.int p1)] 4)) t := fun t kont => pre40 t (st41 _ kont)
  have pre43 : ∀ t, Steps p.tables e below (T41.setTop (mkF m 13 #[.val (.ref p0), .val (.int p1), .val (.int (13 : Int32)), .val (.int (16 : Int32))] [(.int p1), (.int (13 : Int32)), (.ref p0)])) t → Steps p.tables e below (s₁.setTop (entryFrame m #[(.ref p0), (.int p1)] 4)) t := by
    intro t kont
    refine pre42 t ?_
    show Steps p.tables e below (T41.setTop (mkF m 14 #[.val (.ref p0), .val (.int p1), .val (.int (12 : Int32)), .val (.int (16 : Int32))] [])) _
    refine XS.iinc X41.here hx rfl (hb hby d5_14) rfl (l' := #[.val (.ref p0), .val (.int p1), .val (.int (13 : Int32)), .val (.int (16 : Int32))]) rfl ?_
    show Steps p.tables e below (T41.setTop (mkF m 17 #[.val (.ref p0), .val (.int p1), .val (.int (13 : Int32)), .val (.int (16 : Int32))] [])) _
    refine XS.goto X41.here hx rfl (pc0 := 17) (pc' := 5) rfl (hb hby d5_17) (by decide) (by decide) ?_
    show Steps p.tables e below (T41.setTop (mkF m 5 #[.val (.ref p0), .val (.int p1), .val (.int (13 : Int32)), .val (.int (16 : Int32))] [])) _
    refine XS.iloadN X41.here hx rfl (hb hby d5_5) rfl ?_
    show Steps p.tables e below (T41.setTop (mkF m 6 #[.val (.ref p0), .val (.int p1), .val (.int (13 : Int32)), .val (.int (16 : Int32))] [(.int (13 : Int32))])) _
    refine XS.iloadN X41.here hx rfl (hb hby d5_6) rfl ?_
    show Steps p.tables e below (T41.setTop (mkF m 7 #[.val (.ref p0), .val (.int p1), .val (.int (13 : Int32)), .val (.int (16 : Int32))] [(.int (16 : Int32)), (.int (13 : Int32))])) _
    refine XS.icmpNo X41.here hx rfl (hb hby d5_7) rfl (tlt (by decide)).2.1 ?_
    show Steps p.tables e below (T41.setTop (mkF m 10 #[.val (.ref p0), .val (.int p1), .val (.int (13 : Int32)), .val (.int (16 : Int32))] [])) _
    refine XS.aloadN X41.here hx rfl (hb hby d5_10) rfl rfl ?_
    show Steps p.tables e below (T41.setTop (mkF m 11 #[.val (.ref p0), .val (.int p1), .val (.int (13 : Int32)), .val (.int (16 : Int32))] [(.ref p0)])) _
    refine XS.iloadN X41.here hx rfl (hb hby d5_11) rfl ?_
    show Steps p.tables e below (T41.setTop (mkF m 12 #[.val (.ref p0), .val (.int p1), .val (.int (13 : Int32)), .val (.int (16 : Int32))] [(.int (13 : Int32)), (.ref p0)])) _
    refine XS.iloadN X41.here hx rfl (hb hby d5_12) rfl ?_
    exact kont
  obtain ⟨T44, h44, X44, e44, W44, V44, st44⟩ := own_stI X41 hx hZ e41 V41 (k := 13) (by decide) (by decide) (by decide) (fr := (mkF m 13 #[.val (.ref p0), .val (.int p1), .val (.int (13 : Int32)), .val (.int (16 : Int32))] [(.int p1), (.int (13 : Int32)), (.ref p0)])) rfl rfl (hb hby d5_13)
  obtain ⟨u13''''''''''''', hu13'''''''''''''⟩ : ∃ z : Nat → Int32, z = fun i => if i = 13 then p1 else u13'''''''''''' i := ⟨_, rfl⟩
  replace V44 : own_arr Z h44 p0 .int 16 (fun i => .int (u13''''''''''''' i)) := by rw [hu13''''''''''''']; exact V44
  have K44 : Keep h0 h44 [p0] := (K41).wr W44 (Or.inl (List.mem_of_getElem? (i := 0) rfl))
  have Z44 : n0 ≤ h44.size := Nat.le_trans Z41 (Keep.of_wr W44).1
  have N44 := Fr.snoc X44 N41 gp
  have pre45 : ∀ t, Steps p.tables e below (T44.setTop (mkF m 14 #[.val (.ref p0), .val (.int p1), .val (.int (13 : Int32)), .val (.int (16 : Int32))] [])) t → Steps p.tables e below (s₁.setTop (entryFrame m #[(.ref p0), (.int p1)] 4)) t := fun t kont => pre43 t (st44 _ kont)
  have pre46 : ∀ t, Steps p.tables e below (T44.setTop (mkF m 13 #[.val (.ref p0), .val (.int p1), .val (.int (14 : Int32)), .val (.int (16 : Int32))] [(.int p1), (.int (14 : Int32)), (.ref p0)])) t → Steps p.tables e below (s₁.setTop (entryFrame m #[(.ref p0), (.int p1)] 4)) t := by
    intro t kont
    refine pre45 t ?_
    show Steps p.tables e below (T44.setTop (mkF m 14 #[.val (.ref p0), .val (.int p1), .val (.int (13 : Int32)), .val (.int (16 : Int32))] [])) _
    refine XS.iinc X44.here hx rfl (hb hby d5_14) rfl (l' := #[.val (.ref p0), .val (.int p1), .val (.int (14 : Int32)), .val (.int (16 : Int32))]) rfl ?_
    show Steps p.tables e below (T44.setTop (mkF m 17 #[.val (.ref p0), .val (.int p1), .val (.int (14 : Int32)), .val (.int (16 : Int32))] [])) _
    refine XS.goto X44.here hx rfl (pc0 := 17) (pc' := 5) rfl (hb hby d5_17) (by decide) (by decide) ?_
    show Steps p.tables e below (T44.setTop (mkF m 5 #[.val (.ref p0), .val (.int p1), .val (.int (14 : Int32)), .val (.int (16 : Int32))] [])) _
    refine XS.iloadN X44.here hx rfl (hb hby d5_5) rfl ?_
    show Steps p.tables e below (T44.setTop (mkF m 6 #[.val (.ref p0), .val (.int p1), .val (.int (14 : Int32)), .val (.int (16 : Int32))] [(.int (14 : Int32))])) _
    refine XS.iloadN X44.here hx rfl (hb hby d5_6) rfl ?_
    show Steps p.tables e below (T44.setTop (mkF m 7 #[.val (.ref p0), .val (.int p1), .val (.int (14 : Int32)), .val (.int (16 : Int32))] [(.int (16 : Int32)), (.int (14 : Int32))])) _
    refine XS.icmpNo X44.here hx rfl (hb hby d5_7) rfl (tlt (by decide)).2.1 ?_
    show Steps p.tables e below (T44.setTop (mkF m 10 #[.val (.ref p0), .val (.int p1), .val (.int (14 : Int32)), .val (.int (16 : Int32))] [])) _
    refine XS.aloadN X44.here hx rfl (hb hby d5_10) rfl rfl ?_
    show Steps p.tables e below (T44.setTop (mkF m 11 #[.val (.ref p0), .val (.int p1), .val (.int (14 : Int32)), .val (.int (16 : Int32))] [(.ref p0)])) _
    refine XS.iloadN X44.here hx rfl (hb hby d5_11) rfl ?_
    show Steps p.tables e below (T44.setTop (mkF m 12 #[.val (.ref p0), .val (.int p1), .val (.int (14 : Int32)), .val (.int (16 : Int32))] [(.int (14 : Int32)), (.ref p0)])) _
    refine XS.iloadN X44.here hx rfl (hb hby d5_12) rfl ?_
    exact kont
  obtain ⟨T47, h47, X47, e47, W47, V47, st47⟩ := own_stI X44 hx hZ e44 V44 (k := 14) (by decide) (by decide) (by decide) (fr := (mkF m 13 #[.val (.ref p0), .val (.int p1), .val (.int (14 : Int32)), .val (.int (16 : Int32))] [(.int p1), (.int (14 : Int32)), (.ref p0)])) rfl rfl (hb hby d5_13)
  obtain ⟨u13'''''''''''''', hu13''''''''''''''⟩ : ∃ z : Nat → Int32, z = fun i => if i = 14 then p1 else u13''''''''''''' i := ⟨_, rfl⟩
  replace V47 : own_arr Z h47 p0 .int 16 (fun i => .int (u13'''''''''''''' i)) := by rw [hu13'''''''''''''']; exact V47
  have K47 : Keep h0 h47 [p0] := (K44).wr W47 (Or.inl (List.mem_of_getElem? (i := 0) rfl))
  have Z47 : n0 ≤ h47.size := Nat.le_trans Z44 (Keep.of_wr W47).1
  have N47 := Fr.snoc X47 N44 gp
  have pre48 : ∀ t, Steps p.tables e below (T47.setTop (mkF m 14 #[.val (.ref p0), .val (.int p1), .val (.int (14 : Int32)), .val (.int (16 : Int32))] [])) t → Steps p.tables e below (s₁.setTop (entryFrame m #[(.ref p0), (.int p1)] 4)) t := fun t kont => pre46 t (st47 _ kont)
  have pre49 : ∀ t, Steps p.tables e below (T47.setTop (mkF m 13 #[.val (.ref p0), .val (.int p1), .val (.int (15 : Int32)), .val (.int (16 : Int32))] [(.int p1), (.int (15 : Int32)), (.ref p0)])) t → Steps p.tables e below (s₁.setTop (entryFrame m #[(.ref p0), (.int p1)] 4)) t := by
    intro t kont
    refine pre48 t ?_
    show Steps p.tables e below (T47.setTop (mkF m 14 #[.val (.ref p0), .val (.int p1), .val (.int (14 : Int32)), .val (.int (16 : Int32))] [])) _
    refine XS.iinc X47.here hx rfl (hb hby d5_14) rfl (l' := #[.val (.ref p0), .val (.int p1), .val (.int (15 : Int32)), .val (.int (16 : Int32))]) rfl ?_
    show Steps p.tables e below (T47.setTop (mkF m 17 #[.val (.ref p0), .val (.int p1), .val (.int (15 : Int32)), .val (.int (16 : Int32))] [])) _
    refine XS.goto X47.here hx rfl (pc0 := 17) (pc' := 5) rfl (hb hby d5_17) (by decide) (by decide) ?_
    show Steps p.tables e below (T47.setTop (mkF m 5 #[.val (.ref p0), .val (.int p1), .val (.int (15 : Int32)), .val (.int (16 : Int32))] [])) _
    refine XS.iloadN X47.here hx rfl (hb hby d5_5) rfl ?_
    show Steps p.tables e below (T47.setTop (mkF m 6 #[.val (.ref p0), .val (.int p1), .val (.int (15 : Int32)), .val (.int (16 : Int32))] [(.int (15 : Int32))])) _
    refine XS.iloadN X47.here hx rfl (hb hby d5_6) rfl ?_
    show Steps p.tables e below (T47.setTop (mkF m 7 #[.val (.ref p0), .val (.int p1), .val (.int (15 : Int32)), .val (.int (16 : Int32))] [(.int (16 : Int32)), (.int (15 : Int32))])) _
    refine XS.icmpNo X47.here hx rfl (hb hby d5_7) rfl (tlt (by decide)).2.1 ?_
    show Steps p.tables e below (T47.setTop (mkF m 10 #[.val (.ref p0), .val (.int p1), .val (.int (15 : Int32)), .val (.int (16 : Int32))] [])) _
    refine XS.aloadN X47.here hx rfl (hb hby d5_10) rfl rfl ?_
    show Steps p.tables e below (T47.setTop (mkF m 11 #[.val (.ref p0), .val (.int p1), .val (.int (15 : Int32)), .val (.int (16 : Int32))] [(.ref p0)])) _
    refine XS.iloadN X47.here hx rfl (hb hby d5_11) rfl ?_
    show Steps p.tables e below (T47.setTop (mkF m 12 #[.val (.ref p0), .val (.int p1), .val (.int (15 : Int32)), .val (.int (16 : Int32))] [(.int (15 : Int32)), (.ref p0)])) _
    refine XS.iloadN X47.here hx rfl (hb hby d5_12) rfl ?_
    exact kont
  obtain ⟨T50, h50, X50, e50, W50, V50, st50⟩ := own_stI X47 hx hZ e47 V47 (k := 15) (by decide) (by decide) (by decide) (fr := (mkF m 13 #[.val (.ref p0), .val (.int p1), .val (.int (15 : Int32)), .val (.int (16 : Int32))] [(.int p1), (.int (15 : Int32)), (.ref p0)])) rfl rfl (hb hby d5_13)
  obtain ⟨u13''''''''''''''', hu13'''''''''''''''⟩ : ∃ z : Nat → Int32, z = fun i => if i = 15 then p1 else u13'''''''''''''' i := ⟨_, rfl⟩
  replace V50 : own_arr Z h50 p0 .int 16 (fun i => .int (u13''''''''''''''' i)) := by rw [hu13''''''''''''''']; exact V50
  have K50 : Keep h0 h50 [p0] := (K47).wr W50 (Or.inl (List.mem_of_getElem? (i := 0) rfl))
  have Z50 : n0 ≤ h50.size := Nat.le_trans Z47 (Keep.of_wr W50).1
  have N50 := Fr.snoc X50 N47 gp
  have pre51 : ∀ t, Steps p.tables e below (T50.setTop (mkF m 14 #[.val (.ref p0), .val (.int p1), .val (.int (15 : Int32)), .val (.int (16 : Int32))] [])) t → Steps p.tables e below (s₁.setTop (entryFrame m #[(.ref p0), (.int p1)] 4)) t := fun t kont => pre49 t (st50 _ kont)
  have pre52 : ∀ t, Steps p.tables e below (T50.setTop (mkF m 20 #[.val (.ref p0), .val (.int p1), .val (.int (16 : Int32)), .val (.int (16 : Int32))] [])) t → Steps p.tables e below (s₁.setTop (entryFrame m #[(.ref p0), (.int p1)] 4)) t := by
    intro t kont
    refine pre51 t ?_
    show Steps p.tables e below (T50.setTop (mkF m 14 #[.val (.ref p0), .val (.int p1), .val (.int (15 : Int32)), .val (.int (16 : Int32))] [])) _
    refine XS.iinc X50.here hx rfl (hb hby d5_14) rfl (l' := #[.val (.ref p0), .val (.int p1), .val (.int (16 : Int32)), .val (.int (16 : Int32))]) rfl ?_
    show Steps p.tables e below (T50.setTop (mkF m 17 #[.val (.ref p0), .val (.int p1), .val (.int (16 : Int32)), .val (.int (16 : Int32))] [])) _
    refine XS.goto X50.here hx rfl (pc0 := 17) (pc' := 5) rfl (hb hby d5_17) (by decide) (by decide) ?_
    show Steps p.tables e below (T50.setTop (mkF m 5 #[.val (.ref p0), .val (.int p1), .val (.int (16 : Int32)), .val (.int (16 : Int32))] [])) _
    refine XS.iloadN X50.here hx rfl (hb hby d5_5) rfl ?_
    show Steps p.tables e below (T50.setTop (mkF m 6 #[.val (.ref p0), .val (.int p1), .val (.int (16 : Int32)), .val (.int (16 : Int32))] [(.int (16 : Int32))])) _
    refine XS.iloadN X50.here hx rfl (hb hby d5_6) rfl ?_
    show Steps p.tables e below (T50.setTop (mkF m 7 #[.val (.ref p0), .val (.int p1), .val (.int (16 : Int32)), .val (.int (16 : Int32))] [(.int (16 : Int32)), (.int (16 : Int32))])) _
    refine XS.icmpYes X50.here hx rfl (pc0 := 7) (pc' := 20) rfl (hb hby d5_7) rfl (flt (by decide)).2.1 (by decide) (by decide) ?_
    exact kont
  obtain ⟨fs, hr, hrun, hended, hW, hsame⟩ := X50.leave (v := none) (fun _ => rfl)
  refine ⟨_, _, pre52 _ ?_, hrun, hended, _, _, rfl, ?_, ⟨_, rfl⟩, hW, hsame.mono (by decide) (by decide)⟩
  · exact X50.returnOut hx Bd.returns (hb hby d5_20) hr
  · show Q5 Z p0 p1 g h0 n0 _ T50.heap _
    rw [e50]
    refine ⟨rfl, N50, K50, V50.to rfl (fun j hj => ?_)⟩
    rw [hu13''''''''''''''', hu13'''''''''''''', hu13''''''''''''', hu13'''''''''''', hu13''''''''''', hu13'''''''''', hu13''''''''', hu13'''''''', hu13''''''', hu13'''''', hu13''''', hu13'''', hu13''', hu13'', hu13', hu13]
    match j, hj with
    | 0, _ => rfl
    | 1, _ => rfl
    | 2, _ => rfl
    | 3, _ => rfl
    | 4, _ => rfl
    | 5, _ => rfl
    | 6, _ => rfl
    | 7, _ => rfl
    | 8, _ => rfl
    | 9, _ => rfl
    | 10, _ => rfl
    | 11, _ => rfl
    | 12, _ => rfl
    | 13, _ => rfl
    | 14, _ => rfl
    | 15, _ => rfl
    | j + 16, h => exact absurd h (by omega)
theorem d4_0 : decode prog_18_method_8_code 0 = .ok (.iload_n 0, 1) := by decide +kernel
theorem d4_1 : decode prog_18_method_8_code 1 = .ok (.newarray .int, 2) := by decide +kernel
theorem d4_3 : decode prog_18_method_8_code 3 = .ok (.astore_n 1, 1) := by decide +kernel
theorem d4_4 : decode prog_18_method_8_code 4 = .ok (.aload_n 1, 1) := by decide +kernel
theorem d4_5 : decode prog_18_method_8_code 5 = .ok (.ldc 43, 2) := by decide +kernel
theorem d4_7 : decode prog_18_method_8_code 7 = .ok (.invokestatic 67, 3) := by decide +kernel
theorem pd_0 : parseMethodDescriptor "([II)V" = some ⟨[(.array .int), .int], none⟩ := by decide +kernel
theorem d4_10 : decode prog_18_method_8_code 10 = .ok (.aload_n 1, 1) := by decide +kernel
theorem d4_11 : decode prog_18_method_8_code 11 = .ok (.areturn, 1) := by decide +kernel
theorem pn_4 : plainName "com/example/impronta/impronta/engine/Alignments" = true := by first | (simp [plainName, overriddenIn]; done) | decide +kernel
theorem ef_4 (m : MethodId) (x0 : Int32) : entryFrame m #[(.int x0)] 2 = mkF m 0 #[.val (.int x0), .unset] [] := by first | (simp [entryFrame, mkF, argsToLocals, Value.category]; done) | rfl
def Q4 (Z : State)  (h0 : Heap) (n0 : Nat) (v : Option Value) (h : Heap) (L : List Loc) : Prop := ∃ a, v = some (.ref a) ∧ h0.size ≤ a ∧ Fr n0 L ∧ Keep h0 h [] ∧ own_arr Z h a .int 16 (fun _ => .int (-2147483648 : Int32))
set_option maxRecDepth 65536 in
set_option maxHeartbeats 40000000 in
theorem rm4 (l : Launch) (Z : State) (a0 : Array Value) (hw : ∀ d ∈ tables_1, d.before a0 Z = true) (ws : List Jvm.Cond)  (h0 : Heap) (n0 : Nat) (Z0 : n0 ≤ h0.size) :
    MetFree l (⟨"com/example/impronta/impronta/engine/Alignments", "emptySlots", "(I)[I"⟩ : MethodName) (head1 (Jvm.Cond.code (⟨"com/example/impronta/impronta/engine/Alignments", "emptySlots", "(I)[I"⟩ : MethodName) prog_18_method_8_code 2 (some (.array .int)) :: ws) ({ frames := 1, cells := 1, slots := 16, locals := 15 } : Room)) (fun a U => a = #[(.int (16 : Int32))] ∧ Z.Warmed39 U.vm ∧ U.heap = h0) (fun _ _ _ _ _ => True) (fun _ U o U' => ∃ v L, o = .returned v ∧ Q4 Z  h0 n0 v U'.heap L ∧ FrameEnd U o U' L ({ frames := 1, cells := 1, slots := 16, locals := 15 } : Room).cells ({ frames := 1, cells := 1, slots := 16, locals := 15 } : Room).slots) := by
  refine MetFree.of_bodySF (plainFor_of_name pn_4) hisR ?_
  intro p e s m args below meth c s₁ Bd hml0 hP hK
  obtain ⟨rfl, hZ, hh⟩ := hP
  have hx := Bd.exec
  have hby := Bd.bytes
  have hml : c.maxLocals = 2 := hml0
  have hown : s.vm.findClass "com/example/impronta/impronta/engine/Alignments" = some m.cls := findClass_of_methodNamed Bd.named
  have hnm := (name_of_methodNamed Bd.named Bd.method).1
  have X0 : Stand p l e ({ frames := 1, cells := 1, slots := 16, locals := 15 } : Room) s m #[(.int (16 : Int32))] below meth c s₁ [] 0 0 := Stand.of_body Bd
  have e0 : s₁.heap = h0 := by rw [← hh, Bd.state]; rfl
  have N0 := Fr.nil n0
  have pre0 : ∀ t, Steps p.tables e below (s₁.setTop (mkF m 0 #[.val (.int (16 : Int32)), .unset] [])) t → Steps p.tables e below (s₁.setTop (entryFrame m #[(.int (16 : Int32))] 2)) t := fun t k => castTop (ef_4 m (16 : Int32)) k
  have pre53 : ∀ t, Steps p.tables e below (s₁.setTop (mkF m 1 #[.val (.int (16 : Int32)), .unset] [(.int (16 : Int32))])) t → Steps p.tables e below (s₁.setTop (entryFrame m #[(.int (16 : Int32))] 2)) t := by
    intro t kont
    refine pre0 t ?_
    show Steps p.tables e below (s₁.setTop (mkF m 0 #[.val (.int (16 : Int32)), .unset] [])) _
    refine XS.iloadN X0.here hx rfl (hb hby d4_0) rfl ?_
    exact kont
  obtain ⟨T54, h54, k54, X54, e54, E54, A54, st54⟩ := newP X0 hx hZ (hw _ (List.mem_of_getElem? (i := 17) rfl)) e0 (g := (mkF m 1 #[.val (.int (16 : Int32)), .unset] [(.int (16 : Int32))])) rfl (hb hby d4_1) rfl (by decide) (cap := 16) (by decide) (by decide) (by decide) (by decide)
  obtain ⟨b1, g54⟩ : ∃ z, z = h0.size := ⟨_, rfl⟩
  rw [← g54] at A54 st54
  have g_b1 : n0 ≤ b1 := Nat.le_trans Z0 (Nat.le_of_eq g54.symm)
  have sz_b1 : h0.size ≤ b1 := Nat.le_trans (Keep.refl h0 []).1 (Nat.le_of_eq g54.symm)
  have K54 : Keep h0 h54 [] := (Keep.refl h0 []).ext E54
  have V54 := own_arr.newI A54 (i := 16) rfl
  have Z54 : n0 ≤ h54.size := Nat.le_trans Z0 E54.1
  have pre55 : ∀ t, Steps p.tables e below (T54.setTop (mkF m 3 #[.val (.int (16 : Int32)), .unset] [(.ref b1)])) t → Steps p.tables e below (s₁.setTop (entryFrame m #[(.int (16 : Int32))] 2)) t := fun t kont => pre53 t (st54 _ kont)
  have pre56 : ∀ t, Steps p.tables e below (T54.setTop (mkF m 7 #[.val (.int (16 : Int32)), .val (.ref b1)] [(.int (-2147483648 : Int32)), (.ref b1)])) t → Steps p.tables e below (s₁.setTop (entryFrame m #[(.int (16 : Int32))] 2)) t := by
    intro t kont
    refine pre55 t ?_
    show Steps p.tables e below (T54.setTop (mkF m 3 #[.val (.int (16 : Int32)), .unset] [(.ref b1)])) _
    refine XS.astoreN X54.here hx rfl (hb hby d4_3) rfl rfl (l' := #[.val (.int (16 : Int32)), .val (.ref b1)]) rfl ?_
    show Steps p.tables e below (T54.setTop (mkF m 4 #[.val (.int (16 : Int32)), .val (.ref b1)] [])) _
    refine XS.aloadN X54.here hx rfl (hb hby d4_4) rfl rfl ?_
    show Steps p.tables e below (T54.setTop (mkF m 5 #[.val (.int (16 : Int32)), .val (.ref b1)] [(.ref b1)])) _
    refine X54.ldcInt hx hown (mvT hZ (hw _ (List.mem_of_getElem? (i := 23) rfl))) (g := (mkF m 5 #[.val (.int (16 : Int32)), .val (.ref b1)] [(.ref b1)])) rfl (hb hby d4_5) _ ?_
    exact kont
  obtain ⟨_, _, ⟨T57, L57, k57, n57⟩, -, X57, ⟨Lc57, hQ57, l57, y57, z57⟩, st57⟩ := Jvm.LawKit.callS X54 hx (y := (⟨"java/util/Arrays", "fill", "([II)V"⟩ : MethodName)) hown (mvT hZ (hw _ (List.mem_of_getElem? (i := 24) rfl))) (mvT hZ (hw _ (List.mem_of_getElem? (i := 25) rfl))) (mvT hZ (hw _ (List.mem_of_getElem? (i := 26) rfl))) (mvT hZ (hw _ (List.mem_of_getElem? (i := 27) rfl))) (by decide) (backOf (W := 0) (rm5 l Z a0 hw [] b1 (-2147483648 : Int32) (fun _ => (0 : Int32))  h54 n0 Z54 V54 g_b1) hZ (hw _ (List.mem_of_getElem? (i := 27) rfl)) (hw _ (List.mem_of_getElem? (i := 26) rfl)) (by decide) (by decide)) (g := (mkF m 7 #[.val (.int (16 : Int32)), .val (.ref b1)] [(.int (-2147483648 : Int32)), (.ref b1)])) rfl (by rw [hml]; rfl) (argsL := [(.ref b1), (.int (-2147483648 : Int32))]) (rest := []) (lenOf pd_0 rfl) rfl (by show 2 * 0 + _ ≤ _; exact Nat.le_of_eq rfl) (hb hby d4_7) (fun _ _ => ⟨rfl, e54, (by decide : 1 + 0 ≤ _), (by decide : 16 + 0 ≤ _)⟩)
  dsimp only [Pt.U, Pt.locs, Pt.cells, Pt.slots] at X57 l57 y57 z57 st57 hQ57
  subst l57 y57 z57
  obtain ⟨rfl, N57q, K57, V57⟩ := hQ57
  have N57 := Fr.app N0 N57q
  have Z57 : n0 ≤ T57.heap.size := Nat.le_trans Z54 (K57).1
  have KK57 : Keep h0 T57.heap [] := (K54).trans K57 (allS (Or.inr sz_b1) all0)
  have pre58 : ∀ t, Steps p.tables e below (T57.setTop (mkF m 10 #[.val (.int (16 : Int32)), .val (.ref b1)] [])) t → Steps p.tables e below (s₁.setTop (entryFrame m #[(.int (16 : Int32))] 2)) t := fun t kont => pre56 t (st57 _ kont)
  have pre59 : ∀ t, Steps p.tables e below (T57.setTop (mkF m 11 #[.val (.int (16 : Int32)), .val (.ref b1)] [(.ref b1)])) t → Steps p.tables e below (s₁.setTop (entryFrame m #[(.int (16 : Int32))] 2)) t := by
    intro t kont
    refine pre58 t ?_
    show Steps p.tables e below (T57.setTop (mkF m 10 #[.val (.int (16 : Int32)), .val (.ref b1)] [])) _
    refine XS.aloadN X57.here hx rfl (hb hby d4_10) rfl rfl ?_
    exact kont
  obtain ⟨fs, hr, hrun, hended, hW, hsame⟩ := X57.leave (v := some (.ref b1)) (fun h => by rw [Bd.returns] at h; cases h)
  refine ⟨_, _, pre59 _ ?_, hrun, hended, _, _, rfl, ?_, ⟨_, rfl⟩, hW, hsame.mono (by decide) (by decide)⟩
  · jvm_step X57.here [X57.here.top, hx, (hb hby d4_11), X57.method', Bd.returns, Value.isRef, FieldType.isReference]
    first | (intro acts; rw [hr _ acts rfl rfl rfl]) | rw [hr _ _ rfl rfl rfl]
    exact Steps.refl _
  · show Q4 Z  h0 n0 _ T57.heap _
    exact ⟨_, rfl, sz_b1, N57, KK57, V57⟩
theorem d2_0 : decode prog_18_method_1_code 0 = .ok (.aload_n 0, 1) := by decide +kernel
theorem d2_1 : decode prog_18_method_1_code 1 = .ok (.invokespecial 3, 3) := by decide +kernel
theorem d2_4 : decode prog_18_method_1_code 4 = .ok (.aload_n 0, 1) := by decide +kernel
theorem d2_5 : decode prog_18_method_1_code 5 = .ok (.iconst 0, 1) := by decide +kernel
theorem d2_6 : decode prog_18_method_1_code 6 = .ok (.newarray .int, 2) := by decide +kernel
theorem d2_8 : decode prog_18_method_1_code 8 = .ok (.putfield 9, 3) := by decide +kernel
theorem d2_11 : decode prog_18_method_1_code 11 = .ok (.aload_n 0, 1) := by decide +kernel
theorem d2_12 : decode prog_18_method_1_code 12 = .ok (.bipush 16, 2) := by decide +kernel
theorem d2_14 : decode prog_18_method_1_code 14 = .ok (.invokestatic 15, 3) := by decide +kernel
theorem pd_1 : parseMethodDescriptor "(I)[I" = some ⟨[.int], some (.array .int)⟩ := by decide +kernel
theorem d2_17 : decode prog_18_method_1_code 17 = .ok (.putfield 19, 3) := by decide +kernel
theorem d2_20 : decode prog_18_method_1_code 20 = .ok (.aload_n 0, 1) := by decide +kernel
theorem d2_21 : decode prog_18_method_1_code 21 = .ok (.bipush 16, 2) := by decide +kernel
theorem d2_23 : decode prog_18_method_1_code 23 = .ok (.newarray .int, 2) := by decide +kernel
theorem d2_25 : decode prog_18_method_1_code 25 = .ok (.putfield 22, 3) := by decide +kernel
theorem d2_28 : decode prog_18_method_1_code 28 = .ok (.aload_n 0, 1) := by decide +kernel
theorem d2_29 : decode prog_18_method_1_code 29 = .ok (.bipush 28, 2) := by decide +kernel
theorem d2_31 : decode prog_18_method_1_code 31 = .ok (.putfield 25, 3) := by decide +kernel
theorem d2_34 : decode prog_18_method_1_code 34 = .ok (.aload_n 0, 1) := by decide +kernel
theorem d2_35 : decode prog_18_method_1_code 35 = .ok (.bipush 8, 2) := by decide +kernel
theorem d2_37 : decode prog_18_method_1_code 37 = .ok (.newarray .int, 2) := by decide +kernel
theorem d2_39 : decode prog_18_method_1_code 39 = .ok (.putfield 29, 3) := by decide +kernel
theorem d2_42 : decode prog_18_method_1_code 42 = .ok (.aload_n 0, 1) := by decide +kernel
theorem d2_43 : decode prog_18_method_1_code 43 = .ok (.iload_n 1, 1) := by decide +kernel
theorem d2_44 : decode prog_18_method_1_code 44 = .ok (.putfield 32, 3) := by decide +kernel
theorem d2_47 : decode prog_18_method_1_code 47 = .ok (.return_, 1) := by decide +kernel
theorem ef_2 (m : MethodId) (x0 : Addr) (x1 : Int32) : entryFrame m #[(.ref x0), (.int x1)] 2 = mkF m 0 #[.val (.ref x0), .val (.int x1)] [] := by first | (simp [entryFrame, mkF, argsToLocals, Value.category]; done) | rfl
def Q2 (Z : State) (p0 : Addr) (p1 : Int32) (h0 : Heap) (n0 : Nat) (v : Option Value) (h : Heap) (L : List Loc) : Prop := v = none ∧ Fr n0 L ∧ n0 ≤ h.size ∧ ∃ be ba bn bf : Addr, own_al Z h n0 p0 be ba bn bf p1 (0 : Int32) (0 : Int32) (0 : Int32) 0 (fun _ => (0 : Int32)) (fun _ => (-2147483648 : Int32)) (fun _ => (0 : Int32)) (fun _ => (0 : Int32))
set_option maxRecDepth 65536 in
set_option maxHeartbeats 40000000 in
theorem rm2 (l : Launch) (Z : State) (a0 : Array Value) (hw : ∀ d ∈ tables_1, d.before a0 Z = true) (ws : List Jvm.Cond) (p0 : Addr) (p1 : Int32) (h0 : Heap) (n0 : Nat) (Z0 : n0 ≤ h0.size) (Ep : Exa Z h0 p0 "com/example/impronta/impronta/engine/Alignments") (F_direct : Fld Z h0 p0 "com/example/impronta/impronta/engine/Alignments" "direct" "I" (.int (0 : Int32))) (F_ownSlots : Fld Z h0 p0 "com/example/impronta/impronta/engine/Alignments" "ownSlots" "Z" (.int (0 : Int32))) (F_lowest : Fld Z h0 p0 "com/example/impronta/impronta/engine/Alignments" "lowest" "I" (.int (0 : Int32))) (F_size : Fld Z h0 p0 "com/example/impronta/impronta/engine/Alignments" "size" "I" (.int (0 : Int32))) (F_shift : Fld Z h0 p0 "com/example/impronta/impronta/engine/Alignments" "shift" "I" (.int (0 : Int32))) (F_endsByAlignment : Fld Z h0 p0 "com/example/impronta/impronta/engine/Alignments" "endsByAlignment" "[I" .null) (F_alignments : Fld Z h0 p0 "com/example/impronta/impronta/engine/Alignments" "alignments" "[I" .null) (F_ends : Fld Z h0 p0 "com/example/impronta/impronta/engine/Alignments" "ends" "[I" .null) (F_filled : Fld Z h0 p0 "com/example/impronta/impronta/engine/Alignments" "filled" "[I" .null) (gp : n0 ≤ p0) :
    MetFree l (⟨"com/example/impronta/impronta/engine/Alignments", "<init>", "(I)V"⟩ : MethodName) (head1 (Jvm.Cond.code (⟨"com/example/impronta/impronta/engine/Alignments", "<init>", "(I)V"⟩ : MethodName) prog_18_method_1_code 2 none :: ws) ({ frames := 2, cells := 4, slots := 40, locals := 29 } : Room)) (fun a U => a = #[(.ref p0), (.int p1)] ∧ Z.Warmed39 U.vm ∧ U.heap = h0) (fun _ _ _ _ _ => True) (fun _ U o U' => ∃ v L, o = .returned v ∧ Q2 Z p0 p1 h0 n0 v U'.heap L ∧ FrameEnd U o U' L ({ frames := 2, cells := 4, slots := 40, locals := 29 } : Room).cells ({ frames := 2, cells := 4, slots := 40, locals := 29 } : Room).slots) := by
  refine MetFree.of_bodySF (plainFor_of_name pn_4) hisR ?_
  intro p e s m args below meth c s₁ Bd hml0 hP hK
  obtain ⟨rfl, hZ, hh⟩ := hP
  have hx := Bd.exec
  have hby := Bd.bytes
  have hml : c.maxLocals = 2 := hml0
  have hown : s.vm.findClass "com/example/impronta/impronta/engine/Alignments" = some m.cls := findClass_of_methodNamed Bd.named
  have hnm := (name_of_methodNamed Bd.named Bd.method).1
  have X0 : Stand p l e ({ frames := 2, cells := 4, slots := 40, locals := 29 } : Room) s m #[(.ref p0), (.int p1)] below meth c s₁ [] 0 0 := Stand.of_body Bd
  have e0 : s₁.heap = h0 := by rw [← hh, Bd.state]; rfl
  have N0 := Fr.nil n0
  have pre0 : ∀ t, Steps p.tables e below (s₁.setTop (mkF m 0 #[.val (.ref p0), .val (.int p1)] [])) t → Steps p.tables e below (s₁.setTop (entryFrame m #[(.ref p0), (.int p1)] 2)) t := fun t k => castTop (ef_2 m p0 p1) k
  have pre60 : ∀ t, Steps p.tables e below (s₁.setTop (mkF m 1 #[.val (.ref p0), .val (.int p1)] [(.ref p0)])) t → Steps p.tables e below (s₁.setTop (entryFrame m #[(.ref p0), (.int p1)] 2)) t := by
    intro t kont
    refine pre0 t ?_
    show Steps p.tables e below (s₁.setTop (mkF m 0 #[.val (.ref p0), .val (.int p1)] [])) _
    refine XS.aloadN X0.here hx rfl (hb hby d2_0) rfl rfl ?_
    exact kont
  obtain ⟨T61, X61, e61, st61⟩ := initO X0 hx hZ hown (hw _ (List.mem_of_getElem? (i := 14) rfl)) (hw _ (List.mem_of_getElem? (i := 15) rfl)) (hw _ (List.mem_of_getElem? (i := 16) rfl)) e0 (g := (mkF m 1 #[.val (.ref p0), .val (.int p1)] [(.ref p0)])) rfl (by rw [hml]; rfl) rfl (hb hby d2_1) (by decide) (W := 0) (by show 2 * 0 + _ ≤ _; exact Nat.le_of_eq rfl) (by decide)
  have pre62 : ∀ t, Steps p.tables e below (T61.setTop (mkF m 4 #[.val (.ref p0), .val (.int p1)] [])) t → Steps p.tables e below (s₁.setTop (entryFrame m #[(.ref p0), (.int p1)] 2)) t := fun t kont => pre60 t (st61 _ kont)
  have pre63 : ∀ t, Steps p.tables e below (T61.setTop (mkF m 6 #[.val (.ref p0), .val (.int p1)] [(.int (0 : Int32)), (.ref p0)])) t → Steps p.tables e below (s₁.setTop (entryFrame m #[(.ref p0), (.int p1)] 2)) t := by
    intro t kont
    refine pre62 t ?_
    show Steps p.tables e below (T61.setTop (mkF m 4 #[.val (.ref p0), .val (.int p1)] [])) _
    refine XS.aloadN X61.here hx rfl (hb hby d2_4) rfl rfl ?_
    show Steps p.tables e below (T61.setTop (mkF m 5 #[.val (.ref p0), .val (.int p1)] [(.ref p0)])) _
    refine XS.iconst X61.here hx rfl (hb hby d2_5) ?_
    exact kont
  obtain ⟨T64, h64, k64, X64, e64, E64, A64, st64⟩ := newP X61 hx hZ (hw _ (List.mem_of_getElem? (i := 17) rfl)) e61 (g := (mkF m 6 #[.val (.ref p0), .val (.int p1)] [(.int (0 : Int32)), (.ref p0)])) rfl (hb hby d2_6) rfl (by decide) (cap := 0) (by decide) (by decide) (by decide) (by decide)
  obtain ⟨b6, g64⟩ : ∃ z, z = h0.size := ⟨_, rfl⟩
  rw [← g64] at A64 st64
  have g_b6 : n0 ≤ b6 := Nat.le_trans Z0 (Nat.le_of_eq g64.symm)
  have ne_p0_b6 : p0 ≠ b6 := Nat.ne_of_lt (Nat.lt_of_lt_of_le (Ep).lt (Nat.le_of_eq g64.symm))
  have f64_0 := Exa.ext E64 Ep
  have f64_1 := Fld.ext E64 F_direct
  have f64_2 := Fld.ext E64 F_ownSlots
  have f64_3 := Fld.ext E64 F_lowest
  have f64_4 := Fld.ext E64 F_size
  have f64_5 := Fld.ext E64 F_shift
  have f64_6 := Fld.ext E64 F_endsByAlignment
  have f64_7 := Fld.ext E64 F_alignments
  have f64_8 := Fld.ext E64 F_ends
  have f64_9 := Fld.ext E64 F_filled
  have V64 := own_arr.newI A64 (i := 0) rfl
  have Z64 : n0 ≤ h64.size := Nat.le_trans Z0 E64.1
  have pre65 : ∀ t, Steps p.tables e below (T64.setTop (mkF m 8 #[.val (.ref p0), .val (.int p1)] [(.ref b6), (.ref p0)])) t → Steps p.tables e below (s₁.setTop (entryFrame m #[(.ref p0), (.int p1)] 2)) t := fun t kont => pre63 t (st64 _ kont)
  obtain ⟨T66, h66, X66, e66, W66, st66⟩ := putF X64 hx hZ hown (host := "") (Or.inl (hw _ (List.mem_of_getElem? (i := 18) rfl))) Via.refl e64 f64_6 f64_0 (Or.inl (hw _ (List.mem_of_getElem? (i := 19) rfl))) (hw _ (List.mem_of_getElem? (i := 9) rfl)) (ty := (.array .int)) (by decide) rfl rfl (g := (mkF m 8 #[.val (.ref p0), .val (.int p1)] [(.ref b6), (.ref p0)])) rfl rfl (hb hby d2_8)
  have f66_0 := Exa.wr W66 f64_0
  have f66_1 := Fld.other W66 f64_1 (Or.inr (slot_ne (Or.inr (hw _ (List.mem_of_getElem? (i := 37) rfl))) (Or.inl (hw _ (List.mem_of_getElem? (i := 19) rfl))) (by decide) (t := .int) (t' := (.array .int)) (by decide) (by decide)))
  have f66_2 := Fld.other W66 f64_2 (Or.inr (slot_ne (Or.inl (hw _ (List.mem_of_getElem? (i := 44) rfl))) (Or.inl (hw _ (List.mem_of_getElem? (i := 19) rfl))) (by decide) (t := .boolean) (t' := (.array .int)) (by decide) (by decide)))
  have f66_3 := Fld.other W66 f64_3 (Or.inr (slot_ne (Or.inl (hw _ (List.mem_of_getElem? (i := 46) rfl))) (Or.inl (hw _ (List.mem_of_getElem? (i := 19) rfl))) (by decide) (t := .int) (t' := (.array .int)) (by decide) (by decide)))
  have f66_4 := Fld.other W66 f64_4 (Or.inr (slot_ne (Or.inl (hw _ (List.mem_of_getElem? (i := 64) rfl))) (Or.inl (hw _ (List.mem_of_getElem? (i := 19) rfl))) (by decide) (t := .int) (t' := (.array .int)) (by decide) (by decide)))
  have f66_5 := Fld.other W66 f64_5 (Or.inr (slot_ne (Or.inl (hw _ (List.mem_of_getElem? (i := 33) rfl))) (Or.inl (hw _ (List.mem_of_getElem? (i := 19) rfl))) (by decide) (t := .int) (t' := (.array .int)) (by decide) (by decide)))
  have f66_6 := Fld.same W66 f64_6
  have f66_7 := Fld.other W66 f64_7 (Or.inr (slot_ne (Or.inl (hw _ (List.mem_of_getElem? (i := 29) rfl))) (Or.inl (hw _ (List.mem_of_getElem? (i := 19) rfl))) (by decide) (t := (.array .int)) (t' := (.array .int)) (by decide) (by decide)))
  have f66_8 := Fld.other W66 f64_8 (Or.inr (slot_ne (Or.inl (hw _ (List.mem_of_getElem? (i := 31) rfl))) (Or.inl (hw _ (List.mem_of_getElem? (i := 19) rfl))) (by decide) (t := (.array .int)) (t' := (.array .int)) (by decide) (by decide)))
  have f66_9 := Fld.other W66 f64_9 (Or.inr (slot_ne (Or.inl (hw _ (List.mem_of_getElem? (i := 35) rfl))) (Or.inl (hw _ (List.mem_of_getElem? (i := 19) rfl))) (by decide) (t := (.array .int)) (t' := (.array .int)) (by decide) (by decide)))
  have f66_10 := V64.other W66 (Ne.symm ne_p0_b6)
  have Z66 : n0 ≤ h66.size := Nat.le_trans Z64 (Keep.of_wr W66).1
  have N66 := Fr.snoc X66 N0 gp
  have pre67 : ∀ t, Steps p.tables e below (T66.setTop (mkF m 11 #[.val (.ref p0), .val (.int p1)] [])) t → Steps p.tables e below (s₁.setTop (entryFrame m #[(.ref p0), (.int p1)] 2)) t := fun t kont => pre65 t (st66 _ kont)
  have pre68 : ∀ t, Steps p.tables e below (T66.setTop (mkF m 14 #[.val (.ref p0), .val (.int p1)] [(.int (16 : Int32)), (.ref p0)])) t → Steps p.tables e below (s₁.setTop (entryFrame m #[(.ref p0), (.int p1)] 2)) t := by
    intro t kont
    refine pre67 t ?_
    show Steps p.tables e below (T66.setTop (mkF m 11 #[.val (.ref p0), .val (.int p1)] [])) _
    refine XS.aloadN X66.here hx rfl (hb hby d2_11) rfl rfl ?_
    show Steps p.tables e below (T66.setTop (mkF m 12 #[.val (.ref p0), .val (.int p1)] [(.ref p0)])) _
    refine XS.bipush X66.here hx rfl (hb hby d2_12) ?_
    exact kont
  obtain ⟨_, _, ⟨T69, L69, k69, n69⟩, -, X69, ⟨Lc69, hQ69, l69, y69, z69⟩, st69⟩ := Jvm.LawKit.callS X66 hx (y := (⟨"com/example/impronta/impronta/engine/Alignments", "emptySlots", "(I)[I"⟩ : MethodName)) hown (mvT hZ (hw _ (List.mem_of_getElem? (i := 20) rfl))) (mvT hZ (hw _ (List.mem_of_getElem? (i := 21) rfl))) (mvT hZ (hw _ (List.mem_of_getElem? (i := 10) rfl))) (mvT hZ (hw _ (List.mem_of_getElem? (i := 22) rfl))) (by decide) (backOf (W := 1) (rm4 l Z a0 hw []   h66 n0 Z66) hZ (hw _ (List.mem_of_getElem? (i := 22) rfl)) (hw _ (List.mem_of_getElem? (i := 10) rfl)) (by decide) (by decide)) (g := (mkF m 14 #[.val (.ref p0), .val (.int p1)] [(.int (16 : Int32)), (.ref p0)])) rfl (by rw [hml]; rfl) (argsL := [(.int (16 : Int32))]) (rest := [(.ref p0)]) (lenOf pd_1 rfl) rfl (by show 2 * 0 + _ ≤ _; exact Nat.le_of_eq rfl) (hb hby d2_14) (fun _ _ => ⟨rfl, e66, (by decide : 1 + 1 ≤ _), (by decide : 0 + 16 ≤ _)⟩)
  dsimp only [Pt.U, Pt.locs, Pt.cells, Pt.slots] at X69 l69 y69 z69 st69 hQ69
  subst l69 y69 z69
  obtain ⟨bs69, rfl, S69, N69q, K69, V69⟩ := hQ69
  have N69 := Fr.app N66 N69q
  have g_bs69 : n0 ≤ bs69 := Nat.le_trans Z66 S69
  have ne_p0_bs69 : p0 ≠ bs69 := Nat.ne_of_lt (Nat.lt_of_lt_of_le (f66_0).lt S69)
  have ne_b6_bs69 : b6 ≠ bs69 := Nat.ne_of_lt (Nat.lt_of_lt_of_le (f66_10).lt S69)
  have f69_0 := Exa.keep f66_0 K69
  have f69_1 := Fld.keep f66_1 K69 nin0
  have f69_2 := Fld.keep f66_2 K69 nin0
  have f69_3 := Fld.keep f66_3 K69 nin0
  have f69_4 := Fld.keep f66_4 K69 nin0
  have f69_5 := Fld.keep f66_5 K69 nin0
  have f69_6 := Fld.keep f66_6 K69 nin0
  have f69_7 := Fld.keep f66_7 K69 nin0
  have f69_8 := Fld.keep f66_8 K69 nin0
  have f69_9 := Fld.keep f66_9 K69 nin0
  have f69_10 := f66_10.keep K69 nin0
  have Z69 : n0 ≤ T69.heap.size := Nat.le_trans Z66 (K69).1
  have pre70 : ∀ t, Steps p.tables e below (T69.setTop (mkF m 17 #[.val (.ref p0), .val (.int p1)] [(.ref bs69), (.ref p0)])) t → Steps p.tables e below (s₁.setTop (entryFrame m #[(.ref p0), (.int p1)] 2)) t := fun t kont => pre68 t (st69 _ kont)
  obtain ⟨T71, h71, X71, e71, W71, st71⟩ := putF X69 hx hZ hown (host := "") (Or.inl (hw _ (List.mem_of_getElem? (i := 28) rfl))) Via.refl rfl f69_7 f69_0 (Or.inl (hw _ (List.mem_of_getElem? (i := 29) rfl))) (hw _ (List.mem_of_getElem? (i := 9) rfl)) (ty := (.array .int)) (by decide) rfl rfl (g := (mkF m 17 #[.val (.ref p0), .val (.int p1)] [(.ref bs69), (.ref p0)])) rfl rfl (hb hby d2_17)
  have f71_0 := Exa.wr W71 f69_0
  have f71_1 := Fld.other W71 f69_1 (Or.inr (slot_ne (Or.inr (hw _ (List.mem_of_getElem? (i := 37) rfl))) (Or.inl (hw _ (List.mem_of_getElem? (i := 29) rfl))) (by decide) (t := .int) (t' := (.array .int)) (by decide) (by decide)))
  have f71_2 := Fld.other W71 f69_2 (Or.inr (slot_ne (Or.inl (hw _ (List.mem_of_getElem? (i := 44) rfl))) (Or.inl (hw _ (List.mem_of_getElem? (i := 29) rfl))) (by decide) (t := .boolean) (t' := (.array .int)) (by decide) (by decide)))
  have f71_3 := Fld.other W71 f69_3 (Or.inr (slot_ne (Or.inl (hw _ (List.mem_of_getElem? (i := 46) rfl))) (Or.inl (hw _ (List.mem_of_getElem? (i := 29) rfl))) (by decide) (t := .int) (t' := (.array .int)) (by decide) (by decide)))
  have f71_4 := Fld.other W71 f69_4 (Or.inr (slot_ne (Or.inl (hw _ (List.mem_of_getElem? (i := 64) rfl))) (Or.inl (hw _ (List.mem_of_getElem? (i := 29) rfl))) (by decide) (t := .int) (t' := (.array .int)) (by decide) (by decide)))
  have f71_5 := Fld.other W71 f69_5 (Or.inr (slot_ne (Or.inl (hw _ (List.mem_of_getElem? (i := 33) rfl))) (Or.inl (hw _ (List.mem_of_getElem? (i := 29) rfl))) (by decide) (t := .int) (t' := (.array .int)) (by decide) (by decide)))
  have f71_6 := Fld.other W71 f69_6 (Or.inr (slot_ne (Or.inl (hw _ (List.mem_of_getElem? (i := 19) rfl))) (Or.inl (hw _ (List.mem_of_getElem? (i := 29) rfl))) (by decide) (t := (.array .int)) (t' := (.array .int)) (by decide) (by decide)))
  have f71_7 := Fld.same W71 f69_7
  have f71_8 := Fld.other W71 f69_8 (Or.inr (slot_ne (Or.inl (hw _ (List.mem_of_getElem? (i := 31) rfl))) (Or.inl (hw _ (List.mem_of_getElem? (i := 29) rfl))) (by decide) (t := (.array .int)) (t' := (.array .int)) (by decide) (by decide)))
  have f71_9 := Fld.other W71 f69_9 (Or.inr (slot_ne (Or.inl (hw _ (List.mem_of_getElem? (i := 35) rfl))) (Or.inl (hw _ (List.mem_of_getElem? (i := 29) rfl))) (by decide) (t := (.array .int)) (t' := (.array .int)) (by decide) (by decide)))
  have f71_10 := f69_10.other W71 (Ne.symm ne_p0_b6)
  have f71_11 := V69.other W71 (Ne.symm ne_p0_bs69)
  have Z71 : n0 ≤ h71.size := Nat.le_trans Z69 (Keep.of_wr W71).1
  have N71 := Fr.snoc X71 N69 gp
  have pre72 : ∀ t, Steps p.tables e below (T71.setTop (mkF m 20 #[.val (.ref p0), .val (.int p1)] [])) t → Steps p.tables e below (s₁.setTop (entryFrame m #[(.ref p0), (.int p1)] 2)) t := fun t kont => pre70 t (st71 _ kont)
  have pre73 : ∀ t, Steps p.tables e below (T71.setTop (mkF m 23 #[.val (.ref p0), .val (.int p1)] [(.int (16 : Int32)), (.ref p0)])) t → Steps p.tables e below (s₁.setTop (entryFrame m #[(.ref p0), (.int p1)] 2)) t := by
    intro t kont
    refine pre72 t ?_
    show Steps p.tables e below (T71.setTop (mkF m 20 #[.val (.ref p0), .val (.int p1)] [])) _
    refine XS.aloadN X71.here hx rfl (hb hby d2_20) rfl rfl ?_
    show Steps p.tables e below (T71.setTop (mkF m 21 #[.val (.ref p0), .val (.int p1)] [(.ref p0)])) _
    refine XS.bipush X71.here hx rfl (hb hby d2_21) ?_
    exact kont
  obtain ⟨T74, h74, k74, X74, e74, E74, A74, st74⟩ := newP X71 hx hZ (hw _ (List.mem_of_getElem? (i := 17) rfl)) e71 (g := (mkF m 23 #[.val (.ref p0), .val (.int p1)] [(.int (16 : Int32)), (.ref p0)])) rfl (hb hby d2_23) rfl (by decide) (cap := 16) (by decide) (by decide) (by decide) (by decide)
  obtain ⟨b23, g74⟩ : ∃ z, z = h71.size := ⟨_, rfl⟩
  rw [← g74] at A74 st74
  have g_b23 : n0 ≤ b23 := Nat.le_trans Z71 (Nat.le_of_eq g74.symm)
  have ne_p0_b23 : p0 ≠ b23 := Nat.ne_of_lt (Nat.lt_of_lt_of_le (f71_0).lt (Nat.le_of_eq g74.symm))
  have ne_b6_b23 : b6 ≠ b23 := Nat.ne_of_lt (Nat.lt_of_lt_of_le (f71_10).lt (Nat.le_of_eq g74.symm))
  have ne_bs69_b23 : bs69 ≠ b23 := Nat.ne_of_lt (Nat.lt_of_lt_of_le (f71_11).lt (Nat.le_of_eq g74.symm))
  have f74_0 := Exa.ext E74 f71_0
  have f74_1 := Fld.ext E74 f71_1
  have f74_2 := Fld.ext E74 f71_2
  have f74_3 := Fld.ext E74 f71_3
  have f74_4 := Fld.ext E74 f71_4
  have f74_5 := Fld.ext E74 f71_5
  have f74_6 := Fld.ext E74 f71_6
  have f74_7 := Fld.ext E74 f71_7
  have f74_8 := Fld.ext E74 f71_8
  have f74_9 := Fld.ext E74 f71_9
  have f74_10 := f71_10.ext E74
  have f74_11 := f71_11.ext E74
  have V74 := own_arr.newI A74 (i := 16) rfl
  have Z74 : n0 ≤ h74.size := Nat.le_trans Z71 E74.1
  have pre75 : ∀ t, Steps p.tables e below (T74.setTop (mkF m 25 #[.val (.ref p0), .val (.int p1)] [(.ref b23), (.ref p0)])) t → Steps p.tables e below (s₁.setTop (entryFrame m #[(.ref p0), (.int p1)] 2)) t := fun t kont => pre73 t (st74 _ kont)
  obtain ⟨T76, h76, X76, e76, W76, st76⟩ := putF X74 hx hZ hown (host := "") (Or.inl (hw _ (List.mem_of_getElem? (i := 30) rfl))) Via.refl e74 f74_8 f74_0 (Or.inl (hw _ (List.mem_of_getElem? (i := 31) rfl))) (hw _ (List.mem_of_getElem? (i := 9) rfl)) (ty := (.array .int)) (by decide) rfl rfl (g := (mkF m 25 #[.val (.ref p0), .val (.int p1)] [(.ref b23), (.ref p0)])) rfl rfl (hb hby d2_25)
  have f76_0 := Exa.wr W76 f74_0
  have f76_1 := Fld.other W76 f74_1 (Or.inr (slot_ne (Or.inr (hw _ (List.mem_of_getElem? (i := 37) rfl))) (Or.inl (hw _ (List.mem_of_getElem? (i := 31) rfl))) (by decide) (t := .int) (t' := (.array .int)) (by decide) (by decide)))
  have f76_2 := Fld.other W76 f74_2 (Or.inr (slot_ne (Or.inl (hw _ (List.mem_of_getElem? (i := 44) rfl))) (Or.inl (hw _ (List.mem_of_getElem? (i := 31) rfl))) (by decide) (t := .boolean) (t' := (.array .int)) (by decide) (by decide)))
  have f76_3 := Fld.other W76 f74_3 (Or.inr (slot_ne (Or.inl (hw _ (List.mem_of_getElem? (i := 46) rfl))) (Or.inl (hw _ (List.mem_of_getElem? (i := 31) rfl))) (by decide) (t := .int) (t' := (.array .int)) (by decide) (by decide)))
  have f76_4 := Fld.other W76 f74_4 (Or.inr (slot_ne (Or.inl (hw _ (List.mem_of_getElem? (i := 64) rfl))) (Or.inl (hw _ (List.mem_of_getElem? (i := 31) rfl))) (by decide) (t := .int) (t' := (.array .int)) (by decide) (by decide)))
  have f76_5 := Fld.other W76 f74_5 (Or.inr (slot_ne (Or.inl (hw _ (List.mem_of_getElem? (i := 33) rfl))) (Or.inl (hw _ (List.mem_of_getElem? (i := 31) rfl))) (by decide) (t := .int) (t' := (.array .int)) (by decide) (by decide)))
  have f76_6 := Fld.other W76 f74_6 (Or.inr (slot_ne (Or.inl (hw _ (List.mem_of_getElem? (i := 19) rfl))) (Or.inl (hw _ (List.mem_of_getElem? (i := 31) rfl))) (by decide) (t := (.array .int)) (t' := (.array .int)) (by decide) (by decide)))
  have f76_7 := Fld.other W76 f74_7 (Or.inr (slot_ne (Or.inl (hw _ (List.mem_of_getElem? (i := 29) rfl))) (Or.inl (hw _ (List.mem_of_getElem? (i := 31) rfl))) (by decide) (t := (.array .int)) (t' := (.array .int)) (by decide) (by decide)))
  have f76_8 := Fld.same W76 f74_8
  have f76_9 := Fld.other W76 f74_9 (Or.inr (slot_ne (Or.inl (hw _ (List.mem_of_getElem? (i := 35) rfl))) (Or.inl (hw _ (List.mem_of_getElem? (i := 31) rfl))) (by decide) (t := (.array .int)) (t' := (.array .int)) (by decide) (by decide)))
  have f76_10 := f74_10.other W76 (Ne.symm ne_p0_b6)
  have f76_11 := f74_11.other W76 (Ne.symm ne_p0_bs69)
  have f76_12 := V74.other W76 (Ne.symm ne_p0_b23)
  have Z76 : n0 ≤ h76.size := Nat.le_trans Z74 (Keep.of_wr W76).1
  have N76 := Fr.snoc X76 N71 gp
  have pre77 : ∀ t, Steps p.tables e below (T76.setTop (mkF m 28 #[.val (.ref p0), .val (.int p1)] [])) t → Steps p.tables e below (s₁.setTop (entryFrame m #[(.ref p0), (.int p1)] 2)) t := fun t kont => pre75 t (st76 _ kont)
  have pre78 : ∀ t, Steps p.tables e below (T76.setTop (mkF m 31 #[.val (.ref p0), .val (.int p1)] [(.int (28 : Int32)), (.ref p0)])) t → Steps p.tables e below (s₁.setTop (entryFrame m #[(.ref p0), (.int p1)] 2)) t := by
    intro t kont
    refine pre77 t ?_
    show Steps p.tables e below (T76.setTop (mkF m 28 #[.val (.ref p0), .val (.int p1)] [])) _
    refine XS.aloadN X76.here hx rfl (hb hby d2_28) rfl rfl ?_
    show Steps p.tables e below (T76.setTop (mkF m 29 #[.val (.ref p0), .val (.int p1)] [(.ref p0)])) _
    refine XS.bipush X76.here hx rfl (hb hby d2_29) ?_
    exact kont
  obtain ⟨T79, h79, X79, e79, W79, st79⟩ := putF X76 hx hZ hown (host := "") (Or.inl (hw _ (List.mem_of_getElem? (i := 32) rfl))) Via.refl e76 f76_5 f76_0 (Or.inl (hw _ (List.mem_of_getElem? (i := 33) rfl))) (hw _ (List.mem_of_getElem? (i := 9) rfl)) (ty := .int) (by decide) rfl rfl (g := (mkF m 31 #[.val (.ref p0), .val (.int p1)] [(.int (28 : Int32)), (.ref p0)])) rfl rfl (hb hby d2_31)
  have f79_0 := Exa.wr W79 f76_0
  have f79_1 := Fld.other W79 f76_1 (Or.inr (slot_ne (Or.inr (hw _ (List.mem_of_getElem? (i := 37) rfl))) (Or.inl (hw _ (List.mem_of_getElem? (i := 33) rfl))) (by decide) (t := .int) (t' := .int) (by decide) (by decide)))
  have f79_2 := Fld.other W79 f76_2 (Or.inr (slot_ne (Or.inl (hw _ (List.mem_of_getElem? (i := 44) rfl))) (Or.inl (hw _ (List.mem_of_getElem? (i := 33) rfl))) (by decide) (t := .boolean) (t' := .int) (by decide) (by decide)))
  have f79_3 := Fld.other W79 f76_3 (Or.inr (slot_ne (Or.inl (hw _ (List.mem_of_getElem? (i := 46) rfl))) (Or.inl (hw _ (List.mem_of_getElem? (i := 33) rfl))) (by decide) (t := .int) (t' := .int) (by decide) (by decide)))
  have f79_4 := Fld.other W79 f76_4 (Or.inr (slot_ne (Or.inl (hw _ (List.mem_of_getElem? (i := 64) rfl))) (Or.inl (hw _ (List.mem_of_getElem? (i := 33) rfl))) (by decide) (t := .int) (t' := .int) (by decide) (by decide)))
  have f79_5 := Fld.same W79 f76_5
  have f79_6 := Fld.other W79 f76_6 (Or.inr (slot_ne (Or.inl (hw _ (List.mem_of_getElem? (i := 19) rfl))) (Or.inl (hw _ (List.mem_of_getElem? (i := 33) rfl))) (by decide) (t := (.array .int)) (t' := .int) (by decide) (by decide)))
  have f79_7 := Fld.other W79 f76_7 (Or.inr (slot_ne (Or.inl (hw _ (List.mem_of_getElem? (i := 29) rfl))) (Or.inl (hw _ (List.mem_of_getElem? (i := 33) rfl))) (by decide) (t := (.array .int)) (t' := .int) (by decide) (by decide)))
  have f79_8 := Fld.other W79 f76_8 (Or.inr (slot_ne (Or.inl (hw _ (List.mem_of_getElem? (i := 31) rfl))) (Or.inl (hw _ (List.mem_of_getElem? (i := 33) rfl))) (by decide) (t := (.array .int)) (t' := .int) (by decide) (by decide)))
  have f79_9 := Fld.other W79 f76_9 (Or.inr (slot_ne (Or.inl (hw _ (List.mem_of_getElem? (i := 35) rfl))) (Or.inl (hw _ (List.mem_of_getElem? (i := 33) rfl))) (by decide) (t := (.array .int)) (t' := .int) (by decide) (by decide)))
  have f79_10 := f76_10.other W79 (Ne.symm ne_p0_b6)
  have f79_11 := f76_11.other W79 (Ne.symm ne_p0_bs69)
  have f79_12 := f76_12.other W79 (Ne.symm ne_p0_b23)
  have Z79 : n0 ≤ h79.size := Nat.le_trans Z76 (Keep.of_wr W79).1
  have N79 := Fr.snoc X79 N76 gp
  have pre80 : ∀ t, Steps p.tables e below (T79.setTop (mkF m 34 #[.val (.ref p0), .val (.int p1)] [])) t → Steps p.tables e below (s₁.setTop (entryFrame m #[(.ref p0), (.int p1)] 2)) t := fun t kont => pre78 t (st79 _ kont)
  have pre81 : ∀ t, Steps p.tables e below (T79.setTop (mkF m 37 #[.val (.ref p0), .val (.int p1)] [(.int (8 : Int32)), (.ref p0)])) t → Steps p.tables e below (s₁.setTop (entryFrame m #[(.ref p0), (.int p1)] 2)) t := by
    intro t kont
    refine pre80 t ?_
    show Steps p.tables e below (T79.setTop (mkF m 34 #[.val (.ref p0), .val (.int p1)] [])) _
    refine XS.aloadN X79.here hx rfl (hb hby d2_34) rfl rfl ?_
    show Steps p.tables e below (T79.setTop (mkF m 35 #[.val (.ref p0), .val (.int p1)] [(.ref p0)])) _
    refine XS.bipush X79.here hx rfl (hb hby d2_35) ?_
    exact kont
  obtain ⟨T82, h82, k82, X82, e82, E82, A82, st82⟩ := newP X79 hx hZ (hw _ (List.mem_of_getElem? (i := 17) rfl)) e79 (g := (mkF m 37 #[.val (.ref p0), .val (.int p1)] [(.int (8 : Int32)), (.ref p0)])) rfl (hb hby d2_37) rfl (by decide) (cap := 8) (by decide) (by decide) (by decide) (by decide)
  obtain ⟨b37, g82⟩ : ∃ z, z = h79.size := ⟨_, rfl⟩
  rw [← g82] at A82 st82
  have g_b37 : n0 ≤ b37 := Nat.le_trans Z79 (Nat.le_of_eq g82.symm)
  have ne_p0_b37 : p0 ≠ b37 := Nat.ne_of_lt (Nat.lt_of_lt_of_le (f79_0).lt (Nat.le_of_eq g82.symm))
  have ne_b6_b37 : b6 ≠ b37 := Nat.ne_of_lt (Nat.lt_of_lt_of_le (f79_10).lt (Nat.le_of_eq g82.symm))
  have ne_bs69_b37 : bs69 ≠ b37 := Nat.ne_of_lt (Nat.lt_of_lt_of_le (f79_11).lt (Nat.le_of_eq g82.symm))
  have ne_b23_b37 : b23 ≠ b37 := Nat.ne_of_lt (Nat.lt_of_lt_of_le (f79_12).lt (Nat.le_of_eq g82.symm))
  have f82_0 := Exa.ext E82 f79_0
  have f82_1 := Fld.ext E82 f79_1
  have f82_2 := Fld.ext E82 f79_2
  have f82_3 := Fld.ext E82 f79_3
  have f82_4 := Fld.ext E82 f79_4
  have f82_5 := Fld.ext E82 f79_5
  have f82_6 := Fld.ext E82 f79_6
  have f82_7 := Fld.ext E82 f79_7
  have f82_8 := Fld.ext E82 f79_8
  have f82_9 := Fld.ext E82 f79_9
  have f82_10 := f79_10.ext E82
  have f82_11 := f79_11.ext E82
  have f82_12 := f79_12.ext E82
  have V82 := own_arr.newI A82 (i := 8) rfl
  have Z82 : n0 ≤ h82.size := Nat.le_trans Z79 E82.1
  have pre83 : ∀ t, Steps p.tables e below (T82.setTop (mkF m 39 #[.val (.ref p0), .val (.int p1)] [(.ref b37), (.ref p0)])) t → Steps p.tables e below (s₁.setTop (entryFrame m #[(.ref p0), (.int p1)] 2)) t := fun t kont => pre81 t (st82 _ kont)
  obtain ⟨T84, h84, X84, e84, W84, st84⟩ := putF X82 hx hZ hown (host := "") (Or.inl (hw _ (List.mem_of_getElem? (i := 34) rfl))) Via.refl e82 f82_9 f82_0 (Or.inl (hw _ (List.mem_of_getElem? (i := 35) rfl))) (hw _ (List.mem_of_getElem? (i := 9) rfl)) (ty := (.array .int)) (by decide) rfl rfl (g := (mkF m 39 #[.val (.ref p0), .val (.int p1)] [(.ref b37), (.ref p0)])) rfl rfl (hb hby d2_39)
  have f84_0 := Exa.wr W84 f82_0
  have f84_1 := Fld.other W84 f82_1 (Or.inr (slot_ne (Or.inr (hw _ (List.mem_of_getElem? (i := 37) rfl))) (Or.inl (hw _ (List.mem_of_getElem? (i := 35) rfl))) (by decide) (t := .int) (t' := (.array .int)) (by decide) (by decide)))
  have f84_2 := Fld.other W84 f82_2 (Or.inr (slot_ne (Or.inl (hw _ (List.mem_of_getElem? (i := 44) rfl))) (Or.inl (hw _ (List.mem_of_getElem? (i := 35) rfl))) (by decide) (t := .boolean) (t' := (.array .int)) (by decide) (by decide)))
  have f84_3 := Fld.other W84 f82_3 (Or.inr (slot_ne (Or.inl (hw _ (List.mem_of_getElem? (i := 46) rfl))) (Or.inl (hw _ (List.mem_of_getElem? (i := 35) rfl))) (by decide) (t := .int) (t' := (.array .int)) (by decide) (by decide)))
  have f84_4 := Fld.other W84 f82_4 (Or.inr (slot_ne (Or.inl (hw _ (List.mem_of_getElem? (i := 64) rfl))) (Or.inl (hw _ (List.mem_of_getElem? (i := 35) rfl))) (by decide) (t := .int) (t' := (.array .int)) (by decide) (by decide)))
  have f84_5 := Fld.other W84 f82_5 (Or.inr (slot_ne (Or.inl (hw _ (List.mem_of_getElem? (i := 33) rfl))) (Or.inl (hw _ (List.mem_of_getElem? (i := 35) rfl))) (by decide) (t := .int) (t' := (.array .int)) (by decide) (by decide)))
  have f84_6 := Fld.other W84 f82_6 (Or.inr (slot_ne (Or.inl (hw _ (List.mem_of_getElem? (i := 19) rfl))) (Or.inl (hw _ (List.mem_of_getElem? (i := 35) rfl))) (by decide) (t := (.array .int)) (t' := (.array .int)) (by decide) (by decide)))
  have f84_7 := Fld.other W84 f82_7 (Or.inr (slot_ne (Or.inl (hw _ (List.mem_of_getElem? (i := 29) rfl))) (Or.inl (hw _ (List.mem_of_getElem? (i := 35) rfl))) (by decide) (t := (.array .int)) (t' := (.array .int)) (by decide) (by decide)))
  have f84_8 := Fld.other W84 f82_8 (Or.inr (slot_ne (Or.inl (hw _ (List.mem_of_getElem? (i := 31) rfl))) (Or.inl (hw _ (List.mem_of_getElem? (i := 35) rfl))) (by decide) (t := (.array .int)) (t' := (.array .int)) (by decide) (by decide)))
  have f84_9 := Fld.same W84 f82_9
  have f84_10 := f82_10.other W84 (Ne.symm ne_p0_b6)
  have f84_11 := f82_11.other W84 (Ne.symm ne_p0_bs69)
  have f84_12 := f82_12.other W84 (Ne.symm ne_p0_b23)
  have f84_13 := V82.other W84 (Ne.symm ne_p0_b37)
  have Z84 : n0 ≤ h84.size := Nat.le_trans Z82 (Keep.of_wr W84).1
  have N84 := Fr.snoc X84 N79 gp
  have pre85 : ∀ t, Steps p.tables e below (T84.setTop (mkF m 42 #[.val (.ref p0), .val (.int p1)] [])) t → Steps p.tables e below (s₁.setTop (entryFrame m #[(.ref p0), (.int p1)] 2)) t := fun t kont => pre83 t (st84 _ kont)
  have pre86 : ∀ t, Steps p.tables e below (T84.setTop (mkF m 44 #[.val (.ref p0), .val (.int p1)] [(.int p1), (.ref p0)])) t → Steps p.tables e below (s₁.setTop (entryFrame m #[(.ref p0), (.int p1)] 2)) t := by
    intro t kont
    refine pre85 t ?_
    show Steps p.tables e below (T84.setTop (mkF m 42 #[.val (.ref p0), .val (.int p1)] [])) _
    refine XS.aloadN X84.here hx rfl (hb hby d2_42) rfl rfl ?_
    show Steps p.tables e below (T84.setTop (mkF m 43 #[.val (.ref p0), .val (.int p1)] [(.ref p0)])) _
    refine XS.iloadN X84.here hx rfl (hb hby d2_43) rfl ?_
    exact kont
  obtain ⟨T87, h87, X87, e87, W87, st87⟩ := putF X84 hx hZ hown (host := "") (Or.inl (hw _ (List.mem_of_getElem? (i := 36) rfl))) Via.refl e84 f84_1 f84_0 (Or.inr ⟨(hw _ (List.mem_of_getElem? (i := 37) rfl)), rfl, hnm⟩) (hw _ (List.mem_of_getElem? (i := 9) rfl)) (ty := .int) (by decide) rfl rfl (g := (mkF m 44 #[.val (.ref p0), .val (.int p1)] [(.int p1), (.ref p0)])) rfl rfl (hb hby d2_44)
  have f87_0 := Exa.wr W87 f84_0
  have f87_1 := Fld.same W87 f84_1
  have f87_2 := Fld.other W87 f84_2 (Or.inr (slot_ne (Or.inl (hw _ (List.mem_of_getElem? (i := 44) rfl))) (Or.inr (hw _ (List.mem_of_getElem? (i := 37) rfl))) (by decide) (t := .boolean) (t' := .int) (by decide) (by decide)))
  have f87_3 := Fld.other W87 f84_3 (Or.inr (slot_ne (Or.inl (hw _ (List.mem_of_getElem? (i := 46) rfl))) (Or.inr (hw _ (List.mem_of_getElem? (i := 37) rfl))) (by decide) (t := .int) (t' := .int) (by decide) (by decide)))
  have f87_4 := Fld.other W87 f84_4 (Or.inr (slot_ne (Or.inl (hw _ (List.mem_of_getElem? (i := 64) rfl))) (Or.inr (hw _ (List.mem_of_getElem? (i := 37) rfl))) (by decide) (t := .int) (t' := .int) (by decide) (by decide)))
  have f87_5 := Fld.other W87 f84_5 (Or.inr (slot_ne (Or.inl (hw _ (List.mem_of_getElem? (i := 33) rfl))) (Or.inr (hw _ (List.mem_of_getElem? (i := 37) rfl))) (by decide) (t := .int) (t' := .int) (by decide) (by decide)))
  have f87_6 := Fld.other W87 f84_6 (Or.inr (slot_ne (Or.inl (hw _ (List.mem_of_getElem? (i := 19) rfl))) (Or.inr (hw _ (List.mem_of_getElem? (i := 37) rfl))) (by decide) (t := (.array .int)) (t' := .int) (by decide) (by decide)))
  have f87_7 := Fld.other W87 f84_7 (Or.inr (slot_ne (Or.inl (hw _ (List.mem_of_getElem? (i := 29) rfl))) (Or.inr (hw _ (List.mem_of_getElem? (i := 37) rfl))) (by decide) (t := (.array .int)) (t' := .int) (by decide) (by decide)))
  have f87_8 := Fld.other W87 f84_8 (Or.inr (slot_ne (Or.inl (hw _ (List.mem_of_getElem? (i := 31) rfl))) (Or.inr (hw _ (List.mem_of_getElem? (i := 37) rfl))) (by decide) (t := (.array .int)) (t' := .int) (by decide) (by decide)))
  have f87_9 := Fld.other W87 f84_9 (Or.inr (slot_ne (Or.inl (hw _ (List.mem_of_getElem? (i := 35) rfl))) (Or.inr (hw _ (List.mem_of_getElem? (i := 37) rfl))) (by decide) (t := (.array .int)) (t' := .int) (by decide) (by decide)))
  have f87_10 := f84_10.other W87 (Ne.symm ne_p0_b6)
  have f87_11 := f84_11.other W87 (Ne.symm ne_p0_bs69)
  have f87_12 := f84_12.other W87 (Ne.symm ne_p0_b23)
  have f87_13 := f84_13.other W87 (Ne.symm ne_p0_b37)
  have Z87 : n0 ≤ h87.size := Nat.le_trans Z84 (Keep.of_wr W87).1
  have N87 := Fr.snoc X87 N84 gp
  have pre88 : ∀ t, Steps p.tables e below (T87.setTop (mkF m 47 #[.val (.ref p0), .val (.int p1)] [])) t → Steps p.tables e below (s₁.setTop (entryFrame m #[(.ref p0), (.int p1)] 2)) t := fun t kont => pre86 t (st87 _ kont)
  obtain ⟨fs, hr, hrun, hended, hW, hsame⟩ := X87.leave (v := none) (fun _ => rfl)
  refine ⟨_, _, pre88 _ ?_, hrun, hended, _, _, rfl, ?_, ⟨_, rfl⟩, hW, hsame.mono (by decide) (by decide)⟩
  · exact X87.returnOut hx Bd.returns (hb hby d2_47) hr
  · show Q2 Z p0 p1 h0 n0 _ T87.heap _
    rw [e87]
    exact ⟨rfl, N87, Z87, b6, bs69, b23, b37, ⟨f87_0, f87_1, f87_2, f87_3, f87_4, f87_5, f87_6, f87_7, f87_8, f87_9, f87_10, f87_11, f87_12, f87_13, ⟨ne_p0_b6, ne_p0_bs69, ne_p0_b23, ne_p0_b37, ne_b6_bs69, ne_b6_b23, ne_b6_b37, ne_bs69_b23, ne_bs69_b37, ne_b23_b37⟩, ⟨gp, g_b6, g_bs69, g_b23, g_b37⟩⟩⟩
def own_probe (ga : Nat → Int32) (a : Int32) : Int32 := if ga (((a * (-1640531527 : Int32)).toUInt32 >>> ((28 : Int32) &&& 31).toUInt32).toInt32).toNatClampNeg = a then (((a * (-1640531527 : Int32)).toUInt32 >>> ((28 : Int32) &&& 31).toUInt32).toInt32) else if ga (((a * (-1640531527 : Int32)).toUInt32 >>> ((28 : Int32) &&& 31).toUInt32).toInt32).toNatClampNeg = (-2147483648 : Int32) then (((a * (-1640531527 : Int32)).toUInt32 >>> ((28 : Int32) &&& 31).toUInt32).toInt32) else (if ga (((((a * (-1640531527 : Int32)).toUInt32 >>> ((28 : Int32) &&& 31).toUInt32).toInt32) + (1 : Int32)) &&& (15 : Int32)).toNatClampNeg = a then (((((a * (-1640531527 : Int32)).toUInt32 >>> ((28 : Int32) &&& 31).toUInt32).toInt32) + (1 : Int32)) &&& (15 : Int32)) else if ga (((((a * (-1640531527 : Int32)).toUInt32 >>> ((28 : Int32) &&& 31).toUInt32).toInt32) + (1 : Int32)) &&& (15 : Int32)).toNatClampNeg = (-2147483648 : Int32) then (((((a * (-1640531527 : Int32)).toUInt32 >>> ((28 : Int32) &&& 31).toUInt32).toInt32) + (1 : Int32)) &&& (15 : Int32)) else (if ga (((((((a * (-1640531527 : Int32)).toUInt32 >>> ((28 : Int32) &&& 31).toUInt32).toInt32) + (1 : Int32)) &&& (15 : Int32)) + (1 : Int32)) &&& (15 : Int32)).toNatClampNeg = a then (((((((a * (-1640531527 : Int32)).toUInt32 >>> ((28 : Int32) &&& 31).toUInt32).toInt32) + (1 : Int32)) &&& (15 : Int32)) + (1 : Int32)) &&& (15 : Int32)) else if ga (((((((a * (-1640531527 : Int32)).toUInt32 >>> ((28 : Int32) &&& 31).toUInt32).toInt32) + (1 : Int32)) &&& (15 : Int32)) + (1 : Int32)) &&& (15 : Int32)).toNatClampNeg = (-2147483648 : Int32) then (((((((a * (-1640531527 : Int32)).toUInt32 >>> ((28 : Int32) &&& 31).toUInt32).toInt32) + (1 : Int32)) &&& (15 : Int32)) + (1 : Int32)) &&& (15 : Int32)) else ((0 : Int32))))
def own_slot (ow lw : Int32) (ga : Nat → Int32) (a : Int32) : Int32 := if ow = (0 : Int32) then own_probe ga a else a - lw
theorem d7_0 : decode prog_18_method_3_code 0 = .ok (.aload_n 0, 1) := by decide +kernel
theorem d7_1 : decode prog_18_method_3_code 1 = .ok (.getfield 35, 3) := by decide +kernel
theorem d7_4 : decode prog_18_method_3_code 4 = .ok (.ifCond .eq 10, 3) := by decide +kernel
theorem d7_14 : decode prog_18_method_3_code 14 = .ok (.aload_n 0, 1) := by decide +kernel
theorem d7_15 : decode prog_18_method_3_code 15 = .ok (.getfield 19, 3) := by decide +kernel
theorem d7_18 : decode prog_18_method_3_code 18 = .ok (.arraylength, 1) := by decide +kernel
theorem d7_19 : decode prog_18_method_3_code 19 = .ok (.iconst 1, 1) := by decide +kernel
theorem d7_20 : decode prog_18_method_3_code 20 = .ok (.isub, 1) := by decide +kernel
theorem d7_21 : decode prog_18_method_3_code 21 = .ok (.istore_n 2, 1) := by decide +kernel
theorem d7_22 : decode prog_18_method_3_code 22 = .ok (.iload_n 1, 1) := by decide +kernel
theorem d7_23 : decode prog_18_method_3_code 23 = .ok (.ldc 42, 2) := by decide +kernel
theorem d7_25 : decode prog_18_method_3_code 25 = .ok (.imul, 1) := by decide +kernel
theorem d7_26 : decode prog_18_method_3_code 26 = .ok (.aload_n 0, 1) := by decide +kernel
theorem d7_27 : decode prog_18_method_3_code 27 = .ok (.getfield 25, 3) := by decide +kernel
theorem d7_30 : decode prog_18_method_3_code 30 = .ok (.iushr, 1) := by decide +kernel
theorem d7_31 : decode prog_18_method_3_code 31 = .ok (.istore_n 3, 1) := by decide +kernel
theorem d7_32 : decode prog_18_method_3_code 32 = .ok (.aload_n 0, 1) := by decide +kernel
theorem d7_33 : decode prog_18_method_3_code 33 = .ok (.getfield 19, 3) := by decide +kernel
theorem d7_36 : decode prog_18_method_3_code 36 = .ok (.iload_n 3, 1) := by decide +kernel
theorem d7_37 : decode prog_18_method_3_code 37 = .ok (.iaload, 1) := by decide +kernel
theorem d7_38 : decode prog_18_method_3_code 38 = .ok (.iload_n 1, 1) := by decide +kernel
theorem d7_39 : decode prog_18_method_3_code 39 = .ok (.if_icmp .eq 23, 3) := by decide +kernel
theorem d7_62 : decode prog_18_method_3_code 62 = .ok (.iload_n 3, 1) := by decide +kernel
theorem d7_63 : decode prog_18_method_3_code 63 = .ok (.ireturn, 1) := by decide +kernel
theorem d7_42 : decode prog_18_method_3_code 42 = .ok (.aload_n 0, 1) := by decide +kernel
theorem d7_43 : decode prog_18_method_3_code 43 = .ok (.getfield 19, 3) := by decide +kernel
theorem d7_46 : decode prog_18_method_3_code 46 = .ok (.iload_n 3, 1) := by decide +kernel
theorem d7_47 : decode prog_18_method_3_code 47 = .ok (.iaload, 1) := by decide +kernel
theorem d7_48 : decode prog_18_method_3_code 48 = .ok (.ldc 43, 2) := by decide +kernel
theorem d7_50 : decode prog_18_method_3_code 50 = .ok (.if_icmp .eq 12, 3) := by decide +kernel
theorem d7_53 : decode prog_18_method_3_code 53 = .ok (.iload_n 3, 1) := by decide +kernel
theorem d7_54 : decode prog_18_method_3_code 54 = .ok (.iconst 1, 1) := by decide +kernel
theorem d7_55 : decode prog_18_method_3_code 55 = .ok (.iadd, 1) := by decide +kernel
theorem d7_56 : decode prog_18_method_3_code 56 = .ok (.iload_n 2, 1) := by decide +kernel
theorem d7_57 : decode prog_18_method_3_code 57 = .ok (.iand, 1) := by decide +kernel
theorem d7_58 : decode prog_18_method_3_code 58 = .ok (.istore_n 3, 1) := by decide +kernel
theorem d7_59 : decode prog_18_method_3_code 59 = .ok (.goto (-27), 3) := by decide +kernel
theorem d7_7 : decode prog_18_method_3_code 7 = .ok (.iload_n 1, 1) := by decide +kernel
theorem d7_8 : decode prog_18_method_3_code 8 = .ok (.aload_n 0, 1) := by decide +kernel
theorem d7_9 : decode prog_18_method_3_code 9 = .ok (.getfield 39, 3) := by decide +kernel
theorem d7_12 : decode prog_18_method_3_code 12 = .ok (.isub, 1) := by decide +kernel
theorem d7_13 : decode prog_18_method_3_code 13 = .ok (.ireturn, 1) := by decide +kernel
theorem ef_7 (m : MethodId) (x0 : Addr) (x1 : Int32) : entryFrame m #[(.ref x0), (.int x1)] 4 = mkF m 0 #[.val (.ref x0), .val (.int x1), .unset, .unset] [] := by first | (simp [entryFrame, mkF, argsToLocals, Value.category]; done) | rfl
def Q7 (Z : State) (p0 : Addr) (p1 : Int32) (be : Addr) (ba : Addr) (bn : Addr) (bf : Addr) (dr : Int32) (ow : Int32) (lw : Int32) (sz : Int32) (ne : Nat) (ge : Nat → Int32) (ga : Nat → Int32) (gn : Nat → Int32) (gf : Nat → Int32) (h0 : Heap) (n0 : Nat) (v : Option Value) (h : Heap) (L : List Loc) : Prop := v = some (.int (own_slot ow lw ga p1)) ∧ Fr n0 L ∧ h = h0
set_option maxRecDepth 65536 in
set_option maxHeartbeats 40000000 in
theorem rm7 (l : Launch) (Z : State) (a0 : Array Value) (hw : ∀ d ∈ tables_1, d.before a0 Z = true) (ws : List Jvm.Cond) (p0 : Addr) (p1 : Int32) (be : Addr) (ba : Addr) (bn : Addr) (bf : Addr) (dr : Int32) (ow : Int32) (lw : Int32) (sz : Int32) (ne : Nat) (ge : Nat → Int32) (ga : Nat → Int32) (gn : Nat → Int32) (gf : Nat → Int32) (h0 : Heap) (n0 : Nat) (Z0 : n0 ≤ h0.size) (Hal : own_al Z h0 n0 p0 be ba bn bf dr ow lw sz ne ge ga gn gf) (hE : ow = (0 : Int32) → ga (((p1 * (-1640531527 : Int32)).toUInt32 >>> ((28 : Int32) &&& 31).toUInt32).toInt32).toNatClampNeg = (-2147483648 : Int32) ∨ ga (((((p1 * (-1640531527 : Int32)).toUInt32 >>> ((28 : Int32) &&& 31).toUInt32).toInt32) + (1 : Int32)) &&& (15 : Int32)).toNatClampNeg = (-2147483648 : Int32) ∨ ga (((((((p1 * (-1640531527 : Int32)).toUInt32 >>> ((28 : Int32) &&& 31).toUInt32).toInt32) + (1 : Int32)) &&& (15 : Int32)) + (1 : Int32)) &&& (15 : Int32)).toNatClampNeg = (-2147483648 : Int32)) :
    MetFree l (⟨"com/example/impronta/impronta/engine/Alignments", "slot", "(I)I"⟩ : MethodName) (head1 (Jvm.Cond.code (⟨"com/example/impronta/impronta/engine/Alignments", "slot", "(I)I"⟩ : MethodName) prog_18_method_3_code 4 (some .int) :: ws) ({ frames := 0, cells := 0, slots := 0, locals := 0 } : Room)) (fun a U => a = #[(.ref p0), (.int p1)] ∧ Z.Warmed39 U.vm ∧ U.heap = h0) (fun _ _ _ _ _ => True) (fun _ U o U' => ∃ v L, o = .returned v ∧ Q7 Z p0 p1 be ba bn bf dr ow lw sz ne ge ga gn gf h0 n0 v U'.heap L ∧ FrameEnd U o U' L ({ frames := 0, cells := 0, slots := 0, locals := 0 } : Room).cells ({ frames := 0, cells := 0, slots := 0, locals := 0 } : Room).slots) := by
  refine MetFree.of_bodySF (plainFor_of_name pn_4) hisR ?_
  intro p e s m args below meth c s₁ Bd hml0 hP hK
  obtain ⟨rfl, hZ, hh⟩ := hP
  have hx := Bd.exec
  have hby := Bd.bytes
  have hml : c.maxLocals = 4 := hml0
  have hown : s.vm.findClass "com/example/impronta/impronta/engine/Alignments" = some m.cls := findClass_of_methodNamed Bd.named
  have hnm := (name_of_methodNamed Bd.named Bd.method).1
  have X0 : Stand p l e ({ frames := 0, cells := 0, slots := 0, locals := 0 } : Room) s m #[(.ref p0), (.int p1)] below meth c s₁ [] 0 0 := Stand.of_body Bd
  have e0 : s₁.heap = h0 := by rw [← hh, Bd.state]; rfl
  have N0 := Fr.nil n0
  have pre0 : ∀ t, Steps p.tables e below (s₁.setTop (mkF m 0 #[.val (.ref p0), .val (.int p1), .unset, .unset] [])) t → Steps p.tables e below (s₁.setTop (entryFrame m #[(.ref p0), (.int p1)] 4)) t := fun t k => castTop (ef_7 m p0 p1) k
  obtain ⟨qE, q_direct, q_ownSlots, q_lowest, q_size, q_shift, q_endsByAlignment, q_alignments, q_ends, q_filled, Ve, Va, Vn, Vf, ⟨d0, d1, d2, d3, d4, d5, d6, d7, d8, d9⟩, ⟨g0, g1, g2, g3, g4⟩⟩ := id Hal
  have pre89 : ∀ t, Steps p.tables e below (s₁.setTop (mkF m 1 #[.val (.ref p0), .val (.int p1), .unset, .unset] [(.ref p0)])) t → Steps p.tables e below (s₁.setTop (entryFrame m #[(.ref p0), (.int p1)] 4)) t := by
    intro t kont
    refine pre0 t ?_
    show Steps p.tables e below (s₁.setTop (mkF m 0 #[.val (.ref p0), .val (.int p1), .unset, .unset] [])) _
    refine XS.aloadN X0.here hx rfl (hb hby d7_0) rfl rfl ?_
    exact kont
  obtain ⟨T90, X90, e90, st90⟩ := getF X0 hx hZ hown (host := "") (Or.inl (hw _ (List.mem_of_getElem? (i := 43) rfl))) Via.refl e0 q_ownSlots (g := (mkF m 1 #[.val (.ref p0), .val (.int p1), .unset, .unset] [(.ref p0)])) rfl rfl (hb hby d7_1)
  have pre91 : ∀ t, Steps p.tables e below (T90.setTop (mkF m 4 #[.val (.ref p0), .val (.int p1), .unset, .unset] [(.int ow)])) t → Steps p.tables e below (s₁.setTop (entryFrame m #[(.ref p0), (.int p1)] 4)) t := fun t kont => pre89 t (st90 _ kont)
  by_cases hc4 : ow = (0 : Int32)
  · have pre92 : ∀ t, Steps p.tables e below (T90.setTop (mkF m 15 #[.val (.ref p0), .val (.int p1), .unset, .unset] [(.ref p0)])) t → Steps p.tables e below (s₁.setTop (entryFrame m #[(.ref p0), (.int p1)] 4)) t := by
      intro t kont
      refine pre91 t ?_
      show Steps p.tables e below (T90.setTop (mkF m 4 #[.val (.ref p0), .val (.int p1), .unset, .unset] [(.int ow)])) _
      refine XS.ifYes X90.here hx rfl (pc0 := 4) (pc' := 14) rfl (hb hby d7_4) rfl ((if0 _ _).trans (teq hc4).1) (by decide) (by decide) ?_
      show Steps p.tables e below (T90.setTop (mkF m 14 #[.val (.ref p0), .val (.int p1), .unset, .unset] [])) _
      refine XS.aloadN X90.here hx rfl (hb hby d7_14) rfl rfl ?_
      exact kont
    obtain ⟨T93, X93, e93, st93⟩ := getF X90 hx hZ hown (host := "") (Or.inl (hw _ (List.mem_of_getElem? (i := 28) rfl))) Via.refl e90 q_alignments (g := (mkF m 15 #[.val (.ref p0), .val (.int p1), .unset, .unset] [(.ref p0)])) rfl rfl (hb hby d7_15)
    have pre94 : ∀ t, Steps p.tables e below (T93.setTop (mkF m 18 #[.val (.ref p0), .val (.int p1), .unset, .unset] [(.ref ba)])) t → Steps p.tables e below (s₁.setTop (entryFrame m #[(.ref p0), (.int p1)] 4)) t := fun t kont => pre92 t (st93 _ kont)
    have pre95 : ∀ t, Steps p.tables e below (T93.setTop (mkF m 27 #[.val (.ref p0), .val (.int p1), .val (.int (15 : Int32)), .unset] [(.ref p0), (.int (p1 * (-1640531527 : Int32)))])) t → Steps p.tables e below (s₁.setTop (entryFrame m #[(.ref p0), (.int p1)] 4)) t := by
      intro t kont
      refine pre94 t ?_
      show Steps p.tables e below (T93.setTop (mkF m 18 #[.val (.ref p0), .val (.int p1), .unset, .unset] [(.ref ba)])) _
      refine own_len X93 hx hZ e93 Va (z := (16 : Int32)) (by decide) (fr := (mkF m 18 #[.val (.ref p0), .val (.int p1), .unset, .unset] [(.ref ba)])) rfl rfl (hb hby d7_18) _ ?_
      show Steps p.tables e below (T93.setTop (mkF m 19 #[.val (.ref p0), .val (.int p1), .unset, .unset] [(.int (16 : Int32))])) _
      refine XS.iconst X93.here hx rfl (hb hby d7_19) ?_
      show Steps p.tables e below (T93.setTop (mkF m 20 #[.val (.ref p0), .val (.int p1), .unset, .unset] [(.int (1 : Int32)), (.int (16 : Int32))])) _
      refine XS.isub X93.here hx rfl (hb hby d7_20) rfl ?_
      show Steps p.tables e below (T93.setTop (mkF m 21 #[.val (.ref p0), .val (.int p1), .unset, .unset] [(.int (15 : Int32))])) _
      refine XS.istoreN X93.here hx rfl (hb hby d7_21) rfl (l' := #[.val (.ref p0), .val (.int p1), .val (.int (15 : Int32)), .unset]) rfl ?_
      show Steps p.tables e below (T93.setTop (mkF m 22 #[.val (.ref p0), .val (.int p1), .val (.int (15 : Int32)), .unset] [])) _
      refine XS.iloadN X93.here hx rfl (hb hby d7_22) rfl ?_
      show Steps p.tables e below (T93.setTop (mkF m 23 #[.val (.ref p0), .val (.int p1), .val (.int (15 : Int32)), .unset] [(.int p1)])) _
      refine X93.ldcInt hx hown (mvT hZ (hw _ (List.mem_of_getElem? (i := 52) rfl))) (g := (mkF m 23 #[.val (.ref p0), .val (.int p1), .val (.int (15 : Int32)), .unset] [(.int p1)])) rfl (hb hby d7_23) _ ?_
      show Steps p.tables e below (T93.setTop (mkF m 25 #[.val (.ref p0), .val (.int p1), .val (.int (15 : Int32)), .unset] [(.int (-1640531527 : Int32)), (.int p1)])) _
      refine XS.imul X93.here hx rfl (hb hby d7_25) rfl ?_
      show Steps p.tables e below (T93.setTop (mkF m 26 #[.val (.ref p0), .val (.int p1), .val (.int (15 : Int32)), .unset] [(.int (p1 * (-1640531527 : Int32)))])) _
      refine XS.aloadN X93.here hx rfl (hb hby d7_26) rfl rfl ?_
      exact kont
    obtain ⟨T96, X96, e96, st96⟩ := getF X93 hx hZ hown (host := "") (Or.inl (hw _ (List.mem_of_getElem? (i := 32) rfl))) Via.refl e93 q_shift (g := (mkF m 27 #[.val (.ref p0), .val (.int p1), .val (.int (15 : Int32)), .unset] [(.ref p0), (.int (p1 * (-1640531527 : Int32)))])) rfl rfl (hb hby d7_27)
    have pre97 : ∀ t, Steps p.tables e below (T96.setTop (mkF m 30 #[.val (.ref p0), .val (.int p1), .val (.int (15 : Int32)), .unset] [(.int (28 : Int32)), (.int (p1 * (-1640531527 : Int32)))])) t → Steps p.tables e below (s₁.setTop (entryFrame m #[(.ref p0), (.int p1)] 4)) t := fun t kont => pre95 t (st96 _ kont)
    have pre98 : ∀ t, Steps p.tables e below (T96.setTop (mkF m 33 #[.val (.ref p0), .val (.int p1), .val (.int (15 : Int32)), .val (.int (((p1 * (-1640531527 : Int32)).toUInt32 >>> ((28 : Int32) &&& 31).toUInt32).toInt32))] [(.ref p0)])) t → Steps p.tables e below (s₁.setTop (entryFrame m #[(.ref p0), (.int p1)] 4)) t := by
      intro t kont
      refine pre97 t ?_
      show Steps p.tables e below (T96.setTop (mkF m 30 #[.val (.ref p0), .val (.int p1), .val (.int (15 : Int32)), .unset] [(.int (28 : Int32)), (.int (p1 * (-1640531527 : Int32)))])) _
      refine XS.iushr X96.here hx rfl (hb hby d7_30) rfl ?_
      show Steps p.tables e below (T96.setTop (mkF m 31 #[.val (.ref p0), .val (.int p1), .val (.int (15 : Int32)), .unset] [(.int (((p1 * (-1640531527 : Int32)).toUInt32 >>> ((28 : Int32) &&& 31).toUInt32).toInt32))])) _
      refine XS.istoreN X96.here hx rfl (hb hby d7_31) rfl (l' := #[.val (.ref p0), .val (.int p1), .val (.int (15 : Int32)), .val (.int (((p1 * (-1640531527 : Int32)).toUInt32 >>> ((28 : Int32) &&& 31).toUInt32).toInt32))]) rfl ?_
      show Steps p.tables e below (T96.setTop (mkF m 32 #[.val (.ref p0), .val (.int p1), .val (.int (15 : Int32)), .val (.int (((p1 * (-1640531527 : Int32)).toUInt32 >>> ((28 : Int32) &&& 31).toUInt32).toInt32))] [])) _
      refine XS.aloadN X96.here hx rfl (hb hby d7_32) rfl rfl ?_
      exact kont
    obtain ⟨T99, X99, e99, st99⟩ := getF X96 hx hZ hown (host := "") (Or.inl (hw _ (List.mem_of_getElem? (i := 28) rfl))) Via.refl e96 q_alignments (g := (mkF m 33 #[.val (.ref p0), .val (.int p1), .val (.int (15 : Int32)), .val (.int (((p1 * (-1640531527 : Int32)).toUInt32 >>> ((28 : Int32) &&& 31).toUInt32).toInt32))] [(.ref p0)])) rfl rfl (hb hby d7_33)
    have pre100 : ∀ t, Steps p.tables e below (T99.setTop (mkF m 36 #[.val (.ref p0), .val (.int p1), .val (.int (15 : Int32)), .val (.int (((p1 * (-1640531527 : Int32)).toUInt32 >>> ((28 : Int32) &&& 31).toUInt32).toInt32))] [(.ref ba)])) t → Steps p.tables e below (s₁.setTop (entryFrame m #[(.ref p0), (.int p1)] 4)) t := fun t kont => pre98 t (st99 _ kont)
    have pre101 : ∀ t, Steps p.tables e below (T99.setTop (mkF m 39 #[.val (.ref p0), .val (.int p1), .val (.int (15 : Int32)), .val (.int (((p1 * (-1640531527 : Int32)).toUInt32 >>> ((28 : Int32) &&& 31).toUInt32).toInt32))] [(.int p1), (.int (ga ((((p1 * (-1640531527 : Int32)).toUInt32 >>> ((28 : Int32) &&& 31).toUInt32).toInt32).toNatClampNeg)))])) t → Steps p.tables e below (s₁.setTop (entryFrame m #[(.ref p0), (.int p1)] 4)) t := by
      intro t kont
      refine pre100 t ?_
      show Steps p.tables e below (T99.setTop (mkF m 36 #[.val (.ref p0), .val (.int p1), .val (.int (15 : Int32)), .val (.int (((p1 * (-1640531527 : Int32)).toUInt32 >>> ((28 : Int32) &&& 31).toUInt32).toInt32))] [(.ref ba)])) _
      refine XS.iloadN X99.here hx rfl (hb hby d7_36) rfl ?_
      show Steps p.tables e below (T99.setTop (mkF m 37 #[.val (.ref p0), .val (.int p1), .val (.int (15 : Int32)), .val (.int (((p1 * (-1640531527 : Int32)).toUInt32 >>> ((28 : Int32) &&& 31).toUInt32).toInt32))] [(.int (((p1 * (-1640531527 : Int32)).toUInt32 >>> ((28 : Int32) &&& 31).toUInt32).toInt32)), (.ref ba)])) _
      refine own_ldI X99 hx hZ e99 Va (k := (((p1 * (-1640531527 : Int32)).toUInt32 >>> ((28 : Int32) &&& 31).toUInt32).toInt32).toNatClampNeg) (own_home p1).1 rfl (own_home p1).2 (fr := (mkF m 37 #[.val (.ref p0), .val (.int p1), .val (.int (15 : Int32)), .val (.int (((p1 * (-1640531527 : Int32)).toUInt32 >>> ((28 : Int32) &&& 31).toUInt32).toInt32))] [(.int (((p1 * (-1640531527 : Int32)).toUInt32 >>> ((28 : Int32) &&& 31).toUInt32).toInt32)), (.ref ba)])) rfl rfl (hb hby d7_37) _ ?_
      show Steps p.tables e below (T99.setTop (mkF m 38 #[.val (.ref p0), .val (.int p1), .val (.int (15 : Int32)), .val (.int (((p1 * (-1640531527 : Int32)).toUInt32 >>> ((28 : Int32) &&& 31).toUInt32).toInt32))] [(.int (ga ((((p1 * (-1640531527 : Int32)).toUInt32 >>> ((28 : Int32) &&& 31).toUInt32).toInt32).toNatClampNeg)))])) _
      refine XS.iloadN X99.here hx rfl (hb hby d7_38) rfl ?_
      exact kont
    by_cases hc39 : (ga ((((p1 * (-1640531527 : Int32)).toUInt32 >>> ((28 : Int32) &&& 31).toUInt32).toInt32).toNatClampNeg)) = p1
    · have pre102 : ∀ t, Steps p.tables e below (T99.setTop (mkF m 63 #[.val (.ref p0), .val (.int p1), .val (.int (15 : Int32)), .val (.int (((p1 * (-1640531527 : Int32)).toUInt32 >>> ((28 : Int32) &&& 31).toUInt32).toInt32))] [(.int (((p1 * (-1640531527 : Int32)).toUInt32 >>> ((28 : Int32) &&& 31).toUInt32).toInt32))])) t → Steps p.tables e below (s₁.setTop (entryFrame m #[(.ref p0), (.int p1)] 4)) t := by
        intro t kont
        refine pre101 t ?_
        show Steps p.tables e below (T99.setTop (mkF m 39 #[.val (.ref p0), .val (.int p1), .val (.int (15 : Int32)), .val (.int (((p1 * (-1640531527 : Int32)).toUInt32 >>> ((28 : Int32) &&& 31).toUInt32).toInt32))] [(.int p1), (.int (ga ((((p1 * (-1640531527 : Int32)).toUInt32 >>> ((28 : Int32) &&& 31).toUInt32).toInt32).toNatClampNeg)))])) _
        refine XS.icmpYes X99.here hx rfl (pc0 := 39) (pc' := 62) rfl (hb hby d7_39) rfl (teq hc39).1 (by decide) (by decide) ?_
        show Steps p.tables e below (T99.setTop (mkF m 62 #[.val (.ref p0), .val (.int p1), .val (.int (15 : Int32)), .val (.int (((p1 * (-1640531527 : Int32)).toUInt32 >>> ((28 : Int32) &&& 31).toUInt32).toInt32))] [])) _
        refine XS.iloadN X99.here hx rfl (hb hby d7_62) rfl ?_
        exact kont
      obtain ⟨fs, hr, hrun, hended, hW, hsame⟩ := X99.leave (v := some (.int (((p1 * (-1640531527 : Int32)).toUInt32 >>> ((28 : Int32) &&& 31).toUInt32).toInt32))) (fun h => by rw [Bd.returns] at h; cases h)
      refine ⟨_, _, pre102 _ ?_, hrun, hended, _, _, rfl, ?_, ⟨_, rfl⟩, hW, hsame.mono (by decide) (by decide)⟩
      · exact retI X99 hx Bd.returns (hb hby d7_63) hr
      · show Q7 Z p0 p1 be ba bn bf dr ow lw sz ne ge ga gn gf h0 n0 _ T99.heap _
        rw [e99]
        refine ⟨?_, N0, rfl⟩
        unfold own_slot; rw [if_pos hc4]; unfold own_probe; rw [if_pos hc39]
    · have pre103 : ∀ t, Steps p.tables e below (T99.setTop (mkF m 43 #[.val (.ref p0), .val (.int p1), .val (.int (15 : Int32)), .val (.int (((p1 * (-1640531527 : Int32)).toUInt32 >>> ((28 : Int32) &&& 31).toUInt32).toInt32))] [(.ref p0)])) t → Steps p.tables e below (s₁.setTop (entryFrame m #[(.ref p0), (.int p1)] 4)) t := by
        intro t kont
        refine pre101 t ?_
        show Steps p.tables e below (T99.setTop (mkF m 39 #[.val (.ref p0), .val (.int p1), .val (.int (15 : Int32)), .val (.int (((p1 * (-1640531527 : Int32)).toUInt32 >>> ((28 : Int32) &&& 31).toUInt32).toInt32))] [(.int p1), (.int (ga ((((p1 * (-1640531527 : Int32)).toUInt32 >>> ((28 : Int32) &&& 31).toUInt32).toInt32).toNatClampNeg)))])) _
        refine XS.icmpNo X99.here hx rfl (hb hby d7_39) rfl (feq hc39).1 ?_
        show Steps p.tables e below (T99.setTop (mkF m 42 #[.val (.ref p0), .val (.int p1), .val (.int (15 : Int32)), .val (.int (((p1 * (-1640531527 : Int32)).toUInt32 >>> ((28 : Int32) &&& 31).toUInt32).toInt32))] [])) _
        refine XS.aloadN X99.here hx rfl (hb hby d7_42) rfl rfl ?_
        exact kont
      obtain ⟨T104, X104, e104, st104⟩ := getF X99 hx hZ hown (host := "") (Or.inl (hw _ (List.mem_of_getElem? (i := 28) rfl))) Via.refl e99 q_alignments (g := (mkF m 43 #[.val (.ref p0), .val (.int p1), .val (.int (15 : Int32)), .val (.int (((p1 * (-1640531527 : Int32)).toUInt32 >>> ((28 : Int32) &&& 31).toUInt32).toInt32))] [(.ref p0)])) rfl rfl (hb hby d7_43)
      have pre105 : ∀ t, Steps p.tables e below (T104.setTop (mkF m 46 #[.val (.ref p0), .val (.int p1), .val (.int (15 : Int32)), .val (.int (((p1 * (-1640531527 : Int32)).toUInt32 >>> ((28 : Int32) &&& 31).toUInt32).toInt32))] [(.ref ba)])) t → Steps p.tables e below (s₁.setTop (entryFrame m #[(.ref p0), (.int p1)] 4)) t := fun t kont => pre103 t (st104 _ kont)
      have pre106 : ∀ t, Steps p.tables e below (T104.setTop (mkF m 50 #[.val (.ref p0), .val (.int p1), .val (.int (15 : Int32)), .val (.int (((p1 * (-1640531527 : Int32)).toUInt32 >>> ((28 : Int32) &&& 31).toUInt32).toInt32))] [(.int (-2147483648 : Int32)), (.int (ga ((((p1 * (-1640531527 : Int32)).toUInt32 >>> ((28 : Int32) &&& 31).toUInt32).toInt32).toNatClampNeg)))])) t → Steps p.tables e below (s₁.setTop (entryFrame m #[(.ref p0), (.int p1)] 4)) t := by
        intro t kont
        refine pre105 t ?_
        show Steps p.tables e below (T104.setTop (mkF m 46 #[.val (.ref p0), .val (.int p1), .val (.int (15 : Int32)), .val (.int (((p1 * (-1640531527 : Int32)).toUInt32 >>> ((28 : Int32) &&& 31).toUInt32).toInt32))] [(.ref ba)])) _
        refine XS.iloadN X104.here hx rfl (hb hby d7_46) rfl ?_
        show Steps p.tables e below (T104.setTop (mkF m 47 #[.val (.ref p0), .val (.int p1), .val (.int (15 : Int32)), .val (.int (((p1 * (-1640531527 : Int32)).toUInt32 >>> ((28 : Int32) &&& 31).toUInt32).toInt32))] [(.int (((p1 * (-1640531527 : Int32)).toUInt32 >>> ((28 : Int32) &&& 31).toUInt32).toInt32)), (.ref ba)])) _
        refine own_ldI X104 hx hZ e104 Va (k := (((p1 * (-1640531527 : Int32)).toUInt32 >>> ((28 : Int32) &&& 31).toUInt32).toInt32).toNatClampNeg) (own_home p1).1 rfl (own_home p1).2 (fr := (mkF m 47 #[.val (.ref p0), .val (.int p1), .val (.int (15 : Int32)), .val (.int (((p1 * (-1640531527 : Int32)).toUInt32 >>> ((28 : Int32) &&& 31).toUInt32).toInt32))] [(.int (((p1 * (-1640531527 : Int32)).toUInt32 >>> ((28 : Int32) &&& 31).toUInt32).toInt32)), (.ref ba)])) rfl rfl (hb hby d7_47) _ ?_
        show Steps p.tables e below (T104.setTop (mkF m 48 #[.val (.ref p0), .val (.int p1), .val (.int (15 : Int32)), .val (.int (((p1 * (-1640531527 : Int32)).toUInt32 >>> ((28 : Int32) &&& 31).toUInt32).toInt32))] [(.int (ga ((((p1 * (-1640531527 : Int32)).toUInt32 >>> ((28 : Int32) &&& 31).toUInt32).toInt32).toNatClampNeg)))])) _
        refine X104.ldcInt hx hown (mvT hZ (hw _ (List.mem_of_getElem? (i := 23) rfl))) (g := (mkF m 48 #[.val (.ref p0), .val (.int p1), .val (.int (15 : Int32)), .val (.int (((p1 * (-1640531527 : Int32)).toUInt32 >>> ((28 : Int32) &&& 31).toUInt32).toInt32))] [(.int (ga ((((p1 * (-1640531527 : Int32)).toUInt32 >>> ((28 : Int32) &&& 31).toUInt32).toInt32).toNatClampNeg)))])) rfl (hb hby d7_48) _ ?_
        exact kont
      by_cases hc50 : (ga ((((p1 * (-1640531527 : Int32)).toUInt32 >>> ((28 : Int32) &&& 31).toUInt32).toInt32).toNatClampNeg)) = (-2147483648 : Int32)
      · have pre107 : ∀ t, Steps p.tables e below (T104.setTop (mkF m 63 #[.val (.ref p0), .val (.int p1), .val (.int (15 : Int32)), .val (.int (((p1 * (-1640531527 : Int32)).toUInt32 >>> ((28 : Int32) &&& 31).toUInt32).toInt32))] [(.int (((p1 * (-1640531527 : Int32)).toUInt32 >>> ((28 : Int32) &&& 31).toUInt32).toInt32))])) t → Steps p.tables e below (s₁.setTop (entryFrame m #[(.ref p0), (.int p1)] 4)) t := by
          intro t kont
          refine pre106 t ?_
          show Steps p.tables e below (T104.setTop (mkF m 50 #[.val (.ref p0), .val (.int p1), .val (.int (15 : Int32)), .val (.int (((p1 * (-1640531527 : Int32)).toUInt32 >>> ((28 : Int32) &&& 31).toUInt32).toInt32))] [(.int (-2147483648 : Int32)), (.int (ga ((((p1 * (-1640531527 : Int32)).toUInt32 >>> ((28 : Int32) &&& 31).toUInt32).toInt32).toNatClampNeg)))])) _
          refine XS.icmpYes X104.here hx rfl (pc0 := 50) (pc' := 62) rfl (hb hby d7_50) rfl (teq hc50).1 (by decide) (by decide) ?_
          show Steps p.tables e below (T104.setTop (mkF m 62 #[.val (.ref p0), .val (.int p1), .val (.int (15 : Int32)), .val (.int (((p1 * (-1640531527 : Int32)).toUInt32 >>> ((28 : Int32) &&& 31).toUInt32).toInt32))] [])) _
          refine XS.iloadN X104.here hx rfl (hb hby d7_62) rfl ?_
          exact kont
        obtain ⟨fs, hr, hrun, hended, hW, hsame⟩ := X104.leave (v := some (.int (((p1 * (-1640531527 : Int32)).toUInt32 >>> ((28 : Int32) &&& 31).toUInt32).toInt32))) (fun h => by rw [Bd.returns] at h; cases h)
        refine ⟨_, _, pre107 _ ?_, hrun, hended, _, _, rfl, ?_, ⟨_, rfl⟩, hW, hsame.mono (by decide) (by decide)⟩
        · exact retI X104 hx Bd.returns (hb hby d7_63) hr
        · show Q7 Z p0 p1 be ba bn bf dr ow lw sz ne ge ga gn gf h0 n0 _ T104.heap _
          rw [e104]
          refine ⟨?_, N0, rfl⟩
          unfold own_slot; rw [if_pos hc4]; unfold own_probe; rw [if_neg hc39, if_pos hc50]
      · have pre108 : ∀ t, Steps p.tables e below (T104.setTop (mkF m 33 #[.val (.ref p0), .val (.int p1), .val (.int (15 : Int32)), .val (.int (((((p1 * (-1640531527 : Int32)).toUInt32 >>> ((28 : Int32) &&& 31).toUInt32).toInt32) + (1 : Int32)) &&& (15 : Int32)))] [(.ref p0)])) t → Steps p.tables e below (s₁.setTop (entryFrame m #[(.ref p0), (.int p1)] 4)) t := by
          intro t kont
          refine pre106 t ?_
          show Steps p.tables e below (T104.setTop (mkF m 50 #[.val (.ref p0), .val (.int p1), .val (.int (15 : Int32)), .val (.int (((p1 * (-1640531527 : Int32)).toUInt32 >>> ((28 : Int32) &&& 31).toUInt32).toInt32))] [(.int (-2147483648 : Int32)), (.int (ga ((((p1 * (-1640531527 : Int32)).toUInt32 >>> ((28 : Int32) &&& 31).toUInt32).toInt32).toNatClampNeg)))])) _
          refine XS.icmpNo X104.here hx rfl (hb hby d7_50) rfl (feq hc50).1 ?_
          show Steps p.tables e below (T104.setTop (mkF m 53 #[.val (.ref p0), .val (.int p1), .val (.int (15 : Int32)), .val (.int (((p1 * (-1640531527 : Int32)).toUInt32 >>> ((28 : Int32) &&& 31).toUInt32).toInt32))] [])) _
          refine XS.iloadN X104.here hx rfl (hb hby d7_53) rfl ?_
          show Steps p.tables e below (T104.setTop (mkF m 54 #[.val (.ref p0), .val (.int p1), .val (.int (15 : Int32)), .val (.int (((p1 * (-1640531527 : Int32)).toUInt32 >>> ((28 : Int32) &&& 31).toUInt32).toInt32))] [(.int (((p1 * (-1640531527 : Int32)).toUInt32 >>> ((28 : Int32) &&& 31).toUInt32).toInt32))])) _
          refine XS.iconst X104.here hx rfl (hb hby d7_54) ?_
          show Steps p.tables e below (T104.setTop (mkF m 55 #[.val (.ref p0), .val (.int p1), .val (.int (15 : Int32)), .val (.int (((p1 * (-1640531527 : Int32)).toUInt32 >>> ((28 : Int32) &&& 31).toUInt32).toInt32))] [(.int (1 : Int32)), (.int (((p1 * (-1640531527 : Int32)).toUInt32 >>> ((28 : Int32) &&& 31).toUInt32).toInt32))])) _
          refine XS.iadd X104.here hx rfl (hb hby d7_55) rfl ?_
          show Steps p.tables e below (T104.setTop (mkF m 56 #[.val (.ref p0), .val (.int p1), .val (.int (15 : Int32)), .val (.int (((p1 * (-1640531527 : Int32)).toUInt32 >>> ((28 : Int32) &&& 31).toUInt32).toInt32))] [(.int ((((p1 * (-1640531527 : Int32)).toUInt32 >>> ((28 : Int32) &&& 31).toUInt32).toInt32) + (1 : Int32)))])) _
          refine XS.iloadN X104.here hx rfl (hb hby d7_56) rfl ?_
          show Steps p.tables e below (T104.setTop (mkF m 57 #[.val (.ref p0), .val (.int p1), .val (.int (15 : Int32)), .val (.int (((p1 * (-1640531527 : Int32)).toUInt32 >>> ((28 : Int32) &&& 31).toUInt32).toInt32))] [(.int (15 : Int32)), (.int ((((p1 * (-1640531527 : Int32)).toUInt32 >>> ((28 : Int32) &&& 31).toUInt32).toInt32) + (1 : Int32)))])) _
          refine XS.iand X104.here hx rfl (hb hby d7_57) rfl ?_
          show Steps p.tables e below (T104.setTop (mkF m 58 #[.val (.ref p0), .val (.int p1), .val (.int (15 : Int32)), .val (.int (((p1 * (-1640531527 : Int32)).toUInt32 >>> ((28 : Int32) &&& 31).toUInt32).toInt32))] [(.int (((((p1 * (-1640531527 : Int32)).toUInt32 >>> ((28 : Int32) &&& 31).toUInt32).toInt32) + (1 : Int32)) &&& (15 : Int32)))])) _
          refine XS.istoreN X104.here hx rfl (hb hby d7_58) rfl (l' := #[.val (.ref p0), .val (.int p1), .val (.int (15 : Int32)), .val (.int (((((p1 * (-1640531527 : Int32)).toUInt32 >>> ((28 : Int32) &&& 31).toUInt32).toInt32) + (1 : Int32)) &&& (15 : Int32)))]) rfl ?_
          show Steps p.tables e below (T104.setTop (mkF m 59 #[.val (.ref p0), .val (.int p1), .val (.int (15 : Int32)), .val (.int (((((p1 * (-1640531527 : Int32)).toUInt32 >>> ((28 : Int32) &&& 31).toUInt32).toInt32) + (1 : Int32)) &&& (15 : Int32)))] [])) _
          refine XS.goto X104.here hx rfl (pc0 := 59) (pc' := 32) rfl (hb hby d7_59) (by decide) (by decide) ?_
          show Steps p.tables e below (T104.setTop (mkF m 32 #[.val (.ref p0), .val (.int p1), .val (.int (15 : Int32)), .val (.int (((((p1 * (-1640531527 : Int32)).toUInt32 >>> ((28 : Int32) &&& 31).toUInt32).toInt32) + (1 : Int32)) &&& (15 : Int32)))] [])) _
          refine XS.aloadN X104.here hx rfl (hb hby d7_32) rfl rfl ?_
          exact kont
        obtain ⟨T109, X109, e109, st109⟩ := getF X104 hx hZ hown (host := "") (Or.inl (hw _ (List.mem_of_getElem? (i := 28) rfl))) Via.refl e104 q_alignments (g := (mkF m 33 #[.val (.ref p0), .val (.int p1), .val (.int (15 : Int32)), .val (.int (((((p1 * (-1640531527 : Int32)).toUInt32 >>> ((28 : Int32) &&& 31).toUInt32).toInt32) + (1 : Int32)) &&& (15 : Int32)))] [(.ref p0)])) rfl rfl (hb hby d7_33)
        have pre110 : ∀ t, Steps p.tables e below (T109.setTop (mkF m 36 #[.val (.ref p0), .val (.int p1), .val (.int (15 : Int32)), .val (.int (((((p1 * (-1640531527 : Int32)).toUInt32 >>> ((28 : Int32) &&& 31).toUInt32).toInt32) + (1 : Int32)) &&& (15 : Int32)))] [(.ref ba)])) t → Steps p.tables e below (s₁.setTop (entryFrame m #[(.ref p0), (.int p1)] 4)) t := fun t kont => pre108 t (st109 _ kont)
        have pre111 : ∀ t, Steps p.tables e below (T109.setTop (mkF m 39 #[.val (.ref p0), .val (.int p1), .val (.int (15 : Int32)), .val (.int (((((p1 * (-1640531527 : Int32)).toUInt32 >>> ((28 : Int32) &&& 31).toUInt32).toInt32) + (1 : Int32)) &&& (15 : Int32)))] [(.int p1), (.int (ga ((((((p1 * (-1640531527 : Int32)).toUInt32 >>> ((28 : Int32) &&& 31).toUInt32).toInt32) + (1 : Int32)) &&& (15 : Int32)).toNatClampNeg)))])) t → Steps p.tables e below (s₁.setTop (entryFrame m #[(.ref p0), (.int p1)] 4)) t := by
          intro t kont
          refine pre110 t ?_
          show Steps p.tables e below (T109.setTop (mkF m 36 #[.val (.ref p0), .val (.int p1), .val (.int (15 : Int32)), .val (.int (((((p1 * (-1640531527 : Int32)).toUInt32 >>> ((28 : Int32) &&& 31).toUInt32).toInt32) + (1 : Int32)) &&& (15 : Int32)))] [(.ref ba)])) _
          refine XS.iloadN X109.here hx rfl (hb hby d7_36) rfl ?_
          show Steps p.tables e below (T109.setTop (mkF m 37 #[.val (.ref p0), .val (.int p1), .val (.int (15 : Int32)), .val (.int (((((p1 * (-1640531527 : Int32)).toUInt32 >>> ((28 : Int32) &&& 31).toUInt32).toInt32) + (1 : Int32)) &&& (15 : Int32)))] [(.int (((((p1 * (-1640531527 : Int32)).toUInt32 >>> ((28 : Int32) &&& 31).toUInt32).toInt32) + (1 : Int32)) &&& (15 : Int32))), (.ref ba)])) _
          refine own_ldI X109 hx hZ e109 Va (k := (((((p1 * (-1640531527 : Int32)).toUInt32 >>> ((28 : Int32) &&& 31).toUInt32).toInt32) + (1 : Int32)) &&& (15 : Int32)).toNatClampNeg) (own_nxt _).1 rfl (own_nxt _).2 (fr := (mkF m 37 #[.val (.ref p0), .val (.int p1), .val (.int (15 : Int32)), .val (.int (((((p1 * (-1640531527 : Int32)).toUInt32 >>> ((28 : Int32) &&& 31).toUInt32).toInt32) + (1 : Int32)) &&& (15 : Int32)))] [(.int (((((p1 * (-1640531527 : Int32)).toUInt32 >>> ((28 : Int32) &&& 31).toUInt32).toInt32) + (1 : Int32)) &&& (15 : Int32))), (.ref ba)])) rfl rfl (hb hby d7_37) _ ?_
          show Steps p.tables e below (T109.setTop (mkF m 38 #[.val (.ref p0), .val (.int p1), .val (.int (15 : Int32)), .val (.int (((((p1 * (-1640531527 : Int32)).toUInt32 >>> ((28 : Int32) &&& 31).toUInt32).toInt32) + (1 : Int32)) &&& (15 : Int32)))] [(.int (ga ((((((p1 * (-1640531527 : Int32)).toUInt32 >>> ((28 : Int32) &&& 31).toUInt32).toInt32) + (1 : Int32)) &&& (15 : Int32)).toNatClampNeg)))])) _
          refine XS.iloadN X109.here hx rfl (hb hby d7_38) rfl ?_
          exact kont
        by_cases hc39' : (ga ((((((p1 * (-1640531527 : Int32)).toUInt32 >>> ((28 : Int32) &&& 31).toUInt32).toInt32) + (1 : Int32)) &&& (15 : Int32)).toNatClampNeg)) = p1
        · have pre112 : ∀ t, Steps p.tables e below (T109.setTop (mkF m 63 #[.val (.ref p0), .val (.int p1), .val (.int (15 : Int32)), .val (.int (((((p1 * (-1640531527 : Int32)).toUInt32 >>> ((28 : Int32) &&& 31).toUInt32).toInt32) + (1 : Int32)) &&& (15 : Int32)))] [(.int (((((p1 * (-1640531527 : Int32)).toUInt32 >>> ((28 : Int32) &&& 31).toUInt32).toInt32) + (1 : Int32)) &&& (15 : Int32)))])) t → Steps p.tables e below (s₁.setTop (entryFrame m #[(.ref p0), (.int p1)] 4)) t := by
            intro t kont
            refine pre111 t ?_
            show Steps p.tables e below (T109.setTop (mkF m 39 #[.val (.ref p0), .val (.int p1), .val (.int (15 : Int32)), .val (.int (((((p1 * (-1640531527 : Int32)).toUInt32 >>> ((28 : Int32) &&& 31).toUInt32).toInt32) + (1 : Int32)) &&& (15 : Int32)))] [(.int p1), (.int (ga ((((((p1 * (-1640531527 : Int32)).toUInt32 >>> ((28 : Int32) &&& 31).toUInt32).toInt32) + (1 : Int32)) &&& (15 : Int32)).toNatClampNeg)))])) _
            refine XS.icmpYes X109.here hx rfl (pc0 := 39) (pc' := 62) rfl (hb hby d7_39) rfl (teq hc39').1 (by decide) (by decide) ?_
            show Steps p.tables e below (T109.setTop (mkF m 62 #[.val (.ref p0), .val (.int p1), .val (.int (15 : Int32)), .val (.int (((((p1 * (-1640531527 : Int32)).toUInt32 >>> ((28 : Int32) &&& 31).toUInt32).toInt32) + (1 : Int32)) &&& (15 : Int32)))] [])) _
            refine XS.iloadN X109.here hx rfl (hb hby d7_62) rfl ?_
            exact kont
          obtain ⟨fs, hr, hrun, hended, hW, hsame⟩ := X109.leave (v := some (.int (((((p1 * (-1640531527 : Int32)).toUInt32 >>> ((28 : Int32) &&& 31).toUInt32).toInt32) + (1 : Int32)) &&& (15 : Int32)))) (fun h => by rw [Bd.returns] at h; cases h)
          refine ⟨_, _, pre112 _ ?_, hrun, hended, _, _, rfl, ?_, ⟨_, rfl⟩, hW, hsame.mono (by decide) (by decide)⟩
          · exact retI X109 hx Bd.returns (hb hby d7_63) hr
          · show Q7 Z p0 p1 be ba bn bf dr ow lw sz ne ge ga gn gf h0 n0 _ T109.heap _
            rw [e109]
            refine ⟨?_, N0, rfl⟩
            unfold own_slot; rw [if_pos hc4]; unfold own_probe; rw [if_neg hc39, if_neg hc50, if_pos hc39']
        · have pre113 : ∀ t, Steps p.tables e below (T109.setTop (mkF m 43 #[.val (.ref p0), .val (.int p1), .val (.int (15 : Int32)), .val (.int (((((p1 * (-1640531527 : Int32)).toUInt32 >>> ((28 : Int32) &&& 31).toUInt32).toInt32) + (1 : Int32)) &&& (15 : Int32)))] [(.ref p0)])) t → Steps p.tables e below (s₁.setTop (entryFrame m #[(.ref p0), (.int p1)] 4)) t := by
            intro t kont
            refine pre111 t ?_
            show Steps p.tables e below (T109.setTop (mkF m 39 #[.val (.ref p0), .val (.int p1), .val (.int (15 : Int32)), .val (.int (((((p1 * (-1640531527 : Int32)).toUInt32 >>> ((28 : Int32) &&& 31).toUInt32).toInt32) + (1 : Int32)) &&& (15 : Int32)))] [(.int p1), (.int (ga ((((((p1 * (-1640531527 : Int32)).toUInt32 >>> ((28 : Int32) &&& 31).toUInt32).toInt32) + (1 : Int32)) &&& (15 : Int32)).toNatClampNeg)))])) _
            refine XS.icmpNo X109.here hx rfl (hb hby d7_39) rfl (feq hc39').1 ?_
            show Steps p.tables e below (T109.setTop (mkF m 42 #[.val (.ref p0), .val (.int p1), .val (.int (15 : Int32)), .val (.int (((((p1 * (-1640531527 : Int32)).toUInt32 >>> ((28 : Int32) &&& 31).toUInt32).toInt32) + (1 : Int32)) &&& (15 : Int32)))] [])) _
            refine XS.aloadN X109.here hx rfl (hb hby d7_42) rfl rfl ?_
            exact kont
          obtain ⟨T114, X114, e114, st114⟩ := getF X109 hx hZ hown (host := "") (Or.inl (hw _ (List.mem_of_getElem? (i := 28) rfl))) Via.refl e109 q_alignments (g := (mkF m 43 #[.val (.ref p0), .val (.int p1), .val (.int (15 : Int32)), .val (.int (((((p1 * (-1640531527 : Int32)).toUInt32 >>> ((28 : Int32) &&& 31).toUInt32).toInt32) + (1 : Int32)) &&& (15 : Int32)))] [(.ref p0)])) rfl rfl (hb hby d7_43)
          have pre115 : ∀ t, Steps p.tables e below (T114.setTop (mkF m 46 #[.val (.ref p0), .val (.int p1), .val (.int (15 : Int32)), .val (.int (((((p1 * (-1640531527 : Int32)).toUInt32 >>> ((28 : Int32) &&& 31).toUInt32).toInt32) + (1 : Int32)) &&& (15 : Int32)))] [(.ref ba)])) t → Steps p.tables e below (s₁.setTop (entryFrame m #[(.ref p0), (.int p1)] 4)) t := fun t kont => pre113 t (st114 _ kont)
          have pre116 : ∀ t, Steps p.tables e below (T114.setTop (mkF m 50 #[.val (.ref p0), .val (.int p1), .val (.int (15 : Int32)), .val (.int (((((p1 * (-1640531527 : Int32)).toUInt32 >>> ((28 : Int32) &&& 31).toUInt32).toInt32) + (1 : Int32)) &&& (15 : Int32)))] [(.int (-2147483648 : Int32)), (.int (ga ((((((p1 * (-1640531527 : Int32)).toUInt32 >>> ((28 : Int32) &&& 31).toUInt32).toInt32) + (1 : Int32)) &&& (15 : Int32)).toNatClampNeg)))])) t → Steps p.tables e below (s₁.setTop (entryFrame m #[(.ref p0), (.int p1)] 4)) t := by
            intro t kont
            refine pre115 t ?_
            show Steps p.tables e below (T114.setTop (mkF m 46 #[.val (.ref p0), .val (.int p1), .val (.int (15 : Int32)), .val (.int (((((p1 * (-1640531527 : Int32)).toUInt32 >>> ((28 : Int32) &&& 31).toUInt32).toInt32) + (1 : Int32)) &&& (15 : Int32)))] [(.ref ba)])) _
            refine XS.iloadN X114.here hx rfl (hb hby d7_46) rfl ?_
            show Steps p.tables e below (T114.setTop (mkF m 47 #[.val (.ref p0), .val (.int p1), .val (.int (15 : Int32)), .val (.int (((((p1 * (-1640531527 : Int32)).toUInt32 >>> ((28 : Int32) &&& 31).toUInt32).toInt32) + (1 : Int32)) &&& (15 : Int32)))] [(.int (((((p1 * (-1640531527 : Int32)).toUInt32 >>> ((28 : Int32) &&& 31).toUInt32).toInt32) + (1 : Int32)) &&& (15 : Int32))), (.ref ba)])) _
            refine own_ldI X114 hx hZ e114 Va (k := (((((p1 * (-1640531527 : Int32)).toUInt32 >>> ((28 : Int32) &&& 31).toUInt32).toInt32) + (1 : Int32)) &&& (15 : Int32)).toNatClampNeg) (own_nxt _).1 rfl (own_nxt _).2 (fr := (mkF m 47 #[.val (.ref p0), .val (.int p1), .val (.int (15 : Int32)), .val (.int (((((p1 * (-1640531527 : Int32)).toUInt32 >>> ((28 : Int32) &&& 31).toUInt32).toInt32) + (1 : Int32)) &&& (15 : Int32)))] [(.int (((((p1 * (-1640531527 : Int32)).toUInt32 >>> ((28 : Int32) &&& 31).toUInt32).toInt32) + (1 : Int32)) &&& (15 : Int32))), (.ref ba)])) rfl rfl (hb hby d7_47) _ ?_
            show Steps p.tables e below (T114.setTop (mkF m 48 #[.val (.ref p0), .val (.int p1), .val (.int (15 : Int32)), .val (.int (((((p1 * (-1640531527 : Int32)).toUInt32 >>> ((28 : Int32) &&& 31).toUInt32).toInt32) + (1 : Int32)) &&& (15 : Int32)))] [(.int (ga ((((((p1 * (-1640531527 : Int32)).toUInt32 >>> ((28 : Int32) &&& 31).toUInt32).toInt32) + (1 : Int32)) &&& (15 : Int32)).toNatClampNeg)))])) _
            refine X114.ldcInt hx hown (mvT hZ (hw _ (List.mem_of_getElem? (i := 23) rfl))) (g := (mkF m 48 #[.val (.ref p0), .val (.int p1), .val (.int (15 : Int32)), .val (.int (((((p1 * (-1640531527 : Int32)).toUInt32 >>> ((28 : Int32) &&& 31).toUInt32).toInt32) + (1 : Int32)) &&& (15 : Int32)))] [(.int (ga ((((((p1 * (-1640531527 : Int32)).toUInt32 >>> ((28 : Int32) &&& 31).toUInt32).toInt32) + (1 : Int32)) &&& (15 : Int32)).toNatClampNeg)))])) rfl (hb hby d7_48) _ ?_
            exact kont
          by_cases hc50' : (ga ((((((p1 * (-1640531527 : Int32)).toUInt32 >>> ((28 : Int32) &&& 31).toUInt32).toInt32) + (1 : Int32)) &&& (15 : Int32)).toNatClampNeg)) = (-2147483648 : Int32)
          · have pre117 : ∀ t, Steps p.tables e below (T114.setTop (mkF m 63 #[.val (.ref p0), .val (.int p1), .val (.int (15 : Int32)), .val (.int (((((p1 * (-1640531527 : Int32)).toUInt32 >>> ((28 : Int32) &&& 31).toUInt32).toInt32) + (1 : Int32)) &&& (15 : Int32)))] [(.int (((((p1 * (-1640531527 : Int32)).toUInt32 >>> ((28 : Int32) &&& 31).toUInt32).toInt32) + (1 : Int32)) &&& (15 : Int32)))])) t → Steps p.tables e below (s₁.setTop (entryFrame m #[(.ref p0), (.int p1)] 4)) t := by
              intro t kont
              refine pre116 t ?_
              show Steps p.tables e below (T114.setTop (mkF m 50 #[.val (.ref p0), .val (.int p1), .val (.int (15 : Int32)), .val (.int (((((p1 * (-1640531527 : Int32)).toUInt32 >>> ((28 : Int32) &&& 31).toUInt32).toInt32) + (1 : Int32)) &&& (15 : Int32)))] [(.int (-2147483648 : Int32)), (.int (ga ((((((p1 * (-1640531527 : Int32)).toUInt32 >>> ((28 : Int32) &&& 31).toUInt32).toInt32) + (1 : Int32)) &&& (15 : Int32)).toNatClampNeg)))])) _
              refine XS.icmpYes X114.here hx rfl (pc0 := 50) (pc' := 62) rfl (hb hby d7_50) rfl (teq hc50').1 (by decide) (by decide) ?_
              show Steps p.tables e below (T114.setTop (mkF m 62 #[.val (.ref p0), .val (.int p1), .val (.int (15 : Int32)), .val (.int (((((p1 * (-1640531527 : Int32)).toUInt32 >>> ((28 : Int32) &&& 31).toUInt32).toInt32) + (1 : Int32)) &&& (15 : Int32)))] [])) _
              refine XS.iloadN X114.here hx rfl (hb hby d7_62) rfl ?_
              exact kont
            obtain ⟨fs, hr, hrun, hended, hW, hsame⟩ := X114.leave (v := some (.int (((((p1 * (-1640531527 : Int32)).toUInt32 >>> ((28 : Int32) &&& 31).toUInt32).toInt32) + (1 : Int32)) &&& (15 : Int32)))) (fun h => by rw [Bd.returns] at h; cases h)
            refine ⟨_, _, pre117 _ ?_, hrun, hended, _, _, rfl, ?_, ⟨_, rfl⟩, hW, hsame.mono (by decide) (by decide)⟩
            · exact retI X114 hx Bd.returns (hb hby d7_63) hr
            · show Q7 Z p0 p1 be ba bn bf dr ow lw sz ne ge ga gn gf h0 n0 _ T114.heap _
              rw [e114]
              refine ⟨?_, N0, rfl⟩
              unfold own_slot; rw [if_pos hc4]; unfold own_probe; rw [if_neg hc39, if_neg hc50, if_neg hc39', if_pos hc50']
          · have pre118 : ∀ t, Steps p.tables e below (T114.setTop (mkF m 33 #[.val (.ref p0), .val (.int p1), .val (.int (15 : Int32)), .val (.int (((((((p1 * (-1640531527 : Int32)).toUInt32 >>> ((28 : Int32) &&& 31).toUInt32).toInt32) + (1 : Int32)) &&& (15 : Int32)) + (1 : Int32)) &&& (15 : Int32)))] [(.ref p0)])) t → Steps p.tables e below (s₁.setTop (entryFrame m #[(.ref p0), (.int p1)] 4)) t := by
              intro t kont
              refine pre116 t ?_
              show Steps p.tables e below (T114.setTop (mkF m 50 #[.val (.ref p0), .val (.int p1), .val (.int (15 : Int32)), .val (.int (((((p1 * (-1640531527 : Int32)).toUInt32 >>> ((28 : Int32) &&& 31).toUInt32).toInt32) + (1 : Int32)) &&& (15 : Int32)))] [(.int (-2147483648 : Int32)), (.int (ga ((((((p1 * (-1640531527 : Int32)).toUInt32 >>> ((28 : Int32) &&& 31).toUInt32).toInt32) + (1 : Int32)) &&& (15 : Int32)).toNatClampNeg)))])) _
              refine XS.icmpNo X114.here hx rfl (hb hby d7_50) rfl (feq hc50').1 ?_
              show Steps p.tables e below (T114.setTop (mkF m 53 #[.val (.ref p0), .val (.int p1), .val (.int (15 : Int32)), .val (.int (((((p1 * (-1640531527 : Int32)).toUInt32 >>> ((28 : Int32) &&& 31).toUInt32).toInt32) + (1 : Int32)) &&& (15 : Int32)))] [])) _
              refine XS.iloadN X114.here hx rfl (hb hby d7_53) rfl ?_
              show Steps p.tables e below (T114.setTop (mkF m 54 #[.val (.ref p0), .val (.int p1), .val (.int (15 : Int32)), .val (.int (((((p1 * (-1640531527 : Int32)).toUInt32 >>> ((28 : Int32) &&& 31).toUInt32).toInt32) + (1 : Int32)) &&& (15 : Int32)))] [(.int (((((p1 * (-1640531527 : Int32)).toUInt32 >>> ((28 : Int32) &&& 31).toUInt32).toInt32) + (1 : Int32)) &&& (15 : Int32)))])) _
              refine XS.iconst X114.here hx rfl (hb hby d7_54) ?_
              show Steps p.tables e below (T114.setTop (mkF m 55 #[.val (.ref p0), .val (.int p1), .val (.int (15 : Int32)), .val (.int (((((p1 * (-1640531527 : Int32)).toUInt32 >>> ((28 : Int32) &&& 31).toUInt32).toInt32) + (1 : Int32)) &&& (15 : Int32)))] [(.int (1 : Int32)), (.int (((((p1 * (-1640531527 : Int32)).toUInt32 >>> ((28 : Int32) &&& 31).toUInt32).toInt32) + (1 : Int32)) &&& (15 : Int32)))])) _
              refine XS.iadd X114.here hx rfl (hb hby d7_55) rfl ?_
              show Steps p.tables e below (T114.setTop (mkF m 56 #[.val (.ref p0), .val (.int p1), .val (.int (15 : Int32)), .val (.int (((((p1 * (-1640531527 : Int32)).toUInt32 >>> ((28 : Int32) &&& 31).toUInt32).toInt32) + (1 : Int32)) &&& (15 : Int32)))] [(.int ((((((p1 * (-1640531527 : Int32)).toUInt32 >>> ((28 : Int32) &&& 31).toUInt32).toInt32) + (1 : Int32)) &&& (15 : Int32)) + (1 : Int32)))])) _
              refine XS.iloadN X114.here hx rfl (hb hby d7_56) rfl ?_
              show Steps p.tables e below (T114.setTop (mkF m 57 #[.val (.ref p0), .val (.int p1), .val (.int (15 : Int32)), .val (.int (((((p1 * (-1640531527 : Int32)).toUInt32 >>> ((28 : Int32) &&& 31).toUInt32).toInt32) + (1 : Int32)) &&& (15 : Int32)))] [(.int (15 : Int32)), (.int ((((((p1 * (-1640531527 : Int32)).toUInt32 >>> ((28 : Int32) &&& 31).toUInt32).toInt32) + (1 : Int32)) &&& (15 : Int32)) + (1 : Int32)))])) _
              refine XS.iand X114.here hx rfl (hb hby d7_57) rfl ?_
              show Steps p.tables e below (T114.setTop (mkF m 58 #[.val (.ref p0), .val (.int p1), .val (.int (15 : Int32)), .val (.int (((((p1 * (-1640531527 : Int32)).toUInt32 >>> ((28 : Int32) &&& 31).toUInt32).toInt32) + (1 : Int32)) &&& (15 : Int32)))] [(.int (((((((p1 * (-1640531527 : Int32)).toUInt32 >>> ((28 : Int32) &&& 31).toUInt32).toInt32) + (1 : Int32)) &&& (15 : Int32)) + (1 : Int32)) &&& (15 : Int32)))])) _
              refine XS.istoreN X114.here hx rfl (hb hby d7_58) rfl (l' := #[.val (.ref p0), .val (.int p1), .val (.int (15 : Int32)), .val (.int (((((((p1 * (-1640531527 : Int32)).toUInt32 >>> ((28 : Int32) &&& 31).toUInt32).toInt32) + (1 : Int32)) &&& (15 : Int32)) + (1 : Int32)) &&& (15 : Int32)))]) rfl ?_
              show Steps p.tables e below (T114.setTop (mkF m 59 #[.val (.ref p0), .val (.int p1), .val (.int (15 : Int32)), .val (.int (((((((p1 * (-1640531527 : Int32)).toUInt32 >>> ((28 : Int32) &&& 31).toUInt32).toInt32) + (1 : Int32)) &&& (15 : Int32)) + (1 : Int32)) &&& (15 : Int32)))] [])) _
              refine XS.goto X114.here hx rfl (pc0 := 59) (pc' := 32) rfl (hb hby d7_59) (by decide) (by decide) ?_
              show Steps p.tables e below (T114.setTop (mkF m 32 #[.val (.ref p0), .val (.int p1), .val (.int (15 : Int32)), .val (.int (((((((p1 * (-1640531527 : Int32)).toUInt32 >>> ((28 : Int32) &&& 31).toUInt32).toInt32) + (1 : Int32)) &&& (15 : Int32)) + (1 : Int32)) &&& (15 : Int32)))] [])) _
              refine XS.aloadN X114.here hx rfl (hb hby d7_32) rfl rfl ?_
              exact kont
            obtain ⟨T119, X119, e119, st119⟩ := getF X114 hx hZ hown (host := "") (Or.inl (hw _ (List.mem_of_getElem? (i := 28) rfl))) Via.refl e114 q_alignments (g := (mkF m 33 #[.val (.ref p0), .val (.int p1), .val (.int (15 : Int32)), .val (.int (((((((p1 * (-1640531527 : Int32)).toUInt32 >>> ((28 : Int32) &&& 31).toUInt32).toInt32) + (1 : Int32)) &&& (15 : Int32)) + (1 : Int32)) &&& (15 : Int32)))] [(.ref p0)])) rfl rfl (hb hby d7_33)
            have pre120 : ∀ t, Steps p.tables e below (T119.setTop (mkF m 36 #[.val (.ref p0), .val (.int p1), .val (.int (15 : Int32)), .val (.int (((((((p1 * (-1640531527 : Int32)).toUInt32 >>> ((28 : Int32) &&& 31).toUInt32).toInt32) + (1 : Int32)) &&& (15 : Int32)) + (1 : Int32)) &&& (15 : Int32)))] [(.ref ba)])) t → Steps p.tables e below (s₁.setTop (entryFrame m #[(.ref p0), (.int p1)] 4)) t := fun t kont => pre118 t (st119 _ kont)
            have pre121 : ∀ t, Steps p.tables e below (T119.setTop (mkF m 39 #[.val (.ref p0), .val (.int p1), .val (.int (15 : Int32)), .val (.int (((((((p1 * (-1640531527 : Int32)).toUInt32 >>> ((28 : Int32) &&& 31).toUInt32).toInt32) + (1 : Int32)) &&& (15 : Int32)) + (1 : Int32)) &&& (15 : Int32)))] [(.int p1), (.int (ga ((((((((p1 * (-1640531527 : Int32)).toUInt32 >>> ((28 : Int32) &&& 31).toUInt32).toInt32) + (1 : Int32)) &&& (15 : Int32)) + (1 : Int32)) &&& (15 : Int32)).toNatClampNeg)))])) t → Steps p.tables e below (s₁.setTop (entryFrame m #[(.ref p0), (.int p1)] 4)) t := by
              intro t kont
              refine pre120 t ?_
              show Steps p.tables e below (T119.setTop (mkF m 36 #[.val (.ref p0), .val (.int p1), .val (.int (15 : Int32)), .val (.int (((((((p1 * (-1640531527 : Int32)).toUInt32 >>> ((28 : Int32) &&& 31).toUInt32).toInt32) + (1 : Int32)) &&& (15 : Int32)) + (1 : Int32)) &&& (15 : Int32)))] [(.ref ba)])) _
              refine XS.iloadN X119.here hx rfl (hb hby d7_36) rfl ?_
              show Steps p.tables e below (T119.setTop (mkF m 37 #[.val (.ref p0), .val (.int p1), .val (.int (15 : Int32)), .val (.int (((((((p1 * (-1640531527 : Int32)).toUInt32 >>> ((28 : Int32) &&& 31).toUInt32).toInt32) + (1 : Int32)) &&& (15 : Int32)) + (1 : Int32)) &&& (15 : Int32)))] [(.int (((((((p1 * (-1640531527 : Int32)).toUInt32 >>> ((28 : Int32) &&& 31).toUInt32).toInt32) + (1 : Int32)) &&& (15 : Int32)) + (1 : Int32)) &&& (15 : Int32))), (.ref ba)])) _
              refine own_ldI X119 hx hZ e119 Va (k := (((((((p1 * (-1640531527 : Int32)).toUInt32 >>> ((28 : Int32) &&& 31).toUInt32).toInt32) + (1 : Int32)) &&& (15 : Int32)) + (1 : Int32)) &&& (15 : Int32)).toNatClampNeg) (own_nxt _).1 rfl (own_nxt _).2 (fr := (mkF m 37 #[.val (.ref p0), .val (.int p1), .val (.int (15 : Int32)), .val (.int (((((((p1 * (-1640531527 : Int32)).toUInt32 >>> ((28 : Int32) &&& 31).toUInt32).toInt32) + (1 : Int32)) &&& (15 : Int32)) + (1 : Int32)) &&& (15 : Int32)))] [(.int (((((((p1 * (-1640531527 : Int32)).toUInt32 >>> ((28 : Int32) &&& 31).toUInt32).toInt32) + (1 : Int32)) &&& (15 : Int32)) + (1 : Int32)) &&& (15 : Int32))), (.ref ba)])) rfl rfl (hb hby d7_37) _ ?_
              show Steps p.tables e below (T119.setTop (mkF m 38 #[.val (.ref p0), .val (.int p1), .val (.int (15 : Int32)), .val (.int (((((((p1 * (-1640531527 : Int32)).toUInt32 >>> ((28 : Int32) &&& 31).toUInt32).toInt32) + (1 : Int32)) &&& (15 : Int32)) + (1 : Int32)) &&& (15 : Int32)))] [(.int (ga ((((((((p1 * (-1640531527 : Int32)).toUInt32 >>> ((28 : Int32) &&& 31).toUInt32).toInt32) + (1 : Int32)) &&& (15 : Int32)) + (1 : Int32)) &&& (15 : Int32)).toNatClampNeg)))])) _
              refine XS.iloadN X119.here hx rfl (hb hby d7_38) rfl ?_
              exact kont
            by_cases hc39'' : (ga ((((((((p1 * (-1640531527 : Int32)).toUInt32 >>> ((28 : Int32) &&& 31).toUInt32).toInt32) + (1 : Int32)) &&& (15 : Int32)) + (1 : Int32)) &&& (15 : Int32)).toNatClampNeg)) = p1
            · have pre122 : ∀ t, Steps p.tables e below (T119.setTop (mkF m 63 #[.val (.ref p0), .val (.int p1), .val (.int (15 : Int32)), .val (.int (((((((p1 * (-1640531527 : Int32)).toUInt32 >>> ((28 : Int32) &&& 31).toUInt32).toInt32) + (1 : Int32)) &&& (15 : Int32)) + (1 : Int32)) &&& (15 : Int32)))] [(.int (((((((p1 * (-1640531527 : Int32)).toUInt32 >>> ((28 : Int32) &&& 31).toUInt32).toInt32) + (1 : Int32)) &&& (15 : Int32)) + (1 : Int32)) &&& (15 : Int32)))])) t → Steps p.tables e below (s₁.setTop (entryFrame m #[(.ref p0), (.int p1)] 4)) t := by
                intro t kont
                refine pre121 t ?_
                show Steps p.tables e below (T119.setTop (mkF m 39 #[.val (.ref p0), .val (.int p1), .val (.int (15 : Int32)), .val (.int (((((((p1 * (-1640531527 : Int32)).toUInt32 >>> ((28 : Int32) &&& 31).toUInt32).toInt32) + (1 : Int32)) &&& (15 : Int32)) + (1 : Int32)) &&& (15 : Int32)))] [(.int p1), (.int (ga ((((((((p1 * (-1640531527 : Int32)).toUInt32 >>> ((28 : Int32) &&& 31).toUInt32).toInt32) + (1 : Int32)) &&& (15 : Int32)) + (1 : Int32)) &&& (15 : Int32)).toNatClampNeg)))])) _
                refine XS.icmpYes X119.here hx rfl (pc0 := 39) (pc' := 62) rfl (hb hby d7_39) rfl (teq hc39'').1 (by decide) (by decide) ?_
                show Steps p.tables e below (T119.setTop (mkF m 62 #[.val (.ref p0), .val (.int p1), .val (.int (15 : Int32)), .val (.int (((((((p1 * (-1640531527 : Int32)).toUInt32 >>> ((28 : Int32) &&& 31).toUInt32).toInt32) + (1 : Int32)) &&& (15 : Int32)) + (1 : Int32)) &&& (15 : Int32)))] [])) _
                refine XS.iloadN X119.here hx rfl (hb hby d7_62) rfl ?_
                exact kont
              obtain ⟨fs, hr, hrun, hended, hW, hsame⟩ := X119.leave (v := some (.int (((((((p1 * (-1640531527 : Int32)).toUInt32 >>> ((28 : Int32) &&& 31).toUInt32).toInt32) + (1 : Int32)) &&& (15 : Int32)) + (1 : Int32)) &&& (15 : Int32)))) (fun h => by rw [Bd.returns] at h; cases h)
              refine ⟨_, _, pre122 _ ?_, hrun, hended, _, _, rfl, ?_, ⟨_, rfl⟩, hW, hsame.mono (by decide) (by decide)⟩
              · exact retI X119 hx Bd.returns (hb hby d7_63) hr
              · show Q7 Z p0 p1 be ba bn bf dr ow lw sz ne ge ga gn gf h0 n0 _ T119.heap _
                rw [e119]
                refine ⟨?_, N0, rfl⟩
                unfold own_slot; rw [if_pos hc4]; unfold own_probe; rw [if_neg hc39, if_neg hc50, if_neg hc39', if_neg hc50', if_pos hc39'']
            · have pre123 : ∀ t, Steps p.tables e below (T119.setTop (mkF m 43 #[.val (.ref p0), .val (.int p1), .val (.int (15 : Int32)), .val (.int (((((((p1 * (-1640531527 : Int32)).toUInt32 >>> ((28 : Int32) &&& 31).toUInt32).toInt32) + (1 : Int32)) &&& (15 : Int32)) + (1 : Int32)) &&& (15 : Int32)))] [(.ref p0)])) t → Steps p.tables e below (s₁.setTop (entryFrame m #[(.ref p0), (.int p1)] 4)) t := by
                intro t kont
                refine pre121 t ?_
                show Steps p.tables e below (T119.setTop (mkF m 39 #[.val (.ref p0), .val (.int p1), .val (.int (15 : Int32)), .val (.int (((((((p1 * (-1640531527 : Int32)).toUInt32 >>> ((28 : Int32) &&& 31).toUInt32).toInt32) + (1 : Int32)) &&& (15 : Int32)) + (1 : Int32)) &&& (15 : Int32)))] [(.int p1), (.int (ga ((((((((p1 * (-1640531527 : Int32)).toUInt32 >>> ((28 : Int32) &&& 31).toUInt32).toInt32) + (1 : Int32)) &&& (15 : Int32)) + (1 : Int32)) &&& (15 : Int32)).toNatClampNeg)))])) _
                refine XS.icmpNo X119.here hx rfl (hb hby d7_39) rfl (feq hc39'').1 ?_
                show Steps p.tables e below (T119.setTop (mkF m 42 #[.val (.ref p0), .val (.int p1), .val (.int (15 : Int32)), .val (.int (((((((p1 * (-1640531527 : Int32)).toUInt32 >>> ((28 : Int32) &&& 31).toUInt32).toInt32) + (1 : Int32)) &&& (15 : Int32)) + (1 : Int32)) &&& (15 : Int32)))] [])) _
                refine XS.aloadN X119.here hx rfl (hb hby d7_42) rfl rfl ?_
                exact kont
              obtain ⟨T124, X124, e124, st124⟩ := getF X119 hx hZ hown (host := "") (Or.inl (hw _ (List.mem_of_getElem? (i := 28) rfl))) Via.refl e119 q_alignments (g := (mkF m 43 #[.val (.ref p0), .val (.int p1), .val (.int (15 : Int32)), .val (.int (((((((p1 * (-1640531527 : Int32)).toUInt32 >>> ((28 : Int32) &&& 31).toUInt32).toInt32) + (1 : Int32)) &&& (15 : Int32)) + (1 : Int32)) &&& (15 : Int32)))] [(.ref p0)])) rfl rfl (hb hby d7_43)
              have pre125 : ∀ t, Steps p.tables e below (T124.setTop (mkF m 46 #[.val (.ref p0), .val (.int p1), .val (.int (15 : Int32)), .val (.int (((((((p1 * (-1640531527 : Int32)).toUInt32 >>> ((28 : Int32) &&& 31).toUInt32).toInt32) + (1 : Int32)) &&& (15 : Int32)) + (1 : Int32)) &&& (15 : Int32)))] [(.ref ba)])) t → Steps p.tables e below (s₁.setTop (entryFrame m #[(.ref p0), (.int p1)] 4)) t := fun t kont => pre123 t (st124 _ kont)
              have pre126 : ∀ t, Steps p.tables e below (T124.setTop (mkF m 50 #[.val (.ref p0), .val (.int p1), .val (.int (15 : Int32)), .val (.int (((((((p1 * (-1640531527 : Int32)).toUInt32 >>> ((28 : Int32) &&& 31).toUInt32).toInt32) + (1 : Int32)) &&& (15 : Int32)) + (1 : Int32)) &&& (15 : Int32)))] [(.int (-2147483648 : Int32)), (.int (ga ((((((((p1 * (-1640531527 : Int32)).toUInt32 >>> ((28 : Int32) &&& 31).toUInt32).toInt32) + (1 : Int32)) &&& (15 : Int32)) + (1 : Int32)) &&& (15 : Int32)).toNatClampNeg)))])) t → Steps p.tables e below (s₁.setTop (entryFrame m #[(.ref p0), (.int p1)] 4)) t := by
                intro t kont
                refine pre125 t ?_
                show Steps p.tables e below (T124.setTop (mkF m 46 #[.val (.ref p0), .val (.int p1), .val (.int (15 : Int32)), .val (.int (((((((p1 * (-1640531527 : Int32)).toUInt32 >>> ((28 : Int32) &&& 31).toUInt32).toInt32) + (1 : Int32)) &&& (15 : Int32)) + (1 : Int32)) &&& (15 : Int32)))] [(.ref ba)])) _
                refine XS.iloadN X124.here hx rfl (hb hby d7_46) rfl ?_
                show Steps p.tables e below (T124.setTop (mkF m 47 #[.val (.ref p0), .val (.int p1), .val (.int (15 : Int32)), .val (.int (((((((p1 * (-1640531527 : Int32)).toUInt32 >>> ((28 : Int32) &&& 31).toUInt32).toInt32) + (1 : Int32)) &&& (15 : Int32)) + (1 : Int32)) &&& (15 : Int32)))] [(.int (((((((p1 * (-1640531527 : Int32)).toUInt32 >>> ((28 : Int32) &&& 31).toUInt32).toInt32) + (1 : Int32)) &&& (15 : Int32)) + (1 : Int32)) &&& (15 : Int32))), (.ref ba)])) _
                refine own_ldI X124 hx hZ e124 Va (k := (((((((p1 * (-1640531527 : Int32)).toUInt32 >>> ((28 : Int32) &&& 31).toUInt32).toInt32) + (1 : Int32)) &&& (15 : Int32)) + (1 : Int32)) &&& (15 : Int32)).toNatClampNeg) (own_nxt _).1 rfl (own_nxt _).2 (fr := (mkF m 47 #[.val (.ref p0), .val (.int p1), .val (.int (15 : Int32)), .val (.int (((((((p1 * (-1640531527 : Int32)).toUInt32 >>> ((28 : Int32) &&& 31).toUInt32).toInt32) + (1 : Int32)) &&& (15 : Int32)) + (1 : Int32)) &&& (15 : Int32)))] [(.int (((((((p1 * (-1640531527 : Int32)).toUInt32 >>> ((28 : Int32) &&& 31).toUInt32).toInt32) + (1 : Int32)) &&& (15 : Int32)) + (1 : Int32)) &&& (15 : Int32))), (.ref ba)])) rfl rfl (hb hby d7_47) _ ?_
                show Steps p.tables e below (T124.setTop (mkF m 48 #[.val (.ref p0), .val (.int p1), .val (.int (15 : Int32)), .val (.int (((((((p1 * (-1640531527 : Int32)).toUInt32 >>> ((28 : Int32) &&& 31).toUInt32).toInt32) + (1 : Int32)) &&& (15 : Int32)) + (1 : Int32)) &&& (15 : Int32)))] [(.int (ga ((((((((p1 * (-1640531527 : Int32)).toUInt32 >>> ((28 : Int32) &&& 31).toUInt32).toInt32) + (1 : Int32)) &&& (15 : Int32)) + (1 : Int32)) &&& (15 : Int32)).toNatClampNeg)))])) _
                refine X124.ldcInt hx hown (mvT hZ (hw _ (List.mem_of_getElem? (i := 23) rfl))) (g := (mkF m 48 #[.val (.ref p0), .val (.int p1), .val (.int (15 : Int32)), .val (.int (((((((p1 * (-1640531527 : Int32)).toUInt32 >>> ((28 : Int32) &&& 31).toUInt32).toInt32) + (1 : Int32)) &&& (15 : Int32)) + (1 : Int32)) &&& (15 : Int32)))] [(.int (ga ((((((((p1 * (-1640531527 : Int32)).toUInt32 >>> ((28 : Int32) &&& 31).toUInt32).toInt32) + (1 : Int32)) &&& (15 : Int32)) + (1 : Int32)) &&& (15 : Int32)).toNatClampNeg)))])) rfl (hb hby d7_48) _ ?_
                exact kont
              by_cases hc50'' : (ga ((((((((p1 * (-1640531527 : Int32)).toUInt32 >>> ((28 : Int32) &&& 31).toUInt32).toInt32) + (1 : Int32)) &&& (15 : Int32)) + (1 : Int32)) &&& (15 : Int32)).toNatClampNeg)) = (-2147483648 : Int32)
              · have pre127 : ∀ t, Steps p.tables e below (T124.setTop (mkF m 63 #[.val (.ref p0), .val (.int p1), .val (.int (15 : Int32)), .val (.int (((((((p1 * (-1640531527 : Int32)).toUInt32 >>> ((28 : Int32) &&& 31).toUInt32).toInt32) + (1 : Int32)) &&& (15 : Int32)) + (1 : Int32)) &&& (15 : Int32)))] [(.int (((((((p1 * (-1640531527 : Int32)).toUInt32 >>> ((28 : Int32) &&& 31).toUInt32).toInt32) + (1 : Int32)) &&& (15 : Int32)) + (1 : Int32)) &&& (15 : Int32)))])) t → Steps p.tables e below (s₁.setTop (entryFrame m #[(.ref p0), (.int p1)] 4)) t := by
                  intro t kont
                  refine pre126 t ?_
                  show Steps p.tables e below (T124.setTop (mkF m 50 #[.val (.ref p0), .val (.int p1), .val (.int (15 : Int32)), .val (.int (((((((p1 * (-1640531527 : Int32)).toUInt32 >>> ((28 : Int32) &&& 31).toUInt32).toInt32) + (1 : Int32)) &&& (15 : Int32)) + (1 : Int32)) &&& (15 : Int32)))] [(.int (-2147483648 : Int32)), (.int (ga ((((((((p1 * (-1640531527 : Int32)).toUInt32 >>> ((28 : Int32) &&& 31).toUInt32).toInt32) + (1 : Int32)) &&& (15 : Int32)) + (1 : Int32)) &&& (15 : Int32)).toNatClampNeg)))])) _
                  refine XS.icmpYes X124.here hx rfl (pc0 := 50) (pc' := 62) rfl (hb hby d7_50) rfl (teq hc50'').1 (by decide) (by decide) ?_
                  show Steps p.tables e below (T124.setTop (mkF m 62 #[.val (.ref p0), .val (.int p1), .val (.int (15 : Int32)), .val (.int (((((((p1 * (-1640531527 : Int32)).toUInt32 >>> ((28 : Int32) &&& 31).toUInt32).toInt32) + (1 : Int32)) &&& (15 : Int32)) + (1 : Int32)) &&& (15 : Int32)))] [])) _
                  refine XS.iloadN X124.here hx rfl (hb hby d7_62) rfl ?_
                  exact kont
                obtain ⟨fs, hr, hrun, hended, hW, hsame⟩ := X124.leave (v := some (.int (((((((p1 * (-1640531527 : Int32)).toUInt32 >>> ((28 : Int32) &&& 31).toUInt32).toInt32) + (1 : Int32)) &&& (15 : Int32)) + (1 : Int32)) &&& (15 : Int32)))) (fun h => by rw [Bd.returns] at h; cases h)
                refine ⟨_, _, pre127 _ ?_, hrun, hended, _, _, rfl, ?_, ⟨_, rfl⟩, hW, hsame.mono (by decide) (by decide)⟩
                · exact retI X124 hx Bd.returns (hb hby d7_63) hr
                · show Q7 Z p0 p1 be ba bn bf dr ow lw sz ne ge ga gn gf h0 n0 _ T124.heap _
                  rw [e124]
                  refine ⟨?_, N0, rfl⟩
                  unfold own_slot; rw [if_pos hc4]; unfold own_probe; rw [if_neg hc39, if_neg hc50, if_neg hc39', if_neg hc50', if_neg hc39'', if_pos hc50'']
              · exfalso
                rcases hE hc4 with q | q | q
                · exact hc50 q
                · exact hc50' q
                · exact hc50'' q
  · have pre128 : ∀ t, Steps p.tables e below (T90.setTop (mkF m 9 #[.val (.ref p0), .val (.int p1), .unset, .unset] [(.ref p0), (.int p1)])) t → Steps p.tables e below (s₁.setTop (entryFrame m #[(.ref p0), (.int p1)] 4)) t := by
      intro t kont
      refine pre91 t ?_
      show Steps p.tables e below (T90.setTop (mkF m 4 #[.val (.ref p0), .val (.int p1), .unset, .unset] [(.int ow)])) _
      refine XS.ifNo X90.here hx rfl (hb hby d7_4) rfl ((if0 _ _).trans (feq hc4).1) ?_
      show Steps p.tables e below (T90.setTop (mkF m 7 #[.val (.ref p0), .val (.int p1), .unset, .unset] [])) _
      refine XS.iloadN X90.here hx rfl (hb hby d7_7) rfl ?_
      show Steps p.tables e below (T90.setTop (mkF m 8 #[.val (.ref p0), .val (.int p1), .unset, .unset] [(.int p1)])) _
      refine XS.aloadN X90.here hx rfl (hb hby d7_8) rfl rfl ?_
      exact kont
    obtain ⟨T129, X129, e129, st129⟩ := getF X90 hx hZ hown (host := "") (Or.inl (hw _ (List.mem_of_getElem? (i := 45) rfl))) Via.refl e90 q_lowest (g := (mkF m 9 #[.val (.ref p0), .val (.int p1), .unset, .unset] [(.ref p0), (.int p1)])) rfl rfl (hb hby d7_9)
    have pre130 : ∀ t, Steps p.tables e below (T129.setTop (mkF m 12 #[.val (.ref p0), .val (.int p1), .unset, .unset] [(.int lw), (.int p1)])) t → Steps p.tables e below (s₁.setTop (entryFrame m #[(.ref p0), (.int p1)] 4)) t := fun t kont => pre128 t (st129 _ kont)
    have pre131 : ∀ t, Steps p.tables e below (T129.setTop (mkF m 13 #[.val (.ref p0), .val (.int p1), .unset, .unset] [(.int (p1 - lw))])) t → Steps p.tables e below (s₁.setTop (entryFrame m #[(.ref p0), (.int p1)] 4)) t := by
      intro t kont
      refine pre130 t ?_
      show Steps p.tables e below (T129.setTop (mkF m 12 #[.val (.ref p0), .val (.int p1), .unset, .unset] [(.int lw), (.int p1)])) _
      refine XS.isub X129.here hx rfl (hb hby d7_12) rfl ?_
      exact kont
    obtain ⟨fs, hr, hrun, hended, hW, hsame⟩ := X129.leave (v := some (.int (p1 - lw))) (fun h => by rw [Bd.returns] at h; cases h)
    refine ⟨_, _, pre131 _ ?_, hrun, hended, _, _, rfl, ?_, ⟨_, rfl⟩, hW, hsame.mono (by decide) (by decide)⟩
    · exact retI X129 hx Bd.returns (hb hby d7_13) hr
    · show Q7 Z p0 p1 be ba bn bf dr ow lw sz ne ge ga gn gf h0 n0 _ T129.heap _
      rw [e129]
      refine ⟨?_, N0, rfl⟩
      unfold own_slot; rw [if_neg hc4]
def own_end (ow : Int32) (ge gn : Nat → Int32) (k : Nat) : Int32 := if ow = (0 : Int32) then gn k else ge k
theorem d9_0 : decode prog_18_method_4_code 0 = .ok (.aload_n 0, 1) := by decide +kernel
theorem d9_1 : decode prog_18_method_4_code 1 = .ok (.getfield 35, 3) := by decide +kernel
theorem d9_4 : decode prog_18_method_4_code 4 = .ok (.ifCond .eq 12, 3) := by decide +kernel
theorem d9_16 : decode prog_18_method_4_code 16 = .ok (.aload_n 0, 1) := by decide +kernel
theorem d9_17 : decode prog_18_method_4_code 17 = .ok (.getfield 22, 3) := by decide +kernel
theorem d9_20 : decode prog_18_method_4_code 20 = .ok (.iload_n 1, 1) := by decide +kernel
theorem d9_21 : decode prog_18_method_4_code 21 = .ok (.iaload, 1) := by decide +kernel
theorem d9_22 : decode prog_18_method_4_code 22 = .ok (.ireturn, 1) := by decide +kernel
theorem d9_7 : decode prog_18_method_4_code 7 = .ok (.aload_n 0, 1) := by decide +kernel
theorem d9_8 : decode prog_18_method_4_code 8 = .ok (.getfield 9, 3) := by decide +kernel
theorem d9_11 : decode prog_18_method_4_code 11 = .ok (.iload_n 1, 1) := by decide +kernel
theorem d9_12 : decode prog_18_method_4_code 12 = .ok (.iaload, 1) := by decide +kernel
theorem d9_13 : decode prog_18_method_4_code 13 = .ok (.goto 9, 3) := by decide +kernel
theorem ef_9 (m : MethodId) (x0 : Addr) (x1 : Int32) : entryFrame m #[(.ref x0), (.int x1)] 2 = mkF m 0 #[.val (.ref x0), .val (.int x1)] [] := by first | (simp [entryFrame, mkF, argsToLocals, Value.category]; done) | rfl
def Q9 (Z : State) (p0 : Addr) (p1 : Int32) (be : Addr) (ba : Addr) (bn : Addr) (bf : Addr) (dr : Int32) (ow : Int32) (lw : Int32) (sz : Int32) (ne : Nat) (ge : Nat → Int32) (ga : Nat → Int32) (gn : Nat → Int32) (gf : Nat → Int32) (k : Nat) (h0 : Heap) (n0 : Nat) (v : Option Value) (h : Heap) (L : List Loc) : Prop := v = some (.int (own_end ow ge gn k)) ∧ Fr n0 L ∧ h = h0
set_option maxRecDepth 65536 in
set_option maxHeartbeats 40000000 in
theorem rm9 (l : Launch) (Z : State) (a0 : Array Value) (hw : ∀ d ∈ tables_1, d.before a0 Z = true) (ws : List Jvm.Cond) (p0 : Addr) (p1 : Int32) (be : Addr) (ba : Addr) (bn : Addr) (bf : Addr) (dr : Int32) (ow : Int32) (lw : Int32) (sz : Int32) (ne : Nat) (ge : Nat → Int32) (ga : Nat → Int32) (gn : Nat → Int32) (gf : Nat → Int32) (k : Nat) (h0 : Heap) (n0 : Nat) (Z0 : n0 ≤ h0.size) (Hal : own_al Z h0 n0 p0 be ba bn bf dr ow lw sz ne ge ga gn gf) (hi0 : ¬ p1 < 0) (hik : p1.toNatClampNeg = k) (hi1 : ow = (0 : Int32) → k < 16) (hi2 : ¬ (ow = (0 : Int32)) → k < ne) :
    MetFree l (⟨"com/example/impronta/impronta/engine/Alignments", "end", "(I)I"⟩ : MethodName) (head1 (Jvm.Cond.code (⟨"com/example/impronta/impronta/engine/Alignments", "end", "(I)I"⟩ : MethodName) prog_18_method_4_code 2 (some .int) :: ws) ({ frames := 0, cells := 0, slots := 0, locals := 0 } : Room)) (fun a U => a = #[(.ref p0), (.int p1)] ∧ Z.Warmed39 U.vm ∧ U.heap = h0) (fun _ _ _ _ _ => True) (fun _ U o U' => ∃ v L, o = .returned v ∧ Q9 Z p0 p1 be ba bn bf dr ow lw sz ne ge ga gn gf k h0 n0 v U'.heap L ∧ FrameEnd U o U' L ({ frames := 0, cells := 0, slots := 0, locals := 0 } : Room).cells ({ frames := 0, cells := 0, slots := 0, locals := 0 } : Room).slots) := by
  refine MetFree.of_bodySF (plainFor_of_name pn_4) hisR ?_
  intro p e s m args below meth c s₁ Bd hml0 hP hK
  obtain ⟨rfl, hZ, hh⟩ := hP
  have hx := Bd.exec
  have hby := Bd.bytes
  have hml : c.maxLocals = 2 := hml0
  have hown : s.vm.findClass "com/example/impronta/impronta/engine/Alignments" = some m.cls := findClass_of_methodNamed Bd.named
  have hnm := (name_of_methodNamed Bd.named Bd.method).1
  have X0 : Stand p l e ({ frames := 0, cells := 0, slots := 0, locals := 0 } : Room) s m #[(.ref p0), (.int p1)] below meth c s₁ [] 0 0 := Stand.of_body Bd
  have e0 : s₁.heap = h0 := by rw [← hh, Bd.state]; rfl
  have N0 := Fr.nil n0
  have pre0 : ∀ t, Steps p.tables e below (s₁.setTop (mkF m 0 #[.val (.ref p0), .val (.int p1)] [])) t → Steps p.tables e below (s₁.setTop (entryFrame m #[(.ref p0), (.int p1)] 2)) t := fun t k => castTop (ef_9 m p0 p1) k
  obtain ⟨qE, q_direct, q_ownSlots, q_lowest, q_size, q_shift, q_endsByAlignment, q_alignments, q_ends, q_filled, Ve, Va, Vn, Vf, ⟨d0, d1, d2, d3, d4, d5, d6, d7, d8, d9⟩, ⟨g0, g1, g2, g3, g4⟩⟩ := id Hal
  have pre132 : ∀ t, Steps p.tables e below (s₁.setTop (mkF m 1 #[.val (.ref p0), .val (.int p1)] [(.ref p0)])) t → Steps p.tables e below (s₁.setTop (entryFrame m #[(.ref p0), (.int p1)] 2)) t := by
    intro t kont
    refine pre0 t ?_
    show Steps p.tables e below (s₁.setTop (mkF m 0 #[.val (.ref p0), .val (.int p1)] [])) _
    refine XS.aloadN X0.here hx rfl (hb hby d9_0) rfl rfl ?_
    exact kont
  obtain ⟨T133, X133, e133, st133⟩ := getF X0 hx hZ hown (host := "") (Or.inl (hw _ (List.mem_of_getElem? (i := 43) rfl))) Via.refl e0 q_ownSlots (g := (mkF m 1 #[.val (.ref p0), .val (.int p1)] [(.ref p0)])) rfl rfl (hb hby d9_1)
  have pre134 : ∀ t, Steps p.tables e below (T133.setTop (mkF m 4 #[.val (.ref p0), .val (.int p1)] [(.int ow)])) t → Steps p.tables e below (s₁.setTop (entryFrame m #[(.ref p0), (.int p1)] 2)) t := fun t kont => pre132 t (st133 _ kont)
  by_cases hc4 : ow = (0 : Int32)
  · have pre135 : ∀ t, Steps p.tables e below (T133.setTop (mkF m 17 #[.val (.ref p0), .val (.int p1)] [(.ref p0)])) t → Steps p.tables e below (s₁.setTop (entryFrame m #[(.ref p0), (.int p1)] 2)) t := by
      intro t kont
      refine pre134 t ?_
      show Steps p.tables e below (T133.setTop (mkF m 4 #[.val (.ref p0), .val (.int p1)] [(.int ow)])) _
      refine XS.ifYes X133.here hx rfl (pc0 := 4) (pc' := 16) rfl (hb hby d9_4) rfl ((if0 _ _).trans (teq hc4).1) (by decide) (by decide) ?_
      show Steps p.tables e below (T133.setTop (mkF m 16 #[.val (.ref p0), .val (.int p1)] [])) _
      refine XS.aloadN X133.here hx rfl (hb hby d9_16) rfl rfl ?_
      exact kont
    obtain ⟨T136, X136, e136, st136⟩ := getF X133 hx hZ hown (host := "") (Or.inl (hw _ (List.mem_of_getElem? (i := 30) rfl))) Via.refl e133 q_ends (g := (mkF m 17 #[.val (.ref p0), .val (.int p1)] [(.ref p0)])) rfl rfl (hb hby d9_17)
    have pre137 : ∀ t, Steps p.tables e below (T136.setTop (mkF m 20 #[.val (.ref p0), .val (.int p1)] [(.ref bn)])) t → Steps p.tables e below (s₁.setTop (entryFrame m #[(.ref p0), (.int p1)] 2)) t := fun t kont => pre135 t (st136 _ kont)
    have pre138 : ∀ t, Steps p.tables e below (T136.setTop (mkF m 22 #[.val (.ref p0), .val (.int p1)] [(.int (gn k))])) t → Steps p.tables e below (s₁.setTop (entryFrame m #[(.ref p0), (.int p1)] 2)) t := by
      intro t kont
      refine pre137 t ?_
      show Steps p.tables e below (T136.setTop (mkF m 20 #[.val (.ref p0), .val (.int p1)] [(.ref bn)])) _
      refine XS.iloadN X136.here hx rfl (hb hby d9_20) rfl ?_
      show Steps p.tables e below (T136.setTop (mkF m 21 #[.val (.ref p0), .val (.int p1)] [(.int p1), (.ref bn)])) _
      refine own_ldI X136 hx hZ e136 Vn (k := k) hi0 hik (hi1 hc4) (fr := (mkF m 21 #[.val (.ref p0), .val (.int p1)] [(.int p1), (.ref bn)])) rfl rfl (hb hby d9_21) _ ?_
      exact kont
    obtain ⟨fs, hr, hrun, hended, hW, hsame⟩ := X136.leave (v := some (.int (gn k))) (fun h => by rw [Bd.returns] at h; cases h)
    refine ⟨_, _, pre138 _ ?_, hrun, hended, _, _, rfl, ?_, ⟨_, rfl⟩, hW, hsame.mono (by decide) (by decide)⟩
    · exact retI X136 hx Bd.returns (hb hby d9_22) hr
    · show Q9 Z p0 p1 be ba bn bf dr ow lw sz ne ge ga gn gf k h0 n0 _ T136.heap _
      rw [e136]
      refine ⟨?_, N0, rfl⟩
      unfold own_end; rw [if_pos hc4]
  · have pre139 : ∀ t, Steps p.tables e below (T133.setTop (mkF m 8 #[.val (.ref p0), .val (.int p1)] [(.ref p0)])) t → Steps p.tables e below (s₁.setTop (entryFrame m #[(.ref p0), (.int p1)] 2)) t := by
      intro t kont
      refine pre134 t ?_
      show Steps p.tables e below (T133.setTop (mkF m 4 #[.val (.ref p0), .val (.int p1)] [(.int ow)])) _
      refine XS.ifNo X133.here hx rfl (hb hby d9_4) rfl ((if0 _ _).trans (feq hc4).1) ?_
      show Steps p.tables e below (T133.setTop (mkF m 7 #[.val (.ref p0), .val (.int p1)] [])) _
      refine XS.aloadN X133.here hx rfl (hb hby d9_7) rfl rfl ?_
      exact kont
    obtain ⟨T140, X140, e140, st140⟩ := getF X133 hx hZ hown (host := "") (Or.inl (hw _ (List.mem_of_getElem? (i := 18) rfl))) Via.refl e133 q_endsByAlignment (g := (mkF m 8 #[.val (.ref p0), .val (.int p1)] [(.ref p0)])) rfl rfl (hb hby d9_8)
    have pre141 : ∀ t, Steps p.tables e below (T140.setTop (mkF m 11 #[.val (.ref p0), .val (.int p1)] [(.ref be)])) t → Steps p.tables e below (s₁.setTop (entryFrame m #[(.ref p0), (.int p1)] 2)) t := fun t kont => pre139 t (st140 _ kont)
    have pre142 : ∀ t, Steps p.tables e below (T140.setTop (mkF m 22 #[.val (.ref p0), .val (.int p1)] [(.int (ge k))])) t → Steps p.tables e below (s₁.setTop (entryFrame m #[(.ref p0), (.int p1)] 2)) t := by
      intro t kont
      refine pre141 t ?_
      show Steps p.tables e below (T140.setTop (mkF m 11 #[.val (.ref p0), .val (.int p1)] [(.ref be)])) _
      refine XS.iloadN X140.here hx rfl (hb hby d9_11) rfl ?_
      show Steps p.tables e below (T140.setTop (mkF m 12 #[.val (.ref p0), .val (.int p1)] [(.int p1), (.ref be)])) _
      refine own_ldI X140 hx hZ e140 Ve (k := k) hi0 hik (hi2 hc4) (fr := (mkF m 12 #[.val (.ref p0), .val (.int p1)] [(.int p1), (.ref be)])) rfl rfl (hb hby d9_12) _ ?_
      show Steps p.tables e below (T140.setTop (mkF m 13 #[.val (.ref p0), .val (.int p1)] [(.int (ge k))])) _
      refine XS.goto X140.here hx rfl (pc0 := 13) (pc' := 22) rfl (hb hby d9_13) (by decide) (by decide) ?_
      exact kont
    obtain ⟨fs, hr, hrun, hended, hW, hsame⟩ := X140.leave (v := some (.int (ge k))) (fun h => by rw [Bd.returns] at h; cases h)
    refine ⟨_, _, pre142 _ ?_, hrun, hended, _, _, rfl, ?_, ⟨_, rfl⟩, hW, hsame.mono (by decide) (by decide)⟩
    · exact retI X140 hx Bd.returns (hb hby d9_22) hr
    · show Q9 Z p0 p1 be ba bn bf dr ow lw sz ne ge ga gn gf k h0 n0 _ T140.heap _
      rw [e140]
      refine ⟨?_, N0, rfl⟩
      unfold own_end; rw [if_neg hc4]
def own_set (g : Nat → Int32) (k : Nat) (x : Int32) (i : Nat) : Int32 := if i = k then x else g i
theorem own_ne8 {z : Int32} {n : Nat} (h : z.toNatClampNeg = n) (hn : n < 8) (q : z = (8 : Int32)) : False := by
  subst q; rw [show (8 : Int32).toNatClampNeg = 8 by decide] at h; omega
theorem own_twice {z : Int32} {n : Nat} (h0 : ¬ z < 0) (h : z.toNatClampNeg = n) (hn : n < 8) : ¬ (16 : Int32) < (2 : Int32) * z ∧ ¬ (16 : Int32) < (2 : Int32) * (z + (1 : Int32)) := by
  have a := c_imul 2 z
  have b := c_iadd z 1
  have c := c_imul 2 (z + 1)
  have r1 := rng32 (2 * z)
  have r2 := rng32 (z + 1)
  have r3 := rng32 (2 * (z + 1))
  have o : (1 : Int32).toInt = 1 := rfl
  have o2 : (2 : Int32).toInt = 2 := rfl
  have o0 : (0 : Int32).toInt = 0 := rfl
  have o16 : (16 : Int32).toInt = 16 := rfl
  rw [o2] at a c
  rw [o] at b
  simp only [Int32.lt_iff_toInt_lt, Int32.toNatClampNeg] at *
  omega
theorem d8_0 : decode prog_18_method_5_code 0 = .ok (.aload_n 0, 1) := by decide +kernel
theorem d8_1 : decode prog_18_method_5_code 1 = .ok (.iload_n 1, 1) := by decide +kernel
theorem d8_2 : decode prog_18_method_5_code 2 = .ok (.invokevirtual 44, 3) := by decide +kernel
theorem pd_2 : parseMethodDescriptor "(I)I" = some ⟨[.int], some .int⟩ := by decide +kernel
theorem d8_5 : decode prog_18_method_5_code 5 = .ok (.ifCond .ne 49, 3) := by decide +kernel
theorem d8_8 : decode prog_18_method_5_code 8 = .ok (.aload_n 0, 1) := by decide +kernel
theorem d8_9 : decode prog_18_method_5_code 9 = .ok (.getfield 48, 3) := by decide +kernel
theorem d8_12 : decode prog_18_method_5_code 12 = .ok (.aload_n 0, 1) := by decide +kernel
theorem d8_13 : decode prog_18_method_5_code 13 = .ok (.getfield 29, 3) := by decide +kernel
theorem d8_16 : decode prog_18_method_5_code 16 = .ok (.arraylength, 1) := by decide +kernel
theorem d8_17 : decode prog_18_method_5_code 17 = .ok (.if_icmp .ne 20, 3) := by decide +kernel
theorem d8_37 : decode prog_18_method_5_code 37 = .ok (.aload_n 0, 1) := by decide +kernel
theorem d8_38 : decode prog_18_method_5_code 38 = .ok (.getfield 29, 3) := by decide +kernel
theorem d8_41 : decode prog_18_method_5_code 41 = .ok (.aload_n 0, 1) := by decide +kernel
theorem d8_42 : decode prog_18_method_5_code 42 = .ok (.dup, 1) := by decide +kernel
theorem d8_43 : decode prog_18_method_5_code 43 = .ok (.getfield 48, 3) := by decide +kernel
theorem d8_46 : decode prog_18_method_5_code 46 = .ok (.dup_x1, 1) := by decide +kernel
theorem d8_47 : decode prog_18_method_5_code 47 = .ok (.iconst 1, 1) := by decide +kernel
theorem d8_48 : decode prog_18_method_5_code 48 = .ok (.iadd, 1) := by decide +kernel
theorem d8_49 : decode prog_18_method_5_code 49 = .ok (.putfield 48, 3) := by decide +kernel
theorem d8_52 : decode prog_18_method_5_code 52 = .ok (.iload_n 1, 1) := by decide +kernel
theorem d8_53 : decode prog_18_method_5_code 53 = .ok (.iastore, 1) := by decide +kernel
theorem d8_54 : decode prog_18_method_5_code 54 = .ok (.aload_n 0, 1) := by decide +kernel
theorem d8_55 : decode prog_18_method_5_code 55 = .ok (.getfield 35, 3) := by decide +kernel
theorem d8_58 : decode prog_18_method_5_code 58 = .ok (.ifCond .eq 13, 3) := by decide +kernel
theorem d8_71 : decode prog_18_method_5_code 71 = .ok (.aload_n 0, 1) := by decide +kernel
theorem d8_72 : decode prog_18_method_5_code 72 = .ok (.getfield 22, 3) := by decide +kernel
theorem d8_75 : decode prog_18_method_5_code 75 = .ok (.iload_n 1, 1) := by decide +kernel
theorem d8_76 : decode prog_18_method_5_code 76 = .ok (.iload_n 3, 1) := by decide +kernel
theorem d8_77 : decode prog_18_method_5_code 77 = .ok (.iastore, 1) := by decide +kernel
theorem d8_78 : decode prog_18_method_5_code 78 = .ok (.aload_n 0, 1) := by decide +kernel
theorem d8_79 : decode prog_18_method_5_code 79 = .ok (.getfield 19, 3) := by decide +kernel
theorem d8_82 : decode prog_18_method_5_code 82 = .ok (.iload_n 1, 1) := by decide +kernel
theorem d8_83 : decode prog_18_method_5_code 83 = .ok (.iload_n 2, 1) := by decide +kernel
theorem d8_84 : decode prog_18_method_5_code 84 = .ok (.iastore, 1) := by decide +kernel
theorem d8_85 : decode prog_18_method_5_code 85 = .ok (.iconst 2, 1) := by decide +kernel
theorem d8_86 : decode prog_18_method_5_code 86 = .ok (.aload_n 0, 1) := by decide +kernel
theorem d8_87 : decode prog_18_method_5_code 87 = .ok (.getfield 48, 3) := by decide +kernel
theorem d8_90 : decode prog_18_method_5_code 90 = .ok (.imul, 1) := by decide +kernel
theorem d8_91 : decode prog_18_method_5_code 91 = .ok (.aload_n 0, 1) := by decide +kernel
theorem d8_92 : decode prog_18_method_5_code 92 = .ok (.getfield 19, 3) := by decide +kernel
theorem d8_95 : decode prog_18_method_5_code 95 = .ok (.arraylength, 1) := by decide +kernel
theorem d8_96 : decode prog_18_method_5_code 96 = .ok (.if_icmp .le 7, 3) := by decide +kernel
theorem d8_103 : decode prog_18_method_5_code 103 = .ok (.return_, 1) := by decide +kernel
theorem d8_61 : decode prog_18_method_5_code 61 = .ok (.aload_n 0, 1) := by decide +kernel
theorem d8_62 : decode prog_18_method_5_code 62 = .ok (.getfield 9, 3) := by decide +kernel
theorem d8_65 : decode prog_18_method_5_code 65 = .ok (.iload_n 1, 1) := by decide +kernel
theorem d8_66 : decode prog_18_method_5_code 66 = .ok (.iload_n 3, 1) := by decide +kernel
theorem d8_67 : decode prog_18_method_5_code 67 = .ok (.iastore, 1) := by decide +kernel
theorem d8_68 : decode prog_18_method_5_code 68 = .ok (.goto 35, 3) := by decide +kernel
theorem ef_8 (m : MethodId) (x0 : Addr) (x1 : Int32) (x2 : Int32) (x3 : Int32) : entryFrame m #[(.ref x0), (.int x1), (.int x2), (.int x3)] 4 = mkF m 0 #[.val (.ref x0), .val (.int x1), .val (.int x2), .val (.int x3)] [] := by first | (simp [entryFrame, mkF, argsToLocals, Value.category]; done) | rfl
def Q8 (Z : State) (p0 : Addr) (p1 : Int32) (p2 : Int32) (p3 : Int32) (be : Addr) (ba : Addr) (bn : Addr) (bf : Addr) (dr : Int32) (ow : Int32) (lw : Int32) (sz : Int32) (ne : Nat) (ge : Nat → Int32) (ga : Nat → Int32) (gn : Nat → Int32) (gf : Nat → Int32) (k : Nat) (zn : Nat) (h0 : Heap) (n0 : Nat) (v : Option Value) (h : Heap) (L : List Loc) : Prop := v = none ∧ Fr n0 L ∧ n0 ≤ h.size ∧ own_al Z h n0 p0 be ba bn bf dr ow lw (if (own_end ow ge gn k) = (0 : Int32) then (sz + (1 : Int32)) else sz) ne (if ow = (0 : Int32) then ge else (own_set ge k p3)) (if ow = (0 : Int32) then (own_set ga k p2) else ga) (if ow = (0 : Int32) then (own_set gn k p3) else gn) (if (own_end ow ge gn k) = (0 : Int32) then (own_set gf zn p1) else gf)
set_option maxRecDepth 65536 in
set_option maxHeartbeats 40000000 in
theorem rm8 (l : Launch) (Z : State) (a0 : Array Value) (hw : ∀ d ∈ tables_1, d.before a0 Z = true) (ws : List Jvm.Cond) (p0 : Addr) (p1 : Int32) (p2 : Int32) (p3 : Int32) (be : Addr) (ba : Addr) (bn : Addr) (bf : Addr) (dr : Int32) (ow : Int32) (lw : Int32) (sz : Int32) (ne : Nat) (ge : Nat → Int32) (ga : Nat → Int32) (gn : Nat → Int32) (gf : Nat → Int32) (k : Nat) (zn : Nat) (h0 : Heap) (n0 : Nat) (Z0 : n0 ≤ h0.size) (Hal : own_al Z h0 n0 p0 be ba bn bf dr ow lw sz ne ge ga gn gf) (hi0 : ¬ p1 < 0) (hik : p1.toNatClampNeg = k) (hi1 : ow = (0 : Int32) → k < 16) (hi2 : ¬ (ow = (0 : Int32)) → k < ne) (hz0 : ¬ sz < 0) (hzn : sz.toNatClampNeg = zn) (hz8 : zn < 8) :
    MetFree l (⟨"com/example/impronta/impronta/engine/Alignments", "put", "(III)V"⟩ : MethodName) (head1 (Jvm.Cond.code (⟨"com/example/impronta/impronta/engine/Alignments", "put", "(III)V"⟩ : MethodName) prog_18_method_5_code 4 none :: ws) ({ frames := 1, cells := 0, slots := 0, locals := 13 } : Room)) (fun a U => a = #[(.ref p0), (.int p1), (.int p2), (.int p3)] ∧ Z.Warmed39 U.vm ∧ U.heap = h0) (fun _ _ _ _ _ => True) (fun _ U o U' => ∃ v L, o = .returned v ∧ Q8 Z p0 p1 p2 p3 be ba bn bf dr ow lw sz ne ge ga gn gf k zn h0 n0 v U'.heap L ∧ FrameEnd U o U' L ({ frames := 1, cells := 0, slots := 0, locals := 13 } : Room).cells ({ frames := 1, cells := 0, slots := 0, locals := 13 } : Room).slots) := by
  refine MetFree.of_bodySF (plainFor_of_name pn_4) hisR ?_
  intro p e s m args below meth c s₁ Bd hml0 hP hK
  obtain ⟨rfl, hZ, hh⟩ := hP
  have hx := Bd.exec
  have hby := Bd.bytes
  have hml : c.maxLocals = 4 := hml0
  have hown : s.vm.findClass "com/example/impronta/impronta/engine/Alignments" = some m.cls := findClass_of_methodNamed Bd.named
  have hnm := (name_of_methodNamed Bd.named Bd.method).1
  have X0 : Stand p l e ({ frames := 1, cells := 0, slots := 0, locals := 13 } : Room) s m #[(.ref p0), (.int p1), (.int p2), (.int p3)] below meth c s₁ [] 0 0 := Stand.of_body Bd
  have e0 : s₁.heap = h0 := by rw [← hh, Bd.state]; rfl
  have N0 := Fr.nil n0
  have pre0 : ∀ t, Steps p.tables e below (s₁.setTop (mkF m 0 #[.val (.ref p0), .val (.int p1), .val (.int p2), .val (.int p3)] [])) t → Steps p.tables e below (s₁.setTop (entryFrame m #[(.ref p0), (.int p1), (.int p2), (.int p3)] 4)) t := fun t k => castTop (ef_8 m p0 p1 p2 p3) k
  obtain ⟨qE, q_direct, q_ownSlots, q_lowest, q_size, q_shift, q_endsByAlignment, q_alignments, q_ends, q_filled, Ve, Va, Vn, Vf, ⟨d0, d1, d2, d3, d4, d5, d6, d7, d8, d9⟩, ⟨g0, g1, g2, g3, g4⟩⟩ := id Hal
  have pre143 : ∀ t, Steps p.tables e below (s₁.setTop (mkF m 2 #[.val (.ref p0), .val (.int p1), .val (.int p2), .val (.int p3)] [(.int p1), (.ref p0)])) t → Steps p.tables e below (s₁.setTop (entryFrame m #[(.ref p0), (.int p1), (.int p2), (.int p3)] 4)) t := by
    intro t kont
    refine pre0 t ?_
    show Steps p.tables e below (s₁.setTop (mkF m 0 #[.val (.ref p0), .val (.int p1), .val (.int p2), .val (.int p3)] [])) _
    refine XS.aloadN X0.here hx rfl (hb hby d8_0) rfl rfl ?_
    show Steps p.tables e below (s₁.setTop (mkF m 1 #[.val (.ref p0), .val (.int p1), .val (.int p2), .val (.int p3)] [(.ref p0)])) _
    refine XS.iloadN X0.here hx rfl (hb hby d8_1) rfl ?_
    exact kont
  obtain ⟨cq144, kq144, q144a, q144b, q144c⟩ := isOf hZ e0 qE
  obtain ⟨_, _, ⟨T144, L144, k144, n144⟩, -, X144, ⟨Lc144, hQ144, l144, y144, z144⟩, st144⟩ := X0.virtualBack hx (y := (⟨"com/example/impronta/impronta/engine/Alignments", "end", "(I)I"⟩ : MethodName)) (z := (⟨"com/example/impronta/impronta/engine/Alignments", "end", "(I)I"⟩ : MethodName)) hown (mvT hZ (hw _ (List.mem_of_getElem? (i := 58) rfl))) (mvT hZ (hw _ (List.mem_of_getElem? (i := 59) rfl))) (notFace_of_selects (args := #[]) (mvT hZ (hw _ (List.mem_of_getElem? (i := 61) rfl)))) (mvT hZ (hw _ (List.mem_of_getElem? (i := 61) rfl))) (mvT hZ (hw _ (List.mem_of_getElem? (i := 60) rfl))) (by decide) (backOf (W := 0) (rm9 l Z a0 hw [] p0 p1 be ba bn bf dr ow lw sz ne ge ga gn gf k  h0 n0 Z0 Hal hi0 hik hi1 hi2) hZ (hw _ (List.mem_of_getElem? (i := 62) rfl)) (hw _ (List.mem_of_getElem? (i := 10) rfl)) (by decide) (by decide)) q144a q144c (g := (mkF m 2 #[.val (.ref p0), .val (.int p1), .val (.int p2), .val (.int p3)] [(.int p1), (.ref p0)])) rfl (by rw [hml]; rfl) (Steps.refl _) (argsL := [(.int p1)]) (rest := []) (lenOf pd_2 rfl) rfl (by show 2 * 0 + _ ≤ _; exact Nat.le_of_eq rfl) (hb hby d8_2) (fun _ _ => ⟨rfl, e0, (by decide : 0 + 0 ≤ _), (by decide : 0 + 0 ≤ _)⟩)
  dsimp only [Pt.U, Pt.locs, Pt.cells, Pt.slots] at X144 l144 y144 z144 st144 hQ144
  subst l144 y144 z144
  obtain ⟨rfl, N144q, e144⟩ := hQ144
  have N144 := Fr.app N0 N144q
  have pre145 : ∀ t, Steps p.tables e below (T144.setTop (mkF m 5 #[.val (.ref p0), .val (.int p1), .val (.int p2), .val (.int p3)] [(.int (own_end ow ge gn k))])) t → Steps p.tables e below (s₁.setTop (entryFrame m #[(.ref p0), (.int p1), (.int p2), (.int p3)] 4)) t := fun t kont => pre143 t (st144.trans kont)
  by_cases hc5 : (own_end ow ge gn k) = (0 : Int32)
  · have pre146 : ∀ t, Steps p.tables e below (T144.setTop (mkF m 9 #[.val (.ref p0), .val (.int p1), .val (.int p2), .val (.int p3)] [(.ref p0)])) t → Steps p.tables e below (s₁.setTop (entryFrame m #[(.ref p0), (.int p1), (.int p2), (.int p3)] 4)) t := by
      intro t kont
      refine pre145 t ?_
      show Steps p.tables e below (T144.setTop (mkF m 5 #[.val (.ref p0), .val (.int p1), .val (.int p2), .val (.int p3)] [(.int (own_end ow ge gn k))])) _
      refine XS.ifNo X144.here hx rfl (hb hby d8_5) rfl ((if0 _ _).trans (teq hc5).2) ?_
      show Steps p.tables e below (T144.setTop (mkF m 8 #[.val (.ref p0), .val (.int p1), .val (.int p2), .val (.int p3)] [])) _
      refine XS.aloadN X144.here hx rfl (hb hby d8_8) rfl rfl ?_
      exact kont
    obtain ⟨T147, X147, e147, st147⟩ := getF X144 hx hZ hown (host := "") (Or.inl (hw _ (List.mem_of_getElem? (i := 63) rfl))) Via.refl e144 q_size (g := (mkF m 9 #[.val (.ref p0), .val (.int p1), .val (.int p2), .val (.int p3)] [(.ref p0)])) rfl rfl (hb hby d8_9)
    have pre148 : ∀ t, Steps p.tables e below (T147.setTop (mkF m 12 #[.val (.ref p0), .val (.int p1), .val (.int p2), .val (.int p3)] [(.int sz)])) t → Steps p.tables e below (s₁.setTop (entryFrame m #[(.ref p0), (.int p1), (.int p2), (.int p3)] 4)) t := fun t kont => pre146 t (st147 _ kont)
    have pre149 : ∀ t, Steps p.tables e below (T147.setTop (mkF m 13 #[.val (.ref p0), .val (.int p1), .val (.int p2), .val (.int p3)] [(.ref p0), (.int sz)])) t → Steps p.tables e below (s₁.setTop (entryFrame m #[(.ref p0), (.int p1), (.int p2), (.int p3)] 4)) t := by
      intro t kont
      refine pre148 t ?_
      show Steps p.tables e below (T147.setTop (mkF m 12 #[.val (.ref p0), .val (.int p1), .val (.int p2), .val (.int p3)] [(.int sz)])) _
      refine XS.aloadN X147.here hx rfl (hb hby d8_12) rfl rfl ?_
      exact kont
    obtain ⟨T150, X150, e150, st150⟩ := getF X147 hx hZ hown (host := "") (Or.inl (hw _ (List.mem_of_getElem? (i := 34) rfl))) Via.refl e147 q_filled (g := (mkF m 13 #[.val (.ref p0), .val (.int p1), .val (.int p2), .val (.int p3)] [(.ref p0), (.int sz)])) rfl rfl (hb hby d8_13)
    have pre151 : ∀ t, Steps p.tables e below (T150.setTop (mkF m 16 #[.val (.ref p0), .val (.int p1), .val (.int p2), .val (.int p3)] [(.ref bf), (.int sz)])) t → Steps p.tables e below (s₁.setTop (entryFrame m #[(.ref p0), (.int p1), (.int p2), (.int p3)] 4)) t := fun t kont => pre149 t (st150 _ kont)
    have pre152 : ∀ t, Steps p.tables e below (T150.setTop (mkF m 17 #[.val (.ref p0), .val (.int p1), .val (.int p2), .val (.int p3)] [(.int (8 : Int32)), (.int sz)])) t → Steps p.tables e below (s₁.setTop (entryFrame m #[(.ref p0), (.int p1), (.int p2), (.int p3)] 4)) t := by
      intro t kont
      refine pre151 t ?_
      show Steps p.tables e below (T150.setTop (mkF m 16 #[.val (.ref p0), .val (.int p1), .val (.int p2), .val (.int p3)] [(.ref bf), (.int sz)])) _
      refine own_len X150 hx hZ e150 Vf (z := (8 : Int32)) (by decide) (fr := (mkF m 16 #[.val (.ref p0), .val (.int p1), .val (.int p2), .val (.int p3)] [(.ref bf), (.int sz)])) rfl rfl (hb hby d8_16) _ ?_
      exact kont
    by_cases hc17 : sz = (8 : Int32)
    · exfalso
      exact own_ne8 hzn hz8 hc17
    · have pre153 : ∀ t, Steps p.tables e below (T150.setTop (mkF m 38 #[.val (.ref p0), .val (.int p1), .val (.int p2), .val (.int p3)] [(.ref p0)])) t → Steps p.tables e below (s₁.setTop (entryFrame m #[(.ref p0), (.int p1), (.int p2), (.int p3)] 4)) t := by
        intro t kont
        refine pre152 t ?_
        show Steps p.tables e below (T150.setTop (mkF m 17 #[.val (.ref p0), .val (.int p1), .val (.int p2), .val (.int p3)] [(.int (8 : Int32)), (.int sz)])) _
        refine XS.icmpYes X150.here hx rfl (pc0 := 17) (pc' := 37) rfl (hb hby d8_17) rfl (feq hc17).2 (by decide) (by decide) ?_
        show Steps p.tables e below (T150.setTop (mkF m 37 #[.val (.ref p0), .val (.int p1), .val (.int p2), .val (.int p3)] [])) _
        refine XS.aloadN X150.here hx rfl (hb hby d8_37) rfl rfl ?_
        exact kont
      obtain ⟨T154, X154, e154, st154⟩ := getF X150 hx hZ hown (host := "") (Or.inl (hw _ (List.mem_of_getElem? (i := 34) rfl))) Via.refl e150 q_filled (g := (mkF m 38 #[.val (.ref p0), .val (.int p1), .val (.int p2), .val (.int p3)] [(.ref p0)])) rfl rfl (hb hby d8_38)
      have pre155 : ∀ t, Steps p.tables e below (T154.setTop (mkF m 41 #[.val (.ref p0), .val (.int p1), .val (.int p2), .val (.int p3)] [(.ref bf)])) t → Steps p.tables e below (s₁.setTop (entryFrame m #[(.ref p0), (.int p1), (.int p2), (.int p3)] 4)) t := fun t kont => pre153 t (st154 _ kont)
      have pre156 : ∀ t, Steps p.tables e below (T154.setTop (mkF m 43 #[.val (.ref p0), .val (.int p1), .val (.int p2), .val (.int p3)] [(.ref p0), (.ref p0), (.ref bf)])) t → Steps p.tables e below (s₁.setTop (entryFrame m #[(.ref p0), (.int p1), (.int p2), (.int p3)] 4)) t := by
        intro t kont
        refine pre155 t ?_
        show Steps p.tables e below (T154.setTop (mkF m 41 #[.val (.ref p0), .val (.int p1), .val (.int p2), .val (.int p3)] [(.ref bf)])) _
        refine XS.aloadN X154.here hx rfl (hb hby d8_41) rfl rfl ?_
        show Steps p.tables e below (T154.setTop (mkF m 42 #[.val (.ref p0), .val (.int p1), .val (.int p2), .val (.int p3)] [(.ref p0), (.ref bf)])) _
        refine XS.dup X154.here hx rfl (hb hby d8_42) rfl rfl ?_
        exact kont
      obtain ⟨T157, X157, e157, st157⟩ := getF X154 hx hZ hown (host := "") (Or.inl (hw _ (List.mem_of_getElem? (i := 63) rfl))) Via.refl e154 q_size (g := (mkF m 43 #[.val (.ref p0), .val (.int p1), .val (.int p2), .val (.int p3)] [(.ref p0), (.ref p0), (.ref bf)])) rfl rfl (hb hby d8_43)
      have pre158 : ∀ t, Steps p.tables e below (T157.setTop (mkF m 46 #[.val (.ref p0), .val (.int p1), .val (.int p2), .val (.int p3)] [(.int sz), (.ref p0), (.ref bf)])) t → Steps p.tables e below (s₁.setTop (entryFrame m #[(.ref p0), (.int p1), (.int p2), (.int p3)] 4)) t := fun t kont => pre156 t (st157 _ kont)
      have pre159 : ∀ t, Steps p.tables e below (T157.setTop (mkF m 49 #[.val (.ref p0), .val (.int p1), .val (.int p2), .val (.int p3)] [(.int (sz + (1 : Int32))), (.ref p0), (.int sz), (.ref bf)])) t → Steps p.tables e below (s₁.setTop (entryFrame m #[(.ref p0), (.int p1), (.int p2), (.int p3)] 4)) t := by
        intro t kont
        refine pre158 t ?_
        show Steps p.tables e below (T157.setTop (mkF m 46 #[.val (.ref p0), .val (.int p1), .val (.int p2), .val (.int p3)] [(.int sz), (.ref p0), (.ref bf)])) _
        refine XS.dupX1 X157.here hx rfl (hb hby d8_46) rfl rfl rfl ?_
        show Steps p.tables e below (T157.setTop (mkF m 47 #[.val (.ref p0), .val (.int p1), .val (.int p2), .val (.int p3)] [(.int sz), (.ref p0), (.int sz), (.ref bf)])) _
        refine XS.iconst X157.here hx rfl (hb hby d8_47) ?_
        show Steps p.tables e below (T157.setTop (mkF m 48 #[.val (.ref p0), .val (.int p1), .val (.int p2), .val (.int p3)] [(.int (1 : Int32)), (.int sz), (.ref p0), (.int sz), (.ref bf)])) _
        refine XS.iadd X157.here hx rfl (hb hby d8_48) rfl ?_
        exact kont
      obtain ⟨T160, h160, X160, e160, W160, st160⟩ := putF X157 hx hZ hown (host := "") (Or.inl (hw _ (List.mem_of_getElem? (i := 63) rfl))) Via.refl e157 q_size qE (Or.inl (hw _ (List.mem_of_getElem? (i := 64) rfl))) (hw _ (List.mem_of_getElem? (i := 9) rfl)) (ty := .int) (by decide) rfl rfl (g := (mkF m 49 #[.val (.ref p0), .val (.int p1), .val (.int p2), .val (.int p3)] [(.int (sz + (1 : Int32))), (.ref p0), (.int sz), (.ref bf)])) rfl rfl (hb hby d8_49)
      have f160_0 := Exa.wr W160 qE
      have f160_1 := Fld.other W160 q_direct (Or.inr (slot_ne (Or.inr (hw _ (List.mem_of_getElem? (i := 37) rfl))) (Or.inl (hw _ (List.mem_of_getElem? (i := 64) rfl))) (by decide) (t := .int) (t' := .int) (by decide) (by decide)))
      have f160_2 := Fld.other W160 q_ownSlots (Or.inr (slot_ne (Or.inl (hw _ (List.mem_of_getElem? (i := 44) rfl))) (Or.inl (hw _ (List.mem_of_getElem? (i := 64) rfl))) (by decide) (t := .boolean) (t' := .int) (by decide) (by decide)))
      have f160_3 := Fld.other W160 q_lowest (Or.inr (slot_ne (Or.inl (hw _ (List.mem_of_getElem? (i := 46) rfl))) (Or.inl (hw _ (List.mem_of_getElem? (i := 64) rfl))) (by decide) (t := .int) (t' := .int) (by decide) (by decide)))
      have f160_4 := Fld.same W160 q_size
      have f160_5 := Fld.other W160 q_shift (Or.inr (slot_ne (Or.inl (hw _ (List.mem_of_getElem? (i := 33) rfl))) (Or.inl (hw _ (List.mem_of_getElem? (i := 64) rfl))) (by decide) (t := .int) (t' := .int) (by decide) (by decide)))
      have f160_6 := Fld.other W160 q_endsByAlignment (Or.inr (slot_ne (Or.inl (hw _ (List.mem_of_getElem? (i := 19) rfl))) (Or.inl (hw _ (List.mem_of_getElem? (i := 64) rfl))) (by decide) (t := (.array .int)) (t' := .int) (by decide) (by decide)))
      have f160_7 := Fld.other W160 q_alignments (Or.inr (slot_ne (Or.inl (hw _ (List.mem_of_getElem? (i := 29) rfl))) (Or.inl (hw _ (List.mem_of_getElem? (i := 64) rfl))) (by decide) (t := (.array .int)) (t' := .int) (by decide) (by decide)))
      have f160_8 := Fld.other W160 q_ends (Or.inr (slot_ne (Or.inl (hw _ (List.mem_of_getElem? (i := 31) rfl))) (Or.inl (hw _ (List.mem_of_getElem? (i := 64) rfl))) (by decide) (t := (.array .int)) (t' := .int) (by decide) (by decide)))
      have f160_9 := Fld.other W160 q_filled (Or.inr (slot_ne (Or.inl (hw _ (List.mem_of_getElem? (i := 35) rfl))) (Or.inl (hw _ (List.mem_of_getElem? (i := 64) rfl))) (by decide) (t := (.array .int)) (t' := .int) (by decide) (by decide)))
      have f160_10 := Ve.other W160 (Ne.symm d0)
      have f160_11 := Va.other W160 (Ne.symm d1)
      have f160_12 := Vn.other W160 (Ne.symm d2)
      have f160_13 := Vf.other W160 (Ne.symm d3)
      have Z160 : n0 ≤ h160.size := Nat.le_trans Z0 (Keep.of_wr W160).1
      have N160 := Fr.snoc X160 N144 g0
      have pre161 : ∀ t, Steps p.tables e below (T160.setTop (mkF m 52 #[.val (.ref p0), .val (.int p1), .val (.int p2), .val (.int p3)] [(.int sz), (.ref bf)])) t → Steps p.tables e below (s₁.setTop (entryFrame m #[(.ref p0), (.int p1), (.int p2), (.int p3)] 4)) t := fun t kont => pre159 t (st160 _ kont)
      have pre162 : ∀ t, Steps p.tables e below (T160.setTop (mkF m 53 #[.val (.ref p0), .val (.int p1), .val (.int p2), .val (.int p3)] [(.int p1), (.int sz), (.ref bf)])) t → Steps p.tables e below (s₁.setTop (entryFrame m #[(.ref p0), (.int p1), (.int p2), (.int p3)] 4)) t := by
        intro t kont
        refine pre161 t ?_
        show Steps p.tables e below (T160.setTop (mkF m 52 #[.val (.ref p0), .val (.int p1), .val (.int p2), .val (.int p3)] [(.int sz), (.ref bf)])) _
        refine XS.iloadN X160.here hx rfl (hb hby d8_52) rfl ?_
        exact kont
      obtain ⟨T163, h163, X163, e163, W163, V163, st163⟩ := own_stI X160 hx hZ e160 f160_13 (k := zn) hz0 hzn hz8 (fr := (mkF m 53 #[.val (.ref p0), .val (.int p1), .val (.int p2), .val (.int p3)] [(.int p1), (.int sz), (.ref bf)])) rfl rfl (hb hby d8_53)
      have f163_0 := Exa.wr W163 f160_0
      have f163_1 := Fld.other W163 f160_1 (Or.inl d3)
      have f163_2 := Fld.other W163 f160_2 (Or.inl d3)
      have f163_3 := Fld.other W163 f160_3 (Or.inl d3)
      have f163_4 := Fld.other W163 f160_4 (Or.inl d3)
      have f163_5 := Fld.other W163 f160_5 (Or.inl d3)
      have f163_6 := Fld.other W163 f160_6 (Or.inl d3)
      have f163_7 := Fld.other W163 f160_7 (Or.inl d3)
      have f163_8 := Fld.other W163 f160_8 (Or.inl d3)
      have f163_9 := Fld.other W163 f160_9 (Or.inl d3)
      have f163_10 := f160_10.other W163 d6
      have f163_11 := f160_11.other W163 d8
      have f163_12 := f160_12.other W163 d9
      obtain ⟨u53, hu53⟩ : ∃ z : Nat → Int32, z = fun i => if i = zn then p1 else gf i := ⟨_, rfl⟩
      replace V163 : own_arr Z h163 bf .int 8 (fun i => .int (u53 i)) := by rw [hu53]; exact V163
      have Z163 : n0 ≤ h163.size := Nat.le_trans Z160 (Keep.of_wr W163).1
      have N163 := Fr.snoc X163 N160 g4
      have pre164 : ∀ t, Steps p.tables e below (T163.setTop (mkF m 54 #[.val (.ref p0), .val (.int p1), .val (.int p2), .val (.int p3)] [])) t → Steps p.tables e below (s₁.setTop (entryFrame m #[(.ref p0), (.int p1), (.int p2), (.int p3)] 4)) t := fun t kont => pre162 t (st163 _ kont)
      have pre165 : ∀ t, Steps p.tables e below (T163.setTop (mkF m 55 #[.val (.ref p0), .val (.int p1), .val (.int p2), .val (.int p3)] [(.ref p0)])) t → Steps p.tables e below (s₁.setTop (entryFrame m #[(.ref p0), (.int p1), (.int p2), (.int p3)] 4)) t := by
        intro t kont
        refine pre164 t ?_
        show Steps p.tables e below (T163.setTop (mkF m 54 #[.val (.ref p0), .val (.int p1), .val (.int p2), .val (.int p3)] [])) _
        refine XS.aloadN X163.here hx rfl (hb hby d8_54) rfl rfl ?_
        exact kont
      obtain ⟨T166, X166, e166, st166⟩ := getF X163 hx hZ hown (host := "") (Or.inl (hw _ (List.mem_of_getElem? (i := 43) rfl))) Via.refl e163 f163_2 (g := (mkF m 55 #[.val (.ref p0), .val (.int p1), .val (.int p2), .val (.int p3)] [(.ref p0)])) rfl rfl (hb hby d8_55)
      have pre167 : ∀ t, Steps p.tables e below (T166.setTop (mkF m 58 #[.val (.ref p0), .val (.int p1), .val (.int p2), .val (.int p3)] [(.int ow)])) t → Steps p.tables e below (s₁.setTop (entryFrame m #[(.ref p0), (.int p1), (.int p2), (.int p3)] 4)) t := fun t kont => pre165 t (st166 _ kont)
      by_cases hc58 : ow = (0 : Int32)
      · have pre168 : ∀ t, Steps p.tables e below (T166.setTop (mkF m 72 #[.val (.ref p0), .val (.int p1), .val (.int p2), .val (.int p3)] [(.ref p0)])) t → Steps p.tables e below (s₁.setTop (entryFrame m #[(.ref p0), (.int p1), (.int p2), (.int p3)] 4)) t := by
          intro t kont
          refine pre167 t ?_
          show Steps p.tables e below (T166.setTop (mkF m 58 #[.val (.ref p0), .val (.int p1), .val (.int p2), .val (.int p3)] [(.int ow)])) _
          refine XS.ifYes X166.here hx rfl (pc0 := 58) (pc' := 71) rfl (hb hby d8_58) rfl ((if0 _ _).trans (teq hc58).1) (by decide) (by decide) ?_
          show Steps p.tables e below (T166.setTop (mkF m 71 #[.val (.ref p0), .val (.int p1), .val (.int p2), .val (.int p3)] [])) _
          refine XS.aloadN X166.here hx rfl (hb hby d8_71) rfl rfl ?_
          exact kont
        obtain ⟨T169, X169, e169, st169⟩ := getF X166 hx hZ hown (host := "") (Or.inl (hw _ (List.mem_of_getElem? (i := 30) rfl))) Via.refl e166 f163_8 (g := (mkF m 72 #[.val (.ref p0), .val (.int p1), .val (.int p2), .val (.int p3)] [(.ref p0)])) rfl rfl (hb hby d8_72)
        have pre170 : ∀ t, Steps p.tables e below (T169.setTop (mkF m 75 #[.val (.ref p0), .val (.int p1), .val (.int p2), .val (.int p3)] [(.ref bn)])) t → Steps p.tables e below (s₁.setTop (entryFrame m #[(.ref p0), (.int p1), (.int p2), (.int p3)] 4)) t := fun t kont => pre168 t (st169 _ kont)
        have pre171 : ∀ t, Steps p.tables e below (T169.setTop (mkF m 77 #[.val (.ref p0), .val (.int p1), .val (.int p2), .val (.int p3)] [(.int p3), (.int p1), (.ref bn)])) t → Steps p.tables e below (s₁.setTop (entryFrame m #[(.ref p0), (.int p1), (.int p2), (.int p3)] 4)) t := by
          intro t kont
          refine pre170 t ?_
          show Steps p.tables e below (T169.setTop (mkF m 75 #[.val (.ref p0), .val (.int p1), .val (.int p2), .val (.int p3)] [(.ref bn)])) _
          refine XS.iloadN X169.here hx rfl (hb hby d8_75) rfl ?_
          show Steps p.tables e below (T169.setTop (mkF m 76 #[.val (.ref p0), .val (.int p1), .val (.int p2), .val (.int p3)] [(.int p1), (.ref bn)])) _
          refine XS.iloadN X169.here hx rfl (hb hby d8_76) rfl ?_
          exact kont
        obtain ⟨T172, h172, X172, e172, W172, V172, st172⟩ := own_stI X169 hx hZ e169 f163_12 (k := k) hi0 hik (hi1 hc58) (fr := (mkF m 77 #[.val (.ref p0), .val (.int p1), .val (.int p2), .val (.int p3)] [(.int p3), (.int p1), (.ref bn)])) rfl rfl (hb hby d8_77)
        have f172_0 := Exa.wr W172 f163_0
        have f172_1 := Fld.other W172 f163_1 (Or.inl d2)
        have f172_2 := Fld.other W172 f163_2 (Or.inl d2)
        have f172_3 := Fld.other W172 f163_3 (Or.inl d2)
        have f172_4 := Fld.other W172 f163_4 (Or.inl d2)
        have f172_5 := Fld.other W172 f163_5 (Or.inl d2)
        have f172_6 := Fld.other W172 f163_6 (Or.inl d2)
        have f172_7 := Fld.other W172 f163_7 (Or.inl d2)
        have f172_8 := Fld.other W172 f163_8 (Or.inl d2)
        have f172_9 := Fld.other W172 f163_9 (Or.inl d2)
        have f172_10 := f163_10.other W172 d5
        have f172_11 := f163_11.other W172 d7
        have f172_12 := V163.other W172 (Ne.symm d9)
        obtain ⟨u77, hu77⟩ : ∃ z : Nat → Int32, z = fun i => if i = k then p3 else gn i := ⟨_, rfl⟩
        replace V172 : own_arr Z h172 bn .int 16 (fun i => .int (u77 i)) := by rw [hu77]; exact V172
        have Z172 : n0 ≤ h172.size := Nat.le_trans Z163 (Keep.of_wr W172).1
        have N172 := Fr.snoc X172 N163 g3
        have pre173 : ∀ t, Steps p.tables e below (T172.setTop (mkF m 78 #[.val (.ref p0), .val (.int p1), .val (.int p2), .val (.int p3)] [])) t → Steps p.tables e below (s₁.setTop (entryFrame m #[(.ref p0), (.int p1), (.int p2), (.int p3)] 4)) t := fun t kont => pre171 t (st172 _ kont)
        have pre174 : ∀ t, Steps p.tables e below (T172.setTop (mkF m 79 #[.val (.ref p0), .val (.int p1), .val (.int p2), .val (.int p3)] [(.ref p0)])) t → Steps p.tables e below (s₁.setTop (entryFrame m #[(.ref p0), (.int p1), (.int p2), (.int p3)] 4)) t := by
          intro t kont
          refine pre173 t ?_
          show Steps p.tables e below (T172.setTop (mkF m 78 #[.val (.ref p0), .val (.int p1), .val (.int p2), .val (.int p3)] [])) _
          refine XS.aloadN X172.here hx rfl (hb hby d8_78) rfl rfl ?_
          exact kont
        obtain ⟨T175, X175, e175, st175⟩ := getF X172 hx hZ hown (host := "") (Or.inl (hw _ (List.mem_of_getElem? (i := 28) rfl))) Via.refl e172 f172_7 (g := (mkF m 79 #[.val (.ref p0), .val (.int p1), .val (.int p2), .val (.int p3)] [(.ref p0)])) rfl rfl (hb hby d8_79)
        have pre176 : ∀ t, Steps p.tables e below (T175.setTop (mkF m 82 #[.val (.ref p0), .val (.int p1), .val (.int p2), .val (.int p3)] [(.ref ba)])) t → Steps p.tables e below (s₁.setTop (entryFrame m #[(.ref p0), (.int p1), (.int p2), (.int p3)] 4)) t := fun t kont => pre174 t (st175 _ kont)
        have pre177 : ∀ t, Steps p.tables e below (T175.setTop (mkF m 84 #[.val (.ref p0), .val (.int p1), .val (.int p2), .val (.int p3)] [(.int p2), (.int p1), (.ref ba)])) t → Steps p.tables e below (s₁.setTop (entryFrame m #[(.ref p0), (.int p1), (.int p2), (.int p3)] 4)) t := by
          intro t kont
          refine pre176 t ?_
          show Steps p.tables e below (T175.setTop (mkF m 82 #[.val (.ref p0), .val (.int p1), .val (.int p2), .val (.int p3)] [(.ref ba)])) _
          refine XS.iloadN X175.here hx rfl (hb hby d8_82) rfl ?_
          show Steps p.tables e below (T175.setTop (mkF m 83 #[.val (.ref p0), .val (.int p1), .val (.int p2), .val (.int p3)] [(.int p1), (.ref ba)])) _
          refine XS.iloadN X175.here hx rfl (hb hby d8_83) rfl ?_
          exact kont
        obtain ⟨T178, h178, X178, e178, W178, V178, st178⟩ := own_stI X175 hx hZ e175 f172_11 (k := k) hi0 hik (hi1 hc58) (fr := (mkF m 84 #[.val (.ref p0), .val (.int p1), .val (.int p2), .val (.int p3)] [(.int p2), (.int p1), (.ref ba)])) rfl rfl (hb hby d8_84)
        have f178_0 := Exa.wr W178 f172_0
        have f178_1 := Fld.other W178 f172_1 (Or.inl d1)
        have f178_2 := Fld.other W178 f172_2 (Or.inl d1)
        have f178_3 := Fld.other W178 f172_3 (Or.inl d1)
        have f178_4 := Fld.other W178 f172_4 (Or.inl d1)
        have f178_5 := Fld.other W178 f172_5 (Or.inl d1)
        have f178_6 := Fld.other W178 f172_6 (Or.inl d1)
        have f178_7 := Fld.other W178 f172_7 (Or.inl d1)
        have f178_8 := Fld.other W178 f172_8 (Or.inl d1)
        have f178_9 := Fld.other W178 f172_9 (Or.inl d1)
        have f178_10 := f172_10.other W178 d4
        have f178_11 := f172_12.other W178 (Ne.symm d8)
        have f178_12 := V172.other W178 (Ne.symm d7)
        obtain ⟨u84, hu84⟩ : ∃ z : Nat → Int32, z = fun i => if i = k then p2 else ga i := ⟨_, rfl⟩
        replace V178 : own_arr Z h178 ba .int 16 (fun i => .int (u84 i)) := by rw [hu84]; exact V178
        have Z178 : n0 ≤ h178.size := Nat.le_trans Z172 (Keep.of_wr W178).1
        have N178 := Fr.snoc X178 N172 g2
        have pre179 : ∀ t, Steps p.tables e below (T178.setTop (mkF m 85 #[.val (.ref p0), .val (.int p1), .val (.int p2), .val (.int p3)] [])) t → Steps p.tables e below (s₁.setTop (entryFrame m #[(.ref p0), (.int p1), (.int p2), (.int p3)] 4)) t := fun t kont => pre177 t (st178 _ kont)
        have pre180 : ∀ t, Steps p.tables e below (T178.setTop (mkF m 87 #[.val (.ref p0), .val (.int p1), .val (.int p2), .val (.int p3)] [(.ref p0), (.int (2 : Int32))])) t → Steps p.tables e below (s₁.setTop (entryFrame m #[(.ref p0), (.int p1), (.int p2), (.int p3)] 4)) t := by
          intro t kont
          refine pre179 t ?_
          show Steps p.tables e below (T178.setTop (mkF m 85 #[.val (.ref p0), .val (.int p1), .val (.int p2), .val (.int p3)] [])) _
          refine XS.iconst X178.here hx rfl (hb hby d8_85) ?_
          show Steps p.tables e below (T178.setTop (mkF m 86 #[.val (.ref p0), .val (.int p1), .val (.int p2), .val (.int p3)] [(.int (2 : Int32))])) _
          refine XS.aloadN X178.here hx rfl (hb hby d8_86) rfl rfl ?_
          exact kont
        obtain ⟨T181, X181, e181, st181⟩ := getF X178 hx hZ hown (host := "") (Or.inl (hw _ (List.mem_of_getElem? (i := 63) rfl))) Via.refl e178 f178_4 (g := (mkF m 87 #[.val (.ref p0), .val (.int p1), .val (.int p2), .val (.int p3)] [(.ref p0), (.int (2 : Int32))])) rfl rfl (hb hby d8_87)
        have pre182 : ∀ t, Steps p.tables e below (T181.setTop (mkF m 90 #[.val (.ref p0), .val (.int p1), .val (.int p2), .val (.int p3)] [(.int (sz + (1 : Int32))), (.int (2 : Int32))])) t → Steps p.tables e below (s₁.setTop (entryFrame m #[(.ref p0), (.int p1), (.int p2), (.int p3)] 4)) t := fun t kont => pre180 t (st181 _ kont)
        have pre183 : ∀ t, Steps p.tables e below (T181.setTop (mkF m 92 #[.val (.ref p0), .val (.int p1), .val (.int p2), .val (.int p3)] [(.ref p0), (.int ((2 : Int32) * (sz + (1 : Int32))))])) t → Steps p.tables e below (s₁.setTop (entryFrame m #[(.ref p0), (.int p1), (.int p2), (.int p3)] 4)) t := by
          intro t kont
          refine pre182 t ?_
          show Steps p.tables e below (T181.setTop (mkF m 90 #[.val (.ref p0), .val (.int p1), .val (.int p2), .val (.int p3)] [(.int (sz + (1 : Int32))), (.int (2 : Int32))])) _
          refine XS.imul X181.here hx rfl (hb hby d8_90) rfl ?_
          show Steps p.tables e below (T181.setTop (mkF m 91 #[.val (.ref p0), .val (.int p1), .val (.int p2), .val (.int p3)] [(.int ((2 : Int32) * (sz + (1 : Int32))))])) _
          refine XS.aloadN X181.here hx rfl (hb hby d8_91) rfl rfl ?_
          exact kont
        obtain ⟨T184, X184, e184, st184⟩ := getF X181 hx hZ hown (host := "") (Or.inl (hw _ (List.mem_of_getElem? (i := 28) rfl))) Via.refl e181 f178_7 (g := (mkF m 92 #[.val (.ref p0), .val (.int p1), .val (.int p2), .val (.int p3)] [(.ref p0), (.int ((2 : Int32) * (sz + (1 : Int32))))])) rfl rfl (hb hby d8_92)
        have pre185 : ∀ t, Steps p.tables e below (T184.setTop (mkF m 95 #[.val (.ref p0), .val (.int p1), .val (.int p2), .val (.int p3)] [(.ref ba), (.int ((2 : Int32) * (sz + (1 : Int32))))])) t → Steps p.tables e below (s₁.setTop (entryFrame m #[(.ref p0), (.int p1), (.int p2), (.int p3)] 4)) t := fun t kont => pre183 t (st184 _ kont)
        have pre186 : ∀ t, Steps p.tables e below (T184.setTop (mkF m 96 #[.val (.ref p0), .val (.int p1), .val (.int p2), .val (.int p3)] [(.int (16 : Int32)), (.int ((2 : Int32) * (sz + (1 : Int32))))])) t → Steps p.tables e below (s₁.setTop (entryFrame m #[(.ref p0), (.int p1), (.int p2), (.int p3)] 4)) t := by
          intro t kont
          refine pre185 t ?_
          show Steps p.tables e below (T184.setTop (mkF m 95 #[.val (.ref p0), .val (.int p1), .val (.int p2), .val (.int p3)] [(.ref ba), (.int ((2 : Int32) * (sz + (1 : Int32))))])) _
          refine own_len X184 hx hZ e184 V178 (z := (16 : Int32)) (by decide) (fr := (mkF m 95 #[.val (.ref p0), .val (.int p1), .val (.int p2), .val (.int p3)] [(.ref ba), (.int ((2 : Int32) * (sz + (1 : Int32))))])) rfl rfl (hb hby d8_95) _ ?_
          exact kont
        by_cases hc96 : (16 : Int32) < ((2 : Int32) * (sz + (1 : Int32)))
        · exfalso
          first | exact (own_twice hz0 hzn hz8).1 hc96 | exact (own_twice hz0 hzn hz8).2 hc96
        · have pre187 : ∀ t, Steps p.tables e below (T184.setTop (mkF m 103 #[.val (.ref p0), .val (.int p1), .val (.int p2), .val (.int p3)] [])) t → Steps p.tables e below (s₁.setTop (entryFrame m #[(.ref p0), (.int p1), (.int p2), (.int p3)] 4)) t := by
            intro t kont
            refine pre186 t ?_
            show Steps p.tables e below (T184.setTop (mkF m 96 #[.val (.ref p0), .val (.int p1), .val (.int p2), .val (.int p3)] [(.int (16 : Int32)), (.int ((2 : Int32) * (sz + (1 : Int32))))])) _
            refine XS.icmpYes X184.here hx rfl (pc0 := 96) (pc' := 103) rfl (hb hby d8_96) rfl (flt hc96).2.2.2 (by decide) (by decide) ?_
            exact kont
          obtain ⟨fs, hr, hrun, hended, hW, hsame⟩ := X184.leave (v := none) (fun _ => rfl)
          refine ⟨_, _, pre187 _ ?_, hrun, hended, _, _, rfl, ?_, ⟨_, rfl⟩, hW, hsame.mono (by decide) (by decide)⟩
          · exact X184.returnOut hx Bd.returns (hb hby d8_103) hr
          · show Q8 Z p0 p1 p2 p3 be ba bn bf dr ow lw sz ne ge ga gn gf k zn h0 n0 _ T184.heap _
            rw [e184]
            refine ⟨rfl, N178, Z178, ?_⟩
            simp only [if_pos hc5, if_pos hc58]
            exact ⟨f178_0, f178_1, f178_2, f178_3, f178_4, f178_5, f178_6, f178_7, f178_8, f178_9, f178_10, (V178.to rfl (fun j _ => by rw [hu84]; rfl)), (f178_12.to rfl (fun j _ => by rw [hu77]; rfl)), (f178_11.to rfl (fun j _ => by rw [hu53]; rfl)), ⟨d0, d1, d2, d3, d4, d5, d6, d7, d8, d9⟩, ⟨g0, g1, g2, g3, g4⟩⟩
      · have pre188 : ∀ t, Steps p.tables e below (T166.setTop (mkF m 62 #[.val (.ref p0), .val (.int p1), .val (.int p2), .val (.int p3)] [(.ref p0)])) t → Steps p.tables e below (s₁.setTop (entryFrame m #[(.ref p0), (.int p1), (.int p2), (.int p3)] 4)) t := by
          intro t kont
          refine pre167 t ?_
          show Steps p.tables e below (T166.setTop (mkF m 58 #[.val (.ref p0), .val (.int p1), .val (.int p2), .val (.int p3)] [(.int ow)])) _
          refine XS.ifNo X166.here hx rfl (hb hby d8_58) rfl ((if0 _ _).trans (feq hc58).1) ?_
          show Steps p.tables e below (T166.setTop (mkF m 61 #[.val (.ref p0), .val (.int p1), .val (.int p2), .val (.int p3)] [])) _
          refine XS.aloadN X166.here hx rfl (hb hby d8_61) rfl rfl ?_
          exact kont
        obtain ⟨T189, X189, e189, st189⟩ := getF X166 hx hZ hown (host := "") (Or.inl (hw _ (List.mem_of_getElem? (i := 18) rfl))) Via.refl e166 f163_6 (g := (mkF m 62 #[.val (.ref p0), .val (.int p1), .val (.int p2), .val (.int p3)] [(.ref p0)])) rfl rfl (hb hby d8_62)
        have pre190 : ∀ t, Steps p.tables e below (T189.setTop (mkF m 65 #[.val (.ref p0), .val (.int p1), .val (.int p2), .val (.int p3)] [(.ref be)])) t → Steps p.tables e below (s₁.setTop (entryFrame m #[(.ref p0), (.int p1), (.int p2), (.int p3)] 4)) t := fun t kont => pre188 t (st189 _ kont)
        have pre191 : ∀ t, Steps p.tables e below (T189.setTop (mkF m 67 #[.val (.ref p0), .val (.int p1), .val (.int p2), .val (.int p3)] [(.int p3), (.int p1), (.ref be)])) t → Steps p.tables e below (s₁.setTop (entryFrame m #[(.ref p0), (.int p1), (.int p2), (.int p3)] 4)) t := by
          intro t kont
          refine pre190 t ?_
          show Steps p.tables e below (T189.setTop (mkF m 65 #[.val (.ref p0), .val (.int p1), .val (.int p2), .val (.int p3)] [(.ref be)])) _
          refine XS.iloadN X189.here hx rfl (hb hby d8_65) rfl ?_
          show Steps p.tables e below (T189.setTop (mkF m 66 #[.val (.ref p0), .val (.int p1), .val (.int p2), .val (.int p3)] [(.int p1), (.ref be)])) _
          refine XS.iloadN X189.here hx rfl (hb hby d8_66) rfl ?_
          exact kont
        obtain ⟨T192, h192, X192, e192, W192, V192, st192⟩ := own_stI X189 hx hZ e189 f163_10 (k := k) hi0 hik (hi2 hc58) (fr := (mkF m 67 #[.val (.ref p0), .val (.int p1), .val (.int p2), .val (.int p3)] [(.int p3), (.int p1), (.ref be)])) rfl rfl (hb hby d8_67)
        have f192_0 := Exa.wr W192 f163_0
        have f192_1 := Fld.other W192 f163_1 (Or.inl d0)
        have f192_2 := Fld.other W192 f163_2 (Or.inl d0)
        have f192_3 := Fld.other W192 f163_3 (Or.inl d0)
        have f192_4 := Fld.other W192 f163_4 (Or.inl d0)
        have f192_5 := Fld.other W192 f163_5 (Or.inl d0)
        have f192_6 := Fld.other W192 f163_6 (Or.inl d0)
        have f192_7 := Fld.other W192 f163_7 (Or.inl d0)
        have f192_8 := Fld.other W192 f163_8 (Or.inl d0)
        have f192_9 := Fld.other W192 f163_9 (Or.inl d0)
        have f192_10 := f163_11.other W192 (Ne.symm d4)
        have f192_11 := f163_12.other W192 (Ne.symm d5)
        have f192_12 := V163.other W192 (Ne.symm d6)
        obtain ⟨u67, hu67⟩ : ∃ z : Nat → Int32, z = fun i => if i = k then p3 else ge i := ⟨_, rfl⟩
        replace V192 : own_arr Z h192 be .int ne (fun i => .int (u67 i)) := by rw [hu67]; exact V192
        have Z192 : n0 ≤ h192.size := Nat.le_trans Z163 (Keep.of_wr W192).1
        have N192 := Fr.snoc X192 N163 g1
        have pre193 : ∀ t, Steps p.tables e below (T192.setTop (mkF m 68 #[.val (.ref p0), .val (.int p1), .val (.int p2), .val (.int p3)] [])) t → Steps p.tables e below (s₁.setTop (entryFrame m #[(.ref p0), (.int p1), (.int p2), (.int p3)] 4)) t := fun t kont => pre191 t (st192 _ kont)
        have pre194 : ∀ t, Steps p.tables e below (T192.setTop (mkF m 103 #[.val (.ref p0), .val (.int p1), .val (.int p2), .val (.int p3)] [])) t → Steps p.tables e below (s₁.setTop (entryFrame m #[(.ref p0), (.int p1), (.int p2), (.int p3)] 4)) t := by
          intro t kont
          refine pre193 t ?_
          show Steps p.tables e below (T192.setTop (mkF m 68 #[.val (.ref p0), .val (.int p1), .val (.int p2), .val (.int p3)] [])) _
          refine XS.goto X192.here hx rfl (pc0 := 68) (pc' := 103) rfl (hb hby d8_68) (by decide) (by decide) ?_
          exact kont
        obtain ⟨fs, hr, hrun, hended, hW, hsame⟩ := X192.leave (v := none) (fun _ => rfl)
        refine ⟨_, _, pre194 _ ?_, hrun, hended, _, _, rfl, ?_, ⟨_, rfl⟩, hW, hsame.mono (by decide) (by decide)⟩
        · exact X192.returnOut hx Bd.returns (hb hby d8_103) hr
        · show Q8 Z p0 p1 p2 p3 be ba bn bf dr ow lw sz ne ge ga gn gf k zn h0 n0 _ T192.heap _
          rw [e192]
          refine ⟨rfl, N192, Z192, ?_⟩
          simp only [if_pos hc5, if_neg hc58]
          exact ⟨f192_0, f192_1, f192_2, f192_3, f192_4, f192_5, f192_6, f192_7, f192_8, f192_9, (V192.to rfl (fun j _ => by rw [hu67]; rfl)), f192_10, f192_11, (f192_12.to rfl (fun j _ => by rw [hu53]; rfl)), ⟨d0, d1, d2, d3, d4, d5, d6, d7, d8, d9⟩, ⟨g0, g1, g2, g3, g4⟩⟩
  · have pre195 : ∀ t, Steps p.tables e below (T144.setTop (mkF m 55 #[.val (.ref p0), .val (.int p1), .val (.int p2), .val (.int p3)] [(.ref p0)])) t → Steps p.tables e below (s₁.setTop (entryFrame m #[(.ref p0), (.int p1), (.int p2), (.int p3)] 4)) t := by
      intro t kont
      refine pre145 t ?_
      show Steps p.tables e below (T144.setTop (mkF m 5 #[.val (.ref p0), .val (.int p1), .val (.int p2), .val (.int p3)] [(.int (own_end ow ge gn k))])) _
      refine XS.ifYes X144.here hx rfl (pc0 := 5) (pc' := 54) rfl (hb hby d8_5) rfl ((if0 _ _).trans (feq hc5).2) (by decide) (by decide) ?_
      show Steps p.tables e below (T144.setTop (mkF m 54 #[.val (.ref p0), .val (.int p1), .val (.int p2), .val (.int p3)] [])) _
      refine XS.aloadN X144.here hx rfl (hb hby d8_54) rfl rfl ?_
      exact kont
    obtain ⟨T196, X196, e196, st196⟩ := getF X144 hx hZ hown (host := "") (Or.inl (hw _ (List.mem_of_getElem? (i := 43) rfl))) Via.refl e144 q_ownSlots (g := (mkF m 55 #[.val (.ref p0), .val (.int p1), .val (.int p2), .val (.int p3)] [(.ref p0)])) rfl rfl (hb hby d8_55)
    have pre197 : ∀ t, Steps p.tables e below (T196.setTop (mkF m 58 #[.val (.ref p0), .val (.int p1), .val (.int p2), .val (.int p3)] [(.int ow)])) t → Steps p.tables e below (s₁.setTop (entryFrame m #[(.ref p0), (.int p1), (.int p2), (.int p3)] 4)) t := fun t kont => pre195 t (st196 _ kont)
    by_cases hc58 : ow = (0 : Int32)
    · have pre198 : ∀ t, Steps p.tables e below (T196.setTop (mkF m 72 #[.val (.ref p0), .val (.int p1), .val (.int p2), .val (.int p3)] [(.ref p0)])) t → Steps p.tables e below (s₁.setTop (entryFrame m #[(.ref p0), (.int p1), (.int p2), (.int p3)] 4)) t := by
        intro t kont
        refine pre197 t ?_
        show Steps p.tables e below (T196.setTop (mkF m 58 #[.val (.ref p0), .val (.int p1), .val (.int p2), .val (.int p3)] [(.int ow)])) _
        refine XS.ifYes X196.here hx rfl (pc0 := 58) (pc' := 71) rfl (hb hby d8_58) rfl ((if0 _ _).trans (teq hc58).1) (by decide) (by decide) ?_
        show Steps p.tables e below (T196.setTop (mkF m 71 #[.val (.ref p0), .val (.int p1), .val (.int p2), .val (.int p3)] [])) _
        refine XS.aloadN X196.here hx rfl (hb hby d8_71) rfl rfl ?_
        exact kont
      obtain ⟨T199, X199, e199, st199⟩ := getF X196 hx hZ hown (host := "") (Or.inl (hw _ (List.mem_of_getElem? (i := 30) rfl))) Via.refl e196 q_ends (g := (mkF m 72 #[.val (.ref p0), .val (.int p1), .val (.int p2), .val (.int p3)] [(.ref p0)])) rfl rfl (hb hby d8_72)
      have pre200 : ∀ t, Steps p.tables e below (T199.setTop (mkF m 75 #[.val (.ref p0), .val (.int p1), .val (.int p2), .val (.int p3)] [(.ref bn)])) t → Steps p.tables e below (s₁.setTop (entryFrame m #[(.ref p0), (.int p1), (.int p2), (.int p3)] 4)) t := fun t kont => pre198 t (st199 _ kont)
      have pre201 : ∀ t, Steps p.tables e below (T199.setTop (mkF m 77 #[.val (.ref p0), .val (.int p1), .val (.int p2), .val (.int p3)] [(.int p3), (.int p1), (.ref bn)])) t → Steps p.tables e below (s₁.setTop (entryFrame m #[(.ref p0), (.int p1), (.int p2), (.int p3)] 4)) t := by
        intro t kont
        refine pre200 t ?_
        show Steps p.tables e below (T199.setTop (mkF m 75 #[.val (.ref p0), .val (.int p1), .val (.int p2), .val (.int p3)] [(.ref bn)])) _
        refine XS.iloadN X199.here hx rfl (hb hby d8_75) rfl ?_
        show Steps p.tables e below (T199.setTop (mkF m 76 #[.val (.ref p0), .val (.int p1), .val (.int p2), .val (.int p3)] [(.int p1), (.ref bn)])) _
        refine XS.iloadN X199.here hx rfl (hb hby d8_76) rfl ?_
        exact kont
      obtain ⟨T202, h202, X202, e202, W202, V202, st202⟩ := own_stI X199 hx hZ e199 Vn (k := k) hi0 hik (hi1 hc58) (fr := (mkF m 77 #[.val (.ref p0), .val (.int p1), .val (.int p2), .val (.int p3)] [(.int p3), (.int p1), (.ref bn)])) rfl rfl (hb hby d8_77)
      have f202_0 := Exa.wr W202 qE
      have f202_1 := Fld.other W202 q_direct (Or.inl d2)
      have f202_2 := Fld.other W202 q_ownSlots (Or.inl d2)
      have f202_3 := Fld.other W202 q_lowest (Or.inl d2)
      have f202_4 := Fld.other W202 q_size (Or.inl d2)
      have f202_5 := Fld.other W202 q_shift (Or.inl d2)
      have f202_6 := Fld.other W202 q_endsByAlignment (Or.inl d2)
      have f202_7 := Fld.other W202 q_alignments (Or.inl d2)
      have f202_8 := Fld.other W202 q_ends (Or.inl d2)
      have f202_9 := Fld.other W202 q_filled (Or.inl d2)
      have f202_10 := Ve.other W202 d5
      have f202_11 := Va.other W202 d7
      have f202_12 := Vf.other W202 (Ne.symm d9)
      obtain ⟨u77, hu77⟩ : ∃ z : Nat → Int32, z = fun i => if i = k then p3 else gn i := ⟨_, rfl⟩
      replace V202 : own_arr Z h202 bn .int 16 (fun i => .int (u77 i)) := by rw [hu77]; exact V202
      have Z202 : n0 ≤ h202.size := Nat.le_trans Z0 (Keep.of_wr W202).1
      have N202 := Fr.snoc X202 N144 g3
      have pre203 : ∀ t, Steps p.tables e below (T202.setTop (mkF m 78 #[.val (.ref p0), .val (.int p1), .val (.int p2), .val (.int p3)] [])) t → Steps p.tables e below (s₁.setTop (entryFrame m #[(.ref p0), (.int p1), (.int p2), (.int p3)] 4)) t := fun t kont => pre201 t (st202 _ kont)
      have pre204 : ∀ t, Steps p.tables e below (T202.setTop (mkF m 79 #[.val (.ref p0), .val (.int p1), .val (.int p2), .val (.int p3)] [(.ref p0)])) t → Steps p.tables e below (s₁.setTop (entryFrame m #[(.ref p0), (.int p1), (.int p2), (.int p3)] 4)) t := by
        intro t kont
        refine pre203 t ?_
        show Steps p.tables e below (T202.setTop (mkF m 78 #[.val (.ref p0), .val (.int p1), .val (.int p2), .val (.int p3)] [])) _
        refine XS.aloadN X202.here hx rfl (hb hby d8_78) rfl rfl ?_
        exact kont
      obtain ⟨T205, X205, e205, st205⟩ := getF X202 hx hZ hown (host := "") (Or.inl (hw _ (List.mem_of_getElem? (i := 28) rfl))) Via.refl e202 f202_7 (g := (mkF m 79 #[.val (.ref p0), .val (.int p1), .val (.int p2), .val (.int p3)] [(.ref p0)])) rfl rfl (hb hby d8_79)
      have pre206 : ∀ t, Steps p.tables e below (T205.setTop (mkF m 82 #[.val (.ref p0), .val (.int p1), .val (.int p2), .val (.int p3)] [(.ref ba)])) t → Steps p.tables e below (s₁.setTop (entryFrame m #[(.ref p0), (.int p1), (.int p2), (.int p3)] 4)) t := fun t kont => pre204 t (st205 _ kont)
      have pre207 : ∀ t, Steps p.tables e below (T205.setTop (mkF m 84 #[.val (.ref p0), .val (.int p1), .val (.int p2), .val (.int p3)] [(.int p2), (.int p1), (.ref ba)])) t → Steps p.tables e below (s₁.setTop (entryFrame m #[(.ref p0), (.int p1), (.int p2), (.int p3)] 4)) t := by
        intro t kont
        refine pre206 t ?_
        show Steps p.tables e below (T205.setTop (mkF m 82 #[.val (.ref p0), .val (.int p1), .val (.int p2), .val (.int p3)] [(.ref ba)])) _
        refine XS.iloadN X205.here hx rfl (hb hby d8_82) rfl ?_
        show Steps p.tables e below (T205.setTop (mkF m 83 #[.val (.ref p0), .val (.int p1), .val (.int p2), .val (.int p3)] [(.int p1), (.ref ba)])) _
        refine XS.iloadN X205.here hx rfl (hb hby d8_83) rfl ?_
        exact kont
      obtain ⟨T208, h208, X208, e208, W208, V208, st208⟩ := own_stI X205 hx hZ e205 f202_11 (k := k) hi0 hik (hi1 hc58) (fr := (mkF m 84 #[.val (.ref p0), .val (.int p1), .val (.int p2), .val (.int p3)] [(.int p2), (.int p1), (.ref ba)])) rfl rfl (hb hby d8_84)
      have f208_0 := Exa.wr W208 f202_0
      have f208_1 := Fld.other W208 f202_1 (Or.inl d1)
      have f208_2 := Fld.other W208 f202_2 (Or.inl d1)
      have f208_3 := Fld.other W208 f202_3 (Or.inl d1)
      have f208_4 := Fld.other W208 f202_4 (Or.inl d1)
      have f208_5 := Fld.other W208 f202_5 (Or.inl d1)
      have f208_6 := Fld.other W208 f202_6 (Or.inl d1)
      have f208_7 := Fld.other W208 f202_7 (Or.inl d1)
      have f208_8 := Fld.other W208 f202_8 (Or.inl d1)
      have f208_9 := Fld.other W208 f202_9 (Or.inl d1)
      have f208_10 := f202_10.other W208 d4
      have f208_11 := f202_12.other W208 (Ne.symm d8)
      have f208_12 := V202.other W208 (Ne.symm d7)
      obtain ⟨u84, hu84⟩ : ∃ z : Nat → Int32, z = fun i => if i = k then p2 else ga i := ⟨_, rfl⟩
      replace V208 : own_arr Z h208 ba .int 16 (fun i => .int (u84 i)) := by rw [hu84]; exact V208
      have Z208 : n0 ≤ h208.size := Nat.le_trans Z202 (Keep.of_wr W208).1
      have N208 := Fr.snoc X208 N202 g2
      have pre209 : ∀ t, Steps p.tables e below (T208.setTop (mkF m 85 #[.val (.ref p0), .val (.int p1), .val (.int p2), .val (.int p3)] [])) t → Steps p.tables e below (s₁.setTop (entryFrame m #[(.ref p0), (.int p1), (.int p2), (.int p3)] 4)) t := fun t kont => pre207 t (st208 _ kont)
      have pre210 : ∀ t, Steps p.tables e below (T208.setTop (mkF m 87 #[.val (.ref p0), .val (.int p1), .val (.int p2), .val (.int p3)] [(.ref p0), (.int (2 : Int32))])) t → Steps p.tables e below (s₁.setTop (entryFrame m #[(.ref p0), (.int p1), (.int p2), (.int p3)] 4)) t := by
        intro t kont
        refine pre209 t ?_
        show Steps p.tables e below (T208.setTop (mkF m 85 #[.val (.ref p0), .val (.int p1), .val (.int p2), .val (.int p3)] [])) _
        refine XS.iconst X208.here hx rfl (hb hby d8_85) ?_
        show Steps p.tables e below (T208.setTop (mkF m 86 #[.val (.ref p0), .val (.int p1), .val (.int p2), .val (.int p3)] [(.int (2 : Int32))])) _
        refine XS.aloadN X208.here hx rfl (hb hby d8_86) rfl rfl ?_
        exact kont
      obtain ⟨T211, X211, e211, st211⟩ := getF X208 hx hZ hown (host := "") (Or.inl (hw _ (List.mem_of_getElem? (i := 63) rfl))) Via.refl e208 f208_4 (g := (mkF m 87 #[.val (.ref p0), .val (.int p1), .val (.int p2), .val (.int p3)] [(.ref p0), (.int (2 : Int32))])) rfl rfl (hb hby d8_87)
      have pre212 : ∀ t, Steps p.tables e below (T211.setTop (mkF m 90 #[.val (.ref p0), .val (.int p1), .val (.int p2), .val (.int p3)] [(.int sz), (.int (2 : Int32))])) t → Steps p.tables e below (s₁.setTop (entryFrame m #[(.ref p0), (.int p1), (.int p2), (.int p3)] 4)) t := fun t kont => pre210 t (st211 _ kont)
      have pre213 : ∀ t, Steps p.tables e below (T211.setTop (mkF m 92 #[.val (.ref p0), .val (.int p1), .val (.int p2), .val (.int p3)] [(.ref p0), (.int ((2 : Int32) * sz))])) t → Steps p.tables e below (s₁.setTop (entryFrame m #[(.ref p0), (.int p1), (.int p2), (.int p3)] 4)) t := by
        intro t kont
        refine pre212 t ?_
        show Steps p.tables e below (T211.setTop (mkF m 90 #[.val (.ref p0), .val (.int p1), .val (.int p2), .val (.int p3)] [(.int sz), (.int (2 : Int32))])) _
        refine XS.imul X211.here hx rfl (hb hby d8_90) rfl ?_
        show Steps p.tables e below (T211.setTop (mkF m 91 #[.val (.ref p0), .val (.int p1), .val (.int p2), .val (.int p3)] [(.int ((2 : Int32) * sz))])) _
        refine XS.aloadN X211.here hx rfl (hb hby d8_91) rfl rfl ?_
        exact kont
      obtain ⟨T214, X214, e214, st214⟩ := getF X211 hx hZ hown (host := "") (Or.inl (hw _ (List.mem_of_getElem? (i := 28) rfl))) Via.refl e211 f208_7 (g := (mkF m 92 #[.val (.ref p0), .val (.int p1), .val (.int p2), .val (.int p3)] [(.ref p0), (.int ((2 : Int32) * sz))])) rfl rfl (hb hby d8_92)
      have pre215 : ∀ t, Steps p.tables e below (T214.setTop (mkF m 95 #[.val (.ref p0), .val (.int p1), .val (.int p2), .val (.int p3)] [(.ref ba), (.int ((2 : Int32) * sz))])) t → Steps p.tables e below (s₁.setTop (entryFrame m #[(.ref p0), (.int p1), (.int p2), (.int p3)] 4)) t := fun t kont => pre213 t (st214 _ kont)
      have pre216 : ∀ t, Steps p.tables e below (T214.setTop (mkF m 96 #[.val (.ref p0), .val (.int p1), .val (.int p2), .val (.int p3)] [(.int (16 : Int32)), (.int ((2 : Int32) * sz))])) t → Steps p.tables e below (s₁.setTop (entryFrame m #[(.ref p0), (.int p1), (.int p2), (.int p3)] 4)) t := by
        intro t kont
        refine pre215 t ?_
        show Steps p.tables e below (T214.setTop (mkF m 95 #[.val (.ref p0), .val (.int p1), .val (.int p2), .val (.int p3)] [(.ref ba), (.int ((2 : Int32) * sz))])) _
        refine own_len X214 hx hZ e214 V208 (z := (16 : Int32)) (by decide) (fr := (mkF m 95 #[.val (.ref p0), .val (.int p1), .val (.int p2), .val (.int p3)] [(.ref ba), (.int ((2 : Int32) * sz))])) rfl rfl (hb hby d8_95) _ ?_
        exact kont
      by_cases hc96 : (16 : Int32) < ((2 : Int32) * sz)
      · exfalso
        first | exact (own_twice hz0 hzn hz8).1 hc96 | exact (own_twice hz0 hzn hz8).2 hc96
      · have pre217 : ∀ t, Steps p.tables e below (T214.setTop (mkF m 103 #[.val (.ref p0), .val (.int p1), .val (.int p2), .val (.int p3)] [])) t → Steps p.tables e below (s₁.setTop (entryFrame m #[(.ref p0), (.int p1), (.int p2), (.int p3)] 4)) t := by
          intro t kont
          refine pre216 t ?_
          show Steps p.tables e below (T214.setTop (mkF m 96 #[.val (.ref p0), .val (.int p1), .val (.int p2), .val (.int p3)] [(.int (16 : Int32)), (.int ((2 : Int32) * sz))])) _
          refine XS.icmpYes X214.here hx rfl (pc0 := 96) (pc' := 103) rfl (hb hby d8_96) rfl (flt hc96).2.2.2 (by decide) (by decide) ?_
          exact kont
        obtain ⟨fs, hr, hrun, hended, hW, hsame⟩ := X214.leave (v := none) (fun _ => rfl)
        refine ⟨_, _, pre217 _ ?_, hrun, hended, _, _, rfl, ?_, ⟨_, rfl⟩, hW, hsame.mono (by decide) (by decide)⟩
        · exact X214.returnOut hx Bd.returns (hb hby d8_103) hr
        · show Q8 Z p0 p1 p2 p3 be ba bn bf dr ow lw sz ne ge ga gn gf k zn h0 n0 _ T214.heap _
          rw [e214]
          refine ⟨rfl, N208, Z208, ?_⟩
          simp only [if_neg hc5, if_pos hc58]
          exact ⟨f208_0, f208_1, f208_2, f208_3, f208_4, f208_5, f208_6, f208_7, f208_8, f208_9, f208_10, (V208.to rfl (fun j _ => by rw [hu84]; rfl)), (f208_12.to rfl (fun j _ => by rw [hu77]; rfl)), f208_11, ⟨d0, d1, d2, d3, d4, d5, d6, d7, d8, d9⟩, ⟨g0, g1, g2, g3, g4⟩⟩
    · have pre218 : ∀ t, Steps p.tables e below (T196.setTop (mkF m 62 #[.val (.ref p0), .val (.int p1), .val (.int p2), .val (.int p3)] [(.ref p0)])) t → Steps p.tables e below (s₁.setTop (entryFrame m #[(.ref p0), (.int p1), (.int p2), (.int p3)] 4)) t := by
        intro t kont
        refine pre197 t ?_
        show Steps p.tables e below (T196.setTop (mkF m 58 #[.val (.ref p0), .val (.int p1), .val (.int p2), .val (.int p3)] [(.int ow)])) _
        refine XS.ifNo X196.here hx rfl (hb hby d8_58) rfl ((if0 _ _).trans (feq hc58).1) ?_
        show Steps p.tables e below (T196.setTop (mkF m 61 #[.val (.ref p0), .val (.int p1), .val (.int p2), .val (.int p3)] [])) _
        refine XS.aloadN X196.here hx rfl (hb hby d8_61) rfl rfl ?_
        exact kont
      obtain ⟨T219, X219, e219, st219⟩ := getF X196 hx hZ hown (host := "") (Or.inl (hw _ (List.mem_of_getElem? (i := 18) rfl))) Via.refl e196 q_endsByAlignment (g := (mkF m 62 #[.val (.ref p0), .val (.int p1), .val (.int p2), .val (.int p3)] [(.ref p0)])) rfl rfl (hb hby d8_62)
      have pre220 : ∀ t, Steps p.tables e below (T219.setTop (mkF m 65 #[.val (.ref p0), .val (.int p1), .val (.int p2), .val (.int p3)] [(.ref be)])) t → Steps p.tables e below (s₁.setTop (entryFrame m #[(.ref p0), (.int p1), (.int p2), (.int p3)] 4)) t := fun t kont => pre218 t (st219 _ kont)
      have pre221 : ∀ t, Steps p.tables e below (T219.setTop (mkF m 67 #[.val (.ref p0), .val (.int p1), .val (.int p2), .val (.int p3)] [(.int p3), (.int p1), (.ref be)])) t → Steps p.tables e below (s₁.setTop (entryFrame m #[(.ref p0), (.int p1), (.int p2), (.int p3)] 4)) t := by
        intro t kont
        refine pre220 t ?_
        show Steps p.tables e below (T219.setTop (mkF m 65 #[.val (.ref p0), .val (.int p1), .val (.int p2), .val (.int p3)] [(.ref be)])) _
        refine XS.iloadN X219.here hx rfl (hb hby d8_65) rfl ?_
        show Steps p.tables e below (T219.setTop (mkF m 66 #[.val (.ref p0), .val (.int p1), .val (.int p2), .val (.int p3)] [(.int p1), (.ref be)])) _
        refine XS.iloadN X219.here hx rfl (hb hby d8_66) rfl ?_
        exact kont
      obtain ⟨T222, h222, X222, e222, W222, V222, st222⟩ := own_stI X219 hx hZ e219 Ve (k := k) hi0 hik (hi2 hc58) (fr := (mkF m 67 #[.val (.ref p0), .val (.int p1), .val (.int p2), .val (.int p3)] [(.int p3), (.int p1), (.ref be)])) rfl rfl (hb hby d8_67)
      have f222_0 := Exa.wr W222 qE
      have f222_1 := Fld.other W222 q_direct (Or.inl d0)
      have f222_2 := Fld.other W222 q_ownSlots (Or.inl d0)
      have f222_3 := Fld.other W222 q_lowest (Or.inl d0)
      have f222_4 := Fld.other W222 q_size (Or.inl d0)
      have f222_5 := Fld.other W222 q_shift (Or.inl d0)
      have f222_6 := Fld.other W222 q_endsByAlignment (Or.inl d0)
      have f222_7 := Fld.other W222 q_alignments (Or.inl d0)
      have f222_8 := Fld.other W222 q_ends (Or.inl d0)
      have f222_9 := Fld.other W222 q_filled (Or.inl d0)
      have f222_10 := Va.other W222 (Ne.symm d4)
      have f222_11 := Vn.other W222 (Ne.symm d5)
      have f222_12 := Vf.other W222 (Ne.symm d6)
      obtain ⟨u67, hu67⟩ : ∃ z : Nat → Int32, z = fun i => if i = k then p3 else ge i := ⟨_, rfl⟩
      replace V222 : own_arr Z h222 be .int ne (fun i => .int (u67 i)) := by rw [hu67]; exact V222
      have Z222 : n0 ≤ h222.size := Nat.le_trans Z0 (Keep.of_wr W222).1
      have N222 := Fr.snoc X222 N144 g1
      have pre223 : ∀ t, Steps p.tables e below (T222.setTop (mkF m 68 #[.val (.ref p0), .val (.int p1), .val (.int p2), .val (.int p3)] [])) t → Steps p.tables e below (s₁.setTop (entryFrame m #[(.ref p0), (.int p1), (.int p2), (.int p3)] 4)) t := fun t kont => pre221 t (st222 _ kont)
      have pre224 : ∀ t, Steps p.tables e below (T222.setTop (mkF m 103 #[.val (.ref p0), .val (.int p1), .val (.int p2), .val (.int p3)] [])) t → Steps p.tables e below (s₁.setTop (entryFrame m #[(.ref p0), (.int p1), (.int p2), (.int p3)] 4)) t := by
        intro t kont
        refine pre223 t ?_
        show Steps p.tables e below (T222.setTop (mkF m 68 #[.val (.ref p0), .val (.int p1), .val (.int p2), .val (.int p3)] [])) _
        refine XS.goto X222.here hx rfl (pc0 := 68) (pc' := 103) rfl (hb hby d8_68) (by decide) (by decide) ?_
        exact kont
      obtain ⟨fs, hr, hrun, hended, hW, hsame⟩ := X222.leave (v := none) (fun _ => rfl)
      refine ⟨_, _, pre224 _ ?_, hrun, hended, _, _, rfl, ?_, ⟨_, rfl⟩, hW, hsame.mono (by decide) (by decide)⟩
      · exact X222.returnOut hx Bd.returns (hb hby d8_103) hr
      · show Q8 Z p0 p1 p2 p3 be ba bn bf dr ow lw sz ne ge ga gn gf k zn h0 n0 _ T222.heap _
        rw [e222]
        refine ⟨rfl, N222, Z222, ?_⟩
        simp only [if_neg hc5, if_neg hc58]
        exact ⟨f222_0, f222_1, f222_2, f222_3, f222_4, f222_5, f222_6, f222_7, f222_8, f222_9, (V222.to rfl (fun j _ => by rw [hu67]; rfl)), f222_10, f222_11, f222_12, ⟨d0, d1, d2, d3, d4, d5, d6, d7, d8, d9⟩, ⟨g0, g1, g2, g3, g4⟩⟩
theorem own_wid {x : Int64} {c : Nat} (h1 : 1 ≤ x.toInt) (h2 : x.toInt ≤ c) (hc : c ≤ 1000) : ¬ x.toInt32 < 0 ∧ x.toInt32.toNatClampNeg ≤ c ∧ x.toInt32.toNatClampNeg = x.toInt.toNat := by
  have a := c_l2i x
  have r := rng32 x.toInt32
  have o : (0 : Int32).toInt = 0 := rfl
  rw [Int32.lt_iff_toInt_lt, Int32.toNatClampNeg]
  omega
theorem own_nlen {n : Nat} (h : n ≤ 1000) : (n.toInt32.toInt64).toInt = n := by
  rw [c_i2l]; exact Int32.toInt_ofNat_of_lt (by omega)
theorem own_grow {n : Nat} {x : Int64} (h : n ≤ 1000) (q : ¬ (n.toInt32.toInt64) < x) : x.toInt ≤ n := by
  rw [Int64.lt_iff_toInt_lt, own_nlen h] at q; omega
theorem d6_0 : decode prog_18_method_2_code 0 = .ok (.iload_n 1, 1) := by decide +kernel
theorem d6_1 : decode prog_18_method_2_code 1 = .ok (.i2l, 1) := by decide +kernel
theorem d6_2 : decode prog_18_method_2_code 2 = .ok (.iload_n 2, 1) := by decide +kernel
theorem d6_3 : decode prog_18_method_2_code 3 = .ok (.i2l, 1) := by decide +kernel
theorem d6_4 : decode prog_18_method_2_code 4 = .ok (.ladd, 1) := by decide +kernel
theorem d6_5 : decode prog_18_method_2_code 5 = .ok (.lconst 1, 1) := by decide +kernel
theorem d6_6 : decode prog_18_method_2_code 6 = .ok (.ladd, 1) := by decide +kernel
theorem d6_7 : decode prog_18_method_2_code 7 = .ok (.lstore_n 3, 1) := by decide +kernel
theorem d6_8 : decode prog_18_method_2_code 8 = .ok (.aload_n 0, 1) := by decide +kernel
theorem d6_9 : decode prog_18_method_2_code 9 = .ok (.lload_n 3, 1) := by decide +kernel
theorem d6_10 : decode prog_18_method_2_code 10 = .ok (.aload_n 0, 1) := by decide +kernel
theorem d6_11 : decode prog_18_method_2_code 11 = .ok (.getfield 32, 3) := by decide +kernel
theorem d6_14 : decode prog_18_method_2_code 14 = .ok (.i2l, 1) := by decide +kernel
theorem d6_15 : decode prog_18_method_2_code 15 = .ok (.lcmp, 1) := by decide +kernel
theorem d6_16 : decode prog_18_method_2_code 16 = .ok (.ifCond .gt 7, 3) := by decide +kernel
theorem d6_23 : decode prog_18_method_2_code 23 = .ok (.iconst 0, 1) := by decide +kernel
theorem d6_24 : decode prog_18_method_2_code 24 = .ok (.putfield 35, 3) := by decide +kernel
theorem d6_27 : decode prog_18_method_2_code 27 = .ok (.aload_n 0, 1) := by decide +kernel
theorem d6_28 : decode prog_18_method_2_code 28 = .ok (.iload_n 1, 1) := by decide +kernel
theorem d6_29 : decode prog_18_method_2_code 29 = .ok (.ineg, 1) := by decide +kernel
theorem d6_30 : decode prog_18_method_2_code 30 = .ok (.putfield 39, 3) := by decide +kernel
theorem d6_33 : decode prog_18_method_2_code 33 = .ok (.aload_n 0, 1) := by decide +kernel
theorem d6_34 : decode prog_18_method_2_code 34 = .ok (.getfield 35, 3) := by decide +kernel
theorem d6_37 : decode prog_18_method_2_code 37 = .ok (.ifCond .eq 22, 3) := by decide +kernel
theorem d6_59 : decode prog_18_method_2_code 59 = .ok (.return_, 1) := by decide +kernel
theorem d6_19 : decode prog_18_method_2_code 19 = .ok (.iconst 1, 1) := by decide +kernel
theorem d6_20 : decode prog_18_method_2_code 20 = .ok (.goto 4, 3) := by decide +kernel
theorem d6_40 : decode prog_18_method_2_code 40 = .ok (.aload_n 0, 1) := by decide +kernel
theorem d6_41 : decode prog_18_method_2_code 41 = .ok (.getfield 9, 3) := by decide +kernel
theorem d6_44 : decode prog_18_method_2_code 44 = .ok (.arraylength, 1) := by decide +kernel
theorem d6_45 : decode prog_18_method_2_code 45 = .ok (.i2l, 1) := by decide +kernel
theorem d6_46 : decode prog_18_method_2_code 46 = .ok (.lload_n 3, 1) := by decide +kernel
theorem d6_47 : decode prog_18_method_2_code 47 = .ok (.lcmp, 1) := by decide +kernel
theorem d6_48 : decode prog_18_method_2_code 48 = .ok (.ifCond .ge 11, 3) := by decide +kernel
theorem d6_51 : decode prog_18_method_2_code 51 = .ok (.aload_n 0, 1) := by decide +kernel
theorem d6_52 : decode prog_18_method_2_code 52 = .ok (.lload_n 3, 1) := by decide +kernel
theorem d6_53 : decode prog_18_method_2_code 53 = .ok (.l2i, 1) := by decide +kernel
theorem d6_54 : decode prog_18_method_2_code 54 = .ok (.newarray .int, 2) := by decide +kernel
theorem d6_56 : decode prog_18_method_2_code 56 = .ok (.putfield 9, 3) := by decide +kernel
theorem ef_6 (m : MethodId) (x0 : Addr) (x1 : Int32) (x2 : Int32) : entryFrame m #[(.ref x0), (.int x1), (.int x2)] 5 = mkF m 0 #[.val (.ref x0), .val (.int x1), .val (.int x2), .unset, .unset] [] := by first | (simp [entryFrame, mkF, argsToLocals, Value.category]; done) | rfl
def Q6 (Z : State) (p0 : Addr) (p1 : Int32) (p2 : Int32) (be : Addr) (ba : Addr) (bn : Addr) (bf : Addr) (dr : Int32) (ow : Int32) (lw : Int32) (sz : Int32) (ne : Nat) (ga : Nat → Int32) (gn : Nat → Int32) (gf : Nat → Int32) (h0 : Heap) (n0 : Nat) (v : Option Value) (h : Heap) (L : List Loc) : Prop := v = none ∧ Fr n0 L ∧ n0 ≤ h.size ∧ ∃ (be' : Addr) (ne' : Nat), ne' ≤ 1000 ∧ (¬ (dr.toInt64 < ((p1.toInt64 + p2.toInt64) + (1 : Int64))) → (((p1.toInt64 + p2.toInt64) + (1 : Int64))).toInt ≤ ne') ∧ own_al Z h n0 p0 be' ba bn bf dr (if dr.toInt64 < ((p1.toInt64 + p2.toInt64) + (1 : Int64)) then (0 : Int32) else (1 : Int32)) (-p1) sz ne' (fun _ => (0 : Int32)) ga gn gf
set_option maxRecDepth 65536 in
set_option maxHeartbeats 40000000 in
theorem rm6 (l : Launch) (Z : State) (a0 : Array Value) (hw : ∀ d ∈ tables_1, d.before a0 Z = true) (ws : List Jvm.Cond) (p0 : Addr) (p1 : Int32) (p2 : Int32) (be : Addr) (ba : Addr) (bn : Addr) (bf : Addr) (dr : Int32) (ow : Int32) (lw : Int32) (sz : Int32) (ne : Nat) (ga : Nat → Int32) (gn : Nat → Int32) (gf : Nat → Int32) (h0 : Heap) (n0 : Nat) (Z0 : n0 ≤ h0.size) (Hal : own_al Z h0 n0 p0 be ba bn bf dr ow lw sz ne (fun _ => (0 : Int32)) ga gn gf) (hne : ne ≤ 1000) (hx1 : 1 ≤ (((p1.toInt64 + p2.toInt64) + (1 : Int64))).toInt) (hcap : ¬ (dr.toInt64 < ((p1.toInt64 + p2.toInt64) + (1 : Int64))) → (((p1.toInt64 + p2.toInt64) + (1 : Int64))).toInt ≤ (511 : Nat)) :
    MetFree l (⟨"com/example/impronta/impronta/engine/Alignments", "start", "(II)V"⟩ : MethodName) (head1 (Jvm.Cond.code (⟨"com/example/impronta/impronta/engine/Alignments", "start", "(II)V"⟩ : MethodName) prog_18_method_2_code 5 none :: ws) ({ frames := 0, cells := 1, slots := 511, locals := 0 } : Room)) (fun a U => a = #[(.ref p0), (.int p1), (.int p2)] ∧ Z.Warmed39 U.vm ∧ U.heap = h0) (fun _ _ _ _ _ => True) (fun _ U o U' => ∃ v L, o = .returned v ∧ Q6 Z p0 p1 p2 be ba bn bf dr ow lw sz ne ga gn gf h0 n0 v U'.heap L ∧ FrameEnd U o U' L ({ frames := 0, cells := 1, slots := 511, locals := 0 } : Room).cells ({ frames := 0, cells := 1, slots := 511, locals := 0 } : Room).slots) := by
  refine MetFree.of_bodySF (plainFor_of_name pn_4) hisR ?_
  intro p e s m args below meth c s₁ Bd hml0 hP hK
  obtain ⟨rfl, hZ, hh⟩ := hP
  have hx := Bd.exec
  have hby := Bd.bytes
  have hml : c.maxLocals = 5 := hml0
  have hown : s.vm.findClass "com/example/impronta/impronta/engine/Alignments" = some m.cls := findClass_of_methodNamed Bd.named
  have hnm := (name_of_methodNamed Bd.named Bd.method).1
  have X0 : Stand p l e ({ frames := 0, cells := 1, slots := 511, locals := 0 } : Room) s m #[(.ref p0), (.int p1), (.int p2)] below meth c s₁ [] 0 0 := Stand.of_body Bd
  have e0 : s₁.heap = h0 := by rw [← hh, Bd.state]; rfl
  have N0 := Fr.nil n0
  have pre0 : ∀ t, Steps p.tables e below (s₁.setTop (mkF m 0 #[.val (.ref p0), .val (.int p1), .val (.int p2), .unset, .unset] [])) t → Steps p.tables e below (s₁.setTop (entryFrame m #[(.ref p0), (.int p1), (.int p2)] 5)) t := fun t k => castTop (ef_6 m p0 p1 p2) k
  obtain ⟨qE, q_direct, q_ownSlots, q_lowest, q_size, q_shift, q_endsByAlignment, q_alignments, q_ends, q_filled, Ve, Va, Vn, Vf, ⟨d0, d1, d2, d3, d4, d5, d6, d7, d8, d9⟩, ⟨g0, g1, g2, g3, g4⟩⟩ := id Hal
  have pre225 : ∀ t, Steps p.tables e below (s₁.setTop (mkF m 11 #[.val (.ref p0), .val (.int p1), .val (.int p2), .val (.long (((p1.toInt64) + (p2.toInt64)) + (1 : Int64))), .second] [(.ref p0), (.long (((p1.toInt64) + (p2.toInt64)) + (1 : Int64))), (.ref p0)])) t → Steps p.tables e below (s₁.setTop (entryFrame m #[(.ref p0), (.int p1), (.int p2)] 5)) t := by
    intro t kont
    refine pre0 t ?_
    show Steps p.tables e below (s₁.setTop (mkF m 0 #[.val (.ref p0), .val (.int p1), .val (.int p2), .unset, .unset] [])) _
    refine XS.iloadN X0.here hx rfl (hb hby d6_0) rfl ?_
    show Steps p.tables e below (s₁.setTop (mkF m 1 #[.val (.ref p0), .val (.int p1), .val (.int p2), .unset, .unset] [(.int p1)])) _
    refine XS.i2l X0.here hx rfl (hb hby d6_1) rfl ?_
    show Steps p.tables e below (s₁.setTop (mkF m 2 #[.val (.ref p0), .val (.int p1), .val (.int p2), .unset, .unset] [(.long (p1.toInt64))])) _
    refine XS.iloadN X0.here hx rfl (hb hby d6_2) rfl ?_
    show Steps p.tables e below (s₁.setTop (mkF m 3 #[.val (.ref p0), .val (.int p1), .val (.int p2), .unset, .unset] [(.int p2), (.long (p1.toInt64))])) _
    refine XS.i2l X0.here hx rfl (hb hby d6_3) rfl ?_
    show Steps p.tables e below (s₁.setTop (mkF m 4 #[.val (.ref p0), .val (.int p1), .val (.int p2), .unset, .unset] [(.long (p2.toInt64)), (.long (p1.toInt64))])) _
    refine XS.ladd X0.here hx rfl (hb hby d6_4) rfl ?_
    show Steps p.tables e below (s₁.setTop (mkF m 5 #[.val (.ref p0), .val (.int p1), .val (.int p2), .unset, .unset] [(.long ((p1.toInt64) + (p2.toInt64)))])) _
    refine XS.lconst X0.here hx rfl (hb hby d6_5) ?_
    show Steps p.tables e below (s₁.setTop (mkF m 6 #[.val (.ref p0), .val (.int p1), .val (.int p2), .unset, .unset] [(.long (1 : Int64)), (.long ((p1.toInt64) + (p2.toInt64)))])) _
    refine XS.ladd X0.here hx rfl (hb hby d6_6) rfl ?_
    show Steps p.tables e below (s₁.setTop (mkF m 7 #[.val (.ref p0), .val (.int p1), .val (.int p2), .unset, .unset] [(.long (((p1.toInt64) + (p2.toInt64)) + (1 : Int64)))])) _
    refine XS.lstoreN X0.here hx rfl (hb hby d6_7) rfl (l' := #[.val (.ref p0), .val (.int p1), .val (.int p2), .val (.long (((p1.toInt64) + (p2.toInt64)) + (1 : Int64))), .second]) rfl ?_
    show Steps p.tables e below (s₁.setTop (mkF m 8 #[.val (.ref p0), .val (.int p1), .val (.int p2), .val (.long (((p1.toInt64) + (p2.toInt64)) + (1 : Int64))), .second] [])) _
    refine XS.aloadN X0.here hx rfl (hb hby d6_8) rfl rfl ?_
    show Steps p.tables e below (s₁.setTop (mkF m 9 #[.val (.ref p0), .val (.int p1), .val (.int p2), .val (.long (((p1.toInt64) + (p2.toInt64)) + (1 : Int64))), .second] [(.ref p0)])) _
    refine XS.lloadN X0.here hx rfl (hb hby d6_9) rfl ?_
    show Steps p.tables e below (s₁.setTop (mkF m 10 #[.val (.ref p0), .val (.int p1), .val (.int p2), .val (.long (((p1.toInt64) + (p2.toInt64)) + (1 : Int64))), .second] [(.long (((p1.toInt64) + (p2.toInt64)) + (1 : Int64))), (.ref p0)])) _
    refine XS.aloadN X0.here hx rfl (hb hby d6_10) rfl rfl ?_
    exact kont
  obtain ⟨T226, X226, e226, st226⟩ := getF X0 hx hZ hown (host := "") (Or.inl (hw _ (List.mem_of_getElem? (i := 36) rfl))) Via.refl e0 q_direct (g := (mkF m 11 #[.val (.ref p0), .val (.int p1), .val (.int p2), .val (.long (((p1.toInt64) + (p2.toInt64)) + (1 : Int64))), .second] [(.ref p0), (.long (((p1.toInt64) + (p2.toInt64)) + (1 : Int64))), (.ref p0)])) rfl rfl (hb hby d6_11)
  have pre227 : ∀ t, Steps p.tables e below (T226.setTop (mkF m 14 #[.val (.ref p0), .val (.int p1), .val (.int p2), .val (.long (((p1.toInt64) + (p2.toInt64)) + (1 : Int64))), .second] [(.int dr), (.long (((p1.toInt64) + (p2.toInt64)) + (1 : Int64))), (.ref p0)])) t → Steps p.tables e below (s₁.setTop (entryFrame m #[(.ref p0), (.int p1), (.int p2)] 5)) t := fun t kont => pre225 t (st226 _ kont)
  have pre228 : ∀ t, Steps p.tables e below (T226.setTop (mkF m 16 #[.val (.ref p0), .val (.int p1), .val (.int p2), .val (.long (((p1.toInt64) + (p2.toInt64)) + (1 : Int64))), .second] [(.int (lcmpW (((p1.toInt64) + (p2.toInt64)) + (1 : Int64)) (dr.toInt64))), (.ref p0)])) t → Steps p.tables e below (s₁.setTop (entryFrame m #[(.ref p0), (.int p1), (.int p2)] 5)) t := by
    intro t kont
    refine pre227 t ?_
    show Steps p.tables e below (T226.setTop (mkF m 14 #[.val (.ref p0), .val (.int p1), .val (.int p2), .val (.long (((p1.toInt64) + (p2.toInt64)) + (1 : Int64))), .second] [(.int dr), (.long (((p1.toInt64) + (p2.toInt64)) + (1 : Int64))), (.ref p0)])) _
    refine XS.i2l X226.here hx rfl (hb hby d6_14) rfl ?_
    show Steps p.tables e below (T226.setTop (mkF m 15 #[.val (.ref p0), .val (.int p1), .val (.int p2), .val (.long (((p1.toInt64) + (p2.toInt64)) + (1 : Int64))), .second] [(.long (dr.toInt64)), (.long (((p1.toInt64) + (p2.toInt64)) + (1 : Int64))), (.ref p0)])) _
    refine XS.lcmp X226.here hx rfl (hb hby d6_15) rfl ?_
    exact kont
  by_cases hc16 : (dr.toInt64) < (((p1.toInt64) + (p2.toInt64)) + (1 : Int64))
  · have pre229 : ∀ t, Steps p.tables e below (T226.setTop (mkF m 24 #[.val (.ref p0), .val (.int p1), .val (.int p2), .val (.long (((p1.toInt64) + (p2.toInt64)) + (1 : Int64))), .second] [(.int (0 : Int32)), (.ref p0)])) t → Steps p.tables e below (s₁.setTop (entryFrame m #[(.ref p0), (.int p1), (.int p2)] 5)) t := by
      intro t kont
      refine pre228 t ?_
      show Steps p.tables e below (T226.setTop (mkF m 16 #[.val (.ref p0), .val (.int p1), .val (.int p2), .val (.long (((p1.toInt64) + (p2.toInt64)) + (1 : Int64))), .second] [(.int (lcmpW (((p1.toInt64) + (p2.toInt64)) + (1 : Int64)) (dr.toInt64))), (.ref p0)])) _
      refine XS.ifYes X226.here hx rfl (pc0 := 16) (pc' := 23) rfl (hb hby d6_16) rfl ((if0 _ _).trans (tlt ((lw_gt _ _).mpr hc16)).2.2.1) (by decide) (by decide) ?_
      show Steps p.tables e below (T226.setTop (mkF m 23 #[.val (.ref p0), .val (.int p1), .val (.int p2), .val (.long (((p1.toInt64) + (p2.toInt64)) + (1 : Int64))), .second] [(.ref p0)])) _
      refine XS.iconst X226.here hx rfl (hb hby d6_23) ?_
      exact kont
    obtain ⟨T230, h230, X230, e230, W230, st230⟩ := putFN X226 hx hZ hown (hw _ (List.mem_of_getElem? (i := 43) rfl)) Via.refl e226 q_ownSlots qE (Or.inl (hw _ (List.mem_of_getElem? (i := 44) rfl))) (hw _ (List.mem_of_getElem? (i := 9) rfl)) (ty := .boolean) (v' := (.int (0 : Int32))) (by decide) rfl (fits_nar_bool (0 : Int32)) (g := (mkF m 24 #[.val (.ref p0), .val (.int p1), .val (.int p2), .val (.long (((p1.toInt64) + (p2.toInt64)) + (1 : Int64))), .second] [(.int (0 : Int32)), (.ref p0)])) rfl rfl (hb hby d6_24)
    have f230_0 := Exa.wr W230 qE
    have f230_1 := Fld.other W230 q_direct (Or.inr (slot_ne (Or.inr (hw _ (List.mem_of_getElem? (i := 37) rfl))) (Or.inl (hw _ (List.mem_of_getElem? (i := 44) rfl))) (by decide) (t := .int) (t' := .boolean) (by decide) (by decide)))
    have f230_2 := Fld.same W230 q_ownSlots
    have f230_3 := Fld.other W230 q_lowest (Or.inr (slot_ne (Or.inl (hw _ (List.mem_of_getElem? (i := 46) rfl))) (Or.inl (hw _ (List.mem_of_getElem? (i := 44) rfl))) (by decide) (t := .int) (t' := .boolean) (by decide) (by decide)))
    have f230_4 := Fld.other W230 q_size (Or.inr (slot_ne (Or.inl (hw _ (List.mem_of_getElem? (i := 64) rfl))) (Or.inl (hw _ (List.mem_of_getElem? (i := 44) rfl))) (by decide) (t := .int) (t' := .boolean) (by decide) (by decide)))
    have f230_5 := Fld.other W230 q_shift (Or.inr (slot_ne (Or.inl (hw _ (List.mem_of_getElem? (i := 33) rfl))) (Or.inl (hw _ (List.mem_of_getElem? (i := 44) rfl))) (by decide) (t := .int) (t' := .boolean) (by decide) (by decide)))
    have f230_6 := Fld.other W230 q_endsByAlignment (Or.inr (slot_ne (Or.inl (hw _ (List.mem_of_getElem? (i := 19) rfl))) (Or.inl (hw _ (List.mem_of_getElem? (i := 44) rfl))) (by decide) (t := (.array .int)) (t' := .boolean) (by decide) (by decide)))
    have f230_7 := Fld.other W230 q_alignments (Or.inr (slot_ne (Or.inl (hw _ (List.mem_of_getElem? (i := 29) rfl))) (Or.inl (hw _ (List.mem_of_getElem? (i := 44) rfl))) (by decide) (t := (.array .int)) (t' := .boolean) (by decide) (by decide)))
    have f230_8 := Fld.other W230 q_ends (Or.inr (slot_ne (Or.inl (hw _ (List.mem_of_getElem? (i := 31) rfl))) (Or.inl (hw _ (List.mem_of_getElem? (i := 44) rfl))) (by decide) (t := (.array .int)) (t' := .boolean) (by decide) (by decide)))
    have f230_9 := Fld.other W230 q_filled (Or.inr (slot_ne (Or.inl (hw _ (List.mem_of_getElem? (i := 35) rfl))) (Or.inl (hw _ (List.mem_of_getElem? (i := 44) rfl))) (by decide) (t := (.array .int)) (t' := .boolean) (by decide) (by decide)))
    have f230_10 := Ve.other W230 (Ne.symm d0)
    have f230_11 := Va.other W230 (Ne.symm d1)
    have f230_12 := Vn.other W230 (Ne.symm d2)
    have f230_13 := Vf.other W230 (Ne.symm d3)
    have Z230 : n0 ≤ h230.size := Nat.le_trans Z0 (Keep.of_wr W230).1
    have N230 := Fr.snoc X230 N0 g0
    have pre231 : ∀ t, Steps p.tables e below (T230.setTop (mkF m 27 #[.val (.ref p0), .val (.int p1), .val (.int p2), .val (.long (((p1.toInt64) + (p2.toInt64)) + (1 : Int64))), .second] [])) t → Steps p.tables e below (s₁.setTop (entryFrame m #[(.ref p0), (.int p1), (.int p2)] 5)) t := fun t kont => pre229 t (st230 _ kont)
    have pre232 : ∀ t, Steps p.tables e below (T230.setTop (mkF m 30 #[.val (.ref p0), .val (.int p1), .val (.int p2), .val (.long (((p1.toInt64) + (p2.toInt64)) + (1 : Int64))), .second] [(.int (-p1)), (.ref p0)])) t → Steps p.tables e below (s₁.setTop (entryFrame m #[(.ref p0), (.int p1), (.int p2)] 5)) t := by
      intro t kont
      refine pre231 t ?_
      show Steps p.tables e below (T230.setTop (mkF m 27 #[.val (.ref p0), .val (.int p1), .val (.int p2), .val (.long (((p1.toInt64) + (p2.toInt64)) + (1 : Int64))), .second] [])) _
      refine XS.aloadN X230.here hx rfl (hb hby d6_27) rfl rfl ?_
      show Steps p.tables e below (T230.setTop (mkF m 28 #[.val (.ref p0), .val (.int p1), .val (.int p2), .val (.long (((p1.toInt64) + (p2.toInt64)) + (1 : Int64))), .second] [(.ref p0)])) _
      refine XS.iloadN X230.here hx rfl (hb hby d6_28) rfl ?_
      show Steps p.tables e below (T230.setTop (mkF m 29 #[.val (.ref p0), .val (.int p1), .val (.int p2), .val (.long (((p1.toInt64) + (p2.toInt64)) + (1 : Int64))), .second] [(.int p1), (.ref p0)])) _
      refine XS.ineg X230.here hx rfl (hb hby d6_29) rfl ?_
      exact kont
    obtain ⟨T233, h233, X233, e233, W233, st233⟩ := putF X230 hx hZ hown (host := "") (Or.inl (hw _ (List.mem_of_getElem? (i := 45) rfl))) Via.refl e230 f230_3 f230_0 (Or.inl (hw _ (List.mem_of_getElem? (i := 46) rfl))) (hw _ (List.mem_of_getElem? (i := 9) rfl)) (ty := .int) (by decide) rfl rfl (g := (mkF m 30 #[.val (.ref p0), .val (.int p1), .val (.int p2), .val (.long (((p1.toInt64) + (p2.toInt64)) + (1 : Int64))), .second] [(.int (-p1)), (.ref p0)])) rfl rfl (hb hby d6_30)
    have f233_0 := Exa.wr W233 f230_0
    have f233_1 := Fld.other W233 f230_1 (Or.inr (slot_ne (Or.inr (hw _ (List.mem_of_getElem? (i := 37) rfl))) (Or.inl (hw _ (List.mem_of_getElem? (i := 46) rfl))) (by decide) (t := .int) (t' := .int) (by decide) (by decide)))
    have f233_2 := Fld.other W233 f230_2 (Or.inr (slot_ne (Or.inl (hw _ (List.mem_of_getElem? (i := 44) rfl))) (Or.inl (hw _ (List.mem_of_getElem? (i := 46) rfl))) (by decide) (t := .boolean) (t' := .int) (by decide) (by decide)))
    have f233_3 := Fld.same W233 f230_3
    have f233_4 := Fld.other W233 f230_4 (Or.inr (slot_ne (Or.inl (hw _ (List.mem_of_getElem? (i := 64) rfl))) (Or.inl (hw _ (List.mem_of_getElem? (i := 46) rfl))) (by decide) (t := .int) (t' := .int) (by decide) (by decide)))
    have f233_5 := Fld.other W233 f230_5 (Or.inr (slot_ne (Or.inl (hw _ (List.mem_of_getElem? (i := 33) rfl))) (Or.inl (hw _ (List.mem_of_getElem? (i := 46) rfl))) (by decide) (t := .int) (t' := .int) (by decide) (by decide)))
    have f233_6 := Fld.other W233 f230_6 (Or.inr (slot_ne (Or.inl (hw _ (List.mem_of_getElem? (i := 19) rfl))) (Or.inl (hw _ (List.mem_of_getElem? (i := 46) rfl))) (by decide) (t := (.array .int)) (t' := .int) (by decide) (by decide)))
    have f233_7 := Fld.other W233 f230_7 (Or.inr (slot_ne (Or.inl (hw _ (List.mem_of_getElem? (i := 29) rfl))) (Or.inl (hw _ (List.mem_of_getElem? (i := 46) rfl))) (by decide) (t := (.array .int)) (t' := .int) (by decide) (by decide)))
    have f233_8 := Fld.other W233 f230_8 (Or.inr (slot_ne (Or.inl (hw _ (List.mem_of_getElem? (i := 31) rfl))) (Or.inl (hw _ (List.mem_of_getElem? (i := 46) rfl))) (by decide) (t := (.array .int)) (t' := .int) (by decide) (by decide)))
    have f233_9 := Fld.other W233 f230_9 (Or.inr (slot_ne (Or.inl (hw _ (List.mem_of_getElem? (i := 35) rfl))) (Or.inl (hw _ (List.mem_of_getElem? (i := 46) rfl))) (by decide) (t := (.array .int)) (t' := .int) (by decide) (by decide)))
    have f233_10 := f230_10.other W233 (Ne.symm d0)
    have f233_11 := f230_11.other W233 (Ne.symm d1)
    have f233_12 := f230_12.other W233 (Ne.symm d2)
    have f233_13 := f230_13.other W233 (Ne.symm d3)
    have Z233 : n0 ≤ h233.size := Nat.le_trans Z230 (Keep.of_wr W233).1
    have N233 := Fr.snoc X233 N230 g0
    have pre234 : ∀ t, Steps p.tables e below (T233.setTop (mkF m 33 #[.val (.ref p0), .val (.int p1), .val (.int p2), .val (.long (((p1.toInt64) + (p2.toInt64)) + (1 : Int64))), .second] [])) t → Steps p.tables e below (s₁.setTop (entryFrame m #[(.ref p0), (.int p1), (.int p2)] 5)) t := fun t kont => pre232 t (st233 _ kont)
    have pre235 : ∀ t, Steps p.tables e below (T233.setTop (mkF m 34 #[.val (.ref p0), .val (.int p1), .val (.int p2), .val (.long (((p1.toInt64) + (p2.toInt64)) + (1 : Int64))), .second] [(.ref p0)])) t → Steps p.tables e below (s₁.setTop (entryFrame m #[(.ref p0), (.int p1), (.int p2)] 5)) t := by
      intro t kont
      refine pre234 t ?_
      show Steps p.tables e below (T233.setTop (mkF m 33 #[.val (.ref p0), .val (.int p1), .val (.int p2), .val (.long (((p1.toInt64) + (p2.toInt64)) + (1 : Int64))), .second] [])) _
      refine XS.aloadN X233.here hx rfl (hb hby d6_33) rfl rfl ?_
      exact kont
    obtain ⟨T236, X236, e236, st236⟩ := getF X233 hx hZ hown (host := "") (Or.inl (hw _ (List.mem_of_getElem? (i := 43) rfl))) Via.refl e233 f233_2 (g := (mkF m 34 #[.val (.ref p0), .val (.int p1), .val (.int p2), .val (.long (((p1.toInt64) + (p2.toInt64)) + (1 : Int64))), .second] [(.ref p0)])) rfl rfl (hb hby d6_34)
    have pre237 : ∀ t, Steps p.tables e below (T236.setTop (mkF m 37 #[.val (.ref p0), .val (.int p1), .val (.int p2), .val (.long (((p1.toInt64) + (p2.toInt64)) + (1 : Int64))), .second] [(.int (0 : Int32))])) t → Steps p.tables e below (s₁.setTop (entryFrame m #[(.ref p0), (.int p1), (.int p2)] 5)) t := fun t kont => pre235 t (st236 _ kont)
    have pre238 : ∀ t, Steps p.tables e below (T236.setTop (mkF m 59 #[.val (.ref p0), .val (.int p1), .val (.int p2), .val (.long (((p1.toInt64) + (p2.toInt64)) + (1 : Int64))), .second] [])) t → Steps p.tables e below (s₁.setTop (entryFrame m #[(.ref p0), (.int p1), (.int p2)] 5)) t := by
      intro t kont
      refine pre237 t ?_
      show Steps p.tables e below (T236.setTop (mkF m 37 #[.val (.ref p0), .val (.int p1), .val (.int p2), .val (.long (((p1.toInt64) + (p2.toInt64)) + (1 : Int64))), .second] [(.int (0 : Int32))])) _
      refine XS.ifYes X236.here hx rfl (pc0 := 37) (pc' := 59) rfl (hb hby d6_37) rfl ((if0 _ _).trans (teq (by decide)).1) (by decide) (by decide) ?_
      exact kont
    obtain ⟨fs, hr, hrun, hended, hW, hsame⟩ := X236.leave (v := none) (fun _ => rfl)
    refine ⟨_, _, pre238 _ ?_, hrun, hended, _, _, rfl, ?_, ⟨_, rfl⟩, hW, hsame.mono (by decide) (by decide)⟩
    · exact X236.returnOut hx Bd.returns (hb hby d6_59) hr
    · show Q6 Z p0 p1 p2 be ba bn bf dr ow lw sz ne ga gn gf h0 n0 _ T236.heap _
      rw [e236]
      refine ⟨rfl, N233, Z233, be, ne, ?_, ?_, ?_⟩
      · exact hne
      · intro q; exact absurd hc16 q
      · rw [if_pos hc16]
        exact ⟨f233_0, f233_1, f233_2, f233_3, f233_4, f233_5, f233_6, f233_7, f233_8, f233_9, f233_10, f233_11, f233_12, f233_13, ⟨d0, d1, d2, d3, d4, d5, d6, d7, d8, d9⟩, ⟨g0, g1, g2, g3, g4⟩⟩
  · have pre239 : ∀ t, Steps p.tables e below (T226.setTop (mkF m 24 #[.val (.ref p0), .val (.int p1), .val (.int p2), .val (.long (((p1.toInt64) + (p2.toInt64)) + (1 : Int64))), .second] [(.int (1 : Int32)), (.ref p0)])) t → Steps p.tables e below (s₁.setTop (entryFrame m #[(.ref p0), (.int p1), (.int p2)] 5)) t := by
      intro t kont
      refine pre228 t ?_
      show Steps p.tables e below (T226.setTop (mkF m 16 #[.val (.ref p0), .val (.int p1), .val (.int p2), .val (.long (((p1.toInt64) + (p2.toInt64)) + (1 : Int64))), .second] [(.int (lcmpW (((p1.toInt64) + (p2.toInt64)) + (1 : Int64)) (dr.toInt64))), (.ref p0)])) _
      refine XS.ifNo X226.here hx rfl (hb hby d6_16) rfl ((if0 _ _).trans (flt (fun q => hc16 ((lw_gt _ _).mp q))).2.2.1) ?_
      show Steps p.tables e below (T226.setTop (mkF m 19 #[.val (.ref p0), .val (.int p1), .val (.int p2), .val (.long (((p1.toInt64) + (p2.toInt64)) + (1 : Int64))), .second] [(.ref p0)])) _
      refine XS.iconst X226.here hx rfl (hb hby d6_19) ?_
      show Steps p.tables e below (T226.setTop (mkF m 20 #[.val (.ref p0), .val (.int p1), .val (.int p2), .val (.long (((p1.toInt64) + (p2.toInt64)) + (1 : Int64))), .second] [(.int (1 : Int32)), (.ref p0)])) _
      refine XS.goto X226.here hx rfl (pc0 := 20) (pc' := 24) rfl (hb hby d6_20) (by decide) (by decide) ?_
      exact kont
    obtain ⟨T240, h240, X240, e240, W240, st240⟩ := putFN X226 hx hZ hown (hw _ (List.mem_of_getElem? (i := 43) rfl)) Via.refl e226 q_ownSlots qE (Or.inl (hw _ (List.mem_of_getElem? (i := 44) rfl))) (hw _ (List.mem_of_getElem? (i := 9) rfl)) (ty := .boolean) (v' := (.int (1 : Int32))) (by decide) rfl (fits_nar_bool (1 : Int32)) (g := (mkF m 24 #[.val (.ref p0), .val (.int p1), .val (.int p2), .val (.long (((p1.toInt64) + (p2.toInt64)) + (1 : Int64))), .second] [(.int (1 : Int32)), (.ref p0)])) rfl rfl (hb hby d6_24)
    have f240_0 := Exa.wr W240 qE
    have f240_1 := Fld.other W240 q_direct (Or.inr (slot_ne (Or.inr (hw _ (List.mem_of_getElem? (i := 37) rfl))) (Or.inl (hw _ (List.mem_of_getElem? (i := 44) rfl))) (by decide) (t := .int) (t' := .boolean) (by decide) (by decide)))
    have f240_2 := Fld.same W240 q_ownSlots
    have f240_3 := Fld.other W240 q_lowest (Or.inr (slot_ne (Or.inl (hw _ (List.mem_of_getElem? (i := 46) rfl))) (Or.inl (hw _ (List.mem_of_getElem? (i := 44) rfl))) (by decide) (t := .int) (t' := .boolean) (by decide) (by decide)))
    have f240_4 := Fld.other W240 q_size (Or.inr (slot_ne (Or.inl (hw _ (List.mem_of_getElem? (i := 64) rfl))) (Or.inl (hw _ (List.mem_of_getElem? (i := 44) rfl))) (by decide) (t := .int) (t' := .boolean) (by decide) (by decide)))
    have f240_5 := Fld.other W240 q_shift (Or.inr (slot_ne (Or.inl (hw _ (List.mem_of_getElem? (i := 33) rfl))) (Or.inl (hw _ (List.mem_of_getElem? (i := 44) rfl))) (by decide) (t := .int) (t' := .boolean) (by decide) (by decide)))
    have f240_6 := Fld.other W240 q_endsByAlignment (Or.inr (slot_ne (Or.inl (hw _ (List.mem_of_getElem? (i := 19) rfl))) (Or.inl (hw _ (List.mem_of_getElem? (i := 44) rfl))) (by decide) (t := (.array .int)) (t' := .boolean) (by decide) (by decide)))
    have f240_7 := Fld.other W240 q_alignments (Or.inr (slot_ne (Or.inl (hw _ (List.mem_of_getElem? (i := 29) rfl))) (Or.inl (hw _ (List.mem_of_getElem? (i := 44) rfl))) (by decide) (t := (.array .int)) (t' := .boolean) (by decide) (by decide)))
    have f240_8 := Fld.other W240 q_ends (Or.inr (slot_ne (Or.inl (hw _ (List.mem_of_getElem? (i := 31) rfl))) (Or.inl (hw _ (List.mem_of_getElem? (i := 44) rfl))) (by decide) (t := (.array .int)) (t' := .boolean) (by decide) (by decide)))
    have f240_9 := Fld.other W240 q_filled (Or.inr (slot_ne (Or.inl (hw _ (List.mem_of_getElem? (i := 35) rfl))) (Or.inl (hw _ (List.mem_of_getElem? (i := 44) rfl))) (by decide) (t := (.array .int)) (t' := .boolean) (by decide) (by decide)))
    have f240_10 := Ve.other W240 (Ne.symm d0)
    have f240_11 := Va.other W240 (Ne.symm d1)
    have f240_12 := Vn.other W240 (Ne.symm d2)
    have f240_13 := Vf.other W240 (Ne.symm d3)
    have Z240 : n0 ≤ h240.size := Nat.le_trans Z0 (Keep.of_wr W240).1
    have N240 := Fr.snoc X240 N0 g0
    have pre241 : ∀ t, Steps p.tables e below (T240.setTop (mkF m 27 #[.val (.ref p0), .val (.int p1), .val (.int p2), .val (.long (((p1.toInt64) + (p2.toInt64)) + (1 : Int64))), .second] [])) t → Steps p.tables e below (s₁.setTop (entryFrame m #[(.ref p0), (.int p1), (.int p2)] 5)) t := fun t kont => pre239 t (st240 _ kont)
    have pre242 : ∀ t, Steps p.tables e below (T240.setTop (mkF m 30 #[.val (.ref p0), .val (.int p1), .val (.int p2), .val (.long (((p1.toInt64) + (p2.toInt64)) + (1 : Int64))), .second] [(.int (-p1)), (.ref p0)])) t → Steps p.tables e below (s₁.setTop (entryFrame m #[(.ref p0), (.int p1), (.int p2)] 5)) t := by
      intro t kont
      refine pre241 t ?_
      show Steps p.tables e below (T240.setTop (mkF m 27 #[.val (.ref p0), .val (.int p1), .val (.int p2), .val (.long (((p1.toInt64) + (p2.toInt64)) + (1 : Int64))), .second] [])) _
      refine XS.aloadN X240.here hx rfl (hb hby d6_27) rfl rfl ?_
      show Steps p.tables e below (T240.setTop (mkF m 28 #[.val (.ref p0), .val (.int p1), .val (.int p2), .val (.long (((p1.toInt64) + (p2.toInt64)) + (1 : Int64))), .second] [(.ref p0)])) _
      refine XS.iloadN X240.here hx rfl (hb hby d6_28) rfl ?_
      show Steps p.tables e below (T240.setTop (mkF m 29 #[.val (.ref p0), .val (.int p1), .val (.int p2), .val (.long (((p1.toInt64) + (p2.toInt64)) + (1 : Int64))), .second] [(.int p1), (.ref p0)])) _
      refine XS.ineg X240.here hx rfl (hb hby d6_29) rfl ?_
      exact kont
    obtain ⟨T243, h243, X243, e243, W243, st243⟩ := putF X240 hx hZ hown (host := "") (Or.inl (hw _ (List.mem_of_getElem? (i := 45) rfl))) Via.refl e240 f240_3 f240_0 (Or.inl (hw _ (List.mem_of_getElem? (i := 46) rfl))) (hw _ (List.mem_of_getElem? (i := 9) rfl)) (ty := .int) (by decide) rfl rfl (g := (mkF m 30 #[.val (.ref p0), .val (.int p1), .val (.int p2), .val (.long (((p1.toInt64) + (p2.toInt64)) + (1 : Int64))), .second] [(.int (-p1)), (.ref p0)])) rfl rfl (hb hby d6_30)
    have f243_0 := Exa.wr W243 f240_0
    have f243_1 := Fld.other W243 f240_1 (Or.inr (slot_ne (Or.inr (hw _ (List.mem_of_getElem? (i := 37) rfl))) (Or.inl (hw _ (List.mem_of_getElem? (i := 46) rfl))) (by decide) (t := .int) (t' := .int) (by decide) (by decide)))
    have f243_2 := Fld.other W243 f240_2 (Or.inr (slot_ne (Or.inl (hw _ (List.mem_of_getElem? (i := 44) rfl))) (Or.inl (hw _ (List.mem_of_getElem? (i := 46) rfl))) (by decide) (t := .boolean) (t' := .int) (by decide) (by decide)))
    have f243_3 := Fld.same W243 f240_3
    have f243_4 := Fld.other W243 f240_4 (Or.inr (slot_ne (Or.inl (hw _ (List.mem_of_getElem? (i := 64) rfl))) (Or.inl (hw _ (List.mem_of_getElem? (i := 46) rfl))) (by decide) (t := .int) (t' := .int) (by decide) (by decide)))
    have f243_5 := Fld.other W243 f240_5 (Or.inr (slot_ne (Or.inl (hw _ (List.mem_of_getElem? (i := 33) rfl))) (Or.inl (hw _ (List.mem_of_getElem? (i := 46) rfl))) (by decide) (t := .int) (t' := .int) (by decide) (by decide)))
    have f243_6 := Fld.other W243 f240_6 (Or.inr (slot_ne (Or.inl (hw _ (List.mem_of_getElem? (i := 19) rfl))) (Or.inl (hw _ (List.mem_of_getElem? (i := 46) rfl))) (by decide) (t := (.array .int)) (t' := .int) (by decide) (by decide)))
    have f243_7 := Fld.other W243 f240_7 (Or.inr (slot_ne (Or.inl (hw _ (List.mem_of_getElem? (i := 29) rfl))) (Or.inl (hw _ (List.mem_of_getElem? (i := 46) rfl))) (by decide) (t := (.array .int)) (t' := .int) (by decide) (by decide)))
    have f243_8 := Fld.other W243 f240_8 (Or.inr (slot_ne (Or.inl (hw _ (List.mem_of_getElem? (i := 31) rfl))) (Or.inl (hw _ (List.mem_of_getElem? (i := 46) rfl))) (by decide) (t := (.array .int)) (t' := .int) (by decide) (by decide)))
    have f243_9 := Fld.other W243 f240_9 (Or.inr (slot_ne (Or.inl (hw _ (List.mem_of_getElem? (i := 35) rfl))) (Or.inl (hw _ (List.mem_of_getElem? (i := 46) rfl))) (by decide) (t := (.array .int)) (t' := .int) (by decide) (by decide)))
    have f243_10 := f240_10.other W243 (Ne.symm d0)
    have f243_11 := f240_11.other W243 (Ne.symm d1)
    have f243_12 := f240_12.other W243 (Ne.symm d2)
    have f243_13 := f240_13.other W243 (Ne.symm d3)
    have Z243 : n0 ≤ h243.size := Nat.le_trans Z240 (Keep.of_wr W243).1
    have N243 := Fr.snoc X243 N240 g0
    have pre244 : ∀ t, Steps p.tables e below (T243.setTop (mkF m 33 #[.val (.ref p0), .val (.int p1), .val (.int p2), .val (.long (((p1.toInt64) + (p2.toInt64)) + (1 : Int64))), .second] [])) t → Steps p.tables e below (s₁.setTop (entryFrame m #[(.ref p0), (.int p1), (.int p2)] 5)) t := fun t kont => pre242 t (st243 _ kont)
    have pre245 : ∀ t, Steps p.tables e below (T243.setTop (mkF m 34 #[.val (.ref p0), .val (.int p1), .val (.int p2), .val (.long (((p1.toInt64) + (p2.toInt64)) + (1 : Int64))), .second] [(.ref p0)])) t → Steps p.tables e below (s₁.setTop (entryFrame m #[(.ref p0), (.int p1), (.int p2)] 5)) t := by
      intro t kont
      refine pre244 t ?_
      show Steps p.tables e below (T243.setTop (mkF m 33 #[.val (.ref p0), .val (.int p1), .val (.int p2), .val (.long (((p1.toInt64) + (p2.toInt64)) + (1 : Int64))), .second] [])) _
      refine XS.aloadN X243.here hx rfl (hb hby d6_33) rfl rfl ?_
      exact kont
    obtain ⟨T246, X246, e246, st246⟩ := getF X243 hx hZ hown (host := "") (Or.inl (hw _ (List.mem_of_getElem? (i := 43) rfl))) Via.refl e243 f243_2 (g := (mkF m 34 #[.val (.ref p0), .val (.int p1), .val (.int p2), .val (.long (((p1.toInt64) + (p2.toInt64)) + (1 : Int64))), .second] [(.ref p0)])) rfl rfl (hb hby d6_34)
    have pre247 : ∀ t, Steps p.tables e below (T246.setTop (mkF m 37 #[.val (.ref p0), .val (.int p1), .val (.int p2), .val (.long (((p1.toInt64) + (p2.toInt64)) + (1 : Int64))), .second] [(.int (1 : Int32))])) t → Steps p.tables e below (s₁.setTop (entryFrame m #[(.ref p0), (.int p1), (.int p2)] 5)) t := fun t kont => pre245 t (st246 _ kont)
    have pre248 : ∀ t, Steps p.tables e below (T246.setTop (mkF m 41 #[.val (.ref p0), .val (.int p1), .val (.int p2), .val (.long (((p1.toInt64) + (p2.toInt64)) + (1 : Int64))), .second] [(.ref p0)])) t → Steps p.tables e below (s₁.setTop (entryFrame m #[(.ref p0), (.int p1), (.int p2)] 5)) t := by
      intro t kont
      refine pre247 t ?_
      show Steps p.tables e below (T246.setTop (mkF m 37 #[.val (.ref p0), .val (.int p1), .val (.int p2), .val (.long (((p1.toInt64) + (p2.toInt64)) + (1 : Int64))), .second] [(.int (1 : Int32))])) _
      refine XS.ifNo X246.here hx rfl (hb hby d6_37) rfl ((if0 _ _).trans (feq (by decide)).1) ?_
      show Steps p.tables e below (T246.setTop (mkF m 40 #[.val (.ref p0), .val (.int p1), .val (.int p2), .val (.long (((p1.toInt64) + (p2.toInt64)) + (1 : Int64))), .second] [])) _
      refine XS.aloadN X246.here hx rfl (hb hby d6_40) rfl rfl ?_
      exact kont
    obtain ⟨T249, X249, e249, st249⟩ := getF X246 hx hZ hown (host := "") (Or.inl (hw _ (List.mem_of_getElem? (i := 18) rfl))) Via.refl e246 f243_6 (g := (mkF m 41 #[.val (.ref p0), .val (.int p1), .val (.int p2), .val (.long (((p1.toInt64) + (p2.toInt64)) + (1 : Int64))), .second] [(.ref p0)])) rfl rfl (hb hby d6_41)
    have pre250 : ∀ t, Steps p.tables e below (T249.setTop (mkF m 44 #[.val (.ref p0), .val (.int p1), .val (.int p2), .val (.long (((p1.toInt64) + (p2.toInt64)) + (1 : Int64))), .second] [(.ref be)])) t → Steps p.tables e below (s₁.setTop (entryFrame m #[(.ref p0), (.int p1), (.int p2)] 5)) t := fun t kont => pre248 t (st249 _ kont)
    have pre251 : ∀ t, Steps p.tables e below (T249.setTop (mkF m 48 #[.val (.ref p0), .val (.int p1), .val (.int p2), .val (.long (((p1.toInt64) + (p2.toInt64)) + (1 : Int64))), .second] [(.int (lcmpW (ne.toInt32.toInt64) (((p1.toInt64) + (p2.toInt64)) + (1 : Int64))))])) t → Steps p.tables e below (s₁.setTop (entryFrame m #[(.ref p0), (.int p1), (.int p2)] 5)) t := by
      intro t kont
      refine pre250 t ?_
      show Steps p.tables e below (T249.setTop (mkF m 44 #[.val (.ref p0), .val (.int p1), .val (.int p2), .val (.long (((p1.toInt64) + (p2.toInt64)) + (1 : Int64))), .second] [(.ref be)])) _
      refine own_len X249 hx hZ e249 f243_10 (z := ne.toInt32) rfl (fr := (mkF m 44 #[.val (.ref p0), .val (.int p1), .val (.int p2), .val (.long (((p1.toInt64) + (p2.toInt64)) + (1 : Int64))), .second] [(.ref be)])) rfl rfl (hb hby d6_44) _ ?_
      show Steps p.tables e below (T249.setTop (mkF m 45 #[.val (.ref p0), .val (.int p1), .val (.int p2), .val (.long (((p1.toInt64) + (p2.toInt64)) + (1 : Int64))), .second] [(.int ne.toInt32)])) _
      refine XS.i2l X249.here hx rfl (hb hby d6_45) rfl ?_
      show Steps p.tables e below (T249.setTop (mkF m 46 #[.val (.ref p0), .val (.int p1), .val (.int p2), .val (.long (((p1.toInt64) + (p2.toInt64)) + (1 : Int64))), .second] [(.long (ne.toInt32.toInt64))])) _
      refine XS.lloadN X249.here hx rfl (hb hby d6_46) rfl ?_
      show Steps p.tables e below (T249.setTop (mkF m 47 #[.val (.ref p0), .val (.int p1), .val (.int p2), .val (.long (((p1.toInt64) + (p2.toInt64)) + (1 : Int64))), .second] [(.long (((p1.toInt64) + (p2.toInt64)) + (1 : Int64))), (.long (ne.toInt32.toInt64))])) _
      refine XS.lcmp X249.here hx rfl (hb hby d6_47) rfl ?_
      exact kont
    by_cases hc48 : (ne.toInt32.toInt64) < (((p1.toInt64) + (p2.toInt64)) + (1 : Int64))
    · have pre252 : ∀ t, Steps p.tables e below (T249.setTop (mkF m 54 #[.val (.ref p0), .val (.int p1), .val (.int p2), .val (.long (((p1.toInt64) + (p2.toInt64)) + (1 : Int64))), .second] [(.int ((((p1.toInt64) + (p2.toInt64)) + (1 : Int64)).toInt32)), (.ref p0)])) t → Steps p.tables e below (s₁.setTop (entryFrame m #[(.ref p0), (.int p1), (.int p2)] 5)) t := by
        intro t kont
        refine pre251 t ?_
        show Steps p.tables e below (T249.setTop (mkF m 48 #[.val (.ref p0), .val (.int p1), .val (.int p2), .val (.long (((p1.toInt64) + (p2.toInt64)) + (1 : Int64))), .second] [(.int (lcmpW (ne.toInt32.toInt64) (((p1.toInt64) + (p2.toInt64)) + (1 : Int64))))])) _
        refine XS.ifNo X249.here hx rfl (hb hby d6_48) rfl ((if0 _ _).trans (tlt ((lw_lt _ _).mpr hc48)).2.1) ?_
        show Steps p.tables e below (T249.setTop (mkF m 51 #[.val (.ref p0), .val (.int p1), .val (.int p2), .val (.long (((p1.toInt64) + (p2.toInt64)) + (1 : Int64))), .second] [])) _
        refine XS.aloadN X249.here hx rfl (hb hby d6_51) rfl rfl ?_
        show Steps p.tables e below (T249.setTop (mkF m 52 #[.val (.ref p0), .val (.int p1), .val (.int p2), .val (.long (((p1.toInt64) + (p2.toInt64)) + (1 : Int64))), .second] [(.ref p0)])) _
        refine XS.lloadN X249.here hx rfl (hb hby d6_52) rfl ?_
        show Steps p.tables e below (T249.setTop (mkF m 53 #[.val (.ref p0), .val (.int p1), .val (.int p2), .val (.long (((p1.toInt64) + (p2.toInt64)) + (1 : Int64))), .second] [(.long (((p1.toInt64) + (p2.toInt64)) + (1 : Int64))), (.ref p0)])) _
        refine XS.l2i X249.here hx rfl (hb hby d6_53) rfl ?_
        exact kont
      obtain ⟨T253, h253, k253, X253, e253, E253, A253, st253⟩ := newP X249 hx hZ (hw _ (List.mem_of_getElem? (i := 17) rfl)) e249 (g := (mkF m 54 #[.val (.ref p0), .val (.int p1), .val (.int p2), .val (.long (((p1.toInt64) + (p2.toInt64)) + (1 : Int64))), .second] [(.int ((((p1.toInt64) + (p2.toInt64)) + (1 : Int64)).toInt32)), (.ref p0)])) rfl (hb hby d6_54) rfl (own_wid hx1 (hcap hc16) (by decide)).1 (cap := 511) (own_wid hx1 (hcap hc16) (by decide)).2.1 (by decide) (by decide) (by decide)
      obtain ⟨b54, g253⟩ : ∃ z, z = h243.size := ⟨_, rfl⟩
      rw [← g253] at A253 st253
      have g_b54 : n0 ≤ b54 := Nat.le_trans Z243 (Nat.le_of_eq g253.symm)
      have ne_p0_b54 : p0 ≠ b54 := Nat.ne_of_lt (Nat.lt_of_lt_of_le (f243_0).lt (Nat.le_of_eq g253.symm))
      have ne_be_b54 : be ≠ b54 := Nat.ne_of_lt (Nat.lt_of_lt_of_le (f243_10).lt (Nat.le_of_eq g253.symm))
      have ne_ba_b54 : ba ≠ b54 := Nat.ne_of_lt (Nat.lt_of_lt_of_le (f243_11).lt (Nat.le_of_eq g253.symm))
      have ne_bn_b54 : bn ≠ b54 := Nat.ne_of_lt (Nat.lt_of_lt_of_le (f243_12).lt (Nat.le_of_eq g253.symm))
      have ne_bf_b54 : bf ≠ b54 := Nat.ne_of_lt (Nat.lt_of_lt_of_le (f243_13).lt (Nat.le_of_eq g253.symm))
      have f253_0 := Exa.ext E253 f243_0
      have f253_1 := Fld.ext E253 f243_1
      have f253_2 := Fld.ext E253 f243_2
      have f253_3 := Fld.ext E253 f243_3
      have f253_4 := Fld.ext E253 f243_4
      have f253_5 := Fld.ext E253 f243_5
      have f253_6 := Fld.ext E253 f243_6
      have f253_7 := Fld.ext E253 f243_7
      have f253_8 := Fld.ext E253 f243_8
      have f253_9 := Fld.ext E253 f243_9
      have f253_10 := f243_10.ext E253
      have f253_11 := f243_11.ext E253
      have f253_12 := f243_12.ext E253
      have f253_13 := f243_13.ext E253
      have V253 := own_arr.newI A253 (i := ((((p1.toInt64 + p2.toInt64) + (1 : Int64))).toInt32.toNatClampNeg)) rfl
      have Z253 : n0 ≤ h253.size := Nat.le_trans Z243 E253.1
      have pre254 : ∀ t, Steps p.tables e below (T253.setTop (mkF m 56 #[.val (.ref p0), .val (.int p1), .val (.int p2), .val (.long (((p1.toInt64) + (p2.toInt64)) + (1 : Int64))), .second] [(.ref b54), (.ref p0)])) t → Steps p.tables e below (s₁.setTop (entryFrame m #[(.ref p0), (.int p1), (.int p2)] 5)) t := fun t kont => pre252 t (st253 _ kont)
      obtain ⟨T255, h255, X255, e255, W255, st255⟩ := putF X253 hx hZ hown (host := "") (Or.inl (hw _ (List.mem_of_getElem? (i := 18) rfl))) Via.refl e253 f253_6 f253_0 (Or.inl (hw _ (List.mem_of_getElem? (i := 19) rfl))) (hw _ (List.mem_of_getElem? (i := 9) rfl)) (ty := (.array .int)) (by decide) rfl rfl (g := (mkF m 56 #[.val (.ref p0), .val (.int p1), .val (.int p2), .val (.long (((p1.toInt64) + (p2.toInt64)) + (1 : Int64))), .second] [(.ref b54), (.ref p0)])) rfl rfl (hb hby d6_56)
      have f255_0 := Exa.wr W255 f253_0
      have f255_1 := Fld.other W255 f253_1 (Or.inr (slot_ne (Or.inr (hw _ (List.mem_of_getElem? (i := 37) rfl))) (Or.inl (hw _ (List.mem_of_getElem? (i := 19) rfl))) (by decide) (t := .int) (t' := (.array .int)) (by decide) (by decide)))
      have f255_2 := Fld.other W255 f253_2 (Or.inr (slot_ne (Or.inl (hw _ (List.mem_of_getElem? (i := 44) rfl))) (Or.inl (hw _ (List.mem_of_getElem? (i := 19) rfl))) (by decide) (t := .boolean) (t' := (.array .int)) (by decide) (by decide)))
      have f255_3 := Fld.other W255 f253_3 (Or.inr (slot_ne (Or.inl (hw _ (List.mem_of_getElem? (i := 46) rfl))) (Or.inl (hw _ (List.mem_of_getElem? (i := 19) rfl))) (by decide) (t := .int) (t' := (.array .int)) (by decide) (by decide)))
      have f255_4 := Fld.other W255 f253_4 (Or.inr (slot_ne (Or.inl (hw _ (List.mem_of_getElem? (i := 64) rfl))) (Or.inl (hw _ (List.mem_of_getElem? (i := 19) rfl))) (by decide) (t := .int) (t' := (.array .int)) (by decide) (by decide)))
      have f255_5 := Fld.other W255 f253_5 (Or.inr (slot_ne (Or.inl (hw _ (List.mem_of_getElem? (i := 33) rfl))) (Or.inl (hw _ (List.mem_of_getElem? (i := 19) rfl))) (by decide) (t := .int) (t' := (.array .int)) (by decide) (by decide)))
      have f255_6 := Fld.same W255 f253_6
      have f255_7 := Fld.other W255 f253_7 (Or.inr (slot_ne (Or.inl (hw _ (List.mem_of_getElem? (i := 29) rfl))) (Or.inl (hw _ (List.mem_of_getElem? (i := 19) rfl))) (by decide) (t := (.array .int)) (t' := (.array .int)) (by decide) (by decide)))
      have f255_8 := Fld.other W255 f253_8 (Or.inr (slot_ne (Or.inl (hw _ (List.mem_of_getElem? (i := 31) rfl))) (Or.inl (hw _ (List.mem_of_getElem? (i := 19) rfl))) (by decide) (t := (.array .int)) (t' := (.array .int)) (by decide) (by decide)))
      have f255_9 := Fld.other W255 f253_9 (Or.inr (slot_ne (Or.inl (hw _ (List.mem_of_getElem? (i := 35) rfl))) (Or.inl (hw _ (List.mem_of_getElem? (i := 19) rfl))) (by decide) (t := (.array .int)) (t' := (.array .int)) (by decide) (by decide)))
      have f255_10 := f253_10.other W255 (Ne.symm d0)
      have f255_11 := f253_11.other W255 (Ne.symm d1)
      have f255_12 := f253_12.other W255 (Ne.symm d2)
      have f255_13 := f253_13.other W255 (Ne.symm d3)
      have f255_14 := V253.other W255 (Ne.symm ne_p0_b54)
      have Z255 : n0 ≤ h255.size := Nat.le_trans Z253 (Keep.of_wr W255).1
      have N255 := Fr.snoc X255 N243 g0
      have pre256 : ∀ t, Steps p.tables e below (T255.setTop (mkF m 59 #[.val (.ref p0), .val (.int p1), .val (.int p2), .val (.long (((p1.toInt64) + (p2.toInt64)) + (1 : Int64))), .second] [])) t → Steps p.tables e below (s₁.setTop (entryFrame m #[(.ref p0), (.int p1), (.int p2)] 5)) t := fun t kont => pre254 t (st255 _ kont)
      obtain ⟨fs, hr, hrun, hended, hW, hsame⟩ := X255.leave (v := none) (fun _ => rfl)
      refine ⟨_, _, pre256 _ ?_, hrun, hended, _, _, rfl, ?_, ⟨_, rfl⟩, hW, hsame.mono (by decide) (by decide)⟩
      · exact X255.returnOut hx Bd.returns (hb hby d6_59) hr
      · show Q6 Z p0 p1 p2 be ba bn bf dr ow lw sz ne ga gn gf h0 n0 _ T255.heap _
        rw [e255]
        refine ⟨rfl, N255, Z255, b54, ((((p1.toInt64 + p2.toInt64) + (1 : Int64))).toInt32.toNatClampNeg), ?_, ?_, ?_⟩
        · have w := own_wid hx1 (hcap hc16) (by decide)
          omega
        · intro _
          have w := own_wid hx1 (hcap hc16) (by decide)
          omega
        · rw [if_neg hc16]
          exact ⟨f255_0, f255_1, f255_2, f255_3, f255_4, f255_5, f255_6, f255_7, f255_8, f255_9, f255_14, f255_11, f255_12, f255_13, ⟨ne_p0_b54, d1, d2, d3, (Ne.symm ne_ba_b54), (Ne.symm ne_bn_b54), (Ne.symm ne_bf_b54), d7, d8, d9⟩, ⟨g0, g_b54, g2, g3, g4⟩⟩
    · have pre257 : ∀ t, Steps p.tables e below (T249.setTop (mkF m 59 #[.val (.ref p0), .val (.int p1), .val (.int p2), .val (.long (((p1.toInt64) + (p2.toInt64)) + (1 : Int64))), .second] [])) t → Steps p.tables e below (s₁.setTop (entryFrame m #[(.ref p0), (.int p1), (.int p2)] 5)) t := by
        intro t kont
        refine pre251 t ?_
        show Steps p.tables e below (T249.setTop (mkF m 48 #[.val (.ref p0), .val (.int p1), .val (.int p2), .val (.long (((p1.toInt64) + (p2.toInt64)) + (1 : Int64))), .second] [(.int (lcmpW (ne.toInt32.toInt64) (((p1.toInt64) + (p2.toInt64)) + (1 : Int64))))])) _
        refine XS.ifYes X249.here hx rfl (pc0 := 48) (pc' := 59) rfl (hb hby d6_48) rfl ((if0 _ _).trans (flt (fun q => hc48 ((lw_lt _ _).mp q))).2.1) (by decide) (by decide) ?_
        exact kont
      obtain ⟨fs, hr, hrun, hended, hW, hsame⟩ := X249.leave (v := none) (fun _ => rfl)
      refine ⟨_, _, pre257 _ ?_, hrun, hended, _, _, rfl, ?_, ⟨_, rfl⟩, hW, hsame.mono (by decide) (by decide)⟩
      · exact X249.returnOut hx Bd.returns (hb hby d6_59) hr
      · show Q6 Z p0 p1 p2 be ba bn bf dr ow lw sz ne ga gn gf h0 n0 _ T249.heap _
        rw [e249]
        refine ⟨rfl, N243, Z243, be, ne, ?_, ?_, ?_⟩
        · exact hne
        · intro _; exact own_grow hne hc48
        · rw [if_neg hc16]
          exact ⟨f243_0, f243_1, f243_2, f243_3, f243_4, f243_5, f243_6, f243_7, f243_8, f243_9, f243_10, f243_11, f243_12, f243_13, ⟨d0, d1, d2, d3, d4, d5, d6, d7, d8, d9⟩, ⟨g0, g1, g2, g3, g4⟩⟩
theorem own_xv (a b : Int32) : ((a.toInt64 + b.toInt64) + (1 : Int64)).toInt = a.toInt + b.toInt + 1 := by
  have h1 := c_ladd a.toInt64 b.toInt64
  have h2 := c_ladd (a.toInt64 + b.toInt64) 1
  have r1 := rng64 (a.toInt64 + b.toInt64)
  have r2 := rng64 (a.toInt64 + b.toInt64 + 1)
  have ra := rng32 a
  have rb := rng32 b
  rw [c_i2l, c_i2l] at h1
  have o : (1 : Int64).toInt = 1 := rfl
  rw [o] at h2
  omega
theorem own_m31 (x : Int32) : 0 ≤ (x &&& (2147483647 : Int32)).toInt := by
  have e := c_mask x 2147483647 31 (by decide) (by decide)
  omega
theorem own_m8 (x : Int32) : 0 ≤ (x &&& (255 : Int32)).toInt ∧ (x &&& (255 : Int32)).toInt < 256 := by
  have e := c_mask x 255 8 (by decide) (by decide)
  omega
theorem own_cz {cn : Int64} (h : 1 ≤ cn.toInt) : cn ≠ 0 := fun q => by
  rw [q] at h; have o : (0 : Int64).toInt = 0 := rfl; omega
theorem own_drA {cn : Int64} {w dr : Int32} (h1 : 1 ≤ cn.toInt) (h2 : cn.toInt ≤ 511) (h : dr = (cn.toInt32 + (w &&& (7 : Int32)))) : ¬ (dr.toInt64 < cn) := by
  have e := c_mask w 7 3 (by decide) (by decide)
  have a := c_l2i cn
  have r := rng32 cn.toInt32
  have b := c_iadd cn.toInt32 (w &&& (7 : Int32))
  have r2 := rng32 (cn.toInt32 + (w &&& (7 : Int32)))
  rw [Int64.lt_iff_toInt_lt, c_i2l, h]
  omega
theorem own_drB {cn : Int64} {w dr : Int32} (h1 : 1 ≤ cn.toInt) (h2 : cn.toInt ≤ 4294967295) (h : dr = ((own_mnl ((cn - (1 : Int64)) - ((w &&& (7 : Int32)).toInt64)) (2147483647 : Int64)).toInt32)) : dr.toInt64 < cn := by
  have e := c_mask w 7 3 (by decide) (by decide)
  have a := c_lsub cn 1
  have b := c_lsub (cn - 1) ((w &&& (7 : Int32)).toInt64)
  have r1 := rng64 (cn - 1)
  have r2 := rng64 ((cn - 1) - ((w &&& (7 : Int32)).toInt64))
  have o : (1 : Int64).toInt = 1 := rfl
  have o2 : (2147483647 : Int64).toInt = 2147483647 := rfl
  rw [c_i2l] at b
  rw [o] at a
  have m : (own_mnl ((cn - (1 : Int64)) - ((w &&& (7 : Int32)).toInt64)) (2147483647 : Int64)).toInt < cn.toInt ∧ (own_mnl ((cn - (1 : Int64)) - ((w &&& (7 : Int32)).toInt64)) (2147483647 : Int64)).toInt ≤ 2147483647 ∧ -8 ≤ (own_mnl ((cn - (1 : Int64)) - ((w &&& (7 : Int32)).toInt64)) (2147483647 : Int64)).toInt := by
    unfold own_mnl
    simp only [Int64.lt_iff_toInt_lt]
    split <;> omega
  have c := c_l2i (own_mnl ((cn - (1 : Int64)) - ((w &&& (7 : Int32)).toInt64)) (2147483647 : Int64))
  have r3 := rng32 (own_mnl ((cn - (1 : Int64)) - ((w &&& (7 : Int32)).toInt64)) (2147483647 : Int64)).toInt32
  rw [Int64.lt_iff_toInt_lt, c_i2l, h]
  omega
theorem own_av {p sA sB a : Int32} {cn : Int64} (hA : 0 ≤ sA.toInt) (hB : 0 ≤ sB.toInt) (hc : cn.toInt = sA.toInt + sB.toInt + 1) (h : a = ((((p.toInt64 &&& (4294967295 : Int64)) % cn) - sA.toInt64).toInt32)) : -sA.toInt ≤ a.toInt ∧ a.toInt ≤ sB.toInt := by
  have e := c_maskL p.toInt64 4294967295 32 (by decide) (by decide)
  have r1 := rng32 sA
  have r2 := rng32 sB
  have m : ((p.toInt64 &&& (4294967295 : Int64)) % cn).toInt = (p.toInt64 &&& (4294967295 : Int64)).toInt % cn.toInt := by
    rw [Int64.toInt_mod]; exact Int.tmod_eq_emod_of_nonneg (by omega)
  have m1 := Int.emod_nonneg (p.toInt64 &&& (4294967295 : Int64)).toInt (b := cn.toInt) (by omega)
  have m2 := Int.emod_lt_of_pos (p.toInt64 &&& (4294967295 : Int64)).toInt (b := cn.toInt) (by omega)
  rw [← m] at m1 m2
  have s := c_lsub ((p.toInt64 &&& (4294967295 : Int64)) % cn) sA.toInt64
  rw [c_i2l] at s
  have r3 := rng64 (((p.toInt64 &&& (4294967295 : Int64)) % cn) - sA.toInt64)
  have l := c_l2i (((p.toInt64 &&& (4294967295 : Int64)) % cn) - sA.toInt64)
  have r4 := rng32 ((((p.toInt64 &&& (4294967295 : Int64)) % cn) - sA.toInt64).toInt32)
  subst h
  generalize ((p.toInt64 &&& (4294967295 : Int64)) % cn) = R at *
  omega
theorem own_sv {a sA sB : Int32} (hA : 0 ≤ sA.toInt) (hB : 0 ≤ sB.toInt) (hs : sA.toInt ≤ 255) (hs2 : sB.toInt ≤ 255) (h : -sA.toInt ≤ a.toInt ∧ a.toInt ≤ sB.toInt) : (a + sA).toInt = a.toInt + sA.toInt := by
  have s := c_iadd a sA
  have r := rng32 (a + sA)
  omega
theorem own_i0 {s : Int32} (h : 0 ≤ s.toInt) : ¬ s < 0 := by rw [Int32.lt_iff_toInt_lt]; have o : (0 : Int32).toInt = 0 := rfl; omega
theorem own_sl1 (s a : Int32) (ga : Nat → Int32) : own_slot (1 : Int32) (-s) ga a = a + s := by
  unfold own_slot; rw [if_neg (by decide)]
  rw [← Int32.toBitVec_inj, Int32.toBitVec_sub, Int32.toBitVec_neg, BitVec.sub_neg, Int32.toBitVec_add]
theorem own_sB (lw a : Int32) : own_slot (0 : Int32) lw (fun _ => (-2147483648 : Int32)) a = (((a * (-1640531527 : Int32)).toUInt32 >>> ((28 : Int32) &&& 31).toUInt32).toInt32) := by
  unfold own_slot own_probe; rw [if_pos rfl]
  split
  · rfl
  · rw [if_pos rfl]
theorem own_sB2 (lw a : Int32) (g : Nat → Int32) : own_slot (0 : Int32) lw (own_set g (((a * (-1640531527 : Int32)).toUInt32 >>> ((28 : Int32) &&& 31).toUInt32).toInt32).toNatClampNeg a) a = (((a * (-1640531527 : Int32)).toUInt32 >>> ((28 : Int32) &&& 31).toUInt32).toInt32) := by
  unfold own_slot own_probe own_set; rw [if_pos rfl, if_pos rfl, if_pos rfl]
theorem own_step (s : Int32) (h0 : ¬ s < 0) (h1 : s.toNatClampNeg < 16) : ((s + (1 : Int32)) &&& (15 : Int32)).toNatClampNeg ≠ s.toNatClampNeg := by
  have e := c_mask (s + (1 : Int32)) 15 4 (by decide) (by decide)
  have a := c_iadd s 1
  have r := rng32 (s + 1)
  have o : (1 : Int32).toInt = 1 := rfl
  have o0 : (0 : Int32).toInt = 0 := rfl
  rw [Int32.lt_iff_toInt_lt] at h0
  rw [Int32.toNatClampNeg] at h1 ⊢
  rw [Int32.toNatClampNeg]
  omega
theorem own_free (k : Nat) (a b : Int32) : own_set (fun _ => (-2147483648 : Int32)) k a (((b * (-1640531527 : Int32)).toUInt32 >>> ((28 : Int32) &&& 31).toUInt32).toInt32).toNatClampNeg = (-2147483648 : Int32) ∨ own_set (fun _ => (-2147483648 : Int32)) k a (((((b * (-1640531527 : Int32)).toUInt32 >>> ((28 : Int32) &&& 31).toUInt32).toInt32) + (1 : Int32)) &&& (15 : Int32)).toNatClampNeg = (-2147483648 : Int32) := by
  have h := own_home b
  have st := own_step _ h.1 h.2
  unfold own_set
  by_cases q : (((b * (-1640531527 : Int32)).toUInt32 >>> ((28 : Int32) &&& 31).toUInt32).toInt32).toNatClampNeg = k
  · exact Or.inr (if_neg (fun z => st (z.trans q.symm)))
  · exact Or.inl (if_neg q)
theorem own_u (k : Nat) (lw a b : Int32) (hab : ¬ a = b) (hM : ¬ a = (-2147483648 : Int32)) : ¬ (own_slot (0 : Int32) lw (own_set (fun _ => (-2147483648 : Int32)) k a) b) < 0 ∧ (own_slot (0 : Int32) lw (own_set (fun _ => (-2147483648 : Int32)) k a) b).toNatClampNeg < 16 ∧ (own_slot (0 : Int32) lw (own_set (fun _ => (-2147483648 : Int32)) k a) b).toNatClampNeg ≠ k := by
  have h := own_home b
  have st := own_step _ h.1 h.2
  have n1 := own_nxt (((b * (-1640531527 : Int32)).toUInt32 >>> ((28 : Int32) &&& 31).toUInt32).toInt32)
  unfold own_slot own_probe own_set
  rw [if_pos rfl]
  by_cases q : (((b * (-1640531527 : Int32)).toUInt32 >>> ((28 : Int32) &&& 31).toUInt32).toInt32).toNatClampNeg = k
  · have z : ¬ (((((b * (-1640531527 : Int32)).toUInt32 >>> ((28 : Int32) &&& 31).toUInt32).toInt32) + (1 : Int32)) &&& (15 : Int32)).toNatClampNeg = k := fun z => st (z.trans q.symm)
    rw [if_pos q, if_neg hab, if_neg hM, if_neg z]
    have w : (if (-2147483648 : Int32) = b then (((((b * (-1640531527 : Int32)).toUInt32 >>> ((28 : Int32) &&& 31).toUInt32).toInt32) + (1 : Int32)) &&& (15 : Int32)) else if (-2147483648 : Int32) = (-2147483648 : Int32) then (((((b * (-1640531527 : Int32)).toUInt32 >>> ((28 : Int32) &&& 31).toUInt32).toInt32) + (1 : Int32)) &&& (15 : Int32)) else (((((b * (-1640531527 : Int32)).toUInt32 >>> ((28 : Int32) &&& 31).toUInt32).toInt32) + (1 : Int32)) &&& (15 : Int32))) = (((((b * (-1640531527 : Int32)).toUInt32 >>> ((28 : Int32) &&& 31).toUInt32).toInt32) + (1 : Int32)) &&& (15 : Int32)) := by split <;> rfl
    split
    · exact ⟨n1.1, n1.2, z⟩
    · rw [if_pos rfl]; exact ⟨n1.1, n1.2, z⟩
  · rw [if_neg q]
    split
    · exact ⟨h.1, h.2, q⟩
    · rw [if_pos rfl]; exact ⟨h.1, h.2, q⟩
theorem own_end1 (ge gn : Nat → Int32) (k : Nat) : own_end (1 : Int32) ge gn k = ge k := by unfold own_end; rw [if_neg (by decide)]
theorem own_end0 (ge gn : Nat → Int32) (k : Nat) : own_end (0 : Int32) ge gn k = gn k := by unfold own_end; rw [if_pos rfl]
theorem own_hit (g : Nat → Int32) (k : Nat) (v : Int32) : own_set g k v k = v := by unfold own_set; rw [if_pos rfl]
theorem own_miss (g : Nat → Int32) (k j : Nat) (v : Int32) (h : j ≠ k) : own_set g k v j = g j := by unfold own_set; rw [if_neg h]
theorem own_ltl {s : Int32} {cn : Int64} (h : s.toInt < cn.toInt) : s.toInt64 < cn := by rw [Int64.lt_iff_toInt_lt, c_i2l]; exact h
theorem own_natlt {s : Int32} {n : Nat} (h0 : 0 ≤ s.toInt) (h : s.toInt < n) : s.toNatClampNeg < n := by rw [Int32.toNatClampNeg]; omega
theorem own_lt16 {s : Int32} (h0 : ¬ s < 0) (h : s.toNatClampNeg < 16) : s < (16 : Int32) := by
  rw [Int32.lt_iff_toInt_lt] at h0 ⊢
  rw [Int32.toNatClampNeg] at h
  have o : (16 : Int32).toInt = 16 := rfl
  have o0 : (0 : Int32).toInt = 0 := rfl
  omega
theorem own_nn {s u : Int32} (h0 : 0 ≤ s.toInt) (h1 : 0 ≤ u.toInt) (h : ¬ u = s) : u.toNatClampNeg ≠ s.toNatClampNeg := fun q => h (Int32.toInt_inj.mp (by
  rw [Int32.toNatClampNeg, Int32.toNatClampNeg] at q; omega))
theorem own_notmin {a sA : Int32} (h : -sA.toInt ≤ a.toInt) : ¬ a = (-2147483648 : Int32) := fun q => by
  have r := rng32 sA
  have o : ((-2147483648 : Int32)).toInt = -2147483648 := rfl
  rw [q, o] at h; omega
theorem pd_3 : parseMethodDescriptor "(JJ)J" = some ⟨[.long, .long], some .long⟩ := by decide +kernel
theorem pd_4 : parseMethodDescriptor "(I)V" = some ⟨[.int], none⟩ := by decide +kernel
theorem pd_5 : parseMethodDescriptor "(II)V" = some ⟨[.int, .int], none⟩ := by decide +kernel
theorem pd_6 : parseMethodDescriptor "(III)V" = some ⟨[.int, .int, .int], none⟩ := by decide +kernel
theorem pn_0 : plainName "com/example/impronta/impronta/engine/AlignmentsSlotPinLaw" = true := by first | (simp [plainName, overriddenIn]; done) | decide +kernel
theorem ef_0 (m : MethodId) (x0 : Int32) (x1 : Int32) (x2 : Int32) (x3 : Int32) (x4 : Int32) (x5 : Int32) : entryFrame m #[(.int x0), (.int x1), (.int x2), (.int x3), (.int x4), (.int x5)] maxLocals = mkF m 0 #[.val (.int x0), .val (.int x1), .val (.int x2), .val (.int x3), .val (.int x4), .val (.int x5), .unset, .unset, .unset, .unset, .unset, .unset, .unset, .unset, .unset, .unset, .unset, .unset, .unset] [] := by first | (simp [entryFrame, mkF, argsToLocals, Value.category, maxLocals]; done) | rfl
def Q0 (Z : State) (p0 : Int32) (p1 : Int32) (p2 : Int32) (p3 : Int32) (p4 : Int32) (p5 : Int32) (h0 : Heap) (n0 : Nat) (v : Option Value) (h : Heap) (L : List Loc) : Prop := v = some (.int (1 : Int32)) ∧ Fr n0 L
set_option maxRecDepth 65536 in
set_option maxHeartbeats 40000000 in
theorem rm0 (l : Launch) (Z : State) (a0 : Array Value) (hw : ∀ d ∈ tables_1, d.before a0 Z = true) (ws : List Jvm.Cond) (p0 : Int32) (p1 : Int32) (p2 : Int32) (p3 : Int32) (p4 : Int32) (p5 : Int32) (h0 : Heap) (n0 : Nat) (Z0 : n0 ≤ h0.size) :
    MetFree l x (head1 (Jvm.Cond.code x code maxLocals ret :: ws) room_1) (fun a U => a = #[(.int p0), (.int p1), (.int p2), (.int p3), (.int p4), (.int p5)] ∧ Z.Warmed39 U.vm ∧ U.heap = h0) (fun _ _ _ _ _ => True) (fun _ U o U' => ∃ v L, o = .returned v ∧ Q0 Z p0 p1 p2 p3 p4 p5 h0 n0 v U'.heap L ∧ FrameEnd U o U' L room_1.cells room_1.slots) := by
  refine MetFree.of_bodySF (plainFor_of_name pn_0) hisR ?_
  intro p e s m args below meth c s₁ Bd hml0 hP hK
  obtain ⟨rfl, hZ, hh⟩ := hP
  have hx := Bd.exec
  have hby := Bd.bytes
  have hml : c.maxLocals = 19 := hml0
  have hown : s.vm.findClass "com/example/impronta/impronta/engine/AlignmentsSlotPinLaw" = some m.cls := findClass_of_methodNamed Bd.named
  have hnm := (name_of_methodNamed Bd.named Bd.method).1
  have X0 : Stand p l e room_1 s m #[(.int p0), (.int p1), (.int p2), (.int p3), (.int p4), (.int p5)] below meth c s₁ [] 0 0 := Stand.of_body Bd
  have e0 : s₁.heap = h0 := by rw [← hh, Bd.state]; rfl
  have N0 := Fr.nil n0
  have pre0 : ∀ t, Steps p.tables e below (s₁.setTop (mkF m 0 #[.val (.int p0), .val (.int p1), .val (.int p2), .val (.int p3), .val (.int p4), .val (.int p5), .unset, .unset, .unset, .unset, .unset, .unset, .unset, .unset, .unset, .unset, .unset, .unset, .unset] [])) t → Steps p.tables e below (s₁.setTop (entryFrame m #[(.int p0), (.int p1), (.int p2), (.int p3), (.int p4), (.int p5)] maxLocals)) t := fun t k => castTop (ef_0 m p0 p1 p2 p3 p4 p5) k
  have pre258 : ∀ t, Steps p.tables e below (s₁.setTop (mkF m 3 #[.val (.int p0), .val (.int p1), .val (.int p2), .val (.int p3), .val (.int p4), .val (.int p5), .unset, .unset, .unset, .unset, .unset, .unset, .unset, .unset, .unset, .unset, .unset, .unset, .unset] [(.int (p0 &&& (1 : Int32)))])) t → Steps p.tables e below (s₁.setTop (entryFrame m #[(.int p0), (.int p1), (.int p2), (.int p3), (.int p4), (.int p5)] maxLocals)) t := by
    intro t kont
    refine pre0 t ?_
    show Steps p.tables e below (s₁.setTop (mkF m 0 #[.val (.int p0), .val (.int p1), .val (.int p2), .val (.int p3), .val (.int p4), .val (.int p5), .unset, .unset, .unset, .unset, .unset, .unset, .unset, .unset, .unset, .unset, .unset, .unset, .unset] [])) _
    refine XS.iloadN X0.here hx rfl (hb hby at_0) rfl ?_
    show Steps p.tables e below (s₁.setTop (mkF m 1 #[.val (.int p0), .val (.int p1), .val (.int p2), .val (.int p3), .val (.int p4), .val (.int p5), .unset, .unset, .unset, .unset, .unset, .unset, .unset, .unset, .unset, .unset, .unset, .unset, .unset] [(.int p0)])) _
    refine XS.iconst X0.here hx rfl (hb hby at_1) ?_
    show Steps p.tables e below (s₁.setTop (mkF m 2 #[.val (.int p0), .val (.int p1), .val (.int p2), .val (.int p3), .val (.int p4), .val (.int p5), .unset, .unset, .unset, .unset, .unset, .unset, .unset, .unset, .unset, .unset, .unset, .unset, .unset] [(.int (1 : Int32)), (.int p0)])) _
    refine XS.iand X0.here hx rfl (hb hby at_2) rfl ?_
    exact kont
  by_cases hc3 : (p0 &&& (1 : Int32)) = (0 : Int32)
  · have pre259 : ∀ t, Steps p.tables e below (s₁.setTop (mkF m 62 #[.val (.int p0), .val (.int p1), .val (.int p2), .val (.int p3), .val (.int p4), .val (.int p5), .val (.int (0 : Int32)), .val (.int (p1 &&& (2147483647 : Int32))), .val (.int (p2 &&& (2147483647 : Int32))), .val (.long ((((p1 &&& (2147483647 : Int32)).toInt64) + ((p2 &&& (2147483647 : Int32)).toInt64)) + (1 : Int64))), .second, .unset, .unset, .unset, .unset, .unset, .unset, .unset, .unset] [])) t → Steps p.tables e below (s₁.setTop (entryFrame m #[(.int p0), (.int p1), (.int p2), (.int p3), (.int p4), (.int p5)] maxLocals)) t := by
      intro t kont
      refine pre258 t ?_
      show Steps p.tables e below (s₁.setTop (mkF m 3 #[.val (.int p0), .val (.int p1), .val (.int p2), .val (.int p3), .val (.int p4), .val (.int p5), .unset, .unset, .unset, .unset, .unset, .unset, .unset, .unset, .unset, .unset, .unset, .unset, .unset] [(.int (p0 &&& (1 : Int32)))])) _
      refine XS.ifYes X0.here hx rfl (pc0 := 3) (pc' := 10) rfl (hb hby at_3) rfl ((if0 _ _).trans (teq hc3).1) (by decide) (by decide) ?_
      show Steps p.tables e below (s₁.setTop (mkF m 10 #[.val (.int p0), .val (.int p1), .val (.int p2), .val (.int p3), .val (.int p4), .val (.int p5), .unset, .unset, .unset, .unset, .unset, .unset, .unset, .unset, .unset, .unset, .unset, .unset, .unset] [])) _
      refine XS.iconst X0.here hx rfl (hb hby at_10) ?_
      show Steps p.tables e below (s₁.setTop (mkF m 11 #[.val (.int p0), .val (.int p1), .val (.int p2), .val (.int p3), .val (.int p4), .val (.int p5), .unset, .unset, .unset, .unset, .unset, .unset, .unset, .unset, .unset, .unset, .unset, .unset, .unset] [(.int (0 : Int32))])) _
      refine XS.istore X0.here hx rfl (hb hby at_11) rfl (l' := #[.val (.int p0), .val (.int p1), .val (.int p2), .val (.int p3), .val (.int p4), .val (.int p5), .val (.int (0 : Int32)), .unset, .unset, .unset, .unset, .unset, .unset, .unset, .unset, .unset, .unset, .unset, .unset]) rfl ?_
      show Steps p.tables e below (s₁.setTop (mkF m 13 #[.val (.int p0), .val (.int p1), .val (.int p2), .val (.int p3), .val (.int p4), .val (.int p5), .val (.int (0 : Int32)), .unset, .unset, .unset, .unset, .unset, .unset, .unset, .unset, .unset, .unset, .unset, .unset] [])) _
      refine XS.iload X0.here hx rfl (hb hby at_13) rfl ?_
      show Steps p.tables e below (s₁.setTop (mkF m 15 #[.val (.int p0), .val (.int p1), .val (.int p2), .val (.int p3), .val (.int p4), .val (.int p5), .val (.int (0 : Int32)), .unset, .unset, .unset, .unset, .unset, .unset, .unset, .unset, .unset, .unset, .unset, .unset] [(.int (0 : Int32))])) _
      refine XS.ifYes X0.here hx rfl (pc0 := 15) (pc' := 26) rfl (hb hby at_15) rfl ((if0 _ _).trans (teq (by decide)).1) (by decide) (by decide) ?_
      show Steps p.tables e below (s₁.setTop (mkF m 26 #[.val (.int p0), .val (.int p1), .val (.int p2), .val (.int p3), .val (.int p4), .val (.int p5), .val (.int (0 : Int32)), .unset, .unset, .unset, .unset, .unset, .unset, .unset, .unset, .unset, .unset, .unset, .unset] [])) _
      refine XS.iloadN X0.here hx rfl (hb hby at_26) rfl ?_
      show Steps p.tables e below (s₁.setTop (mkF m 27 #[.val (.int p0), .val (.int p1), .val (.int p2), .val (.int p3), .val (.int p4), .val (.int p5), .val (.int (0 : Int32)), .unset, .unset, .unset, .unset, .unset, .unset, .unset, .unset, .unset, .unset, .unset, .unset] [(.int p1)])) _
      refine X0.ldcInt hx hown (mvT hZ (hw _ (List.mem_of_getElem? (i := 0) rfl))) (g := (mkF m 27 #[.val (.int p0), .val (.int p1), .val (.int p2), .val (.int p3), .val (.int p4), .val (.int p5), .val (.int (0 : Int32)), .unset, .unset, .unset, .unset, .unset, .unset, .unset, .unset, .unset, .unset, .unset, .unset] [(.int p1)])) rfl (hb hby at_27) _ ?_
      show Steps p.tables e below (s₁.setTop (mkF m 29 #[.val (.int p0), .val (.int p1), .val (.int p2), .val (.int p3), .val (.int p4), .val (.int p5), .val (.int (0 : Int32)), .unset, .unset, .unset, .unset, .unset, .unset, .unset, .unset, .unset, .unset, .unset, .unset] [(.int (2147483647 : Int32)), (.int p1)])) _
      refine XS.iand X0.here hx rfl (hb hby at_29) rfl ?_
      show Steps p.tables e below (s₁.setTop (mkF m 30 #[.val (.int p0), .val (.int p1), .val (.int p2), .val (.int p3), .val (.int p4), .val (.int p5), .val (.int (0 : Int32)), .unset, .unset, .unset, .unset, .unset, .unset, .unset, .unset, .unset, .unset, .unset, .unset] [(.int (p1 &&& (2147483647 : Int32)))])) _
      refine XS.istore X0.here hx rfl (hb hby at_30) rfl (l' := #[.val (.int p0), .val (.int p1), .val (.int p2), .val (.int p3), .val (.int p4), .val (.int p5), .val (.int (0 : Int32)), .val (.int (p1 &&& (2147483647 : Int32))), .unset, .unset, .unset, .unset, .unset, .unset, .unset, .unset, .unset, .unset, .unset]) rfl ?_
      show Steps p.tables e below (s₁.setTop (mkF m 32 #[.val (.int p0), .val (.int p1), .val (.int p2), .val (.int p3), .val (.int p4), .val (.int p5), .val (.int (0 : Int32)), .val (.int (p1 &&& (2147483647 : Int32))), .unset, .unset, .unset, .unset, .unset, .unset, .unset, .unset, .unset, .unset, .unset] [])) _
      refine XS.iload X0.here hx rfl (hb hby at_32) rfl ?_
      show Steps p.tables e below (s₁.setTop (mkF m 34 #[.val (.int p0), .val (.int p1), .val (.int p2), .val (.int p3), .val (.int p4), .val (.int p5), .val (.int (0 : Int32)), .val (.int (p1 &&& (2147483647 : Int32))), .unset, .unset, .unset, .unset, .unset, .unset, .unset, .unset, .unset, .unset, .unset] [(.int (0 : Int32))])) _
      refine XS.ifYes X0.here hx rfl (pc0 := 34) (pc' := 45) rfl (hb hby at_34) rfl ((if0 _ _).trans (teq (by decide)).1) (by decide) (by decide) ?_
      show Steps p.tables e below (s₁.setTop (mkF m 45 #[.val (.int p0), .val (.int p1), .val (.int p2), .val (.int p3), .val (.int p4), .val (.int p5), .val (.int (0 : Int32)), .val (.int (p1 &&& (2147483647 : Int32))), .unset, .unset, .unset, .unset, .unset, .unset, .unset, .unset, .unset, .unset, .unset] [])) _
      refine XS.iloadN X0.here hx rfl (hb hby at_45) rfl ?_
      show Steps p.tables e below (s₁.setTop (mkF m 46 #[.val (.int p0), .val (.int p1), .val (.int p2), .val (.int p3), .val (.int p4), .val (.int p5), .val (.int (0 : Int32)), .val (.int (p1 &&& (2147483647 : Int32))), .unset, .unset, .unset, .unset, .unset, .unset, .unset, .unset, .unset, .unset, .unset] [(.int p2)])) _
      refine X0.ldcInt hx hown (mvT hZ (hw _ (List.mem_of_getElem? (i := 0) rfl))) (g := (mkF m 46 #[.val (.int p0), .val (.int p1), .val (.int p2), .val (.int p3), .val (.int p4), .val (.int p5), .val (.int (0 : Int32)), .val (.int (p1 &&& (2147483647 : Int32))), .unset, .unset, .unset, .unset, .unset, .unset, .unset, .unset, .unset, .unset, .unset] [(.int p2)])) rfl (hb hby at_46) _ ?_
      show Steps p.tables e below (s₁.setTop (mkF m 48 #[.val (.int p0), .val (.int p1), .val (.int p2), .val (.int p3), .val (.int p4), .val (.int p5), .val (.int (0 : Int32)), .val (.int (p1 &&& (2147483647 : Int32))), .unset, .unset, .unset, .unset, .unset, .unset, .unset, .unset, .unset, .unset, .unset] [(.int (2147483647 : Int32)), (.int p2)])) _
      refine XS.iand X0.here hx rfl (hb hby at_48) rfl ?_
      show Steps p.tables e below (s₁.setTop (mkF m 49 #[.val (.int p0), .val (.int p1), .val (.int p2), .val (.int p3), .val (.int p4), .val (.int p5), .val (.int (0 : Int32)), .val (.int (p1 &&& (2147483647 : Int32))), .unset, .unset, .unset, .unset, .unset, .unset, .unset, .unset, .unset, .unset, .unset] [(.int (p2 &&& (2147483647 : Int32)))])) _
      refine XS.istore X0.here hx rfl (hb hby at_49) rfl (l' := #[.val (.int p0), .val (.int p1), .val (.int p2), .val (.int p3), .val (.int p4), .val (.int p5), .val (.int (0 : Int32)), .val (.int (p1 &&& (2147483647 : Int32))), .val (.int (p2 &&& (2147483647 : Int32))), .unset, .unset, .unset, .unset, .unset, .unset, .unset, .unset, .unset, .unset]) rfl ?_
      show Steps p.tables e below (s₁.setTop (mkF m 51 #[.val (.int p0), .val (.int p1), .val (.int p2), .val (.int p3), .val (.int p4), .val (.int p5), .val (.int (0 : Int32)), .val (.int (p1 &&& (2147483647 : Int32))), .val (.int (p2 &&& (2147483647 : Int32))), .unset, .unset, .unset, .unset, .unset, .unset, .unset, .unset, .unset, .unset] [])) _
      refine XS.iload X0.here hx rfl (hb hby at_51) rfl ?_
      show Steps p.tables e below (s₁.setTop (mkF m 53 #[.val (.int p0), .val (.int p1), .val (.int p2), .val (.int p3), .val (.int p4), .val (.int p5), .val (.int (0 : Int32)), .val (.int (p1 &&& (2147483647 : Int32))), .val (.int (p2 &&& (2147483647 : Int32))), .unset, .unset, .unset, .unset, .unset, .unset, .unset, .unset, .unset, .unset] [(.int (p1 &&& (2147483647 : Int32)))])) _
      refine XS.i2l X0.here hx rfl (hb hby at_53) rfl ?_
      show Steps p.tables e below (s₁.setTop (mkF m 54 #[.val (.int p0), .val (.int p1), .val (.int p2), .val (.int p3), .val (.int p4), .val (.int p5), .val (.int (0 : Int32)), .val (.int (p1 &&& (2147483647 : Int32))), .val (.int (p2 &&& (2147483647 : Int32))), .unset, .unset, .unset, .unset, .unset, .unset, .unset, .unset, .unset, .unset] [(.long ((p1 &&& (2147483647 : Int32)).toInt64))])) _
      refine XS.iload X0.here hx rfl (hb hby at_54) rfl ?_
      show Steps p.tables e below (s₁.setTop (mkF m 56 #[.val (.int p0), .val (.int p1), .val (.int p2), .val (.int p3), .val (.int p4), .val (.int p5), .val (.int (0 : Int32)), .val (.int (p1 &&& (2147483647 : Int32))), .val (.int (p2 &&& (2147483647 : Int32))), .unset, .unset, .unset, .unset, .unset, .unset, .unset, .unset, .unset, .unset] [(.int (p2 &&& (2147483647 : Int32))), (.long ((p1 &&& (2147483647 : Int32)).toInt64))])) _
      refine XS.i2l X0.here hx rfl (hb hby at_56) rfl ?_
      show Steps p.tables e below (s₁.setTop (mkF m 57 #[.val (.int p0), .val (.int p1), .val (.int p2), .val (.int p3), .val (.int p4), .val (.int p5), .val (.int (0 : Int32)), .val (.int (p1 &&& (2147483647 : Int32))), .val (.int (p2 &&& (2147483647 : Int32))), .unset, .unset, .unset, .unset, .unset, .unset, .unset, .unset, .unset, .unset] [(.long ((p2 &&& (2147483647 : Int32)).toInt64)), (.long ((p1 &&& (2147483647 : Int32)).toInt64))])) _
      refine XS.ladd X0.here hx rfl (hb hby at_57) rfl ?_
      show Steps p.tables e below (s₁.setTop (mkF m 58 #[.val (.int p0), .val (.int p1), .val (.int p2), .val (.int p3), .val (.int p4), .val (.int p5), .val (.int (0 : Int32)), .val (.int (p1 &&& (2147483647 : Int32))), .val (.int (p2 &&& (2147483647 : Int32))), .unset, .unset, .unset, .unset, .unset, .unset, .unset, .unset, .unset, .unset] [(.long (((p1 &&& (2147483647 : Int32)).toInt64) + ((p2 &&& (2147483647 : Int32)).toInt64)))])) _
      refine XS.lconst X0.here hx rfl (hb hby at_58) ?_
      show Steps p.tables e below (s₁.setTop (mkF m 59 #[.val (.int p0), .val (.int p1), .val (.int p2), .val (.int p3), .val (.int p4), .val (.int p5), .val (.int (0 : Int32)), .val (.int (p1 &&& (2147483647 : Int32))), .val (.int (p2 &&& (2147483647 : Int32))), .unset, .unset, .unset, .unset, .unset, .unset, .unset, .unset, .unset, .unset] [(.long (1 : Int64)), (.long (((p1 &&& (2147483647 : Int32)).toInt64) + ((p2 &&& (2147483647 : Int32)).toInt64)))])) _
      refine XS.ladd X0.here hx rfl (hb hby at_59) rfl ?_
      show Steps p.tables e below (s₁.setTop (mkF m 60 #[.val (.int p0), .val (.int p1), .val (.int p2), .val (.int p3), .val (.int p4), .val (.int p5), .val (.int (0 : Int32)), .val (.int (p1 &&& (2147483647 : Int32))), .val (.int (p2 &&& (2147483647 : Int32))), .unset, .unset, .unset, .unset, .unset, .unset, .unset, .unset, .unset, .unset] [(.long ((((p1 &&& (2147483647 : Int32)).toInt64) + ((p2 &&& (2147483647 : Int32)).toInt64)) + (1 : Int64)))])) _
      refine XS.lstore X0.here hx rfl (hb hby at_60) rfl (l' := #[.val (.int p0), .val (.int p1), .val (.int p2), .val (.int p3), .val (.int p4), .val (.int p5), .val (.int (0 : Int32)), .val (.int (p1 &&& (2147483647 : Int32))), .val (.int (p2 &&& (2147483647 : Int32))), .val (.long ((((p1 &&& (2147483647 : Int32)).toInt64) + ((p2 &&& (2147483647 : Int32)).toInt64)) + (1 : Int64))), .second, .unset, .unset, .unset, .unset, .unset, .unset, .unset, .unset]) rfl ?_
      exact kont
    obtain ⟨sA, hsA⟩ : ∃ z : Int32, z = (p1 &&& (2147483647 : Int32)) := ⟨_, rfl⟩
    rw [← hsA] at pre259
    obtain ⟨sB, hsB⟩ : ∃ z : Int32, z = (p2 &&& (2147483647 : Int32)) := ⟨_, rfl⟩
    rw [← hsB] at pre259
    obtain ⟨cn, hcn⟩ : ∃ z : Int64, z = (((sA.toInt64) + (sB.toInt64)) + (1 : Int64)) := ⟨_, rfl⟩
    rw [← hcn] at pre259
    have qA : 0 ≤ sA.toInt := by rw [hsA]; exact own_m31 _
    have qB : 0 ≤ sB.toInt := by rw [hsB]; exact own_m31 _
    have rA := rng32 sA
    have rB := rng32 sB
    have hcv : cn.toInt = sA.toInt + sB.toInt + 1 := by rw [hcn, own_xv]
    have hcz : cn ≠ 0 := own_cz (by omega)
    have hX : ((sA.toInt64 + sB.toInt64) + (1 : Int64)) = cn := hcn.symm
    have hX1 : 1 ≤ (((sA.toInt64 + sB.toInt64) + (1 : Int64))).toInt := by rw [own_xv]; omega
    have pre260 : ∀ t, Steps p.tables e below (s₁.setTop (mkF m 91 #[.val (.int p0), .val (.int p1), .val (.int p2), .val (.int p3), .val (.int p4), .val (.int p5), .val (.int (0 : Int32)), .val (.int sA), .val (.int sB), .val (.long cn), .second, .unset, .unset, .unset, .unset, .unset, .unset, .unset, .unset] [(.long (2147483647 : Int64)), (.long ((cn - (1 : Int64)) - ((p3 &&& (7 : Int32)).toInt64)))])) t → Steps p.tables e below (s₁.setTop (entryFrame m #[(.int p0), (.int p1), (.int p2), (.int p3), (.int p4), (.int p5)] maxLocals)) t := by
      intro t kont
      refine pre259 t ?_
      show Steps p.tables e below (s₁.setTop (mkF m 62 #[.val (.int p0), .val (.int p1), .val (.int p2), .val (.int p3), .val (.int p4), .val (.int p5), .val (.int (0 : Int32)), .val (.int sA), .val (.int sB), .val (.long cn), .second, .unset, .unset, .unset, .unset, .unset, .unset, .unset, .unset] [])) _
      refine XS.iload X0.here hx rfl (hb hby at_62) rfl ?_
      show Steps p.tables e below (s₁.setTop (mkF m 64 #[.val (.int p0), .val (.int p1), .val (.int p2), .val (.int p3), .val (.int p4), .val (.int p5), .val (.int (0 : Int32)), .val (.int sA), .val (.int sB), .val (.long cn), .second, .unset, .unset, .unset, .unset, .unset, .unset, .unset, .unset] [(.int (0 : Int32))])) _
      refine XS.ifYes X0.here hx rfl (pc0 := 64) (pc' := 78) rfl (hb hby at_64) rfl ((if0 _ _).trans (teq (by decide)).1) (by decide) (by decide) ?_
      show Steps p.tables e below (s₁.setTop (mkF m 78 #[.val (.int p0), .val (.int p1), .val (.int p2), .val (.int p3), .val (.int p4), .val (.int p5), .val (.int (0 : Int32)), .val (.int sA), .val (.int sB), .val (.long cn), .second, .unset, .unset, .unset, .unset, .unset, .unset, .unset, .unset] [])) _
      refine XS.lload X0.here hx rfl (hb hby at_78) rfl ?_
      show Steps p.tables e below (s₁.setTop (mkF m 80 #[.val (.int p0), .val (.int p1), .val (.int p2), .val (.int p3), .val (.int p4), .val (.int p5), .val (.int (0 : Int32)), .val (.int sA), .val (.int sB), .val (.long cn), .second, .unset, .unset, .unset, .unset, .unset, .unset, .unset, .unset] [(.long cn)])) _
      refine XS.lconst X0.here hx rfl (hb hby at_80) ?_
      show Steps p.tables e below (s₁.setTop (mkF m 81 #[.val (.int p0), .val (.int p1), .val (.int p2), .val (.int p3), .val (.int p4), .val (.int p5), .val (.int (0 : Int32)), .val (.int sA), .val (.int sB), .val (.long cn), .second, .unset, .unset, .unset, .unset, .unset, .unset, .unset, .unset] [(.long (1 : Int64)), (.long cn)])) _
      refine XS.lsub X0.here hx rfl (hb hby at_81) rfl ?_
      show Steps p.tables e below (s₁.setTop (mkF m 82 #[.val (.int p0), .val (.int p1), .val (.int p2), .val (.int p3), .val (.int p4), .val (.int p5), .val (.int (0 : Int32)), .val (.int sA), .val (.int sB), .val (.long cn), .second, .unset, .unset, .unset, .unset, .unset, .unset, .unset, .unset] [(.long (cn - (1 : Int64)))])) _
      refine XS.iloadN X0.here hx rfl (hb hby at_82) rfl ?_
      show Steps p.tables e below (s₁.setTop (mkF m 83 #[.val (.int p0), .val (.int p1), .val (.int p2), .val (.int p3), .val (.int p4), .val (.int p5), .val (.int (0 : Int32)), .val (.int sA), .val (.int sB), .val (.long cn), .second, .unset, .unset, .unset, .unset, .unset, .unset, .unset, .unset] [(.int p3), (.long (cn - (1 : Int64)))])) _
      refine XS.bipush X0.here hx rfl (hb hby at_83) ?_
      show Steps p.tables e below (s₁.setTop (mkF m 85 #[.val (.int p0), .val (.int p1), .val (.int p2), .val (.int p3), .val (.int p4), .val (.int p5), .val (.int (0 : Int32)), .val (.int sA), .val (.int sB), .val (.long cn), .second, .unset, .unset, .unset, .unset, .unset, .unset, .unset, .unset] [(.int (7 : Int32)), (.int p3), (.long (cn - (1 : Int64)))])) _
      refine XS.iand X0.here hx rfl (hb hby at_85) rfl ?_
      show Steps p.tables e below (s₁.setTop (mkF m 86 #[.val (.int p0), .val (.int p1), .val (.int p2), .val (.int p3), .val (.int p4), .val (.int p5), .val (.int (0 : Int32)), .val (.int sA), .val (.int sB), .val (.long cn), .second, .unset, .unset, .unset, .unset, .unset, .unset, .unset, .unset] [(.int (p3 &&& (7 : Int32))), (.long (cn - (1 : Int64)))])) _
      refine XS.i2l X0.here hx rfl (hb hby at_86) rfl ?_
      show Steps p.tables e below (s₁.setTop (mkF m 87 #[.val (.int p0), .val (.int p1), .val (.int p2), .val (.int p3), .val (.int p4), .val (.int p5), .val (.int (0 : Int32)), .val (.int sA), .val (.int sB), .val (.long cn), .second, .unset, .unset, .unset, .unset, .unset, .unset, .unset, .unset] [(.long ((p3 &&& (7 : Int32)).toInt64)), (.long (cn - (1 : Int64)))])) _
      refine XS.lsub X0.here hx rfl (hb hby at_87) rfl ?_
      show Steps p.tables e below (s₁.setTop (mkF m 88 #[.val (.int p0), .val (.int p1), .val (.int p2), .val (.int p3), .val (.int p4), .val (.int p5), .val (.int (0 : Int32)), .val (.int sA), .val (.int sB), .val (.long cn), .second, .unset, .unset, .unset, .unset, .unset, .unset, .unset, .unset] [(.long ((cn - (1 : Int64)) - ((p3 &&& (7 : Int32)).toInt64)))])) _
      refine X0.ldc2Long hx hown (mvT hZ (hw _ (List.mem_of_getElem? (i := 1) rfl))) (g := (mkF m 88 #[.val (.int p0), .val (.int p1), .val (.int p2), .val (.int p3), .val (.int p4), .val (.int p5), .val (.int (0 : Int32)), .val (.int sA), .val (.int sB), .val (.long cn), .second, .unset, .unset, .unset, .unset, .unset, .unset, .unset, .unset] [(.long ((cn - (1 : Int64)) - ((p3 &&& (7 : Int32)).toInt64)))])) rfl (hb hby at_88) _ ?_
      exact kont
    obtain ⟨_, _, ⟨T261, L261, k261, n261⟩, -, X261, ⟨Lc261, hQ261, l261, y261, z261⟩, st261⟩ := Jvm.LawKit.callS X0 hx (y := (⟨"java/lang/Math", "min", "(JJ)J"⟩ : MethodName)) hown (mvT hZ (hw _ (List.mem_of_getElem? (i := 2) rfl))) (mvT hZ (hw _ (List.mem_of_getElem? (i := 3) rfl))) (mvT hZ (hw _ (List.mem_of_getElem? (i := 4) rfl))) (mvT hZ (hw _ (List.mem_of_getElem? (i := 5) rfl))) (by decide) (backOf (W := 0) (rm1 l Z a0 hw [] ((cn - (1 : Int64)) - ((p3 &&& (7 : Int32)).toInt64)) (2147483647 : Int64)  h0 n0 Z0) hZ (hw _ (List.mem_of_getElem? (i := 5) rfl)) (hw _ (List.mem_of_getElem? (i := 4) rfl)) (by decide) (by decide)) (g := (mkF m 91 #[.val (.int p0), .val (.int p1), .val (.int p2), .val (.int p3), .val (.int p4), .val (.int p5), .val (.int (0 : Int32)), .val (.int sA), .val (.int sB), .val (.long cn), .second, .unset, .unset, .unset, .unset, .unset, .unset, .unset, .unset] [(.long (2147483647 : Int64)), (.long ((cn - (1 : Int64)) - ((p3 &&& (7 : Int32)).toInt64)))])) rfl (by rw [hml]; rfl) (argsL := [(.long ((cn - (1 : Int64)) - ((p3 &&& (7 : Int32)).toInt64))), (.long (2147483647 : Int64))]) (rest := []) (lenOf pd_3 rfl) rfl (by show 2 * 0 + _ ≤ _; exact Nat.le_of_eq rfl) (hb hby at_91) (fun _ _ => ⟨rfl, e0, (by decide : 0 + 0 ≤ _), (by decide : 0 + 0 ≤ _)⟩)
    dsimp only [Pt.U, Pt.locs, Pt.cells, Pt.slots] at X261 l261 y261 z261 st261 hQ261
    subst l261 y261 z261
    obtain ⟨rfl, N261q, e261⟩ := hQ261
    have N261 := Fr.app N0 N261q
    have pre262 : ∀ t, Steps p.tables e below (T261.setTop (mkF m 94 #[.val (.int p0), .val (.int p1), .val (.int p2), .val (.int p3), .val (.int p4), .val (.int p5), .val (.int (0 : Int32)), .val (.int sA), .val (.int sB), .val (.long cn), .second, .unset, .unset, .unset, .unset, .unset, .unset, .unset, .unset] [(.long (own_mnl ((cn - (1 : Int64)) - ((p3 &&& (7 : Int32)).toInt64)) (2147483647 : Int64)))])) t → Steps p.tables e below (s₁.setTop (entryFrame m #[(.int p0), (.int p1), (.int p2), (.int p3), (.int p4), (.int p5)] maxLocals)) t := fun t kont => pre260 t (st261 _ kont)
    have pre263 : ∀ t, Steps p.tables e below (T261.setTop (mkF m 97 #[.val (.int p0), .val (.int p1), .val (.int p2), .val (.int p3), .val (.int p4), .val (.int p5), .val (.int (0 : Int32)), .val (.int sA), .val (.int sB), .val (.long cn), .second, .val (.int ((own_mnl ((cn - (1 : Int64)) - ((p3 &&& (7 : Int32)).toInt64)) (2147483647 : Int64)).toInt32)), .unset, .unset, .unset, .unset, .unset, .unset, .unset] [])) t → Steps p.tables e below (s₁.setTop (entryFrame m #[(.int p0), (.int p1), (.int p2), (.int p3), (.int p4), (.int p5)] maxLocals)) t := by
      intro t kont
      refine pre262 t ?_
      show Steps p.tables e below (T261.setTop (mkF m 94 #[.val (.int p0), .val (.int p1), .val (.int p2), .val (.int p3), .val (.int p4), .val (.int p5), .val (.int (0 : Int32)), .val (.int sA), .val (.int sB), .val (.long cn), .second, .unset, .unset, .unset, .unset, .unset, .unset, .unset, .unset] [(.long (own_mnl ((cn - (1 : Int64)) - ((p3 &&& (7 : Int32)).toInt64)) (2147483647 : Int64)))])) _
      refine XS.l2i X261.here hx rfl (hb hby at_94) rfl ?_
      show Steps p.tables e below (T261.setTop (mkF m 95 #[.val (.int p0), .val (.int p1), .val (.int p2), .val (.int p3), .val (.int p4), .val (.int p5), .val (.int (0 : Int32)), .val (.int sA), .val (.int sB), .val (.long cn), .second, .unset, .unset, .unset, .unset, .unset, .unset, .unset, .unset] [(.int ((own_mnl ((cn - (1 : Int64)) - ((p3 &&& (7 : Int32)).toInt64)) (2147483647 : Int64)).toInt32))])) _
      refine XS.istore X261.here hx rfl (hb hby at_95) rfl (l' := #[.val (.int p0), .val (.int p1), .val (.int p2), .val (.int p3), .val (.int p4), .val (.int p5), .val (.int (0 : Int32)), .val (.int sA), .val (.int sB), .val (.long cn), .second, .val (.int ((own_mnl ((cn - (1 : Int64)) - ((p3 &&& (7 : Int32)).toInt64)) (2147483647 : Int64)).toInt32)), .unset, .unset, .unset, .unset, .unset, .unset, .unset]) rfl ?_
      exact kont
    obtain ⟨dr, hdr⟩ : ∃ z : Int32, z = ((own_mnl ((cn - (1 : Int64)) - ((p3 &&& (7 : Int32)).toInt64)) (2147483647 : Int64)).toInt32) := ⟨_, rfl⟩
    rw [← hdr] at pre263
    have hno : dr.toInt64 < ((sA.toInt64 + sB.toInt64) + (1 : Int64)) := by rw [hX]; exact own_drB (by omega) (by omega) hdr
    have hcap : ¬ (dr.toInt64 < ((sA.toInt64 + sB.toInt64) + (1 : Int64))) → (((sA.toInt64 + sB.toInt64) + (1 : Int64))).toInt ≤ (511 : Nat) := fun q => absurd hno q
    have pre264 : ∀ t, Steps p.tables e below (T261.setTop (mkF m 141 #[.val (.int p0), .val (.int p1), .val (.int p2), .val (.int p3), .val (.int p4), .val (.int p5), .val (.int (0 : Int32)), .val (.int sA), .val (.int sB), .val (.long cn), .second, .val (.int dr), .val (.int (((((p4.toInt64) &&& (4294967295 : Int64)) % cn) - (sA.toInt64)).toInt32)), .val (.int (((((p5.toInt64) &&& (4294967295 : Int64)) % cn) - (sA.toInt64)).toInt32)), .val (.int ((((p0.toUInt32 >>> ((1 : Int32) &&& 31).toUInt32).toInt32) &&& (65535 : Int32)) + (1 : Int32))), .unset, .unset, .unset, .unset] [])) t → Steps p.tables e below (s₁.setTop (entryFrame m #[(.int p0), (.int p1), (.int p2), (.int p3), (.int p4), (.int p5)] maxLocals)) t := by
      intro t kont
      refine pre263 t ?_
      show Steps p.tables e below (T261.setTop (mkF m 97 #[.val (.int p0), .val (.int p1), .val (.int p2), .val (.int p3), .val (.int p4), .val (.int p5), .val (.int (0 : Int32)), .val (.int sA), .val (.int sB), .val (.long cn), .second, .val (.int dr), .unset, .unset, .unset, .unset, .unset, .unset, .unset] [])) _
      refine XS.iload X261.here hx rfl (hb hby at_97) rfl ?_
      show Steps p.tables e below (T261.setTop (mkF m 99 #[.val (.int p0), .val (.int p1), .val (.int p2), .val (.int p3), .val (.int p4), .val (.int p5), .val (.int (0 : Int32)), .val (.int sA), .val (.int sB), .val (.long cn), .second, .val (.int dr), .unset, .unset, .unset, .unset, .unset, .unset, .unset] [(.int p4)])) _
      refine XS.i2l X261.here hx rfl (hb hby at_99) rfl ?_
      show Steps p.tables e below (T261.setTop (mkF m 100 #[.val (.int p0), .val (.int p1), .val (.int p2), .val (.int p3), .val (.int p4), .val (.int p5), .val (.int (0 : Int32)), .val (.int sA), .val (.int sB), .val (.long cn), .second, .val (.int dr), .unset, .unset, .unset, .unset, .unset, .unset, .unset] [(.long (p4.toInt64))])) _
      refine X261.ldc2Long hx hown (mvT hZ (hw _ (List.mem_of_getElem? (i := 6) rfl))) (g := (mkF m 100 #[.val (.int p0), .val (.int p1), .val (.int p2), .val (.int p3), .val (.int p4), .val (.int p5), .val (.int (0 : Int32)), .val (.int sA), .val (.int sB), .val (.long cn), .second, .val (.int dr), .unset, .unset, .unset, .unset, .unset, .unset, .unset] [(.long (p4.toInt64))])) rfl (hb hby at_100) _ ?_
      show Steps p.tables e below (T261.setTop (mkF m 103 #[.val (.int p0), .val (.int p1), .val (.int p2), .val (.int p3), .val (.int p4), .val (.int p5), .val (.int (0 : Int32)), .val (.int sA), .val (.int sB), .val (.long cn), .second, .val (.int dr), .unset, .unset, .unset, .unset, .unset, .unset, .unset] [(.long (4294967295 : Int64)), (.long (p4.toInt64))])) _
      refine XS.land X261.here hx rfl (hb hby at_103) rfl ?_
      show Steps p.tables e below (T261.setTop (mkF m 104 #[.val (.int p0), .val (.int p1), .val (.int p2), .val (.int p3), .val (.int p4), .val (.int p5), .val (.int (0 : Int32)), .val (.int sA), .val (.int sB), .val (.long cn), .second, .val (.int dr), .unset, .unset, .unset, .unset, .unset, .unset, .unset] [(.long ((p4.toInt64) &&& (4294967295 : Int64)))])) _
      refine XS.lload X261.here hx rfl (hb hby at_104) rfl ?_
      show Steps p.tables e below (T261.setTop (mkF m 106 #[.val (.int p0), .val (.int p1), .val (.int p2), .val (.int p3), .val (.int p4), .val (.int p5), .val (.int (0 : Int32)), .val (.int sA), .val (.int sB), .val (.long cn), .second, .val (.int dr), .unset, .unset, .unset, .unset, .unset, .unset, .unset] [(.long cn), (.long ((p4.toInt64) &&& (4294967295 : Int64)))])) _
      refine XS.lrem X261.here hx rfl (hb hby at_106) rfl hcz ?_
      rw [lrem_mod]
      show Steps p.tables e below (T261.setTop (mkF m 107 #[.val (.int p0), .val (.int p1), .val (.int p2), .val (.int p3), .val (.int p4), .val (.int p5), .val (.int (0 : Int32)), .val (.int sA), .val (.int sB), .val (.long cn), .second, .val (.int dr), .unset, .unset, .unset, .unset, .unset, .unset, .unset] [(.long (((p4.toInt64) &&& (4294967295 : Int64)) % cn))])) _
      refine XS.iload X261.here hx rfl (hb hby at_107) rfl ?_
      show Steps p.tables e below (T261.setTop (mkF m 109 #[.val (.int p0), .val (.int p1), .val (.int p2), .val (.int p3), .val (.int p4), .val (.int p5), .val (.int (0 : Int32)), .val (.int sA), .val (.int sB), .val (.long cn), .second, .val (.int dr), .unset, .unset, .unset, .unset, .unset, .unset, .unset] [(.int sA), (.long (((p4.toInt64) &&& (4294967295 : Int64)) % cn))])) _
      refine XS.i2l X261.here hx rfl (hb hby at_109) rfl ?_
      show Steps p.tables e below (T261.setTop (mkF m 110 #[.val (.int p0), .val (.int p1), .val (.int p2), .val (.int p3), .val (.int p4), .val (.int p5), .val (.int (0 : Int32)), .val (.int sA), .val (.int sB), .val (.long cn), .second, .val (.int dr), .unset, .unset, .unset, .unset, .unset, .unset, .unset] [(.long (sA.toInt64)), (.long (((p4.toInt64) &&& (4294967295 : Int64)) % cn))])) _
      refine XS.lsub X261.here hx rfl (hb hby at_110) rfl ?_
      show Steps p.tables e below (T261.setTop (mkF m 111 #[.val (.int p0), .val (.int p1), .val (.int p2), .val (.int p3), .val (.int p4), .val (.int p5), .val (.int (0 : Int32)), .val (.int sA), .val (.int sB), .val (.long cn), .second, .val (.int dr), .unset, .unset, .unset, .unset, .unset, .unset, .unset] [(.long ((((p4.toInt64) &&& (4294967295 : Int64)) % cn) - (sA.toInt64)))])) _
      refine XS.l2i X261.here hx rfl (hb hby at_111) rfl ?_
      show Steps p.tables e below (T261.setTop (mkF m 112 #[.val (.int p0), .val (.int p1), .val (.int p2), .val (.int p3), .val (.int p4), .val (.int p5), .val (.int (0 : Int32)), .val (.int sA), .val (.int sB), .val (.long cn), .second, .val (.int dr), .unset, .unset, .unset, .unset, .unset, .unset, .unset] [(.int (((((p4.toInt64) &&& (4294967295 : Int64)) % cn) - (sA.toInt64)).toInt32))])) _
      refine XS.istore X261.here hx rfl (hb hby at_112) rfl (l' := #[.val (.int p0), .val (.int p1), .val (.int p2), .val (.int p3), .val (.int p4), .val (.int p5), .val (.int (0 : Int32)), .val (.int sA), .val (.int sB), .val (.long cn), .second, .val (.int dr), .val (.int (((((p4.toInt64) &&& (4294967295 : Int64)) % cn) - (sA.toInt64)).toInt32)), .unset, .unset, .unset, .unset, .unset, .unset]) rfl ?_
      show Steps p.tables e below (T261.setTop (mkF m 114 #[.val (.int p0), .val (.int p1), .val (.int p2), .val (.int p3), .val (.int p4), .val (.int p5), .val (.int (0 : Int32)), .val (.int sA), .val (.int sB), .val (.long cn), .second, .val (.int dr), .val (.int (((((p4.toInt64) &&& (4294967295 : Int64)) % cn) - (sA.toInt64)).toInt32)), .unset, .unset, .unset, .unset, .unset, .unset] [])) _
      refine XS.iload X261.here hx rfl (hb hby at_114) rfl ?_
      show Steps p.tables e below (T261.setTop (mkF m 116 #[.val (.int p0), .val (.int p1), .val (.int p2), .val (.int p3), .val (.int p4), .val (.int p5), .val (.int (0 : Int32)), .val (.int sA), .val (.int sB), .val (.long cn), .second, .val (.int dr), .val (.int (((((p4.toInt64) &&& (4294967295 : Int64)) % cn) - (sA.toInt64)).toInt32)), .unset, .unset, .unset, .unset, .unset, .unset] [(.int p5)])) _
      refine XS.i2l X261.here hx rfl (hb hby at_116) rfl ?_
      show Steps p.tables e below (T261.setTop (mkF m 117 #[.val (.int p0), .val (.int p1), .val (.int p2), .val (.int p3), .val (.int p4), .val (.int p5), .val (.int (0 : Int32)), .val (.int sA), .val (.int sB), .val (.long cn), .second, .val (.int dr), .val (.int (((((p4.toInt64) &&& (4294967295 : Int64)) % cn) - (sA.toInt64)).toInt32)), .unset, .unset, .unset, .unset, .unset, .unset] [(.long (p5.toInt64))])) _
      refine X261.ldc2Long hx hown (mvT hZ (hw _ (List.mem_of_getElem? (i := 6) rfl))) (g := (mkF m 117 #[.val (.int p0), .val (.int p1), .val (.int p2), .val (.int p3), .val (.int p4), .val (.int p5), .val (.int (0 : Int32)), .val (.int sA), .val (.int sB), .val (.long cn), .second, .val (.int dr), .val (.int (((((p4.toInt64) &&& (4294967295 : Int64)) % cn) - (sA.toInt64)).toInt32)), .unset, .unset, .unset, .unset, .unset, .unset] [(.long (p5.toInt64))])) rfl (hb hby at_117) _ ?_
      show Steps p.tables e below (T261.setTop (mkF m 120 #[.val (.int p0), .val (.int p1), .val (.int p2), .val (.int p3), .val (.int p4), .val (.int p5), .val (.int (0 : Int32)), .val (.int sA), .val (.int sB), .val (.long cn), .second, .val (.int dr), .val (.int (((((p4.toInt64) &&& (4294967295 : Int64)) % cn) - (sA.toInt64)).toInt32)), .unset, .unset, .unset, .unset, .unset, .unset] [(.long (4294967295 : Int64)), (.long (p5.toInt64))])) _
      refine XS.land X261.here hx rfl (hb hby at_120) rfl ?_
      show Steps p.tables e below (T261.setTop (mkF m 121 #[.val (.int p0), .val (.int p1), .val (.int p2), .val (.int p3), .val (.int p4), .val (.int p5), .val (.int (0 : Int32)), .val (.int sA), .val (.int sB), .val (.long cn), .second, .val (.int dr), .val (.int (((((p4.toInt64) &&& (4294967295 : Int64)) % cn) - (sA.toInt64)).toInt32)), .unset, .unset, .unset, .unset, .unset, .unset] [(.long ((p5.toInt64) &&& (4294967295 : Int64)))])) _
      refine XS.lload X261.here hx rfl (hb hby at_121) rfl ?_
      show Steps p.tables e below (T261.setTop (mkF m 123 #[.val (.int p0), .val (.int p1), .val (.int p2), .val (.int p3), .val (.int p4), .val (.int p5), .val (.int (0 : Int32)), .val (.int sA), .val (.int sB), .val (.long cn), .second, .val (.int dr), .val (.int (((((p4.toInt64) &&& (4294967295 : Int64)) % cn) - (sA.toInt64)).toInt32)), .unset, .unset, .unset, .unset, .unset, .unset] [(.long cn), (.long ((p5.toInt64) &&& (4294967295 : Int64)))])) _
      refine XS.lrem X261.here hx rfl (hb hby at_123) rfl hcz ?_
      rw [lrem_mod]
      show Steps p.tables e below (T261.setTop (mkF m 124 #[.val (.int p0), .val (.int p1), .val (.int p2), .val (.int p3), .val (.int p4), .val (.int p5), .val (.int (0 : Int32)), .val (.int sA), .val (.int sB), .val (.long cn), .second, .val (.int dr), .val (.int (((((p4.toInt64) &&& (4294967295 : Int64)) % cn) - (sA.toInt64)).toInt32)), .unset, .unset, .unset, .unset, .unset, .unset] [(.long (((p5.toInt64) &&& (4294967295 : Int64)) % cn))])) _
      refine XS.iload X261.here hx rfl (hb hby at_124) rfl ?_
      show Steps p.tables e below (T261.setTop (mkF m 126 #[.val (.int p0), .val (.int p1), .val (.int p2), .val (.int p3), .val (.int p4), .val (.int p5), .val (.int (0 : Int32)), .val (.int sA), .val (.int sB), .val (.long cn), .second, .val (.int dr), .val (.int (((((p4.toInt64) &&& (4294967295 : Int64)) % cn) - (sA.toInt64)).toInt32)), .unset, .unset, .unset, .unset, .unset, .unset] [(.int sA), (.long (((p5.toInt64) &&& (4294967295 : Int64)) % cn))])) _
      refine XS.i2l X261.here hx rfl (hb hby at_126) rfl ?_
      show Steps p.tables e below (T261.setTop (mkF m 127 #[.val (.int p0), .val (.int p1), .val (.int p2), .val (.int p3), .val (.int p4), .val (.int p5), .val (.int (0 : Int32)), .val (.int sA), .val (.int sB), .val (.long cn), .second, .val (.int dr), .val (.int (((((p4.toInt64) &&& (4294967295 : Int64)) % cn) - (sA.toInt64)).toInt32)), .unset, .unset, .unset, .unset, .unset, .unset] [(.long (sA.toInt64)), (.long (((p5.toInt64) &&& (4294967295 : Int64)) % cn))])) _
      refine XS.lsub X261.here hx rfl (hb hby at_127) rfl ?_
      show Steps p.tables e below (T261.setTop (mkF m 128 #[.val (.int p0), .val (.int p1), .val (.int p2), .val (.int p3), .val (.int p4), .val (.int p5), .val (.int (0 : Int32)), .val (.int sA), .val (.int sB), .val (.long cn), .second, .val (.int dr), .val (.int (((((p4.toInt64) &&& (4294967295 : Int64)) % cn) - (sA.toInt64)).toInt32)), .unset, .unset, .unset, .unset, .unset, .unset] [(.long ((((p5.toInt64) &&& (4294967295 : Int64)) % cn) - (sA.toInt64)))])) _
      refine XS.l2i X261.here hx rfl (hb hby at_128) rfl ?_
      show Steps p.tables e below (T261.setTop (mkF m 129 #[.val (.int p0), .val (.int p1), .val (.int p2), .val (.int p3), .val (.int p4), .val (.int p5), .val (.int (0 : Int32)), .val (.int sA), .val (.int sB), .val (.long cn), .second, .val (.int dr), .val (.int (((((p4.toInt64) &&& (4294967295 : Int64)) % cn) - (sA.toInt64)).toInt32)), .unset, .unset, .unset, .unset, .unset, .unset] [(.int (((((p5.toInt64) &&& (4294967295 : Int64)) % cn) - (sA.toInt64)).toInt32))])) _
      refine XS.istore X261.here hx rfl (hb hby at_129) rfl (l' := #[.val (.int p0), .val (.int p1), .val (.int p2), .val (.int p3), .val (.int p4), .val (.int p5), .val (.int (0 : Int32)), .val (.int sA), .val (.int sB), .val (.long cn), .second, .val (.int dr), .val (.int (((((p4.toInt64) &&& (4294967295 : Int64)) % cn) - (sA.toInt64)).toInt32)), .val (.int (((((p5.toInt64) &&& (4294967295 : Int64)) % cn) - (sA.toInt64)).toInt32)), .unset, .unset, .unset, .unset, .unset]) rfl ?_
      show Steps p.tables e below (T261.setTop (mkF m 131 #[.val (.int p0), .val (.int p1), .val (.int p2), .val (.int p3), .val (.int p4), .val (.int p5), .val (.int (0 : Int32)), .val (.int sA), .val (.int sB), .val (.long cn), .second, .val (.int dr), .val (.int (((((p4.toInt64) &&& (4294967295 : Int64)) % cn) - (sA.toInt64)).toInt32)), .val (.int (((((p5.toInt64) &&& (4294967295 : Int64)) % cn) - (sA.toInt64)).toInt32)), .unset, .unset, .unset, .unset, .unset] [])) _
      refine XS.iloadN X261.here hx rfl (hb hby at_131) rfl ?_
      show Steps p.tables e below (T261.setTop (mkF m 132 #[.val (.int p0), .val (.int p1), .val (.int p2), .val (.int p3), .val (.int p4), .val (.int p5), .val (.int (0 : Int32)), .val (.int sA), .val (.int sB), .val (.long cn), .second, .val (.int dr), .val (.int (((((p4.toInt64) &&& (4294967295 : Int64)) % cn) - (sA.toInt64)).toInt32)), .val (.int (((((p5.toInt64) &&& (4294967295 : Int64)) % cn) - (sA.toInt64)).toInt32)), .unset, .unset, .unset, .unset, .unset] [(.int p0)])) _
      refine XS.iconst X261.here hx rfl (hb hby at_132) ?_
      show Steps p.tables e below (T261.setTop (mkF m 133 #[.val (.int p0), .val (.int p1), .val (.int p2), .val (.int p3), .val (.int p4), .val (.int p5), .val (.int (0 : Int32)), .val (.int sA), .val (.int sB), .val (.long cn), .second, .val (.int dr), .val (.int (((((p4.toInt64) &&& (4294967295 : Int64)) % cn) - (sA.toInt64)).toInt32)), .val (.int (((((p5.toInt64) &&& (4294967295 : Int64)) % cn) - (sA.toInt64)).toInt32)), .unset, .unset, .unset, .unset, .unset] [(.int (1 : Int32)), (.int p0)])) _
      refine XS.iushr X261.here hx rfl (hb hby at_133) rfl ?_
      show Steps p.tables e below (T261.setTop (mkF m 134 #[.val (.int p0), .val (.int p1), .val (.int p2), .val (.int p3), .val (.int p4), .val (.int p5), .val (.int (0 : Int32)), .val (.int sA), .val (.int sB), .val (.long cn), .second, .val (.int dr), .val (.int (((((p4.toInt64) &&& (4294967295 : Int64)) % cn) - (sA.toInt64)).toInt32)), .val (.int (((((p5.toInt64) &&& (4294967295 : Int64)) % cn) - (sA.toInt64)).toInt32)), .unset, .unset, .unset, .unset, .unset] [(.int ((p0.toUInt32 >>> ((1 : Int32) &&& 31).toUInt32).toInt32))])) _
      refine X261.ldcInt hx hown (mvT hZ (hw _ (List.mem_of_getElem? (i := 7) rfl))) (g := (mkF m 134 #[.val (.int p0), .val (.int p1), .val (.int p2), .val (.int p3), .val (.int p4), .val (.int p5), .val (.int (0 : Int32)), .val (.int sA), .val (.int sB), .val (.long cn), .second, .val (.int dr), .val (.int (((((p4.toInt64) &&& (4294967295 : Int64)) % cn) - (sA.toInt64)).toInt32)), .val (.int (((((p5.toInt64) &&& (4294967295 : Int64)) % cn) - (sA.toInt64)).toInt32)), .unset, .unset, .unset, .unset, .unset] [(.int ((p0.toUInt32 >>> ((1 : Int32) &&& 31).toUInt32).toInt32))])) rfl (hb hby at_134) _ ?_
      show Steps p.tables e below (T261.setTop (mkF m 136 #[.val (.int p0), .val (.int p1), .val (.int p2), .val (.int p3), .val (.int p4), .val (.int p5), .val (.int (0 : Int32)), .val (.int sA), .val (.int sB), .val (.long cn), .second, .val (.int dr), .val (.int (((((p4.toInt64) &&& (4294967295 : Int64)) % cn) - (sA.toInt64)).toInt32)), .val (.int (((((p5.toInt64) &&& (4294967295 : Int64)) % cn) - (sA.toInt64)).toInt32)), .unset, .unset, .unset, .unset, .unset] [(.int (65535 : Int32)), (.int ((p0.toUInt32 >>> ((1 : Int32) &&& 31).toUInt32).toInt32))])) _
      refine XS.iand X261.here hx rfl (hb hby at_136) rfl ?_
      show Steps p.tables e below (T261.setTop (mkF m 137 #[.val (.int p0), .val (.int p1), .val (.int p2), .val (.int p3), .val (.int p4), .val (.int p5), .val (.int (0 : Int32)), .val (.int sA), .val (.int sB), .val (.long cn), .second, .val (.int dr), .val (.int (((((p4.toInt64) &&& (4294967295 : Int64)) % cn) - (sA.toInt64)).toInt32)), .val (.int (((((p5.toInt64) &&& (4294967295 : Int64)) % cn) - (sA.toInt64)).toInt32)), .unset, .unset, .unset, .unset, .unset] [(.int (((p0.toUInt32 >>> ((1 : Int32) &&& 31).toUInt32).toInt32) &&& (65535 : Int32)))])) _
      refine XS.iconst X261.here hx rfl (hb hby at_137) ?_
      show Steps p.tables e below (T261.setTop (mkF m 138 #[.val (.int p0), .val (.int p1), .val (.int p2), .val (.int p3), .val (.int p4), .val (.int p5), .val (.int (0 : Int32)), .val (.int sA), .val (.int sB), .val (.long cn), .second, .val (.int dr), .val (.int (((((p4.toInt64) &&& (4294967295 : Int64)) % cn) - (sA.toInt64)).toInt32)), .val (.int (((((p5.toInt64) &&& (4294967295 : Int64)) % cn) - (sA.toInt64)).toInt32)), .unset, .unset, .unset, .unset, .unset] [(.int (1 : Int32)), (.int (((p0.toUInt32 >>> ((1 : Int32) &&& 31).toUInt32).toInt32) &&& (65535 : Int32)))])) _
      refine XS.iadd X261.here hx rfl (hb hby at_138) rfl ?_
      show Steps p.tables e below (T261.setTop (mkF m 139 #[.val (.int p0), .val (.int p1), .val (.int p2), .val (.int p3), .val (.int p4), .val (.int p5), .val (.int (0 : Int32)), .val (.int sA), .val (.int sB), .val (.long cn), .second, .val (.int dr), .val (.int (((((p4.toInt64) &&& (4294967295 : Int64)) % cn) - (sA.toInt64)).toInt32)), .val (.int (((((p5.toInt64) &&& (4294967295 : Int64)) % cn) - (sA.toInt64)).toInt32)), .unset, .unset, .unset, .unset, .unset] [(.int ((((p0.toUInt32 >>> ((1 : Int32) &&& 31).toUInt32).toInt32) &&& (65535 : Int32)) + (1 : Int32)))])) _
      refine XS.istore X261.here hx rfl (hb hby at_139) rfl (l' := #[.val (.int p0), .val (.int p1), .val (.int p2), .val (.int p3), .val (.int p4), .val (.int p5), .val (.int (0 : Int32)), .val (.int sA), .val (.int sB), .val (.long cn), .second, .val (.int dr), .val (.int (((((p4.toInt64) &&& (4294967295 : Int64)) % cn) - (sA.toInt64)).toInt32)), .val (.int (((((p5.toInt64) &&& (4294967295 : Int64)) % cn) - (sA.toInt64)).toInt32)), .val (.int ((((p0.toUInt32 >>> ((1 : Int32) &&& 31).toUInt32).toInt32) &&& (65535 : Int32)) + (1 : Int32))), .unset, .unset, .unset, .unset]) rfl ?_
      exact kont
    obtain ⟨a, ha⟩ : ∃ z : Int32, z = (((((p4.toInt64) &&& (4294967295 : Int64)) % cn) - (sA.toInt64)).toInt32) := ⟨_, rfl⟩
    rw [← ha] at pre264
    obtain ⟨bq, hbq⟩ : ∃ z : Int32, z = (((((p5.toInt64) &&& (4294967295 : Int64)) % cn) - (sA.toInt64)).toInt32) := ⟨_, rfl⟩
    rw [← hbq] at pre264
    obtain ⟨ev, hev⟩ : ∃ z : Int32, z = ((((p0.toUInt32 >>> ((1 : Int32) &&& 31).toUInt32).toInt32) &&& (65535 : Int32)) + (1 : Int32)) := ⟨_, rfl⟩
    rw [← hev] at pre264
    have va := own_av qA qB hcv ha
    have vb := own_av qA qB hcv hbq
    have hM : ¬ a = (-2147483648 : Int32) := own_notmin va.1
    obtain ⟨T265, h265, X265, e265, E265, A265, D265, -, st265⟩ := newO X261 hx hZ hown (hw _ (List.mem_of_getElem? (i := 8) rfl)) (hw _ (List.mem_of_getElem? (i := 9) rfl)) (hw _ (List.mem_of_getElem? (i := 10) rfl)) e261 (g := (mkF m 141 #[.val (.int p0), .val (.int p1), .val (.int p2), .val (.int p3), .val (.int p4), .val (.int p5), .val (.int (0 : Int32)), .val (.int sA), .val (.int sB), .val (.long cn), .second, .val (.int dr), .val (.int a), .val (.int bq), .val (.int ev), .unset, .unset, .unset, .unset] [])) rfl (hb hby at_141) (by decide) (by decide)
    obtain ⟨b141, g265⟩ : ∃ z, z = h0.size := ⟨_, rfl⟩
    rw [← g265] at A265 D265 st265
    have g_b141 : n0 ≤ b141 := Nat.le_trans Z0 (Nat.le_of_eq g265.symm)
    have F265_endsByAlignment : Fld Z h265 b141 "com/example/impronta/impronta/engine/Alignments" "endsByAlignment" "[I" .null := D265 (Or.inl (hw _ (List.mem_of_getElem? (i := 19) rfl))) (ty := (.array .int)) (by decide)
    have F265_alignments : Fld Z h265 b141 "com/example/impronta/impronta/engine/Alignments" "alignments" "[I" .null := D265 (Or.inl (hw _ (List.mem_of_getElem? (i := 29) rfl))) (ty := (.array .int)) (by decide)
    have F265_ends : Fld Z h265 b141 "com/example/impronta/impronta/engine/Alignments" "ends" "[I" .null := D265 (Or.inl (hw _ (List.mem_of_getElem? (i := 31) rfl))) (ty := (.array .int)) (by decide)
    have F265_shift : Fld Z h265 b141 "com/example/impronta/impronta/engine/Alignments" "shift" "I" (.int (0 : Int32)) := D265 (Or.inl (hw _ (List.mem_of_getElem? (i := 33) rfl))) (ty := .int) (by decide)
    have F265_filled : Fld Z h265 b141 "com/example/impronta/impronta/engine/Alignments" "filled" "[I" .null := D265 (Or.inl (hw _ (List.mem_of_getElem? (i := 35) rfl))) (ty := (.array .int)) (by decide)
    have F265_direct : Fld Z h265 b141 "com/example/impronta/impronta/engine/Alignments" "direct" "I" (.int (0 : Int32)) := D265 (Or.inr (hw _ (List.mem_of_getElem? (i := 37) rfl))) (ty := .int) (by decide)
    have F265_ownSlots : Fld Z h265 b141 "com/example/impronta/impronta/engine/Alignments" "ownSlots" "Z" (.int (0 : Int32)) := D265 (Or.inl (hw _ (List.mem_of_getElem? (i := 44) rfl))) (ty := .boolean) (by decide)
    have F265_lowest : Fld Z h265 b141 "com/example/impronta/impronta/engine/Alignments" "lowest" "I" (.int (0 : Int32)) := D265 (Or.inl (hw _ (List.mem_of_getElem? (i := 46) rfl))) (ty := .int) (by decide)
    have F265_size : Fld Z h265 b141 "com/example/impronta/impronta/engine/Alignments" "size" "I" (.int (0 : Int32)) := D265 (Or.inl (hw _ (List.mem_of_getElem? (i := 64) rfl))) (ty := .int) (by decide)
    have Z265 : n0 ≤ h265.size := Nat.le_trans Z0 E265.1
    have pre266 : ∀ t, Steps p.tables e below (T265.setTop (mkF m 144 #[.val (.int p0), .val (.int p1), .val (.int p2), .val (.int p3), .val (.int p4), .val (.int p5), .val (.int (0 : Int32)), .val (.int sA), .val (.int sB), .val (.long cn), .second, .val (.int dr), .val (.int a), .val (.int bq), .val (.int ev), .unset, .unset, .unset, .unset] [(.ref b141)])) t → Steps p.tables e below (s₁.setTop (entryFrame m #[(.int p0), (.int p1), (.int p2), (.int p3), (.int p4), (.int p5)] maxLocals)) t := fun t kont => pre264 t (st265 _ kont)
    have pre267 : ∀ t, Steps p.tables e below (T265.setTop (mkF m 147 #[.val (.int p0), .val (.int p1), .val (.int p2), .val (.int p3), .val (.int p4), .val (.int p5), .val (.int (0 : Int32)), .val (.int sA), .val (.int sB), .val (.long cn), .second, .val (.int dr), .val (.int a), .val (.int bq), .val (.int ev), .unset, .unset, .unset, .unset] [(.int dr), (.ref b141), (.ref b141)])) t → Steps p.tables e below (s₁.setTop (entryFrame m #[(.int p0), (.int p1), (.int p2), (.int p3), (.int p4), (.int p5)] maxLocals)) t := by
      intro t kont
      refine pre266 t ?_
      show Steps p.tables e below (T265.setTop (mkF m 144 #[.val (.int p0), .val (.int p1), .val (.int p2), .val (.int p3), .val (.int p4), .val (.int p5), .val (.int (0 : Int32)), .val (.int sA), .val (.int sB), .val (.long cn), .second, .val (.int dr), .val (.int a), .val (.int bq), .val (.int ev), .unset, .unset, .unset, .unset] [(.ref b141)])) _
      refine XS.dup X265.here hx rfl (hb hby at_144) rfl rfl ?_
      show Steps p.tables e below (T265.setTop (mkF m 145 #[.val (.int p0), .val (.int p1), .val (.int p2), .val (.int p3), .val (.int p4), .val (.int p5), .val (.int (0 : Int32)), .val (.int sA), .val (.int sB), .val (.long cn), .second, .val (.int dr), .val (.int a), .val (.int bq), .val (.int ev), .unset, .unset, .unset, .unset] [(.ref b141), (.ref b141)])) _
      refine XS.iload X265.here hx rfl (hb hby at_145) rfl ?_
      exact kont
    obtain ⟨_, _, ⟨T268, L268, k268, n268⟩, -, X268, ⟨Lc268, hQ268, l268, y268, z268⟩, st268⟩ := X265.specialBack hx (y := (⟨"com/example/impronta/impronta/engine/Alignments", "<init>", "(I)V"⟩ : MethodName)) rfl hown (mvT hZ (hw _ (List.mem_of_getElem? (i := 11) rfl))) (mvT hZ (hw _ (List.mem_of_getElem? (i := 12) rfl))) (mvT hZ (hw _ (List.mem_of_getElem? (i := 13) rfl))) (by decide) (backOf (W := 1) (rm2 l Z a0 hw [] b141 dr  h265 n0 Z265 A265 F265_direct F265_ownSlots F265_lowest F265_size F265_shift F265_endsByAlignment F265_alignments F265_ends F265_filled g_b141) hZ (hw _ (List.mem_of_getElem? (i := 13) rfl)) (hw _ (List.mem_of_getElem? (i := 10) rfl)) (by decide) (by decide)) (g := (mkF m 147 #[.val (.int p0), .val (.int p1), .val (.int p2), .val (.int p3), .val (.int p4), .val (.int p5), .val (.int (0 : Int32)), .val (.int sA), .val (.int sB), .val (.long cn), .second, .val (.int dr), .val (.int a), .val (.int bq), .val (.int ev), .unset, .unset, .unset, .unset] [(.int dr), (.ref b141), (.ref b141)])) rfl (by rw [hml]; rfl) (Steps.refl _) (a := b141) (argsL := [(.int dr)]) (rest := [(.ref b141)]) (lenOf pd_4 rfl) rfl (by show 2 * 0 + _ ≤ _; exact Nat.le_of_eq rfl) (hb hby at_147) (fun _ _ => ⟨rfl, e265, (by decide : 1 + 4 ≤ _), (by decide : 9 + 40 ≤ _)⟩)
    dsimp only [Pt.U, Pt.locs, Pt.cells, Pt.slots] at X268 l268 y268 z268 st268 hQ268
    subst l268 y268 z268
    obtain ⟨rfl, N268q, Z268, be, ba, bn, bf, H268⟩ := hQ268
    have N268 := Fr.app N261 N268q
    have pre269 : ∀ t, Steps p.tables e below (T268.setTop (mkF m 150 #[.val (.int p0), .val (.int p1), .val (.int p2), .val (.int p3), .val (.int p4), .val (.int p5), .val (.int (0 : Int32)), .val (.int sA), .val (.int sB), .val (.long cn), .second, .val (.int dr), .val (.int a), .val (.int bq), .val (.int ev), .unset, .unset, .unset, .unset] [(.ref b141)])) t → Steps p.tables e below (s₁.setTop (entryFrame m #[(.int p0), (.int p1), (.int p2), (.int p3), (.int p4), (.int p5)] maxLocals)) t := fun t kont => pre267 t (st268.trans kont)
    have pre270 : ∀ t, Steps p.tables e below (T268.setTop (mkF m 158 #[.val (.int p0), .val (.int p1), .val (.int p2), .val (.int p3), .val (.int p4), .val (.int p5), .val (.int (0 : Int32)), .val (.int sA), .val (.int sB), .val (.long cn), .second, .val (.int dr), .val (.int a), .val (.int bq), .val (.int ev), .val (.ref b141), .unset, .unset, .unset] [(.int sB), (.int sA), (.ref b141)])) t → Steps p.tables e below (s₁.setTop (entryFrame m #[(.int p0), (.int p1), (.int p2), (.int p3), (.int p4), (.int p5)] maxLocals)) t := by
      intro t kont
      refine pre269 t ?_
      show Steps p.tables e below (T268.setTop (mkF m 150 #[.val (.int p0), .val (.int p1), .val (.int p2), .val (.int p3), .val (.int p4), .val (.int p5), .val (.int (0 : Int32)), .val (.int sA), .val (.int sB), .val (.long cn), .second, .val (.int dr), .val (.int a), .val (.int bq), .val (.int ev), .unset, .unset, .unset, .unset] [(.ref b141)])) _
      refine XS.astore X268.here hx rfl (hb hby at_150) rfl rfl (l' := #[.val (.int p0), .val (.int p1), .val (.int p2), .val (.int p3), .val (.int p4), .val (.int p5), .val (.int (0 : Int32)), .val (.int sA), .val (.int sB), .val (.long cn), .second, .val (.int dr), .val (.int a), .val (.int bq), .val (.int ev), .val (.ref b141), .unset, .unset, .unset]) rfl ?_
      show Steps p.tables e below (T268.setTop (mkF m 152 #[.val (.int p0), .val (.int p1), .val (.int p2), .val (.int p3), .val (.int p4), .val (.int p5), .val (.int (0 : Int32)), .val (.int sA), .val (.int sB), .val (.long cn), .second, .val (.int dr), .val (.int a), .val (.int bq), .val (.int ev), .val (.ref b141), .unset, .unset, .unset] [])) _
      refine XS.aload X268.here hx rfl (hb hby at_152) rfl rfl ?_
      show Steps p.tables e below (T268.setTop (mkF m 154 #[.val (.int p0), .val (.int p1), .val (.int p2), .val (.int p3), .val (.int p4), .val (.int p5), .val (.int (0 : Int32)), .val (.int sA), .val (.int sB), .val (.long cn), .second, .val (.int dr), .val (.int a), .val (.int bq), .val (.int ev), .val (.ref b141), .unset, .unset, .unset] [(.ref b141)])) _
      refine XS.iload X268.here hx rfl (hb hby at_154) rfl ?_
      show Steps p.tables e below (T268.setTop (mkF m 156 #[.val (.int p0), .val (.int p1), .val (.int p2), .val (.int p3), .val (.int p4), .val (.int p5), .val (.int (0 : Int32)), .val (.int sA), .val (.int sB), .val (.long cn), .second, .val (.int dr), .val (.int a), .val (.int bq), .val (.int ev), .val (.ref b141), .unset, .unset, .unset] [(.int sA), (.ref b141)])) _
      refine XS.iload X268.here hx rfl (hb hby at_156) rfl ?_
      exact kont
    obtain ⟨cq271, kq271, q271a, q271b, q271c⟩ := isOf hZ rfl (H268).1
    obtain ⟨_, _, ⟨T271, L271, k271, n271⟩, -, X271, ⟨Lc271, hQ271, l271, y271, z271⟩, st271⟩ := X268.virtualBack hx (y := (⟨"com/example/impronta/impronta/engine/Alignments", "start", "(II)V"⟩ : MethodName)) (z := (⟨"com/example/impronta/impronta/engine/Alignments", "start", "(II)V"⟩ : MethodName)) hown (mvT hZ (hw _ (List.mem_of_getElem? (i := 38) rfl))) (mvT hZ (hw _ (List.mem_of_getElem? (i := 39) rfl))) (notFace_of_selects (args := #[]) (mvT hZ (hw _ (List.mem_of_getElem? (i := 41) rfl)))) (mvT hZ (hw _ (List.mem_of_getElem? (i := 41) rfl))) (mvT hZ (hw _ (List.mem_of_getElem? (i := 40) rfl))) (by decide) (backOf (W := 0) (rm6 l Z a0 hw [] b141 sA sB be ba bn bf dr (0 : Int32) (0 : Int32) (0 : Int32) 0 (fun _ => (-2147483648 : Int32)) (fun _ => (0 : Int32)) (fun _ => (0 : Int32))  T268.heap n0 Z268 H268 (by decide) hX1 hcap) hZ (hw _ (List.mem_of_getElem? (i := 42) rfl)) (hw _ (List.mem_of_getElem? (i := 10) rfl)) (by decide) (by decide)) q271a q271c (g := (mkF m 158 #[.val (.int p0), .val (.int p1), .val (.int p2), .val (.int p3), .val (.int p4), .val (.int p5), .val (.int (0 : Int32)), .val (.int sA), .val (.int sB), .val (.long cn), .second, .val (.int dr), .val (.int a), .val (.int bq), .val (.int ev), .val (.ref b141), .unset, .unset, .unset] [(.int sB), (.int sA), (.ref b141)])) rfl (by rw [hml]; rfl) (Steps.refl _) (argsL := [(.int sA), (.int sB)]) (rest := []) (lenOf pd_5 rfl) rfl (by show 2 * 0 + _ ≤ _; exact Nat.le_of_eq rfl) (hb hby at_158) (fun _ _ => ⟨rfl, rfl, (by decide : 5 + 1 ≤ _), (by decide : 49 + 511 ≤ _)⟩)
    dsimp only [Pt.U, Pt.locs, Pt.cells, Pt.slots] at X271 l271 y271 z271 st271 hQ271
    subst l271 y271 z271
    obtain ⟨rfl, N271q, Z271, be271, ne271, M271, G271, H271⟩ := hQ271
    have N271 := Fr.app N268 N271q
    have pre272 : ∀ t, Steps p.tables e below (T271.setTop (mkF m 161 #[.val (.int p0), .val (.int p1), .val (.int p2), .val (.int p3), .val (.int p4), .val (.int p5), .val (.int (0 : Int32)), .val (.int sA), .val (.int sB), .val (.long cn), .second, .val (.int dr), .val (.int a), .val (.int bq), .val (.int ev), .val (.ref b141), .unset, .unset, .unset] [])) t → Steps p.tables e below (s₁.setTop (entryFrame m #[(.int p0), (.int p1), (.int p2), (.int p3), (.int p4), (.int p5)] maxLocals)) t := fun t kont => pre270 t (st271.trans kont)
    rw [if_pos hno] at H271
    have pre273 : ∀ t, Steps p.tables e below (T271.setTop (mkF m 165 #[.val (.int p0), .val (.int p1), .val (.int p2), .val (.int p3), .val (.int p4), .val (.int p5), .val (.int (0 : Int32)), .val (.int sA), .val (.int sB), .val (.long cn), .second, .val (.int dr), .val (.int a), .val (.int bq), .val (.int ev), .val (.ref b141), .unset, .unset, .unset] [(.int a), (.ref b141)])) t → Steps p.tables e below (s₁.setTop (entryFrame m #[(.int p0), (.int p1), (.int p2), (.int p3), (.int p4), (.int p5)] maxLocals)) t := by
      intro t kont
      refine pre272 t ?_
      show Steps p.tables e below (T271.setTop (mkF m 161 #[.val (.int p0), .val (.int p1), .val (.int p2), .val (.int p3), .val (.int p4), .val (.int p5), .val (.int (0 : Int32)), .val (.int sA), .val (.int sB), .val (.long cn), .second, .val (.int dr), .val (.int a), .val (.int bq), .val (.int ev), .val (.ref b141), .unset, .unset, .unset] [])) _
      refine XS.aload X271.here hx rfl (hb hby at_161) rfl rfl ?_
      show Steps p.tables e below (T271.setTop (mkF m 163 #[.val (.int p0), .val (.int p1), .val (.int p2), .val (.int p3), .val (.int p4), .val (.int p5), .val (.int (0 : Int32)), .val (.int sA), .val (.int sB), .val (.long cn), .second, .val (.int dr), .val (.int a), .val (.int bq), .val (.int ev), .val (.ref b141), .unset, .unset, .unset] [(.ref b141)])) _
      refine XS.iload X271.here hx rfl (hb hby at_163) rfl ?_
      exact kont
    obtain ⟨cq274, kq274, q274a, q274b, q274c⟩ := isOf hZ rfl (H271).1
    obtain ⟨_, _, ⟨T274, L274, k274, n274⟩, -, X274, ⟨Lc274, hQ274, l274, y274, z274⟩, st274⟩ := X271.virtualBack hx (y := (⟨"com/example/impronta/impronta/engine/Alignments", "slot", "(I)I"⟩ : MethodName)) (z := (⟨"com/example/impronta/impronta/engine/Alignments", "slot", "(I)I"⟩ : MethodName)) hown (mvT hZ (hw _ (List.mem_of_getElem? (i := 47) rfl))) (mvT hZ (hw _ (List.mem_of_getElem? (i := 48) rfl))) (notFace_of_selects (args := #[]) (mvT hZ (hw _ (List.mem_of_getElem? (i := 50) rfl)))) (mvT hZ (hw _ (List.mem_of_getElem? (i := 50) rfl))) (mvT hZ (hw _ (List.mem_of_getElem? (i := 49) rfl))) (by decide) (backOf (W := 0) (rm7 l Z a0 hw [] b141 a be271 ba bn bf dr (0 : Int32) (-sA) (0 : Int32) ne271 (fun _ => (0 : Int32)) (fun _ => (-2147483648 : Int32)) (fun _ => (0 : Int32)) (fun _ => (0 : Int32))  T271.heap n0 Z271 H271 (fun _ => Or.inl rfl)) hZ (hw _ (List.mem_of_getElem? (i := 51) rfl)) (hw _ (List.mem_of_getElem? (i := 10) rfl)) (by decide) (by decide)) q274a q274c (g := (mkF m 165 #[.val (.int p0), .val (.int p1), .val (.int p2), .val (.int p3), .val (.int p4), .val (.int p5), .val (.int (0 : Int32)), .val (.int sA), .val (.int sB), .val (.long cn), .second, .val (.int dr), .val (.int a), .val (.int bq), .val (.int ev), .val (.ref b141), .unset, .unset, .unset] [(.int a), (.ref b141)])) rfl (by rw [hml]; rfl) (Steps.refl _) (argsL := [(.int a)]) (rest := []) (lenOf pd_2 rfl) rfl (by show 2 * 0 + _ ≤ _; exact Nat.le_of_eq rfl) (hb hby at_165) (fun _ _ => ⟨rfl, rfl, (by decide : 6 + 0 ≤ _), (by decide : 560 + 0 ≤ _)⟩)
    dsimp only [Pt.U, Pt.locs, Pt.cells, Pt.slots] at X274 l274 y274 z274 st274 hQ274
    subst l274 y274 z274
    obtain ⟨rfl, N274q, e274⟩ := hQ274
    have N274 := Fr.app N271 N274q
    have pre275 : ∀ t, Steps p.tables e below (T274.setTop (mkF m 168 #[.val (.int p0), .val (.int p1), .val (.int p2), .val (.int p3), .val (.int p4), .val (.int p5), .val (.int (0 : Int32)), .val (.int sA), .val (.int sB), .val (.long cn), .second, .val (.int dr), .val (.int a), .val (.int bq), .val (.int ev), .val (.ref b141), .unset, .unset, .unset] [(.int (own_slot (0 : Int32) (-sA) (fun _ => (-2147483648 : Int32)) a))])) t → Steps p.tables e below (s₁.setTop (entryFrame m #[(.int p0), (.int p1), (.int p2), (.int p3), (.int p4), (.int p5)] maxLocals)) t := fun t kont => pre273 t (st274.trans kont)
    have rq276 : (own_slot (0 : Int32) (-sA) (fun _ => (-2147483648 : Int32)) a) = (((a * (-1640531527 : Int32)).toUInt32 >>> ((28 : Int32) &&& 31).toUInt32).toInt32) := own_sB _ _
    rw [rq276] at pre275
    have pre277 : ∀ t, Steps p.tables e below (T274.setTop (mkF m 209 #[.val (.int p0), .val (.int p1), .val (.int p2), .val (.int p3), .val (.int p4), .val (.int p5), .val (.int (0 : Int32)), .val (.int sA), .val (.int sB), .val (.long cn), .second, .val (.int dr), .val (.int a), .val (.int bq), .val (.int ev), .val (.ref b141), .val (.int (((a * (-1640531527 : Int32)).toUInt32 >>> ((28 : Int32) &&& 31).toUInt32).toInt32)), .unset, .unset] [(.int (((a * (-1640531527 : Int32)).toUInt32 >>> ((28 : Int32) &&& 31).toUInt32).toInt32))])) t → Steps p.tables e below (s₁.setTop (entryFrame m #[(.int p0), (.int p1), (.int p2), (.int p3), (.int p4), (.int p5)] maxLocals)) t := by
      intro t kont
      refine pre275 t ?_
      show Steps p.tables e below (T274.setTop (mkF m 168 #[.val (.int p0), .val (.int p1), .val (.int p2), .val (.int p3), .val (.int p4), .val (.int p5), .val (.int (0 : Int32)), .val (.int sA), .val (.int sB), .val (.long cn), .second, .val (.int dr), .val (.int a), .val (.int bq), .val (.int ev), .val (.ref b141), .unset, .unset, .unset] [(.int (((a * (-1640531527 : Int32)).toUInt32 >>> ((28 : Int32) &&& 31).toUInt32).toInt32))])) _
      refine XS.istore X274.here hx rfl (hb hby at_168) rfl (l' := #[.val (.int p0), .val (.int p1), .val (.int p2), .val (.int p3), .val (.int p4), .val (.int p5), .val (.int (0 : Int32)), .val (.int sA), .val (.int sB), .val (.long cn), .second, .val (.int dr), .val (.int a), .val (.int bq), .val (.int ev), .val (.ref b141), .val (.int (((a * (-1640531527 : Int32)).toUInt32 >>> ((28 : Int32) &&& 31).toUInt32).toInt32)), .unset, .unset]) rfl ?_
      show Steps p.tables e below (T274.setTop (mkF m 170 #[.val (.int p0), .val (.int p1), .val (.int p2), .val (.int p3), .val (.int p4), .val (.int p5), .val (.int (0 : Int32)), .val (.int sA), .val (.int sB), .val (.long cn), .second, .val (.int dr), .val (.int a), .val (.int bq), .val (.int ev), .val (.ref b141), .val (.int (((a * (-1640531527 : Int32)).toUInt32 >>> ((28 : Int32) &&& 31).toUInt32).toInt32)), .unset, .unset] [])) _
      refine XS.iload X274.here hx rfl (hb hby at_170) rfl ?_
      show Steps p.tables e below (T274.setTop (mkF m 172 #[.val (.int p0), .val (.int p1), .val (.int p2), .val (.int p3), .val (.int p4), .val (.int p5), .val (.int (0 : Int32)), .val (.int sA), .val (.int sB), .val (.long cn), .second, .val (.int dr), .val (.int a), .val (.int bq), .val (.int ev), .val (.ref b141), .val (.int (((a * (-1640531527 : Int32)).toUInt32 >>> ((28 : Int32) &&& 31).toUInt32).toInt32)), .unset, .unset] [(.int (0 : Int32))])) _
      refine XS.ifYes X274.here hx rfl (pc0 := 172) (pc' := 207) rfl (hb hby at_172) rfl ((if0 _ _).trans (teq (by decide)).1) (by decide) (by decide) ?_
      show Steps p.tables e below (T274.setTop (mkF m 207 #[.val (.int p0), .val (.int p1), .val (.int p2), .val (.int p3), .val (.int p4), .val (.int p5), .val (.int (0 : Int32)), .val (.int sA), .val (.int sB), .val (.long cn), .second, .val (.int dr), .val (.int a), .val (.int bq), .val (.int ev), .val (.ref b141), .val (.int (((a * (-1640531527 : Int32)).toUInt32 >>> ((28 : Int32) &&& 31).toUInt32).toInt32)), .unset, .unset] [])) _
      refine XS.iload X274.here hx rfl (hb hby at_207) rfl ?_
      exact kont
    by_cases hc209 : (((a * (-1640531527 : Int32)).toUInt32 >>> ((28 : Int32) &&& 31).toUInt32).toInt32) < (0 : Int32)
    · exfalso
      first | exact hc216 (own_lt16 (own_home a).1 (own_home a).2) | exact (own_home a).1 hc209
    · have pre278 : ∀ t, Steps p.tables e below (T274.setTop (mkF m 216 #[.val (.int p0), .val (.int p1), .val (.int p2), .val (.int p3), .val (.int p4), .val (.int p5), .val (.int (0 : Int32)), .val (.int sA), .val (.int sB), .val (.long cn), .second, .val (.int dr), .val (.int a), .val (.int bq), .val (.int ev), .val (.ref b141), .val (.int (((a * (-1640531527 : Int32)).toUInt32 >>> ((28 : Int32) &&& 31).toUInt32).toInt32)), .unset, .unset] [(.int (16 : Int32)), (.int (((a * (-1640531527 : Int32)).toUInt32 >>> ((28 : Int32) &&& 31).toUInt32).toInt32))])) t → Steps p.tables e below (s₁.setTop (entryFrame m #[(.int p0), (.int p1), (.int p2), (.int p3), (.int p4), (.int p5)] maxLocals)) t := by
        intro t kont
        refine pre277 t ?_
        show Steps p.tables e below (T274.setTop (mkF m 209 #[.val (.int p0), .val (.int p1), .val (.int p2), .val (.int p3), .val (.int p4), .val (.int p5), .val (.int (0 : Int32)), .val (.int sA), .val (.int sB), .val (.long cn), .second, .val (.int dr), .val (.int a), .val (.int bq), .val (.int ev), .val (.ref b141), .val (.int (((a * (-1640531527 : Int32)).toUInt32 >>> ((28 : Int32) &&& 31).toUInt32).toInt32)), .unset, .unset] [(.int (((a * (-1640531527 : Int32)).toUInt32 >>> ((28 : Int32) &&& 31).toUInt32).toInt32))])) _
        refine XS.ifNo X274.here hx rfl (hb hby at_209) rfl ((if0 _ _).trans (flt hc209).1) ?_
        show Steps p.tables e below (T274.setTop (mkF m 212 #[.val (.int p0), .val (.int p1), .val (.int p2), .val (.int p3), .val (.int p4), .val (.int p5), .val (.int (0 : Int32)), .val (.int sA), .val (.int sB), .val (.long cn), .second, .val (.int dr), .val (.int a), .val (.int bq), .val (.int ev), .val (.ref b141), .val (.int (((a * (-1640531527 : Int32)).toUInt32 >>> ((28 : Int32) &&& 31).toUInt32).toInt32)), .unset, .unset] [])) _
        refine XS.iload X274.here hx rfl (hb hby at_212) rfl ?_
        show Steps p.tables e below (T274.setTop (mkF m 214 #[.val (.int p0), .val (.int p1), .val (.int p2), .val (.int p3), .val (.int p4), .val (.int p5), .val (.int (0 : Int32)), .val (.int sA), .val (.int sB), .val (.long cn), .second, .val (.int dr), .val (.int a), .val (.int bq), .val (.int ev), .val (.ref b141), .val (.int (((a * (-1640531527 : Int32)).toUInt32 >>> ((28 : Int32) &&& 31).toUInt32).toInt32)), .unset, .unset] [(.int (((a * (-1640531527 : Int32)).toUInt32 >>> ((28 : Int32) &&& 31).toUInt32).toInt32))])) _
        refine XS.bipush X274.here hx rfl (hb hby at_214) ?_
        exact kont
      by_cases hc216 : (((a * (-1640531527 : Int32)).toUInt32 >>> ((28 : Int32) &&& 31).toUInt32).toInt32) < (16 : Int32)
      · have pre279 : ∀ t, Steps p.tables e below (T274.setTop (mkF m 234 #[.val (.int p0), .val (.int p1), .val (.int p2), .val (.int p3), .val (.int p4), .val (.int p5), .val (.int (0 : Int32)), .val (.int sA), .val (.int sB), .val (.long cn), .second, .val (.int dr), .val (.int a), .val (.int bq), .val (.int ev), .val (.ref b141), .val (.int (((a * (-1640531527 : Int32)).toUInt32 >>> ((28 : Int32) &&& 31).toUInt32).toInt32)), .val (.int (1 : Int32)), .unset] [(.int ev), (.int a), (.int (((a * (-1640531527 : Int32)).toUInt32 >>> ((28 : Int32) &&& 31).toUInt32).toInt32)), (.ref b141)])) t → Steps p.tables e below (s₁.setTop (entryFrame m #[(.int p0), (.int p1), (.int p2), (.int p3), (.int p4), (.int p5)] maxLocals)) t := by
          intro t kont
          refine pre278 t ?_
          show Steps p.tables e below (T274.setTop (mkF m 216 #[.val (.int p0), .val (.int p1), .val (.int p2), .val (.int p3), .val (.int p4), .val (.int p5), .val (.int (0 : Int32)), .val (.int sA), .val (.int sB), .val (.long cn), .second, .val (.int dr), .val (.int a), .val (.int bq), .val (.int ev), .val (.ref b141), .val (.int (((a * (-1640531527 : Int32)).toUInt32 >>> ((28 : Int32) &&& 31).toUInt32).toInt32)), .unset, .unset] [(.int (16 : Int32)), (.int (((a * (-1640531527 : Int32)).toUInt32 >>> ((28 : Int32) &&& 31).toUInt32).toInt32))])) _
          refine XS.icmpNo X274.here hx rfl (hb hby at_216) rfl (tlt hc216).2.1 ?_
          show Steps p.tables e below (T274.setTop (mkF m 219 #[.val (.int p0), .val (.int p1), .val (.int p2), .val (.int p3), .val (.int p4), .val (.int p5), .val (.int (0 : Int32)), .val (.int sA), .val (.int sB), .val (.long cn), .second, .val (.int dr), .val (.int a), .val (.int bq), .val (.int ev), .val (.ref b141), .val (.int (((a * (-1640531527 : Int32)).toUInt32 >>> ((28 : Int32) &&& 31).toUInt32).toInt32)), .unset, .unset] [])) _
          refine XS.iconst X274.here hx rfl (hb hby at_219) ?_
          show Steps p.tables e below (T274.setTop (mkF m 220 #[.val (.int p0), .val (.int p1), .val (.int p2), .val (.int p3), .val (.int p4), .val (.int p5), .val (.int (0 : Int32)), .val (.int sA), .val (.int sB), .val (.long cn), .second, .val (.int dr), .val (.int a), .val (.int bq), .val (.int ev), .val (.ref b141), .val (.int (((a * (-1640531527 : Int32)).toUInt32 >>> ((28 : Int32) &&& 31).toUInt32).toInt32)), .unset, .unset] [(.int (1 : Int32))])) _
          refine XS.goto X274.here hx rfl (pc0 := 220) (pc' := 224) rfl (hb hby at_220) (by decide) (by decide) ?_
          show Steps p.tables e below (T274.setTop (mkF m 224 #[.val (.int p0), .val (.int p1), .val (.int p2), .val (.int p3), .val (.int p4), .val (.int p5), .val (.int (0 : Int32)), .val (.int sA), .val (.int sB), .val (.long cn), .second, .val (.int dr), .val (.int a), .val (.int bq), .val (.int ev), .val (.ref b141), .val (.int (((a * (-1640531527 : Int32)).toUInt32 >>> ((28 : Int32) &&& 31).toUInt32).toInt32)), .unset, .unset] [(.int (1 : Int32))])) _
          refine XS.istore X274.here hx rfl (hb hby at_224) rfl (l' := #[.val (.int p0), .val (.int p1), .val (.int p2), .val (.int p3), .val (.int p4), .val (.int p5), .val (.int (0 : Int32)), .val (.int sA), .val (.int sB), .val (.long cn), .second, .val (.int dr), .val (.int a), .val (.int bq), .val (.int ev), .val (.ref b141), .val (.int (((a * (-1640531527 : Int32)).toUInt32 >>> ((28 : Int32) &&& 31).toUInt32).toInt32)), .val (.int (1 : Int32)), .unset]) rfl ?_
          show Steps p.tables e below (T274.setTop (mkF m 226 #[.val (.int p0), .val (.int p1), .val (.int p2), .val (.int p3), .val (.int p4), .val (.int p5), .val (.int (0 : Int32)), .val (.int sA), .val (.int sB), .val (.long cn), .second, .val (.int dr), .val (.int a), .val (.int bq), .val (.int ev), .val (.ref b141), .val (.int (((a * (-1640531527 : Int32)).toUInt32 >>> ((28 : Int32) &&& 31).toUInt32).toInt32)), .val (.int (1 : Int32)), .unset] [])) _
          refine XS.aload X274.here hx rfl (hb hby at_226) rfl rfl ?_
          show Steps p.tables e below (T274.setTop (mkF m 228 #[.val (.int p0), .val (.int p1), .val (.int p2), .val (.int p3), .val (.int p4), .val (.int p5), .val (.int (0 : Int32)), .val (.int sA), .val (.int sB), .val (.long cn), .second, .val (.int dr), .val (.int a), .val (.int bq), .val (.int ev), .val (.ref b141), .val (.int (((a * (-1640531527 : Int32)).toUInt32 >>> ((28 : Int32) &&& 31).toUInt32).toInt32)), .val (.int (1 : Int32)), .unset] [(.ref b141)])) _
          refine XS.iload X274.here hx rfl (hb hby at_228) rfl ?_
          show Steps p.tables e below (T274.setTop (mkF m 230 #[.val (.int p0), .val (.int p1), .val (.int p2), .val (.int p3), .val (.int p4), .val (.int p5), .val (.int (0 : Int32)), .val (.int sA), .val (.int sB), .val (.long cn), .second, .val (.int dr), .val (.int a), .val (.int bq), .val (.int ev), .val (.ref b141), .val (.int (((a * (-1640531527 : Int32)).toUInt32 >>> ((28 : Int32) &&& 31).toUInt32).toInt32)), .val (.int (1 : Int32)), .unset] [(.int (((a * (-1640531527 : Int32)).toUInt32 >>> ((28 : Int32) &&& 31).toUInt32).toInt32)), (.ref b141)])) _
          refine XS.iload X274.here hx rfl (hb hby at_230) rfl ?_
          show Steps p.tables e below (T274.setTop (mkF m 232 #[.val (.int p0), .val (.int p1), .val (.int p2), .val (.int p3), .val (.int p4), .val (.int p5), .val (.int (0 : Int32)), .val (.int sA), .val (.int sB), .val (.long cn), .second, .val (.int dr), .val (.int a), .val (.int bq), .val (.int ev), .val (.ref b141), .val (.int (((a * (-1640531527 : Int32)).toUInt32 >>> ((28 : Int32) &&& 31).toUInt32).toInt32)), .val (.int (1 : Int32)), .unset] [(.int a), (.int (((a * (-1640531527 : Int32)).toUInt32 >>> ((28 : Int32) &&& 31).toUInt32).toInt32)), (.ref b141)])) _
          refine XS.iload X274.here hx rfl (hb hby at_232) rfl ?_
          exact kont
        obtain ⟨cq280, kq280, q280a, q280b, q280c⟩ := isOf hZ e274 (H271).1
        obtain ⟨_, _, ⟨T280, L280, k280, n280⟩, -, X280, ⟨Lc280, hQ280, l280, y280, z280⟩, st280⟩ := X274.virtualBack hx (y := (⟨"com/example/impronta/impronta/engine/Alignments", "put", "(III)V"⟩ : MethodName)) (z := (⟨"com/example/impronta/impronta/engine/Alignments", "put", "(III)V"⟩ : MethodName)) hown (mvT hZ (hw _ (List.mem_of_getElem? (i := 53) rfl))) (mvT hZ (hw _ (List.mem_of_getElem? (i := 54) rfl))) (notFace_of_selects (args := #[]) (mvT hZ (hw _ (List.mem_of_getElem? (i := 56) rfl)))) (mvT hZ (hw _ (List.mem_of_getElem? (i := 56) rfl))) (mvT hZ (hw _ (List.mem_of_getElem? (i := 55) rfl))) (by decide) (backOf (W := 0) (rm8 l Z a0 hw [] b141 (((a * (-1640531527 : Int32)).toUInt32 >>> ((28 : Int32) &&& 31).toUInt32).toInt32) a ev be271 ba bn bf dr (0 : Int32) (-sA) (0 : Int32) ne271 (fun _ => (0 : Int32)) (fun _ => (-2147483648 : Int32)) (fun _ => (0 : Int32)) (fun _ => (0 : Int32)) (((a * (-1640531527 : Int32)).toUInt32 >>> ((28 : Int32) &&& 31).toUInt32).toInt32).toNatClampNeg 0  T271.heap n0 Z271 H271 (own_home a).1 rfl (fun _ => (own_home a).2) (fun q => absurd rfl q) (by decide) (by decide) (by decide)) hZ (hw _ (List.mem_of_getElem? (i := 57) rfl)) (hw _ (List.mem_of_getElem? (i := 10) rfl)) (by decide) (by decide)) q280a q280c (g := (mkF m 234 #[.val (.int p0), .val (.int p1), .val (.int p2), .val (.int p3), .val (.int p4), .val (.int p5), .val (.int (0 : Int32)), .val (.int sA), .val (.int sB), .val (.long cn), .second, .val (.int dr), .val (.int a), .val (.int bq), .val (.int ev), .val (.ref b141), .val (.int (((a * (-1640531527 : Int32)).toUInt32 >>> ((28 : Int32) &&& 31).toUInt32).toInt32)), .val (.int (1 : Int32)), .unset] [(.int ev), (.int a), (.int (((a * (-1640531527 : Int32)).toUInt32 >>> ((28 : Int32) &&& 31).toUInt32).toInt32)), (.ref b141)])) rfl (by rw [hml]; rfl) (Steps.refl _) (argsL := [(.int (((a * (-1640531527 : Int32)).toUInt32 >>> ((28 : Int32) &&& 31).toUInt32).toInt32)), (.int a), (.int ev)]) (rest := []) (lenOf pd_6 rfl) rfl (by show 2 * 0 + _ ≤ _; exact Nat.le_of_eq rfl) (hb hby at_234) (fun _ _ => ⟨rfl, e274, (by decide : 6 + 0 ≤ _), (by decide : 560 + 0 ≤ _)⟩)
        dsimp only [Pt.U, Pt.locs, Pt.cells, Pt.slots] at X280 l280 y280 z280 st280 hQ280
        subst l280 y280 z280
        obtain ⟨rfl, N280q, Z280, H280⟩ := hQ280
        have N280 := Fr.app N274 N280q
        have pre281 : ∀ t, Steps p.tables e below (T280.setTop (mkF m 237 #[.val (.int p0), .val (.int p1), .val (.int p2), .val (.int p3), .val (.int p4), .val (.int p5), .val (.int (0 : Int32)), .val (.int sA), .val (.int sB), .val (.long cn), .second, .val (.int dr), .val (.int a), .val (.int bq), .val (.int ev), .val (.ref b141), .val (.int (((a * (-1640531527 : Int32)).toUInt32 >>> ((28 : Int32) &&& 31).toUInt32).toInt32)), .val (.int (1 : Int32)), .unset] [])) t → Steps p.tables e below (s₁.setTop (entryFrame m #[(.int p0), (.int p1), (.int p2), (.int p3), (.int p4), (.int p5)] maxLocals)) t := fun t kont => pre279 t (st280.trans kont)
        have Hp : own_al Z T280.heap n0 b141 be271 ba bn bf dr (0 : Int32) (-sA) ((0 : Int32) + (1 : Int32)) ne271 (fun _ => (0 : Int32)) (own_set (fun _ => (-2147483648 : Int32)) (((a * (-1640531527 : Int32)).toUInt32 >>> ((28 : Int32) &&& 31).toUInt32).toInt32).toNatClampNeg a) (own_set (fun _ => (0 : Int32)) (((a * (-1640531527 : Int32)).toUInt32 >>> ((28 : Int32) &&& 31).toUInt32).toInt32).toNatClampNeg ev) (own_set (fun _ => (0 : Int32)) 0 (((a * (-1640531527 : Int32)).toUInt32 >>> ((28 : Int32) &&& 31).toUInt32).toInt32)) := H280
        have pre282 : ∀ t, Steps p.tables e below (T280.setTop (mkF m 246 #[.val (.int p0), .val (.int p1), .val (.int p2), .val (.int p3), .val (.int p4), .val (.int p5), .val (.int (0 : Int32)), .val (.int sA), .val (.int sB), .val (.long cn), .second, .val (.int dr), .val (.int a), .val (.int bq), .val (.int ev), .val (.ref b141), .val (.int (((a * (-1640531527 : Int32)).toUInt32 >>> ((28 : Int32) &&& 31).toUInt32).toInt32)), .val (.int (1 : Int32)), .unset] [(.int a), (.ref b141)])) t → Steps p.tables e below (s₁.setTop (entryFrame m #[(.int p0), (.int p1), (.int p2), (.int p3), (.int p4), (.int p5)] maxLocals)) t := by
          intro t kont
          refine pre281 t ?_
          show Steps p.tables e below (T280.setTop (mkF m 237 #[.val (.int p0), .val (.int p1), .val (.int p2), .val (.int p3), .val (.int p4), .val (.int p5), .val (.int (0 : Int32)), .val (.int sA), .val (.int sB), .val (.long cn), .second, .val (.int dr), .val (.int a), .val (.int bq), .val (.int ev), .val (.ref b141), .val (.int (((a * (-1640531527 : Int32)).toUInt32 >>> ((28 : Int32) &&& 31).toUInt32).toInt32)), .val (.int (1 : Int32)), .unset] [])) _
          refine XS.iload X280.here hx rfl (hb hby at_237) rfl ?_
          show Steps p.tables e below (T280.setTop (mkF m 239 #[.val (.int p0), .val (.int p1), .val (.int p2), .val (.int p3), .val (.int p4), .val (.int p5), .val (.int (0 : Int32)), .val (.int sA), .val (.int sB), .val (.long cn), .second, .val (.int dr), .val (.int a), .val (.int bq), .val (.int ev), .val (.ref b141), .val (.int (((a * (-1640531527 : Int32)).toUInt32 >>> ((28 : Int32) &&& 31).toUInt32).toInt32)), .val (.int (1 : Int32)), .unset] [(.int (1 : Int32))])) _
          refine XS.ifNo X280.here hx rfl (hb hby at_239) rfl ((if0 _ _).trans (feq (by decide)).1) ?_
          show Steps p.tables e below (T280.setTop (mkF m 242 #[.val (.int p0), .val (.int p1), .val (.int p2), .val (.int p3), .val (.int p4), .val (.int p5), .val (.int (0 : Int32)), .val (.int sA), .val (.int sB), .val (.long cn), .second, .val (.int dr), .val (.int a), .val (.int bq), .val (.int ev), .val (.ref b141), .val (.int (((a * (-1640531527 : Int32)).toUInt32 >>> ((28 : Int32) &&& 31).toUInt32).toInt32)), .val (.int (1 : Int32)), .unset] [])) _
          refine XS.aload X280.here hx rfl (hb hby at_242) rfl rfl ?_
          show Steps p.tables e below (T280.setTop (mkF m 244 #[.val (.int p0), .val (.int p1), .val (.int p2), .val (.int p3), .val (.int p4), .val (.int p5), .val (.int (0 : Int32)), .val (.int sA), .val (.int sB), .val (.long cn), .second, .val (.int dr), .val (.int a), .val (.int bq), .val (.int ev), .val (.ref b141), .val (.int (((a * (-1640531527 : Int32)).toUInt32 >>> ((28 : Int32) &&& 31).toUInt32).toInt32)), .val (.int (1 : Int32)), .unset] [(.ref b141)])) _
          refine XS.iload X280.here hx rfl (hb hby at_244) rfl ?_
          exact kont
        obtain ⟨cq283, kq283, q283a, q283b, q283c⟩ := isOf hZ rfl Hp.1
        obtain ⟨_, _, ⟨T283, L283, k283, n283⟩, -, X283, ⟨Lc283, hQ283, l283, y283, z283⟩, st283⟩ := X280.virtualBack hx (y := (⟨"com/example/impronta/impronta/engine/Alignments", "slot", "(I)I"⟩ : MethodName)) (z := (⟨"com/example/impronta/impronta/engine/Alignments", "slot", "(I)I"⟩ : MethodName)) hown (mvT hZ (hw _ (List.mem_of_getElem? (i := 47) rfl))) (mvT hZ (hw _ (List.mem_of_getElem? (i := 48) rfl))) (notFace_of_selects (args := #[]) (mvT hZ (hw _ (List.mem_of_getElem? (i := 50) rfl)))) (mvT hZ (hw _ (List.mem_of_getElem? (i := 50) rfl))) (mvT hZ (hw _ (List.mem_of_getElem? (i := 49) rfl))) (by decide) (backOf (W := 0) (rm7 l Z a0 hw [] b141 a be271 ba bn bf dr (0 : Int32) (-sA) ((0 : Int32) + (1 : Int32)) ne271 (fun _ => (0 : Int32)) (own_set (fun _ => (-2147483648 : Int32)) (((a * (-1640531527 : Int32)).toUInt32 >>> ((28 : Int32) &&& 31).toUInt32).toInt32).toNatClampNeg a) (own_set (fun _ => (0 : Int32)) (((a * (-1640531527 : Int32)).toUInt32 >>> ((28 : Int32) &&& 31).toUInt32).toInt32).toNatClampNeg ev) (own_set (fun _ => (0 : Int32)) 0 (((a * (-1640531527 : Int32)).toUInt32 >>> ((28 : Int32) &&& 31).toUInt32).toInt32))  T280.heap n0 Z280 Hp (fun _ => (own_free _ _ _).imp id Or.inl)) hZ (hw _ (List.mem_of_getElem? (i := 51) rfl)) (hw _ (List.mem_of_getElem? (i := 10) rfl)) (by decide) (by decide)) q283a q283c (g := (mkF m 246 #[.val (.int p0), .val (.int p1), .val (.int p2), .val (.int p3), .val (.int p4), .val (.int p5), .val (.int (0 : Int32)), .val (.int sA), .val (.int sB), .val (.long cn), .second, .val (.int dr), .val (.int a), .val (.int bq), .val (.int ev), .val (.ref b141), .val (.int (((a * (-1640531527 : Int32)).toUInt32 >>> ((28 : Int32) &&& 31).toUInt32).toInt32)), .val (.int (1 : Int32)), .unset] [(.int a), (.ref b141)])) rfl (by rw [hml]; rfl) (Steps.refl _) (argsL := [(.int a)]) (rest := []) (lenOf pd_2 rfl) rfl (by show 2 * 0 + _ ≤ _; exact Nat.le_of_eq rfl) (hb hby at_246) (fun _ _ => ⟨rfl, rfl, (by decide : 6 + 0 ≤ _), (by decide : 560 + 0 ≤ _)⟩)
        dsimp only [Pt.U, Pt.locs, Pt.cells, Pt.slots] at X283 l283 y283 z283 st283 hQ283
        subst l283 y283 z283
        obtain ⟨rfl, N283q, e283⟩ := hQ283
        have N283 := Fr.app N280 N283q
        have pre284 : ∀ t, Steps p.tables e below (T283.setTop (mkF m 249 #[.val (.int p0), .val (.int p1), .val (.int p2), .val (.int p3), .val (.int p4), .val (.int p5), .val (.int (0 : Int32)), .val (.int sA), .val (.int sB), .val (.long cn), .second, .val (.int dr), .val (.int a), .val (.int bq), .val (.int ev), .val (.ref b141), .val (.int (((a * (-1640531527 : Int32)).toUInt32 >>> ((28 : Int32) &&& 31).toUInt32).toInt32)), .val (.int (1 : Int32)), .unset] [(.int (own_slot (0 : Int32) (-sA) (own_set (fun _ => (-2147483648 : Int32)) (((a * (-1640531527 : Int32)).toUInt32 >>> ((28 : Int32) &&& 31).toUInt32).toInt32).toNatClampNeg a) a))])) t → Steps p.tables e below (s₁.setTop (entryFrame m #[(.int p0), (.int p1), (.int p2), (.int p3), (.int p4), (.int p5)] maxLocals)) t := fun t kont => pre282 t (st283.trans kont)
        have rq285 : (own_slot (0 : Int32) (-sA) (own_set (fun _ => (-2147483648 : Int32)) (((a * (-1640531527 : Int32)).toUInt32 >>> ((28 : Int32) &&& 31).toUInt32).toInt32).toNatClampNeg a) a) = (((a * (-1640531527 : Int32)).toUInt32 >>> ((28 : Int32) &&& 31).toUInt32).toInt32) := own_sB2 _ _ _
        rw [rq285] at pre284
        have pre286 : ∀ t, Steps p.tables e below (T283.setTop (mkF m 251 #[.val (.int p0), .val (.int p1), .val (.int p2), .val (.int p3), .val (.int p4), .val (.int p5), .val (.int (0 : Int32)), .val (.int sA), .val (.int sB), .val (.long cn), .second, .val (.int dr), .val (.int a), .val (.int bq), .val (.int ev), .val (.ref b141), .val (.int (((a * (-1640531527 : Int32)).toUInt32 >>> ((28 : Int32) &&& 31).toUInt32).toInt32)), .val (.int (1 : Int32)), .unset] [(.int (((a * (-1640531527 : Int32)).toUInt32 >>> ((28 : Int32) &&& 31).toUInt32).toInt32)), (.int (((a * (-1640531527 : Int32)).toUInt32 >>> ((28 : Int32) &&& 31).toUInt32).toInt32))])) t → Steps p.tables e below (s₁.setTop (entryFrame m #[(.int p0), (.int p1), (.int p2), (.int p3), (.int p4), (.int p5)] maxLocals)) t := by
          intro t kont
          refine pre284 t ?_
          show Steps p.tables e below (T283.setTop (mkF m 249 #[.val (.int p0), .val (.int p1), .val (.int p2), .val (.int p3), .val (.int p4), .val (.int p5), .val (.int (0 : Int32)), .val (.int sA), .val (.int sB), .val (.long cn), .second, .val (.int dr), .val (.int a), .val (.int bq), .val (.int ev), .val (.ref b141), .val (.int (((a * (-1640531527 : Int32)).toUInt32 >>> ((28 : Int32) &&& 31).toUInt32).toInt32)), .val (.int (1 : Int32)), .unset] [(.int (((a * (-1640531527 : Int32)).toUInt32 >>> ((28 : Int32) &&& 31).toUInt32).toInt32))])) _
          refine XS.iload X283.here hx rfl (hb hby at_249) rfl ?_
          exact kont
        by_cases hc251 : (((a * (-1640531527 : Int32)).toUInt32 >>> ((28 : Int32) &&& 31).toUInt32).toInt32) = (((a * (-1640531527 : Int32)).toUInt32 >>> ((28 : Int32) &&& 31).toUInt32).toInt32)
        · have pre287 : ∀ t, Steps p.tables e below (T283.setTop (mkF m 258 #[.val (.int p0), .val (.int p1), .val (.int p2), .val (.int p3), .val (.int p4), .val (.int p5), .val (.int (0 : Int32)), .val (.int sA), .val (.int sB), .val (.long cn), .second, .val (.int dr), .val (.int a), .val (.int bq), .val (.int ev), .val (.ref b141), .val (.int (((a * (-1640531527 : Int32)).toUInt32 >>> ((28 : Int32) &&& 31).toUInt32).toInt32)), .val (.int (1 : Int32)), .unset] [(.int (((a * (-1640531527 : Int32)).toUInt32 >>> ((28 : Int32) &&& 31).toUInt32).toInt32)), (.ref b141)])) t → Steps p.tables e below (s₁.setTop (entryFrame m #[(.int p0), (.int p1), (.int p2), (.int p3), (.int p4), (.int p5)] maxLocals)) t := by
            intro t kont
            refine pre286 t ?_
            show Steps p.tables e below (T283.setTop (mkF m 251 #[.val (.int p0), .val (.int p1), .val (.int p2), .val (.int p3), .val (.int p4), .val (.int p5), .val (.int (0 : Int32)), .val (.int sA), .val (.int sB), .val (.long cn), .second, .val (.int dr), .val (.int a), .val (.int bq), .val (.int ev), .val (.ref b141), .val (.int (((a * (-1640531527 : Int32)).toUInt32 >>> ((28 : Int32) &&& 31).toUInt32).toInt32)), .val (.int (1 : Int32)), .unset] [(.int (((a * (-1640531527 : Int32)).toUInt32 >>> ((28 : Int32) &&& 31).toUInt32).toInt32)), (.int (((a * (-1640531527 : Int32)).toUInt32 >>> ((28 : Int32) &&& 31).toUInt32).toInt32))])) _
            refine XS.icmpNo X283.here hx rfl (hb hby at_251) rfl (teq hc251).2 ?_
            show Steps p.tables e below (T283.setTop (mkF m 254 #[.val (.int p0), .val (.int p1), .val (.int p2), .val (.int p3), .val (.int p4), .val (.int p5), .val (.int (0 : Int32)), .val (.int sA), .val (.int sB), .val (.long cn), .second, .val (.int dr), .val (.int a), .val (.int bq), .val (.int ev), .val (.ref b141), .val (.int (((a * (-1640531527 : Int32)).toUInt32 >>> ((28 : Int32) &&& 31).toUInt32).toInt32)), .val (.int (1 : Int32)), .unset] [])) _
            refine XS.aload X283.here hx rfl (hb hby at_254) rfl rfl ?_
            show Steps p.tables e below (T283.setTop (mkF m 256 #[.val (.int p0), .val (.int p1), .val (.int p2), .val (.int p3), .val (.int p4), .val (.int p5), .val (.int (0 : Int32)), .val (.int sA), .val (.int sB), .val (.long cn), .second, .val (.int dr), .val (.int a), .val (.int bq), .val (.int ev), .val (.ref b141), .val (.int (((a * (-1640531527 : Int32)).toUInt32 >>> ((28 : Int32) &&& 31).toUInt32).toInt32)), .val (.int (1 : Int32)), .unset] [(.ref b141)])) _
            refine XS.iload X283.here hx rfl (hb hby at_256) rfl ?_
            exact kont
          obtain ⟨cq288, kq288, q288a, q288b, q288c⟩ := isOf hZ e283 Hp.1
          obtain ⟨_, _, ⟨T288, L288, k288, n288⟩, -, X288, ⟨Lc288, hQ288, l288, y288, z288⟩, st288⟩ := X283.virtualBack hx (y := (⟨"com/example/impronta/impronta/engine/Alignments", "end", "(I)I"⟩ : MethodName)) (z := (⟨"com/example/impronta/impronta/engine/Alignments", "end", "(I)I"⟩ : MethodName)) hown (mvT hZ (hw _ (List.mem_of_getElem? (i := 65) rfl))) (mvT hZ (hw _ (List.mem_of_getElem? (i := 59) rfl))) (notFace_of_selects (args := #[]) (mvT hZ (hw _ (List.mem_of_getElem? (i := 61) rfl)))) (mvT hZ (hw _ (List.mem_of_getElem? (i := 61) rfl))) (mvT hZ (hw _ (List.mem_of_getElem? (i := 60) rfl))) (by decide) (backOf (W := 0) (rm9 l Z a0 hw [] b141 (((a * (-1640531527 : Int32)).toUInt32 >>> ((28 : Int32) &&& 31).toUInt32).toInt32) be271 ba bn bf dr (0 : Int32) (-sA) ((0 : Int32) + (1 : Int32)) ne271 (fun _ => (0 : Int32)) (own_set (fun _ => (-2147483648 : Int32)) (((a * (-1640531527 : Int32)).toUInt32 >>> ((28 : Int32) &&& 31).toUInt32).toInt32).toNatClampNeg a) (own_set (fun _ => (0 : Int32)) (((a * (-1640531527 : Int32)).toUInt32 >>> ((28 : Int32) &&& 31).toUInt32).toInt32).toNatClampNeg ev) (own_set (fun _ => (0 : Int32)) 0 (((a * (-1640531527 : Int32)).toUInt32 >>> ((28 : Int32) &&& 31).toUInt32).toInt32)) (((a * (-1640531527 : Int32)).toUInt32 >>> ((28 : Int32) &&& 31).toUInt32).toInt32).toNatClampNeg  T280.heap n0 Z280 Hp (own_home a).1 rfl (fun _ => (own_home a).2) (fun q => absurd rfl q)) hZ (hw _ (List.mem_of_getElem? (i := 62) rfl)) (hw _ (List.mem_of_getElem? (i := 10) rfl)) (by decide) (by decide)) q288a q288c (g := (mkF m 258 #[.val (.int p0), .val (.int p1), .val (.int p2), .val (.int p3), .val (.int p4), .val (.int p5), .val (.int (0 : Int32)), .val (.int sA), .val (.int sB), .val (.long cn), .second, .val (.int dr), .val (.int a), .val (.int bq), .val (.int ev), .val (.ref b141), .val (.int (((a * (-1640531527 : Int32)).toUInt32 >>> ((28 : Int32) &&& 31).toUInt32).toInt32)), .val (.int (1 : Int32)), .unset] [(.int (((a * (-1640531527 : Int32)).toUInt32 >>> ((28 : Int32) &&& 31).toUInt32).toInt32)), (.ref b141)])) rfl (by rw [hml]; rfl) (Steps.refl _) (argsL := [(.int (((a * (-1640531527 : Int32)).toUInt32 >>> ((28 : Int32) &&& 31).toUInt32).toInt32))]) (rest := []) (lenOf pd_2 rfl) rfl (by show 2 * 0 + _ ≤ _; exact Nat.le_of_eq rfl) (hb hby at_258) (fun _ _ => ⟨rfl, e283, (by decide : 6 + 0 ≤ _), (by decide : 560 + 0 ≤ _)⟩)
          dsimp only [Pt.U, Pt.locs, Pt.cells, Pt.slots] at X288 l288 y288 z288 st288 hQ288
          subst l288 y288 z288
          obtain ⟨rfl, N288q, e288⟩ := hQ288
          have N288 := Fr.app N283 N288q
          have pre289 : ∀ t, Steps p.tables e below (T288.setTop (mkF m 261 #[.val (.int p0), .val (.int p1), .val (.int p2), .val (.int p3), .val (.int p4), .val (.int p5), .val (.int (0 : Int32)), .val (.int sA), .val (.int sB), .val (.long cn), .second, .val (.int dr), .val (.int a), .val (.int bq), .val (.int ev), .val (.ref b141), .val (.int (((a * (-1640531527 : Int32)).toUInt32 >>> ((28 : Int32) &&& 31).toUInt32).toInt32)), .val (.int (1 : Int32)), .unset] [(.int (own_end (0 : Int32) (fun _ => (0 : Int32)) (own_set (fun _ => (0 : Int32)) (((a * (-1640531527 : Int32)).toUInt32 >>> ((28 : Int32) &&& 31).toUInt32).toInt32).toNatClampNeg ev) (((a * (-1640531527 : Int32)).toUInt32 >>> ((28 : Int32) &&& 31).toUInt32).toInt32).toNatClampNeg))])) t → Steps p.tables e below (s₁.setTop (entryFrame m #[(.int p0), (.int p1), (.int p2), (.int p3), (.int p4), (.int p5)] maxLocals)) t := fun t kont => pre287 t (st288.trans kont)
          have rq290 : (own_end (0 : Int32) (fun _ => (0 : Int32)) (own_set (fun _ => (0 : Int32)) (((a * (-1640531527 : Int32)).toUInt32 >>> ((28 : Int32) &&& 31).toUInt32).toInt32).toNatClampNeg ev) (((a * (-1640531527 : Int32)).toUInt32 >>> ((28 : Int32) &&& 31).toUInt32).toInt32).toNatClampNeg) = ev := (own_end0 _ _ _).trans (own_hit _ _ _)
          rw [rq290] at pre289
          have pre291 : ∀ t, Steps p.tables e below (T288.setTop (mkF m 263 #[.val (.int p0), .val (.int p1), .val (.int p2), .val (.int p3), .val (.int p4), .val (.int p5), .val (.int (0 : Int32)), .val (.int sA), .val (.int sB), .val (.long cn), .second, .val (.int dr), .val (.int a), .val (.int bq), .val (.int ev), .val (.ref b141), .val (.int (((a * (-1640531527 : Int32)).toUInt32 >>> ((28 : Int32) &&& 31).toUInt32).toInt32)), .val (.int (1 : Int32)), .unset] [(.int ev), (.int ev)])) t → Steps p.tables e below (s₁.setTop (entryFrame m #[(.int p0), (.int p1), (.int p2), (.int p3), (.int p4), (.int p5)] maxLocals)) t := by
            intro t kont
            refine pre289 t ?_
            show Steps p.tables e below (T288.setTop (mkF m 261 #[.val (.int p0), .val (.int p1), .val (.int p2), .val (.int p3), .val (.int p4), .val (.int p5), .val (.int (0 : Int32)), .val (.int sA), .val (.int sB), .val (.long cn), .second, .val (.int dr), .val (.int a), .val (.int bq), .val (.int ev), .val (.ref b141), .val (.int (((a * (-1640531527 : Int32)).toUInt32 >>> ((28 : Int32) &&& 31).toUInt32).toInt32)), .val (.int (1 : Int32)), .unset] [(.int ev)])) _
            refine XS.iload X288.here hx rfl (hb hby at_261) rfl ?_
            exact kont
          by_cases hc263 : ev = ev
          · have pre292 : ∀ t, Steps p.tables e below (T288.setTop (mkF m 277 #[.val (.int p0), .val (.int p1), .val (.int p2), .val (.int p3), .val (.int p4), .val (.int p5), .val (.int (0 : Int32)), .val (.int sA), .val (.int sB), .val (.long cn), .second, .val (.int dr), .val (.int a), .val (.int bq), .val (.int ev), .val (.ref b141), .val (.int (((a * (-1640531527 : Int32)).toUInt32 >>> ((28 : Int32) &&& 31).toUInt32).toInt32)), .val (.int (1 : Int32)), .unset] [(.int bq), (.ref b141)])) t → Steps p.tables e below (s₁.setTop (entryFrame m #[(.int p0), (.int p1), (.int p2), (.int p3), (.int p4), (.int p5)] maxLocals)) t := by
              intro t kont
              refine pre291 t ?_
              show Steps p.tables e below (T288.setTop (mkF m 263 #[.val (.int p0), .val (.int p1), .val (.int p2), .val (.int p3), .val (.int p4), .val (.int p5), .val (.int (0 : Int32)), .val (.int sA), .val (.int sB), .val (.long cn), .second, .val (.int dr), .val (.int a), .val (.int bq), .val (.int ev), .val (.ref b141), .val (.int (((a * (-1640531527 : Int32)).toUInt32 >>> ((28 : Int32) &&& 31).toUInt32).toInt32)), .val (.int (1 : Int32)), .unset] [(.int ev), (.int ev)])) _
              refine XS.icmpNo X288.here hx rfl (hb hby at_263) rfl (teq hc263).2 ?_
              show Steps p.tables e below (T288.setTop (mkF m 266 #[.val (.int p0), .val (.int p1), .val (.int p2), .val (.int p3), .val (.int p4), .val (.int p5), .val (.int (0 : Int32)), .val (.int sA), .val (.int sB), .val (.long cn), .second, .val (.int dr), .val (.int a), .val (.int bq), .val (.int ev), .val (.ref b141), .val (.int (((a * (-1640531527 : Int32)).toUInt32 >>> ((28 : Int32) &&& 31).toUInt32).toInt32)), .val (.int (1 : Int32)), .unset] [])) _
              refine XS.iconst X288.here hx rfl (hb hby at_266) ?_
              show Steps p.tables e below (T288.setTop (mkF m 267 #[.val (.int p0), .val (.int p1), .val (.int p2), .val (.int p3), .val (.int p4), .val (.int p5), .val (.int (0 : Int32)), .val (.int sA), .val (.int sB), .val (.long cn), .second, .val (.int dr), .val (.int a), .val (.int bq), .val (.int ev), .val (.ref b141), .val (.int (((a * (-1640531527 : Int32)).toUInt32 >>> ((28 : Int32) &&& 31).toUInt32).toInt32)), .val (.int (1 : Int32)), .unset] [(.int (1 : Int32))])) _
              refine XS.goto X288.here hx rfl (pc0 := 267) (pc' := 271) rfl (hb hby at_267) (by decide) (by decide) ?_
              show Steps p.tables e below (T288.setTop (mkF m 271 #[.val (.int p0), .val (.int p1), .val (.int p2), .val (.int p3), .val (.int p4), .val (.int p5), .val (.int (0 : Int32)), .val (.int sA), .val (.int sB), .val (.long cn), .second, .val (.int dr), .val (.int a), .val (.int bq), .val (.int ev), .val (.ref b141), .val (.int (((a * (-1640531527 : Int32)).toUInt32 >>> ((28 : Int32) &&& 31).toUInt32).toInt32)), .val (.int (1 : Int32)), .unset] [(.int (1 : Int32))])) _
              refine XS.istore X288.here hx rfl (hb hby at_271) rfl (l' := #[.val (.int p0), .val (.int p1), .val (.int p2), .val (.int p3), .val (.int p4), .val (.int p5), .val (.int (0 : Int32)), .val (.int sA), .val (.int sB), .val (.long cn), .second, .val (.int dr), .val (.int a), .val (.int bq), .val (.int ev), .val (.ref b141), .val (.int (((a * (-1640531527 : Int32)).toUInt32 >>> ((28 : Int32) &&& 31).toUInt32).toInt32)), .val (.int (1 : Int32)), .unset]) rfl ?_
              show Steps p.tables e below (T288.setTop (mkF m 273 #[.val (.int p0), .val (.int p1), .val (.int p2), .val (.int p3), .val (.int p4), .val (.int p5), .val (.int (0 : Int32)), .val (.int sA), .val (.int sB), .val (.long cn), .second, .val (.int dr), .val (.int a), .val (.int bq), .val (.int ev), .val (.ref b141), .val (.int (((a * (-1640531527 : Int32)).toUInt32 >>> ((28 : Int32) &&& 31).toUInt32).toInt32)), .val (.int (1 : Int32)), .unset] [])) _
              refine XS.aload X288.here hx rfl (hb hby at_273) rfl rfl ?_
              show Steps p.tables e below (T288.setTop (mkF m 275 #[.val (.int p0), .val (.int p1), .val (.int p2), .val (.int p3), .val (.int p4), .val (.int p5), .val (.int (0 : Int32)), .val (.int sA), .val (.int sB), .val (.long cn), .second, .val (.int dr), .val (.int a), .val (.int bq), .val (.int ev), .val (.ref b141), .val (.int (((a * (-1640531527 : Int32)).toUInt32 >>> ((28 : Int32) &&& 31).toUInt32).toInt32)), .val (.int (1 : Int32)), .unset] [(.ref b141)])) _
              refine XS.iload X288.here hx rfl (hb hby at_275) rfl ?_
              exact kont
            obtain ⟨cq293, kq293, q293a, q293b, q293c⟩ := isOf hZ e288 Hp.1
            obtain ⟨_, _, ⟨T293, L293, k293, n293⟩, -, X293, ⟨Lc293, hQ293, l293, y293, z293⟩, st293⟩ := X288.virtualBack hx (y := (⟨"com/example/impronta/impronta/engine/Alignments", "slot", "(I)I"⟩ : MethodName)) (z := (⟨"com/example/impronta/impronta/engine/Alignments", "slot", "(I)I"⟩ : MethodName)) hown (mvT hZ (hw _ (List.mem_of_getElem? (i := 47) rfl))) (mvT hZ (hw _ (List.mem_of_getElem? (i := 48) rfl))) (notFace_of_selects (args := #[]) (mvT hZ (hw _ (List.mem_of_getElem? (i := 50) rfl)))) (mvT hZ (hw _ (List.mem_of_getElem? (i := 50) rfl))) (mvT hZ (hw _ (List.mem_of_getElem? (i := 49) rfl))) (by decide) (backOf (W := 0) (rm7 l Z a0 hw [] b141 bq be271 ba bn bf dr (0 : Int32) (-sA) ((0 : Int32) + (1 : Int32)) ne271 (fun _ => (0 : Int32)) (own_set (fun _ => (-2147483648 : Int32)) (((a * (-1640531527 : Int32)).toUInt32 >>> ((28 : Int32) &&& 31).toUInt32).toInt32).toNatClampNeg a) (own_set (fun _ => (0 : Int32)) (((a * (-1640531527 : Int32)).toUInt32 >>> ((28 : Int32) &&& 31).toUInt32).toInt32).toNatClampNeg ev) (own_set (fun _ => (0 : Int32)) 0 (((a * (-1640531527 : Int32)).toUInt32 >>> ((28 : Int32) &&& 31).toUInt32).toInt32))  T280.heap n0 Z280 Hp (fun _ => (own_free _ _ _).imp id Or.inl)) hZ (hw _ (List.mem_of_getElem? (i := 51) rfl)) (hw _ (List.mem_of_getElem? (i := 10) rfl)) (by decide) (by decide)) q293a q293c (g := (mkF m 277 #[.val (.int p0), .val (.int p1), .val (.int p2), .val (.int p3), .val (.int p4), .val (.int p5), .val (.int (0 : Int32)), .val (.int sA), .val (.int sB), .val (.long cn), .second, .val (.int dr), .val (.int a), .val (.int bq), .val (.int ev), .val (.ref b141), .val (.int (((a * (-1640531527 : Int32)).toUInt32 >>> ((28 : Int32) &&& 31).toUInt32).toInt32)), .val (.int (1 : Int32)), .unset] [(.int bq), (.ref b141)])) rfl (by rw [hml]; rfl) (Steps.refl _) (argsL := [(.int bq)]) (rest := []) (lenOf pd_2 rfl) rfl (by show 2 * 0 + _ ≤ _; exact Nat.le_of_eq rfl) (hb hby at_277) (fun _ _ => ⟨rfl, e288, (by decide : 6 + 0 ≤ _), (by decide : 560 + 0 ≤ _)⟩)
            dsimp only [Pt.U, Pt.locs, Pt.cells, Pt.slots] at X293 l293 y293 z293 st293 hQ293
            subst l293 y293 z293
            obtain ⟨rfl, N293q, e293⟩ := hQ293
            have N293 := Fr.app N288 N293q
            have pre294 : ∀ t, Steps p.tables e below (T293.setTop (mkF m 280 #[.val (.int p0), .val (.int p1), .val (.int p2), .val (.int p3), .val (.int p4), .val (.int p5), .val (.int (0 : Int32)), .val (.int sA), .val (.int sB), .val (.long cn), .second, .val (.int dr), .val (.int a), .val (.int bq), .val (.int ev), .val (.ref b141), .val (.int (((a * (-1640531527 : Int32)).toUInt32 >>> ((28 : Int32) &&& 31).toUInt32).toInt32)), .val (.int (1 : Int32)), .unset] [(.int (own_slot (0 : Int32) (-sA) (own_set (fun _ => (-2147483648 : Int32)) (((a * (-1640531527 : Int32)).toUInt32 >>> ((28 : Int32) &&& 31).toUInt32).toInt32).toNatClampNeg a) bq))])) t → Steps p.tables e below (s₁.setTop (entryFrame m #[(.int p0), (.int p1), (.int p2), (.int p3), (.int p4), (.int p5)] maxLocals)) t := fun t kont => pre292 t (st293.trans kont)
            obtain ⟨u, hu⟩ : ∃ z : Int32, z = (own_slot (0 : Int32) (-sA) (own_set (fun _ => (-2147483648 : Int32)) (((a * (-1640531527 : Int32)).toUInt32 >>> ((28 : Int32) &&& 31).toUInt32).toInt32).toNatClampNeg a) bq) := ⟨_, rfl⟩
            rw [← hu] at pre294
            have pre295 : ∀ t, Steps p.tables e below (T293.setTop (mkF m 286 #[.val (.int p0), .val (.int p1), .val (.int p2), .val (.int p3), .val (.int p4), .val (.int p5), .val (.int (0 : Int32)), .val (.int sA), .val (.int sB), .val (.long cn), .second, .val (.int dr), .val (.int a), .val (.int bq), .val (.int ev), .val (.ref b141), .val (.int (((a * (-1640531527 : Int32)).toUInt32 >>> ((28 : Int32) &&& 31).toUInt32).toInt32)), .val (.int (1 : Int32)), .val (.int u)] [(.int bq), (.int a)])) t → Steps p.tables e below (s₁.setTop (entryFrame m #[(.int p0), (.int p1), (.int p2), (.int p3), (.int p4), (.int p5)] maxLocals)) t := by
              intro t kont
              refine pre294 t ?_
              show Steps p.tables e below (T293.setTop (mkF m 280 #[.val (.int p0), .val (.int p1), .val (.int p2), .val (.int p3), .val (.int p4), .val (.int p5), .val (.int (0 : Int32)), .val (.int sA), .val (.int sB), .val (.long cn), .second, .val (.int dr), .val (.int a), .val (.int bq), .val (.int ev), .val (.ref b141), .val (.int (((a * (-1640531527 : Int32)).toUInt32 >>> ((28 : Int32) &&& 31).toUInt32).toInt32)), .val (.int (1 : Int32)), .unset] [(.int u)])) _
              refine XS.istore X293.here hx rfl (hb hby at_280) rfl (l' := #[.val (.int p0), .val (.int p1), .val (.int p2), .val (.int p3), .val (.int p4), .val (.int p5), .val (.int (0 : Int32)), .val (.int sA), .val (.int sB), .val (.long cn), .second, .val (.int dr), .val (.int a), .val (.int bq), .val (.int ev), .val (.ref b141), .val (.int (((a * (-1640531527 : Int32)).toUInt32 >>> ((28 : Int32) &&& 31).toUInt32).toInt32)), .val (.int (1 : Int32)), .val (.int u)]) rfl ?_
              show Steps p.tables e below (T293.setTop (mkF m 282 #[.val (.int p0), .val (.int p1), .val (.int p2), .val (.int p3), .val (.int p4), .val (.int p5), .val (.int (0 : Int32)), .val (.int sA), .val (.int sB), .val (.long cn), .second, .val (.int dr), .val (.int a), .val (.int bq), .val (.int ev), .val (.ref b141), .val (.int (((a * (-1640531527 : Int32)).toUInt32 >>> ((28 : Int32) &&& 31).toUInt32).toInt32)), .val (.int (1 : Int32)), .val (.int u)] [])) _
              refine XS.iload X293.here hx rfl (hb hby at_282) rfl ?_
              show Steps p.tables e below (T293.setTop (mkF m 284 #[.val (.int p0), .val (.int p1), .val (.int p2), .val (.int p3), .val (.int p4), .val (.int p5), .val (.int (0 : Int32)), .val (.int sA), .val (.int sB), .val (.long cn), .second, .val (.int dr), .val (.int a), .val (.int bq), .val (.int ev), .val (.ref b141), .val (.int (((a * (-1640531527 : Int32)).toUInt32 >>> ((28 : Int32) &&& 31).toUInt32).toInt32)), .val (.int (1 : Int32)), .val (.int u)] [(.int a)])) _
              refine XS.iload X293.here hx rfl (hb hby at_284) rfl ?_
              exact kont
            by_cases hc286 : a = bq
            · have pre296 : ∀ t, Steps p.tables e below (T293.setTop (mkF m 289 #[.val (.int p0), .val (.int p1), .val (.int p2), .val (.int p3), .val (.int p4), .val (.int p5), .val (.int (0 : Int32)), .val (.int sA), .val (.int sB), .val (.long cn), .second, .val (.int dr), .val (.int a), .val (.int bq), .val (.int ev), .val (.ref b141), .val (.int (((a * (-1640531527 : Int32)).toUInt32 >>> ((28 : Int32) &&& 31).toUInt32).toInt32)), .val (.int (1 : Int32)), .val (.int u)] [])) t → Steps p.tables e below (s₁.setTop (entryFrame m #[(.int p0), (.int p1), (.int p2), (.int p3), (.int p4), (.int p5)] maxLocals)) t := by
                intro t kont
                refine pre295 t ?_
                show Steps p.tables e below (T293.setTop (mkF m 286 #[.val (.int p0), .val (.int p1), .val (.int p2), .val (.int p3), .val (.int p4), .val (.int p5), .val (.int (0 : Int32)), .val (.int sA), .val (.int sB), .val (.long cn), .second, .val (.int dr), .val (.int a), .val (.int bq), .val (.int ev), .val (.ref b141), .val (.int (((a * (-1640531527 : Int32)).toUInt32 >>> ((28 : Int32) &&& 31).toUInt32).toInt32)), .val (.int (1 : Int32)), .val (.int u)] [(.int bq), (.int a)])) _
                refine XS.icmpNo X293.here hx rfl (hb hby at_286) rfl (teq hc286).2 ?_
                exact kont
              have hus : u = (((a * (-1640531527 : Int32)).toUInt32 >>> ((28 : Int32) &&& 31).toUInt32).toInt32) := by rw [hu, ← hc286]; exact own_sB2 _ _ _
              have pre297 : ∀ t, Steps p.tables e below (T293.setTop (mkF m 298 #[.val (.int p0), .val (.int p1), .val (.int p2), .val (.int p3), .val (.int p4), .val (.int p5), .val (.int (0 : Int32)), .val (.int sA), .val (.int sB), .val (.long cn), .second, .val (.int dr), .val (.int a), .val (.int bq), .val (.int ev), .val (.ref b141), .val (.int (((a * (-1640531527 : Int32)).toUInt32 >>> ((28 : Int32) &&& 31).toUInt32).toInt32)), .val (.int (1 : Int32)), .val (.int u)] [(.int (((a * (-1640531527 : Int32)).toUInt32 >>> ((28 : Int32) &&& 31).toUInt32).toInt32)), (.int u)])) t → Steps p.tables e below (s₁.setTop (entryFrame m #[(.int p0), (.int p1), (.int p2), (.int p3), (.int p4), (.int p5)] maxLocals)) t := by
                intro t kont
                refine pre296 t ?_
                show Steps p.tables e below (T293.setTop (mkF m 289 #[.val (.int p0), .val (.int p1), .val (.int p2), .val (.int p3), .val (.int p4), .val (.int p5), .val (.int (0 : Int32)), .val (.int sA), .val (.int sB), .val (.long cn), .second, .val (.int dr), .val (.int a), .val (.int bq), .val (.int ev), .val (.ref b141), .val (.int (((a * (-1640531527 : Int32)).toUInt32 >>> ((28 : Int32) &&& 31).toUInt32).toInt32)), .val (.int (1 : Int32)), .val (.int u)] [])) _
                refine XS.iload X293.here hx rfl (hb hby at_289) rfl ?_
                show Steps p.tables e below (T293.setTop (mkF m 291 #[.val (.int p0), .val (.int p1), .val (.int p2), .val (.int p3), .val (.int p4), .val (.int p5), .val (.int (0 : Int32)), .val (.int sA), .val (.int sB), .val (.long cn), .second, .val (.int dr), .val (.int a), .val (.int bq), .val (.int ev), .val (.ref b141), .val (.int (((a * (-1640531527 : Int32)).toUInt32 >>> ((28 : Int32) &&& 31).toUInt32).toInt32)), .val (.int (1 : Int32)), .val (.int u)] [(.int (1 : Int32))])) _
                refine XS.ifNo X293.here hx rfl (hb hby at_291) rfl ((if0 _ _).trans (feq (by decide)).1) ?_
                show Steps p.tables e below (T293.setTop (mkF m 294 #[.val (.int p0), .val (.int p1), .val (.int p2), .val (.int p3), .val (.int p4), .val (.int p5), .val (.int (0 : Int32)), .val (.int sA), .val (.int sB), .val (.long cn), .second, .val (.int dr), .val (.int a), .val (.int bq), .val (.int ev), .val (.ref b141), .val (.int (((a * (-1640531527 : Int32)).toUInt32 >>> ((28 : Int32) &&& 31).toUInt32).toInt32)), .val (.int (1 : Int32)), .val (.int u)] [])) _
                refine XS.iload X293.here hx rfl (hb hby at_294) rfl ?_
                show Steps p.tables e below (T293.setTop (mkF m 296 #[.val (.int p0), .val (.int p1), .val (.int p2), .val (.int p3), .val (.int p4), .val (.int p5), .val (.int (0 : Int32)), .val (.int sA), .val (.int sB), .val (.long cn), .second, .val (.int dr), .val (.int a), .val (.int bq), .val (.int ev), .val (.ref b141), .val (.int (((a * (-1640531527 : Int32)).toUInt32 >>> ((28 : Int32) &&& 31).toUInt32).toInt32)), .val (.int (1 : Int32)), .val (.int u)] [(.int u)])) _
                refine XS.iload X293.here hx rfl (hb hby at_296) rfl ?_
                exact kont
              by_cases hc298 : u = (((a * (-1640531527 : Int32)).toUInt32 >>> ((28 : Int32) &&& 31).toUInt32).toInt32)
              · have pre298 : ∀ t, Steps p.tables e below (T293.setTop (mkF m 306 #[.val (.int p0), .val (.int p1), .val (.int p2), .val (.int p3), .val (.int p4), .val (.int p5), .val (.int (0 : Int32)), .val (.int sA), .val (.int sB), .val (.long cn), .second, .val (.int dr), .val (.int a), .val (.int bq), .val (.int ev), .val (.ref b141), .val (.int (((a * (-1640531527 : Int32)).toUInt32 >>> ((28 : Int32) &&& 31).toUInt32).toInt32)), .val (.int (1 : Int32)), .val (.int u)] [(.int (1 : Int32))])) t → Steps p.tables e below (s₁.setTop (entryFrame m #[(.int p0), (.int p1), (.int p2), (.int p3), (.int p4), (.int p5)] maxLocals)) t := by
                  intro t kont
                  refine pre297 t ?_
                  show Steps p.tables e below (T293.setTop (mkF m 298 #[.val (.int p0), .val (.int p1), .val (.int p2), .val (.int p3), .val (.int p4), .val (.int p5), .val (.int (0 : Int32)), .val (.int sA), .val (.int sB), .val (.long cn), .second, .val (.int dr), .val (.int a), .val (.int bq), .val (.int ev), .val (.ref b141), .val (.int (((a * (-1640531527 : Int32)).toUInt32 >>> ((28 : Int32) &&& 31).toUInt32).toInt32)), .val (.int (1 : Int32)), .val (.int u)] [(.int (((a * (-1640531527 : Int32)).toUInt32 >>> ((28 : Int32) &&& 31).toUInt32).toInt32)), (.int u)])) _
                  refine XS.icmpNo X293.here hx rfl (hb hby at_298) rfl (teq hc298).2 ?_
                  show Steps p.tables e below (T293.setTop (mkF m 301 #[.val (.int p0), .val (.int p1), .val (.int p2), .val (.int p3), .val (.int p4), .val (.int p5), .val (.int (0 : Int32)), .val (.int sA), .val (.int sB), .val (.long cn), .second, .val (.int dr), .val (.int a), .val (.int bq), .val (.int ev), .val (.ref b141), .val (.int (((a * (-1640531527 : Int32)).toUInt32 >>> ((28 : Int32) &&& 31).toUInt32).toInt32)), .val (.int (1 : Int32)), .val (.int u)] [])) _
                  refine XS.iconst X293.here hx rfl (hb hby at_301) ?_
                  show Steps p.tables e below (T293.setTop (mkF m 302 #[.val (.int p0), .val (.int p1), .val (.int p2), .val (.int p3), .val (.int p4), .val (.int p5), .val (.int (0 : Int32)), .val (.int sA), .val (.int sB), .val (.long cn), .second, .val (.int dr), .val (.int a), .val (.int bq), .val (.int ev), .val (.ref b141), .val (.int (((a * (-1640531527 : Int32)).toUInt32 >>> ((28 : Int32) &&& 31).toUInt32).toInt32)), .val (.int (1 : Int32)), .val (.int u)] [(.int (1 : Int32))])) _
                  refine XS.goto X293.here hx rfl (pc0 := 302) (pc' := 306) rfl (hb hby at_302) (by decide) (by decide) ?_
                  exact kont
                obtain ⟨fs, hr, hrun, hended, hW, hsame⟩ := X293.leave (v := some (.int (1 : Int32))) (fun h => by rw [Bd.returns] at h; cases h)
                refine ⟨_, _, pre298 _ ?_, hrun, hended, _, _, rfl, ?_, ⟨_, rfl⟩, hW, hsame.mono (by decide) (by decide)⟩
                · exact retN X293 hx (t := .boolean) Bd.returns (by simp) (hb hby at_306) hr
                · show Q0 Z p0 p1 p2 p3 p4 p5 h0 n0 _ T293.heap _
                  rw [e293]
                  exact ⟨rfl, N293⟩
              · exfalso
                exact hc298 hus
            · have pre299 : ∀ t, Steps p.tables e below (T293.setTop (mkF m 307 #[.val (.int p0), .val (.int p1), .val (.int p2), .val (.int p3), .val (.int p4), .val (.int p5), .val (.int (0 : Int32)), .val (.int sA), .val (.int sB), .val (.long cn), .second, .val (.int dr), .val (.int a), .val (.int bq), .val (.int ev), .val (.ref b141), .val (.int (((a * (-1640531527 : Int32)).toUInt32 >>> ((28 : Int32) &&& 31).toUInt32).toInt32)), .val (.int (1 : Int32)), .val (.int u)] [])) t → Steps p.tables e below (s₁.setTop (entryFrame m #[(.int p0), (.int p1), (.int p2), (.int p3), (.int p4), (.int p5)] maxLocals)) t := by
                intro t kont
                refine pre295 t ?_
                show Steps p.tables e below (T293.setTop (mkF m 286 #[.val (.int p0), .val (.int p1), .val (.int p2), .val (.int p3), .val (.int p4), .val (.int p5), .val (.int (0 : Int32)), .val (.int sA), .val (.int sB), .val (.long cn), .second, .val (.int dr), .val (.int a), .val (.int bq), .val (.int ev), .val (.ref b141), .val (.int (((a * (-1640531527 : Int32)).toUInt32 >>> ((28 : Int32) &&& 31).toUInt32).toInt32)), .val (.int (1 : Int32)), .val (.int u)] [(.int bq), (.int a)])) _
                refine XS.icmpYes X293.here hx rfl (pc0 := 286) (pc' := 307) rfl (hb hby at_286) rfl (feq hc286).2 (by decide) (by decide) ?_
                exact kont
              have hu3 := own_u (((a * (-1640531527 : Int32)).toUInt32 >>> ((28 : Int32) &&& 31).toUInt32).toInt32).toNatClampNeg (-sA) a bq hc286 hM
              rw [← hu] at hu3
              obtain ⟨hu0, hu16, huk⟩ := hu3
              have hun : ¬ u = (((a * (-1640531527 : Int32)).toUInt32 >>> ((28 : Int32) &&& 31).toUInt32).toInt32) := fun q => huk (by rw [q])
              have pre300 : ∀ t, Steps p.tables e below (T293.setTop (mkF m 316 #[.val (.int p0), .val (.int p1), .val (.int p2), .val (.int p3), .val (.int p4), .val (.int p5), .val (.int (0 : Int32)), .val (.int sA), .val (.int sB), .val (.long cn), .second, .val (.int dr), .val (.int a), .val (.int bq), .val (.int ev), .val (.ref b141), .val (.int (((a * (-1640531527 : Int32)).toUInt32 >>> ((28 : Int32) &&& 31).toUInt32).toInt32)), .val (.int (1 : Int32)), .val (.int u)] [(.int (((a * (-1640531527 : Int32)).toUInt32 >>> ((28 : Int32) &&& 31).toUInt32).toInt32)), (.int u)])) t → Steps p.tables e below (s₁.setTop (entryFrame m #[(.int p0), (.int p1), (.int p2), (.int p3), (.int p4), (.int p5)] maxLocals)) t := by
                intro t kont
                refine pre299 t ?_
                show Steps p.tables e below (T293.setTop (mkF m 307 #[.val (.int p0), .val (.int p1), .val (.int p2), .val (.int p3), .val (.int p4), .val (.int p5), .val (.int (0 : Int32)), .val (.int sA), .val (.int sB), .val (.long cn), .second, .val (.int dr), .val (.int a), .val (.int bq), .val (.int ev), .val (.ref b141), .val (.int (((a * (-1640531527 : Int32)).toUInt32 >>> ((28 : Int32) &&& 31).toUInt32).toInt32)), .val (.int (1 : Int32)), .val (.int u)] [])) _
                refine XS.iload X293.here hx rfl (hb hby at_307) rfl ?_
                show Steps p.tables e below (T293.setTop (mkF m 309 #[.val (.int p0), .val (.int p1), .val (.int p2), .val (.int p3), .val (.int p4), .val (.int p5), .val (.int (0 : Int32)), .val (.int sA), .val (.int sB), .val (.long cn), .second, .val (.int dr), .val (.int a), .val (.int bq), .val (.int ev), .val (.ref b141), .val (.int (((a * (-1640531527 : Int32)).toUInt32 >>> ((28 : Int32) &&& 31).toUInt32).toInt32)), .val (.int (1 : Int32)), .val (.int u)] [(.int (1 : Int32))])) _
                refine XS.ifNo X293.here hx rfl (hb hby at_309) rfl ((if0 _ _).trans (feq (by decide)).1) ?_
                show Steps p.tables e below (T293.setTop (mkF m 312 #[.val (.int p0), .val (.int p1), .val (.int p2), .val (.int p3), .val (.int p4), .val (.int p5), .val (.int (0 : Int32)), .val (.int sA), .val (.int sB), .val (.long cn), .second, .val (.int dr), .val (.int a), .val (.int bq), .val (.int ev), .val (.ref b141), .val (.int (((a * (-1640531527 : Int32)).toUInt32 >>> ((28 : Int32) &&& 31).toUInt32).toInt32)), .val (.int (1 : Int32)), .val (.int u)] [])) _
                refine XS.iload X293.here hx rfl (hb hby at_312) rfl ?_
                show Steps p.tables e below (T293.setTop (mkF m 314 #[.val (.int p0), .val (.int p1), .val (.int p2), .val (.int p3), .val (.int p4), .val (.int p5), .val (.int (0 : Int32)), .val (.int sA), .val (.int sB), .val (.long cn), .second, .val (.int dr), .val (.int a), .val (.int bq), .val (.int ev), .val (.ref b141), .val (.int (((a * (-1640531527 : Int32)).toUInt32 >>> ((28 : Int32) &&& 31).toUInt32).toInt32)), .val (.int (1 : Int32)), .val (.int u)] [(.int u)])) _
                refine XS.iload X293.here hx rfl (hb hby at_314) rfl ?_
                exact kont
              by_cases hc316 : u = (((a * (-1640531527 : Int32)).toUInt32 >>> ((28 : Int32) &&& 31).toUInt32).toInt32)
              · exfalso
                first | exact hc356 rfl | exact hc336 rfl | exact hc346 (own_lt16 hu0 hu16) | exact hu0 hc321 | exact hun hc316
              · have pre301 : ∀ t, Steps p.tables e below (T293.setTop (mkF m 321 #[.val (.int p0), .val (.int p1), .val (.int p2), .val (.int p3), .val (.int p4), .val (.int p5), .val (.int (0 : Int32)), .val (.int sA), .val (.int sB), .val (.long cn), .second, .val (.int dr), .val (.int a), .val (.int bq), .val (.int ev), .val (.ref b141), .val (.int (((a * (-1640531527 : Int32)).toUInt32 >>> ((28 : Int32) &&& 31).toUInt32).toInt32)), .val (.int (1 : Int32)), .val (.int u)] [(.int u)])) t → Steps p.tables e below (s₁.setTop (entryFrame m #[(.int p0), (.int p1), (.int p2), (.int p3), (.int p4), (.int p5)] maxLocals)) t := by
                  intro t kont
                  refine pre300 t ?_
                  show Steps p.tables e below (T293.setTop (mkF m 316 #[.val (.int p0), .val (.int p1), .val (.int p2), .val (.int p3), .val (.int p4), .val (.int p5), .val (.int (0 : Int32)), .val (.int sA), .val (.int sB), .val (.long cn), .second, .val (.int dr), .val (.int a), .val (.int bq), .val (.int ev), .val (.ref b141), .val (.int (((a * (-1640531527 : Int32)).toUInt32 >>> ((28 : Int32) &&& 31).toUInt32).toInt32)), .val (.int (1 : Int32)), .val (.int u)] [(.int (((a * (-1640531527 : Int32)).toUInt32 >>> ((28 : Int32) &&& 31).toUInt32).toInt32)), (.int u)])) _
                  refine XS.icmpNo X293.here hx rfl (hb hby at_316) rfl (feq hc316).1 ?_
                  show Steps p.tables e below (T293.setTop (mkF m 319 #[.val (.int p0), .val (.int p1), .val (.int p2), .val (.int p3), .val (.int p4), .val (.int p5), .val (.int (0 : Int32)), .val (.int sA), .val (.int sB), .val (.long cn), .second, .val (.int dr), .val (.int a), .val (.int bq), .val (.int ev), .val (.ref b141), .val (.int (((a * (-1640531527 : Int32)).toUInt32 >>> ((28 : Int32) &&& 31).toUInt32).toInt32)), .val (.int (1 : Int32)), .val (.int u)] [])) _
                  refine XS.iload X293.here hx rfl (hb hby at_319) rfl ?_
                  exact kont
                by_cases hc321 : u < (0 : Int32)
                · exfalso
                  first | exact hc356 rfl | exact hc336 rfl | exact hc346 (own_lt16 hu0 hu16) | exact hu0 hc321 | exact hun hc316
                · have pre302 : ∀ t, Steps p.tables e below (T293.setTop (mkF m 346 #[.val (.int p0), .val (.int p1), .val (.int p2), .val (.int p3), .val (.int p4), .val (.int p5), .val (.int (0 : Int32)), .val (.int sA), .val (.int sB), .val (.long cn), .second, .val (.int dr), .val (.int a), .val (.int bq), .val (.int ev), .val (.ref b141), .val (.int (((a * (-1640531527 : Int32)).toUInt32 >>> ((28 : Int32) &&& 31).toUInt32).toInt32)), .val (.int (1 : Int32)), .val (.int u)] [(.int (16 : Int32)), (.int u)])) t → Steps p.tables e below (s₁.setTop (entryFrame m #[(.int p0), (.int p1), (.int p2), (.int p3), (.int p4), (.int p5)] maxLocals)) t := by
                    intro t kont
                    refine pre301 t ?_
                    show Steps p.tables e below (T293.setTop (mkF m 321 #[.val (.int p0), .val (.int p1), .val (.int p2), .val (.int p3), .val (.int p4), .val (.int p5), .val (.int (0 : Int32)), .val (.int sA), .val (.int sB), .val (.long cn), .second, .val (.int dr), .val (.int a), .val (.int bq), .val (.int ev), .val (.ref b141), .val (.int (((a * (-1640531527 : Int32)).toUInt32 >>> ((28 : Int32) &&& 31).toUInt32).toInt32)), .val (.int (1 : Int32)), .val (.int u)] [(.int u)])) _
                    refine XS.ifNo X293.here hx rfl (hb hby at_321) rfl ((if0 _ _).trans (flt hc321).1) ?_
                    show Steps p.tables e below (T293.setTop (mkF m 324 #[.val (.int p0), .val (.int p1), .val (.int p2), .val (.int p3), .val (.int p4), .val (.int p5), .val (.int (0 : Int32)), .val (.int sA), .val (.int sB), .val (.long cn), .second, .val (.int dr), .val (.int a), .val (.int bq), .val (.int ev), .val (.ref b141), .val (.int (((a * (-1640531527 : Int32)).toUInt32 >>> ((28 : Int32) &&& 31).toUInt32).toInt32)), .val (.int (1 : Int32)), .val (.int u)] [])) _
                    refine XS.iload X293.here hx rfl (hb hby at_324) rfl ?_
                    show Steps p.tables e below (T293.setTop (mkF m 326 #[.val (.int p0), .val (.int p1), .val (.int p2), .val (.int p3), .val (.int p4), .val (.int p5), .val (.int (0 : Int32)), .val (.int sA), .val (.int sB), .val (.long cn), .second, .val (.int dr), .val (.int a), .val (.int bq), .val (.int ev), .val (.ref b141), .val (.int (((a * (-1640531527 : Int32)).toUInt32 >>> ((28 : Int32) &&& 31).toUInt32).toInt32)), .val (.int (1 : Int32)), .val (.int u)] [(.int (0 : Int32))])) _
                    refine XS.ifYes X293.here hx rfl (pc0 := 326) (pc' := 342) rfl (hb hby at_326) rfl ((if0 _ _).trans (teq (by decide)).1) (by decide) (by decide) ?_
                    show Steps p.tables e below (T293.setTop (mkF m 342 #[.val (.int p0), .val (.int p1), .val (.int p2), .val (.int p3), .val (.int p4), .val (.int p5), .val (.int (0 : Int32)), .val (.int sA), .val (.int sB), .val (.long cn), .second, .val (.int dr), .val (.int a), .val (.int bq), .val (.int ev), .val (.ref b141), .val (.int (((a * (-1640531527 : Int32)).toUInt32 >>> ((28 : Int32) &&& 31).toUInt32).toInt32)), .val (.int (1 : Int32)), .val (.int u)] [])) _
                    refine XS.iload X293.here hx rfl (hb hby at_342) rfl ?_
                    show Steps p.tables e below (T293.setTop (mkF m 344 #[.val (.int p0), .val (.int p1), .val (.int p2), .val (.int p3), .val (.int p4), .val (.int p5), .val (.int (0 : Int32)), .val (.int sA), .val (.int sB), .val (.long cn), .second, .val (.int dr), .val (.int a), .val (.int bq), .val (.int ev), .val (.ref b141), .val (.int (((a * (-1640531527 : Int32)).toUInt32 >>> ((28 : Int32) &&& 31).toUInt32).toInt32)), .val (.int (1 : Int32)), .val (.int u)] [(.int u)])) _
                    refine XS.bipush X293.here hx rfl (hb hby at_344) ?_
                    exact kont
                  by_cases hc346 : u < (16 : Int32)
                  · have pre303 : ∀ t, Steps p.tables e below (T293.setTop (mkF m 353 #[.val (.int p0), .val (.int p1), .val (.int p2), .val (.int p3), .val (.int p4), .val (.int p5), .val (.int (0 : Int32)), .val (.int sA), .val (.int sB), .val (.long cn), .second, .val (.int dr), .val (.int a), .val (.int bq), .val (.int ev), .val (.ref b141), .val (.int (((a * (-1640531527 : Int32)).toUInt32 >>> ((28 : Int32) &&& 31).toUInt32).toInt32)), .val (.int (1 : Int32)), .val (.int u)] [(.int u), (.ref b141)])) t → Steps p.tables e below (s₁.setTop (entryFrame m #[(.int p0), (.int p1), (.int p2), (.int p3), (.int p4), (.int p5)] maxLocals)) t := by
                      intro t kont
                      refine pre302 t ?_
                      show Steps p.tables e below (T293.setTop (mkF m 346 #[.val (.int p0), .val (.int p1), .val (.int p2), .val (.int p3), .val (.int p4), .val (.int p5), .val (.int (0 : Int32)), .val (.int sA), .val (.int sB), .val (.long cn), .second, .val (.int dr), .val (.int a), .val (.int bq), .val (.int ev), .val (.ref b141), .val (.int (((a * (-1640531527 : Int32)).toUInt32 >>> ((28 : Int32) &&& 31).toUInt32).toInt32)), .val (.int (1 : Int32)), .val (.int u)] [(.int (16 : Int32)), (.int u)])) _
                      refine XS.icmpNo X293.here hx rfl (hb hby at_346) rfl (tlt hc346).2.1 ?_
                      show Steps p.tables e below (T293.setTop (mkF m 349 #[.val (.int p0), .val (.int p1), .val (.int p2), .val (.int p3), .val (.int p4), .val (.int p5), .val (.int (0 : Int32)), .val (.int sA), .val (.int sB), .val (.long cn), .second, .val (.int dr), .val (.int a), .val (.int bq), .val (.int ev), .val (.ref b141), .val (.int (((a * (-1640531527 : Int32)).toUInt32 >>> ((28 : Int32) &&& 31).toUInt32).toInt32)), .val (.int (1 : Int32)), .val (.int u)] [])) _
                      refine XS.aload X293.here hx rfl (hb hby at_349) rfl rfl ?_
                      show Steps p.tables e below (T293.setTop (mkF m 351 #[.val (.int p0), .val (.int p1), .val (.int p2), .val (.int p3), .val (.int p4), .val (.int p5), .val (.int (0 : Int32)), .val (.int sA), .val (.int sB), .val (.long cn), .second, .val (.int dr), .val (.int a), .val (.int bq), .val (.int ev), .val (.ref b141), .val (.int (((a * (-1640531527 : Int32)).toUInt32 >>> ((28 : Int32) &&& 31).toUInt32).toInt32)), .val (.int (1 : Int32)), .val (.int u)] [(.ref b141)])) _
                      refine XS.iload X293.here hx rfl (hb hby at_351) rfl ?_
                      exact kont
                    obtain ⟨cq304, kq304, q304a, q304b, q304c⟩ := isOf hZ e293 Hp.1
                    obtain ⟨_, _, ⟨T304, L304, k304, n304⟩, -, X304, ⟨Lc304, hQ304, l304, y304, z304⟩, st304⟩ := X293.virtualBack hx (y := (⟨"com/example/impronta/impronta/engine/Alignments", "end", "(I)I"⟩ : MethodName)) (z := (⟨"com/example/impronta/impronta/engine/Alignments", "end", "(I)I"⟩ : MethodName)) hown (mvT hZ (hw _ (List.mem_of_getElem? (i := 65) rfl))) (mvT hZ (hw _ (List.mem_of_getElem? (i := 59) rfl))) (notFace_of_selects (args := #[]) (mvT hZ (hw _ (List.mem_of_getElem? (i := 61) rfl)))) (mvT hZ (hw _ (List.mem_of_getElem? (i := 61) rfl))) (mvT hZ (hw _ (List.mem_of_getElem? (i := 60) rfl))) (by decide) (backOf (W := 0) (rm9 l Z a0 hw [] b141 u be271 ba bn bf dr (0 : Int32) (-sA) ((0 : Int32) + (1 : Int32)) ne271 (fun _ => (0 : Int32)) (own_set (fun _ => (-2147483648 : Int32)) (((a * (-1640531527 : Int32)).toUInt32 >>> ((28 : Int32) &&& 31).toUInt32).toInt32).toNatClampNeg a) (own_set (fun _ => (0 : Int32)) (((a * (-1640531527 : Int32)).toUInt32 >>> ((28 : Int32) &&& 31).toUInt32).toInt32).toNatClampNeg ev) (own_set (fun _ => (0 : Int32)) 0 (((a * (-1640531527 : Int32)).toUInt32 >>> ((28 : Int32) &&& 31).toUInt32).toInt32)) u.toNatClampNeg  T280.heap n0 Z280 Hp hu0 rfl (fun _ => hu16) (fun q => absurd rfl q)) hZ (hw _ (List.mem_of_getElem? (i := 62) rfl)) (hw _ (List.mem_of_getElem? (i := 10) rfl)) (by decide) (by decide)) q304a q304c (g := (mkF m 353 #[.val (.int p0), .val (.int p1), .val (.int p2), .val (.int p3), .val (.int p4), .val (.int p5), .val (.int (0 : Int32)), .val (.int sA), .val (.int sB), .val (.long cn), .second, .val (.int dr), .val (.int a), .val (.int bq), .val (.int ev), .val (.ref b141), .val (.int (((a * (-1640531527 : Int32)).toUInt32 >>> ((28 : Int32) &&& 31).toUInt32).toInt32)), .val (.int (1 : Int32)), .val (.int u)] [(.int u), (.ref b141)])) rfl (by rw [hml]; rfl) (Steps.refl _) (argsL := [(.int u)]) (rest := []) (lenOf pd_2 rfl) rfl (by show 2 * 0 + _ ≤ _; exact Nat.le_of_eq rfl) (hb hby at_353) (fun _ _ => ⟨rfl, e293, (by decide : 6 + 0 ≤ _), (by decide : 560 + 0 ≤ _)⟩)
                    dsimp only [Pt.U, Pt.locs, Pt.cells, Pt.slots] at X304 l304 y304 z304 st304 hQ304
                    subst l304 y304 z304
                    obtain ⟨rfl, N304q, e304⟩ := hQ304
                    have N304 := Fr.app N293 N304q
                    have pre305 : ∀ t, Steps p.tables e below (T304.setTop (mkF m 356 #[.val (.int p0), .val (.int p1), .val (.int p2), .val (.int p3), .val (.int p4), .val (.int p5), .val (.int (0 : Int32)), .val (.int sA), .val (.int sB), .val (.long cn), .second, .val (.int dr), .val (.int a), .val (.int bq), .val (.int ev), .val (.ref b141), .val (.int (((a * (-1640531527 : Int32)).toUInt32 >>> ((28 : Int32) &&& 31).toUInt32).toInt32)), .val (.int (1 : Int32)), .val (.int u)] [(.int (own_end (0 : Int32) (fun _ => (0 : Int32)) (own_set (fun _ => (0 : Int32)) (((a * (-1640531527 : Int32)).toUInt32 >>> ((28 : Int32) &&& 31).toUInt32).toInt32).toNatClampNeg ev) u.toNatClampNeg))])) t → Steps p.tables e below (s₁.setTop (entryFrame m #[(.int p0), (.int p1), (.int p2), (.int p3), (.int p4), (.int p5)] maxLocals)) t := fun t kont => pre303 t (st304.trans kont)
                    have rq306 : (own_end (0 : Int32) (fun _ => (0 : Int32)) (own_set (fun _ => (0 : Int32)) (((a * (-1640531527 : Int32)).toUInt32 >>> ((28 : Int32) &&& 31).toUInt32).toInt32).toNatClampNeg ev) u.toNatClampNeg) = (0 : Int32) := (own_end0 _ _ _).trans (own_miss _ _ _ _ huk)
                    rw [rq306] at pre305
                    have pre307 : ∀ t, Steps p.tables e below (T304.setTop (mkF m 364 #[.val (.int p0), .val (.int p1), .val (.int p2), .val (.int p3), .val (.int p4), .val (.int p5), .val (.int (0 : Int32)), .val (.int sA), .val (.int sB), .val (.long cn), .second, .val (.int dr), .val (.int a), .val (.int bq), .val (.int ev), .val (.ref b141), .val (.int (((a * (-1640531527 : Int32)).toUInt32 >>> ((28 : Int32) &&& 31).toUInt32).toInt32)), .val (.int (1 : Int32)), .val (.int u)] [(.int (1 : Int32))])) t → Steps p.tables e below (s₁.setTop (entryFrame m #[(.int p0), (.int p1), (.int p2), (.int p3), (.int p4), (.int p5)] maxLocals)) t := by
                      intro t kont
                      refine pre305 t ?_
                      show Steps p.tables e below (T304.setTop (mkF m 356 #[.val (.int p0), .val (.int p1), .val (.int p2), .val (.int p3), .val (.int p4), .val (.int p5), .val (.int (0 : Int32)), .val (.int sA), .val (.int sB), .val (.long cn), .second, .val (.int dr), .val (.int a), .val (.int bq), .val (.int ev), .val (.ref b141), .val (.int (((a * (-1640531527 : Int32)).toUInt32 >>> ((28 : Int32) &&& 31).toUInt32).toInt32)), .val (.int (1 : Int32)), .val (.int u)] [(.int (0 : Int32))])) _
                      refine XS.ifNo X304.here hx rfl (hb hby at_356) rfl ((if0 _ _).trans (teq (by decide)).2) ?_
                      show Steps p.tables e below (T304.setTop (mkF m 359 #[.val (.int p0), .val (.int p1), .val (.int p2), .val (.int p3), .val (.int p4), .val (.int p5), .val (.int (0 : Int32)), .val (.int sA), .val (.int sB), .val (.long cn), .second, .val (.int dr), .val (.int a), .val (.int bq), .val (.int ev), .val (.ref b141), .val (.int (((a * (-1640531527 : Int32)).toUInt32 >>> ((28 : Int32) &&& 31).toUInt32).toInt32)), .val (.int (1 : Int32)), .val (.int u)] [])) _
                      refine XS.iconst X304.here hx rfl (hb hby at_359) ?_
                      show Steps p.tables e below (T304.setTop (mkF m 360 #[.val (.int p0), .val (.int p1), .val (.int p2), .val (.int p3), .val (.int p4), .val (.int p5), .val (.int (0 : Int32)), .val (.int sA), .val (.int sB), .val (.long cn), .second, .val (.int dr), .val (.int a), .val (.int bq), .val (.int ev), .val (.ref b141), .val (.int (((a * (-1640531527 : Int32)).toUInt32 >>> ((28 : Int32) &&& 31).toUInt32).toInt32)), .val (.int (1 : Int32)), .val (.int u)] [(.int (1 : Int32))])) _
                      refine XS.goto X304.here hx rfl (pc0 := 360) (pc' := 364) rfl (hb hby at_360) (by decide) (by decide) ?_
                      exact kont
                    obtain ⟨fs, hr, hrun, hended, hW, hsame⟩ := X304.leave (v := some (.int (1 : Int32))) (fun h => by rw [Bd.returns] at h; cases h)
                    refine ⟨_, _, pre307 _ ?_, hrun, hended, _, _, rfl, ?_, ⟨_, rfl⟩, hW, hsame.mono (by decide) (by decide)⟩
                    · exact retN X304 hx (t := .boolean) Bd.returns (by simp) (hb hby at_364) hr
                    · show Q0 Z p0 p1 p2 p3 p4 p5 h0 n0 _ T304.heap _
                      rw [e304]
                      exact ⟨rfl, N304⟩
                  · exfalso
                    first | exact hc356 rfl | exact hc336 rfl | exact hc346 (own_lt16 hu0 hu16) | exact hu0 hc321 | exact hun hc316
          · exfalso
            first | exact hc263 rfl | exact hc251 rfl
        · exfalso
          first | exact hc263 rfl | exact hc251 rfl
      · exfalso
        first | exact hc216 (own_lt16 (own_home a).1 (own_home a).2) | exact (own_home a).1 hc209
  · have pre308 : ∀ t, Steps p.tables e below (s₁.setTop (mkF m 62 #[.val (.int p0), .val (.int p1), .val (.int p2), .val (.int p3), .val (.int p4), .val (.int p5), .val (.int (1 : Int32)), .val (.int (p1 &&& (255 : Int32))), .val (.int (p2 &&& (255 : Int32))), .val (.long ((((p1 &&& (255 : Int32)).toInt64) + ((p2 &&& (255 : Int32)).toInt64)) + (1 : Int64))), .second, .unset, .unset, .unset, .unset, .unset, .unset, .unset, .unset] [])) t → Steps p.tables e below (s₁.setTop (entryFrame m #[(.int p0), (.int p1), (.int p2), (.int p3), (.int p4), (.int p5)] maxLocals)) t := by
      intro t kont
      refine pre258 t ?_
      show Steps p.tables e below (s₁.setTop (mkF m 3 #[.val (.int p0), .val (.int p1), .val (.int p2), .val (.int p3), .val (.int p4), .val (.int p5), .unset, .unset, .unset, .unset, .unset, .unset, .unset, .unset, .unset, .unset, .unset, .unset, .unset] [(.int (p0 &&& (1 : Int32)))])) _
      refine XS.ifNo X0.here hx rfl (hb hby at_3) rfl ((if0 _ _).trans (feq hc3).1) ?_
      show Steps p.tables e below (s₁.setTop (mkF m 6 #[.val (.int p0), .val (.int p1), .val (.int p2), .val (.int p3), .val (.int p4), .val (.int p5), .unset, .unset, .unset, .unset, .unset, .unset, .unset, .unset, .unset, .unset, .unset, .unset, .unset] [])) _
      refine XS.iconst X0.here hx rfl (hb hby at_6) ?_
      show Steps p.tables e below (s₁.setTop (mkF m 7 #[.val (.int p0), .val (.int p1), .val (.int p2), .val (.int p3), .val (.int p4), .val (.int p5), .unset, .unset, .unset, .unset, .unset, .unset, .unset, .unset, .unset, .unset, .unset, .unset, .unset] [(.int (1 : Int32))])) _
      refine XS.goto X0.here hx rfl (pc0 := 7) (pc' := 11) rfl (hb hby at_7) (by decide) (by decide) ?_
      show Steps p.tables e below (s₁.setTop (mkF m 11 #[.val (.int p0), .val (.int p1), .val (.int p2), .val (.int p3), .val (.int p4), .val (.int p5), .unset, .unset, .unset, .unset, .unset, .unset, .unset, .unset, .unset, .unset, .unset, .unset, .unset] [(.int (1 : Int32))])) _
      refine XS.istore X0.here hx rfl (hb hby at_11) rfl (l' := #[.val (.int p0), .val (.int p1), .val (.int p2), .val (.int p3), .val (.int p4), .val (.int p5), .val (.int (1 : Int32)), .unset, .unset, .unset, .unset, .unset, .unset, .unset, .unset, .unset, .unset, .unset, .unset]) rfl ?_
      show Steps p.tables e below (s₁.setTop (mkF m 13 #[.val (.int p0), .val (.int p1), .val (.int p2), .val (.int p3), .val (.int p4), .val (.int p5), .val (.int (1 : Int32)), .unset, .unset, .unset, .unset, .unset, .unset, .unset, .unset, .unset, .unset, .unset, .unset] [])) _
      refine XS.iload X0.here hx rfl (hb hby at_13) rfl ?_
      show Steps p.tables e below (s₁.setTop (mkF m 15 #[.val (.int p0), .val (.int p1), .val (.int p2), .val (.int p3), .val (.int p4), .val (.int p5), .val (.int (1 : Int32)), .unset, .unset, .unset, .unset, .unset, .unset, .unset, .unset, .unset, .unset, .unset, .unset] [(.int (1 : Int32))])) _
      refine XS.ifNo X0.here hx rfl (hb hby at_15) rfl ((if0 _ _).trans (feq (by decide)).1) ?_
      show Steps p.tables e below (s₁.setTop (mkF m 18 #[.val (.int p0), .val (.int p1), .val (.int p2), .val (.int p3), .val (.int p4), .val (.int p5), .val (.int (1 : Int32)), .unset, .unset, .unset, .unset, .unset, .unset, .unset, .unset, .unset, .unset, .unset, .unset] [])) _
      refine XS.iloadN X0.here hx rfl (hb hby at_18) rfl ?_
      show Steps p.tables e below (s₁.setTop (mkF m 19 #[.val (.int p0), .val (.int p1), .val (.int p2), .val (.int p3), .val (.int p4), .val (.int p5), .val (.int (1 : Int32)), .unset, .unset, .unset, .unset, .unset, .unset, .unset, .unset, .unset, .unset, .unset, .unset] [(.int p1)])) _
      refine XS.sipush X0.here hx rfl (hb hby at_19) ?_
      show Steps p.tables e below (s₁.setTop (mkF m 22 #[.val (.int p0), .val (.int p1), .val (.int p2), .val (.int p3), .val (.int p4), .val (.int p5), .val (.int (1 : Int32)), .unset, .unset, .unset, .unset, .unset, .unset, .unset, .unset, .unset, .unset, .unset, .unset] [(.int (255 : Int32)), (.int p1)])) _
      refine XS.iand X0.here hx rfl (hb hby at_22) rfl ?_
      show Steps p.tables e below (s₁.setTop (mkF m 23 #[.val (.int p0), .val (.int p1), .val (.int p2), .val (.int p3), .val (.int p4), .val (.int p5), .val (.int (1 : Int32)), .unset, .unset, .unset, .unset, .unset, .unset, .unset, .unset, .unset, .unset, .unset, .unset] [(.int (p1 &&& (255 : Int32)))])) _
      refine XS.goto X0.here hx rfl (pc0 := 23) (pc' := 30) rfl (hb hby at_23) (by decide) (by decide) ?_
      show Steps p.tables e below (s₁.setTop (mkF m 30 #[.val (.int p0), .val (.int p1), .val (.int p2), .val (.int p3), .val (.int p4), .val (.int p5), .val (.int (1 : Int32)), .unset, .unset, .unset, .unset, .unset, .unset, .unset, .unset, .unset, .unset, .unset, .unset] [(.int (p1 &&& (255 : Int32)))])) _
      refine XS.istore X0.here hx rfl (hb hby at_30) rfl (l' := #[.val (.int p0), .val (.int p1), .val (.int p2), .val (.int p3), .val (.int p4), .val (.int p5), .val (.int (1 : Int32)), .val (.int (p1 &&& (255 : Int32))), .unset, .unset, .unset, .unset, .unset, .unset, .unset, .unset, .unset, .unset, .unset]) rfl ?_
      show Steps p.tables e below (s₁.setTop (mkF m 32 #[.val (.int p0), .val (.int p1), .val (.int p2), .val (.int p3), .val (.int p4), .val (.int p5), .val (.int (1 : Int32)), .val (.int (p1 &&& (255 : Int32))), .unset, .unset, .unset, .unset, .unset, .unset, .unset, .unset, .unset, .unset, .unset] [])) _
      refine XS.iload X0.here hx rfl (hb hby at_32) rfl ?_
      show Steps p.tables e below (s₁.setTop (mkF m 34 #[.val (.int p0), .val (.int p1), .val (.int p2), .val (.int p3), .val (.int p4), .val (.int p5), .val (.int (1 : Int32)), .val (.int (p1 &&& (255 : Int32))), .unset, .unset, .unset, .unset, .unset, .unset, .unset, .unset, .unset, .unset, .unset] [(.int (1 : Int32))])) _
      refine XS.ifNo X0.here hx rfl (hb hby at_34) rfl ((if0 _ _).trans (feq (by decide)).1) ?_
      show Steps p.tables e below (s₁.setTop (mkF m 37 #[.val (.int p0), .val (.int p1), .val (.int p2), .val (.int p3), .val (.int p4), .val (.int p5), .val (.int (1 : Int32)), .val (.int (p1 &&& (255 : Int32))), .unset, .unset, .unset, .unset, .unset, .unset, .unset, .unset, .unset, .unset, .unset] [])) _
      refine XS.iloadN X0.here hx rfl (hb hby at_37) rfl ?_
      show Steps p.tables e below (s₁.setTop (mkF m 38 #[.val (.int p0), .val (.int p1), .val (.int p2), .val (.int p3), .val (.int p4), .val (.int p5), .val (.int (1 : Int32)), .val (.int (p1 &&& (255 : Int32))), .unset, .unset, .unset, .unset, .unset, .unset, .unset, .unset, .unset, .unset, .unset] [(.int p2)])) _
      refine XS.sipush X0.here hx rfl (hb hby at_38) ?_
      show Steps p.tables e below (s₁.setTop (mkF m 41 #[.val (.int p0), .val (.int p1), .val (.int p2), .val (.int p3), .val (.int p4), .val (.int p5), .val (.int (1 : Int32)), .val (.int (p1 &&& (255 : Int32))), .unset, .unset, .unset, .unset, .unset, .unset, .unset, .unset, .unset, .unset, .unset] [(.int (255 : Int32)), (.int p2)])) _
      refine XS.iand X0.here hx rfl (hb hby at_41) rfl ?_
      show Steps p.tables e below (s₁.setTop (mkF m 42 #[.val (.int p0), .val (.int p1), .val (.int p2), .val (.int p3), .val (.int p4), .val (.int p5), .val (.int (1 : Int32)), .val (.int (p1 &&& (255 : Int32))), .unset, .unset, .unset, .unset, .unset, .unset, .unset, .unset, .unset, .unset, .unset] [(.int (p2 &&& (255 : Int32)))])) _
      refine XS.goto X0.here hx rfl (pc0 := 42) (pc' := 49) rfl (hb hby at_42) (by decide) (by decide) ?_
      show Steps p.tables e below (s₁.setTop (mkF m 49 #[.val (.int p0), .val (.int p1), .val (.int p2), .val (.int p3), .val (.int p4), .val (.int p5), .val (.int (1 : Int32)), .val (.int (p1 &&& (255 : Int32))), .unset, .unset, .unset, .unset, .unset, .unset, .unset, .unset, .unset, .unset, .unset] [(.int (p2 &&& (255 : Int32)))])) _
      refine XS.istore X0.here hx rfl (hb hby at_49) rfl (l' := #[.val (.int p0), .val (.int p1), .val (.int p2), .val (.int p3), .val (.int p4), .val (.int p5), .val (.int (1 : Int32)), .val (.int (p1 &&& (255 : Int32))), .val (.int (p2 &&& (255 : Int32))), .unset, .unset, .unset, .unset, .unset, .unset, .unset, .unset, .unset, .unset]) rfl ?_
      show Steps p.tables e below (s₁.setTop (mkF m 51 #[.val (.int p0), .val (.int p1), .val (.int p2), .val (.int p3), .val (.int p4), .val (.int p5), .val (.int (1 : Int32)), .val (.int (p1 &&& (255 : Int32))), .val (.int (p2 &&& (255 : Int32))), .unset, .unset, .unset, .unset, .unset, .unset, .unset, .unset, .unset, .unset] [])) _
      refine XS.iload X0.here hx rfl (hb hby at_51) rfl ?_
      show Steps p.tables e below (s₁.setTop (mkF m 53 #[.val (.int p0), .val (.int p1), .val (.int p2), .val (.int p3), .val (.int p4), .val (.int p5), .val (.int (1 : Int32)), .val (.int (p1 &&& (255 : Int32))), .val (.int (p2 &&& (255 : Int32))), .unset, .unset, .unset, .unset, .unset, .unset, .unset, .unset, .unset, .unset] [(.int (p1 &&& (255 : Int32)))])) _
      refine XS.i2l X0.here hx rfl (hb hby at_53) rfl ?_
      show Steps p.tables e below (s₁.setTop (mkF m 54 #[.val (.int p0), .val (.int p1), .val (.int p2), .val (.int p3), .val (.int p4), .val (.int p5), .val (.int (1 : Int32)), .val (.int (p1 &&& (255 : Int32))), .val (.int (p2 &&& (255 : Int32))), .unset, .unset, .unset, .unset, .unset, .unset, .unset, .unset, .unset, .unset] [(.long ((p1 &&& (255 : Int32)).toInt64))])) _
      refine XS.iload X0.here hx rfl (hb hby at_54) rfl ?_
      show Steps p.tables e below (s₁.setTop (mkF m 56 #[.val (.int p0), .val (.int p1), .val (.int p2), .val (.int p3), .val (.int p4), .val (.int p5), .val (.int (1 : Int32)), .val (.int (p1 &&& (255 : Int32))), .val (.int (p2 &&& (255 : Int32))), .unset, .unset, .unset, .unset, .unset, .unset, .unset, .unset, .unset, .unset] [(.int (p2 &&& (255 : Int32))), (.long ((p1 &&& (255 : Int32)).toInt64))])) _
      refine XS.i2l X0.here hx rfl (hb hby at_56) rfl ?_
      show Steps p.tables e below (s₁.setTop (mkF m 57 #[.val (.int p0), .val (.int p1), .val (.int p2), .val (.int p3), .val (.int p4), .val (.int p5), .val (.int (1 : Int32)), .val (.int (p1 &&& (255 : Int32))), .val (.int (p2 &&& (255 : Int32))), .unset, .unset, .unset, .unset, .unset, .unset, .unset, .unset, .unset, .unset] [(.long ((p2 &&& (255 : Int32)).toInt64)), (.long ((p1 &&& (255 : Int32)).toInt64))])) _
      refine XS.ladd X0.here hx rfl (hb hby at_57) rfl ?_
      show Steps p.tables e below (s₁.setTop (mkF m 58 #[.val (.int p0), .val (.int p1), .val (.int p2), .val (.int p3), .val (.int p4), .val (.int p5), .val (.int (1 : Int32)), .val (.int (p1 &&& (255 : Int32))), .val (.int (p2 &&& (255 : Int32))), .unset, .unset, .unset, .unset, .unset, .unset, .unset, .unset, .unset, .unset] [(.long (((p1 &&& (255 : Int32)).toInt64) + ((p2 &&& (255 : Int32)).toInt64)))])) _
      refine XS.lconst X0.here hx rfl (hb hby at_58) ?_
      show Steps p.tables e below (s₁.setTop (mkF m 59 #[.val (.int p0), .val (.int p1), .val (.int p2), .val (.int p3), .val (.int p4), .val (.int p5), .val (.int (1 : Int32)), .val (.int (p1 &&& (255 : Int32))), .val (.int (p2 &&& (255 : Int32))), .unset, .unset, .unset, .unset, .unset, .unset, .unset, .unset, .unset, .unset] [(.long (1 : Int64)), (.long (((p1 &&& (255 : Int32)).toInt64) + ((p2 &&& (255 : Int32)).toInt64)))])) _
      refine XS.ladd X0.here hx rfl (hb hby at_59) rfl ?_
      show Steps p.tables e below (s₁.setTop (mkF m 60 #[.val (.int p0), .val (.int p1), .val (.int p2), .val (.int p3), .val (.int p4), .val (.int p5), .val (.int (1 : Int32)), .val (.int (p1 &&& (255 : Int32))), .val (.int (p2 &&& (255 : Int32))), .unset, .unset, .unset, .unset, .unset, .unset, .unset, .unset, .unset, .unset] [(.long ((((p1 &&& (255 : Int32)).toInt64) + ((p2 &&& (255 : Int32)).toInt64)) + (1 : Int64)))])) _
      refine XS.lstore X0.here hx rfl (hb hby at_60) rfl (l' := #[.val (.int p0), .val (.int p1), .val (.int p2), .val (.int p3), .val (.int p4), .val (.int p5), .val (.int (1 : Int32)), .val (.int (p1 &&& (255 : Int32))), .val (.int (p2 &&& (255 : Int32))), .val (.long ((((p1 &&& (255 : Int32)).toInt64) + ((p2 &&& (255 : Int32)).toInt64)) + (1 : Int64))), .second, .unset, .unset, .unset, .unset, .unset, .unset, .unset, .unset]) rfl ?_
      exact kont
    obtain ⟨sA, hsA⟩ : ∃ z : Int32, z = (p1 &&& (255 : Int32)) := ⟨_, rfl⟩
    rw [← hsA] at pre308
    obtain ⟨sB, hsB⟩ : ∃ z : Int32, z = (p2 &&& (255 : Int32)) := ⟨_, rfl⟩
    rw [← hsB] at pre308
    obtain ⟨cn, hcn⟩ : ∃ z : Int64, z = (((sA.toInt64) + (sB.toInt64)) + (1 : Int64)) := ⟨_, rfl⟩
    rw [← hcn] at pre308
    have qA : 0 ≤ sA.toInt := by rw [hsA]; exact (own_m8 _).1
    have qB : 0 ≤ sB.toInt := by rw [hsB]; exact (own_m8 _).1
    have uA : sA.toInt ≤ 255 := by rw [hsA]; have := own_m8 p1; omega
    have uB : sB.toInt ≤ 255 := by rw [hsB]; have := own_m8 p2; omega
    have rA := rng32 sA
    have rB := rng32 sB
    have hcv : cn.toInt = sA.toInt + sB.toInt + 1 := by rw [hcn, own_xv]
    have hcz : cn ≠ 0 := own_cz (by omega)
    have hX : ((sA.toInt64 + sB.toInt64) + (1 : Int64)) = cn := hcn.symm
    have hX1 : 1 ≤ (((sA.toInt64 + sB.toInt64) + (1 : Int64))).toInt := by rw [own_xv]; omega
    have pre309 : ∀ t, Steps p.tables e below (s₁.setTop (mkF m 97 #[.val (.int p0), .val (.int p1), .val (.int p2), .val (.int p3), .val (.int p4), .val (.int p5), .val (.int (1 : Int32)), .val (.int sA), .val (.int sB), .val (.long cn), .second, .val (.int ((cn.toInt32) + (p3 &&& (7 : Int32)))), .unset, .unset, .unset, .unset, .unset, .unset, .unset] [])) t → Steps p.tables e below (s₁.setTop (entryFrame m #[(.int p0), (.int p1), (.int p2), (.int p3), (.int p4), (.int p5)] maxLocals)) t := by
      intro t kont
      refine pre308 t ?_
      show Steps p.tables e below (s₁.setTop (mkF m 62 #[.val (.int p0), .val (.int p1), .val (.int p2), .val (.int p3), .val (.int p4), .val (.int p5), .val (.int (1 : Int32)), .val (.int sA), .val (.int sB), .val (.long cn), .second, .unset, .unset, .unset, .unset, .unset, .unset, .unset, .unset] [])) _
      refine XS.iload X0.here hx rfl (hb hby at_62) rfl ?_
      show Steps p.tables e below (s₁.setTop (mkF m 64 #[.val (.int p0), .val (.int p1), .val (.int p2), .val (.int p3), .val (.int p4), .val (.int p5), .val (.int (1 : Int32)), .val (.int sA), .val (.int sB), .val (.long cn), .second, .unset, .unset, .unset, .unset, .unset, .unset, .unset, .unset] [(.int (1 : Int32))])) _
      refine XS.ifNo X0.here hx rfl (hb hby at_64) rfl ((if0 _ _).trans (feq (by decide)).1) ?_
      show Steps p.tables e below (s₁.setTop (mkF m 67 #[.val (.int p0), .val (.int p1), .val (.int p2), .val (.int p3), .val (.int p4), .val (.int p5), .val (.int (1 : Int32)), .val (.int sA), .val (.int sB), .val (.long cn), .second, .unset, .unset, .unset, .unset, .unset, .unset, .unset, .unset] [])) _
      refine XS.lload X0.here hx rfl (hb hby at_67) rfl ?_
      show Steps p.tables e below (s₁.setTop (mkF m 69 #[.val (.int p0), .val (.int p1), .val (.int p2), .val (.int p3), .val (.int p4), .val (.int p5), .val (.int (1 : Int32)), .val (.int sA), .val (.int sB), .val (.long cn), .second, .unset, .unset, .unset, .unset, .unset, .unset, .unset, .unset] [(.long cn)])) _
      refine XS.l2i X0.here hx rfl (hb hby at_69) rfl ?_
      show Steps p.tables e below (s₁.setTop (mkF m 70 #[.val (.int p0), .val (.int p1), .val (.int p2), .val (.int p3), .val (.int p4), .val (.int p5), .val (.int (1 : Int32)), .val (.int sA), .val (.int sB), .val (.long cn), .second, .unset, .unset, .unset, .unset, .unset, .unset, .unset, .unset] [(.int (cn.toInt32))])) _
      refine XS.iloadN X0.here hx rfl (hb hby at_70) rfl ?_
      show Steps p.tables e below (s₁.setTop (mkF m 71 #[.val (.int p0), .val (.int p1), .val (.int p2), .val (.int p3), .val (.int p4), .val (.int p5), .val (.int (1 : Int32)), .val (.int sA), .val (.int sB), .val (.long cn), .second, .unset, .unset, .unset, .unset, .unset, .unset, .unset, .unset] [(.int p3), (.int (cn.toInt32))])) _
      refine XS.bipush X0.here hx rfl (hb hby at_71) ?_
      show Steps p.tables e below (s₁.setTop (mkF m 73 #[.val (.int p0), .val (.int p1), .val (.int p2), .val (.int p3), .val (.int p4), .val (.int p5), .val (.int (1 : Int32)), .val (.int sA), .val (.int sB), .val (.long cn), .second, .unset, .unset, .unset, .unset, .unset, .unset, .unset, .unset] [(.int (7 : Int32)), (.int p3), (.int (cn.toInt32))])) _
      refine XS.iand X0.here hx rfl (hb hby at_73) rfl ?_
      show Steps p.tables e below (s₁.setTop (mkF m 74 #[.val (.int p0), .val (.int p1), .val (.int p2), .val (.int p3), .val (.int p4), .val (.int p5), .val (.int (1 : Int32)), .val (.int sA), .val (.int sB), .val (.long cn), .second, .unset, .unset, .unset, .unset, .unset, .unset, .unset, .unset] [(.int (p3 &&& (7 : Int32))), (.int (cn.toInt32))])) _
      refine XS.iadd X0.here hx rfl (hb hby at_74) rfl ?_
      show Steps p.tables e below (s₁.setTop (mkF m 75 #[.val (.int p0), .val (.int p1), .val (.int p2), .val (.int p3), .val (.int p4), .val (.int p5), .val (.int (1 : Int32)), .val (.int sA), .val (.int sB), .val (.long cn), .second, .unset, .unset, .unset, .unset, .unset, .unset, .unset, .unset] [(.int ((cn.toInt32) + (p3 &&& (7 : Int32))))])) _
      refine XS.goto X0.here hx rfl (pc0 := 75) (pc' := 95) rfl (hb hby at_75) (by decide) (by decide) ?_
      show Steps p.tables e below (s₁.setTop (mkF m 95 #[.val (.int p0), .val (.int p1), .val (.int p2), .val (.int p3), .val (.int p4), .val (.int p5), .val (.int (1 : Int32)), .val (.int sA), .val (.int sB), .val (.long cn), .second, .unset, .unset, .unset, .unset, .unset, .unset, .unset, .unset] [(.int ((cn.toInt32) + (p3 &&& (7 : Int32))))])) _
      refine XS.istore X0.here hx rfl (hb hby at_95) rfl (l' := #[.val (.int p0), .val (.int p1), .val (.int p2), .val (.int p3), .val (.int p4), .val (.int p5), .val (.int (1 : Int32)), .val (.int sA), .val (.int sB), .val (.long cn), .second, .val (.int ((cn.toInt32) + (p3 &&& (7 : Int32)))), .unset, .unset, .unset, .unset, .unset, .unset, .unset]) rfl ?_
      exact kont
    obtain ⟨dr, hdr⟩ : ∃ z : Int32, z = ((cn.toInt32) + (p3 &&& (7 : Int32))) := ⟨_, rfl⟩
    rw [← hdr] at pre309
    have hno : ¬ (dr.toInt64 < ((sA.toInt64 + sB.toInt64) + (1 : Int64))) := by rw [hX]; exact own_drA (by omega) (by omega) hdr
    have hcap : ¬ (dr.toInt64 < ((sA.toInt64 + sB.toInt64) + (1 : Int64))) → (((sA.toInt64 + sB.toInt64) + (1 : Int64))).toInt ≤ (511 : Nat) := fun _ => by rw [own_xv]; omega
    have pre310 : ∀ t, Steps p.tables e below (s₁.setTop (mkF m 141 #[.val (.int p0), .val (.int p1), .val (.int p2), .val (.int p3), .val (.int p4), .val (.int p5), .val (.int (1 : Int32)), .val (.int sA), .val (.int sB), .val (.long cn), .second, .val (.int dr), .val (.int (((((p4.toInt64) &&& (4294967295 : Int64)) % cn) - (sA.toInt64)).toInt32)), .val (.int (((((p5.toInt64) &&& (4294967295 : Int64)) % cn) - (sA.toInt64)).toInt32)), .val (.int ((((p0.toUInt32 >>> ((1 : Int32) &&& 31).toUInt32).toInt32) &&& (65535 : Int32)) + (1 : Int32))), .unset, .unset, .unset, .unset] [])) t → Steps p.tables e below (s₁.setTop (entryFrame m #[(.int p0), (.int p1), (.int p2), (.int p3), (.int p4), (.int p5)] maxLocals)) t := by
      intro t kont
      refine pre309 t ?_
      show Steps p.tables e below (s₁.setTop (mkF m 97 #[.val (.int p0), .val (.int p1), .val (.int p2), .val (.int p3), .val (.int p4), .val (.int p5), .val (.int (1 : Int32)), .val (.int sA), .val (.int sB), .val (.long cn), .second, .val (.int dr), .unset, .unset, .unset, .unset, .unset, .unset, .unset] [])) _
      refine XS.iload X0.here hx rfl (hb hby at_97) rfl ?_
      show Steps p.tables e below (s₁.setTop (mkF m 99 #[.val (.int p0), .val (.int p1), .val (.int p2), .val (.int p3), .val (.int p4), .val (.int p5), .val (.int (1 : Int32)), .val (.int sA), .val (.int sB), .val (.long cn), .second, .val (.int dr), .unset, .unset, .unset, .unset, .unset, .unset, .unset] [(.int p4)])) _
      refine XS.i2l X0.here hx rfl (hb hby at_99) rfl ?_
      show Steps p.tables e below (s₁.setTop (mkF m 100 #[.val (.int p0), .val (.int p1), .val (.int p2), .val (.int p3), .val (.int p4), .val (.int p5), .val (.int (1 : Int32)), .val (.int sA), .val (.int sB), .val (.long cn), .second, .val (.int dr), .unset, .unset, .unset, .unset, .unset, .unset, .unset] [(.long (p4.toInt64))])) _
      refine X0.ldc2Long hx hown (mvT hZ (hw _ (List.mem_of_getElem? (i := 6) rfl))) (g := (mkF m 100 #[.val (.int p0), .val (.int p1), .val (.int p2), .val (.int p3), .val (.int p4), .val (.int p5), .val (.int (1 : Int32)), .val (.int sA), .val (.int sB), .val (.long cn), .second, .val (.int dr), .unset, .unset, .unset, .unset, .unset, .unset, .unset] [(.long (p4.toInt64))])) rfl (hb hby at_100) _ ?_
      show Steps p.tables e below (s₁.setTop (mkF m 103 #[.val (.int p0), .val (.int p1), .val (.int p2), .val (.int p3), .val (.int p4), .val (.int p5), .val (.int (1 : Int32)), .val (.int sA), .val (.int sB), .val (.long cn), .second, .val (.int dr), .unset, .unset, .unset, .unset, .unset, .unset, .unset] [(.long (4294967295 : Int64)), (.long (p4.toInt64))])) _
      refine XS.land X0.here hx rfl (hb hby at_103) rfl ?_
      show Steps p.tables e below (s₁.setTop (mkF m 104 #[.val (.int p0), .val (.int p1), .val (.int p2), .val (.int p3), .val (.int p4), .val (.int p5), .val (.int (1 : Int32)), .val (.int sA), .val (.int sB), .val (.long cn), .second, .val (.int dr), .unset, .unset, .unset, .unset, .unset, .unset, .unset] [(.long ((p4.toInt64) &&& (4294967295 : Int64)))])) _
      refine XS.lload X0.here hx rfl (hb hby at_104) rfl ?_
      show Steps p.tables e below (s₁.setTop (mkF m 106 #[.val (.int p0), .val (.int p1), .val (.int p2), .val (.int p3), .val (.int p4), .val (.int p5), .val (.int (1 : Int32)), .val (.int sA), .val (.int sB), .val (.long cn), .second, .val (.int dr), .unset, .unset, .unset, .unset, .unset, .unset, .unset] [(.long cn), (.long ((p4.toInt64) &&& (4294967295 : Int64)))])) _
      refine XS.lrem X0.here hx rfl (hb hby at_106) rfl hcz ?_
      rw [lrem_mod]
      show Steps p.tables e below (s₁.setTop (mkF m 107 #[.val (.int p0), .val (.int p1), .val (.int p2), .val (.int p3), .val (.int p4), .val (.int p5), .val (.int (1 : Int32)), .val (.int sA), .val (.int sB), .val (.long cn), .second, .val (.int dr), .unset, .unset, .unset, .unset, .unset, .unset, .unset] [(.long (((p4.toInt64) &&& (4294967295 : Int64)) % cn))])) _
      refine XS.iload X0.here hx rfl (hb hby at_107) rfl ?_
      show Steps p.tables e below (s₁.setTop (mkF m 109 #[.val (.int p0), .val (.int p1), .val (.int p2), .val (.int p3), .val (.int p4), .val (.int p5), .val (.int (1 : Int32)), .val (.int sA), .val (.int sB), .val (.long cn), .second, .val (.int dr), .unset, .unset, .unset, .unset, .unset, .unset, .unset] [(.int sA), (.long (((p4.toInt64) &&& (4294967295 : Int64)) % cn))])) _
      refine XS.i2l X0.here hx rfl (hb hby at_109) rfl ?_
      show Steps p.tables e below (s₁.setTop (mkF m 110 #[.val (.int p0), .val (.int p1), .val (.int p2), .val (.int p3), .val (.int p4), .val (.int p5), .val (.int (1 : Int32)), .val (.int sA), .val (.int sB), .val (.long cn), .second, .val (.int dr), .unset, .unset, .unset, .unset, .unset, .unset, .unset] [(.long (sA.toInt64)), (.long (((p4.toInt64) &&& (4294967295 : Int64)) % cn))])) _
      refine XS.lsub X0.here hx rfl (hb hby at_110) rfl ?_
      show Steps p.tables e below (s₁.setTop (mkF m 111 #[.val (.int p0), .val (.int p1), .val (.int p2), .val (.int p3), .val (.int p4), .val (.int p5), .val (.int (1 : Int32)), .val (.int sA), .val (.int sB), .val (.long cn), .second, .val (.int dr), .unset, .unset, .unset, .unset, .unset, .unset, .unset] [(.long ((((p4.toInt64) &&& (4294967295 : Int64)) % cn) - (sA.toInt64)))])) _
      refine XS.l2i X0.here hx rfl (hb hby at_111) rfl ?_
      show Steps p.tables e below (s₁.setTop (mkF m 112 #[.val (.int p0), .val (.int p1), .val (.int p2), .val (.int p3), .val (.int p4), .val (.int p5), .val (.int (1 : Int32)), .val (.int sA), .val (.int sB), .val (.long cn), .second, .val (.int dr), .unset, .unset, .unset, .unset, .unset, .unset, .unset] [(.int (((((p4.toInt64) &&& (4294967295 : Int64)) % cn) - (sA.toInt64)).toInt32))])) _
      refine XS.istore X0.here hx rfl (hb hby at_112) rfl (l' := #[.val (.int p0), .val (.int p1), .val (.int p2), .val (.int p3), .val (.int p4), .val (.int p5), .val (.int (1 : Int32)), .val (.int sA), .val (.int sB), .val (.long cn), .second, .val (.int dr), .val (.int (((((p4.toInt64) &&& (4294967295 : Int64)) % cn) - (sA.toInt64)).toInt32)), .unset, .unset, .unset, .unset, .unset, .unset]) rfl ?_
      show Steps p.tables e below (s₁.setTop (mkF m 114 #[.val (.int p0), .val (.int p1), .val (.int p2), .val (.int p3), .val (.int p4), .val (.int p5), .val (.int (1 : Int32)), .val (.int sA), .val (.int sB), .val (.long cn), .second, .val (.int dr), .val (.int (((((p4.toInt64) &&& (4294967295 : Int64)) % cn) - (sA.toInt64)).toInt32)), .unset, .unset, .unset, .unset, .unset, .unset] [])) _
      refine XS.iload X0.here hx rfl (hb hby at_114) rfl ?_
      show Steps p.tables e below (s₁.setTop (mkF m 116 #[.val (.int p0), .val (.int p1), .val (.int p2), .val (.int p3), .val (.int p4), .val (.int p5), .val (.int (1 : Int32)), .val (.int sA), .val (.int sB), .val (.long cn), .second, .val (.int dr), .val (.int (((((p4.toInt64) &&& (4294967295 : Int64)) % cn) - (sA.toInt64)).toInt32)), .unset, .unset, .unset, .unset, .unset, .unset] [(.int p5)])) _
      refine XS.i2l X0.here hx rfl (hb hby at_116) rfl ?_
      show Steps p.tables e below (s₁.setTop (mkF m 117 #[.val (.int p0), .val (.int p1), .val (.int p2), .val (.int p3), .val (.int p4), .val (.int p5), .val (.int (1 : Int32)), .val (.int sA), .val (.int sB), .val (.long cn), .second, .val (.int dr), .val (.int (((((p4.toInt64) &&& (4294967295 : Int64)) % cn) - (sA.toInt64)).toInt32)), .unset, .unset, .unset, .unset, .unset, .unset] [(.long (p5.toInt64))])) _
      refine X0.ldc2Long hx hown (mvT hZ (hw _ (List.mem_of_getElem? (i := 6) rfl))) (g := (mkF m 117 #[.val (.int p0), .val (.int p1), .val (.int p2), .val (.int p3), .val (.int p4), .val (.int p5), .val (.int (1 : Int32)), .val (.int sA), .val (.int sB), .val (.long cn), .second, .val (.int dr), .val (.int (((((p4.toInt64) &&& (4294967295 : Int64)) % cn) - (sA.toInt64)).toInt32)), .unset, .unset, .unset, .unset, .unset, .unset] [(.long (p5.toInt64))])) rfl (hb hby at_117) _ ?_
      show Steps p.tables e below (s₁.setTop (mkF m 120 #[.val (.int p0), .val (.int p1), .val (.int p2), .val (.int p3), .val (.int p4), .val (.int p5), .val (.int (1 : Int32)), .val (.int sA), .val (.int sB), .val (.long cn), .second, .val (.int dr), .val (.int (((((p4.toInt64) &&& (4294967295 : Int64)) % cn) - (sA.toInt64)).toInt32)), .unset, .unset, .unset, .unset, .unset, .unset] [(.long (4294967295 : Int64)), (.long (p5.toInt64))])) _
      refine XS.land X0.here hx rfl (hb hby at_120) rfl ?_
      show Steps p.tables e below (s₁.setTop (mkF m 121 #[.val (.int p0), .val (.int p1), .val (.int p2), .val (.int p3), .val (.int p4), .val (.int p5), .val (.int (1 : Int32)), .val (.int sA), .val (.int sB), .val (.long cn), .second, .val (.int dr), .val (.int (((((p4.toInt64) &&& (4294967295 : Int64)) % cn) - (sA.toInt64)).toInt32)), .unset, .unset, .unset, .unset, .unset, .unset] [(.long ((p5.toInt64) &&& (4294967295 : Int64)))])) _
      refine XS.lload X0.here hx rfl (hb hby at_121) rfl ?_
      show Steps p.tables e below (s₁.setTop (mkF m 123 #[.val (.int p0), .val (.int p1), .val (.int p2), .val (.int p3), .val (.int p4), .val (.int p5), .val (.int (1 : Int32)), .val (.int sA), .val (.int sB), .val (.long cn), .second, .val (.int dr), .val (.int (((((p4.toInt64) &&& (4294967295 : Int64)) % cn) - (sA.toInt64)).toInt32)), .unset, .unset, .unset, .unset, .unset, .unset] [(.long cn), (.long ((p5.toInt64) &&& (4294967295 : Int64)))])) _
      refine XS.lrem X0.here hx rfl (hb hby at_123) rfl hcz ?_
      rw [lrem_mod]
      show Steps p.tables e below (s₁.setTop (mkF m 124 #[.val (.int p0), .val (.int p1), .val (.int p2), .val (.int p3), .val (.int p4), .val (.int p5), .val (.int (1 : Int32)), .val (.int sA), .val (.int sB), .val (.long cn), .second, .val (.int dr), .val (.int (((((p4.toInt64) &&& (4294967295 : Int64)) % cn) - (sA.toInt64)).toInt32)), .unset, .unset, .unset, .unset, .unset, .unset] [(.long (((p5.toInt64) &&& (4294967295 : Int64)) % cn))])) _
      refine XS.iload X0.here hx rfl (hb hby at_124) rfl ?_
      show Steps p.tables e below (s₁.setTop (mkF m 126 #[.val (.int p0), .val (.int p1), .val (.int p2), .val (.int p3), .val (.int p4), .val (.int p5), .val (.int (1 : Int32)), .val (.int sA), .val (.int sB), .val (.long cn), .second, .val (.int dr), .val (.int (((((p4.toInt64) &&& (4294967295 : Int64)) % cn) - (sA.toInt64)).toInt32)), .unset, .unset, .unset, .unset, .unset, .unset] [(.int sA), (.long (((p5.toInt64) &&& (4294967295 : Int64)) % cn))])) _
      refine XS.i2l X0.here hx rfl (hb hby at_126) rfl ?_
      show Steps p.tables e below (s₁.setTop (mkF m 127 #[.val (.int p0), .val (.int p1), .val (.int p2), .val (.int p3), .val (.int p4), .val (.int p5), .val (.int (1 : Int32)), .val (.int sA), .val (.int sB), .val (.long cn), .second, .val (.int dr), .val (.int (((((p4.toInt64) &&& (4294967295 : Int64)) % cn) - (sA.toInt64)).toInt32)), .unset, .unset, .unset, .unset, .unset, .unset] [(.long (sA.toInt64)), (.long (((p5.toInt64) &&& (4294967295 : Int64)) % cn))])) _
      refine XS.lsub X0.here hx rfl (hb hby at_127) rfl ?_
      show Steps p.tables e below (s₁.setTop (mkF m 128 #[.val (.int p0), .val (.int p1), .val (.int p2), .val (.int p3), .val (.int p4), .val (.int p5), .val (.int (1 : Int32)), .val (.int sA), .val (.int sB), .val (.long cn), .second, .val (.int dr), .val (.int (((((p4.toInt64) &&& (4294967295 : Int64)) % cn) - (sA.toInt64)).toInt32)), .unset, .unset, .unset, .unset, .unset, .unset] [(.long ((((p5.toInt64) &&& (4294967295 : Int64)) % cn) - (sA.toInt64)))])) _
      refine XS.l2i X0.here hx rfl (hb hby at_128) rfl ?_
      show Steps p.tables e below (s₁.setTop (mkF m 129 #[.val (.int p0), .val (.int p1), .val (.int p2), .val (.int p3), .val (.int p4), .val (.int p5), .val (.int (1 : Int32)), .val (.int sA), .val (.int sB), .val (.long cn), .second, .val (.int dr), .val (.int (((((p4.toInt64) &&& (4294967295 : Int64)) % cn) - (sA.toInt64)).toInt32)), .unset, .unset, .unset, .unset, .unset, .unset] [(.int (((((p5.toInt64) &&& (4294967295 : Int64)) % cn) - (sA.toInt64)).toInt32))])) _
      refine XS.istore X0.here hx rfl (hb hby at_129) rfl (l' := #[.val (.int p0), .val (.int p1), .val (.int p2), .val (.int p3), .val (.int p4), .val (.int p5), .val (.int (1 : Int32)), .val (.int sA), .val (.int sB), .val (.long cn), .second, .val (.int dr), .val (.int (((((p4.toInt64) &&& (4294967295 : Int64)) % cn) - (sA.toInt64)).toInt32)), .val (.int (((((p5.toInt64) &&& (4294967295 : Int64)) % cn) - (sA.toInt64)).toInt32)), .unset, .unset, .unset, .unset, .unset]) rfl ?_
      show Steps p.tables e below (s₁.setTop (mkF m 131 #[.val (.int p0), .val (.int p1), .val (.int p2), .val (.int p3), .val (.int p4), .val (.int p5), .val (.int (1 : Int32)), .val (.int sA), .val (.int sB), .val (.long cn), .second, .val (.int dr), .val (.int (((((p4.toInt64) &&& (4294967295 : Int64)) % cn) - (sA.toInt64)).toInt32)), .val (.int (((((p5.toInt64) &&& (4294967295 : Int64)) % cn) - (sA.toInt64)).toInt32)), .unset, .unset, .unset, .unset, .unset] [])) _
      refine XS.iloadN X0.here hx rfl (hb hby at_131) rfl ?_
      show Steps p.tables e below (s₁.setTop (mkF m 132 #[.val (.int p0), .val (.int p1), .val (.int p2), .val (.int p3), .val (.int p4), .val (.int p5), .val (.int (1 : Int32)), .val (.int sA), .val (.int sB), .val (.long cn), .second, .val (.int dr), .val (.int (((((p4.toInt64) &&& (4294967295 : Int64)) % cn) - (sA.toInt64)).toInt32)), .val (.int (((((p5.toInt64) &&& (4294967295 : Int64)) % cn) - (sA.toInt64)).toInt32)), .unset, .unset, .unset, .unset, .unset] [(.int p0)])) _
      refine XS.iconst X0.here hx rfl (hb hby at_132) ?_
      show Steps p.tables e below (s₁.setTop (mkF m 133 #[.val (.int p0), .val (.int p1), .val (.int p2), .val (.int p3), .val (.int p4), .val (.int p5), .val (.int (1 : Int32)), .val (.int sA), .val (.int sB), .val (.long cn), .second, .val (.int dr), .val (.int (((((p4.toInt64) &&& (4294967295 : Int64)) % cn) - (sA.toInt64)).toInt32)), .val (.int (((((p5.toInt64) &&& (4294967295 : Int64)) % cn) - (sA.toInt64)).toInt32)), .unset, .unset, .unset, .unset, .unset] [(.int (1 : Int32)), (.int p0)])) _
      refine XS.iushr X0.here hx rfl (hb hby at_133) rfl ?_
      show Steps p.tables e below (s₁.setTop (mkF m 134 #[.val (.int p0), .val (.int p1), .val (.int p2), .val (.int p3), .val (.int p4), .val (.int p5), .val (.int (1 : Int32)), .val (.int sA), .val (.int sB), .val (.long cn), .second, .val (.int dr), .val (.int (((((p4.toInt64) &&& (4294967295 : Int64)) % cn) - (sA.toInt64)).toInt32)), .val (.int (((((p5.toInt64) &&& (4294967295 : Int64)) % cn) - (sA.toInt64)).toInt32)), .unset, .unset, .unset, .unset, .unset] [(.int ((p0.toUInt32 >>> ((1 : Int32) &&& 31).toUInt32).toInt32))])) _
      refine X0.ldcInt hx hown (mvT hZ (hw _ (List.mem_of_getElem? (i := 7) rfl))) (g := (mkF m 134 #[.val (.int p0), .val (.int p1), .val (.int p2), .val (.int p3), .val (.int p4), .val (.int p5), .val (.int (1 : Int32)), .val (.int sA), .val (.int sB), .val (.long cn), .second, .val (.int dr), .val (.int (((((p4.toInt64) &&& (4294967295 : Int64)) % cn) - (sA.toInt64)).toInt32)), .val (.int (((((p5.toInt64) &&& (4294967295 : Int64)) % cn) - (sA.toInt64)).toInt32)), .unset, .unset, .unset, .unset, .unset] [(.int ((p0.toUInt32 >>> ((1 : Int32) &&& 31).toUInt32).toInt32))])) rfl (hb hby at_134) _ ?_
      show Steps p.tables e below (s₁.setTop (mkF m 136 #[.val (.int p0), .val (.int p1), .val (.int p2), .val (.int p3), .val (.int p4), .val (.int p5), .val (.int (1 : Int32)), .val (.int sA), .val (.int sB), .val (.long cn), .second, .val (.int dr), .val (.int (((((p4.toInt64) &&& (4294967295 : Int64)) % cn) - (sA.toInt64)).toInt32)), .val (.int (((((p5.toInt64) &&& (4294967295 : Int64)) % cn) - (sA.toInt64)).toInt32)), .unset, .unset, .unset, .unset, .unset] [(.int (65535 : Int32)), (.int ((p0.toUInt32 >>> ((1 : Int32) &&& 31).toUInt32).toInt32))])) _
      refine XS.iand X0.here hx rfl (hb hby at_136) rfl ?_
      show Steps p.tables e below (s₁.setTop (mkF m 137 #[.val (.int p0), .val (.int p1), .val (.int p2), .val (.int p3), .val (.int p4), .val (.int p5), .val (.int (1 : Int32)), .val (.int sA), .val (.int sB), .val (.long cn), .second, .val (.int dr), .val (.int (((((p4.toInt64) &&& (4294967295 : Int64)) % cn) - (sA.toInt64)).toInt32)), .val (.int (((((p5.toInt64) &&& (4294967295 : Int64)) % cn) - (sA.toInt64)).toInt32)), .unset, .unset, .unset, .unset, .unset] [(.int (((p0.toUInt32 >>> ((1 : Int32) &&& 31).toUInt32).toInt32) &&& (65535 : Int32)))])) _
      refine XS.iconst X0.here hx rfl (hb hby at_137) ?_
      show Steps p.tables e below (s₁.setTop (mkF m 138 #[.val (.int p0), .val (.int p1), .val (.int p2), .val (.int p3), .val (.int p4), .val (.int p5), .val (.int (1 : Int32)), .val (.int sA), .val (.int sB), .val (.long cn), .second, .val (.int dr), .val (.int (((((p4.toInt64) &&& (4294967295 : Int64)) % cn) - (sA.toInt64)).toInt32)), .val (.int (((((p5.toInt64) &&& (4294967295 : Int64)) % cn) - (sA.toInt64)).toInt32)), .unset, .unset, .unset, .unset, .unset] [(.int (1 : Int32)), (.int (((p0.toUInt32 >>> ((1 : Int32) &&& 31).toUInt32).toInt32) &&& (65535 : Int32)))])) _
      refine XS.iadd X0.here hx rfl (hb hby at_138) rfl ?_
      show Steps p.tables e below (s₁.setTop (mkF m 139 #[.val (.int p0), .val (.int p1), .val (.int p2), .val (.int p3), .val (.int p4), .val (.int p5), .val (.int (1 : Int32)), .val (.int sA), .val (.int sB), .val (.long cn), .second, .val (.int dr), .val (.int (((((p4.toInt64) &&& (4294967295 : Int64)) % cn) - (sA.toInt64)).toInt32)), .val (.int (((((p5.toInt64) &&& (4294967295 : Int64)) % cn) - (sA.toInt64)).toInt32)), .unset, .unset, .unset, .unset, .unset] [(.int ((((p0.toUInt32 >>> ((1 : Int32) &&& 31).toUInt32).toInt32) &&& (65535 : Int32)) + (1 : Int32)))])) _
      refine XS.istore X0.here hx rfl (hb hby at_139) rfl (l' := #[.val (.int p0), .val (.int p1), .val (.int p2), .val (.int p3), .val (.int p4), .val (.int p5), .val (.int (1 : Int32)), .val (.int sA), .val (.int sB), .val (.long cn), .second, .val (.int dr), .val (.int (((((p4.toInt64) &&& (4294967295 : Int64)) % cn) - (sA.toInt64)).toInt32)), .val (.int (((((p5.toInt64) &&& (4294967295 : Int64)) % cn) - (sA.toInt64)).toInt32)), .val (.int ((((p0.toUInt32 >>> ((1 : Int32) &&& 31).toUInt32).toInt32) &&& (65535 : Int32)) + (1 : Int32))), .unset, .unset, .unset, .unset]) rfl ?_
      exact kont
    obtain ⟨a, ha⟩ : ∃ z : Int32, z = (((((p4.toInt64) &&& (4294967295 : Int64)) % cn) - (sA.toInt64)).toInt32) := ⟨_, rfl⟩
    rw [← ha] at pre310
    obtain ⟨bq, hbq⟩ : ∃ z : Int32, z = (((((p5.toInt64) &&& (4294967295 : Int64)) % cn) - (sA.toInt64)).toInt32) := ⟨_, rfl⟩
    rw [← hbq] at pre310
    obtain ⟨ev, hev⟩ : ∃ z : Int32, z = ((((p0.toUInt32 >>> ((1 : Int32) &&& 31).toUInt32).toInt32) &&& (65535 : Int32)) + (1 : Int32)) := ⟨_, rfl⟩
    rw [← hev] at pre310
    have va := own_av qA qB hcv ha
    have vb := own_av qA qB hcv hbq
    have sa := own_sv qA qB uA uB va
    have sb := own_sv qA qB uA uB vb
    have sa0 : 0 ≤ (a + sA).toInt := by omega
    have sb0 : 0 ≤ (bq + sA).toInt := by omega
    obtain ⟨T311, h311, X311, e311, E311, A311, D311, -, st311⟩ := newO X0 hx hZ hown (hw _ (List.mem_of_getElem? (i := 8) rfl)) (hw _ (List.mem_of_getElem? (i := 9) rfl)) (hw _ (List.mem_of_getElem? (i := 10) rfl)) e0 (g := (mkF m 141 #[.val (.int p0), .val (.int p1), .val (.int p2), .val (.int p3), .val (.int p4), .val (.int p5), .val (.int (1 : Int32)), .val (.int sA), .val (.int sB), .val (.long cn), .second, .val (.int dr), .val (.int a), .val (.int bq), .val (.int ev), .unset, .unset, .unset, .unset] [])) rfl (hb hby at_141) (by decide) (by decide)
    obtain ⟨b141, g311⟩ : ∃ z, z = h0.size := ⟨_, rfl⟩
    rw [← g311] at A311 D311 st311
    have g_b141 : n0 ≤ b141 := Nat.le_trans Z0 (Nat.le_of_eq g311.symm)
    have F311_endsByAlignment : Fld Z h311 b141 "com/example/impronta/impronta/engine/Alignments" "endsByAlignment" "[I" .null := D311 (Or.inl (hw _ (List.mem_of_getElem? (i := 19) rfl))) (ty := (.array .int)) (by decide)
    have F311_alignments : Fld Z h311 b141 "com/example/impronta/impronta/engine/Alignments" "alignments" "[I" .null := D311 (Or.inl (hw _ (List.mem_of_getElem? (i := 29) rfl))) (ty := (.array .int)) (by decide)
    have F311_ends : Fld Z h311 b141 "com/example/impronta/impronta/engine/Alignments" "ends" "[I" .null := D311 (Or.inl (hw _ (List.mem_of_getElem? (i := 31) rfl))) (ty := (.array .int)) (by decide)
    have F311_shift : Fld Z h311 b141 "com/example/impronta/impronta/engine/Alignments" "shift" "I" (.int (0 : Int32)) := D311 (Or.inl (hw _ (List.mem_of_getElem? (i := 33) rfl))) (ty := .int) (by decide)
    have F311_filled : Fld Z h311 b141 "com/example/impronta/impronta/engine/Alignments" "filled" "[I" .null := D311 (Or.inl (hw _ (List.mem_of_getElem? (i := 35) rfl))) (ty := (.array .int)) (by decide)
    have F311_direct : Fld Z h311 b141 "com/example/impronta/impronta/engine/Alignments" "direct" "I" (.int (0 : Int32)) := D311 (Or.inr (hw _ (List.mem_of_getElem? (i := 37) rfl))) (ty := .int) (by decide)
    have F311_ownSlots : Fld Z h311 b141 "com/example/impronta/impronta/engine/Alignments" "ownSlots" "Z" (.int (0 : Int32)) := D311 (Or.inl (hw _ (List.mem_of_getElem? (i := 44) rfl))) (ty := .boolean) (by decide)
    have F311_lowest : Fld Z h311 b141 "com/example/impronta/impronta/engine/Alignments" "lowest" "I" (.int (0 : Int32)) := D311 (Or.inl (hw _ (List.mem_of_getElem? (i := 46) rfl))) (ty := .int) (by decide)
    have F311_size : Fld Z h311 b141 "com/example/impronta/impronta/engine/Alignments" "size" "I" (.int (0 : Int32)) := D311 (Or.inl (hw _ (List.mem_of_getElem? (i := 64) rfl))) (ty := .int) (by decide)
    have Z311 : n0 ≤ h311.size := Nat.le_trans Z0 E311.1
    have pre312 : ∀ t, Steps p.tables e below (T311.setTop (mkF m 144 #[.val (.int p0), .val (.int p1), .val (.int p2), .val (.int p3), .val (.int p4), .val (.int p5), .val (.int (1 : Int32)), .val (.int sA), .val (.int sB), .val (.long cn), .second, .val (.int dr), .val (.int a), .val (.int bq), .val (.int ev), .unset, .unset, .unset, .unset] [(.ref b141)])) t → Steps p.tables e below (s₁.setTop (entryFrame m #[(.int p0), (.int p1), (.int p2), (.int p3), (.int p4), (.int p5)] maxLocals)) t := fun t kont => pre310 t (st311 _ kont)
    have pre313 : ∀ t, Steps p.tables e below (T311.setTop (mkF m 147 #[.val (.int p0), .val (.int p1), .val (.int p2), .val (.int p3), .val (.int p4), .val (.int p5), .val (.int (1 : Int32)), .val (.int sA), .val (.int sB), .val (.long cn), .second, .val (.int dr), .val (.int a), .val (.int bq), .val (.int ev), .unset, .unset, .unset, .unset] [(.int dr), (.ref b141), (.ref b141)])) t → Steps p.tables e below (s₁.setTop (entryFrame m #[(.int p0), (.int p1), (.int p2), (.int p3), (.int p4), (.int p5)] maxLocals)) t := by
      intro t kont
      refine pre312 t ?_
      show Steps p.tables e below (T311.setTop (mkF m 144 #[.val (.int p0), .val (.int p1), .val (.int p2), .val (.int p3), .val (.int p4), .val (.int p5), .val (.int (1 : Int32)), .val (.int sA), .val (.int sB), .val (.long cn), .second, .val (.int dr), .val (.int a), .val (.int bq), .val (.int ev), .unset, .unset, .unset, .unset] [(.ref b141)])) _
      refine XS.dup X311.here hx rfl (hb hby at_144) rfl rfl ?_
      show Steps p.tables e below (T311.setTop (mkF m 145 #[.val (.int p0), .val (.int p1), .val (.int p2), .val (.int p3), .val (.int p4), .val (.int p5), .val (.int (1 : Int32)), .val (.int sA), .val (.int sB), .val (.long cn), .second, .val (.int dr), .val (.int a), .val (.int bq), .val (.int ev), .unset, .unset, .unset, .unset] [(.ref b141), (.ref b141)])) _
      refine XS.iload X311.here hx rfl (hb hby at_145) rfl ?_
      exact kont
    obtain ⟨_, _, ⟨T314, L314, k314, n314⟩, -, X314, ⟨Lc314, hQ314, l314, y314, z314⟩, st314⟩ := X311.specialBack hx (y := (⟨"com/example/impronta/impronta/engine/Alignments", "<init>", "(I)V"⟩ : MethodName)) rfl hown (mvT hZ (hw _ (List.mem_of_getElem? (i := 11) rfl))) (mvT hZ (hw _ (List.mem_of_getElem? (i := 12) rfl))) (mvT hZ (hw _ (List.mem_of_getElem? (i := 13) rfl))) (by decide) (backOf (W := 1) (rm2 l Z a0 hw [] b141 dr  h311 n0 Z311 A311 F311_direct F311_ownSlots F311_lowest F311_size F311_shift F311_endsByAlignment F311_alignments F311_ends F311_filled g_b141) hZ (hw _ (List.mem_of_getElem? (i := 13) rfl)) (hw _ (List.mem_of_getElem? (i := 10) rfl)) (by decide) (by decide)) (g := (mkF m 147 #[.val (.int p0), .val (.int p1), .val (.int p2), .val (.int p3), .val (.int p4), .val (.int p5), .val (.int (1 : Int32)), .val (.int sA), .val (.int sB), .val (.long cn), .second, .val (.int dr), .val (.int a), .val (.int bq), .val (.int ev), .unset, .unset, .unset, .unset] [(.int dr), (.ref b141), (.ref b141)])) rfl (by rw [hml]; rfl) (Steps.refl _) (a := b141) (argsL := [(.int dr)]) (rest := [(.ref b141)]) (lenOf pd_4 rfl) rfl (by show 2 * 0 + _ ≤ _; exact Nat.le_of_eq rfl) (hb hby at_147) (fun _ _ => ⟨rfl, e311, (by decide : 1 + 4 ≤ _), (by decide : 9 + 40 ≤ _)⟩)
    dsimp only [Pt.U, Pt.locs, Pt.cells, Pt.slots] at X314 l314 y314 z314 st314 hQ314
    subst l314 y314 z314
    obtain ⟨rfl, N314q, Z314, be, ba, bn, bf, H314⟩ := hQ314
    have N314 := Fr.app N0 N314q
    have pre315 : ∀ t, Steps p.tables e below (T314.setTop (mkF m 150 #[.val (.int p0), .val (.int p1), .val (.int p2), .val (.int p3), .val (.int p4), .val (.int p5), .val (.int (1 : Int32)), .val (.int sA), .val (.int sB), .val (.long cn), .second, .val (.int dr), .val (.int a), .val (.int bq), .val (.int ev), .unset, .unset, .unset, .unset] [(.ref b141)])) t → Steps p.tables e below (s₁.setTop (entryFrame m #[(.int p0), (.int p1), (.int p2), (.int p3), (.int p4), (.int p5)] maxLocals)) t := fun t kont => pre313 t (st314.trans kont)
    have pre316 : ∀ t, Steps p.tables e below (T314.setTop (mkF m 158 #[.val (.int p0), .val (.int p1), .val (.int p2), .val (.int p3), .val (.int p4), .val (.int p5), .val (.int (1 : Int32)), .val (.int sA), .val (.int sB), .val (.long cn), .second, .val (.int dr), .val (.int a), .val (.int bq), .val (.int ev), .val (.ref b141), .unset, .unset, .unset] [(.int sB), (.int sA), (.ref b141)])) t → Steps p.tables e below (s₁.setTop (entryFrame m #[(.int p0), (.int p1), (.int p2), (.int p3), (.int p4), (.int p5)] maxLocals)) t := by
      intro t kont
      refine pre315 t ?_
      show Steps p.tables e below (T314.setTop (mkF m 150 #[.val (.int p0), .val (.int p1), .val (.int p2), .val (.int p3), .val (.int p4), .val (.int p5), .val (.int (1 : Int32)), .val (.int sA), .val (.int sB), .val (.long cn), .second, .val (.int dr), .val (.int a), .val (.int bq), .val (.int ev), .unset, .unset, .unset, .unset] [(.ref b141)])) _
      refine XS.astore X314.here hx rfl (hb hby at_150) rfl rfl (l' := #[.val (.int p0), .val (.int p1), .val (.int p2), .val (.int p3), .val (.int p4), .val (.int p5), .val (.int (1 : Int32)), .val (.int sA), .val (.int sB), .val (.long cn), .second, .val (.int dr), .val (.int a), .val (.int bq), .val (.int ev), .val (.ref b141), .unset, .unset, .unset]) rfl ?_
      show Steps p.tables e below (T314.setTop (mkF m 152 #[.val (.int p0), .val (.int p1), .val (.int p2), .val (.int p3), .val (.int p4), .val (.int p5), .val (.int (1 : Int32)), .val (.int sA), .val (.int sB), .val (.long cn), .second, .val (.int dr), .val (.int a), .val (.int bq), .val (.int ev), .val (.ref b141), .unset, .unset, .unset] [])) _
      refine XS.aload X314.here hx rfl (hb hby at_152) rfl rfl ?_
      show Steps p.tables e below (T314.setTop (mkF m 154 #[.val (.int p0), .val (.int p1), .val (.int p2), .val (.int p3), .val (.int p4), .val (.int p5), .val (.int (1 : Int32)), .val (.int sA), .val (.int sB), .val (.long cn), .second, .val (.int dr), .val (.int a), .val (.int bq), .val (.int ev), .val (.ref b141), .unset, .unset, .unset] [(.ref b141)])) _
      refine XS.iload X314.here hx rfl (hb hby at_154) rfl ?_
      show Steps p.tables e below (T314.setTop (mkF m 156 #[.val (.int p0), .val (.int p1), .val (.int p2), .val (.int p3), .val (.int p4), .val (.int p5), .val (.int (1 : Int32)), .val (.int sA), .val (.int sB), .val (.long cn), .second, .val (.int dr), .val (.int a), .val (.int bq), .val (.int ev), .val (.ref b141), .unset, .unset, .unset] [(.int sA), (.ref b141)])) _
      refine XS.iload X314.here hx rfl (hb hby at_156) rfl ?_
      exact kont
    obtain ⟨cq317, kq317, q317a, q317b, q317c⟩ := isOf hZ rfl (H314).1
    obtain ⟨_, _, ⟨T317, L317, k317, n317⟩, -, X317, ⟨Lc317, hQ317, l317, y317, z317⟩, st317⟩ := X314.virtualBack hx (y := (⟨"com/example/impronta/impronta/engine/Alignments", "start", "(II)V"⟩ : MethodName)) (z := (⟨"com/example/impronta/impronta/engine/Alignments", "start", "(II)V"⟩ : MethodName)) hown (mvT hZ (hw _ (List.mem_of_getElem? (i := 38) rfl))) (mvT hZ (hw _ (List.mem_of_getElem? (i := 39) rfl))) (notFace_of_selects (args := #[]) (mvT hZ (hw _ (List.mem_of_getElem? (i := 41) rfl)))) (mvT hZ (hw _ (List.mem_of_getElem? (i := 41) rfl))) (mvT hZ (hw _ (List.mem_of_getElem? (i := 40) rfl))) (by decide) (backOf (W := 0) (rm6 l Z a0 hw [] b141 sA sB be ba bn bf dr (0 : Int32) (0 : Int32) (0 : Int32) 0 (fun _ => (-2147483648 : Int32)) (fun _ => (0 : Int32)) (fun _ => (0 : Int32))  T314.heap n0 Z314 H314 (by decide) hX1 hcap) hZ (hw _ (List.mem_of_getElem? (i := 42) rfl)) (hw _ (List.mem_of_getElem? (i := 10) rfl)) (by decide) (by decide)) q317a q317c (g := (mkF m 158 #[.val (.int p0), .val (.int p1), .val (.int p2), .val (.int p3), .val (.int p4), .val (.int p5), .val (.int (1 : Int32)), .val (.int sA), .val (.int sB), .val (.long cn), .second, .val (.int dr), .val (.int a), .val (.int bq), .val (.int ev), .val (.ref b141), .unset, .unset, .unset] [(.int sB), (.int sA), (.ref b141)])) rfl (by rw [hml]; rfl) (Steps.refl _) (argsL := [(.int sA), (.int sB)]) (rest := []) (lenOf pd_5 rfl) rfl (by show 2 * 0 + _ ≤ _; exact Nat.le_of_eq rfl) (hb hby at_158) (fun _ _ => ⟨rfl, rfl, (by decide : 5 + 1 ≤ _), (by decide : 49 + 511 ≤ _)⟩)
    dsimp only [Pt.U, Pt.locs, Pt.cells, Pt.slots] at X317 l317 y317 z317 st317 hQ317
    subst l317 y317 z317
    obtain ⟨rfl, N317q, Z317, be317, ne317, M317, G317, H317⟩ := hQ317
    have N317 := Fr.app N314 N317q
    have pre318 : ∀ t, Steps p.tables e below (T317.setTop (mkF m 161 #[.val (.int p0), .val (.int p1), .val (.int p2), .val (.int p3), .val (.int p4), .val (.int p5), .val (.int (1 : Int32)), .val (.int sA), .val (.int sB), .val (.long cn), .second, .val (.int dr), .val (.int a), .val (.int bq), .val (.int ev), .val (.ref b141), .unset, .unset, .unset] [])) t → Steps p.tables e below (s₁.setTop (entryFrame m #[(.int p0), (.int p1), (.int p2), (.int p3), (.int p4), (.int p5)] maxLocals)) t := fun t kont => pre316 t (st317.trans kont)
    rw [if_neg hno] at H317
    have hne : cn.toInt ≤ (ne317 : Nat) := by have := G317 hno; rw [hX] at this; exact this
    have ka : (a + sA).toNatClampNeg < ne317 := own_natlt sa0 (by omega)
    have kb : (bq + sA).toNatClampNeg < ne317 := own_natlt sb0 (by omega)
    have pre319 : ∀ t, Steps p.tables e below (T317.setTop (mkF m 165 #[.val (.int p0), .val (.int p1), .val (.int p2), .val (.int p3), .val (.int p4), .val (.int p5), .val (.int (1 : Int32)), .val (.int sA), .val (.int sB), .val (.long cn), .second, .val (.int dr), .val (.int a), .val (.int bq), .val (.int ev), .val (.ref b141), .unset, .unset, .unset] [(.int a), (.ref b141)])) t → Steps p.tables e below (s₁.setTop (entryFrame m #[(.int p0), (.int p1), (.int p2), (.int p3), (.int p4), (.int p5)] maxLocals)) t := by
      intro t kont
      refine pre318 t ?_
      show Steps p.tables e below (T317.setTop (mkF m 161 #[.val (.int p0), .val (.int p1), .val (.int p2), .val (.int p3), .val (.int p4), .val (.int p5), .val (.int (1 : Int32)), .val (.int sA), .val (.int sB), .val (.long cn), .second, .val (.int dr), .val (.int a), .val (.int bq), .val (.int ev), .val (.ref b141), .unset, .unset, .unset] [])) _
      refine XS.aload X317.here hx rfl (hb hby at_161) rfl rfl ?_
      show Steps p.tables e below (T317.setTop (mkF m 163 #[.val (.int p0), .val (.int p1), .val (.int p2), .val (.int p3), .val (.int p4), .val (.int p5), .val (.int (1 : Int32)), .val (.int sA), .val (.int sB), .val (.long cn), .second, .val (.int dr), .val (.int a), .val (.int bq), .val (.int ev), .val (.ref b141), .unset, .unset, .unset] [(.ref b141)])) _
      refine XS.iload X317.here hx rfl (hb hby at_163) rfl ?_
      exact kont
    obtain ⟨cq320, kq320, q320a, q320b, q320c⟩ := isOf hZ rfl (H317).1
    obtain ⟨_, _, ⟨T320, L320, k320, n320⟩, -, X320, ⟨Lc320, hQ320, l320, y320, z320⟩, st320⟩ := X317.virtualBack hx (y := (⟨"com/example/impronta/impronta/engine/Alignments", "slot", "(I)I"⟩ : MethodName)) (z := (⟨"com/example/impronta/impronta/engine/Alignments", "slot", "(I)I"⟩ : MethodName)) hown (mvT hZ (hw _ (List.mem_of_getElem? (i := 47) rfl))) (mvT hZ (hw _ (List.mem_of_getElem? (i := 48) rfl))) (notFace_of_selects (args := #[]) (mvT hZ (hw _ (List.mem_of_getElem? (i := 50) rfl)))) (mvT hZ (hw _ (List.mem_of_getElem? (i := 50) rfl))) (mvT hZ (hw _ (List.mem_of_getElem? (i := 49) rfl))) (by decide) (backOf (W := 0) (rm7 l Z a0 hw [] b141 a be317 ba bn bf dr (1 : Int32) (-sA) (0 : Int32) ne317 (fun _ => (0 : Int32)) (fun _ => (-2147483648 : Int32)) (fun _ => (0 : Int32)) (fun _ => (0 : Int32))  T317.heap n0 Z317 H317 (fun q => absurd q (by decide))) hZ (hw _ (List.mem_of_getElem? (i := 51) rfl)) (hw _ (List.mem_of_getElem? (i := 10) rfl)) (by decide) (by decide)) q320a q320c (g := (mkF m 165 #[.val (.int p0), .val (.int p1), .val (.int p2), .val (.int p3), .val (.int p4), .val (.int p5), .val (.int (1 : Int32)), .val (.int sA), .val (.int sB), .val (.long cn), .second, .val (.int dr), .val (.int a), .val (.int bq), .val (.int ev), .val (.ref b141), .unset, .unset, .unset] [(.int a), (.ref b141)])) rfl (by rw [hml]; rfl) (Steps.refl _) (argsL := [(.int a)]) (rest := []) (lenOf pd_2 rfl) rfl (by show 2 * 0 + _ ≤ _; exact Nat.le_of_eq rfl) (hb hby at_165) (fun _ _ => ⟨rfl, rfl, (by decide : 6 + 0 ≤ _), (by decide : 560 + 0 ≤ _)⟩)
    dsimp only [Pt.U, Pt.locs, Pt.cells, Pt.slots] at X320 l320 y320 z320 st320 hQ320
    subst l320 y320 z320
    obtain ⟨rfl, N320q, e320⟩ := hQ320
    have N320 := Fr.app N317 N320q
    have pre321 : ∀ t, Steps p.tables e below (T320.setTop (mkF m 168 #[.val (.int p0), .val (.int p1), .val (.int p2), .val (.int p3), .val (.int p4), .val (.int p5), .val (.int (1 : Int32)), .val (.int sA), .val (.int sB), .val (.long cn), .second, .val (.int dr), .val (.int a), .val (.int bq), .val (.int ev), .val (.ref b141), .unset, .unset, .unset] [(.int (own_slot (1 : Int32) (-sA) (fun _ => (-2147483648 : Int32)) a))])) t → Steps p.tables e below (s₁.setTop (entryFrame m #[(.int p0), (.int p1), (.int p2), (.int p3), (.int p4), (.int p5)] maxLocals)) t := fun t kont => pre319 t (st320.trans kont)
    have rq322 : (own_slot (1 : Int32) (-sA) (fun _ => (-2147483648 : Int32)) a) = (a + sA) := own_sl1 _ _ _
    rw [rq322] at pre321
    have pre323 : ∀ t, Steps p.tables e below (T320.setTop (mkF m 182 #[.val (.int p0), .val (.int p1), .val (.int p2), .val (.int p3), .val (.int p4), .val (.int p5), .val (.int (1 : Int32)), .val (.int sA), .val (.int sB), .val (.long cn), .second, .val (.int dr), .val (.int a), .val (.int bq), .val (.int ev), .val (.ref b141), .val (.int (a + sA)), .unset, .unset] [(.int (a + sA)), (.int (a + sA))])) t → Steps p.tables e below (s₁.setTop (entryFrame m #[(.int p0), (.int p1), (.int p2), (.int p3), (.int p4), (.int p5)] maxLocals)) t := by
      intro t kont
      refine pre321 t ?_
      show Steps p.tables e below (T320.setTop (mkF m 168 #[.val (.int p0), .val (.int p1), .val (.int p2), .val (.int p3), .val (.int p4), .val (.int p5), .val (.int (1 : Int32)), .val (.int sA), .val (.int sB), .val (.long cn), .second, .val (.int dr), .val (.int a), .val (.int bq), .val (.int ev), .val (.ref b141), .unset, .unset, .unset] [(.int (a + sA))])) _
      refine XS.istore X320.here hx rfl (hb hby at_168) rfl (l' := #[.val (.int p0), .val (.int p1), .val (.int p2), .val (.int p3), .val (.int p4), .val (.int p5), .val (.int (1 : Int32)), .val (.int sA), .val (.int sB), .val (.long cn), .second, .val (.int dr), .val (.int a), .val (.int bq), .val (.int ev), .val (.ref b141), .val (.int (a + sA)), .unset, .unset]) rfl ?_
      show Steps p.tables e below (T320.setTop (mkF m 170 #[.val (.int p0), .val (.int p1), .val (.int p2), .val (.int p3), .val (.int p4), .val (.int p5), .val (.int (1 : Int32)), .val (.int sA), .val (.int sB), .val (.long cn), .second, .val (.int dr), .val (.int a), .val (.int bq), .val (.int ev), .val (.ref b141), .val (.int (a + sA)), .unset, .unset] [])) _
      refine XS.iload X320.here hx rfl (hb hby at_170) rfl ?_
      show Steps p.tables e below (T320.setTop (mkF m 172 #[.val (.int p0), .val (.int p1), .val (.int p2), .val (.int p3), .val (.int p4), .val (.int p5), .val (.int (1 : Int32)), .val (.int sA), .val (.int sB), .val (.long cn), .second, .val (.int dr), .val (.int a), .val (.int bq), .val (.int ev), .val (.ref b141), .val (.int (a + sA)), .unset, .unset] [(.int (1 : Int32))])) _
      refine XS.ifNo X320.here hx rfl (hb hby at_172) rfl ((if0 _ _).trans (feq (by decide)).1) ?_
      show Steps p.tables e below (T320.setTop (mkF m 175 #[.val (.int p0), .val (.int p1), .val (.int p2), .val (.int p3), .val (.int p4), .val (.int p5), .val (.int (1 : Int32)), .val (.int sA), .val (.int sB), .val (.long cn), .second, .val (.int dr), .val (.int a), .val (.int bq), .val (.int ev), .val (.ref b141), .val (.int (a + sA)), .unset, .unset] [])) _
      refine XS.iload X320.here hx rfl (hb hby at_175) rfl ?_
      show Steps p.tables e below (T320.setTop (mkF m 177 #[.val (.int p0), .val (.int p1), .val (.int p2), .val (.int p3), .val (.int p4), .val (.int p5), .val (.int (1 : Int32)), .val (.int sA), .val (.int sB), .val (.long cn), .second, .val (.int dr), .val (.int a), .val (.int bq), .val (.int ev), .val (.ref b141), .val (.int (a + sA)), .unset, .unset] [(.int (a + sA))])) _
      refine XS.iload X320.here hx rfl (hb hby at_177) rfl ?_
      show Steps p.tables e below (T320.setTop (mkF m 179 #[.val (.int p0), .val (.int p1), .val (.int p2), .val (.int p3), .val (.int p4), .val (.int p5), .val (.int (1 : Int32)), .val (.int sA), .val (.int sB), .val (.long cn), .second, .val (.int dr), .val (.int a), .val (.int bq), .val (.int ev), .val (.ref b141), .val (.int (a + sA)), .unset, .unset] [(.int a), (.int (a + sA))])) _
      refine XS.iload X320.here hx rfl (hb hby at_179) rfl ?_
      show Steps p.tables e below (T320.setTop (mkF m 181 #[.val (.int p0), .val (.int p1), .val (.int p2), .val (.int p3), .val (.int p4), .val (.int p5), .val (.int (1 : Int32)), .val (.int sA), .val (.int sB), .val (.long cn), .second, .val (.int dr), .val (.int a), .val (.int bq), .val (.int ev), .val (.ref b141), .val (.int (a + sA)), .unset, .unset] [(.int sA), (.int a), (.int (a + sA))])) _
      refine XS.iadd X320.here hx rfl (hb hby at_181) rfl ?_
      exact kont
    by_cases hc182 : (a + sA) = (a + sA)
    · have pre324 : ∀ t, Steps p.tables e below (T320.setTop (mkF m 187 #[.val (.int p0), .val (.int p1), .val (.int p2), .val (.int p3), .val (.int p4), .val (.int p5), .val (.int (1 : Int32)), .val (.int sA), .val (.int sB), .val (.long cn), .second, .val (.int dr), .val (.int a), .val (.int bq), .val (.int ev), .val (.ref b141), .val (.int (a + sA)), .unset, .unset] [(.int (a + sA))])) t → Steps p.tables e below (s₁.setTop (entryFrame m #[(.int p0), (.int p1), (.int p2), (.int p3), (.int p4), (.int p5)] maxLocals)) t := by
        intro t kont
        refine pre323 t ?_
        show Steps p.tables e below (T320.setTop (mkF m 182 #[.val (.int p0), .val (.int p1), .val (.int p2), .val (.int p3), .val (.int p4), .val (.int p5), .val (.int (1 : Int32)), .val (.int sA), .val (.int sB), .val (.long cn), .second, .val (.int dr), .val (.int a), .val (.int bq), .val (.int ev), .val (.ref b141), .val (.int (a + sA)), .unset, .unset] [(.int (a + sA)), (.int (a + sA))])) _
        refine XS.icmpNo X320.here hx rfl (hb hby at_182) rfl (teq hc182).2 ?_
        show Steps p.tables e below (T320.setTop (mkF m 185 #[.val (.int p0), .val (.int p1), .val (.int p2), .val (.int p3), .val (.int p4), .val (.int p5), .val (.int (1 : Int32)), .val (.int sA), .val (.int sB), .val (.long cn), .second, .val (.int dr), .val (.int a), .val (.int bq), .val (.int ev), .val (.ref b141), .val (.int (a + sA)), .unset, .unset] [])) _
        refine XS.iload X320.here hx rfl (hb hby at_185) rfl ?_
        exact kont
      by_cases hc187 : (a + sA) < (0 : Int32)
      · exfalso
        first | exact hc196 (own_ltl (by omega)) | exact own_i0 sa0 hc187 | exact hc182 rfl
      · have pre325 : ∀ t, Steps p.tables e below (T320.setTop (mkF m 196 #[.val (.int p0), .val (.int p1), .val (.int p2), .val (.int p3), .val (.int p4), .val (.int p5), .val (.int (1 : Int32)), .val (.int sA), .val (.int sB), .val (.long cn), .second, .val (.int dr), .val (.int a), .val (.int bq), .val (.int ev), .val (.ref b141), .val (.int (a + sA)), .unset, .unset] [(.int (lcmpW ((a + sA).toInt64) cn))])) t → Steps p.tables e below (s₁.setTop (entryFrame m #[(.int p0), (.int p1), (.int p2), (.int p3), (.int p4), (.int p5)] maxLocals)) t := by
          intro t kont
          refine pre324 t ?_
          show Steps p.tables e below (T320.setTop (mkF m 187 #[.val (.int p0), .val (.int p1), .val (.int p2), .val (.int p3), .val (.int p4), .val (.int p5), .val (.int (1 : Int32)), .val (.int sA), .val (.int sB), .val (.long cn), .second, .val (.int dr), .val (.int a), .val (.int bq), .val (.int ev), .val (.ref b141), .val (.int (a + sA)), .unset, .unset] [(.int (a + sA))])) _
          refine XS.ifNo X320.here hx rfl (hb hby at_187) rfl ((if0 _ _).trans (flt hc187).1) ?_
          show Steps p.tables e below (T320.setTop (mkF m 190 #[.val (.int p0), .val (.int p1), .val (.int p2), .val (.int p3), .val (.int p4), .val (.int p5), .val (.int (1 : Int32)), .val (.int sA), .val (.int sB), .val (.long cn), .second, .val (.int dr), .val (.int a), .val (.int bq), .val (.int ev), .val (.ref b141), .val (.int (a + sA)), .unset, .unset] [])) _
          refine XS.iload X320.here hx rfl (hb hby at_190) rfl ?_
          show Steps p.tables e below (T320.setTop (mkF m 192 #[.val (.int p0), .val (.int p1), .val (.int p2), .val (.int p3), .val (.int p4), .val (.int p5), .val (.int (1 : Int32)), .val (.int sA), .val (.int sB), .val (.long cn), .second, .val (.int dr), .val (.int a), .val (.int bq), .val (.int ev), .val (.ref b141), .val (.int (a + sA)), .unset, .unset] [(.int (a + sA))])) _
          refine XS.i2l X320.here hx rfl (hb hby at_192) rfl ?_
          show Steps p.tables e below (T320.setTop (mkF m 193 #[.val (.int p0), .val (.int p1), .val (.int p2), .val (.int p3), .val (.int p4), .val (.int p5), .val (.int (1 : Int32)), .val (.int sA), .val (.int sB), .val (.long cn), .second, .val (.int dr), .val (.int a), .val (.int bq), .val (.int ev), .val (.ref b141), .val (.int (a + sA)), .unset, .unset] [(.long ((a + sA).toInt64))])) _
          refine XS.lload X320.here hx rfl (hb hby at_193) rfl ?_
          show Steps p.tables e below (T320.setTop (mkF m 195 #[.val (.int p0), .val (.int p1), .val (.int p2), .val (.int p3), .val (.int p4), .val (.int p5), .val (.int (1 : Int32)), .val (.int sA), .val (.int sB), .val (.long cn), .second, .val (.int dr), .val (.int a), .val (.int bq), .val (.int ev), .val (.ref b141), .val (.int (a + sA)), .unset, .unset] [(.long cn), (.long ((a + sA).toInt64))])) _
          refine XS.lcmp X320.here hx rfl (hb hby at_195) rfl ?_
          exact kont
        by_cases hc196 : ((a + sA).toInt64) < cn
        · have pre326 : ∀ t, Steps p.tables e below (T320.setTop (mkF m 234 #[.val (.int p0), .val (.int p1), .val (.int p2), .val (.int p3), .val (.int p4), .val (.int p5), .val (.int (1 : Int32)), .val (.int sA), .val (.int sB), .val (.long cn), .second, .val (.int dr), .val (.int a), .val (.int bq), .val (.int ev), .val (.ref b141), .val (.int (a + sA)), .val (.int (1 : Int32)), .unset] [(.int ev), (.int a), (.int (a + sA)), (.ref b141)])) t → Steps p.tables e below (s₁.setTop (entryFrame m #[(.int p0), (.int p1), (.int p2), (.int p3), (.int p4), (.int p5)] maxLocals)) t := by
            intro t kont
            refine pre325 t ?_
            show Steps p.tables e below (T320.setTop (mkF m 196 #[.val (.int p0), .val (.int p1), .val (.int p2), .val (.int p3), .val (.int p4), .val (.int p5), .val (.int (1 : Int32)), .val (.int sA), .val (.int sB), .val (.long cn), .second, .val (.int dr), .val (.int a), .val (.int bq), .val (.int ev), .val (.ref b141), .val (.int (a + sA)), .unset, .unset] [(.int (lcmpW ((a + sA).toInt64) cn))])) _
            refine XS.ifNo X320.here hx rfl (hb hby at_196) rfl ((if0 _ _).trans (tlt ((lw_lt _ _).mpr hc196)).2.1) ?_
            show Steps p.tables e below (T320.setTop (mkF m 199 #[.val (.int p0), .val (.int p1), .val (.int p2), .val (.int p3), .val (.int p4), .val (.int p5), .val (.int (1 : Int32)), .val (.int sA), .val (.int sB), .val (.long cn), .second, .val (.int dr), .val (.int a), .val (.int bq), .val (.int ev), .val (.ref b141), .val (.int (a + sA)), .unset, .unset] [])) _
            refine XS.iconst X320.here hx rfl (hb hby at_199) ?_
            show Steps p.tables e below (T320.setTop (mkF m 200 #[.val (.int p0), .val (.int p1), .val (.int p2), .val (.int p3), .val (.int p4), .val (.int p5), .val (.int (1 : Int32)), .val (.int sA), .val (.int sB), .val (.long cn), .second, .val (.int dr), .val (.int a), .val (.int bq), .val (.int ev), .val (.ref b141), .val (.int (a + sA)), .unset, .unset] [(.int (1 : Int32))])) _
            refine XS.goto X320.here hx rfl (pc0 := 200) (pc' := 224) rfl (hb hby at_200) (by decide) (by decide) ?_
            show Steps p.tables e below (T320.setTop (mkF m 224 #[.val (.int p0), .val (.int p1), .val (.int p2), .val (.int p3), .val (.int p4), .val (.int p5), .val (.int (1 : Int32)), .val (.int sA), .val (.int sB), .val (.long cn), .second, .val (.int dr), .val (.int a), .val (.int bq), .val (.int ev), .val (.ref b141), .val (.int (a + sA)), .unset, .unset] [(.int (1 : Int32))])) _
            refine XS.istore X320.here hx rfl (hb hby at_224) rfl (l' := #[.val (.int p0), .val (.int p1), .val (.int p2), .val (.int p3), .val (.int p4), .val (.int p5), .val (.int (1 : Int32)), .val (.int sA), .val (.int sB), .val (.long cn), .second, .val (.int dr), .val (.int a), .val (.int bq), .val (.int ev), .val (.ref b141), .val (.int (a + sA)), .val (.int (1 : Int32)), .unset]) rfl ?_
            show Steps p.tables e below (T320.setTop (mkF m 226 #[.val (.int p0), .val (.int p1), .val (.int p2), .val (.int p3), .val (.int p4), .val (.int p5), .val (.int (1 : Int32)), .val (.int sA), .val (.int sB), .val (.long cn), .second, .val (.int dr), .val (.int a), .val (.int bq), .val (.int ev), .val (.ref b141), .val (.int (a + sA)), .val (.int (1 : Int32)), .unset] [])) _
            refine XS.aload X320.here hx rfl (hb hby at_226) rfl rfl ?_
            show Steps p.tables e below (T320.setTop (mkF m 228 #[.val (.int p0), .val (.int p1), .val (.int p2), .val (.int p3), .val (.int p4), .val (.int p5), .val (.int (1 : Int32)), .val (.int sA), .val (.int sB), .val (.long cn), .second, .val (.int dr), .val (.int a), .val (.int bq), .val (.int ev), .val (.ref b141), .val (.int (a + sA)), .val (.int (1 : Int32)), .unset] [(.ref b141)])) _
            refine XS.iload X320.here hx rfl (hb hby at_228) rfl ?_
            show Steps p.tables e below (T320.setTop (mkF m 230 #[.val (.int p0), .val (.int p1), .val (.int p2), .val (.int p3), .val (.int p4), .val (.int p5), .val (.int (1 : Int32)), .val (.int sA), .val (.int sB), .val (.long cn), .second, .val (.int dr), .val (.int a), .val (.int bq), .val (.int ev), .val (.ref b141), .val (.int (a + sA)), .val (.int (1 : Int32)), .unset] [(.int (a + sA)), (.ref b141)])) _
            refine XS.iload X320.here hx rfl (hb hby at_230) rfl ?_
            show Steps p.tables e below (T320.setTop (mkF m 232 #[.val (.int p0), .val (.int p1), .val (.int p2), .val (.int p3), .val (.int p4), .val (.int p5), .val (.int (1 : Int32)), .val (.int sA), .val (.int sB), .val (.long cn), .second, .val (.int dr), .val (.int a), .val (.int bq), .val (.int ev), .val (.ref b141), .val (.int (a + sA)), .val (.int (1 : Int32)), .unset] [(.int a), (.int (a + sA)), (.ref b141)])) _
            refine XS.iload X320.here hx rfl (hb hby at_232) rfl ?_
            exact kont
          obtain ⟨cq327, kq327, q327a, q327b, q327c⟩ := isOf hZ e320 (H317).1
          obtain ⟨_, _, ⟨T327, L327, k327, n327⟩, -, X327, ⟨Lc327, hQ327, l327, y327, z327⟩, st327⟩ := X320.virtualBack hx (y := (⟨"com/example/impronta/impronta/engine/Alignments", "put", "(III)V"⟩ : MethodName)) (z := (⟨"com/example/impronta/impronta/engine/Alignments", "put", "(III)V"⟩ : MethodName)) hown (mvT hZ (hw _ (List.mem_of_getElem? (i := 53) rfl))) (mvT hZ (hw _ (List.mem_of_getElem? (i := 54) rfl))) (notFace_of_selects (args := #[]) (mvT hZ (hw _ (List.mem_of_getElem? (i := 56) rfl)))) (mvT hZ (hw _ (List.mem_of_getElem? (i := 56) rfl))) (mvT hZ (hw _ (List.mem_of_getElem? (i := 55) rfl))) (by decide) (backOf (W := 0) (rm8 l Z a0 hw [] b141 (a + sA) a ev be317 ba bn bf dr (1 : Int32) (-sA) (0 : Int32) ne317 (fun _ => (0 : Int32)) (fun _ => (-2147483648 : Int32)) (fun _ => (0 : Int32)) (fun _ => (0 : Int32)) (a + sA).toNatClampNeg 0  T317.heap n0 Z317 H317 (own_i0 sa0) rfl (fun q => absurd q (by decide)) (fun _ => ka) (by decide) (by decide) (by decide)) hZ (hw _ (List.mem_of_getElem? (i := 57) rfl)) (hw _ (List.mem_of_getElem? (i := 10) rfl)) (by decide) (by decide)) q327a q327c (g := (mkF m 234 #[.val (.int p0), .val (.int p1), .val (.int p2), .val (.int p3), .val (.int p4), .val (.int p5), .val (.int (1 : Int32)), .val (.int sA), .val (.int sB), .val (.long cn), .second, .val (.int dr), .val (.int a), .val (.int bq), .val (.int ev), .val (.ref b141), .val (.int (a + sA)), .val (.int (1 : Int32)), .unset] [(.int ev), (.int a), (.int (a + sA)), (.ref b141)])) rfl (by rw [hml]; rfl) (Steps.refl _) (argsL := [(.int (a + sA)), (.int a), (.int ev)]) (rest := []) (lenOf pd_6 rfl) rfl (by show 2 * 0 + _ ≤ _; exact Nat.le_of_eq rfl) (hb hby at_234) (fun _ _ => ⟨rfl, e320, (by decide : 6 + 0 ≤ _), (by decide : 560 + 0 ≤ _)⟩)
          dsimp only [Pt.U, Pt.locs, Pt.cells, Pt.slots] at X327 l327 y327 z327 st327 hQ327
          subst l327 y327 z327
          obtain ⟨rfl, N327q, Z327, H327⟩ := hQ327
          have N327 := Fr.app N320 N327q
          have pre328 : ∀ t, Steps p.tables e below (T327.setTop (mkF m 237 #[.val (.int p0), .val (.int p1), .val (.int p2), .val (.int p3), .val (.int p4), .val (.int p5), .val (.int (1 : Int32)), .val (.int sA), .val (.int sB), .val (.long cn), .second, .val (.int dr), .val (.int a), .val (.int bq), .val (.int ev), .val (.ref b141), .val (.int (a + sA)), .val (.int (1 : Int32)), .unset] [])) t → Steps p.tables e below (s₁.setTop (entryFrame m #[(.int p0), (.int p1), (.int p2), (.int p3), (.int p4), (.int p5)] maxLocals)) t := fun t kont => pre326 t (st327.trans kont)
          have Hp : own_al Z T327.heap n0 b141 be317 ba bn bf dr (1 : Int32) (-sA) ((0 : Int32) + (1 : Int32)) ne317 (own_set (fun _ => (0 : Int32)) (a + sA).toNatClampNeg ev) (fun _ => (-2147483648 : Int32)) (fun _ => (0 : Int32)) (own_set (fun _ => (0 : Int32)) 0 (a + sA)) := H327
          have pre329 : ∀ t, Steps p.tables e below (T327.setTop (mkF m 246 #[.val (.int p0), .val (.int p1), .val (.int p2), .val (.int p3), .val (.int p4), .val (.int p5), .val (.int (1 : Int32)), .val (.int sA), .val (.int sB), .val (.long cn), .second, .val (.int dr), .val (.int a), .val (.int bq), .val (.int ev), .val (.ref b141), .val (.int (a + sA)), .val (.int (1 : Int32)), .unset] [(.int a), (.ref b141)])) t → Steps p.tables e below (s₁.setTop (entryFrame m #[(.int p0), (.int p1), (.int p2), (.int p3), (.int p4), (.int p5)] maxLocals)) t := by
            intro t kont
            refine pre328 t ?_
            show Steps p.tables e below (T327.setTop (mkF m 237 #[.val (.int p0), .val (.int p1), .val (.int p2), .val (.int p3), .val (.int p4), .val (.int p5), .val (.int (1 : Int32)), .val (.int sA), .val (.int sB), .val (.long cn), .second, .val (.int dr), .val (.int a), .val (.int bq), .val (.int ev), .val (.ref b141), .val (.int (a + sA)), .val (.int (1 : Int32)), .unset] [])) _
            refine XS.iload X327.here hx rfl (hb hby at_237) rfl ?_
            show Steps p.tables e below (T327.setTop (mkF m 239 #[.val (.int p0), .val (.int p1), .val (.int p2), .val (.int p3), .val (.int p4), .val (.int p5), .val (.int (1 : Int32)), .val (.int sA), .val (.int sB), .val (.long cn), .second, .val (.int dr), .val (.int a), .val (.int bq), .val (.int ev), .val (.ref b141), .val (.int (a + sA)), .val (.int (1 : Int32)), .unset] [(.int (1 : Int32))])) _
            refine XS.ifNo X327.here hx rfl (hb hby at_239) rfl ((if0 _ _).trans (feq (by decide)).1) ?_
            show Steps p.tables e below (T327.setTop (mkF m 242 #[.val (.int p0), .val (.int p1), .val (.int p2), .val (.int p3), .val (.int p4), .val (.int p5), .val (.int (1 : Int32)), .val (.int sA), .val (.int sB), .val (.long cn), .second, .val (.int dr), .val (.int a), .val (.int bq), .val (.int ev), .val (.ref b141), .val (.int (a + sA)), .val (.int (1 : Int32)), .unset] [])) _
            refine XS.aload X327.here hx rfl (hb hby at_242) rfl rfl ?_
            show Steps p.tables e below (T327.setTop (mkF m 244 #[.val (.int p0), .val (.int p1), .val (.int p2), .val (.int p3), .val (.int p4), .val (.int p5), .val (.int (1 : Int32)), .val (.int sA), .val (.int sB), .val (.long cn), .second, .val (.int dr), .val (.int a), .val (.int bq), .val (.int ev), .val (.ref b141), .val (.int (a + sA)), .val (.int (1 : Int32)), .unset] [(.ref b141)])) _
            refine XS.iload X327.here hx rfl (hb hby at_244) rfl ?_
            exact kont
          obtain ⟨cq330, kq330, q330a, q330b, q330c⟩ := isOf hZ rfl Hp.1
          obtain ⟨_, _, ⟨T330, L330, k330, n330⟩, -, X330, ⟨Lc330, hQ330, l330, y330, z330⟩, st330⟩ := X327.virtualBack hx (y := (⟨"com/example/impronta/impronta/engine/Alignments", "slot", "(I)I"⟩ : MethodName)) (z := (⟨"com/example/impronta/impronta/engine/Alignments", "slot", "(I)I"⟩ : MethodName)) hown (mvT hZ (hw _ (List.mem_of_getElem? (i := 47) rfl))) (mvT hZ (hw _ (List.mem_of_getElem? (i := 48) rfl))) (notFace_of_selects (args := #[]) (mvT hZ (hw _ (List.mem_of_getElem? (i := 50) rfl)))) (mvT hZ (hw _ (List.mem_of_getElem? (i := 50) rfl))) (mvT hZ (hw _ (List.mem_of_getElem? (i := 49) rfl))) (by decide) (backOf (W := 0) (rm7 l Z a0 hw [] b141 a be317 ba bn bf dr (1 : Int32) (-sA) ((0 : Int32) + (1 : Int32)) ne317 (own_set (fun _ => (0 : Int32)) (a + sA).toNatClampNeg ev) (fun _ => (-2147483648 : Int32)) (fun _ => (0 : Int32)) (own_set (fun _ => (0 : Int32)) 0 (a + sA))  T327.heap n0 Z327 Hp (fun q => absurd q (by decide))) hZ (hw _ (List.mem_of_getElem? (i := 51) rfl)) (hw _ (List.mem_of_getElem? (i := 10) rfl)) (by decide) (by decide)) q330a q330c (g := (mkF m 246 #[.val (.int p0), .val (.int p1), .val (.int p2), .val (.int p3), .val (.int p4), .val (.int p5), .val (.int (1 : Int32)), .val (.int sA), .val (.int sB), .val (.long cn), .second, .val (.int dr), .val (.int a), .val (.int bq), .val (.int ev), .val (.ref b141), .val (.int (a + sA)), .val (.int (1 : Int32)), .unset] [(.int a), (.ref b141)])) rfl (by rw [hml]; rfl) (Steps.refl _) (argsL := [(.int a)]) (rest := []) (lenOf pd_2 rfl) rfl (by show 2 * 0 + _ ≤ _; exact Nat.le_of_eq rfl) (hb hby at_246) (fun _ _ => ⟨rfl, rfl, (by decide : 6 + 0 ≤ _), (by decide : 560 + 0 ≤ _)⟩)
          dsimp only [Pt.U, Pt.locs, Pt.cells, Pt.slots] at X330 l330 y330 z330 st330 hQ330
          subst l330 y330 z330
          obtain ⟨rfl, N330q, e330⟩ := hQ330
          have N330 := Fr.app N327 N330q
          have pre331 : ∀ t, Steps p.tables e below (T330.setTop (mkF m 249 #[.val (.int p0), .val (.int p1), .val (.int p2), .val (.int p3), .val (.int p4), .val (.int p5), .val (.int (1 : Int32)), .val (.int sA), .val (.int sB), .val (.long cn), .second, .val (.int dr), .val (.int a), .val (.int bq), .val (.int ev), .val (.ref b141), .val (.int (a + sA)), .val (.int (1 : Int32)), .unset] [(.int (own_slot (1 : Int32) (-sA) (fun _ => (-2147483648 : Int32)) a))])) t → Steps p.tables e below (s₁.setTop (entryFrame m #[(.int p0), (.int p1), (.int p2), (.int p3), (.int p4), (.int p5)] maxLocals)) t := fun t kont => pre329 t (st330.trans kont)
          have rq332 : (own_slot (1 : Int32) (-sA) (fun _ => (-2147483648 : Int32)) a) = (a + sA) := own_sl1 _ _ _
          rw [rq332] at pre331
          have pre333 : ∀ t, Steps p.tables e below (T330.setTop (mkF m 251 #[.val (.int p0), .val (.int p1), .val (.int p2), .val (.int p3), .val (.int p4), .val (.int p5), .val (.int (1 : Int32)), .val (.int sA), .val (.int sB), .val (.long cn), .second, .val (.int dr), .val (.int a), .val (.int bq), .val (.int ev), .val (.ref b141), .val (.int (a + sA)), .val (.int (1 : Int32)), .unset] [(.int (a + sA)), (.int (a + sA))])) t → Steps p.tables e below (s₁.setTop (entryFrame m #[(.int p0), (.int p1), (.int p2), (.int p3), (.int p4), (.int p5)] maxLocals)) t := by
            intro t kont
            refine pre331 t ?_
            show Steps p.tables e below (T330.setTop (mkF m 249 #[.val (.int p0), .val (.int p1), .val (.int p2), .val (.int p3), .val (.int p4), .val (.int p5), .val (.int (1 : Int32)), .val (.int sA), .val (.int sB), .val (.long cn), .second, .val (.int dr), .val (.int a), .val (.int bq), .val (.int ev), .val (.ref b141), .val (.int (a + sA)), .val (.int (1 : Int32)), .unset] [(.int (a + sA))])) _
            refine XS.iload X330.here hx rfl (hb hby at_249) rfl ?_
            exact kont
          by_cases hc251 : (a + sA) = (a + sA)
          · have pre334 : ∀ t, Steps p.tables e below (T330.setTop (mkF m 258 #[.val (.int p0), .val (.int p1), .val (.int p2), .val (.int p3), .val (.int p4), .val (.int p5), .val (.int (1 : Int32)), .val (.int sA), .val (.int sB), .val (.long cn), .second, .val (.int dr), .val (.int a), .val (.int bq), .val (.int ev), .val (.ref b141), .val (.int (a + sA)), .val (.int (1 : Int32)), .unset] [(.int (a + sA)), (.ref b141)])) t → Steps p.tables e below (s₁.setTop (entryFrame m #[(.int p0), (.int p1), (.int p2), (.int p3), (.int p4), (.int p5)] maxLocals)) t := by
              intro t kont
              refine pre333 t ?_
              show Steps p.tables e below (T330.setTop (mkF m 251 #[.val (.int p0), .val (.int p1), .val (.int p2), .val (.int p3), .val (.int p4), .val (.int p5), .val (.int (1 : Int32)), .val (.int sA), .val (.int sB), .val (.long cn), .second, .val (.int dr), .val (.int a), .val (.int bq), .val (.int ev), .val (.ref b141), .val (.int (a + sA)), .val (.int (1 : Int32)), .unset] [(.int (a + sA)), (.int (a + sA))])) _
              refine XS.icmpNo X330.here hx rfl (hb hby at_251) rfl (teq hc251).2 ?_
              show Steps p.tables e below (T330.setTop (mkF m 254 #[.val (.int p0), .val (.int p1), .val (.int p2), .val (.int p3), .val (.int p4), .val (.int p5), .val (.int (1 : Int32)), .val (.int sA), .val (.int sB), .val (.long cn), .second, .val (.int dr), .val (.int a), .val (.int bq), .val (.int ev), .val (.ref b141), .val (.int (a + sA)), .val (.int (1 : Int32)), .unset] [])) _
              refine XS.aload X330.here hx rfl (hb hby at_254) rfl rfl ?_
              show Steps p.tables e below (T330.setTop (mkF m 256 #[.val (.int p0), .val (.int p1), .val (.int p2), .val (.int p3), .val (.int p4), .val (.int p5), .val (.int (1 : Int32)), .val (.int sA), .val (.int sB), .val (.long cn), .second, .val (.int dr), .val (.int a), .val (.int bq), .val (.int ev), .val (.ref b141), .val (.int (a + sA)), .val (.int (1 : Int32)), .unset] [(.ref b141)])) _
              refine XS.iload X330.here hx rfl (hb hby at_256) rfl ?_
              exact kont
            obtain ⟨cq335, kq335, q335a, q335b, q335c⟩ := isOf hZ e330 Hp.1
            obtain ⟨_, _, ⟨T335, L335, k335, n335⟩, -, X335, ⟨Lc335, hQ335, l335, y335, z335⟩, st335⟩ := X330.virtualBack hx (y := (⟨"com/example/impronta/impronta/engine/Alignments", "end", "(I)I"⟩ : MethodName)) (z := (⟨"com/example/impronta/impronta/engine/Alignments", "end", "(I)I"⟩ : MethodName)) hown (mvT hZ (hw _ (List.mem_of_getElem? (i := 65) rfl))) (mvT hZ (hw _ (List.mem_of_getElem? (i := 59) rfl))) (notFace_of_selects (args := #[]) (mvT hZ (hw _ (List.mem_of_getElem? (i := 61) rfl)))) (mvT hZ (hw _ (List.mem_of_getElem? (i := 61) rfl))) (mvT hZ (hw _ (List.mem_of_getElem? (i := 60) rfl))) (by decide) (backOf (W := 0) (rm9 l Z a0 hw [] b141 (a + sA) be317 ba bn bf dr (1 : Int32) (-sA) ((0 : Int32) + (1 : Int32)) ne317 (own_set (fun _ => (0 : Int32)) (a + sA).toNatClampNeg ev) (fun _ => (-2147483648 : Int32)) (fun _ => (0 : Int32)) (own_set (fun _ => (0 : Int32)) 0 (a + sA)) (a + sA).toNatClampNeg  T327.heap n0 Z327 Hp (own_i0 sa0) rfl (fun q => absurd q (by decide)) (fun _ => ka)) hZ (hw _ (List.mem_of_getElem? (i := 62) rfl)) (hw _ (List.mem_of_getElem? (i := 10) rfl)) (by decide) (by decide)) q335a q335c (g := (mkF m 258 #[.val (.int p0), .val (.int p1), .val (.int p2), .val (.int p3), .val (.int p4), .val (.int p5), .val (.int (1 : Int32)), .val (.int sA), .val (.int sB), .val (.long cn), .second, .val (.int dr), .val (.int a), .val (.int bq), .val (.int ev), .val (.ref b141), .val (.int (a + sA)), .val (.int (1 : Int32)), .unset] [(.int (a + sA)), (.ref b141)])) rfl (by rw [hml]; rfl) (Steps.refl _) (argsL := [(.int (a + sA))]) (rest := []) (lenOf pd_2 rfl) rfl (by show 2 * 0 + _ ≤ _; exact Nat.le_of_eq rfl) (hb hby at_258) (fun _ _ => ⟨rfl, e330, (by decide : 6 + 0 ≤ _), (by decide : 560 + 0 ≤ _)⟩)
            dsimp only [Pt.U, Pt.locs, Pt.cells, Pt.slots] at X335 l335 y335 z335 st335 hQ335
            subst l335 y335 z335
            obtain ⟨rfl, N335q, e335⟩ := hQ335
            have N335 := Fr.app N330 N335q
            have pre336 : ∀ t, Steps p.tables e below (T335.setTop (mkF m 261 #[.val (.int p0), .val (.int p1), .val (.int p2), .val (.int p3), .val (.int p4), .val (.int p5), .val (.int (1 : Int32)), .val (.int sA), .val (.int sB), .val (.long cn), .second, .val (.int dr), .val (.int a), .val (.int bq), .val (.int ev), .val (.ref b141), .val (.int (a + sA)), .val (.int (1 : Int32)), .unset] [(.int (own_end (1 : Int32) (own_set (fun _ => (0 : Int32)) (a + sA).toNatClampNeg ev) (fun _ => (0 : Int32)) (a + sA).toNatClampNeg))])) t → Steps p.tables e below (s₁.setTop (entryFrame m #[(.int p0), (.int p1), (.int p2), (.int p3), (.int p4), (.int p5)] maxLocals)) t := fun t kont => pre334 t (st335.trans kont)
            have rq337 : (own_end (1 : Int32) (own_set (fun _ => (0 : Int32)) (a + sA).toNatClampNeg ev) (fun _ => (0 : Int32)) (a + sA).toNatClampNeg) = ev := (own_end1 _ _ _).trans (own_hit _ _ _)
            rw [rq337] at pre336
            have pre338 : ∀ t, Steps p.tables e below (T335.setTop (mkF m 263 #[.val (.int p0), .val (.int p1), .val (.int p2), .val (.int p3), .val (.int p4), .val (.int p5), .val (.int (1 : Int32)), .val (.int sA), .val (.int sB), .val (.long cn), .second, .val (.int dr), .val (.int a), .val (.int bq), .val (.int ev), .val (.ref b141), .val (.int (a + sA)), .val (.int (1 : Int32)), .unset] [(.int ev), (.int ev)])) t → Steps p.tables e below (s₁.setTop (entryFrame m #[(.int p0), (.int p1), (.int p2), (.int p3), (.int p4), (.int p5)] maxLocals)) t := by
              intro t kont
              refine pre336 t ?_
              show Steps p.tables e below (T335.setTop (mkF m 261 #[.val (.int p0), .val (.int p1), .val (.int p2), .val (.int p3), .val (.int p4), .val (.int p5), .val (.int (1 : Int32)), .val (.int sA), .val (.int sB), .val (.long cn), .second, .val (.int dr), .val (.int a), .val (.int bq), .val (.int ev), .val (.ref b141), .val (.int (a + sA)), .val (.int (1 : Int32)), .unset] [(.int ev)])) _
              refine XS.iload X335.here hx rfl (hb hby at_261) rfl ?_
              exact kont
            by_cases hc263 : ev = ev
            · have pre339 : ∀ t, Steps p.tables e below (T335.setTop (mkF m 277 #[.val (.int p0), .val (.int p1), .val (.int p2), .val (.int p3), .val (.int p4), .val (.int p5), .val (.int (1 : Int32)), .val (.int sA), .val (.int sB), .val (.long cn), .second, .val (.int dr), .val (.int a), .val (.int bq), .val (.int ev), .val (.ref b141), .val (.int (a + sA)), .val (.int (1 : Int32)), .unset] [(.int bq), (.ref b141)])) t → Steps p.tables e below (s₁.setTop (entryFrame m #[(.int p0), (.int p1), (.int p2), (.int p3), (.int p4), (.int p5)] maxLocals)) t := by
                intro t kont
                refine pre338 t ?_
                show Steps p.tables e below (T335.setTop (mkF m 263 #[.val (.int p0), .val (.int p1), .val (.int p2), .val (.int p3), .val (.int p4), .val (.int p5), .val (.int (1 : Int32)), .val (.int sA), .val (.int sB), .val (.long cn), .second, .val (.int dr), .val (.int a), .val (.int bq), .val (.int ev), .val (.ref b141), .val (.int (a + sA)), .val (.int (1 : Int32)), .unset] [(.int ev), (.int ev)])) _
                refine XS.icmpNo X335.here hx rfl (hb hby at_263) rfl (teq hc263).2 ?_
                show Steps p.tables e below (T335.setTop (mkF m 266 #[.val (.int p0), .val (.int p1), .val (.int p2), .val (.int p3), .val (.int p4), .val (.int p5), .val (.int (1 : Int32)), .val (.int sA), .val (.int sB), .val (.long cn), .second, .val (.int dr), .val (.int a), .val (.int bq), .val (.int ev), .val (.ref b141), .val (.int (a + sA)), .val (.int (1 : Int32)), .unset] [])) _
                refine XS.iconst X335.here hx rfl (hb hby at_266) ?_
                show Steps p.tables e below (T335.setTop (mkF m 267 #[.val (.int p0), .val (.int p1), .val (.int p2), .val (.int p3), .val (.int p4), .val (.int p5), .val (.int (1 : Int32)), .val (.int sA), .val (.int sB), .val (.long cn), .second, .val (.int dr), .val (.int a), .val (.int bq), .val (.int ev), .val (.ref b141), .val (.int (a + sA)), .val (.int (1 : Int32)), .unset] [(.int (1 : Int32))])) _
                refine XS.goto X335.here hx rfl (pc0 := 267) (pc' := 271) rfl (hb hby at_267) (by decide) (by decide) ?_
                show Steps p.tables e below (T335.setTop (mkF m 271 #[.val (.int p0), .val (.int p1), .val (.int p2), .val (.int p3), .val (.int p4), .val (.int p5), .val (.int (1 : Int32)), .val (.int sA), .val (.int sB), .val (.long cn), .second, .val (.int dr), .val (.int a), .val (.int bq), .val (.int ev), .val (.ref b141), .val (.int (a + sA)), .val (.int (1 : Int32)), .unset] [(.int (1 : Int32))])) _
                refine XS.istore X335.here hx rfl (hb hby at_271) rfl (l' := #[.val (.int p0), .val (.int p1), .val (.int p2), .val (.int p3), .val (.int p4), .val (.int p5), .val (.int (1 : Int32)), .val (.int sA), .val (.int sB), .val (.long cn), .second, .val (.int dr), .val (.int a), .val (.int bq), .val (.int ev), .val (.ref b141), .val (.int (a + sA)), .val (.int (1 : Int32)), .unset]) rfl ?_
                show Steps p.tables e below (T335.setTop (mkF m 273 #[.val (.int p0), .val (.int p1), .val (.int p2), .val (.int p3), .val (.int p4), .val (.int p5), .val (.int (1 : Int32)), .val (.int sA), .val (.int sB), .val (.long cn), .second, .val (.int dr), .val (.int a), .val (.int bq), .val (.int ev), .val (.ref b141), .val (.int (a + sA)), .val (.int (1 : Int32)), .unset] [])) _
                refine XS.aload X335.here hx rfl (hb hby at_273) rfl rfl ?_
                show Steps p.tables e below (T335.setTop (mkF m 275 #[.val (.int p0), .val (.int p1), .val (.int p2), .val (.int p3), .val (.int p4), .val (.int p5), .val (.int (1 : Int32)), .val (.int sA), .val (.int sB), .val (.long cn), .second, .val (.int dr), .val (.int a), .val (.int bq), .val (.int ev), .val (.ref b141), .val (.int (a + sA)), .val (.int (1 : Int32)), .unset] [(.ref b141)])) _
                refine XS.iload X335.here hx rfl (hb hby at_275) rfl ?_
                exact kont
              obtain ⟨cq340, kq340, q340a, q340b, q340c⟩ := isOf hZ e335 Hp.1
              obtain ⟨_, _, ⟨T340, L340, k340, n340⟩, -, X340, ⟨Lc340, hQ340, l340, y340, z340⟩, st340⟩ := X335.virtualBack hx (y := (⟨"com/example/impronta/impronta/engine/Alignments", "slot", "(I)I"⟩ : MethodName)) (z := (⟨"com/example/impronta/impronta/engine/Alignments", "slot", "(I)I"⟩ : MethodName)) hown (mvT hZ (hw _ (List.mem_of_getElem? (i := 47) rfl))) (mvT hZ (hw _ (List.mem_of_getElem? (i := 48) rfl))) (notFace_of_selects (args := #[]) (mvT hZ (hw _ (List.mem_of_getElem? (i := 50) rfl)))) (mvT hZ (hw _ (List.mem_of_getElem? (i := 50) rfl))) (mvT hZ (hw _ (List.mem_of_getElem? (i := 49) rfl))) (by decide) (backOf (W := 0) (rm7 l Z a0 hw [] b141 bq be317 ba bn bf dr (1 : Int32) (-sA) ((0 : Int32) + (1 : Int32)) ne317 (own_set (fun _ => (0 : Int32)) (a + sA).toNatClampNeg ev) (fun _ => (-2147483648 : Int32)) (fun _ => (0 : Int32)) (own_set (fun _ => (0 : Int32)) 0 (a + sA))  T327.heap n0 Z327 Hp (fun q => absurd q (by decide))) hZ (hw _ (List.mem_of_getElem? (i := 51) rfl)) (hw _ (List.mem_of_getElem? (i := 10) rfl)) (by decide) (by decide)) q340a q340c (g := (mkF m 277 #[.val (.int p0), .val (.int p1), .val (.int p2), .val (.int p3), .val (.int p4), .val (.int p5), .val (.int (1 : Int32)), .val (.int sA), .val (.int sB), .val (.long cn), .second, .val (.int dr), .val (.int a), .val (.int bq), .val (.int ev), .val (.ref b141), .val (.int (a + sA)), .val (.int (1 : Int32)), .unset] [(.int bq), (.ref b141)])) rfl (by rw [hml]; rfl) (Steps.refl _) (argsL := [(.int bq)]) (rest := []) (lenOf pd_2 rfl) rfl (by show 2 * 0 + _ ≤ _; exact Nat.le_of_eq rfl) (hb hby at_277) (fun _ _ => ⟨rfl, e335, (by decide : 6 + 0 ≤ _), (by decide : 560 + 0 ≤ _)⟩)
              dsimp only [Pt.U, Pt.locs, Pt.cells, Pt.slots] at X340 l340 y340 z340 st340 hQ340
              subst l340 y340 z340
              obtain ⟨rfl, N340q, e340⟩ := hQ340
              have N340 := Fr.app N335 N340q
              have pre341 : ∀ t, Steps p.tables e below (T340.setTop (mkF m 280 #[.val (.int p0), .val (.int p1), .val (.int p2), .val (.int p3), .val (.int p4), .val (.int p5), .val (.int (1 : Int32)), .val (.int sA), .val (.int sB), .val (.long cn), .second, .val (.int dr), .val (.int a), .val (.int bq), .val (.int ev), .val (.ref b141), .val (.int (a + sA)), .val (.int (1 : Int32)), .unset] [(.int (own_slot (1 : Int32) (-sA) (fun _ => (-2147483648 : Int32)) bq))])) t → Steps p.tables e below (s₁.setTop (entryFrame m #[(.int p0), (.int p1), (.int p2), (.int p3), (.int p4), (.int p5)] maxLocals)) t := fun t kont => pre339 t (st340.trans kont)
              have rq342 : (own_slot (1 : Int32) (-sA) (fun _ => (-2147483648 : Int32)) bq) = (bq + sA) := own_sl1 _ _ _
              rw [rq342] at pre341
              have pre343 : ∀ t, Steps p.tables e below (T340.setTop (mkF m 286 #[.val (.int p0), .val (.int p1), .val (.int p2), .val (.int p3), .val (.int p4), .val (.int p5), .val (.int (1 : Int32)), .val (.int sA), .val (.int sB), .val (.long cn), .second, .val (.int dr), .val (.int a), .val (.int bq), .val (.int ev), .val (.ref b141), .val (.int (a + sA)), .val (.int (1 : Int32)), .val (.int (bq + sA))] [(.int bq), (.int a)])) t → Steps p.tables e below (s₁.setTop (entryFrame m #[(.int p0), (.int p1), (.int p2), (.int p3), (.int p4), (.int p5)] maxLocals)) t := by
                intro t kont
                refine pre341 t ?_
                show Steps p.tables e below (T340.setTop (mkF m 280 #[.val (.int p0), .val (.int p1), .val (.int p2), .val (.int p3), .val (.int p4), .val (.int p5), .val (.int (1 : Int32)), .val (.int sA), .val (.int sB), .val (.long cn), .second, .val (.int dr), .val (.int a), .val (.int bq), .val (.int ev), .val (.ref b141), .val (.int (a + sA)), .val (.int (1 : Int32)), .unset] [(.int (bq + sA))])) _
                refine XS.istore X340.here hx rfl (hb hby at_280) rfl (l' := #[.val (.int p0), .val (.int p1), .val (.int p2), .val (.int p3), .val (.int p4), .val (.int p5), .val (.int (1 : Int32)), .val (.int sA), .val (.int sB), .val (.long cn), .second, .val (.int dr), .val (.int a), .val (.int bq), .val (.int ev), .val (.ref b141), .val (.int (a + sA)), .val (.int (1 : Int32)), .val (.int (bq + sA))]) rfl ?_
                show Steps p.tables e below (T340.setTop (mkF m 282 #[.val (.int p0), .val (.int p1), .val (.int p2), .val (.int p3), .val (.int p4), .val (.int p5), .val (.int (1 : Int32)), .val (.int sA), .val (.int sB), .val (.long cn), .second, .val (.int dr), .val (.int a), .val (.int bq), .val (.int ev), .val (.ref b141), .val (.int (a + sA)), .val (.int (1 : Int32)), .val (.int (bq + sA))] [])) _
                refine XS.iload X340.here hx rfl (hb hby at_282) rfl ?_
                show Steps p.tables e below (T340.setTop (mkF m 284 #[.val (.int p0), .val (.int p1), .val (.int p2), .val (.int p3), .val (.int p4), .val (.int p5), .val (.int (1 : Int32)), .val (.int sA), .val (.int sB), .val (.long cn), .second, .val (.int dr), .val (.int a), .val (.int bq), .val (.int ev), .val (.ref b141), .val (.int (a + sA)), .val (.int (1 : Int32)), .val (.int (bq + sA))] [(.int a)])) _
                refine XS.iload X340.here hx rfl (hb hby at_284) rfl ?_
                exact kont
              by_cases hc286 : a = bq
              · have pre344 : ∀ t, Steps p.tables e below (T340.setTop (mkF m 289 #[.val (.int p0), .val (.int p1), .val (.int p2), .val (.int p3), .val (.int p4), .val (.int p5), .val (.int (1 : Int32)), .val (.int sA), .val (.int sB), .val (.long cn), .second, .val (.int dr), .val (.int a), .val (.int bq), .val (.int ev), .val (.ref b141), .val (.int (a + sA)), .val (.int (1 : Int32)), .val (.int (bq + sA))] [])) t → Steps p.tables e below (s₁.setTop (entryFrame m #[(.int p0), (.int p1), (.int p2), (.int p3), (.int p4), (.int p5)] maxLocals)) t := by
                  intro t kont
                  refine pre343 t ?_
                  show Steps p.tables e below (T340.setTop (mkF m 286 #[.val (.int p0), .val (.int p1), .val (.int p2), .val (.int p3), .val (.int p4), .val (.int p5), .val (.int (1 : Int32)), .val (.int sA), .val (.int sB), .val (.long cn), .second, .val (.int dr), .val (.int a), .val (.int bq), .val (.int ev), .val (.ref b141), .val (.int (a + sA)), .val (.int (1 : Int32)), .val (.int (bq + sA))] [(.int bq), (.int a)])) _
                  refine XS.icmpNo X340.here hx rfl (hb hby at_286) rfl (teq hc286).2 ?_
                  exact kont
                have hus : (bq + sA) = (a + sA) := by rw [hc286]
                have pre345 : ∀ t, Steps p.tables e below (T340.setTop (mkF m 298 #[.val (.int p0), .val (.int p1), .val (.int p2), .val (.int p3), .val (.int p4), .val (.int p5), .val (.int (1 : Int32)), .val (.int sA), .val (.int sB), .val (.long cn), .second, .val (.int dr), .val (.int a), .val (.int bq), .val (.int ev), .val (.ref b141), .val (.int (a + sA)), .val (.int (1 : Int32)), .val (.int (bq + sA))] [(.int (a + sA)), (.int (bq + sA))])) t → Steps p.tables e below (s₁.setTop (entryFrame m #[(.int p0), (.int p1), (.int p2), (.int p3), (.int p4), (.int p5)] maxLocals)) t := by
                  intro t kont
                  refine pre344 t ?_
                  show Steps p.tables e below (T340.setTop (mkF m 289 #[.val (.int p0), .val (.int p1), .val (.int p2), .val (.int p3), .val (.int p4), .val (.int p5), .val (.int (1 : Int32)), .val (.int sA), .val (.int sB), .val (.long cn), .second, .val (.int dr), .val (.int a), .val (.int bq), .val (.int ev), .val (.ref b141), .val (.int (a + sA)), .val (.int (1 : Int32)), .val (.int (bq + sA))] [])) _
                  refine XS.iload X340.here hx rfl (hb hby at_289) rfl ?_
                  show Steps p.tables e below (T340.setTop (mkF m 291 #[.val (.int p0), .val (.int p1), .val (.int p2), .val (.int p3), .val (.int p4), .val (.int p5), .val (.int (1 : Int32)), .val (.int sA), .val (.int sB), .val (.long cn), .second, .val (.int dr), .val (.int a), .val (.int bq), .val (.int ev), .val (.ref b141), .val (.int (a + sA)), .val (.int (1 : Int32)), .val (.int (bq + sA))] [(.int (1 : Int32))])) _
                  refine XS.ifNo X340.here hx rfl (hb hby at_291) rfl ((if0 _ _).trans (feq (by decide)).1) ?_
                  show Steps p.tables e below (T340.setTop (mkF m 294 #[.val (.int p0), .val (.int p1), .val (.int p2), .val (.int p3), .val (.int p4), .val (.int p5), .val (.int (1 : Int32)), .val (.int sA), .val (.int sB), .val (.long cn), .second, .val (.int dr), .val (.int a), .val (.int bq), .val (.int ev), .val (.ref b141), .val (.int (a + sA)), .val (.int (1 : Int32)), .val (.int (bq + sA))] [])) _
                  refine XS.iload X340.here hx rfl (hb hby at_294) rfl ?_
                  show Steps p.tables e below (T340.setTop (mkF m 296 #[.val (.int p0), .val (.int p1), .val (.int p2), .val (.int p3), .val (.int p4), .val (.int p5), .val (.int (1 : Int32)), .val (.int sA), .val (.int sB), .val (.long cn), .second, .val (.int dr), .val (.int a), .val (.int bq), .val (.int ev), .val (.ref b141), .val (.int (a + sA)), .val (.int (1 : Int32)), .val (.int (bq + sA))] [(.int (bq + sA))])) _
                  refine XS.iload X340.here hx rfl (hb hby at_296) rfl ?_
                  exact kont
                by_cases hc298 : (bq + sA) = (a + sA)
                · have pre346 : ∀ t, Steps p.tables e below (T340.setTop (mkF m 306 #[.val (.int p0), .val (.int p1), .val (.int p2), .val (.int p3), .val (.int p4), .val (.int p5), .val (.int (1 : Int32)), .val (.int sA), .val (.int sB), .val (.long cn), .second, .val (.int dr), .val (.int a), .val (.int bq), .val (.int ev), .val (.ref b141), .val (.int (a + sA)), .val (.int (1 : Int32)), .val (.int (bq + sA))] [(.int (1 : Int32))])) t → Steps p.tables e below (s₁.setTop (entryFrame m #[(.int p0), (.int p1), (.int p2), (.int p3), (.int p4), (.int p5)] maxLocals)) t := by
                    intro t kont
                    refine pre345 t ?_
                    show Steps p.tables e below (T340.setTop (mkF m 298 #[.val (.int p0), .val (.int p1), .val (.int p2), .val (.int p3), .val (.int p4), .val (.int p5), .val (.int (1 : Int32)), .val (.int sA), .val (.int sB), .val (.long cn), .second, .val (.int dr), .val (.int a), .val (.int bq), .val (.int ev), .val (.ref b141), .val (.int (a + sA)), .val (.int (1 : Int32)), .val (.int (bq + sA))] [(.int (a + sA)), (.int (bq + sA))])) _
                    refine XS.icmpNo X340.here hx rfl (hb hby at_298) rfl (teq hc298).2 ?_
                    show Steps p.tables e below (T340.setTop (mkF m 301 #[.val (.int p0), .val (.int p1), .val (.int p2), .val (.int p3), .val (.int p4), .val (.int p5), .val (.int (1 : Int32)), .val (.int sA), .val (.int sB), .val (.long cn), .second, .val (.int dr), .val (.int a), .val (.int bq), .val (.int ev), .val (.ref b141), .val (.int (a + sA)), .val (.int (1 : Int32)), .val (.int (bq + sA))] [])) _
                    refine XS.iconst X340.here hx rfl (hb hby at_301) ?_
                    show Steps p.tables e below (T340.setTop (mkF m 302 #[.val (.int p0), .val (.int p1), .val (.int p2), .val (.int p3), .val (.int p4), .val (.int p5), .val (.int (1 : Int32)), .val (.int sA), .val (.int sB), .val (.long cn), .second, .val (.int dr), .val (.int a), .val (.int bq), .val (.int ev), .val (.ref b141), .val (.int (a + sA)), .val (.int (1 : Int32)), .val (.int (bq + sA))] [(.int (1 : Int32))])) _
                    refine XS.goto X340.here hx rfl (pc0 := 302) (pc' := 306) rfl (hb hby at_302) (by decide) (by decide) ?_
                    exact kont
                  obtain ⟨fs, hr, hrun, hended, hW, hsame⟩ := X340.leave (v := some (.int (1 : Int32))) (fun h => by rw [Bd.returns] at h; cases h)
                  refine ⟨_, _, pre346 _ ?_, hrun, hended, _, _, rfl, ?_, ⟨_, rfl⟩, hW, hsame.mono (by decide) (by decide)⟩
                  · exact retN X340 hx (t := .boolean) Bd.returns (by simp) (hb hby at_306) hr
                  · show Q0 Z p0 p1 p2 p3 p4 p5 h0 n0 _ T340.heap _
                    rw [e340]
                    exact ⟨rfl, N340⟩
                · exfalso
                  exact hc298 hus
              · have pre347 : ∀ t, Steps p.tables e below (T340.setTop (mkF m 307 #[.val (.int p0), .val (.int p1), .val (.int p2), .val (.int p3), .val (.int p4), .val (.int p5), .val (.int (1 : Int32)), .val (.int sA), .val (.int sB), .val (.long cn), .second, .val (.int dr), .val (.int a), .val (.int bq), .val (.int ev), .val (.ref b141), .val (.int (a + sA)), .val (.int (1 : Int32)), .val (.int (bq + sA))] [])) t → Steps p.tables e below (s₁.setTop (entryFrame m #[(.int p0), (.int p1), (.int p2), (.int p3), (.int p4), (.int p5)] maxLocals)) t := by
                  intro t kont
                  refine pre343 t ?_
                  show Steps p.tables e below (T340.setTop (mkF m 286 #[.val (.int p0), .val (.int p1), .val (.int p2), .val (.int p3), .val (.int p4), .val (.int p5), .val (.int (1 : Int32)), .val (.int sA), .val (.int sB), .val (.long cn), .second, .val (.int dr), .val (.int a), .val (.int bq), .val (.int ev), .val (.ref b141), .val (.int (a + sA)), .val (.int (1 : Int32)), .val (.int (bq + sA))] [(.int bq), (.int a)])) _
                  refine XS.icmpYes X340.here hx rfl (pc0 := 286) (pc' := 307) rfl (hb hby at_286) rfl (feq hc286).2 (by decide) (by decide) ?_
                  exact kont
                have hun : ¬ (bq + sA) = (a + sA) := fun q => hc286 (Int32.toInt_inj.mp (by rw [← Int32.toInt_inj] at q; omega))
                have hu0 : ¬ (bq + sA) < 0 := own_i0 sb0
                have huk : (bq + sA).toNatClampNeg ≠ (a + sA).toNatClampNeg := own_nn sa0 sb0 hun
                have pre348 : ∀ t, Steps p.tables e below (T340.setTop (mkF m 316 #[.val (.int p0), .val (.int p1), .val (.int p2), .val (.int p3), .val (.int p4), .val (.int p5), .val (.int (1 : Int32)), .val (.int sA), .val (.int sB), .val (.long cn), .second, .val (.int dr), .val (.int a), .val (.int bq), .val (.int ev), .val (.ref b141), .val (.int (a + sA)), .val (.int (1 : Int32)), .val (.int (bq + sA))] [(.int (a + sA)), (.int (bq + sA))])) t → Steps p.tables e below (s₁.setTop (entryFrame m #[(.int p0), (.int p1), (.int p2), (.int p3), (.int p4), (.int p5)] maxLocals)) t := by
                  intro t kont
                  refine pre347 t ?_
                  show Steps p.tables e below (T340.setTop (mkF m 307 #[.val (.int p0), .val (.int p1), .val (.int p2), .val (.int p3), .val (.int p4), .val (.int p5), .val (.int (1 : Int32)), .val (.int sA), .val (.int sB), .val (.long cn), .second, .val (.int dr), .val (.int a), .val (.int bq), .val (.int ev), .val (.ref b141), .val (.int (a + sA)), .val (.int (1 : Int32)), .val (.int (bq + sA))] [])) _
                  refine XS.iload X340.here hx rfl (hb hby at_307) rfl ?_
                  show Steps p.tables e below (T340.setTop (mkF m 309 #[.val (.int p0), .val (.int p1), .val (.int p2), .val (.int p3), .val (.int p4), .val (.int p5), .val (.int (1 : Int32)), .val (.int sA), .val (.int sB), .val (.long cn), .second, .val (.int dr), .val (.int a), .val (.int bq), .val (.int ev), .val (.ref b141), .val (.int (a + sA)), .val (.int (1 : Int32)), .val (.int (bq + sA))] [(.int (1 : Int32))])) _
                  refine XS.ifNo X340.here hx rfl (hb hby at_309) rfl ((if0 _ _).trans (feq (by decide)).1) ?_
                  show Steps p.tables e below (T340.setTop (mkF m 312 #[.val (.int p0), .val (.int p1), .val (.int p2), .val (.int p3), .val (.int p4), .val (.int p5), .val (.int (1 : Int32)), .val (.int sA), .val (.int sB), .val (.long cn), .second, .val (.int dr), .val (.int a), .val (.int bq), .val (.int ev), .val (.ref b141), .val (.int (a + sA)), .val (.int (1 : Int32)), .val (.int (bq + sA))] [])) _
                  refine XS.iload X340.here hx rfl (hb hby at_312) rfl ?_
                  show Steps p.tables e below (T340.setTop (mkF m 314 #[.val (.int p0), .val (.int p1), .val (.int p2), .val (.int p3), .val (.int p4), .val (.int p5), .val (.int (1 : Int32)), .val (.int sA), .val (.int sB), .val (.long cn), .second, .val (.int dr), .val (.int a), .val (.int bq), .val (.int ev), .val (.ref b141), .val (.int (a + sA)), .val (.int (1 : Int32)), .val (.int (bq + sA))] [(.int (bq + sA))])) _
                  refine XS.iload X340.here hx rfl (hb hby at_314) rfl ?_
                  exact kont
                by_cases hc316 : (bq + sA) = (a + sA)
                · exfalso
                  first | exact hc356 rfl | exact hc336 rfl | exact hc346 (own_lt16 hu0 hu16) | exact hu0 hc321 | exact hun hc316
                · have pre349 : ∀ t, Steps p.tables e below (T340.setTop (mkF m 321 #[.val (.int p0), .val (.int p1), .val (.int p2), .val (.int p3), .val (.int p4), .val (.int p5), .val (.int (1 : Int32)), .val (.int sA), .val (.int sB), .val (.long cn), .second, .val (.int dr), .val (.int a), .val (.int bq), .val (.int ev), .val (.ref b141), .val (.int (a + sA)), .val (.int (1 : Int32)), .val (.int (bq + sA))] [(.int (bq + sA))])) t → Steps p.tables e below (s₁.setTop (entryFrame m #[(.int p0), (.int p1), (.int p2), (.int p3), (.int p4), (.int p5)] maxLocals)) t := by
                    intro t kont
                    refine pre348 t ?_
                    show Steps p.tables e below (T340.setTop (mkF m 316 #[.val (.int p0), .val (.int p1), .val (.int p2), .val (.int p3), .val (.int p4), .val (.int p5), .val (.int (1 : Int32)), .val (.int sA), .val (.int sB), .val (.long cn), .second, .val (.int dr), .val (.int a), .val (.int bq), .val (.int ev), .val (.ref b141), .val (.int (a + sA)), .val (.int (1 : Int32)), .val (.int (bq + sA))] [(.int (a + sA)), (.int (bq + sA))])) _
                    refine XS.icmpNo X340.here hx rfl (hb hby at_316) rfl (feq hc316).1 ?_
                    show Steps p.tables e below (T340.setTop (mkF m 319 #[.val (.int p0), .val (.int p1), .val (.int p2), .val (.int p3), .val (.int p4), .val (.int p5), .val (.int (1 : Int32)), .val (.int sA), .val (.int sB), .val (.long cn), .second, .val (.int dr), .val (.int a), .val (.int bq), .val (.int ev), .val (.ref b141), .val (.int (a + sA)), .val (.int (1 : Int32)), .val (.int (bq + sA))] [])) _
                    refine XS.iload X340.here hx rfl (hb hby at_319) rfl ?_
                    exact kont
                  by_cases hc321 : (bq + sA) < (0 : Int32)
                  · exfalso
                    first | exact hc356 rfl | exact hc336 rfl | exact hc346 (own_lt16 hu0 hu16) | exact hu0 hc321 | exact hun hc316
                  · have pre350 : ∀ t, Steps p.tables e below (T340.setTop (mkF m 336 #[.val (.int p0), .val (.int p1), .val (.int p2), .val (.int p3), .val (.int p4), .val (.int p5), .val (.int (1 : Int32)), .val (.int sA), .val (.int sB), .val (.long cn), .second, .val (.int dr), .val (.int a), .val (.int bq), .val (.int ev), .val (.ref b141), .val (.int (a + sA)), .val (.int (1 : Int32)), .val (.int (bq + sA))] [(.int (bq + sA)), (.int (bq + sA))])) t → Steps p.tables e below (s₁.setTop (entryFrame m #[(.int p0), (.int p1), (.int p2), (.int p3), (.int p4), (.int p5)] maxLocals)) t := by
                      intro t kont
                      refine pre349 t ?_
                      show Steps p.tables e below (T340.setTop (mkF m 321 #[.val (.int p0), .val (.int p1), .val (.int p2), .val (.int p3), .val (.int p4), .val (.int p5), .val (.int (1 : Int32)), .val (.int sA), .val (.int sB), .val (.long cn), .second, .val (.int dr), .val (.int a), .val (.int bq), .val (.int ev), .val (.ref b141), .val (.int (a + sA)), .val (.int (1 : Int32)), .val (.int (bq + sA))] [(.int (bq + sA))])) _
                      refine XS.ifNo X340.here hx rfl (hb hby at_321) rfl ((if0 _ _).trans (flt hc321).1) ?_
                      show Steps p.tables e below (T340.setTop (mkF m 324 #[.val (.int p0), .val (.int p1), .val (.int p2), .val (.int p3), .val (.int p4), .val (.int p5), .val (.int (1 : Int32)), .val (.int sA), .val (.int sB), .val (.long cn), .second, .val (.int dr), .val (.int a), .val (.int bq), .val (.int ev), .val (.ref b141), .val (.int (a + sA)), .val (.int (1 : Int32)), .val (.int (bq + sA))] [])) _
                      refine XS.iload X340.here hx rfl (hb hby at_324) rfl ?_
                      show Steps p.tables e below (T340.setTop (mkF m 326 #[.val (.int p0), .val (.int p1), .val (.int p2), .val (.int p3), .val (.int p4), .val (.int p5), .val (.int (1 : Int32)), .val (.int sA), .val (.int sB), .val (.long cn), .second, .val (.int dr), .val (.int a), .val (.int bq), .val (.int ev), .val (.ref b141), .val (.int (a + sA)), .val (.int (1 : Int32)), .val (.int (bq + sA))] [(.int (1 : Int32))])) _
                      refine XS.ifNo X340.here hx rfl (hb hby at_326) rfl ((if0 _ _).trans (feq (by decide)).1) ?_
                      show Steps p.tables e below (T340.setTop (mkF m 329 #[.val (.int p0), .val (.int p1), .val (.int p2), .val (.int p3), .val (.int p4), .val (.int p5), .val (.int (1 : Int32)), .val (.int sA), .val (.int sB), .val (.long cn), .second, .val (.int dr), .val (.int a), .val (.int bq), .val (.int ev), .val (.ref b141), .val (.int (a + sA)), .val (.int (1 : Int32)), .val (.int (bq + sA))] [])) _
                      refine XS.iload X340.here hx rfl (hb hby at_329) rfl ?_
                      show Steps p.tables e below (T340.setTop (mkF m 331 #[.val (.int p0), .val (.int p1), .val (.int p2), .val (.int p3), .val (.int p4), .val (.int p5), .val (.int (1 : Int32)), .val (.int sA), .val (.int sB), .val (.long cn), .second, .val (.int dr), .val (.int a), .val (.int bq), .val (.int ev), .val (.ref b141), .val (.int (a + sA)), .val (.int (1 : Int32)), .val (.int (bq + sA))] [(.int (bq + sA))])) _
                      refine XS.iload X340.here hx rfl (hb hby at_331) rfl ?_
                      show Steps p.tables e below (T340.setTop (mkF m 333 #[.val (.int p0), .val (.int p1), .val (.int p2), .val (.int p3), .val (.int p4), .val (.int p5), .val (.int (1 : Int32)), .val (.int sA), .val (.int sB), .val (.long cn), .second, .val (.int dr), .val (.int a), .val (.int bq), .val (.int ev), .val (.ref b141), .val (.int (a + sA)), .val (.int (1 : Int32)), .val (.int (bq + sA))] [(.int bq), (.int (bq + sA))])) _
                      refine XS.iload X340.here hx rfl (hb hby at_333) rfl ?_
                      show Steps p.tables e below (T340.setTop (mkF m 335 #[.val (.int p0), .val (.int p1), .val (.int p2), .val (.int p3), .val (.int p4), .val (.int p5), .val (.int (1 : Int32)), .val (.int sA), .val (.int sB), .val (.long cn), .second, .val (.int dr), .val (.int a), .val (.int bq), .val (.int ev), .val (.ref b141), .val (.int (a + sA)), .val (.int (1 : Int32)), .val (.int (bq + sA))] [(.int sA), (.int bq), (.int (bq + sA))])) _
                      refine XS.iadd X340.here hx rfl (hb hby at_335) rfl ?_
                      exact kont
                    by_cases hc336 : (bq + sA) = (bq + sA)
                    · have pre351 : ∀ t, Steps p.tables e below (T340.setTop (mkF m 353 #[.val (.int p0), .val (.int p1), .val (.int p2), .val (.int p3), .val (.int p4), .val (.int p5), .val (.int (1 : Int32)), .val (.int sA), .val (.int sB), .val (.long cn), .second, .val (.int dr), .val (.int a), .val (.int bq), .val (.int ev), .val (.ref b141), .val (.int (a + sA)), .val (.int (1 : Int32)), .val (.int (bq + sA))] [(.int (bq + sA)), (.ref b141)])) t → Steps p.tables e below (s₁.setTop (entryFrame m #[(.int p0), (.int p1), (.int p2), (.int p3), (.int p4), (.int p5)] maxLocals)) t := by
                        intro t kont
                        refine pre350 t ?_
                        show Steps p.tables e below (T340.setTop (mkF m 336 #[.val (.int p0), .val (.int p1), .val (.int p2), .val (.int p3), .val (.int p4), .val (.int p5), .val (.int (1 : Int32)), .val (.int sA), .val (.int sB), .val (.long cn), .second, .val (.int dr), .val (.int a), .val (.int bq), .val (.int ev), .val (.ref b141), .val (.int (a + sA)), .val (.int (1 : Int32)), .val (.int (bq + sA))] [(.int (bq + sA)), (.int (bq + sA))])) _
                        refine XS.icmpNo X340.here hx rfl (hb hby at_336) rfl (teq hc336).2 ?_
                        show Steps p.tables e below (T340.setTop (mkF m 339 #[.val (.int p0), .val (.int p1), .val (.int p2), .val (.int p3), .val (.int p4), .val (.int p5), .val (.int (1 : Int32)), .val (.int sA), .val (.int sB), .val (.long cn), .second, .val (.int dr), .val (.int a), .val (.int bq), .val (.int ev), .val (.ref b141), .val (.int (a + sA)), .val (.int (1 : Int32)), .val (.int (bq + sA))] [])) _
                        refine XS.goto X340.here hx rfl (pc0 := 339) (pc' := 349) rfl (hb hby at_339) (by decide) (by decide) ?_
                        show Steps p.tables e below (T340.setTop (mkF m 349 #[.val (.int p0), .val (.int p1), .val (.int p2), .val (.int p3), .val (.int p4), .val (.int p5), .val (.int (1 : Int32)), .val (.int sA), .val (.int sB), .val (.long cn), .second, .val (.int dr), .val (.int a), .val (.int bq), .val (.int ev), .val (.ref b141), .val (.int (a + sA)), .val (.int (1 : Int32)), .val (.int (bq + sA))] [])) _
                        refine XS.aload X340.here hx rfl (hb hby at_349) rfl rfl ?_
                        show Steps p.tables e below (T340.setTop (mkF m 351 #[.val (.int p0), .val (.int p1), .val (.int p2), .val (.int p3), .val (.int p4), .val (.int p5), .val (.int (1 : Int32)), .val (.int sA), .val (.int sB), .val (.long cn), .second, .val (.int dr), .val (.int a), .val (.int bq), .val (.int ev), .val (.ref b141), .val (.int (a + sA)), .val (.int (1 : Int32)), .val (.int (bq + sA))] [(.ref b141)])) _
                        refine XS.iload X340.here hx rfl (hb hby at_351) rfl ?_
                        exact kont
                      obtain ⟨cq352, kq352, q352a, q352b, q352c⟩ := isOf hZ e340 Hp.1
                      obtain ⟨_, _, ⟨T352, L352, k352, n352⟩, -, X352, ⟨Lc352, hQ352, l352, y352, z352⟩, st352⟩ := X340.virtualBack hx (y := (⟨"com/example/impronta/impronta/engine/Alignments", "end", "(I)I"⟩ : MethodName)) (z := (⟨"com/example/impronta/impronta/engine/Alignments", "end", "(I)I"⟩ : MethodName)) hown (mvT hZ (hw _ (List.mem_of_getElem? (i := 65) rfl))) (mvT hZ (hw _ (List.mem_of_getElem? (i := 59) rfl))) (notFace_of_selects (args := #[]) (mvT hZ (hw _ (List.mem_of_getElem? (i := 61) rfl)))) (mvT hZ (hw _ (List.mem_of_getElem? (i := 61) rfl))) (mvT hZ (hw _ (List.mem_of_getElem? (i := 60) rfl))) (by decide) (backOf (W := 0) (rm9 l Z a0 hw [] b141 (bq + sA) be317 ba bn bf dr (1 : Int32) (-sA) ((0 : Int32) + (1 : Int32)) ne317 (own_set (fun _ => (0 : Int32)) (a + sA).toNatClampNeg ev) (fun _ => (-2147483648 : Int32)) (fun _ => (0 : Int32)) (own_set (fun _ => (0 : Int32)) 0 (a + sA)) (bq + sA).toNatClampNeg  T327.heap n0 Z327 Hp hu0 rfl (fun q => absurd q (by decide)) (fun _ => kb)) hZ (hw _ (List.mem_of_getElem? (i := 62) rfl)) (hw _ (List.mem_of_getElem? (i := 10) rfl)) (by decide) (by decide)) q352a q352c (g := (mkF m 353 #[.val (.int p0), .val (.int p1), .val (.int p2), .val (.int p3), .val (.int p4), .val (.int p5), .val (.int (1 : Int32)), .val (.int sA), .val (.int sB), .val (.long cn), .second, .val (.int dr), .val (.int a), .val (.int bq), .val (.int ev), .val (.ref b141), .val (.int (a + sA)), .val (.int (1 : Int32)), .val (.int (bq + sA))] [(.int (bq + sA)), (.ref b141)])) rfl (by rw [hml]; rfl) (Steps.refl _) (argsL := [(.int (bq + sA))]) (rest := []) (lenOf pd_2 rfl) rfl (by show 2 * 0 + _ ≤ _; exact Nat.le_of_eq rfl) (hb hby at_353) (fun _ _ => ⟨rfl, e340, (by decide : 6 + 0 ≤ _), (by decide : 560 + 0 ≤ _)⟩)
                      dsimp only [Pt.U, Pt.locs, Pt.cells, Pt.slots] at X352 l352 y352 z352 st352 hQ352
                      subst l352 y352 z352
                      obtain ⟨rfl, N352q, e352⟩ := hQ352
                      have N352 := Fr.app N340 N352q
                      have pre353 : ∀ t, Steps p.tables e below (T352.setTop (mkF m 356 #[.val (.int p0), .val (.int p1), .val (.int p2), .val (.int p3), .val (.int p4), .val (.int p5), .val (.int (1 : Int32)), .val (.int sA), .val (.int sB), .val (.long cn), .second, .val (.int dr), .val (.int a), .val (.int bq), .val (.int ev), .val (.ref b141), .val (.int (a + sA)), .val (.int (1 : Int32)), .val (.int (bq + sA))] [(.int (own_end (1 : Int32) (own_set (fun _ => (0 : Int32)) (a + sA).toNatClampNeg ev) (fun _ => (0 : Int32)) (bq + sA).toNatClampNeg))])) t → Steps p.tables e below (s₁.setTop (entryFrame m #[(.int p0), (.int p1), (.int p2), (.int p3), (.int p4), (.int p5)] maxLocals)) t := fun t kont => pre351 t (st352.trans kont)
                      have rq354 : (own_end (1 : Int32) (own_set (fun _ => (0 : Int32)) (a + sA).toNatClampNeg ev) (fun _ => (0 : Int32)) (bq + sA).toNatClampNeg) = (0 : Int32) := (own_end1 _ _ _).trans (own_miss _ _ _ _ huk)
                      rw [rq354] at pre353
                      have pre355 : ∀ t, Steps p.tables e below (T352.setTop (mkF m 364 #[.val (.int p0), .val (.int p1), .val (.int p2), .val (.int p3), .val (.int p4), .val (.int p5), .val (.int (1 : Int32)), .val (.int sA), .val (.int sB), .val (.long cn), .second, .val (.int dr), .val (.int a), .val (.int bq), .val (.int ev), .val (.ref b141), .val (.int (a + sA)), .val (.int (1 : Int32)), .val (.int (bq + sA))] [(.int (1 : Int32))])) t → Steps p.tables e below (s₁.setTop (entryFrame m #[(.int p0), (.int p1), (.int p2), (.int p3), (.int p4), (.int p5)] maxLocals)) t := by
                        intro t kont
                        refine pre353 t ?_
                        show Steps p.tables e below (T352.setTop (mkF m 356 #[.val (.int p0), .val (.int p1), .val (.int p2), .val (.int p3), .val (.int p4), .val (.int p5), .val (.int (1 : Int32)), .val (.int sA), .val (.int sB), .val (.long cn), .second, .val (.int dr), .val (.int a), .val (.int bq), .val (.int ev), .val (.ref b141), .val (.int (a + sA)), .val (.int (1 : Int32)), .val (.int (bq + sA))] [(.int (0 : Int32))])) _
                        refine XS.ifNo X352.here hx rfl (hb hby at_356) rfl ((if0 _ _).trans (teq (by decide)).2) ?_
                        show Steps p.tables e below (T352.setTop (mkF m 359 #[.val (.int p0), .val (.int p1), .val (.int p2), .val (.int p3), .val (.int p4), .val (.int p5), .val (.int (1 : Int32)), .val (.int sA), .val (.int sB), .val (.long cn), .second, .val (.int dr), .val (.int a), .val (.int bq), .val (.int ev), .val (.ref b141), .val (.int (a + sA)), .val (.int (1 : Int32)), .val (.int (bq + sA))] [])) _
                        refine XS.iconst X352.here hx rfl (hb hby at_359) ?_
                        show Steps p.tables e below (T352.setTop (mkF m 360 #[.val (.int p0), .val (.int p1), .val (.int p2), .val (.int p3), .val (.int p4), .val (.int p5), .val (.int (1 : Int32)), .val (.int sA), .val (.int sB), .val (.long cn), .second, .val (.int dr), .val (.int a), .val (.int bq), .val (.int ev), .val (.ref b141), .val (.int (a + sA)), .val (.int (1 : Int32)), .val (.int (bq + sA))] [(.int (1 : Int32))])) _
                        refine XS.goto X352.here hx rfl (pc0 := 360) (pc' := 364) rfl (hb hby at_360) (by decide) (by decide) ?_
                        exact kont
                      obtain ⟨fs, hr, hrun, hended, hW, hsame⟩ := X352.leave (v := some (.int (1 : Int32))) (fun h => by rw [Bd.returns] at h; cases h)
                      refine ⟨_, _, pre355 _ ?_, hrun, hended, _, _, rfl, ?_, ⟨_, rfl⟩, hW, hsame.mono (by decide) (by decide)⟩
                      · exact retN X352 hx (t := .boolean) Bd.returns (by simp) (hb hby at_364) hr
                      · show Q0 Z p0 p1 p2 p3 p4 p5 h0 n0 _ T352.heap _
                        rw [e352]
                        exact ⟨rfl, N352⟩
                    · exfalso
                      first | exact hc356 rfl | exact hc336 rfl | exact hc346 (own_lt16 hu0 hu16) | exact hu0 hc321 | exact hun hc316
            · exfalso
              first | exact hc263 rfl | exact hc251 rfl
          · exfalso
            first | exact hc263 rfl | exact hc251 rfl
        · exfalso
          first | exact hc196 (own_ltl (by omega)) | exact own_i0 sa0 hc187 | exact hc182 rfl
    · exfalso
      first | exact hc196 (own_ltl (by omega)) | exact own_i0 sa0 hc187 | exact hc182 rfl
set_option maxRecDepth 65536 in
set_option maxHeartbeats 40000000 in
theorem comes_1 {Post : Tables → Env → Array Value → State → Outcome → State → Prop} (hpost : ∀ tb e args s v u, (limb_1_1.after args s (.returned v) u = true ∧ limb_1_2.after args s (.returned v) u = true ∧ True) → FrameEnd s (.returned v) u (Jvm.fieldLocs frame_1_writes args s ++ Jvm.arrayLocs frame_1_arrays args s ++ Jvm.staticLocs frame_1_statics s) 24 1216 → Post tb e args s (.returned v) u) :
    ArmFor flags0 classFile x code maxLocals ret World_1 tables_1 room_1 Calls_1 rest_1 Pre_1 Post := by
  intro l hfl _ _ p e ha hc hk s m args below hf hA hF happ hP
  obtain ⟨hcalls, hrest, hpre⟩ := hP
  obtain ⟨-, -, -, hnamed, -, -, -, hat⟩ := (Spec.applies_iff hf).mp happ
  obtain ⟨hg, hn⟩ := and_e (Cond.before_iff.mp (show (Jvm.Cond.and given_1 narrow_1).before args s = true from hpre))
  obtain ⟨g1, g2⟩ := and_e hg
  obtain ⟨g3, g4⟩ := and_e g2
  obtain ⟨g5, g6⟩ := and_e g4
  obtain ⟨g7, g8⟩ := and_e g6
  obtain ⟨g9, g10⟩ := and_e g8
  obtain ⟨g11, g12⟩ := and_e g10
  obtain ⟨w0, w1, w2, w3, w4, w5, rfl⟩ : ∃ w0 w1 w2 w3 w4 w5 : Value, args = #[w0, w1, w2, w3, w4, w5] := by
    have hs : args.size = 6 := by simpa [Cond.value, given_1] using g1
    obtain ⟨L⟩ := args
    match L, hs with
    | [w0, w1, w2, w3, w4, w5], _ => exact ⟨w0, w1, w2, w3, w4, w5, rfl⟩
  have hw := fun d (hd : d ∈ tables_1) => atoms_spec (ws := Jvm.Cond.code x code maxLocals ret :: tables_1) hat d (List.mem_cons_of_mem _ hd)
  have hfit : Fit s := fun {y c} hc i hi => by
    obtain ⟨ha, rfl⟩ := Array.getElem?_eq_some_iff.mp hc
    have q := List.all_eq_true.mp ((Array.all_eq_true_iff_forall_mem.mp hF) _ (Array.getElem_mem ha)) i (List.mem_range.mpr hi)
    simpa [Array.getElem?_eq_getElem hi] using q
  obtain ⟨i0, ei0⟩ := is_v g3
  obtain rfl : w0 = (.int i0) := Option.some.inj ei0
  obtain ⟨i1, ei1⟩ := is_v g5
  obtain rfl : w1 = (.int i1) := Option.some.inj ei1
  obtain ⟨i2, ei2⟩ := is_v g7
  obtain rfl : w2 = (.int i2) := Option.some.inj ei2
  obtain ⟨i3, ei3⟩ := is_v g9
  obtain rfl : w3 = (.int i3) := Option.some.inj ei3
  obtain ⟨i4, ei4⟩ := is_v g11
  obtain rfl : w4 = (.int i4) := Option.some.inj ei4
  obtain ⟨i5, ei5⟩ := is_v g12
  obtain rfl : w5 = (.int i5) := Option.some.inj ei5
  obtain ⟨n, o, h1, h2, h3, _, L, rfl, ⟨rfl, N⟩, hq⟩ := rm0 l s _ hw tables_1 i0 i1 i2 i3 i4 i5 s.heap s.heap.size (Nat.le_refl _) p e ha hc hk s m _ below hf ((Spec.applies_iff_loose hf).mp happ).1 ⟨rfl, State.Warmed39.refl s, rfl⟩ trivial
  refine ⟨n, _, h1, h2, h3, hpost _ _ _ _ _ _ ⟨Cond.after_iff.mpr rfl, Cond.after_iff.mpr (eq_i res_at (Term.int_eval (1)) rfl), trivial⟩ ⟨hq.1, hq.2.1, (hq.2.2.sift fun y hy => Or.inr (N y hy)).mono (by decide) (by decide)⟩⟩
theorem main_1_1 : Claimed_1_1 := comes_1 fun _ _ _ _ _ _ h hF => ⟨h.1, hF⟩
theorem main_1_2 : Claimed_1_2 := comes_1 fun _ _ _ _ _ _ h hF => ⟨h.2.1, hF⟩
end Jvm.Pilot.@@N@@
namespace Jvm.Pilot.@@N@@
open Jvm Jvm.ClassFile Sem Op Lib Jvm.Free Jvm.Stand Jvm.Pilot.@@N@@.Jvm.D
/-! MADE BY PROGRAM (witnessworld.py) out of the Statement's table words and the real class files: 11 classes; the members and pool entries that the words name. The judged class is class 1, her method 1. -/
namespace start1
open Jvm.ClassFile
def u (s : String) : CpInfo := .utf8 (stringToUtf16 s)
/-- a pool by its gaps: so many unusable entries, then the entry; so many at the end -/
def gap : Nat → List CpInfo → List CpInfo
  | 0, r => r
  | n + 1, r => .unusable :: gap n r
def poolList (es : List (Nat × CpInfo)) (last : Nat) : List CpInfo := es.foldr (fun e r => gap e.1 (e.2 :: r)) (gap last [])
def pool (es : List (Nat × CpInfo)) (last : Nat) : Array CpInfo := ⟨poolList es last⟩
def fileOf (pool : Array CpInfo) (this : Nat) (attrs : Array Attribute := #[]) (ms : Array MethodInfo := #[]) (fl : Nat := 33) (sup : Nat := 0) (ifs : Array Nat := #[]) (fds : Array FieldInfo := #[]) : ClassFile where
  minorVersion := 0
  majorVersion := 65
  constantPool := pool
  accessFlags := fl
  thisClass := this
  superClass := sup
  interfaces := ifs
  fields := fds
  methods := ms
  attributes := attrs
def plain (name : String) (sup : Option ClassId) : Class where
  name := name
  kind := .ordinary
  loader := none
  accessFlags := 33
  super := sup
  interfaces := #[]
  cf := none
  fields := #[]
  methods := #[]
  instanceTypes := #[]
  staticTypes := #[]
  resolved := #[]
  callSites := []
  init := .initialized
  statics := none
  mirror := none

def pool0 : Array CpInfo := pool [(5, u "<init>"), (0, u "()V"), (1, .class_ 10), (1, u "java/lang/Object")] 113

def k0c0 : Code := { maxStack := 0, maxLocals := 1, code := object_method_1_code, exceptionTable := #[], attributes := #[] }
def k0m0 : Method := { name := "<init>", desc := "()V", sig := { parameters := [], returnType := none }, accessFlags := 1, code := some k0c0 }
/-- java/lang/Object -/
def k0 : Class := { plain "java/lang/Object" none with
  accessFlags := 33
  interfaces := #[]
  cf := some (fileOf pool0 8 #[] #[{ accessFlags := 1, nameIndex := 5, descriptorIndex := 6, attributes := #[] }] 33 0 #[] #[])
  fields := #[]
  methods := #[k0m0]
  instanceTypes := #[]
  staticTypes := #[]
  resolved := Array.replicate 124 none
  statics := none }

def pool1 : Array CpInfo := pool [(2, .class_ 4), (1, u "java/lang/Object"), (0, u "<init>"), (0, u "()V"), (0, .integer 2147483647), (2, .long 2147483647), (1, .methodref 13 14), (0, .class_ 15), (0, .nameAndType 16 17), (0, u "java/lang/Math"), (0, u "min"), (0, u "(JJ)J"), (0, .long 4294967295), (1, .integer 65535), (0, .class_ 22), (0, u "com/example/impronta/impronta/engine/Alignments"), (0, .methodref 21 24), (0, .nameAndType 5 25), (0, u "(I)V"), (0, .methodref 21 27), (0, .nameAndType 28 29), (0, u "start"), (0, u "(II)V"), (0, .methodref 21 31), (0, .nameAndType 32 33), (0, u "slot"), (0, u "(I)I"), (0, .methodref 21 35), (0, .nameAndType 36 37), (0, u "put"), (0, u "(III)V"), (0, .methodref 21 39), (0, .nameAndType 40 33), (0, u "end"), (0, .class_ 42), (0, u "com/example/impronta/impronta/engine/AlignmentsSlotPinLaw"), (2, u "law"), (0, u "(IIIIII)Z")] 3

def k1m0 : Method := { name := "<init>", desc := "()V", sig := { parameters := [], returnType := none }, accessFlags := 1, code := none }
def k1c1 : Code := { maxStack := 4, maxLocals := 19, code := code, exceptionTable := #[], attributes := #[] }
def k1m1 : Method := { name := "law", desc := "(IIIIII)Z", sig := { parameters := [.int, .int, .int, .int, .int, .int], returnType := some .boolean }, accessFlags := 9, code := some k1c1 }
/-- com/example/impronta/impronta/engine/AlignmentsSlotPinLaw -/
def k1 : Class := { plain "com/example/impronta/impronta/engine/AlignmentsSlotPinLaw" (some 0) with
  accessFlags := 49
  interfaces := #[]
  cf := some (fileOf pool1 41 #[] #[{ accessFlags := 1, nameIndex := 5, descriptorIndex := 6, attributes := #[] }, { accessFlags := 9, nameIndex := 45, descriptorIndex := 46, attributes := #[] }] 49 2 #[] #[])
  fields := #[]
  methods := #[k1m0, k1m1]
  instanceTypes := #[]
  staticTypes := #[]
  resolved := Array.replicate 50 none
  statics := none }

def pool2 : Array CpInfo := pool [(1, .class_ 2), (0, u "java/lang/Math"), (1, .class_ 6), (1, u "java/lang/Object"), (0, u "<init>"), (0, u "()V"), (89, .class_ 100), (1, u "java/lang/Math$RandomNumberGeneratorHolder"), (20, u "(JJ)J"), (50, u "negativeZeroFloatBits"), (0, u "J"), (2, u "negativeZeroDoubleBits"), (24, u "min"), (43, u "$assertionsDisabled"), (0, u "Z"), (91, u "twoToTheDoubleScaleDown"), (0, u "D"), (4, u "twoToTheDoubleScaleUp"), (9, u "E"), (3, u "PI"), (2, u "TAU"), (2, u "DEGREES_TO_RADIANS"), (0, u "RADIANS_TO_DEGREES")] 94

def k2m0 : Method := { name := "<init>", desc := "()V", sig := { parameters := [], returnType := none }, accessFlags := 2, code := none }
def k2c1 : Code := { maxStack := 4, maxLocals := 4, code := jdk_29_method_70_code, exceptionTable := #[], attributes := #[] }
def k2m1 : Method := { name := "min", desc := "(JJ)J", sig := { parameters := [.long, .long], returnType := some .long }, accessFlags := 9, code := some k2c1 }
/-- java/lang/Math -/
def k2 : Class := { plain "java/lang/Math" (some 0) with
  accessFlags := 49
  interfaces := #[]
  cf := some (fileOf pool2 1 #[.nestMembers #[98]] #[{ accessFlags := 2, nameIndex := 7, descriptorIndex := 8, attributes := #[] }, { accessFlags := 9, nameIndex := 201, descriptorIndex := 121, attributes := #[] }] 49 4 #[] #[{ accessFlags := 25, nameIndex := 354, descriptorIndex := 339, attributes := #[] }, { accessFlags := 25, nameIndex := 358, descriptorIndex := 339, attributes := #[] }, { accessFlags := 25, nameIndex := 361, descriptorIndex := 339, attributes := #[] }, { accessFlags := 26, nameIndex := 364, descriptorIndex := 339, attributes := #[] }, { accessFlags := 26, nameIndex := 365, descriptorIndex := 339, attributes := #[] }, { accessFlags := 26, nameIndex := 172, descriptorIndex := 173, attributes := #[] }, { accessFlags := 26, nameIndex := 176, descriptorIndex := 173, attributes := #[] }, { accessFlags := 8, nameIndex := 344, descriptorIndex := 339, attributes := #[] }, { accessFlags := 8, nameIndex := 338, descriptorIndex := 339, attributes := #[] }, { accessFlags := 4120, nameIndex := 245, descriptorIndex := 246, attributes := #[] }])
  fields := #[{ name := "E", type := .double, accessFlags := 25, slot := 0, constantValue := 0 }, { name := "PI", type := .double, accessFlags := 25, slot := 1, constantValue := 0 }, { name := "TAU", type := .double, accessFlags := 25, slot := 2, constantValue := 0 }, { name := "DEGREES_TO_RADIANS", type := .double, accessFlags := 26, slot := 3, constantValue := 0 }, { name := "RADIANS_TO_DEGREES", type := .double, accessFlags := 26, slot := 4, constantValue := 0 }, { name := "negativeZeroFloatBits", type := .long, accessFlags := 26, slot := 5, constantValue := 0 }, { name := "negativeZeroDoubleBits", type := .long, accessFlags := 26, slot := 6, constantValue := 0 }, { name := "twoToTheDoubleScaleUp", type := .double, accessFlags := 8, slot := 7, constantValue := 0 }, { name := "twoToTheDoubleScaleDown", type := .double, accessFlags := 8, slot := 8, constantValue := 0 }, { name := "$assertionsDisabled", type := .boolean, accessFlags := 4120, slot := 9, constantValue := 0 }]
  methods := #[k2m0, k2m1]
  instanceTypes := #[]
  staticTypes := #[.double, .double, .double, .double, .double, .long, .long, .double, .double, .boolean]
  resolved := Array.replicate 460 none
  statics := none }

def pool3 : Array CpInfo := pool [(3, .methodref 4 5), (0, .class_ 6), (0, .nameAndType 7 8), (0, u "java/lang/Object"), (0, u "<init>"), (0, u "()V"), (0, .fieldref 10 11), (0, .class_ 12), (0, .nameAndType 13 14), (0, u "com/example/impronta/impronta/engine/Alignments"), (0, u "endsByAlignment"), (0, u "[I"), (0, .methodref 10 16), (0, .nameAndType 17 18), (0, u "emptySlots"), (0, u "(I)[I"), (0, .fieldref 10 20), (0, .nameAndType 21 14), (0, u "alignments"), (0, .fieldref 10 23), (0, .nameAndType 24 14), (0, u "ends"), (0, .fieldref 10 26), (0, .nameAndType 27 28), (0, u "shift"), (0, u "I"), (0, .fieldref 10 30), (0, .nameAndType 31 14), (0, u "filled"), (0, .fieldref 10 33), (0, .nameAndType 34 28), (0, u "direct"), (0, .fieldref 10 36), (0, .nameAndType 37 38), (0, u "ownSlots"), (0, u "Z"), (0, .fieldref 10 40), (0, .nameAndType 41 28), (0, u "lowest"), (0, .integer 2654435769), (0, .integer 2147483648), (0, .methodref 10 45), (0, .nameAndType 46 47), (0, u "end"), (0, u "(I)I"), (0, .fieldref 10 49), (0, .nameAndType 50 28), (0, u "size"), (1, .class_ 54), (1, u "java/util/Arrays"), (7, u "slot"), (2, u "put"), (0, u "(III)V"), (0, .methodref 52 68), (0, .nameAndType 69 70), (0, u "fill"), (0, u "([II)V"), (0, u "EMPTY"), (1, u "(I)V"), (2, u "start"), (0, u "(II)V")] 5

def k3c0 : Code := { maxStack := 2, maxLocals := 2, code := prog_18_method_1_code, exceptionTable := #[], attributes := #[] }
def k3m0 : Method := { name := "<init>", desc := "(I)V", sig := { parameters := [.int], returnType := none }, accessFlags := 0, code := some k3c0 }
def k3c1 : Code := { maxStack := 5, maxLocals := 5, code := prog_18_method_2_code, exceptionTable := #[], attributes := #[] }
def k3m1 : Method := { name := "start", desc := "(II)V", sig := { parameters := [.int, .int], returnType := none }, accessFlags := 0, code := some k3c1 }
def k3c2 : Code := { maxStack := 2, maxLocals := 4, code := prog_18_method_3_code, exceptionTable := #[], attributes := #[] }
def k3m2 : Method := { name := "slot", desc := "(I)I", sig := { parameters := [.int], returnType := some .int }, accessFlags := 0, code := some k3c2 }
def k3c3 : Code := { maxStack := 2, maxLocals := 2, code := prog_18_method_4_code, exceptionTable := #[], attributes := #[] }
def k3m3 : Method := { name := "end", desc := "(I)I", sig := { parameters := [.int], returnType := some .int }, accessFlags := 0, code := some k3c3 }
def k3c4 : Code := { maxStack := 5, maxLocals := 4, code := prog_18_method_5_code, exceptionTable := #[], attributes := #[] }
def k3m4 : Method := { name := "put", desc := "(III)V", sig := { parameters := [.int, .int, .int], returnType := none }, accessFlags := 0, code := some k3c4 }
def k3c5 : Code := { maxStack := 2, maxLocals := 2, code := prog_18_method_8_code, exceptionTable := #[], attributes := #[] }
def k3m5 : Method := { name := "emptySlots", desc := "(I)[I", sig := { parameters := [.int], returnType := some (.array .int) }, accessFlags := 10, code := some k3c5 }
/-- com/example/impronta/impronta/engine/Alignments -/
def k3 : Class := { plain "com/example/impronta/impronta/engine/Alignments" (some 0) with
  accessFlags := 32
  interfaces := #[]
  cf := some (fileOf pool3 10 #[] #[{ accessFlags := 0, nameIndex := 7, descriptorIndex := 73, attributes := #[] }, { accessFlags := 0, nameIndex := 76, descriptorIndex := 77, attributes := #[] }, { accessFlags := 0, nameIndex := 62, descriptorIndex := 47, attributes := #[] }, { accessFlags := 0, nameIndex := 46, descriptorIndex := 47, attributes := #[] }, { accessFlags := 0, nameIndex := 65, descriptorIndex := 66, attributes := #[] }, { accessFlags := 10, nameIndex := 17, descriptorIndex := 18, attributes := #[] }] 32 4 #[] #[{ accessFlags := 26, nameIndex := 71, descriptorIndex := 28, attributes := #[] }, { accessFlags := 18, nameIndex := 34, descriptorIndex := 28, attributes := #[] }, { accessFlags := 2, nameIndex := 37, descriptorIndex := 38, attributes := #[] }, { accessFlags := 2, nameIndex := 41, descriptorIndex := 28, attributes := #[] }, { accessFlags := 2, nameIndex := 13, descriptorIndex := 14, attributes := #[] }, { accessFlags := 2, nameIndex := 21, descriptorIndex := 14, attributes := #[] }, { accessFlags := 2, nameIndex := 24, descriptorIndex := 14, attributes := #[] }, { accessFlags := 2, nameIndex := 27, descriptorIndex := 28, attributes := #[] }, { accessFlags := 2, nameIndex := 31, descriptorIndex := 14, attributes := #[] }, { accessFlags := 2, nameIndex := 50, descriptorIndex := 28, attributes := #[] }])
  fields := #[{ name := "EMPTY", type := .int, accessFlags := 26, slot := 0, constantValue := 0 }, { name := "direct", type := .int, accessFlags := 18, slot := 0, constantValue := 0 }, { name := "ownSlots", type := .boolean, accessFlags := 2, slot := 1, constantValue := 0 }, { name := "lowest", type := .int, accessFlags := 2, slot := 2, constantValue := 0 }, { name := "endsByAlignment", type := (.array .int), accessFlags := 2, slot := 3, constantValue := 0 }, { name := "alignments", type := (.array .int), accessFlags := 2, slot := 4, constantValue := 0 }, { name := "ends", type := (.array .int), accessFlags := 2, slot := 5, constantValue := 0 }, { name := "shift", type := .int, accessFlags := 2, slot := 6, constantValue := 0 }, { name := "filled", type := (.array .int), accessFlags := 2, slot := 7, constantValue := 0 }, { name := "size", type := .int, accessFlags := 2, slot := 8, constantValue := 0 }]
  methods := #[k3m0, k3m1, k3m2, k3m3, k3m4, k3m5]
  instanceTypes := #[.int, .boolean, .int, (.array .int), (.array .int), (.array .int), .int, (.array .int), .int]
  staticTypes := #[.int]
  resolved := Array.replicate 83 none
  statics := none }

def pool4 : Array CpInfo := pool [(2, .class_ 4), (1, u "java/lang/Object"), (0, u "<init>"), (0, u "()V"), (7, .class_ 16), (1, u "java/util/Arrays"), (57, .class_ 76), (1, u "java/util/Arrays$NaturalOrder"), (36, .class_ 115), (1, u "java/util/Arrays$LegacyMergeSort"), (1, u "Z"), (257, .class_ 376), (0, u "java/util/Arrays$ArrayList"), (68, u "$assertionsDisabled"), (269, u "MIN_ARRAY_SORT_GRAN"), (0, u "I"), (2, u "INSERTIONSORT_THRESHOLD"), (120, u "fill"), (4, u "([II)V"), (129, .class_ 976), (0, u "java/util/Arrays$ArrayItr")] 52

def k4m0 : Method := { name := "<init>", desc := "()V", sig := { parameters := [], returnType := none }, accessFlags := 2, code := none }
def k4c1 : Code := { maxStack := 3, maxLocals := 4, code := jdk_65_method_103_code, exceptionTable := #[], attributes := #[] }
def k4m1 : Method := { name := "fill", desc := "([II)V", sig := { parameters := [(.array .int), .int], returnType := none }, accessFlags := 9, code := some k4c1 }
/-- java/util/Arrays -/
def k4 : Class := { plain "java/util/Arrays" (some 0) with
  accessFlags := 49
  interfaces := #[]
  cf := some (fileOf pool4 14 #[.nestMembers #[975, 375, 113, 74]] #[{ accessFlags := 2, nameIndex := 5, descriptorIndex := 6, attributes := #[] }, { accessFlags := 9, nameIndex := 840, descriptorIndex := 845, attributes := #[] }] 49 2 #[] #[{ accessFlags := 26, nameIndex := 715, descriptorIndex := 716, attributes := #[] }, { accessFlags := 26, nameIndex := 719, descriptorIndex := 716, attributes := #[] }, { accessFlags := 4120, nameIndex := 445, descriptorIndex := 117, attributes := #[] }])
  fields := #[{ name := "MIN_ARRAY_SORT_GRAN", type := .int, accessFlags := 26, slot := 0, constantValue := 0 }, { name := "INSERTIONSORT_THRESHOLD", type := .int, accessFlags := 26, slot := 1, constantValue := 0 }, { name := "$assertionsDisabled", type := .boolean, accessFlags := 4120, slot := 2, constantValue := 0 }]
  methods := #[k4m0, k4m1]
  instanceTypes := #[]
  staticTypes := #[.int, .int, .boolean]
  resolved := Array.replicate 1029 none
  statics := none }

def pool5 : Array CpInfo := pool [(1, u "java/lang/Cloneable"), (0, .class_ 1), (0, u "java/lang/Object"), (0, .class_ 3)] 3

/-- java/lang/Cloneable -/
def k5 : Class := { plain "java/lang/Cloneable" (some 0) with
  accessFlags := 1537
  interfaces := #[]
  cf := some (fileOf pool5 2 #[] #[] 1537 4 #[] #[])
  fields := #[]
  methods := #[]
  instanceTypes := #[]
  staticTypes := #[]
  resolved := Array.replicate 8 none
  statics := none }

def pool6 : Array CpInfo := pool [(1, u "java/io/Serializable"), (0, .class_ 1), (0, u "java/lang/Object"), (0, .class_ 3)] 3

/-- java/io/Serializable -/
def k6 : Class := { plain "java/io/Serializable" (some 0) with
  accessFlags := 1537
  interfaces := #[]
  cf := some (fileOf pool6 2 #[] #[] 1537 4 #[] #[])
  fields := #[]
  methods := #[]
  instanceTypes := #[]
  staticTypes := #[]
  resolved := Array.replicate 8 none
  statics := none }

/-- the primitive byte -/
def k7 : Class := { plain "byte" none with kind := .primitive 'B', accessFlags := 0x411 }
/-- [B -/
def k8 : Class := { plain "[B" (some 0) with kind := .array 7 .byte, interfaces := #[5, 6], accessFlags := 1041 }

/-- the primitive int -/
def k9 : Class := { plain "int" none with kind := .primitive 'I', accessFlags := 0x411 }
/-- [I -/
def k10 : Class := { plain "[I" (some 0) with kind := .array 9 .int, interfaces := #[5, 6], accessFlags := 1041 }

def heap : Heap := #[]
def classes : Array Class := #[k0, k1, k2, k3, k4, k5, k6, k7, k8, k9, k10]
def interned : List (Array UInt16 × Addr) := []
def slotsUsed : Nat := 0
def theMethod : MethodId := ⟨1, 1⟩
def args0 : Array Value := #[.int 9, .int 10, .int 5, .int 1, .int 3, .int 2]
def aboutOver (below : List Frame) : State where
  vm := { classes := classes, interned := interned.toArray }
  heap := heap
  slotsUsed := slotsUsed
  threads := #[{ frames := .invoking theMethod args0 :: below }]
def below0 : List Frame := [.native { method := ⟨0, 0⟩, args := #[] }]
def about1 : State := aboutOver below0
def p0 : Program := .bare "" "" ""
def e0 : Env := launch0.env 0 0 0
theorem w_frames : about1.frames = Frame.invoking theMethod args0 :: below0 := rfl
set_option maxRecDepth 65536 in
theorem w_args : argsFit about1.vm theMethod args0 = true := by decide +kernel
set_option maxRecDepth 65536 in
theorem w_heap : heapFits about1 = true := by decide +kernel
set_option maxRecDepth 65536 in
theorem w_runnable : about1.curStatus? = some .runnable := by decide +kernel
set_option maxRecDepth 65536 in
theorem w_alone : about1.alone = true := by decide +kernel
set_option maxRecDepth 65536 in
theorem w_named : about1.methodNamed? x = some theMethod := by decide +kernel
set_option maxRecDepth 65536 in
theorem w_hears : about1.hears theMethod below0 = true := by decide +kernel
set_option maxRecDepth 65536 in
theorem w_ripe : about1.ripe theMethod args0 below0 = true := by decide +kernel
theorem w_running : about1.status = .running := rfl
set_option maxRecDepth 65536 in
theorem w_room : about1.hasRoom e0.platform room_1 = true :=
  launch0.hasRoom_least _ room_1 (by decide +kernel) (by decide +kernel) (by decide +kernel) (by decide +kernel) (by decide +kernel) (by decide +kernel)
theorem allAtoms_all (ts : List Jvm.Cond) (a : Array Jvm.Value) (st : Jvm.State) : (allAtoms ts).before a st = ts.all (fun c => c.before a st) := by
  induction ts with
  | nil => rfl
  | cons c t ih =>
    show (Jvm.Cond.and c (allAtoms t)).before a st = _
    rw [Jvm.Cond.before_and, ih, List.all_cons]
def words1 : List Jvm.Cond := Jvm.Cond.code x code maxLocals ret :: tables_1
/-- a 'code' word, met by the world's own term for the bytes: nothing is compared byte by byte -/
theorem code_word {y : MethodName} {bytes : ByteArray} {mx : Nat} {rt : Option FieldType} {a : Array Value} {s : State} {m : MethodId} {meth : Method} {c : Code} (h1 : s.methodNamed? y = some m) (h2 : s.vm.method? m = some meth) (h3 : meth.code = some c) (h4 : c.code = bytes)
    (h5 : (c.maxLocals == mx && c.exceptionTable.isEmpty && decide (c.maxStack ≤ mostOperands) && decide (meth.sig.returnType = rt) && !meth.locks && decide (parseMethodDescriptor y.desc = some meth.sig)) = true) : (Jvm.Cond.code y bytes mx rt).before a s = true := by
  simp only [Bool.and_eq_true, beq_iff_eq, Bool.not_eq_true', decide_eq_true_eq] at h5
  obtain ⟨⟨⟨⟨⟨g1, g2⟩, g3⟩, g4⟩, g5⟩, g6⟩ := h5
  simp [Cond.before, Cond.holds, Cond.value, h1, h2, h3, h4, g1, g2, g3, g4, g5, g6]
def isCode : Jvm.Cond → Bool
  | .code _ _ _ _ => true
  | _ => false
theorem all_split {L : List Jvm.Cond} {P : Jvm.Cond → Bool} (h1 : L.all (fun c => isCode c || P c) = true) (h2 : ∀ c ∈ L.filter isCode, P c = true) : L.all P = true := by
  refine List.all_eq_true.mpr fun c hc => ?_
  have h := List.all_eq_true.mp h1 c hc
  rcases Bool.eq_false_or_eq_true (isCode c) with hi | hi
  · exact h2 c (List.mem_filter.mpr ⟨hc, hi⟩)
  · simpa [hi] using h
set_option maxRecDepth 65536 in
theorem w_c0 : (Jvm.Cond.code x code maxLocals ret).before args0 about1 = true := code_word (m := ⟨1, 1⟩) (meth := k1m1) (c := k1c1) (by decide +kernel) rfl rfl rfl (by decide +kernel)
set_option maxRecDepth 65536 in
theorem w_c1 : (Jvm.Cond.code ({ cls := "java/lang/Math", name := "min", desc := "(JJ)J" } : Jvm.MethodName) jdk_29_method_70_code (4 : Nat) (Option.some Jvm.ClassFile.FieldType.long)).before args0 about1 = true := code_word (m := ⟨2, 1⟩) (meth := k2m1) (c := k2c1) (by decide +kernel) rfl rfl rfl (by decide +kernel)
set_option maxRecDepth 65536 in
theorem w_c2 : (Jvm.Cond.code ({ cls := "com/example/impronta/impronta/engine/Alignments", name := "<init>", desc := "(I)V" } : Jvm.MethodName) prog_18_method_1_code (2 : Nat) (Option.none : Option Jvm.ClassFile.FieldType)).before args0 about1 = true := code_word (m := ⟨3, 0⟩) (meth := k3m0) (c := k3c0) (by decide +kernel) rfl rfl rfl (by decide +kernel)
set_option maxRecDepth 65536 in
theorem w_c3 : (Jvm.Cond.code ({ cls := "java/lang/Object", name := "<init>", desc := "()V" } : Jvm.MethodName) object_method_1_code (1 : Nat) (Option.none : Option Jvm.ClassFile.FieldType)).before args0 about1 = true := code_word (m := ⟨0, 0⟩) (meth := k0m0) (c := k0c0) (by decide +kernel) rfl rfl rfl (by decide +kernel)
set_option maxRecDepth 65536 in
theorem w_c4 : (Jvm.Cond.code ({ cls := "com/example/impronta/impronta/engine/Alignments", name := "emptySlots", desc := "(I)[I" } : Jvm.MethodName) prog_18_method_8_code (2 : Nat) (Option.some (Jvm.ClassFile.FieldType.array Jvm.ClassFile.FieldType.int))).before args0 about1 = true := code_word (m := ⟨3, 5⟩) (meth := k3m5) (c := k3c5) (by decide +kernel) rfl rfl rfl (by decide +kernel)
set_option maxRecDepth 65536 in
theorem w_c5 : (Jvm.Cond.code ({ cls := "java/util/Arrays", name := "fill", desc := "([II)V" } : Jvm.MethodName) jdk_65_method_103_code (4 : Nat) (Option.none : Option Jvm.ClassFile.FieldType)).before args0 about1 = true := code_word (m := ⟨4, 1⟩) (meth := k4m1) (c := k4c1) (by decide +kernel) rfl rfl rfl (by decide +kernel)
set_option maxRecDepth 65536 in
theorem w_c6 : (Jvm.Cond.code ({ cls := "com/example/impronta/impronta/engine/Alignments", name := "start", desc := "(II)V" } : Jvm.MethodName) prog_18_method_2_code (5 : Nat) (Option.none : Option Jvm.ClassFile.FieldType)).before args0 about1 = true := code_word (m := ⟨3, 1⟩) (meth := k3m1) (c := k3c1) (by decide +kernel) rfl rfl rfl (by decide +kernel)
set_option maxRecDepth 65536 in
theorem w_c7 : (Jvm.Cond.code ({ cls := "com/example/impronta/impronta/engine/Alignments", name := "slot", desc := "(I)I" } : Jvm.MethodName) prog_18_method_3_code (4 : Nat) (Option.some Jvm.ClassFile.FieldType.int)).before args0 about1 = true := code_word (m := ⟨3, 2⟩) (meth := k3m2) (c := k3c2) (by decide +kernel) rfl rfl rfl (by decide +kernel)
set_option maxRecDepth 65536 in
theorem w_c8 : (Jvm.Cond.code ({ cls := "com/example/impronta/impronta/engine/Alignments", name := "put", desc := "(III)V" } : Jvm.MethodName) prog_18_method_5_code (4 : Nat) (Option.none : Option Jvm.ClassFile.FieldType)).before args0 about1 = true := code_word (m := ⟨3, 4⟩) (meth := k3m4) (c := k3c4) (by decide +kernel) rfl rfl rfl (by decide +kernel)
set_option maxRecDepth 65536 in
theorem w_c9 : (Jvm.Cond.code ({ cls := "com/example/impronta/impronta/engine/Alignments", name := "end", desc := "(I)I" } : Jvm.MethodName) prog_18_method_4_code (2 : Nat) (Option.some Jvm.ClassFile.FieldType.int)).before args0 about1 = true := code_word (m := ⟨3, 3⟩) (meth := k3m3) (c := k3c3) (by decide +kernel) rfl rfl rfl (by decide +kernel)
def codes1 : List Jvm.Cond := [Jvm.Cond.code x code maxLocals ret, Jvm.Cond.code ({ cls := "java/lang/Math", name := "min", desc := "(JJ)J" } : Jvm.MethodName) jdk_29_method_70_code (4 : Nat) (Option.some Jvm.ClassFile.FieldType.long), Jvm.Cond.code ({ cls := "com/example/impronta/impronta/engine/Alignments", name := "<init>", desc := "(I)V" } : Jvm.MethodName) prog_18_method_1_code (2 : Nat) (Option.none : Option Jvm.ClassFile.FieldType), Jvm.Cond.code ({ cls := "java/lang/Object", name := "<init>", desc := "()V" } : Jvm.MethodName) object_method_1_code (1 : Nat) (Option.none : Option Jvm.ClassFile.FieldType), Jvm.Cond.code ({ cls := "com/example/impronta/impronta/engine/Alignments", name := "emptySlots", desc := "(I)[I" } : Jvm.MethodName) prog_18_method_8_code (2 : Nat) (Option.some (Jvm.ClassFile.FieldType.array Jvm.ClassFile.FieldType.int)), Jvm.Cond.code ({ cls := "java/util/Arrays", name := "fill", desc := "([II)V" } : Jvm.MethodName) jdk_65_method_103_code (4 : Nat) (Option.none : Option Jvm.ClassFile.FieldType), Jvm.Cond.code ({ cls := "com/example/impronta/impronta/engine/Alignments", name := "start", desc := "(II)V" } : Jvm.MethodName) prog_18_method_2_code (5 : Nat) (Option.none : Option Jvm.ClassFile.FieldType), Jvm.Cond.code ({ cls := "com/example/impronta/impronta/engine/Alignments", name := "slot", desc := "(I)I" } : Jvm.MethodName) prog_18_method_3_code (4 : Nat) (Option.some Jvm.ClassFile.FieldType.int), Jvm.Cond.code ({ cls := "com/example/impronta/impronta/engine/Alignments", name := "put", desc := "(III)V" } : Jvm.MethodName) prog_18_method_5_code (4 : Nat) (Option.none : Option Jvm.ClassFile.FieldType), Jvm.Cond.code ({ cls := "com/example/impronta/impronta/engine/Alignments", name := "end", desc := "(I)I" } : Jvm.MethodName) prog_18_method_4_code (2 : Nat) (Option.some Jvm.ClassFile.FieldType.int)]
set_option maxRecDepth 65536 in
theorem codes_eq : words1.filter isCode = codes1 := rfl
theorem w_codes : ∀ c ∈ words1.filter isCode, c.before args0 about1 = true := by
  rw [codes_eq]
  intro c hc
  simp only [codes1, List.mem_cons, List.not_mem_nil, or_false] at hc
  rcases hc with rfl | rfl | rfl | rfl | rfl | rfl | rfl | rfl | rfl | rfl
  · exact w_c0
  · exact w_c1
  · exact w_c2
  · exact w_c3
  · exact w_c4
  · exact w_c5
  · exact w_c6
  · exact w_c7
  · exact w_c8
  · exact w_c9
set_option maxRecDepth 65536 in
theorem w_t1 : (words1.take 24).all (fun c => isCode c || c.before args0 about1) = true := by decide +kernel
set_option maxRecDepth 65536 in
theorem w_t2 : ((words1.drop 24).take 24).all (fun c => isCode c || c.before args0 about1) = true := by decide +kernel
set_option maxRecDepth 65536 in
theorem w_t3 : ((words1.drop 24).drop 24).all (fun c => isCode c || c.before args0 about1) = true := by decide +kernel
theorem w_tables : (allAtoms (Jvm.Cond.code x code maxLocals ret :: tables_1)).before args0 about1 = true := by
  rw [allAtoms_all]
  show words1.all (fun c => c.before args0 about1) = true
  refine all_split ?_ w_codes
  rw [← List.take_append_drop 24 words1, List.all_append, w_t1, ← List.take_append_drop 24 (words1.drop 24), List.all_append, w_t2, w_t3]
  rfl
set_option maxRecDepth 65536 in
theorem w_case : (Jvm.Cond.and given_1 narrow_1).before args0 about1 = true := by decide +kernel
theorem w_applies : (headSpec (Jvm.Cond.code x code maxLocals ret :: tables_1) room_1).applies x e0.platform about1 = true :=
  (Spec.applies_iff w_frames).mpr ⟨w_running, w_runnable, w_alone, w_named, w_hears, w_ripe, w_room, w_tables⟩
theorem atStart : AtStart classFile x code maxLocals ret World_1 tables_1 room_1 Calls_1 rest_1 Pre_1 launch0 p0 e0 about1 theMethod args0 below0 :=
  ⟨lists_1, trivial, launch0.admits_env _ _ _, launch0.least_env, fairChoices_fair.cas, fairChoices_fair.clock, w_frames, w_args, w_heap, w_applies, trivial, trivial, w_case⟩
end start1
theorem witness_1 : WitnessClaimed_1 := ⟨start1.p0, start1.e0, start1.about1, start1.theMethod, start1.args0, start1.below0, start1.atStart⟩
end Jvm.Pilot.@@N@@
