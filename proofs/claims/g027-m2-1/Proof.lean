import JvmDerived
import JvmDerived.Pilot.@@N@@Statement
import JvmDerived.Pilot.@@N@@Code
set_option linter.unusedVariables false
set_option linter.unusedSimpArgs false
namespace Jvm.RoadKit
open Sem ClassFile Op Lib Jvm.Stand Jvm.Free Jvm.LawKit
section New
variable {p : Program} {l : Launch} {e : Env} {R : Room} {s : State} {m : MethodId} {args : Array Value} {below : List Frame} {meth : Method} {c : Code} {T : State} {locs : List Loc} {cells slots : Nat}
theorem retI (X : Stand p l e R s m args below meth c T locs cells slots) (hx : p.tables.exec = Jvm.exec) {pc : Nat} {Ls : Array Slot} {z : Int32} {rest : List Value} (hret : meth.sig.returnType = some .int) (hd : decode c.code pc = .ok (.ireturn, 1)) {fs : List Frame}
    (hl : ∀ (f : JFrame) (acts : List Action), f.method = m → f.locked = none → f.entered = [] → (doReturn e (T.setTop f) acts (some (.int z))).1 = T.setFrames fs) : Steps p.tables e below (T.setTop (mkF m pc Ls (.int z :: rest))) (T.setFrames fs) := by
  have hm' : T.vm.method? m = some meth := X.method'
  have hn : narrow .int (.int z) = .int z := rfl
  show Steps p.tables e below (T.setTop { method := m, pc := pc, locals := Ls, stack := _ :: rest, locked := none }) _
  jvm_step X.here [X.here.top, hx, hd, hm', hret, hn]
  first | (intro acts; rw [hl _ acts rfl rfl rfl]) | rw [hl _ _ rfl rfl rfl]
  exact Steps.refl _
end New
end Jvm.RoadKit
namespace Jvm.Pilot.@@N@@
open Jvm Jvm.ClassFile Sem Op Lib Jvm.Free Jvm.Stand Jvm.LawKit Jvm.RoadKit Bundle Jvm.Pilot.@@N@@.Jvm.D
theorem d1_0 : decode jdk_29_method_65_code 0 = .ok (.iload_n 0, 1) := by decide +kernel
theorem d1_1 : decode jdk_29_method_65_code 1 = .ok (.iload_n 1, 1) := by decide +kernel
theorem d1_2 : decode jdk_29_method_65_code 2 = .ok (.if_icmp .lt 7, 3) := by decide +kernel
theorem d1_9 : decode jdk_29_method_65_code 9 = .ok (.iload_n 1, 1) := by decide +kernel
theorem d1_10 : decode jdk_29_method_65_code 10 = .ok (.ireturn, 1) := by decide +kernel
theorem d1_5 : decode jdk_29_method_65_code 5 = .ok (.iload_n 0, 1) := by decide +kernel
theorem d1_6 : decode jdk_29_method_65_code 6 = .ok (.goto 4, 3) := by decide +kernel
def own_mx (p0 : Int32) (p1 : Int32) : Int32 := (if p0 < p1 then p1 else p0)
theorem ef_1 (m : MethodId) (x0 : Int32) (x1 : Int32) : entryFrame m #[(.int x0), (.int x1)] 2 = mkF m 0 #[.val (.int x0), .val (.int x1)] [] := by first | (simp [entryFrame, mkF, argsToLocals, Value.category]; done) | rfl
def Q1 (Z : State) (p0 : Int32) (p1 : Int32) (h0 : Heap) (n0 : Nat) (v : Option Value) (h : Heap) (L : List Loc) : Prop := v = some (.int (own_mx p0 p1)) ∧ Fr n0 L ∧ h = h0
set_option maxRecDepth 65536 in
set_option maxHeartbeats 40000000 in
theorem rm1 (l : Launch) (Z : State) (a0 : Array Value) (hw : ∀ d ∈ tables_1, d.before a0 Z = true) (ws : List Jvm.Cond) (p0 : Int32) (p1 : Int32) (h0 : Heap) (n0 : Nat) (Z0 : n0 ≤ h0.size) :
    MetFree l (⟨"java/lang/Math", "max", "(II)I"⟩ : MethodName) (head1 (Jvm.Cond.code (⟨"java/lang/Math", "max", "(II)I"⟩ : MethodName) jdk_29_method_65_code 2 (some .int) :: ws) ({ frames := 0, cells := 0, slots := 0, locals := 0 } : Room)) (fun a U => a = #[(.int p0), (.int p1)] ∧ Z.Warmed39 U.vm ∧ U.heap = h0) (fun _ _ _ _ _ => True) (fun _ U o U' => ∃ v L, o = .returned v ∧ Q1 Z p0 p1 h0 n0 v U'.heap L ∧ FrameEnd U o U' L ({ frames := 0, cells := 0, slots := 0, locals := 0 } : Room).cells ({ frames := 0, cells := 0, slots := 0, locals := 0 } : Room).slots) := by
  refine MetFree.of_bodySF (Jvm.Free.JP.mathPlain rfl (by decide +kernel)) hisR ?_
  intro p e s m args below meth c s₁ Bd hml0 hP hK
  obtain ⟨rfl, hZ, hh⟩ := hP
  have hx := Bd.exec
  have hby := Bd.bytes
  have hml : c.maxLocals = 2 := hml0
  have hown : s.vm.findClass "java/lang/Math" = some m.cls := findClass_of_methodNamed Bd.named
  have hnm := (name_of_methodNamed Bd.named Bd.method).1
  have X0 : Stand p l e ({ frames := 0, cells := 0, slots := 0, locals := 0 } : Room) s m #[(.int p0), (.int p1)] below meth c s₁ [] 0 0 := Stand.of_body Bd
  have e0 : s₁.heap = h0 := by rw [← hh, Bd.state]; rfl
  have N0 := Fr.nil n0
  have pre0 : ∀ t, Steps p.tables e below (s₁.setTop (mkF m 0 #[.val (.int p0), .val (.int p1)] [])) t → Steps p.tables e below (s₁.setTop (entryFrame m #[(.int p0), (.int p1)] 2)) t := fun t k => castTop (ef_1 m p0 p1) k
  have pre1 : ∀ t, Steps p.tables e below (s₁.setTop (mkF m 2 #[.val (.int p0), .val (.int p1)] [(.int p1), (.int p0)])) t → Steps p.tables e below (s₁.setTop (entryFrame m #[(.int p0), (.int p1)] 2)) t := by
    intro t kont
    refine pre0 t ?_
    show Steps p.tables e below (s₁.setTop (mkF m 0 #[.val (.int p0), .val (.int p1)] [])) _
    refine XS.iloadN X0.here hx rfl (hb hby d1_0) rfl ?_
    show Steps p.tables e below (s₁.setTop (mkF m 1 #[.val (.int p0), .val (.int p1)] [(.int p0)])) _
    refine XS.iloadN X0.here hx rfl (hb hby d1_1) rfl ?_
    exact kont
  by_cases hc2 : p0 < p1
  · have pre2 : ∀ t, Steps p.tables e below (s₁.setTop (mkF m 10 #[.val (.int p0), .val (.int p1)] [(.int p1)])) t → Steps p.tables e below (s₁.setTop (entryFrame m #[(.int p0), (.int p1)] 2)) t := by
      intro t kont
      refine pre1 t ?_
      show Steps p.tables e below (s₁.setTop (mkF m 2 #[.val (.int p0), .val (.int p1)] [(.int p1), (.int p0)])) _
      refine XS.icmpYes X0.here hx rfl (pc0 := 2) (pc' := 9) rfl (hb hby d1_2) rfl (tlt hc2).1 (by decide) (by decide) ?_
      show Steps p.tables e below (s₁.setTop (mkF m 9 #[.val (.int p0), .val (.int p1)] [])) _
      refine XS.iloadN X0.here hx rfl (hb hby d1_9) rfl ?_
      exact kont
    obtain ⟨fs, hr, hrun, hended, hW, hsame⟩ := X0.leave (v := some (.int p1)) (fun h => by rw [Bd.returns] at h; cases h)
    refine ⟨_, _, pre2 _ ?_, hrun, hended, _, _, rfl, ?_, ⟨_, rfl⟩, hW, hsame.mono (by decide) (by decide)⟩
    · exact retI X0 hx Bd.returns (hb hby d1_10) hr
    · show Q1 Z p0 p1 h0 n0 _ s₁.heap _
      rw [e0]
      refine ⟨?_, N0, rfl⟩
      unfold own_mx; rw [if_pos hc2]
  · have pre3 : ∀ t, Steps p.tables e below (s₁.setTop (mkF m 10 #[.val (.int p0), .val (.int p1)] [(.int p0)])) t → Steps p.tables e below (s₁.setTop (entryFrame m #[(.int p0), (.int p1)] 2)) t := by
      intro t kont
      refine pre1 t ?_
      show Steps p.tables e below (s₁.setTop (mkF m 2 #[.val (.int p0), .val (.int p1)] [(.int p1), (.int p0)])) _
      refine XS.icmpNo X0.here hx rfl (hb hby d1_2) rfl (flt hc2).1 ?_
      show Steps p.tables e below (s₁.setTop (mkF m 5 #[.val (.int p0), .val (.int p1)] [])) _
      refine XS.iloadN X0.here hx rfl (hb hby d1_5) rfl ?_
      show Steps p.tables e below (s₁.setTop (mkF m 6 #[.val (.int p0), .val (.int p1)] [(.int p0)])) _
      refine XS.goto X0.here hx rfl (pc0 := 6) (pc' := 10) rfl (hb hby d1_6) (by decide) (by decide) ?_
      exact kont
    obtain ⟨fs, hr, hrun, hended, hW, hsame⟩ := X0.leave (v := some (.int p0)) (fun h => by rw [Bd.returns] at h; cases h)
    refine ⟨_, _, pre3 _ ?_, hrun, hended, _, _, rfl, ?_, ⟨_, rfl⟩, hW, hsame.mono (by decide) (by decide)⟩
    · exact retI X0 hx Bd.returns (hb hby d1_10) hr
    · show Q1 Z p0 p1 h0 n0 _ s₁.heap _
      rw [e0]
      refine ⟨?_, N0, rfl⟩
      unfold own_mx; rw [if_neg hc2]
theorem d2_0 : decode jdk_29_method_69_code 0 = .ok (.iload_n 0, 1) := by decide +kernel
theorem d2_1 : decode jdk_29_method_69_code 1 = .ok (.iload_n 1, 1) := by decide +kernel
theorem d2_2 : decode jdk_29_method_69_code 2 = .ok (.if_icmp .gt 7, 3) := by decide +kernel
theorem d2_9 : decode jdk_29_method_69_code 9 = .ok (.iload_n 1, 1) := by decide +kernel
theorem d2_10 : decode jdk_29_method_69_code 10 = .ok (.ireturn, 1) := by decide +kernel
theorem d2_5 : decode jdk_29_method_69_code 5 = .ok (.iload_n 0, 1) := by decide +kernel
theorem d2_6 : decode jdk_29_method_69_code 6 = .ok (.goto 4, 3) := by decide +kernel
def own_mn (p0 : Int32) (p1 : Int32) : Int32 := (if p1 < p0 then p1 else p0)
theorem ef_2 (m : MethodId) (x0 : Int32) (x1 : Int32) : entryFrame m #[(.int x0), (.int x1)] 2 = mkF m 0 #[.val (.int x0), .val (.int x1)] [] := by first | (simp [entryFrame, mkF, argsToLocals, Value.category]; done) | rfl
def Q2 (Z : State) (p0 : Int32) (p1 : Int32) (h0 : Heap) (n0 : Nat) (v : Option Value) (h : Heap) (L : List Loc) : Prop := v = some (.int (own_mn p0 p1)) ∧ Fr n0 L ∧ h = h0
set_option maxRecDepth 65536 in
set_option maxHeartbeats 40000000 in
theorem rm2 (l : Launch) (Z : State) (a0 : Array Value) (hw : ∀ d ∈ tables_1, d.before a0 Z = true) (ws : List Jvm.Cond) (p0 : Int32) (p1 : Int32) (h0 : Heap) (n0 : Nat) (Z0 : n0 ≤ h0.size) :
    MetFree l (⟨"java/lang/Math", "min", "(II)I"⟩ : MethodName) (head1 (Jvm.Cond.code (⟨"java/lang/Math", "min", "(II)I"⟩ : MethodName) jdk_29_method_69_code 2 (some .int) :: ws) ({ frames := 0, cells := 0, slots := 0, locals := 0 } : Room)) (fun a U => a = #[(.int p0), (.int p1)] ∧ Z.Warmed39 U.vm ∧ U.heap = h0) (fun _ _ _ _ _ => True) (fun _ U o U' => ∃ v L, o = .returned v ∧ Q2 Z p0 p1 h0 n0 v U'.heap L ∧ FrameEnd U o U' L ({ frames := 0, cells := 0, slots := 0, locals := 0 } : Room).cells ({ frames := 0, cells := 0, slots := 0, locals := 0 } : Room).slots) := by
  refine MetFree.of_bodySF (Jvm.Free.JP.mathPlain rfl (by decide +kernel)) hisR ?_
  intro p e s m args below meth c s₁ Bd hml0 hP hK
  obtain ⟨rfl, hZ, hh⟩ := hP
  have hx := Bd.exec
  have hby := Bd.bytes
  have hml : c.maxLocals = 2 := hml0
  have hown : s.vm.findClass "java/lang/Math" = some m.cls := findClass_of_methodNamed Bd.named
  have hnm := (name_of_methodNamed Bd.named Bd.method).1
  have X0 : Stand p l e ({ frames := 0, cells := 0, slots := 0, locals := 0 } : Room) s m #[(.int p0), (.int p1)] below meth c s₁ [] 0 0 := Stand.of_body Bd
  have e0 : s₁.heap = h0 := by rw [← hh, Bd.state]; rfl
  have N0 := Fr.nil n0
  have pre0 : ∀ t, Steps p.tables e below (s₁.setTop (mkF m 0 #[.val (.int p0), .val (.int p1)] [])) t → Steps p.tables e below (s₁.setTop (entryFrame m #[(.int p0), (.int p1)] 2)) t := fun t k => castTop (ef_2 m p0 p1) k
  have pre4 : ∀ t, Steps p.tables e below (s₁.setTop (mkF m 2 #[.val (.int p0), .val (.int p1)] [(.int p1), (.int p0)])) t → Steps p.tables e below (s₁.setTop (entryFrame m #[(.int p0), (.int p1)] 2)) t := by
    intro t kont
    refine pre0 t ?_
    show Steps p.tables e below (s₁.setTop (mkF m 0 #[.val (.int p0), .val (.int p1)] [])) _
    refine XS.iloadN X0.here hx rfl (hb hby d2_0) rfl ?_
    show Steps p.tables e below (s₁.setTop (mkF m 1 #[.val (.int p0), .val (.int p1)] [(.int p0)])) _
    refine XS.iloadN X0.here hx rfl (hb hby d2_1) rfl ?_
    exact kont
  by_cases hc2 : p1 < p0
  · have pre5 : ∀ t, Steps p.tables e below (s₁.setTop (mkF m 10 #[.val (.int p0), .val (.int p1)] [(.int p1)])) t → Steps p.tables e below (s₁.setTop (entryFrame m #[(.int p0), (.int p1)] 2)) t := by
      intro t kont
      refine pre4 t ?_
      show Steps p.tables e below (s₁.setTop (mkF m 2 #[.val (.int p0), .val (.int p1)] [(.int p1), (.int p0)])) _
      refine XS.icmpYes X0.here hx rfl (pc0 := 2) (pc' := 9) rfl (hb hby d2_2) rfl (tlt hc2).2.2.1 (by decide) (by decide) ?_
      show Steps p.tables e below (s₁.setTop (mkF m 9 #[.val (.int p0), .val (.int p1)] [])) _
      refine XS.iloadN X0.here hx rfl (hb hby d2_9) rfl ?_
      exact kont
    obtain ⟨fs, hr, hrun, hended, hW, hsame⟩ := X0.leave (v := some (.int p1)) (fun h => by rw [Bd.returns] at h; cases h)
    refine ⟨_, _, pre5 _ ?_, hrun, hended, _, _, rfl, ?_, ⟨_, rfl⟩, hW, hsame.mono (by decide) (by decide)⟩
    · exact retI X0 hx Bd.returns (hb hby d2_10) hr
    · show Q2 Z p0 p1 h0 n0 _ s₁.heap _
      rw [e0]
      refine ⟨?_, N0, rfl⟩
      unfold own_mn; rw [if_pos hc2]
  · have pre6 : ∀ t, Steps p.tables e below (s₁.setTop (mkF m 10 #[.val (.int p0), .val (.int p1)] [(.int p0)])) t → Steps p.tables e below (s₁.setTop (entryFrame m #[(.int p0), (.int p1)] 2)) t := by
      intro t kont
      refine pre4 t ?_
      show Steps p.tables e below (s₁.setTop (mkF m 2 #[.val (.int p0), .val (.int p1)] [(.int p1), (.int p0)])) _
      refine XS.icmpNo X0.here hx rfl (hb hby d2_2) rfl (flt hc2).2.2.1 ?_
      show Steps p.tables e below (s₁.setTop (mkF m 5 #[.val (.int p0), .val (.int p1)] [])) _
      refine XS.iloadN X0.here hx rfl (hb hby d2_5) rfl ?_
      show Steps p.tables e below (s₁.setTop (mkF m 6 #[.val (.int p0), .val (.int p1)] [(.int p0)])) _
      refine XS.goto X0.here hx rfl (pc0 := 6) (pc' := 10) rfl (hb hby d2_6) (by decide) (by decide) ?_
      exact kont
    obtain ⟨fs, hr, hrun, hended, hW, hsame⟩ := X0.leave (v := some (.int p0)) (fun h => by rw [Bd.returns] at h; cases h)
    refine ⟨_, _, pre6 _ ?_, hrun, hended, _, _, rfl, ?_, ⟨_, rfl⟩, hW, hsame.mono (by decide) (by decide)⟩
    · exact retI X0 hx Bd.returns (hb hby d2_10) hr
    · show Q2 Z p0 p1 h0 n0 _ s₁.heap _
      rw [e0]
      refine ⟨?_, N0, rfl⟩
      unfold own_mn; rw [if_neg hc2]
theorem d7_0 : decode jdk_29_method_66_code 0 = .ok (.lload_n 0, 1) := by decide +kernel
theorem d7_1 : decode jdk_29_method_66_code 1 = .ok (.lload_n 2, 1) := by decide +kernel
theorem d7_2 : decode jdk_29_method_66_code 2 = .ok (.lcmp, 1) := by decide +kernel
theorem d7_3 : decode jdk_29_method_66_code 3 = .ok (.ifCond .lt 7, 3) := by decide +kernel
theorem d7_10 : decode jdk_29_method_66_code 10 = .ok (.lload_n 2, 1) := by decide +kernel
theorem d7_11 : decode jdk_29_method_66_code 11 = .ok (.lreturn, 1) := by decide +kernel
theorem d7_6 : decode jdk_29_method_66_code 6 = .ok (.lload_n 0, 1) := by decide +kernel
theorem d7_7 : decode jdk_29_method_66_code 7 = .ok (.goto 4, 3) := by decide +kernel
def own_mxl (p0 : Int64) (p1 : Int64) : Int64 := (if p0 < p1 then p1 else p0)
theorem ef_7 (m : MethodId) (x0 : Int64) (x1 : Int64) : entryFrame m #[(.long x0), (.long x1)] 4 = mkF m 0 #[.val (.long x0), .second, .val (.long x1), .second] [] := by first | (simp [entryFrame, mkF, argsToLocals, Value.category]; done) | rfl
def Q7 (Z : State) (p0 : Int64) (p1 : Int64) (h0 : Heap) (n0 : Nat) (v : Option Value) (h : Heap) (L : List Loc) : Prop := v = some (.long (own_mxl p0 p1)) ∧ Fr n0 L ∧ h = h0
set_option maxRecDepth 65536 in
set_option maxHeartbeats 40000000 in
theorem rm7 (l : Launch) (Z : State) (a0 : Array Value) (hw : ∀ d ∈ tables_1, d.before a0 Z = true) (ws : List Jvm.Cond) (p0 : Int64) (p1 : Int64) (h0 : Heap) (n0 : Nat) (Z0 : n0 ≤ h0.size) :
    MetFree l (⟨"java/lang/Math", "max", "(JJ)J"⟩ : MethodName) (head1 (Jvm.Cond.code (⟨"java/lang/Math", "max", "(JJ)J"⟩ : MethodName) jdk_29_method_66_code 4 (some .long) :: ws) ({ frames := 0, cells := 0, slots := 0, locals := 0 } : Room)) (fun a U => a = #[(.long p0), (.long p1)] ∧ Z.Warmed39 U.vm ∧ U.heap = h0) (fun _ _ _ _ _ => True) (fun _ U o U' => ∃ v L, o = .returned v ∧ Q7 Z p0 p1 h0 n0 v U'.heap L ∧ FrameEnd U o U' L ({ frames := 0, cells := 0, slots := 0, locals := 0 } : Room).cells ({ frames := 0, cells := 0, slots := 0, locals := 0 } : Room).slots) := by
  refine MetFree.of_bodySF (Jvm.Free.JP.mathPlain rfl (by decide +kernel)) hisR ?_
  intro p e s m args below meth c s₁ Bd hml0 hP hK
  obtain ⟨rfl, hZ, hh⟩ := hP
  have hx := Bd.exec
  have hby := Bd.bytes
  have hml : c.maxLocals = 4 := hml0
  have hown : s.vm.findClass "java/lang/Math" = some m.cls := findClass_of_methodNamed Bd.named
  have hnm := (name_of_methodNamed Bd.named Bd.method).1
  have X0 : Stand p l e ({ frames := 0, cells := 0, slots := 0, locals := 0 } : Room) s m #[(.long p0), (.long p1)] below meth c s₁ [] 0 0 := Stand.of_body Bd
  have e0 : s₁.heap = h0 := by rw [← hh, Bd.state]; rfl
  have N0 := Fr.nil n0
  have pre0 : ∀ t, Steps p.tables e below (s₁.setTop (mkF m 0 #[.val (.long p0), .second, .val (.long p1), .second] [])) t → Steps p.tables e below (s₁.setTop (entryFrame m #[(.long p0), (.long p1)] 4)) t := fun t k => castTop (ef_7 m p0 p1) k
  have pre7 : ∀ t, Steps p.tables e below (s₁.setTop (mkF m 3 #[.val (.long p0), .second, .val (.long p1), .second] [(.int (lcmpW p0 p1))])) t → Steps p.tables e below (s₁.setTop (entryFrame m #[(.long p0), (.long p1)] 4)) t := by
    intro t kont
    refine pre0 t ?_
    show Steps p.tables e below (s₁.setTop (mkF m 0 #[.val (.long p0), .second, .val (.long p1), .second] [])) _
    refine XS.lloadN X0.here hx rfl (hb hby d7_0) rfl ?_
    show Steps p.tables e below (s₁.setTop (mkF m 1 #[.val (.long p0), .second, .val (.long p1), .second] [(.long p0)])) _
    refine XS.lloadN X0.here hx rfl (hb hby d7_1) rfl ?_
    show Steps p.tables e below (s₁.setTop (mkF m 2 #[.val (.long p0), .second, .val (.long p1), .second] [(.long p1), (.long p0)])) _
    refine XS.lcmp X0.here hx rfl (hb hby d7_2) rfl ?_
    exact kont
  by_cases hc3 : p0 < p1
  · have pre8 : ∀ t, Steps p.tables e below (s₁.setTop (mkF m 11 #[.val (.long p0), .second, .val (.long p1), .second] [(.long p1)])) t → Steps p.tables e below (s₁.setTop (entryFrame m #[(.long p0), (.long p1)] 4)) t := by
      intro t kont
      refine pre7 t ?_
      show Steps p.tables e below (s₁.setTop (mkF m 3 #[.val (.long p0), .second, .val (.long p1), .second] [(.int (lcmpW p0 p1))])) _
      refine XS.ifYes X0.here hx rfl (pc0 := 3) (pc' := 10) rfl (hb hby d7_3) rfl ((if0 _ _).trans (tlt ((lw_lt _ _).mpr hc3)).1) (by decide) (by decide) ?_
      show Steps p.tables e below (s₁.setTop (mkF m 10 #[.val (.long p0), .second, .val (.long p1), .second] [])) _
      refine XS.lloadN X0.here hx rfl (hb hby d7_10) rfl ?_
      exact kont
    obtain ⟨fs, hr, hrun, hended, hW, hsame⟩ := X0.leave (v := some (.long p1)) (fun h => by rw [Bd.returns] at h; cases h)
    refine ⟨_, _, pre8 _ ?_, hrun, hended, _, _, rfl, ?_, ⟨_, rfl⟩, hW, hsame.mono (by decide) (by decide)⟩
    · exact lreturnOut X0 hx Bd.returns (hb hby d7_11) hr
    · show Q7 Z p0 p1 h0 n0 _ s₁.heap _
      rw [e0]
      refine ⟨?_, N0, rfl⟩
      unfold own_mxl; rw [if_pos hc3]
  · have pre9 : ∀ t, Steps p.tables e below (s₁.setTop (mkF m 11 #[.val (.long p0), .second, .val (.long p1), .second] [(.long p0)])) t → Steps p.tables e below (s₁.setTop (entryFrame m #[(.long p0), (.long p1)] 4)) t := by
      intro t kont
      refine pre7 t ?_
      show Steps p.tables e below (s₁.setTop (mkF m 3 #[.val (.long p0), .second, .val (.long p1), .second] [(.int (lcmpW p0 p1))])) _
      refine XS.ifNo X0.here hx rfl (hb hby d7_3) rfl ((if0 _ _).trans (flt (fun q => hc3 ((lw_lt _ _).mp q))).1) ?_
      show Steps p.tables e below (s₁.setTop (mkF m 6 #[.val (.long p0), .second, .val (.long p1), .second] [])) _
      refine XS.lloadN X0.here hx rfl (hb hby d7_6) rfl ?_
      show Steps p.tables e below (s₁.setTop (mkF m 7 #[.val (.long p0), .second, .val (.long p1), .second] [(.long p0)])) _
      refine XS.goto X0.here hx rfl (pc0 := 7) (pc' := 11) rfl (hb hby d7_7) (by decide) (by decide) ?_
      exact kont
    obtain ⟨fs, hr, hrun, hended, hW, hsame⟩ := X0.leave (v := some (.long p0)) (fun h => by rw [Bd.returns] at h; cases h)
    refine ⟨_, _, pre9 _ ?_, hrun, hended, _, _, rfl, ?_, ⟨_, rfl⟩, hW, hsame.mono (by decide) (by decide)⟩
    · exact lreturnOut X0 hx Bd.returns (hb hby d7_11) hr
    · show Q7 Z p0 p1 h0 n0 _ s₁.heap _
      rw [e0]
      refine ⟨?_, N0, rfl⟩
      unfold own_mxl; rw [if_neg hc3]
theorem d4_0 : decode jdk_30_method_1_code 0 = .ok (.aload_n 0, 1) := by decide +kernel
theorem d4_1 : decode jdk_30_method_1_code 1 = .ok (.invokespecial 1, 3) := by decide +kernel
theorem d4_4 : decode jdk_30_method_1_code 4 = .ok (.return_, 1) := by decide +kernel
theorem pn_4 : plainName "java/lang/Record" = true := by first | (simp [plainName, overriddenIn]; done) | decide +kernel
theorem ef_4 (m : MethodId) (x0 : Addr) : entryFrame m #[(.ref x0)] 1 = mkF m 0 #[.val (.ref x0)] [] := by first | (simp [entryFrame, mkF, argsToLocals, Value.category]; done) | rfl
def Q4 (Z : State) (p0 : Addr) (h0 : Heap) (n0 : Nat) (v : Option Value) (h : Heap) (L : List Loc) : Prop := v = none ∧ Fr n0 L ∧ h = h0
set_option maxRecDepth 65536 in
set_option maxHeartbeats 40000000 in
theorem rm4 (l : Launch) (Z : State) (a0 : Array Value) (hw : ∀ d ∈ tables_1, d.before a0 Z = true) (ws : List Jvm.Cond) (p0 : Addr) (h0 : Heap) (n0 : Nat) (Z0 : n0 ≤ h0.size) :
    MetFree l (⟨"java/lang/Record", "<init>", "()V"⟩ : MethodName) (head1 (Jvm.Cond.code (⟨"java/lang/Record", "<init>", "()V"⟩ : MethodName) jdk_30_method_1_code 1 none :: ws) ({ frames := 1, cells := 0, slots := 0, locals := 12 } : Room)) (fun a U => a = #[(.ref p0)] ∧ Z.Warmed39 U.vm ∧ U.heap = h0) (fun _ _ _ _ _ => True) (fun _ U o U' => ∃ v L, o = .returned v ∧ Q4 Z p0 h0 n0 v U'.heap L ∧ FrameEnd U o U' L ({ frames := 1, cells := 0, slots := 0, locals := 12 } : Room).cells ({ frames := 1, cells := 0, slots := 0, locals := 12 } : Room).slots) := by
  refine MetFree.of_bodySF (plainFor_of_name pn_4) hisR ?_
  intro p e s m args below meth c s₁ Bd hml0 hP hK
  obtain ⟨rfl, hZ, hh⟩ := hP
  have hx := Bd.exec
  have hby := Bd.bytes
  have hml : c.maxLocals = 1 := hml0
  have hown : s.vm.findClass "java/lang/Record" = some m.cls := findClass_of_methodNamed Bd.named
  have hnm := (name_of_methodNamed Bd.named Bd.method).1
  have X0 : Stand p l e ({ frames := 1, cells := 0, slots := 0, locals := 12 } : Room) s m #[(.ref p0)] below meth c s₁ [] 0 0 := Stand.of_body Bd
  have e0 : s₁.heap = h0 := by rw [← hh, Bd.state]; rfl
  have N0 := Fr.nil n0
  have pre0 : ∀ t, Steps p.tables e below (s₁.setTop (mkF m 0 #[.val (.ref p0)] [])) t → Steps p.tables e below (s₁.setTop (entryFrame m #[(.ref p0)] 1)) t := fun t k => castTop (ef_4 m p0) k
  have pre10 : ∀ t, Steps p.tables e below (s₁.setTop (mkF m 1 #[.val (.ref p0)] [(.ref p0)])) t → Steps p.tables e below (s₁.setTop (entryFrame m #[(.ref p0)] 1)) t := by
    intro t kont
    refine pre0 t ?_
    show Steps p.tables e below (s₁.setTop (mkF m 0 #[.val (.ref p0)] [])) _
    refine XS.aloadN X0.here hx rfl (hb hby d4_0) rfl rfl ?_
    exact kont
  obtain ⟨T11, X11, e11, st11⟩ := initO X0 hx hZ hown (hw _ (List.mem_of_getElem? (i := 20) rfl)) (hw _ (List.mem_of_getElem? (i := 21) rfl)) (hw _ (List.mem_of_getElem? (i := 22) rfl)) e0 (g := (mkF m 1 #[.val (.ref p0)] [(.ref p0)])) rfl (by rw [hml]; rfl) rfl (hb hby d4_1) (by decide) (W := 0) (by show 2 * 0 + _ ≤ _; exact Nat.le_of_eq rfl) (by decide)
  have pre12 : ∀ t, Steps p.tables e below (T11.setTop (mkF m 4 #[.val (.ref p0)] [])) t → Steps p.tables e below (s₁.setTop (entryFrame m #[(.ref p0)] 1)) t := fun t kont => pre10 t (st11 _ kont)
  obtain ⟨fs, hr, hrun, hended, hW, hsame⟩ := X11.leave (v := none) (fun _ => rfl)
  refine ⟨_, _, pre12 _ ?_, hrun, hended, _, _, rfl, ?_, ⟨_, rfl⟩, hW, hsame.mono (by decide) (by decide)⟩
  · exact X11.returnOut hx Bd.returns (hb hby d4_4) hr
  · show Q4 Z p0 h0 n0 _ T11.heap _
    rw [e11]
    exact ⟨rfl, N0, rfl⟩
theorem d3_0 : decode prog_24_method_1_code 0 = .ok (.aload_n 0, 1) := by decide +kernel
theorem d3_1 : decode prog_24_method_1_code 1 = .ok (.invokespecial 1, 3) := by decide +kernel
theorem pd_0 : parseMethodDescriptor "()V" = some ⟨[], none⟩ := by decide +kernel
theorem d3_4 : decode prog_24_method_1_code 4 = .ok (.iload_n 1, 1) := by decide +kernel
theorem d3_5 : decode prog_24_method_1_code 5 = .ok (.iconst 1, 1) := by decide +kernel
theorem d3_6 : decode prog_24_method_1_code 6 = .ok (.if_icmp .ge 17, 3) := by decide +kernel
theorem d3_23 : decode prog_24_method_1_code 23 = .ok (.iload_n 1, 1) := by decide +kernel
theorem d3_24 : decode prog_24_method_1_code 24 = .ok (.iload_n 2, 1) := by decide +kernel
theorem d3_25 : decode prog_24_method_1_code 25 = .ok (.if_icmp .le 18, 3) := by decide +kernel
theorem d3_43 : decode prog_24_method_1_code 43 = .ok (.aload_n 0, 1) := by decide +kernel
theorem d3_44 : decode prog_24_method_1_code 44 = .ok (.iload_n 1, 1) := by decide +kernel
theorem d3_45 : decode prog_24_method_1_code 45 = .ok (.putfield 19, 3) := by decide +kernel
theorem d3_48 : decode prog_24_method_1_code 48 = .ok (.aload_n 0, 1) := by decide +kernel
theorem d3_49 : decode prog_24_method_1_code 49 = .ok (.iload_n 2, 1) := by decide +kernel
theorem d3_50 : decode prog_24_method_1_code 50 = .ok (.putfield 25, 3) := by decide +kernel
theorem d3_53 : decode prog_24_method_1_code 53 = .ok (.return_, 1) := by decide +kernel
theorem pn_3 : plainName "com/example/even_keel/evenkeel/channel/WaterMarks" = true := by first | (simp [plainName, overriddenIn]; done) | decide +kernel
theorem ef_3 (m : MethodId) (x0 : Addr) (x1 : Int32) (x2 : Int32) : entryFrame m #[(.ref x0), (.int x1), (.int x2)] 3 = mkF m 0 #[.val (.ref x0), .val (.int x1), .val (.int x2)] [] := by first | (simp [entryFrame, mkF, argsToLocals, Value.category]; done) | rfl
def Q3 (Z : State) (p0 : Addr) (p1 : Int32) (p2 : Int32) (h0 : Heap) (n0 : Nat) (v : Option Value) (h : Heap) (L : List Loc) : Prop := v = none ∧ Fr n0 L ∧ Keep h0 h [p0] ∧ Exa Z h p0 "com/example/even_keel/evenkeel/channel/WaterMarks" ∧ Fld Z h p0 "com/example/even_keel/evenkeel/channel/WaterMarks" "low" "I" (.int p1) ∧ Fld Z h p0 "com/example/even_keel/evenkeel/channel/WaterMarks" "high" "I" (.int p2)
set_option maxRecDepth 65536 in
set_option maxHeartbeats 40000000 in
theorem rm3 (l : Launch) (Z : State) (a0 : Array Value) (hw : ∀ d ∈ tables_1, d.before a0 Z = true) (ws : List Jvm.Cond) (p0 : Addr) (p1 : Int32) (p2 : Int32) (h0 : Heap) (n0 : Nat) (Z0 : n0 ≤ h0.size) (Ep : Exa Z h0 p0 "com/example/even_keel/evenkeel/channel/WaterMarks") (Flow : Fld Z h0 p0 "com/example/even_keel/evenkeel/channel/WaterMarks" "low" "I" (.int (0 : Int32))) (Fhigh : Fld Z h0 p0 "com/example/even_keel/evenkeel/channel/WaterMarks" "high" "I" (.int (0 : Int32))) (gp : n0 ≤ p0) (hp1 : ¬ p1 < 1) (hp2 : ¬ p2 < p1) :
    MetFree l (⟨"com/example/even_keel/evenkeel/channel/WaterMarks", "<init>", "(II)V"⟩ : MethodName) (head1 (Jvm.Cond.code (⟨"com/example/even_keel/evenkeel/channel/WaterMarks", "<init>", "(II)V"⟩ : MethodName) prog_24_method_1_code 3 none :: ws) ({ frames := 2, cells := 0, slots := 0, locals := 24 } : Room)) (fun a U => a = #[(.ref p0), (.int p1), (.int p2)] ∧ Z.Warmed39 U.vm ∧ U.heap = h0) (fun _ _ _ _ _ => True) (fun _ U o U' => ∃ v L, o = .returned v ∧ Q3 Z p0 p1 p2 h0 n0 v U'.heap L ∧ FrameEnd U o U' L ({ frames := 2, cells := 0, slots := 0, locals := 24 } : Room).cells ({ frames := 2, cells := 0, slots := 0, locals := 24 } : Room).slots) := by
  refine MetFree.of_bodySF (plainFor_of_name pn_3) hisR ?_
  intro p e s m args below meth c s₁ Bd hml0 hP hK
  obtain ⟨rfl, hZ, hh⟩ := hP
  have hx := Bd.exec
  have hby := Bd.bytes
  have hml : c.maxLocals = 3 := hml0
  have hown : s.vm.findClass "com/example/even_keel/evenkeel/channel/WaterMarks" = some m.cls := findClass_of_methodNamed Bd.named
  have hnm := (name_of_methodNamed Bd.named Bd.method).1
  have X0 : Stand p l e ({ frames := 2, cells := 0, slots := 0, locals := 24 } : Room) s m #[(.ref p0), (.int p1), (.int p2)] below meth c s₁ [] 0 0 := Stand.of_body Bd
  have e0 : s₁.heap = h0 := by rw [← hh, Bd.state]; rfl
  have N0 := Fr.nil n0
  have pre0 : ∀ t, Steps p.tables e below (s₁.setTop (mkF m 0 #[.val (.ref p0), .val (.int p1), .val (.int p2)] [])) t → Steps p.tables e below (s₁.setTop (entryFrame m #[(.ref p0), (.int p1), (.int p2)] 3)) t := fun t k => castTop (ef_3 m p0 p1 p2) k
  have pre13 : ∀ t, Steps p.tables e below (s₁.setTop (mkF m 1 #[.val (.ref p0), .val (.int p1), .val (.int p2)] [(.ref p0)])) t → Steps p.tables e below (s₁.setTop (entryFrame m #[(.ref p0), (.int p1), (.int p2)] 3)) t := by
    intro t kont
    refine pre0 t ?_
    show Steps p.tables e below (s₁.setTop (mkF m 0 #[.val (.ref p0), .val (.int p1), .val (.int p2)] [])) _
    refine XS.aloadN X0.here hx rfl (hb hby d3_0) rfl rfl ?_
    exact kont
  obtain ⟨_, _, ⟨T14, L14, k14, n14⟩, -, X14, ⟨Lc14, hQ14, l14, y14, z14⟩, st14⟩ := X0.specialBack hx (y := (⟨"java/lang/Record", "<init>", "()V"⟩ : MethodName)) rfl hown (mvT hZ (hw _ (List.mem_of_getElem? (i := 15) rfl))) (mvT hZ (hw _ (List.mem_of_getElem? (i := 16) rfl))) (mvT hZ (hw _ (List.mem_of_getElem? (i := 19) rfl))) (by decide) (backOf (W := 0) (rm4 l Z a0 hw [] p0  h0 n0 Z0) hZ (hw _ (List.mem_of_getElem? (i := 19) rfl)) (hw _ (List.mem_of_getElem? (i := 18) rfl)) (by decide) (by decide)) (g := (mkF m 1 #[.val (.ref p0), .val (.int p1), .val (.int p2)] [(.ref p0)])) rfl (by rw [hml]; rfl) (Steps.refl _) (a := p0) (argsL := []) (rest := []) (lenOf pd_0 rfl) rfl (by show 2 * 0 + _ ≤ _; exact Nat.le_of_eq rfl) (hb hby d3_1) (fun _ _ => ⟨rfl, e0, (by decide : 0 + 0 ≤ _), (by decide : 0 + 0 ≤ _)⟩)
  dsimp only [Pt.U, Pt.locs, Pt.cells, Pt.slots] at X14 l14 y14 z14 st14 hQ14
  subst l14 y14 z14
  obtain ⟨rfl, N14q, e14⟩ := hQ14
  have N14 := Fr.app N0 N14q
  have pre15 : ∀ t, Steps p.tables e below (T14.setTop (mkF m 4 #[.val (.ref p0), .val (.int p1), .val (.int p2)] [])) t → Steps p.tables e below (s₁.setTop (entryFrame m #[(.ref p0), (.int p1), (.int p2)] 3)) t := fun t kont => pre13 t (st14.trans kont)
  have pre16 : ∀ t, Steps p.tables e below (T14.setTop (mkF m 6 #[.val (.ref p0), .val (.int p1), .val (.int p2)] [(.int (1 : Int32)), (.int p1)])) t → Steps p.tables e below (s₁.setTop (entryFrame m #[(.ref p0), (.int p1), (.int p2)] 3)) t := by
    intro t kont
    refine pre15 t ?_
    show Steps p.tables e below (T14.setTop (mkF m 4 #[.val (.ref p0), .val (.int p1), .val (.int p2)] [])) _
    refine XS.iloadN X14.here hx rfl (hb hby d3_4) rfl ?_
    show Steps p.tables e below (T14.setTop (mkF m 5 #[.val (.ref p0), .val (.int p1), .val (.int p2)] [(.int p1)])) _
    refine XS.iconst X14.here hx rfl (hb hby d3_5) ?_
    exact kont
  by_cases hc6 : p1 < (1 : Int32)
  · exfalso
    exact hp1 hc6
  · have pre17 : ∀ t, Steps p.tables e below (T14.setTop (mkF m 25 #[.val (.ref p0), .val (.int p1), .val (.int p2)] [(.int p2), (.int p1)])) t → Steps p.tables e below (s₁.setTop (entryFrame m #[(.ref p0), (.int p1), (.int p2)] 3)) t := by
      intro t kont
      refine pre16 t ?_
      show Steps p.tables e below (T14.setTop (mkF m 6 #[.val (.ref p0), .val (.int p1), .val (.int p2)] [(.int (1 : Int32)), (.int p1)])) _
      refine XS.icmpYes X14.here hx rfl (pc0 := 6) (pc' := 23) rfl (hb hby d3_6) rfl (flt hc6).2.1 (by decide) (by decide) ?_
      show Steps p.tables e below (T14.setTop (mkF m 23 #[.val (.ref p0), .val (.int p1), .val (.int p2)] [])) _
      refine XS.iloadN X14.here hx rfl (hb hby d3_23) rfl ?_
      show Steps p.tables e below (T14.setTop (mkF m 24 #[.val (.ref p0), .val (.int p1), .val (.int p2)] [(.int p1)])) _
      refine XS.iloadN X14.here hx rfl (hb hby d3_24) rfl ?_
      exact kont
    by_cases hc25 : p2 < p1
    · exfalso
      exact hp2 hc25
    · have pre18 : ∀ t, Steps p.tables e below (T14.setTop (mkF m 45 #[.val (.ref p0), .val (.int p1), .val (.int p2)] [(.int p1), (.ref p0)])) t → Steps p.tables e below (s₁.setTop (entryFrame m #[(.ref p0), (.int p1), (.int p2)] 3)) t := by
        intro t kont
        refine pre17 t ?_
        show Steps p.tables e below (T14.setTop (mkF m 25 #[.val (.ref p0), .val (.int p1), .val (.int p2)] [(.int p2), (.int p1)])) _
        refine XS.icmpYes X14.here hx rfl (pc0 := 25) (pc' := 43) rfl (hb hby d3_25) rfl (flt hc25).2.2.2 (by decide) (by decide) ?_
        show Steps p.tables e below (T14.setTop (mkF m 43 #[.val (.ref p0), .val (.int p1), .val (.int p2)] [])) _
        refine XS.aloadN X14.here hx rfl (hb hby d3_43) rfl rfl ?_
        show Steps p.tables e below (T14.setTop (mkF m 44 #[.val (.ref p0), .val (.int p1), .val (.int p2)] [(.ref p0)])) _
        refine XS.iloadN X14.here hx rfl (hb hby d3_44) rfl ?_
        exact kont
      obtain ⟨T19, h19, X19, e19, W19, st19⟩ := putF X14 hx hZ hown (host := "") (Or.inl (hw _ (List.mem_of_getElem? (i := 23) rfl))) Via.refl e14 Flow Ep (Or.inr ⟨(hw _ (List.mem_of_getElem? (i := 24) rfl)), rfl, hnm⟩) (hw _ (List.mem_of_getElem? (i := 10) rfl)) (ty := .int) (by decide) rfl rfl (g := (mkF m 45 #[.val (.ref p0), .val (.int p1), .val (.int p2)] [(.int p1), (.ref p0)])) rfl rfl (hb hby d3_45)
      have f19_0 := Exa.wr W19 Ep
      have f19_1 := Fld.same W19 Flow
      have f19_2 := Fld.other W19 Fhigh (Or.inr (slot_ne (Or.inr (hw _ (List.mem_of_getElem? (i := 26) rfl))) (Or.inr (hw _ (List.mem_of_getElem? (i := 24) rfl))) (by decide) (t := .int) (t' := .int) (by decide) (by decide)))
      have K19 : Keep h0 h19 [p0] := (Keep.refl h0 [p0]).wr W19 (Or.inl (List.mem_of_getElem? (i := 0) rfl))
      have Z19 : n0 ≤ h19.size := Nat.le_trans Z0 (Keep.of_wr W19).1
      have N19 := Fr.snoc X19 N14 gp
      have pre20 : ∀ t, Steps p.tables e below (T19.setTop (mkF m 48 #[.val (.ref p0), .val (.int p1), .val (.int p2)] [])) t → Steps p.tables e below (s₁.setTop (entryFrame m #[(.ref p0), (.int p1), (.int p2)] 3)) t := fun t kont => pre18 t (st19 _ kont)
      have pre21 : ∀ t, Steps p.tables e below (T19.setTop (mkF m 50 #[.val (.ref p0), .val (.int p1), .val (.int p2)] [(.int p2), (.ref p0)])) t → Steps p.tables e below (s₁.setTop (entryFrame m #[(.ref p0), (.int p1), (.int p2)] 3)) t := by
        intro t kont
        refine pre20 t ?_
        show Steps p.tables e below (T19.setTop (mkF m 48 #[.val (.ref p0), .val (.int p1), .val (.int p2)] [])) _
        refine XS.aloadN X19.here hx rfl (hb hby d3_48) rfl rfl ?_
        show Steps p.tables e below (T19.setTop (mkF m 49 #[.val (.ref p0), .val (.int p1), .val (.int p2)] [(.ref p0)])) _
        refine XS.iloadN X19.here hx rfl (hb hby d3_49) rfl ?_
        exact kont
      obtain ⟨T22, h22, X22, e22, W22, st22⟩ := putF X19 hx hZ hown (host := "") (Or.inl (hw _ (List.mem_of_getElem? (i := 25) rfl))) Via.refl e19 f19_2 f19_0 (Or.inr ⟨(hw _ (List.mem_of_getElem? (i := 26) rfl)), rfl, hnm⟩) (hw _ (List.mem_of_getElem? (i := 10) rfl)) (ty := .int) (by decide) rfl rfl (g := (mkF m 50 #[.val (.ref p0), .val (.int p1), .val (.int p2)] [(.int p2), (.ref p0)])) rfl rfl (hb hby d3_50)
      have f22_0 := Exa.wr W22 f19_0
      have f22_1 := Fld.other W22 f19_1 (Or.inr (slot_ne (Or.inr (hw _ (List.mem_of_getElem? (i := 24) rfl))) (Or.inr (hw _ (List.mem_of_getElem? (i := 26) rfl))) (by decide) (t := .int) (t' := .int) (by decide) (by decide)))
      have f22_2 := Fld.same W22 f19_2
      have K22 : Keep h0 h22 [p0] := (K19).wr W22 (Or.inl (List.mem_of_getElem? (i := 0) rfl))
      have Z22 : n0 ≤ h22.size := Nat.le_trans Z19 (Keep.of_wr W22).1
      have N22 := Fr.snoc X22 N19 gp
      have pre23 : ∀ t, Steps p.tables e below (T22.setTop (mkF m 53 #[.val (.ref p0), .val (.int p1), .val (.int p2)] [])) t → Steps p.tables e below (s₁.setTop (entryFrame m #[(.ref p0), (.int p1), (.int p2)] 3)) t := fun t kont => pre21 t (st22 _ kont)
      obtain ⟨fs, hr, hrun, hended, hW, hsame⟩ := X22.leave (v := none) (fun _ => rfl)
      refine ⟨_, _, pre23 _ ?_, hrun, hended, _, _, rfl, ?_, ⟨_, rfl⟩, hW, hsame.mono (by decide) (by decide)⟩
      · exact X22.returnOut hx Bd.returns (hb hby d3_53) hr
      · show Q3 Z p0 p1 p2 h0 n0 _ T22.heap _
        rw [e22]
        exact ⟨rfl, N22, K22, f22_0, f22_1, f22_2⟩
def own_wr (p1 : Int32) (p2 : Int64) (lo hi : Int32) : Int32 := if hi.toInt64 < p2 then (0 : Int32) else if p2 < lo.toInt64 then (1 : Int32) else (p1 &&& 1)
theorem d6_0 : decode prog_24_method_2_code 0 = .ok (.lload_n 2, 1) := by decide +kernel
theorem d6_1 : decode prog_24_method_2_code 1 = .ok (.lconst 0, 1) := by decide +kernel
theorem d6_2 : decode prog_24_method_2_code 2 = .ok (.lcmp, 1) := by decide +kernel
theorem d6_3 : decode prog_24_method_2_code 3 = .ok (.ifCond .ge 17, 3) := by decide +kernel
theorem d6_20 : decode prog_24_method_2_code 20 = .ok (.lload_n 2, 1) := by decide +kernel
theorem d6_21 : decode prog_24_method_2_code 21 = .ok (.aload_n 0, 1) := by decide +kernel
theorem d6_22 : decode prog_24_method_2_code 22 = .ok (.getfield 25, 3) := by decide +kernel
theorem d6_25 : decode prog_24_method_2_code 25 = .ok (.i2l, 1) := by decide +kernel
theorem d6_26 : decode prog_24_method_2_code 26 = .ok (.lcmp, 1) := by decide +kernel
theorem d6_27 : decode prog_24_method_2_code 27 = .ok (.ifCond .le 9, 3) := by decide +kernel
theorem d6_30 : decode prog_24_method_2_code 30 = .ok (.iconst 0, 1) := by decide +kernel
theorem d6_31 : decode prog_24_method_2_code 31 = .ok (.istore 4, 2) := by decide +kernel
theorem d6_33 : decode prog_24_method_2_code 33 = .ok (.goto 22, 3) := by decide +kernel
theorem d6_55 : decode prog_24_method_2_code 55 = .ok (.iload 4, 2) := by decide +kernel
theorem d6_57 : decode prog_24_method_2_code 57 = .ok (.ireturn, 1) := by decide +kernel
theorem d6_36 : decode prog_24_method_2_code 36 = .ok (.lload_n 2, 1) := by decide +kernel
theorem d6_37 : decode prog_24_method_2_code 37 = .ok (.aload_n 0, 1) := by decide +kernel
theorem d6_38 : decode prog_24_method_2_code 38 = .ok (.getfield 19, 3) := by decide +kernel
theorem d6_41 : decode prog_24_method_2_code 41 = .ok (.i2l, 1) := by decide +kernel
theorem d6_42 : decode prog_24_method_2_code 42 = .ok (.lcmp, 1) := by decide +kernel
theorem d6_43 : decode prog_24_method_2_code 43 = .ok (.ifCond .ge 9, 3) := by decide +kernel
theorem d6_46 : decode prog_24_method_2_code 46 = .ok (.iconst 1, 1) := by decide +kernel
theorem d6_47 : decode prog_24_method_2_code 47 = .ok (.istore 4, 2) := by decide +kernel
theorem d6_49 : decode prog_24_method_2_code 49 = .ok (.goto 6, 3) := by decide +kernel
theorem d6_52 : decode prog_24_method_2_code 52 = .ok (.iload_n 1, 1) := by decide +kernel
theorem d6_53 : decode prog_24_method_2_code 53 = .ok (.istore 4, 2) := by decide +kernel
theorem ef_6 (m : MethodId) (x0 : Addr) (x1 : Int32) (x2 : Int64) : entryFrame m #[(.ref x0), (.int x1), (.long x2)] 5 = mkF m 0 #[.val (.ref x0), .val (.int x1), .val (.long x2), .second, .unset] [] := by first | (simp [entryFrame, mkF, argsToLocals, Value.category]; done) | rfl
def Q6 (Z : State) (p0 : Addr) (p1 : Int32) (p2 : Int64) (lo : Int32) (hi : Int32) (h0 : Heap) (n0 : Nat) (v : Option Value) (h : Heap) (L : List Loc) : Prop := v = some (.int (own_wr p1 p2 lo hi)) ∧ Fr n0 L ∧ h = h0
set_option maxRecDepth 65536 in
set_option maxHeartbeats 40000000 in
theorem rm6 (l : Launch) (Z : State) (a0 : Array Value) (hw : ∀ d ∈ tables_1, d.before a0 Z = true) (ws : List Jvm.Cond) (p0 : Addr) (p1 : Int32) (p2 : Int64) (lo : Int32) (hi : Int32) (h0 : Heap) (n0 : Nat) (Z0 : n0 ≤ h0.size) (Flow : Fld Z h0 p0 "com/example/even_keel/evenkeel/channel/WaterMarks" "low" "I" (.int lo)) (Fhigh : Fld Z h0 p0 "com/example/even_keel/evenkeel/channel/WaterMarks" "high" "I" (.int hi)) (hp : ¬ p2 < 0) :
    MetFree l (⟨"com/example/even_keel/evenkeel/channel/WaterMarks", "writableAfter", "(ZJ)Z"⟩ : MethodName) (head1 (Jvm.Cond.code (⟨"com/example/even_keel/evenkeel/channel/WaterMarks", "writableAfter", "(ZJ)Z"⟩ : MethodName) prog_24_method_2_code 5 (some .boolean) :: ws) ({ frames := 0, cells := 0, slots := 0, locals := 0 } : Room)) (fun a U => a = #[(.ref p0), (.int p1), (.long p2)] ∧ Z.Warmed39 U.vm ∧ U.heap = h0) (fun _ _ _ _ _ => True) (fun _ U o U' => ∃ v L, o = .returned v ∧ Q6 Z p0 p1 p2 lo hi h0 n0 v U'.heap L ∧ FrameEnd U o U' L ({ frames := 0, cells := 0, slots := 0, locals := 0 } : Room).cells ({ frames := 0, cells := 0, slots := 0, locals := 0 } : Room).slots) := by
  refine MetFree.of_bodySF (plainFor_of_name pn_3) hisR ?_
  intro p e s m args below meth c s₁ Bd hml0 hP hK
  obtain ⟨rfl, hZ, hh⟩ := hP
  have hx := Bd.exec
  have hby := Bd.bytes
  have hml : c.maxLocals = 5 := hml0
  have hown : s.vm.findClass "com/example/even_keel/evenkeel/channel/WaterMarks" = some m.cls := findClass_of_methodNamed Bd.named
  have hnm := (name_of_methodNamed Bd.named Bd.method).1
  have X0 : Stand p l e ({ frames := 0, cells := 0, slots := 0, locals := 0 } : Room) s m #[(.ref p0), (.int p1), (.long p2)] below meth c s₁ [] 0 0 := Stand.of_body Bd
  have e0 : s₁.heap = h0 := by rw [← hh, Bd.state]; rfl
  have N0 := Fr.nil n0
  have pre0 : ∀ t, Steps p.tables e below (s₁.setTop (mkF m 0 #[.val (.ref p0), .val (.int p1), .val (.long p2), .second, .unset] [])) t → Steps p.tables e below (s₁.setTop (entryFrame m #[(.ref p0), (.int p1), (.long p2)] 5)) t := fun t k => castTop (ef_6 m p0 p1 p2) k
  have pre24 : ∀ t, Steps p.tables e below (s₁.setTop (mkF m 3 #[.val (.ref p0), .val (.int p1), .val (.long p2), .second, .unset] [(.int (lcmpW p2 (0 : Int64)))])) t → Steps p.tables e below (s₁.setTop (entryFrame m #[(.ref p0), (.int p1), (.long p2)] 5)) t := by
    intro t kont
    refine pre0 t ?_
    show Steps p.tables e below (s₁.setTop (mkF m 0 #[.val (.ref p0), .val (.int p1), .val (.long p2), .second, .unset] [])) _
    refine XS.lloadN X0.here hx rfl (hb hby d6_0) rfl ?_
    show Steps p.tables e below (s₁.setTop (mkF m 1 #[.val (.ref p0), .val (.int p1), .val (.long p2), .second, .unset] [(.long p2)])) _
    refine XS.lconst X0.here hx rfl (hb hby d6_1) ?_
    show Steps p.tables e below (s₁.setTop (mkF m 2 #[.val (.ref p0), .val (.int p1), .val (.long p2), .second, .unset] [(.long (0 : Int64)), (.long p2)])) _
    refine XS.lcmp X0.here hx rfl (hb hby d6_2) rfl ?_
    exact kont
  by_cases hc3 : p2 < (0 : Int64)
  · exfalso
    exact hp hc3
  · have pre25 : ∀ t, Steps p.tables e below (s₁.setTop (mkF m 22 #[.val (.ref p0), .val (.int p1), .val (.long p2), .second, .unset] [(.ref p0), (.long p2)])) t → Steps p.tables e below (s₁.setTop (entryFrame m #[(.ref p0), (.int p1), (.long p2)] 5)) t := by
      intro t kont
      refine pre24 t ?_
      show Steps p.tables e below (s₁.setTop (mkF m 3 #[.val (.ref p0), .val (.int p1), .val (.long p2), .second, .unset] [(.int (lcmpW p2 (0 : Int64)))])) _
      refine XS.ifYes X0.here hx rfl (pc0 := 3) (pc' := 20) rfl (hb hby d6_3) rfl ((if0 _ _).trans (flt (fun q => hc3 ((lw_lt _ _).mp q))).2.1) (by decide) (by decide) ?_
      show Steps p.tables e below (s₁.setTop (mkF m 20 #[.val (.ref p0), .val (.int p1), .val (.long p2), .second, .unset] [])) _
      refine XS.lloadN X0.here hx rfl (hb hby d6_20) rfl ?_
      show Steps p.tables e below (s₁.setTop (mkF m 21 #[.val (.ref p0), .val (.int p1), .val (.long p2), .second, .unset] [(.long p2)])) _
      refine XS.aloadN X0.here hx rfl (hb hby d6_21) rfl rfl ?_
      exact kont
    obtain ⟨T26, X26, e26, st26⟩ := getF X0 hx hZ hown (host := "") (Or.inl (hw _ (List.mem_of_getElem? (i := 25) rfl))) Via.refl e0 Fhigh (g := (mkF m 22 #[.val (.ref p0), .val (.int p1), .val (.long p2), .second, .unset] [(.ref p0), (.long p2)])) rfl rfl (hb hby d6_22)
    have pre27 : ∀ t, Steps p.tables e below (T26.setTop (mkF m 25 #[.val (.ref p0), .val (.int p1), .val (.long p2), .second, .unset] [(.int hi), (.long p2)])) t → Steps p.tables e below (s₁.setTop (entryFrame m #[(.ref p0), (.int p1), (.long p2)] 5)) t := fun t kont => pre25 t (st26 _ kont)
    have pre28 : ∀ t, Steps p.tables e below (T26.setTop (mkF m 27 #[.val (.ref p0), .val (.int p1), .val (.long p2), .second, .unset] [(.int (lcmpW p2 (hi.toInt64)))])) t → Steps p.tables e below (s₁.setTop (entryFrame m #[(.ref p0), (.int p1), (.long p2)] 5)) t := by
      intro t kont
      refine pre27 t ?_
      show Steps p.tables e below (T26.setTop (mkF m 25 #[.val (.ref p0), .val (.int p1), .val (.long p2), .second, .unset] [(.int hi), (.long p2)])) _
      refine XS.i2l X26.here hx rfl (hb hby d6_25) rfl ?_
      show Steps p.tables e below (T26.setTop (mkF m 26 #[.val (.ref p0), .val (.int p1), .val (.long p2), .second, .unset] [(.long (hi.toInt64)), (.long p2)])) _
      refine XS.lcmp X26.here hx rfl (hb hby d6_26) rfl ?_
      exact kont
    by_cases hc27 : (hi.toInt64) < p2
    · have pre29 : ∀ t, Steps p.tables e below (T26.setTop (mkF m 57 #[.val (.ref p0), .val (.int p1), .val (.long p2), .second, .val (.int (0 : Int32))] [(.int (0 : Int32))])) t → Steps p.tables e below (s₁.setTop (entryFrame m #[(.ref p0), (.int p1), (.long p2)] 5)) t := by
        intro t kont
        refine pre28 t ?_
        show Steps p.tables e below (T26.setTop (mkF m 27 #[.val (.ref p0), .val (.int p1), .val (.long p2), .second, .unset] [(.int (lcmpW p2 (hi.toInt64)))])) _
        refine XS.ifNo X26.here hx rfl (hb hby d6_27) rfl ((if0 _ _).trans (tlt ((lw_gt _ _).mpr hc27)).2.2.2) ?_
        show Steps p.tables e below (T26.setTop (mkF m 30 #[.val (.ref p0), .val (.int p1), .val (.long p2), .second, .unset] [])) _
        refine XS.iconst X26.here hx rfl (hb hby d6_30) ?_
        show Steps p.tables e below (T26.setTop (mkF m 31 #[.val (.ref p0), .val (.int p1), .val (.long p2), .second, .unset] [(.int (0 : Int32))])) _
        refine XS.istore X26.here hx rfl (hb hby d6_31) rfl (l' := #[.val (.ref p0), .val (.int p1), .val (.long p2), .second, .val (.int (0 : Int32))]) rfl ?_
        show Steps p.tables e below (T26.setTop (mkF m 33 #[.val (.ref p0), .val (.int p1), .val (.long p2), .second, .val (.int (0 : Int32))] [])) _
        refine XS.goto X26.here hx rfl (pc0 := 33) (pc' := 55) rfl (hb hby d6_33) (by decide) (by decide) ?_
        show Steps p.tables e below (T26.setTop (mkF m 55 #[.val (.ref p0), .val (.int p1), .val (.long p2), .second, .val (.int (0 : Int32))] [])) _
        refine XS.iload X26.here hx rfl (hb hby d6_55) rfl ?_
        exact kont
      obtain ⟨fs, hr, hrun, hended, hW, hsame⟩ := X26.leave (v := some (.int (0 : Int32))) (fun h => by rw [Bd.returns] at h; cases h)
      refine ⟨_, _, pre29 _ ?_, hrun, hended, _, _, rfl, ?_, ⟨_, rfl⟩, hW, hsame.mono (by decide) (by decide)⟩
      · exact retN X26 hx (t := .boolean) Bd.returns (by simp) (hb hby d6_57) hr
      · show Q6 Z p0 p1 p2 lo hi h0 n0 _ T26.heap _
        rw [e26]
        refine ⟨?_, N0, rfl⟩
        unfold own_wr; rw [if_pos hc27]
    · have pre30 : ∀ t, Steps p.tables e below (T26.setTop (mkF m 38 #[.val (.ref p0), .val (.int p1), .val (.long p2), .second, .unset] [(.ref p0), (.long p2)])) t → Steps p.tables e below (s₁.setTop (entryFrame m #[(.ref p0), (.int p1), (.long p2)] 5)) t := by
        intro t kont
        refine pre28 t ?_
        show Steps p.tables e below (T26.setTop (mkF m 27 #[.val (.ref p0), .val (.int p1), .val (.long p2), .second, .unset] [(.int (lcmpW p2 (hi.toInt64)))])) _
        refine XS.ifYes X26.here hx rfl (pc0 := 27) (pc' := 36) rfl (hb hby d6_27) rfl ((if0 _ _).trans (flt (fun q => hc27 ((lw_gt _ _).mp q))).2.2.2) (by decide) (by decide) ?_
        show Steps p.tables e below (T26.setTop (mkF m 36 #[.val (.ref p0), .val (.int p1), .val (.long p2), .second, .unset] [])) _
        refine XS.lloadN X26.here hx rfl (hb hby d6_36) rfl ?_
        show Steps p.tables e below (T26.setTop (mkF m 37 #[.val (.ref p0), .val (.int p1), .val (.long p2), .second, .unset] [(.long p2)])) _
        refine XS.aloadN X26.here hx rfl (hb hby d6_37) rfl rfl ?_
        exact kont
      obtain ⟨T31, X31, e31, st31⟩ := getF X26 hx hZ hown (host := "") (Or.inl (hw _ (List.mem_of_getElem? (i := 23) rfl))) Via.refl e26 Flow (g := (mkF m 38 #[.val (.ref p0), .val (.int p1), .val (.long p2), .second, .unset] [(.ref p0), (.long p2)])) rfl rfl (hb hby d6_38)
      have pre32 : ∀ t, Steps p.tables e below (T31.setTop (mkF m 41 #[.val (.ref p0), .val (.int p1), .val (.long p2), .second, .unset] [(.int lo), (.long p2)])) t → Steps p.tables e below (s₁.setTop (entryFrame m #[(.ref p0), (.int p1), (.long p2)] 5)) t := fun t kont => pre30 t (st31 _ kont)
      have pre33 : ∀ t, Steps p.tables e below (T31.setTop (mkF m 43 #[.val (.ref p0), .val (.int p1), .val (.long p2), .second, .unset] [(.int (lcmpW p2 (lo.toInt64)))])) t → Steps p.tables e below (s₁.setTop (entryFrame m #[(.ref p0), (.int p1), (.long p2)] 5)) t := by
        intro t kont
        refine pre32 t ?_
        show Steps p.tables e below (T31.setTop (mkF m 41 #[.val (.ref p0), .val (.int p1), .val (.long p2), .second, .unset] [(.int lo), (.long p2)])) _
        refine XS.i2l X31.here hx rfl (hb hby d6_41) rfl ?_
        show Steps p.tables e below (T31.setTop (mkF m 42 #[.val (.ref p0), .val (.int p1), .val (.long p2), .second, .unset] [(.long (lo.toInt64)), (.long p2)])) _
        refine XS.lcmp X31.here hx rfl (hb hby d6_42) rfl ?_
        exact kont
      by_cases hc43 : p2 < (lo.toInt64)
      · have pre34 : ∀ t, Steps p.tables e below (T31.setTop (mkF m 57 #[.val (.ref p0), .val (.int p1), .val (.long p2), .second, .val (.int (1 : Int32))] [(.int (1 : Int32))])) t → Steps p.tables e below (s₁.setTop (entryFrame m #[(.ref p0), (.int p1), (.long p2)] 5)) t := by
          intro t kont
          refine pre33 t ?_
          show Steps p.tables e below (T31.setTop (mkF m 43 #[.val (.ref p0), .val (.int p1), .val (.long p2), .second, .unset] [(.int (lcmpW p2 (lo.toInt64)))])) _
          refine XS.ifNo X31.here hx rfl (hb hby d6_43) rfl ((if0 _ _).trans (tlt ((lw_lt _ _).mpr hc43)).2.1) ?_
          show Steps p.tables e below (T31.setTop (mkF m 46 #[.val (.ref p0), .val (.int p1), .val (.long p2), .second, .unset] [])) _
          refine XS.iconst X31.here hx rfl (hb hby d6_46) ?_
          show Steps p.tables e below (T31.setTop (mkF m 47 #[.val (.ref p0), .val (.int p1), .val (.long p2), .second, .unset] [(.int (1 : Int32))])) _
          refine XS.istore X31.here hx rfl (hb hby d6_47) rfl (l' := #[.val (.ref p0), .val (.int p1), .val (.long p2), .second, .val (.int (1 : Int32))]) rfl ?_
          show Steps p.tables e below (T31.setTop (mkF m 49 #[.val (.ref p0), .val (.int p1), .val (.long p2), .second, .val (.int (1 : Int32))] [])) _
          refine XS.goto X31.here hx rfl (pc0 := 49) (pc' := 55) rfl (hb hby d6_49) (by decide) (by decide) ?_
          show Steps p.tables e below (T31.setTop (mkF m 55 #[.val (.ref p0), .val (.int p1), .val (.long p2), .second, .val (.int (1 : Int32))] [])) _
          refine XS.iload X31.here hx rfl (hb hby d6_55) rfl ?_
          exact kont
        obtain ⟨fs, hr, hrun, hended, hW, hsame⟩ := X31.leave (v := some (.int (1 : Int32))) (fun h => by rw [Bd.returns] at h; cases h)
        refine ⟨_, _, pre34 _ ?_, hrun, hended, _, _, rfl, ?_, ⟨_, rfl⟩, hW, hsame.mono (by decide) (by decide)⟩
        · exact retN X31 hx (t := .boolean) Bd.returns (by simp) (hb hby d6_57) hr
        · show Q6 Z p0 p1 p2 lo hi h0 n0 _ T31.heap _
          rw [e31]
          refine ⟨?_, N0, rfl⟩
          unfold own_wr; rw [if_neg hc27, if_pos hc43]
      · have pre35 : ∀ t, Steps p.tables e below (T31.setTop (mkF m 57 #[.val (.ref p0), .val (.int p1), .val (.long p2), .second, .val (.int p1)] [(.int p1)])) t → Steps p.tables e below (s₁.setTop (entryFrame m #[(.ref p0), (.int p1), (.long p2)] 5)) t := by
          intro t kont
          refine pre33 t ?_
          show Steps p.tables e below (T31.setTop (mkF m 43 #[.val (.ref p0), .val (.int p1), .val (.long p2), .second, .unset] [(.int (lcmpW p2 (lo.toInt64)))])) _
          refine XS.ifYes X31.here hx rfl (pc0 := 43) (pc' := 52) rfl (hb hby d6_43) rfl ((if0 _ _).trans (flt (fun q => hc43 ((lw_lt _ _).mp q))).2.1) (by decide) (by decide) ?_
          show Steps p.tables e below (T31.setTop (mkF m 52 #[.val (.ref p0), .val (.int p1), .val (.long p2), .second, .unset] [])) _
          refine XS.iloadN X31.here hx rfl (hb hby d6_52) rfl ?_
          show Steps p.tables e below (T31.setTop (mkF m 53 #[.val (.ref p0), .val (.int p1), .val (.long p2), .second, .unset] [(.int p1)])) _
          refine XS.istore X31.here hx rfl (hb hby d6_53) rfl (l' := #[.val (.ref p0), .val (.int p1), .val (.long p2), .second, .val (.int p1)]) rfl ?_
          show Steps p.tables e below (T31.setTop (mkF m 55 #[.val (.ref p0), .val (.int p1), .val (.long p2), .second, .val (.int p1)] [])) _
          refine XS.iload X31.here hx rfl (hb hby d6_55) rfl ?_
          exact kont
        obtain ⟨fs, hr, hrun, hended, hW, hsame⟩ := X31.leave (v := some (.int (p1 &&& 1))) (fun h => by rw [Bd.returns] at h; cases h)
        refine ⟨_, _, pre35 _ ?_, hrun, hended, _, _, rfl, ?_, ⟨_, rfl⟩, hW, hsame.mono (by decide) (by decide)⟩
        · exact retN X31 hx (t := .boolean) Bd.returns (by simp) (hb hby d6_57) hr
        · show Q6 Z p0 p1 p2 lo hi h0 n0 _ T31.heap _
          rw [e31]
          refine ⟨?_, N0, rfl⟩
          unfold own_wr; rw [if_neg hc27, if_neg hc43]
theorem own_one (x : Int32) : 1 ≤ (own_mx (1 : Int32) (x &&& (2147483647 : Int32))).toInt := by
  have e := c_mask x 2147483647 31 (by decide) (by decide)
  have o : (1 : Int32).toInt = 1 := rfl
  unfold own_mx
  by_cases h : (1 : Int32) < (x &&& (2147483647 : Int32))
  · rw [if_pos h]; rw [Int32.lt_iff_toInt_lt] at h; omega
  · rw [if_neg h]; decide
theorem own_lohi (a b lo hi : Int32) (h1 : lo = (own_mn (own_mx (1 : Int32) (a &&& (2147483647 : Int32))) (own_mx (1 : Int32) (b &&& (2147483647 : Int32))))) (h2 : hi = (own_mx (own_mx (1 : Int32) (a &&& (2147483647 : Int32))) (own_mx (1 : Int32) (b &&& (2147483647 : Int32))))) :
    1 ≤ lo.toInt ∧ lo.toInt ≤ hi.toInt := by
  have e1 := own_one a
  have e2 := own_one b
  generalize own_mx (1 : Int32) (a &&& (2147483647 : Int32)) = u at *
  generalize own_mx (1 : Int32) (b &&& (2147483647 : Int32)) = v at *
  subst h1 h2
  unfold own_mn own_mx
  simp only [Int32.lt_iff_toInt_lt]
  repeat' split
  all_goals omega
theorem own_i1 {lo hi : Int32} (h : 1 ≤ lo.toInt ∧ lo.toInt ≤ hi.toInt) : ¬ lo < 1 := by
  rw [Int32.lt_iff_toInt_lt]; have o : (1 : Int32).toInt = 1 := rfl; omega
theorem own_i2 {lo hi : Int32} (h : 1 ≤ lo.toInt ∧ lo.toInt ≤ hi.toInt) : ¬ hi < lo := by
  rw [Int32.lt_iff_toInt_lt]; omega
theorem own_pA (p : Int64) : ¬ (p &&& (9223372036854775807 : Int64)) < 0 := by
  have e := c_maskL p 9223372036854775807 63 (by decide) (by decide)
  rw [Int64.lt_iff_toInt_lt]; have o : (0 : Int64).toInt = 0 := rfl; omega
theorem own_pD (p : Int64) : ¬ (p &&& (4294967295 : Int64)) < 0 := by
  have e := c_maskL p 4294967295 32 (by decide) (by decide)
  rw [Int64.lt_iff_toInt_lt]; have o : (0 : Int64).toInt = 0 := rfl; omega
theorem own_pB (x : Int64) : ¬ (own_mxl (0 : Int64) x) < 0 := by
  unfold own_mxl
  rw [Int64.lt_iff_toInt_lt]; have o : (0 : Int64).toInt = 0 := rfl
  simp only [Int64.lt_iff_toInt_lt]
  split <;> omega
theorem own_plain (p3 v lo hi w : Int32) (pe : Int64) (h : 1 ≤ lo.toInt ∧ lo.toInt ≤ hi.toInt) (h1 : v = (if (p3 &&& (1 : Int32)) = (0 : Int32) then (0 : Int32) else (1 : Int32))) (h2 : w = (if pe < (lo.toInt64) then (1 : Int32) else (if v = (0 : Int32) then (0 : Int32) else (if (hi.toInt64) < pe then (0 : Int32) else (1 : Int32))))) : own_wr v pe lo hi = w := by
  have f1 : pe < lo.toInt64 ↔ pe.toInt < lo.toInt := by rw [Int64.lt_iff_toInt_lt, c_i2l]
  have f2 : hi.toInt64 < pe ↔ hi.toInt < pe.toInt := by rw [Int64.lt_iff_toInt_lt, c_i2l]
  have c : v = 0 ∨ v = 1 := by rw [h1]; split <;> simp
  rw [h2]
  unfold own_wr
  simp only [f1, f2]
  rcases c with rfl | rfl <;> simp <;> repeat' split
  all_goals first | rfl | (exfalso; omega) | (intros; omega) | decide
theorem pd_1 : parseMethodDescriptor "(II)I" = some ⟨[.int, .int], some .int⟩ := by decide +kernel
theorem pd_2 : parseMethodDescriptor "(II)V" = some ⟨[.int, .int], none⟩ := by decide +kernel
theorem pd_3 : parseMethodDescriptor "(ZJ)Z" = some ⟨[.boolean, .long], some .boolean⟩ := by decide +kernel
theorem pd_4 : parseMethodDescriptor "(JJ)J" = some ⟨[.long, .long], some .long⟩ := by decide +kernel
theorem pn_0 : plainName "com/example/even_keel/evenkeel/channel/WaterMarksWritableAfterPinLaw" = true := by first | (simp [plainName, overriddenIn]; done) | decide +kernel
theorem ef_0 (m : MethodId) (x0 : Int32) (x1 : Int32) (x2 : Int64) (x3 : Int32) : entryFrame m #[(.int x0), (.int x1), (.long x2), (.int x3)] maxLocals = mkF m 0 #[.val (.int x0), .val (.int x1), .val (.long x2), .second, .val (.int x3), .unset, .unset, .unset, .unset, .unset, .unset, .unset, .unset, .unset, .unset, .unset] [] := by first | (simp [entryFrame, mkF, argsToLocals, Value.category, maxLocals]; done) | rfl
def Q0 (Z : State) (p0 : Int32) (p1 : Int32) (p2 : Int64) (p3 : Int32) (h0 : Heap) (n0 : Nat) (v : Option Value) (h : Heap) (L : List Loc) : Prop := v = some (.int (1 : Int32)) ∧ Fr n0 L
set_option maxRecDepth 65536 in
set_option maxHeartbeats 40000000 in
theorem rm0 (l : Launch) (Z : State) (a0 : Array Value) (hw : ∀ d ∈ tables_1, d.before a0 Z = true) (ws : List Jvm.Cond) (p0 : Int32) (p1 : Int32) (p2 : Int64) (p3 : Int32) (h0 : Heap) (n0 : Nat) (Z0 : n0 ≤ h0.size) :
    MetFree l x (head1 (Jvm.Cond.code x code maxLocals ret :: ws) room_1) (fun a U => a = #[(.int p0), (.int p1), (.long p2), (.int p3)] ∧ Z.Warmed39 U.vm ∧ U.heap = h0) (fun _ _ _ _ _ => True) (fun _ U o U' => ∃ v L, o = .returned v ∧ Q0 Z p0 p1 p2 p3 h0 n0 v U'.heap L ∧ FrameEnd U o U' L room_1.cells room_1.slots) := by
  refine MetFree.of_bodySF (plainFor_of_name pn_0) hisR ?_
  intro p e s m args below meth c s₁ Bd hml0 hP hK
  obtain ⟨rfl, hZ, hh⟩ := hP
  have hx := Bd.exec
  have hby := Bd.bytes
  have hml : c.maxLocals = 16 := hml0
  have hown : s.vm.findClass "com/example/even_keel/evenkeel/channel/WaterMarksWritableAfterPinLaw" = some m.cls := findClass_of_methodNamed Bd.named
  have hnm := (name_of_methodNamed Bd.named Bd.method).1
  have X0 : Stand p l e room_1 s m #[(.int p0), (.int p1), (.long p2), (.int p3)] below meth c s₁ [] 0 0 := Stand.of_body Bd
  have e0 : s₁.heap = h0 := by rw [← hh, Bd.state]; rfl
  have N0 := Fr.nil n0
  have pre0 : ∀ t, Steps p.tables e below (s₁.setTop (mkF m 0 #[.val (.int p0), .val (.int p1), .val (.long p2), .second, .val (.int p3), .unset, .unset, .unset, .unset, .unset, .unset, .unset, .unset, .unset, .unset, .unset] [])) t → Steps p.tables e below (s₁.setTop (entryFrame m #[(.int p0), (.int p1), (.long p2), (.int p3)] maxLocals)) t := fun t k => castTop (ef_0 m p0 p1 p2 p3) k
  have pre36 : ∀ t, Steps p.tables e below (s₁.setTop (mkF m 5 #[.val (.int p0), .val (.int p1), .val (.long p2), .second, .val (.int p3), .unset, .unset, .unset, .unset, .unset, .unset, .unset, .unset, .unset, .unset, .unset] [(.int (p0 &&& (2147483647 : Int32))), (.int (1 : Int32))])) t → Steps p.tables e below (s₁.setTop (entryFrame m #[(.int p0), (.int p1), (.long p2), (.int p3)] maxLocals)) t := by
    intro t kont
    refine pre0 t ?_
    show Steps p.tables e below (s₁.setTop (mkF m 0 #[.val (.int p0), .val (.int p1), .val (.long p2), .second, .val (.int p3), .unset, .unset, .unset, .unset, .unset, .unset, .unset, .unset, .unset, .unset, .unset] [])) _
    refine XS.iconst X0.here hx rfl (hb hby at_0) ?_
    show Steps p.tables e below (s₁.setTop (mkF m 1 #[.val (.int p0), .val (.int p1), .val (.long p2), .second, .val (.int p3), .unset, .unset, .unset, .unset, .unset, .unset, .unset, .unset, .unset, .unset, .unset] [(.int (1 : Int32))])) _
    refine XS.iloadN X0.here hx rfl (hb hby at_1) rfl ?_
    show Steps p.tables e below (s₁.setTop (mkF m 2 #[.val (.int p0), .val (.int p1), .val (.long p2), .second, .val (.int p3), .unset, .unset, .unset, .unset, .unset, .unset, .unset, .unset, .unset, .unset, .unset] [(.int p0), (.int (1 : Int32))])) _
    refine X0.ldcInt hx hown (mvT hZ (hw _ (List.mem_of_getElem? (i := 0) rfl))) (g := (mkF m 2 #[.val (.int p0), .val (.int p1), .val (.long p2), .second, .val (.int p3), .unset, .unset, .unset, .unset, .unset, .unset, .unset, .unset, .unset, .unset, .unset] [(.int p0), (.int (1 : Int32))])) rfl (hb hby at_2) _ ?_
    show Steps p.tables e below (s₁.setTop (mkF m 4 #[.val (.int p0), .val (.int p1), .val (.long p2), .second, .val (.int p3), .unset, .unset, .unset, .unset, .unset, .unset, .unset, .unset, .unset, .unset, .unset] [(.int (2147483647 : Int32)), (.int p0), (.int (1 : Int32))])) _
    refine XS.iand X0.here hx rfl (hb hby at_4) rfl ?_
    exact kont
  obtain ⟨_, _, ⟨T37, L37, k37, n37⟩, -, X37, ⟨Lc37, hQ37, l37, y37, z37⟩, st37⟩ := Jvm.LawKit.callS X0 hx (y := (⟨"java/lang/Math", "max", "(II)I"⟩ : MethodName)) hown (mvT hZ (hw _ (List.mem_of_getElem? (i := 1) rfl))) (mvT hZ (hw _ (List.mem_of_getElem? (i := 2) rfl))) (mvT hZ (hw _ (List.mem_of_getElem? (i := 3) rfl))) (mvT hZ (hw _ (List.mem_of_getElem? (i := 4) rfl))) (by decide) (backOf (W := 0) (rm1 l Z a0 hw [] (1 : Int32) (p0 &&& (2147483647 : Int32))  h0 n0 Z0) hZ (hw _ (List.mem_of_getElem? (i := 4) rfl)) (hw _ (List.mem_of_getElem? (i := 3) rfl)) (by decide) (by decide)) (g := (mkF m 5 #[.val (.int p0), .val (.int p1), .val (.long p2), .second, .val (.int p3), .unset, .unset, .unset, .unset, .unset, .unset, .unset, .unset, .unset, .unset, .unset] [(.int (p0 &&& (2147483647 : Int32))), (.int (1 : Int32))])) rfl (by rw [hml]; rfl) (argsL := [(.int (1 : Int32)), (.int (p0 &&& (2147483647 : Int32)))]) (rest := []) (lenOf pd_1 rfl) rfl (by show 2 * 0 + _ ≤ _; exact Nat.le_of_eq rfl) (hb hby at_5) (fun _ _ => ⟨rfl, e0, (by decide : 0 + 0 ≤ _), (by decide : 0 + 0 ≤ _)⟩)
  dsimp only [Pt.U, Pt.locs, Pt.cells, Pt.slots] at X37 l37 y37 z37 st37 hQ37
  subst l37 y37 z37
  obtain ⟨rfl, N37q, e37⟩ := hQ37
  have N37 := Fr.app N0 N37q
  have pre38 : ∀ t, Steps p.tables e below (T37.setTop (mkF m 8 #[.val (.int p0), .val (.int p1), .val (.long p2), .second, .val (.int p3), .unset, .unset, .unset, .unset, .unset, .unset, .unset, .unset, .unset, .unset, .unset] [(.int (own_mx (1 : Int32) (p0 &&& (2147483647 : Int32))))])) t → Steps p.tables e below (s₁.setTop (entryFrame m #[(.int p0), (.int p1), (.long p2), (.int p3)] maxLocals)) t := fun t kont => pre36 t (st37 _ kont)
  have pre39 : ∀ t, Steps p.tables e below (T37.setTop (mkF m 15 #[.val (.int p0), .val (.int p1), .val (.long p2), .second, .val (.int p3), .val (.int (own_mx (1 : Int32) (p0 &&& (2147483647 : Int32)))), .unset, .unset, .unset, .unset, .unset, .unset, .unset, .unset, .unset, .unset] [(.int (p1 &&& (2147483647 : Int32))), (.int (1 : Int32))])) t → Steps p.tables e below (s₁.setTop (entryFrame m #[(.int p0), (.int p1), (.long p2), (.int p3)] maxLocals)) t := by
    intro t kont
    refine pre38 t ?_
    show Steps p.tables e below (T37.setTop (mkF m 8 #[.val (.int p0), .val (.int p1), .val (.long p2), .second, .val (.int p3), .unset, .unset, .unset, .unset, .unset, .unset, .unset, .unset, .unset, .unset, .unset] [(.int (own_mx (1 : Int32) (p0 &&& (2147483647 : Int32))))])) _
    refine XS.istore X37.here hx rfl (hb hby at_8) rfl (l' := #[.val (.int p0), .val (.int p1), .val (.long p2), .second, .val (.int p3), .val (.int (own_mx (1 : Int32) (p0 &&& (2147483647 : Int32)))), .unset, .unset, .unset, .unset, .unset, .unset, .unset, .unset, .unset, .unset]) rfl ?_
    show Steps p.tables e below (T37.setTop (mkF m 10 #[.val (.int p0), .val (.int p1), .val (.long p2), .second, .val (.int p3), .val (.int (own_mx (1 : Int32) (p0 &&& (2147483647 : Int32)))), .unset, .unset, .unset, .unset, .unset, .unset, .unset, .unset, .unset, .unset] [])) _
    refine XS.iconst X37.here hx rfl (hb hby at_10) ?_
    show Steps p.tables e below (T37.setTop (mkF m 11 #[.val (.int p0), .val (.int p1), .val (.long p2), .second, .val (.int p3), .val (.int (own_mx (1 : Int32) (p0 &&& (2147483647 : Int32)))), .unset, .unset, .unset, .unset, .unset, .unset, .unset, .unset, .unset, .unset] [(.int (1 : Int32))])) _
    refine XS.iloadN X37.here hx rfl (hb hby at_11) rfl ?_
    show Steps p.tables e below (T37.setTop (mkF m 12 #[.val (.int p0), .val (.int p1), .val (.long p2), .second, .val (.int p3), .val (.int (own_mx (1 : Int32) (p0 &&& (2147483647 : Int32)))), .unset, .unset, .unset, .unset, .unset, .unset, .unset, .unset, .unset, .unset] [(.int p1), (.int (1 : Int32))])) _
    refine X37.ldcInt hx hown (mvT hZ (hw _ (List.mem_of_getElem? (i := 0) rfl))) (g := (mkF m 12 #[.val (.int p0), .val (.int p1), .val (.long p2), .second, .val (.int p3), .val (.int (own_mx (1 : Int32) (p0 &&& (2147483647 : Int32)))), .unset, .unset, .unset, .unset, .unset, .unset, .unset, .unset, .unset, .unset] [(.int p1), (.int (1 : Int32))])) rfl (hb hby at_12) _ ?_
    show Steps p.tables e below (T37.setTop (mkF m 14 #[.val (.int p0), .val (.int p1), .val (.long p2), .second, .val (.int p3), .val (.int (own_mx (1 : Int32) (p0 &&& (2147483647 : Int32)))), .unset, .unset, .unset, .unset, .unset, .unset, .unset, .unset, .unset, .unset] [(.int (2147483647 : Int32)), (.int p1), (.int (1 : Int32))])) _
    refine XS.iand X37.here hx rfl (hb hby at_14) rfl ?_
    exact kont
  obtain ⟨_, _, ⟨T40, L40, k40, n40⟩, -, X40, ⟨Lc40, hQ40, l40, y40, z40⟩, st40⟩ := Jvm.LawKit.callS X37 hx (y := (⟨"java/lang/Math", "max", "(II)I"⟩ : MethodName)) hown (mvT hZ (hw _ (List.mem_of_getElem? (i := 1) rfl))) (mvT hZ (hw _ (List.mem_of_getElem? (i := 2) rfl))) (mvT hZ (hw _ (List.mem_of_getElem? (i := 3) rfl))) (mvT hZ (hw _ (List.mem_of_getElem? (i := 4) rfl))) (by decide) (backOf (W := 0) (rm1 l Z a0 hw [] (1 : Int32) (p1 &&& (2147483647 : Int32))  h0 n0 Z0) hZ (hw _ (List.mem_of_getElem? (i := 4) rfl)) (hw _ (List.mem_of_getElem? (i := 3) rfl)) (by decide) (by decide)) (g := (mkF m 15 #[.val (.int p0), .val (.int p1), .val (.long p2), .second, .val (.int p3), .val (.int (own_mx (1 : Int32) (p0 &&& (2147483647 : Int32)))), .unset, .unset, .unset, .unset, .unset, .unset, .unset, .unset, .unset, .unset] [(.int (p1 &&& (2147483647 : Int32))), (.int (1 : Int32))])) rfl (by rw [hml]; rfl) (argsL := [(.int (1 : Int32)), (.int (p1 &&& (2147483647 : Int32)))]) (rest := []) (lenOf pd_1 rfl) rfl (by show 2 * 0 + _ ≤ _; exact Nat.le_of_eq rfl) (hb hby at_15) (fun _ _ => ⟨rfl, e37, (by decide : 0 + 0 ≤ _), (by decide : 0 + 0 ≤ _)⟩)
  dsimp only [Pt.U, Pt.locs, Pt.cells, Pt.slots] at X40 l40 y40 z40 st40 hQ40
  subst l40 y40 z40
  obtain ⟨rfl, N40q, e40⟩ := hQ40
  have N40 := Fr.app N37 N40q
  have pre41 : ∀ t, Steps p.tables e below (T40.setTop (mkF m 18 #[.val (.int p0), .val (.int p1), .val (.long p2), .second, .val (.int p3), .val (.int (own_mx (1 : Int32) (p0 &&& (2147483647 : Int32)))), .unset, .unset, .unset, .unset, .unset, .unset, .unset, .unset, .unset, .unset] [(.int (own_mx (1 : Int32) (p1 &&& (2147483647 : Int32))))])) t → Steps p.tables e below (s₁.setTop (entryFrame m #[(.int p0), (.int p1), (.long p2), (.int p3)] maxLocals)) t := fun t kont => pre39 t (st40 _ kont)
  have pre42 : ∀ t, Steps p.tables e below (T40.setTop (mkF m 24 #[.val (.int p0), .val (.int p1), .val (.long p2), .second, .val (.int p3), .val (.int (own_mx (1 : Int32) (p0 &&& (2147483647 : Int32)))), .val (.int (own_mx (1 : Int32) (p1 &&& (2147483647 : Int32)))), .unset, .unset, .unset, .unset, .unset, .unset, .unset, .unset, .unset] [(.int (own_mx (1 : Int32) (p1 &&& (2147483647 : Int32)))), (.int (own_mx (1 : Int32) (p0 &&& (2147483647 : Int32))))])) t → Steps p.tables e below (s₁.setTop (entryFrame m #[(.int p0), (.int p1), (.long p2), (.int p3)] maxLocals)) t := by
    intro t kont
    refine pre41 t ?_
    show Steps p.tables e below (T40.setTop (mkF m 18 #[.val (.int p0), .val (.int p1), .val (.long p2), .second, .val (.int p3), .val (.int (own_mx (1 : Int32) (p0 &&& (2147483647 : Int32)))), .unset, .unset, .unset, .unset, .unset, .unset, .unset, .unset, .unset, .unset] [(.int (own_mx (1 : Int32) (p1 &&& (2147483647 : Int32))))])) _
    refine XS.istore X40.here hx rfl (hb hby at_18) rfl (l' := #[.val (.int p0), .val (.int p1), .val (.long p2), .second, .val (.int p3), .val (.int (own_mx (1 : Int32) (p0 &&& (2147483647 : Int32)))), .val (.int (own_mx (1 : Int32) (p1 &&& (2147483647 : Int32)))), .unset, .unset, .unset, .unset, .unset, .unset, .unset, .unset, .unset]) rfl ?_
    show Steps p.tables e below (T40.setTop (mkF m 20 #[.val (.int p0), .val (.int p1), .val (.long p2), .second, .val (.int p3), .val (.int (own_mx (1 : Int32) (p0 &&& (2147483647 : Int32)))), .val (.int (own_mx (1 : Int32) (p1 &&& (2147483647 : Int32)))), .unset, .unset, .unset, .unset, .unset, .unset, .unset, .unset, .unset] [])) _
    refine XS.iload X40.here hx rfl (hb hby at_20) rfl ?_
    show Steps p.tables e below (T40.setTop (mkF m 22 #[.val (.int p0), .val (.int p1), .val (.long p2), .second, .val (.int p3), .val (.int (own_mx (1 : Int32) (p0 &&& (2147483647 : Int32)))), .val (.int (own_mx (1 : Int32) (p1 &&& (2147483647 : Int32)))), .unset, .unset, .unset, .unset, .unset, .unset, .unset, .unset, .unset] [(.int (own_mx (1 : Int32) (p0 &&& (2147483647 : Int32))))])) _
    refine XS.iload X40.here hx rfl (hb hby at_22) rfl ?_
    exact kont
  obtain ⟨_, _, ⟨T43, L43, k43, n43⟩, -, X43, ⟨Lc43, hQ43, l43, y43, z43⟩, st43⟩ := Jvm.LawKit.callS X40 hx (y := (⟨"java/lang/Math", "min", "(II)I"⟩ : MethodName)) hown (mvT hZ (hw _ (List.mem_of_getElem? (i := 5) rfl))) (mvT hZ (hw _ (List.mem_of_getElem? (i := 6) rfl))) (mvT hZ (hw _ (List.mem_of_getElem? (i := 3) rfl))) (mvT hZ (hw _ (List.mem_of_getElem? (i := 7) rfl))) (by decide) (backOf (W := 0) (rm2 l Z a0 hw [] (own_mx (1 : Int32) (p0 &&& (2147483647 : Int32))) (own_mx (1 : Int32) (p1 &&& (2147483647 : Int32)))  h0 n0 Z0) hZ (hw _ (List.mem_of_getElem? (i := 7) rfl)) (hw _ (List.mem_of_getElem? (i := 3) rfl)) (by decide) (by decide)) (g := (mkF m 24 #[.val (.int p0), .val (.int p1), .val (.long p2), .second, .val (.int p3), .val (.int (own_mx (1 : Int32) (p0 &&& (2147483647 : Int32)))), .val (.int (own_mx (1 : Int32) (p1 &&& (2147483647 : Int32)))), .unset, .unset, .unset, .unset, .unset, .unset, .unset, .unset, .unset] [(.int (own_mx (1 : Int32) (p1 &&& (2147483647 : Int32)))), (.int (own_mx (1 : Int32) (p0 &&& (2147483647 : Int32))))])) rfl (by rw [hml]; rfl) (argsL := [(.int (own_mx (1 : Int32) (p0 &&& (2147483647 : Int32)))), (.int (own_mx (1 : Int32) (p1 &&& (2147483647 : Int32))))]) (rest := []) (lenOf pd_1 rfl) rfl (by show 2 * 0 + _ ≤ _; exact Nat.le_of_eq rfl) (hb hby at_24) (fun _ _ => ⟨rfl, e40, (by decide : 0 + 0 ≤ _), (by decide : 0 + 0 ≤ _)⟩)
  dsimp only [Pt.U, Pt.locs, Pt.cells, Pt.slots] at X43 l43 y43 z43 st43 hQ43
  subst l43 y43 z43
  obtain ⟨rfl, N43q, e43⟩ := hQ43
  have N43 := Fr.app N40 N43q
  have pre44 : ∀ t, Steps p.tables e below (T43.setTop (mkF m 27 #[.val (.int p0), .val (.int p1), .val (.long p2), .second, .val (.int p3), .val (.int (own_mx (1 : Int32) (p0 &&& (2147483647 : Int32)))), .val (.int (own_mx (1 : Int32) (p1 &&& (2147483647 : Int32)))), .unset, .unset, .unset, .unset, .unset, .unset, .unset, .unset, .unset] [(.int (own_mn (own_mx (1 : Int32) (p0 &&& (2147483647 : Int32))) (own_mx (1 : Int32) (p1 &&& (2147483647 : Int32)))))])) t → Steps p.tables e below (s₁.setTop (entryFrame m #[(.int p0), (.int p1), (.long p2), (.int p3)] maxLocals)) t := fun t kont => pre42 t (st43 _ kont)
  have pre45 : ∀ t, Steps p.tables e below (T43.setTop (mkF m 33 #[.val (.int p0), .val (.int p1), .val (.long p2), .second, .val (.int p3), .val (.int (own_mx (1 : Int32) (p0 &&& (2147483647 : Int32)))), .val (.int (own_mx (1 : Int32) (p1 &&& (2147483647 : Int32)))), .val (.int (own_mn (own_mx (1 : Int32) (p0 &&& (2147483647 : Int32))) (own_mx (1 : Int32) (p1 &&& (2147483647 : Int32))))), .unset, .unset, .unset, .unset, .unset, .unset, .unset, .unset] [(.int (own_mx (1 : Int32) (p1 &&& (2147483647 : Int32)))), (.int (own_mx (1 : Int32) (p0 &&& (2147483647 : Int32))))])) t → Steps p.tables e below (s₁.setTop (entryFrame m #[(.int p0), (.int p1), (.long p2), (.int p3)] maxLocals)) t := by
    intro t kont
    refine pre44 t ?_
    show Steps p.tables e below (T43.setTop (mkF m 27 #[.val (.int p0), .val (.int p1), .val (.long p2), .second, .val (.int p3), .val (.int (own_mx (1 : Int32) (p0 &&& (2147483647 : Int32)))), .val (.int (own_mx (1 : Int32) (p1 &&& (2147483647 : Int32)))), .unset, .unset, .unset, .unset, .unset, .unset, .unset, .unset, .unset] [(.int (own_mn (own_mx (1 : Int32) (p0 &&& (2147483647 : Int32))) (own_mx (1 : Int32) (p1 &&& (2147483647 : Int32)))))])) _
    refine XS.istore X43.here hx rfl (hb hby at_27) rfl (l' := #[.val (.int p0), .val (.int p1), .val (.long p2), .second, .val (.int p3), .val (.int (own_mx (1 : Int32) (p0 &&& (2147483647 : Int32)))), .val (.int (own_mx (1 : Int32) (p1 &&& (2147483647 : Int32)))), .val (.int (own_mn (own_mx (1 : Int32) (p0 &&& (2147483647 : Int32))) (own_mx (1 : Int32) (p1 &&& (2147483647 : Int32))))), .unset, .unset, .unset, .unset, .unset, .unset, .unset, .unset]) rfl ?_
    show Steps p.tables e below (T43.setTop (mkF m 29 #[.val (.int p0), .val (.int p1), .val (.long p2), .second, .val (.int p3), .val (.int (own_mx (1 : Int32) (p0 &&& (2147483647 : Int32)))), .val (.int (own_mx (1 : Int32) (p1 &&& (2147483647 : Int32)))), .val (.int (own_mn (own_mx (1 : Int32) (p0 &&& (2147483647 : Int32))) (own_mx (1 : Int32) (p1 &&& (2147483647 : Int32))))), .unset, .unset, .unset, .unset, .unset, .unset, .unset, .unset] [])) _
    refine XS.iload X43.here hx rfl (hb hby at_29) rfl ?_
    show Steps p.tables e below (T43.setTop (mkF m 31 #[.val (.int p0), .val (.int p1), .val (.long p2), .second, .val (.int p3), .val (.int (own_mx (1 : Int32) (p0 &&& (2147483647 : Int32)))), .val (.int (own_mx (1 : Int32) (p1 &&& (2147483647 : Int32)))), .val (.int (own_mn (own_mx (1 : Int32) (p0 &&& (2147483647 : Int32))) (own_mx (1 : Int32) (p1 &&& (2147483647 : Int32))))), .unset, .unset, .unset, .unset, .unset, .unset, .unset, .unset] [(.int (own_mx (1 : Int32) (p0 &&& (2147483647 : Int32))))])) _
    refine XS.iload X43.here hx rfl (hb hby at_31) rfl ?_
    exact kont
  obtain ⟨_, _, ⟨T46, L46, k46, n46⟩, -, X46, ⟨Lc46, hQ46, l46, y46, z46⟩, st46⟩ := Jvm.LawKit.callS X43 hx (y := (⟨"java/lang/Math", "max", "(II)I"⟩ : MethodName)) hown (mvT hZ (hw _ (List.mem_of_getElem? (i := 1) rfl))) (mvT hZ (hw _ (List.mem_of_getElem? (i := 2) rfl))) (mvT hZ (hw _ (List.mem_of_getElem? (i := 3) rfl))) (mvT hZ (hw _ (List.mem_of_getElem? (i := 4) rfl))) (by decide) (backOf (W := 0) (rm1 l Z a0 hw [] (own_mx (1 : Int32) (p0 &&& (2147483647 : Int32))) (own_mx (1 : Int32) (p1 &&& (2147483647 : Int32)))  h0 n0 Z0) hZ (hw _ (List.mem_of_getElem? (i := 4) rfl)) (hw _ (List.mem_of_getElem? (i := 3) rfl)) (by decide) (by decide)) (g := (mkF m 33 #[.val (.int p0), .val (.int p1), .val (.long p2), .second, .val (.int p3), .val (.int (own_mx (1 : Int32) (p0 &&& (2147483647 : Int32)))), .val (.int (own_mx (1 : Int32) (p1 &&& (2147483647 : Int32)))), .val (.int (own_mn (own_mx (1 : Int32) (p0 &&& (2147483647 : Int32))) (own_mx (1 : Int32) (p1 &&& (2147483647 : Int32))))), .unset, .unset, .unset, .unset, .unset, .unset, .unset, .unset] [(.int (own_mx (1 : Int32) (p1 &&& (2147483647 : Int32)))), (.int (own_mx (1 : Int32) (p0 &&& (2147483647 : Int32))))])) rfl (by rw [hml]; rfl) (argsL := [(.int (own_mx (1 : Int32) (p0 &&& (2147483647 : Int32)))), (.int (own_mx (1 : Int32) (p1 &&& (2147483647 : Int32))))]) (rest := []) (lenOf pd_1 rfl) rfl (by show 2 * 0 + _ ≤ _; exact Nat.le_of_eq rfl) (hb hby at_33) (fun _ _ => ⟨rfl, e43, (by decide : 0 + 0 ≤ _), (by decide : 0 + 0 ≤ _)⟩)
  dsimp only [Pt.U, Pt.locs, Pt.cells, Pt.slots] at X46 l46 y46 z46 st46 hQ46
  subst l46 y46 z46
  obtain ⟨rfl, N46q, e46⟩ := hQ46
  have N46 := Fr.app N43 N46q
  have pre47 : ∀ t, Steps p.tables e below (T46.setTop (mkF m 36 #[.val (.int p0), .val (.int p1), .val (.long p2), .second, .val (.int p3), .val (.int (own_mx (1 : Int32) (p0 &&& (2147483647 : Int32)))), .val (.int (own_mx (1 : Int32) (p1 &&& (2147483647 : Int32)))), .val (.int (own_mn (own_mx (1 : Int32) (p0 &&& (2147483647 : Int32))) (own_mx (1 : Int32) (p1 &&& (2147483647 : Int32))))), .unset, .unset, .unset, .unset, .unset, .unset, .unset, .unset] [(.int (own_mx (own_mx (1 : Int32) (p0 &&& (2147483647 : Int32))) (own_mx (1 : Int32) (p1 &&& (2147483647 : Int32)))))])) t → Steps p.tables e below (s₁.setTop (entryFrame m #[(.int p0), (.int p1), (.long p2), (.int p3)] maxLocals)) t := fun t kont => pre45 t (st46 _ kont)
  have pre48 : ∀ t, Steps p.tables e below (T46.setTop (mkF m 38 #[.val (.int p0), .val (.int p1), .val (.long p2), .second, .val (.int p3), .val (.int (own_mx (1 : Int32) (p0 &&& (2147483647 : Int32)))), .val (.int (own_mx (1 : Int32) (p1 &&& (2147483647 : Int32)))), .val (.int (own_mn (own_mx (1 : Int32) (p0 &&& (2147483647 : Int32))) (own_mx (1 : Int32) (p1 &&& (2147483647 : Int32))))), .val (.int (own_mx (own_mx (1 : Int32) (p0 &&& (2147483647 : Int32))) (own_mx (1 : Int32) (p1 &&& (2147483647 : Int32))))), .unset, .unset, .unset, .unset, .unset, .unset, .unset] [])) t → Steps p.tables e below (s₁.setTop (entryFrame m #[(.int p0), (.int p1), (.long p2), (.int p3)] maxLocals)) t := by
    intro t kont
    refine pre47 t ?_
    show Steps p.tables e below (T46.setTop (mkF m 36 #[.val (.int p0), .val (.int p1), .val (.long p2), .second, .val (.int p3), .val (.int (own_mx (1 : Int32) (p0 &&& (2147483647 : Int32)))), .val (.int (own_mx (1 : Int32) (p1 &&& (2147483647 : Int32)))), .val (.int (own_mn (own_mx (1 : Int32) (p0 &&& (2147483647 : Int32))) (own_mx (1 : Int32) (p1 &&& (2147483647 : Int32))))), .unset, .unset, .unset, .unset, .unset, .unset, .unset, .unset] [(.int (own_mx (own_mx (1 : Int32) (p0 &&& (2147483647 : Int32))) (own_mx (1 : Int32) (p1 &&& (2147483647 : Int32)))))])) _
    refine XS.istore X46.here hx rfl (hb hby at_36) rfl (l' := #[.val (.int p0), .val (.int p1), .val (.long p2), .second, .val (.int p3), .val (.int (own_mx (1 : Int32) (p0 &&& (2147483647 : Int32)))), .val (.int (own_mx (1 : Int32) (p1 &&& (2147483647 : Int32)))), .val (.int (own_mn (own_mx (1 : Int32) (p0 &&& (2147483647 : Int32))) (own_mx (1 : Int32) (p1 &&& (2147483647 : Int32))))), .val (.int (own_mx (own_mx (1 : Int32) (p0 &&& (2147483647 : Int32))) (own_mx (1 : Int32) (p1 &&& (2147483647 : Int32))))), .unset, .unset, .unset, .unset, .unset, .unset, .unset]) rfl ?_
    exact kont
  obtain ⟨lo, hlo⟩ : ∃ z : Int32, z = (own_mn (own_mx (1 : Int32) (p0 &&& (2147483647 : Int32))) (own_mx (1 : Int32) (p1 &&& (2147483647 : Int32)))) := ⟨_, rfl⟩
  rw [← hlo] at pre48
  obtain ⟨hi, hhi⟩ : ∃ z : Int32, z = (own_mx (own_mx (1 : Int32) (p0 &&& (2147483647 : Int32))) (own_mx (1 : Int32) (p1 &&& (2147483647 : Int32)))) := ⟨_, rfl⟩
  rw [← hhi] at pre48
  have hlh := own_lohi p0 p1 lo hi hlo hhi
  have pre49 : ∀ t, Steps p.tables e below (T46.setTop (mkF m 42 #[.val (.int p0), .val (.int p1), .val (.long p2), .second, .val (.int p3), .val (.int (own_mx (1 : Int32) (p0 &&& (2147483647 : Int32)))), .val (.int (own_mx (1 : Int32) (p1 &&& (2147483647 : Int32)))), .val (.int lo), .val (.int hi), .unset, .unset, .unset, .unset, .unset, .unset, .unset] [(.int (p3 &&& (1 : Int32)))])) t → Steps p.tables e below (s₁.setTop (entryFrame m #[(.int p0), (.int p1), (.long p2), (.int p3)] maxLocals)) t := by
    intro t kont
    refine pre48 t ?_
    show Steps p.tables e below (T46.setTop (mkF m 38 #[.val (.int p0), .val (.int p1), .val (.long p2), .second, .val (.int p3), .val (.int (own_mx (1 : Int32) (p0 &&& (2147483647 : Int32)))), .val (.int (own_mx (1 : Int32) (p1 &&& (2147483647 : Int32)))), .val (.int lo), .val (.int hi), .unset, .unset, .unset, .unset, .unset, .unset, .unset] [])) _
    refine XS.iload X46.here hx rfl (hb hby at_38) rfl ?_
    show Steps p.tables e below (T46.setTop (mkF m 40 #[.val (.int p0), .val (.int p1), .val (.long p2), .second, .val (.int p3), .val (.int (own_mx (1 : Int32) (p0 &&& (2147483647 : Int32)))), .val (.int (own_mx (1 : Int32) (p1 &&& (2147483647 : Int32)))), .val (.int lo), .val (.int hi), .unset, .unset, .unset, .unset, .unset, .unset, .unset] [(.int p3)])) _
    refine XS.iconst X46.here hx rfl (hb hby at_40) ?_
    show Steps p.tables e below (T46.setTop (mkF m 41 #[.val (.int p0), .val (.int p1), .val (.long p2), .second, .val (.int p3), .val (.int (own_mx (1 : Int32) (p0 &&& (2147483647 : Int32)))), .val (.int (own_mx (1 : Int32) (p1 &&& (2147483647 : Int32)))), .val (.int lo), .val (.int hi), .unset, .unset, .unset, .unset, .unset, .unset, .unset] [(.int (1 : Int32)), (.int p3)])) _
    refine XS.iand X46.here hx rfl (hb hby at_41) rfl ?_
    exact kont
  obtain ⟨v50, hv50⟩ : ∃ z : Int32, z = (if (p3 &&& (1 : Int32)) = (0 : Int32) then (0 : Int32) else (1 : Int32)) := ⟨_, rfl⟩
  have pre50 : ∀ t, Steps p.tables e below (T46.setTop (mkF m 50 #[.val (.int p0), .val (.int p1), .val (.long p2), .second, .val (.int p3), .val (.int (own_mx (1 : Int32) (p0 &&& (2147483647 : Int32)))), .val (.int (own_mx (1 : Int32) (p1 &&& (2147483647 : Int32)))), .val (.int lo), .val (.int hi), .unset, .unset, .unset, .unset, .unset, .unset, .unset] [(.int v50)])) t → Steps p.tables e below (s₁.setTop (entryFrame m #[(.int p0), (.int p1), (.long p2), (.int p3)] maxLocals)) t := by
    intro t kont
    refine pre49 t ?_
    by_cases j_42 : (p3 &&& (1 : Int32)) = (0 : Int32)
    · rw [hv50, if_pos j_42] at kont
      show Steps p.tables e below (T46.setTop (mkF m 42 #[.val (.int p0), .val (.int p1), .val (.long p2), .second, .val (.int p3), .val (.int (own_mx (1 : Int32) (p0 &&& (2147483647 : Int32)))), .val (.int (own_mx (1 : Int32) (p1 &&& (2147483647 : Int32)))), .val (.int lo), .val (.int hi), .unset, .unset, .unset, .unset, .unset, .unset, .unset] [(.int (p3 &&& (1 : Int32)))])) _
      refine XS.ifYes X46.here hx rfl (pc0 := 42) (pc' := 49) rfl (hb hby at_42) rfl ((if0 _ _).trans (teq j_42).1) (by decide) (by decide) ?_
      show Steps p.tables e below (T46.setTop (mkF m 49 #[.val (.int p0), .val (.int p1), .val (.long p2), .second, .val (.int p3), .val (.int (own_mx (1 : Int32) (p0 &&& (2147483647 : Int32)))), .val (.int (own_mx (1 : Int32) (p1 &&& (2147483647 : Int32)))), .val (.int lo), .val (.int hi), .unset, .unset, .unset, .unset, .unset, .unset, .unset] [])) _
      refine XS.iconst X46.here hx rfl (hb hby at_49) ?_
      exact kont
    · rw [hv50, if_neg j_42] at kont
      show Steps p.tables e below (T46.setTop (mkF m 42 #[.val (.int p0), .val (.int p1), .val (.long p2), .second, .val (.int p3), .val (.int (own_mx (1 : Int32) (p0 &&& (2147483647 : Int32)))), .val (.int (own_mx (1 : Int32) (p1 &&& (2147483647 : Int32)))), .val (.int lo), .val (.int hi), .unset, .unset, .unset, .unset, .unset, .unset, .unset] [(.int (p3 &&& (1 : Int32)))])) _
      refine XS.ifNo X46.here hx rfl (hb hby at_42) rfl ((if0 _ _).trans (feq j_42).1) ?_
      show Steps p.tables e below (T46.setTop (mkF m 45 #[.val (.int p0), .val (.int p1), .val (.long p2), .second, .val (.int p3), .val (.int (own_mx (1 : Int32) (p0 &&& (2147483647 : Int32)))), .val (.int (own_mx (1 : Int32) (p1 &&& (2147483647 : Int32)))), .val (.int lo), .val (.int hi), .unset, .unset, .unset, .unset, .unset, .unset, .unset] [])) _
      refine XS.iconst X46.here hx rfl (hb hby at_45) ?_
      show Steps p.tables e below (T46.setTop (mkF m 46 #[.val (.int p0), .val (.int p1), .val (.long p2), .second, .val (.int p3), .val (.int (own_mx (1 : Int32) (p0 &&& (2147483647 : Int32)))), .val (.int (own_mx (1 : Int32) (p1 &&& (2147483647 : Int32)))), .val (.int lo), .val (.int hi), .unset, .unset, .unset, .unset, .unset, .unset, .unset] [(.int (1 : Int32))])) _
      refine XS.goto X46.here hx rfl (pc0 := 46) (pc' := 50) rfl (hb hby at_46) (by decide) (by decide) ?_
      exact kont
  have pre51 : ∀ t, Steps p.tables e below (T46.setTop (mkF m 62 #[.val (.int p0), .val (.int p1), .val (.long p2), .second, .val (.int p3), .val (.int (own_mx (1 : Int32) (p0 &&& (2147483647 : Int32)))), .val (.int (own_mx (1 : Int32) (p1 &&& (2147483647 : Int32)))), .val (.int lo), .val (.int hi), .val (.int v50), .val (.int (((p3.toUInt32 >>> ((1 : Int32) &&& 31).toUInt32).toInt32) &&& (3 : Int32))), .unset, .unset, .unset, .unset, .unset] [(.int (((p3.toUInt32 >>> ((1 : Int32) &&& 31).toUInt32).toInt32) &&& (3 : Int32)))])) t → Steps p.tables e below (s₁.setTop (entryFrame m #[(.int p0), (.int p1), (.long p2), (.int p3)] maxLocals)) t := by
    intro t kont
    refine pre50 t ?_
    show Steps p.tables e below (T46.setTop (mkF m 50 #[.val (.int p0), .val (.int p1), .val (.long p2), .second, .val (.int p3), .val (.int (own_mx (1 : Int32) (p0 &&& (2147483647 : Int32)))), .val (.int (own_mx (1 : Int32) (p1 &&& (2147483647 : Int32)))), .val (.int lo), .val (.int hi), .unset, .unset, .unset, .unset, .unset, .unset, .unset] [(.int v50)])) _
    refine XS.istore X46.here hx rfl (hb hby at_50) rfl (l' := #[.val (.int p0), .val (.int p1), .val (.long p2), .second, .val (.int p3), .val (.int (own_mx (1 : Int32) (p0 &&& (2147483647 : Int32)))), .val (.int (own_mx (1 : Int32) (p1 &&& (2147483647 : Int32)))), .val (.int lo), .val (.int hi), .val (.int v50), .unset, .unset, .unset, .unset, .unset, .unset]) rfl ?_
    show Steps p.tables e below (T46.setTop (mkF m 52 #[.val (.int p0), .val (.int p1), .val (.long p2), .second, .val (.int p3), .val (.int (own_mx (1 : Int32) (p0 &&& (2147483647 : Int32)))), .val (.int (own_mx (1 : Int32) (p1 &&& (2147483647 : Int32)))), .val (.int lo), .val (.int hi), .val (.int v50), .unset, .unset, .unset, .unset, .unset, .unset] [])) _
    refine XS.iload X46.here hx rfl (hb hby at_52) rfl ?_
    show Steps p.tables e below (T46.setTop (mkF m 54 #[.val (.int p0), .val (.int p1), .val (.long p2), .second, .val (.int p3), .val (.int (own_mx (1 : Int32) (p0 &&& (2147483647 : Int32)))), .val (.int (own_mx (1 : Int32) (p1 &&& (2147483647 : Int32)))), .val (.int lo), .val (.int hi), .val (.int v50), .unset, .unset, .unset, .unset, .unset, .unset] [(.int p3)])) _
    refine XS.iconst X46.here hx rfl (hb hby at_54) ?_
    show Steps p.tables e below (T46.setTop (mkF m 55 #[.val (.int p0), .val (.int p1), .val (.long p2), .second, .val (.int p3), .val (.int (own_mx (1 : Int32) (p0 &&& (2147483647 : Int32)))), .val (.int (own_mx (1 : Int32) (p1 &&& (2147483647 : Int32)))), .val (.int lo), .val (.int hi), .val (.int v50), .unset, .unset, .unset, .unset, .unset, .unset] [(.int (1 : Int32)), (.int p3)])) _
    refine XS.iushr X46.here hx rfl (hb hby at_55) rfl ?_
    show Steps p.tables e below (T46.setTop (mkF m 56 #[.val (.int p0), .val (.int p1), .val (.long p2), .second, .val (.int p3), .val (.int (own_mx (1 : Int32) (p0 &&& (2147483647 : Int32)))), .val (.int (own_mx (1 : Int32) (p1 &&& (2147483647 : Int32)))), .val (.int lo), .val (.int hi), .val (.int v50), .unset, .unset, .unset, .unset, .unset, .unset] [(.int ((p3.toUInt32 >>> ((1 : Int32) &&& 31).toUInt32).toInt32))])) _
    refine XS.iconst X46.here hx rfl (hb hby at_56) ?_
    show Steps p.tables e below (T46.setTop (mkF m 57 #[.val (.int p0), .val (.int p1), .val (.long p2), .second, .val (.int p3), .val (.int (own_mx (1 : Int32) (p0 &&& (2147483647 : Int32)))), .val (.int (own_mx (1 : Int32) (p1 &&& (2147483647 : Int32)))), .val (.int lo), .val (.int hi), .val (.int v50), .unset, .unset, .unset, .unset, .unset, .unset] [(.int (3 : Int32)), (.int ((p3.toUInt32 >>> ((1 : Int32) &&& 31).toUInt32).toInt32))])) _
    refine XS.iand X46.here hx rfl (hb hby at_57) rfl ?_
    show Steps p.tables e below (T46.setTop (mkF m 58 #[.val (.int p0), .val (.int p1), .val (.long p2), .second, .val (.int p3), .val (.int (own_mx (1 : Int32) (p0 &&& (2147483647 : Int32)))), .val (.int (own_mx (1 : Int32) (p1 &&& (2147483647 : Int32)))), .val (.int lo), .val (.int hi), .val (.int v50), .unset, .unset, .unset, .unset, .unset, .unset] [(.int (((p3.toUInt32 >>> ((1 : Int32) &&& 31).toUInt32).toInt32) &&& (3 : Int32)))])) _
    refine XS.istore X46.here hx rfl (hb hby at_58) rfl (l' := #[.val (.int p0), .val (.int p1), .val (.long p2), .second, .val (.int p3), .val (.int (own_mx (1 : Int32) (p0 &&& (2147483647 : Int32)))), .val (.int (own_mx (1 : Int32) (p1 &&& (2147483647 : Int32)))), .val (.int lo), .val (.int hi), .val (.int v50), .val (.int (((p3.toUInt32 >>> ((1 : Int32) &&& 31).toUInt32).toInt32) &&& (3 : Int32))), .unset, .unset, .unset, .unset, .unset]) rfl ?_
    show Steps p.tables e below (T46.setTop (mkF m 60 #[.val (.int p0), .val (.int p1), .val (.long p2), .second, .val (.int p3), .val (.int (own_mx (1 : Int32) (p0 &&& (2147483647 : Int32)))), .val (.int (own_mx (1 : Int32) (p1 &&& (2147483647 : Int32)))), .val (.int lo), .val (.int hi), .val (.int v50), .val (.int (((p3.toUInt32 >>> ((1 : Int32) &&& 31).toUInt32).toInt32) &&& (3 : Int32))), .unset, .unset, .unset, .unset, .unset] [])) _
    refine XS.iload X46.here hx rfl (hb hby at_60) rfl ?_
    exact kont
  by_cases hc62 : (((p3.toUInt32 >>> ((1 : Int32) &&& 31).toUInt32).toInt32) &&& (3 : Int32)) = (0 : Int32)
  · have pre52 : ∀ t, Steps p.tables e below (T46.setTop (mkF m 130 #[.val (.int p0), .val (.int p1), .val (.long p2), .second, .val (.int p3), .val (.int (own_mx (1 : Int32) (p0 &&& (2147483647 : Int32)))), .val (.int (own_mx (1 : Int32) (p1 &&& (2147483647 : Int32)))), .val (.int lo), .val (.int hi), .val (.int v50), .val (.int (((p3.toUInt32 >>> ((1 : Int32) &&& 31).toUInt32).toInt32) &&& (3 : Int32))), .val (.long (p2 &&& (9223372036854775807 : Int64))), .second, .unset, .unset, .unset] [])) t → Steps p.tables e below (s₁.setTop (entryFrame m #[(.int p0), (.int p1), (.long p2), (.int p3)] maxLocals)) t := by
      intro t kont
      refine pre51 t ?_
      show Steps p.tables e below (T46.setTop (mkF m 62 #[.val (.int p0), .val (.int p1), .val (.long p2), .second, .val (.int p3), .val (.int (own_mx (1 : Int32) (p0 &&& (2147483647 : Int32)))), .val (.int (own_mx (1 : Int32) (p1 &&& (2147483647 : Int32)))), .val (.int lo), .val (.int hi), .val (.int v50), .val (.int (((p3.toUInt32 >>> ((1 : Int32) &&& 31).toUInt32).toInt32) &&& (3 : Int32))), .unset, .unset, .unset, .unset, .unset] [(.int (((p3.toUInt32 >>> ((1 : Int32) &&& 31).toUInt32).toInt32) &&& (3 : Int32)))])) _
      refine XS.ifNo X46.here hx rfl (hb hby at_62) rfl ((if0 _ _).trans (teq hc62).2) ?_
      show Steps p.tables e below (T46.setTop (mkF m 65 #[.val (.int p0), .val (.int p1), .val (.long p2), .second, .val (.int p3), .val (.int (own_mx (1 : Int32) (p0 &&& (2147483647 : Int32)))), .val (.int (own_mx (1 : Int32) (p1 &&& (2147483647 : Int32)))), .val (.int lo), .val (.int hi), .val (.int v50), .val (.int (((p3.toUInt32 >>> ((1 : Int32) &&& 31).toUInt32).toInt32) &&& (3 : Int32))), .unset, .unset, .unset, .unset, .unset] [])) _
      refine XS.lloadN X46.here hx rfl (hb hby at_65) rfl ?_
      show Steps p.tables e below (T46.setTop (mkF m 66 #[.val (.int p0), .val (.int p1), .val (.long p2), .second, .val (.int p3), .val (.int (own_mx (1 : Int32) (p0 &&& (2147483647 : Int32)))), .val (.int (own_mx (1 : Int32) (p1 &&& (2147483647 : Int32)))), .val (.int lo), .val (.int hi), .val (.int v50), .val (.int (((p3.toUInt32 >>> ((1 : Int32) &&& 31).toUInt32).toInt32) &&& (3 : Int32))), .unset, .unset, .unset, .unset, .unset] [(.long p2)])) _
      refine X46.ldc2Long hx hown (mvT hZ (hw _ (List.mem_of_getElem? (i := 8) rfl))) (g := (mkF m 66 #[.val (.int p0), .val (.int p1), .val (.long p2), .second, .val (.int p3), .val (.int (own_mx (1 : Int32) (p0 &&& (2147483647 : Int32)))), .val (.int (own_mx (1 : Int32) (p1 &&& (2147483647 : Int32)))), .val (.int lo), .val (.int hi), .val (.int v50), .val (.int (((p3.toUInt32 >>> ((1 : Int32) &&& 31).toUInt32).toInt32) &&& (3 : Int32))), .unset, .unset, .unset, .unset, .unset] [(.long p2)])) rfl (hb hby at_66) _ ?_
      show Steps p.tables e below (T46.setTop (mkF m 69 #[.val (.int p0), .val (.int p1), .val (.long p2), .second, .val (.int p3), .val (.int (own_mx (1 : Int32) (p0 &&& (2147483647 : Int32)))), .val (.int (own_mx (1 : Int32) (p1 &&& (2147483647 : Int32)))), .val (.int lo), .val (.int hi), .val (.int v50), .val (.int (((p3.toUInt32 >>> ((1 : Int32) &&& 31).toUInt32).toInt32) &&& (3 : Int32))), .unset, .unset, .unset, .unset, .unset] [(.long (9223372036854775807 : Int64)), (.long p2)])) _
      refine XS.land X46.here hx rfl (hb hby at_69) rfl ?_
      show Steps p.tables e below (T46.setTop (mkF m 70 #[.val (.int p0), .val (.int p1), .val (.long p2), .second, .val (.int p3), .val (.int (own_mx (1 : Int32) (p0 &&& (2147483647 : Int32)))), .val (.int (own_mx (1 : Int32) (p1 &&& (2147483647 : Int32)))), .val (.int lo), .val (.int hi), .val (.int v50), .val (.int (((p3.toUInt32 >>> ((1 : Int32) &&& 31).toUInt32).toInt32) &&& (3 : Int32))), .unset, .unset, .unset, .unset, .unset] [(.long (p2 &&& (9223372036854775807 : Int64)))])) _
      refine XS.lstore X46.here hx rfl (hb hby at_70) rfl (l' := #[.val (.int p0), .val (.int p1), .val (.long p2), .second, .val (.int p3), .val (.int (own_mx (1 : Int32) (p0 &&& (2147483647 : Int32)))), .val (.int (own_mx (1 : Int32) (p1 &&& (2147483647 : Int32)))), .val (.int lo), .val (.int hi), .val (.int v50), .val (.int (((p3.toUInt32 >>> ((1 : Int32) &&& 31).toUInt32).toInt32) &&& (3 : Int32))), .val (.long (p2 &&& (9223372036854775807 : Int64))), .second, .unset, .unset, .unset]) rfl ?_
      show Steps p.tables e below (T46.setTop (mkF m 72 #[.val (.int p0), .val (.int p1), .val (.long p2), .second, .val (.int p3), .val (.int (own_mx (1 : Int32) (p0 &&& (2147483647 : Int32)))), .val (.int (own_mx (1 : Int32) (p1 &&& (2147483647 : Int32)))), .val (.int lo), .val (.int hi), .val (.int v50), .val (.int (((p3.toUInt32 >>> ((1 : Int32) &&& 31).toUInt32).toInt32) &&& (3 : Int32))), .val (.long (p2 &&& (9223372036854775807 : Int64))), .second, .unset, .unset, .unset] [])) _
      refine XS.goto X46.here hx rfl (pc0 := 72) (pc' := 130) rfl (hb hby at_72) (by decide) (by decide) ?_
      exact kont
    have hpe0 : ¬ (p2 &&& (9223372036854775807 : Int64)) < 0 := own_pA _
    obtain ⟨pe, hpe⟩ : ∃ z : Int64, z = (p2 &&& (9223372036854775807 : Int64)) := ⟨_, rfl⟩
    rw [← hpe] at pre52
    rw [← hpe] at hpe0
    obtain ⟨T53, h53, X53, e53, E53, A53, D53, -, st53⟩ := newO X46 hx hZ hown (hw _ (List.mem_of_getElem? (i := 9) rfl)) (hw _ (List.mem_of_getElem? (i := 10) rfl)) (hw _ (List.mem_of_getElem? (i := 11) rfl)) e46 (g := (mkF m 130 #[.val (.int p0), .val (.int p1), .val (.long p2), .second, .val (.int p3), .val (.int (own_mx (1 : Int32) (p0 &&& (2147483647 : Int32)))), .val (.int (own_mx (1 : Int32) (p1 &&& (2147483647 : Int32)))), .val (.int lo), .val (.int hi), .val (.int v50), .val (.int (((p3.toUInt32 >>> ((1 : Int32) &&& 31).toUInt32).toInt32) &&& (3 : Int32))), .val (.long pe), .second, .unset, .unset, .unset] [])) rfl (hb hby at_130) (by decide) (by decide)
    obtain ⟨b130, g53⟩ : ∃ z, z = h0.size := ⟨_, rfl⟩
    rw [← g53] at A53 D53 st53
    have g_b130 : n0 ≤ b130 := Nat.le_trans Z0 (Nat.le_of_eq g53.symm)
    have F53_low : Fld Z h53 b130 "com/example/even_keel/evenkeel/channel/WaterMarks" "low" "I" (.int (0 : Int32)) := D53 (Or.inr (hw _ (List.mem_of_getElem? (i := 24) rfl))) (ty := .int) (by decide)
    have F53_high : Fld Z h53 b130 "com/example/even_keel/evenkeel/channel/WaterMarks" "high" "I" (.int (0 : Int32)) := D53 (Or.inr (hw _ (List.mem_of_getElem? (i := 26) rfl))) (ty := .int) (by decide)
    have Z53 : n0 ≤ h53.size := Nat.le_trans Z0 E53.1
    have pre54 : ∀ t, Steps p.tables e below (T53.setTop (mkF m 133 #[.val (.int p0), .val (.int p1), .val (.long p2), .second, .val (.int p3), .val (.int (own_mx (1 : Int32) (p0 &&& (2147483647 : Int32)))), .val (.int (own_mx (1 : Int32) (p1 &&& (2147483647 : Int32)))), .val (.int lo), .val (.int hi), .val (.int v50), .val (.int (((p3.toUInt32 >>> ((1 : Int32) &&& 31).toUInt32).toInt32) &&& (3 : Int32))), .val (.long pe), .second, .unset, .unset, .unset] [(.ref b130)])) t → Steps p.tables e below (s₁.setTop (entryFrame m #[(.int p0), (.int p1), (.long p2), (.int p3)] maxLocals)) t := fun t kont => pre52 t (st53 _ kont)
    have pre55 : ∀ t, Steps p.tables e below (T53.setTop (mkF m 138 #[.val (.int p0), .val (.int p1), .val (.long p2), .second, .val (.int p3), .val (.int (own_mx (1 : Int32) (p0 &&& (2147483647 : Int32)))), .val (.int (own_mx (1 : Int32) (p1 &&& (2147483647 : Int32)))), .val (.int lo), .val (.int hi), .val (.int v50), .val (.int (((p3.toUInt32 >>> ((1 : Int32) &&& 31).toUInt32).toInt32) &&& (3 : Int32))), .val (.long pe), .second, .unset, .unset, .unset] [(.int hi), (.int lo), (.ref b130), (.ref b130)])) t → Steps p.tables e below (s₁.setTop (entryFrame m #[(.int p0), (.int p1), (.long p2), (.int p3)] maxLocals)) t := by
      intro t kont
      refine pre54 t ?_
      show Steps p.tables e below (T53.setTop (mkF m 133 #[.val (.int p0), .val (.int p1), .val (.long p2), .second, .val (.int p3), .val (.int (own_mx (1 : Int32) (p0 &&& (2147483647 : Int32)))), .val (.int (own_mx (1 : Int32) (p1 &&& (2147483647 : Int32)))), .val (.int lo), .val (.int hi), .val (.int v50), .val (.int (((p3.toUInt32 >>> ((1 : Int32) &&& 31).toUInt32).toInt32) &&& (3 : Int32))), .val (.long pe), .second, .unset, .unset, .unset] [(.ref b130)])) _
      refine XS.dup X53.here hx rfl (hb hby at_133) rfl rfl ?_
      show Steps p.tables e below (T53.setTop (mkF m 134 #[.val (.int p0), .val (.int p1), .val (.long p2), .second, .val (.int p3), .val (.int (own_mx (1 : Int32) (p0 &&& (2147483647 : Int32)))), .val (.int (own_mx (1 : Int32) (p1 &&& (2147483647 : Int32)))), .val (.int lo), .val (.int hi), .val (.int v50), .val (.int (((p3.toUInt32 >>> ((1 : Int32) &&& 31).toUInt32).toInt32) &&& (3 : Int32))), .val (.long pe), .second, .unset, .unset, .unset] [(.ref b130), (.ref b130)])) _
      refine XS.iload X53.here hx rfl (hb hby at_134) rfl ?_
      show Steps p.tables e below (T53.setTop (mkF m 136 #[.val (.int p0), .val (.int p1), .val (.long p2), .second, .val (.int p3), .val (.int (own_mx (1 : Int32) (p0 &&& (2147483647 : Int32)))), .val (.int (own_mx (1 : Int32) (p1 &&& (2147483647 : Int32)))), .val (.int lo), .val (.int hi), .val (.int v50), .val (.int (((p3.toUInt32 >>> ((1 : Int32) &&& 31).toUInt32).toInt32) &&& (3 : Int32))), .val (.long pe), .second, .unset, .unset, .unset] [(.int lo), (.ref b130), (.ref b130)])) _
      refine XS.iload X53.here hx rfl (hb hby at_136) rfl ?_
      exact kont
    obtain ⟨_, _, ⟨T56, L56, k56, n56⟩, -, X56, ⟨Lc56, hQ56, l56, y56, z56⟩, st56⟩ := X53.specialBack hx (y := (⟨"com/example/even_keel/evenkeel/channel/WaterMarks", "<init>", "(II)V"⟩ : MethodName)) rfl hown (mvT hZ (hw _ (List.mem_of_getElem? (i := 12) rfl))) (mvT hZ (hw _ (List.mem_of_getElem? (i := 13) rfl))) (mvT hZ (hw _ (List.mem_of_getElem? (i := 14) rfl))) (by decide) (backOf (W := 1) (rm3 l Z a0 hw [] b130 lo hi  h53 n0 Z53 A53 F53_low F53_high g_b130 (own_i1 hlh) (own_i2 hlh)) hZ (hw _ (List.mem_of_getElem? (i := 14) rfl)) (hw _ (List.mem_of_getElem? (i := 11) rfl)) (by decide) (by decide)) (g := (mkF m 138 #[.val (.int p0), .val (.int p1), .val (.long p2), .second, .val (.int p3), .val (.int (own_mx (1 : Int32) (p0 &&& (2147483647 : Int32)))), .val (.int (own_mx (1 : Int32) (p1 &&& (2147483647 : Int32)))), .val (.int lo), .val (.int hi), .val (.int v50), .val (.int (((p3.toUInt32 >>> ((1 : Int32) &&& 31).toUInt32).toInt32) &&& (3 : Int32))), .val (.long pe), .second, .unset, .unset, .unset] [(.int hi), (.int lo), (.ref b130), (.ref b130)])) rfl (by rw [hml]; rfl) (Steps.refl _) (a := b130) (argsL := [(.int lo), (.int hi)]) (rest := [(.ref b130)]) (lenOf pd_2 rfl) rfl (by show 2 * 0 + _ ≤ _; exact Nat.le_of_eq rfl) (hb hby at_138) (fun _ _ => ⟨rfl, e53, (by decide : 1 + 0 ≤ _), (by decide : 2 + 0 ≤ _)⟩)
    dsimp only [Pt.U, Pt.locs, Pt.cells, Pt.slots] at X56 l56 y56 z56 st56 hQ56
    subst l56 y56 z56
    obtain ⟨rfl, N56q, K56, qe56, ql56, qh56⟩ := hQ56
    have N56 := Fr.app N46 N56q
    have f56_0 := Exa.keep A53 K56
    have Z56 : n0 ≤ T56.heap.size := Nat.le_trans Z53 (K56).1
    have pre57 : ∀ t, Steps p.tables e below (T56.setTop (mkF m 141 #[.val (.int p0), .val (.int p1), .val (.long p2), .second, .val (.int p3), .val (.int (own_mx (1 : Int32) (p0 &&& (2147483647 : Int32)))), .val (.int (own_mx (1 : Int32) (p1 &&& (2147483647 : Int32)))), .val (.int lo), .val (.int hi), .val (.int v50), .val (.int (((p3.toUInt32 >>> ((1 : Int32) &&& 31).toUInt32).toInt32) &&& (3 : Int32))), .val (.long pe), .second, .unset, .unset, .unset] [(.ref b130)])) t → Steps p.tables e below (s₁.setTop (entryFrame m #[(.int p0), (.int p1), (.long p2), (.int p3)] maxLocals)) t := fun t kont => pre55 t (st56.trans kont)
    have pre58 : ∀ t, Steps p.tables e below (T56.setTop (mkF m 149 #[.val (.int p0), .val (.int p1), .val (.long p2), .second, .val (.int p3), .val (.int (own_mx (1 : Int32) (p0 &&& (2147483647 : Int32)))), .val (.int (own_mx (1 : Int32) (p1 &&& (2147483647 : Int32)))), .val (.int lo), .val (.int hi), .val (.int v50), .val (.int (((p3.toUInt32 >>> ((1 : Int32) &&& 31).toUInt32).toInt32) &&& (3 : Int32))), .val (.long pe), .second, .val (.ref b130), .unset, .unset] [(.long pe), (.int v50), (.ref b130)])) t → Steps p.tables e below (s₁.setTop (entryFrame m #[(.int p0), (.int p1), (.long p2), (.int p3)] maxLocals)) t := by
      intro t kont
      refine pre57 t ?_
      show Steps p.tables e below (T56.setTop (mkF m 141 #[.val (.int p0), .val (.int p1), .val (.long p2), .second, .val (.int p3), .val (.int (own_mx (1 : Int32) (p0 &&& (2147483647 : Int32)))), .val (.int (own_mx (1 : Int32) (p1 &&& (2147483647 : Int32)))), .val (.int lo), .val (.int hi), .val (.int v50), .val (.int (((p3.toUInt32 >>> ((1 : Int32) &&& 31).toUInt32).toInt32) &&& (3 : Int32))), .val (.long pe), .second, .unset, .unset, .unset] [(.ref b130)])) _
      refine XS.astore X56.here hx rfl (hb hby at_141) rfl rfl (l' := #[.val (.int p0), .val (.int p1), .val (.long p2), .second, .val (.int p3), .val (.int (own_mx (1 : Int32) (p0 &&& (2147483647 : Int32)))), .val (.int (own_mx (1 : Int32) (p1 &&& (2147483647 : Int32)))), .val (.int lo), .val (.int hi), .val (.int v50), .val (.int (((p3.toUInt32 >>> ((1 : Int32) &&& 31).toUInt32).toInt32) &&& (3 : Int32))), .val (.long pe), .second, .val (.ref b130), .unset, .unset]) rfl ?_
      show Steps p.tables e below (T56.setTop (mkF m 143 #[.val (.int p0), .val (.int p1), .val (.long p2), .second, .val (.int p3), .val (.int (own_mx (1 : Int32) (p0 &&& (2147483647 : Int32)))), .val (.int (own_mx (1 : Int32) (p1 &&& (2147483647 : Int32)))), .val (.int lo), .val (.int hi), .val (.int v50), .val (.int (((p3.toUInt32 >>> ((1 : Int32) &&& 31).toUInt32).toInt32) &&& (3 : Int32))), .val (.long pe), .second, .val (.ref b130), .unset, .unset] [])) _
      refine XS.aload X56.here hx rfl (hb hby at_143) rfl rfl ?_
      show Steps p.tables e below (T56.setTop (mkF m 145 #[.val (.int p0), .val (.int p1), .val (.long p2), .second, .val (.int p3), .val (.int (own_mx (1 : Int32) (p0 &&& (2147483647 : Int32)))), .val (.int (own_mx (1 : Int32) (p1 &&& (2147483647 : Int32)))), .val (.int lo), .val (.int hi), .val (.int v50), .val (.int (((p3.toUInt32 >>> ((1 : Int32) &&& 31).toUInt32).toInt32) &&& (3 : Int32))), .val (.long pe), .second, .val (.ref b130), .unset, .unset] [(.ref b130)])) _
      refine XS.iload X56.here hx rfl (hb hby at_145) rfl ?_
      show Steps p.tables e below (T56.setTop (mkF m 147 #[.val (.int p0), .val (.int p1), .val (.long p2), .second, .val (.int p3), .val (.int (own_mx (1 : Int32) (p0 &&& (2147483647 : Int32)))), .val (.int (own_mx (1 : Int32) (p1 &&& (2147483647 : Int32)))), .val (.int lo), .val (.int hi), .val (.int v50), .val (.int (((p3.toUInt32 >>> ((1 : Int32) &&& 31).toUInt32).toInt32) &&& (3 : Int32))), .val (.long pe), .second, .val (.ref b130), .unset, .unset] [(.int v50), (.ref b130)])) _
      refine XS.lload X56.here hx rfl (hb hby at_147) rfl ?_
      exact kont
    obtain ⟨cq59, kq59, q59a, q59b, q59c⟩ := isOf hZ rfl f56_0
    obtain ⟨_, _, ⟨T59, L59, k59, n59⟩, -, X59, ⟨Lc59, hQ59, l59, y59, z59⟩, st59⟩ := X56.virtualBack hx (y := (⟨"com/example/even_keel/evenkeel/channel/WaterMarks", "writableAfter", "(ZJ)Z"⟩ : MethodName)) (z := (⟨"com/example/even_keel/evenkeel/channel/WaterMarks", "writableAfter", "(ZJ)Z"⟩ : MethodName)) hown (mvT hZ (hw _ (List.mem_of_getElem? (i := 27) rfl))) (mvT hZ (hw _ (List.mem_of_getElem? (i := 28) rfl))) (notFace_of_selects (args := #[]) (mvT hZ (hw _ (List.mem_of_getElem? (i := 30) rfl)))) (mvT hZ (hw _ (List.mem_of_getElem? (i := 30) rfl))) (mvT hZ (hw _ (List.mem_of_getElem? (i := 29) rfl))) (by decide) (backOf (W := 0) (rm6 l Z a0 hw [] b130 v50 pe lo hi  T56.heap n0 Z56 ql56 qh56 hpe0) hZ (hw _ (List.mem_of_getElem? (i := 31) rfl)) (hw _ (List.mem_of_getElem? (i := 11) rfl)) (by decide) (by decide)) q59a q59c (g := (mkF m 149 #[.val (.int p0), .val (.int p1), .val (.long p2), .second, .val (.int p3), .val (.int (own_mx (1 : Int32) (p0 &&& (2147483647 : Int32)))), .val (.int (own_mx (1 : Int32) (p1 &&& (2147483647 : Int32)))), .val (.int lo), .val (.int hi), .val (.int v50), .val (.int (((p3.toUInt32 >>> ((1 : Int32) &&& 31).toUInt32).toInt32) &&& (3 : Int32))), .val (.long pe), .second, .val (.ref b130), .unset, .unset] [(.long pe), (.int v50), (.ref b130)])) rfl (by rw [hml]; rfl) (Steps.refl _) (argsL := [(.int v50), (.long pe)]) (rest := []) (lenOf pd_3 rfl) rfl (by show 2 * 0 + _ ≤ _; exact Nat.le_of_eq rfl) (hb hby at_149) (fun _ _ => ⟨rfl, rfl, (by decide : 1 + 0 ≤ _), (by decide : 2 + 0 ≤ _)⟩)
    dsimp only [Pt.U, Pt.locs, Pt.cells, Pt.slots] at X59 l59 y59 z59 st59 hQ59
    subst l59 y59 z59
    obtain ⟨rfl, N59q, e59⟩ := hQ59
    have N59 := Fr.app N56 N59q
    have pre60 : ∀ t, Steps p.tables e below (T59.setTop (mkF m 152 #[.val (.int p0), .val (.int p1), .val (.long p2), .second, .val (.int p3), .val (.int (own_mx (1 : Int32) (p0 &&& (2147483647 : Int32)))), .val (.int (own_mx (1 : Int32) (p1 &&& (2147483647 : Int32)))), .val (.int lo), .val (.int hi), .val (.int v50), .val (.int (((p3.toUInt32 >>> ((1 : Int32) &&& 31).toUInt32).toInt32) &&& (3 : Int32))), .val (.long pe), .second, .val (.ref b130), .unset, .unset] [(.int (own_wr v50 pe lo hi))])) t → Steps p.tables e below (s₁.setTop (entryFrame m #[(.int p0), (.int p1), (.long p2), (.int p3)] maxLocals)) t := fun t kont => pre58 t (st59.trans kont)
    have pre61 : ∀ t, Steps p.tables e below (T59.setTop (mkF m 160 #[.val (.int p0), .val (.int p1), .val (.long p2), .second, .val (.int p3), .val (.int (own_mx (1 : Int32) (p0 &&& (2147483647 : Int32)))), .val (.int (own_mx (1 : Int32) (p1 &&& (2147483647 : Int32)))), .val (.int lo), .val (.int hi), .val (.int v50), .val (.int (((p3.toUInt32 >>> ((1 : Int32) &&& 31).toUInt32).toInt32) &&& (3 : Int32))), .val (.long pe), .second, .val (.ref b130), .val (.int (own_wr v50 pe lo hi)), .unset] [(.int (lcmpW pe (lo.toInt64)))])) t → Steps p.tables e below (s₁.setTop (entryFrame m #[(.int p0), (.int p1), (.long p2), (.int p3)] maxLocals)) t := by
      intro t kont
      refine pre60 t ?_
      show Steps p.tables e below (T59.setTop (mkF m 152 #[.val (.int p0), .val (.int p1), .val (.long p2), .second, .val (.int p3), .val (.int (own_mx (1 : Int32) (p0 &&& (2147483647 : Int32)))), .val (.int (own_mx (1 : Int32) (p1 &&& (2147483647 : Int32)))), .val (.int lo), .val (.int hi), .val (.int v50), .val (.int (((p3.toUInt32 >>> ((1 : Int32) &&& 31).toUInt32).toInt32) &&& (3 : Int32))), .val (.long pe), .second, .val (.ref b130), .unset, .unset] [(.int (own_wr v50 pe lo hi))])) _
      refine XS.istore X59.here hx rfl (hb hby at_152) rfl (l' := #[.val (.int p0), .val (.int p1), .val (.long p2), .second, .val (.int p3), .val (.int (own_mx (1 : Int32) (p0 &&& (2147483647 : Int32)))), .val (.int (own_mx (1 : Int32) (p1 &&& (2147483647 : Int32)))), .val (.int lo), .val (.int hi), .val (.int v50), .val (.int (((p3.toUInt32 >>> ((1 : Int32) &&& 31).toUInt32).toInt32) &&& (3 : Int32))), .val (.long pe), .second, .val (.ref b130), .val (.int (own_wr v50 pe lo hi)), .unset]) rfl ?_
      show Steps p.tables e below (T59.setTop (mkF m 154 #[.val (.int p0), .val (.int p1), .val (.long p2), .second, .val (.int p3), .val (.int (own_mx (1 : Int32) (p0 &&& (2147483647 : Int32)))), .val (.int (own_mx (1 : Int32) (p1 &&& (2147483647 : Int32)))), .val (.int lo), .val (.int hi), .val (.int v50), .val (.int (((p3.toUInt32 >>> ((1 : Int32) &&& 31).toUInt32).toInt32) &&& (3 : Int32))), .val (.long pe), .second, .val (.ref b130), .val (.int (own_wr v50 pe lo hi)), .unset] [])) _
      refine XS.lload X59.here hx rfl (hb hby at_154) rfl ?_
      show Steps p.tables e below (T59.setTop (mkF m 156 #[.val (.int p0), .val (.int p1), .val (.long p2), .second, .val (.int p3), .val (.int (own_mx (1 : Int32) (p0 &&& (2147483647 : Int32)))), .val (.int (own_mx (1 : Int32) (p1 &&& (2147483647 : Int32)))), .val (.int lo), .val (.int hi), .val (.int v50), .val (.int (((p3.toUInt32 >>> ((1 : Int32) &&& 31).toUInt32).toInt32) &&& (3 : Int32))), .val (.long pe), .second, .val (.ref b130), .val (.int (own_wr v50 pe lo hi)), .unset] [(.long pe)])) _
      refine XS.iload X59.here hx rfl (hb hby at_156) rfl ?_
      show Steps p.tables e below (T59.setTop (mkF m 158 #[.val (.int p0), .val (.int p1), .val (.long p2), .second, .val (.int p3), .val (.int (own_mx (1 : Int32) (p0 &&& (2147483647 : Int32)))), .val (.int (own_mx (1 : Int32) (p1 &&& (2147483647 : Int32)))), .val (.int lo), .val (.int hi), .val (.int v50), .val (.int (((p3.toUInt32 >>> ((1 : Int32) &&& 31).toUInt32).toInt32) &&& (3 : Int32))), .val (.long pe), .second, .val (.ref b130), .val (.int (own_wr v50 pe lo hi)), .unset] [(.int lo), (.long pe)])) _
      refine XS.i2l X59.here hx rfl (hb hby at_158) rfl ?_
      show Steps p.tables e below (T59.setTop (mkF m 159 #[.val (.int p0), .val (.int p1), .val (.long p2), .second, .val (.int p3), .val (.int (own_mx (1 : Int32) (p0 &&& (2147483647 : Int32)))), .val (.int (own_mx (1 : Int32) (p1 &&& (2147483647 : Int32)))), .val (.int lo), .val (.int hi), .val (.int v50), .val (.int (((p3.toUInt32 >>> ((1 : Int32) &&& 31).toUInt32).toInt32) &&& (3 : Int32))), .val (.long pe), .second, .val (.ref b130), .val (.int (own_wr v50 pe lo hi)), .unset] [(.long (lo.toInt64)), (.long pe)])) _
      refine XS.lcmp X59.here hx rfl (hb hby at_159) rfl ?_
      exact kont
    obtain ⟨v182, hv182⟩ : ∃ z : Int32, z = (if pe < (lo.toInt64) then (1 : Int32) else (if v50 = (0 : Int32) then (0 : Int32) else (if (hi.toInt64) < pe then (0 : Int32) else (1 : Int32)))) := ⟨_, rfl⟩
    have pre62 : ∀ t, Steps p.tables e below (T59.setTop (mkF m 182 #[.val (.int p0), .val (.int p1), .val (.long p2), .second, .val (.int p3), .val (.int (own_mx (1 : Int32) (p0 &&& (2147483647 : Int32)))), .val (.int (own_mx (1 : Int32) (p1 &&& (2147483647 : Int32)))), .val (.int lo), .val (.int hi), .val (.int v50), .val (.int (((p3.toUInt32 >>> ((1 : Int32) &&& 31).toUInt32).toInt32) &&& (3 : Int32))), .val (.long pe), .second, .val (.ref b130), .val (.int (own_wr v50 pe lo hi)), .unset] [(.int v182)])) t → Steps p.tables e below (s₁.setTop (entryFrame m #[(.int p0), (.int p1), (.long p2), (.int p3)] maxLocals)) t := by
      intro t kont
      refine pre61 t ?_
      by_cases j_160 : pe < (lo.toInt64)
      · rw [hv182, if_pos j_160] at kont
        show Steps p.tables e below (T59.setTop (mkF m 160 #[.val (.int p0), .val (.int p1), .val (.long p2), .second, .val (.int p3), .val (.int (own_mx (1 : Int32) (p0 &&& (2147483647 : Int32)))), .val (.int (own_mx (1 : Int32) (p1 &&& (2147483647 : Int32)))), .val (.int lo), .val (.int hi), .val (.int v50), .val (.int (((p3.toUInt32 >>> ((1 : Int32) &&& 31).toUInt32).toInt32) &&& (3 : Int32))), .val (.long pe), .second, .val (.ref b130), .val (.int (own_wr v50 pe lo hi)), .unset] [(.int (lcmpW pe (lo.toInt64)))])) _
        refine XS.ifYes X59.here hx rfl (pc0 := 160) (pc' := 177) rfl (hb hby at_160) rfl ((if0 _ _).trans (tlt ((lw_lt _ _).mpr j_160)).1) (by decide) (by decide) ?_
        show Steps p.tables e below (T59.setTop (mkF m 177 #[.val (.int p0), .val (.int p1), .val (.long p2), .second, .val (.int p3), .val (.int (own_mx (1 : Int32) (p0 &&& (2147483647 : Int32)))), .val (.int (own_mx (1 : Int32) (p1 &&& (2147483647 : Int32)))), .val (.int lo), .val (.int hi), .val (.int v50), .val (.int (((p3.toUInt32 >>> ((1 : Int32) &&& 31).toUInt32).toInt32) &&& (3 : Int32))), .val (.long pe), .second, .val (.ref b130), .val (.int (own_wr v50 pe lo hi)), .unset] [])) _
        refine XS.iconst X59.here hx rfl (hb hby at_177) ?_
        show Steps p.tables e below (T59.setTop (mkF m 178 #[.val (.int p0), .val (.int p1), .val (.long p2), .second, .val (.int p3), .val (.int (own_mx (1 : Int32) (p0 &&& (2147483647 : Int32)))), .val (.int (own_mx (1 : Int32) (p1 &&& (2147483647 : Int32)))), .val (.int lo), .val (.int hi), .val (.int v50), .val (.int (((p3.toUInt32 >>> ((1 : Int32) &&& 31).toUInt32).toInt32) &&& (3 : Int32))), .val (.long pe), .second, .val (.ref b130), .val (.int (own_wr v50 pe lo hi)), .unset] [(.int (1 : Int32))])) _
        refine XS.goto X59.here hx rfl (pc0 := 178) (pc' := 182) rfl (hb hby at_178) (by decide) (by decide) ?_
        exact kont
      · by_cases j_165 : v50 = (0 : Int32)
        · rw [hv182, if_neg j_160, if_pos j_165] at kont
          show Steps p.tables e below (T59.setTop (mkF m 160 #[.val (.int p0), .val (.int p1), .val (.long p2), .second, .val (.int p3), .val (.int (own_mx (1 : Int32) (p0 &&& (2147483647 : Int32)))), .val (.int (own_mx (1 : Int32) (p1 &&& (2147483647 : Int32)))), .val (.int lo), .val (.int hi), .val (.int v50), .val (.int (((p3.toUInt32 >>> ((1 : Int32) &&& 31).toUInt32).toInt32) &&& (3 : Int32))), .val (.long pe), .second, .val (.ref b130), .val (.int (own_wr v50 pe lo hi)), .unset] [(.int (lcmpW pe (lo.toInt64)))])) _
          refine XS.ifNo X59.here hx rfl (hb hby at_160) rfl ((if0 _ _).trans (flt (fun q => j_160 ((lw_lt _ _).mp q))).1) ?_
          show Steps p.tables e below (T59.setTop (mkF m 163 #[.val (.int p0), .val (.int p1), .val (.long p2), .second, .val (.int p3), .val (.int (own_mx (1 : Int32) (p0 &&& (2147483647 : Int32)))), .val (.int (own_mx (1 : Int32) (p1 &&& (2147483647 : Int32)))), .val (.int lo), .val (.int hi), .val (.int v50), .val (.int (((p3.toUInt32 >>> ((1 : Int32) &&& 31).toUInt32).toInt32) &&& (3 : Int32))), .val (.long pe), .second, .val (.ref b130), .val (.int (own_wr v50 pe lo hi)), .unset] [])) _
          refine XS.iload X59.here hx rfl (hb hby at_163) rfl ?_
          show Steps p.tables e below (T59.setTop (mkF m 165 #[.val (.int p0), .val (.int p1), .val (.long p2), .second, .val (.int p3), .val (.int (own_mx (1 : Int32) (p0 &&& (2147483647 : Int32)))), .val (.int (own_mx (1 : Int32) (p1 &&& (2147483647 : Int32)))), .val (.int lo), .val (.int hi), .val (.int v50), .val (.int (((p3.toUInt32 >>> ((1 : Int32) &&& 31).toUInt32).toInt32) &&& (3 : Int32))), .val (.long pe), .second, .val (.ref b130), .val (.int (own_wr v50 pe lo hi)), .unset] [(.int v50)])) _
          refine XS.ifYes X59.here hx rfl (pc0 := 165) (pc' := 181) rfl (hb hby at_165) rfl ((if0 _ _).trans (teq j_165).1) (by decide) (by decide) ?_
          show Steps p.tables e below (T59.setTop (mkF m 181 #[.val (.int p0), .val (.int p1), .val (.long p2), .second, .val (.int p3), .val (.int (own_mx (1 : Int32) (p0 &&& (2147483647 : Int32)))), .val (.int (own_mx (1 : Int32) (p1 &&& (2147483647 : Int32)))), .val (.int lo), .val (.int hi), .val (.int v50), .val (.int (((p3.toUInt32 >>> ((1 : Int32) &&& 31).toUInt32).toInt32) &&& (3 : Int32))), .val (.long pe), .second, .val (.ref b130), .val (.int (own_wr v50 pe lo hi)), .unset] [])) _
          refine XS.iconst X59.here hx rfl (hb hby at_181) ?_
          exact kont
        · by_cases j_174 : (hi.toInt64) < pe
          · rw [hv182, if_neg j_160, if_neg j_165, if_pos j_174] at kont
            show Steps p.tables e below (T59.setTop (mkF m 160 #[.val (.int p0), .val (.int p1), .val (.long p2), .second, .val (.int p3), .val (.int (own_mx (1 : Int32) (p0 &&& (2147483647 : Int32)))), .val (.int (own_mx (1 : Int32) (p1 &&& (2147483647 : Int32)))), .val (.int lo), .val (.int hi), .val (.int v50), .val (.int (((p3.toUInt32 >>> ((1 : Int32) &&& 31).toUInt32).toInt32) &&& (3 : Int32))), .val (.long pe), .second, .val (.ref b130), .val (.int (own_wr v50 pe lo hi)), .unset] [(.int (lcmpW pe (lo.toInt64)))])) _
            refine XS.ifNo X59.here hx rfl (hb hby at_160) rfl ((if0 _ _).trans (flt (fun q => j_160 ((lw_lt _ _).mp q))).1) ?_
            show Steps p.tables e below (T59.setTop (mkF m 163 #[.val (.int p0), .val (.int p1), .val (.long p2), .second, .val (.int p3), .val (.int (own_mx (1 : Int32) (p0 &&& (2147483647 : Int32)))), .val (.int (own_mx (1 : Int32) (p1 &&& (2147483647 : Int32)))), .val (.int lo), .val (.int hi), .val (.int v50), .val (.int (((p3.toUInt32 >>> ((1 : Int32) &&& 31).toUInt32).toInt32) &&& (3 : Int32))), .val (.long pe), .second, .val (.ref b130), .val (.int (own_wr v50 pe lo hi)), .unset] [])) _
            refine XS.iload X59.here hx rfl (hb hby at_163) rfl ?_
            show Steps p.tables e below (T59.setTop (mkF m 165 #[.val (.int p0), .val (.int p1), .val (.long p2), .second, .val (.int p3), .val (.int (own_mx (1 : Int32) (p0 &&& (2147483647 : Int32)))), .val (.int (own_mx (1 : Int32) (p1 &&& (2147483647 : Int32)))), .val (.int lo), .val (.int hi), .val (.int v50), .val (.int (((p3.toUInt32 >>> ((1 : Int32) &&& 31).toUInt32).toInt32) &&& (3 : Int32))), .val (.long pe), .second, .val (.ref b130), .val (.int (own_wr v50 pe lo hi)), .unset] [(.int v50)])) _
            refine XS.ifNo X59.here hx rfl (hb hby at_165) rfl ((if0 _ _).trans (feq j_165).1) ?_
            show Steps p.tables e below (T59.setTop (mkF m 168 #[.val (.int p0), .val (.int p1), .val (.long p2), .second, .val (.int p3), .val (.int (own_mx (1 : Int32) (p0 &&& (2147483647 : Int32)))), .val (.int (own_mx (1 : Int32) (p1 &&& (2147483647 : Int32)))), .val (.int lo), .val (.int hi), .val (.int v50), .val (.int (((p3.toUInt32 >>> ((1 : Int32) &&& 31).toUInt32).toInt32) &&& (3 : Int32))), .val (.long pe), .second, .val (.ref b130), .val (.int (own_wr v50 pe lo hi)), .unset] [])) _
            refine XS.lload X59.here hx rfl (hb hby at_168) rfl ?_
            show Steps p.tables e below (T59.setTop (mkF m 170 #[.val (.int p0), .val (.int p1), .val (.long p2), .second, .val (.int p3), .val (.int (own_mx (1 : Int32) (p0 &&& (2147483647 : Int32)))), .val (.int (own_mx (1 : Int32) (p1 &&& (2147483647 : Int32)))), .val (.int lo), .val (.int hi), .val (.int v50), .val (.int (((p3.toUInt32 >>> ((1 : Int32) &&& 31).toUInt32).toInt32) &&& (3 : Int32))), .val (.long pe), .second, .val (.ref b130), .val (.int (own_wr v50 pe lo hi)), .unset] [(.long pe)])) _
            refine XS.iload X59.here hx rfl (hb hby at_170) rfl ?_
            show Steps p.tables e below (T59.setTop (mkF m 172 #[.val (.int p0), .val (.int p1), .val (.long p2), .second, .val (.int p3), .val (.int (own_mx (1 : Int32) (p0 &&& (2147483647 : Int32)))), .val (.int (own_mx (1 : Int32) (p1 &&& (2147483647 : Int32)))), .val (.int lo), .val (.int hi), .val (.int v50), .val (.int (((p3.toUInt32 >>> ((1 : Int32) &&& 31).toUInt32).toInt32) &&& (3 : Int32))), .val (.long pe), .second, .val (.ref b130), .val (.int (own_wr v50 pe lo hi)), .unset] [(.int hi), (.long pe)])) _
            refine XS.i2l X59.here hx rfl (hb hby at_172) rfl ?_
            show Steps p.tables e below (T59.setTop (mkF m 173 #[.val (.int p0), .val (.int p1), .val (.long p2), .second, .val (.int p3), .val (.int (own_mx (1 : Int32) (p0 &&& (2147483647 : Int32)))), .val (.int (own_mx (1 : Int32) (p1 &&& (2147483647 : Int32)))), .val (.int lo), .val (.int hi), .val (.int v50), .val (.int (((p3.toUInt32 >>> ((1 : Int32) &&& 31).toUInt32).toInt32) &&& (3 : Int32))), .val (.long pe), .second, .val (.ref b130), .val (.int (own_wr v50 pe lo hi)), .unset] [(.long (hi.toInt64)), (.long pe)])) _
            refine XS.lcmp X59.here hx rfl (hb hby at_173) rfl ?_
            show Steps p.tables e below (T59.setTop (mkF m 174 #[.val (.int p0), .val (.int p1), .val (.long p2), .second, .val (.int p3), .val (.int (own_mx (1 : Int32) (p0 &&& (2147483647 : Int32)))), .val (.int (own_mx (1 : Int32) (p1 &&& (2147483647 : Int32)))), .val (.int lo), .val (.int hi), .val (.int v50), .val (.int (((p3.toUInt32 >>> ((1 : Int32) &&& 31).toUInt32).toInt32) &&& (3 : Int32))), .val (.long pe), .second, .val (.ref b130), .val (.int (own_wr v50 pe lo hi)), .unset] [(.int (lcmpW pe (hi.toInt64)))])) _
            refine XS.ifYes X59.here hx rfl (pc0 := 174) (pc' := 181) rfl (hb hby at_174) rfl ((if0 _ _).trans (tlt ((lw_gt _ _).mpr j_174)).2.2.1) (by decide) (by decide) ?_
            show Steps p.tables e below (T59.setTop (mkF m 181 #[.val (.int p0), .val (.int p1), .val (.long p2), .second, .val (.int p3), .val (.int (own_mx (1 : Int32) (p0 &&& (2147483647 : Int32)))), .val (.int (own_mx (1 : Int32) (p1 &&& (2147483647 : Int32)))), .val (.int lo), .val (.int hi), .val (.int v50), .val (.int (((p3.toUInt32 >>> ((1 : Int32) &&& 31).toUInt32).toInt32) &&& (3 : Int32))), .val (.long pe), .second, .val (.ref b130), .val (.int (own_wr v50 pe lo hi)), .unset] [])) _
            refine XS.iconst X59.here hx rfl (hb hby at_181) ?_
            exact kont
          · rw [hv182, if_neg j_160, if_neg j_165, if_neg j_174] at kont
            show Steps p.tables e below (T59.setTop (mkF m 160 #[.val (.int p0), .val (.int p1), .val (.long p2), .second, .val (.int p3), .val (.int (own_mx (1 : Int32) (p0 &&& (2147483647 : Int32)))), .val (.int (own_mx (1 : Int32) (p1 &&& (2147483647 : Int32)))), .val (.int lo), .val (.int hi), .val (.int v50), .val (.int (((p3.toUInt32 >>> ((1 : Int32) &&& 31).toUInt32).toInt32) &&& (3 : Int32))), .val (.long pe), .second, .val (.ref b130), .val (.int (own_wr v50 pe lo hi)), .unset] [(.int (lcmpW pe (lo.toInt64)))])) _
            refine XS.ifNo X59.here hx rfl (hb hby at_160) rfl ((if0 _ _).trans (flt (fun q => j_160 ((lw_lt _ _).mp q))).1) ?_
            show Steps p.tables e below (T59.setTop (mkF m 163 #[.val (.int p0), .val (.int p1), .val (.long p2), .second, .val (.int p3), .val (.int (own_mx (1 : Int32) (p0 &&& (2147483647 : Int32)))), .val (.int (own_mx (1 : Int32) (p1 &&& (2147483647 : Int32)))), .val (.int lo), .val (.int hi), .val (.int v50), .val (.int (((p3.toUInt32 >>> ((1 : Int32) &&& 31).toUInt32).toInt32) &&& (3 : Int32))), .val (.long pe), .second, .val (.ref b130), .val (.int (own_wr v50 pe lo hi)), .unset] [])) _
            refine XS.iload X59.here hx rfl (hb hby at_163) rfl ?_
            show Steps p.tables e below (T59.setTop (mkF m 165 #[.val (.int p0), .val (.int p1), .val (.long p2), .second, .val (.int p3), .val (.int (own_mx (1 : Int32) (p0 &&& (2147483647 : Int32)))), .val (.int (own_mx (1 : Int32) (p1 &&& (2147483647 : Int32)))), .val (.int lo), .val (.int hi), .val (.int v50), .val (.int (((p3.toUInt32 >>> ((1 : Int32) &&& 31).toUInt32).toInt32) &&& (3 : Int32))), .val (.long pe), .second, .val (.ref b130), .val (.int (own_wr v50 pe lo hi)), .unset] [(.int v50)])) _
            refine XS.ifNo X59.here hx rfl (hb hby at_165) rfl ((if0 _ _).trans (feq j_165).1) ?_
            show Steps p.tables e below (T59.setTop (mkF m 168 #[.val (.int p0), .val (.int p1), .val (.long p2), .second, .val (.int p3), .val (.int (own_mx (1 : Int32) (p0 &&& (2147483647 : Int32)))), .val (.int (own_mx (1 : Int32) (p1 &&& (2147483647 : Int32)))), .val (.int lo), .val (.int hi), .val (.int v50), .val (.int (((p3.toUInt32 >>> ((1 : Int32) &&& 31).toUInt32).toInt32) &&& (3 : Int32))), .val (.long pe), .second, .val (.ref b130), .val (.int (own_wr v50 pe lo hi)), .unset] [])) _
            refine XS.lload X59.here hx rfl (hb hby at_168) rfl ?_
            show Steps p.tables e below (T59.setTop (mkF m 170 #[.val (.int p0), .val (.int p1), .val (.long p2), .second, .val (.int p3), .val (.int (own_mx (1 : Int32) (p0 &&& (2147483647 : Int32)))), .val (.int (own_mx (1 : Int32) (p1 &&& (2147483647 : Int32)))), .val (.int lo), .val (.int hi), .val (.int v50), .val (.int (((p3.toUInt32 >>> ((1 : Int32) &&& 31).toUInt32).toInt32) &&& (3 : Int32))), .val (.long pe), .second, .val (.ref b130), .val (.int (own_wr v50 pe lo hi)), .unset] [(.long pe)])) _
            refine XS.iload X59.here hx rfl (hb hby at_170) rfl ?_
            show Steps p.tables e below (T59.setTop (mkF m 172 #[.val (.int p0), .val (.int p1), .val (.long p2), .second, .val (.int p3), .val (.int (own_mx (1 : Int32) (p0 &&& (2147483647 : Int32)))), .val (.int (own_mx (1 : Int32) (p1 &&& (2147483647 : Int32)))), .val (.int lo), .val (.int hi), .val (.int v50), .val (.int (((p3.toUInt32 >>> ((1 : Int32) &&& 31).toUInt32).toInt32) &&& (3 : Int32))), .val (.long pe), .second, .val (.ref b130), .val (.int (own_wr v50 pe lo hi)), .unset] [(.int hi), (.long pe)])) _
            refine XS.i2l X59.here hx rfl (hb hby at_172) rfl ?_
            show Steps p.tables e below (T59.setTop (mkF m 173 #[.val (.int p0), .val (.int p1), .val (.long p2), .second, .val (.int p3), .val (.int (own_mx (1 : Int32) (p0 &&& (2147483647 : Int32)))), .val (.int (own_mx (1 : Int32) (p1 &&& (2147483647 : Int32)))), .val (.int lo), .val (.int hi), .val (.int v50), .val (.int (((p3.toUInt32 >>> ((1 : Int32) &&& 31).toUInt32).toInt32) &&& (3 : Int32))), .val (.long pe), .second, .val (.ref b130), .val (.int (own_wr v50 pe lo hi)), .unset] [(.long (hi.toInt64)), (.long pe)])) _
            refine XS.lcmp X59.here hx rfl (hb hby at_173) rfl ?_
            show Steps p.tables e below (T59.setTop (mkF m 174 #[.val (.int p0), .val (.int p1), .val (.long p2), .second, .val (.int p3), .val (.int (own_mx (1 : Int32) (p0 &&& (2147483647 : Int32)))), .val (.int (own_mx (1 : Int32) (p1 &&& (2147483647 : Int32)))), .val (.int lo), .val (.int hi), .val (.int v50), .val (.int (((p3.toUInt32 >>> ((1 : Int32) &&& 31).toUInt32).toInt32) &&& (3 : Int32))), .val (.long pe), .second, .val (.ref b130), .val (.int (own_wr v50 pe lo hi)), .unset] [(.int (lcmpW pe (hi.toInt64)))])) _
            refine XS.ifNo X59.here hx rfl (hb hby at_174) rfl ((if0 _ _).trans (flt (fun q => j_174 ((lw_gt _ _).mp q))).2.2.1) ?_
            show Steps p.tables e below (T59.setTop (mkF m 177 #[.val (.int p0), .val (.int p1), .val (.long p2), .second, .val (.int p3), .val (.int (own_mx (1 : Int32) (p0 &&& (2147483647 : Int32)))), .val (.int (own_mx (1 : Int32) (p1 &&& (2147483647 : Int32)))), .val (.int lo), .val (.int hi), .val (.int v50), .val (.int (((p3.toUInt32 >>> ((1 : Int32) &&& 31).toUInt32).toInt32) &&& (3 : Int32))), .val (.long pe), .second, .val (.ref b130), .val (.int (own_wr v50 pe lo hi)), .unset] [])) _
            refine XS.iconst X59.here hx rfl (hb hby at_177) ?_
            show Steps p.tables e below (T59.setTop (mkF m 178 #[.val (.int p0), .val (.int p1), .val (.long p2), .second, .val (.int p3), .val (.int (own_mx (1 : Int32) (p0 &&& (2147483647 : Int32)))), .val (.int (own_mx (1 : Int32) (p1 &&& (2147483647 : Int32)))), .val (.int lo), .val (.int hi), .val (.int v50), .val (.int (((p3.toUInt32 >>> ((1 : Int32) &&& 31).toUInt32).toInt32) &&& (3 : Int32))), .val (.long pe), .second, .val (.ref b130), .val (.int (own_wr v50 pe lo hi)), .unset] [(.int (1 : Int32))])) _
            refine XS.goto X59.here hx rfl (pc0 := 178) (pc' := 182) rfl (hb hby at_178) (by decide) (by decide) ?_
            exact kont
    have pre63 : ∀ t, Steps p.tables e below (T59.setTop (mkF m 188 #[.val (.int p0), .val (.int p1), .val (.long p2), .second, .val (.int p3), .val (.int (own_mx (1 : Int32) (p0 &&& (2147483647 : Int32)))), .val (.int (own_mx (1 : Int32) (p1 &&& (2147483647 : Int32)))), .val (.int lo), .val (.int hi), .val (.int v50), .val (.int (((p3.toUInt32 >>> ((1 : Int32) &&& 31).toUInt32).toInt32) &&& (3 : Int32))), .val (.long pe), .second, .val (.ref b130), .val (.int (own_wr v50 pe lo hi)), .val (.int v182)] [(.int v182), (.int (own_wr v50 pe lo hi))])) t → Steps p.tables e below (s₁.setTop (entryFrame m #[(.int p0), (.int p1), (.long p2), (.int p3)] maxLocals)) t := by
      intro t kont
      refine pre62 t ?_
      show Steps p.tables e below (T59.setTop (mkF m 182 #[.val (.int p0), .val (.int p1), .val (.long p2), .second, .val (.int p3), .val (.int (own_mx (1 : Int32) (p0 &&& (2147483647 : Int32)))), .val (.int (own_mx (1 : Int32) (p1 &&& (2147483647 : Int32)))), .val (.int lo), .val (.int hi), .val (.int v50), .val (.int (((p3.toUInt32 >>> ((1 : Int32) &&& 31).toUInt32).toInt32) &&& (3 : Int32))), .val (.long pe), .second, .val (.ref b130), .val (.int (own_wr v50 pe lo hi)), .unset] [(.int v182)])) _
      refine XS.istore X59.here hx rfl (hb hby at_182) rfl (l' := #[.val (.int p0), .val (.int p1), .val (.long p2), .second, .val (.int p3), .val (.int (own_mx (1 : Int32) (p0 &&& (2147483647 : Int32)))), .val (.int (own_mx (1 : Int32) (p1 &&& (2147483647 : Int32)))), .val (.int lo), .val (.int hi), .val (.int v50), .val (.int (((p3.toUInt32 >>> ((1 : Int32) &&& 31).toUInt32).toInt32) &&& (3 : Int32))), .val (.long pe), .second, .val (.ref b130), .val (.int (own_wr v50 pe lo hi)), .val (.int v182)]) rfl ?_
      show Steps p.tables e below (T59.setTop (mkF m 184 #[.val (.int p0), .val (.int p1), .val (.long p2), .second, .val (.int p3), .val (.int (own_mx (1 : Int32) (p0 &&& (2147483647 : Int32)))), .val (.int (own_mx (1 : Int32) (p1 &&& (2147483647 : Int32)))), .val (.int lo), .val (.int hi), .val (.int v50), .val (.int (((p3.toUInt32 >>> ((1 : Int32) &&& 31).toUInt32).toInt32) &&& (3 : Int32))), .val (.long pe), .second, .val (.ref b130), .val (.int (own_wr v50 pe lo hi)), .val (.int v182)] [])) _
      refine XS.iload X59.here hx rfl (hb hby at_184) rfl ?_
      show Steps p.tables e below (T59.setTop (mkF m 186 #[.val (.int p0), .val (.int p1), .val (.long p2), .second, .val (.int p3), .val (.int (own_mx (1 : Int32) (p0 &&& (2147483647 : Int32)))), .val (.int (own_mx (1 : Int32) (p1 &&& (2147483647 : Int32)))), .val (.int lo), .val (.int hi), .val (.int v50), .val (.int (((p3.toUInt32 >>> ((1 : Int32) &&& 31).toUInt32).toInt32) &&& (3 : Int32))), .val (.long pe), .second, .val (.ref b130), .val (.int (own_wr v50 pe lo hi)), .val (.int v182)] [(.int (own_wr v50 pe lo hi))])) _
      refine XS.iload X59.here hx rfl (hb hby at_186) rfl ?_
      exact kont
    by_cases hc188 : (own_wr v50 pe lo hi) = v182
    · have pre64 : ∀ t, Steps p.tables e below (T59.setTop (mkF m 196 #[.val (.int p0), .val (.int p1), .val (.long p2), .second, .val (.int p3), .val (.int (own_mx (1 : Int32) (p0 &&& (2147483647 : Int32)))), .val (.int (own_mx (1 : Int32) (p1 &&& (2147483647 : Int32)))), .val (.int lo), .val (.int hi), .val (.int v50), .val (.int (((p3.toUInt32 >>> ((1 : Int32) &&& 31).toUInt32).toInt32) &&& (3 : Int32))), .val (.long pe), .second, .val (.ref b130), .val (.int (own_wr v50 pe lo hi)), .val (.int v182)] [(.int (1 : Int32))])) t → Steps p.tables e below (s₁.setTop (entryFrame m #[(.int p0), (.int p1), (.long p2), (.int p3)] maxLocals)) t := by
        intro t kont
        refine pre63 t ?_
        show Steps p.tables e below (T59.setTop (mkF m 188 #[.val (.int p0), .val (.int p1), .val (.long p2), .second, .val (.int p3), .val (.int (own_mx (1 : Int32) (p0 &&& (2147483647 : Int32)))), .val (.int (own_mx (1 : Int32) (p1 &&& (2147483647 : Int32)))), .val (.int lo), .val (.int hi), .val (.int v50), .val (.int (((p3.toUInt32 >>> ((1 : Int32) &&& 31).toUInt32).toInt32) &&& (3 : Int32))), .val (.long pe), .second, .val (.ref b130), .val (.int (own_wr v50 pe lo hi)), .val (.int v182)] [(.int v182), (.int (own_wr v50 pe lo hi))])) _
        refine XS.icmpNo X59.here hx rfl (hb hby at_188) rfl (teq hc188).2 ?_
        show Steps p.tables e below (T59.setTop (mkF m 191 #[.val (.int p0), .val (.int p1), .val (.long p2), .second, .val (.int p3), .val (.int (own_mx (1 : Int32) (p0 &&& (2147483647 : Int32)))), .val (.int (own_mx (1 : Int32) (p1 &&& (2147483647 : Int32)))), .val (.int lo), .val (.int hi), .val (.int v50), .val (.int (((p3.toUInt32 >>> ((1 : Int32) &&& 31).toUInt32).toInt32) &&& (3 : Int32))), .val (.long pe), .second, .val (.ref b130), .val (.int (own_wr v50 pe lo hi)), .val (.int v182)] [])) _
        refine XS.iconst X59.here hx rfl (hb hby at_191) ?_
        show Steps p.tables e below (T59.setTop (mkF m 192 #[.val (.int p0), .val (.int p1), .val (.long p2), .second, .val (.int p3), .val (.int (own_mx (1 : Int32) (p0 &&& (2147483647 : Int32)))), .val (.int (own_mx (1 : Int32) (p1 &&& (2147483647 : Int32)))), .val (.int lo), .val (.int hi), .val (.int v50), .val (.int (((p3.toUInt32 >>> ((1 : Int32) &&& 31).toUInt32).toInt32) &&& (3 : Int32))), .val (.long pe), .second, .val (.ref b130), .val (.int (own_wr v50 pe lo hi)), .val (.int v182)] [(.int (1 : Int32))])) _
        refine XS.goto X59.here hx rfl (pc0 := 192) (pc' := 196) rfl (hb hby at_192) (by decide) (by decide) ?_
        exact kont
      obtain ⟨fs, hr, hrun, hended, hW, hsame⟩ := X59.leave (v := some (.int (1 : Int32))) (fun h => by rw [Bd.returns] at h; cases h)
      refine ⟨_, _, pre64 _ ?_, hrun, hended, _, _, rfl, ?_, ⟨_, rfl⟩, hW, hsame.mono (by decide) (by decide)⟩
      · exact retN X59 hx (t := .boolean) Bd.returns (by simp) (hb hby at_196) hr
      · show Q0 Z p0 p1 p2 p3 h0 n0 _ T59.heap _
        rw [e59]
        exact ⟨rfl, N59⟩
    · exfalso
      exact hc188 (own_plain p3 v50 lo hi v182 pe hlh hv50 hv182)
  · have pre65 : ∀ t, Steps p.tables e below (T46.setTop (mkF m 78 #[.val (.int p0), .val (.int p1), .val (.long p2), .second, .val (.int p3), .val (.int (own_mx (1 : Int32) (p0 &&& (2147483647 : Int32)))), .val (.int (own_mx (1 : Int32) (p1 &&& (2147483647 : Int32)))), .val (.int lo), .val (.int hi), .val (.int v50), .val (.int (((p3.toUInt32 >>> ((1 : Int32) &&& 31).toUInt32).toInt32) &&& (3 : Int32))), .unset, .unset, .unset, .unset, .unset] [(.int (1 : Int32)), (.int (((p3.toUInt32 >>> ((1 : Int32) &&& 31).toUInt32).toInt32) &&& (3 : Int32)))])) t → Steps p.tables e below (s₁.setTop (entryFrame m #[(.int p0), (.int p1), (.long p2), (.int p3)] maxLocals)) t := by
      intro t kont
      refine pre51 t ?_
      show Steps p.tables e below (T46.setTop (mkF m 62 #[.val (.int p0), .val (.int p1), .val (.long p2), .second, .val (.int p3), .val (.int (own_mx (1 : Int32) (p0 &&& (2147483647 : Int32)))), .val (.int (own_mx (1 : Int32) (p1 &&& (2147483647 : Int32)))), .val (.int lo), .val (.int hi), .val (.int v50), .val (.int (((p3.toUInt32 >>> ((1 : Int32) &&& 31).toUInt32).toInt32) &&& (3 : Int32))), .unset, .unset, .unset, .unset, .unset] [(.int (((p3.toUInt32 >>> ((1 : Int32) &&& 31).toUInt32).toInt32) &&& (3 : Int32)))])) _
      refine XS.ifYes X46.here hx rfl (pc0 := 62) (pc' := 75) rfl (hb hby at_62) rfl ((if0 _ _).trans (feq hc62).2) (by decide) (by decide) ?_
      show Steps p.tables e below (T46.setTop (mkF m 75 #[.val (.int p0), .val (.int p1), .val (.long p2), .second, .val (.int p3), .val (.int (own_mx (1 : Int32) (p0 &&& (2147483647 : Int32)))), .val (.int (own_mx (1 : Int32) (p1 &&& (2147483647 : Int32)))), .val (.int lo), .val (.int hi), .val (.int v50), .val (.int (((p3.toUInt32 >>> ((1 : Int32) &&& 31).toUInt32).toInt32) &&& (3 : Int32))), .unset, .unset, .unset, .unset, .unset] [])) _
      refine XS.iload X46.here hx rfl (hb hby at_75) rfl ?_
      show Steps p.tables e below (T46.setTop (mkF m 77 #[.val (.int p0), .val (.int p1), .val (.long p2), .second, .val (.int p3), .val (.int (own_mx (1 : Int32) (p0 &&& (2147483647 : Int32)))), .val (.int (own_mx (1 : Int32) (p1 &&& (2147483647 : Int32)))), .val (.int lo), .val (.int hi), .val (.int v50), .val (.int (((p3.toUInt32 >>> ((1 : Int32) &&& 31).toUInt32).toInt32) &&& (3 : Int32))), .unset, .unset, .unset, .unset, .unset] [(.int (((p3.toUInt32 >>> ((1 : Int32) &&& 31).toUInt32).toInt32) &&& (3 : Int32)))])) _
      refine XS.iconst X46.here hx rfl (hb hby at_77) ?_
      exact kont
    by_cases hc78 : (((p3.toUInt32 >>> ((1 : Int32) &&& 31).toUInt32).toInt32) &&& (3 : Int32)) = (1 : Int32)
    · have pre66 : ∀ t, Steps p.tables e below (T46.setTop (mkF m 91 #[.val (.int p0), .val (.int p1), .val (.long p2), .second, .val (.int p3), .val (.int (own_mx (1 : Int32) (p0 &&& (2147483647 : Int32)))), .val (.int (own_mx (1 : Int32) (p1 &&& (2147483647 : Int32)))), .val (.int lo), .val (.int hi), .val (.int v50), .val (.int (((p3.toUInt32 >>> ((1 : Int32) &&& 31).toUInt32).toInt32) &&& (3 : Int32))), .unset, .unset, .unset, .unset, .unset] [(.long ((lo.toInt64) + (p2 % (3 : Int64)))), (.long (0 : Int64))])) t → Steps p.tables e below (s₁.setTop (entryFrame m #[(.int p0), (.int p1), (.long p2), (.int p3)] maxLocals)) t := by
        intro t kont
        refine pre65 t ?_
        show Steps p.tables e below (T46.setTop (mkF m 78 #[.val (.int p0), .val (.int p1), .val (.long p2), .second, .val (.int p3), .val (.int (own_mx (1 : Int32) (p0 &&& (2147483647 : Int32)))), .val (.int (own_mx (1 : Int32) (p1 &&& (2147483647 : Int32)))), .val (.int lo), .val (.int hi), .val (.int v50), .val (.int (((p3.toUInt32 >>> ((1 : Int32) &&& 31).toUInt32).toInt32) &&& (3 : Int32))), .unset, .unset, .unset, .unset, .unset] [(.int (1 : Int32)), (.int (((p3.toUInt32 >>> ((1 : Int32) &&& 31).toUInt32).toInt32) &&& (3 : Int32)))])) _
        refine XS.icmpNo X46.here hx rfl (hb hby at_78) rfl (teq hc78).2 ?_
        show Steps p.tables e below (T46.setTop (mkF m 81 #[.val (.int p0), .val (.int p1), .val (.long p2), .second, .val (.int p3), .val (.int (own_mx (1 : Int32) (p0 &&& (2147483647 : Int32)))), .val (.int (own_mx (1 : Int32) (p1 &&& (2147483647 : Int32)))), .val (.int lo), .val (.int hi), .val (.int v50), .val (.int (((p3.toUInt32 >>> ((1 : Int32) &&& 31).toUInt32).toInt32) &&& (3 : Int32))), .unset, .unset, .unset, .unset, .unset] [])) _
        refine XS.lconst X46.here hx rfl (hb hby at_81) ?_
        show Steps p.tables e below (T46.setTop (mkF m 82 #[.val (.int p0), .val (.int p1), .val (.long p2), .second, .val (.int p3), .val (.int (own_mx (1 : Int32) (p0 &&& (2147483647 : Int32)))), .val (.int (own_mx (1 : Int32) (p1 &&& (2147483647 : Int32)))), .val (.int lo), .val (.int hi), .val (.int v50), .val (.int (((p3.toUInt32 >>> ((1 : Int32) &&& 31).toUInt32).toInt32) &&& (3 : Int32))), .unset, .unset, .unset, .unset, .unset] [(.long (0 : Int64))])) _
        refine XS.iload X46.here hx rfl (hb hby at_82) rfl ?_
        show Steps p.tables e below (T46.setTop (mkF m 84 #[.val (.int p0), .val (.int p1), .val (.long p2), .second, .val (.int p3), .val (.int (own_mx (1 : Int32) (p0 &&& (2147483647 : Int32)))), .val (.int (own_mx (1 : Int32) (p1 &&& (2147483647 : Int32)))), .val (.int lo), .val (.int hi), .val (.int v50), .val (.int (((p3.toUInt32 >>> ((1 : Int32) &&& 31).toUInt32).toInt32) &&& (3 : Int32))), .unset, .unset, .unset, .unset, .unset] [(.int lo), (.long (0 : Int64))])) _
        refine XS.i2l X46.here hx rfl (hb hby at_84) rfl ?_
        show Steps p.tables e below (T46.setTop (mkF m 85 #[.val (.int p0), .val (.int p1), .val (.long p2), .second, .val (.int p3), .val (.int (own_mx (1 : Int32) (p0 &&& (2147483647 : Int32)))), .val (.int (own_mx (1 : Int32) (p1 &&& (2147483647 : Int32)))), .val (.int lo), .val (.int hi), .val (.int v50), .val (.int (((p3.toUInt32 >>> ((1 : Int32) &&& 31).toUInt32).toInt32) &&& (3 : Int32))), .unset, .unset, .unset, .unset, .unset] [(.long (lo.toInt64)), (.long (0 : Int64))])) _
        refine XS.lloadN X46.here hx rfl (hb hby at_85) rfl ?_
        show Steps p.tables e below (T46.setTop (mkF m 86 #[.val (.int p0), .val (.int p1), .val (.long p2), .second, .val (.int p3), .val (.int (own_mx (1 : Int32) (p0 &&& (2147483647 : Int32)))), .val (.int (own_mx (1 : Int32) (p1 &&& (2147483647 : Int32)))), .val (.int lo), .val (.int hi), .val (.int v50), .val (.int (((p3.toUInt32 >>> ((1 : Int32) &&& 31).toUInt32).toInt32) &&& (3 : Int32))), .unset, .unset, .unset, .unset, .unset] [(.long p2), (.long (lo.toInt64)), (.long (0 : Int64))])) _
        refine X46.ldc2Long hx hown (mvT hZ (hw _ (List.mem_of_getElem? (i := 33) rfl))) (g := (mkF m 86 #[.val (.int p0), .val (.int p1), .val (.long p2), .second, .val (.int p3), .val (.int (own_mx (1 : Int32) (p0 &&& (2147483647 : Int32)))), .val (.int (own_mx (1 : Int32) (p1 &&& (2147483647 : Int32)))), .val (.int lo), .val (.int hi), .val (.int v50), .val (.int (((p3.toUInt32 >>> ((1 : Int32) &&& 31).toUInt32).toInt32) &&& (3 : Int32))), .unset, .unset, .unset, .unset, .unset] [(.long p2), (.long (lo.toInt64)), (.long (0 : Int64))])) rfl (hb hby at_86) _ ?_
        show Steps p.tables e below (T46.setTop (mkF m 89 #[.val (.int p0), .val (.int p1), .val (.long p2), .second, .val (.int p3), .val (.int (own_mx (1 : Int32) (p0 &&& (2147483647 : Int32)))), .val (.int (own_mx (1 : Int32) (p1 &&& (2147483647 : Int32)))), .val (.int lo), .val (.int hi), .val (.int v50), .val (.int (((p3.toUInt32 >>> ((1 : Int32) &&& 31).toUInt32).toInt32) &&& (3 : Int32))), .unset, .unset, .unset, .unset, .unset] [(.long (3 : Int64)), (.long p2), (.long (lo.toInt64)), (.long (0 : Int64))])) _
        refine XS.lrem X46.here hx rfl (hb hby at_89) rfl (by decide) ?_
        rw [lrem_mod]
        show Steps p.tables e below (T46.setTop (mkF m 90 #[.val (.int p0), .val (.int p1), .val (.long p2), .second, .val (.int p3), .val (.int (own_mx (1 : Int32) (p0 &&& (2147483647 : Int32)))), .val (.int (own_mx (1 : Int32) (p1 &&& (2147483647 : Int32)))), .val (.int lo), .val (.int hi), .val (.int v50), .val (.int (((p3.toUInt32 >>> ((1 : Int32) &&& 31).toUInt32).toInt32) &&& (3 : Int32))), .unset, .unset, .unset, .unset, .unset] [(.long (p2 % (3 : Int64))), (.long (lo.toInt64)), (.long (0 : Int64))])) _
        refine XS.ladd X46.here hx rfl (hb hby at_90) rfl ?_
        exact kont
      obtain ⟨_, _, ⟨T67, L67, k67, n67⟩, -, X67, ⟨Lc67, hQ67, l67, y67, z67⟩, st67⟩ := Jvm.LawKit.callS X46 hx (y := (⟨"java/lang/Math", "max", "(JJ)J"⟩ : MethodName)) hown (mvT hZ (hw _ (List.mem_of_getElem? (i := 34) rfl))) (mvT hZ (hw _ (List.mem_of_getElem? (i := 35) rfl))) (mvT hZ (hw _ (List.mem_of_getElem? (i := 3) rfl))) (mvT hZ (hw _ (List.mem_of_getElem? (i := 36) rfl))) (by decide) (backOf (W := 0) (rm7 l Z a0 hw [] (0 : Int64) ((lo.toInt64) + (p2 % (3 : Int64)))  h0 n0 Z0) hZ (hw _ (List.mem_of_getElem? (i := 36) rfl)) (hw _ (List.mem_of_getElem? (i := 3) rfl)) (by decide) (by decide)) (g := (mkF m 91 #[.val (.int p0), .val (.int p1), .val (.long p2), .second, .val (.int p3), .val (.int (own_mx (1 : Int32) (p0 &&& (2147483647 : Int32)))), .val (.int (own_mx (1 : Int32) (p1 &&& (2147483647 : Int32)))), .val (.int lo), .val (.int hi), .val (.int v50), .val (.int (((p3.toUInt32 >>> ((1 : Int32) &&& 31).toUInt32).toInt32) &&& (3 : Int32))), .unset, .unset, .unset, .unset, .unset] [(.long ((lo.toInt64) + (p2 % (3 : Int64)))), (.long (0 : Int64))])) rfl (by rw [hml]; rfl) (argsL := [(.long (0 : Int64)), (.long ((lo.toInt64) + (p2 % (3 : Int64))))]) (rest := []) (lenOf pd_4 rfl) rfl (by show 2 * 0 + _ ≤ _; exact Nat.le_of_eq rfl) (hb hby at_91) (fun _ _ => ⟨rfl, e46, (by decide : 0 + 0 ≤ _), (by decide : 0 + 0 ≤ _)⟩)
      dsimp only [Pt.U, Pt.locs, Pt.cells, Pt.slots] at X67 l67 y67 z67 st67 hQ67
      subst l67 y67 z67
      obtain ⟨rfl, N67q, e67⟩ := hQ67
      have N67 := Fr.app N46 N67q
      have pre68 : ∀ t, Steps p.tables e below (T67.setTop (mkF m 94 #[.val (.int p0), .val (.int p1), .val (.long p2), .second, .val (.int p3), .val (.int (own_mx (1 : Int32) (p0 &&& (2147483647 : Int32)))), .val (.int (own_mx (1 : Int32) (p1 &&& (2147483647 : Int32)))), .val (.int lo), .val (.int hi), .val (.int v50), .val (.int (((p3.toUInt32 >>> ((1 : Int32) &&& 31).toUInt32).toInt32) &&& (3 : Int32))), .unset, .unset, .unset, .unset, .unset] [(.long (own_mxl (0 : Int64) ((lo.toInt64) + (p2 % (3 : Int64)))))])) t → Steps p.tables e below (s₁.setTop (entryFrame m #[(.int p0), (.int p1), (.long p2), (.int p3)] maxLocals)) t := fun t kont => pre66 t (st67 _ kont)
      have pre69 : ∀ t, Steps p.tables e below (T67.setTop (mkF m 130 #[.val (.int p0), .val (.int p1), .val (.long p2), .second, .val (.int p3), .val (.int (own_mx (1 : Int32) (p0 &&& (2147483647 : Int32)))), .val (.int (own_mx (1 : Int32) (p1 &&& (2147483647 : Int32)))), .val (.int lo), .val (.int hi), .val (.int v50), .val (.int (((p3.toUInt32 >>> ((1 : Int32) &&& 31).toUInt32).toInt32) &&& (3 : Int32))), .val (.long (own_mxl (0 : Int64) ((lo.toInt64) + (p2 % (3 : Int64))))), .second, .unset, .unset, .unset] [])) t → Steps p.tables e below (s₁.setTop (entryFrame m #[(.int p0), (.int p1), (.long p2), (.int p3)] maxLocals)) t := by
        intro t kont
        refine pre68 t ?_
        show Steps p.tables e below (T67.setTop (mkF m 94 #[.val (.int p0), .val (.int p1), .val (.long p2), .second, .val (.int p3), .val (.int (own_mx (1 : Int32) (p0 &&& (2147483647 : Int32)))), .val (.int (own_mx (1 : Int32) (p1 &&& (2147483647 : Int32)))), .val (.int lo), .val (.int hi), .val (.int v50), .val (.int (((p3.toUInt32 >>> ((1 : Int32) &&& 31).toUInt32).toInt32) &&& (3 : Int32))), .unset, .unset, .unset, .unset, .unset] [(.long (own_mxl (0 : Int64) ((lo.toInt64) + (p2 % (3 : Int64)))))])) _
        refine XS.lstore X67.here hx rfl (hb hby at_94) rfl (l' := #[.val (.int p0), .val (.int p1), .val (.long p2), .second, .val (.int p3), .val (.int (own_mx (1 : Int32) (p0 &&& (2147483647 : Int32)))), .val (.int (own_mx (1 : Int32) (p1 &&& (2147483647 : Int32)))), .val (.int lo), .val (.int hi), .val (.int v50), .val (.int (((p3.toUInt32 >>> ((1 : Int32) &&& 31).toUInt32).toInt32) &&& (3 : Int32))), .val (.long (own_mxl (0 : Int64) ((lo.toInt64) + (p2 % (3 : Int64))))), .second, .unset, .unset, .unset]) rfl ?_
        show Steps p.tables e below (T67.setTop (mkF m 96 #[.val (.int p0), .val (.int p1), .val (.long p2), .second, .val (.int p3), .val (.int (own_mx (1 : Int32) (p0 &&& (2147483647 : Int32)))), .val (.int (own_mx (1 : Int32) (p1 &&& (2147483647 : Int32)))), .val (.int lo), .val (.int hi), .val (.int v50), .val (.int (((p3.toUInt32 >>> ((1 : Int32) &&& 31).toUInt32).toInt32) &&& (3 : Int32))), .val (.long (own_mxl (0 : Int64) ((lo.toInt64) + (p2 % (3 : Int64))))), .second, .unset, .unset, .unset] [])) _
        refine XS.goto X67.here hx rfl (pc0 := 96) (pc' := 130) rfl (hb hby at_96) (by decide) (by decide) ?_
        exact kont
      have hpe0 : ¬ (own_mxl (0 : Int64) ((lo.toInt64) + (p2 % (3 : Int64)))) < 0 := own_pB _
      obtain ⟨pe, hpe⟩ : ∃ z : Int64, z = (own_mxl (0 : Int64) ((lo.toInt64) + (p2 % (3 : Int64)))) := ⟨_, rfl⟩
      rw [← hpe] at pre69
      rw [← hpe] at hpe0
      obtain ⟨T70, h70, X70, e70, E70, A70, D70, -, st70⟩ := newO X67 hx hZ hown (hw _ (List.mem_of_getElem? (i := 9) rfl)) (hw _ (List.mem_of_getElem? (i := 10) rfl)) (hw _ (List.mem_of_getElem? (i := 11) rfl)) e67 (g := (mkF m 130 #[.val (.int p0), .val (.int p1), .val (.long p2), .second, .val (.int p3), .val (.int (own_mx (1 : Int32) (p0 &&& (2147483647 : Int32)))), .val (.int (own_mx (1 : Int32) (p1 &&& (2147483647 : Int32)))), .val (.int lo), .val (.int hi), .val (.int v50), .val (.int (((p3.toUInt32 >>> ((1 : Int32) &&& 31).toUInt32).toInt32) &&& (3 : Int32))), .val (.long pe), .second, .unset, .unset, .unset] [])) rfl (hb hby at_130) (by decide) (by decide)
      obtain ⟨b130, g70⟩ : ∃ z, z = h0.size := ⟨_, rfl⟩
      rw [← g70] at A70 D70 st70
      have g_b130 : n0 ≤ b130 := Nat.le_trans Z0 (Nat.le_of_eq g70.symm)
      have F70_low : Fld Z h70 b130 "com/example/even_keel/evenkeel/channel/WaterMarks" "low" "I" (.int (0 : Int32)) := D70 (Or.inr (hw _ (List.mem_of_getElem? (i := 24) rfl))) (ty := .int) (by decide)
      have F70_high : Fld Z h70 b130 "com/example/even_keel/evenkeel/channel/WaterMarks" "high" "I" (.int (0 : Int32)) := D70 (Or.inr (hw _ (List.mem_of_getElem? (i := 26) rfl))) (ty := .int) (by decide)
      have Z70 : n0 ≤ h70.size := Nat.le_trans Z0 E70.1
      have pre71 : ∀ t, Steps p.tables e below (T70.setTop (mkF m 133 #[.val (.int p0), .val (.int p1), .val (.long p2), .second, .val (.int p3), .val (.int (own_mx (1 : Int32) (p0 &&& (2147483647 : Int32)))), .val (.int (own_mx (1 : Int32) (p1 &&& (2147483647 : Int32)))), .val (.int lo), .val (.int hi), .val (.int v50), .val (.int (((p3.toUInt32 >>> ((1 : Int32) &&& 31).toUInt32).toInt32) &&& (3 : Int32))), .val (.long pe), .second, .unset, .unset, .unset] [(.ref b130)])) t → Steps p.tables e below (s₁.setTop (entryFrame m #[(.int p0), (.int p1), (.long p2), (.int p3)] maxLocals)) t := fun t kont => pre69 t (st70 _ kont)
      have pre72 : ∀ t, Steps p.tables e below (T70.setTop (mkF m 138 #[.val (.int p0), .val (.int p1), .val (.long p2), .second, .val (.int p3), .val (.int (own_mx (1 : Int32) (p0 &&& (2147483647 : Int32)))), .val (.int (own_mx (1 : Int32) (p1 &&& (2147483647 : Int32)))), .val (.int lo), .val (.int hi), .val (.int v50), .val (.int (((p3.toUInt32 >>> ((1 : Int32) &&& 31).toUInt32).toInt32) &&& (3 : Int32))), .val (.long pe), .second, .unset, .unset, .unset] [(.int hi), (.int lo), (.ref b130), (.ref b130)])) t → Steps p.tables e below (s₁.setTop (entryFrame m #[(.int p0), (.int p1), (.long p2), (.int p3)] maxLocals)) t := by
        intro t kont
        refine pre71 t ?_
        show Steps p.tables e below (T70.setTop (mkF m 133 #[.val (.int p0), .val (.int p1), .val (.long p2), .second, .val (.int p3), .val (.int (own_mx (1 : Int32) (p0 &&& (2147483647 : Int32)))), .val (.int (own_mx (1 : Int32) (p1 &&& (2147483647 : Int32)))), .val (.int lo), .val (.int hi), .val (.int v50), .val (.int (((p3.toUInt32 >>> ((1 : Int32) &&& 31).toUInt32).toInt32) &&& (3 : Int32))), .val (.long pe), .second, .unset, .unset, .unset] [(.ref b130)])) _
        refine XS.dup X70.here hx rfl (hb hby at_133) rfl rfl ?_
        show Steps p.tables e below (T70.setTop (mkF m 134 #[.val (.int p0), .val (.int p1), .val (.long p2), .second, .val (.int p3), .val (.int (own_mx (1 : Int32) (p0 &&& (2147483647 : Int32)))), .val (.int (own_mx (1 : Int32) (p1 &&& (2147483647 : Int32)))), .val (.int lo), .val (.int hi), .val (.int v50), .val (.int (((p3.toUInt32 >>> ((1 : Int32) &&& 31).toUInt32).toInt32) &&& (3 : Int32))), .val (.long pe), .second, .unset, .unset, .unset] [(.ref b130), (.ref b130)])) _
        refine XS.iload X70.here hx rfl (hb hby at_134) rfl ?_
        show Steps p.tables e below (T70.setTop (mkF m 136 #[.val (.int p0), .val (.int p1), .val (.long p2), .second, .val (.int p3), .val (.int (own_mx (1 : Int32) (p0 &&& (2147483647 : Int32)))), .val (.int (own_mx (1 : Int32) (p1 &&& (2147483647 : Int32)))), .val (.int lo), .val (.int hi), .val (.int v50), .val (.int (((p3.toUInt32 >>> ((1 : Int32) &&& 31).toUInt32).toInt32) &&& (3 : Int32))), .val (.long pe), .second, .unset, .unset, .unset] [(.int lo), (.ref b130), (.ref b130)])) _
        refine XS.iload X70.here hx rfl (hb hby at_136) rfl ?_
        exact kont
      obtain ⟨_, _, ⟨T73, L73, k73, n73⟩, -, X73, ⟨Lc73, hQ73, l73, y73, z73⟩, st73⟩ := X70.specialBack hx (y := (⟨"com/example/even_keel/evenkeel/channel/WaterMarks", "<init>", "(II)V"⟩ : MethodName)) rfl hown (mvT hZ (hw _ (List.mem_of_getElem? (i := 12) rfl))) (mvT hZ (hw _ (List.mem_of_getElem? (i := 13) rfl))) (mvT hZ (hw _ (List.mem_of_getElem? (i := 14) rfl))) (by decide) (backOf (W := 1) (rm3 l Z a0 hw [] b130 lo hi  h70 n0 Z70 A70 F70_low F70_high g_b130 (own_i1 hlh) (own_i2 hlh)) hZ (hw _ (List.mem_of_getElem? (i := 14) rfl)) (hw _ (List.mem_of_getElem? (i := 11) rfl)) (by decide) (by decide)) (g := (mkF m 138 #[.val (.int p0), .val (.int p1), .val (.long p2), .second, .val (.int p3), .val (.int (own_mx (1 : Int32) (p0 &&& (2147483647 : Int32)))), .val (.int (own_mx (1 : Int32) (p1 &&& (2147483647 : Int32)))), .val (.int lo), .val (.int hi), .val (.int v50), .val (.int (((p3.toUInt32 >>> ((1 : Int32) &&& 31).toUInt32).toInt32) &&& (3 : Int32))), .val (.long pe), .second, .unset, .unset, .unset] [(.int hi), (.int lo), (.ref b130), (.ref b130)])) rfl (by rw [hml]; rfl) (Steps.refl _) (a := b130) (argsL := [(.int lo), (.int hi)]) (rest := [(.ref b130)]) (lenOf pd_2 rfl) rfl (by show 2 * 0 + _ ≤ _; exact Nat.le_of_eq rfl) (hb hby at_138) (fun _ _ => ⟨rfl, e70, (by decide : 1 + 0 ≤ _), (by decide : 2 + 0 ≤ _)⟩)
      dsimp only [Pt.U, Pt.locs, Pt.cells, Pt.slots] at X73 l73 y73 z73 st73 hQ73
      subst l73 y73 z73
      obtain ⟨rfl, N73q, K73, qe73, ql73, qh73⟩ := hQ73
      have N73 := Fr.app N67 N73q
      have f73_0 := Exa.keep A70 K73
      have Z73 : n0 ≤ T73.heap.size := Nat.le_trans Z70 (K73).1
      have pre74 : ∀ t, Steps p.tables e below (T73.setTop (mkF m 141 #[.val (.int p0), .val (.int p1), .val (.long p2), .second, .val (.int p3), .val (.int (own_mx (1 : Int32) (p0 &&& (2147483647 : Int32)))), .val (.int (own_mx (1 : Int32) (p1 &&& (2147483647 : Int32)))), .val (.int lo), .val (.int hi), .val (.int v50), .val (.int (((p3.toUInt32 >>> ((1 : Int32) &&& 31).toUInt32).toInt32) &&& (3 : Int32))), .val (.long pe), .second, .unset, .unset, .unset] [(.ref b130)])) t → Steps p.tables e below (s₁.setTop (entryFrame m #[(.int p0), (.int p1), (.long p2), (.int p3)] maxLocals)) t := fun t kont => pre72 t (st73.trans kont)
      have pre75 : ∀ t, Steps p.tables e below (T73.setTop (mkF m 149 #[.val (.int p0), .val (.int p1), .val (.long p2), .second, .val (.int p3), .val (.int (own_mx (1 : Int32) (p0 &&& (2147483647 : Int32)))), .val (.int (own_mx (1 : Int32) (p1 &&& (2147483647 : Int32)))), .val (.int lo), .val (.int hi), .val (.int v50), .val (.int (((p3.toUInt32 >>> ((1 : Int32) &&& 31).toUInt32).toInt32) &&& (3 : Int32))), .val (.long pe), .second, .val (.ref b130), .unset, .unset] [(.long pe), (.int v50), (.ref b130)])) t → Steps p.tables e below (s₁.setTop (entryFrame m #[(.int p0), (.int p1), (.long p2), (.int p3)] maxLocals)) t := by
        intro t kont
        refine pre74 t ?_
        show Steps p.tables e below (T73.setTop (mkF m 141 #[.val (.int p0), .val (.int p1), .val (.long p2), .second, .val (.int p3), .val (.int (own_mx (1 : Int32) (p0 &&& (2147483647 : Int32)))), .val (.int (own_mx (1 : Int32) (p1 &&& (2147483647 : Int32)))), .val (.int lo), .val (.int hi), .val (.int v50), .val (.int (((p3.toUInt32 >>> ((1 : Int32) &&& 31).toUInt32).toInt32) &&& (3 : Int32))), .val (.long pe), .second, .unset, .unset, .unset] [(.ref b130)])) _
        refine XS.astore X73.here hx rfl (hb hby at_141) rfl rfl (l' := #[.val (.int p0), .val (.int p1), .val (.long p2), .second, .val (.int p3), .val (.int (own_mx (1 : Int32) (p0 &&& (2147483647 : Int32)))), .val (.int (own_mx (1 : Int32) (p1 &&& (2147483647 : Int32)))), .val (.int lo), .val (.int hi), .val (.int v50), .val (.int (((p3.toUInt32 >>> ((1 : Int32) &&& 31).toUInt32).toInt32) &&& (3 : Int32))), .val (.long pe), .second, .val (.ref b130), .unset, .unset]) rfl ?_
        show Steps p.tables e below (T73.setTop (mkF m 143 #[.val (.int p0), .val (.int p1), .val (.long p2), .second, .val (.int p3), .val (.int (own_mx (1 : Int32) (p0 &&& (2147483647 : Int32)))), .val (.int (own_mx (1 : Int32) (p1 &&& (2147483647 : Int32)))), .val (.int lo), .val (.int hi), .val (.int v50), .val (.int (((p3.toUInt32 >>> ((1 : Int32) &&& 31).toUInt32).toInt32) &&& (3 : Int32))), .val (.long pe), .second, .val (.ref b130), .unset, .unset] [])) _
        refine XS.aload X73.here hx rfl (hb hby at_143) rfl rfl ?_
        show Steps p.tables e below (T73.setTop (mkF m 145 #[.val (.int p0), .val (.int p1), .val (.long p2), .second, .val (.int p3), .val (.int (own_mx (1 : Int32) (p0 &&& (2147483647 : Int32)))), .val (.int (own_mx (1 : Int32) (p1 &&& (2147483647 : Int32)))), .val (.int lo), .val (.int hi), .val (.int v50), .val (.int (((p3.toUInt32 >>> ((1 : Int32) &&& 31).toUInt32).toInt32) &&& (3 : Int32))), .val (.long pe), .second, .val (.ref b130), .unset, .unset] [(.ref b130)])) _
        refine XS.iload X73.here hx rfl (hb hby at_145) rfl ?_
        show Steps p.tables e below (T73.setTop (mkF m 147 #[.val (.int p0), .val (.int p1), .val (.long p2), .second, .val (.int p3), .val (.int (own_mx (1 : Int32) (p0 &&& (2147483647 : Int32)))), .val (.int (own_mx (1 : Int32) (p1 &&& (2147483647 : Int32)))), .val (.int lo), .val (.int hi), .val (.int v50), .val (.int (((p3.toUInt32 >>> ((1 : Int32) &&& 31).toUInt32).toInt32) &&& (3 : Int32))), .val (.long pe), .second, .val (.ref b130), .unset, .unset] [(.int v50), (.ref b130)])) _
        refine XS.lload X73.here hx rfl (hb hby at_147) rfl ?_
        exact kont
      obtain ⟨cq76, kq76, q76a, q76b, q76c⟩ := isOf hZ rfl f73_0
      obtain ⟨_, _, ⟨T76, L76, k76, n76⟩, -, X76, ⟨Lc76, hQ76, l76, y76, z76⟩, st76⟩ := X73.virtualBack hx (y := (⟨"com/example/even_keel/evenkeel/channel/WaterMarks", "writableAfter", "(ZJ)Z"⟩ : MethodName)) (z := (⟨"com/example/even_keel/evenkeel/channel/WaterMarks", "writableAfter", "(ZJ)Z"⟩ : MethodName)) hown (mvT hZ (hw _ (List.mem_of_getElem? (i := 27) rfl))) (mvT hZ (hw _ (List.mem_of_getElem? (i := 28) rfl))) (notFace_of_selects (args := #[]) (mvT hZ (hw _ (List.mem_of_getElem? (i := 30) rfl)))) (mvT hZ (hw _ (List.mem_of_getElem? (i := 30) rfl))) (mvT hZ (hw _ (List.mem_of_getElem? (i := 29) rfl))) (by decide) (backOf (W := 0) (rm6 l Z a0 hw [] b130 v50 pe lo hi  T73.heap n0 Z73 ql73 qh73 hpe0) hZ (hw _ (List.mem_of_getElem? (i := 31) rfl)) (hw _ (List.mem_of_getElem? (i := 11) rfl)) (by decide) (by decide)) q76a q76c (g := (mkF m 149 #[.val (.int p0), .val (.int p1), .val (.long p2), .second, .val (.int p3), .val (.int (own_mx (1 : Int32) (p0 &&& (2147483647 : Int32)))), .val (.int (own_mx (1 : Int32) (p1 &&& (2147483647 : Int32)))), .val (.int lo), .val (.int hi), .val (.int v50), .val (.int (((p3.toUInt32 >>> ((1 : Int32) &&& 31).toUInt32).toInt32) &&& (3 : Int32))), .val (.long pe), .second, .val (.ref b130), .unset, .unset] [(.long pe), (.int v50), (.ref b130)])) rfl (by rw [hml]; rfl) (Steps.refl _) (argsL := [(.int v50), (.long pe)]) (rest := []) (lenOf pd_3 rfl) rfl (by show 2 * 0 + _ ≤ _; exact Nat.le_of_eq rfl) (hb hby at_149) (fun _ _ => ⟨rfl, rfl, (by decide : 1 + 0 ≤ _), (by decide : 2 + 0 ≤ _)⟩)
      dsimp only [Pt.U, Pt.locs, Pt.cells, Pt.slots] at X76 l76 y76 z76 st76 hQ76
      subst l76 y76 z76
      obtain ⟨rfl, N76q, e76⟩ := hQ76
      have N76 := Fr.app N73 N76q
      have pre77 : ∀ t, Steps p.tables e below (T76.setTop (mkF m 152 #[.val (.int p0), .val (.int p1), .val (.long p2), .second, .val (.int p3), .val (.int (own_mx (1 : Int32) (p0 &&& (2147483647 : Int32)))), .val (.int (own_mx (1 : Int32) (p1 &&& (2147483647 : Int32)))), .val (.int lo), .val (.int hi), .val (.int v50), .val (.int (((p3.toUInt32 >>> ((1 : Int32) &&& 31).toUInt32).toInt32) &&& (3 : Int32))), .val (.long pe), .second, .val (.ref b130), .unset, .unset] [(.int (own_wr v50 pe lo hi))])) t → Steps p.tables e below (s₁.setTop (entryFrame m #[(.int p0), (.int p1), (.long p2), (.int p3)] maxLocals)) t := fun t kont => pre75 t (st76.trans kont)
      have pre78 : ∀ t, Steps p.tables e below (T76.setTop (mkF m 160 #[.val (.int p0), .val (.int p1), .val (.long p2), .second, .val (.int p3), .val (.int (own_mx (1 : Int32) (p0 &&& (2147483647 : Int32)))), .val (.int (own_mx (1 : Int32) (p1 &&& (2147483647 : Int32)))), .val (.int lo), .val (.int hi), .val (.int v50), .val (.int (((p3.toUInt32 >>> ((1 : Int32) &&& 31).toUInt32).toInt32) &&& (3 : Int32))), .val (.long pe), .second, .val (.ref b130), .val (.int (own_wr v50 pe lo hi)), .unset] [(.int (lcmpW pe (lo.toInt64)))])) t → Steps p.tables e below (s₁.setTop (entryFrame m #[(.int p0), (.int p1), (.long p2), (.int p3)] maxLocals)) t := by
        intro t kont
        refine pre77 t ?_
        show Steps p.tables e below (T76.setTop (mkF m 152 #[.val (.int p0), .val (.int p1), .val (.long p2), .second, .val (.int p3), .val (.int (own_mx (1 : Int32) (p0 &&& (2147483647 : Int32)))), .val (.int (own_mx (1 : Int32) (p1 &&& (2147483647 : Int32)))), .val (.int lo), .val (.int hi), .val (.int v50), .val (.int (((p3.toUInt32 >>> ((1 : Int32) &&& 31).toUInt32).toInt32) &&& (3 : Int32))), .val (.long pe), .second, .val (.ref b130), .unset, .unset] [(.int (own_wr v50 pe lo hi))])) _
        refine XS.istore X76.here hx rfl (hb hby at_152) rfl (l' := #[.val (.int p0), .val (.int p1), .val (.long p2), .second, .val (.int p3), .val (.int (own_mx (1 : Int32) (p0 &&& (2147483647 : Int32)))), .val (.int (own_mx (1 : Int32) (p1 &&& (2147483647 : Int32)))), .val (.int lo), .val (.int hi), .val (.int v50), .val (.int (((p3.toUInt32 >>> ((1 : Int32) &&& 31).toUInt32).toInt32) &&& (3 : Int32))), .val (.long pe), .second, .val (.ref b130), .val (.int (own_wr v50 pe lo hi)), .unset]) rfl ?_
        show Steps p.tables e below (T76.setTop (mkF m 154 #[.val (.int p0), .val (.int p1), .val (.long p2), .second, .val (.int p3), .val (.int (own_mx (1 : Int32) (p0 &&& (2147483647 : Int32)))), .val (.int (own_mx (1 : Int32) (p1 &&& (2147483647 : Int32)))), .val (.int lo), .val (.int hi), .val (.int v50), .val (.int (((p3.toUInt32 >>> ((1 : Int32) &&& 31).toUInt32).toInt32) &&& (3 : Int32))), .val (.long pe), .second, .val (.ref b130), .val (.int (own_wr v50 pe lo hi)), .unset] [])) _
        refine XS.lload X76.here hx rfl (hb hby at_154) rfl ?_
        show Steps p.tables e below (T76.setTop (mkF m 156 #[.val (.int p0), .val (.int p1), .val (.long p2), .second, .val (.int p3), .val (.int (own_mx (1 : Int32) (p0 &&& (2147483647 : Int32)))), .val (.int (own_mx (1 : Int32) (p1 &&& (2147483647 : Int32)))), .val (.int lo), .val (.int hi), .val (.int v50), .val (.int (((p3.toUInt32 >>> ((1 : Int32) &&& 31).toUInt32).toInt32) &&& (3 : Int32))), .val (.long pe), .second, .val (.ref b130), .val (.int (own_wr v50 pe lo hi)), .unset] [(.long pe)])) _
        refine XS.iload X76.here hx rfl (hb hby at_156) rfl ?_
        show Steps p.tables e below (T76.setTop (mkF m 158 #[.val (.int p0), .val (.int p1), .val (.long p2), .second, .val (.int p3), .val (.int (own_mx (1 : Int32) (p0 &&& (2147483647 : Int32)))), .val (.int (own_mx (1 : Int32) (p1 &&& (2147483647 : Int32)))), .val (.int lo), .val (.int hi), .val (.int v50), .val (.int (((p3.toUInt32 >>> ((1 : Int32) &&& 31).toUInt32).toInt32) &&& (3 : Int32))), .val (.long pe), .second, .val (.ref b130), .val (.int (own_wr v50 pe lo hi)), .unset] [(.int lo), (.long pe)])) _
        refine XS.i2l X76.here hx rfl (hb hby at_158) rfl ?_
        show Steps p.tables e below (T76.setTop (mkF m 159 #[.val (.int p0), .val (.int p1), .val (.long p2), .second, .val (.int p3), .val (.int (own_mx (1 : Int32) (p0 &&& (2147483647 : Int32)))), .val (.int (own_mx (1 : Int32) (p1 &&& (2147483647 : Int32)))), .val (.int lo), .val (.int hi), .val (.int v50), .val (.int (((p3.toUInt32 >>> ((1 : Int32) &&& 31).toUInt32).toInt32) &&& (3 : Int32))), .val (.long pe), .second, .val (.ref b130), .val (.int (own_wr v50 pe lo hi)), .unset] [(.long (lo.toInt64)), (.long pe)])) _
        refine XS.lcmp X76.here hx rfl (hb hby at_159) rfl ?_
        exact kont
      obtain ⟨v182, hv182⟩ : ∃ z : Int32, z = (if pe < (lo.toInt64) then (1 : Int32) else (if v50 = (0 : Int32) then (0 : Int32) else (if (hi.toInt64) < pe then (0 : Int32) else (1 : Int32)))) := ⟨_, rfl⟩
      have pre79 : ∀ t, Steps p.tables e below (T76.setTop (mkF m 182 #[.val (.int p0), .val (.int p1), .val (.long p2), .second, .val (.int p3), .val (.int (own_mx (1 : Int32) (p0 &&& (2147483647 : Int32)))), .val (.int (own_mx (1 : Int32) (p1 &&& (2147483647 : Int32)))), .val (.int lo), .val (.int hi), .val (.int v50), .val (.int (((p3.toUInt32 >>> ((1 : Int32) &&& 31).toUInt32).toInt32) &&& (3 : Int32))), .val (.long pe), .second, .val (.ref b130), .val (.int (own_wr v50 pe lo hi)), .unset] [(.int v182)])) t → Steps p.tables e below (s₁.setTop (entryFrame m #[(.int p0), (.int p1), (.long p2), (.int p3)] maxLocals)) t := by
        intro t kont
        refine pre78 t ?_
        by_cases j_160 : pe < (lo.toInt64)
        · rw [hv182, if_pos j_160] at kont
          show Steps p.tables e below (T76.setTop (mkF m 160 #[.val (.int p0), .val (.int p1), .val (.long p2), .second, .val (.int p3), .val (.int (own_mx (1 : Int32) (p0 &&& (2147483647 : Int32)))), .val (.int (own_mx (1 : Int32) (p1 &&& (2147483647 : Int32)))), .val (.int lo), .val (.int hi), .val (.int v50), .val (.int (((p3.toUInt32 >>> ((1 : Int32) &&& 31).toUInt32).toInt32) &&& (3 : Int32))), .val (.long pe), .second, .val (.ref b130), .val (.int (own_wr v50 pe lo hi)), .unset] [(.int (lcmpW pe (lo.toInt64)))])) _
          refine XS.ifYes X76.here hx rfl (pc0 := 160) (pc' := 177) rfl (hb hby at_160) rfl ((if0 _ _).trans (tlt ((lw_lt _ _).mpr j_160)).1) (by decide) (by decide) ?_
          show Steps p.tables e below (T76.setTop (mkF m 177 #[.val (.int p0), .val (.int p1), .val (.long p2), .second, .val (.int p3), .val (.int (own_mx (1 : Int32) (p0 &&& (2147483647 : Int32)))), .val (.int (own_mx (1 : Int32) (p1 &&& (2147483647 : Int32)))), .val (.int lo), .val (.int hi), .val (.int v50), .val (.int (((p3.toUInt32 >>> ((1 : Int32) &&& 31).toUInt32).toInt32) &&& (3 : Int32))), .val (.long pe), .second, .val (.ref b130), .val (.int (own_wr v50 pe lo hi)), .unset] [])) _
          refine XS.iconst X76.here hx rfl (hb hby at_177) ?_
          show Steps p.tables e below (T76.setTop (mkF m 178 #[.val (.int p0), .val (.int p1), .val (.long p2), .second, .val (.int p3), .val (.int (own_mx (1 : Int32) (p0 &&& (2147483647 : Int32)))), .val (.int (own_mx (1 : Int32) (p1 &&& (2147483647 : Int32)))), .val (.int lo), .val (.int hi), .val (.int v50), .val (.int (((p3.toUInt32 >>> ((1 : Int32) &&& 31).toUInt32).toInt32) &&& (3 : Int32))), .val (.long pe), .second, .val (.ref b130), .val (.int (own_wr v50 pe lo hi)), .unset] [(.int (1 : Int32))])) _
          refine XS.goto X76.here hx rfl (pc0 := 178) (pc' := 182) rfl (hb hby at_178) (by decide) (by decide) ?_
          exact kont
        · by_cases j_165 : v50 = (0 : Int32)
          · rw [hv182, if_neg j_160, if_pos j_165] at kont
            show Steps p.tables e below (T76.setTop (mkF m 160 #[.val (.int p0), .val (.int p1), .val (.long p2), .second, .val (.int p3), .val (.int (own_mx (1 : Int32) (p0 &&& (2147483647 : Int32)))), .val (.int (own_mx (1 : Int32) (p1 &&& (2147483647 : Int32)))), .val (.int lo), .val (.int hi), .val (.int v50), .val (.int (((p3.toUInt32 >>> ((1 : Int32) &&& 31).toUInt32).toInt32) &&& (3 : Int32))), .val (.long pe), .second, .val (.ref b130), .val (.int (own_wr v50 pe lo hi)), .unset] [(.int (lcmpW pe (lo.toInt64)))])) _
            refine XS.ifNo X76.here hx rfl (hb hby at_160) rfl ((if0 _ _).trans (flt (fun q => j_160 ((lw_lt _ _).mp q))).1) ?_
            show Steps p.tables e below (T76.setTop (mkF m 163 #[.val (.int p0), .val (.int p1), .val (.long p2), .second, .val (.int p3), .val (.int (own_mx (1 : Int32) (p0 &&& (2147483647 : Int32)))), .val (.int (own_mx (1 : Int32) (p1 &&& (2147483647 : Int32)))), .val (.int lo), .val (.int hi), .val (.int v50), .val (.int (((p3.toUInt32 >>> ((1 : Int32) &&& 31).toUInt32).toInt32) &&& (3 : Int32))), .val (.long pe), .second, .val (.ref b130), .val (.int (own_wr v50 pe lo hi)), .unset] [])) _
            refine XS.iload X76.here hx rfl (hb hby at_163) rfl ?_
            show Steps p.tables e below (T76.setTop (mkF m 165 #[.val (.int p0), .val (.int p1), .val (.long p2), .second, .val (.int p3), .val (.int (own_mx (1 : Int32) (p0 &&& (2147483647 : Int32)))), .val (.int (own_mx (1 : Int32) (p1 &&& (2147483647 : Int32)))), .val (.int lo), .val (.int hi), .val (.int v50), .val (.int (((p3.toUInt32 >>> ((1 : Int32) &&& 31).toUInt32).toInt32) &&& (3 : Int32))), .val (.long pe), .second, .val (.ref b130), .val (.int (own_wr v50 pe lo hi)), .unset] [(.int v50)])) _
            refine XS.ifYes X76.here hx rfl (pc0 := 165) (pc' := 181) rfl (hb hby at_165) rfl ((if0 _ _).trans (teq j_165).1) (by decide) (by decide) ?_
            show Steps p.tables e below (T76.setTop (mkF m 181 #[.val (.int p0), .val (.int p1), .val (.long p2), .second, .val (.int p3), .val (.int (own_mx (1 : Int32) (p0 &&& (2147483647 : Int32)))), .val (.int (own_mx (1 : Int32) (p1 &&& (2147483647 : Int32)))), .val (.int lo), .val (.int hi), .val (.int v50), .val (.int (((p3.toUInt32 >>> ((1 : Int32) &&& 31).toUInt32).toInt32) &&& (3 : Int32))), .val (.long pe), .second, .val (.ref b130), .val (.int (own_wr v50 pe lo hi)), .unset] [])) _
            refine XS.iconst X76.here hx rfl (hb hby at_181) ?_
            exact kont
          · by_cases j_174 : (hi.toInt64) < pe
            · rw [hv182, if_neg j_160, if_neg j_165, if_pos j_174] at kont
              show Steps p.tables e below (T76.setTop (mkF m 160 #[.val (.int p0), .val (.int p1), .val (.long p2), .second, .val (.int p3), .val (.int (own_mx (1 : Int32) (p0 &&& (2147483647 : Int32)))), .val (.int (own_mx (1 : Int32) (p1 &&& (2147483647 : Int32)))), .val (.int lo), .val (.int hi), .val (.int v50), .val (.int (((p3.toUInt32 >>> ((1 : Int32) &&& 31).toUInt32).toInt32) &&& (3 : Int32))), .val (.long pe), .second, .val (.ref b130), .val (.int (own_wr v50 pe lo hi)), .unset] [(.int (lcmpW pe (lo.toInt64)))])) _
              refine XS.ifNo X76.here hx rfl (hb hby at_160) rfl ((if0 _ _).trans (flt (fun q => j_160 ((lw_lt _ _).mp q))).1) ?_
              show Steps p.tables e below (T76.setTop (mkF m 163 #[.val (.int p0), .val (.int p1), .val (.long p2), .second, .val (.int p3), .val (.int (own_mx (1 : Int32) (p0 &&& (2147483647 : Int32)))), .val (.int (own_mx (1 : Int32) (p1 &&& (2147483647 : Int32)))), .val (.int lo), .val (.int hi), .val (.int v50), .val (.int (((p3.toUInt32 >>> ((1 : Int32) &&& 31).toUInt32).toInt32) &&& (3 : Int32))), .val (.long pe), .second, .val (.ref b130), .val (.int (own_wr v50 pe lo hi)), .unset] [])) _
              refine XS.iload X76.here hx rfl (hb hby at_163) rfl ?_
              show Steps p.tables e below (T76.setTop (mkF m 165 #[.val (.int p0), .val (.int p1), .val (.long p2), .second, .val (.int p3), .val (.int (own_mx (1 : Int32) (p0 &&& (2147483647 : Int32)))), .val (.int (own_mx (1 : Int32) (p1 &&& (2147483647 : Int32)))), .val (.int lo), .val (.int hi), .val (.int v50), .val (.int (((p3.toUInt32 >>> ((1 : Int32) &&& 31).toUInt32).toInt32) &&& (3 : Int32))), .val (.long pe), .second, .val (.ref b130), .val (.int (own_wr v50 pe lo hi)), .unset] [(.int v50)])) _
              refine XS.ifNo X76.here hx rfl (hb hby at_165) rfl ((if0 _ _).trans (feq j_165).1) ?_
              show Steps p.tables e below (T76.setTop (mkF m 168 #[.val (.int p0), .val (.int p1), .val (.long p2), .second, .val (.int p3), .val (.int (own_mx (1 : Int32) (p0 &&& (2147483647 : Int32)))), .val (.int (own_mx (1 : Int32) (p1 &&& (2147483647 : Int32)))), .val (.int lo), .val (.int hi), .val (.int v50), .val (.int (((p3.toUInt32 >>> ((1 : Int32) &&& 31).toUInt32).toInt32) &&& (3 : Int32))), .val (.long pe), .second, .val (.ref b130), .val (.int (own_wr v50 pe lo hi)), .unset] [])) _
              refine XS.lload X76.here hx rfl (hb hby at_168) rfl ?_
              show Steps p.tables e below (T76.setTop (mkF m 170 #[.val (.int p0), .val (.int p1), .val (.long p2), .second, .val (.int p3), .val (.int (own_mx (1 : Int32) (p0 &&& (2147483647 : Int32)))), .val (.int (own_mx (1 : Int32) (p1 &&& (2147483647 : Int32)))), .val (.int lo), .val (.int hi), .val (.int v50), .val (.int (((p3.toUInt32 >>> ((1 : Int32) &&& 31).toUInt32).toInt32) &&& (3 : Int32))), .val (.long pe), .second, .val (.ref b130), .val (.int (own_wr v50 pe lo hi)), .unset] [(.long pe)])) _
              refine XS.iload X76.here hx rfl (hb hby at_170) rfl ?_
              show Steps p.tables e below (T76.setTop (mkF m 172 #[.val (.int p0), .val (.int p1), .val (.long p2), .second, .val (.int p3), .val (.int (own_mx (1 : Int32) (p0 &&& (2147483647 : Int32)))), .val (.int (own_mx (1 : Int32) (p1 &&& (2147483647 : Int32)))), .val (.int lo), .val (.int hi), .val (.int v50), .val (.int (((p3.toUInt32 >>> ((1 : Int32) &&& 31).toUInt32).toInt32) &&& (3 : Int32))), .val (.long pe), .second, .val (.ref b130), .val (.int (own_wr v50 pe lo hi)), .unset] [(.int hi), (.long pe)])) _
              refine XS.i2l X76.here hx rfl (hb hby at_172) rfl ?_
              show Steps p.tables e below (T76.setTop (mkF m 173 #[.val (.int p0), .val (.int p1), .val (.long p2), .second, .val (.int p3), .val (.int (own_mx (1 : Int32) (p0 &&& (2147483647 : Int32)))), .val (.int (own_mx (1 : Int32) (p1 &&& (2147483647 : Int32)))), .val (.int lo), .val (.int hi), .val (.int v50), .val (.int (((p3.toUInt32 >>> ((1 : Int32) &&& 31).toUInt32).toInt32) &&& (3 : Int32))), .val (.long pe), .second, .val (.ref b130), .val (.int (own_wr v50 pe lo hi)), .unset] [(.long (hi.toInt64)), (.long pe)])) _
              refine XS.lcmp X76.here hx rfl (hb hby at_173) rfl ?_
              show Steps p.tables e below (T76.setTop (mkF m 174 #[.val (.int p0), .val (.int p1), .val (.long p2), .second, .val (.int p3), .val (.int (own_mx (1 : Int32) (p0 &&& (2147483647 : Int32)))), .val (.int (own_mx (1 : Int32) (p1 &&& (2147483647 : Int32)))), .val (.int lo), .val (.int hi), .val (.int v50), .val (.int (((p3.toUInt32 >>> ((1 : Int32) &&& 31).toUInt32).toInt32) &&& (3 : Int32))), .val (.long pe), .second, .val (.ref b130), .val (.int (own_wr v50 pe lo hi)), .unset] [(.int (lcmpW pe (hi.toInt64)))])) _
              refine XS.ifYes X76.here hx rfl (pc0 := 174) (pc' := 181) rfl (hb hby at_174) rfl ((if0 _ _).trans (tlt ((lw_gt _ _).mpr j_174)).2.2.1) (by decide) (by decide) ?_
              show Steps p.tables e below (T76.setTop (mkF m 181 #[.val (.int p0), .val (.int p1), .val (.long p2), .second, .val (.int p3), .val (.int (own_mx (1 : Int32) (p0 &&& (2147483647 : Int32)))), .val (.int (own_mx (1 : Int32) (p1 &&& (2147483647 : Int32)))), .val (.int lo), .val (.int hi), .val (.int v50), .val (.int (((p3.toUInt32 >>> ((1 : Int32) &&& 31).toUInt32).toInt32) &&& (3 : Int32))), .val (.long pe), .second, .val (.ref b130), .val (.int (own_wr v50 pe lo hi)), .unset] [])) _
              refine XS.iconst X76.here hx rfl (hb hby at_181) ?_
              exact kont
            · rw [hv182, if_neg j_160, if_neg j_165, if_neg j_174] at kont
              show Steps p.tables e below (T76.setTop (mkF m 160 #[.val (.int p0), .val (.int p1), .val (.long p2), .second, .val (.int p3), .val (.int (own_mx (1 : Int32) (p0 &&& (2147483647 : Int32)))), .val (.int (own_mx (1 : Int32) (p1 &&& (2147483647 : Int32)))), .val (.int lo), .val (.int hi), .val (.int v50), .val (.int (((p3.toUInt32 >>> ((1 : Int32) &&& 31).toUInt32).toInt32) &&& (3 : Int32))), .val (.long pe), .second, .val (.ref b130), .val (.int (own_wr v50 pe lo hi)), .unset] [(.int (lcmpW pe (lo.toInt64)))])) _
              refine XS.ifNo X76.here hx rfl (hb hby at_160) rfl ((if0 _ _).trans (flt (fun q => j_160 ((lw_lt _ _).mp q))).1) ?_
              show Steps p.tables e below (T76.setTop (mkF m 163 #[.val (.int p0), .val (.int p1), .val (.long p2), .second, .val (.int p3), .val (.int (own_mx (1 : Int32) (p0 &&& (2147483647 : Int32)))), .val (.int (own_mx (1 : Int32) (p1 &&& (2147483647 : Int32)))), .val (.int lo), .val (.int hi), .val (.int v50), .val (.int (((p3.toUInt32 >>> ((1 : Int32) &&& 31).toUInt32).toInt32) &&& (3 : Int32))), .val (.long pe), .second, .val (.ref b130), .val (.int (own_wr v50 pe lo hi)), .unset] [])) _
              refine XS.iload X76.here hx rfl (hb hby at_163) rfl ?_
              show Steps p.tables e below (T76.setTop (mkF m 165 #[.val (.int p0), .val (.int p1), .val (.long p2), .second, .val (.int p3), .val (.int (own_mx (1 : Int32) (p0 &&& (2147483647 : Int32)))), .val (.int (own_mx (1 : Int32) (p1 &&& (2147483647 : Int32)))), .val (.int lo), .val (.int hi), .val (.int v50), .val (.int (((p3.toUInt32 >>> ((1 : Int32) &&& 31).toUInt32).toInt32) &&& (3 : Int32))), .val (.long pe), .second, .val (.ref b130), .val (.int (own_wr v50 pe lo hi)), .unset] [(.int v50)])) _
              refine XS.ifNo X76.here hx rfl (hb hby at_165) rfl ((if0 _ _).trans (feq j_165).1) ?_
              show Steps p.tables e below (T76.setTop (mkF m 168 #[.val (.int p0), .val (.int p1), .val (.long p2), .second, .val (.int p3), .val (.int (own_mx (1 : Int32) (p0 &&& (2147483647 : Int32)))), .val (.int (own_mx (1 : Int32) (p1 &&& (2147483647 : Int32)))), .val (.int lo), .val (.int hi), .val (.int v50), .val (.int (((p3.toUInt32 >>> ((1 : Int32) &&& 31).toUInt32).toInt32) &&& (3 : Int32))), .val (.long pe), .second, .val (.ref b130), .val (.int (own_wr v50 pe lo hi)), .unset] [])) _
              refine XS.lload X76.here hx rfl (hb hby at_168) rfl ?_
              show Steps p.tables e below (T76.setTop (mkF m 170 #[.val (.int p0), .val (.int p1), .val (.long p2), .second, .val (.int p3), .val (.int (own_mx (1 : Int32) (p0 &&& (2147483647 : Int32)))), .val (.int (own_mx (1 : Int32) (p1 &&& (2147483647 : Int32)))), .val (.int lo), .val (.int hi), .val (.int v50), .val (.int (((p3.toUInt32 >>> ((1 : Int32) &&& 31).toUInt32).toInt32) &&& (3 : Int32))), .val (.long pe), .second, .val (.ref b130), .val (.int (own_wr v50 pe lo hi)), .unset] [(.long pe)])) _
              refine XS.iload X76.here hx rfl (hb hby at_170) rfl ?_
              show Steps p.tables e below (T76.setTop (mkF m 172 #[.val (.int p0), .val (.int p1), .val (.long p2), .second, .val (.int p3), .val (.int (own_mx (1 : Int32) (p0 &&& (2147483647 : Int32)))), .val (.int (own_mx (1 : Int32) (p1 &&& (2147483647 : Int32)))), .val (.int lo), .val (.int hi), .val (.int v50), .val (.int (((p3.toUInt32 >>> ((1 : Int32) &&& 31).toUInt32).toInt32) &&& (3 : Int32))), .val (.long pe), .second, .val (.ref b130), .val (.int (own_wr v50 pe lo hi)), .unset] [(.int hi), (.long pe)])) _
              refine XS.i2l X76.here hx rfl (hb hby at_172) rfl ?_
              show Steps p.tables e below (T76.setTop (mkF m 173 #[.val (.int p0), .val (.int p1), .val (.long p2), .second, .val (.int p3), .val (.int (own_mx (1 : Int32) (p0 &&& (2147483647 : Int32)))), .val (.int (own_mx (1 : Int32) (p1 &&& (2147483647 : Int32)))), .val (.int lo), .val (.int hi), .val (.int v50), .val (.int (((p3.toUInt32 >>> ((1 : Int32) &&& 31).toUInt32).toInt32) &&& (3 : Int32))), .val (.long pe), .second, .val (.ref b130), .val (.int (own_wr v50 pe lo hi)), .unset] [(.long (hi.toInt64)), (.long pe)])) _
              refine XS.lcmp X76.here hx rfl (hb hby at_173) rfl ?_
              show Steps p.tables e below (T76.setTop (mkF m 174 #[.val (.int p0), .val (.int p1), .val (.long p2), .second, .val (.int p3), .val (.int (own_mx (1 : Int32) (p0 &&& (2147483647 : Int32)))), .val (.int (own_mx (1 : Int32) (p1 &&& (2147483647 : Int32)))), .val (.int lo), .val (.int hi), .val (.int v50), .val (.int (((p3.toUInt32 >>> ((1 : Int32) &&& 31).toUInt32).toInt32) &&& (3 : Int32))), .val (.long pe), .second, .val (.ref b130), .val (.int (own_wr v50 pe lo hi)), .unset] [(.int (lcmpW pe (hi.toInt64)))])) _
              refine XS.ifNo X76.here hx rfl (hb hby at_174) rfl ((if0 _ _).trans (flt (fun q => j_174 ((lw_gt _ _).mp q))).2.2.1) ?_
              show Steps p.tables e below (T76.setTop (mkF m 177 #[.val (.int p0), .val (.int p1), .val (.long p2), .second, .val (.int p3), .val (.int (own_mx (1 : Int32) (p0 &&& (2147483647 : Int32)))), .val (.int (own_mx (1 : Int32) (p1 &&& (2147483647 : Int32)))), .val (.int lo), .val (.int hi), .val (.int v50), .val (.int (((p3.toUInt32 >>> ((1 : Int32) &&& 31).toUInt32).toInt32) &&& (3 : Int32))), .val (.long pe), .second, .val (.ref b130), .val (.int (own_wr v50 pe lo hi)), .unset] [])) _
              refine XS.iconst X76.here hx rfl (hb hby at_177) ?_
              show Steps p.tables e below (T76.setTop (mkF m 178 #[.val (.int p0), .val (.int p1), .val (.long p2), .second, .val (.int p3), .val (.int (own_mx (1 : Int32) (p0 &&& (2147483647 : Int32)))), .val (.int (own_mx (1 : Int32) (p1 &&& (2147483647 : Int32)))), .val (.int lo), .val (.int hi), .val (.int v50), .val (.int (((p3.toUInt32 >>> ((1 : Int32) &&& 31).toUInt32).toInt32) &&& (3 : Int32))), .val (.long pe), .second, .val (.ref b130), .val (.int (own_wr v50 pe lo hi)), .unset] [(.int (1 : Int32))])) _
              refine XS.goto X76.here hx rfl (pc0 := 178) (pc' := 182) rfl (hb hby at_178) (by decide) (by decide) ?_
              exact kont
      have pre80 : ∀ t, Steps p.tables e below (T76.setTop (mkF m 188 #[.val (.int p0), .val (.int p1), .val (.long p2), .second, .val (.int p3), .val (.int (own_mx (1 : Int32) (p0 &&& (2147483647 : Int32)))), .val (.int (own_mx (1 : Int32) (p1 &&& (2147483647 : Int32)))), .val (.int lo), .val (.int hi), .val (.int v50), .val (.int (((p3.toUInt32 >>> ((1 : Int32) &&& 31).toUInt32).toInt32) &&& (3 : Int32))), .val (.long pe), .second, .val (.ref b130), .val (.int (own_wr v50 pe lo hi)), .val (.int v182)] [(.int v182), (.int (own_wr v50 pe lo hi))])) t → Steps p.tables e below (s₁.setTop (entryFrame m #[(.int p0), (.int p1), (.long p2), (.int p3)] maxLocals)) t := by
        intro t kont
        refine pre79 t ?_
        show Steps p.tables e below (T76.setTop (mkF m 182 #[.val (.int p0), .val (.int p1), .val (.long p2), .second, .val (.int p3), .val (.int (own_mx (1 : Int32) (p0 &&& (2147483647 : Int32)))), .val (.int (own_mx (1 : Int32) (p1 &&& (2147483647 : Int32)))), .val (.int lo), .val (.int hi), .val (.int v50), .val (.int (((p3.toUInt32 >>> ((1 : Int32) &&& 31).toUInt32).toInt32) &&& (3 : Int32))), .val (.long pe), .second, .val (.ref b130), .val (.int (own_wr v50 pe lo hi)), .unset] [(.int v182)])) _
        refine XS.istore X76.here hx rfl (hb hby at_182) rfl (l' := #[.val (.int p0), .val (.int p1), .val (.long p2), .second, .val (.int p3), .val (.int (own_mx (1 : Int32) (p0 &&& (2147483647 : Int32)))), .val (.int (own_mx (1 : Int32) (p1 &&& (2147483647 : Int32)))), .val (.int lo), .val (.int hi), .val (.int v50), .val (.int (((p3.toUInt32 >>> ((1 : Int32) &&& 31).toUInt32).toInt32) &&& (3 : Int32))), .val (.long pe), .second, .val (.ref b130), .val (.int (own_wr v50 pe lo hi)), .val (.int v182)]) rfl ?_
        show Steps p.tables e below (T76.setTop (mkF m 184 #[.val (.int p0), .val (.int p1), .val (.long p2), .second, .val (.int p3), .val (.int (own_mx (1 : Int32) (p0 &&& (2147483647 : Int32)))), .val (.int (own_mx (1 : Int32) (p1 &&& (2147483647 : Int32)))), .val (.int lo), .val (.int hi), .val (.int v50), .val (.int (((p3.toUInt32 >>> ((1 : Int32) &&& 31).toUInt32).toInt32) &&& (3 : Int32))), .val (.long pe), .second, .val (.ref b130), .val (.int (own_wr v50 pe lo hi)), .val (.int v182)] [])) _
        refine XS.iload X76.here hx rfl (hb hby at_184) rfl ?_
        show Steps p.tables e below (T76.setTop (mkF m 186 #[.val (.int p0), .val (.int p1), .val (.long p2), .second, .val (.int p3), .val (.int (own_mx (1 : Int32) (p0 &&& (2147483647 : Int32)))), .val (.int (own_mx (1 : Int32) (p1 &&& (2147483647 : Int32)))), .val (.int lo), .val (.int hi), .val (.int v50), .val (.int (((p3.toUInt32 >>> ((1 : Int32) &&& 31).toUInt32).toInt32) &&& (3 : Int32))), .val (.long pe), .second, .val (.ref b130), .val (.int (own_wr v50 pe lo hi)), .val (.int v182)] [(.int (own_wr v50 pe lo hi))])) _
        refine XS.iload X76.here hx rfl (hb hby at_186) rfl ?_
        exact kont
      by_cases hc188 : (own_wr v50 pe lo hi) = v182
      · have pre81 : ∀ t, Steps p.tables e below (T76.setTop (mkF m 196 #[.val (.int p0), .val (.int p1), .val (.long p2), .second, .val (.int p3), .val (.int (own_mx (1 : Int32) (p0 &&& (2147483647 : Int32)))), .val (.int (own_mx (1 : Int32) (p1 &&& (2147483647 : Int32)))), .val (.int lo), .val (.int hi), .val (.int v50), .val (.int (((p3.toUInt32 >>> ((1 : Int32) &&& 31).toUInt32).toInt32) &&& (3 : Int32))), .val (.long pe), .second, .val (.ref b130), .val (.int (own_wr v50 pe lo hi)), .val (.int v182)] [(.int (1 : Int32))])) t → Steps p.tables e below (s₁.setTop (entryFrame m #[(.int p0), (.int p1), (.long p2), (.int p3)] maxLocals)) t := by
          intro t kont
          refine pre80 t ?_
          show Steps p.tables e below (T76.setTop (mkF m 188 #[.val (.int p0), .val (.int p1), .val (.long p2), .second, .val (.int p3), .val (.int (own_mx (1 : Int32) (p0 &&& (2147483647 : Int32)))), .val (.int (own_mx (1 : Int32) (p1 &&& (2147483647 : Int32)))), .val (.int lo), .val (.int hi), .val (.int v50), .val (.int (((p3.toUInt32 >>> ((1 : Int32) &&& 31).toUInt32).toInt32) &&& (3 : Int32))), .val (.long pe), .second, .val (.ref b130), .val (.int (own_wr v50 pe lo hi)), .val (.int v182)] [(.int v182), (.int (own_wr v50 pe lo hi))])) _
          refine XS.icmpNo X76.here hx rfl (hb hby at_188) rfl (teq hc188).2 ?_
          show Steps p.tables e below (T76.setTop (mkF m 191 #[.val (.int p0), .val (.int p1), .val (.long p2), .second, .val (.int p3), .val (.int (own_mx (1 : Int32) (p0 &&& (2147483647 : Int32)))), .val (.int (own_mx (1 : Int32) (p1 &&& (2147483647 : Int32)))), .val (.int lo), .val (.int hi), .val (.int v50), .val (.int (((p3.toUInt32 >>> ((1 : Int32) &&& 31).toUInt32).toInt32) &&& (3 : Int32))), .val (.long pe), .second, .val (.ref b130), .val (.int (own_wr v50 pe lo hi)), .val (.int v182)] [])) _
          refine XS.iconst X76.here hx rfl (hb hby at_191) ?_
          show Steps p.tables e below (T76.setTop (mkF m 192 #[.val (.int p0), .val (.int p1), .val (.long p2), .second, .val (.int p3), .val (.int (own_mx (1 : Int32) (p0 &&& (2147483647 : Int32)))), .val (.int (own_mx (1 : Int32) (p1 &&& (2147483647 : Int32)))), .val (.int lo), .val (.int hi), .val (.int v50), .val (.int (((p3.toUInt32 >>> ((1 : Int32) &&& 31).toUInt32).toInt32) &&& (3 : Int32))), .val (.long pe), .second, .val (.ref b130), .val (.int (own_wr v50 pe lo hi)), .val (.int v182)] [(.int (1 : Int32))])) _
          refine XS.goto X76.here hx rfl (pc0 := 192) (pc' := 196) rfl (hb hby at_192) (by decide) (by decide) ?_
          exact kont
        obtain ⟨fs, hr, hrun, hended, hW, hsame⟩ := X76.leave (v := some (.int (1 : Int32))) (fun h => by rw [Bd.returns] at h; cases h)
        refine ⟨_, _, pre81 _ ?_, hrun, hended, _, _, rfl, ?_, ⟨_, rfl⟩, hW, hsame.mono (by decide) (by decide)⟩
        · exact retN X76 hx (t := .boolean) Bd.returns (by simp) (hb hby at_196) hr
        · show Q0 Z p0 p1 p2 p3 h0 n0 _ T76.heap _
          rw [e76]
          exact ⟨rfl, N76⟩
      · exfalso
        exact hc188 (own_plain p3 v50 lo hi v182 pe hlh hv50 hv182)
    · have pre82 : ∀ t, Steps p.tables e below (T46.setTop (mkF m 102 #[.val (.int p0), .val (.int p1), .val (.long p2), .second, .val (.int p3), .val (.int (own_mx (1 : Int32) (p0 &&& (2147483647 : Int32)))), .val (.int (own_mx (1 : Int32) (p1 &&& (2147483647 : Int32)))), .val (.int lo), .val (.int hi), .val (.int v50), .val (.int (((p3.toUInt32 >>> ((1 : Int32) &&& 31).toUInt32).toInt32) &&& (3 : Int32))), .unset, .unset, .unset, .unset, .unset] [(.int (2 : Int32)), (.int (((p3.toUInt32 >>> ((1 : Int32) &&& 31).toUInt32).toInt32) &&& (3 : Int32)))])) t → Steps p.tables e below (s₁.setTop (entryFrame m #[(.int p0), (.int p1), (.long p2), (.int p3)] maxLocals)) t := by
        intro t kont
        refine pre65 t ?_
        show Steps p.tables e below (T46.setTop (mkF m 78 #[.val (.int p0), .val (.int p1), .val (.long p2), .second, .val (.int p3), .val (.int (own_mx (1 : Int32) (p0 &&& (2147483647 : Int32)))), .val (.int (own_mx (1 : Int32) (p1 &&& (2147483647 : Int32)))), .val (.int lo), .val (.int hi), .val (.int v50), .val (.int (((p3.toUInt32 >>> ((1 : Int32) &&& 31).toUInt32).toInt32) &&& (3 : Int32))), .unset, .unset, .unset, .unset, .unset] [(.int (1 : Int32)), (.int (((p3.toUInt32 >>> ((1 : Int32) &&& 31).toUInt32).toInt32) &&& (3 : Int32)))])) _
        refine XS.icmpYes X46.here hx rfl (pc0 := 78) (pc' := 99) rfl (hb hby at_78) rfl (feq hc78).2 (by decide) (by decide) ?_
        show Steps p.tables e below (T46.setTop (mkF m 99 #[.val (.int p0), .val (.int p1), .val (.long p2), .second, .val (.int p3), .val (.int (own_mx (1 : Int32) (p0 &&& (2147483647 : Int32)))), .val (.int (own_mx (1 : Int32) (p1 &&& (2147483647 : Int32)))), .val (.int lo), .val (.int hi), .val (.int v50), .val (.int (((p3.toUInt32 >>> ((1 : Int32) &&& 31).toUInt32).toInt32) &&& (3 : Int32))), .unset, .unset, .unset, .unset, .unset] [])) _
        refine XS.iload X46.here hx rfl (hb hby at_99) rfl ?_
        show Steps p.tables e below (T46.setTop (mkF m 101 #[.val (.int p0), .val (.int p1), .val (.long p2), .second, .val (.int p3), .val (.int (own_mx (1 : Int32) (p0 &&& (2147483647 : Int32)))), .val (.int (own_mx (1 : Int32) (p1 &&& (2147483647 : Int32)))), .val (.int lo), .val (.int hi), .val (.int v50), .val (.int (((p3.toUInt32 >>> ((1 : Int32) &&& 31).toUInt32).toInt32) &&& (3 : Int32))), .unset, .unset, .unset, .unset, .unset] [(.int (((p3.toUInt32 >>> ((1 : Int32) &&& 31).toUInt32).toInt32) &&& (3 : Int32)))])) _
        refine XS.iconst X46.here hx rfl (hb hby at_101) ?_
        exact kont
      by_cases hc102 : (((p3.toUInt32 >>> ((1 : Int32) &&& 31).toUInt32).toInt32) &&& (3 : Int32)) = (2 : Int32)
      · have pre83 : ∀ t, Steps p.tables e below (T46.setTop (mkF m 115 #[.val (.int p0), .val (.int p1), .val (.long p2), .second, .val (.int p3), .val (.int (own_mx (1 : Int32) (p0 &&& (2147483647 : Int32)))), .val (.int (own_mx (1 : Int32) (p1 &&& (2147483647 : Int32)))), .val (.int lo), .val (.int hi), .val (.int v50), .val (.int (((p3.toUInt32 >>> ((1 : Int32) &&& 31).toUInt32).toInt32) &&& (3 : Int32))), .unset, .unset, .unset, .unset, .unset] [(.long ((hi.toInt64) + (p2 % (3 : Int64)))), (.long (0 : Int64))])) t → Steps p.tables e below (s₁.setTop (entryFrame m #[(.int p0), (.int p1), (.long p2), (.int p3)] maxLocals)) t := by
          intro t kont
          refine pre82 t ?_
          show Steps p.tables e below (T46.setTop (mkF m 102 #[.val (.int p0), .val (.int p1), .val (.long p2), .second, .val (.int p3), .val (.int (own_mx (1 : Int32) (p0 &&& (2147483647 : Int32)))), .val (.int (own_mx (1 : Int32) (p1 &&& (2147483647 : Int32)))), .val (.int lo), .val (.int hi), .val (.int v50), .val (.int (((p3.toUInt32 >>> ((1 : Int32) &&& 31).toUInt32).toInt32) &&& (3 : Int32))), .unset, .unset, .unset, .unset, .unset] [(.int (2 : Int32)), (.int (((p3.toUInt32 >>> ((1 : Int32) &&& 31).toUInt32).toInt32) &&& (3 : Int32)))])) _
          refine XS.icmpNo X46.here hx rfl (hb hby at_102) rfl (teq hc102).2 ?_
          show Steps p.tables e below (T46.setTop (mkF m 105 #[.val (.int p0), .val (.int p1), .val (.long p2), .second, .val (.int p3), .val (.int (own_mx (1 : Int32) (p0 &&& (2147483647 : Int32)))), .val (.int (own_mx (1 : Int32) (p1 &&& (2147483647 : Int32)))), .val (.int lo), .val (.int hi), .val (.int v50), .val (.int (((p3.toUInt32 >>> ((1 : Int32) &&& 31).toUInt32).toInt32) &&& (3 : Int32))), .unset, .unset, .unset, .unset, .unset] [])) _
          refine XS.lconst X46.here hx rfl (hb hby at_105) ?_
          show Steps p.tables e below (T46.setTop (mkF m 106 #[.val (.int p0), .val (.int p1), .val (.long p2), .second, .val (.int p3), .val (.int (own_mx (1 : Int32) (p0 &&& (2147483647 : Int32)))), .val (.int (own_mx (1 : Int32) (p1 &&& (2147483647 : Int32)))), .val (.int lo), .val (.int hi), .val (.int v50), .val (.int (((p3.toUInt32 >>> ((1 : Int32) &&& 31).toUInt32).toInt32) &&& (3 : Int32))), .unset, .unset, .unset, .unset, .unset] [(.long (0 : Int64))])) _
          refine XS.iload X46.here hx rfl (hb hby at_106) rfl ?_
          show Steps p.tables e below (T46.setTop (mkF m 108 #[.val (.int p0), .val (.int p1), .val (.long p2), .second, .val (.int p3), .val (.int (own_mx (1 : Int32) (p0 &&& (2147483647 : Int32)))), .val (.int (own_mx (1 : Int32) (p1 &&& (2147483647 : Int32)))), .val (.int lo), .val (.int hi), .val (.int v50), .val (.int (((p3.toUInt32 >>> ((1 : Int32) &&& 31).toUInt32).toInt32) &&& (3 : Int32))), .unset, .unset, .unset, .unset, .unset] [(.int hi), (.long (0 : Int64))])) _
          refine XS.i2l X46.here hx rfl (hb hby at_108) rfl ?_
          show Steps p.tables e below (T46.setTop (mkF m 109 #[.val (.int p0), .val (.int p1), .val (.long p2), .second, .val (.int p3), .val (.int (own_mx (1 : Int32) (p0 &&& (2147483647 : Int32)))), .val (.int (own_mx (1 : Int32) (p1 &&& (2147483647 : Int32)))), .val (.int lo), .val (.int hi), .val (.int v50), .val (.int (((p3.toUInt32 >>> ((1 : Int32) &&& 31).toUInt32).toInt32) &&& (3 : Int32))), .unset, .unset, .unset, .unset, .unset] [(.long (hi.toInt64)), (.long (0 : Int64))])) _
          refine XS.lloadN X46.here hx rfl (hb hby at_109) rfl ?_
          show Steps p.tables e below (T46.setTop (mkF m 110 #[.val (.int p0), .val (.int p1), .val (.long p2), .second, .val (.int p3), .val (.int (own_mx (1 : Int32) (p0 &&& (2147483647 : Int32)))), .val (.int (own_mx (1 : Int32) (p1 &&& (2147483647 : Int32)))), .val (.int lo), .val (.int hi), .val (.int v50), .val (.int (((p3.toUInt32 >>> ((1 : Int32) &&& 31).toUInt32).toInt32) &&& (3 : Int32))), .unset, .unset, .unset, .unset, .unset] [(.long p2), (.long (hi.toInt64)), (.long (0 : Int64))])) _
          refine X46.ldc2Long hx hown (mvT hZ (hw _ (List.mem_of_getElem? (i := 33) rfl))) (g := (mkF m 110 #[.val (.int p0), .val (.int p1), .val (.long p2), .second, .val (.int p3), .val (.int (own_mx (1 : Int32) (p0 &&& (2147483647 : Int32)))), .val (.int (own_mx (1 : Int32) (p1 &&& (2147483647 : Int32)))), .val (.int lo), .val (.int hi), .val (.int v50), .val (.int (((p3.toUInt32 >>> ((1 : Int32) &&& 31).toUInt32).toInt32) &&& (3 : Int32))), .unset, .unset, .unset, .unset, .unset] [(.long p2), (.long (hi.toInt64)), (.long (0 : Int64))])) rfl (hb hby at_110) _ ?_
          show Steps p.tables e below (T46.setTop (mkF m 113 #[.val (.int p0), .val (.int p1), .val (.long p2), .second, .val (.int p3), .val (.int (own_mx (1 : Int32) (p0 &&& (2147483647 : Int32)))), .val (.int (own_mx (1 : Int32) (p1 &&& (2147483647 : Int32)))), .val (.int lo), .val (.int hi), .val (.int v50), .val (.int (((p3.toUInt32 >>> ((1 : Int32) &&& 31).toUInt32).toInt32) &&& (3 : Int32))), .unset, .unset, .unset, .unset, .unset] [(.long (3 : Int64)), (.long p2), (.long (hi.toInt64)), (.long (0 : Int64))])) _
          refine XS.lrem X46.here hx rfl (hb hby at_113) rfl (by decide) ?_
          rw [lrem_mod]
          show Steps p.tables e below (T46.setTop (mkF m 114 #[.val (.int p0), .val (.int p1), .val (.long p2), .second, .val (.int p3), .val (.int (own_mx (1 : Int32) (p0 &&& (2147483647 : Int32)))), .val (.int (own_mx (1 : Int32) (p1 &&& (2147483647 : Int32)))), .val (.int lo), .val (.int hi), .val (.int v50), .val (.int (((p3.toUInt32 >>> ((1 : Int32) &&& 31).toUInt32).toInt32) &&& (3 : Int32))), .unset, .unset, .unset, .unset, .unset] [(.long (p2 % (3 : Int64))), (.long (hi.toInt64)), (.long (0 : Int64))])) _
          refine XS.ladd X46.here hx rfl (hb hby at_114) rfl ?_
          exact kont
        obtain ⟨_, _, ⟨T84, L84, k84, n84⟩, -, X84, ⟨Lc84, hQ84, l84, y84, z84⟩, st84⟩ := Jvm.LawKit.callS X46 hx (y := (⟨"java/lang/Math", "max", "(JJ)J"⟩ : MethodName)) hown (mvT hZ (hw _ (List.mem_of_getElem? (i := 34) rfl))) (mvT hZ (hw _ (List.mem_of_getElem? (i := 35) rfl))) (mvT hZ (hw _ (List.mem_of_getElem? (i := 3) rfl))) (mvT hZ (hw _ (List.mem_of_getElem? (i := 36) rfl))) (by decide) (backOf (W := 0) (rm7 l Z a0 hw [] (0 : Int64) ((hi.toInt64) + (p2 % (3 : Int64)))  h0 n0 Z0) hZ (hw _ (List.mem_of_getElem? (i := 36) rfl)) (hw _ (List.mem_of_getElem? (i := 3) rfl)) (by decide) (by decide)) (g := (mkF m 115 #[.val (.int p0), .val (.int p1), .val (.long p2), .second, .val (.int p3), .val (.int (own_mx (1 : Int32) (p0 &&& (2147483647 : Int32)))), .val (.int (own_mx (1 : Int32) (p1 &&& (2147483647 : Int32)))), .val (.int lo), .val (.int hi), .val (.int v50), .val (.int (((p3.toUInt32 >>> ((1 : Int32) &&& 31).toUInt32).toInt32) &&& (3 : Int32))), .unset, .unset, .unset, .unset, .unset] [(.long ((hi.toInt64) + (p2 % (3 : Int64)))), (.long (0 : Int64))])) rfl (by rw [hml]; rfl) (argsL := [(.long (0 : Int64)), (.long ((hi.toInt64) + (p2 % (3 : Int64))))]) (rest := []) (lenOf pd_4 rfl) rfl (by show 2 * 0 + _ ≤ _; exact Nat.le_of_eq rfl) (hb hby at_115) (fun _ _ => ⟨rfl, e46, (by decide : 0 + 0 ≤ _), (by decide : 0 + 0 ≤ _)⟩)
        dsimp only [Pt.U, Pt.locs, Pt.cells, Pt.slots] at X84 l84 y84 z84 st84 hQ84
        subst l84 y84 z84
        obtain ⟨rfl, N84q, e84⟩ := hQ84
        have N84 := Fr.app N46 N84q
        have pre85 : ∀ t, Steps p.tables e below (T84.setTop (mkF m 118 #[.val (.int p0), .val (.int p1), .val (.long p2), .second, .val (.int p3), .val (.int (own_mx (1 : Int32) (p0 &&& (2147483647 : Int32)))), .val (.int (own_mx (1 : Int32) (p1 &&& (2147483647 : Int32)))), .val (.int lo), .val (.int hi), .val (.int v50), .val (.int (((p3.toUInt32 >>> ((1 : Int32) &&& 31).toUInt32).toInt32) &&& (3 : Int32))), .unset, .unset, .unset, .unset, .unset] [(.long (own_mxl (0 : Int64) ((hi.toInt64) + (p2 % (3 : Int64)))))])) t → Steps p.tables e below (s₁.setTop (entryFrame m #[(.int p0), (.int p1), (.long p2), (.int p3)] maxLocals)) t := fun t kont => pre83 t (st84 _ kont)
        have pre86 : ∀ t, Steps p.tables e below (T84.setTop (mkF m 130 #[.val (.int p0), .val (.int p1), .val (.long p2), .second, .val (.int p3), .val (.int (own_mx (1 : Int32) (p0 &&& (2147483647 : Int32)))), .val (.int (own_mx (1 : Int32) (p1 &&& (2147483647 : Int32)))), .val (.int lo), .val (.int hi), .val (.int v50), .val (.int (((p3.toUInt32 >>> ((1 : Int32) &&& 31).toUInt32).toInt32) &&& (3 : Int32))), .val (.long (own_mxl (0 : Int64) ((hi.toInt64) + (p2 % (3 : Int64))))), .second, .unset, .unset, .unset] [])) t → Steps p.tables e below (s₁.setTop (entryFrame m #[(.int p0), (.int p1), (.long p2), (.int p3)] maxLocals)) t := by
          intro t kont
          refine pre85 t ?_
          show Steps p.tables e below (T84.setTop (mkF m 118 #[.val (.int p0), .val (.int p1), .val (.long p2), .second, .val (.int p3), .val (.int (own_mx (1 : Int32) (p0 &&& (2147483647 : Int32)))), .val (.int (own_mx (1 : Int32) (p1 &&& (2147483647 : Int32)))), .val (.int lo), .val (.int hi), .val (.int v50), .val (.int (((p3.toUInt32 >>> ((1 : Int32) &&& 31).toUInt32).toInt32) &&& (3 : Int32))), .unset, .unset, .unset, .unset, .unset] [(.long (own_mxl (0 : Int64) ((hi.toInt64) + (p2 % (3 : Int64)))))])) _
          refine XS.lstore X84.here hx rfl (hb hby at_118) rfl (l' := #[.val (.int p0), .val (.int p1), .val (.long p2), .second, .val (.int p3), .val (.int (own_mx (1 : Int32) (p0 &&& (2147483647 : Int32)))), .val (.int (own_mx (1 : Int32) (p1 &&& (2147483647 : Int32)))), .val (.int lo), .val (.int hi), .val (.int v50), .val (.int (((p3.toUInt32 >>> ((1 : Int32) &&& 31).toUInt32).toInt32) &&& (3 : Int32))), .val (.long (own_mxl (0 : Int64) ((hi.toInt64) + (p2 % (3 : Int64))))), .second, .unset, .unset, .unset]) rfl ?_
          show Steps p.tables e below (T84.setTop (mkF m 120 #[.val (.int p0), .val (.int p1), .val (.long p2), .second, .val (.int p3), .val (.int (own_mx (1 : Int32) (p0 &&& (2147483647 : Int32)))), .val (.int (own_mx (1 : Int32) (p1 &&& (2147483647 : Int32)))), .val (.int lo), .val (.int hi), .val (.int v50), .val (.int (((p3.toUInt32 >>> ((1 : Int32) &&& 31).toUInt32).toInt32) &&& (3 : Int32))), .val (.long (own_mxl (0 : Int64) ((hi.toInt64) + (p2 % (3 : Int64))))), .second, .unset, .unset, .unset] [])) _
          refine XS.goto X84.here hx rfl (pc0 := 120) (pc' := 130) rfl (hb hby at_120) (by decide) (by decide) ?_
          exact kont
        have hpe0 : ¬ (own_mxl (0 : Int64) ((hi.toInt64) + (p2 % (3 : Int64)))) < 0 := own_pB _
        obtain ⟨pe, hpe⟩ : ∃ z : Int64, z = (own_mxl (0 : Int64) ((hi.toInt64) + (p2 % (3 : Int64)))) := ⟨_, rfl⟩
        rw [← hpe] at pre86
        rw [← hpe] at hpe0
        obtain ⟨T87, h87, X87, e87, E87, A87, D87, -, st87⟩ := newO X84 hx hZ hown (hw _ (List.mem_of_getElem? (i := 9) rfl)) (hw _ (List.mem_of_getElem? (i := 10) rfl)) (hw _ (List.mem_of_getElem? (i := 11) rfl)) e84 (g := (mkF m 130 #[.val (.int p0), .val (.int p1), .val (.long p2), .second, .val (.int p3), .val (.int (own_mx (1 : Int32) (p0 &&& (2147483647 : Int32)))), .val (.int (own_mx (1 : Int32) (p1 &&& (2147483647 : Int32)))), .val (.int lo), .val (.int hi), .val (.int v50), .val (.int (((p3.toUInt32 >>> ((1 : Int32) &&& 31).toUInt32).toInt32) &&& (3 : Int32))), .val (.long pe), .second, .unset, .unset, .unset] [])) rfl (hb hby at_130) (by decide) (by decide)
        obtain ⟨b130, g87⟩ : ∃ z, z = h0.size := ⟨_, rfl⟩
        rw [← g87] at A87 D87 st87
        have g_b130 : n0 ≤ b130 := Nat.le_trans Z0 (Nat.le_of_eq g87.symm)
        have F87_low : Fld Z h87 b130 "com/example/even_keel/evenkeel/channel/WaterMarks" "low" "I" (.int (0 : Int32)) := D87 (Or.inr (hw _ (List.mem_of_getElem? (i := 24) rfl))) (ty := .int) (by decide)
        have F87_high : Fld Z h87 b130 "com/example/even_keel/evenkeel/channel/WaterMarks" "high" "I" (.int (0 : Int32)) := D87 (Or.inr (hw _ (List.mem_of_getElem? (i := 26) rfl))) (ty := .int) (by decide)
        have Z87 : n0 ≤ h87.size := Nat.le_trans Z0 E87.1
        have pre88 : ∀ t, Steps p.tables e below (T87.setTop (mkF m 133 #[.val (.int p0), .val (.int p1), .val (.long p2), .second, .val (.int p3), .val (.int (own_mx (1 : Int32) (p0 &&& (2147483647 : Int32)))), .val (.int (own_mx (1 : Int32) (p1 &&& (2147483647 : Int32)))), .val (.int lo), .val (.int hi), .val (.int v50), .val (.int (((p3.toUInt32 >>> ((1 : Int32) &&& 31).toUInt32).toInt32) &&& (3 : Int32))), .val (.long pe), .second, .unset, .unset, .unset] [(.ref b130)])) t → Steps p.tables e below (s₁.setTop (entryFrame m #[(.int p0), (.int p1), (.long p2), (.int p3)] maxLocals)) t := fun t kont => pre86 t (st87 _ kont)
        have pre89 : ∀ t, Steps p.tables e below (T87.setTop (mkF m 138 #[.val (.int p0), .val (.int p1), .val (.long p2), .second, .val (.int p3), .val (.int (own_mx (1 : Int32) (p0 &&& (2147483647 : Int32)))), .val (.int (own_mx (1 : Int32) (p1 &&& (2147483647 : Int32)))), .val (.int lo), .val (.int hi), .val (.int v50), .val (.int (((p3.toUInt32 >>> ((1 : Int32) &&& 31).toUInt32).toInt32) &&& (3 : Int32))), .val (.long pe), .second, .unset, .unset, .unset] [(.int hi), (.int lo), (.ref b130), (.ref b130)])) t → Steps p.tables e below (s₁.setTop (entryFrame m #[(.int p0), (.int p1), (.long p2), (.int p3)] maxLocals)) t := by
          intro t kont
          refine pre88 t ?_
          show Steps p.tables e below (T87.setTop (mkF m 133 #[.val (.int p0), .val (.int p1), .val (.long p2), .second, .val (.int p3), .val (.int (own_mx (1 : Int32) (p0 &&& (2147483647 : Int32)))), .val (.int (own_mx (1 : Int32) (p1 &&& (2147483647 : Int32)))), .val (.int lo), .val (.int hi), .val (.int v50), .val (.int (((p3.toUInt32 >>> ((1 : Int32) &&& 31).toUInt32).toInt32) &&& (3 : Int32))), .val (.long pe), .second, .unset, .unset, .unset] [(.ref b130)])) _
          refine XS.dup X87.here hx rfl (hb hby at_133) rfl rfl ?_
          show Steps p.tables e below (T87.setTop (mkF m 134 #[.val (.int p0), .val (.int p1), .val (.long p2), .second, .val (.int p3), .val (.int (own_mx (1 : Int32) (p0 &&& (2147483647 : Int32)))), .val (.int (own_mx (1 : Int32) (p1 &&& (2147483647 : Int32)))), .val (.int lo), .val (.int hi), .val (.int v50), .val (.int (((p3.toUInt32 >>> ((1 : Int32) &&& 31).toUInt32).toInt32) &&& (3 : Int32))), .val (.long pe), .second, .unset, .unset, .unset] [(.ref b130), (.ref b130)])) _
          refine XS.iload X87.here hx rfl (hb hby at_134) rfl ?_
          show Steps p.tables e below (T87.setTop (mkF m 136 #[.val (.int p0), .val (.int p1), .val (.long p2), .second, .val (.int p3), .val (.int (own_mx (1 : Int32) (p0 &&& (2147483647 : Int32)))), .val (.int (own_mx (1 : Int32) (p1 &&& (2147483647 : Int32)))), .val (.int lo), .val (.int hi), .val (.int v50), .val (.int (((p3.toUInt32 >>> ((1 : Int32) &&& 31).toUInt32).toInt32) &&& (3 : Int32))), .val (.long pe), .second, .unset, .unset, .unset] [(.int lo), (.ref b130), (.ref b130)])) _
          refine XS.iload X87.here hx rfl (hb hby at_136) rfl ?_
          exact kont
        obtain ⟨_, _, ⟨T90, L90, k90, n90⟩, -, X90, ⟨Lc90, hQ90, l90, y90, z90⟩, st90⟩ := X87.specialBack hx (y := (⟨"com/example/even_keel/evenkeel/channel/WaterMarks", "<init>", "(II)V"⟩ : MethodName)) rfl hown (mvT hZ (hw _ (List.mem_of_getElem? (i := 12) rfl))) (mvT hZ (hw _ (List.mem_of_getElem? (i := 13) rfl))) (mvT hZ (hw _ (List.mem_of_getElem? (i := 14) rfl))) (by decide) (backOf (W := 1) (rm3 l Z a0 hw [] b130 lo hi  h87 n0 Z87 A87 F87_low F87_high g_b130 (own_i1 hlh) (own_i2 hlh)) hZ (hw _ (List.mem_of_getElem? (i := 14) rfl)) (hw _ (List.mem_of_getElem? (i := 11) rfl)) (by decide) (by decide)) (g := (mkF m 138 #[.val (.int p0), .val (.int p1), .val (.long p2), .second, .val (.int p3), .val (.int (own_mx (1 : Int32) (p0 &&& (2147483647 : Int32)))), .val (.int (own_mx (1 : Int32) (p1 &&& (2147483647 : Int32)))), .val (.int lo), .val (.int hi), .val (.int v50), .val (.int (((p3.toUInt32 >>> ((1 : Int32) &&& 31).toUInt32).toInt32) &&& (3 : Int32))), .val (.long pe), .second, .unset, .unset, .unset] [(.int hi), (.int lo), (.ref b130), (.ref b130)])) rfl (by rw [hml]; rfl) (Steps.refl _) (a := b130) (argsL := [(.int lo), (.int hi)]) (rest := [(.ref b130)]) (lenOf pd_2 rfl) rfl (by show 2 * 0 + _ ≤ _; exact Nat.le_of_eq rfl) (hb hby at_138) (fun _ _ => ⟨rfl, e87, (by decide : 1 + 0 ≤ _), (by decide : 2 + 0 ≤ _)⟩)
        dsimp only [Pt.U, Pt.locs, Pt.cells, Pt.slots] at X90 l90 y90 z90 st90 hQ90
        subst l90 y90 z90
        obtain ⟨rfl, N90q, K90, qe90, ql90, qh90⟩ := hQ90
        have N90 := Fr.app N84 N90q
        have f90_0 := Exa.keep A87 K90
        have Z90 : n0 ≤ T90.heap.size := Nat.le_trans Z87 (K90).1
        have pre91 : ∀ t, Steps p.tables e below (T90.setTop (mkF m 141 #[.val (.int p0), .val (.int p1), .val (.long p2), .second, .val (.int p3), .val (.int (own_mx (1 : Int32) (p0 &&& (2147483647 : Int32)))), .val (.int (own_mx (1 : Int32) (p1 &&& (2147483647 : Int32)))), .val (.int lo), .val (.int hi), .val (.int v50), .val (.int (((p3.toUInt32 >>> ((1 : Int32) &&& 31).toUInt32).toInt32) &&& (3 : Int32))), .val (.long pe), .second, .unset, .unset, .unset] [(.ref b130)])) t → Steps p.tables e below (s₁.setTop (entryFrame m #[(.int p0), (.int p1), (.long p2), (.int p3)] maxLocals)) t := fun t kont => pre89 t (st90.trans kont)
        have pre92 : ∀ t, Steps p.tables e below (T90.setTop (mkF m 149 #[.val (.int p0), .val (.int p1), .val (.long p2), .second, .val (.int p3), .val (.int (own_mx (1 : Int32) (p0 &&& (2147483647 : Int32)))), .val (.int (own_mx (1 : Int32) (p1 &&& (2147483647 : Int32)))), .val (.int lo), .val (.int hi), .val (.int v50), .val (.int (((p3.toUInt32 >>> ((1 : Int32) &&& 31).toUInt32).toInt32) &&& (3 : Int32))), .val (.long pe), .second, .val (.ref b130), .unset, .unset] [(.long pe), (.int v50), (.ref b130)])) t → Steps p.tables e below (s₁.setTop (entryFrame m #[(.int p0), (.int p1), (.long p2), (.int p3)] maxLocals)) t := by
          intro t kont
          refine pre91 t ?_
          show Steps p.tables e below (T90.setTop (mkF m 141 #[.val (.int p0), .val (.int p1), .val (.long p2), .second, .val (.int p3), .val (.int (own_mx (1 : Int32) (p0 &&& (2147483647 : Int32)))), .val (.int (own_mx (1 : Int32) (p1 &&& (2147483647 : Int32)))), .val (.int lo), .val (.int hi), .val (.int v50), .val (.int (((p3.toUInt32 >>> ((1 : Int32) &&& 31).toUInt32).toInt32) &&& (3 : Int32))), .val (.long pe), .second, .unset, .unset, .unset] [(.ref b130)])) _
          refine XS.astore X90.here hx rfl (hb hby at_141) rfl rfl (l' := #[.val (.int p0), .val (.int p1), .val (.long p2), .second, .val (.int p3), .val (.int (own_mx (1 : Int32) (p0 &&& (2147483647 : Int32)))), .val (.int (own_mx (1 : Int32) (p1 &&& (2147483647 : Int32)))), .val (.int lo), .val (.int hi), .val (.int v50), .val (.int (((p3.toUInt32 >>> ((1 : Int32) &&& 31).toUInt32).toInt32) &&& (3 : Int32))), .val (.long pe), .second, .val (.ref b130), .unset, .unset]) rfl ?_
          show Steps p.tables e below (T90.setTop (mkF m 143 #[.val (.int p0), .val (.int p1), .val (.long p2), .second, .val (.int p3), .val (.int (own_mx (1 : Int32) (p0 &&& (2147483647 : Int32)))), .val (.int (own_mx (1 : Int32) (p1 &&& (2147483647 : Int32)))), .val (.int lo), .val (.int hi), .val (.int v50), .val (.int (((p3.toUInt32 >>> ((1 : Int32) &&& 31).toUInt32).toInt32) &&& (3 : Int32))), .val (.long pe), .second, .val (.ref b130), .unset, .unset] [])) _
          refine XS.aload X90.here hx rfl (hb hby at_143) rfl rfl ?_
          show Steps p.tables e below (T90.setTop (mkF m 145 #[.val (.int p0), .val (.int p1), .val (.long p2), .second, .val (.int p3), .val (.int (own_mx (1 : Int32) (p0 &&& (2147483647 : Int32)))), .val (.int (own_mx (1 : Int32) (p1 &&& (2147483647 : Int32)))), .val (.int lo), .val (.int hi), .val (.int v50), .val (.int (((p3.toUInt32 >>> ((1 : Int32) &&& 31).toUInt32).toInt32) &&& (3 : Int32))), .val (.long pe), .second, .val (.ref b130), .unset, .unset] [(.ref b130)])) _
          refine XS.iload X90.here hx rfl (hb hby at_145) rfl ?_
          show Steps p.tables e below (T90.setTop (mkF m 147 #[.val (.int p0), .val (.int p1), .val (.long p2), .second, .val (.int p3), .val (.int (own_mx (1 : Int32) (p0 &&& (2147483647 : Int32)))), .val (.int (own_mx (1 : Int32) (p1 &&& (2147483647 : Int32)))), .val (.int lo), .val (.int hi), .val (.int v50), .val (.int (((p3.toUInt32 >>> ((1 : Int32) &&& 31).toUInt32).toInt32) &&& (3 : Int32))), .val (.long pe), .second, .val (.ref b130), .unset, .unset] [(.int v50), (.ref b130)])) _
          refine XS.lload X90.here hx rfl (hb hby at_147) rfl ?_
          exact kont
        obtain ⟨cq93, kq93, q93a, q93b, q93c⟩ := isOf hZ rfl f90_0
        obtain ⟨_, _, ⟨T93, L93, k93, n93⟩, -, X93, ⟨Lc93, hQ93, l93, y93, z93⟩, st93⟩ := X90.virtualBack hx (y := (⟨"com/example/even_keel/evenkeel/channel/WaterMarks", "writableAfter", "(ZJ)Z"⟩ : MethodName)) (z := (⟨"com/example/even_keel/evenkeel/channel/WaterMarks", "writableAfter", "(ZJ)Z"⟩ : MethodName)) hown (mvT hZ (hw _ (List.mem_of_getElem? (i := 27) rfl))) (mvT hZ (hw _ (List.mem_of_getElem? (i := 28) rfl))) (notFace_of_selects (args := #[]) (mvT hZ (hw _ (List.mem_of_getElem? (i := 30) rfl)))) (mvT hZ (hw _ (List.mem_of_getElem? (i := 30) rfl))) (mvT hZ (hw _ (List.mem_of_getElem? (i := 29) rfl))) (by decide) (backOf (W := 0) (rm6 l Z a0 hw [] b130 v50 pe lo hi  T90.heap n0 Z90 ql90 qh90 hpe0) hZ (hw _ (List.mem_of_getElem? (i := 31) rfl)) (hw _ (List.mem_of_getElem? (i := 11) rfl)) (by decide) (by decide)) q93a q93c (g := (mkF m 149 #[.val (.int p0), .val (.int p1), .val (.long p2), .second, .val (.int p3), .val (.int (own_mx (1 : Int32) (p0 &&& (2147483647 : Int32)))), .val (.int (own_mx (1 : Int32) (p1 &&& (2147483647 : Int32)))), .val (.int lo), .val (.int hi), .val (.int v50), .val (.int (((p3.toUInt32 >>> ((1 : Int32) &&& 31).toUInt32).toInt32) &&& (3 : Int32))), .val (.long pe), .second, .val (.ref b130), .unset, .unset] [(.long pe), (.int v50), (.ref b130)])) rfl (by rw [hml]; rfl) (Steps.refl _) (argsL := [(.int v50), (.long pe)]) (rest := []) (lenOf pd_3 rfl) rfl (by show 2 * 0 + _ ≤ _; exact Nat.le_of_eq rfl) (hb hby at_149) (fun _ _ => ⟨rfl, rfl, (by decide : 1 + 0 ≤ _), (by decide : 2 + 0 ≤ _)⟩)
        dsimp only [Pt.U, Pt.locs, Pt.cells, Pt.slots] at X93 l93 y93 z93 st93 hQ93
        subst l93 y93 z93
        obtain ⟨rfl, N93q, e93⟩ := hQ93
        have N93 := Fr.app N90 N93q
        have pre94 : ∀ t, Steps p.tables e below (T93.setTop (mkF m 152 #[.val (.int p0), .val (.int p1), .val (.long p2), .second, .val (.int p3), .val (.int (own_mx (1 : Int32) (p0 &&& (2147483647 : Int32)))), .val (.int (own_mx (1 : Int32) (p1 &&& (2147483647 : Int32)))), .val (.int lo), .val (.int hi), .val (.int v50), .val (.int (((p3.toUInt32 >>> ((1 : Int32) &&& 31).toUInt32).toInt32) &&& (3 : Int32))), .val (.long pe), .second, .val (.ref b130), .unset, .unset] [(.int (own_wr v50 pe lo hi))])) t → Steps p.tables e below (s₁.setTop (entryFrame m #[(.int p0), (.int p1), (.long p2), (.int p3)] maxLocals)) t := fun t kont => pre92 t (st93.trans kont)
        have pre95 : ∀ t, Steps p.tables e below (T93.setTop (mkF m 160 #[.val (.int p0), .val (.int p1), .val (.long p2), .second, .val (.int p3), .val (.int (own_mx (1 : Int32) (p0 &&& (2147483647 : Int32)))), .val (.int (own_mx (1 : Int32) (p1 &&& (2147483647 : Int32)))), .val (.int lo), .val (.int hi), .val (.int v50), .val (.int (((p3.toUInt32 >>> ((1 : Int32) &&& 31).toUInt32).toInt32) &&& (3 : Int32))), .val (.long pe), .second, .val (.ref b130), .val (.int (own_wr v50 pe lo hi)), .unset] [(.int (lcmpW pe (lo.toInt64)))])) t → Steps p.tables e below (s₁.setTop (entryFrame m #[(.int p0), (.int p1), (.long p2), (.int p3)] maxLocals)) t := by
          intro t kont
          refine pre94 t ?_
          show Steps p.tables e below (T93.setTop (mkF m 152 #[.val (.int p0), .val (.int p1), .val (.long p2), .second, .val (.int p3), .val (.int (own_mx (1 : Int32) (p0 &&& (2147483647 : Int32)))), .val (.int (own_mx (1 : Int32) (p1 &&& (2147483647 : Int32)))), .val (.int lo), .val (.int hi), .val (.int v50), .val (.int (((p3.toUInt32 >>> ((1 : Int32) &&& 31).toUInt32).toInt32) &&& (3 : Int32))), .val (.long pe), .second, .val (.ref b130), .unset, .unset] [(.int (own_wr v50 pe lo hi))])) _
          refine XS.istore X93.here hx rfl (hb hby at_152) rfl (l' := #[.val (.int p0), .val (.int p1), .val (.long p2), .second, .val (.int p3), .val (.int (own_mx (1 : Int32) (p0 &&& (2147483647 : Int32)))), .val (.int (own_mx (1 : Int32) (p1 &&& (2147483647 : Int32)))), .val (.int lo), .val (.int hi), .val (.int v50), .val (.int (((p3.toUInt32 >>> ((1 : Int32) &&& 31).toUInt32).toInt32) &&& (3 : Int32))), .val (.long pe), .second, .val (.ref b130), .val (.int (own_wr v50 pe lo hi)), .unset]) rfl ?_
          show Steps p.tables e below (T93.setTop (mkF m 154 #[.val (.int p0), .val (.int p1), .val (.long p2), .second, .val (.int p3), .val (.int (own_mx (1 : Int32) (p0 &&& (2147483647 : Int32)))), .val (.int (own_mx (1 : Int32) (p1 &&& (2147483647 : Int32)))), .val (.int lo), .val (.int hi), .val (.int v50), .val (.int (((p3.toUInt32 >>> ((1 : Int32) &&& 31).toUInt32).toInt32) &&& (3 : Int32))), .val (.long pe), .second, .val (.ref b130), .val (.int (own_wr v50 pe lo hi)), .unset] [])) _
          refine XS.lload X93.here hx rfl (hb hby at_154) rfl ?_
          show Steps p.tables e below (T93.setTop (mkF m 156 #[.val (.int p0), .val (.int p1), .val (.long p2), .second, .val (.int p3), .val (.int (own_mx (1 : Int32) (p0 &&& (2147483647 : Int32)))), .val (.int (own_mx (1 : Int32) (p1 &&& (2147483647 : Int32)))), .val (.int lo), .val (.int hi), .val (.int v50), .val (.int (((p3.toUInt32 >>> ((1 : Int32) &&& 31).toUInt32).toInt32) &&& (3 : Int32))), .val (.long pe), .second, .val (.ref b130), .val (.int (own_wr v50 pe lo hi)), .unset] [(.long pe)])) _
          refine XS.iload X93.here hx rfl (hb hby at_156) rfl ?_
          show Steps p.tables e below (T93.setTop (mkF m 158 #[.val (.int p0), .val (.int p1), .val (.long p2), .second, .val (.int p3), .val (.int (own_mx (1 : Int32) (p0 &&& (2147483647 : Int32)))), .val (.int (own_mx (1 : Int32) (p1 &&& (2147483647 : Int32)))), .val (.int lo), .val (.int hi), .val (.int v50), .val (.int (((p3.toUInt32 >>> ((1 : Int32) &&& 31).toUInt32).toInt32) &&& (3 : Int32))), .val (.long pe), .second, .val (.ref b130), .val (.int (own_wr v50 pe lo hi)), .unset] [(.int lo), (.long pe)])) _
          refine XS.i2l X93.here hx rfl (hb hby at_158) rfl ?_
          show Steps p.tables e below (T93.setTop (mkF m 159 #[.val (.int p0), .val (.int p1), .val (.long p2), .second, .val (.int p3), .val (.int (own_mx (1 : Int32) (p0 &&& (2147483647 : Int32)))), .val (.int (own_mx (1 : Int32) (p1 &&& (2147483647 : Int32)))), .val (.int lo), .val (.int hi), .val (.int v50), .val (.int (((p3.toUInt32 >>> ((1 : Int32) &&& 31).toUInt32).toInt32) &&& (3 : Int32))), .val (.long pe), .second, .val (.ref b130), .val (.int (own_wr v50 pe lo hi)), .unset] [(.long (lo.toInt64)), (.long pe)])) _
          refine XS.lcmp X93.here hx rfl (hb hby at_159) rfl ?_
          exact kont
        obtain ⟨v182, hv182⟩ : ∃ z : Int32, z = (if pe < (lo.toInt64) then (1 : Int32) else (if v50 = (0 : Int32) then (0 : Int32) else (if (hi.toInt64) < pe then (0 : Int32) else (1 : Int32)))) := ⟨_, rfl⟩
        have pre96 : ∀ t, Steps p.tables e below (T93.setTop (mkF m 182 #[.val (.int p0), .val (.int p1), .val (.long p2), .second, .val (.int p3), .val (.int (own_mx (1 : Int32) (p0 &&& (2147483647 : Int32)))), .val (.int (own_mx (1 : Int32) (p1 &&& (2147483647 : Int32)))), .val (.int lo), .val (.int hi), .val (.int v50), .val (.int (((p3.toUInt32 >>> ((1 : Int32) &&& 31).toUInt32).toInt32) &&& (3 : Int32))), .val (.long pe), .second, .val (.ref b130), .val (.int (own_wr v50 pe lo hi)), .unset] [(.int v182)])) t → Steps p.tables e below (s₁.setTop (entryFrame m #[(.int p0), (.int p1), (.long p2), (.int p3)] maxLocals)) t := by
          intro t kont
          refine pre95 t ?_
          by_cases j_160 : pe < (lo.toInt64)
          · rw [hv182, if_pos j_160] at kont
            show Steps p.tables e below (T93.setTop (mkF m 160 #[.val (.int p0), .val (.int p1), .val (.long p2), .second, .val (.int p3), .val (.int (own_mx (1 : Int32) (p0 &&& (2147483647 : Int32)))), .val (.int (own_mx (1 : Int32) (p1 &&& (2147483647 : Int32)))), .val (.int lo), .val (.int hi), .val (.int v50), .val (.int (((p3.toUInt32 >>> ((1 : Int32) &&& 31).toUInt32).toInt32) &&& (3 : Int32))), .val (.long pe), .second, .val (.ref b130), .val (.int (own_wr v50 pe lo hi)), .unset] [(.int (lcmpW pe (lo.toInt64)))])) _
            refine XS.ifYes X93.here hx rfl (pc0 := 160) (pc' := 177) rfl (hb hby at_160) rfl ((if0 _ _).trans (tlt ((lw_lt _ _).mpr j_160)).1) (by decide) (by decide) ?_
            show Steps p.tables e below (T93.setTop (mkF m 177 #[.val (.int p0), .val (.int p1), .val (.long p2), .second, .val (.int p3), .val (.int (own_mx (1 : Int32) (p0 &&& (2147483647 : Int32)))), .val (.int (own_mx (1 : Int32) (p1 &&& (2147483647 : Int32)))), .val (.int lo), .val (.int hi), .val (.int v50), .val (.int (((p3.toUInt32 >>> ((1 : Int32) &&& 31).toUInt32).toInt32) &&& (3 : Int32))), .val (.long pe), .second, .val (.ref b130), .val (.int (own_wr v50 pe lo hi)), .unset] [])) _
            refine XS.iconst X93.here hx rfl (hb hby at_177) ?_
            show Steps p.tables e below (T93.setTop (mkF m 178 #[.val (.int p0), .val (.int p1), .val (.long p2), .second, .val (.int p3), .val (.int (own_mx (1 : Int32) (p0 &&& (2147483647 : Int32)))), .val (.int (own_mx (1 : Int32) (p1 &&& (2147483647 : Int32)))), .val (.int lo), .val (.int hi), .val (.int v50), .val (.int (((p3.toUInt32 >>> ((1 : Int32) &&& 31).toUInt32).toInt32) &&& (3 : Int32))), .val (.long pe), .second, .val (.ref b130), .val (.int (own_wr v50 pe lo hi)), .unset] [(.int (1 : Int32))])) _
            refine XS.goto X93.here hx rfl (pc0 := 178) (pc' := 182) rfl (hb hby at_178) (by decide) (by decide) ?_
            exact kont
          · by_cases j_165 : v50 = (0 : Int32)
            · rw [hv182, if_neg j_160, if_pos j_165] at kont
              show Steps p.tables e below (T93.setTop (mkF m 160 #[.val (.int p0), .val (.int p1), .val (.long p2), .second, .val (.int p3), .val (.int (own_mx (1 : Int32) (p0 &&& (2147483647 : Int32)))), .val (.int (own_mx (1 : Int32) (p1 &&& (2147483647 : Int32)))), .val (.int lo), .val (.int hi), .val (.int v50), .val (.int (((p3.toUInt32 >>> ((1 : Int32) &&& 31).toUInt32).toInt32) &&& (3 : Int32))), .val (.long pe), .second, .val (.ref b130), .val (.int (own_wr v50 pe lo hi)), .unset] [(.int (lcmpW pe (lo.toInt64)))])) _
              refine XS.ifNo X93.here hx rfl (hb hby at_160) rfl ((if0 _ _).trans (flt (fun q => j_160 ((lw_lt _ _).mp q))).1) ?_
              show Steps p.tables e below (T93.setTop (mkF m 163 #[.val (.int p0), .val (.int p1), .val (.long p2), .second, .val (.int p3), .val (.int (own_mx (1 : Int32) (p0 &&& (2147483647 : Int32)))), .val (.int (own_mx (1 : Int32) (p1 &&& (2147483647 : Int32)))), .val (.int lo), .val (.int hi), .val (.int v50), .val (.int (((p3.toUInt32 >>> ((1 : Int32) &&& 31).toUInt32).toInt32) &&& (3 : Int32))), .val (.long pe), .second, .val (.ref b130), .val (.int (own_wr v50 pe lo hi)), .unset] [])) _
              refine XS.iload X93.here hx rfl (hb hby at_163) rfl ?_
              show Steps p.tables e below (T93.setTop (mkF m 165 #[.val (.int p0), .val (.int p1), .val (.long p2), .second, .val (.int p3), .val (.int (own_mx (1 : Int32) (p0 &&& (2147483647 : Int32)))), .val (.int (own_mx (1 : Int32) (p1 &&& (2147483647 : Int32)))), .val (.int lo), .val (.int hi), .val (.int v50), .val (.int (((p3.toUInt32 >>> ((1 : Int32) &&& 31).toUInt32).toInt32) &&& (3 : Int32))), .val (.long pe), .second, .val (.ref b130), .val (.int (own_wr v50 pe lo hi)), .unset] [(.int v50)])) _
              refine XS.ifYes X93.here hx rfl (pc0 := 165) (pc' := 181) rfl (hb hby at_165) rfl ((if0 _ _).trans (teq j_165).1) (by decide) (by decide) ?_
              show Steps p.tables e below (T93.setTop (mkF m 181 #[.val (.int p0), .val (.int p1), .val (.long p2), .second, .val (.int p3), .val (.int (own_mx (1 : Int32) (p0 &&& (2147483647 : Int32)))), .val (.int (own_mx (1 : Int32) (p1 &&& (2147483647 : Int32)))), .val (.int lo), .val (.int hi), .val (.int v50), .val (.int (((p3.toUInt32 >>> ((1 : Int32) &&& 31).toUInt32).toInt32) &&& (3 : Int32))), .val (.long pe), .second, .val (.ref b130), .val (.int (own_wr v50 pe lo hi)), .unset] [])) _
              refine XS.iconst X93.here hx rfl (hb hby at_181) ?_
              exact kont
            · by_cases j_174 : (hi.toInt64) < pe
              · rw [hv182, if_neg j_160, if_neg j_165, if_pos j_174] at kont
                show Steps p.tables e below (T93.setTop (mkF m 160 #[.val (.int p0), .val (.int p1), .val (.long p2), .second, .val (.int p3), .val (.int (own_mx (1 : Int32) (p0 &&& (2147483647 : Int32)))), .val (.int (own_mx (1 : Int32) (p1 &&& (2147483647 : Int32)))), .val (.int lo), .val (.int hi), .val (.int v50), .val (.int (((p3.toUInt32 >>> ((1 : Int32) &&& 31).toUInt32).toInt32) &&& (3 : Int32))), .val (.long pe), .second, .val (.ref b130), .val (.int (own_wr v50 pe lo hi)), .unset] [(.int (lcmpW pe (lo.toInt64)))])) _
                refine XS.ifNo X93.here hx rfl (hb hby at_160) rfl ((if0 _ _).trans (flt (fun q => j_160 ((lw_lt _ _).mp q))).1) ?_
                show Steps p.tables e below (T93.setTop (mkF m 163 #[.val (.int p0), .val (.int p1), .val (.long p2), .second, .val (.int p3), .val (.int (own_mx (1 : Int32) (p0 &&& (2147483647 : Int32)))), .val (.int (own_mx (1 : Int32) (p1 &&& (2147483647 : Int32)))), .val (.int lo), .val (.int hi), .val (.int v50), .val (.int (((p3.toUInt32 >>> ((1 : Int32) &&& 31).toUInt32).toInt32) &&& (3 : Int32))), .val (.long pe), .second, .val (.ref b130), .val (.int (own_wr v50 pe lo hi)), .unset] [])) _
                refine XS.iload X93.here hx rfl (hb hby at_163) rfl ?_
                show Steps p.tables e below (T93.setTop (mkF m 165 #[.val (.int p0), .val (.int p1), .val (.long p2), .second, .val (.int p3), .val (.int (own_mx (1 : Int32) (p0 &&& (2147483647 : Int32)))), .val (.int (own_mx (1 : Int32) (p1 &&& (2147483647 : Int32)))), .val (.int lo), .val (.int hi), .val (.int v50), .val (.int (((p3.toUInt32 >>> ((1 : Int32) &&& 31).toUInt32).toInt32) &&& (3 : Int32))), .val (.long pe), .second, .val (.ref b130), .val (.int (own_wr v50 pe lo hi)), .unset] [(.int v50)])) _
                refine XS.ifNo X93.here hx rfl (hb hby at_165) rfl ((if0 _ _).trans (feq j_165).1) ?_
                show Steps p.tables e below (T93.setTop (mkF m 168 #[.val (.int p0), .val (.int p1), .val (.long p2), .second, .val (.int p3), .val (.int (own_mx (1 : Int32) (p0 &&& (2147483647 : Int32)))), .val (.int (own_mx (1 : Int32) (p1 &&& (2147483647 : Int32)))), .val (.int lo), .val (.int hi), .val (.int v50), .val (.int (((p3.toUInt32 >>> ((1 : Int32) &&& 31).toUInt32).toInt32) &&& (3 : Int32))), .val (.long pe), .second, .val (.ref b130), .val (.int (own_wr v50 pe lo hi)), .unset] [])) _
                refine XS.lload X93.here hx rfl (hb hby at_168) rfl ?_
                show Steps p.tables e below (T93.setTop (mkF m 170 #[.val (.int p0), .val (.int p1), .val (.long p2), .second, .val (.int p3), .val (.int (own_mx (1 : Int32) (p0 &&& (2147483647 : Int32)))), .val (.int (own_mx (1 : Int32) (p1 &&& (2147483647 : Int32)))), .val (.int lo), .val (.int hi), .val (.int v50), .val (.int (((p3.toUInt32 >>> ((1 : Int32) &&& 31).toUInt32).toInt32) &&& (3 : Int32))), .val (.long pe), .second, .val (.ref b130), .val (.int (own_wr v50 pe lo hi)), .unset] [(.long pe)])) _
                refine XS.iload X93.here hx rfl (hb hby at_170) rfl ?_
                show Steps p.tables e below (T93.setTop (mkF m 172 #[.val (.int p0), .val (.int p1), .val (.long p2), .second, .val (.int p3), .val (.int (own_mx (1 : Int32) (p0 &&& (2147483647 : Int32)))), .val (.int (own_mx (1 : Int32) (p1 &&& (2147483647 : Int32)))), .val (.int lo), .val (.int hi), .val (.int v50), .val (.int (((p3.toUInt32 >>> ((1 : Int32) &&& 31).toUInt32).toInt32) &&& (3 : Int32))), .val (.long pe), .second, .val (.ref b130), .val (.int (own_wr v50 pe lo hi)), .unset] [(.int hi), (.long pe)])) _
                refine XS.i2l X93.here hx rfl (hb hby at_172) rfl ?_
                show Steps p.tables e below (T93.setTop (mkF m 173 #[.val (.int p0), .val (.int p1), .val (.long p2), .second, .val (.int p3), .val (.int (own_mx (1 : Int32) (p0 &&& (2147483647 : Int32)))), .val (.int (own_mx (1 : Int32) (p1 &&& (2147483647 : Int32)))), .val (.int lo), .val (.int hi), .val (.int v50), .val (.int (((p3.toUInt32 >>> ((1 : Int32) &&& 31).toUInt32).toInt32) &&& (3 : Int32))), .val (.long pe), .second, .val (.ref b130), .val (.int (own_wr v50 pe lo hi)), .unset] [(.long (hi.toInt64)), (.long pe)])) _
                refine XS.lcmp X93.here hx rfl (hb hby at_173) rfl ?_
                show Steps p.tables e below (T93.setTop (mkF m 174 #[.val (.int p0), .val (.int p1), .val (.long p2), .second, .val (.int p3), .val (.int (own_mx (1 : Int32) (p0 &&& (2147483647 : Int32)))), .val (.int (own_mx (1 : Int32) (p1 &&& (2147483647 : Int32)))), .val (.int lo), .val (.int hi), .val (.int v50), .val (.int (((p3.toUInt32 >>> ((1 : Int32) &&& 31).toUInt32).toInt32) &&& (3 : Int32))), .val (.long pe), .second, .val (.ref b130), .val (.int (own_wr v50 pe lo hi)), .unset] [(.int (lcmpW pe (hi.toInt64)))])) _
                refine XS.ifYes X93.here hx rfl (pc0 := 174) (pc' := 181) rfl (hb hby at_174) rfl ((if0 _ _).trans (tlt ((lw_gt _ _).mpr j_174)).2.2.1) (by decide) (by decide) ?_
                show Steps p.tables e below (T93.setTop (mkF m 181 #[.val (.int p0), .val (.int p1), .val (.long p2), .second, .val (.int p3), .val (.int (own_mx (1 : Int32) (p0 &&& (2147483647 : Int32)))), .val (.int (own_mx (1 : Int32) (p1 &&& (2147483647 : Int32)))), .val (.int lo), .val (.int hi), .val (.int v50), .val (.int (((p3.toUInt32 >>> ((1 : Int32) &&& 31).toUInt32).toInt32) &&& (3 : Int32))), .val (.long pe), .second, .val (.ref b130), .val (.int (own_wr v50 pe lo hi)), .unset] [])) _
                refine XS.iconst X93.here hx rfl (hb hby at_181) ?_
                exact kont
              · rw [hv182, if_neg j_160, if_neg j_165, if_neg j_174] at kont
                show Steps p.tables e below (T93.setTop (mkF m 160 #[.val (.int p0), .val (.int p1), .val (.long p2), .second, .val (.int p3), .val (.int (own_mx (1 : Int32) (p0 &&& (2147483647 : Int32)))), .val (.int (own_mx (1 : Int32) (p1 &&& (2147483647 : Int32)))), .val (.int lo), .val (.int hi), .val (.int v50), .val (.int (((p3.toUInt32 >>> ((1 : Int32) &&& 31).toUInt32).toInt32) &&& (3 : Int32))), .val (.long pe), .second, .val (.ref b130), .val (.int (own_wr v50 pe lo hi)), .unset] [(.int (lcmpW pe (lo.toInt64)))])) _
                refine XS.ifNo X93.here hx rfl (hb hby at_160) rfl ((if0 _ _).trans (flt (fun q => j_160 ((lw_lt _ _).mp q))).1) ?_
                show Steps p.tables e below (T93.setTop (mkF m 163 #[.val (.int p0), .val (.int p1), .val (.long p2), .second, .val (.int p3), .val (.int (own_mx (1 : Int32) (p0 &&& (2147483647 : Int32)))), .val (.int (own_mx (1 : Int32) (p1 &&& (2147483647 : Int32)))), .val (.int lo), .val (.int hi), .val (.int v50), .val (.int (((p3.toUInt32 >>> ((1 : Int32) &&& 31).toUInt32).toInt32) &&& (3 : Int32))), .val (.long pe), .second, .val (.ref b130), .val (.int (own_wr v50 pe lo hi)), .unset] [])) _
                refine XS.iload X93.here hx rfl (hb hby at_163) rfl ?_
                show Steps p.tables e below (T93.setTop (mkF m 165 #[.val (.int p0), .val (.int p1), .val (.long p2), .second, .val (.int p3), .val (.int (own_mx (1 : Int32) (p0 &&& (2147483647 : Int32)))), .val (.int (own_mx (1 : Int32) (p1 &&& (2147483647 : Int32)))), .val (.int lo), .val (.int hi), .val (.int v50), .val (.int (((p3.toUInt32 >>> ((1 : Int32) &&& 31).toUInt32).toInt32) &&& (3 : Int32))), .val (.long pe), .second, .val (.ref b130), .val (.int (own_wr v50 pe lo hi)), .unset] [(.int v50)])) _
                refine XS.ifNo X93.here hx rfl (hb hby at_165) rfl ((if0 _ _).trans (feq j_165).1) ?_
                show Steps p.tables e below (T93.setTop (mkF m 168 #[.val (.int p0), .val (.int p1), .val (.long p2), .second, .val (.int p3), .val (.int (own_mx (1 : Int32) (p0 &&& (2147483647 : Int32)))), .val (.int (own_mx (1 : Int32) (p1 &&& (2147483647 : Int32)))), .val (.int lo), .val (.int hi), .val (.int v50), .val (.int (((p3.toUInt32 >>> ((1 : Int32) &&& 31).toUInt32).toInt32) &&& (3 : Int32))), .val (.long pe), .second, .val (.ref b130), .val (.int (own_wr v50 pe lo hi)), .unset] [])) _
                refine XS.lload X93.here hx rfl (hb hby at_168) rfl ?_
                show Steps p.tables e below (T93.setTop (mkF m 170 #[.val (.int p0), .val (.int p1), .val (.long p2), .second, .val (.int p3), .val (.int (own_mx (1 : Int32) (p0 &&& (2147483647 : Int32)))), .val (.int (own_mx (1 : Int32) (p1 &&& (2147483647 : Int32)))), .val (.int lo), .val (.int hi), .val (.int v50), .val (.int (((p3.toUInt32 >>> ((1 : Int32) &&& 31).toUInt32).toInt32) &&& (3 : Int32))), .val (.long pe), .second, .val (.ref b130), .val (.int (own_wr v50 pe lo hi)), .unset] [(.long pe)])) _
                refine XS.iload X93.here hx rfl (hb hby at_170) rfl ?_
                show Steps p.tables e below (T93.setTop (mkF m 172 #[.val (.int p0), .val (.int p1), .val (.long p2), .second, .val (.int p3), .val (.int (own_mx (1 : Int32) (p0 &&& (2147483647 : Int32)))), .val (.int (own_mx (1 : Int32) (p1 &&& (2147483647 : Int32)))), .val (.int lo), .val (.int hi), .val (.int v50), .val (.int (((p3.toUInt32 >>> ((1 : Int32) &&& 31).toUInt32).toInt32) &&& (3 : Int32))), .val (.long pe), .second, .val (.ref b130), .val (.int (own_wr v50 pe lo hi)), .unset] [(.int hi), (.long pe)])) _
                refine XS.i2l X93.here hx rfl (hb hby at_172) rfl ?_
                show Steps p.tables e below (T93.setTop (mkF m 173 #[.val (.int p0), .val (.int p1), .val (.long p2), .second, .val (.int p3), .val (.int (own_mx (1 : Int32) (p0 &&& (2147483647 : Int32)))), .val (.int (own_mx (1 : Int32) (p1 &&& (2147483647 : Int32)))), .val (.int lo), .val (.int hi), .val (.int v50), .val (.int (((p3.toUInt32 >>> ((1 : Int32) &&& 31).toUInt32).toInt32) &&& (3 : Int32))), .val (.long pe), .second, .val (.ref b130), .val (.int (own_wr v50 pe lo hi)), .unset] [(.long (hi.toInt64)), (.long pe)])) _
                refine XS.lcmp X93.here hx rfl (hb hby at_173) rfl ?_
                show Steps p.tables e below (T93.setTop (mkF m 174 #[.val (.int p0), .val (.int p1), .val (.long p2), .second, .val (.int p3), .val (.int (own_mx (1 : Int32) (p0 &&& (2147483647 : Int32)))), .val (.int (own_mx (1 : Int32) (p1 &&& (2147483647 : Int32)))), .val (.int lo), .val (.int hi), .val (.int v50), .val (.int (((p3.toUInt32 >>> ((1 : Int32) &&& 31).toUInt32).toInt32) &&& (3 : Int32))), .val (.long pe), .second, .val (.ref b130), .val (.int (own_wr v50 pe lo hi)), .unset] [(.int (lcmpW pe (hi.toInt64)))])) _
                refine XS.ifNo X93.here hx rfl (hb hby at_174) rfl ((if0 _ _).trans (flt (fun q => j_174 ((lw_gt _ _).mp q))).2.2.1) ?_
                show Steps p.tables e below (T93.setTop (mkF m 177 #[.val (.int p0), .val (.int p1), .val (.long p2), .second, .val (.int p3), .val (.int (own_mx (1 : Int32) (p0 &&& (2147483647 : Int32)))), .val (.int (own_mx (1 : Int32) (p1 &&& (2147483647 : Int32)))), .val (.int lo), .val (.int hi), .val (.int v50), .val (.int (((p3.toUInt32 >>> ((1 : Int32) &&& 31).toUInt32).toInt32) &&& (3 : Int32))), .val (.long pe), .second, .val (.ref b130), .val (.int (own_wr v50 pe lo hi)), .unset] [])) _
                refine XS.iconst X93.here hx rfl (hb hby at_177) ?_
                show Steps p.tables e below (T93.setTop (mkF m 178 #[.val (.int p0), .val (.int p1), .val (.long p2), .second, .val (.int p3), .val (.int (own_mx (1 : Int32) (p0 &&& (2147483647 : Int32)))), .val (.int (own_mx (1 : Int32) (p1 &&& (2147483647 : Int32)))), .val (.int lo), .val (.int hi), .val (.int v50), .val (.int (((p3.toUInt32 >>> ((1 : Int32) &&& 31).toUInt32).toInt32) &&& (3 : Int32))), .val (.long pe), .second, .val (.ref b130), .val (.int (own_wr v50 pe lo hi)), .unset] [(.int (1 : Int32))])) _
                refine XS.goto X93.here hx rfl (pc0 := 178) (pc' := 182) rfl (hb hby at_178) (by decide) (by decide) ?_
                exact kont
        have pre97 : ∀ t, Steps p.tables e below (T93.setTop (mkF m 188 #[.val (.int p0), .val (.int p1), .val (.long p2), .second, .val (.int p3), .val (.int (own_mx (1 : Int32) (p0 &&& (2147483647 : Int32)))), .val (.int (own_mx (1 : Int32) (p1 &&& (2147483647 : Int32)))), .val (.int lo), .val (.int hi), .val (.int v50), .val (.int (((p3.toUInt32 >>> ((1 : Int32) &&& 31).toUInt32).toInt32) &&& (3 : Int32))), .val (.long pe), .second, .val (.ref b130), .val (.int (own_wr v50 pe lo hi)), .val (.int v182)] [(.int v182), (.int (own_wr v50 pe lo hi))])) t → Steps p.tables e below (s₁.setTop (entryFrame m #[(.int p0), (.int p1), (.long p2), (.int p3)] maxLocals)) t := by
          intro t kont
          refine pre96 t ?_
          show Steps p.tables e below (T93.setTop (mkF m 182 #[.val (.int p0), .val (.int p1), .val (.long p2), .second, .val (.int p3), .val (.int (own_mx (1 : Int32) (p0 &&& (2147483647 : Int32)))), .val (.int (own_mx (1 : Int32) (p1 &&& (2147483647 : Int32)))), .val (.int lo), .val (.int hi), .val (.int v50), .val (.int (((p3.toUInt32 >>> ((1 : Int32) &&& 31).toUInt32).toInt32) &&& (3 : Int32))), .val (.long pe), .second, .val (.ref b130), .val (.int (own_wr v50 pe lo hi)), .unset] [(.int v182)])) _
          refine XS.istore X93.here hx rfl (hb hby at_182) rfl (l' := #[.val (.int p0), .val (.int p1), .val (.long p2), .second, .val (.int p3), .val (.int (own_mx (1 : Int32) (p0 &&& (2147483647 : Int32)))), .val (.int (own_mx (1 : Int32) (p1 &&& (2147483647 : Int32)))), .val (.int lo), .val (.int hi), .val (.int v50), .val (.int (((p3.toUInt32 >>> ((1 : Int32) &&& 31).toUInt32).toInt32) &&& (3 : Int32))), .val (.long pe), .second, .val (.ref b130), .val (.int (own_wr v50 pe lo hi)), .val (.int v182)]) rfl ?_
          show Steps p.tables e below (T93.setTop (mkF m 184 #[.val (.int p0), .val (.int p1), .val (.long p2), .second, .val (.int p3), .val (.int (own_mx (1 : Int32) (p0 &&& (2147483647 : Int32)))), .val (.int (own_mx (1 : Int32) (p1 &&& (2147483647 : Int32)))), .val (.int lo), .val (.int hi), .val (.int v50), .val (.int (((p3.toUInt32 >>> ((1 : Int32) &&& 31).toUInt32).toInt32) &&& (3 : Int32))), .val (.long pe), .second, .val (.ref b130), .val (.int (own_wr v50 pe lo hi)), .val (.int v182)] [])) _
          refine XS.iload X93.here hx rfl (hb hby at_184) rfl ?_
          show Steps p.tables e below (T93.setTop (mkF m 186 #[.val (.int p0), .val (.int p1), .val (.long p2), .second, .val (.int p3), .val (.int (own_mx (1 : Int32) (p0 &&& (2147483647 : Int32)))), .val (.int (own_mx (1 : Int32) (p1 &&& (2147483647 : Int32)))), .val (.int lo), .val (.int hi), .val (.int v50), .val (.int (((p3.toUInt32 >>> ((1 : Int32) &&& 31).toUInt32).toInt32) &&& (3 : Int32))), .val (.long pe), .second, .val (.ref b130), .val (.int (own_wr v50 pe lo hi)), .val (.int v182)] [(.int (own_wr v50 pe lo hi))])) _
          refine XS.iload X93.here hx rfl (hb hby at_186) rfl ?_
          exact kont
        by_cases hc188 : (own_wr v50 pe lo hi) = v182
        · have pre98 : ∀ t, Steps p.tables e below (T93.setTop (mkF m 196 #[.val (.int p0), .val (.int p1), .val (.long p2), .second, .val (.int p3), .val (.int (own_mx (1 : Int32) (p0 &&& (2147483647 : Int32)))), .val (.int (own_mx (1 : Int32) (p1 &&& (2147483647 : Int32)))), .val (.int lo), .val (.int hi), .val (.int v50), .val (.int (((p3.toUInt32 >>> ((1 : Int32) &&& 31).toUInt32).toInt32) &&& (3 : Int32))), .val (.long pe), .second, .val (.ref b130), .val (.int (own_wr v50 pe lo hi)), .val (.int v182)] [(.int (1 : Int32))])) t → Steps p.tables e below (s₁.setTop (entryFrame m #[(.int p0), (.int p1), (.long p2), (.int p3)] maxLocals)) t := by
            intro t kont
            refine pre97 t ?_
            show Steps p.tables e below (T93.setTop (mkF m 188 #[.val (.int p0), .val (.int p1), .val (.long p2), .second, .val (.int p3), .val (.int (own_mx (1 : Int32) (p0 &&& (2147483647 : Int32)))), .val (.int (own_mx (1 : Int32) (p1 &&& (2147483647 : Int32)))), .val (.int lo), .val (.int hi), .val (.int v50), .val (.int (((p3.toUInt32 >>> ((1 : Int32) &&& 31).toUInt32).toInt32) &&& (3 : Int32))), .val (.long pe), .second, .val (.ref b130), .val (.int (own_wr v50 pe lo hi)), .val (.int v182)] [(.int v182), (.int (own_wr v50 pe lo hi))])) _
            refine XS.icmpNo X93.here hx rfl (hb hby at_188) rfl (teq hc188).2 ?_
            show Steps p.tables e below (T93.setTop (mkF m 191 #[.val (.int p0), .val (.int p1), .val (.long p2), .second, .val (.int p3), .val (.int (own_mx (1 : Int32) (p0 &&& (2147483647 : Int32)))), .val (.int (own_mx (1 : Int32) (p1 &&& (2147483647 : Int32)))), .val (.int lo), .val (.int hi), .val (.int v50), .val (.int (((p3.toUInt32 >>> ((1 : Int32) &&& 31).toUInt32).toInt32) &&& (3 : Int32))), .val (.long pe), .second, .val (.ref b130), .val (.int (own_wr v50 pe lo hi)), .val (.int v182)] [])) _
            refine XS.iconst X93.here hx rfl (hb hby at_191) ?_
            show Steps p.tables e below (T93.setTop (mkF m 192 #[.val (.int p0), .val (.int p1), .val (.long p2), .second, .val (.int p3), .val (.int (own_mx (1 : Int32) (p0 &&& (2147483647 : Int32)))), .val (.int (own_mx (1 : Int32) (p1 &&& (2147483647 : Int32)))), .val (.int lo), .val (.int hi), .val (.int v50), .val (.int (((p3.toUInt32 >>> ((1 : Int32) &&& 31).toUInt32).toInt32) &&& (3 : Int32))), .val (.long pe), .second, .val (.ref b130), .val (.int (own_wr v50 pe lo hi)), .val (.int v182)] [(.int (1 : Int32))])) _
            refine XS.goto X93.here hx rfl (pc0 := 192) (pc' := 196) rfl (hb hby at_192) (by decide) (by decide) ?_
            exact kont
          obtain ⟨fs, hr, hrun, hended, hW, hsame⟩ := X93.leave (v := some (.int (1 : Int32))) (fun h => by rw [Bd.returns] at h; cases h)
          refine ⟨_, _, pre98 _ ?_, hrun, hended, _, _, rfl, ?_, ⟨_, rfl⟩, hW, hsame.mono (by decide) (by decide)⟩
          · exact retN X93 hx (t := .boolean) Bd.returns (by simp) (hb hby at_196) hr
          · show Q0 Z p0 p1 p2 p3 h0 n0 _ T93.heap _
            rw [e93]
            exact ⟨rfl, N93⟩
        · exfalso
          exact hc188 (own_plain p3 v50 lo hi v182 pe hlh hv50 hv182)
      · have pre99 : ∀ t, Steps p.tables e below (T46.setTop (mkF m 130 #[.val (.int p0), .val (.int p1), .val (.long p2), .second, .val (.int p3), .val (.int (own_mx (1 : Int32) (p0 &&& (2147483647 : Int32)))), .val (.int (own_mx (1 : Int32) (p1 &&& (2147483647 : Int32)))), .val (.int lo), .val (.int hi), .val (.int v50), .val (.int (((p3.toUInt32 >>> ((1 : Int32) &&& 31).toUInt32).toInt32) &&& (3 : Int32))), .val (.long (p2 &&& (4294967295 : Int64))), .second, .unset, .unset, .unset] [])) t → Steps p.tables e below (s₁.setTop (entryFrame m #[(.int p0), (.int p1), (.long p2), (.int p3)] maxLocals)) t := by
          intro t kont
          refine pre82 t ?_
          show Steps p.tables e below (T46.setTop (mkF m 102 #[.val (.int p0), .val (.int p1), .val (.long p2), .second, .val (.int p3), .val (.int (own_mx (1 : Int32) (p0 &&& (2147483647 : Int32)))), .val (.int (own_mx (1 : Int32) (p1 &&& (2147483647 : Int32)))), .val (.int lo), .val (.int hi), .val (.int v50), .val (.int (((p3.toUInt32 >>> ((1 : Int32) &&& 31).toUInt32).toInt32) &&& (3 : Int32))), .unset, .unset, .unset, .unset, .unset] [(.int (2 : Int32)), (.int (((p3.toUInt32 >>> ((1 : Int32) &&& 31).toUInt32).toInt32) &&& (3 : Int32)))])) _
          refine XS.icmpYes X46.here hx rfl (pc0 := 102) (pc' := 123) rfl (hb hby at_102) rfl (feq hc102).2 (by decide) (by decide) ?_
          show Steps p.tables e below (T46.setTop (mkF m 123 #[.val (.int p0), .val (.int p1), .val (.long p2), .second, .val (.int p3), .val (.int (own_mx (1 : Int32) (p0 &&& (2147483647 : Int32)))), .val (.int (own_mx (1 : Int32) (p1 &&& (2147483647 : Int32)))), .val (.int lo), .val (.int hi), .val (.int v50), .val (.int (((p3.toUInt32 >>> ((1 : Int32) &&& 31).toUInt32).toInt32) &&& (3 : Int32))), .unset, .unset, .unset, .unset, .unset] [])) _
          refine XS.lloadN X46.here hx rfl (hb hby at_123) rfl ?_
          show Steps p.tables e below (T46.setTop (mkF m 124 #[.val (.int p0), .val (.int p1), .val (.long p2), .second, .val (.int p3), .val (.int (own_mx (1 : Int32) (p0 &&& (2147483647 : Int32)))), .val (.int (own_mx (1 : Int32) (p1 &&& (2147483647 : Int32)))), .val (.int lo), .val (.int hi), .val (.int v50), .val (.int (((p3.toUInt32 >>> ((1 : Int32) &&& 31).toUInt32).toInt32) &&& (3 : Int32))), .unset, .unset, .unset, .unset, .unset] [(.long p2)])) _
          refine X46.ldc2Long hx hown (mvT hZ (hw _ (List.mem_of_getElem? (i := 32) rfl))) (g := (mkF m 124 #[.val (.int p0), .val (.int p1), .val (.long p2), .second, .val (.int p3), .val (.int (own_mx (1 : Int32) (p0 &&& (2147483647 : Int32)))), .val (.int (own_mx (1 : Int32) (p1 &&& (2147483647 : Int32)))), .val (.int lo), .val (.int hi), .val (.int v50), .val (.int (((p3.toUInt32 >>> ((1 : Int32) &&& 31).toUInt32).toInt32) &&& (3 : Int32))), .unset, .unset, .unset, .unset, .unset] [(.long p2)])) rfl (hb hby at_124) _ ?_
          show Steps p.tables e below (T46.setTop (mkF m 127 #[.val (.int p0), .val (.int p1), .val (.long p2), .second, .val (.int p3), .val (.int (own_mx (1 : Int32) (p0 &&& (2147483647 : Int32)))), .val (.int (own_mx (1 : Int32) (p1 &&& (2147483647 : Int32)))), .val (.int lo), .val (.int hi), .val (.int v50), .val (.int (((p3.toUInt32 >>> ((1 : Int32) &&& 31).toUInt32).toInt32) &&& (3 : Int32))), .unset, .unset, .unset, .unset, .unset] [(.long (4294967295 : Int64)), (.long p2)])) _
          refine XS.land X46.here hx rfl (hb hby at_127) rfl ?_
          show Steps p.tables e below (T46.setTop (mkF m 128 #[.val (.int p0), .val (.int p1), .val (.long p2), .second, .val (.int p3), .val (.int (own_mx (1 : Int32) (p0 &&& (2147483647 : Int32)))), .val (.int (own_mx (1 : Int32) (p1 &&& (2147483647 : Int32)))), .val (.int lo), .val (.int hi), .val (.int v50), .val (.int (((p3.toUInt32 >>> ((1 : Int32) &&& 31).toUInt32).toInt32) &&& (3 : Int32))), .unset, .unset, .unset, .unset, .unset] [(.long (p2 &&& (4294967295 : Int64)))])) _
          refine XS.lstore X46.here hx rfl (hb hby at_128) rfl (l' := #[.val (.int p0), .val (.int p1), .val (.long p2), .second, .val (.int p3), .val (.int (own_mx (1 : Int32) (p0 &&& (2147483647 : Int32)))), .val (.int (own_mx (1 : Int32) (p1 &&& (2147483647 : Int32)))), .val (.int lo), .val (.int hi), .val (.int v50), .val (.int (((p3.toUInt32 >>> ((1 : Int32) &&& 31).toUInt32).toInt32) &&& (3 : Int32))), .val (.long (p2 &&& (4294967295 : Int64))), .second, .unset, .unset, .unset]) rfl ?_
          exact kont
        have hpe0 : ¬ (p2 &&& (4294967295 : Int64)) < 0 := own_pD _
        obtain ⟨pe, hpe⟩ : ∃ z : Int64, z = (p2 &&& (4294967295 : Int64)) := ⟨_, rfl⟩
        rw [← hpe] at pre99
        rw [← hpe] at hpe0
        obtain ⟨T100, h100, X100, e100, E100, A100, D100, -, st100⟩ := newO X46 hx hZ hown (hw _ (List.mem_of_getElem? (i := 9) rfl)) (hw _ (List.mem_of_getElem? (i := 10) rfl)) (hw _ (List.mem_of_getElem? (i := 11) rfl)) e46 (g := (mkF m 130 #[.val (.int p0), .val (.int p1), .val (.long p2), .second, .val (.int p3), .val (.int (own_mx (1 : Int32) (p0 &&& (2147483647 : Int32)))), .val (.int (own_mx (1 : Int32) (p1 &&& (2147483647 : Int32)))), .val (.int lo), .val (.int hi), .val (.int v50), .val (.int (((p3.toUInt32 >>> ((1 : Int32) &&& 31).toUInt32).toInt32) &&& (3 : Int32))), .val (.long pe), .second, .unset, .unset, .unset] [])) rfl (hb hby at_130) (by decide) (by decide)
        obtain ⟨b130, g100⟩ : ∃ z, z = h0.size := ⟨_, rfl⟩
        rw [← g100] at A100 D100 st100
        have g_b130 : n0 ≤ b130 := Nat.le_trans Z0 (Nat.le_of_eq g100.symm)
        have F100_low : Fld Z h100 b130 "com/example/even_keel/evenkeel/channel/WaterMarks" "low" "I" (.int (0 : Int32)) := D100 (Or.inr (hw _ (List.mem_of_getElem? (i := 24) rfl))) (ty := .int) (by decide)
        have F100_high : Fld Z h100 b130 "com/example/even_keel/evenkeel/channel/WaterMarks" "high" "I" (.int (0 : Int32)) := D100 (Or.inr (hw _ (List.mem_of_getElem? (i := 26) rfl))) (ty := .int) (by decide)
        have Z100 : n0 ≤ h100.size := Nat.le_trans Z0 E100.1
        have pre101 : ∀ t, Steps p.tables e below (T100.setTop (mkF m 133 #[.val (.int p0), .val (.int p1), .val (.long p2), .second, .val (.int p3), .val (.int (own_mx (1 : Int32) (p0 &&& (2147483647 : Int32)))), .val (.int (own_mx (1 : Int32) (p1 &&& (2147483647 : Int32)))), .val (.int lo), .val (.int hi), .val (.int v50), .val (.int (((p3.toUInt32 >>> ((1 : Int32) &&& 31).toUInt32).toInt32) &&& (3 : Int32))), .val (.long pe), .second, .unset, .unset, .unset] [(.ref b130)])) t → Steps p.tables e below (s₁.setTop (entryFrame m #[(.int p0), (.int p1), (.long p2), (.int p3)] maxLocals)) t := fun t kont => pre99 t (st100 _ kont)
        have pre102 : ∀ t, Steps p.tables e below (T100.setTop (mkF m 138 #[.val (.int p0), .val (.int p1), .val (.long p2), .second, .val (.int p3), .val (.int (own_mx (1 : Int32) (p0 &&& (2147483647 : Int32)))), .val (.int (own_mx (1 : Int32) (p1 &&& (2147483647 : Int32)))), .val (.int lo), .val (.int hi), .val (.int v50), .val (.int (((p3.toUInt32 >>> ((1 : Int32) &&& 31).toUInt32).toInt32) &&& (3 : Int32))), .val (.long pe), .second, .unset, .unset, .unset] [(.int hi), (.int lo), (.ref b130), (.ref b130)])) t → Steps p.tables e below (s₁.setTop (entryFrame m #[(.int p0), (.int p1), (.long p2), (.int p3)] maxLocals)) t := by
          intro t kont
          refine pre101 t ?_
          show Steps p.tables e below (T100.setTop (mkF m 133 #[.val (.int p0), .val (.int p1), .val (.long p2), .second, .val (.int p3), .val (.int (own_mx (1 : Int32) (p0 &&& (2147483647 : Int32)))), .val (.int (own_mx (1 : Int32) (p1 &&& (2147483647 : Int32)))), .val (.int lo), .val (.int hi), .val (.int v50), .val (.int (((p3.toUInt32 >>> ((1 : Int32) &&& 31).toUInt32).toInt32) &&& (3 : Int32))), .val (.long pe), .second, .unset, .unset, .unset] [(.ref b130)])) _
          refine XS.dup X100.here hx rfl (hb hby at_133) rfl rfl ?_
          show Steps p.tables e below (T100.setTop (mkF m 134 #[.val (.int p0), .val (.int p1), .val (.long p2), .second, .val (.int p3), .val (.int (own_mx (1 : Int32) (p0 &&& (2147483647 : Int32)))), .val (.int (own_mx (1 : Int32) (p1 &&& (2147483647 : Int32)))), .val (.int lo), .val (.int hi), .val (.int v50), .val (.int (((p3.toUInt32 >>> ((1 : Int32) &&& 31).toUInt32).toInt32) &&& (3 : Int32))), .val (.long pe), .second, .unset, .unset, .unset] [(.ref b130), (.ref b130)])) _
          refine XS.iload X100.here hx rfl (hb hby at_134) rfl ?_
          show Steps p.tables e below (T100.setTop (mkF m 136 #[.val (.int p0), .val (.int p1), .val (.long p2), .second, .val (.int p3), .val (.int (own_mx (1 : Int32) (p0 &&& (2147483647 : Int32)))), .val (.int (own_mx (1 : Int32) (p1 &&& (2147483647 : Int32)))), .val (.int lo), .val (.int hi), .val (.int v50), .val (.int (((p3.toUInt32 >>> ((1 : Int32) &&& 31).toUInt32).toInt32) &&& (3 : Int32))), .val (.long pe), .second, .unset, .unset, .unset] [(.int lo), (.ref b130), (.ref b130)])) _
          refine XS.iload X100.here hx rfl (hb hby at_136) rfl ?_
          exact kont
        obtain ⟨_, _, ⟨T103, L103, k103, n103⟩, -, X103, ⟨Lc103, hQ103, l103, y103, z103⟩, st103⟩ := X100.specialBack hx (y := (⟨"com/example/even_keel/evenkeel/channel/WaterMarks", "<init>", "(II)V"⟩ : MethodName)) rfl hown (mvT hZ (hw _ (List.mem_of_getElem? (i := 12) rfl))) (mvT hZ (hw _ (List.mem_of_getElem? (i := 13) rfl))) (mvT hZ (hw _ (List.mem_of_getElem? (i := 14) rfl))) (by decide) (backOf (W := 1) (rm3 l Z a0 hw [] b130 lo hi  h100 n0 Z100 A100 F100_low F100_high g_b130 (own_i1 hlh) (own_i2 hlh)) hZ (hw _ (List.mem_of_getElem? (i := 14) rfl)) (hw _ (List.mem_of_getElem? (i := 11) rfl)) (by decide) (by decide)) (g := (mkF m 138 #[.val (.int p0), .val (.int p1), .val (.long p2), .second, .val (.int p3), .val (.int (own_mx (1 : Int32) (p0 &&& (2147483647 : Int32)))), .val (.int (own_mx (1 : Int32) (p1 &&& (2147483647 : Int32)))), .val (.int lo), .val (.int hi), .val (.int v50), .val (.int (((p3.toUInt32 >>> ((1 : Int32) &&& 31).toUInt32).toInt32) &&& (3 : Int32))), .val (.long pe), .second, .unset, .unset, .unset] [(.int hi), (.int lo), (.ref b130), (.ref b130)])) rfl (by rw [hml]; rfl) (Steps.refl _) (a := b130) (argsL := [(.int lo), (.int hi)]) (rest := [(.ref b130)]) (lenOf pd_2 rfl) rfl (by show 2 * 0 + _ ≤ _; exact Nat.le_of_eq rfl) (hb hby at_138) (fun _ _ => ⟨rfl, e100, (by decide : 1 + 0 ≤ _), (by decide : 2 + 0 ≤ _)⟩)
        dsimp only [Pt.U, Pt.locs, Pt.cells, Pt.slots] at X103 l103 y103 z103 st103 hQ103
        subst l103 y103 z103
        obtain ⟨rfl, N103q, K103, qe103, ql103, qh103⟩ := hQ103
        have N103 := Fr.app N46 N103q
        have f103_0 := Exa.keep A100 K103
        have Z103 : n0 ≤ T103.heap.size := Nat.le_trans Z100 (K103).1
        have pre104 : ∀ t, Steps p.tables e below (T103.setTop (mkF m 141 #[.val (.int p0), .val (.int p1), .val (.long p2), .second, .val (.int p3), .val (.int (own_mx (1 : Int32) (p0 &&& (2147483647 : Int32)))), .val (.int (own_mx (1 : Int32) (p1 &&& (2147483647 : Int32)))), .val (.int lo), .val (.int hi), .val (.int v50), .val (.int (((p3.toUInt32 >>> ((1 : Int32) &&& 31).toUInt32).toInt32) &&& (3 : Int32))), .val (.long pe), .second, .unset, .unset, .unset] [(.ref b130)])) t → Steps p.tables e below (s₁.setTop (entryFrame m #[(.int p0), (.int p1), (.long p2), (.int p3)] maxLocals)) t := fun t kont => pre102 t (st103.trans kont)
        have pre105 : ∀ t, Steps p.tables e below (T103.setTop (mkF m 149 #[.val (.int p0), .val (.int p1), .val (.long p2), .second, .val (.int p3), .val (.int (own_mx (1 : Int32) (p0 &&& (2147483647 : Int32)))), .val (.int (own_mx (1 : Int32) (p1 &&& (2147483647 : Int32)))), .val (.int lo), .val (.int hi), .val (.int v50), .val (.int (((p3.toUInt32 >>> ((1 : Int32) &&& 31).toUInt32).toInt32) &&& (3 : Int32))), .val (.long pe), .second, .val (.ref b130), .unset, .unset] [(.long pe), (.int v50), (.ref b130)])) t → Steps p.tables e below (s₁.setTop (entryFrame m #[(.int p0), (.int p1), (.long p2), (.int p3)] maxLocals)) t := by
          intro t kont
          refine pre104 t ?_
          show Steps p.tables e below (T103.setTop (mkF m 141 #[.val (.int p0), .val (.int p1), .val (.long p2), .second, .val (.int p3), .val (.int (own_mx (1 : Int32) (p0 &&& (2147483647 : Int32)))), .val (.int (own_mx (1 : Int32) (p1 &&& (2147483647 : Int32)))), .val (.int lo), .val (.int hi), .val (.int v50), .val (.int (((p3.toUInt32 >>> ((1 : Int32) &&& 31).toUInt32).toInt32) &&& (3 : Int32))), .val (.long pe), .second, .unset, .unset, .unset] [(.ref b130)])) _
          refine XS.astore X103.here hx rfl (hb hby at_141) rfl rfl (l' := #[.val (.int p0), .val (.int p1), .val (.long p2), .second, .val (.int p3), .val (.int (own_mx (1 : Int32) (p0 &&& (2147483647 : Int32)))), .val (.int (own_mx (1 : Int32) (p1 &&& (2147483647 : Int32)))), .val (.int lo), .val (.int hi), .val (.int v50), .val (.int (((p3.toUInt32 >>> ((1 : Int32) &&& 31).toUInt32).toInt32) &&& (3 : Int32))), .val (.long pe), .second, .val (.ref b130), .unset, .unset]) rfl ?_
          show Steps p.tables e below (T103.setTop (mkF m 143 #[.val (.int p0), .val (.int p1), .val (.long p2), .second, .val (.int p3), .val (.int (own_mx (1 : Int32) (p0 &&& (2147483647 : Int32)))), .val (.int (own_mx (1 : Int32) (p1 &&& (2147483647 : Int32)))), .val (.int lo), .val (.int hi), .val (.int v50), .val (.int (((p3.toUInt32 >>> ((1 : Int32) &&& 31).toUInt32).toInt32) &&& (3 : Int32))), .val (.long pe), .second, .val (.ref b130), .unset, .unset] [])) _
          refine XS.aload X103.here hx rfl (hb hby at_143) rfl rfl ?_
          show Steps p.tables e below (T103.setTop (mkF m 145 #[.val (.int p0), .val (.int p1), .val (.long p2), .second, .val (.int p3), .val (.int (own_mx (1 : Int32) (p0 &&& (2147483647 : Int32)))), .val (.int (own_mx (1 : Int32) (p1 &&& (2147483647 : Int32)))), .val (.int lo), .val (.int hi), .val (.int v50), .val (.int (((p3.toUInt32 >>> ((1 : Int32) &&& 31).toUInt32).toInt32) &&& (3 : Int32))), .val (.long pe), .second, .val (.ref b130), .unset, .unset] [(.ref b130)])) _
          refine XS.iload X103.here hx rfl (hb hby at_145) rfl ?_
          show Steps p.tables e below (T103.setTop (mkF m 147 #[.val (.int p0), .val (.int p1), .val (.long p2), .second, .val (.int p3), .val (.int (own_mx (1 : Int32) (p0 &&& (2147483647 : Int32)))), .val (.int (own_mx (1 : Int32) (p1 &&& (2147483647 : Int32)))), .val (.int lo), .val (.int hi), .val (.int v50), .val (.int (((p3.toUInt32 >>> ((1 : Int32) &&& 31).toUInt32).toInt32) &&& (3 : Int32))), .val (.long pe), .second, .val (.ref b130), .unset, .unset] [(.int v50), (.ref b130)])) _
          refine XS.lload X103.here hx rfl (hb hby at_147) rfl ?_
          exact kont
        obtain ⟨cq106, kq106, q106a, q106b, q106c⟩ := isOf hZ rfl f103_0
        obtain ⟨_, _, ⟨T106, L106, k106, n106⟩, -, X106, ⟨Lc106, hQ106, l106, y106, z106⟩, st106⟩ := X103.virtualBack hx (y := (⟨"com/example/even_keel/evenkeel/channel/WaterMarks", "writableAfter", "(ZJ)Z"⟩ : MethodName)) (z := (⟨"com/example/even_keel/evenkeel/channel/WaterMarks", "writableAfter", "(ZJ)Z"⟩ : MethodName)) hown (mvT hZ (hw _ (List.mem_of_getElem? (i := 27) rfl))) (mvT hZ (hw _ (List.mem_of_getElem? (i := 28) rfl))) (notFace_of_selects (args := #[]) (mvT hZ (hw _ (List.mem_of_getElem? (i := 30) rfl)))) (mvT hZ (hw _ (List.mem_of_getElem? (i := 30) rfl))) (mvT hZ (hw _ (List.mem_of_getElem? (i := 29) rfl))) (by decide) (backOf (W := 0) (rm6 l Z a0 hw [] b130 v50 pe lo hi  T103.heap n0 Z103 ql103 qh103 hpe0) hZ (hw _ (List.mem_of_getElem? (i := 31) rfl)) (hw _ (List.mem_of_getElem? (i := 11) rfl)) (by decide) (by decide)) q106a q106c (g := (mkF m 149 #[.val (.int p0), .val (.int p1), .val (.long p2), .second, .val (.int p3), .val (.int (own_mx (1 : Int32) (p0 &&& (2147483647 : Int32)))), .val (.int (own_mx (1 : Int32) (p1 &&& (2147483647 : Int32)))), .val (.int lo), .val (.int hi), .val (.int v50), .val (.int (((p3.toUInt32 >>> ((1 : Int32) &&& 31).toUInt32).toInt32) &&& (3 : Int32))), .val (.long pe), .second, .val (.ref b130), .unset, .unset] [(.long pe), (.int v50), (.ref b130)])) rfl (by rw [hml]; rfl) (Steps.refl _) (argsL := [(.int v50), (.long pe)]) (rest := []) (lenOf pd_3 rfl) rfl (by show 2 * 0 + _ ≤ _; exact Nat.le_of_eq rfl) (hb hby at_149) (fun _ _ => ⟨rfl, rfl, (by decide : 1 + 0 ≤ _), (by decide : 2 + 0 ≤ _)⟩)
        dsimp only [Pt.U, Pt.locs, Pt.cells, Pt.slots] at X106 l106 y106 z106 st106 hQ106
        subst l106 y106 z106
        obtain ⟨rfl, N106q, e106⟩ := hQ106
        have N106 := Fr.app N103 N106q
        have pre107 : ∀ t, Steps p.tables e below (T106.setTop (mkF m 152 #[.val (.int p0), .val (.int p1), .val (.long p2), .second, .val (.int p3), .val (.int (own_mx (1 : Int32) (p0 &&& (2147483647 : Int32)))), .val (.int (own_mx (1 : Int32) (p1 &&& (2147483647 : Int32)))), .val (.int lo), .val (.int hi), .val (.int v50), .val (.int (((p3.toUInt32 >>> ((1 : Int32) &&& 31).toUInt32).toInt32) &&& (3 : Int32))), .val (.long pe), .second, .val (.ref b130), .unset, .unset] [(.int (own_wr v50 pe lo hi))])) t → Steps p.tables e below (s₁.setTop (entryFrame m #[(.int p0), (.int p1), (.long p2), (.int p3)] maxLocals)) t := fun t kont => pre105 t (st106.trans kont)
        have pre108 : ∀ t, Steps p.tables e below (T106.setTop (mkF m 160 #[.val (.int p0), .val (.int p1), .val (.long p2), .second, .val (.int p3), .val (.int (own_mx (1 : Int32) (p0 &&& (2147483647 : Int32)))), .val (.int (own_mx (1 : Int32) (p1 &&& (2147483647 : Int32)))), .val (.int lo), .val (.int hi), .val (.int v50), .val (.int (((p3.toUInt32 >>> ((1 : Int32) &&& 31).toUInt32).toInt32) &&& (3 : Int32))), .val (.long pe), .second, .val (.ref b130), .val (.int (own_wr v50 pe lo hi)), .unset] [(.int (lcmpW pe (lo.toInt64)))])) t → Steps p.tables e below (s₁.setTop (entryFrame m #[(.int p0), (.int p1), (.long p2), (.int p3)] maxLocals)) t := by
          intro t kont
          refine pre107 t ?_
          show Steps p.tables e below (T106.setTop (mkF m 152 #[.val (.int p0), .val (.int p1), .val (.long p2), .second, .val (.int p3), .val (.int (own_mx (1 : Int32) (p0 &&& (2147483647 : Int32)))), .val (.int (own_mx (1 : Int32) (p1 &&& (2147483647 : Int32)))), .val (.int lo), .val (.int hi), .val (.int v50), .val (.int (((p3.toUInt32 >>> ((1 : Int32) &&& 31).toUInt32).toInt32) &&& (3 : Int32))), .val (.long pe), .second, .val (.ref b130), .unset, .unset] [(.int (own_wr v50 pe lo hi))])) _
          refine XS.istore X106.here hx rfl (hb hby at_152) rfl (l' := #[.val (.int p0), .val (.int p1), .val (.long p2), .second, .val (.int p3), .val (.int (own_mx (1 : Int32) (p0 &&& (2147483647 : Int32)))), .val (.int (own_mx (1 : Int32) (p1 &&& (2147483647 : Int32)))), .val (.int lo), .val (.int hi), .val (.int v50), .val (.int (((p3.toUInt32 >>> ((1 : Int32) &&& 31).toUInt32).toInt32) &&& (3 : Int32))), .val (.long pe), .second, .val (.ref b130), .val (.int (own_wr v50 pe lo hi)), .unset]) rfl ?_
          show Steps p.tables e below (T106.setTop (mkF m 154 #[.val (.int p0), .val (.int p1), .val (.long p2), .second, .val (.int p3), .val (.int (own_mx (1 : Int32) (p0 &&& (2147483647 : Int32)))), .val (.int (own_mx (1 : Int32) (p1 &&& (2147483647 : Int32)))), .val (.int lo), .val (.int hi), .val (.int v50), .val (.int (((p3.toUInt32 >>> ((1 : Int32) &&& 31).toUInt32).toInt32) &&& (3 : Int32))), .val (.long pe), .second, .val (.ref b130), .val (.int (own_wr v50 pe lo hi)), .unset] [])) _
          refine XS.lload X106.here hx rfl (hb hby at_154) rfl ?_
          show Steps p.tables e below (T106.setTop (mkF m 156 #[.val (.int p0), .val (.int p1), .val (.long p2), .second, .val (.int p3), .val (.int (own_mx (1 : Int32) (p0 &&& (2147483647 : Int32)))), .val (.int (own_mx (1 : Int32) (p1 &&& (2147483647 : Int32)))), .val (.int lo), .val (.int hi), .val (.int v50), .val (.int (((p3.toUInt32 >>> ((1 : Int32) &&& 31).toUInt32).toInt32) &&& (3 : Int32))), .val (.long pe), .second, .val (.ref b130), .val (.int (own_wr v50 pe lo hi)), .unset] [(.long pe)])) _
          refine XS.iload X106.here hx rfl (hb hby at_156) rfl ?_
          show Steps p.tables e below (T106.setTop (mkF m 158 #[.val (.int p0), .val (.int p1), .val (.long p2), .second, .val (.int p3), .val (.int (own_mx (1 : Int32) (p0 &&& (2147483647 : Int32)))), .val (.int (own_mx (1 : Int32) (p1 &&& (2147483647 : Int32)))), .val (.int lo), .val (.int hi), .val (.int v50), .val (.int (((p3.toUInt32 >>> ((1 : Int32) &&& 31).toUInt32).toInt32) &&& (3 : Int32))), .val (.long pe), .second, .val (.ref b130), .val (.int (own_wr v50 pe lo hi)), .unset] [(.int lo), (.long pe)])) _
          refine XS.i2l X106.here hx rfl (hb hby at_158) rfl ?_
          show Steps p.tables e below (T106.setTop (mkF m 159 #[.val (.int p0), .val (.int p1), .val (.long p2), .second, .val (.int p3), .val (.int (own_mx (1 : Int32) (p0 &&& (2147483647 : Int32)))), .val (.int (own_mx (1 : Int32) (p1 &&& (2147483647 : Int32)))), .val (.int lo), .val (.int hi), .val (.int v50), .val (.int (((p3.toUInt32 >>> ((1 : Int32) &&& 31).toUInt32).toInt32) &&& (3 : Int32))), .val (.long pe), .second, .val (.ref b130), .val (.int (own_wr v50 pe lo hi)), .unset] [(.long (lo.toInt64)), (.long pe)])) _
          refine XS.lcmp X106.here hx rfl (hb hby at_159) rfl ?_
          exact kont
        obtain ⟨v182, hv182⟩ : ∃ z : Int32, z = (if pe < (lo.toInt64) then (1 : Int32) else (if v50 = (0 : Int32) then (0 : Int32) else (if (hi.toInt64) < pe then (0 : Int32) else (1 : Int32)))) := ⟨_, rfl⟩
        have pre109 : ∀ t, Steps p.tables e below (T106.setTop (mkF m 182 #[.val (.int p0), .val (.int p1), .val (.long p2), .second, .val (.int p3), .val (.int (own_mx (1 : Int32) (p0 &&& (2147483647 : Int32)))), .val (.int (own_mx (1 : Int32) (p1 &&& (2147483647 : Int32)))), .val (.int lo), .val (.int hi), .val (.int v50), .val (.int (((p3.toUInt32 >>> ((1 : Int32) &&& 31).toUInt32).toInt32) &&& (3 : Int32))), .val (.long pe), .second, .val (.ref b130), .val (.int (own_wr v50 pe lo hi)), .unset] [(.int v182)])) t → Steps p.tables e below (s₁.setTop (entryFrame m #[(.int p0), (.int p1), (.long p2), (.int p3)] maxLocals)) t := by
          intro t kont
          refine pre108 t ?_
          by_cases j_160 : pe < (lo.toInt64)
          · rw [hv182, if_pos j_160] at kont
            show Steps p.tables e below (T106.setTop (mkF m 160 #[.val (.int p0), .val (.int p1), .val (.long p2), .second, .val (.int p3), .val (.int (own_mx (1 : Int32) (p0 &&& (2147483647 : Int32)))), .val (.int (own_mx (1 : Int32) (p1 &&& (2147483647 : Int32)))), .val (.int lo), .val (.int hi), .val (.int v50), .val (.int (((p3.toUInt32 >>> ((1 : Int32) &&& 31).toUInt32).toInt32) &&& (3 : Int32))), .val (.long pe), .second, .val (.ref b130), .val (.int (own_wr v50 pe lo hi)), .unset] [(.int (lcmpW pe (lo.toInt64)))])) _
            refine XS.ifYes X106.here hx rfl (pc0 := 160) (pc' := 177) rfl (hb hby at_160) rfl ((if0 _ _).trans (tlt ((lw_lt _ _).mpr j_160)).1) (by decide) (by decide) ?_
            show Steps p.tables e below (T106.setTop (mkF m 177 #[.val (.int p0), .val (.int p1), .val (.long p2), .second, .val (.int p3), .val (.int (own_mx (1 : Int32) (p0 &&& (2147483647 : Int32)))), .val (.int (own_mx (1 : Int32) (p1 &&& (2147483647 : Int32)))), .val (.int lo), .val (.int hi), .val (.int v50), .val (.int (((p3.toUInt32 >>> ((1 : Int32) &&& 31).toUInt32).toInt32) &&& (3 : Int32))), .val (.long pe), .second, .val (.ref b130), .val (.int (own_wr v50 pe lo hi)), .unset] [])) _
            refine XS.iconst X106.here hx rfl (hb hby at_177) ?_
            show Steps p.tables e below (T106.setTop (mkF m 178 #[.val (.int p0), .val (.int p1), .val (.long p2), .second, .val (.int p3), .val (.int (own_mx (1 : Int32) (p0 &&& (2147483647 : Int32)))), .val (.int (own_mx (1 : Int32) (p1 &&& (2147483647 : Int32)))), .val (.int lo), .val (.int hi), .val (.int v50), .val (.int (((p3.toUInt32 >>> ((1 : Int32) &&& 31).toUInt32).toInt32) &&& (3 : Int32))), .val (.long pe), .second, .val (.ref b130), .val (.int (own_wr v50 pe lo hi)), .unset] [(.int (1 : Int32))])) _
            refine XS.goto X106.here hx rfl (pc0 := 178) (pc' := 182) rfl (hb hby at_178) (by decide) (by decide) ?_
            exact kont
          · by_cases j_165 : v50 = (0 : Int32)
            · rw [hv182, if_neg j_160, if_pos j_165] at kont
              show Steps p.tables e below (T106.setTop (mkF m 160 #[.val (.int p0), .val (.int p1), .val (.long p2), .second, .val (.int p3), .val (.int (own_mx (1 : Int32) (p0 &&& (2147483647 : Int32)))), .val (.int (own_mx (1 : Int32) (p1 &&& (2147483647 : Int32)))), .val (.int lo), .val (.int hi), .val (.int v50), .val (.int (((p3.toUInt32 >>> ((1 : Int32) &&& 31).toUInt32).toInt32) &&& (3 : Int32))), .val (.long pe), .second, .val (.ref b130), .val (.int (own_wr v50 pe lo hi)), .unset] [(.int (lcmpW pe (lo.toInt64)))])) _
              refine XS.ifNo X106.here hx rfl (hb hby at_160) rfl ((if0 _ _).trans (flt (fun q => j_160 ((lw_lt _ _).mp q))).1) ?_
              show Steps p.tables e below (T106.setTop (mkF m 163 #[.val (.int p0), .val (.int p1), .val (.long p2), .second, .val (.int p3), .val (.int (own_mx (1 : Int32) (p0 &&& (2147483647 : Int32)))), .val (.int (own_mx (1 : Int32) (p1 &&& (2147483647 : Int32)))), .val (.int lo), .val (.int hi), .val (.int v50), .val (.int (((p3.toUInt32 >>> ((1 : Int32) &&& 31).toUInt32).toInt32) &&& (3 : Int32))), .val (.long pe), .second, .val (.ref b130), .val (.int (own_wr v50 pe lo hi)), .unset] [])) _
              refine XS.iload X106.here hx rfl (hb hby at_163) rfl ?_
              show Steps p.tables e below (T106.setTop (mkF m 165 #[.val (.int p0), .val (.int p1), .val (.long p2), .second, .val (.int p3), .val (.int (own_mx (1 : Int32) (p0 &&& (2147483647 : Int32)))), .val (.int (own_mx (1 : Int32) (p1 &&& (2147483647 : Int32)))), .val (.int lo), .val (.int hi), .val (.int v50), .val (.int (((p3.toUInt32 >>> ((1 : Int32) &&& 31).toUInt32).toInt32) &&& (3 : Int32))), .val (.long pe), .second, .val (.ref b130), .val (.int (own_wr v50 pe lo hi)), .unset] [(.int v50)])) _
              refine XS.ifYes X106.here hx rfl (pc0 := 165) (pc' := 181) rfl (hb hby at_165) rfl ((if0 _ _).trans (teq j_165).1) (by decide) (by decide) ?_
              show Steps p.tables e below (T106.setTop (mkF m 181 #[.val (.int p0), .val (.int p1), .val (.long p2), .second, .val (.int p3), .val (.int (own_mx (1 : Int32) (p0 &&& (2147483647 : Int32)))), .val (.int (own_mx (1 : Int32) (p1 &&& (2147483647 : Int32)))), .val (.int lo), .val (.int hi), .val (.int v50), .val (.int (((p3.toUInt32 >>> ((1 : Int32) &&& 31).toUInt32).toInt32) &&& (3 : Int32))), .val (.long pe), .second, .val (.ref b130), .val (.int (own_wr v50 pe lo hi)), .unset] [])) _
              refine XS.iconst X106.here hx rfl (hb hby at_181) ?_
              exact kont
            · by_cases j_174 : (hi.toInt64) < pe
              · rw [hv182, if_neg j_160, if_neg j_165, if_pos j_174] at kont
                show Steps p.tables e below (T106.setTop (mkF m 160 #[.val (.int p0), .val (.int p1), .val (.long p2), .second, .val (.int p3), .val (.int (own_mx (1 : Int32) (p0 &&& (2147483647 : Int32)))), .val (.int (own_mx (1 : Int32) (p1 &&& (2147483647 : Int32)))), .val (.int lo), .val (.int hi), .val (.int v50), .val (.int (((p3.toUInt32 >>> ((1 : Int32) &&& 31).toUInt32).toInt32) &&& (3 : Int32))), .val (.long pe), .second, .val (.ref b130), .val (.int (own_wr v50 pe lo hi)), .unset] [(.int (lcmpW pe (lo.toInt64)))])) _
                refine XS.ifNo X106.here hx rfl (hb hby at_160) rfl ((if0 _ _).trans (flt (fun q => j_160 ((lw_lt _ _).mp q))).1) ?_
                show Steps p.tables e below (T106.setTop (mkF m 163 #[.val (.int p0), .val (.int p1), .val (.long p2), .second, .val (.int p3), .val (.int (own_mx (1 : Int32) (p0 &&& (2147483647 : Int32)))), .val (.int (own_mx (1 : Int32) (p1 &&& (2147483647 : Int32)))), .val (.int lo), .val (.int hi), .val (.int v50), .val (.int (((p3.toUInt32 >>> ((1 : Int32) &&& 31).toUInt32).toInt32) &&& (3 : Int32))), .val (.long pe), .second, .val (.ref b130), .val (.int (own_wr v50 pe lo hi)), .unset] [])) _
                refine XS.iload X106.here hx rfl (hb hby at_163) rfl ?_
                show Steps p.tables e below (T106.setTop (mkF m 165 #[.val (.int p0), .val (.int p1), .val (.long p2), .second, .val (.int p3), .val (.int (own_mx (1 : Int32) (p0 &&& (2147483647 : Int32)))), .val (.int (own_mx (1 : Int32) (p1 &&& (2147483647 : Int32)))), .val (.int lo), .val (.int hi), .val (.int v50), .val (.int (((p3.toUInt32 >>> ((1 : Int32) &&& 31).toUInt32).toInt32) &&& (3 : Int32))), .val (.long pe), .second, .val (.ref b130), .val (.int (own_wr v50 pe lo hi)), .unset] [(.int v50)])) _
                refine XS.ifNo X106.here hx rfl (hb hby at_165) rfl ((if0 _ _).trans (feq j_165).1) ?_
                show Steps p.tables e below (T106.setTop (mkF m 168 #[.val (.int p0), .val (.int p1), .val (.long p2), .second, .val (.int p3), .val (.int (own_mx (1 : Int32) (p0 &&& (2147483647 : Int32)))), .val (.int (own_mx (1 : Int32) (p1 &&& (2147483647 : Int32)))), .val (.int lo), .val (.int hi), .val (.int v50), .val (.int (((p3.toUInt32 >>> ((1 : Int32) &&& 31).toUInt32).toInt32) &&& (3 : Int32))), .val (.long pe), .second, .val (.ref b130), .val (.int (own_wr v50 pe lo hi)), .unset] [])) _
                refine XS.lload X106.here hx rfl (hb hby at_168) rfl ?_
                show Steps p.tables e below (T106.setTop (mkF m 170 #[.val (.int p0), .val (.int p1), .val (.long p2), .second, .val (.int p3), .val (.int (own_mx (1 : Int32) (p0 &&& (2147483647 : Int32)))), .val (.int (own_mx (1 : Int32) (p1 &&& (2147483647 : Int32)))), .val (.int lo), .val (.int hi), .val (.int v50), .val (.int (((p3.toUInt32 >>> ((1 : Int32) &&& 31).toUInt32).toInt32) &&& (3 : Int32))), .val (.long pe), .second, .val (.ref b130), .val (.int (own_wr v50 pe lo hi)), .unset] [(.long pe)])) _
                refine XS.iload X106.here hx rfl (hb hby at_170) rfl ?_
                show Steps p.tables e below (T106.setTop (mkF m 172 #[.val (.int p0), .val (.int p1), .val (.long p2), .second, .val (.int p3), .val (.int (own_mx (1 : Int32) (p0 &&& (2147483647 : Int32)))), .val (.int (own_mx (1 : Int32) (p1 &&& (2147483647 : Int32)))), .val (.int lo), .val (.int hi), .val (.int v50), .val (.int (((p3.toUInt32 >>> ((1 : Int32) &&& 31).toUInt32).toInt32) &&& (3 : Int32))), .val (.long pe), .second, .val (.ref b130), .val (.int (own_wr v50 pe lo hi)), .unset] [(.int hi), (.long pe)])) _
                refine XS.i2l X106.here hx rfl (hb hby at_172) rfl ?_
                show Steps p.tables e below (T106.setTop (mkF m 173 #[.val (.int p0), .val (.int p1), .val (.long p2), .second, .val (.int p3), .val (.int (own_mx (1 : Int32) (p0 &&& (2147483647 : Int32)))), .val (.int (own_mx (1 : Int32) (p1 &&& (2147483647 : Int32)))), .val (.int lo), .val (.int hi), .val (.int v50), .val (.int (((p3.toUInt32 >>> ((1 : Int32) &&& 31).toUInt32).toInt32) &&& (3 : Int32))), .val (.long pe), .second, .val (.ref b130), .val (.int (own_wr v50 pe lo hi)), .unset] [(.long (hi.toInt64)), (.long pe)])) _
                refine XS.lcmp X106.here hx rfl (hb hby at_173) rfl ?_
                show Steps p.tables e below (T106.setTop (mkF m 174 #[.val (.int p0), .val (.int p1), .val (.long p2), .second, .val (.int p3), .val (.int (own_mx (1 : Int32) (p0 &&& (2147483647 : Int32)))), .val (.int (own_mx (1 : Int32) (p1 &&& (2147483647 : Int32)))), .val (.int lo), .val (.int hi), .val (.int v50), .val (.int (((p3.toUInt32 >>> ((1 : Int32) &&& 31).toUInt32).toInt32) &&& (3 : Int32))), .val (.long pe), .second, .val (.ref b130), .val (.int (own_wr v50 pe lo hi)), .unset] [(.int (lcmpW pe (hi.toInt64)))])) _
                refine XS.ifYes X106.here hx rfl (pc0 := 174) (pc' := 181) rfl (hb hby at_174) rfl ((if0 _ _).trans (tlt ((lw_gt _ _).mpr j_174)).2.2.1) (by decide) (by decide) ?_
                show Steps p.tables e below (T106.setTop (mkF m 181 #[.val (.int p0), .val (.int p1), .val (.long p2), .second, .val (.int p3), .val (.int (own_mx (1 : Int32) (p0 &&& (2147483647 : Int32)))), .val (.int (own_mx (1 : Int32) (p1 &&& (2147483647 : Int32)))), .val (.int lo), .val (.int hi), .val (.int v50), .val (.int (((p3.toUInt32 >>> ((1 : Int32) &&& 31).toUInt32).toInt32) &&& (3 : Int32))), .val (.long pe), .second, .val (.ref b130), .val (.int (own_wr v50 pe lo hi)), .unset] [])) _
                refine XS.iconst X106.here hx rfl (hb hby at_181) ?_
                exact kont
              · rw [hv182, if_neg j_160, if_neg j_165, if_neg j_174] at kont
                show Steps p.tables e below (T106.setTop (mkF m 160 #[.val (.int p0), .val (.int p1), .val (.long p2), .second, .val (.int p3), .val (.int (own_mx (1 : Int32) (p0 &&& (2147483647 : Int32)))), .val (.int (own_mx (1 : Int32) (p1 &&& (2147483647 : Int32)))), .val (.int lo), .val (.int hi), .val (.int v50), .val (.int (((p3.toUInt32 >>> ((1 : Int32) &&& 31).toUInt32).toInt32) &&& (3 : Int32))), .val (.long pe), .second, .val (.ref b130), .val (.int (own_wr v50 pe lo hi)), .unset] [(.int (lcmpW pe (lo.toInt64)))])) _
                refine XS.ifNo X106.here hx rfl (hb hby at_160) rfl ((if0 _ _).trans (flt (fun q => j_160 ((lw_lt _ _).mp q))).1) ?_
                show Steps p.tables e below (T106.setTop (mkF m 163 #[.val (.int p0), .val (.int p1), .val (.long p2), .second, .val (.int p3), .val (.int (own_mx (1 : Int32) (p0 &&& (2147483647 : Int32)))), .val (.int (own_mx (1 : Int32) (p1 &&& (2147483647 : Int32)))), .val (.int lo), .val (.int hi), .val (.int v50), .val (.int (((p3.toUInt32 >>> ((1 : Int32) &&& 31).toUInt32).toInt32) &&& (3 : Int32))), .val (.long pe), .second, .val (.ref b130), .val (.int (own_wr v50 pe lo hi)), .unset] [])) _
                refine XS.iload X106.here hx rfl (hb hby at_163) rfl ?_
                show Steps p.tables e below (T106.setTop (mkF m 165 #[.val (.int p0), .val (.int p1), .val (.long p2), .second, .val (.int p3), .val (.int (own_mx (1 : Int32) (p0 &&& (2147483647 : Int32)))), .val (.int (own_mx (1 : Int32) (p1 &&& (2147483647 : Int32)))), .val (.int lo), .val (.int hi), .val (.int v50), .val (.int (((p3.toUInt32 >>> ((1 : Int32) &&& 31).toUInt32).toInt32) &&& (3 : Int32))), .val (.long pe), .second, .val (.ref b130), .val (.int (own_wr v50 pe lo hi)), .unset] [(.int v50)])) _
                refine XS.ifNo X106.here hx rfl (hb hby at_165) rfl ((if0 _ _).trans (feq j_165).1) ?_
                show Steps p.tables e below (T106.setTop (mkF m 168 #[.val (.int p0), .val (.int p1), .val (.long p2), .second, .val (.int p3), .val (.int (own_mx (1 : Int32) (p0 &&& (2147483647 : Int32)))), .val (.int (own_mx (1 : Int32) (p1 &&& (2147483647 : Int32)))), .val (.int lo), .val (.int hi), .val (.int v50), .val (.int (((p3.toUInt32 >>> ((1 : Int32) &&& 31).toUInt32).toInt32) &&& (3 : Int32))), .val (.long pe), .second, .val (.ref b130), .val (.int (own_wr v50 pe lo hi)), .unset] [])) _
                refine XS.lload X106.here hx rfl (hb hby at_168) rfl ?_
                show Steps p.tables e below (T106.setTop (mkF m 170 #[.val (.int p0), .val (.int p1), .val (.long p2), .second, .val (.int p3), .val (.int (own_mx (1 : Int32) (p0 &&& (2147483647 : Int32)))), .val (.int (own_mx (1 : Int32) (p1 &&& (2147483647 : Int32)))), .val (.int lo), .val (.int hi), .val (.int v50), .val (.int (((p3.toUInt32 >>> ((1 : Int32) &&& 31).toUInt32).toInt32) &&& (3 : Int32))), .val (.long pe), .second, .val (.ref b130), .val (.int (own_wr v50 pe lo hi)), .unset] [(.long pe)])) _
                refine XS.iload X106.here hx rfl (hb hby at_170) rfl ?_
                show Steps p.tables e below (T106.setTop (mkF m 172 #[.val (.int p0), .val (.int p1), .val (.long p2), .second, .val (.int p3), .val (.int (own_mx (1 : Int32) (p0 &&& (2147483647 : Int32)))), .val (.int (own_mx (1 : Int32) (p1 &&& (2147483647 : Int32)))), .val (.int lo), .val (.int hi), .val (.int v50), .val (.int (((p3.toUInt32 >>> ((1 : Int32) &&& 31).toUInt32).toInt32) &&& (3 : Int32))), .val (.long pe), .second, .val (.ref b130), .val (.int (own_wr v50 pe lo hi)), .unset] [(.int hi), (.long pe)])) _
                refine XS.i2l X106.here hx rfl (hb hby at_172) rfl ?_
                show Steps p.tables e below (T106.setTop (mkF m 173 #[.val (.int p0), .val (.int p1), .val (.long p2), .second, .val (.int p3), .val (.int (own_mx (1 : Int32) (p0 &&& (2147483647 : Int32)))), .val (.int (own_mx (1 : Int32) (p1 &&& (2147483647 : Int32)))), .val (.int lo), .val (.int hi), .val (.int v50), .val (.int (((p3.toUInt32 >>> ((1 : Int32) &&& 31).toUInt32).toInt32) &&& (3 : Int32))), .val (.long pe), .second, .val (.ref b130), .val (.int (own_wr v50 pe lo hi)), .unset] [(.long (hi.toInt64)), (.long pe)])) _
                refine XS.lcmp X106.here hx rfl (hb hby at_173) rfl ?_
                show Steps p.tables e below (T106.setTop (mkF m 174 #[.val (.int p0), .val (.int p1), .val (.long p2), .second, .val (.int p3), .val (.int (own_mx (1 : Int32) (p0 &&& (2147483647 : Int32)))), .val (.int (own_mx (1 : Int32) (p1 &&& (2147483647 : Int32)))), .val (.int lo), .val (.int hi), .val (.int v50), .val (.int (((p3.toUInt32 >>> ((1 : Int32) &&& 31).toUInt32).toInt32) &&& (3 : Int32))), .val (.long pe), .second, .val (.ref b130), .val (.int (own_wr v50 pe lo hi)), .unset] [(.int (lcmpW pe (hi.toInt64)))])) _
                refine XS.ifNo X106.here hx rfl (hb hby at_174) rfl ((if0 _ _).trans (flt (fun q => j_174 ((lw_gt _ _).mp q))).2.2.1) ?_
                show Steps p.tables e below (T106.setTop (mkF m 177 #[.val (.int p0), .val (.int p1), .val (.long p2), .second, .val (.int p3), .val (.int (own_mx (1 : Int32) (p0 &&& (2147483647 : Int32)))), .val (.int (own_mx (1 : Int32) (p1 &&& (2147483647 : Int32)))), .val (.int lo), .val (.int hi), .val (.int v50), .val (.int (((p3.toUInt32 >>> ((1 : Int32) &&& 31).toUInt32).toInt32) &&& (3 : Int32))), .val (.long pe), .second, .val (.ref b130), .val (.int (own_wr v50 pe lo hi)), .unset] [])) _
                refine XS.iconst X106.here hx rfl (hb hby at_177) ?_
                show Steps p.tables e below (T106.setTop (mkF m 178 #[.val (.int p0), .val (.int p1), .val (.long p2), .second, .val (.int p3), .val (.int (own_mx (1 : Int32) (p0 &&& (2147483647 : Int32)))), .val (.int (own_mx (1 : Int32) (p1 &&& (2147483647 : Int32)))), .val (.int lo), .val (.int hi), .val (.int v50), .val (.int (((p3.toUInt32 >>> ((1 : Int32) &&& 31).toUInt32).toInt32) &&& (3 : Int32))), .val (.long pe), .second, .val (.ref b130), .val (.int (own_wr v50 pe lo hi)), .unset] [(.int (1 : Int32))])) _
                refine XS.goto X106.here hx rfl (pc0 := 178) (pc' := 182) rfl (hb hby at_178) (by decide) (by decide) ?_
                exact kont
        have pre110 : ∀ t, Steps p.tables e below (T106.setTop (mkF m 188 #[.val (.int p0), .val (.int p1), .val (.long p2), .second, .val (.int p3), .val (.int (own_mx (1 : Int32) (p0 &&& (2147483647 : Int32)))), .val (.int (own_mx (1 : Int32) (p1 &&& (2147483647 : Int32)))), .val (.int lo), .val (.int hi), .val (.int v50), .val (.int (((p3.toUInt32 >>> ((1 : Int32) &&& 31).toUInt32).toInt32) &&& (3 : Int32))), .val (.long pe), .second, .val (.ref b130), .val (.int (own_wr v50 pe lo hi)), .val (.int v182)] [(.int v182), (.int (own_wr v50 pe lo hi))])) t → Steps p.tables e below (s₁.setTop (entryFrame m #[(.int p0), (.int p1), (.long p2), (.int p3)] maxLocals)) t := by
          intro t kont
          refine pre109 t ?_
          show Steps p.tables e below (T106.setTop (mkF m 182 #[.val (.int p0), .val (.int p1), .val (.long p2), .second, .val (.int p3), .val (.int (own_mx (1 : Int32) (p0 &&& (2147483647 : Int32)))), .val (.int (own_mx (1 : Int32) (p1 &&& (2147483647 : Int32)))), .val (.int lo), .val (.int hi), .val (.int v50), .val (.int (((p3.toUInt32 >>> ((1 : Int32) &&& 31).toUInt32).toInt32) &&& (3 : Int32))), .val (.long pe), .second, .val (.ref b130), .val (.int (own_wr v50 pe lo hi)), .unset] [(.int v182)])) _
          refine XS.istore X106.here hx rfl (hb hby at_182) rfl (l' := #[.val (.int p0), .val (.int p1), .val (.long p2), .second, .val (.int p3), .val (.int (own_mx (1 : Int32) (p0 &&& (2147483647 : Int32)))), .val (.int (own_mx (1 : Int32) (p1 &&& (2147483647 : Int32)))), .val (.int lo), .val (.int hi), .val (.int v50), .val (.int (((p3.toUInt32 >>> ((1 : Int32) &&& 31).toUInt32).toInt32) &&& (3 : Int32))), .val (.long pe), .second, .val (.ref b130), .val (.int (own_wr v50 pe lo hi)), .val (.int v182)]) rfl ?_
          show Steps p.tables e below (T106.setTop (mkF m 184 #[.val (.int p0), .val (.int p1), .val (.long p2), .second, .val (.int p3), .val (.int (own_mx (1 : Int32) (p0 &&& (2147483647 : Int32)))), .val (.int (own_mx (1 : Int32) (p1 &&& (2147483647 : Int32)))), .val (.int lo), .val (.int hi), .val (.int v50), .val (.int (((p3.toUInt32 >>> ((1 : Int32) &&& 31).toUInt32).toInt32) &&& (3 : Int32))), .val (.long pe), .second, .val (.ref b130), .val (.int (own_wr v50 pe lo hi)), .val (.int v182)] [])) _
          refine XS.iload X106.here hx rfl (hb hby at_184) rfl ?_
          show Steps p.tables e below (T106.setTop (mkF m 186 #[.val (.int p0), .val (.int p1), .val (.long p2), .second, .val (.int p3), .val (.int (own_mx (1 : Int32) (p0 &&& (2147483647 : Int32)))), .val (.int (own_mx (1 : Int32) (p1 &&& (2147483647 : Int32)))), .val (.int lo), .val (.int hi), .val (.int v50), .val (.int (((p3.toUInt32 >>> ((1 : Int32) &&& 31).toUInt32).toInt32) &&& (3 : Int32))), .val (.long pe), .second, .val (.ref b130), .val (.int (own_wr v50 pe lo hi)), .val (.int v182)] [(.int (own_wr v50 pe lo hi))])) _
          refine XS.iload X106.here hx rfl (hb hby at_186) rfl ?_
          exact kont
        by_cases hc188 : (own_wr v50 pe lo hi) = v182
        · have pre111 : ∀ t, Steps p.tables e below (T106.setTop (mkF m 196 #[.val (.int p0), .val (.int p1), .val (.long p2), .second, .val (.int p3), .val (.int (own_mx (1 : Int32) (p0 &&& (2147483647 : Int32)))), .val (.int (own_mx (1 : Int32) (p1 &&& (2147483647 : Int32)))), .val (.int lo), .val (.int hi), .val (.int v50), .val (.int (((p3.toUInt32 >>> ((1 : Int32) &&& 31).toUInt32).toInt32) &&& (3 : Int32))), .val (.long pe), .second, .val (.ref b130), .val (.int (own_wr v50 pe lo hi)), .val (.int v182)] [(.int (1 : Int32))])) t → Steps p.tables e below (s₁.setTop (entryFrame m #[(.int p0), (.int p1), (.long p2), (.int p3)] maxLocals)) t := by
            intro t kont
            refine pre110 t ?_
            show Steps p.tables e below (T106.setTop (mkF m 188 #[.val (.int p0), .val (.int p1), .val (.long p2), .second, .val (.int p3), .val (.int (own_mx (1 : Int32) (p0 &&& (2147483647 : Int32)))), .val (.int (own_mx (1 : Int32) (p1 &&& (2147483647 : Int32)))), .val (.int lo), .val (.int hi), .val (.int v50), .val (.int (((p3.toUInt32 >>> ((1 : Int32) &&& 31).toUInt32).toInt32) &&& (3 : Int32))), .val (.long pe), .second, .val (.ref b130), .val (.int (own_wr v50 pe lo hi)), .val (.int v182)] [(.int v182), (.int (own_wr v50 pe lo hi))])) _
            refine XS.icmpNo X106.here hx rfl (hb hby at_188) rfl (teq hc188).2 ?_
            show Steps p.tables e below (T106.setTop (mkF m 191 #[.val (.int p0), .val (.int p1), .val (.long p2), .second, .val (.int p3), .val (.int (own_mx (1 : Int32) (p0 &&& (2147483647 : Int32)))), .val (.int (own_mx (1 : Int32) (p1 &&& (2147483647 : Int32)))), .val (.int lo), .val (.int hi), .val (.int v50), .val (.int (((p3.toUInt32 >>> ((1 : Int32) &&& 31).toUInt32).toInt32) &&& (3 : Int32))), .val (.long pe), .second, .val (.ref b130), .val (.int (own_wr v50 pe lo hi)), .val (.int v182)] [])) _
            refine XS.iconst X106.here hx rfl (hb hby at_191) ?_
            show Steps p.tables e below (T106.setTop (mkF m 192 #[.val (.int p0), .val (.int p1), .val (.long p2), .second, .val (.int p3), .val (.int (own_mx (1 : Int32) (p0 &&& (2147483647 : Int32)))), .val (.int (own_mx (1 : Int32) (p1 &&& (2147483647 : Int32)))), .val (.int lo), .val (.int hi), .val (.int v50), .val (.int (((p3.toUInt32 >>> ((1 : Int32) &&& 31).toUInt32).toInt32) &&& (3 : Int32))), .val (.long pe), .second, .val (.ref b130), .val (.int (own_wr v50 pe lo hi)), .val (.int v182)] [(.int (1 : Int32))])) _
            refine XS.goto X106.here hx rfl (pc0 := 192) (pc' := 196) rfl (hb hby at_192) (by decide) (by decide) ?_
            exact kont
          obtain ⟨fs, hr, hrun, hended, hW, hsame⟩ := X106.leave (v := some (.int (1 : Int32))) (fun h => by rw [Bd.returns] at h; cases h)
          refine ⟨_, _, pre111 _ ?_, hrun, hended, _, _, rfl, ?_, ⟨_, rfl⟩, hW, hsame.mono (by decide) (by decide)⟩
          · exact retN X106 hx (t := .boolean) Bd.returns (by simp) (hb hby at_196) hr
          · show Q0 Z p0 p1 p2 p3 h0 n0 _ T106.heap _
            rw [e106]
            exact ⟨rfl, N106⟩
        · exfalso
          exact hc188 (own_plain p3 v50 lo hi v182 pe hlh hv50 hv182)
set_option maxRecDepth 65536 in
set_option maxHeartbeats 40000000 in
theorem comes_1 {Post : Tables → Env → Array Value → State → Outcome → State → Prop} (hpost : ∀ tb e args s v u, (limb_1_1.after args s (.returned v) u = true ∧ limb_1_2.after args s (.returned v) u = true ∧ True) → FrameEnd s (.returned v) u (Jvm.fieldLocs frame_1_writes args s ++ Jvm.arrayLocs frame_1_arrays args s ++ Jvm.staticLocs frame_1_statics s) 16 128 → Post tb e args s (.returned v) u) :
    ArmFor flags0 classFile x code maxLocals ret World_1 tables_1 room_1 Calls_1 rest_1 Pre_1 Post := by
  intro l hfl _ _ p e ha hc hk s m args below hf hA hF happ hP
  obtain ⟨hcalls, hrest, hpre⟩ := hP
  obtain ⟨-, -, -, hnamed, -, -, -, hat⟩ := (Spec.applies_iff hf).mp happ
  obtain ⟨hg, hn⟩ := and_e (Cond.before_iff.mp (show (Jvm.Cond.and given_1 narrow_1).before args s = true from hpre))
  obtain ⟨g1, g2⟩ := and_e hg
  obtain ⟨g3, g4⟩ := and_e g2
  obtain ⟨g5, g6⟩ := and_e g4
  obtain ⟨g7, g8⟩ := and_e g6
  obtain ⟨w0, w1, w2, w3, rfl⟩ : ∃ w0 w1 w2 w3 : Value, args = #[w0, w1, w2, w3] := by
    have hs : args.size = 4 := by simpa [Cond.value, given_1] using g1
    obtain ⟨L⟩ := args
    match L, hs with
    | [w0, w1, w2, w3], _ => exact ⟨w0, w1, w2, w3, rfl⟩
  have hw := fun d (hd : d ∈ tables_1) => atoms_spec (ws := Jvm.Cond.code x code maxLocals ret :: tables_1) hat d (List.mem_cons_of_mem _ hd)
  have hfit : Fit s := fun {y c} hc i hi => by
    obtain ⟨ha, rfl⟩ := Array.getElem?_eq_some_iff.mp hc
    have q := List.all_eq_true.mp ((Array.all_eq_true_iff_forall_mem.mp hF) _ (Array.getElem_mem ha)) i (List.mem_range.mpr hi)
    simpa [Array.getElem?_eq_getElem hi] using q
  obtain ⟨i0, ei0⟩ := is_v g3
  obtain rfl : w0 = (.int i0) := Option.some.inj ei0
  obtain ⟨i1, ei1⟩ := is_v g5
  obtain rfl : w1 = (.int i1) := Option.some.inj ei1
  obtain ⟨i2, ei2⟩ := isL_v g7
  obtain rfl : w2 = (.long i2) := Option.some.inj ei2
  obtain ⟨i3, ei3⟩ := is_v g8
  obtain rfl : w3 = (.int i3) := Option.some.inj ei3
  obtain ⟨n, o, h1, h2, h3, _, L, rfl, ⟨rfl, N⟩, hq⟩ := rm0 l s _ hw tables_1 i0 i1 i2 i3 s.heap s.heap.size (Nat.le_refl _) p e ha hc hk s m _ below hf ((Spec.applies_iff_loose hf).mp happ).1 ⟨rfl, State.Warmed39.refl s, rfl⟩ trivial
  refine ⟨n, _, h1, h2, h3, hpost _ _ _ _ _ _ ⟨Cond.after_iff.mpr rfl, Cond.after_iff.mpr (eq_i res_at (Term.int_eval (1)) rfl), trivial⟩ ⟨hq.1, hq.2.1, (hq.2.2.sift fun y hy => Or.inr (N y hy)).mono (by decide) (by decide)⟩⟩
theorem main_1_1 : Claimed_1_1 := comes_1 fun _ _ _ _ _ _ h hF => ⟨h.1, hF⟩
theorem main_1_2 : Claimed_1_2 := comes_1 fun _ _ _ _ _ _ h hF => ⟨h.2.1, hF⟩
end Jvm.Pilot.@@N@@
namespace Jvm.Pilot.@@N@@
open Jvm Jvm.ClassFile Sem Op Lib Jvm.Free Jvm.Stand Jvm.Pilot.@@N@@.Jvm.D
/-! MADE BY PROGRAM (witnessworld.py) out of the Statement's table words and the real class files: 11 classes; the members and pool entries that the words name. The judged class is class 1, her method 1. -/
namespace start1
open Jvm.ClassFile
def u (s : String) : CpInfo := .utf8 (stringToUtf16 s)
/-- a pool by its gaps: so many unusable entries, then the entry; so many at the end -/
def gap : Nat → List CpInfo → List CpInfo
  | 0, r => r
  | n + 1, r => .unusable :: gap n r
def poolList (es : List (Nat × CpInfo)) (last : Nat) : List CpInfo := es.foldr (fun e r => gap e.1 (e.2 :: r)) (gap last [])
def pool (es : List (Nat × CpInfo)) (last : Nat) : Array CpInfo := ⟨poolList es last⟩
def fileOf (pool : Array CpInfo) (this : Nat) (attrs : Array Attribute := #[]) (ms : Array MethodInfo := #[]) (fl : Nat := 33) (sup : Nat := 0) (ifs : Array Nat := #[]) (fds : Array FieldInfo := #[]) : ClassFile where
  minorVersion := 0
  majorVersion := 65
  constantPool := pool
  accessFlags := fl
  thisClass := this
  superClass := sup
  interfaces := ifs
  fields := fds
  methods := ms
  attributes := attrs
def plain (name : String) (sup : Option ClassId) : Class where
  name := name
  kind := .ordinary
  loader := none
  accessFlags := 33
  super := sup
  interfaces := #[]
  cf := none
  fields := #[]
  methods := #[]
  instanceTypes := #[]
  staticTypes := #[]
  resolved := #[]
  callSites := []
  init := .initialized
  statics := none
  mirror := none

def pool0 : Array CpInfo := pool [(5, u "<init>"), (0, u "()V"), (1, .class_ 10), (1, u "java/lang/Object")] 113

def k0c0 : Code := { maxStack := 0, maxLocals := 1, code := object_method_1_code, exceptionTable := #[], attributes := #[] }
def k0m0 : Method := { name := "<init>", desc := "()V", sig := { parameters := [], returnType := none }, accessFlags := 1, code := some k0c0 }
/-- java/lang/Object -/
def k0 : Class := { plain "java/lang/Object" none with
  accessFlags := 33
  interfaces := #[]
  cf := some (fileOf pool0 8 #[] #[{ accessFlags := 1, nameIndex := 5, descriptorIndex := 6, attributes := #[] }] 33 0 #[] #[])
  fields := #[]
  methods := #[k0m0]
  instanceTypes := #[]
  staticTypes := #[]
  resolved := Array.replicate 124 none
  statics := none }

def pool1 : Array CpInfo := pool [(2, .class_ 4), (1, u "java/lang/Object"), (0, u "<init>"), (0, u "()V"), (0, .integer 2147483647), (0, .methodref 9 10), (0, .class_ 11), (0, .nameAndType 12 13), (0, u "java/lang/Math"), (0, u "max"), (0, u "(II)I"), (0, .methodref 9 15), (0, .nameAndType 16 13), (0, u "min"), (2, .long 9223372036854775807), (1, .long 3), (1, .methodref 9 24), (0, .nameAndType 12 25), (0, u "(JJ)J"), (0, .long 4294967295), (1, .class_ 29), (0, u "com/example/even_keel/evenkeel/channel/WaterMarks"), (0, .methodref 28 31), (0, .nameAndType 5 32), (0, u "(II)V"), (0, .methodref 28 34), (0, .nameAndType 35 36), (0, u "writableAfter"), (0, u "(ZJ)Z"), (0, .class_ 38), (0, u "com/example/even_keel/evenkeel/channel/WaterMarksWritableAfterPinLaw"), (2, u "law"), (0, u "(IIJI)Z")] 3

def k1m0 : Method := { name := "<init>", desc := "()V", sig := { parameters := [], returnType := none }, accessFlags := 1, code := none }
def k1c1 : Code := { maxStack := 8, maxLocals := 16, code := code, exceptionTable := #[], attributes := #[] }
def k1m1 : Method := { name := "law", desc := "(IIJI)Z", sig := { parameters := [.int, .int, .long, .int], returnType := some .boolean }, accessFlags := 9, code := some k1c1 }
/-- com/example/even_keel/evenkeel/channel/WaterMarksWritableAfterPinLaw -/
def k1 : Class := { plain "com/example/even_keel/evenkeel/channel/WaterMarksWritableAfterPinLaw" (some 0) with
  accessFlags := 49
  interfaces := #[]
  cf := some (fileOf pool1 37 #[] #[{ accessFlags := 1, nameIndex := 5, descriptorIndex := 6, attributes := #[] }, { accessFlags := 9, nameIndex := 41, descriptorIndex := 42, attributes := #[] }] 49 2 #[] #[])
  fields := #[]
  methods := #[k1m0, k1m1]
  instanceTypes := #[]
  staticTypes := #[]
  resolved := Array.replicate 46 none
  statics := none }

def pool2 : Array CpInfo := pool [(1, .class_ 2), (0, u "java/lang/Math"), (1, .class_ 6), (1, u "java/lang/Object"), (0, u "<init>"), (0, u "()V"), (89, .class_ 100), (1, u "java/lang/Math$RandomNumberGeneratorHolder"), (20, u "(JJ)J"), (50, u "negativeZeroFloatBits"), (0, u "J"), (2, u "negativeZeroDoubleBits"), (21, u "max"), (2, u "min"), (43, u "$assertionsDisabled"), (0, u "Z"), (88, u "(II)I"), (2, u "twoToTheDoubleScaleDown"), (0, u "D"), (4, u "twoToTheDoubleScaleUp"), (9, u "E"), (3, u "PI"), (2, u "TAU"), (2, u "DEGREES_TO_RADIANS"), (0, u "RADIANS_TO_DEGREES")] 94

def k2m0 : Method := { name := "<init>", desc := "()V", sig := { parameters := [], returnType := none }, accessFlags := 2, code := none }
def k2c1 : Code := { maxStack := 2, maxLocals := 2, code := jdk_29_method_65_code, exceptionTable := #[], attributes := #[] }
def k2m1 : Method := { name := "max", desc := "(II)I", sig := { parameters := [.int, .int], returnType := some .int }, accessFlags := 9, code := some k2c1 }
def k2c2 : Code := { maxStack := 4, maxLocals := 4, code := jdk_29_method_66_code, exceptionTable := #[], attributes := #[] }
def k2m2 : Method := { name := "max", desc := "(JJ)J", sig := { parameters := [.long, .long], returnType := some .long }, accessFlags := 9, code := some k2c2 }
def k2c3 : Code := { maxStack := 2, maxLocals := 2, code := jdk_29_method_69_code, exceptionTable := #[], attributes := #[] }
def k2m3 : Method := { name := "min", desc := "(II)I", sig := { parameters := [.int, .int], returnType := some .int }, accessFlags := 9, code := some k2c3 }
/-- java/lang/Math -/
def k2 : Class := { plain "java/lang/Math" (some 0) with
  accessFlags := 49
  interfaces := #[]
  cf := some (fileOf pool2 1 #[.nestMembers #[98]] #[{ accessFlags := 2, nameIndex := 7, descriptorIndex := 8, attributes := #[] }, { accessFlags := 9, nameIndex := 198, descriptorIndex := 335, attributes := #[] }, { accessFlags := 9, nameIndex := 198, descriptorIndex := 121, attributes := #[] }, { accessFlags := 9, nameIndex := 201, descriptorIndex := 335, attributes := #[] }] 49 4 #[] #[{ accessFlags := 25, nameIndex := 354, descriptorIndex := 339, attributes := #[] }, { accessFlags := 25, nameIndex := 358, descriptorIndex := 339, attributes := #[] }, { accessFlags := 25, nameIndex := 361, descriptorIndex := 339, attributes := #[] }, { accessFlags := 26, nameIndex := 364, descriptorIndex := 339, attributes := #[] }, { accessFlags := 26, nameIndex := 365, descriptorIndex := 339, attributes := #[] }, { accessFlags := 26, nameIndex := 172, descriptorIndex := 173, attributes := #[] }, { accessFlags := 26, nameIndex := 176, descriptorIndex := 173, attributes := #[] }, { accessFlags := 8, nameIndex := 344, descriptorIndex := 339, attributes := #[] }, { accessFlags := 8, nameIndex := 338, descriptorIndex := 339, attributes := #[] }, { accessFlags := 4120, nameIndex := 245, descriptorIndex := 246, attributes := #[] }])
  fields := #[{ name := "E", type := .double, accessFlags := 25, slot := 0, constantValue := 0 }, { name := "PI", type := .double, accessFlags := 25, slot := 1, constantValue := 0 }, { name := "TAU", type := .double, accessFlags := 25, slot := 2, constantValue := 0 }, { name := "DEGREES_TO_RADIANS", type := .double, accessFlags := 26, slot := 3, constantValue := 0 }, { name := "RADIANS_TO_DEGREES", type := .double, accessFlags := 26, slot := 4, constantValue := 0 }, { name := "negativeZeroFloatBits", type := .long, accessFlags := 26, slot := 5, constantValue := 0 }, { name := "negativeZeroDoubleBits", type := .long, accessFlags := 26, slot := 6, constantValue := 0 }, { name := "twoToTheDoubleScaleUp", type := .double, accessFlags := 8, slot := 7, constantValue := 0 }, { name := "twoToTheDoubleScaleDown", type := .double, accessFlags := 8, slot := 8, constantValue := 0 }, { name := "$assertionsDisabled", type := .boolean, accessFlags := 4120, slot := 9, constantValue := 0 }]
  methods := #[k2m0, k2m1, k2m2, k2m3]
  instanceTypes := #[]
  staticTypes := #[.double, .double, .double, .double, .double, .long, .long, .double, .double, .boolean]
  resolved := Array.replicate 460 none
  statics := none }

def pool3 : Array CpInfo := pool [(1, .methodref 2 3), (0, .class_ 4), (0, .nameAndType 5 6), (0, u "java/lang/Object"), (0, u "<init>"), (0, u "()V"), (0, .class_ 8), (0, u "java/lang/Record")] 13

def k3c0 : Code := { maxStack := 1, maxLocals := 1, code := jdk_30_method_1_code, exceptionTable := #[], attributes := #[] }
def k3m0 : Method := { name := "<init>", desc := "()V", sig := { parameters := [], returnType := none }, accessFlags := 4, code := some k3c0 }
/-- java/lang/Record -/
def k3 : Class := { plain "java/lang/Record" (some 0) with
  accessFlags := 1057
  interfaces := #[]
  cf := some (fileOf pool3 7 #[] #[{ accessFlags := 4, nameIndex := 5, descriptorIndex := 6, attributes := #[] }] 1057 2 #[] #[])
  fields := #[]
  methods := #[k3m0]
  instanceTypes := #[]
  staticTypes := #[]
  resolved := Array.replicate 22 none
  statics := none }

def pool4 : Array CpInfo := pool [(1, .methodref 2 3), (0, .class_ 4), (0, .nameAndType 5 6), (0, u "java/lang/Record"), (0, u "<init>"), (0, u "()V"), (12, .fieldref 20 21), (0, .class_ 22), (0, .nameAndType 23 24), (0, u "com/example/even_keel/evenkeel/channel/WaterMarks"), (0, u "low"), (0, u "I"), (0, .fieldref 20 26), (0, .nameAndType 27 24), (0, u "high"), (19, u "(II)V"), (2, u "DEFAULT"), (0, u "Lcom/example/even_keel/evenkeel/channel/WaterMarks;"), (4, u "writableAfter"), (0, u "(ZJ)Z")] 37

def k4c0 : Code := { maxStack := 4, maxLocals := 3, code := prog_24_method_1_code, exceptionTable := #[], attributes := #[] }
def k4m0 : Method := { name := "<init>", desc := "(II)V", sig := { parameters := [.int, .int], returnType := none }, accessFlags := 1, code := some k4c0 }
def k4c1 : Code := { maxStack := 4, maxLocals := 5, code := prog_24_method_2_code, exceptionTable := #[], attributes := #[] }
def k4m1 : Method := { name := "writableAfter", desc := "(ZJ)Z", sig := { parameters := [.boolean, .long], returnType := some .boolean }, accessFlags := 1, code := some k4c1 }
/-- com/example/even_keel/evenkeel/channel/WaterMarks -/
def k4 : Class := { plain "com/example/even_keel/evenkeel/channel/WaterMarks" (some 3) with
  accessFlags := 49
  interfaces := #[]
  cf := some (fileOf pool4 20 #[] #[{ accessFlags := 1, nameIndex := 5, descriptorIndex := 47, attributes := #[] }, { accessFlags := 1, nameIndex := 56, descriptorIndex := 57, attributes := #[] }] 49 2 #[] #[{ accessFlags := 18, nameIndex := 23, descriptorIndex := 24, attributes := #[] }, { accessFlags := 18, nameIndex := 27, descriptorIndex := 24, attributes := #[] }, { accessFlags := 25, nameIndex := 50, descriptorIndex := 51, attributes := #[] }])
  fields := #[{ name := "low", type := .int, accessFlags := 18, slot := 0, constantValue := 0 }, { name := "high", type := .int, accessFlags := 18, slot := 1, constantValue := 0 }, { name := "DEFAULT", type := (.object "com/example/even_keel/evenkeel/channel/WaterMarks"), accessFlags := 25, slot := 0, constantValue := 0 }]
  methods := #[k4m0, k4m1]
  instanceTypes := #[.int, .int]
  staticTypes := #[(.object "com/example/even_keel/evenkeel/channel/WaterMarks")]
  resolved := Array.replicate 95 none
  statics := none }

def pool5 : Array CpInfo := pool [(1, u "java/lang/Cloneable"), (0, .class_ 1), (0, u "java/lang/Object"), (0, .class_ 3)] 3

/-- java/lang/Cloneable -/
def k5 : Class := { plain "java/lang/Cloneable" (some 0) with
  accessFlags := 1537
  interfaces := #[]
  cf := some (fileOf pool5 2 #[] #[] 1537 4 #[] #[])
  fields := #[]
  methods := #[]
  instanceTypes := #[]
  staticTypes := #[]
  resolved := Array.replicate 8 none
  statics := none }

def pool6 : Array CpInfo := pool [(1, u "java/io/Serializable"), (0, .class_ 1), (0, u "java/lang/Object"), (0, .class_ 3)] 3

/-- java/io/Serializable -/
def k6 : Class := { plain "java/io/Serializable" (some 0) with
  accessFlags := 1537
  interfaces := #[]
  cf := some (fileOf pool6 2 #[] #[] 1537 4 #[] #[])
  fields := #[]
  methods := #[]
  instanceTypes := #[]
  staticTypes := #[]
  resolved := Array.replicate 8 none
  statics := none }

/-- the primitive byte -/
def k7 : Class := { plain "byte" none with kind := .primitive 'B', accessFlags := 0x411 }
/-- [B -/
def k8 : Class := { plain "[B" (some 0) with kind := .array 7 .byte, interfaces := #[5, 6], accessFlags := 1041 }

/-- the primitive int -/
def k9 : Class := { plain "int" none with kind := .primitive 'I', accessFlags := 0x411 }
/-- [I -/
def k10 : Class := { plain "[I" (some 0) with kind := .array 9 .int, interfaces := #[5, 6], accessFlags := 1041 }

def heap : Heap := #[]
def classes : Array Class := #[k0, k1, k2, k3, k4, k5, k6, k7, k8, k9, k10]
def interned : List (Array UInt16 × Addr) := []
def slotsUsed : Nat := 0
def theMethod : MethodId := ⟨1, 1⟩
def args0 : Array Value := #[.int 9, .int 10, .long 4, .int 3]
def aboutOver (below : List Frame) : State where
  vm := { classes := classes, interned := interned.toArray }
  heap := heap
  slotsUsed := slotsUsed
  threads := #[{ frames := .invoking theMethod args0 :: below }]
def below0 : List Frame := [.native { method := ⟨0, 0⟩, args := #[] }]
def about1 : State := aboutOver below0
def p0 : Program := .bare "" "" ""
def e0 : Env := launch0.env 0 0 0
theorem w_frames : about1.frames = Frame.invoking theMethod args0 :: below0 := rfl
set_option maxRecDepth 65536 in
theorem w_args : argsFit about1.vm theMethod args0 = true := by decide +kernel
set_option maxRecDepth 65536 in
theorem w_heap : heapFits about1 = true := by decide +kernel
set_option maxRecDepth 65536 in
theorem w_runnable : about1.curStatus? = some .runnable := by decide +kernel
set_option maxRecDepth 65536 in
theorem w_alone : about1.alone = true := by decide +kernel
set_option maxRecDepth 65536 in
theorem w_named : about1.methodNamed? x = some theMethod := by decide +kernel
set_option maxRecDepth 65536 in
theorem w_hears : about1.hears theMethod below0 = true := by decide +kernel
set_option maxRecDepth 65536 in
theorem w_ripe : about1.ripe theMethod args0 below0 = true := by decide +kernel
theorem w_running : about1.status = .running := rfl
set_option maxRecDepth 65536 in
theorem w_room : about1.hasRoom e0.platform room_1 = true :=
  launch0.hasRoom_least _ room_1 (by decide +kernel) (by decide +kernel) (by decide +kernel) (by decide +kernel) (by decide +kernel) (by decide +kernel)
theorem allAtoms_all (ts : List Jvm.Cond) (a : Array Jvm.Value) (st : Jvm.State) : (allAtoms ts).before a st = ts.all (fun c => c.before a st) := by
  induction ts with
  | nil => rfl
  | cons c t ih =>
    show (Jvm.Cond.and c (allAtoms t)).before a st = _
    rw [Jvm.Cond.before_and, ih, List.all_cons]
def words1 : List Jvm.Cond := Jvm.Cond.code x code maxLocals ret :: tables_1
/-- a 'code' word, met by the world's own term for the bytes: nothing is compared byte by byte -/
theorem code_word {y : MethodName} {bytes : ByteArray} {mx : Nat} {rt : Option FieldType} {a : Array Value} {s : State} {m : MethodId} {meth : Method} {c : Code} (h1 : s.methodNamed? y = some m) (h2 : s.vm.method? m = some meth) (h3 : meth.code = some c) (h4 : c.code = bytes)
    (h5 : (c.maxLocals == mx && c.exceptionTable.isEmpty && decide (c.maxStack ≤ mostOperands) && decide (meth.sig.returnType = rt) && !meth.locks && decide (parseMethodDescriptor y.desc = some meth.sig)) = true) : (Jvm.Cond.code y bytes mx rt).before a s = true := by
  simp only [Bool.and_eq_true, beq_iff_eq, Bool.not_eq_true', decide_eq_true_eq] at h5
  obtain ⟨⟨⟨⟨⟨g1, g2⟩, g3⟩, g4⟩, g5⟩, g6⟩ := h5
  simp [Cond.before, Cond.holds, Cond.value, h1, h2, h3, h4, g1, g2, g3, g4, g5, g6]
def isCode : Jvm.Cond → Bool
  | .code _ _ _ _ => true
  | _ => false
theorem all_split {L : List Jvm.Cond} {P : Jvm.Cond → Bool} (h1 : L.all (fun c => isCode c || P c) = true) (h2 : ∀ c ∈ L.filter isCode, P c = true) : L.all P = true := by
  refine List.all_eq_true.mpr fun c hc => ?_
  have h := List.all_eq_true.mp h1 c hc
  rcases Bool.eq_false_or_eq_true (isCode c) with hi | hi
  · exact h2 c (List.mem_filter.mpr ⟨hc, hi⟩)
  · simpa [hi] using h
set_option maxRecDepth 65536 in
theorem w_c0 : (Jvm.Cond.code x code maxLocals ret).before args0 about1 = true := code_word (m := ⟨1, 1⟩) (meth := k1m1) (c := k1c1) (by decide +kernel) rfl rfl rfl (by decide +kernel)
set_option maxRecDepth 65536 in
theorem w_c1 : (Jvm.Cond.code ({ cls := "java/lang/Math", name := "max", desc := "(II)I" } : Jvm.MethodName) jdk_29_method_65_code (2 : Nat) (Option.some Jvm.ClassFile.FieldType.int)).before args0 about1 = true := code_word (m := ⟨2, 1⟩) (meth := k2m1) (c := k2c1) (by decide +kernel) rfl rfl rfl (by decide +kernel)
set_option maxRecDepth 65536 in
theorem w_c2 : (Jvm.Cond.code ({ cls := "java/lang/Math", name := "min", desc := "(II)I" } : Jvm.MethodName) jdk_29_method_69_code (2 : Nat) (Option.some Jvm.ClassFile.FieldType.int)).before args0 about1 = true := code_word (m := ⟨2, 3⟩) (meth := k2m3) (c := k2c3) (by decide +kernel) rfl rfl rfl (by decide +kernel)
set_option maxRecDepth 65536 in
theorem w_c3 : (Jvm.Cond.code ({ cls := "com/example/even_keel/evenkeel/channel/WaterMarks", name := "<init>", desc := "(II)V" } : Jvm.MethodName) prog_24_method_1_code (3 : Nat) (Option.none : Option Jvm.ClassFile.FieldType)).before args0 about1 = true := code_word (m := ⟨4, 0⟩) (meth := k4m0) (c := k4c0) (by decide +kernel) rfl rfl rfl (by decide +kernel)
set_option maxRecDepth 65536 in
theorem w_c4 : (Jvm.Cond.code ({ cls := "java/lang/Record", name := "<init>", desc := "()V" } : Jvm.MethodName) jdk_30_method_1_code (1 : Nat) (Option.none : Option Jvm.ClassFile.FieldType)).before args0 about1 = true := code_word (m := ⟨3, 0⟩) (meth := k3m0) (c := k3c0) (by decide +kernel) rfl rfl rfl (by decide +kernel)
set_option maxRecDepth 65536 in
theorem w_c5 : (Jvm.Cond.code ({ cls := "java/lang/Object", name := "<init>", desc := "()V" } : Jvm.MethodName) object_method_1_code (1 : Nat) (Option.none : Option Jvm.ClassFile.FieldType)).before args0 about1 = true := code_word (m := ⟨0, 0⟩) (meth := k0m0) (c := k0c0) (by decide +kernel) rfl rfl rfl (by decide +kernel)
set_option maxRecDepth 65536 in
theorem w_c6 : (Jvm.Cond.code ({ cls := "com/example/even_keel/evenkeel/channel/WaterMarks", name := "writableAfter", desc := "(ZJ)Z" } : Jvm.MethodName) prog_24_method_2_code (5 : Nat) (Option.some Jvm.ClassFile.FieldType.boolean)).before args0 about1 = true := code_word (m := ⟨4, 1⟩) (meth := k4m1) (c := k4c1) (by decide +kernel) rfl rfl rfl (by decide +kernel)
set_option maxRecDepth 65536 in
theorem w_c7 : (Jvm.Cond.code ({ cls := "java/lang/Math", name := "max", desc := "(JJ)J" } : Jvm.MethodName) jdk_29_method_66_code (4 : Nat) (Option.some Jvm.ClassFile.FieldType.long)).before args0 about1 = true := code_word (m := ⟨2, 2⟩) (meth := k2m2) (c := k2c2) (by decide +kernel) rfl rfl rfl (by decide +kernel)
def codes1 : List Jvm.Cond := [Jvm.Cond.code x code maxLocals ret, Jvm.Cond.code ({ cls := "java/lang/Math", name := "max", desc := "(II)I" } : Jvm.MethodName) jdk_29_method_65_code (2 : Nat) (Option.some Jvm.ClassFile.FieldType.int), Jvm.Cond.code ({ cls := "java/lang/Math", name := "min", desc := "(II)I" } : Jvm.MethodName) jdk_29_method_69_code (2 : Nat) (Option.some Jvm.ClassFile.FieldType.int), Jvm.Cond.code ({ cls := "com/example/even_keel/evenkeel/channel/WaterMarks", name := "<init>", desc := "(II)V" } : Jvm.MethodName) prog_24_method_1_code (3 : Nat) (Option.none : Option Jvm.ClassFile.FieldType), Jvm.Cond.code ({ cls := "java/lang/Record", name := "<init>", desc := "()V" } : Jvm.MethodName) jdk_30_method_1_code (1 : Nat) (Option.none : Option Jvm.ClassFile.FieldType), Jvm.Cond.code ({ cls := "java/lang/Object", name := "<init>", desc := "()V" } : Jvm.MethodName) object_method_1_code (1 : Nat) (Option.none : Option Jvm.ClassFile.FieldType), Jvm.Cond.code ({ cls := "com/example/even_keel/evenkeel/channel/WaterMarks", name := "writableAfter", desc := "(ZJ)Z" } : Jvm.MethodName) prog_24_method_2_code (5 : Nat) (Option.some Jvm.ClassFile.FieldType.boolean), Jvm.Cond.code ({ cls := "java/lang/Math", name := "max", desc := "(JJ)J" } : Jvm.MethodName) jdk_29_method_66_code (4 : Nat) (Option.some Jvm.ClassFile.FieldType.long)]
set_option maxRecDepth 65536 in
theorem codes_eq : words1.filter isCode = codes1 := rfl
theorem w_codes : ∀ c ∈ words1.filter isCode, c.before args0 about1 = true := by
  rw [codes_eq]
  intro c hc
  simp only [codes1, List.mem_cons, List.not_mem_nil, or_false] at hc
  rcases hc with rfl | rfl | rfl | rfl | rfl | rfl | rfl | rfl
  · exact w_c0
  · exact w_c1
  · exact w_c2
  · exact w_c3
  · exact w_c4
  · exact w_c5
  · exact w_c6
  · exact w_c7
set_option maxRecDepth 65536 in
theorem w_t1 : (words1.take 24).all (fun c => isCode c || c.before args0 about1) = true := by decide +kernel
set_option maxRecDepth 65536 in
theorem w_t2 : (words1.drop 24).all (fun c => isCode c || c.before args0 about1) = true := by decide +kernel
theorem w_tables : (allAtoms (Jvm.Cond.code x code maxLocals ret :: tables_1)).before args0 about1 = true := by
  rw [allAtoms_all]
  show words1.all (fun c => c.before args0 about1) = true
  refine all_split ?_ w_codes
  rw [← List.take_append_drop 24 words1, List.all_append, w_t1, w_t2]
  rfl
set_option maxRecDepth 65536 in
theorem w_case : (Jvm.Cond.and given_1 narrow_1).before args0 about1 = true := by decide +kernel
theorem w_applies : (headSpec (Jvm.Cond.code x code maxLocals ret :: tables_1) room_1).applies x e0.platform about1 = true :=
  (Spec.applies_iff w_frames).mpr ⟨w_running, w_runnable, w_alone, w_named, w_hears, w_ripe, w_room, w_tables⟩
theorem atStart : AtStart classFile x code maxLocals ret World_1 tables_1 room_1 Calls_1 rest_1 Pre_1 launch0 p0 e0 about1 theMethod args0 below0 :=
  ⟨lists_1, trivial, launch0.admits_env _ _ _, launch0.least_env, fairChoices_fair.cas, fairChoices_fair.clock, w_frames, w_args, w_heap, w_applies, trivial, trivial, w_case⟩
end start1
theorem witness_1 : WitnessClaimed_1 := ⟨start1.p0, start1.e0, start1.about1, start1.theMethod, start1.args0, start1.below0, start1.atStart⟩
end Jvm.Pilot.@@N@@
