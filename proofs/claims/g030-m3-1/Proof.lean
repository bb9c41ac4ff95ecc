import JvmDerived
import JvmDerived.Pilot.@@N@@Statement
import JvmDerived.Pilot.@@N@@Code
set_option linter.unusedVariables false
set_option linter.unusedSimpArgs false
namespace Jvm.RoadKit
open Sem ClassFile Op Lib Jvm.Stand Jvm.Free Jvm.LawKit
section New
variable {p : Program} {l : Launch} {e : Env} {R : Room} {s : State} {m : MethodId} {args : Array Value} {below : List Frame} {meth : Method} {c : Code} {T : State} {locs : List Loc} {cells slots : Nat}
theorem retI (X : Stand p l e R s m args below meth c T locs cells slots) (hx : p.tables.exec = Jvm.exec) {pc : Nat} {Ls : Array Slot} {z : Int32} {rest : List Value} (hret : meth.sig.returnType = some .int) (hd : decode c.code pc = .ok (.ireturn, 1)) {fs : List Frame}
    (hl : ∀ (f : JFrame) (acts : List Action), f.method = m → f.locked = none → f.entered = [] → (doReturn e (T.setTop f) acts (some (.int z))).1 = T.setFrames fs) : Steps p.tables e below (T.setTop (mkF m pc Ls (.int z :: rest))) (T.setFrames fs) := by
  have hm' : T.vm.method? m = some meth := X.method'
  have hn : narrow .int (.int z) = .int z := rfl
  show Steps p.tables e below (T.setTop { method := m, pc := pc, locals := Ls, stack := _ :: rest, locked := none }) _
  jvm_step X.here [X.here.top, hx, hd, hm', hret, hn]
  first | (intro acts; rw [hl _ acts rfl rfl rfl]) | rw [hl _ _ rfl rfl rfl]
  exact Steps.refl _
end New
end Jvm.RoadKit
namespace Jvm.Pilot.@@N@@
open Jvm Jvm.ClassFile Sem Op Lib Jvm.Free Jvm.Stand Jvm.LawKit Jvm.RoadKit Bundle Jvm.Pilot.@@N@@.Jvm.D
theorem d1_0 : decode prog_33_method_10_code 0 = .ok (.iload_n 0, 1) := by decide +kernel
theorem d1_1 : decode prog_33_method_10_code 1 = .ok (.ifCond .lt 14, 3) := by decide +kernel
theorem d1_15 : decode prog_33_method_10_code 15 = .ok (.iconst 0, 1) := by decide +kernel
theorem d1_16 : decode prog_33_method_10_code 16 = .ok (.ireturn, 1) := by decide +kernel
theorem d1_4 : decode prog_33_method_10_code 4 = .ok (.iload_n 0, 1) := by decide +kernel
theorem d1_5 : decode prog_33_method_10_code 5 = .ok (.sipush 255, 3) := by decide +kernel
theorem d1_8 : decode prog_33_method_10_code 8 = .ok (.if_icmp .gt 7, 3) := by decide +kernel
theorem d1_11 : decode prog_33_method_10_code 11 = .ok (.iconst 1, 1) := by decide +kernel
theorem d1_12 : decode prog_33_method_10_code 12 = .ok (.goto 4, 3) := by decide +kernel
def own_isM (p0 : Int32) : Int32 := (if p0 < (0 : Int32) then (0 : Int32) else (if (255 : Int32) < p0 then (0 : Int32) else (1 : Int32)))
theorem pn_1 : plainName "com/example/wirecall/wirecall/Login" = true := by first | (simp [plainName, overriddenIn]; done) | decide +kernel
theorem ef_1 (m : MethodId) (x0 : Int32) : entryFrame m #[(.int x0)] 1 = mkF m 0 #[.val (.int x0)] [] := by first | (simp [entryFrame, mkF, argsToLocals, Value.category]; done) | rfl
def Q1 (Z : State) (p0 : Int32) (h0 : Heap) (n0 : Nat) (v : Option Value) (h : Heap) (L : List Loc) : Prop := v = some (.int (own_isM p0)) ∧ Fr n0 L ∧ h = h0
set_option maxRecDepth 65536 in
set_option maxHeartbeats 40000000 in
theorem rm1 (l : Launch) (Z : State) (a0 : Array Value) (hw : ∀ d ∈ tables_1, d.before a0 Z = true) (ws : List Jvm.Cond) (p0 : Int32) (h0 : Heap) (n0 : Nat) (Z0 : n0 ≤ h0.size) :
    MetFree l (⟨"com/example/wirecall/wirecall/Login", "isMethod", "(I)Z"⟩ : MethodName) (head1 (Jvm.Cond.code (⟨"com/example/wirecall/wirecall/Login", "isMethod", "(I)Z"⟩ : MethodName) prog_33_method_10_code 1 (some .boolean) :: ws) ({ frames := 0, cells := 0, slots := 0, locals := 0 } : Room)) (fun a U => a = #[(.int p0)] ∧ Z.Warmed39 U.vm ∧ U.heap = h0) (fun _ _ _ _ _ => True) (fun _ U o U' => ∃ v L, o = .returned v ∧ Q1 Z p0 h0 n0 v U'.heap L ∧ FrameEnd U o U' L ({ frames := 0, cells := 0, slots := 0, locals := 0 } : Room).cells ({ frames := 0, cells := 0, slots := 0, locals := 0 } : Room).slots) := by
  refine MetFree.of_bodySF (plainFor_of_name pn_1) hisR ?_
  intro p e s m args below meth c s₁ Bd hml0 hP hK
  obtain ⟨rfl, hZ, hh⟩ := hP
  have hx := Bd.exec
  have hby := Bd.bytes
  have hml : c.maxLocals = 1 := hml0
  have hown : s.vm.findClass "com/example/wirecall/wirecall/Login" = some m.cls := findClass_of_methodNamed Bd.named
  have hnm := (name_of_methodNamed Bd.named Bd.method).1
  have X0 : Stand p l e ({ frames := 0, cells := 0, slots := 0, locals := 0 } : Room) s m #[(.int p0)] below meth c s₁ [] 0 0 := Stand.of_body Bd
  have e0 : s₁.heap = h0 := by rw [← hh, Bd.state]; rfl
  have N0 := Fr.nil n0
  have pre0 : ∀ t, Steps p.tables e below (s₁.setTop (mkF m 0 #[.val (.int p0)] [])) t → Steps p.tables e below (s₁.setTop (entryFrame m #[(.int p0)] 1)) t := fun t k => castTop (ef_1 m p0) k
  have pre1 : ∀ t, Steps p.tables e below (s₁.setTop (mkF m 1 #[.val (.int p0)] [(.int p0)])) t → Steps p.tables e below (s₁.setTop (entryFrame m #[(.int p0)] 1)) t := by
    intro t k
    refine pre0 t ?_
    show Steps p.tables e below (s₁.setTop (mkF m 0 #[.val (.int p0)] [])) _
    refine XS.iloadN X0.here hx rfl (hb hby d1_0) rfl ?_
    exact k
  by_cases hc1 : p0 < (0 : Int32)
  · have pre2 : ∀ t, Steps p.tables e below (s₁.setTop (mkF m 16 #[.val (.int p0)] [(.int (0 : Int32))])) t → Steps p.tables e below (s₁.setTop (entryFrame m #[(.int p0)] 1)) t := by
      intro t k
      refine pre1 t ?_
      show Steps p.tables e below (s₁.setTop (mkF m 1 #[.val (.int p0)] [(.int p0)])) _
      refine XS.ifYes X0.here hx rfl (pc0 := 1) (pc' := 15) rfl (hb hby d1_1) rfl ((if0 _ _).trans (tlt hc1).1) (by decide) (by decide) ?_
      show Steps p.tables e below (s₁.setTop (mkF m 15 #[.val (.int p0)] [])) _
      refine XS.iconst X0.here hx rfl (hb hby d1_15) ?_
      exact k
    obtain ⟨fs, hr, hrun, hended, hW, hsame⟩ := X0.leave (v := some (.int (0 : Int32))) (fun h => by rw [Bd.returns] at h; cases h)
    refine ⟨_, _, pre2 _ ?_, hrun, hended, _, _, rfl, ?_, ⟨_, rfl⟩, hW, hsame.mono (by decide) (by decide)⟩
    · exact retN X0 hx (t := .boolean) Bd.returns (by simp) (hb hby d1_16) hr
    · show Q1 Z p0 h0 n0 _ s₁.heap _
      rw [e0]
      refine ⟨?_, N0, rfl⟩
      unfold own_isM; rw [if_pos hc1]
  · have pre3 : ∀ t, Steps p.tables e below (s₁.setTop (mkF m 8 #[.val (.int p0)] [(.int (255 : Int32)), (.int p0)])) t → Steps p.tables e below (s₁.setTop (entryFrame m #[(.int p0)] 1)) t := by
      intro t k
      refine pre1 t ?_
      show Steps p.tables e below (s₁.setTop (mkF m 1 #[.val (.int p0)] [(.int p0)])) _
      refine XS.ifNo X0.here hx rfl (hb hby d1_1) rfl ((if0 _ _).trans (flt hc1).1) ?_
      show Steps p.tables e below (s₁.setTop (mkF m 4 #[.val (.int p0)] [])) _
      refine XS.iloadN X0.here hx rfl (hb hby d1_4) rfl ?_
      show Steps p.tables e below (s₁.setTop (mkF m 5 #[.val (.int p0)] [(.int p0)])) _
      refine XS.sipush X0.here hx rfl (hb hby d1_5) ?_
      exact k
    by_cases hc8 : (255 : Int32) < p0
    · have pre4 : ∀ t, Steps p.tables e below (s₁.setTop (mkF m 16 #[.val (.int p0)] [(.int (0 : Int32))])) t → Steps p.tables e below (s₁.setTop (entryFrame m #[(.int p0)] 1)) t := by
        intro t k
        refine pre3 t ?_
        show Steps p.tables e below (s₁.setTop (mkF m 8 #[.val (.int p0)] [(.int (255 : Int32)), (.int p0)])) _
        refine XS.icmpYes X0.here hx rfl (pc0 := 8) (pc' := 15) rfl (hb hby d1_8) rfl (tlt hc8).2.2.1 (by decide) (by decide) ?_
        show Steps p.tables e below (s₁.setTop (mkF m 15 #[.val (.int p0)] [])) _
        refine XS.iconst X0.here hx rfl (hb hby d1_15) ?_
        exact k
      obtain ⟨fs, hr, hrun, hended, hW, hsame⟩ := X0.leave (v := some (.int (0 : Int32))) (fun h => by rw [Bd.returns] at h; cases h)
      refine ⟨_, _, pre4 _ ?_, hrun, hended, _, _, rfl, ?_, ⟨_, rfl⟩, hW, hsame.mono (by decide) (by decide)⟩
      · exact retN X0 hx (t := .boolean) Bd.returns (by simp) (hb hby d1_16) hr
      · show Q1 Z p0 h0 n0 _ s₁.heap _
        rw [e0]
        refine ⟨?_, N0, rfl⟩
        unfold own_isM; rw [if_neg hc1, if_pos hc8]
    · have pre5 : ∀ t, Steps p.tables e below (s₁.setTop (mkF m 16 #[.val (.int p0)] [(.int (1 : Int32))])) t → Steps p.tables e below (s₁.setTop (entryFrame m #[(.int p0)] 1)) t := by
        intro t k
        refine pre3 t ?_
        show Steps p.tables e below (s₁.setTop (mkF m 8 #[.val (.int p0)] [(.int (255 : Int32)), (.int p0)])) _
        refine XS.icmpNo X0.here hx rfl (hb hby d1_8) rfl (flt hc8).2.2.1 ?_
        show Steps p.tables e below (s₁.setTop (mkF m 11 #[.val (.int p0)] [])) _
        refine XS.iconst X0.here hx rfl (hb hby d1_11) ?_
        show Steps p.tables e below (s₁.setTop (mkF m 12 #[.val (.int p0)] [(.int (1 : Int32))])) _
        refine XS.goto X0.here hx rfl (pc0 := 12) (pc' := 16) rfl (hb hby d1_12) (by decide) (by decide) ?_
        exact k
      obtain ⟨fs, hr, hrun, hended, hW, hsame⟩ := X0.leave (v := some (.int (1 : Int32))) (fun h => by rw [Bd.returns] at h; cases h)
      refine ⟨_, _, pre5 _ ?_, hrun, hended, _, _, rfl, ?_, ⟨_, rfl⟩, hW, hsame.mono (by decide) (by decide)⟩
      · exact retN X0 hx (t := .boolean) Bd.returns (by simp) (hb hby d1_16) hr
      · show Q1 Z p0 h0 n0 _ s₁.heap _
        rw [e0]
        refine ⟨?_, N0, rfl⟩
        unfold own_isM; rw [if_neg hc1, if_neg hc8]
theorem d2_0 : decode method_2_code 0 = .ok (.iload_n 0, 1) := by decide +kernel
theorem d2_1 : decode method_2_code 1 = .ok (.sipush 255, 3) := by decide +kernel
theorem d2_4 : decode method_2_code 4 = .ok (.iand, 1) := by decide +kernel
theorem d2_5 : decode method_2_code 5 = .ok (.iload_n 0, 1) := by decide +kernel
theorem d2_6 : decode method_2_code 6 = .ok (.if_icmp .ne 7, 3) := by decide +kernel
theorem d2_9 : decode method_2_code 9 = .ok (.iconst 1, 1) := by decide +kernel
theorem d2_10 : decode method_2_code 10 = .ok (.goto 4, 3) := by decide +kernel
theorem d2_14 : decode method_2_code 14 = .ok (.ireturn, 1) := by decide +kernel
theorem d2_13 : decode method_2_code 13 = .ok (.iconst 0, 1) := by decide +kernel
def own_one (p0 : Int32) : Int32 := (if (p0 &&& (255 : Int32)) = p0 then (1 : Int32) else (0 : Int32))
theorem pn_2 : plainName "com/example/wirecall/wirecall/LoginIsMethodPinLaw" = true := by first | (simp [plainName, overriddenIn]; done) | decide +kernel
theorem ef_2 (m : MethodId) (x0 : Int32) : entryFrame m #[(.int x0)] 1 = mkF m 0 #[.val (.int x0)] [] := by first | (simp [entryFrame, mkF, argsToLocals, Value.category]; done) | rfl
def Q2 (Z : State) (p0 : Int32) (h0 : Heap) (n0 : Nat) (v : Option Value) (h : Heap) (L : List Loc) : Prop := v = some (.int (own_one p0)) ∧ Fr n0 L ∧ h = h0
set_option maxRecDepth 65536 in
set_option maxHeartbeats 40000000 in
theorem rm2 (l : Launch) (Z : State) (a0 : Array Value) (hw : ∀ d ∈ tables_1, d.before a0 Z = true) (ws : List Jvm.Cond) (p0 : Int32) (h0 : Heap) (n0 : Nat) (Z0 : n0 ≤ h0.size) :
    MetFree l (⟨"com/example/wirecall/wirecall/LoginIsMethodPinLaw", "oneByte", "(I)Z"⟩ : MethodName) (head1 (Jvm.Cond.code (⟨"com/example/wirecall/wirecall/LoginIsMethodPinLaw", "oneByte", "(I)Z"⟩ : MethodName) method_2_code 1 (some .boolean) :: ws) ({ frames := 0, cells := 0, slots := 0, locals := 0 } : Room)) (fun a U => a = #[(.int p0)] ∧ Z.Warmed39 U.vm ∧ U.heap = h0) (fun _ _ _ _ _ => True) (fun _ U o U' => ∃ v L, o = .returned v ∧ Q2 Z p0 h0 n0 v U'.heap L ∧ FrameEnd U o U' L ({ frames := 0, cells := 0, slots := 0, locals := 0 } : Room).cells ({ frames := 0, cells := 0, slots := 0, locals := 0 } : Room).slots) := by
  refine MetFree.of_bodySF (plainFor_of_name pn_2) hisR ?_
  intro p e s m args below meth c s₁ Bd hml0 hP hK
  obtain ⟨rfl, hZ, hh⟩ := hP
  have hx := Bd.exec
  have hby := Bd.bytes
  have hml : c.maxLocals = 1 := hml0
  have hown : s.vm.findClass "com/example/wirecall/wirecall/LoginIsMethodPinLaw" = some m.cls := findClass_of_methodNamed Bd.named
  have hnm := (name_of_methodNamed Bd.named Bd.method).1
  have X0 : Stand p l e ({ frames := 0, cells := 0, slots := 0, locals := 0 } : Room) s m #[(.int p0)] below meth c s₁ [] 0 0 := Stand.of_body Bd
  have e0 : s₁.heap = h0 := by rw [← hh, Bd.state]; rfl
  have N0 := Fr.nil n0
  have pre0 : ∀ t, Steps p.tables e below (s₁.setTop (mkF m 0 #[.val (.int p0)] [])) t → Steps p.tables e below (s₁.setTop (entryFrame m #[(.int p0)] 1)) t := fun t k => castTop (ef_2 m p0) k
  have pre6 : ∀ t, Steps p.tables e below (s₁.setTop (mkF m 6 #[.val (.int p0)] [(.int p0), (.int (p0 &&& (255 : Int32)))])) t → Steps p.tables e below (s₁.setTop (entryFrame m #[(.int p0)] 1)) t := by
    intro t k
    refine pre0 t ?_
    show Steps p.tables e below (s₁.setTop (mkF m 0 #[.val (.int p0)] [])) _
    refine XS.iloadN X0.here hx rfl (hb hby d2_0) rfl ?_
    show Steps p.tables e below (s₁.setTop (mkF m 1 #[.val (.int p0)] [(.int p0)])) _
    refine XS.sipush X0.here hx rfl (hb hby d2_1) ?_
    show Steps p.tables e below (s₁.setTop (mkF m 4 #[.val (.int p0)] [(.int (255 : Int32)), (.int p0)])) _
    refine XS.iand X0.here hx rfl (hb hby d2_4) rfl ?_
    show Steps p.tables e below (s₁.setTop (mkF m 5 #[.val (.int p0)] [(.int (p0 &&& (255 : Int32)))])) _
    refine XS.iloadN X0.here hx rfl (hb hby d2_5) rfl ?_
    exact k
  by_cases hc6 : (p0 &&& (255 : Int32)) = p0
  · have pre7 : ∀ t, Steps p.tables e below (s₁.setTop (mkF m 14 #[.val (.int p0)] [(.int (1 : Int32))])) t → Steps p.tables e below (s₁.setTop (entryFrame m #[(.int p0)] 1)) t := by
      intro t k
      refine pre6 t ?_
      show Steps p.tables e below (s₁.setTop (mkF m 6 #[.val (.int p0)] [(.int p0), (.int (p0 &&& (255 : Int32)))])) _
      refine XS.icmpNo X0.here hx rfl (hb hby d2_6) rfl (teq hc6).2 ?_
      show Steps p.tables e below (s₁.setTop (mkF m 9 #[.val (.int p0)] [])) _
      refine XS.iconst X0.here hx rfl (hb hby d2_9) ?_
      show Steps p.tables e below (s₁.setTop (mkF m 10 #[.val (.int p0)] [(.int (1 : Int32))])) _
      refine XS.goto X0.here hx rfl (pc0 := 10) (pc' := 14) rfl (hb hby d2_10) (by decide) (by decide) ?_
      exact k
    obtain ⟨fs, hr, hrun, hended, hW, hsame⟩ := X0.leave (v := some (.int (1 : Int32))) (fun h => by rw [Bd.returns] at h; cases h)
    refine ⟨_, _, pre7 _ ?_, hrun, hended, _, _, rfl, ?_, ⟨_, rfl⟩, hW, hsame.mono (by decide) (by decide)⟩
    · exact retN X0 hx (t := .boolean) Bd.returns (by simp) (hb hby d2_14) hr
    · show Q2 Z p0 h0 n0 _ s₁.heap _
      rw [e0]
      refine ⟨?_, N0, rfl⟩
      unfold own_one; rw [if_pos hc6]
  · have pre8 : ∀ t, Steps p.tables e below (s₁.setTop (mkF m 14 #[.val (.int p0)] [(.int (0 : Int32))])) t → Steps p.tables e below (s₁.setTop (entryFrame m #[(.int p0)] 1)) t := by
      intro t k
      refine pre6 t ?_
      show Steps p.tables e below (s₁.setTop (mkF m 6 #[.val (.int p0)] [(.int p0), (.int (p0 &&& (255 : Int32)))])) _
      refine XS.icmpYes X0.here hx rfl (pc0 := 6) (pc' := 13) rfl (hb hby d2_6) rfl (feq hc6).2 (by decide) (by decide) ?_
      show Steps p.tables e below (s₁.setTop (mkF m 13 #[.val (.int p0)] [])) _
      refine XS.iconst X0.here hx rfl (hb hby d2_13) ?_
      exact k
    obtain ⟨fs, hr, hrun, hended, hW, hsame⟩ := X0.leave (v := some (.int (0 : Int32))) (fun h => by rw [Bd.returns] at h; cases h)
    refine ⟨_, _, pre8 _ ?_, hrun, hended, _, _, rfl, ?_, ⟨_, rfl⟩, hW, hsame.mono (by decide) (by decide)⟩
    · exact retN X0 hx (t := .boolean) Bd.returns (by simp) (hb hby d2_14) hr
    · show Q2 Z p0 h0 n0 _ s₁.heap _
      rw [e0]
      refine ⟨?_, N0, rfl⟩
      unfold own_one; rw [if_neg hc6]
theorem own_eq (x : Int32) : own_isM x = own_one x := by
  have e := c_mask x 255 8 (by decide) (by decide)
  have r := rng32 x
  have e1 : x < (0 : Int32) ↔ x.toInt < 0 := Int32.lt_iff_toInt_lt
  have e2 : (255 : Int32) < x ↔ 255 < x.toInt := Int32.lt_iff_toInt_lt
  have e3 : (x &&& (255 : Int32)) = x ↔ (0 ≤ x.toInt ∧ x.toInt < 256) := by rw [← Int32.toInt_inj, e]; omega
  unfold own_isM own_one
  simp only [e1, e2]
  by_cases a : (x &&& (255 : Int32)) = x
  · rw [if_pos a]; rw [e3] at a; rw [if_neg (by omega), if_neg (by omega)]
  · rw [if_neg a]; rw [e3] at a
    by_cases c : x.toInt < 0
    · rw [if_pos (by omega)]
    · rw [if_neg (by omega), if_pos (by omega)]
theorem pd_0 : parseMethodDescriptor "(I)Z" = some ⟨[.int], some .boolean⟩ := by decide +kernel
theorem ef_0 (m : MethodId) (x0 : Int32) (x1 : Int32) : entryFrame m #[(.int x0), (.int x1)] maxLocals = mkF m 0 #[.val (.int x0), .val (.int x1), .unset, .unset, .unset, .unset, .unset] [] := by first | (simp [entryFrame, mkF, argsToLocals, Value.category, maxLocals]; done) | rfl
def Q0 (Z : State) (p0 : Int32) (p1 : Int32) (h0 : Heap) (n0 : Nat) (v : Option Value) (h : Heap) (L : List Loc) : Prop := v = some (.int (1 : Int32)) ∧ Fr n0 L
set_option maxRecDepth 65536 in
set_option maxHeartbeats 40000000 in
theorem rm0 (l : Launch) (Z : State) (a0 : Array Value) (hw : ∀ d ∈ tables_1, d.before a0 Z = true) (ws : List Jvm.Cond) (p0 : Int32) (p1 : Int32) (h0 : Heap) (n0 : Nat) (Z0 : n0 ≤ h0.size) :
    MetFree l x (head1 (Jvm.Cond.code x code maxLocals ret :: ws) room_1) (fun a U => a = #[(.int p0), (.int p1)] ∧ Z.Warmed39 U.vm ∧ U.heap = h0) (fun _ _ _ _ _ => True) (fun _ U o U' => ∃ v L, o = .returned v ∧ Q0 Z p0 p1 h0 n0 v U'.heap L ∧ FrameEnd U o U' L room_1.cells room_1.slots) := by
  refine MetFree.of_bodySF (plainFor_of_name pn_2) hisR ?_
  intro p e s m args below meth c s₁ Bd hml0 hP hK
  obtain ⟨rfl, hZ, hh⟩ := hP
  have hx := Bd.exec
  have hby := Bd.bytes
  have hml : c.maxLocals = 7 := hml0
  have hown : s.vm.findClass "com/example/wirecall/wirecall/LoginIsMethodPinLaw" = some m.cls := findClass_of_methodNamed Bd.named
  have hnm := (name_of_methodNamed Bd.named Bd.method).1
  have X0 : Stand p l e room_1 s m #[(.int p0), (.int p1)] below meth c s₁ [] 0 0 := Stand.of_body Bd
  have e0 : s₁.heap = h0 := by rw [← hh, Bd.state]; rfl
  have N0 := Fr.nil n0
  have pre0 : ∀ t, Steps p.tables e below (s₁.setTop (mkF m 0 #[.val (.int p0), .val (.int p1), .unset, .unset, .unset, .unset, .unset] [])) t → Steps p.tables e below (s₁.setTop (entryFrame m #[(.int p0), (.int p1)] maxLocals)) t := fun t k => castTop (ef_0 m p0 p1) k
  have pre9 : ∀ t, Steps p.tables e below (s₁.setTop (mkF m 19 #[.val (.int p0), .val (.int p1), .val (.int ((p1 &&& (7 : Int32)) - (4 : Int32))), .val (.int ((252 : Int32) + (((p1.toUInt32 >>> ((3 : Int32) &&& 31).toUInt32).toInt32) &&& (7 : Int32)))), .unset, .unset, .unset] [(.int p0)])) t → Steps p.tables e below (s₁.setTop (entryFrame m #[(.int p0), (.int p1)] maxLocals)) t := by
    intro t k
    refine pre0 t ?_
    show Steps p.tables e below (s₁.setTop (mkF m 0 #[.val (.int p0), .val (.int p1), .unset, .unset, .unset, .unset, .unset] [])) _
    refine XS.iloadN X0.here hx rfl (hb hby at_0) rfl ?_
    show Steps p.tables e below (s₁.setTop (mkF m 1 #[.val (.int p0), .val (.int p1), .unset, .unset, .unset, .unset, .unset] [(.int p1)])) _
    refine XS.bipush X0.here hx rfl (hb hby at_1) ?_
    show Steps p.tables e below (s₁.setTop (mkF m 3 #[.val (.int p0), .val (.int p1), .unset, .unset, .unset, .unset, .unset] [(.int (7 : Int32)), (.int p1)])) _
    refine XS.iand X0.here hx rfl (hb hby at_3) rfl ?_
    show Steps p.tables e below (s₁.setTop (mkF m 4 #[.val (.int p0), .val (.int p1), .unset, .unset, .unset, .unset, .unset] [(.int (p1 &&& (7 : Int32)))])) _
    refine XS.iconst X0.here hx rfl (hb hby at_4) ?_
    show Steps p.tables e below (s₁.setTop (mkF m 5 #[.val (.int p0), .val (.int p1), .unset, .unset, .unset, .unset, .unset] [(.int (4 : Int32)), (.int (p1 &&& (7 : Int32)))])) _
    refine XS.isub X0.here hx rfl (hb hby at_5) rfl ?_
    show Steps p.tables e below (s₁.setTop (mkF m 6 #[.val (.int p0), .val (.int p1), .unset, .unset, .unset, .unset, .unset] [(.int ((p1 &&& (7 : Int32)) - (4 : Int32)))])) _
    refine XS.istoreN X0.here hx rfl (hb hby at_6) rfl (l' := #[.val (.int p0), .val (.int p1), .val (.int ((p1 &&& (7 : Int32)) - (4 : Int32))), .unset, .unset, .unset, .unset]) rfl ?_
    show Steps p.tables e below (s₁.setTop (mkF m 7 #[.val (.int p0), .val (.int p1), .val (.int ((p1 &&& (7 : Int32)) - (4 : Int32))), .unset, .unset, .unset, .unset] [])) _
    refine XS.sipush X0.here hx rfl (hb hby at_7) ?_
    show Steps p.tables e below (s₁.setTop (mkF m 10 #[.val (.int p0), .val (.int p1), .val (.int ((p1 &&& (7 : Int32)) - (4 : Int32))), .unset, .unset, .unset, .unset] [(.int (252 : Int32))])) _
    refine XS.iloadN X0.here hx rfl (hb hby at_10) rfl ?_
    show Steps p.tables e below (s₁.setTop (mkF m 11 #[.val (.int p0), .val (.int p1), .val (.int ((p1 &&& (7 : Int32)) - (4 : Int32))), .unset, .unset, .unset, .unset] [(.int p1), (.int (252 : Int32))])) _
    refine XS.iconst X0.here hx rfl (hb hby at_11) ?_
    show Steps p.tables e below (s₁.setTop (mkF m 12 #[.val (.int p0), .val (.int p1), .val (.int ((p1 &&& (7 : Int32)) - (4 : Int32))), .unset, .unset, .unset, .unset] [(.int (3 : Int32)), (.int p1), (.int (252 : Int32))])) _
    refine XS.iushr X0.here hx rfl (hb hby at_12) rfl ?_
    show Steps p.tables e below (s₁.setTop (mkF m 13 #[.val (.int p0), .val (.int p1), .val (.int ((p1 &&& (7 : Int32)) - (4 : Int32))), .unset, .unset, .unset, .unset] [(.int ((p1.toUInt32 >>> ((3 : Int32) &&& 31).toUInt32).toInt32)), (.int (252 : Int32))])) _
    refine XS.bipush X0.here hx rfl (hb hby at_13) ?_
    show Steps p.tables e below (s₁.setTop (mkF m 15 #[.val (.int p0), .val (.int p1), .val (.int ((p1 &&& (7 : Int32)) - (4 : Int32))), .unset, .unset, .unset, .unset] [(.int (7 : Int32)), (.int ((p1.toUInt32 >>> ((3 : Int32) &&& 31).toUInt32).toInt32)), (.int (252 : Int32))])) _
    refine XS.iand X0.here hx rfl (hb hby at_15) rfl ?_
    show Steps p.tables e below (s₁.setTop (mkF m 16 #[.val (.int p0), .val (.int p1), .val (.int ((p1 &&& (7 : Int32)) - (4 : Int32))), .unset, .unset, .unset, .unset] [(.int (((p1.toUInt32 >>> ((3 : Int32) &&& 31).toUInt32).toInt32) &&& (7 : Int32))), (.int (252 : Int32))])) _
    refine XS.iadd X0.here hx rfl (hb hby at_16) rfl ?_
    show Steps p.tables e below (s₁.setTop (mkF m 17 #[.val (.int p0), .val (.int p1), .val (.int ((p1 &&& (7 : Int32)) - (4 : Int32))), .unset, .unset, .unset, .unset] [(.int ((252 : Int32) + (((p1.toUInt32 >>> ((3 : Int32) &&& 31).toUInt32).toInt32) &&& (7 : Int32))))])) _
    refine XS.istoreN X0.here hx rfl (hb hby at_17) rfl (l' := #[.val (.int p0), .val (.int p1), .val (.int ((p1 &&& (7 : Int32)) - (4 : Int32))), .val (.int ((252 : Int32) + (((p1.toUInt32 >>> ((3 : Int32) &&& 31).toUInt32).toInt32) &&& (7 : Int32)))), .unset, .unset, .unset]) rfl ?_
    show Steps p.tables e below (s₁.setTop (mkF m 18 #[.val (.int p0), .val (.int p1), .val (.int ((p1 &&& (7 : Int32)) - (4 : Int32))), .val (.int ((252 : Int32) + (((p1.toUInt32 >>> ((3 : Int32) &&& 31).toUInt32).toInt32) &&& (7 : Int32)))), .unset, .unset, .unset] [])) _
    refine XS.iloadN X0.here hx rfl (hb hby at_18) rfl ?_
    exact k
  obtain ⟨x19, hx19⟩ : ∃ z : Int32, z = ((252 : Int32) + (((p1.toUInt32 >>> ((3 : Int32) &&& 31).toUInt32).toInt32) &&& (7 : Int32))) := ⟨_, rfl⟩
  rw [← hx19] at pre9
  obtain ⟨_, _, ⟨T10, L10, k10, n10⟩, -, X10, ⟨Lc10, hQ10, l10, y10, z10⟩, st10⟩ := Jvm.LawKit.callS X0 hx (y := (⟨"com/example/wirecall/wirecall/Login", "isMethod", "(I)Z"⟩ : MethodName)) hown (mvT hZ (hw _ (List.mem_of_getElem? (i := 0) rfl))) (mvT hZ (hw _ (List.mem_of_getElem? (i := 1) rfl))) (mvT hZ (hw _ (List.mem_of_getElem? (i := 2) rfl))) (mvT hZ (hw _ (List.mem_of_getElem? (i := 3) rfl))) (by decide) (backOf (W := 0) (rm1 l Z a0 hw [] p0  h0 n0 Z0) hZ (hw _ (List.mem_of_getElem? (i := 3) rfl)) (hw _ (List.mem_of_getElem? (i := 2) rfl)) (by decide) (by decide)) (g := (mkF m 19 #[.val (.int p0), .val (.int p1), .val (.int ((p1 &&& (7 : Int32)) - (4 : Int32))), .val (.int x19), .unset, .unset, .unset] [(.int p0)])) rfl (by rw [hml]; rfl) (argsL := [(.int p0)]) (rest := []) (lenOf pd_0 rfl) rfl (by show 2 * 0 + _ ≤ _; exact Nat.le_of_eq rfl) (hb hby at_19) (fun _ _ => ⟨rfl, e0, (by decide : 0 + 0 ≤ _), (by decide : 0 + 0 ≤ _)⟩)
  dsimp only [Pt.U, Pt.locs, Pt.cells, Pt.slots] at X10 l10 y10 z10 st10 hQ10
  subst l10 y10 z10
  obtain ⟨rfl, N10q, e10⟩ := hQ10
  have N10 := Fr.app N0 N10q
  have pre11 : ∀ t, Steps p.tables e below (T10.setTop (mkF m 22 #[.val (.int p0), .val (.int p1), .val (.int ((p1 &&& (7 : Int32)) - (4 : Int32))), .val (.int x19), .unset, .unset, .unset] [(.int (own_isM p0))])) t → Steps p.tables e below (s₁.setTop (entryFrame m #[(.int p0), (.int p1)] maxLocals)) t := fun t k => pre9 t (st10 _ k)
  have pre12 : ∀ t, Steps p.tables e below (T10.setTop (mkF m 23 #[.val (.int p0), .val (.int p1), .val (.int ((p1 &&& (7 : Int32)) - (4 : Int32))), .val (.int x19), .unset, .unset, .unset] [(.int p0), (.int (own_isM p0))])) t → Steps p.tables e below (s₁.setTop (entryFrame m #[(.int p0), (.int p1)] maxLocals)) t := by
    intro t k
    refine pre11 t ?_
    show Steps p.tables e below (T10.setTop (mkF m 22 #[.val (.int p0), .val (.int p1), .val (.int ((p1 &&& (7 : Int32)) - (4 : Int32))), .val (.int x19), .unset, .unset, .unset] [(.int (own_isM p0))])) _
    refine XS.iloadN X10.here hx rfl (hb hby at_22) rfl ?_
    exact k
  obtain ⟨_, _, ⟨T13, L13, k13, n13⟩, -, X13, ⟨Lc13, hQ13, l13, y13, z13⟩, st13⟩ := Jvm.LawKit.callS X10 hx (y := (⟨"com/example/wirecall/wirecall/LoginIsMethodPinLaw", "oneByte", "(I)Z"⟩ : MethodName)) hown (mvT hZ (hw _ (List.mem_of_getElem? (i := 4) rfl))) (mvT hZ (hw _ (List.mem_of_getElem? (i := 5) rfl))) (mvT hZ (hw _ (List.mem_of_getElem? (i := 6) rfl))) (mvT hZ (hw _ (List.mem_of_getElem? (i := 7) rfl))) (by decide) (backOf (W := 1) (rm2 l Z a0 hw [] p0  h0 n0 Z0) hZ (hw _ (List.mem_of_getElem? (i := 7) rfl)) (hw _ (List.mem_of_getElem? (i := 6) rfl)) (by decide) (by decide)) (g := (mkF m 23 #[.val (.int p0), .val (.int p1), .val (.int ((p1 &&& (7 : Int32)) - (4 : Int32))), .val (.int x19), .unset, .unset, .unset] [(.int p0), (.int (own_isM p0))])) rfl (by rw [hml]; rfl) (argsL := [(.int p0)]) (rest := [(.int (own_isM p0))]) (lenOf pd_0 rfl) rfl (by show 2 * 0 + _ ≤ _; exact Nat.le_of_eq rfl) (hb hby at_23) (fun _ _ => ⟨rfl, e10, (by decide : 0 + 0 ≤ _), (by decide : 0 + 0 ≤ _)⟩)
  dsimp only [Pt.U, Pt.locs, Pt.cells, Pt.slots] at X13 l13 y13 z13 st13 hQ13
  subst l13 y13 z13
  obtain ⟨rfl, N13q, e13⟩ := hQ13
  have N13 := Fr.app N10 N13q
  have pre14 : ∀ t, Steps p.tables e below (T13.setTop (mkF m 26 #[.val (.int p0), .val (.int p1), .val (.int ((p1 &&& (7 : Int32)) - (4 : Int32))), .val (.int x19), .unset, .unset, .unset] [(.int (own_one p0)), (.int (own_isM p0))])) t → Steps p.tables e below (s₁.setTop (entryFrame m #[(.int p0), (.int p1)] maxLocals)) t := fun t k => pre12 t (st13 _ k)
  by_cases hc26 : (own_isM p0) = (own_one p0)
  · have pre15 : ∀ t, Steps p.tables e below (T13.setTop (mkF m 37 #[.val (.int p0), .val (.int p1), .val (.int ((p1 &&& (7 : Int32)) - (4 : Int32))), .val (.int x19), .val (.int (1 : Int32)), .unset, .unset] [(.int ((p1 &&& (7 : Int32)) - (4 : Int32)))])) t → Steps p.tables e below (s₁.setTop (entryFrame m #[(.int p0), (.int p1)] maxLocals)) t := by
      intro t k
      refine pre14 t ?_
      show Steps p.tables e below (T13.setTop (mkF m 26 #[.val (.int p0), .val (.int p1), .val (.int ((p1 &&& (7 : Int32)) - (4 : Int32))), .val (.int x19), .unset, .unset, .unset] [(.int (own_one p0)), (.int (own_isM p0))])) _
      refine XS.icmpNo X13.here hx rfl (hb hby at_26) rfl (teq hc26).2 ?_
      show Steps p.tables e below (T13.setTop (mkF m 29 #[.val (.int p0), .val (.int p1), .val (.int ((p1 &&& (7 : Int32)) - (4 : Int32))), .val (.int x19), .unset, .unset, .unset] [])) _
      refine XS.iconst X13.here hx rfl (hb hby at_29) ?_
      show Steps p.tables e below (T13.setTop (mkF m 30 #[.val (.int p0), .val (.int p1), .val (.int ((p1 &&& (7 : Int32)) - (4 : Int32))), .val (.int x19), .unset, .unset, .unset] [(.int (1 : Int32))])) _
      refine XS.goto X13.here hx rfl (pc0 := 30) (pc' := 34) rfl (hb hby at_30) (by decide) (by decide) ?_
      show Steps p.tables e below (T13.setTop (mkF m 34 #[.val (.int p0), .val (.int p1), .val (.int ((p1 &&& (7 : Int32)) - (4 : Int32))), .val (.int x19), .unset, .unset, .unset] [(.int (1 : Int32))])) _
      refine XS.istore X13.here hx rfl (hb hby at_34) rfl (l' := #[.val (.int p0), .val (.int p1), .val (.int ((p1 &&& (7 : Int32)) - (4 : Int32))), .val (.int x19), .val (.int (1 : Int32)), .unset, .unset]) rfl ?_
      show Steps p.tables e below (T13.setTop (mkF m 36 #[.val (.int p0), .val (.int p1), .val (.int ((p1 &&& (7 : Int32)) - (4 : Int32))), .val (.int x19), .val (.int (1 : Int32)), .unset, .unset] [])) _
      refine XS.iloadN X13.here hx rfl (hb hby at_36) rfl ?_
      exact k
    obtain ⟨_, _, ⟨T16, L16, k16, n16⟩, -, X16, ⟨Lc16, hQ16, l16, y16, z16⟩, st16⟩ := Jvm.LawKit.callS X13 hx (y := (⟨"com/example/wirecall/wirecall/Login", "isMethod", "(I)Z"⟩ : MethodName)) hown (mvT hZ (hw _ (List.mem_of_getElem? (i := 0) rfl))) (mvT hZ (hw _ (List.mem_of_getElem? (i := 1) rfl))) (mvT hZ (hw _ (List.mem_of_getElem? (i := 2) rfl))) (mvT hZ (hw _ (List.mem_of_getElem? (i := 3) rfl))) (by decide) (backOf (W := 0) (rm1 l Z a0 hw [] ((p1 &&& (7 : Int32)) - (4 : Int32))  h0 n0 Z0) hZ (hw _ (List.mem_of_getElem? (i := 3) rfl)) (hw _ (List.mem_of_getElem? (i := 2) rfl)) (by decide) (by decide)) (g := (mkF m 37 #[.val (.int p0), .val (.int p1), .val (.int ((p1 &&& (7 : Int32)) - (4 : Int32))), .val (.int x19), .val (.int (1 : Int32)), .unset, .unset] [(.int ((p1 &&& (7 : Int32)) - (4 : Int32)))])) rfl (by rw [hml]; rfl) (argsL := [(.int ((p1 &&& (7 : Int32)) - (4 : Int32)))]) (rest := []) (lenOf pd_0 rfl) rfl (by show 2 * 0 + _ ≤ _; exact Nat.le_of_eq rfl) (hb hby at_37) (fun _ _ => ⟨rfl, e13, (by decide : 0 + 0 ≤ _), (by decide : 0 + 0 ≤ _)⟩)
    dsimp only [Pt.U, Pt.locs, Pt.cells, Pt.slots] at X16 l16 y16 z16 st16 hQ16
    subst l16 y16 z16
    obtain ⟨rfl, N16q, e16⟩ := hQ16
    have N16 := Fr.app N13 N16q
    have pre17 : ∀ t, Steps p.tables e below (T16.setTop (mkF m 40 #[.val (.int p0), .val (.int p1), .val (.int ((p1 &&& (7 : Int32)) - (4 : Int32))), .val (.int x19), .val (.int (1 : Int32)), .unset, .unset] [(.int (own_isM ((p1 &&& (7 : Int32)) - (4 : Int32))))])) t → Steps p.tables e below (s₁.setTop (entryFrame m #[(.int p0), (.int p1)] maxLocals)) t := fun t k => pre15 t (st16 _ k)
    have pre18 : ∀ t, Steps p.tables e below (T16.setTop (mkF m 41 #[.val (.int p0), .val (.int p1), .val (.int ((p1 &&& (7 : Int32)) - (4 : Int32))), .val (.int x19), .val (.int (1 : Int32)), .unset, .unset] [(.int ((p1 &&& (7 : Int32)) - (4 : Int32))), (.int (own_isM ((p1 &&& (7 : Int32)) - (4 : Int32))))])) t → Steps p.tables e below (s₁.setTop (entryFrame m #[(.int p0), (.int p1)] maxLocals)) t := by
      intro t k
      refine pre17 t ?_
      show Steps p.tables e below (T16.setTop (mkF m 40 #[.val (.int p0), .val (.int p1), .val (.int ((p1 &&& (7 : Int32)) - (4 : Int32))), .val (.int x19), .val (.int (1 : Int32)), .unset, .unset] [(.int (own_isM ((p1 &&& (7 : Int32)) - (4 : Int32))))])) _
      refine XS.iloadN X16.here hx rfl (hb hby at_40) rfl ?_
      exact k
    obtain ⟨_, _, ⟨T19, L19, k19, n19⟩, -, X19, ⟨Lc19, hQ19, l19, y19, z19⟩, st19⟩ := Jvm.LawKit.callS X16 hx (y := (⟨"com/example/wirecall/wirecall/LoginIsMethodPinLaw", "oneByte", "(I)Z"⟩ : MethodName)) hown (mvT hZ (hw _ (List.mem_of_getElem? (i := 4) rfl))) (mvT hZ (hw _ (List.mem_of_getElem? (i := 5) rfl))) (mvT hZ (hw _ (List.mem_of_getElem? (i := 6) rfl))) (mvT hZ (hw _ (List.mem_of_getElem? (i := 7) rfl))) (by decide) (backOf (W := 1) (rm2 l Z a0 hw [] ((p1 &&& (7 : Int32)) - (4 : Int32))  h0 n0 Z0) hZ (hw _ (List.mem_of_getElem? (i := 7) rfl)) (hw _ (List.mem_of_getElem? (i := 6) rfl)) (by decide) (by decide)) (g := (mkF m 41 #[.val (.int p0), .val (.int p1), .val (.int ((p1 &&& (7 : Int32)) - (4 : Int32))), .val (.int x19), .val (.int (1 : Int32)), .unset, .unset] [(.int ((p1 &&& (7 : Int32)) - (4 : Int32))), (.int (own_isM ((p1 &&& (7 : Int32)) - (4 : Int32))))])) rfl (by rw [hml]; rfl) (argsL := [(.int ((p1 &&& (7 : Int32)) - (4 : Int32)))]) (rest := [(.int (own_isM ((p1 &&& (7 : Int32)) - (4 : Int32))))]) (lenOf pd_0 rfl) rfl (by show 2 * 0 + _ ≤ _; exact Nat.le_of_eq rfl) (hb hby at_41) (fun _ _ => ⟨rfl, e16, (by decide : 0 + 0 ≤ _), (by decide : 0 + 0 ≤ _)⟩)
    dsimp only [Pt.U, Pt.locs, Pt.cells, Pt.slots] at X19 l19 y19 z19 st19 hQ19
    subst l19 y19 z19
    obtain ⟨rfl, N19q, e19⟩ := hQ19
    have N19 := Fr.app N16 N19q
    have pre20 : ∀ t, Steps p.tables e below (T19.setTop (mkF m 44 #[.val (.int p0), .val (.int p1), .val (.int ((p1 &&& (7 : Int32)) - (4 : Int32))), .val (.int x19), .val (.int (1 : Int32)), .unset, .unset] [(.int (own_one ((p1 &&& (7 : Int32)) - (4 : Int32)))), (.int (own_isM ((p1 &&& (7 : Int32)) - (4 : Int32))))])) t → Steps p.tables e below (s₁.setTop (entryFrame m #[(.int p0), (.int p1)] maxLocals)) t := fun t k => pre18 t (st19 _ k)
    by_cases hc44 : (own_isM ((p1 &&& (7 : Int32)) - (4 : Int32))) = (own_one ((p1 &&& (7 : Int32)) - (4 : Int32)))
    · have pre21 : ∀ t, Steps p.tables e below (T19.setTop (mkF m 55 #[.val (.int p0), .val (.int p1), .val (.int ((p1 &&& (7 : Int32)) - (4 : Int32))), .val (.int x19), .val (.int (1 : Int32)), .val (.int (1 : Int32)), .unset] [(.int x19)])) t → Steps p.tables e below (s₁.setTop (entryFrame m #[(.int p0), (.int p1)] maxLocals)) t := by
        intro t k
        refine pre20 t ?_
        show Steps p.tables e below (T19.setTop (mkF m 44 #[.val (.int p0), .val (.int p1), .val (.int ((p1 &&& (7 : Int32)) - (4 : Int32))), .val (.int x19), .val (.int (1 : Int32)), .unset, .unset] [(.int (own_one ((p1 &&& (7 : Int32)) - (4 : Int32)))), (.int (own_isM ((p1 &&& (7 : Int32)) - (4 : Int32))))])) _
        refine XS.icmpNo X19.here hx rfl (hb hby at_44) rfl (teq hc44).2 ?_
        show Steps p.tables e below (T19.setTop (mkF m 47 #[.val (.int p0), .val (.int p1), .val (.int ((p1 &&& (7 : Int32)) - (4 : Int32))), .val (.int x19), .val (.int (1 : Int32)), .unset, .unset] [])) _
        refine XS.iconst X19.here hx rfl (hb hby at_47) ?_
        show Steps p.tables e below (T19.setTop (mkF m 48 #[.val (.int p0), .val (.int p1), .val (.int ((p1 &&& (7 : Int32)) - (4 : Int32))), .val (.int x19), .val (.int (1 : Int32)), .unset, .unset] [(.int (1 : Int32))])) _
        refine XS.goto X19.here hx rfl (pc0 := 48) (pc' := 52) rfl (hb hby at_48) (by decide) (by decide) ?_
        show Steps p.tables e below (T19.setTop (mkF m 52 #[.val (.int p0), .val (.int p1), .val (.int ((p1 &&& (7 : Int32)) - (4 : Int32))), .val (.int x19), .val (.int (1 : Int32)), .unset, .unset] [(.int (1 : Int32))])) _
        refine XS.istore X19.here hx rfl (hb hby at_52) rfl (l' := #[.val (.int p0), .val (.int p1), .val (.int ((p1 &&& (7 : Int32)) - (4 : Int32))), .val (.int x19), .val (.int (1 : Int32)), .val (.int (1 : Int32)), .unset]) rfl ?_
        show Steps p.tables e below (T19.setTop (mkF m 54 #[.val (.int p0), .val (.int p1), .val (.int ((p1 &&& (7 : Int32)) - (4 : Int32))), .val (.int x19), .val (.int (1 : Int32)), .val (.int (1 : Int32)), .unset] [])) _
        refine XS.iloadN X19.here hx rfl (hb hby at_54) rfl ?_
        exact k
      obtain ⟨_, _, ⟨T22, L22, k22, n22⟩, -, X22, ⟨Lc22, hQ22, l22, y22, z22⟩, st22⟩ := Jvm.LawKit.callS X19 hx (y := (⟨"com/example/wirecall/wirecall/Login", "isMethod", "(I)Z"⟩ : MethodName)) hown (mvT hZ (hw _ (List.mem_of_getElem? (i := 0) rfl))) (mvT hZ (hw _ (List.mem_of_getElem? (i := 1) rfl))) (mvT hZ (hw _ (List.mem_of_getElem? (i := 2) rfl))) (mvT hZ (hw _ (List.mem_of_getElem? (i := 3) rfl))) (by decide) (backOf (W := 0) (rm1 l Z a0 hw [] x19  h0 n0 Z0) hZ (hw _ (List.mem_of_getElem? (i := 3) rfl)) (hw _ (List.mem_of_getElem? (i := 2) rfl)) (by decide) (by decide)) (g := (mkF m 55 #[.val (.int p0), .val (.int p1), .val (.int ((p1 &&& (7 : Int32)) - (4 : Int32))), .val (.int x19), .val (.int (1 : Int32)), .val (.int (1 : Int32)), .unset] [(.int x19)])) rfl (by rw [hml]; rfl) (argsL := [(.int x19)]) (rest := []) (lenOf pd_0 rfl) rfl (by show 2 * 0 + _ ≤ _; exact Nat.le_of_eq rfl) (hb hby at_55) (fun _ _ => ⟨rfl, e19, (by decide : 0 + 0 ≤ _), (by decide : 0 + 0 ≤ _)⟩)
      dsimp only [Pt.U, Pt.locs, Pt.cells, Pt.slots] at X22 l22 y22 z22 st22 hQ22
      subst l22 y22 z22
      obtain ⟨rfl, N22q, e22⟩ := hQ22
      have N22 := Fr.app N19 N22q
      have pre23 : ∀ t, Steps p.tables e below (T22.setTop (mkF m 58 #[.val (.int p0), .val (.int p1), .val (.int ((p1 &&& (7 : Int32)) - (4 : Int32))), .val (.int x19), .val (.int (1 : Int32)), .val (.int (1 : Int32)), .unset] [(.int (own_isM x19))])) t → Steps p.tables e below (s₁.setTop (entryFrame m #[(.int p0), (.int p1)] maxLocals)) t := fun t k => pre21 t (st22 _ k)
      have pre24 : ∀ t, Steps p.tables e below (T22.setTop (mkF m 59 #[.val (.int p0), .val (.int p1), .val (.int ((p1 &&& (7 : Int32)) - (4 : Int32))), .val (.int x19), .val (.int (1 : Int32)), .val (.int (1 : Int32)), .unset] [(.int x19), (.int (own_isM x19))])) t → Steps p.tables e below (s₁.setTop (entryFrame m #[(.int p0), (.int p1)] maxLocals)) t := by
        intro t k
        refine pre23 t ?_
        show Steps p.tables e below (T22.setTop (mkF m 58 #[.val (.int p0), .val (.int p1), .val (.int ((p1 &&& (7 : Int32)) - (4 : Int32))), .val (.int x19), .val (.int (1 : Int32)), .val (.int (1 : Int32)), .unset] [(.int (own_isM x19))])) _
        refine XS.iloadN X22.here hx rfl (hb hby at_58) rfl ?_
        exact k
      obtain ⟨_, _, ⟨T25, L25, k25, n25⟩, -, X25, ⟨Lc25, hQ25, l25, y25, z25⟩, st25⟩ := Jvm.LawKit.callS X22 hx (y := (⟨"com/example/wirecall/wirecall/LoginIsMethodPinLaw", "oneByte", "(I)Z"⟩ : MethodName)) hown (mvT hZ (hw _ (List.mem_of_getElem? (i := 4) rfl))) (mvT hZ (hw _ (List.mem_of_getElem? (i := 5) rfl))) (mvT hZ (hw _ (List.mem_of_getElem? (i := 6) rfl))) (mvT hZ (hw _ (List.mem_of_getElem? (i := 7) rfl))) (by decide) (backOf (W := 1) (rm2 l Z a0 hw [] x19  h0 n0 Z0) hZ (hw _ (List.mem_of_getElem? (i := 7) rfl)) (hw _ (List.mem_of_getElem? (i := 6) rfl)) (by decide) (by decide)) (g := (mkF m 59 #[.val (.int p0), .val (.int p1), .val (.int ((p1 &&& (7 : Int32)) - (4 : Int32))), .val (.int x19), .val (.int (1 : Int32)), .val (.int (1 : Int32)), .unset] [(.int x19), (.int (own_isM x19))])) rfl (by rw [hml]; rfl) (argsL := [(.int x19)]) (rest := [(.int (own_isM x19))]) (lenOf pd_0 rfl) rfl (by show 2 * 0 + _ ≤ _; exact Nat.le_of_eq rfl) (hb hby at_59) (fun _ _ => ⟨rfl, e22, (by decide : 0 + 0 ≤ _), (by decide : 0 + 0 ≤ _)⟩)
      dsimp only [Pt.U, Pt.locs, Pt.cells, Pt.slots] at X25 l25 y25 z25 st25 hQ25
      subst l25 y25 z25
      obtain ⟨rfl, N25q, e25⟩ := hQ25
      have N25 := Fr.app N22 N25q
      have pre26 : ∀ t, Steps p.tables e below (T25.setTop (mkF m 62 #[.val (.int p0), .val (.int p1), .val (.int ((p1 &&& (7 : Int32)) - (4 : Int32))), .val (.int x19), .val (.int (1 : Int32)), .val (.int (1 : Int32)), .unset] [(.int (own_one x19)), (.int (own_isM x19))])) t → Steps p.tables e below (s₁.setTop (entryFrame m #[(.int p0), (.int p1)] maxLocals)) t := fun t k => pre24 t (st25 _ k)
      by_cases hc62 : (own_isM x19) = (own_one x19)
      · have pre27 : ∀ t, Steps p.tables e below (T25.setTop (mkF m 92 #[.val (.int p0), .val (.int p1), .val (.int ((p1 &&& (7 : Int32)) - (4 : Int32))), .val (.int x19), .val (.int (1 : Int32)), .val (.int (1 : Int32)), .val (.int (1 : Int32))] [(.int (1 : Int32))])) t → Steps p.tables e below (s₁.setTop (entryFrame m #[(.int p0), (.int p1)] maxLocals)) t := by
          intro t k
          refine pre26 t ?_
          show Steps p.tables e below (T25.setTop (mkF m 62 #[.val (.int p0), .val (.int p1), .val (.int ((p1 &&& (7 : Int32)) - (4 : Int32))), .val (.int x19), .val (.int (1 : Int32)), .val (.int (1 : Int32)), .unset] [(.int (own_one x19)), (.int (own_isM x19))])) _
          refine XS.icmpNo X25.here hx rfl (hb hby at_62) rfl (teq hc62).2 ?_
          show Steps p.tables e below (T25.setTop (mkF m 65 #[.val (.int p0), .val (.int p1), .val (.int ((p1 &&& (7 : Int32)) - (4 : Int32))), .val (.int x19), .val (.int (1 : Int32)), .val (.int (1 : Int32)), .unset] [])) _
          refine XS.iconst X25.here hx rfl (hb hby at_65) ?_
          show Steps p.tables e below (T25.setTop (mkF m 66 #[.val (.int p0), .val (.int p1), .val (.int ((p1 &&& (7 : Int32)) - (4 : Int32))), .val (.int x19), .val (.int (1 : Int32)), .val (.int (1 : Int32)), .unset] [(.int (1 : Int32))])) _
          refine XS.goto X25.here hx rfl (pc0 := 66) (pc' := 70) rfl (hb hby at_66) (by decide) (by decide) ?_
          show Steps p.tables e below (T25.setTop (mkF m 70 #[.val (.int p0), .val (.int p1), .val (.int ((p1 &&& (7 : Int32)) - (4 : Int32))), .val (.int x19), .val (.int (1 : Int32)), .val (.int (1 : Int32)), .unset] [(.int (1 : Int32))])) _
          refine XS.istore X25.here hx rfl (hb hby at_70) rfl (l' := #[.val (.int p0), .val (.int p1), .val (.int ((p1 &&& (7 : Int32)) - (4 : Int32))), .val (.int x19), .val (.int (1 : Int32)), .val (.int (1 : Int32)), .val (.int (1 : Int32))]) rfl ?_
          show Steps p.tables e below (T25.setTop (mkF m 72 #[.val (.int p0), .val (.int p1), .val (.int ((p1 &&& (7 : Int32)) - (4 : Int32))), .val (.int x19), .val (.int (1 : Int32)), .val (.int (1 : Int32)), .val (.int (1 : Int32))] [])) _
          refine XS.iload X25.here hx rfl (hb hby at_72) rfl ?_
          show Steps p.tables e below (T25.setTop (mkF m 74 #[.val (.int p0), .val (.int p1), .val (.int ((p1 &&& (7 : Int32)) - (4 : Int32))), .val (.int x19), .val (.int (1 : Int32)), .val (.int (1 : Int32)), .val (.int (1 : Int32))] [(.int (1 : Int32))])) _
          refine XS.ifNo X25.here hx rfl (hb hby at_74) rfl ((if0 _ _).trans (feq (by decide)).1) ?_
          show Steps p.tables e below (T25.setTop (mkF m 77 #[.val (.int p0), .val (.int p1), .val (.int ((p1 &&& (7 : Int32)) - (4 : Int32))), .val (.int x19), .val (.int (1 : Int32)), .val (.int (1 : Int32)), .val (.int (1 : Int32))] [])) _
          refine XS.iload X25.here hx rfl (hb hby at_77) rfl ?_
          show Steps p.tables e below (T25.setTop (mkF m 79 #[.val (.int p0), .val (.int p1), .val (.int ((p1 &&& (7 : Int32)) - (4 : Int32))), .val (.int x19), .val (.int (1 : Int32)), .val (.int (1 : Int32)), .val (.int (1 : Int32))] [(.int (1 : Int32))])) _
          refine XS.ifNo X25.here hx rfl (hb hby at_79) rfl ((if0 _ _).trans (feq (by decide)).1) ?_
          show Steps p.tables e below (T25.setTop (mkF m 82 #[.val (.int p0), .val (.int p1), .val (.int ((p1 &&& (7 : Int32)) - (4 : Int32))), .val (.int x19), .val (.int (1 : Int32)), .val (.int (1 : Int32)), .val (.int (1 : Int32))] [])) _
          refine XS.iload X25.here hx rfl (hb hby at_82) rfl ?_
          show Steps p.tables e below (T25.setTop (mkF m 84 #[.val (.int p0), .val (.int p1), .val (.int ((p1 &&& (7 : Int32)) - (4 : Int32))), .val (.int x19), .val (.int (1 : Int32)), .val (.int (1 : Int32)), .val (.int (1 : Int32))] [(.int (1 : Int32))])) _
          refine XS.ifNo X25.here hx rfl (hb hby at_84) rfl ((if0 _ _).trans (feq (by decide)).1) ?_
          show Steps p.tables e below (T25.setTop (mkF m 87 #[.val (.int p0), .val (.int p1), .val (.int ((p1 &&& (7 : Int32)) - (4 : Int32))), .val (.int x19), .val (.int (1 : Int32)), .val (.int (1 : Int32)), .val (.int (1 : Int32))] [])) _
          refine XS.iconst X25.here hx rfl (hb hby at_87) ?_
          show Steps p.tables e below (T25.setTop (mkF m 88 #[.val (.int p0), .val (.int p1), .val (.int ((p1 &&& (7 : Int32)) - (4 : Int32))), .val (.int x19), .val (.int (1 : Int32)), .val (.int (1 : Int32)), .val (.int (1 : Int32))] [(.int (1 : Int32))])) _
          refine XS.goto X25.here hx rfl (pc0 := 88) (pc' := 92) rfl (hb hby at_88) (by decide) (by decide) ?_
          exact k
        obtain ⟨fs, hr, hrun, hended, hW, hsame⟩ := X25.leave (v := some (.int (1 : Int32))) (fun h => by rw [Bd.returns] at h; cases h)
        refine ⟨_, _, pre27 _ ?_, hrun, hended, _, _, rfl, ?_, ⟨_, rfl⟩, hW, hsame.mono (by decide) (by decide)⟩
        · exact retN X25 hx (t := .boolean) Bd.returns (by simp) (hb hby at_92) hr
        · show Q0 Z p0 p1 h0 n0 _ T25.heap _
          rw [e25]
          exact ⟨rfl, N25⟩
      · exfalso
        exact hc62 (own_eq _)
    · exfalso
      exact hc44 (own_eq _)
  · exfalso
    exact hc26 (own_eq _)
set_option maxRecDepth 65536 in
set_option maxHeartbeats 40000000 in
theorem comes_1 {Post : Tables → Env → Array Value → State → Outcome → State → Prop} (hpost : ∀ tb e args s v u, (limb_1_1.after args s (.returned v) u = true ∧ limb_1_2.after args s (.returned v) u = true ∧ True) → FrameEnd s (.returned v) u (Jvm.fieldLocs frame_1_writes args s ++ Jvm.arrayLocs frame_1_arrays args s ++ Jvm.staticLocs frame_1_statics s) 0 0 → Post tb e args s (.returned v) u) :
    ArmFor flags0 classFile x code maxLocals ret World_1 tables_1 room_1 Calls_1 rest_1 Pre_1 Post := by
  intro l hfl _ _ p e ha hc hk s m args below hf hA hF happ hP
  obtain ⟨hcalls, hrest, hpre⟩ := hP
  obtain ⟨-, -, -, hnamed, -, -, -, hat⟩ := (Spec.applies_iff hf).mp happ
  obtain ⟨hg, hn⟩ := and_e (Cond.before_iff.mp (show (Jvm.Cond.and given_1 narrow_1).before args s = true from hpre))
  obtain ⟨g1, g2⟩ := and_e hg
  obtain ⟨g3, g4⟩ := and_e g2
  obtain ⟨w0, w1, rfl⟩ : ∃ w0 w1 : Value, args = #[w0, w1] := by
    have hs : args.size = 2 := by simpa [Cond.value, given_1] using g1
    obtain ⟨L⟩ := args
    match L, hs with
    | [w0, w1], _ => exact ⟨w0, w1, rfl⟩
  have hw := fun d (hd : d ∈ tables_1) => atoms_spec (ws := Jvm.Cond.code x code maxLocals ret :: tables_1) hat d (List.mem_cons_of_mem _ hd)
  have hfit : Fit s := fun {y c} hc i hi => by
    obtain ⟨ha, rfl⟩ := Array.getElem?_eq_some_iff.mp hc
    have q := List.all_eq_true.mp ((Array.all_eq_true_iff_forall_mem.mp hF) _ (Array.getElem_mem ha)) i (List.mem_range.mpr hi)
    simpa [Array.getElem?_eq_getElem hi] using q
  obtain ⟨i0, ei0⟩ := is_v g3
  obtain rfl : w0 = (.int i0) := Option.some.inj ei0
  obtain ⟨i1, ei1⟩ := is_v g4
  obtain rfl : w1 = (.int i1) := Option.some.inj ei1
  obtain ⟨n, o, h1, h2, h3, _, L, rfl, ⟨rfl, N⟩, hq⟩ := rm0 l s _ hw tables_1 i0 i1 s.heap s.heap.size (Nat.le_refl _) p e ha hc hk s m _ below hf ((Spec.applies_iff_loose hf).mp happ).1 ⟨rfl, State.Warmed39.refl s, rfl⟩ trivial
  refine ⟨n, _, h1, h2, h3, hpost _ _ _ _ _ _ ⟨Cond.after_iff.mpr rfl, Cond.after_iff.mpr (eq_i res_at (Term.int_eval (1)) rfl), trivial⟩ ⟨hq.1, hq.2.1, (hq.2.2.sift fun y hy => Or.inr (N y hy)).mono (by decide) (by decide)⟩⟩
theorem main_1_1 : Claimed_1_1 := comes_1 fun _ _ _ _ _ _ h hF => ⟨h.1, hF⟩
theorem main_1_2 : Claimed_1_2 := comes_1 fun _ _ _ _ _ _ h hF => ⟨h.2.1, hF⟩
end Jvm.Pilot.@@N@@
namespace Jvm.Pilot.@@N@@
open Jvm Jvm.ClassFile Sem Op Lib Jvm.Free Jvm.Stand Jvm.Pilot.@@N@@.Jvm.D
/-! MADE BY PROGRAM (witnessworld.py) out of the Statement's table words and the real class files: 9 classes; the members and pool entries that the words name. The judged class is class 1, her method 2. -/
namespace start1
open Jvm.ClassFile
def u (s : String) : CpInfo := .utf8 (stringToUtf16 s)
/-- a pool by its gaps: so many unusable entries, then the entry; so many at the end -/
def gap : Nat → List CpInfo → List CpInfo
  | 0, r => r
  | n + 1, r => .unusable :: gap n r
def poolList (es : List (Nat × CpInfo)) (last : Nat) : List CpInfo := es.foldr (fun e r => gap e.1 (e.2 :: r)) (gap last [])
def pool (es : List (Nat × CpInfo)) (last : Nat) : Array CpInfo := ⟨poolList es last⟩
def fileOf (pool : Array CpInfo) (this : Nat) (attrs : Array Attribute := #[]) (ms : Array MethodInfo := #[]) (fl : Nat := 33) (sup : Nat := 0) (ifs : Array Nat := #[]) (fds : Array FieldInfo := #[]) : ClassFile where
  minorVersion := 0
  majorVersion := 65
  constantPool := pool
  accessFlags := fl
  thisClass := this
  superClass := sup
  interfaces := ifs
  fields := fds
  methods := ms
  attributes := attrs
def plain (name : String) (sup : Option ClassId) : Class where
  name := name
  kind := .ordinary
  loader := none
  accessFlags := 33
  super := sup
  interfaces := #[]
  cf := none
  fields := #[]
  methods := #[]
  instanceTypes := #[]
  staticTypes := #[]
  resolved := #[]
  callSites := []
  init := .initialized
  statics := none
  mirror := none

def pool0 : Array CpInfo := pool [(5, u "<init>"), (0, u "()V"), (1, .class_ 10), (1, u "java/lang/Object")] 113

def k0m0 : Method := { name := "<init>", desc := "()V", sig := { parameters := [], returnType := none }, accessFlags := 1, code := none }
/-- java/lang/Object -/
def k0 : Class := { plain "java/lang/Object" none with
  accessFlags := 33
  interfaces := #[]
  cf := some (fileOf pool0 8 #[] #[{ accessFlags := 1, nameIndex := 5, descriptorIndex := 6, attributes := #[] }] 33 0 #[] #[])
  fields := #[]
  methods := #[k0m0]
  instanceTypes := #[]
  staticTypes := #[]
  resolved := Array.replicate 124 none
  statics := none }

def pool1 : Array CpInfo := pool [(2, .class_ 4), (1, u "java/lang/Object"), (0, u "<init>"), (0, u "()V"), (0, .methodref 8 9), (0, .class_ 10), (0, .nameAndType 11 12), (0, u "com/example/wirecall/wirecall/Login"), (0, u "isMethod"), (0, u "(I)Z"), (0, .methodref 14 15), (0, .class_ 16), (0, .nameAndType 17 12), (0, u "com/example/wirecall/wirecall/LoginIsMethodPinLaw"), (0, u "oneByte"), (3, u "law"), (0, u "(II)Z")] 2

def k1m0 : Method := { name := "<init>", desc := "()V", sig := { parameters := [], returnType := none }, accessFlags := 2, code := none }
def k1c1 : Code := { maxStack := 2, maxLocals := 1, code := method_2_code, exceptionTable := #[], attributes := #[] }
def k1m1 : Method := { name := "oneByte", desc := "(I)Z", sig := { parameters := [.int], returnType := some .boolean }, accessFlags := 10, code := some k1c1 }
def k1c2 : Code := { maxStack := 3, maxLocals := 7, code := code, exceptionTable := #[], attributes := #[] }
def k1m2 : Method := { name := "law", desc := "(II)Z", sig := { parameters := [.int, .int], returnType := some .boolean }, accessFlags := 9, code := some k1c2 }
/-- com/example/wirecall/wirecall/LoginIsMethodPinLaw -/
def k1 : Class := { plain "com/example/wirecall/wirecall/LoginIsMethodPinLaw" (some 0) with
  accessFlags := 49
  interfaces := #[]
  cf := some (fileOf pool1 14 #[] #[{ accessFlags := 2, nameIndex := 5, descriptorIndex := 6, attributes := #[] }, { accessFlags := 10, nameIndex := 17, descriptorIndex := 12, attributes := #[] }, { accessFlags := 9, nameIndex := 21, descriptorIndex := 22, attributes := #[] }] 49 2 #[] #[])
  fields := #[]
  methods := #[k1m0, k1m1, k1m2]
  instanceTypes := #[]
  staticTypes := #[]
  resolved := Array.replicate 25 none
  statics := none }

def pool2 : Array CpInfo := pool [(2, .class_ 4), (1, u "com/example/wirecall/wirecall/Login"), (3, .class_ 10), (1, u "java/lang/Object"), (3, u "method"), (0, u "I"), (2, u "data"), (0, u "[B"), (2, u "name"), (0, u "Ljava/lang/String;"), (2, u "password"), (2, u "key"), (0, u "Ljava/security/PublicKey;"), (2, u "signingKey"), (0, u "Ljava/security/PrivateKey;"), (2, u "ANONYMOUS_LOGIN"), (0, u "Lcom/example/wirecall/wirecall/Login;"), (32, u "(I)Z"), (102, u "ANONYMOUS"), (2, u "PASSWORD"), (1, u "TOKEN"), (1, u "ED25519"), (1, u "LAST_METHOD"), (14, u "isMethod")] 34

def k2c0 : Code := { maxStack := 2, maxLocals := 1, code := prog_33_method_10_code, exceptionTable := #[], attributes := #[] }
def k2m0 : Method := { name := "isMethod", desc := "(I)Z", sig := { parameters := [.int], returnType := some .boolean }, accessFlags := 8, code := some k2c0 }
/-- com/example/wirecall/wirecall/Login -/
def k2 : Class := { plain "com/example/wirecall/wirecall/Login" (some 0) with
  accessFlags := 49
  interfaces := #[]
  cf := some (fileOf pool2 2 #[] #[{ accessFlags := 8, nameIndex := 198, descriptorIndex := 71, attributes := #[] }] 49 8 #[] #[{ accessFlags := 25, nameIndex := 174, descriptorIndex := 15, attributes := #[] }, { accessFlags := 25, nameIndex := 177, descriptorIndex := 15, attributes := #[] }, { accessFlags := 25, nameIndex := 179, descriptorIndex := 15, attributes := #[] }, { accessFlags := 25, nameIndex := 181, descriptorIndex := 15, attributes := #[] }, { accessFlags := 26, nameIndex := 183, descriptorIndex := 15, attributes := #[] }, { accessFlags := 26, nameIndex := 37, descriptorIndex := 38, attributes := #[] }, { accessFlags := 18, nameIndex := 14, descriptorIndex := 15, attributes := #[] }, { accessFlags := 18, nameIndex := 18, descriptorIndex := 19, attributes := #[] }, { accessFlags := 18, nameIndex := 22, descriptorIndex := 23, attributes := #[] }, { accessFlags := 18, nameIndex := 26, descriptorIndex := 23, attributes := #[] }, { accessFlags := 18, nameIndex := 29, descriptorIndex := 30, attributes := #[] }, { accessFlags := 18, nameIndex := 33, descriptorIndex := 34, attributes := #[] }])
  fields := #[{ name := "ANONYMOUS", type := .int, accessFlags := 25, slot := 0, constantValue := 0 }, { name := "PASSWORD", type := .int, accessFlags := 25, slot := 1, constantValue := 0 }, { name := "TOKEN", type := .int, accessFlags := 25, slot := 2, constantValue := 0 }, { name := "ED25519", type := .int, accessFlags := 25, slot := 3, constantValue := 0 }, { name := "LAST_METHOD", type := .int, accessFlags := 26, slot := 4, constantValue := 0 }, { name := "ANONYMOUS_LOGIN", type := (.object "com/example/wirecall/wirecall/Login"), accessFlags := 26, slot := 5, constantValue := 0 }, { name := "method", type := .int, accessFlags := 18, slot := 0, constantValue := 0 }, { name := "data", type := (.array .byte), accessFlags := 18, slot := 1, constantValue := 0 }, { name := "name", type := (.object "java/lang/String"), accessFlags := 18, slot := 2, constantValue := 0 }, { name := "password", type := (.object "java/lang/String"), accessFlags := 18, slot := 3, constantValue := 0 }, { name := "key", type := (.object "java/security/PublicKey"), accessFlags := 18, slot := 4, constantValue := 0 }, { name := "signingKey", type := (.object "java/security/PrivateKey"), accessFlags := 18, slot := 5, constantValue := 0 }]
  methods := #[k2m0]
  instanceTypes := #[.int, (.array .byte), (.object "java/lang/String"), (.object "java/lang/String"), (.object "java/security/PublicKey"), (.object "java/security/PrivateKey")]
  staticTypes := #[.int, .int, .int, .int, .int, (.object "com/example/wirecall/wirecall/Login")]
  resolved := Array.replicate 233 none
  statics := none }

def pool3 : Array CpInfo := pool [(1, u "java/lang/Cloneable"), (0, .class_ 1), (0, u "java/lang/Object"), (0, .class_ 3)] 3

/-- java/lang/Cloneable -/
def k3 : Class := { plain "java/lang/Cloneable" (some 0) with
  accessFlags := 1537
  interfaces := #[]
  cf := some (fileOf pool3 2 #[] #[] 1537 4 #[] #[])
  fields := #[]
  methods := #[]
  instanceTypes := #[]
  staticTypes := #[]
  resolved := Array.replicate 8 none
  statics := none }

def pool4 : Array CpInfo := pool [(1, u "java/io/Serializable"), (0, .class_ 1), (0, u "java/lang/Object"), (0, .class_ 3)] 3

/-- java/io/Serializable -/
def k4 : Class := { plain "java/io/Serializable" (some 0) with
  accessFlags := 1537
  interfaces := #[]
  cf := some (fileOf pool4 2 #[] #[] 1537 4 #[] #[])
  fields := #[]
  methods := #[]
  instanceTypes := #[]
  staticTypes := #[]
  resolved := Array.replicate 8 none
  statics := none }

/-- the primitive byte -/
def k5 : Class := { plain "byte" none with kind := .primitive 'B', accessFlags := 0x411 }
/-- [B -/
def k6 : Class := { plain "[B" (some 0) with kind := .array 5 .byte, interfaces := #[3, 4], accessFlags := 1041 }

/-- the primitive int -/
def k7 : Class := { plain "int" none with kind := .primitive 'I', accessFlags := 0x411 }
/-- [I -/
def k8 : Class := { plain "[I" (some 0) with kind := .array 7 .int, interfaces := #[3, 4], accessFlags := 1041 }

def heap : Heap := #[]
def classes : Array Class := #[k0, k1, k2, k3, k4, k5, k6, k7, k8]
def interned : List (Array UInt16 × Addr) := []
def slotsUsed : Nat := 0
def theMethod : MethodId := ⟨1, 2⟩
def args0 : Array Value := #[.int 7, .int 9]
def aboutOver (below : List Frame) : State where
  vm := { classes := classes, interned := interned.toArray }
  heap := heap
  slotsUsed := slotsUsed
  threads := #[{ frames := .invoking theMethod args0 :: below }]
def below0 : List Frame := [.native { method := ⟨0, 0⟩, args := #[] }]
def about1 : State := aboutOver below0
def p0 : Program := .bare "" "" ""
def e0 : Env := launch0.env 0 0 0
theorem w_frames : about1.frames = Frame.invoking theMethod args0 :: below0 := rfl
set_option maxRecDepth 65536 in
theorem w_args : argsFit about1.vm theMethod args0 = true := by decide +kernel
set_option maxRecDepth 65536 in
theorem w_heap : heapFits about1 = true := by decide +kernel
set_option maxRecDepth 65536 in
theorem w_runnable : about1.curStatus? = some .runnable := by decide +kernel
set_option maxRecDepth 65536 in
theorem w_alone : about1.alone = true := by decide +kernel
set_option maxRecDepth 65536 in
theorem w_named : about1.methodNamed? x = some theMethod := by decide +kernel
set_option maxRecDepth 65536 in
theorem w_hears : about1.hears theMethod below0 = true := by decide +kernel
set_option maxRecDepth 65536 in
theorem w_ripe : about1.ripe theMethod args0 below0 = true := by decide +kernel
theorem w_running : about1.status = .running := rfl
set_option maxRecDepth 65536 in
theorem w_room : about1.hasRoom e0.platform room_1 = true :=
  launch0.hasRoom_least _ room_1 (by decide +kernel) (by decide +kernel) (by decide +kernel) (by decide +kernel) (by decide +kernel) (by decide +kernel)
theorem allAtoms_all (ts : List Jvm.Cond) (a : Array Jvm.Value) (st : Jvm.State) : (allAtoms ts).before a st = ts.all (fun c => c.before a st) := by
  induction ts with
  | nil => rfl
  | cons c t ih =>
    show (Jvm.Cond.and c (allAtoms t)).before a st = _
    rw [Jvm.Cond.before_and, ih, List.all_cons]
def words1 : List Jvm.Cond := Jvm.Cond.code x code maxLocals ret :: tables_1
/-- a 'code' word, met by the world's own term for the bytes: nothing is compared byte by byte -/
theorem code_word {y : MethodName} {bytes : ByteArray} {mx : Nat} {rt : Option FieldType} {a : Array Value} {s : State} {m : MethodId} {meth : Method} {c : Code} (h1 : s.methodNamed? y = some m) (h2 : s.vm.method? m = some meth) (h3 : meth.code = some c) (h4 : c.code = bytes)
    (h5 : (c.maxLocals == mx && c.exceptionTable.isEmpty && decide (c.maxStack ≤ mostOperands) && decide (meth.sig.returnType = rt) && !meth.locks && decide (parseMethodDescriptor y.desc = some meth.sig)) = true) : (Jvm.Cond.code y bytes mx rt).before a s = true := by
  simp only [Bool.and_eq_true, beq_iff_eq, Bool.not_eq_true', decide_eq_true_eq] at h5
  obtain ⟨⟨⟨⟨⟨g1, g2⟩, g3⟩, g4⟩, g5⟩, g6⟩ := h5
  simp [Cond.before, Cond.holds, Cond.value, h1, h2, h3, h4, g1, g2, g3, g4, g5, g6]
def isCode : Jvm.Cond → Bool
  | .code _ _ _ _ => true
  | _ => false
theorem all_split {L : List Jvm.Cond} {P : Jvm.Cond → Bool} (h1 : L.all (fun c => isCode c || P c) = true) (h2 : ∀ c ∈ L.filter isCode, P c = true) : L.all P = true := by
  refine List.all_eq_true.mpr fun c hc => ?_
  have h := List.all_eq_true.mp h1 c hc
  rcases Bool.eq_false_or_eq_true (isCode c) with hi | hi
  · exact h2 c (List.mem_filter.mpr ⟨hc, hi⟩)
  · simpa [hi] using h
set_option maxRecDepth 65536 in
theorem w_c0 : (Jvm.Cond.code x code maxLocals ret).before args0 about1 = true := code_word (m := ⟨1, 2⟩) (meth := k1m2) (c := k1c2) (by decide +kernel) rfl rfl rfl (by decide +kernel)
set_option maxRecDepth 65536 in
theorem w_c1 : (Jvm.Cond.code ({ cls := "com/example/wirecall/wirecall/Login", name := "isMethod", desc := "(I)Z" } : Jvm.MethodName) prog_33_method_10_code (1 : Nat) (Option.some Jvm.ClassFile.FieldType.boolean)).before args0 about1 = true := code_word (m := ⟨2, 0⟩) (meth := k2m0) (c := k2c0) (by decide +kernel) rfl rfl rfl (by decide +kernel)
set_option maxRecDepth 65536 in
theorem w_c2 : (Jvm.Cond.code ({ cls := "com/example/wirecall/wirecall/LoginIsMethodPinLaw", name := "oneByte", desc := "(I)Z" } : Jvm.MethodName) method_2_code (1 : Nat) (Option.some Jvm.ClassFile.FieldType.boolean)).before args0 about1 = true := code_word (m := ⟨1, 1⟩) (meth := k1m1) (c := k1c1) (by decide +kernel) rfl rfl rfl (by decide +kernel)
def codes1 : List Jvm.Cond := [Jvm.Cond.code x code maxLocals ret, Jvm.Cond.code ({ cls := "com/example/wirecall/wirecall/Login", name := "isMethod", desc := "(I)Z" } : Jvm.MethodName) prog_33_method_10_code (1 : Nat) (Option.some Jvm.ClassFile.FieldType.boolean), Jvm.Cond.code ({ cls := "com/example/wirecall/wirecall/LoginIsMethodPinLaw", name := "oneByte", desc := "(I)Z" } : Jvm.MethodName) method_2_code (1 : Nat) (Option.some Jvm.ClassFile.FieldType.boolean)]
set_option maxRecDepth 65536 in
theorem codes_eq : words1.filter isCode = codes1 := rfl
theorem w_codes : ∀ c ∈ words1.filter isCode, c.before args0 about1 = true := by
  rw [codes_eq]
  intro c hc
  simp only [codes1, List.mem_cons, List.not_mem_nil, or_false] at hc
  rcases hc with rfl | rfl | rfl
  · exact w_c0
  · exact w_c1
  · exact w_c2
set_option maxRecDepth 65536 in
theorem w_t1 : words1.all (fun c => isCode c || c.before args0 about1) = true := by decide +kernel
theorem w_tables : (allAtoms (Jvm.Cond.code x code maxLocals ret :: tables_1)).before args0 about1 = true := by
  rw [allAtoms_all]
  show words1.all (fun c => c.before args0 about1) = true
  refine all_split ?_ w_codes
  rw [w_t1]
set_option maxRecDepth 65536 in
theorem w_case : (Jvm.Cond.and given_1 narrow_1).before args0 about1 = true := by decide +kernel
theorem w_applies : (headSpec (Jvm.Cond.code x code maxLocals ret :: tables_1) room_1).applies x e0.platform about1 = true :=
  (Spec.applies_iff w_frames).mpr ⟨w_running, w_runnable, w_alone, w_named, w_hears, w_ripe, w_room, w_tables⟩
theorem atStart : AtStart classFile x code maxLocals ret World_1 tables_1 room_1 Calls_1 rest_1 Pre_1 launch0 p0 e0 about1 theMethod args0 below0 :=
  ⟨lists_1, trivial, launch0.admits_env _ _ _, launch0.least_env, fairChoices_fair.cas, fairChoices_fair.clock, w_frames, w_args, w_heap, w_applies, trivial, trivial, w_case⟩
end start1
theorem witness_1 : WitnessClaimed_1 := ⟨start1.p0, start1.e0, start1.about1, start1.theMethod, start1.args0, start1.below0, start1.atStart⟩
end Jvm.Pilot.@@N@@
