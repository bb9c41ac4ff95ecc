import JvmDerived
import JvmDerived.Pilot.@@N@@Statement
import JvmDerived.Pilot.@@N@@Code
set_option linter.unusedVariables false
set_option linter.unusedSimpArgs false
namespace Jvm.RoadKit
open Sem ClassFile Op Lib Jvm.Stand Jvm.Free Jvm.LawKit
section New
variable {p : Program} {l : Launch} {e : Env} {R : Room} {s : State} {m : MethodId} {args : Array Value} {below : List Frame} {meth : Method} {c : Code} {T : State} {locs : List Loc} {cells slots : Nat}
theorem retI (X : Stand p l e R s m args below meth c T locs cells slots) (hx : p.tables.exec = Jvm.exec) {pc : Nat} {Ls : Array Slot} {z : Int32} {rest : List Value} (hret : meth.sig.returnType = some .int) (hd : decode c.code pc = .ok (.ireturn, 1)) {fs : List Frame}
    (hl : ∀ (f : JFrame) (acts : List Action), f.method = m → f.locked = none → f.entered = [] → (doReturn e (T.setTop f) acts (some (.int z))).1 = T.setFrames fs) : Steps p.tables e below (T.setTop (mkF m pc Ls (.int z :: rest))) (T.setFrames fs) := by
  have hm' : T.vm.method? m = some meth := X.method'
  have hn : narrow .int (.int z) = .int z := rfl
  show Steps p.tables e below (T.setTop { method := m, pc := pc, locals := Ls, stack := _ :: rest, locked := none }) _
  jvm_step X.here [X.here.top, hx, hd, hm', hret, hn]
  first | (intro acts; rw [hl _ acts rfl rfl rfl]) | rw [hl _ _ rfl rfl rfl]
  exact Steps.refl _
end New
end Jvm.RoadKit
namespace Jvm.Pilot.@@N@@
open Jvm Jvm.ClassFile Sem Op Lib Jvm.Free Jvm.Stand Jvm.LawKit Jvm.RoadKit Bundle Jvm.Pilot.@@N@@.Jvm.D
theorem d1_0 : decode prog_117_method_3_code 0 = .ok (.iload_n 0, 1) := by decide +kernel
theorem d1_1 : decode prog_117_method_3_code 1 = .ok (.ldc 28, 2) := by decide +kernel
theorem d1_3 : decode prog_117_method_3_code 3 = .ok (.if_icmp .lt 9, 3) := by decide +kernel
theorem d1_12 : decode prog_117_method_3_code 12 = .ok (.iload_n 0, 1) := by decide +kernel
theorem d1_13 : decode prog_117_method_3_code 13 = .ok (.ldc 30, 2) := by decide +kernel
theorem d1_15 : decode prog_117_method_3_code 15 = .ok (.iand, 1) := by decide +kernel
theorem d1_16 : decode prog_117_method_3_code 16 = .ok (.ldc 30, 2) := by decide +kernel
theorem d1_18 : decode prog_117_method_3_code 18 = .ok (.if_icmp .eq 15, 3) := by decide +kernel
theorem d1_33 : decode prog_117_method_3_code 33 = .ok (.iconst 1, 1) := by decide +kernel
theorem d1_34 : decode prog_117_method_3_code 34 = .ok (.goto 4, 3) := by decide +kernel
theorem d1_38 : decode prog_117_method_3_code 38 = .ok (.ireturn, 1) := by decide +kernel
theorem d1_21 : decode prog_117_method_3_code 21 = .ok (.iload_n 0, 1) := by decide +kernel
theorem d1_22 : decode prog_117_method_3_code 22 = .ok (.ldc 31, 2) := by decide +kernel
theorem d1_24 : decode prog_117_method_3_code 24 = .ok (.if_icmp .lt 13, 3) := by decide +kernel
theorem d1_37 : decode prog_117_method_3_code 37 = .ok (.iconst 0, 1) := by decide +kernel
theorem d1_27 : decode prog_117_method_3_code 27 = .ok (.iload_n 0, 1) := by decide +kernel
theorem d1_28 : decode prog_117_method_3_code 28 = .ok (.ldc 32, 2) := by decide +kernel
theorem d1_30 : decode prog_117_method_3_code 30 = .ok (.if_icmp .gt 7, 3) := by decide +kernel
theorem d1_6 : decode prog_117_method_3_code 6 = .ok (.iload_n 0, 1) := by decide +kernel
theorem d1_7 : decode prog_117_method_3_code 7 = .ok (.ldc 29, 2) := by decide +kernel
theorem d1_9 : decode prog_117_method_3_code 9 = .ok (.if_icmp .le 24, 3) := by decide +kernel
def own_non (p0 : Int32) : Int32 := (if p0 < (64976 : Int32) then (if (p0 &&& (65534 : Int32)) = (65534 : Int32) then (1 : Int32) else (if p0 < (55296 : Int32) then (0 : Int32) else (if (57343 : Int32) < p0 then (0 : Int32) else (1 : Int32)))) else (if (65007 : Int32) < p0 then (if (p0 &&& (65534 : Int32)) = (65534 : Int32) then (1 : Int32) else (if p0 < (55296 : Int32) then (0 : Int32) else (if (57343 : Int32) < p0 then (0 : Int32) else (1 : Int32)))) else (1 : Int32)))
theorem pn_1 : plainName "com/example/arkivsmed/arkivsmed/xml/XmlCharacters" = true := by first | (simp [plainName, overriddenIn]; done) | decide +kernel
theorem ef_1 (m : MethodId) (x0 : Int32) : entryFrame m #[(.int x0)] 1 = mkF m 0 #[.val (.int x0)] [] := by first | (simp [entryFrame, mkF, argsToLocals, Value.category]; done) | rfl
def Q1 (Z : State) (p0 : Int32) (h0 : Heap) (n0 : Nat) (v : Option Value) (h : Heap) (L : List Loc) : Prop := v = some (.int (own_non p0)) ∧ Fr n0 L ∧ h = h0
set_option maxRecDepth 65536 in
set_option maxHeartbeats 40000000 in
theorem rm1 (l : Launch) (Z : State) (a0 : Array Value) (hw : ∀ d ∈ tables_1, d.before a0 Z = true) (ws : List Jvm.Cond) (p0 : Int32) (h0 : Heap) (n0 : Nat) (Z0 : n0 ≤ h0.size) :
    MetFree l (⟨"com/example/arkivsmed/arkivsmed/xml/XmlCharacters", "isNoncharacterOrSurrogate", "(I)Z"⟩ : MethodName) (head1 (Jvm.Cond.code (⟨"com/example/arkivsmed/arkivsmed/xml/XmlCharacters", "isNoncharacterOrSurrogate", "(I)Z"⟩ : MethodName) prog_117_method_3_code 1 (some .boolean) :: ws) ({ frames := 0, cells := 0, slots := 0, locals := 0 } : Room)) (fun a U => a = #[(.int p0)] ∧ Z.Warmed39 U.vm ∧ U.heap = h0) (fun _ _ _ _ _ => True) (fun _ U o U' => ∃ v L, o = .returned v ∧ Q1 Z p0 h0 n0 v U'.heap L ∧ FrameEnd U o U' L ({ frames := 0, cells := 0, slots := 0, locals := 0 } : Room).cells ({ frames := 0, cells := 0, slots := 0, locals := 0 } : Room).slots) := by
  refine MetFree.of_bodySF (plainFor_of_name pn_1) hisR ?_
  intro p e s m args below meth c s₁ Bd hml0 hP hK
  obtain ⟨rfl, hZ, hh⟩ := hP
  have hx := Bd.exec
  have hby := Bd.bytes
  have hml : c.maxLocals = 1 := hml0
  have hown : s.vm.findClass "com/example/arkivsmed/arkivsmed/xml/XmlCharacters" = some m.cls := findClass_of_methodNamed Bd.named
  have hnm := (name_of_methodNamed Bd.named Bd.method).1
  have X0 : Stand p l e ({ frames := 0, cells := 0, slots := 0, locals := 0 } : Room) s m #[(.int p0)] below meth c s₁ [] 0 0 := Stand.of_body Bd
  have e0 : s₁.heap = h0 := by rw [← hh, Bd.state]; rfl
  have N0 := Fr.nil n0
  have pre0 : ∀ t, Steps p.tables e below (s₁.setTop (mkF m 0 #[.val (.int p0)] [])) t → Steps p.tables e below (s₁.setTop (entryFrame m #[(.int p0)] 1)) t := fun t k => castTop (ef_1 m p0) k
  have pre1 : ∀ t, Steps p.tables e below (s₁.setTop (mkF m 3 #[.val (.int p0)] [(.int (64976 : Int32)), (.int p0)])) t → Steps p.tables e below (s₁.setTop (entryFrame m #[(.int p0)] 1)) t := by
    intro t k
    refine pre0 t ?_
    show Steps p.tables e below (s₁.setTop (mkF m 0 #[.val (.int p0)] [])) _
    refine XS.iloadN X0.here hx rfl (hb hby d1_0) rfl ?_
    show Steps p.tables e below (s₁.setTop (mkF m 1 #[.val (.int p0)] [(.int p0)])) _
    refine X0.ldcInt hx hown (mvT hZ (hw _ (List.mem_of_getElem? (i := 10) rfl))) (g := (mkF m 1 #[.val (.int p0)] [(.int p0)])) rfl (hb hby d1_1) _ ?_
    exact k
  by_cases hc3 : p0 < (64976 : Int32)
  · have pre2 : ∀ t, Steps p.tables e below (s₁.setTop (mkF m 18 #[.val (.int p0)] [(.int (65534 : Int32)), (.int (p0 &&& (65534 : Int32)))])) t → Steps p.tables e below (s₁.setTop (entryFrame m #[(.int p0)] 1)) t := by
      intro t k
      refine pre1 t ?_
      show Steps p.tables e below (s₁.setTop (mkF m 3 #[.val (.int p0)] [(.int (64976 : Int32)), (.int p0)])) _
      refine XS.icmpYes X0.here hx rfl (pc0 := 3) (pc' := 12) rfl (hb hby d1_3) rfl (tlt hc3).1 (by decide) (by decide) ?_
      show Steps p.tables e below (s₁.setTop (mkF m 12 #[.val (.int p0)] [])) _
      refine XS.iloadN X0.here hx rfl (hb hby d1_12) rfl ?_
      show Steps p.tables e below (s₁.setTop (mkF m 13 #[.val (.int p0)] [(.int p0)])) _
      refine X0.ldcInt hx hown (mvT hZ (hw _ (List.mem_of_getElem? (i := 11) rfl))) (g := (mkF m 13 #[.val (.int p0)] [(.int p0)])) rfl (hb hby d1_13) _ ?_
      show Steps p.tables e below (s₁.setTop (mkF m 15 #[.val (.int p0)] [(.int (65534 : Int32)), (.int p0)])) _
      refine XS.iand X0.here hx rfl (hb hby d1_15) rfl ?_
      show Steps p.tables e below (s₁.setTop (mkF m 16 #[.val (.int p0)] [(.int (p0 &&& (65534 : Int32)))])) _
      refine X0.ldcInt hx hown (mvT hZ (hw _ (List.mem_of_getElem? (i := 11) rfl))) (g := (mkF m 16 #[.val (.int p0)] [(.int (p0 &&& (65534 : Int32)))])) rfl (hb hby d1_16) _ ?_
      exact k
    by_cases hc18 : (p0 &&& (65534 : Int32)) = (65534 : Int32)
    · have pre3 : ∀ t, Steps p.tables e below (s₁.setTop (mkF m 38 #[.val (.int p0)] [(.int (1 : Int32))])) t → Steps p.tables e below (s₁.setTop (entryFrame m #[(.int p0)] 1)) t := by
        intro t k
        refine pre2 t ?_
        show Steps p.tables e below (s₁.setTop (mkF m 18 #[.val (.int p0)] [(.int (65534 : Int32)), (.int (p0 &&& (65534 : Int32)))])) _
        refine XS.icmpYes X0.here hx rfl (pc0 := 18) (pc' := 33) rfl (hb hby d1_18) rfl (teq hc18).1 (by decide) (by decide) ?_
        show Steps p.tables e below (s₁.setTop (mkF m 33 #[.val (.int p0)] [])) _
        refine XS.iconst X0.here hx rfl (hb hby d1_33) ?_
        show Steps p.tables e below (s₁.setTop (mkF m 34 #[.val (.int p0)] [(.int (1 : Int32))])) _
        refine XS.goto X0.here hx rfl (pc0 := 34) (pc' := 38) rfl (hb hby d1_34) (by decide) (by decide) ?_
        exact k
      obtain ⟨fs, hr, hrun, hended, hW, hsame⟩ := X0.leave (v := some (.int (1 : Int32))) (fun h => by rw [Bd.returns] at h; cases h)
      refine ⟨_, _, pre3 _ ?_, hrun, hended, _, _, rfl, ?_, ⟨_, rfl⟩, hW, hsame.mono (by decide) (by decide)⟩
      · exact retN X0 hx (t := .boolean) Bd.returns (by simp) (hb hby d1_38) hr
      · show Q1 Z p0 h0 n0 _ s₁.heap _
        rw [e0]
        refine ⟨?_, N0, rfl⟩
        unfold own_non; rw [if_pos hc3, if_pos hc18]
    · have pre4 : ∀ t, Steps p.tables e below (s₁.setTop (mkF m 24 #[.val (.int p0)] [(.int (55296 : Int32)), (.int p0)])) t → Steps p.tables e below (s₁.setTop (entryFrame m #[(.int p0)] 1)) t := by
        intro t k
        refine pre2 t ?_
        show Steps p.tables e below (s₁.setTop (mkF m 18 #[.val (.int p0)] [(.int (65534 : Int32)), (.int (p0 &&& (65534 : Int32)))])) _
        refine XS.icmpNo X0.here hx rfl (hb hby d1_18) rfl (feq hc18).1 ?_
        show Steps p.tables e below (s₁.setTop (mkF m 21 #[.val (.int p0)] [])) _
        refine XS.iloadN X0.here hx rfl (hb hby d1_21) rfl ?_
        show Steps p.tables e below (s₁.setTop (mkF m 22 #[.val (.int p0)] [(.int p0)])) _
        refine X0.ldcInt hx hown (mvT hZ (hw _ (List.mem_of_getElem? (i := 12) rfl))) (g := (mkF m 22 #[.val (.int p0)] [(.int p0)])) rfl (hb hby d1_22) _ ?_
        exact k
      by_cases hc24 : p0 < (55296 : Int32)
      · have pre5 : ∀ t, Steps p.tables e below (s₁.setTop (mkF m 38 #[.val (.int p0)] [(.int (0 : Int32))])) t → Steps p.tables e below (s₁.setTop (entryFrame m #[(.int p0)] 1)) t := by
          intro t k
          refine pre4 t ?_
          show Steps p.tables e below (s₁.setTop (mkF m 24 #[.val (.int p0)] [(.int (55296 : Int32)), (.int p0)])) _
          refine XS.icmpYes X0.here hx rfl (pc0 := 24) (pc' := 37) rfl (hb hby d1_24) rfl (tlt hc24).1 (by decide) (by decide) ?_
          show Steps p.tables e below (s₁.setTop (mkF m 37 #[.val (.int p0)] [])) _
          refine XS.iconst X0.here hx rfl (hb hby d1_37) ?_
          exact k
        obtain ⟨fs, hr, hrun, hended, hW, hsame⟩ := X0.leave (v := some (.int (0 : Int32))) (fun h => by rw [Bd.returns] at h; cases h)
        refine ⟨_, _, pre5 _ ?_, hrun, hended, _, _, rfl, ?_, ⟨_, rfl⟩, hW, hsame.mono (by decide) (by decide)⟩
        · exact retN X0 hx (t := .boolean) Bd.returns (by simp) (hb hby d1_38) hr
        · show Q1 Z p0 h0 n0 _ s₁.heap _
          rw [e0]
          refine ⟨?_, N0, rfl⟩
          unfold own_non; rw [if_pos hc3, if_neg hc18, if_pos hc24]
      · have pre6 : ∀ t, Steps p.tables e below (s₁.setTop (mkF m 30 #[.val (.int p0)] [(.int (57343 : Int32)), (.int p0)])) t → Steps p.tables e below (s₁.setTop (entryFrame m #[(.int p0)] 1)) t := by
          intro t k
          refine pre4 t ?_
          show Steps p.tables e below (s₁.setTop (mkF m 24 #[.val (.int p0)] [(.int (55296 : Int32)), (.int p0)])) _
          refine XS.icmpNo X0.here hx rfl (hb hby d1_24) rfl (flt hc24).1 ?_
          show Steps p.tables e below (s₁.setTop (mkF m 27 #[.val (.int p0)] [])) _
          refine XS.iloadN X0.here hx rfl (hb hby d1_27) rfl ?_
          show Steps p.tables e below (s₁.setTop (mkF m 28 #[.val (.int p0)] [(.int p0)])) _
          refine X0.ldcInt hx hown (mvT hZ (hw _ (List.mem_of_getElem? (i := 14) rfl))) (g := (mkF m 28 #[.val (.int p0)] [(.int p0)])) rfl (hb hby d1_28) _ ?_
          exact k
        by_cases hc30 : (57343 : Int32) < p0
        · have pre7 : ∀ t, Steps p.tables e below (s₁.setTop (mkF m 38 #[.val (.int p0)] [(.int (0 : Int32))])) t → Steps p.tables e below (s₁.setTop (entryFrame m #[(.int p0)] 1)) t := by
            intro t k
            refine pre6 t ?_
            show Steps p.tables e below (s₁.setTop (mkF m 30 #[.val (.int p0)] [(.int (57343 : Int32)), (.int p0)])) _
            refine XS.icmpYes X0.here hx rfl (pc0 := 30) (pc' := 37) rfl (hb hby d1_30) rfl (tlt hc30).2.2.1 (by decide) (by decide) ?_
            show Steps p.tables e below (s₁.setTop (mkF m 37 #[.val (.int p0)] [])) _
            refine XS.iconst X0.here hx rfl (hb hby d1_37) ?_
            exact k
          obtain ⟨fs, hr, hrun, hended, hW, hsame⟩ := X0.leave (v := some (.int (0 : Int32))) (fun h => by rw [Bd.returns] at h; cases h)
          refine ⟨_, _, pre7 _ ?_, hrun, hended, _, _, rfl, ?_, ⟨_, rfl⟩, hW, hsame.mono (by decide) (by decide)⟩
          · exact retN X0 hx (t := .boolean) Bd.returns (by simp) (hb hby d1_38) hr
          · show Q1 Z p0 h0 n0 _ s₁.heap _
            rw [e0]
            refine ⟨?_, N0, rfl⟩
            unfold own_non; rw [if_pos hc3, if_neg hc18, if_neg hc24, if_pos hc30]
        · have pre8 : ∀ t, Steps p.tables e below (s₁.setTop (mkF m 38 #[.val (.int p0)] [(.int (1 : Int32))])) t → Steps p.tables e below (s₁.setTop (entryFrame m #[(.int p0)] 1)) t := by
            intro t k
            refine pre6 t ?_
            show Steps p.tables e below (s₁.setTop (mkF m 30 #[.val (.int p0)] [(.int (57343 : Int32)), (.int p0)])) _
            refine XS.icmpNo X0.here hx rfl (hb hby d1_30) rfl (flt hc30).2.2.1 ?_
            show Steps p.tables e below (s₁.setTop (mkF m 33 #[.val (.int p0)] [])) _
            refine XS.iconst X0.here hx rfl (hb hby d1_33) ?_
            show Steps p.tables e below (s₁.setTop (mkF m 34 #[.val (.int p0)] [(.int (1 : Int32))])) _
            refine XS.goto X0.here hx rfl (pc0 := 34) (pc' := 38) rfl (hb hby d1_34) (by decide) (by decide) ?_
            exact k
          obtain ⟨fs, hr, hrun, hended, hW, hsame⟩ := X0.leave (v := some (.int (1 : Int32))) (fun h => by rw [Bd.returns] at h; cases h)
          refine ⟨_, _, pre8 _ ?_, hrun, hended, _, _, rfl, ?_, ⟨_, rfl⟩, hW, hsame.mono (by decide) (by decide)⟩
          · exact retN X0 hx (t := .boolean) Bd.returns (by simp) (hb hby d1_38) hr
          · show Q1 Z p0 h0 n0 _ s₁.heap _
            rw [e0]
            refine ⟨?_, N0, rfl⟩
            unfold own_non; rw [if_pos hc3, if_neg hc18, if_neg hc24, if_neg hc30]
  · have pre9 : ∀ t, Steps p.tables e below (s₁.setTop (mkF m 9 #[.val (.int p0)] [(.int (65007 : Int32)), (.int p0)])) t → Steps p.tables e below (s₁.setTop (entryFrame m #[(.int p0)] 1)) t := by
      intro t k
      refine pre1 t ?_
      show Steps p.tables e below (s₁.setTop (mkF m 3 #[.val (.int p0)] [(.int (64976 : Int32)), (.int p0)])) _
      refine XS.icmpNo X0.here hx rfl (hb hby d1_3) rfl (flt hc3).1 ?_
      show Steps p.tables e below (s₁.setTop (mkF m 6 #[.val (.int p0)] [])) _
      refine XS.iloadN X0.here hx rfl (hb hby d1_6) rfl ?_
      show Steps p.tables e below (s₁.setTop (mkF m 7 #[.val (.int p0)] [(.int p0)])) _
      refine X0.ldcInt hx hown (mvT hZ (hw _ (List.mem_of_getElem? (i := 13) rfl))) (g := (mkF m 7 #[.val (.int p0)] [(.int p0)])) rfl (hb hby d1_7) _ ?_
      exact k
    by_cases hc9 : (65007 : Int32) < p0
    · have pre10 : ∀ t, Steps p.tables e below (s₁.setTop (mkF m 18 #[.val (.int p0)] [(.int (65534 : Int32)), (.int (p0 &&& (65534 : Int32)))])) t → Steps p.tables e below (s₁.setTop (entryFrame m #[(.int p0)] 1)) t := by
        intro t k
        refine pre9 t ?_
        show Steps p.tables e below (s₁.setTop (mkF m 9 #[.val (.int p0)] [(.int (65007 : Int32)), (.int p0)])) _
        refine XS.icmpNo X0.here hx rfl (hb hby d1_9) rfl (tlt hc9).2.2.2 ?_
        show Steps p.tables e below (s₁.setTop (mkF m 12 #[.val (.int p0)] [])) _
        refine XS.iloadN X0.here hx rfl (hb hby d1_12) rfl ?_
        show Steps p.tables e below (s₁.setTop (mkF m 13 #[.val (.int p0)] [(.int p0)])) _
        refine X0.ldcInt hx hown (mvT hZ (hw _ (List.mem_of_getElem? (i := 11) rfl))) (g := (mkF m 13 #[.val (.int p0)] [(.int p0)])) rfl (hb hby d1_13) _ ?_
        show Steps p.tables e below (s₁.setTop (mkF m 15 #[.val (.int p0)] [(.int (65534 : Int32)), (.int p0)])) _
        refine XS.iand X0.here hx rfl (hb hby d1_15) rfl ?_
        show Steps p.tables e below (s₁.setTop (mkF m 16 #[.val (.int p0)] [(.int (p0 &&& (65534 : Int32)))])) _
        refine X0.ldcInt hx hown (mvT hZ (hw _ (List.mem_of_getElem? (i := 11) rfl))) (g := (mkF m 16 #[.val (.int p0)] [(.int (p0 &&& (65534 : Int32)))])) rfl (hb hby d1_16) _ ?_
        exact k
      by_cases hc18 : (p0 &&& (65534 : Int32)) = (65534 : Int32)
      · have pre11 : ∀ t, Steps p.tables e below (s₁.setTop (mkF m 38 #[.val (.int p0)] [(.int (1 : Int32))])) t → Steps p.tables e below (s₁.setTop (entryFrame m #[(.int p0)] 1)) t := by
          intro t k
          refine pre10 t ?_
          show Steps p.tables e below (s₁.setTop (mkF m 18 #[.val (.int p0)] [(.int (65534 : Int32)), (.int (p0 &&& (65534 : Int32)))])) _
          refine XS.icmpYes X0.here hx rfl (pc0 := 18) (pc' := 33) rfl (hb hby d1_18) rfl (teq hc18).1 (by decide) (by decide) ?_
          show Steps p.tables e below (s₁.setTop (mkF m 33 #[.val (.int p0)] [])) _
          refine XS.iconst X0.here hx rfl (hb hby d1_33) ?_
          show Steps p.tables e below (s₁.setTop (mkF m 34 #[.val (.int p0)] [(.int (1 : Int32))])) _
          refine XS.goto X0.here hx rfl (pc0 := 34) (pc' := 38) rfl (hb hby d1_34) (by decide) (by decide) ?_
          exact k
        obtain ⟨fs, hr, hrun, hended, hW, hsame⟩ := X0.leave (v := some (.int (1 : Int32))) (fun h => by rw [Bd.returns] at h; cases h)
        refine ⟨_, _, pre11 _ ?_, hrun, hended, _, _, rfl, ?_, ⟨_, rfl⟩, hW, hsame.mono (by decide) (by decide)⟩
        · exact retN X0 hx (t := .boolean) Bd.returns (by simp) (hb hby d1_38) hr
        · show Q1 Z p0 h0 n0 _ s₁.heap _
          rw [e0]
          refine ⟨?_, N0, rfl⟩
          unfold own_non; rw [if_neg hc3, if_pos hc9, if_pos hc18]
      · have pre12 : ∀ t, Steps p.tables e below (s₁.setTop (mkF m 24 #[.val (.int p0)] [(.int (55296 : Int32)), (.int p0)])) t → Steps p.tables e below (s₁.setTop (entryFrame m #[(.int p0)] 1)) t := by
          intro t k
          refine pre10 t ?_
          show Steps p.tables e below (s₁.setTop (mkF m 18 #[.val (.int p0)] [(.int (65534 : Int32)), (.int (p0 &&& (65534 : Int32)))])) _
          refine XS.icmpNo X0.here hx rfl (hb hby d1_18) rfl (feq hc18).1 ?_
          show Steps p.tables e below (s₁.setTop (mkF m 21 #[.val (.int p0)] [])) _
          refine XS.iloadN X0.here hx rfl (hb hby d1_21) rfl ?_
          show Steps p.tables e below (s₁.setTop (mkF m 22 #[.val (.int p0)] [(.int p0)])) _
          refine X0.ldcInt hx hown (mvT hZ (hw _ (List.mem_of_getElem? (i := 12) rfl))) (g := (mkF m 22 #[.val (.int p0)] [(.int p0)])) rfl (hb hby d1_22) _ ?_
          exact k
        by_cases hc24 : p0 < (55296 : Int32)
        · have pre13 : ∀ t, Steps p.tables e below (s₁.setTop (mkF m 38 #[.val (.int p0)] [(.int (0 : Int32))])) t → Steps p.tables e below (s₁.setTop (entryFrame m #[(.int p0)] 1)) t := by
            intro t k
            refine pre12 t ?_
            show Steps p.tables e below (s₁.setTop (mkF m 24 #[.val (.int p0)] [(.int (55296 : Int32)), (.int p0)])) _
            refine XS.icmpYes X0.here hx rfl (pc0 := 24) (pc' := 37) rfl (hb hby d1_24) rfl (tlt hc24).1 (by decide) (by decide) ?_
            show Steps p.tables e below (s₁.setTop (mkF m 37 #[.val (.int p0)] [])) _
            refine XS.iconst X0.here hx rfl (hb hby d1_37) ?_
            exact k
          obtain ⟨fs, hr, hrun, hended, hW, hsame⟩ := X0.leave (v := some (.int (0 : Int32))) (fun h => by rw [Bd.returns] at h; cases h)
          refine ⟨_, _, pre13 _ ?_, hrun, hended, _, _, rfl, ?_, ⟨_, rfl⟩, hW, hsame.mono (by decide) (by decide)⟩
          · exact retN X0 hx (t := .boolean) Bd.returns (by simp) (hb hby d1_38) hr
          · show Q1 Z p0 h0 n0 _ s₁.heap _
            rw [e0]
            refine ⟨?_, N0, rfl⟩
            unfold own_non; rw [if_neg hc3, if_pos hc9, if_neg hc18, if_pos hc24]
        · have pre14 : ∀ t, Steps p.tables e below (s₁.setTop (mkF m 30 #[.val (.int p0)] [(.int (57343 : Int32)), (.int p0)])) t → Steps p.tables e below (s₁.setTop (entryFrame m #[(.int p0)] 1)) t := by
            intro t k
            refine pre12 t ?_
            show Steps p.tables e below (s₁.setTop (mkF m 24 #[.val (.int p0)] [(.int (55296 : Int32)), (.int p0)])) _
            refine XS.icmpNo X0.here hx rfl (hb hby d1_24) rfl (flt hc24).1 ?_
            show Steps p.tables e below (s₁.setTop (mkF m 27 #[.val (.int p0)] [])) _
            refine XS.iloadN X0.here hx rfl (hb hby d1_27) rfl ?_
            show Steps p.tables e below (s₁.setTop (mkF m 28 #[.val (.int p0)] [(.int p0)])) _
            refine X0.ldcInt hx hown (mvT hZ (hw _ (List.mem_of_getElem? (i := 14) rfl))) (g := (mkF m 28 #[.val (.int p0)] [(.int p0)])) rfl (hb hby d1_28) _ ?_
            exact k
          by_cases hc30 : (57343 : Int32) < p0
          · have pre15 : ∀ t, Steps p.tables e below (s₁.setTop (mkF m 38 #[.val (.int p0)] [(.int (0 : Int32))])) t → Steps p.tables e below (s₁.setTop (entryFrame m #[(.int p0)] 1)) t := by
              intro t k
              refine pre14 t ?_
              show Steps p.tables e below (s₁.setTop (mkF m 30 #[.val (.int p0)] [(.int (57343 : Int32)), (.int p0)])) _
              refine XS.icmpYes X0.here hx rfl (pc0 := 30) (pc' := 37) rfl (hb hby d1_30) rfl (tlt hc30).2.2.1 (by decide) (by decide) ?_
              show Steps p.tables e below (s₁.setTop (mkF m 37 #[.val (.int p0)] [])) _
              refine XS.iconst X0.here hx rfl (hb hby d1_37) ?_
              exact k
            obtain ⟨fs, hr, hrun, hended, hW, hsame⟩ := X0.leave (v := some (.int (0 : Int32))) (fun h => by rw [Bd.returns] at h; cases h)
            refine ⟨_, _, pre15 _ ?_, hrun, hended, _, _, rfl, ?_, ⟨_, rfl⟩, hW, hsame.mono (by decide) (by decide)⟩
            · exact retN X0 hx (t := .boolean) Bd.returns (by simp) (hb hby d1_38) hr
            · show Q1 Z p0 h0 n0 _ s₁.heap _
              rw [e0]
              refine ⟨?_, N0, rfl⟩
              unfold own_non; rw [if_neg hc3, if_pos hc9, if_neg hc18, if_neg hc24, if_pos hc30]
          · have pre16 : ∀ t, Steps p.tables e below (s₁.setTop (mkF m 38 #[.val (.int p0)] [(.int (1 : Int32))])) t → Steps p.tables e below (s₁.setTop (entryFrame m #[(.int p0)] 1)) t := by
              intro t k
              refine pre14 t ?_
              show Steps p.tables e below (s₁.setTop (mkF m 30 #[.val (.int p0)] [(.int (57343 : Int32)), (.int p0)])) _
              refine XS.icmpNo X0.here hx rfl (hb hby d1_30) rfl (flt hc30).2.2.1 ?_
              show Steps p.tables e below (s₁.setTop (mkF m 33 #[.val (.int p0)] [])) _
              refine XS.iconst X0.here hx rfl (hb hby d1_33) ?_
              show Steps p.tables e below (s₁.setTop (mkF m 34 #[.val (.int p0)] [(.int (1 : Int32))])) _
              refine XS.goto X0.here hx rfl (pc0 := 34) (pc' := 38) rfl (hb hby d1_34) (by decide) (by decide) ?_
              exact k
            obtain ⟨fs, hr, hrun, hended, hW, hsame⟩ := X0.leave (v := some (.int (1 : Int32))) (fun h => by rw [Bd.returns] at h; cases h)
            refine ⟨_, _, pre16 _ ?_, hrun, hended, _, _, rfl, ?_, ⟨_, rfl⟩, hW, hsame.mono (by decide) (by decide)⟩
            · exact retN X0 hx (t := .boolean) Bd.returns (by simp) (hb hby d1_38) hr
            · show Q1 Z p0 h0 n0 _ s₁.heap _
              rw [e0]
              refine ⟨?_, N0, rfl⟩
              unfold own_non; rw [if_neg hc3, if_pos hc9, if_neg hc18, if_neg hc24, if_neg hc30]
    · have pre17 : ∀ t, Steps p.tables e below (s₁.setTop (mkF m 38 #[.val (.int p0)] [(.int (1 : Int32))])) t → Steps p.tables e below (s₁.setTop (entryFrame m #[(.int p0)] 1)) t := by
        intro t k
        refine pre9 t ?_
        show Steps p.tables e below (s₁.setTop (mkF m 9 #[.val (.int p0)] [(.int (65007 : Int32)), (.int p0)])) _
        refine XS.icmpYes X0.here hx rfl (pc0 := 9) (pc' := 33) rfl (hb hby d1_9) rfl (flt hc9).2.2.2 (by decide) (by decide) ?_
        show Steps p.tables e below (s₁.setTop (mkF m 33 #[.val (.int p0)] [])) _
        refine XS.iconst X0.here hx rfl (hb hby d1_33) ?_
        show Steps p.tables e below (s₁.setTop (mkF m 34 #[.val (.int p0)] [(.int (1 : Int32))])) _
        refine XS.goto X0.here hx rfl (pc0 := 34) (pc' := 38) rfl (hb hby d1_34) (by decide) (by decide) ?_
        exact k
      obtain ⟨fs, hr, hrun, hended, hW, hsame⟩ := X0.leave (v := some (.int (1 : Int32))) (fun h => by rw [Bd.returns] at h; cases h)
      refine ⟨_, _, pre17 _ ?_, hrun, hended, _, _, rfl, ?_, ⟨_, rfl⟩, hW, hsame.mono (by decide) (by decide)⟩
      · exact retN X0 hx (t := .boolean) Bd.returns (by simp) (hb hby d1_38) hr
      · show Q1 Z p0 h0 n0 _ s₁.heap _
        rw [e0]
        refine ⟨?_, N0, rfl⟩
        unfold own_non; rw [if_neg hc3, if_neg hc9]
theorem own_and (x : Int32) : (x &&& (65534 : Int32)) = (65534 : Int32) ↔ 65534 ≤ x.toInt % 65536 := by
  have h1 : x.toInt = x.toBitVec.toInt := rfl
  rw [h1, BitVec.toInt_eq_toNat_cond, ← Int32.toBitVec_inj, ← BitVec.toNat_inj, Int32.toBitVec_and, BitVec.toNat_and]
  have h2 : (65534 : Int32).toBitVec.toNat = 65534 := by decide
  rw [h2]
  have h3 : (x.toBitVec.toNat &&& 65534) / 2 = x.toBitVec.toNat / 2 % 32768 := by
    rw [Nat.and_div_two]; exact Nat.and_two_pow_sub_one_eq_mod _ 15
  have h4 : (x.toBitVec.toNat &&& 65534) % 2 = 0 := by
    have := Nat.and_mod_two_pow (a := x.toBitVec.toNat) (b := 65534) (n := 1)
    simpa using this
  split <;> omega
theorem own_plain (p0 p1 c a1 a2 a3 a4 : Int32) (hc : c = ((((p0 &&& (2147483647 : Int32)) % (17 : Int32)) * (65536 : Int32)) + (p1 &&& (65535 : Int32)))) (h1 : a1 = (if (p1 &&& (65535 : Int32)) = (65534 : Int32) then (1 : Int32) else (if (p1 &&& (65535 : Int32)) = (65535 : Int32) then (1 : Int32) else (0 : Int32)))) (h2 : a2 = (if ((p0 &&& (2147483647 : Int32)) % (17 : Int32)) = (0 : Int32) then (if (p1 &&& (65535 : Int32)) < (64976 : Int32) then (0 : Int32) else (if (65007 : Int32) < (p1 &&& (65535 : Int32)) then (0 : Int32) else (1 : Int32))) else (0 : Int32))) (h3 : a3 = (if ((p0 &&& (2147483647 : Int32)) % (17 : Int32)) = (0 : Int32) then (if (p1 &&& (65535 : Int32)) < (55296 : Int32) then (0 : Int32) else (if (57343 : Int32) < (p1 &&& (65535 : Int32)) then (0 : Int32) else (1 : Int32))) else (0 : Int32))) (h4 : a4 = (if a1 = (0 : Int32) then (if a2 = (0 : Int32) then (if a3 = (0 : Int32) then (0 : Int32) else (1 : Int32)) else (1 : Int32)) else (1 : Int32))) : own_non c = a4 := by
  have e1 := c_mask p0 2147483647 31 (by decide) (by decide)
  have e2 := (c_irem (p0 &&& (2147483647 : Int32)) 17 17 (by decide)).1
  have e3 := c_mask p1 65535 16 (by decide) (by decide)
  have q1 : 0 ≤ ((p0 &&& (2147483647 : Int32)) % (17 : Int32)).toInt ∧ ((p0 &&& (2147483647 : Int32)) % (17 : Int32)).toInt < 17 := by omega
  have q2 : 0 ≤ (p1 &&& (65535 : Int32)).toInt ∧ (p1 &&& (65535 : Int32)).toInt < 65536 := by omega
  clear e1 e2 e3
  generalize ((p0 &&& (2147483647 : Int32)) % (17 : Int32)) = P at *
  generalize (p1 &&& (65535 : Int32)) = l at *
  have m1 := c_imul P 65536
  have m2 := c_iadd (P * 65536) l
  have m3 := rng32 (P * 65536)
  have m4 := rng32 (P * 65536 + l)
  have o : (65536 : Int32).toInt = 65536 := rfl
  rw [o] at m1
  have hcv : c.toInt = P.toInt * 65536 + l.toInt := by rw [hc]; omega
  have f1 : l = (65534 : Int32) ↔ l.toInt = 65534 := by rw [← Int32.toInt_inj]; exact Iff.rfl
  have f2 : l = (65535 : Int32) ↔ l.toInt = 65535 := by rw [← Int32.toInt_inj]; exact Iff.rfl
  have f3 : P = (0 : Int32) ↔ P.toInt = 0 := by rw [← Int32.toInt_inj]; exact Iff.rfl
  have f4 : l < (64976 : Int32) ↔ l.toInt < 64976 := Int32.lt_iff_toInt_lt
  have f5 : (65007 : Int32) < l ↔ 65007 < l.toInt := Int32.lt_iff_toInt_lt
  have f6 : l < (55296 : Int32) ↔ l.toInt < 55296 := Int32.lt_iff_toInt_lt
  have f7 : (57343 : Int32) < l ↔ 57343 < l.toInt := Int32.lt_iff_toInt_lt
  have g4 : c < (64976 : Int32) ↔ c.toInt < 64976 := Int32.lt_iff_toInt_lt
  have g5 : (65007 : Int32) < c ↔ 65007 < c.toInt := Int32.lt_iff_toInt_lt
  have g6 : c < (55296 : Int32) ↔ c.toInt < 55296 := Int32.lt_iff_toInt_lt
  have g7 : (57343 : Int32) < c ↔ 57343 < c.toInt := Int32.lt_iff_toInt_lt
  have g8 := own_and c
  have k1 : a1 = 0 ↔ ¬ 65534 ≤ l.toInt := by
    rw [h1]; simp only [f1, f2]
    split
    · simp; omega
    · split
      · simp; omega
      · simp; omega
  have k2 : a2 = 0 ↔ ¬ (P.toInt = 0 ∧ 64976 ≤ l.toInt ∧ l.toInt ≤ 65007) := by
    rw [h2]; simp only [f3, f4, f5]
    split
    · split
      · simp; omega
      · split
        · simp; omega
        · simp; omega
    · simp; omega
  have k3 : a3 = 0 ↔ ¬ (P.toInt = 0 ∧ 55296 ≤ l.toInt ∧ l.toInt ≤ 57343) := by
    rw [h3]; simp only [f3, f6, f7]
    split
    · split
      · simp; omega
      · split
        · simp; omega
        · simp; omega
    · simp; omega
  rw [h4]
  unfold own_non
  simp only [k1, k2, k3, g4, g5, g6, g7, g8]
  clear h1 h2 h3 h4 hc f1 f2 f3 f4 f5 f6 f7 g4 g5 g6 g7 g8 k1 k2 k3 m1 m2 m3 m4
  repeat' split
  all_goals first | rfl | (exfalso; omega)
theorem pd_0 : parseMethodDescriptor "(I)Z" = some ⟨[.int], some .boolean⟩ := by decide +kernel
theorem pn_0 : plainName "com/example/arkivsmed/arkivsmed/xml/XmlCharactersIsNoncharacterOrSurrogatePinLaw" = true := by first | (simp [plainName, overriddenIn]; done) | decide +kernel
theorem ef_0 (m : MethodId) (x0 : Int32) (x1 : Int32) : entryFrame m #[(.int x0), (.int x1)] maxLocals = mkF m 0 #[.val (.int x0), .val (.int x1), .unset, .unset, .unset, .unset, .unset, .unset, .unset] [] := by first | (simp [entryFrame, mkF, argsToLocals, Value.category, maxLocals]; done) | rfl
def Q0 (Z : State) (p0 : Int32) (p1 : Int32) (h0 : Heap) (n0 : Nat) (v : Option Value) (h : Heap) (L : List Loc) : Prop := v = some (.int (1 : Int32)) ∧ Fr n0 L
set_option maxRecDepth 65536 in
set_option maxHeartbeats 40000000 in
theorem rm0 (l : Launch) (Z : State) (a0 : Array Value) (hw : ∀ d ∈ tables_1, d.before a0 Z = true) (ws : List Jvm.Cond) (p0 : Int32) (p1 : Int32) (h0 : Heap) (n0 : Nat) (Z0 : n0 ≤ h0.size) :
    MetFree l x (head1 (Jvm.Cond.code x code maxLocals ret :: ws) room_1) (fun a U => a = #[(.int p0), (.int p1)] ∧ Z.Warmed39 U.vm ∧ U.heap = h0) (fun _ _ _ _ _ => True) (fun _ U o U' => ∃ v L, o = .returned v ∧ Q0 Z p0 p1 h0 n0 v U'.heap L ∧ FrameEnd U o U' L room_1.cells room_1.slots) := by
  refine MetFree.of_bodySF (plainFor_of_name pn_0) hisR ?_
  intro p e s m args below meth c s₁ Bd hml0 hP hK
  obtain ⟨rfl, hZ, hh⟩ := hP
  have hx := Bd.exec
  have hby := Bd.bytes
  have hml : c.maxLocals = 9 := hml0
  have hown : s.vm.findClass "com/example/arkivsmed/arkivsmed/xml/XmlCharactersIsNoncharacterOrSurrogatePinLaw" = some m.cls := findClass_of_methodNamed Bd.named
  have hnm := (name_of_methodNamed Bd.named Bd.method).1
  have X0 : Stand p l e room_1 s m #[(.int p0), (.int p1)] below meth c s₁ [] 0 0 := Stand.of_body Bd
  have e0 : s₁.heap = h0 := by rw [← hh, Bd.state]; rfl
  have N0 := Fr.nil n0
  have pre0 : ∀ t, Steps p.tables e below (s₁.setTop (mkF m 0 #[.val (.int p0), .val (.int p1), .unset, .unset, .unset, .unset, .unset, .unset, .unset] [])) t → Steps p.tables e below (s₁.setTop (entryFrame m #[(.int p0), (.int p1)] maxLocals)) t := fun t k => castTop (ef_0 m p0 p1) k
  have pre18 : ∀ t, Steps p.tables e below (s₁.setTop (mkF m 24 #[.val (.int p0), .val (.int p1), .val (.int ((p0 &&& (2147483647 : Int32)) % (17 : Int32))), .val (.int (p1 &&& (65535 : Int32))), .val (.int ((((p0 &&& (2147483647 : Int32)) % (17 : Int32)) * (65536 : Int32)) + (p1 &&& (65535 : Int32)))), .unset, .unset, .unset, .unset] [(.int (65534 : Int32)), (.int (p1 &&& (65535 : Int32)))])) t → Steps p.tables e below (s₁.setTop (entryFrame m #[(.int p0), (.int p1)] maxLocals)) t := by
    intro t k
    refine pre0 t ?_
    show Steps p.tables e below (s₁.setTop (mkF m 0 #[.val (.int p0), .val (.int p1), .unset, .unset, .unset, .unset, .unset, .unset, .unset] [])) _
    refine XS.iloadN X0.here hx rfl (hb hby at_0) rfl ?_
    show Steps p.tables e below (s₁.setTop (mkF m 1 #[.val (.int p0), .val (.int p1), .unset, .unset, .unset, .unset, .unset, .unset, .unset] [(.int p0)])) _
    refine X0.ldcInt hx hown (mvT hZ (hw _ (List.mem_of_getElem? (i := 0) rfl))) (g := (mkF m 1 #[.val (.int p0), .val (.int p1), .unset, .unset, .unset, .unset, .unset, .unset, .unset] [(.int p0)])) rfl (hb hby at_1) _ ?_
    show Steps p.tables e below (s₁.setTop (mkF m 3 #[.val (.int p0), .val (.int p1), .unset, .unset, .unset, .unset, .unset, .unset, .unset] [(.int (2147483647 : Int32)), (.int p0)])) _
    refine XS.iand X0.here hx rfl (hb hby at_3) rfl ?_
    show Steps p.tables e below (s₁.setTop (mkF m 4 #[.val (.int p0), .val (.int p1), .unset, .unset, .unset, .unset, .unset, .unset, .unset] [(.int (p0 &&& (2147483647 : Int32)))])) _
    refine XS.bipush X0.here hx rfl (hb hby at_4) ?_
    show Steps p.tables e below (s₁.setTop (mkF m 6 #[.val (.int p0), .val (.int p1), .unset, .unset, .unset, .unset, .unset, .unset, .unset] [(.int (17 : Int32)), (.int (p0 &&& (2147483647 : Int32)))])) _
    refine iremM X0 hx rfl (hb hby at_6) rfl (by decide) ?_
    show Steps p.tables e below (s₁.setTop (mkF m 7 #[.val (.int p0), .val (.int p1), .unset, .unset, .unset, .unset, .unset, .unset, .unset] [(.int ((p0 &&& (2147483647 : Int32)) % (17 : Int32)))])) _
    refine XS.istoreN X0.here hx rfl (hb hby at_7) rfl (l' := #[.val (.int p0), .val (.int p1), .val (.int ((p0 &&& (2147483647 : Int32)) % (17 : Int32))), .unset, .unset, .unset, .unset, .unset, .unset]) rfl ?_
    show Steps p.tables e below (s₁.setTop (mkF m 8 #[.val (.int p0), .val (.int p1), .val (.int ((p0 &&& (2147483647 : Int32)) % (17 : Int32))), .unset, .unset, .unset, .unset, .unset, .unset] [])) _
    refine XS.iloadN X0.here hx rfl (hb hby at_8) rfl ?_
    show Steps p.tables e below (s₁.setTop (mkF m 9 #[.val (.int p0), .val (.int p1), .val (.int ((p0 &&& (2147483647 : Int32)) % (17 : Int32))), .unset, .unset, .unset, .unset, .unset, .unset] [(.int p1)])) _
    refine X0.ldcInt hx hown (mvT hZ (hw _ (List.mem_of_getElem? (i := 1) rfl))) (g := (mkF m 9 #[.val (.int p0), .val (.int p1), .val (.int ((p0 &&& (2147483647 : Int32)) % (17 : Int32))), .unset, .unset, .unset, .unset, .unset, .unset] [(.int p1)])) rfl (hb hby at_9) _ ?_
    show Steps p.tables e below (s₁.setTop (mkF m 11 #[.val (.int p0), .val (.int p1), .val (.int ((p0 &&& (2147483647 : Int32)) % (17 : Int32))), .unset, .unset, .unset, .unset, .unset, .unset] [(.int (65535 : Int32)), (.int p1)])) _
    refine XS.iand X0.here hx rfl (hb hby at_11) rfl ?_
    show Steps p.tables e below (s₁.setTop (mkF m 12 #[.val (.int p0), .val (.int p1), .val (.int ((p0 &&& (2147483647 : Int32)) % (17 : Int32))), .unset, .unset, .unset, .unset, .unset, .unset] [(.int (p1 &&& (65535 : Int32)))])) _
    refine XS.istoreN X0.here hx rfl (hb hby at_12) rfl (l' := #[.val (.int p0), .val (.int p1), .val (.int ((p0 &&& (2147483647 : Int32)) % (17 : Int32))), .val (.int (p1 &&& (65535 : Int32))), .unset, .unset, .unset, .unset, .unset]) rfl ?_
    show Steps p.tables e below (s₁.setTop (mkF m 13 #[.val (.int p0), .val (.int p1), .val (.int ((p0 &&& (2147483647 : Int32)) % (17 : Int32))), .val (.int (p1 &&& (65535 : Int32))), .unset, .unset, .unset, .unset, .unset] [])) _
    refine XS.iloadN X0.here hx rfl (hb hby at_13) rfl ?_
    show Steps p.tables e below (s₁.setTop (mkF m 14 #[.val (.int p0), .val (.int p1), .val (.int ((p0 &&& (2147483647 : Int32)) % (17 : Int32))), .val (.int (p1 &&& (65535 : Int32))), .unset, .unset, .unset, .unset, .unset] [(.int ((p0 &&& (2147483647 : Int32)) % (17 : Int32)))])) _
    refine X0.ldcInt hx hown (mvT hZ (hw _ (List.mem_of_getElem? (i := 2) rfl))) (g := (mkF m 14 #[.val (.int p0), .val (.int p1), .val (.int ((p0 &&& (2147483647 : Int32)) % (17 : Int32))), .val (.int (p1 &&& (65535 : Int32))), .unset, .unset, .unset, .unset, .unset] [(.int ((p0 &&& (2147483647 : Int32)) % (17 : Int32)))])) rfl (hb hby at_14) _ ?_
    show Steps p.tables e below (s₁.setTop (mkF m 16 #[.val (.int p0), .val (.int p1), .val (.int ((p0 &&& (2147483647 : Int32)) % (17 : Int32))), .val (.int (p1 &&& (65535 : Int32))), .unset, .unset, .unset, .unset, .unset] [(.int (65536 : Int32)), (.int ((p0 &&& (2147483647 : Int32)) % (17 : Int32)))])) _
    refine XS.imul X0.here hx rfl (hb hby at_16) rfl ?_
    show Steps p.tables e below (s₁.setTop (mkF m 17 #[.val (.int p0), .val (.int p1), .val (.int ((p0 &&& (2147483647 : Int32)) % (17 : Int32))), .val (.int (p1 &&& (65535 : Int32))), .unset, .unset, .unset, .unset, .unset] [(.int (((p0 &&& (2147483647 : Int32)) % (17 : Int32)) * (65536 : Int32)))])) _
    refine XS.iloadN X0.here hx rfl (hb hby at_17) rfl ?_
    show Steps p.tables e below (s₁.setTop (mkF m 18 #[.val (.int p0), .val (.int p1), .val (.int ((p0 &&& (2147483647 : Int32)) % (17 : Int32))), .val (.int (p1 &&& (65535 : Int32))), .unset, .unset, .unset, .unset, .unset] [(.int (p1 &&& (65535 : Int32))), (.int (((p0 &&& (2147483647 : Int32)) % (17 : Int32)) * (65536 : Int32)))])) _
    refine XS.iadd X0.here hx rfl (hb hby at_18) rfl ?_
    show Steps p.tables e below (s₁.setTop (mkF m 19 #[.val (.int p0), .val (.int p1), .val (.int ((p0 &&& (2147483647 : Int32)) % (17 : Int32))), .val (.int (p1 &&& (65535 : Int32))), .unset, .unset, .unset, .unset, .unset] [(.int ((((p0 &&& (2147483647 : Int32)) % (17 : Int32)) * (65536 : Int32)) + (p1 &&& (65535 : Int32))))])) _
    refine XS.istore X0.here hx rfl (hb hby at_19) rfl (l' := #[.val (.int p0), .val (.int p1), .val (.int ((p0 &&& (2147483647 : Int32)) % (17 : Int32))), .val (.int (p1 &&& (65535 : Int32))), .val (.int ((((p0 &&& (2147483647 : Int32)) % (17 : Int32)) * (65536 : Int32)) + (p1 &&& (65535 : Int32)))), .unset, .unset, .unset, .unset]) rfl ?_
    show Steps p.tables e below (s₁.setTop (mkF m 21 #[.val (.int p0), .val (.int p1), .val (.int ((p0 &&& (2147483647 : Int32)) % (17 : Int32))), .val (.int (p1 &&& (65535 : Int32))), .val (.int ((((p0 &&& (2147483647 : Int32)) % (17 : Int32)) * (65536 : Int32)) + (p1 &&& (65535 : Int32)))), .unset, .unset, .unset, .unset] [])) _
    refine XS.iloadN X0.here hx rfl (hb hby at_21) rfl ?_
    show Steps p.tables e below (s₁.setTop (mkF m 22 #[.val (.int p0), .val (.int p1), .val (.int ((p0 &&& (2147483647 : Int32)) % (17 : Int32))), .val (.int (p1 &&& (65535 : Int32))), .val (.int ((((p0 &&& (2147483647 : Int32)) % (17 : Int32)) * (65536 : Int32)) + (p1 &&& (65535 : Int32)))), .unset, .unset, .unset, .unset] [(.int (p1 &&& (65535 : Int32)))])) _
    refine X0.ldcInt hx hown (mvT hZ (hw _ (List.mem_of_getElem? (i := 3) rfl))) (g := (mkF m 22 #[.val (.int p0), .val (.int p1), .val (.int ((p0 &&& (2147483647 : Int32)) % (17 : Int32))), .val (.int (p1 &&& (65535 : Int32))), .val (.int ((((p0 &&& (2147483647 : Int32)) % (17 : Int32)) * (65536 : Int32)) + (p1 &&& (65535 : Int32)))), .unset, .unset, .unset, .unset] [(.int (p1 &&& (65535 : Int32)))])) rfl (hb hby at_22) _ ?_
    exact k
  obtain ⟨x24, hx24⟩ : ∃ z : Int32, z = ((((p0 &&& (2147483647 : Int32)) % (17 : Int32)) * (65536 : Int32)) + (p1 &&& (65535 : Int32))) := ⟨_, rfl⟩
  rw [← hx24] at pre18
  obtain ⟨v38, hv38⟩ : ∃ z : Int32, z = (if (p1 &&& (65535 : Int32)) = (65534 : Int32) then (1 : Int32) else (if (p1 &&& (65535 : Int32)) = (65535 : Int32) then (1 : Int32) else (0 : Int32))) := ⟨_, rfl⟩
  have pre19 : ∀ t, Steps p.tables e below (s₁.setTop (mkF m 38 #[.val (.int p0), .val (.int p1), .val (.int ((p0 &&& (2147483647 : Int32)) % (17 : Int32))), .val (.int (p1 &&& (65535 : Int32))), .val (.int x24), .unset, .unset, .unset, .unset] [(.int v38)])) t → Steps p.tables e below (s₁.setTop (entryFrame m #[(.int p0), (.int p1)] maxLocals)) t := by
    intro t k
    refine pre18 t ?_
    by_cases j_24 : (p1 &&& (65535 : Int32)) = (65534 : Int32)
    · rw [hv38, if_pos j_24] at k
      show Steps p.tables e below (s₁.setTop (mkF m 24 #[.val (.int p0), .val (.int p1), .val (.int ((p0 &&& (2147483647 : Int32)) % (17 : Int32))), .val (.int (p1 &&& (65535 : Int32))), .val (.int x24), .unset, .unset, .unset, .unset] [(.int (65534 : Int32)), (.int (p1 &&& (65535 : Int32)))])) _
      refine XS.icmpYes X0.here hx rfl (pc0 := 24) (pc' := 33) rfl (hb hby at_24) rfl (teq j_24).1 (by decide) (by decide) ?_
      show Steps p.tables e below (s₁.setTop (mkF m 33 #[.val (.int p0), .val (.int p1), .val (.int ((p0 &&& (2147483647 : Int32)) % (17 : Int32))), .val (.int (p1 &&& (65535 : Int32))), .val (.int x24), .unset, .unset, .unset, .unset] [])) _
      refine XS.iconst X0.here hx rfl (hb hby at_33) ?_
      show Steps p.tables e below (s₁.setTop (mkF m 34 #[.val (.int p0), .val (.int p1), .val (.int ((p0 &&& (2147483647 : Int32)) % (17 : Int32))), .val (.int (p1 &&& (65535 : Int32))), .val (.int x24), .unset, .unset, .unset, .unset] [(.int (1 : Int32))])) _
      refine XS.goto X0.here hx rfl (pc0 := 34) (pc' := 38) rfl (hb hby at_34) (by decide) (by decide) ?_
      exact k
    · by_cases j_30 : (p1 &&& (65535 : Int32)) = (65535 : Int32)
      · rw [hv38, if_neg j_24, if_pos j_30] at k
        show Steps p.tables e below (s₁.setTop (mkF m 24 #[.val (.int p0), .val (.int p1), .val (.int ((p0 &&& (2147483647 : Int32)) % (17 : Int32))), .val (.int (p1 &&& (65535 : Int32))), .val (.int x24), .unset, .unset, .unset, .unset] [(.int (65534 : Int32)), (.int (p1 &&& (65535 : Int32)))])) _
        refine XS.icmpNo X0.here hx rfl (hb hby at_24) rfl (feq j_24).1 ?_
        show Steps p.tables e below (s₁.setTop (mkF m 27 #[.val (.int p0), .val (.int p1), .val (.int ((p0 &&& (2147483647 : Int32)) % (17 : Int32))), .val (.int (p1 &&& (65535 : Int32))), .val (.int x24), .unset, .unset, .unset, .unset] [])) _
        refine XS.iloadN X0.here hx rfl (hb hby at_27) rfl ?_
        show Steps p.tables e below (s₁.setTop (mkF m 28 #[.val (.int p0), .val (.int p1), .val (.int ((p0 &&& (2147483647 : Int32)) % (17 : Int32))), .val (.int (p1 &&& (65535 : Int32))), .val (.int x24), .unset, .unset, .unset, .unset] [(.int (p1 &&& (65535 : Int32)))])) _
        refine X0.ldcInt hx hown (mvT hZ (hw _ (List.mem_of_getElem? (i := 1) rfl))) (g := (mkF m 28 #[.val (.int p0), .val (.int p1), .val (.int ((p0 &&& (2147483647 : Int32)) % (17 : Int32))), .val (.int (p1 &&& (65535 : Int32))), .val (.int x24), .unset, .unset, .unset, .unset] [(.int (p1 &&& (65535 : Int32)))])) rfl (hb hby at_28) _ ?_
        show Steps p.tables e below (s₁.setTop (mkF m 30 #[.val (.int p0), .val (.int p1), .val (.int ((p0 &&& (2147483647 : Int32)) % (17 : Int32))), .val (.int (p1 &&& (65535 : Int32))), .val (.int x24), .unset, .unset, .unset, .unset] [(.int (65535 : Int32)), (.int (p1 &&& (65535 : Int32)))])) _
        refine XS.icmpNo X0.here hx rfl (hb hby at_30) rfl (teq j_30).2 ?_
        show Steps p.tables e below (s₁.setTop (mkF m 33 #[.val (.int p0), .val (.int p1), .val (.int ((p0 &&& (2147483647 : Int32)) % (17 : Int32))), .val (.int (p1 &&& (65535 : Int32))), .val (.int x24), .unset, .unset, .unset, .unset] [])) _
        refine XS.iconst X0.here hx rfl (hb hby at_33) ?_
        show Steps p.tables e below (s₁.setTop (mkF m 34 #[.val (.int p0), .val (.int p1), .val (.int ((p0 &&& (2147483647 : Int32)) % (17 : Int32))), .val (.int (p1 &&& (65535 : Int32))), .val (.int x24), .unset, .unset, .unset, .unset] [(.int (1 : Int32))])) _
        refine XS.goto X0.here hx rfl (pc0 := 34) (pc' := 38) rfl (hb hby at_34) (by decide) (by decide) ?_
        exact k
      · rw [hv38, if_neg j_24, if_neg j_30] at k
        show Steps p.tables e below (s₁.setTop (mkF m 24 #[.val (.int p0), .val (.int p1), .val (.int ((p0 &&& (2147483647 : Int32)) % (17 : Int32))), .val (.int (p1 &&& (65535 : Int32))), .val (.int x24), .unset, .unset, .unset, .unset] [(.int (65534 : Int32)), (.int (p1 &&& (65535 : Int32)))])) _
        refine XS.icmpNo X0.here hx rfl (hb hby at_24) rfl (feq j_24).1 ?_
        show Steps p.tables e below (s₁.setTop (mkF m 27 #[.val (.int p0), .val (.int p1), .val (.int ((p0 &&& (2147483647 : Int32)) % (17 : Int32))), .val (.int (p1 &&& (65535 : Int32))), .val (.int x24), .unset, .unset, .unset, .unset] [])) _
        refine XS.iloadN X0.here hx rfl (hb hby at_27) rfl ?_
        show Steps p.tables e below (s₁.setTop (mkF m 28 #[.val (.int p0), .val (.int p1), .val (.int ((p0 &&& (2147483647 : Int32)) % (17 : Int32))), .val (.int (p1 &&& (65535 : Int32))), .val (.int x24), .unset, .unset, .unset, .unset] [(.int (p1 &&& (65535 : Int32)))])) _
        refine X0.ldcInt hx hown (mvT hZ (hw _ (List.mem_of_getElem? (i := 1) rfl))) (g := (mkF m 28 #[.val (.int p0), .val (.int p1), .val (.int ((p0 &&& (2147483647 : Int32)) % (17 : Int32))), .val (.int (p1 &&& (65535 : Int32))), .val (.int x24), .unset, .unset, .unset, .unset] [(.int (p1 &&& (65535 : Int32)))])) rfl (hb hby at_28) _ ?_
        show Steps p.tables e below (s₁.setTop (mkF m 30 #[.val (.int p0), .val (.int p1), .val (.int ((p0 &&& (2147483647 : Int32)) % (17 : Int32))), .val (.int (p1 &&& (65535 : Int32))), .val (.int x24), .unset, .unset, .unset, .unset] [(.int (65535 : Int32)), (.int (p1 &&& (65535 : Int32)))])) _
        refine XS.icmpYes X0.here hx rfl (pc0 := 30) (pc' := 37) rfl (hb hby at_30) rfl (feq j_30).2 (by decide) (by decide) ?_
        show Steps p.tables e below (s₁.setTop (mkF m 37 #[.val (.int p0), .val (.int p1), .val (.int ((p0 &&& (2147483647 : Int32)) % (17 : Int32))), .val (.int (p1 &&& (65535 : Int32))), .val (.int x24), .unset, .unset, .unset, .unset] [])) _
        refine XS.iconst X0.here hx rfl (hb hby at_37) ?_
        exact k
  have pre20 : ∀ t, Steps p.tables e below (s₁.setTop (mkF m 41 #[.val (.int p0), .val (.int p1), .val (.int ((p0 &&& (2147483647 : Int32)) % (17 : Int32))), .val (.int (p1 &&& (65535 : Int32))), .val (.int x24), .val (.int v38), .unset, .unset, .unset] [(.int ((p0 &&& (2147483647 : Int32)) % (17 : Int32)))])) t → Steps p.tables e below (s₁.setTop (entryFrame m #[(.int p0), (.int p1)] maxLocals)) t := by
    intro t k
    refine pre19 t ?_
    show Steps p.tables e below (s₁.setTop (mkF m 38 #[.val (.int p0), .val (.int p1), .val (.int ((p0 &&& (2147483647 : Int32)) % (17 : Int32))), .val (.int (p1 &&& (65535 : Int32))), .val (.int x24), .unset, .unset, .unset, .unset] [(.int v38)])) _
    refine XS.istore X0.here hx rfl (hb hby at_38) rfl (l' := #[.val (.int p0), .val (.int p1), .val (.int ((p0 &&& (2147483647 : Int32)) % (17 : Int32))), .val (.int (p1 &&& (65535 : Int32))), .val (.int x24), .val (.int v38), .unset, .unset, .unset]) rfl ?_
    show Steps p.tables e below (s₁.setTop (mkF m 40 #[.val (.int p0), .val (.int p1), .val (.int ((p0 &&& (2147483647 : Int32)) % (17 : Int32))), .val (.int (p1 &&& (65535 : Int32))), .val (.int x24), .val (.int v38), .unset, .unset, .unset] [])) _
    refine XS.iloadN X0.here hx rfl (hb hby at_40) rfl ?_
    exact k
  obtain ⟨v61, hv61⟩ : ∃ z : Int32, z = (if ((p0 &&& (2147483647 : Int32)) % (17 : Int32)) = (0 : Int32) then (if (p1 &&& (65535 : Int32)) < (64976 : Int32) then (0 : Int32) else (if (65007 : Int32) < (p1 &&& (65535 : Int32)) then (0 : Int32) else (1 : Int32))) else (0 : Int32)) := ⟨_, rfl⟩
  have pre21 : ∀ t, Steps p.tables e below (s₁.setTop (mkF m 61 #[.val (.int p0), .val (.int p1), .val (.int ((p0 &&& (2147483647 : Int32)) % (17 : Int32))), .val (.int (p1 &&& (65535 : Int32))), .val (.int x24), .val (.int v38), .unset, .unset, .unset] [(.int v61)])) t → Steps p.tables e below (s₁.setTop (entryFrame m #[(.int p0), (.int p1)] maxLocals)) t := by
    intro t k
    refine pre20 t ?_
    by_cases j_41 : ((p0 &&& (2147483647 : Int32)) % (17 : Int32)) = (0 : Int32)
    · by_cases j_47 : (p1 &&& (65535 : Int32)) < (64976 : Int32)
      · rw [hv61, if_pos j_41, if_pos j_47] at k
        show Steps p.tables e below (s₁.setTop (mkF m 41 #[.val (.int p0), .val (.int p1), .val (.int ((p0 &&& (2147483647 : Int32)) % (17 : Int32))), .val (.int (p1 &&& (65535 : Int32))), .val (.int x24), .val (.int v38), .unset, .unset, .unset] [(.int ((p0 &&& (2147483647 : Int32)) % (17 : Int32)))])) _
        refine XS.ifNo X0.here hx rfl (hb hby at_41) rfl ((if0 _ _).trans (teq j_41).2) ?_
        show Steps p.tables e below (s₁.setTop (mkF m 44 #[.val (.int p0), .val (.int p1), .val (.int ((p0 &&& (2147483647 : Int32)) % (17 : Int32))), .val (.int (p1 &&& (65535 : Int32))), .val (.int x24), .val (.int v38), .unset, .unset, .unset] [])) _
        refine XS.iloadN X0.here hx rfl (hb hby at_44) rfl ?_
        show Steps p.tables e below (s₁.setTop (mkF m 45 #[.val (.int p0), .val (.int p1), .val (.int ((p0 &&& (2147483647 : Int32)) % (17 : Int32))), .val (.int (p1 &&& (65535 : Int32))), .val (.int x24), .val (.int v38), .unset, .unset, .unset] [(.int (p1 &&& (65535 : Int32)))])) _
        refine X0.ldcInt hx hown (mvT hZ (hw _ (List.mem_of_getElem? (i := 4) rfl))) (g := (mkF m 45 #[.val (.int p0), .val (.int p1), .val (.int ((p0 &&& (2147483647 : Int32)) % (17 : Int32))), .val (.int (p1 &&& (65535 : Int32))), .val (.int x24), .val (.int v38), .unset, .unset, .unset] [(.int (p1 &&& (65535 : Int32)))])) rfl (hb hby at_45) _ ?_
        show Steps p.tables e below (s₁.setTop (mkF m 47 #[.val (.int p0), .val (.int p1), .val (.int ((p0 &&& (2147483647 : Int32)) % (17 : Int32))), .val (.int (p1 &&& (65535 : Int32))), .val (.int x24), .val (.int v38), .unset, .unset, .unset] [(.int (64976 : Int32)), (.int (p1 &&& (65535 : Int32)))])) _
        refine XS.icmpYes X0.here hx rfl (pc0 := 47) (pc' := 60) rfl (hb hby at_47) rfl (tlt j_47).1 (by decide) (by decide) ?_
        show Steps p.tables e below (s₁.setTop (mkF m 60 #[.val (.int p0), .val (.int p1), .val (.int ((p0 &&& (2147483647 : Int32)) % (17 : Int32))), .val (.int (p1 &&& (65535 : Int32))), .val (.int x24), .val (.int v38), .unset, .unset, .unset] [])) _
        refine XS.iconst X0.here hx rfl (hb hby at_60) ?_
        exact k
      · by_cases j_53 : (65007 : Int32) < (p1 &&& (65535 : Int32))
        · rw [hv61, if_pos j_41, if_neg j_47, if_pos j_53] at k
          show Steps p.tables e below (s₁.setTop (mkF m 41 #[.val (.int p0), .val (.int p1), .val (.int ((p0 &&& (2147483647 : Int32)) % (17 : Int32))), .val (.int (p1 &&& (65535 : Int32))), .val (.int x24), .val (.int v38), .unset, .unset, .unset] [(.int ((p0 &&& (2147483647 : Int32)) % (17 : Int32)))])) _
          refine XS.ifNo X0.here hx rfl (hb hby at_41) rfl ((if0 _ _).trans (teq j_41).2) ?_
          show Steps p.tables e below (s₁.setTop (mkF m 44 #[.val (.int p0), .val (.int p1), .val (.int ((p0 &&& (2147483647 : Int32)) % (17 : Int32))), .val (.int (p1 &&& (65535 : Int32))), .val (.int x24), .val (.int v38), .unset, .unset, .unset] [])) _
          refine XS.iloadN X0.here hx rfl (hb hby at_44) rfl ?_
          show Steps p.tables e below (s₁.setTop (mkF m 45 #[.val (.int p0), .val (.int p1), .val (.int ((p0 &&& (2147483647 : Int32)) % (17 : Int32))), .val (.int (p1 &&& (65535 : Int32))), .val (.int x24), .val (.int v38), .unset, .unset, .unset] [(.int (p1 &&& (65535 : Int32)))])) _
          refine X0.ldcInt hx hown (mvT hZ (hw _ (List.mem_of_getElem? (i := 4) rfl))) (g := (mkF m 45 #[.val (.int p0), .val (.int p1), .val (.int ((p0 &&& (2147483647 : Int32)) % (17 : Int32))), .val (.int (p1 &&& (65535 : Int32))), .val (.int x24), .val (.int v38), .unset, .unset, .unset] [(.int (p1 &&& (65535 : Int32)))])) rfl (hb hby at_45) _ ?_
          show Steps p.tables e below (s₁.setTop (mkF m 47 #[.val (.int p0), .val (.int p1), .val (.int ((p0 &&& (2147483647 : Int32)) % (17 : Int32))), .val (.int (p1 &&& (65535 : Int32))), .val (.int x24), .val (.int v38), .unset, .unset, .unset] [(.int (64976 : Int32)), (.int (p1 &&& (65535 : Int32)))])) _
          refine XS.icmpNo X0.here hx rfl (hb hby at_47) rfl (flt j_47).1 ?_
          show Steps p.tables e below (s₁.setTop (mkF m 50 #[.val (.int p0), .val (.int p1), .val (.int ((p0 &&& (2147483647 : Int32)) % (17 : Int32))), .val (.int (p1 &&& (65535 : Int32))), .val (.int x24), .val (.int v38), .unset, .unset, .unset] [])) _
          refine XS.iloadN X0.here hx rfl (hb hby at_50) rfl ?_
          show Steps p.tables e below (s₁.setTop (mkF m 51 #[.val (.int p0), .val (.int p1), .val (.int ((p0 &&& (2147483647 : Int32)) % (17 : Int32))), .val (.int (p1 &&& (65535 : Int32))), .val (.int x24), .val (.int v38), .unset, .unset, .unset] [(.int (p1 &&& (65535 : Int32)))])) _
          refine X0.ldcInt hx hown (mvT hZ (hw _ (List.mem_of_getElem? (i := 15) rfl))) (g := (mkF m 51 #[.val (.int p0), .val (.int p1), .val (.int ((p0 &&& (2147483647 : Int32)) % (17 : Int32))), .val (.int (p1 &&& (65535 : Int32))), .val (.int x24), .val (.int v38), .unset, .unset, .unset] [(.int (p1 &&& (65535 : Int32)))])) rfl (hb hby at_51) _ ?_
          show Steps p.tables e below (s₁.setTop (mkF m 53 #[.val (.int p0), .val (.int p1), .val (.int ((p0 &&& (2147483647 : Int32)) % (17 : Int32))), .val (.int (p1 &&& (65535 : Int32))), .val (.int x24), .val (.int v38), .unset, .unset, .unset] [(.int (65007 : Int32)), (.int (p1 &&& (65535 : Int32)))])) _
          refine XS.icmpYes X0.here hx rfl (pc0 := 53) (pc' := 60) rfl (hb hby at_53) rfl (tlt j_53).2.2.1 (by decide) (by decide) ?_
          show Steps p.tables e below (s₁.setTop (mkF m 60 #[.val (.int p0), .val (.int p1), .val (.int ((p0 &&& (2147483647 : Int32)) % (17 : Int32))), .val (.int (p1 &&& (65535 : Int32))), .val (.int x24), .val (.int v38), .unset, .unset, .unset] [])) _
          refine XS.iconst X0.here hx rfl (hb hby at_60) ?_
          exact k
        · rw [hv61, if_pos j_41, if_neg j_47, if_neg j_53] at k
          show Steps p.tables e below (s₁.setTop (mkF m 41 #[.val (.int p0), .val (.int p1), .val (.int ((p0 &&& (2147483647 : Int32)) % (17 : Int32))), .val (.int (p1 &&& (65535 : Int32))), .val (.int x24), .val (.int v38), .unset, .unset, .unset] [(.int ((p0 &&& (2147483647 : Int32)) % (17 : Int32)))])) _
          refine XS.ifNo X0.here hx rfl (hb hby at_41) rfl ((if0 _ _).trans (teq j_41).2) ?_
          show Steps p.tables e below (s₁.setTop (mkF m 44 #[.val (.int p0), .val (.int p1), .val (.int ((p0 &&& (2147483647 : Int32)) % (17 : Int32))), .val (.int (p1 &&& (65535 : Int32))), .val (.int x24), .val (.int v38), .unset, .unset, .unset] [])) _
          refine XS.iloadN X0.here hx rfl (hb hby at_44) rfl ?_
          show Steps p.tables e below (s₁.setTop (mkF m 45 #[.val (.int p0), .val (.int p1), .val (.int ((p0 &&& (2147483647 : Int32)) % (17 : Int32))), .val (.int (p1 &&& (65535 : Int32))), .val (.int x24), .val (.int v38), .unset, .unset, .unset] [(.int (p1 &&& (65535 : Int32)))])) _
          refine X0.ldcInt hx hown (mvT hZ (hw _ (List.mem_of_getElem? (i := 4) rfl))) (g := (mkF m 45 #[.val (.int p0), .val (.int p1), .val (.int ((p0 &&& (2147483647 : Int32)) % (17 : Int32))), .val (.int (p1 &&& (65535 : Int32))), .val (.int x24), .val (.int v38), .unset, .unset, .unset] [(.int (p1 &&& (65535 : Int32)))])) rfl (hb hby at_45) _ ?_
          show Steps p.tables e below (s₁.setTop (mkF m 47 #[.val (.int p0), .val (.int p1), .val (.int ((p0 &&& (2147483647 : Int32)) % (17 : Int32))), .val (.int (p1 &&& (65535 : Int32))), .val (.int x24), .val (.int v38), .unset, .unset, .unset] [(.int (64976 : Int32)), (.int (p1 &&& (65535 : Int32)))])) _
          refine XS.icmpNo X0.here hx rfl (hb hby at_47) rfl (flt j_47).1 ?_
          show Steps p.tables e below (s₁.setTop (mkF m 50 #[.val (.int p0), .val (.int p1), .val (.int ((p0 &&& (2147483647 : Int32)) % (17 : Int32))), .val (.int (p1 &&& (65535 : Int32))), .val (.int x24), .val (.int v38), .unset, .unset, .unset] [])) _
          refine XS.iloadN X0.here hx rfl (hb hby at_50) rfl ?_
          show Steps p.tables e below (s₁.setTop (mkF m 51 #[.val (.int p0), .val (.int p1), .val (.int ((p0 &&& (2147483647 : Int32)) % (17 : Int32))), .val (.int (p1 &&& (65535 : Int32))), .val (.int x24), .val (.int v38), .unset, .unset, .unset] [(.int (p1 &&& (65535 : Int32)))])) _
          refine X0.ldcInt hx hown (mvT hZ (hw _ (List.mem_of_getElem? (i := 15) rfl))) (g := (mkF m 51 #[.val (.int p0), .val (.int p1), .val (.int ((p0 &&& (2147483647 : Int32)) % (17 : Int32))), .val (.int (p1 &&& (65535 : Int32))), .val (.int x24), .val (.int v38), .unset, .unset, .unset] [(.int (p1 &&& (65535 : Int32)))])) rfl (hb hby at_51) _ ?_
          show Steps p.tables e below (s₁.setTop (mkF m 53 #[.val (.int p0), .val (.int p1), .val (.int ((p0 &&& (2147483647 : Int32)) % (17 : Int32))), .val (.int (p1 &&& (65535 : Int32))), .val (.int x24), .val (.int v38), .unset, .unset, .unset] [(.int (65007 : Int32)), (.int (p1 &&& (65535 : Int32)))])) _
          refine XS.icmpNo X0.here hx rfl (hb hby at_53) rfl (flt j_53).2.2.1 ?_
          show Steps p.tables e below (s₁.setTop (mkF m 56 #[.val (.int p0), .val (.int p1), .val (.int ((p0 &&& (2147483647 : Int32)) % (17 : Int32))), .val (.int (p1 &&& (65535 : Int32))), .val (.int x24), .val (.int v38), .unset, .unset, .unset] [])) _
          refine XS.iconst X0.here hx rfl (hb hby at_56) ?_
          show Steps p.tables e below (s₁.setTop (mkF m 57 #[.val (.int p0), .val (.int p1), .val (.int ((p0 &&& (2147483647 : Int32)) % (17 : Int32))), .val (.int (p1 &&& (65535 : Int32))), .val (.int x24), .val (.int v38), .unset, .unset, .unset] [(.int (1 : Int32))])) _
          refine XS.goto X0.here hx rfl (pc0 := 57) (pc' := 61) rfl (hb hby at_57) (by decide) (by decide) ?_
          exact k
    · rw [hv61, if_neg j_41] at k
      show Steps p.tables e below (s₁.setTop (mkF m 41 #[.val (.int p0), .val (.int p1), .val (.int ((p0 &&& (2147483647 : Int32)) % (17 : Int32))), .val (.int (p1 &&& (65535 : Int32))), .val (.int x24), .val (.int v38), .unset, .unset, .unset] [(.int ((p0 &&& (2147483647 : Int32)) % (17 : Int32)))])) _
      refine XS.ifYes X0.here hx rfl (pc0 := 41) (pc' := 60) rfl (hb hby at_41) rfl ((if0 _ _).trans (feq j_41).2) (by decide) (by decide) ?_
      show Steps p.tables e below (s₁.setTop (mkF m 60 #[.val (.int p0), .val (.int p1), .val (.int ((p0 &&& (2147483647 : Int32)) % (17 : Int32))), .val (.int (p1 &&& (65535 : Int32))), .val (.int x24), .val (.int v38), .unset, .unset, .unset] [])) _
      refine XS.iconst X0.here hx rfl (hb hby at_60) ?_
      exact k
  have pre22 : ∀ t, Steps p.tables e below (s₁.setTop (mkF m 64 #[.val (.int p0), .val (.int p1), .val (.int ((p0 &&& (2147483647 : Int32)) % (17 : Int32))), .val (.int (p1 &&& (65535 : Int32))), .val (.int x24), .val (.int v38), .val (.int v61), .unset, .unset] [(.int ((p0 &&& (2147483647 : Int32)) % (17 : Int32)))])) t → Steps p.tables e below (s₁.setTop (entryFrame m #[(.int p0), (.int p1)] maxLocals)) t := by
    intro t k
    refine pre21 t ?_
    show Steps p.tables e below (s₁.setTop (mkF m 61 #[.val (.int p0), .val (.int p1), .val (.int ((p0 &&& (2147483647 : Int32)) % (17 : Int32))), .val (.int (p1 &&& (65535 : Int32))), .val (.int x24), .val (.int v38), .unset, .unset, .unset] [(.int v61)])) _
    refine XS.istore X0.here hx rfl (hb hby at_61) rfl (l' := #[.val (.int p0), .val (.int p1), .val (.int ((p0 &&& (2147483647 : Int32)) % (17 : Int32))), .val (.int (p1 &&& (65535 : Int32))), .val (.int x24), .val (.int v38), .val (.int v61), .unset, .unset]) rfl ?_
    show Steps p.tables e below (s₁.setTop (mkF m 63 #[.val (.int p0), .val (.int p1), .val (.int ((p0 &&& (2147483647 : Int32)) % (17 : Int32))), .val (.int (p1 &&& (65535 : Int32))), .val (.int x24), .val (.int v38), .val (.int v61), .unset, .unset] [])) _
    refine XS.iloadN X0.here hx rfl (hb hby at_63) rfl ?_
    exact k
  obtain ⟨v84, hv84⟩ : ∃ z : Int32, z = (if ((p0 &&& (2147483647 : Int32)) % (17 : Int32)) = (0 : Int32) then (if (p1 &&& (65535 : Int32)) < (55296 : Int32) then (0 : Int32) else (if (57343 : Int32) < (p1 &&& (65535 : Int32)) then (0 : Int32) else (1 : Int32))) else (0 : Int32)) := ⟨_, rfl⟩
  have pre23 : ∀ t, Steps p.tables e below (s₁.setTop (mkF m 84 #[.val (.int p0), .val (.int p1), .val (.int ((p0 &&& (2147483647 : Int32)) % (17 : Int32))), .val (.int (p1 &&& (65535 : Int32))), .val (.int x24), .val (.int v38), .val (.int v61), .unset, .unset] [(.int v84)])) t → Steps p.tables e below (s₁.setTop (entryFrame m #[(.int p0), (.int p1)] maxLocals)) t := by
    intro t k
    refine pre22 t ?_
    by_cases j_64 : ((p0 &&& (2147483647 : Int32)) % (17 : Int32)) = (0 : Int32)
    · by_cases j_70 : (p1 &&& (65535 : Int32)) < (55296 : Int32)
      · rw [hv84, if_pos j_64, if_pos j_70] at k
        show Steps p.tables e below (s₁.setTop (mkF m 64 #[.val (.int p0), .val (.int p1), .val (.int ((p0 &&& (2147483647 : Int32)) % (17 : Int32))), .val (.int (p1 &&& (65535 : Int32))), .val (.int x24), .val (.int v38), .val (.int v61), .unset, .unset] [(.int ((p0 &&& (2147483647 : Int32)) % (17 : Int32)))])) _
        refine XS.ifNo X0.here hx rfl (hb hby at_64) rfl ((if0 _ _).trans (teq j_64).2) ?_
        show Steps p.tables e below (s₁.setTop (mkF m 67 #[.val (.int p0), .val (.int p1), .val (.int ((p0 &&& (2147483647 : Int32)) % (17 : Int32))), .val (.int (p1 &&& (65535 : Int32))), .val (.int x24), .val (.int v38), .val (.int v61), .unset, .unset] [])) _
        refine XS.iloadN X0.here hx rfl (hb hby at_67) rfl ?_
        show Steps p.tables e below (s₁.setTop (mkF m 68 #[.val (.int p0), .val (.int p1), .val (.int ((p0 &&& (2147483647 : Int32)) % (17 : Int32))), .val (.int (p1 &&& (65535 : Int32))), .val (.int x24), .val (.int v38), .val (.int v61), .unset, .unset] [(.int (p1 &&& (65535 : Int32)))])) _
        refine X0.ldcInt hx hown (mvT hZ (hw _ (List.mem_of_getElem? (i := 5) rfl))) (g := (mkF m 68 #[.val (.int p0), .val (.int p1), .val (.int ((p0 &&& (2147483647 : Int32)) % (17 : Int32))), .val (.int (p1 &&& (65535 : Int32))), .val (.int x24), .val (.int v38), .val (.int v61), .unset, .unset] [(.int (p1 &&& (65535 : Int32)))])) rfl (hb hby at_68) _ ?_
        show Steps p.tables e below (s₁.setTop (mkF m 70 #[.val (.int p0), .val (.int p1), .val (.int ((p0 &&& (2147483647 : Int32)) % (17 : Int32))), .val (.int (p1 &&& (65535 : Int32))), .val (.int x24), .val (.int v38), .val (.int v61), .unset, .unset] [(.int (55296 : Int32)), (.int (p1 &&& (65535 : Int32)))])) _
        refine XS.icmpYes X0.here hx rfl (pc0 := 70) (pc' := 83) rfl (hb hby at_70) rfl (tlt j_70).1 (by decide) (by decide) ?_
        show Steps p.tables e below (s₁.setTop (mkF m 83 #[.val (.int p0), .val (.int p1), .val (.int ((p0 &&& (2147483647 : Int32)) % (17 : Int32))), .val (.int (p1 &&& (65535 : Int32))), .val (.int x24), .val (.int v38), .val (.int v61), .unset, .unset] [])) _
        refine XS.iconst X0.here hx rfl (hb hby at_83) ?_
        exact k
      · by_cases j_76 : (57343 : Int32) < (p1 &&& (65535 : Int32))
        · rw [hv84, if_pos j_64, if_neg j_70, if_pos j_76] at k
          show Steps p.tables e below (s₁.setTop (mkF m 64 #[.val (.int p0), .val (.int p1), .val (.int ((p0 &&& (2147483647 : Int32)) % (17 : Int32))), .val (.int (p1 &&& (65535 : Int32))), .val (.int x24), .val (.int v38), .val (.int v61), .unset, .unset] [(.int ((p0 &&& (2147483647 : Int32)) % (17 : Int32)))])) _
          refine XS.ifNo X0.here hx rfl (hb hby at_64) rfl ((if0 _ _).trans (teq j_64).2) ?_
          show Steps p.tables e below (s₁.setTop (mkF m 67 #[.val (.int p0), .val (.int p1), .val (.int ((p0 &&& (2147483647 : Int32)) % (17 : Int32))), .val (.int (p1 &&& (65535 : Int32))), .val (.int x24), .val (.int v38), .val (.int v61), .unset, .unset] [])) _
          refine XS.iloadN X0.here hx rfl (hb hby at_67) rfl ?_
          show Steps p.tables e below (s₁.setTop (mkF m 68 #[.val (.int p0), .val (.int p1), .val (.int ((p0 &&& (2147483647 : Int32)) % (17 : Int32))), .val (.int (p1 &&& (65535 : Int32))), .val (.int x24), .val (.int v38), .val (.int v61), .unset, .unset] [(.int (p1 &&& (65535 : Int32)))])) _
          refine X0.ldcInt hx hown (mvT hZ (hw _ (List.mem_of_getElem? (i := 5) rfl))) (g := (mkF m 68 #[.val (.int p0), .val (.int p1), .val (.int ((p0 &&& (2147483647 : Int32)) % (17 : Int32))), .val (.int (p1 &&& (65535 : Int32))), .val (.int x24), .val (.int v38), .val (.int v61), .unset, .unset] [(.int (p1 &&& (65535 : Int32)))])) rfl (hb hby at_68) _ ?_
          show Steps p.tables e below (s₁.setTop (mkF m 70 #[.val (.int p0), .val (.int p1), .val (.int ((p0 &&& (2147483647 : Int32)) % (17 : Int32))), .val (.int (p1 &&& (65535 : Int32))), .val (.int x24), .val (.int v38), .val (.int v61), .unset, .unset] [(.int (55296 : Int32)), (.int (p1 &&& (65535 : Int32)))])) _
          refine XS.icmpNo X0.here hx rfl (hb hby at_70) rfl (flt j_70).1 ?_
          show Steps p.tables e below (s₁.setTop (mkF m 73 #[.val (.int p0), .val (.int p1), .val (.int ((p0 &&& (2147483647 : Int32)) % (17 : Int32))), .val (.int (p1 &&& (65535 : Int32))), .val (.int x24), .val (.int v38), .val (.int v61), .unset, .unset] [])) _
          refine XS.iloadN X0.here hx rfl (hb hby at_73) rfl ?_
          show Steps p.tables e below (s₁.setTop (mkF m 74 #[.val (.int p0), .val (.int p1), .val (.int ((p0 &&& (2147483647 : Int32)) % (17 : Int32))), .val (.int (p1 &&& (65535 : Int32))), .val (.int x24), .val (.int v38), .val (.int v61), .unset, .unset] [(.int (p1 &&& (65535 : Int32)))])) _
          refine X0.ldcInt hx hown (mvT hZ (hw _ (List.mem_of_getElem? (i := 16) rfl))) (g := (mkF m 74 #[.val (.int p0), .val (.int p1), .val (.int ((p0 &&& (2147483647 : Int32)) % (17 : Int32))), .val (.int (p1 &&& (65535 : Int32))), .val (.int x24), .val (.int v38), .val (.int v61), .unset, .unset] [(.int (p1 &&& (65535 : Int32)))])) rfl (hb hby at_74) _ ?_
          show Steps p.tables e below (s₁.setTop (mkF m 76 #[.val (.int p0), .val (.int p1), .val (.int ((p0 &&& (2147483647 : Int32)) % (17 : Int32))), .val (.int (p1 &&& (65535 : Int32))), .val (.int x24), .val (.int v38), .val (.int v61), .unset, .unset] [(.int (57343 : Int32)), (.int (p1 &&& (65535 : Int32)))])) _
          refine XS.icmpYes X0.here hx rfl (pc0 := 76) (pc' := 83) rfl (hb hby at_76) rfl (tlt j_76).2.2.1 (by decide) (by decide) ?_
          show Steps p.tables e below (s₁.setTop (mkF m 83 #[.val (.int p0), .val (.int p1), .val (.int ((p0 &&& (2147483647 : Int32)) % (17 : Int32))), .val (.int (p1 &&& (65535 : Int32))), .val (.int x24), .val (.int v38), .val (.int v61), .unset, .unset] [])) _
          refine XS.iconst X0.here hx rfl (hb hby at_83) ?_
          exact k
        · rw [hv84, if_pos j_64, if_neg j_70, if_neg j_76] at k
          show Steps p.tables e below (s₁.setTop (mkF m 64 #[.val (.int p0), .val (.int p1), .val (.int ((p0 &&& (2147483647 : Int32)) % (17 : Int32))), .val (.int (p1 &&& (65535 : Int32))), .val (.int x24), .val (.int v38), .val (.int v61), .unset, .unset] [(.int ((p0 &&& (2147483647 : Int32)) % (17 : Int32)))])) _
          refine XS.ifNo X0.here hx rfl (hb hby at_64) rfl ((if0 _ _).trans (teq j_64).2) ?_
          show Steps p.tables e below (s₁.setTop (mkF m 67 #[.val (.int p0), .val (.int p1), .val (.int ((p0 &&& (2147483647 : Int32)) % (17 : Int32))), .val (.int (p1 &&& (65535 : Int32))), .val (.int x24), .val (.int v38), .val (.int v61), .unset, .unset] [])) _
          refine XS.iloadN X0.here hx rfl (hb hby at_67) rfl ?_
          show Steps p.tables e below (s₁.setTop (mkF m 68 #[.val (.int p0), .val (.int p1), .val (.int ((p0 &&& (2147483647 : Int32)) % (17 : Int32))), .val (.int (p1 &&& (65535 : Int32))), .val (.int x24), .val (.int v38), .val (.int v61), .unset, .unset] [(.int (p1 &&& (65535 : Int32)))])) _
          refine X0.ldcInt hx hown (mvT hZ (hw _ (List.mem_of_getElem? (i := 5) rfl))) (g := (mkF m 68 #[.val (.int p0), .val (.int p1), .val (.int ((p0 &&& (2147483647 : Int32)) % (17 : Int32))), .val (.int (p1 &&& (65535 : Int32))), .val (.int x24), .val (.int v38), .val (.int v61), .unset, .unset] [(.int (p1 &&& (65535 : Int32)))])) rfl (hb hby at_68) _ ?_
          show Steps p.tables e below (s₁.setTop (mkF m 70 #[.val (.int p0), .val (.int p1), .val (.int ((p0 &&& (2147483647 : Int32)) % (17 : Int32))), .val (.int (p1 &&& (65535 : Int32))), .val (.int x24), .val (.int v38), .val (.int v61), .unset, .unset] [(.int (55296 : Int32)), (.int (p1 &&& (65535 : Int32)))])) _
          refine XS.icmpNo X0.here hx rfl (hb hby at_70) rfl (flt j_70).1 ?_
          show Steps p.tables e below (s₁.setTop (mkF m 73 #[.val (.int p0), .val (.int p1), .val (.int ((p0 &&& (2147483647 : Int32)) % (17 : Int32))), .val (.int (p1 &&& (65535 : Int32))), .val (.int x24), .val (.int v38), .val (.int v61), .unset, .unset] [])) _
          refine XS.iloadN X0.here hx rfl (hb hby at_73) rfl ?_
          show Steps p.tables e below (s₁.setTop (mkF m 74 #[.val (.int p0), .val (.int p1), .val (.int ((p0 &&& (2147483647 : Int32)) % (17 : Int32))), .val (.int (p1 &&& (65535 : Int32))), .val (.int x24), .val (.int v38), .val (.int v61), .unset, .unset] [(.int (p1 &&& (65535 : Int32)))])) _
          refine X0.ldcInt hx hown (mvT hZ (hw _ (List.mem_of_getElem? (i := 16) rfl))) (g := (mkF m 74 #[.val (.int p0), .val (.int p1), .val (.int ((p0 &&& (2147483647 : Int32)) % (17 : Int32))), .val (.int (p1 &&& (65535 : Int32))), .val (.int x24), .val (.int v38), .val (.int v61), .unset, .unset] [(.int (p1 &&& (65535 : Int32)))])) rfl (hb hby at_74) _ ?_
          show Steps p.tables e below (s₁.setTop (mkF m 76 #[.val (.int p0), .val (.int p1), .val (.int ((p0 &&& (2147483647 : Int32)) % (17 : Int32))), .val (.int (p1 &&& (65535 : Int32))), .val (.int x24), .val (.int v38), .val (.int v61), .unset, .unset] [(.int (57343 : Int32)), (.int (p1 &&& (65535 : Int32)))])) _
          refine XS.icmpNo X0.here hx rfl (hb hby at_76) rfl (flt j_76).2.2.1 ?_
          show Steps p.tables e below (s₁.setTop (mkF m 79 #[.val (.int p0), .val (.int p1), .val (.int ((p0 &&& (2147483647 : Int32)) % (17 : Int32))), .val (.int (p1 &&& (65535 : Int32))), .val (.int x24), .val (.int v38), .val (.int v61), .unset, .unset] [])) _
          refine XS.iconst X0.here hx rfl (hb hby at_79) ?_
          show Steps p.tables e below (s₁.setTop (mkF m 80 #[.val (.int p0), .val (.int p1), .val (.int ((p0 &&& (2147483647 : Int32)) % (17 : Int32))), .val (.int (p1 &&& (65535 : Int32))), .val (.int x24), .val (.int v38), .val (.int v61), .unset, .unset] [(.int (1 : Int32))])) _
          refine XS.goto X0.here hx rfl (pc0 := 80) (pc' := 84) rfl (hb hby at_80) (by decide) (by decide) ?_
          exact k
    · rw [hv84, if_neg j_64] at k
      show Steps p.tables e below (s₁.setTop (mkF m 64 #[.val (.int p0), .val (.int p1), .val (.int ((p0 &&& (2147483647 : Int32)) % (17 : Int32))), .val (.int (p1 &&& (65535 : Int32))), .val (.int x24), .val (.int v38), .val (.int v61), .unset, .unset] [(.int ((p0 &&& (2147483647 : Int32)) % (17 : Int32)))])) _
      refine XS.ifYes X0.here hx rfl (pc0 := 64) (pc' := 83) rfl (hb hby at_64) rfl ((if0 _ _).trans (feq j_64).2) (by decide) (by decide) ?_
      show Steps p.tables e below (s₁.setTop (mkF m 83 #[.val (.int p0), .val (.int p1), .val (.int ((p0 &&& (2147483647 : Int32)) % (17 : Int32))), .val (.int (p1 &&& (65535 : Int32))), .val (.int x24), .val (.int v38), .val (.int v61), .unset, .unset] [])) _
      refine XS.iconst X0.here hx rfl (hb hby at_83) ?_
      exact k
  have pre24 : ∀ t, Steps p.tables e below (s₁.setTop (mkF m 88 #[.val (.int p0), .val (.int p1), .val (.int ((p0 &&& (2147483647 : Int32)) % (17 : Int32))), .val (.int (p1 &&& (65535 : Int32))), .val (.int x24), .val (.int v38), .val (.int v61), .val (.int v84), .unset] [(.int v38)])) t → Steps p.tables e below (s₁.setTop (entryFrame m #[(.int p0), (.int p1)] maxLocals)) t := by
    intro t k
    refine pre23 t ?_
    show Steps p.tables e below (s₁.setTop (mkF m 84 #[.val (.int p0), .val (.int p1), .val (.int ((p0 &&& (2147483647 : Int32)) % (17 : Int32))), .val (.int (p1 &&& (65535 : Int32))), .val (.int x24), .val (.int v38), .val (.int v61), .unset, .unset] [(.int v84)])) _
    refine XS.istore X0.here hx rfl (hb hby at_84) rfl (l' := #[.val (.int p0), .val (.int p1), .val (.int ((p0 &&& (2147483647 : Int32)) % (17 : Int32))), .val (.int (p1 &&& (65535 : Int32))), .val (.int x24), .val (.int v38), .val (.int v61), .val (.int v84), .unset]) rfl ?_
    show Steps p.tables e below (s₁.setTop (mkF m 86 #[.val (.int p0), .val (.int p1), .val (.int ((p0 &&& (2147483647 : Int32)) % (17 : Int32))), .val (.int (p1 &&& (65535 : Int32))), .val (.int x24), .val (.int v38), .val (.int v61), .val (.int v84), .unset] [])) _
    refine XS.iload X0.here hx rfl (hb hby at_86) rfl ?_
    exact k
  obtain ⟨v106, hv106⟩ : ∃ z : Int32, z = (if v38 = (0 : Int32) then (if v61 = (0 : Int32) then (if v84 = (0 : Int32) then (0 : Int32) else (1 : Int32)) else (1 : Int32)) else (1 : Int32)) := ⟨_, rfl⟩
  have pre25 : ∀ t, Steps p.tables e below (s₁.setTop (mkF m 106 #[.val (.int p0), .val (.int p1), .val (.int ((p0 &&& (2147483647 : Int32)) % (17 : Int32))), .val (.int (p1 &&& (65535 : Int32))), .val (.int x24), .val (.int v38), .val (.int v61), .val (.int v84), .unset] [(.int v106)])) t → Steps p.tables e below (s₁.setTop (entryFrame m #[(.int p0), (.int p1)] maxLocals)) t := by
    intro t k
    refine pre24 t ?_
    by_cases j_88 : v38 = (0 : Int32)
    · by_cases j_93 : v61 = (0 : Int32)
      · by_cases j_98 : v84 = (0 : Int32)
        · rw [hv106, if_pos j_88, if_pos j_93, if_pos j_98] at k
          show Steps p.tables e below (s₁.setTop (mkF m 88 #[.val (.int p0), .val (.int p1), .val (.int ((p0 &&& (2147483647 : Int32)) % (17 : Int32))), .val (.int (p1 &&& (65535 : Int32))), .val (.int x24), .val (.int v38), .val (.int v61), .val (.int v84), .unset] [(.int v38)])) _
          refine XS.ifNo X0.here hx rfl (hb hby at_88) rfl ((if0 _ _).trans (teq j_88).2) ?_
          show Steps p.tables e below (s₁.setTop (mkF m 91 #[.val (.int p0), .val (.int p1), .val (.int ((p0 &&& (2147483647 : Int32)) % (17 : Int32))), .val (.int (p1 &&& (65535 : Int32))), .val (.int x24), .val (.int v38), .val (.int v61), .val (.int v84), .unset] [])) _
          refine XS.iload X0.here hx rfl (hb hby at_91) rfl ?_
          show Steps p.tables e below (s₁.setTop (mkF m 93 #[.val (.int p0), .val (.int p1), .val (.int ((p0 &&& (2147483647 : Int32)) % (17 : Int32))), .val (.int (p1 &&& (65535 : Int32))), .val (.int x24), .val (.int v38), .val (.int v61), .val (.int v84), .unset] [(.int v61)])) _
          refine XS.ifNo X0.here hx rfl (hb hby at_93) rfl ((if0 _ _).trans (teq j_93).2) ?_
          show Steps p.tables e below (s₁.setTop (mkF m 96 #[.val (.int p0), .val (.int p1), .val (.int ((p0 &&& (2147483647 : Int32)) % (17 : Int32))), .val (.int (p1 &&& (65535 : Int32))), .val (.int x24), .val (.int v38), .val (.int v61), .val (.int v84), .unset] [])) _
          refine XS.iload X0.here hx rfl (hb hby at_96) rfl ?_
          show Steps p.tables e below (s₁.setTop (mkF m 98 #[.val (.int p0), .val (.int p1), .val (.int ((p0 &&& (2147483647 : Int32)) % (17 : Int32))), .val (.int (p1 &&& (65535 : Int32))), .val (.int x24), .val (.int v38), .val (.int v61), .val (.int v84), .unset] [(.int v84)])) _
          refine XS.ifYes X0.here hx rfl (pc0 := 98) (pc' := 105) rfl (hb hby at_98) rfl ((if0 _ _).trans (teq j_98).1) (by decide) (by decide) ?_
          show Steps p.tables e below (s₁.setTop (mkF m 105 #[.val (.int p0), .val (.int p1), .val (.int ((p0 &&& (2147483647 : Int32)) % (17 : Int32))), .val (.int (p1 &&& (65535 : Int32))), .val (.int x24), .val (.int v38), .val (.int v61), .val (.int v84), .unset] [])) _
          refine XS.iconst X0.here hx rfl (hb hby at_105) ?_
          exact k
        · rw [hv106, if_pos j_88, if_pos j_93, if_neg j_98] at k
          show Steps p.tables e below (s₁.setTop (mkF m 88 #[.val (.int p0), .val (.int p1), .val (.int ((p0 &&& (2147483647 : Int32)) % (17 : Int32))), .val (.int (p1 &&& (65535 : Int32))), .val (.int x24), .val (.int v38), .val (.int v61), .val (.int v84), .unset] [(.int v38)])) _
          refine XS.ifNo X0.here hx rfl (hb hby at_88) rfl ((if0 _ _).trans (teq j_88).2) ?_
          show Steps p.tables e below (s₁.setTop (mkF m 91 #[.val (.int p0), .val (.int p1), .val (.int ((p0 &&& (2147483647 : Int32)) % (17 : Int32))), .val (.int (p1 &&& (65535 : Int32))), .val (.int x24), .val (.int v38), .val (.int v61), .val (.int v84), .unset] [])) _
          refine XS.iload X0.here hx rfl (hb hby at_91) rfl ?_
          show Steps p.tables e below (s₁.setTop (mkF m 93 #[.val (.int p0), .val (.int p1), .val (.int ((p0 &&& (2147483647 : Int32)) % (17 : Int32))), .val (.int (p1 &&& (65535 : Int32))), .val (.int x24), .val (.int v38), .val (.int v61), .val (.int v84), .unset] [(.int v61)])) _
          refine XS.ifNo X0.here hx rfl (hb hby at_93) rfl ((if0 _ _).trans (teq j_93).2) ?_
          show Steps p.tables e below (s₁.setTop (mkF m 96 #[.val (.int p0), .val (.int p1), .val (.int ((p0 &&& (2147483647 : Int32)) % (17 : Int32))), .val (.int (p1 &&& (65535 : Int32))), .val (.int x24), .val (.int v38), .val (.int v61), .val (.int v84), .unset] [])) _
          refine XS.iload X0.here hx rfl (hb hby at_96) rfl ?_
          show Steps p.tables e below (s₁.setTop (mkF m 98 #[.val (.int p0), .val (.int p1), .val (.int ((p0 &&& (2147483647 : Int32)) % (17 : Int32))), .val (.int (p1 &&& (65535 : Int32))), .val (.int x24), .val (.int v38), .val (.int v61), .val (.int v84), .unset] [(.int v84)])) _
          refine XS.ifNo X0.here hx rfl (hb hby at_98) rfl ((if0 _ _).trans (feq j_98).1) ?_
          show Steps p.tables e below (s₁.setTop (mkF m 101 #[.val (.int p0), .val (.int p1), .val (.int ((p0 &&& (2147483647 : Int32)) % (17 : Int32))), .val (.int (p1 &&& (65535 : Int32))), .val (.int x24), .val (.int v38), .val (.int v61), .val (.int v84), .unset] [])) _
          refine XS.iconst X0.here hx rfl (hb hby at_101) ?_
          show Steps p.tables e below (s₁.setTop (mkF m 102 #[.val (.int p0), .val (.int p1), .val (.int ((p0 &&& (2147483647 : Int32)) % (17 : Int32))), .val (.int (p1 &&& (65535 : Int32))), .val (.int x24), .val (.int v38), .val (.int v61), .val (.int v84), .unset] [(.int (1 : Int32))])) _
          refine XS.goto X0.here hx rfl (pc0 := 102) (pc' := 106) rfl (hb hby at_102) (by decide) (by decide) ?_
          exact k
      · rw [hv106, if_pos j_88, if_neg j_93] at k
        show Steps p.tables e below (s₁.setTop (mkF m 88 #[.val (.int p0), .val (.int p1), .val (.int ((p0 &&& (2147483647 : Int32)) % (17 : Int32))), .val (.int (p1 &&& (65535 : Int32))), .val (.int x24), .val (.int v38), .val (.int v61), .val (.int v84), .unset] [(.int v38)])) _
        refine XS.ifNo X0.here hx rfl (hb hby at_88) rfl ((if0 _ _).trans (teq j_88).2) ?_
        show Steps p.tables e below (s₁.setTop (mkF m 91 #[.val (.int p0), .val (.int p1), .val (.int ((p0 &&& (2147483647 : Int32)) % (17 : Int32))), .val (.int (p1 &&& (65535 : Int32))), .val (.int x24), .val (.int v38), .val (.int v61), .val (.int v84), .unset] [])) _
        refine XS.iload X0.here hx rfl (hb hby at_91) rfl ?_
        show Steps p.tables e below (s₁.setTop (mkF m 93 #[.val (.int p0), .val (.int p1), .val (.int ((p0 &&& (2147483647 : Int32)) % (17 : Int32))), .val (.int (p1 &&& (65535 : Int32))), .val (.int x24), .val (.int v38), .val (.int v61), .val (.int v84), .unset] [(.int v61)])) _
        refine XS.ifYes X0.here hx rfl (pc0 := 93) (pc' := 101) rfl (hb hby at_93) rfl ((if0 _ _).trans (feq j_93).2) (by decide) (by decide) ?_
        show Steps p.tables e below (s₁.setTop (mkF m 101 #[.val (.int p0), .val (.int p1), .val (.int ((p0 &&& (2147483647 : Int32)) % (17 : Int32))), .val (.int (p1 &&& (65535 : Int32))), .val (.int x24), .val (.int v38), .val (.int v61), .val (.int v84), .unset] [])) _
        refine XS.iconst X0.here hx rfl (hb hby at_101) ?_
        show Steps p.tables e below (s₁.setTop (mkF m 102 #[.val (.int p0), .val (.int p1), .val (.int ((p0 &&& (2147483647 : Int32)) % (17 : Int32))), .val (.int (p1 &&& (65535 : Int32))), .val (.int x24), .val (.int v38), .val (.int v61), .val (.int v84), .unset] [(.int (1 : Int32))])) _
        refine XS.goto X0.here hx rfl (pc0 := 102) (pc' := 106) rfl (hb hby at_102) (by decide) (by decide) ?_
        exact k
    · rw [hv106, if_neg j_88] at k
      show Steps p.tables e below (s₁.setTop (mkF m 88 #[.val (.int p0), .val (.int p1), .val (.int ((p0 &&& (2147483647 : Int32)) % (17 : Int32))), .val (.int (p1 &&& (65535 : Int32))), .val (.int x24), .val (.int v38), .val (.int v61), .val (.int v84), .unset] [(.int v38)])) _
      refine XS.ifYes X0.here hx rfl (pc0 := 88) (pc' := 101) rfl (hb hby at_88) rfl ((if0 _ _).trans (feq j_88).2) (by decide) (by decide) ?_
      show Steps p.tables e below (s₁.setTop (mkF m 101 #[.val (.int p0), .val (.int p1), .val (.int ((p0 &&& (2147483647 : Int32)) % (17 : Int32))), .val (.int (p1 &&& (65535 : Int32))), .val (.int x24), .val (.int v38), .val (.int v61), .val (.int v84), .unset] [])) _
      refine XS.iconst X0.here hx rfl (hb hby at_101) ?_
      show Steps p.tables e below (s₁.setTop (mkF m 102 #[.val (.int p0), .val (.int p1), .val (.int ((p0 &&& (2147483647 : Int32)) % (17 : Int32))), .val (.int (p1 &&& (65535 : Int32))), .val (.int x24), .val (.int v38), .val (.int v61), .val (.int v84), .unset] [(.int (1 : Int32))])) _
      refine XS.goto X0.here hx rfl (pc0 := 102) (pc' := 106) rfl (hb hby at_102) (by decide) (by decide) ?_
      exact k
  have pre26 : ∀ t, Steps p.tables e below (s₁.setTop (mkF m 110 #[.val (.int p0), .val (.int p1), .val (.int ((p0 &&& (2147483647 : Int32)) % (17 : Int32))), .val (.int (p1 &&& (65535 : Int32))), .val (.int x24), .val (.int v38), .val (.int v61), .val (.int v84), .val (.int v106)] [(.int x24)])) t → Steps p.tables e below (s₁.setTop (entryFrame m #[(.int p0), (.int p1)] maxLocals)) t := by
    intro t k
    refine pre25 t ?_
    show Steps p.tables e below (s₁.setTop (mkF m 106 #[.val (.int p0), .val (.int p1), .val (.int ((p0 &&& (2147483647 : Int32)) % (17 : Int32))), .val (.int (p1 &&& (65535 : Int32))), .val (.int x24), .val (.int v38), .val (.int v61), .val (.int v84), .unset] [(.int v106)])) _
    refine XS.istore X0.here hx rfl (hb hby at_106) rfl (l' := #[.val (.int p0), .val (.int p1), .val (.int ((p0 &&& (2147483647 : Int32)) % (17 : Int32))), .val (.int (p1 &&& (65535 : Int32))), .val (.int x24), .val (.int v38), .val (.int v61), .val (.int v84), .val (.int v106)]) rfl ?_
    show Steps p.tables e below (s₁.setTop (mkF m 108 #[.val (.int p0), .val (.int p1), .val (.int ((p0 &&& (2147483647 : Int32)) % (17 : Int32))), .val (.int (p1 &&& (65535 : Int32))), .val (.int x24), .val (.int v38), .val (.int v61), .val (.int v84), .val (.int v106)] [])) _
    refine XS.iload X0.here hx rfl (hb hby at_108) rfl ?_
    exact k
  obtain ⟨_, _, ⟨T27, L27, k27, n27⟩, -, X27, ⟨Lc27, hQ27, l27, y27, z27⟩, st27⟩ := Jvm.LawKit.callS X0 hx (y := (⟨"com/example/arkivsmed/arkivsmed/xml/XmlCharacters", "isNoncharacterOrSurrogate", "(I)Z"⟩ : MethodName)) hown (mvT hZ (hw _ (List.mem_of_getElem? (i := 6) rfl))) (mvT hZ (hw _ (List.mem_of_getElem? (i := 7) rfl))) (mvT hZ (hw _ (List.mem_of_getElem? (i := 8) rfl))) (mvT hZ (hw _ (List.mem_of_getElem? (i := 9) rfl))) (by decide) (backOf (W := 0) (rm1 l Z a0 hw [] x24  h0 n0 Z0) hZ (hw _ (List.mem_of_getElem? (i := 9) rfl)) (hw _ (List.mem_of_getElem? (i := 8) rfl)) (by decide) (by decide)) (g := (mkF m 110 #[.val (.int p0), .val (.int p1), .val (.int ((p0 &&& (2147483647 : Int32)) % (17 : Int32))), .val (.int (p1 &&& (65535 : Int32))), .val (.int x24), .val (.int v38), .val (.int v61), .val (.int v84), .val (.int v106)] [(.int x24)])) rfl (by rw [hml]; rfl) (argsL := [(.int x24)]) (rest := []) (lenOf pd_0 rfl) rfl (by show 2 * 0 + _ ≤ _; exact Nat.le_of_eq rfl) (hb hby at_110) (fun _ _ => ⟨rfl, e0, (by decide : 0 + 0 ≤ _), (by decide : 0 + 0 ≤ _)⟩)
  dsimp only [Pt.U, Pt.locs, Pt.cells, Pt.slots] at X27 l27 y27 z27 st27 hQ27
  subst l27 y27 z27
  obtain ⟨rfl, N27q, e27⟩ := hQ27
  have N27 := Fr.app N0 N27q
  have pre28 : ∀ t, Steps p.tables e below (T27.setTop (mkF m 113 #[.val (.int p0), .val (.int p1), .val (.int ((p0 &&& (2147483647 : Int32)) % (17 : Int32))), .val (.int (p1 &&& (65535 : Int32))), .val (.int x24), .val (.int v38), .val (.int v61), .val (.int v84), .val (.int v106)] [(.int (own_non x24))])) t → Steps p.tables e below (s₁.setTop (entryFrame m #[(.int p0), (.int p1)] maxLocals)) t := fun t k => pre26 t (st27 _ k)
  have pre29 : ∀ t, Steps p.tables e below (T27.setTop (mkF m 115 #[.val (.int p0), .val (.int p1), .val (.int ((p0 &&& (2147483647 : Int32)) % (17 : Int32))), .val (.int (p1 &&& (65535 : Int32))), .val (.int x24), .val (.int v38), .val (.int v61), .val (.int v84), .val (.int v106)] [(.int v106), (.int (own_non x24))])) t → Steps p.tables e below (s₁.setTop (entryFrame m #[(.int p0), (.int p1)] maxLocals)) t := by
    intro t k
    refine pre28 t ?_
    show Steps p.tables e below (T27.setTop (mkF m 113 #[.val (.int p0), .val (.int p1), .val (.int ((p0 &&& (2147483647 : Int32)) % (17 : Int32))), .val (.int (p1 &&& (65535 : Int32))), .val (.int x24), .val (.int v38), .val (.int v61), .val (.int v84), .val (.int v106)] [(.int (own_non x24))])) _
    refine XS.iload X27.here hx rfl (hb hby at_113) rfl ?_
    exact k
  by_cases hc115 : (own_non x24) = v106
  · have pre30 : ∀ t, Steps p.tables e below (T27.setTop (mkF m 123 #[.val (.int p0), .val (.int p1), .val (.int ((p0 &&& (2147483647 : Int32)) % (17 : Int32))), .val (.int (p1 &&& (65535 : Int32))), .val (.int x24), .val (.int v38), .val (.int v61), .val (.int v84), .val (.int v106)] [(.int (1 : Int32))])) t → Steps p.tables e below (s₁.setTop (entryFrame m #[(.int p0), (.int p1)] maxLocals)) t := by
      intro t k
      refine pre29 t ?_
      show Steps p.tables e below (T27.setTop (mkF m 115 #[.val (.int p0), .val (.int p1), .val (.int ((p0 &&& (2147483647 : Int32)) % (17 : Int32))), .val (.int (p1 &&& (65535 : Int32))), .val (.int x24), .val (.int v38), .val (.int v61), .val (.int v84), .val (.int v106)] [(.int v106), (.int (own_non x24))])) _
      refine XS.icmpNo X27.here hx rfl (hb hby at_115) rfl (teq hc115).2 ?_
      show Steps p.tables e below (T27.setTop (mkF m 118 #[.val (.int p0), .val (.int p1), .val (.int ((p0 &&& (2147483647 : Int32)) % (17 : Int32))), .val (.int (p1 &&& (65535 : Int32))), .val (.int x24), .val (.int v38), .val (.int v61), .val (.int v84), .val (.int v106)] [])) _
      refine XS.iconst X27.here hx rfl (hb hby at_118) ?_
      show Steps p.tables e below (T27.setTop (mkF m 119 #[.val (.int p0), .val (.int p1), .val (.int ((p0 &&& (2147483647 : Int32)) % (17 : Int32))), .val (.int (p1 &&& (65535 : Int32))), .val (.int x24), .val (.int v38), .val (.int v61), .val (.int v84), .val (.int v106)] [(.int (1 : Int32))])) _
      refine XS.goto X27.here hx rfl (pc0 := 119) (pc' := 123) rfl (hb hby at_119) (by decide) (by decide) ?_
      exact k
    obtain ⟨fs, hr, hrun, hended, hW, hsame⟩ := X27.leave (v := some (.int (1 : Int32))) (fun h => by rw [Bd.returns] at h; cases h)
    refine ⟨_, _, pre30 _ ?_, hrun, hended, _, _, rfl, ?_, ⟨_, rfl⟩, hW, hsame.mono (by decide) (by decide)⟩
    · exact retN X27 hx (t := .boolean) Bd.returns (by simp) (hb hby at_123) hr
    · show Q0 Z p0 p1 h0 n0 _ T27.heap _
      rw [e27]
      exact ⟨rfl, N27⟩
  · exfalso
    exact hc115 (own_plain p0 p1 x24 v38 v61 v84 v106 hx24 hv38 hv61 hv84 hv106)
set_option maxRecDepth 65536 in
set_option maxHeartbeats 40000000 in
theorem comes_1 {Post : Tables → Env → Array Value → State → Outcome → State → Prop} (hpost : ∀ tb e args s v u, (limb_1_1.after args s (.returned v) u = true ∧ limb_1_2.after args s (.returned v) u = true ∧ True) → FrameEnd s (.returned v) u (Jvm.fieldLocs frame_1_writes args s ++ Jvm.arrayLocs frame_1_arrays args s ++ Jvm.staticLocs frame_1_statics s) 0 0 → Post tb e args s (.returned v) u) :
    ArmFor flags0 classFile x code maxLocals ret World_1 tables_1 room_1 Calls_1 rest_1 Pre_1 Post := by
  intro l hfl _ _ p e ha hc hk s m args below hf hA hF happ hP
  obtain ⟨hcalls, hrest, hpre⟩ := hP
  obtain ⟨-, -, -, hnamed, -, -, -, hat⟩ := (Spec.applies_iff hf).mp happ
  obtain ⟨hg, hn⟩ := and_e (Cond.before_iff.mp (show (Jvm.Cond.and given_1 narrow_1).before args s = true from hpre))
  obtain ⟨g1, g2⟩ := and_e hg
  obtain ⟨g3, g4⟩ := and_e g2
  obtain ⟨w0, w1, rfl⟩ : ∃ w0 w1 : Value, args = #[w0, w1] := by
    have hs : args.size = 2 := by simpa [Cond.value, given_1] using g1
    obtain ⟨L⟩ := args
    match L, hs with
    | [w0, w1], _ => exact ⟨w0, w1, rfl⟩
  have hw := fun d (hd : d ∈ tables_1) => atoms_spec (ws := Jvm.Cond.code x code maxLocals ret :: tables_1) hat d (List.mem_cons_of_mem _ hd)
  have hfit : Fit s := fun {y c} hc i hi => by
    obtain ⟨ha, rfl⟩ := Array.getElem?_eq_some_iff.mp hc
    have q := List.all_eq_true.mp ((Array.all_eq_true_iff_forall_mem.mp hF) _ (Array.getElem_mem ha)) i (List.mem_range.mpr hi)
    simpa [Array.getElem?_eq_getElem hi] using q
  obtain ⟨i0, ei0⟩ := is_v g3
  obtain rfl : w0 = (.int i0) := Option.some.inj ei0
  obtain ⟨i1, ei1⟩ := is_v g4
  obtain rfl : w1 = (.int i1) := Option.some.inj ei1
  obtain ⟨n, o, h1, h2, h3, _, L, rfl, ⟨rfl, N⟩, hq⟩ := rm0 l s _ hw tables_1 i0 i1 s.heap s.heap.size (Nat.le_refl _) p e ha hc hk s m _ below hf ((Spec.applies_iff_loose hf).mp happ).1 ⟨rfl, State.Warmed39.refl s, rfl⟩ trivial
  refine ⟨n, _, h1, h2, h3, hpost _ _ _ _ _ _ ⟨Cond.after_iff.mpr rfl, Cond.after_iff.mpr (eq_i res_at (Term.int_eval (1)) rfl), trivial⟩ ⟨hq.1, hq.2.1, (hq.2.2.sift fun y hy => Or.inr (N y hy)).mono (by decide) (by decide)⟩⟩
theorem main_1_1 : Claimed_1_1 := comes_1 fun _ _ _ _ _ _ h hF => ⟨h.1, hF⟩
theorem main_1_2 : Claimed_1_2 := comes_1 fun _ _ _ _ _ _ h hF => ⟨h.2.1, hF⟩
end Jvm.Pilot.@@N@@
namespace Jvm.Pilot.@@N@@
open Jvm Jvm.ClassFile Sem Op Lib Jvm.Free Jvm.Stand Jvm.Pilot.@@N@@.Jvm.D
/-! MADE BY PROGRAM (witnessworld.py) out of the Statement's table words and the real class files: 7 classes; the members and pool entries that the words name. The judged class is class 1, her method 1. -/
namespace start1
open Jvm.ClassFile
def u (s : String) : CpInfo := .utf8 (stringToUtf16 s)
/-- a pool by its gaps: so many unusable entries, then the entry; so many at the end -/
def gap : Nat → List CpInfo → List CpInfo
  | 0, r => r
  | n + 1, r => .unusable :: gap n r
def poolList (es : List (Nat × CpInfo)) (last : Nat) : List CpInfo := es.foldr (fun e r => gap e.1 (e.2 :: r)) (gap last [])
def pool (es : List (Nat × CpInfo)) (last : Nat) : Array CpInfo := ⟨poolList es last⟩
def fileOf (pool : Array CpInfo) (this : Nat) (attrs : Array Attribute := #[]) (ms : Array MethodInfo := #[]) (fl : Nat := 33) (sup : Nat := 0) (ifs : Array Nat := #[]) (fds : Array FieldInfo := #[]) : ClassFile where
  minorVersion := 0
  majorVersion := 65
  constantPool := pool
  accessFlags := fl
  thisClass := this
  superClass := sup
  interfaces := ifs
  fields := fds
  methods := ms
  attributes := attrs
def plain (name : String) (sup : Option ClassId) : Class where
  name := name
  kind := .ordinary
  loader := none
  accessFlags := 33
  super := sup
  interfaces := #[]
  cf := none
  fields := #[]
  methods := #[]
  instanceTypes := #[]
  staticTypes := #[]
  resolved := #[]
  callSites := []
  init := .initialized
  statics := none
  mirror := none

def pool0 : Array CpInfo := pool [(5, u "<init>"), (0, u "()V"), (1, .class_ 10), (1, u "java/lang/Object")] 113

def k0m0 : Method := { name := "<init>", desc := "()V", sig := { parameters := [], returnType := none }, accessFlags := 1, code := none }
/-- java/lang/Object -/
def k0 : Class := { plain "java/lang/Object" none with
  accessFlags := 33
  interfaces := #[]
  cf := some (fileOf pool0 8 #[] #[{ accessFlags := 1, nameIndex := 5, descriptorIndex := 6, attributes := #[] }] 33 0 #[] #[])
  fields := #[]
  methods := #[k0m0]
  instanceTypes := #[]
  staticTypes := #[]
  resolved := Array.replicate 124 none
  statics := none }

def pool1 : Array CpInfo := pool [(2, .class_ 4), (1, u "java/lang/Object"), (0, u "<init>"), (0, u "()V"), (0, .integer 2147483647), (0, .integer 65535), (0, .integer 65536), (0, .integer 65534), (0, .integer 64976), (0, .integer 65007), (0, .integer 55296), (0, .integer 57343), (0, .methodref 16 17), (0, .class_ 18), (0, .nameAndType 19 20), (0, u "com/example/arkivsmed/arkivsmed/xml/XmlCharacters"), (0, u "isNoncharacterOrSurrogate"), (0, u "(I)Z"), (0, .class_ 22), (0, u "com/example/arkivsmed/arkivsmed/xml/XmlCharactersIsNoncharacterOrSurrogatePinLaw"), (2, u "law"), (0, u "(II)Z")] 3

def k1m0 : Method := { name := "<init>", desc := "()V", sig := { parameters := [], returnType := none }, accessFlags := 2, code := none }
def k1c1 : Code := { maxStack := 2, maxLocals := 9, code := code, exceptionTable := #[], attributes := #[] }
def k1m1 : Method := { name := "law", desc := "(II)Z", sig := { parameters := [.int, .int], returnType := some .boolean }, accessFlags := 9, code := some k1c1 }
/-- com/example/arkivsmed/arkivsmed/xml/XmlCharactersIsNoncharacterOrSurrogatePinLaw -/
def k1 : Class := { plain "com/example/arkivsmed/arkivsmed/xml/XmlCharactersIsNoncharacterOrSurrogatePinLaw" (some 0) with
  accessFlags := 49
  interfaces := #[]
  cf := some (fileOf pool1 21 #[] #[{ accessFlags := 2, nameIndex := 5, descriptorIndex := 6, attributes := #[] }, { accessFlags := 9, nameIndex := 25, descriptorIndex := 26, attributes := #[] }] 49 2 #[] #[])
  fields := #[]
  methods := #[k1m0, k1m1]
  instanceTypes := #[]
  staticTypes := #[]
  resolved := Array.replicate 30 none
  statics := none }

def pool2 : Array CpInfo := pool [(2, .class_ 4), (1, u "java/lang/Object"), (0, u "<init>"), (0, u "()V"), (11, .class_ 20), (1, u "com/example/arkivsmed/arkivsmed/xml/XmlCharacters"), (1, u "(I)Z"), (5, .integer 64976), (0, .integer 65007), (0, .integer 65534), (0, .integer 55296), (0, .integer 57343), (11, u "isNoncharacterOrSurrogate")] 11

def k2m0 : Method := { name := "<init>", desc := "()V", sig := { parameters := [], returnType := none }, accessFlags := 2, code := none }
def k2c1 : Code := { maxStack := 2, maxLocals := 1, code := prog_117_method_3_code, exceptionTable := #[], attributes := #[] }
def k2m1 : Method := { name := "isNoncharacterOrSurrogate", desc := "(I)Z", sig := { parameters := [.int], returnType := some .boolean }, accessFlags := 9, code := some k2c1 }
/-- com/example/arkivsmed/arkivsmed/xml/XmlCharacters -/
def k2 : Class := { plain "com/example/arkivsmed/arkivsmed/xml/XmlCharacters" (some 0) with
  accessFlags := 49
  interfaces := #[]
  cf := some (fileOf pool2 18 #[] #[{ accessFlags := 2, nameIndex := 5, descriptorIndex := 6, attributes := #[] }, { accessFlags := 9, nameIndex := 44, descriptorIndex := 22, attributes := #[] }] 49 2 #[] #[])
  fields := #[]
  methods := #[k2m0, k2m1]
  instanceTypes := #[]
  staticTypes := #[]
  resolved := Array.replicate 56 none
  statics := none }

def pool3 : Array CpInfo := pool [(1, u "java/lang/Cloneable"), (0, .class_ 1), (0, u "java/lang/Object"), (0, .class_ 3)] 3

/-- java/lang/Cloneable -/
def k3 : Class := { plain "java/lang/Cloneable" (some 0) with
  accessFlags := 1537
  interfaces := #[]
  cf := some (fileOf pool3 2 #[] #[] 1537 4 #[] #[])
  fields := #[]
  methods := #[]
  instanceTypes := #[]
  staticTypes := #[]
  resolved := Array.replicate 8 none
  statics := none }

def pool4 : Array CpInfo := pool [(1, u "java/io/Serializable"), (0, .class_ 1), (0, u "java/lang/Object"), (0, .class_ 3)] 3

/-- java/io/Serializable -/
def k4 : Class := { plain "java/io/Serializable" (some 0) with
  accessFlags := 1537
  interfaces := #[]
  cf := some (fileOf pool4 2 #[] #[] 1537 4 #[] #[])
  fields := #[]
  methods := #[]
  instanceTypes := #[]
  staticTypes := #[]
  resolved := Array.replicate 8 none
  statics := none }

/-- the primitive byte -/
def k5 : Class := { plain "byte" none with kind := .primitive 'B', accessFlags := 0x411 }
/-- [B -/
def k6 : Class := { plain "[B" (some 0) with kind := .array 5 .byte, interfaces := #[3, 4], accessFlags := 1041 }

def heap : Heap := #[]
def classes : Array Class := #[k0, k1, k2, k3, k4, k5, k6]
def interned : List (Array UInt16 × Addr) := []
def slotsUsed : Nat := 0
def theMethod : MethodId := ⟨1, 1⟩
def args0 : Array Value := #[.int 9, .int 10]
def aboutOver (below : List Frame) : State where
  vm := { classes := classes, interned := interned.toArray }
  heap := heap
  slotsUsed := slotsUsed
  threads := #[{ frames := .invoking theMethod args0 :: below }]
def below0 : List Frame := [.native { method := ⟨0, 0⟩, args := #[] }]
def about1 : State := aboutOver below0
def p0 : Program := .bare "" "" ""
def e0 : Env := launch0.env 0 0 0
theorem w_frames : about1.frames = Frame.invoking theMethod args0 :: below0 := rfl
set_option maxRecDepth 65536 in
theorem w_args : argsFit about1.vm theMethod args0 = true := by decide +kernel
set_option maxRecDepth 65536 in
theorem w_heap : heapFits about1 = true := by decide +kernel
set_option maxRecDepth 65536 in
theorem w_runnable : about1.curStatus? = some .runnable := by decide +kernel
set_option maxRecDepth 65536 in
theorem w_alone : about1.alone = true := by decide +kernel
set_option maxRecDepth 65536 in
theorem w_named : about1.methodNamed? x = some theMethod := by decide +kernel
set_option maxRecDepth 65536 in
theorem w_hears : about1.hears theMethod below0 = true := by decide +kernel
set_option maxRecDepth 65536 in
theorem w_ripe : about1.ripe theMethod args0 below0 = true := by decide +kernel
theorem w_running : about1.status = .running := rfl
set_option maxRecDepth 65536 in
theorem w_room : about1.hasRoom e0.platform room_1 = true :=
  launch0.hasRoom_least _ room_1 (by decide +kernel) (by decide +kernel) (by decide +kernel) (by decide +kernel) (by decide +kernel) (by decide +kernel)
theorem allAtoms_all (ts : List Jvm.Cond) (a : Array Jvm.Value) (st : Jvm.State) : (allAtoms ts).before a st = ts.all (fun c => c.before a st) := by
  induction ts with
  | nil => rfl
  | cons c t ih =>
    show (Jvm.Cond.and c (allAtoms t)).before a st = _
    rw [Jvm.Cond.before_and, ih, List.all_cons]
def words1 : List Jvm.Cond := Jvm.Cond.code x code maxLocals ret :: tables_1
/-- a 'code' word, met by the world's own term for the bytes: nothing is compared byte by byte -/
theorem code_word {y : MethodName} {bytes : ByteArray} {mx : Nat} {rt : Option FieldType} {a : Array Value} {s : State} {m : MethodId} {meth : Method} {c : Code} (h1 : s.methodNamed? y = some m) (h2 : s.vm.method? m = some meth) (h3 : meth.code = some c) (h4 : c.code = bytes)
    (h5 : (c.maxLocals == mx && c.exceptionTable.isEmpty && decide (c.maxStack ≤ mostOperands) && decide (meth.sig.returnType = rt) && !meth.locks && decide (parseMethodDescriptor y.desc = some meth.sig)) = true) : (Jvm.Cond.code y bytes mx rt).before a s = true := by
  simp only [Bool.and_eq_true, beq_iff_eq, Bool.not_eq_true', decide_eq_true_eq] at h5
  obtain ⟨⟨⟨⟨⟨g1, g2⟩, g3⟩, g4⟩, g5⟩, g6⟩ := h5
  simp [Cond.before, Cond.holds, Cond.value, h1, h2, h3, h4, g1, g2, g3, g4, g5, g6]
def isCode : Jvm.Cond → Bool
  | .code _ _ _ _ => true
  | _ => false
theorem all_split {L : List Jvm.Cond} {P : Jvm.Cond → Bool} (h1 : L.all (fun c => isCode c || P c) = true) (h2 : ∀ c ∈ L.filter isCode, P c = true) : L.all P = true := by
  refine List.all_eq_true.mpr fun c hc => ?_
  have h := List.all_eq_true.mp h1 c hc
  rcases Bool.eq_false_or_eq_true (isCode c) with hi | hi
  · exact h2 c (List.mem_filter.mpr ⟨hc, hi⟩)
  · simpa [hi] using h
set_option maxRecDepth 65536 in
theorem w_c0 : (Jvm.Cond.code x code maxLocals ret).before args0 about1 = true := code_word (m := ⟨1, 1⟩) (meth := k1m1) (c := k1c1) (by decide +kernel) rfl rfl rfl (by decide +kernel)
set_option maxRecDepth 65536 in
theorem w_c1 : (Jvm.Cond.code ({ cls := "com/example/arkivsmed/arkivsmed/xml/XmlCharacters", name := "isNoncharacterOrSurrogate", desc := "(I)Z" } : Jvm.MethodName) prog_117_method_3_code (1 : Nat) (Option.some Jvm.ClassFile.FieldType.boolean)).before args0 about1 = true := code_word (m := ⟨2, 1⟩) (meth := k2m1) (c := k2c1) (by decide +kernel) rfl rfl rfl (by decide +kernel)
def codes1 : List Jvm.Cond := [Jvm.Cond.code x code maxLocals ret, Jvm.Cond.code ({ cls := "com/example/arkivsmed/arkivsmed/xml/XmlCharacters", name := "isNoncharacterOrSurrogate", desc := "(I)Z" } : Jvm.MethodName) prog_117_method_3_code (1 : Nat) (Option.some Jvm.ClassFile.FieldType.boolean)]
set_option maxRecDepth 65536 in
theorem codes_eq : words1.filter isCode = codes1 := rfl
theorem w_codes : ∀ c ∈ words1.filter isCode, c.before args0 about1 = true := by
  rw [codes_eq]
  intro c hc
  simp only [codes1, List.mem_cons, List.not_mem_nil, or_false] at hc
  rcases hc with rfl | rfl
  · exact w_c0
  · exact w_c1
set_option maxRecDepth 65536 in
theorem w_t1 : words1.all (fun c => isCode c || c.before args0 about1) = true := by decide +kernel
theorem w_tables : (allAtoms (Jvm.Cond.code x code maxLocals ret :: tables_1)).before args0 about1 = true := by
  rw [allAtoms_all]
  show words1.all (fun c => c.before args0 about1) = true
  refine all_split ?_ w_codes
  rw [w_t1]
set_option maxRecDepth 65536 in
theorem w_case : (Jvm.Cond.and given_1 narrow_1).before args0 about1 = true := by decide +kernel
theorem w_applies : (headSpec (Jvm.Cond.code x code maxLocals ret :: tables_1) room_1).applies x e0.platform about1 = true :=
  (Spec.applies_iff w_frames).mpr ⟨w_running, w_runnable, w_alone, w_named, w_hears, w_ripe, w_room, w_tables⟩
theorem atStart : AtStart classFile x code maxLocals ret World_1 tables_1 room_1 Calls_1 rest_1 Pre_1 launch0 p0 e0 about1 theMethod args0 below0 :=
  ⟨lists_1, trivial, launch0.admits_env _ _ _, launch0.least_env, fairChoices_fair.cas, fairChoices_fair.clock, w_frames, w_args, w_heap, w_applies, trivial, trivial, w_case⟩
end start1
theorem witness_1 : WitnessClaimed_1 := ⟨start1.p0, start1.e0, start1.about1, start1.theMethod, start1.args0, start1.below0, start1.atStart⟩
end Jvm.Pilot.@@N@@
