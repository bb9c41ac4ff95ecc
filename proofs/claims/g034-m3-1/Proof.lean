import JvmDerived
import JvmDerived.Pilot.@@N@@Statement
import JvmDerived.Pilot.@@N@@Code
set_option linter.unusedVariables false
set_option linter.unusedSimpArgs false
namespace Jvm.RoadKit
open Sem ClassFile Op Lib Jvm.Stand Jvm.Free Jvm.LawKit
section New
variable {p : Program} {l : Launch} {e : Env} {R : Room} {s : State} {m : MethodId} {args : Array Value} {below : List Frame} {meth : Method} {c : Code} {T : State} {locs : List Loc} {cells slots : Nat}
theorem retI (X : Stand p l e R s m args below meth c T locs cells slots) (hx : p.tables.exec = Jvm.exec) {pc : Nat} {Ls : Array Slot} {z : Int32} {rest : List Value} (hret : meth.sig.returnType = some .int) (hd : decode c.code pc = .ok (.ireturn, 1)) {fs : List Frame}
    (hl : ∀ (f : JFrame) (acts : List Action), f.method = m → f.locked = none → f.entered = [] → (doReturn e (T.setTop f) acts (some (.int z))).1 = T.setFrames fs) : Steps p.tables e below (T.setTop (mkF m pc Ls (.int z :: rest))) (T.setFrames fs) := by
  have hm' : T.vm.method? m = some meth := X.method'
  have hn : narrow .int (.int z) = .int z := rfl
  show Steps p.tables e below (T.setTop { method := m, pc := pc, locals := Ls, stack := _ :: rest, locked := none }) _
  jvm_step X.here [X.here.top, hx, hd, hm', hret, hn]
  first | (intro acts; rw [hl _ acts rfl rfl rfl]) | rw [hl _ _ rfl rfl rfl]
  exact Steps.refl _
end New
end Jvm.RoadKit
namespace Jvm.Pilot.@@N@@
open Jvm Jvm.ClassFile Sem Op Lib Jvm.Free Jvm.Stand Jvm.LawKit Jvm.RoadKit Bundle Jvm.Pilot.@@N@@.Jvm.D
theorem own_nz {c : Int32} (h : 1 ≤ c.toInt) : c.toInt64 ≠ 0 := fun q => by
  have := c_i2l c
  rw [q] at this
  have o : (0 : Int64).toInt = 0 := rfl
  omega
theorem d1_0 : decode prog_7_method_3_code 0 = .ok (.ldc2_w 44, 3) := by decide +kernel
theorem d1_3 : decode prog_7_method_3_code 3 = .ok (.iload_n 0, 1) := by decide +kernel
theorem d1_4 : decode prog_7_method_3_code 4 = .ok (.i2l, 1) := by decide +kernel
theorem d1_5 : decode prog_7_method_3_code 5 = .ok (.ldiv, 1) := by decide +kernel
theorem d1_6 : decode prog_7_method_3_code 6 = .ok (.ldc2_w 46, 3) := by decide +kernel
theorem d1_9 : decode prog_7_method_3_code 9 = .ok (.ldiv, 1) := by decide +kernel
theorem d1_10 : decode prog_7_method_3_code 10 = .ok (.ldc2_w 46, 3) := by decide +kernel
theorem d1_13 : decode prog_7_method_3_code 13 = .ok (.lmul, 1) := by decide +kernel
theorem d1_14 : decode prog_7_method_3_code 14 = .ok (.lreturn, 1) := by decide +kernel
def own_cells (p0 : Int32) : Int64 := ((((137438952896 : Int64) / (p0.toInt64)) / (64 : Int64)) * (64 : Int64))
theorem pn_1 : plainName "com/example/shunt/shunt/filter/BloomLayout" = true := by first | (simp [plainName, overriddenIn]; done) | decide +kernel
theorem ef_1 (m : MethodId) (x0 : Int32) : entryFrame m #[(.int x0)] 1 = mkF m 0 #[.val (.int x0)] [] := by first | (simp [entryFrame, mkF, argsToLocals, Value.category]; done) | rfl
def Q1 (Z : State) (p0 : Int32) (h0 : Heap) (n0 : Nat) (v : Option Value) (h : Heap) (L : List Loc) : Prop := v = some (.long (own_cells p0)) ∧ Fr n0 L ∧ h = h0
set_option maxRecDepth 65536 in
set_option maxHeartbeats 40000000 in
theorem rm1 (l : Launch) (Z : State) (a0 : Array Value) (hw : ∀ d ∈ tables_1, d.before a0 Z = true) (ws : List Jvm.Cond) (p0 : Int32) (h0 : Heap) (n0 : Nat) (Z0 : n0 ≤ h0.size) (hp : 1 ≤ p0.toInt) :
    MetFree l (⟨"com/example/shunt/shunt/filter/BloomLayout", "maxCells", "(I)J"⟩ : MethodName) (head1 (Jvm.Cond.code (⟨"com/example/shunt/shunt/filter/BloomLayout", "maxCells", "(I)J"⟩ : MethodName) prog_7_method_3_code 1 (some .long) :: ws) ({ frames := 0, cells := 0, slots := 0, locals := 0 } : Room)) (fun a U => a = #[(.int p0)] ∧ Z.Warmed39 U.vm ∧ U.heap = h0) (fun _ _ _ _ _ => True) (fun _ U o U' => ∃ v L, o = .returned v ∧ Q1 Z p0 h0 n0 v U'.heap L ∧ FrameEnd U o U' L ({ frames := 0, cells := 0, slots := 0, locals := 0 } : Room).cells ({ frames := 0, cells := 0, slots := 0, locals := 0 } : Room).slots) := by
  refine MetFree.of_bodySF (plainFor_of_name pn_1) hisR ?_
  intro p e s m args below meth c s₁ Bd hml0 hP hK
  obtain ⟨rfl, hZ, hh⟩ := hP
  have hx := Bd.exec
  have hby := Bd.bytes
  have hml : c.maxLocals = 1 := hml0
  have hown : s.vm.findClass "com/example/shunt/shunt/filter/BloomLayout" = some m.cls := findClass_of_methodNamed Bd.named
  have hnm := (name_of_methodNamed Bd.named Bd.method).1
  have X0 : Stand p l e ({ frames := 0, cells := 0, slots := 0, locals := 0 } : Room) s m #[(.int p0)] below meth c s₁ [] 0 0 := Stand.of_body Bd
  have e0 : s₁.heap = h0 := by rw [← hh, Bd.state]; rfl
  have N0 := Fr.nil n0
  have pre0 : ∀ t, Steps p.tables e below (s₁.setTop (mkF m 0 #[.val (.int p0)] [])) t → Steps p.tables e below (s₁.setTop (entryFrame m #[(.int p0)] 1)) t := fun t k => castTop (ef_1 m p0) k
  have pre1 : ∀ t, Steps p.tables e below (s₁.setTop (mkF m 14 #[.val (.int p0)] [(.long ((((137438952896 : Int64) / (p0.toInt64)) / (64 : Int64)) * (64 : Int64)))])) t → Steps p.tables e below (s₁.setTop (entryFrame m #[(.int p0)] 1)) t := by
    intro t k
    refine pre0 t ?_
    show Steps p.tables e below (s₁.setTop (mkF m 0 #[.val (.int p0)] [])) _
    refine X0.ldc2Long hx hown (mvT hZ (hw _ (List.mem_of_getElem? (i := 5) rfl))) (g := (mkF m 0 #[.val (.int p0)] [])) rfl (hb hby d1_0) _ ?_
    show Steps p.tables e below (s₁.setTop (mkF m 3 #[.val (.int p0)] [(.long (137438952896 : Int64))])) _
    refine XS.iloadN X0.here hx rfl (hb hby d1_3) rfl ?_
    show Steps p.tables e below (s₁.setTop (mkF m 4 #[.val (.int p0)] [(.int p0), (.long (137438952896 : Int64))])) _
    refine XS.i2l X0.here hx rfl (hb hby d1_4) rfl ?_
    show Steps p.tables e below (s₁.setTop (mkF m 5 #[.val (.int p0)] [(.long (p0.toInt64)), (.long (137438952896 : Int64))])) _
    refine XS.ldiv X0.here hx rfl (hb hby d1_5) rfl (own_nz hp) ?_
    show Steps p.tables e below (s₁.setTop (mkF m 6 #[.val (.int p0)] [(.long ((137438952896 : Int64) / (p0.toInt64)))])) _
    refine X0.ldc2Long hx hown (mvT hZ (hw _ (List.mem_of_getElem? (i := 6) rfl))) (g := (mkF m 6 #[.val (.int p0)] [(.long ((137438952896 : Int64) / (p0.toInt64)))])) rfl (hb hby d1_6) _ ?_
    show Steps p.tables e below (s₁.setTop (mkF m 9 #[.val (.int p0)] [(.long (64 : Int64)), (.long ((137438952896 : Int64) / (p0.toInt64)))])) _
    refine XS.ldiv X0.here hx rfl (hb hby d1_9) rfl (by decide) ?_
    show Steps p.tables e below (s₁.setTop (mkF m 10 #[.val (.int p0)] [(.long (((137438952896 : Int64) / (p0.toInt64)) / (64 : Int64)))])) _
    refine X0.ldc2Long hx hown (mvT hZ (hw _ (List.mem_of_getElem? (i := 6) rfl))) (g := (mkF m 10 #[.val (.int p0)] [(.long (((137438952896 : Int64) / (p0.toInt64)) / (64 : Int64)))])) rfl (hb hby d1_10) _ ?_
    show Steps p.tables e below (s₁.setTop (mkF m 13 #[.val (.int p0)] [(.long (64 : Int64)), (.long (((137438952896 : Int64) / (p0.toInt64)) / (64 : Int64)))])) _
    refine XS.lmul X0.here hx rfl (hb hby d1_13) rfl ?_
    exact k
  obtain ⟨fs, hr, hrun, hended, hW, hsame⟩ := X0.leave (v := some (.long ((((137438952896 : Int64) / (p0.toInt64)) / (64 : Int64)) * (64 : Int64)))) (fun h => by rw [Bd.returns] at h; cases h)
  refine ⟨_, _, pre1 _ ?_, hrun, hended, _, _, rfl, ?_, ⟨_, rfl⟩, hW, hsame.mono (by decide) (by decide)⟩
  · exact lreturnOut X0 hx Bd.returns (hb hby d1_14) hr
  · show Q1 Z p0 h0 n0 _ s₁.heap _
    rw [e0]
    refine ⟨?_, N0, rfl⟩
    rfl
theorem d2_0 : decode jdk_29_method_65_code 0 = .ok (.iload_n 0, 1) := by decide +kernel
theorem d2_1 : decode jdk_29_method_65_code 1 = .ok (.iload_n 1, 1) := by decide +kernel
theorem d2_2 : decode jdk_29_method_65_code 2 = .ok (.if_icmp .lt 7, 3) := by decide +kernel
theorem d2_9 : decode jdk_29_method_65_code 9 = .ok (.iload_n 1, 1) := by decide +kernel
theorem d2_10 : decode jdk_29_method_65_code 10 = .ok (.ireturn, 1) := by decide +kernel
theorem d2_5 : decode jdk_29_method_65_code 5 = .ok (.iload_n 0, 1) := by decide +kernel
theorem d2_6 : decode jdk_29_method_65_code 6 = .ok (.goto 4, 3) := by decide +kernel
def own_mx (p0 : Int32) (p1 : Int32) : Int32 := (if p0 < p1 then p1 else p0)
theorem ef_2 (m : MethodId) (x0 : Int32) (x1 : Int32) : entryFrame m #[(.int x0), (.int x1)] 2 = mkF m 0 #[.val (.int x0), .val (.int x1)] [] := by first | (simp [entryFrame, mkF, argsToLocals, Value.category]; done) | rfl
def Q2 (Z : State) (p0 : Int32) (p1 : Int32) (h0 : Heap) (n0 : Nat) (v : Option Value) (h : Heap) (L : List Loc) : Prop := v = some (.int (own_mx p0 p1)) ∧ Fr n0 L ∧ h = h0
set_option maxRecDepth 65536 in
set_option maxHeartbeats 40000000 in
theorem rm2 (l : Launch) (Z : State) (a0 : Array Value) (hw : ∀ d ∈ tables_1, d.before a0 Z = true) (ws : List Jvm.Cond) (p0 : Int32) (p1 : Int32) (h0 : Heap) (n0 : Nat) (Z0 : n0 ≤ h0.size) :
    MetFree l (⟨"java/lang/Math", "max", "(II)I"⟩ : MethodName) (head1 (Jvm.Cond.code (⟨"java/lang/Math", "max", "(II)I"⟩ : MethodName) jdk_29_method_65_code 2 (some .int) :: ws) ({ frames := 0, cells := 0, slots := 0, locals := 0 } : Room)) (fun a U => a = #[(.int p0), (.int p1)] ∧ Z.Warmed39 U.vm ∧ U.heap = h0) (fun _ _ _ _ _ => True) (fun _ U o U' => ∃ v L, o = .returned v ∧ Q2 Z p0 p1 h0 n0 v U'.heap L ∧ FrameEnd U o U' L ({ frames := 0, cells := 0, slots := 0, locals := 0 } : Room).cells ({ frames := 0, cells := 0, slots := 0, locals := 0 } : Room).slots) := by
  refine MetFree.of_bodySF (Jvm.Free.JP.mathPlain rfl (by decide +kernel)) hisR ?_
  intro p e s m args below meth c s₁ Bd hml0 hP hK
  obtain ⟨rfl, hZ, hh⟩ := hP
  have hx := Bd.exec
  have hby := Bd.bytes
  have hml : c.maxLocals = 2 := hml0
  have hown : s.vm.findClass "java/lang/Math" = some m.cls := findClass_of_methodNamed Bd.named
  have hnm := (name_of_methodNamed Bd.named Bd.method).1
  have X0 : Stand p l e ({ frames := 0, cells := 0, slots := 0, locals := 0 } : Room) s m #[(.int p0), (.int p1)] below meth c s₁ [] 0 0 := Stand.of_body Bd
  have e0 : s₁.heap = h0 := by rw [← hh, Bd.state]; rfl
  have N0 := Fr.nil n0
  have pre0 : ∀ t, Steps p.tables e below (s₁.setTop (mkF m 0 #[.val (.int p0), .val (.int p1)] [])) t → Steps p.tables e below (s₁.setTop (entryFrame m #[(.int p0), (.int p1)] 2)) t := fun t k => castTop (ef_2 m p0 p1) k
  have pre2 : ∀ t, Steps p.tables e below (s₁.setTop (mkF m 2 #[.val (.int p0), .val (.int p1)] [(.int p1), (.int p0)])) t → Steps p.tables e below (s₁.setTop (entryFrame m #[(.int p0), (.int p1)] 2)) t := by
    intro t k
    refine pre0 t ?_
    show Steps p.tables e below (s₁.setTop (mkF m 0 #[.val (.int p0), .val (.int p1)] [])) _
    refine XS.iloadN X0.here hx rfl (hb hby d2_0) rfl ?_
    show Steps p.tables e below (s₁.setTop (mkF m 1 #[.val (.int p0), .val (.int p1)] [(.int p0)])) _
    refine XS.iloadN X0.here hx rfl (hb hby d2_1) rfl ?_
    exact k
  by_cases hc2 : p0 < p1
  · have pre3 : ∀ t, Steps p.tables e below (s₁.setTop (mkF m 10 #[.val (.int p0), .val (.int p1)] [(.int p1)])) t → Steps p.tables e below (s₁.setTop (entryFrame m #[(.int p0), (.int p1)] 2)) t := by
      intro t k
      refine pre2 t ?_
      show Steps p.tables e below (s₁.setTop (mkF m 2 #[.val (.int p0), .val (.int p1)] [(.int p1), (.int p0)])) _
      refine XS.icmpYes X0.here hx rfl (pc0 := 2) (pc' := 9) rfl (hb hby d2_2) rfl (tlt hc2).1 (by decide) (by decide) ?_
      show Steps p.tables e below (s₁.setTop (mkF m 9 #[.val (.int p0), .val (.int p1)] [])) _
      refine XS.iloadN X0.here hx rfl (hb hby d2_9) rfl ?_
      exact k
    obtain ⟨fs, hr, hrun, hended, hW, hsame⟩ := X0.leave (v := some (.int p1)) (fun h => by rw [Bd.returns] at h; cases h)
    refine ⟨_, _, pre3 _ ?_, hrun, hended, _, _, rfl, ?_, ⟨_, rfl⟩, hW, hsame.mono (by decide) (by decide)⟩
    · exact retI X0 hx Bd.returns (hb hby d2_10) hr
    · show Q2 Z p0 p1 h0 n0 _ s₁.heap _
      rw [e0]
      refine ⟨?_, N0, rfl⟩
      unfold own_mx; rw [if_pos hc2]
  · have pre4 : ∀ t, Steps p.tables e below (s₁.setTop (mkF m 10 #[.val (.int p0), .val (.int p1)] [(.int p0)])) t → Steps p.tables e below (s₁.setTop (entryFrame m #[(.int p0), (.int p1)] 2)) t := by
      intro t k
      refine pre2 t ?_
      show Steps p.tables e below (s₁.setTop (mkF m 2 #[.val (.int p0), .val (.int p1)] [(.int p1), (.int p0)])) _
      refine XS.icmpNo X0.here hx rfl (hb hby d2_2) rfl (flt hc2).1 ?_
      show Steps p.tables e below (s₁.setTop (mkF m 5 #[.val (.int p0), .val (.int p1)] [])) _
      refine XS.iloadN X0.here hx rfl (hb hby d2_5) rfl ?_
      show Steps p.tables e below (s₁.setTop (mkF m 6 #[.val (.int p0), .val (.int p1)] [(.int p0)])) _
      refine XS.goto X0.here hx rfl (pc0 := 6) (pc' := 10) rfl (hb hby d2_6) (by decide) (by decide) ?_
      exact k
    obtain ⟨fs, hr, hrun, hended, hW, hsame⟩ := X0.leave (v := some (.int p0)) (fun h => by rw [Bd.returns] at h; cases h)
    refine ⟨_, _, pre4 _ ?_, hrun, hended, _, _, rfl, ?_, ⟨_, rfl⟩, hW, hsame.mono (by decide) (by decide)⟩
    · exact retI X0 hx Bd.returns (hb hby d2_10) hr
    · show Q2 Z p0 p1 h0 n0 _ s₁.heap _
      rw [e0]
      refine ⟨?_, N0, rfl⟩
      unfold own_mx; rw [if_neg hc2]
theorem own_cA (x : Int32) : 1 ≤ ((x &&& (63 : Int32)) + (1 : Int32)).toInt := by
  have e := c_mask x 63 6 (by decide) (by decide)
  have a := c_iadd (x &&& (63 : Int32)) 1
  have r := rng32 ((x &&& (63 : Int32)) + 1)
  have o : (1 : Int32).toInt = 1 := rfl
  omega
theorem own_cB (x : Int32) : 1 ≤ (own_mx (1 : Int32) (x &&& (2147483647 : Int32))).toInt := by
  have e := c_mask x 2147483647 31 (by decide) (by decide)
  unfold own_mx
  by_cases h : (1 : Int32) < (x &&& (2147483647 : Int32))
  · rw [if_pos h]; rw [Int32.lt_iff_toInt_lt] at h
    have o : (1 : Int32).toInt = 1 := rfl
    omega
  · rw [if_neg h]; decide
theorem own_val {c : Int32} (h : 1 ≤ c.toInt) : (own_cells c).toInt = 137438952896 / c.toInt / 64 * 64 ∧ 0 ≤ 137438952896 / c.toInt ∧ 137438952896 / c.toInt ≤ 137438952896 ∧ 137438952896 / c.toInt * c.toInt ≤ 137438952896 ∧ 137438952896 < (137438952896 / c.toInt + 1) * c.toInt := by
  have r := rng32 c
  have n1 : c.toInt64 ≠ -1 := fun q => by
    have := c_i2l c
    rw [q] at this
    have o : (-1 : Int64).toInt = -1 := rfl
    omega
  have d1 := (c_ldiv 137438952896 c.toInt64 c.toInt (c_i2l c) n1).1 (by decide)
  have o1 : (137438952896 : Int64).toInt = 137438952896 := rfl
  rw [o1] at d1
  have p1 : 0 ≤ 137438952896 / c.toInt := Int.ediv_nonneg (by omega) (by omega)
  have p2 : 137438952896 / c.toInt ≤ 137438952896 := Int.ediv_le_self _ (by omega)
  have p3 : 137438952896 / c.toInt * c.toInt ≤ 137438952896 := Int.ediv_mul_le _ (by omega)
  have p4 : 137438952896 < (137438952896 / c.toInt + 1) * c.toInt := Int.lt_ediv_add_one_mul_self _ (by omega)
  have d2 := (c_ldiv ((137438952896 : Int64) / c.toInt64) 64 64 (by decide) (by decide)).1 (by omega)
  have m := c_lmul ((137438952896 : Int64) / c.toInt64 / 64) 64
  have o2 : (64 : Int64).toInt = 64 := rfl
  rw [o2, d2, d1] at m
  have g := rng64 ((137438952896 : Int64) / c.toInt64 / 64 * 64)
  refine ⟨?_, p1, p2, p3, p4⟩
  show ((137438952896 : Int64) / c.toInt64 / 64 * 64).toInt = _
  generalize 137438952896 / c.toInt = D at *
  omega
theorem own_k1 {c : Int32} (h : 1 ≤ c.toInt) : ¬ own_cells c < (0 : Int64) := by
  have q := own_val h
  rw [Int64.lt_iff_toInt_lt, q.1]
  have o : (0 : Int64).toInt = 0 := rfl
  generalize 137438952896 / c.toInt = D at *
  omega
theorem own_k2 {c : Int32} (h : 1 ≤ c.toInt) : own_cells c % (64 : Int64) = (0 : Int64) := by
  have q := own_val h
  rw [← Int64.toInt_inj, Int64.toInt_mod, q.1]
  have o : (64 : Int64).toInt = 64 := rfl
  have o2 : (0 : Int64).toInt = 0 := rfl
  rw [o, o2]
  exact Int.mul_tmod_left _ _
theorem own_mulv {c : Int32} {k : Int64} (h : 1 ≤ c.toInt) (k0 : 0 ≤ k.toInt) (k1 : k.toInt * c.toInt < 9223372036854775808) : (k * c.toInt64).toInt = k.toInt * c.toInt := by
  have m := c_lmul k c.toInt64
  rw [c_i2l] at m
  have g := rng64 (k * c.toInt64)
  have w : 0 ≤ k.toInt * c.toInt := Int.mul_nonneg k0 (by omega)
  generalize k.toInt * c.toInt = P at *
  omega
theorem own_k3 {c : Int32} (h : 1 ≤ c.toInt) : ¬ (137438952896 : Int64) < own_cells c * c.toInt64 := by
  obtain ⟨q1, q2, q3, q4, q5⟩ := own_val h
  have w : (own_cells c).toInt * c.toInt ≤ 137438952896 / c.toInt * c.toInt := Int.mul_le_mul_of_nonneg_right (by rw [q1]; omega) (by omega)
  rw [Int64.lt_iff_toInt_lt, own_mulv h (by rw [q1]; omega) (by omega)]
  have o : (137438952896 : Int64).toInt = 137438952896 := rfl
  omega
theorem own_k4 {c : Int32} (h : 1 ≤ c.toInt) : (137438952896 : Int64) < (own_cells c + (64 : Int64)) * c.toInt64 := by
  obtain ⟨q1, q2, q3, q4, q5⟩ := own_val h
  have r := rng32 c
  have a := c_ladd (own_cells c) 64
  have o : (64 : Int64).toInt = 64 := rfl
  have g := rng64 (own_cells c + 64)
  have s : (own_cells c + 64).toInt = 137438952896 / c.toInt / 64 * 64 + 64 := by rw [o, q1] at a; omega
  have w : (137438952896 / c.toInt + 1) * c.toInt ≤ (own_cells c + 64).toInt * c.toInt := Int.mul_le_mul_of_nonneg_right (by rw [s]; omega) (by omega)
  have u : (own_cells c + 64).toInt * c.toInt ≤ (137438952896 / c.toInt + 64) * c.toInt := Int.mul_le_mul_of_nonneg_right (by rw [s]; omega) (by omega)
  have u2 : (137438952896 / c.toInt + 64) * c.toInt = 137438952896 / c.toInt * c.toInt + 64 * c.toInt := Int.add_mul _ _ _
  rw [Int64.lt_iff_toInt_lt, own_mulv h (by rw [s]; omega) (by omega)]
  have o : (137438952896 : Int64).toInt = 137438952896 := rfl
  omega
theorem pd_0 : parseMethodDescriptor "(II)I" = some ⟨[.int, .int], some .int⟩ := by decide +kernel
theorem pd_1 : parseMethodDescriptor "(I)J" = some ⟨[.int], some .long⟩ := by decide +kernel
theorem pn_0 : plainName "com/example/shunt/shunt/filter/BloomLayoutMaxCellsPinLaw" = true := by first | (simp [plainName, overriddenIn]; done) | decide +kernel
theorem ef_0 (m : MethodId) (x0 : Int32) (x1 : Int32) : entryFrame m #[(.int x0), (.int x1)] maxLocals = mkF m 0 #[.val (.int x0), .val (.int x1), .unset, .unset, .unset, .unset, .unset] [] := by first | (simp [entryFrame, mkF, argsToLocals, Value.category, maxLocals]; done) | rfl
def Q0 (Z : State) (p0 : Int32) (p1 : Int32) (h0 : Heap) (n0 : Nat) (v : Option Value) (h : Heap) (L : List Loc) : Prop := v = some (.int (1 : Int32)) ∧ Fr n0 L
set_option maxRecDepth 65536 in
set_option maxHeartbeats 40000000 in
theorem rm0 (l : Launch) (Z : State) (a0 : Array Value) (hw : ∀ d ∈ tables_1, d.before a0 Z = true) (ws : List Jvm.Cond) (p0 : Int32) (p1 : Int32) (h0 : Heap) (n0 : Nat) (Z0 : n0 ≤ h0.size) :
    MetFree l x (head1 (Jvm.Cond.code x code maxLocals ret :: ws) room_1) (fun a U => a = #[(.int p0), (.int p1)] ∧ Z.Warmed39 U.vm ∧ U.heap = h0) (fun _ _ _ _ _ => True) (fun _ U o U' => ∃ v L, o = .returned v ∧ Q0 Z p0 p1 h0 n0 v U'.heap L ∧ FrameEnd U o U' L room_1.cells room_1.slots) := by
  refine MetFree.of_bodySF (plainFor_of_name pn_0) hisR ?_
  intro p e s m args below meth c s₁ Bd hml0 hP hK
  obtain ⟨rfl, hZ, hh⟩ := hP
  have hx := Bd.exec
  have hby := Bd.bytes
  have hml : c.maxLocals = 7 := hml0
  have hown : s.vm.findClass "com/example/shunt/shunt/filter/BloomLayoutMaxCellsPinLaw" = some m.cls := findClass_of_methodNamed Bd.named
  have hnm := (name_of_methodNamed Bd.named Bd.method).1
  have X0 : Stand p l e room_1 s m #[(.int p0), (.int p1)] below meth c s₁ [] 0 0 := Stand.of_body Bd
  have e0 : s₁.heap = h0 := by rw [← hh, Bd.state]; rfl
  have N0 := Fr.nil n0
  have pre0 : ∀ t, Steps p.tables e below (s₁.setTop (mkF m 0 #[.val (.int p0), .val (.int p1), .unset, .unset, .unset, .unset, .unset] [])) t → Steps p.tables e below (s₁.setTop (entryFrame m #[(.int p0), (.int p1)] maxLocals)) t := fun t k => castTop (ef_0 m p0 p1) k
  have pre5 : ∀ t, Steps p.tables e below (s₁.setTop (mkF m 3 #[.val (.int p0), .val (.int p1), .unset, .unset, .unset, .unset, .unset] [(.int (p1 &&& (1 : Int32)))])) t → Steps p.tables e below (s₁.setTop (entryFrame m #[(.int p0), (.int p1)] maxLocals)) t := by
    intro t k
    refine pre0 t ?_
    show Steps p.tables e below (s₁.setTop (mkF m 0 #[.val (.int p0), .val (.int p1), .unset, .unset, .unset, .unset, .unset] [])) _
    refine XS.iloadN X0.here hx rfl (hb hby at_0) rfl ?_
    show Steps p.tables e below (s₁.setTop (mkF m 1 #[.val (.int p0), .val (.int p1), .unset, .unset, .unset, .unset, .unset] [(.int p1)])) _
    refine XS.iconst X0.here hx rfl (hb hby at_1) ?_
    show Steps p.tables e below (s₁.setTop (mkF m 2 #[.val (.int p0), .val (.int p1), .unset, .unset, .unset, .unset, .unset] [(.int (1 : Int32)), (.int p1)])) _
    refine XS.iand X0.here hx rfl (hb hby at_2) rfl ?_
    exact k
  by_cases hc3 : (p1 &&& (1 : Int32)) = (0 : Int32)
  · have pre6 : ∀ t, Steps p.tables e below (s₁.setTop (mkF m 21 #[.val (.int p0), .val (.int p1), .unset, .unset, .unset, .unset, .unset] [(.int (p0 &&& (2147483647 : Int32))), (.int (1 : Int32))])) t → Steps p.tables e below (s₁.setTop (entryFrame m #[(.int p0), (.int p1)] maxLocals)) t := by
      intro t k
      refine pre5 t ?_
      show Steps p.tables e below (s₁.setTop (mkF m 3 #[.val (.int p0), .val (.int p1), .unset, .unset, .unset, .unset, .unset] [(.int (p1 &&& (1 : Int32)))])) _
      refine XS.ifYes X0.here hx rfl (pc0 := 3) (pc' := 16) rfl (hb hby at_3) rfl ((if0 _ _).trans (teq hc3).1) (by decide) (by decide) ?_
      show Steps p.tables e below (s₁.setTop (mkF m 16 #[.val (.int p0), .val (.int p1), .unset, .unset, .unset, .unset, .unset] [])) _
      refine XS.iconst X0.here hx rfl (hb hby at_16) ?_
      show Steps p.tables e below (s₁.setTop (mkF m 17 #[.val (.int p0), .val (.int p1), .unset, .unset, .unset, .unset, .unset] [(.int (1 : Int32))])) _
      refine XS.iloadN X0.here hx rfl (hb hby at_17) rfl ?_
      show Steps p.tables e below (s₁.setTop (mkF m 18 #[.val (.int p0), .val (.int p1), .unset, .unset, .unset, .unset, .unset] [(.int p0), (.int (1 : Int32))])) _
      refine X0.ldcInt hx hown (mvT hZ (hw _ (List.mem_of_getElem? (i := 8) rfl))) (g := (mkF m 18 #[.val (.int p0), .val (.int p1), .unset, .unset, .unset, .unset, .unset] [(.int p0), (.int (1 : Int32))])) rfl (hb hby at_18) _ ?_
      show Steps p.tables e below (s₁.setTop (mkF m 20 #[.val (.int p0), .val (.int p1), .unset, .unset, .unset, .unset, .unset] [(.int (2147483647 : Int32)), (.int p0), (.int (1 : Int32))])) _
      refine XS.iand X0.here hx rfl (hb hby at_20) rfl ?_
      exact k
    obtain ⟨_, _, ⟨T7, L7, k7, n7⟩, -, X7, ⟨Lc7, hQ7, l7, y7, z7⟩, st7⟩ := Jvm.LawKit.callS X0 hx (y := (⟨"java/lang/Math", "max", "(II)I"⟩ : MethodName)) hown (mvT hZ (hw _ (List.mem_of_getElem? (i := 9) rfl))) (mvT hZ (hw _ (List.mem_of_getElem? (i := 10) rfl))) (mvT hZ (hw _ (List.mem_of_getElem? (i := 11) rfl))) (mvT hZ (hw _ (List.mem_of_getElem? (i := 12) rfl))) (by decide) (backOf (W := 0) (rm2 l Z a0 hw [] (1 : Int32) (p0 &&& (2147483647 : Int32))  h0 n0 Z0) hZ (hw _ (List.mem_of_getElem? (i := 12) rfl)) (hw _ (List.mem_of_getElem? (i := 11) rfl)) (by decide) (by decide)) (g := (mkF m 21 #[.val (.int p0), .val (.int p1), .unset, .unset, .unset, .unset, .unset] [(.int (p0 &&& (2147483647 : Int32))), (.int (1 : Int32))])) rfl (by rw [hml]; rfl) (argsL := [(.int (1 : Int32)), (.int (p0 &&& (2147483647 : Int32)))]) (rest := []) (lenOf pd_0 rfl) rfl (by show 2 * 0 + _ ≤ _; exact Nat.le_of_eq rfl) (hb hby at_21) (fun _ _ => ⟨rfl, e0, (by decide : 0 + 0 ≤ _), (by decide : 0 + 0 ≤ _)⟩)
    dsimp only [Pt.U, Pt.locs, Pt.cells, Pt.slots] at X7 l7 y7 z7 st7 hQ7
    subst l7 y7 z7
    obtain ⟨rfl, N7q, e7⟩ := hQ7
    have N7 := Fr.app N0 N7q
    have pre8 : ∀ t, Steps p.tables e below (T7.setTop (mkF m 24 #[.val (.int p0), .val (.int p1), .unset, .unset, .unset, .unset, .unset] [(.int (own_mx (1 : Int32) (p0 &&& (2147483647 : Int32))))])) t → Steps p.tables e below (s₁.setTop (entryFrame m #[(.int p0), (.int p1)] maxLocals)) t := fun t k => pre6 t (st7 _ k)
    have pre9 : ∀ t, Steps p.tables e below (T7.setTop (mkF m 25 #[.val (.int p0), .val (.int p1), .val (.int (own_mx (1 : Int32) (p0 &&& (2147483647 : Int32)))), .unset, .unset, .unset, .unset] [])) t → Steps p.tables e below (s₁.setTop (entryFrame m #[(.int p0), (.int p1)] maxLocals)) t := by
      intro t k
      refine pre8 t ?_
      show Steps p.tables e below (T7.setTop (mkF m 24 #[.val (.int p0), .val (.int p1), .unset, .unset, .unset, .unset, .unset] [(.int (own_mx (1 : Int32) (p0 &&& (2147483647 : Int32))))])) _
      refine XS.istoreN X7.here hx rfl (hb hby at_24) rfl (l' := #[.val (.int p0), .val (.int p1), .val (.int (own_mx (1 : Int32) (p0 &&& (2147483647 : Int32)))), .unset, .unset, .unset, .unset]) rfl ?_
      exact k
    have hcc : 1 ≤ ((own_mx (1 : Int32) (p0 &&& (2147483647 : Int32)))).toInt := own_cB p0
    have pre10 : ∀ t, Steps p.tables e below (T7.setTop (mkF m 30 #[.val (.int p0), .val (.int p1), .val (.int (own_mx (1 : Int32) (p0 &&& (2147483647 : Int32)))), .val (.long (137438952896 : Int64)), .second, .unset, .unset] [(.int (own_mx (1 : Int32) (p0 &&& (2147483647 : Int32))))])) t → Steps p.tables e below (s₁.setTop (entryFrame m #[(.int p0), (.int p1)] maxLocals)) t := by
      intro t k
      refine pre9 t ?_
      show Steps p.tables e below (T7.setTop (mkF m 25 #[.val (.int p0), .val (.int p1), .val (.int (own_mx (1 : Int32) (p0 &&& (2147483647 : Int32)))), .unset, .unset, .unset, .unset] [])) _
      refine X7.ldc2Long hx hown (mvT hZ (hw _ (List.mem_of_getElem? (i := 0) rfl))) (g := (mkF m 25 #[.val (.int p0), .val (.int p1), .val (.int (own_mx (1 : Int32) (p0 &&& (2147483647 : Int32)))), .unset, .unset, .unset, .unset] [])) rfl (hb hby at_25) _ ?_
      show Steps p.tables e below (T7.setTop (mkF m 28 #[.val (.int p0), .val (.int p1), .val (.int (own_mx (1 : Int32) (p0 &&& (2147483647 : Int32)))), .unset, .unset, .unset, .unset] [(.long (137438952896 : Int64))])) _
      refine XS.lstoreN X7.here hx rfl (hb hby at_28) rfl (l' := #[.val (.int p0), .val (.int p1), .val (.int (own_mx (1 : Int32) (p0 &&& (2147483647 : Int32)))), .val (.long (137438952896 : Int64)), .second, .unset, .unset]) rfl ?_
      show Steps p.tables e below (T7.setTop (mkF m 29 #[.val (.int p0), .val (.int p1), .val (.int (own_mx (1 : Int32) (p0 &&& (2147483647 : Int32)))), .val (.long (137438952896 : Int64)), .second, .unset, .unset] [])) _
      refine XS.iloadN X7.here hx rfl (hb hby at_29) rfl ?_
      exact k
    obtain ⟨_, _, ⟨T11, L11, k11, n11⟩, -, X11, ⟨Lc11, hQ11, l11, y11, z11⟩, st11⟩ := Jvm.LawKit.callS X7 hx (y := (⟨"com/example/shunt/shunt/filter/BloomLayout", "maxCells", "(I)J"⟩ : MethodName)) hown (mvT hZ (hw _ (List.mem_of_getElem? (i := 1) rfl))) (mvT hZ (hw _ (List.mem_of_getElem? (i := 2) rfl))) (mvT hZ (hw _ (List.mem_of_getElem? (i := 3) rfl))) (mvT hZ (hw _ (List.mem_of_getElem? (i := 4) rfl))) (by decide) (backOf (W := 0) (rm1 l Z a0 hw [] (own_mx (1 : Int32) (p0 &&& (2147483647 : Int32)))  h0 n0 Z0 hcc) hZ (hw _ (List.mem_of_getElem? (i := 4) rfl)) (hw _ (List.mem_of_getElem? (i := 3) rfl)) (by decide) (by decide)) (g := (mkF m 30 #[.val (.int p0), .val (.int p1), .val (.int (own_mx (1 : Int32) (p0 &&& (2147483647 : Int32)))), .val (.long (137438952896 : Int64)), .second, .unset, .unset] [(.int (own_mx (1 : Int32) (p0 &&& (2147483647 : Int32))))])) rfl (by rw [hml]; rfl) (argsL := [(.int (own_mx (1 : Int32) (p0 &&& (2147483647 : Int32))))]) (rest := []) (lenOf pd_1 rfl) rfl (by show 2 * 0 + _ ≤ _; exact Nat.le_of_eq rfl) (hb hby at_30) (fun _ _ => ⟨rfl, e7, (by decide : 0 + 0 ≤ _), (by decide : 0 + 0 ≤ _)⟩)
    dsimp only [Pt.U, Pt.locs, Pt.cells, Pt.slots] at X11 l11 y11 z11 st11 hQ11
    subst l11 y11 z11
    obtain ⟨rfl, N11q, e11⟩ := hQ11
    have N11 := Fr.app N7 N11q
    have pre12 : ∀ t, Steps p.tables e below (T11.setTop (mkF m 33 #[.val (.int p0), .val (.int p1), .val (.int (own_mx (1 : Int32) (p0 &&& (2147483647 : Int32)))), .val (.long (137438952896 : Int64)), .second, .unset, .unset] [(.long (own_cells (own_mx (1 : Int32) (p0 &&& (2147483647 : Int32)))))])) t → Steps p.tables e below (s₁.setTop (entryFrame m #[(.int p0), (.int p1)] maxLocals)) t := fun t k => pre10 t (st11 _ k)
    have pre13 : ∀ t, Steps p.tables e below (T11.setTop (mkF m 39 #[.val (.int p0), .val (.int p1), .val (.int (own_mx (1 : Int32) (p0 &&& (2147483647 : Int32)))), .val (.long (137438952896 : Int64)), .second, .val (.long (own_cells (own_mx (1 : Int32) (p0 &&& (2147483647 : Int32))))), .second] [(.int (lcmpW (own_cells (own_mx (1 : Int32) (p0 &&& (2147483647 : Int32)))) (0 : Int64)))])) t → Steps p.tables e below (s₁.setTop (entryFrame m #[(.int p0), (.int p1)] maxLocals)) t := by
      intro t k
      refine pre12 t ?_
      show Steps p.tables e below (T11.setTop (mkF m 33 #[.val (.int p0), .val (.int p1), .val (.int (own_mx (1 : Int32) (p0 &&& (2147483647 : Int32)))), .val (.long (137438952896 : Int64)), .second, .unset, .unset] [(.long (own_cells (own_mx (1 : Int32) (p0 &&& (2147483647 : Int32)))))])) _
      refine XS.lstore X11.here hx rfl (hb hby at_33) rfl (l' := #[.val (.int p0), .val (.int p1), .val (.int (own_mx (1 : Int32) (p0 &&& (2147483647 : Int32)))), .val (.long (137438952896 : Int64)), .second, .val (.long (own_cells (own_mx (1 : Int32) (p0 &&& (2147483647 : Int32))))), .second]) rfl ?_
      show Steps p.tables e below (T11.setTop (mkF m 35 #[.val (.int p0), .val (.int p1), .val (.int (own_mx (1 : Int32) (p0 &&& (2147483647 : Int32)))), .val (.long (137438952896 : Int64)), .second, .val (.long (own_cells (own_mx (1 : Int32) (p0 &&& (2147483647 : Int32))))), .second] [])) _
      refine XS.lload X11.here hx rfl (hb hby at_35) rfl ?_
      show Steps p.tables e below (T11.setTop (mkF m 37 #[.val (.int p0), .val (.int p1), .val (.int (own_mx (1 : Int32) (p0 &&& (2147483647 : Int32)))), .val (.long (137438952896 : Int64)), .second, .val (.long (own_cells (own_mx (1 : Int32) (p0 &&& (2147483647 : Int32))))), .second] [(.long (own_cells (own_mx (1 : Int32) (p0 &&& (2147483647 : Int32)))))])) _
      refine XS.lconst X11.here hx rfl (hb hby at_37) ?_
      show Steps p.tables e below (T11.setTop (mkF m 38 #[.val (.int p0), .val (.int p1), .val (.int (own_mx (1 : Int32) (p0 &&& (2147483647 : Int32)))), .val (.long (137438952896 : Int64)), .second, .val (.long (own_cells (own_mx (1 : Int32) (p0 &&& (2147483647 : Int32))))), .second] [(.long (0 : Int64)), (.long (own_cells (own_mx (1 : Int32) (p0 &&& (2147483647 : Int32)))))])) _
      refine XS.lcmp X11.here hx rfl (hb hby at_38) rfl ?_
      exact k
    by_cases hc39 : (own_cells (own_mx (1 : Int32) (p0 &&& (2147483647 : Int32)))) < (0 : Int64)
    · exfalso
      exact own_k1 hcc hc39
    · have pre14 : ∀ t, Steps p.tables e below (T11.setTop (mkF m 52 #[.val (.int p0), .val (.int p1), .val (.int (own_mx (1 : Int32) (p0 &&& (2147483647 : Int32)))), .val (.long (137438952896 : Int64)), .second, .val (.long (own_cells (own_mx (1 : Int32) (p0 &&& (2147483647 : Int32))))), .second] [(.int (lcmpW ((own_cells (own_mx (1 : Int32) (p0 &&& (2147483647 : Int32)))) % (64 : Int64)) (0 : Int64)))])) t → Steps p.tables e below (s₁.setTop (entryFrame m #[(.int p0), (.int p1)] maxLocals)) t := by
        intro t k
        refine pre13 t ?_
        show Steps p.tables e below (T11.setTop (mkF m 39 #[.val (.int p0), .val (.int p1), .val (.int (own_mx (1 : Int32) (p0 &&& (2147483647 : Int32)))), .val (.long (137438952896 : Int64)), .second, .val (.long (own_cells (own_mx (1 : Int32) (p0 &&& (2147483647 : Int32))))), .second] [(.int (lcmpW (own_cells (own_mx (1 : Int32) (p0 &&& (2147483647 : Int32)))) (0 : Int64)))])) _
        refine XS.ifYes X11.here hx rfl (pc0 := 39) (pc' := 44) rfl (hb hby at_39) rfl ((if0 _ _).trans (flt (fun q => hc39 ((lw_lt _ _).mp q))).2.1) (by decide) (by decide) ?_
        show Steps p.tables e below (T11.setTop (mkF m 44 #[.val (.int p0), .val (.int p1), .val (.int (own_mx (1 : Int32) (p0 &&& (2147483647 : Int32)))), .val (.long (137438952896 : Int64)), .second, .val (.long (own_cells (own_mx (1 : Int32) (p0 &&& (2147483647 : Int32))))), .second] [])) _
        refine XS.lload X11.here hx rfl (hb hby at_44) rfl ?_
        show Steps p.tables e below (T11.setTop (mkF m 46 #[.val (.int p0), .val (.int p1), .val (.int (own_mx (1 : Int32) (p0 &&& (2147483647 : Int32)))), .val (.long (137438952896 : Int64)), .second, .val (.long (own_cells (own_mx (1 : Int32) (p0 &&& (2147483647 : Int32))))), .second] [(.long (own_cells (own_mx (1 : Int32) (p0 &&& (2147483647 : Int32)))))])) _
        refine X11.ldc2Long hx hown (mvT hZ (hw _ (List.mem_of_getElem? (i := 7) rfl))) (g := (mkF m 46 #[.val (.int p0), .val (.int p1), .val (.int (own_mx (1 : Int32) (p0 &&& (2147483647 : Int32)))), .val (.long (137438952896 : Int64)), .second, .val (.long (own_cells (own_mx (1 : Int32) (p0 &&& (2147483647 : Int32))))), .second] [(.long (own_cells (own_mx (1 : Int32) (p0 &&& (2147483647 : Int32)))))])) rfl (hb hby at_46) _ ?_
        show Steps p.tables e below (T11.setTop (mkF m 49 #[.val (.int p0), .val (.int p1), .val (.int (own_mx (1 : Int32) (p0 &&& (2147483647 : Int32)))), .val (.long (137438952896 : Int64)), .second, .val (.long (own_cells (own_mx (1 : Int32) (p0 &&& (2147483647 : Int32))))), .second] [(.long (64 : Int64)), (.long (own_cells (own_mx (1 : Int32) (p0 &&& (2147483647 : Int32)))))])) _
        refine XS.lrem X11.here hx rfl (hb hby at_49) rfl (by decide) ?_
        rw [lrem_mod]
        show Steps p.tables e below (T11.setTop (mkF m 50 #[.val (.int p0), .val (.int p1), .val (.int (own_mx (1 : Int32) (p0 &&& (2147483647 : Int32)))), .val (.long (137438952896 : Int64)), .second, .val (.long (own_cells (own_mx (1 : Int32) (p0 &&& (2147483647 : Int32))))), .second] [(.long ((own_cells (own_mx (1 : Int32) (p0 &&& (2147483647 : Int32)))) % (64 : Int64)))])) _
        refine XS.lconst X11.here hx rfl (hb hby at_50) ?_
        show Steps p.tables e below (T11.setTop (mkF m 51 #[.val (.int p0), .val (.int p1), .val (.int (own_mx (1 : Int32) (p0 &&& (2147483647 : Int32)))), .val (.long (137438952896 : Int64)), .second, .val (.long (own_cells (own_mx (1 : Int32) (p0 &&& (2147483647 : Int32))))), .second] [(.long (0 : Int64)), (.long ((own_cells (own_mx (1 : Int32) (p0 &&& (2147483647 : Int32)))) % (64 : Int64)))])) _
        refine XS.lcmp X11.here hx rfl (hb hby at_51) rfl ?_
        exact k
      by_cases hc52 : ((own_cells (own_mx (1 : Int32) (p0 &&& (2147483647 : Int32)))) % (64 : Int64)) = (0 : Int64)
      · have pre15 : ∀ t, Steps p.tables e below (T11.setTop (mkF m 64 #[.val (.int p0), .val (.int p1), .val (.int (own_mx (1 : Int32) (p0 &&& (2147483647 : Int32)))), .val (.long (137438952896 : Int64)), .second, .val (.long (own_cells (own_mx (1 : Int32) (p0 &&& (2147483647 : Int32))))), .second] [(.int (lcmpW ((own_cells (own_mx (1 : Int32) (p0 &&& (2147483647 : Int32)))) * ((own_mx (1 : Int32) (p0 &&& (2147483647 : Int32))).toInt64)) (137438952896 : Int64)))])) t → Steps p.tables e below (s₁.setTop (entryFrame m #[(.int p0), (.int p1)] maxLocals)) t := by
          intro t k
          refine pre14 t ?_
          show Steps p.tables e below (T11.setTop (mkF m 52 #[.val (.int p0), .val (.int p1), .val (.int (own_mx (1 : Int32) (p0 &&& (2147483647 : Int32)))), .val (.long (137438952896 : Int64)), .second, .val (.long (own_cells (own_mx (1 : Int32) (p0 &&& (2147483647 : Int32))))), .second] [(.int (lcmpW ((own_cells (own_mx (1 : Int32) (p0 &&& (2147483647 : Int32)))) % (64 : Int64)) (0 : Int64)))])) _
          refine XS.ifYes X11.here hx rfl (pc0 := 52) (pc' := 57) rfl (hb hby at_52) rfl ((if0 _ _).trans (teq ((lw_eq _ _).mpr hc52)).1) (by decide) (by decide) ?_
          show Steps p.tables e below (T11.setTop (mkF m 57 #[.val (.int p0), .val (.int p1), .val (.int (own_mx (1 : Int32) (p0 &&& (2147483647 : Int32)))), .val (.long (137438952896 : Int64)), .second, .val (.long (own_cells (own_mx (1 : Int32) (p0 &&& (2147483647 : Int32))))), .second] [])) _
          refine XS.lload X11.here hx rfl (hb hby at_57) rfl ?_
          show Steps p.tables e below (T11.setTop (mkF m 59 #[.val (.int p0), .val (.int p1), .val (.int (own_mx (1 : Int32) (p0 &&& (2147483647 : Int32)))), .val (.long (137438952896 : Int64)), .second, .val (.long (own_cells (own_mx (1 : Int32) (p0 &&& (2147483647 : Int32))))), .second] [(.long (own_cells (own_mx (1 : Int32) (p0 &&& (2147483647 : Int32)))))])) _
          refine XS.iloadN X11.here hx rfl (hb hby at_59) rfl ?_
          show Steps p.tables e below (T11.setTop (mkF m 60 #[.val (.int p0), .val (.int p1), .val (.int (own_mx (1 : Int32) (p0 &&& (2147483647 : Int32)))), .val (.long (137438952896 : Int64)), .second, .val (.long (own_cells (own_mx (1 : Int32) (p0 &&& (2147483647 : Int32))))), .second] [(.int (own_mx (1 : Int32) (p0 &&& (2147483647 : Int32)))), (.long (own_cells (own_mx (1 : Int32) (p0 &&& (2147483647 : Int32)))))])) _
          refine XS.i2l X11.here hx rfl (hb hby at_60) rfl ?_
          show Steps p.tables e below (T11.setTop (mkF m 61 #[.val (.int p0), .val (.int p1), .val (.int (own_mx (1 : Int32) (p0 &&& (2147483647 : Int32)))), .val (.long (137438952896 : Int64)), .second, .val (.long (own_cells (own_mx (1 : Int32) (p0 &&& (2147483647 : Int32))))), .second] [(.long ((own_mx (1 : Int32) (p0 &&& (2147483647 : Int32))).toInt64)), (.long (own_cells (own_mx (1 : Int32) (p0 &&& (2147483647 : Int32)))))])) _
          refine XS.lmul X11.here hx rfl (hb hby at_61) rfl ?_
          show Steps p.tables e below (T11.setTop (mkF m 62 #[.val (.int p0), .val (.int p1), .val (.int (own_mx (1 : Int32) (p0 &&& (2147483647 : Int32)))), .val (.long (137438952896 : Int64)), .second, .val (.long (own_cells (own_mx (1 : Int32) (p0 &&& (2147483647 : Int32))))), .second] [(.long ((own_cells (own_mx (1 : Int32) (p0 &&& (2147483647 : Int32)))) * ((own_mx (1 : Int32) (p0 &&& (2147483647 : Int32))).toInt64)))])) _
          refine XS.lloadN X11.here hx rfl (hb hby at_62) rfl ?_
          show Steps p.tables e below (T11.setTop (mkF m 63 #[.val (.int p0), .val (.int p1), .val (.int (own_mx (1 : Int32) (p0 &&& (2147483647 : Int32)))), .val (.long (137438952896 : Int64)), .second, .val (.long (own_cells (own_mx (1 : Int32) (p0 &&& (2147483647 : Int32))))), .second] [(.long (137438952896 : Int64)), (.long ((own_cells (own_mx (1 : Int32) (p0 &&& (2147483647 : Int32)))) * ((own_mx (1 : Int32) (p0 &&& (2147483647 : Int32))).toInt64)))])) _
          refine XS.lcmp X11.here hx rfl (hb hby at_63) rfl ?_
          exact k
        by_cases hc64 : (137438952896 : Int64) < ((own_cells (own_mx (1 : Int32) (p0 &&& (2147483647 : Int32)))) * ((own_mx (1 : Int32) (p0 &&& (2147483647 : Int32))).toInt64))
        · exfalso
          exact own_k3 hcc hc64
        · have pre16 : ∀ t, Steps p.tables e below (T11.setTop (mkF m 80 #[.val (.int p0), .val (.int p1), .val (.int (own_mx (1 : Int32) (p0 &&& (2147483647 : Int32)))), .val (.long (137438952896 : Int64)), .second, .val (.long (own_cells (own_mx (1 : Int32) (p0 &&& (2147483647 : Int32))))), .second] [(.int (lcmpW (((own_cells (own_mx (1 : Int32) (p0 &&& (2147483647 : Int32)))) + (64 : Int64)) * ((own_mx (1 : Int32) (p0 &&& (2147483647 : Int32))).toInt64)) (137438952896 : Int64)))])) t → Steps p.tables e below (s₁.setTop (entryFrame m #[(.int p0), (.int p1)] maxLocals)) t := by
            intro t k
            refine pre15 t ?_
            show Steps p.tables e below (T11.setTop (mkF m 64 #[.val (.int p0), .val (.int p1), .val (.int (own_mx (1 : Int32) (p0 &&& (2147483647 : Int32)))), .val (.long (137438952896 : Int64)), .second, .val (.long (own_cells (own_mx (1 : Int32) (p0 &&& (2147483647 : Int32))))), .second] [(.int (lcmpW ((own_cells (own_mx (1 : Int32) (p0 &&& (2147483647 : Int32)))) * ((own_mx (1 : Int32) (p0 &&& (2147483647 : Int32))).toInt64)) (137438952896 : Int64)))])) _
            refine XS.ifYes X11.here hx rfl (pc0 := 64) (pc' := 69) rfl (hb hby at_64) rfl ((if0 _ _).trans (flt (fun q => hc64 ((lw_gt _ _).mp q))).2.2.2) (by decide) (by decide) ?_
            show Steps p.tables e below (T11.setTop (mkF m 69 #[.val (.int p0), .val (.int p1), .val (.int (own_mx (1 : Int32) (p0 &&& (2147483647 : Int32)))), .val (.long (137438952896 : Int64)), .second, .val (.long (own_cells (own_mx (1 : Int32) (p0 &&& (2147483647 : Int32))))), .second] [])) _
            refine XS.lload X11.here hx rfl (hb hby at_69) rfl ?_
            show Steps p.tables e below (T11.setTop (mkF m 71 #[.val (.int p0), .val (.int p1), .val (.int (own_mx (1 : Int32) (p0 &&& (2147483647 : Int32)))), .val (.long (137438952896 : Int64)), .second, .val (.long (own_cells (own_mx (1 : Int32) (p0 &&& (2147483647 : Int32))))), .second] [(.long (own_cells (own_mx (1 : Int32) (p0 &&& (2147483647 : Int32)))))])) _
            refine X11.ldc2Long hx hown (mvT hZ (hw _ (List.mem_of_getElem? (i := 7) rfl))) (g := (mkF m 71 #[.val (.int p0), .val (.int p1), .val (.int (own_mx (1 : Int32) (p0 &&& (2147483647 : Int32)))), .val (.long (137438952896 : Int64)), .second, .val (.long (own_cells (own_mx (1 : Int32) (p0 &&& (2147483647 : Int32))))), .second] [(.long (own_cells (own_mx (1 : Int32) (p0 &&& (2147483647 : Int32)))))])) rfl (hb hby at_71) _ ?_
            show Steps p.tables e below (T11.setTop (mkF m 74 #[.val (.int p0), .val (.int p1), .val (.int (own_mx (1 : Int32) (p0 &&& (2147483647 : Int32)))), .val (.long (137438952896 : Int64)), .second, .val (.long (own_cells (own_mx (1 : Int32) (p0 &&& (2147483647 : Int32))))), .second] [(.long (64 : Int64)), (.long (own_cells (own_mx (1 : Int32) (p0 &&& (2147483647 : Int32)))))])) _
            refine XS.ladd X11.here hx rfl (hb hby at_74) rfl ?_
            show Steps p.tables e below (T11.setTop (mkF m 75 #[.val (.int p0), .val (.int p1), .val (.int (own_mx (1 : Int32) (p0 &&& (2147483647 : Int32)))), .val (.long (137438952896 : Int64)), .second, .val (.long (own_cells (own_mx (1 : Int32) (p0 &&& (2147483647 : Int32))))), .second] [(.long ((own_cells (own_mx (1 : Int32) (p0 &&& (2147483647 : Int32)))) + (64 : Int64)))])) _
            refine XS.iloadN X11.here hx rfl (hb hby at_75) rfl ?_
            show Steps p.tables e below (T11.setTop (mkF m 76 #[.val (.int p0), .val (.int p1), .val (.int (own_mx (1 : Int32) (p0 &&& (2147483647 : Int32)))), .val (.long (137438952896 : Int64)), .second, .val (.long (own_cells (own_mx (1 : Int32) (p0 &&& (2147483647 : Int32))))), .second] [(.int (own_mx (1 : Int32) (p0 &&& (2147483647 : Int32)))), (.long ((own_cells (own_mx (1 : Int32) (p0 &&& (2147483647 : Int32)))) + (64 : Int64)))])) _
            refine XS.i2l X11.here hx rfl (hb hby at_76) rfl ?_
            show Steps p.tables e below (T11.setTop (mkF m 77 #[.val (.int p0), .val (.int p1), .val (.int (own_mx (1 : Int32) (p0 &&& (2147483647 : Int32)))), .val (.long (137438952896 : Int64)), .second, .val (.long (own_cells (own_mx (1 : Int32) (p0 &&& (2147483647 : Int32))))), .second] [(.long ((own_mx (1 : Int32) (p0 &&& (2147483647 : Int32))).toInt64)), (.long ((own_cells (own_mx (1 : Int32) (p0 &&& (2147483647 : Int32)))) + (64 : Int64)))])) _
            refine XS.lmul X11.here hx rfl (hb hby at_77) rfl ?_
            show Steps p.tables e below (T11.setTop (mkF m 78 #[.val (.int p0), .val (.int p1), .val (.int (own_mx (1 : Int32) (p0 &&& (2147483647 : Int32)))), .val (.long (137438952896 : Int64)), .second, .val (.long (own_cells (own_mx (1 : Int32) (p0 &&& (2147483647 : Int32))))), .second] [(.long (((own_cells (own_mx (1 : Int32) (p0 &&& (2147483647 : Int32)))) + (64 : Int64)) * ((own_mx (1 : Int32) (p0 &&& (2147483647 : Int32))).toInt64)))])) _
            refine XS.lloadN X11.here hx rfl (hb hby at_78) rfl ?_
            show Steps p.tables e below (T11.setTop (mkF m 79 #[.val (.int p0), .val (.int p1), .val (.int (own_mx (1 : Int32) (p0 &&& (2147483647 : Int32)))), .val (.long (137438952896 : Int64)), .second, .val (.long (own_cells (own_mx (1 : Int32) (p0 &&& (2147483647 : Int32))))), .second] [(.long (137438952896 : Int64)), (.long (((own_cells (own_mx (1 : Int32) (p0 &&& (2147483647 : Int32)))) + (64 : Int64)) * ((own_mx (1 : Int32) (p0 &&& (2147483647 : Int32))).toInt64)))])) _
            refine XS.lcmp X11.here hx rfl (hb hby at_79) rfl ?_
            exact k
          by_cases hc80 : (137438952896 : Int64) < (((own_cells (own_mx (1 : Int32) (p0 &&& (2147483647 : Int32)))) + (64 : Int64)) * ((own_mx (1 : Int32) (p0 &&& (2147483647 : Int32))).toInt64))
          · have pre17 : ∀ t, Steps p.tables e below (T11.setTop (mkF m 88 #[.val (.int p0), .val (.int p1), .val (.int (own_mx (1 : Int32) (p0 &&& (2147483647 : Int32)))), .val (.long (137438952896 : Int64)), .second, .val (.long (own_cells (own_mx (1 : Int32) (p0 &&& (2147483647 : Int32))))), .second] [(.int (1 : Int32))])) t → Steps p.tables e below (s₁.setTop (entryFrame m #[(.int p0), (.int p1)] maxLocals)) t := by
              intro t k
              refine pre16 t ?_
              show Steps p.tables e below (T11.setTop (mkF m 80 #[.val (.int p0), .val (.int p1), .val (.int (own_mx (1 : Int32) (p0 &&& (2147483647 : Int32)))), .val (.long (137438952896 : Int64)), .second, .val (.long (own_cells (own_mx (1 : Int32) (p0 &&& (2147483647 : Int32))))), .second] [(.int (lcmpW (((own_cells (own_mx (1 : Int32) (p0 &&& (2147483647 : Int32)))) + (64 : Int64)) * ((own_mx (1 : Int32) (p0 &&& (2147483647 : Int32))).toInt64)) (137438952896 : Int64)))])) _
              refine XS.ifNo X11.here hx rfl (hb hby at_80) rfl ((if0 _ _).trans (tlt ((lw_gt _ _).mpr hc80)).2.2.2) ?_
              show Steps p.tables e below (T11.setTop (mkF m 83 #[.val (.int p0), .val (.int p1), .val (.int (own_mx (1 : Int32) (p0 &&& (2147483647 : Int32)))), .val (.long (137438952896 : Int64)), .second, .val (.long (own_cells (own_mx (1 : Int32) (p0 &&& (2147483647 : Int32))))), .second] [])) _
              refine XS.iconst X11.here hx rfl (hb hby at_83) ?_
              show Steps p.tables e below (T11.setTop (mkF m 84 #[.val (.int p0), .val (.int p1), .val (.int (own_mx (1 : Int32) (p0 &&& (2147483647 : Int32)))), .val (.long (137438952896 : Int64)), .second, .val (.long (own_cells (own_mx (1 : Int32) (p0 &&& (2147483647 : Int32))))), .second] [(.int (1 : Int32))])) _
              refine XS.goto X11.here hx rfl (pc0 := 84) (pc' := 88) rfl (hb hby at_84) (by decide) (by decide) ?_
              exact k
            obtain ⟨fs, hr, hrun, hended, hW, hsame⟩ := X11.leave (v := some (.int (1 : Int32))) (fun h => by rw [Bd.returns] at h; cases h)
            refine ⟨_, _, pre17 _ ?_, hrun, hended, _, _, rfl, ?_, ⟨_, rfl⟩, hW, hsame.mono (by decide) (by decide)⟩
            · exact retN X11 hx (t := .boolean) Bd.returns (by simp) (hb hby at_88) hr
            · show Q0 Z p0 p1 h0 n0 _ T11.heap _
              rw [e11]
              exact ⟨rfl, N11⟩
          · exfalso
            exact hc80 (own_k4 hcc)
      · exfalso
        exact hc52 (own_k2 hcc)
  · have pre18 : ∀ t, Steps p.tables e below (s₁.setTop (mkF m 25 #[.val (.int p0), .val (.int p1), .val (.int ((p0 &&& (63 : Int32)) + (1 : Int32))), .unset, .unset, .unset, .unset] [])) t → Steps p.tables e below (s₁.setTop (entryFrame m #[(.int p0), (.int p1)] maxLocals)) t := by
      intro t k
      refine pre5 t ?_
      show Steps p.tables e below (s₁.setTop (mkF m 3 #[.val (.int p0), .val (.int p1), .unset, .unset, .unset, .unset, .unset] [(.int (p1 &&& (1 : Int32)))])) _
      refine XS.ifNo X0.here hx rfl (hb hby at_3) rfl ((if0 _ _).trans (feq hc3).1) ?_
      show Steps p.tables e below (s₁.setTop (mkF m 6 #[.val (.int p0), .val (.int p1), .unset, .unset, .unset, .unset, .unset] [])) _
      refine XS.iloadN X0.here hx rfl (hb hby at_6) rfl ?_
      show Steps p.tables e below (s₁.setTop (mkF m 7 #[.val (.int p0), .val (.int p1), .unset, .unset, .unset, .unset, .unset] [(.int p0)])) _
      refine XS.bipush X0.here hx rfl (hb hby at_7) ?_
      show Steps p.tables e below (s₁.setTop (mkF m 9 #[.val (.int p0), .val (.int p1), .unset, .unset, .unset, .unset, .unset] [(.int (63 : Int32)), (.int p0)])) _
      refine XS.iand X0.here hx rfl (hb hby at_9) rfl ?_
      show Steps p.tables e below (s₁.setTop (mkF m 10 #[.val (.int p0), .val (.int p1), .unset, .unset, .unset, .unset, .unset] [(.int (p0 &&& (63 : Int32)))])) _
      refine XS.iconst X0.here hx rfl (hb hby at_10) ?_
      show Steps p.tables e below (s₁.setTop (mkF m 11 #[.val (.int p0), .val (.int p1), .unset, .unset, .unset, .unset, .unset] [(.int (1 : Int32)), (.int (p0 &&& (63 : Int32)))])) _
      refine XS.iadd X0.here hx rfl (hb hby at_11) rfl ?_
      show Steps p.tables e below (s₁.setTop (mkF m 12 #[.val (.int p0), .val (.int p1), .unset, .unset, .unset, .unset, .unset] [(.int ((p0 &&& (63 : Int32)) + (1 : Int32)))])) _
      refine XS.istoreN X0.here hx rfl (hb hby at_12) rfl (l' := #[.val (.int p0), .val (.int p1), .val (.int ((p0 &&& (63 : Int32)) + (1 : Int32))), .unset, .unset, .unset, .unset]) rfl ?_
      show Steps p.tables e below (s₁.setTop (mkF m 13 #[.val (.int p0), .val (.int p1), .val (.int ((p0 &&& (63 : Int32)) + (1 : Int32))), .unset, .unset, .unset, .unset] [])) _
      refine XS.goto X0.here hx rfl (pc0 := 13) (pc' := 25) rfl (hb hby at_13) (by decide) (by decide) ?_
      exact k
    have hcc : 1 ≤ (((p0 &&& (63 : Int32)) + (1 : Int32))).toInt := own_cA p0
    have pre19 : ∀ t, Steps p.tables e below (s₁.setTop (mkF m 30 #[.val (.int p0), .val (.int p1), .val (.int ((p0 &&& (63 : Int32)) + (1 : Int32))), .val (.long (137438952896 : Int64)), .second, .unset, .unset] [(.int ((p0 &&& (63 : Int32)) + (1 : Int32)))])) t → Steps p.tables e below (s₁.setTop (entryFrame m #[(.int p0), (.int p1)] maxLocals)) t := by
      intro t k
      refine pre18 t ?_
      show Steps p.tables e below (s₁.setTop (mkF m 25 #[.val (.int p0), .val (.int p1), .val (.int ((p0 &&& (63 : Int32)) + (1 : Int32))), .unset, .unset, .unset, .unset] [])) _
      refine X0.ldc2Long hx hown (mvT hZ (hw _ (List.mem_of_getElem? (i := 0) rfl))) (g := (mkF m 25 #[.val (.int p0), .val (.int p1), .val (.int ((p0 &&& (63 : Int32)) + (1 : Int32))), .unset, .unset, .unset, .unset] [])) rfl (hb hby at_25) _ ?_
      show Steps p.tables e below (s₁.setTop (mkF m 28 #[.val (.int p0), .val (.int p1), .val (.int ((p0 &&& (63 : Int32)) + (1 : Int32))), .unset, .unset, .unset, .unset] [(.long (137438952896 : Int64))])) _
      refine XS.lstoreN X0.here hx rfl (hb hby at_28) rfl (l' := #[.val (.int p0), .val (.int p1), .val (.int ((p0 &&& (63 : Int32)) + (1 : Int32))), .val (.long (137438952896 : Int64)), .second, .unset, .unset]) rfl ?_
      show Steps p.tables e below (s₁.setTop (mkF m 29 #[.val (.int p0), .val (.int p1), .val (.int ((p0 &&& (63 : Int32)) + (1 : Int32))), .val (.long (137438952896 : Int64)), .second, .unset, .unset] [])) _
      refine XS.iloadN X0.here hx rfl (hb hby at_29) rfl ?_
      exact k
    obtain ⟨_, _, ⟨T20, L20, k20, n20⟩, -, X20, ⟨Lc20, hQ20, l20, y20, z20⟩, st20⟩ := Jvm.LawKit.callS X0 hx (y := (⟨"com/example/shunt/shunt/filter/BloomLayout", "maxCells", "(I)J"⟩ : MethodName)) hown (mvT hZ (hw _ (List.mem_of_getElem? (i := 1) rfl))) (mvT hZ (hw _ (List.mem_of_getElem? (i := 2) rfl))) (mvT hZ (hw _ (List.mem_of_getElem? (i := 3) rfl))) (mvT hZ (hw _ (List.mem_of_getElem? (i := 4) rfl))) (by decide) (backOf (W := 0) (rm1 l Z a0 hw [] ((p0 &&& (63 : Int32)) + (1 : Int32))  h0 n0 Z0 hcc) hZ (hw _ (List.mem_of_getElem? (i := 4) rfl)) (hw _ (List.mem_of_getElem? (i := 3) rfl)) (by decide) (by decide)) (g := (mkF m 30 #[.val (.int p0), .val (.int p1), .val (.int ((p0 &&& (63 : Int32)) + (1 : Int32))), .val (.long (137438952896 : Int64)), .second, .unset, .unset] [(.int ((p0 &&& (63 : Int32)) + (1 : Int32)))])) rfl (by rw [hml]; rfl) (argsL := [(.int ((p0 &&& (63 : Int32)) + (1 : Int32)))]) (rest := []) (lenOf pd_1 rfl) rfl (by show 2 * 0 + _ ≤ _; exact Nat.le_of_eq rfl) (hb hby at_30) (fun _ _ => ⟨rfl, e0, (by decide : 0 + 0 ≤ _), (by decide : 0 + 0 ≤ _)⟩)
    dsimp only [Pt.U, Pt.locs, Pt.cells, Pt.slots] at X20 l20 y20 z20 st20 hQ20
    subst l20 y20 z20
    obtain ⟨rfl, N20q, e20⟩ := hQ20
    have N20 := Fr.app N0 N20q
    have pre21 : ∀ t, Steps p.tables e below (T20.setTop (mkF m 33 #[.val (.int p0), .val (.int p1), .val (.int ((p0 &&& (63 : Int32)) + (1 : Int32))), .val (.long (137438952896 : Int64)), .second, .unset, .unset] [(.long (own_cells ((p0 &&& (63 : Int32)) + (1 : Int32))))])) t → Steps p.tables e below (s₁.setTop (entryFrame m #[(.int p0), (.int p1)] maxLocals)) t := fun t k => pre19 t (st20 _ k)
    have pre22 : ∀ t, Steps p.tables e below (T20.setTop (mkF m 39 #[.val (.int p0), .val (.int p1), .val (.int ((p0 &&& (63 : Int32)) + (1 : Int32))), .val (.long (137438952896 : Int64)), .second, .val (.long (own_cells ((p0 &&& (63 : Int32)) + (1 : Int32)))), .second] [(.int (lcmpW (own_cells ((p0 &&& (63 : Int32)) + (1 : Int32))) (0 : Int64)))])) t → Steps p.tables e below (s₁.setTop (entryFrame m #[(.int p0), (.int p1)] maxLocals)) t := by
      intro t k
      refine pre21 t ?_
      show Steps p.tables e below (T20.setTop (mkF m 33 #[.val (.int p0), .val (.int p1), .val (.int ((p0 &&& (63 : Int32)) + (1 : Int32))), .val (.long (137438952896 : Int64)), .second, .unset, .unset] [(.long (own_cells ((p0 &&& (63 : Int32)) + (1 : Int32))))])) _
      refine XS.lstore X20.here hx rfl (hb hby at_33) rfl (l' := #[.val (.int p0), .val (.int p1), .val (.int ((p0 &&& (63 : Int32)) + (1 : Int32))), .val (.long (137438952896 : Int64)), .second, .val (.long (own_cells ((p0 &&& (63 : Int32)) + (1 : Int32)))), .second]) rfl ?_
      show Steps p.tables e below (T20.setTop (mkF m 35 #[.val (.int p0), .val (.int p1), .val (.int ((p0 &&& (63 : Int32)) + (1 : Int32))), .val (.long (137438952896 : Int64)), .second, .val (.long (own_cells ((p0 &&& (63 : Int32)) + (1 : Int32)))), .second] [])) _
      refine XS.lload X20.here hx rfl (hb hby at_35) rfl ?_
      show Steps p.tables e below (T20.setTop (mkF m 37 #[.val (.int p0), .val (.int p1), .val (.int ((p0 &&& (63 : Int32)) + (1 : Int32))), .val (.long (137438952896 : Int64)), .second, .val (.long (own_cells ((p0 &&& (63 : Int32)) + (1 : Int32)))), .second] [(.long (own_cells ((p0 &&& (63 : Int32)) + (1 : Int32))))])) _
      refine XS.lconst X20.here hx rfl (hb hby at_37) ?_
      show Steps p.tables e below (T20.setTop (mkF m 38 #[.val (.int p0), .val (.int p1), .val (.int ((p0 &&& (63 : Int32)) + (1 : Int32))), .val (.long (137438952896 : Int64)), .second, .val (.long (own_cells ((p0 &&& (63 : Int32)) + (1 : Int32)))), .second] [(.long (0 : Int64)), (.long (own_cells ((p0 &&& (63 : Int32)) + (1 : Int32))))])) _
      refine XS.lcmp X20.here hx rfl (hb hby at_38) rfl ?_
      exact k
    by_cases hc39 : (own_cells ((p0 &&& (63 : Int32)) + (1 : Int32))) < (0 : Int64)
    · exfalso
      exact own_k1 hcc hc39
    · have pre23 : ∀ t, Steps p.tables e below (T20.setTop (mkF m 52 #[.val (.int p0), .val (.int p1), .val (.int ((p0 &&& (63 : Int32)) + (1 : Int32))), .val (.long (137438952896 : Int64)), .second, .val (.long (own_cells ((p0 &&& (63 : Int32)) + (1 : Int32)))), .second] [(.int (lcmpW ((own_cells ((p0 &&& (63 : Int32)) + (1 : Int32))) % (64 : Int64)) (0 : Int64)))])) t → Steps p.tables e below (s₁.setTop (entryFrame m #[(.int p0), (.int p1)] maxLocals)) t := by
        intro t k
        refine pre22 t ?_
        show Steps p.tables e below (T20.setTop (mkF m 39 #[.val (.int p0), .val (.int p1), .val (.int ((p0 &&& (63 : Int32)) + (1 : Int32))), .val (.long (137438952896 : Int64)), .second, .val (.long (own_cells ((p0 &&& (63 : Int32)) + (1 : Int32)))), .second] [(.int (lcmpW (own_cells ((p0 &&& (63 : Int32)) + (1 : Int32))) (0 : Int64)))])) _
        refine XS.ifYes X20.here hx rfl (pc0 := 39) (pc' := 44) rfl (hb hby at_39) rfl ((if0 _ _).trans (flt (fun q => hc39 ((lw_lt _ _).mp q))).2.1) (by decide) (by decide) ?_
        show Steps p.tables e below (T20.setTop (mkF m 44 #[.val (.int p0), .val (.int p1), .val (.int ((p0 &&& (63 : Int32)) + (1 : Int32))), .val (.long (137438952896 : Int64)), .second, .val (.long (own_cells ((p0 &&& (63 : Int32)) + (1 : Int32)))), .second] [])) _
        refine XS.lload X20.here hx rfl (hb hby at_44) rfl ?_
        show Steps p.tables e below (T20.setTop (mkF m 46 #[.val (.int p0), .val (.int p1), .val (.int ((p0 &&& (63 : Int32)) + (1 : Int32))), .val (.long (137438952896 : Int64)), .second, .val (.long (own_cells ((p0 &&& (63 : Int32)) + (1 : Int32)))), .second] [(.long (own_cells ((p0 &&& (63 : Int32)) + (1 : Int32))))])) _
        refine X20.ldc2Long hx hown (mvT hZ (hw _ (List.mem_of_getElem? (i := 7) rfl))) (g := (mkF m 46 #[.val (.int p0), .val (.int p1), .val (.int ((p0 &&& (63 : Int32)) + (1 : Int32))), .val (.long (137438952896 : Int64)), .second, .val (.long (own_cells ((p0 &&& (63 : Int32)) + (1 : Int32)))), .second] [(.long (own_cells ((p0 &&& (63 : Int32)) + (1 : Int32))))])) rfl (hb hby at_46) _ ?_
        show Steps p.tables e below (T20.setTop (mkF m 49 #[.val (.int p0), .val (.int p1), .val (.int ((p0 &&& (63 : Int32)) + (1 : Int32))), .val (.long (137438952896 : Int64)), .second, .val (.long (own_cells ((p0 &&& (63 : Int32)) + (1 : Int32)))), .second] [(.long (64 : Int64)), (.long (own_cells ((p0 &&& (63 : Int32)) + (1 : Int32))))])) _
        refine XS.lrem X20.here hx rfl (hb hby at_49) rfl (by decide) ?_
        rw [lrem_mod]
        show Steps p.tables e below (T20.setTop (mkF m 50 #[.val (.int p0), .val (.int p1), .val (.int ((p0 &&& (63 : Int32)) + (1 : Int32))), .val (.long (137438952896 : Int64)), .second, .val (.long (own_cells ((p0 &&& (63 : Int32)) + (1 : Int32)))), .second] [(.long ((own_cells ((p0 &&& (63 : Int32)) + (1 : Int32))) % (64 : Int64)))])) _
        refine XS.lconst X20.here hx rfl (hb hby at_50) ?_
        show Steps p.tables e below (T20.setTop (mkF m 51 #[.val (.int p0), .val (.int p1), .val (.int ((p0 &&& (63 : Int32)) + (1 : Int32))), .val (.long (137438952896 : Int64)), .second, .val (.long (own_cells ((p0 &&& (63 : Int32)) + (1 : Int32)))), .second] [(.long (0 : Int64)), (.long ((own_cells ((p0 &&& (63 : Int32)) + (1 : Int32))) % (64 : Int64)))])) _
        refine XS.lcmp X20.here hx rfl (hb hby at_51) rfl ?_
        exact k
      by_cases hc52 : ((own_cells ((p0 &&& (63 : Int32)) + (1 : Int32))) % (64 : Int64)) = (0 : Int64)
      · have pre24 : ∀ t, Steps p.tables e below (T20.setTop (mkF m 64 #[.val (.int p0), .val (.int p1), .val (.int ((p0 &&& (63 : Int32)) + (1 : Int32))), .val (.long (137438952896 : Int64)), .second, .val (.long (own_cells ((p0 &&& (63 : Int32)) + (1 : Int32)))), .second] [(.int (lcmpW ((own_cells ((p0 &&& (63 : Int32)) + (1 : Int32))) * (((p0 &&& (63 : Int32)) + (1 : Int32)).toInt64)) (137438952896 : Int64)))])) t → Steps p.tables e below (s₁.setTop (entryFrame m #[(.int p0), (.int p1)] maxLocals)) t := by
          intro t k
          refine pre23 t ?_
          show Steps p.tables e below (T20.setTop (mkF m 52 #[.val (.int p0), .val (.int p1), .val (.int ((p0 &&& (63 : Int32)) + (1 : Int32))), .val (.long (137438952896 : Int64)), .second, .val (.long (own_cells ((p0 &&& (63 : Int32)) + (1 : Int32)))), .second] [(.int (lcmpW ((own_cells ((p0 &&& (63 : Int32)) + (1 : Int32))) % (64 : Int64)) (0 : Int64)))])) _
          refine XS.ifYes X20.here hx rfl (pc0 := 52) (pc' := 57) rfl (hb hby at_52) rfl ((if0 _ _).trans (teq ((lw_eq _ _).mpr hc52)).1) (by decide) (by decide) ?_
          show Steps p.tables e below (T20.setTop (mkF m 57 #[.val (.int p0), .val (.int p1), .val (.int ((p0 &&& (63 : Int32)) + (1 : Int32))), .val (.long (137438952896 : Int64)), .second, .val (.long (own_cells ((p0 &&& (63 : Int32)) + (1 : Int32)))), .second] [])) _
          refine XS.lload X20.here hx rfl (hb hby at_57) rfl ?_
          show Steps p.tables e below (T20.setTop (mkF m 59 #[.val (.int p0), .val (.int p1), .val (.int ((p0 &&& (63 : Int32)) + (1 : Int32))), .val (.long (137438952896 : Int64)), .second, .val (.long (own_cells ((p0 &&& (63 : Int32)) + (1 : Int32)))), .second] [(.long (own_cells ((p0 &&& (63 : Int32)) + (1 : Int32))))])) _
          refine XS.iloadN X20.here hx rfl (hb hby at_59) rfl ?_
          show Steps p.tables e below (T20.setTop (mkF m 60 #[.val (.int p0), .val (.int p1), .val (.int ((p0 &&& (63 : Int32)) + (1 : Int32))), .val (.long (137438952896 : Int64)), .second, .val (.long (own_cells ((p0 &&& (63 : Int32)) + (1 : Int32)))), .second] [(.int ((p0 &&& (63 : Int32)) + (1 : Int32))), (.long (own_cells ((p0 &&& (63 : Int32)) + (1 : Int32))))])) _
          refine XS.i2l X20.here hx rfl (hb hby at_60) rfl ?_
          show Steps p.tables e below (T20.setTop (mkF m 61 #[.val (.int p0), .val (.int p1), .val (.int ((p0 &&& (63 : Int32)) + (1 : Int32))), .val (.long (137438952896 : Int64)), .second, .val (.long (own_cells ((p0 &&& (63 : Int32)) + (1 : Int32)))), .second] [(.long (((p0 &&& (63 : Int32)) + (1 : Int32)).toInt64)), (.long (own_cells ((p0 &&& (63 : Int32)) + (1 : Int32))))])) _
          refine XS.lmul X20.here hx rfl (hb hby at_61) rfl ?_
          show Steps p.tables e below (T20.setTop (mkF m 62 #[.val (.int p0), .val (.int p1), .val (.int ((p0 &&& (63 : Int32)) + (1 : Int32))), .val (.long (137438952896 : Int64)), .second, .val (.long (own_cells ((p0 &&& (63 : Int32)) + (1 : Int32)))), .second] [(.long ((own_cells ((p0 &&& (63 : Int32)) + (1 : Int32))) * (((p0 &&& (63 : Int32)) + (1 : Int32)).toInt64)))])) _
          refine XS.lloadN X20.here hx rfl (hb hby at_62) rfl ?_
          show Steps p.tables e below (T20.setTop (mkF m 63 #[.val (.int p0), .val (.int p1), .val (.int ((p0 &&& (63 : Int32)) + (1 : Int32))), .val (.long (137438952896 : Int64)), .second, .val (.long (own_cells ((p0 &&& (63 : Int32)) + (1 : Int32)))), .second] [(.long (137438952896 : Int64)), (.long ((own_cells ((p0 &&& (63 : Int32)) + (1 : Int32))) * (((p0 &&& (63 : Int32)) + (1 : Int32)).toInt64)))])) _
          refine XS.lcmp X20.here hx rfl (hb hby at_63) rfl ?_
          exact k
        by_cases hc64 : (137438952896 : Int64) < ((own_cells ((p0 &&& (63 : Int32)) + (1 : Int32))) * (((p0 &&& (63 : Int32)) + (1 : Int32)).toInt64))
        · exfalso
          exact own_k3 hcc hc64
        · have pre25 : ∀ t, Steps p.tables e below (T20.setTop (mkF m 80 #[.val (.int p0), .val (.int p1), .val (.int ((p0 &&& (63 : Int32)) + (1 : Int32))), .val (.long (137438952896 : Int64)), .second, .val (.long (own_cells ((p0 &&& (63 : Int32)) + (1 : Int32)))), .second] [(.int (lcmpW (((own_cells ((p0 &&& (63 : Int32)) + (1 : Int32))) + (64 : Int64)) * (((p0 &&& (63 : Int32)) + (1 : Int32)).toInt64)) (137438952896 : Int64)))])) t → Steps p.tables e below (s₁.setTop (entryFrame m #[(.int p0), (.int p1)] maxLocals)) t := by
            intro t k
            refine pre24 t ?_
            show Steps p.tables e below (T20.setTop (mkF m 64 #[.val (.int p0), .val (.int p1), .val (.int ((p0 &&& (63 : Int32)) + (1 : Int32))), .val (.long (137438952896 : Int64)), .second, .val (.long (own_cells ((p0 &&& (63 : Int32)) + (1 : Int32)))), .second] [(.int (lcmpW ((own_cells ((p0 &&& (63 : Int32)) + (1 : Int32))) * (((p0 &&& (63 : Int32)) + (1 : Int32)).toInt64)) (137438952896 : Int64)))])) _
            refine XS.ifYes X20.here hx rfl (pc0 := 64) (pc' := 69) rfl (hb hby at_64) rfl ((if0 _ _).trans (flt (fun q => hc64 ((lw_gt _ _).mp q))).2.2.2) (by decide) (by decide) ?_
            show Steps p.tables e below (T20.setTop (mkF m 69 #[.val (.int p0), .val (.int p1), .val (.int ((p0 &&& (63 : Int32)) + (1 : Int32))), .val (.long (137438952896 : Int64)), .second, .val (.long (own_cells ((p0 &&& (63 : Int32)) + (1 : Int32)))), .second] [])) _
            refine XS.lload X20.here hx rfl (hb hby at_69) rfl ?_
            show Steps p.tables e below (T20.setTop (mkF m 71 #[.val (.int p0), .val (.int p1), .val (.int ((p0 &&& (63 : Int32)) + (1 : Int32))), .val (.long (137438952896 : Int64)), .second, .val (.long (own_cells ((p0 &&& (63 : Int32)) + (1 : Int32)))), .second] [(.long (own_cells ((p0 &&& (63 : Int32)) + (1 : Int32))))])) _
            refine X20.ldc2Long hx hown (mvT hZ (hw _ (List.mem_of_getElem? (i := 7) rfl))) (g := (mkF m 71 #[.val (.int p0), .val (.int p1), .val (.int ((p0 &&& (63 : Int32)) + (1 : Int32))), .val (.long (137438952896 : Int64)), .second, .val (.long (own_cells ((p0 &&& (63 : Int32)) + (1 : Int32)))), .second] [(.long (own_cells ((p0 &&& (63 : Int32)) + (1 : Int32))))])) rfl (hb hby at_71) _ ?_
            show Steps p.tables e below (T20.setTop (mkF m 74 #[.val (.int p0), .val (.int p1), .val (.int ((p0 &&& (63 : Int32)) + (1 : Int32))), .val (.long (137438952896 : Int64)), .second, .val (.long (own_cells ((p0 &&& (63 : Int32)) + (1 : Int32)))), .second] [(.long (64 : Int64)), (.long (own_cells ((p0 &&& (63 : Int32)) + (1 : Int32))))])) _
            refine XS.ladd X20.here hx rfl (hb hby at_74) rfl ?_
            show Steps p.tables e below (T20.setTop (mkF m 75 #[.val (.int p0), .val (.int p1), .val (.int ((p0 &&& (63 : Int32)) + (1 : Int32))), .val (.long (137438952896 : Int64)), .second, .val (.long (own_cells ((p0 &&& (63 : Int32)) + (1 : Int32)))), .second] [(.long ((own_cells ((p0 &&& (63 : Int32)) + (1 : Int32))) + (64 : Int64)))])) _
            refine XS.iloadN X20.here hx rfl (hb hby at_75) rfl ?_
            show Steps p.tables e below (T20.setTop (mkF m 76 #[.val (.int p0), .val (.int p1), .val (.int ((p0 &&& (63 : Int32)) + (1 : Int32))), .val (.long (137438952896 : Int64)), .second, .val (.long (own_cells ((p0 &&& (63 : Int32)) + (1 : Int32)))), .second] [(.int ((p0 &&& (63 : Int32)) + (1 : Int32))), (.long ((own_cells ((p0 &&& (63 : Int32)) + (1 : Int32))) + (64 : Int64)))])) _
            refine XS.i2l X20.here hx rfl (hb hby at_76) rfl ?_
            show Steps p.tables e below (T20.setTop (mkF m 77 #[.val (.int p0), .val (.int p1), .val (.int ((p0 &&& (63 : Int32)) + (1 : Int32))), .val (.long (137438952896 : Int64)), .second, .val (.long (own_cells ((p0 &&& (63 : Int32)) + (1 : Int32)))), .second] [(.long (((p0 &&& (63 : Int32)) + (1 : Int32)).toInt64)), (.long ((own_cells ((p0 &&& (63 : Int32)) + (1 : Int32))) + (64 : Int64)))])) _
            refine XS.lmul X20.here hx rfl (hb hby at_77) rfl ?_
            show Steps p.tables e below (T20.setTop (mkF m 78 #[.val (.int p0), .val (.int p1), .val (.int ((p0 &&& (63 : Int32)) + (1 : Int32))), .val (.long (137438952896 : Int64)), .second, .val (.long (own_cells ((p0 &&& (63 : Int32)) + (1 : Int32)))), .second] [(.long (((own_cells ((p0 &&& (63 : Int32)) + (1 : Int32))) + (64 : Int64)) * (((p0 &&& (63 : Int32)) + (1 : Int32)).toInt64)))])) _
            refine XS.lloadN X20.here hx rfl (hb hby at_78) rfl ?_
            show Steps p.tables e below (T20.setTop (mkF m 79 #[.val (.int p0), .val (.int p1), .val (.int ((p0 &&& (63 : Int32)) + (1 : Int32))), .val (.long (137438952896 : Int64)), .second, .val (.long (own_cells ((p0 &&& (63 : Int32)) + (1 : Int32)))), .second] [(.long (137438952896 : Int64)), (.long (((own_cells ((p0 &&& (63 : Int32)) + (1 : Int32))) + (64 : Int64)) * (((p0 &&& (63 : Int32)) + (1 : Int32)).toInt64)))])) _
            refine XS.lcmp X20.here hx rfl (hb hby at_79) rfl ?_
            exact k
          by_cases hc80 : (137438952896 : Int64) < (((own_cells ((p0 &&& (63 : Int32)) + (1 : Int32))) + (64 : Int64)) * (((p0 &&& (63 : Int32)) + (1 : Int32)).toInt64))
          · have pre26 : ∀ t, Steps p.tables e below (T20.setTop (mkF m 88 #[.val (.int p0), .val (.int p1), .val (.int ((p0 &&& (63 : Int32)) + (1 : Int32))), .val (.long (137438952896 : Int64)), .second, .val (.long (own_cells ((p0 &&& (63 : Int32)) + (1 : Int32)))), .second] [(.int (1 : Int32))])) t → Steps p.tables e below (s₁.setTop (entryFrame m #[(.int p0), (.int p1)] maxLocals)) t := by
              intro t k
              refine pre25 t ?_
              show Steps p.tables e below (T20.setTop (mkF m 80 #[.val (.int p0), .val (.int p1), .val (.int ((p0 &&& (63 : Int32)) + (1 : Int32))), .val (.long (137438952896 : Int64)), .second, .val (.long (own_cells ((p0 &&& (63 : Int32)) + (1 : Int32)))), .second] [(.int (lcmpW (((own_cells ((p0 &&& (63 : Int32)) + (1 : Int32))) + (64 : Int64)) * (((p0 &&& (63 : Int32)) + (1 : Int32)).toInt64)) (137438952896 : Int64)))])) _
              refine XS.ifNo X20.here hx rfl (hb hby at_80) rfl ((if0 _ _).trans (tlt ((lw_gt _ _).mpr hc80)).2.2.2) ?_
              show Steps p.tables e below (T20.setTop (mkF m 83 #[.val (.int p0), .val (.int p1), .val (.int ((p0 &&& (63 : Int32)) + (1 : Int32))), .val (.long (137438952896 : Int64)), .second, .val (.long (own_cells ((p0 &&& (63 : Int32)) + (1 : Int32)))), .second] [])) _
              refine XS.iconst X20.here hx rfl (hb hby at_83) ?_
              show Steps p.tables e below (T20.setTop (mkF m 84 #[.val (.int p0), .val (.int p1), .val (.int ((p0 &&& (63 : Int32)) + (1 : Int32))), .val (.long (137438952896 : Int64)), .second, .val (.long (own_cells ((p0 &&& (63 : Int32)) + (1 : Int32)))), .second] [(.int (1 : Int32))])) _
              refine XS.goto X20.here hx rfl (pc0 := 84) (pc' := 88) rfl (hb hby at_84) (by decide) (by decide) ?_
              exact k
            obtain ⟨fs, hr, hrun, hended, hW, hsame⟩ := X20.leave (v := some (.int (1 : Int32))) (fun h => by rw [Bd.returns] at h; cases h)
            refine ⟨_, _, pre26 _ ?_, hrun, hended, _, _, rfl, ?_, ⟨_, rfl⟩, hW, hsame.mono (by decide) (by decide)⟩
            · exact retN X20 hx (t := .boolean) Bd.returns (by simp) (hb hby at_88) hr
            · show Q0 Z p0 p1 h0 n0 _ T20.heap _
              rw [e20]
              exact ⟨rfl, N20⟩
          · exfalso
            exact hc80 (own_k4 hcc)
      · exfalso
        exact hc52 (own_k2 hcc)
set_option maxRecDepth 65536 in
set_option maxHeartbeats 40000000 in
theorem comes_1 {Post : Tables → Env → Array Value → State → Outcome → State → Prop} (hpost : ∀ tb e args s v u, (limb_1_1.after args s (.returned v) u = true ∧ limb_1_2.after args s (.returned v) u = true ∧ True) → FrameEnd s (.returned v) u (Jvm.fieldLocs frame_1_writes args s ++ Jvm.arrayLocs frame_1_arrays args s ++ Jvm.staticLocs frame_1_statics s) 0 0 → Post tb e args s (.returned v) u) :
    ArmFor flags0 classFile x code maxLocals ret World_1 tables_1 room_1 Calls_1 rest_1 Pre_1 Post := by
  intro l hfl _ _ p e ha hc hk s m args below hf hA hF happ hP
  obtain ⟨hcalls, hrest, hpre⟩ := hP
  obtain ⟨-, -, -, hnamed, -, -, -, hat⟩ := (Spec.applies_iff hf).mp happ
  obtain ⟨hg, hn⟩ := and_e (Cond.before_iff.mp (show (Jvm.Cond.and given_1 narrow_1).before args s = true from hpre))
  obtain ⟨g1, g2⟩ := and_e hg
  obtain ⟨g3, g4⟩ := and_e g2
  obtain ⟨w0, w1, rfl⟩ : ∃ w0 w1 : Value, args = #[w0, w1] := by
    have hs : args.size = 2 := by simpa [Cond.value, given_1] using g1
    obtain ⟨L⟩ := args
    match L, hs with
    | [w0, w1], _ => exact ⟨w0, w1, rfl⟩
  have hw := fun d (hd : d ∈ tables_1) => atoms_spec (ws := Jvm.Cond.code x code maxLocals ret :: tables_1) hat d (List.mem_cons_of_mem _ hd)
  have hfit : Fit s := fun {y c} hc i hi => by
    obtain ⟨ha, rfl⟩ := Array.getElem?_eq_some_iff.mp hc
    have q := List.all_eq_true.mp ((Array.all_eq_true_iff_forall_mem.mp hF) _ (Array.getElem_mem ha)) i (List.mem_range.mpr hi)
    simpa [Array.getElem?_eq_getElem hi] using q
  obtain ⟨i0, ei0⟩ := is_v g3
  obtain rfl : w0 = (.int i0) := Option.some.inj ei0
  obtain ⟨i1, ei1⟩ := is_v g4
  obtain rfl : w1 = (.int i1) := Option.some.inj ei1
  obtain ⟨n, o, h1, h2, h3, _, L, rfl, ⟨rfl, N⟩, hq⟩ := rm0 l s _ hw tables_1 i0 i1 s.heap s.heap.size (Nat.le_refl _) p e ha hc hk s m _ below hf ((Spec.applies_iff_loose hf).mp happ).1 ⟨rfl, State.Warmed39.refl s, rfl⟩ trivial
  refine ⟨n, _, h1, h2, h3, hpost _ _ _ _ _ _ ⟨Cond.after_iff.mpr rfl, Cond.after_iff.mpr (eq_i res_at (Term.int_eval (1)) rfl), trivial⟩ ⟨hq.1, hq.2.1, (hq.2.2.sift fun y hy => Or.inr (N y hy)).mono (by decide) (by decide)⟩⟩
theorem main_1_1 : Claimed_1_1 := comes_1 fun _ _ _ _ _ _ h hF => ⟨h.1, hF⟩
theorem main_1_2 : Claimed_1_2 := comes_1 fun _ _ _ _ _ _ h hF => ⟨h.2.1, hF⟩
end Jvm.Pilot.@@N@@
namespace Jvm.Pilot.@@N@@
open Jvm Jvm.ClassFile Sem Op Lib Jvm.Free Jvm.Stand Jvm.Pilot.@@N@@.Jvm.D
/-! MADE BY PROGRAM (witnessworld.py) out of the Statement's table words and the real class files: 10 classes; the members and pool entries that the words name. The judged class is class 1, her method 1. -/
namespace start1
open Jvm.ClassFile
def u (s : String) : CpInfo := .utf8 (stringToUtf16 s)
/-- a pool by its gaps: so many unusable entries, then the entry; so many at the end -/
def gap : Nat → List CpInfo → List CpInfo
  | 0, r => r
  | n + 1, r => .unusable :: gap n r
def poolList (es : List (Nat × CpInfo)) (last : Nat) : List CpInfo := es.foldr (fun e r => gap e.1 (e.2 :: r)) (gap last [])
def pool (es : List (Nat × CpInfo)) (last : Nat) : Array CpInfo := ⟨poolList es last⟩
def fileOf (pool : Array CpInfo) (this : Nat) (attrs : Array Attribute := #[]) (ms : Array MethodInfo := #[]) (fl : Nat := 33) (sup : Nat := 0) (ifs : Array Nat := #[]) (fds : Array FieldInfo := #[]) : ClassFile where
  minorVersion := 0
  majorVersion := 65
  constantPool := pool
  accessFlags := fl
  thisClass := this
  superClass := sup
  interfaces := ifs
  fields := fds
  methods := ms
  attributes := attrs
def plain (name : String) (sup : Option ClassId) : Class where
  name := name
  kind := .ordinary
  loader := none
  accessFlags := 33
  super := sup
  interfaces := #[]
  cf := none
  fields := #[]
  methods := #[]
  instanceTypes := #[]
  staticTypes := #[]
  resolved := #[]
  callSites := []
  init := .initialized
  statics := none
  mirror := none

def pool0 : Array CpInfo := pool [(5, u "<init>"), (0, u "()V"), (1, .class_ 10), (1, u "java/lang/Object")] 113

def k0m0 : Method := { name := "<init>", desc := "()V", sig := { parameters := [], returnType := none }, accessFlags := 1, code := none }
/-- java/lang/Object -/
def k0 : Class := { plain "java/lang/Object" none with
  accessFlags := 33
  interfaces := #[]
  cf := some (fileOf pool0 8 #[] #[{ accessFlags := 1, nameIndex := 5, descriptorIndex := 6, attributes := #[] }] 33 0 #[] #[])
  fields := #[]
  methods := #[k0m0]
  instanceTypes := #[]
  staticTypes := #[]
  resolved := Array.replicate 124 none
  statics := none }

def pool1 : Array CpInfo := pool [(2, .class_ 4), (1, u "java/lang/Object"), (0, u "<init>"), (0, u "()V"), (0, .integer 2147483647), (0, .methodref 9 10), (0, .class_ 11), (0, .nameAndType 12 13), (0, u "java/lang/Math"), (0, u "max"), (0, u "(II)I"), (2, .long 137438952896), (1, .methodref 19 20), (0, .class_ 21), (0, .nameAndType 22 23), (0, u "com/example/shunt/shunt/filter/BloomLayout"), (0, u "maxCells"), (0, u "(I)J"), (0, .long 64), (1, .class_ 27), (0, u "com/example/shunt/shunt/filter/BloomLayoutMaxCellsPinLaw"), (2, u "law"), (0, u "(II)Z")] 3

def k1m0 : Method := { name := "<init>", desc := "()V", sig := { parameters := [], returnType := none }, accessFlags := 1, code := none }
def k1c1 : Code := { maxStack := 4, maxLocals := 7, code := code, exceptionTable := #[], attributes := #[] }
def k1m1 : Method := { name := "law", desc := "(II)Z", sig := { parameters := [.int, .int], returnType := some .boolean }, accessFlags := 9, code := some k1c1 }
/-- com/example/shunt/shunt/filter/BloomLayoutMaxCellsPinLaw -/
def k1 : Class := { plain "com/example/shunt/shunt/filter/BloomLayoutMaxCellsPinLaw" (some 0) with
  accessFlags := 49
  interfaces := #[]
  cf := some (fileOf pool1 26 #[] #[{ accessFlags := 1, nameIndex := 5, descriptorIndex := 6, attributes := #[] }, { accessFlags := 9, nameIndex := 30, descriptorIndex := 31, attributes := #[] }] 49 2 #[] #[])
  fields := #[]
  methods := #[k1m0, k1m1]
  instanceTypes := #[]
  staticTypes := #[]
  resolved := Array.replicate 35 none
  statics := none }

def pool2 : Array CpInfo := pool [(4, .class_ 6), (1, u "java/lang/Object"), (0, u "<init>"), (0, u "()V"), (13, .class_ 24), (1, u "com/example/shunt/shunt/filter/BloomLayout"), (0, u "LN_2"), (0, u "D"), (7, u "maxCells"), (0, u "(I)J"), (8, .long 137438952896), (1, .long 64), (31, u "CELL_GROUP"), (0, u "I"), (2, u "MAX_HASHES")] 31

def k2m0 : Method := { name := "<init>", desc := "()V", sig := { parameters := [], returnType := none }, accessFlags := 2, code := none }
def k2c1 : Code := { maxStack := 4, maxLocals := 1, code := prog_7_method_3_code, exceptionTable := #[], attributes := #[] }
def k2m1 : Method := { name := "maxCells", desc := "(I)J", sig := { parameters := [.int], returnType := some .long }, accessFlags := 8, code := some k2c1 }
/-- com/example/shunt/shunt/filter/BloomLayout -/
def k2 : Class := { plain "com/example/shunt/shunt/filter/BloomLayout" (some 0) with
  accessFlags := 32
  interfaces := #[]
  cf := some (fileOf pool2 22 #[] #[{ accessFlags := 2, nameIndex := 7, descriptorIndex := 8, attributes := #[] }, { accessFlags := 8, nameIndex := 34, descriptorIndex := 35, attributes := #[] }] 32 4 #[] #[{ accessFlags := 24, nameIndex := 78, descriptorIndex := 79, attributes := #[] }, { accessFlags := 24, nameIndex := 82, descriptorIndex := 79, attributes := #[] }, { accessFlags := 26, nameIndex := 25, descriptorIndex := 26, attributes := #[] }])
  fields := #[{ name := "CELL_GROUP", type := .int, accessFlags := 24, slot := 0, constantValue := 0 }, { name := "MAX_HASHES", type := .int, accessFlags := 24, slot := 1, constantValue := 0 }, { name := "LN_2", type := .double, accessFlags := 26, slot := 2, constantValue := 0 }]
  methods := #[k2m0, k2m1]
  instanceTypes := #[]
  staticTypes := #[.int, .int, .double]
  resolved := Array.replicate 114 none
  statics := none }

def pool3 : Array CpInfo := pool [(1, .class_ 2), (0, u "java/lang/Math"), (1, .class_ 6), (1, u "java/lang/Object"), (0, u "<init>"), (0, u "()V"), (89, .class_ 100), (1, u "java/lang/Math$RandomNumberGeneratorHolder"), (71, u "negativeZeroFloatBits"), (0, u "J"), (2, u "negativeZeroDoubleBits"), (21, u "max"), (46, u "$assertionsDisabled"), (0, u "Z"), (88, u "(II)I"), (2, u "twoToTheDoubleScaleDown"), (0, u "D"), (4, u "twoToTheDoubleScaleUp"), (9, u "E"), (3, u "PI"), (2, u "TAU"), (2, u "DEGREES_TO_RADIANS"), (0, u "RADIANS_TO_DEGREES")] 94

def k3m0 : Method := { name := "<init>", desc := "()V", sig := { parameters := [], returnType := none }, accessFlags := 2, code := none }
def k3c1 : Code := { maxStack := 2, maxLocals := 2, code := jdk_29_method_65_code, exceptionTable := #[], attributes := #[] }
def k3m1 : Method := { name := "max", desc := "(II)I", sig := { parameters := [.int, .int], returnType := some .int }, accessFlags := 9, code := some k3c1 }
/-- java/lang/Math -/
def k3 : Class := { plain "java/lang/Math" (some 0) with
  accessFlags := 49
  interfaces := #[]
  cf := some (fileOf pool3 1 #[.nestMembers #[98]] #[{ accessFlags := 2, nameIndex := 7, descriptorIndex := 8, attributes := #[] }, { accessFlags := 9, nameIndex := 198, descriptorIndex := 335, attributes := #[] }] 49 4 #[] #[{ accessFlags := 25, nameIndex := 354, descriptorIndex := 339, attributes := #[] }, { accessFlags := 25, nameIndex := 358, descriptorIndex := 339, attributes := #[] }, { accessFlags := 25, nameIndex := 361, descriptorIndex := 339, attributes := #[] }, { accessFlags := 26, nameIndex := 364, descriptorIndex := 339, attributes := #[] }, { accessFlags := 26, nameIndex := 365, descriptorIndex := 339, attributes := #[] }, { accessFlags := 26, nameIndex := 172, descriptorIndex := 173, attributes := #[] }, { accessFlags := 26, nameIndex := 176, descriptorIndex := 173, attributes := #[] }, { accessFlags := 8, nameIndex := 344, descriptorIndex := 339, attributes := #[] }, { accessFlags := 8, nameIndex := 338, descriptorIndex := 339, attributes := #[] }, { accessFlags := 4120, nameIndex := 245, descriptorIndex := 246, attributes := #[] }])
  fields := #[{ name := "E", type := .double, accessFlags := 25, slot := 0, constantValue := 0 }, { name := "PI", type := .double, accessFlags := 25, slot := 1, constantValue := 0 }, { name := "TAU", type := .double, accessFlags := 25, slot := 2, constantValue := 0 }, { name := "DEGREES_TO_RADIANS", type := .double, accessFlags := 26, slot := 3, constantValue := 0 }, { name := "RADIANS_TO_DEGREES", type := .double, accessFlags := 26, slot := 4, constantValue := 0 }, { name := "negativeZeroFloatBits", type := .long, accessFlags := 26, slot := 5, constantValue := 0 }, { name := "negativeZeroDoubleBits", type := .long, accessFlags := 26, slot := 6, constantValue := 0 }, { name := "twoToTheDoubleScaleUp", type := .double, accessFlags := 8, slot := 7, constantValue := 0 }, { name := "twoToTheDoubleScaleDown", type := .double, accessFlags := 8, slot := 8, constantValue := 0 }, { name := "$assertionsDisabled", type := .boolean, accessFlags := 4120, slot := 9, constantValue := 0 }]
  methods := #[k3m0, k3m1]
  instanceTypes := #[]
  staticTypes := #[.double, .double, .double, .double, .double, .long, .long, .double, .double, .boolean]
  resolved := Array.replicate 460 none
  statics := none }

def pool4 : Array CpInfo := pool [(1, u "java/lang/Cloneable"), (0, .class_ 1), (0, u "java/lang/Object"), (0, .class_ 3)] 3

/-- java/lang/Cloneable -/
def k4 : Class := { plain "java/lang/Cloneable" (some 0) with
  accessFlags := 1537
  interfaces := #[]
  cf := some (fileOf pool4 2 #[] #[] 1537 4 #[] #[])
  fields := #[]
  methods := #[]
  instanceTypes := #[]
  staticTypes := #[]
  resolved := Array.replicate 8 none
  statics := none }

def pool5 : Array CpInfo := pool [(1, u "java/io/Serializable"), (0, .class_ 1), (0, u "java/lang/Object"), (0, .class_ 3)] 3

/-- java/io/Serializable -/
def k5 : Class := { plain "java/io/Serializable" (some 0) with
  accessFlags := 1537
  interfaces := #[]
  cf := some (fileOf pool5 2 #[] #[] 1537 4 #[] #[])
  fields := #[]
  methods := #[]
  instanceTypes := #[]
  staticTypes := #[]
  resolved := Array.replicate 8 none
  statics := none }

/-- the primitive byte -/
def k6 : Class := { plain "byte" none with kind := .primitive 'B', accessFlags := 0x411 }
/-- [B -/
def k7 : Class := { plain "[B" (some 0) with kind := .array 6 .byte, interfaces := #[4, 5], accessFlags := 1041 }

/-- the primitive int -/
def k8 : Class := { plain "int" none with kind := .primitive 'I', accessFlags := 0x411 }
/-- [I -/
def k9 : Class := { plain "[I" (some 0) with kind := .array 8 .int, interfaces := #[4, 5], accessFlags := 1041 }

def heap : Heap := #[]
def classes : Array Class := #[k0, k1, k2, k3, k4, k5, k6, k7, k8, k9]
def interned : List (Array UInt16 × Addr) := []
def slotsUsed : Nat := 0
def theMethod : MethodId := ⟨1, 1⟩
def args0 : Array Value := #[.int 9, .int 10]
def aboutOver (below : List Frame) : State where
  vm := { classes := classes, interned := interned.toArray }
  heap := heap
  slotsUsed := slotsUsed
  threads := #[{ frames := .invoking theMethod args0 :: below }]
def below0 : List Frame := [.native { method := ⟨0, 0⟩, args := #[] }]
def about1 : State := aboutOver below0
def p0 : Program := .bare "" "" ""
def e0 : Env := launch0.env 0 0 0
theorem w_frames : about1.frames = Frame.invoking theMethod args0 :: below0 := rfl
set_option maxRecDepth 65536 in
theorem w_args : argsFit about1.vm theMethod args0 = true := by decide +kernel
set_option maxRecDepth 65536 in
theorem w_heap : heapFits about1 = true := by decide +kernel
set_option maxRecDepth 65536 in
theorem w_runnable : about1.curStatus? = some .runnable := by decide +kernel
set_option maxRecDepth 65536 in
theorem w_alone : about1.alone = true := by decide +kernel
set_option maxRecDepth 65536 in
theorem w_named : about1.methodNamed? x = some theMethod := by decide +kernel
set_option maxRecDepth 65536 in
theorem w_hears : about1.hears theMethod below0 = true := by decide +kernel
set_option maxRecDepth 65536 in
theorem w_ripe : about1.ripe theMethod args0 below0 = true := by decide +kernel
theorem w_running : about1.status = .running := rfl
set_option maxRecDepth 65536 in
theorem w_room : about1.hasRoom e0.platform room_1 = true :=
  launch0.hasRoom_least _ room_1 (by decide +kernel) (by decide +kernel) (by decide +kernel) (by decide +kernel) (by decide +kernel) (by decide +kernel)
theorem allAtoms_all (ts : List Jvm.Cond) (a : Array Jvm.Value) (st : Jvm.State) : (allAtoms ts).before a st = ts.all (fun c => c.before a st) := by
  induction ts with
  | nil => rfl
  | cons c t ih =>
    show (Jvm.Cond.and c (allAtoms t)).before a st = _
    rw [Jvm.Cond.before_and, ih, List.all_cons]
def words1 : List Jvm.Cond := Jvm.Cond.code x code maxLocals ret :: tables_1
/-- a 'code' word, met by the world's own term for the bytes: nothing is compared byte by byte -/
theorem code_word {y : MethodName} {bytes : ByteArray} {mx : Nat} {rt : Option FieldType} {a : Array Value} {s : State} {m : MethodId} {meth : Method} {c : Code} (h1 : s.methodNamed? y = some m) (h2 : s.vm.method? m = some meth) (h3 : meth.code = some c) (h4 : c.code = bytes)
    (h5 : (c.maxLocals == mx && c.exceptionTable.isEmpty && decide (c.maxStack ≤ mostOperands) && decide (meth.sig.returnType = rt) && !meth.locks && decide (parseMethodDescriptor y.desc = some meth.sig)) = true) : (Jvm.Cond.code y bytes mx rt).before a s = true := by
  simp only [Bool.and_eq_true, beq_iff_eq, Bool.not_eq_true', decide_eq_true_eq] at h5
  obtain ⟨⟨⟨⟨⟨g1, g2⟩, g3⟩, g4⟩, g5⟩, g6⟩ := h5
  simp [Cond.before, Cond.holds, Cond.value, h1, h2, h3, h4, g1, g2, g3, g4, g5, g6]
def isCode : Jvm.Cond → Bool
  | .code _ _ _ _ => true
  | _ => false
theorem all_split {L : List Jvm.Cond} {P : Jvm.Cond → Bool} (h1 : L.all (fun c => isCode c || P c) = true) (h2 : ∀ c ∈ L.filter isCode, P c = true) : L.all P = true := by
  refine List.all_eq_true.mpr fun c hc => ?_
  have h := List.all_eq_true.mp h1 c hc
  rcases Bool.eq_false_or_eq_true (isCode c) with hi | hi
  · exact h2 c (List.mem_filter.mpr ⟨hc, hi⟩)
  · simpa [hi] using h
set_option maxRecDepth 65536 in
theorem w_c0 : (Jvm.Cond.code x code maxLocals ret).before args0 about1 = true := code_word (m := ⟨1, 1⟩) (meth := k1m1) (c := k1c1) (by decide +kernel) rfl rfl rfl (by decide +kernel)
set_option maxRecDepth 65536 in
theorem w_c1 : (Jvm.Cond.code ({ cls := "com/example/shunt/shunt/filter/BloomLayout", name := "maxCells", desc := "(I)J" } : Jvm.MethodName) prog_7_method_3_code (1 : Nat) (Option.some Jvm.ClassFile.FieldType.long)).before args0 about1 = true := code_word (m := ⟨2, 1⟩) (meth := k2m1) (c := k2c1) (by decide +kernel) rfl rfl rfl (by decide +kernel)
set_option maxRecDepth 65536 in
theorem w_c2 : (Jvm.Cond.code ({ cls := "java/lang/Math", name := "max", desc := "(II)I" } : Jvm.MethodName) jdk_29_method_65_code (2 : Nat) (Option.some Jvm.ClassFile.FieldType.int)).before args0 about1 = true := code_word (m := ⟨3, 1⟩) (meth := k3m1) (c := k3c1) (by decide +kernel) rfl rfl rfl (by decide +kernel)
def codes1 : List Jvm.Cond := [Jvm.Cond.code x code maxLocals ret, Jvm.Cond.code ({ cls := "com/example/shunt/shunt/filter/BloomLayout", name := "maxCells", desc := "(I)J" } : Jvm.MethodName) prog_7_method_3_code (1 : Nat) (Option.some Jvm.ClassFile.FieldType.long), Jvm.Cond.code ({ cls := "java/lang/Math", name := "max", desc := "(II)I" } : Jvm.MethodName) jdk_29_method_65_code (2 : Nat) (Option.some Jvm.ClassFile.FieldType.int)]
set_option maxRecDepth 65536 in
theorem codes_eq : words1.filter isCode = codes1 := rfl
theorem w_codes : ∀ c ∈ words1.filter isCode, c.before args0 about1 = true := by
  rw [codes_eq]
  intro c hc
  simp only [codes1, List.mem_cons, List.not_mem_nil, or_false] at hc
  rcases hc with rfl | rfl | rfl
  · exact w_c0
  · exact w_c1
  · exact w_c2
set_option maxRecDepth 65536 in
theorem w_t1 : words1.all (fun c => isCode c || c.before args0 about1) = true := by decide +kernel
theorem w_tables : (allAtoms (Jvm.Cond.code x code maxLocals ret :: tables_1)).before args0 about1 = true := by
  rw [allAtoms_all]
  show words1.all (fun c => c.before args0 about1) = true
  refine all_split ?_ w_codes
  rw [w_t1]
set_option maxRecDepth 65536 in
theorem w_case : (Jvm.Cond.and given_1 narrow_1).before args0 about1 = true := by decide +kernel
theorem w_applies : (headSpec (Jvm.Cond.code x code maxLocals ret :: tables_1) room_1).applies x e0.platform about1 = true :=
  (Spec.applies_iff w_frames).mpr ⟨w_running, w_runnable, w_alone, w_named, w_hears, w_ripe, w_room, w_tables⟩
theorem atStart : AtStart classFile x code maxLocals ret World_1 tables_1 room_1 Calls_1 rest_1 Pre_1 launch0 p0 e0 about1 theMethod args0 below0 :=
  ⟨lists_1, trivial, launch0.admits_env _ _ _, launch0.least_env, fairChoices_fair.cas, fairChoices_fair.clock, w_frames, w_args, w_heap, w_applies, trivial, trivial, w_case⟩
end start1
theorem witness_1 : WitnessClaimed_1 := ⟨start1.p0, start1.e0, start1.about1, start1.theMethod, start1.args0, start1.below0, start1.atStart⟩
end Jvm.Pilot.@@N@@
