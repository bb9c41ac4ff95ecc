import JvmDerived
import JvmDerived.Pilot.@@N@@Statement
import JvmDerived.Pilot.@@N@@Code
set_option linter.unusedVariables false
set_option linter.unusedSimpArgs false
namespace Jvm.RoadKit
open Sem ClassFile Op Lib Jvm.Stand Jvm.Free Jvm.LawKit
section New
variable {p : Program} {l : Launch} {e : Env} {R : Room} {s : State} {m : MethodId} {args : Array Value} {below : List Frame} {meth : Method} {c : Code} {T : State} {locs : List Loc} {cells slots : Nat}
theorem retI (X : Stand p l e R s m args below meth c T locs cells slots) (hx : p.tables.exec = Jvm.exec) {pc : Nat} {Ls : Array Slot} {z : Int32} {rest : List Value} (hret : meth.sig.returnType = some .int) (hd : decode c.code pc = .ok (.ireturn, 1)) {fs : List Frame}
    (hl : ∀ (f : JFrame) (acts : List Action), f.method = m → f.locked = none → f.entered = [] → (doReturn e (T.setTop f) acts (some (.int z))).1 = T.setFrames fs) : Steps p.tables e below (T.setTop (mkF m pc Ls (.int z :: rest))) (T.setFrames fs) := by
  have hm' : T.vm.method? m = some meth := X.method'
  have hn : narrow .int (.int z) = .int z := rfl
  show Steps p.tables e below (T.setTop { method := m, pc := pc, locals := Ls, stack := _ :: rest, locked := none }) _
  jvm_step X.here [X.here.top, hx, hd, hm', hret, hn]
  first | (intro acts; rw [hl _ acts rfl rfl rfl]) | rw [hl _ _ rfl rfl rfl]
  exact Steps.refl _
end New
end Jvm.RoadKit
namespace Jvm.Pilot.@@N@@
open Jvm Jvm.ClassFile Sem Op Lib Jvm.Free Jvm.Stand Jvm.LawKit Jvm.RoadKit Bundle Jvm.Pilot.@@N@@.Jvm.D
theorem d1_0 : decode prog_3_method_2_code 0 = .ok (.lconst 0, 1) := by decide +kernel
theorem d1_1 : decode prog_3_method_2_code 1 = .ok (.lstore_n 1, 1) := by decide +kernel
theorem d1_2 : decode prog_3_method_2_code 2 = .ok (.iconst 0, 1) := by decide +kernel
theorem d1_3 : decode prog_3_method_2_code 3 = .ok (.istore_n 3, 1) := by decide +kernel
theorem d1_4 : decode prog_3_method_2_code 4 = .ok (.iload_n 3, 1) := by decide +kernel
theorem d1_5 : decode prog_3_method_2_code 5 = .ok (.iconst 4, 1) := by decide +kernel
theorem d1_6 : decode prog_3_method_2_code 6 = .ok (.if_icmp .ge 17, 3) := by decide +kernel
theorem d1_9 : decode prog_3_method_2_code 9 = .ok (.lload_n 1, 1) := by decide +kernel
theorem d1_10 : decode prog_3_method_2_code 10 = .ok (.lconst 1, 1) := by decide +kernel
theorem d1_11 : decode prog_3_method_2_code 11 = .ok (.iload_n 3, 1) := by decide +kernel
theorem d1_12 : decode prog_3_method_2_code 12 = .ok (.iload_n 0, 1) := by decide +kernel
theorem d1_13 : decode prog_3_method_2_code 13 = .ok (.imul, 1) := by decide +kernel
theorem d1_14 : decode prog_3_method_2_code 14 = .ok (.lshl, 1) := by decide +kernel
theorem d1_15 : decode prog_3_method_2_code 15 = .ok (.lor, 1) := by decide +kernel
theorem d1_16 : decode prog_3_method_2_code 16 = .ok (.lstore_n 1, 1) := by decide +kernel
theorem d1_17 : decode prog_3_method_2_code 17 = .ok (.iinc 3 1, 3) := by decide +kernel
theorem d1_20 : decode prog_3_method_2_code 20 = .ok (.goto (-16), 3) := by decide +kernel
theorem d1_23 : decode prog_3_method_2_code 23 = .ok (.lload_n 1, 1) := by decide +kernel
theorem d1_24 : decode prog_3_method_2_code 24 = .ok (.lreturn, 1) := by decide +kernel
def own_lows (p0 : Int32) : Int64 := (((((0 : Int64) ||| ((1 : Int64) <<< (((0 : Int32) * p0) &&& 0x3f).toInt64)) ||| ((1 : Int64) <<< (((1 : Int32) * p0) &&& 0x3f).toInt64)) ||| ((1 : Int64) <<< (((2 : Int32) * p0) &&& 0x3f).toInt64)) ||| ((1 : Int64) <<< (((3 : Int32) * p0) &&& 0x3f).toInt64))
theorem pn_1 : plainName "com/example/shunt/shunt/bits/CuckooBuckets" = true := by first | (simp [plainName, overriddenIn]; done) | decide +kernel
theorem ef_1 (m : MethodId) (x0 : Int32) : entryFrame m #[(.int x0)] 4 = mkF m 0 #[.val (.int x0), .unset, .unset, .unset] [] := by first | (simp [entryFrame, mkF, argsToLocals, Value.category]; done) | rfl
def Q1 (Z : State) (p0 : Int32) (h0 : Heap) (n0 : Nat) (v : Option Value) (h : Heap) (L : List Loc) : Prop := v = some (.long (own_lows p0)) ∧ Fr n0 L ∧ h = h0
set_option maxRecDepth 65536 in
set_option maxHeartbeats 40000000 in
theorem rm1 (l : Launch) (Z : State) (a0 : Array Value) (hw : ∀ d ∈ tables_1, d.before a0 Z = true) (ws : List Jvm.Cond) (p0 : Int32) (h0 : Heap) (n0 : Nat) (Z0 : n0 ≤ h0.size) :
    MetFree l (⟨"com/example/shunt/shunt/bits/CuckooBuckets", "slotLows", "(I)J"⟩ : MethodName) (head1 (Jvm.Cond.code (⟨"com/example/shunt/shunt/bits/CuckooBuckets", "slotLows", "(I)J"⟩ : MethodName) prog_3_method_2_code 4 (some .long) :: ws) ({ frames := 0, cells := 0, slots := 0, locals := 0 } : Room)) (fun a U => a = #[(.int p0)] ∧ Z.Warmed39 U.vm ∧ U.heap = h0) (fun _ _ _ _ _ => True) (fun _ U o U' => ∃ v L, o = .returned v ∧ Q1 Z p0 h0 n0 v U'.heap L ∧ FrameEnd U o U' L ({ frames := 0, cells := 0, slots := 0, locals := 0 } : Room).cells ({ frames := 0, cells := 0, slots := 0, locals := 0 } : Room).slots) := by
  refine MetFree.of_bodySF (plainFor_of_name pn_1) hisR ?_
  intro p e s m args below meth c s₁ Bd hml0 hP hK
  obtain ⟨rfl, hZ, hh⟩ := hP
  have hx := Bd.exec
  have hby := Bd.bytes
  have hml : c.maxLocals = 4 := hml0
  have hown : s.vm.findClass "com/example/shunt/shunt/bits/CuckooBuckets" = some m.cls := findClass_of_methodNamed Bd.named
  have hnm := (name_of_methodNamed Bd.named Bd.method).1
  have X0 : Stand p l e ({ frames := 0, cells := 0, slots := 0, locals := 0 } : Room) s m #[(.int p0)] below meth c s₁ [] 0 0 := Stand.of_body Bd
  have e0 : s₁.heap = h0 := by rw [← hh, Bd.state]; rfl
  have N0 := Fr.nil n0
  have pre0 : ∀ t, Steps p.tables e below (s₁.setTop (mkF m 0 #[.val (.int p0), .unset, .unset, .unset] [])) t → Steps p.tables e below (s₁.setTop (entryFrame m #[(.int p0)] 4)) t := fun t k => castTop (ef_1 m p0) k
  have pre1 : ∀ t, Steps p.tables e below (s₁.setTop (mkF m 24 #[.val (.int p0), .val (.long (((((0 : Int64) ||| ((1 : Int64) <<< (((0 : Int32) * p0) &&& 0x3f).toInt64)) ||| ((1 : Int64) <<< (((1 : Int32) * p0) &&& 0x3f).toInt64)) ||| ((1 : Int64) <<< (((2 : Int32) * p0) &&& 0x3f).toInt64)) ||| ((1 : Int64) <<< (((3 : Int32) * p0) &&& 0x3f).toInt64))), .second, .val (.int (4 : Int32))] [(.long (((((0 : Int64) ||| ((1 : Int64) <<< (((0 : Int32) * p0) &&& 0x3f).toInt64)) ||| ((1 : Int64) <<< (((1 : Int32) * p0) &&& 0x3f).toInt64)) ||| ((1 : Int64) <<< (((2 : Int32) * p0) &&& 0x3f).toInt64)) ||| ((1 : Int64) <<< (((3 : Int32) * p0) &&& 0x3f).toInt64)))])) t → Steps p.tables e below (s₁.setTop (entryFrame m #[(.int p0)] 4)) t := by
    intro t k
    refine pre0 t ?_
    show Steps p.tables e below (s₁.setTop (mkF m 0 #[.val (.int p0), .unset, .unset, .unset] [])) _
    refine XS.lconst X0.here hx rfl (hb hby d1_0) ?_
    show Steps p.tables e below (s₁.setTop (mkF m 1 #[.val (.int p0), .unset, .unset, .unset] [(.long (0 : Int64))])) _
    refine XS.lstoreN X0.here hx rfl (hb hby d1_1) rfl (l' := #[.val (.int p0), .val (.long (0 : Int64)), .second, .unset]) rfl ?_
    show Steps p.tables e below (s₁.setTop (mkF m 2 #[.val (.int p0), .val (.long (0 : Int64)), .second, .unset] [])) _
    refine XS.iconst X0.here hx rfl (hb hby d1_2) ?_
    show Steps p.tables e below (s₁.setTop (mkF m 3 #[.val (.int p0), .val (.long (0 : Int64)), .second, .unset] [(.int (0 : Int32))])) _
    refine XS.istoreN X0.here hx rfl (hb hby d1_3) rfl (l' := #[.val (.int p0), .val (.long (0 : Int64)), .second, .val (.int (0 : Int32))]) rfl ?_
    show Steps p.tables e below (s₁.setTop (mkF m 4 #[.val (.int p0), .val (.long (0 : Int64)), .second, .val (.int (0 : Int32))] [])) _
    refine XS.iloadN X0.here hx rfl (hb hby d1_4) rfl ?_
    show Steps p.tables e below (s₁.setTop (mkF m 5 #[.val (.int p0), .val (.long (0 : Int64)), .second, .val (.int (0 : Int32))] [(.int (0 : Int32))])) _
    refine XS.iconst X0.here hx rfl (hb hby d1_5) ?_
    show Steps p.tables e below (s₁.setTop (mkF m 6 #[.val (.int p0), .val (.long (0 : Int64)), .second, .val (.int (0 : Int32))] [(.int (4 : Int32)), (.int (0 : Int32))])) _
    refine XS.icmpNo X0.here hx rfl (hb hby d1_6) rfl (tlt (by decide)).2.1 ?_
    show Steps p.tables e below (s₁.setTop (mkF m 9 #[.val (.int p0), .val (.long (0 : Int64)), .second, .val (.int (0 : Int32))] [])) _
    refine XS.lloadN X0.here hx rfl (hb hby d1_9) rfl ?_
    show Steps p.tables e below (s₁.setTop (mkF m 10 #[.val (.int p0), .val (.long (0 : Int64)), .second, .val (.int (0 : Int32))] [(.long (0 : Int64))])) _
    refine XS.lconst X0.here hx rfl (hb hby d1_10) ?_
    show Steps p.tables e below (s₁.setTop (mkF m 11 #[.val (.int p0), .val (.long (0 : Int64)), .second, .val (.int (0 : Int32))] [(.long (1 : Int64)), (.long (0 : Int64))])) _
    refine XS.iloadN X0.here hx rfl (hb hby d1_11) rfl ?_
    show Steps p.tables e below (s₁.setTop (mkF m 12 #[.val (.int p0), .val (.long (0 : Int64)), .second, .val (.int (0 : Int32))] [(.int (0 : Int32)), (.long (1 : Int64)), (.long (0 : Int64))])) _
    refine XS.iloadN X0.here hx rfl (hb hby d1_12) rfl ?_
    show Steps p.tables e below (s₁.setTop (mkF m 13 #[.val (.int p0), .val (.long (0 : Int64)), .second, .val (.int (0 : Int32))] [(.int p0), (.int (0 : Int32)), (.long (1 : Int64)), (.long (0 : Int64))])) _
    refine XS.imul X0.here hx rfl (hb hby d1_13) rfl ?_
    show Steps p.tables e below (s₁.setTop (mkF m 14 #[.val (.int p0), .val (.long (0 : Int64)), .second, .val (.int (0 : Int32))] [(.int ((0 : Int32) * p0)), (.long (1 : Int64)), (.long (0 : Int64))])) _
    refine XS.lshl X0.here hx rfl (hb hby d1_14) rfl ?_
    show Steps p.tables e below (s₁.setTop (mkF m 15 #[.val (.int p0), .val (.long (0 : Int64)), .second, .val (.int (0 : Int32))] [(.long ((1 : Int64) <<< (((0 : Int32) * p0) &&& 0x3f).toInt64)), (.long (0 : Int64))])) _
    refine XS.lor X0.here hx rfl (hb hby d1_15) rfl ?_
    show Steps p.tables e below (s₁.setTop (mkF m 16 #[.val (.int p0), .val (.long (0 : Int64)), .second, .val (.int (0 : Int32))] [(.long ((0 : Int64) ||| ((1 : Int64) <<< (((0 : Int32) * p0) &&& 0x3f).toInt64)))])) _
    refine XS.lstoreN X0.here hx rfl (hb hby d1_16) rfl (l' := #[.val (.int p0), .val (.long ((0 : Int64) ||| ((1 : Int64) <<< (((0 : Int32) * p0) &&& 0x3f).toInt64))), .second, .val (.int (0 : Int32))]) rfl ?_
    show Steps p.tables e below (s₁.setTop (mkF m 17 #[.val (.int p0), .val (.long ((0 : Int64) ||| ((1 : Int64) <<< (((0 : Int32) * p0) &&& 0x3f).toInt64))), .second, .val (.int (0 : Int32))] [])) _
    refine XS.iinc X0.here hx rfl (hb hby d1_17) rfl (l' := #[.val (.int p0), .val (.long ((0 : Int64) ||| ((1 : Int64) <<< (((0 : Int32) * p0) &&& 0x3f).toInt64))), .second, .val (.int (1 : Int32))]) rfl ?_
    show Steps p.tables e below (s₁.setTop (mkF m 20 #[.val (.int p0), .val (.long ((0 : Int64) ||| ((1 : Int64) <<< (((0 : Int32) * p0) &&& 0x3f).toInt64))), .second, .val (.int (1 : Int32))] [])) _
    refine XS.goto X0.here hx rfl (pc0 := 20) (pc' := 4) rfl (hb hby d1_20) (by decide) (by decide) ?_
    show Steps p.tables e below (s₁.setTop (mkF m 4 #[.val (.int p0), .val (.long ((0 : Int64) ||| ((1 : Int64) <<< (((0 : Int32) * p0) &&& 0x3f).toInt64))), .second, .val (.int (1 : Int32))] [])) _
    refine XS.iloadN X0.here hx rfl (hb hby d1_4) rfl ?_
    show Steps p.tables e below (s₁.setTop (mkF m 5 #[.val (.int p0), .val (.long ((0 : Int64) ||| ((1 : Int64) <<< (((0 : Int32) * p0) &&& 0x3f).toInt64))), .second, .val (.int (1 : Int32))] [(.int (1 : Int32))])) _
    refine XS.iconst X0.here hx rfl (hb hby d1_5) ?_
    show Steps p.tables e below (s₁.setTop (mkF m 6 #[.val (.int p0), .val (.long ((0 : Int64) ||| ((1 : Int64) <<< (((0 : Int32) * p0) &&& 0x3f).toInt64))), .second, .val (.int (1 : Int32))] [(.int (4 : Int32)), (.int (1 : Int32))])) _
    refine XS.icmpNo X0.here hx rfl (hb hby d1_6) rfl (tlt (by decide)).2.1 ?_
    show Steps p.tables e below (s₁.setTop (mkF m 9 #[.val (.int p0), .val (.long ((0 : Int64) ||| ((1 : Int64) <<< (((0 : Int32) * p0) &&& 0x3f).toInt64))), .second, .val (.int (1 : Int32))] [])) _
    refine XS.lloadN X0.here hx rfl (hb hby d1_9) rfl ?_
    show Steps p.tables e below (s₁.setTop (mkF m 10 #[.val (.int p0), .val (.long ((0 : Int64) ||| ((1 : Int64) <<< (((0 : Int32) * p0) &&& 0x3f).toInt64))), .second, .val (.int (1 : Int32))] [(.long ((0 : Int64) ||| ((1 : Int64) <<< (((0 : Int32) * p0) &&& 0x3f).toInt64)))])) _
    refine XS.lconst X0.here hx rfl (hb hby d1_10) ?_
    show Steps p.tables e below (s₁.setTop (mkF m 11 #[.val (.int p0), .val (.long ((0 : Int64) ||| ((1 : Int64) <<< (((0 : Int32) * p0) &&& 0x3f).toInt64))), .second, .val (.int (1 : Int32))] [(.long (1 : Int64)), (.long ((0 : Int64) ||| ((1 : Int64) <<< (((0 : Int32) * p0) &&& 0x3f).toInt64)))])) _
    refine XS.iloadN X0.here hx rfl (hb hby d1_11) rfl ?_
    show Steps p.tables e below (s₁.setTop (mkF m 12 #[.val (.int p0), .val (.long ((0 : Int64) ||| ((1 : Int64) <<< (((0 : Int32) * p0) &&& 0x3f).toInt64))), .second, .val (.int (1 : Int32))] [(.int (1 : Int32)), (.long (1 : Int64)), (.long ((0 : Int64) ||| ((1 : Int64) <<< (((0 : Int32) * p0) &&& 0x3f).toInt64)))])) _
    refine XS.iloadN X0.here hx rfl (hb hby d1_12) rfl ?_
    show Steps p.tables e below (s₁.setTop (mkF m 13 #[.val (.int p0), .val (.long ((0 : Int64) ||| ((1 : Int64) <<< (((0 : Int32) * p0) &&& 0x3f).toInt64))), .second, .val (.int (1 : Int32))] [(.int p0), (.int (1 : Int32)), (.long (1 : Int64)), (.long ((0 : Int64) ||| ((1 : Int64) <<< (((0 : Int32) * p0) &&& 0x3f).toInt64)))])) _
    refine XS.imul X0.here hx rfl (hb hby d1_13) rfl ?_
    show Steps p.tables e below (s₁.setTop (mkF m 14 #[.val (.int p0), .val (.long ((0 : Int64) ||| ((1 : Int64) <<< (((0 : Int32) * p0) &&& 0x3f).toInt64))), .second, .val (.int (1 : Int32))] [(.int ((1 : Int32) * p0)), (.long (1 : Int64)), (.long ((0 : Int64) ||| ((1 : Int64) <<< (((0 : Int32) * p0) &&& 0x3f).toInt64)))])) _
    refine XS.lshl X0.here hx rfl (hb hby d1_14) rfl ?_
    show Steps p.tables e below (s₁.setTop (mkF m 15 #[.val (.int p0), .val (.long ((0 : Int64) ||| ((1 : Int64) <<< (((0 : Int32) * p0) &&& 0x3f).toInt64))), .second, .val (.int (1 : Int32))] [(.long ((1 : Int64) <<< (((1 : Int32) * p0) &&& 0x3f).toInt64)), (.long ((0 : Int64) ||| ((1 : Int64) <<< (((0 : Int32) * p0) &&& 0x3f).toInt64)))])) _
    refine XS.lor X0.here hx rfl (hb hby d1_15) rfl ?_
    show Steps p.tables e below (s₁.setTop (mkF m 16 #[.val (.int p0), .val (.long ((0 : Int64) ||| ((1 : Int64) <<< (((0 : Int32) * p0) &&& 0x3f).toInt64))), .second, .val (.int (1 : Int32))] [(.long (((0 : Int64) ||| ((1 : Int64) <<< (((0 : Int32) * p0) &&& 0x3f).toInt64)) ||| ((1 : Int64) <<< (((1 : Int32) * p0) &&& 0x3f).toInt64)))])) _
    refine XS.lstoreN X0.here hx rfl (hb hby d1_16) rfl (l' := #[.val (.int p0), .val (.long (((0 : Int64) ||| ((1 : Int64) <<< (((0 : Int32) * p0) &&& 0x3f).toInt64)) ||| ((1 : Int64) <<< (((1 : Int32) * p0) &&& 0x3f).toInt64))), .second, .val (.int (1 : Int32))]) rfl ?_
    show Steps p.tables e below (s₁.setTop (mkF m 17 #[.val (.int p0), .val (.long (((0 : Int64) ||| ((1 : Int64) <<< (((0 : Int32) * p0) &&& 0x3f).toInt64)) ||| ((1 : Int64) <<< (((1 : Int32) * p0) &&& 0x3f).toInt64))), .second, .val (.int (1 : Int32))] [])) _
    refine XS.iinc X0.here hx rfl (hb hby d1_17) rfl (l' := #[.val (.int p0), .val (.long (((0 : Int64) ||| ((1 : Int64) <<< (((0 : Int32) * p0) &&& 0x3f).toInt64)) ||| ((1 : Int64) <<< (((1 : Int32) * p0) &&& 0x3f).toInt64))), .second, .val (.int (2 : Int32))]) rfl ?_
    show Steps p.tables e below (s₁.setTop (mkF m 20 #[.val (.int p0), .val (.long (((0 : Int64) ||| ((1 : Int64) <<< (((0 : Int32) * p0) &&& 0x3f).toInt64)) ||| ((1 : Int64) <<< (((1 : Int32) * p0) &&& 0x3f).toInt64))), .second, .val (.int (2 : Int32))] [])) _
    refine XS.goto X0.here hx rfl (pc0 := 20) (pc' := 4) rfl (hb hby d1_20) (by decide) (by decide) ?_
    show Steps p.tables e below (s₁.setTop (mkF m 4 #[.val (.int p0), .val (.long (((0 : Int64) ||| ((1 : Int64) <<< (((0 : Int32) * p0) &&& 0x3f).toInt64)) ||| ((1 : Int64) <<< (((1 : Int32) * p0) &&& 0x3f).toInt64))), .second, .val (.int (2 : Int32))] [])) _
    refine XS.iloadN X0.here hx rfl (hb hby d1_4) rfl ?_
    show Steps p.tables e below (s₁.setTop (mkF m 5 #[.val (.int p0), .val (.long (((0 : Int64) ||| ((1 : Int64) <<< (((0 : Int32) * p0) &&& 0x3f).toInt64)) ||| ((1 : Int64) <<< (((1 : Int32) * p0) &&& 0x3f).toInt64))), .second, .val (.int (2 : Int32))] [(.int (2 : Int32))])) _
    refine XS.iconst X0.here hx rfl (hb hby d1_5) ?_
    show Steps p.tables e below (s₁.setTop (mkF m 6 #[.val (.int p0), .val (.long (((0 : Int64) ||| ((1 : Int64) <<< (((0 : Int32) * p0) &&& 0x3f).toInt64)) ||| ((1 : Int64) <<< (((1 : Int32) * p0) &&& 0x3f).toInt64))), .second, .val (.int (2 : Int32))] [(.int (4 : Int32)), (.int (2 : Int32))])) _
    refine XS.icmpNo X0.here hx rfl (hb hby d1_6) rfl (tlt (by decide)).2.1 ?_
    show Steps p.tables e below (s₁.setTop (mkF m 9 #[.val (.int p0), .val (.long (((0 : Int64) ||| ((1 : Int64) <<< (((0 : Int32) * p0) &&& 0x3f).toInt64)) ||| ((1 : Int64) <<< (((1 : Int32) * p0) &&& 0x3f).toInt64))), .second, .val (.int (2 : Int32))] [])) _
    refine XS.lloadN X0.here hx rfl (hb hby d1_9) rfl ?_
    show Steps p.tables e below (s₁.setTop (mkF m 10 #[.val (.int p0), .val (.long (((0 : Int64) ||| ((1 : Int64) <<< (((0 : Int32) * p0) &&& 0x3f).toInt64)) ||| ((1 : Int64) <<< (((1 : Int32) * p0) &&& 0x3f).toInt64))), .second, .val (.int (2 : Int32))] [(.long (((0 : Int64) ||| ((1 : Int64) <<< (((0 : Int32) * p0) &&& 0x3f).toInt64)) ||| ((1 : Int64) <<< (((1 : Int32) * p0) &&& 0x3f).toInt64)))])) _
    refine XS.lconst X0.here hx rfl (hb hby d1_10) ?_
    show Steps p.tables e below (s₁.setTop (mkF m 11 #[.val (.int p0), .val (.long (((0 : Int64) ||| ((1 : Int64) <<< (((0 : Int32) * p0) &&& 0x3f).toInt64)) ||| ((1 : Int64) <<< (((1 : Int32) * p0) &&& 0x3f).toInt64))), .second, .val (.int (2 : Int32))] [(.long (1 : Int64)), (.long (((0 : Int64) ||| ((1 : Int64) <<< (((0 : Int32) * p0) &&& 0x3f).toInt64)) ||| ((1 : Int64) <<< (((1 : Int32) * p0) &&& 0x3f).toInt64)))])) _
    refine XS.iloadN X0.here hx rfl (hb hby d1_11) rfl ?_
    show Steps p.tables e below (s₁.setTop (mkF m 12 #[.val (.int p0), .val (.long (((0 : Int64) ||| ((1 : Int64) <<< (((0 : Int32) * p0) &&& 0x3f).toInt64)) ||| ((1 : Int64) <<< (((1 : Int32) * p0) &&& 0x3f).toInt64))), .second, .val (.int (2 : Int32))] [(.int (2 : Int32)), (.long (1 : Int64)), (.long (((0 : Int64) ||| ((1 : Int64) <<< (((0 : Int32) * p0) &&& 0x3f).toInt64)) ||| ((1 : Int64) <<< (((1 : Int32) * p0) &&& 0x3f).toInt64)))])) _
    refine XS.iloadN X0.here hx rfl (hb hby d1_12) rfl ?_
    show Steps p.tables e below (s₁.setTop (mkF m 13 #[.val (.int p0), .val (.long (((0 : Int64) ||| ((1 : Int64) <<< (((0 : Int32) * p0) &&& 0x3f).toInt64)) ||| ((1 : Int64) <<< (((1 : Int32) * p0) &&& 0x3f).toInt64))), .second, .val (.int (2 : Int32))] [(.int p0), (.int (2 : Int32)), (.long (1 : Int64)), (.long (((0 : Int64) ||| ((1 : Int64) <<< (((0 : Int32) * p0) &&& 0x3f).toInt64)) ||| ((1 : Int64) <<< (((1 : Int32) * p0) &&& 0x3f).toInt64)))])) _
    refine XS.imul X0.here hx rfl (hb hby d1_13) rfl ?_
    show Steps p.tables e below (s₁.setTop (mkF m 14 #[.val (.int p0), .val (.long (((0 : Int64) ||| ((1 : Int64) <<< (((0 : Int32) * p0) &&& 0x3f).toInt64)) ||| ((1 : Int64) <<< (((1 : Int32) * p0) &&& 0x3f).toInt64))), .second, .val (.int (2 : Int32))] [(.int ((2 : Int32) * p0)), (.long (1 : Int64)), (.long (((0 : Int64) ||| ((1 : Int64) <<< (((0 : Int32) * p0) &&& 0x3f).toInt64)) ||| ((1 : Int64) <<< (((1 : Int32) * p0) &&& 0x3f).toInt64)))])) _
    refine XS.lshl X0.here hx rfl (hb hby d1_14) rfl ?_
    show Steps p.tables e below (s₁.setTop (mkF m 15 #[.val (.int p0), .val (.long (((0 : Int64) ||| ((1 : Int64) <<< (((0 : Int32) * p0) &&& 0x3f).toInt64)) ||| ((1 : Int64) <<< (((1 : Int32) * p0) &&& 0x3f).toInt64))), .second, .val (.int (2 : Int32))] [(.long ((1 : Int64) <<< (((2 : Int32) * p0) &&& 0x3f).toInt64)), (.long (((0 : Int64) ||| ((1 : Int64) <<< (((0 : Int32) * p0) &&& 0x3f).toInt64)) ||| ((1 : Int64) <<< (((1 : Int32) * p0) &&& 0x3f).toInt64)))])) _
    refine XS.lor X0.here hx rfl (hb hby d1_15) rfl ?_
    show Steps p.tables e below (s₁.setTop (mkF m 16 #[.val (.int p0), .val (.long (((0 : Int64) ||| ((1 : Int64) <<< (((0 : Int32) * p0) &&& 0x3f).toInt64)) ||| ((1 : Int64) <<< (((1 : Int32) * p0) &&& 0x3f).toInt64))), .second, .val (.int (2 : Int32))] [(.long ((((0 : Int64) ||| ((1 : Int64) <<< (((0 : Int32) * p0) &&& 0x3f).toInt64)) ||| ((1 : Int64) <<< (((1 : Int32) * p0) &&& 0x3f).toInt64)) ||| ((1 : Int64) <<< (((2 : Int32) * p0) &&& 0x3f).toInt64)))])) _
    refine XS.lstoreN X0.here hx rfl (hb hby d1_16) rfl (l' := #[.val (.int p0), .val (.long ((((0 : Int64) ||| ((1 : Int64) <<< (((0 : Int32) * p0) &&& 0x3f).toInt64)) ||| ((1 : Int64) <<< (((1 : Int32) * p0) &&& 0x3f).toInt64)) ||| ((1 : Int64) <<< (((2 : Int32) * p0) &&& 0x3f).toInt64))), .second, .val (.int (2 : Int32))]) rfl ?_
    show Steps p.tables e below (s₁.setTop (mkF m 17 #[.val (.int p0), .val (.long ((((0 : Int64) ||| ((1 : Int64) <<< (((0 : Int32) * p0) &&& 0x3f).toInt64)) ||| ((1 : Int64) <<< (((1 : Int32) * p0) &&& 0x3f).toInt64)) ||| ((1 : Int64) <<< (((2 : Int32) * p0) &&& 0x3f).toInt64))), .second, .val (.int (2 : Int32))] [])) _
    refine XS.iinc X0.here hx rfl (hb hby d1_17) rfl (l' := #[.val (.int p0), .val (.long ((((0 : Int64) ||| ((1 : Int64) <<< (((0 : Int32) * p0) &&& 0x3f).toInt64)) ||| ((1 : Int64) <<< (((1 : Int32) * p0) &&& 0x3f).toInt64)) ||| ((1 : Int64) <<< (((2 : Int32) * p0) &&& 0x3f).toInt64))), .second, .val (.int (3 : Int32))]) rfl ?_
    show Steps p.tables e below (s₁.setTop (mkF m 20 #[.val (.int p0), .val (.long ((((0 : Int64) ||| ((1 : Int64) <<< (((0 : Int32) * p0) &&& 0x3f).toInt64)) ||| ((1 : Int64) <<< (((1 : Int32) * p0) &&& 0x3f).toInt64)) ||| ((1 : Int64) <<< (((2 : Int32) * p0) &&& 0x3f).toInt64))), .second, .val (.int (3 : Int32))] [])) _
    refine XS.goto X0.here hx rfl (pc0 := 20) (pc' := 4) rfl (hb hby d1_20) (by decide) (by decide) ?_
    show Steps p.tables e below (s₁.setTop (mkF m 4 #[.val (.int p0), .val (.long ((((0 : Int64) ||| ((1 : Int64) <<< (((0 : Int32) * p0) &&& 0x3f).toInt64)) ||| ((1 : Int64) <<< (((1 : Int32) * p0) &&& 0x3f).toInt64)) ||| ((1 : Int64) <<< (((2 : Int32) * p0) &&& 0x3f).toInt64))), .second, .val (.int (3 : Int32))] [])) _
    refine XS.iloadN X0.here hx rfl (hb hby d1_4) rfl ?_
    show Steps p.tables e below (s₁.setTop (mkF m 5 #[.val (.int p0), .val (.long ((((0 : Int64) ||| ((1 : Int64) <<< (((0 : Int32) * p0) &&& 0x3f).toInt64)) ||| ((1 : Int64) <<< (((1 : Int32) * p0) &&& 0x3f).toInt64)) ||| ((1 : Int64) <<< (((2 : Int32) * p0) &&& 0x3f).toInt64))), .second, .val (.int (3 : Int32))] [(.int (3 : Int32))])) _
    refine XS.iconst X0.here hx rfl (hb hby d1_5) ?_
    show Steps p.tables e below (s₁.setTop (mkF m 6 #[.val (.int p0), .val (.long ((((0 : Int64) ||| ((1 : Int64) <<< (((0 : Int32) * p0) &&& 0x3f).toInt64)) ||| ((1 : Int64) <<< (((1 : Int32) * p0) &&& 0x3f).toInt64)) ||| ((1 : Int64) <<< (((2 : Int32) * p0) &&& 0x3f).toInt64))), .second, .val (.int (3 : Int32))] [(.int (4 : Int32)), (.int (3 : Int32))])) _
    refine XS.icmpNo X0.here hx rfl (hb hby d1_6) rfl (tlt (by decide)).2.1 ?_
    show Steps p.tables e below (s₁.setTop (mkF m 9 #[.val (.int p0), .val (.long ((((0 : Int64) ||| ((1 : Int64) <<< (((0 : Int32) * p0) &&& 0x3f).toInt64)) ||| ((1 : Int64) <<< (((1 : Int32) * p0) &&& 0x3f).toInt64)) ||| ((1 : Int64) <<< (((2 : Int32) * p0) &&& 0x3f).toInt64))), .second, .val (.int (3 : Int32))] [])) _
    refine XS.lloadN X0.here hx rfl (hb hby d1_9) rfl ?_
    show Steps p.tables e below (s₁.setTop (mkF m 10 #[.val (.int p0), .val (.long ((((0 : Int64) ||| ((1 : Int64) <<< (((0 : Int32) * p0) &&& 0x3f).toInt64)) ||| ((1 : Int64) <<< (((1 : Int32) * p0) &&& 0x3f).toInt64)) ||| ((1 : Int64) <<< (((2 : Int32) * p0) &&& 0x3f).toInt64))), .second, .val (.int (3 : Int32))] [(.long ((((0 : Int64) ||| ((1 : Int64) <<< (((0 : Int32) * p0) &&& 0x3f).toInt64)) ||| ((1 : Int64) <<< (((1 : Int32) * p0) &&& 0x3f).toInt64)) ||| ((1 : Int64) <<< (((2 : Int32) * p0) &&& 0x3f).toInt64)))])) _
    refine XS.lconst X0.here hx rfl (hb hby d1_10) ?_
    show Steps p.tables e below (s₁.setTop (mkF m 11 #[.val (.int p0), .val (.long ((((0 : Int64) ||| ((1 : Int64) <<< (((0 : Int32) * p0) &&& 0x3f).toInt64)) ||| ((1 : Int64) <<< (((1 : Int32) * p0) &&& 0x3f).toInt64)) ||| ((1 : Int64) <<< (((2 : Int32) * p0) &&& 0x3f).toInt64))), .second, .val (.int (3 : Int32))] [(.long (1 : Int64)), (.long ((((0 : Int64) ||| ((1 : Int64) <<< (((0 : Int32) * p0) &&& 0x3f).toInt64)) ||| ((1 : Int64) <<< (((1 : Int32) * p0) &&& 0x3f).toInt64)) ||| ((1 : Int64) <<< (((2 : Int32) * p0) &&& 0x3f).toInt64)))])) _
    refine XS.iloadN X0.here hx rfl (hb hby d1_11) rfl ?_
    show Steps p.tables e below (s₁.setTop (mkF m 12 #[.val (.int p0), .val (.long ((((0 : Int64) ||| ((1 : Int64) <<< (((0 : Int32) * p0) &&& 0x3f).toInt64)) ||| ((1 : Int64) <<< (((1 : Int32) * p0) &&& 0x3f).toInt64)) ||| ((1 : Int64) <<< (((2 : Int32) * p0) &&& 0x3f).toInt64))), .second, .val (.int (3 : Int32))] [(.int (3 : Int32)), (.long (1 : Int64)), (.long ((((0 : Int64) ||| ((1 : Int64) <<< (((0 : Int32) * p0) &&& 0x3f).toInt64)) ||| ((1 : Int64) <<< (((1 : Int32) * p0) &&& 0x3f).toInt64)) ||| ((1 : Int64) <<< (((2 : Int32) * p0) &&& 0x3f).toInt64)))])) _
    refine XS.iloadN X0.here hx rfl (hb hby d1_12) rfl ?_
    show Steps p.tables e below (s₁.setTop (mkF m 13 #[.val (.int p0), .val (.long ((((0 : Int64) ||| ((1 : Int64) <<< (((0 : Int32) * p0) &&& 0x3f).toInt64)) ||| ((1 : Int64) <<< (((1 : Int32) * p0) &&& 0x3f).toInt64)) ||| ((1 : Int64) <<< (((2 : Int32) * p0) &&& 0x3f).toInt64))), .second, .val (.int (3 : Int32))] [(.int p0), (.int (3 : Int32)), (.long (1 : Int64)), (.long ((((0 : Int64) ||| ((1 : Int64) <<< (((0 : Int32) * p0) &&& 0x3f).toInt64)) ||| ((1 : Int64) <<< (((1 : Int32) * p0) &&& 0x3f).toInt64)) ||| ((1 : Int64) <<< (((2 : Int32) * p0) &&& 0x3f).toInt64)))])) _
    refine XS.imul X0.here hx rfl (hb hby d1_13) rfl ?_
    show Steps p.tables e below (s₁.setTop (mkF m 14 #[.val (.int p0), .val (.long ((((0 : Int64) ||| ((1 : Int64) <<< (((0 : Int32) * p0) &&& 0x3f).toInt64)) ||| ((1 : Int64) <<< (((1 : Int32) * p0) &&& 0x3f).toInt64)) ||| ((1 : Int64) <<< (((2 : Int32) * p0) &&& 0x3f).toInt64))), .second, .val (.int (3 : Int32))] [(.int ((3 : Int32) * p0)), (.long (1 : Int64)), (.long ((((0 : Int64) ||| ((1 : Int64) <<< (((0 : Int32) * p0) &&& 0x3f).toInt64)) ||| ((1 : Int64) <<< (((1 : Int32) * p0) &&& 0x3f).toInt64)) ||| ((1 : Int64) <<< (((2 : Int32) * p0) &&& 0x3f).toInt64)))])) _
    refine XS.lshl X0.here hx rfl (hb hby d1_14) rfl ?_
    show Steps p.tables e below (s₁.setTop (mkF m 15 #[.val (.int p0), .val (.long ((((0 : Int64) ||| ((1 : Int64) <<< (((0 : Int32) * p0) &&& 0x3f).toInt64)) ||| ((1 : Int64) <<< (((1 : Int32) * p0) &&& 0x3f).toInt64)) ||| ((1 : Int64) <<< (((2 : Int32) * p0) &&& 0x3f).toInt64))), .second, .val (.int (3 : Int32))] [(.long ((1 : Int64) <<< (((3 : Int32) * p0) &&& 0x3f).toInt64)), (.long ((((0 : Int64) ||| ((1 : Int64) <<< (((0 : Int32) * p0) &&& 0x3f).toInt64)) ||| ((1 : Int64) <<< (((1 : Int32) * p0) &&& 0x3f).toInt64)) ||| ((1 : Int64) <<< (((2 : Int32) * p0) &&& 0x3f).toInt64)))])) _
    refine XS.lor X0.here hx rfl (hb hby d1_15) rfl ?_
    show Steps p.tables e below (s₁.setTop (mkF m 16 #[.val (.int p0), .val (.long ((((0 : Int64) ||| ((1 : Int64) <<< (((0 : Int32) * p0) &&& 0x3f).toInt64)) ||| ((1 : Int64) <<< (((1 : Int32) * p0) &&& 0x3f).toInt64)) ||| ((1 : Int64) <<< (((2 : Int32) * p0) &&& 0x3f).toInt64))), .second, .val (.int (3 : Int32))] [(.long (((((0 : Int64) ||| ((1 : Int64) <<< (((0 : Int32) * p0) &&& 0x3f).toInt64)) ||| ((1 : Int64) <<< (((1 : Int32) * p0) &&& 0x3f).toInt64)) ||| ((1 : Int64) <<< (((2 : Int32) * p0) &&& 0x3f).toInt64)) ||| ((1 : Int64) <<< (((3 : Int32) * p0) &&& 0x3f).toInt64)))])) _
    refine XS.lstoreN X0.here hx rfl (hb hby d1_16) rfl (l' := #[.val (.int p0), .val (.long (((((0 : Int64) ||| ((1 : Int64) <<< (((0 : Int32) * p0) &&& 0x3f).toInt64)) ||| ((1 : Int64) <<< (((1 : Int32) * p0) &&& 0x3f).toInt64)) ||| ((1 : Int64) <<< (((2 : Int32) * p0) &&& 0x3f).toInt64)) ||| ((1 : Int64) <<< (((3 : Int32) * p0) &&& 0x3f).toInt64))), .second, .val (.int (3 : Int32))]) rfl ?_
    show Steps p.tables e below (s₁.setTop (mkF m 17 #[.val (.int p0), .val (.long (((((0 : Int64) ||| ((1 : Int64) <<< (((0 : Int32) * p0) &&& 0x3f).toInt64)) ||| ((1 : Int64) <<< (((1 : Int32) * p0) &&& 0x3f).toInt64)) ||| ((1 : Int64) <<< (((2 : Int32) * p0) &&& 0x3f).toInt64)) ||| ((1 : Int64) <<< (((3 : Int32) * p0) &&& 0x3f).toInt64))), .second, .val (.int (3 : Int32))] [])) _
    refine XS.iinc X0.here hx rfl (hb hby d1_17) rfl (l' := #[.val (.int p0), .val (.long (((((0 : Int64) ||| ((1 : Int64) <<< (((0 : Int32) * p0) &&& 0x3f).toInt64)) ||| ((1 : Int64) <<< (((1 : Int32) * p0) &&& 0x3f).toInt64)) ||| ((1 : Int64) <<< (((2 : Int32) * p0) &&& 0x3f).toInt64)) ||| ((1 : Int64) <<< (((3 : Int32) * p0) &&& 0x3f).toInt64))), .second, .val (.int (4 : Int32))]) rfl ?_
    show Steps p.tables e below (s₁.setTop (mkF m 20 #[.val (.int p0), .val (.long (((((0 : Int64) ||| ((1 : Int64) <<< (((0 : Int32) * p0) &&& 0x3f).toInt64)) ||| ((1 : Int64) <<< (((1 : Int32) * p0) &&& 0x3f).toInt64)) ||| ((1 : Int64) <<< (((2 : Int32) * p0) &&& 0x3f).toInt64)) ||| ((1 : Int64) <<< (((3 : Int32) * p0) &&& 0x3f).toInt64))), .second, .val (.int (4 : Int32))] [])) _
    refine XS.goto X0.here hx rfl (pc0 := 20) (pc' := 4) rfl (hb hby d1_20) (by decide) (by decide) ?_
    show Steps p.tables e below (s₁.setTop (mkF m 4 #[.val (.int p0), .val (.long (((((0 : Int64) ||| ((1 : Int64) <<< (((0 : Int32) * p0) &&& 0x3f).toInt64)) ||| ((1 : Int64) <<< (((1 : Int32) * p0) &&& 0x3f).toInt64)) ||| ((1 : Int64) <<< (((2 : Int32) * p0) &&& 0x3f).toInt64)) ||| ((1 : Int64) <<< (((3 : Int32) * p0) &&& 0x3f).toInt64))), .second, .val (.int (4 : Int32))] [])) _
    refine XS.iloadN X0.here hx rfl (hb hby d1_4) rfl ?_
    show Steps p.tables e below (s₁.setTop (mkF m 5 #[.val (.int p0), .val (.long (((((0 : Int64) ||| ((1 : Int64) <<< (((0 : Int32) * p0) &&& 0x3f).toInt64)) ||| ((1 : Int64) <<< (((1 : Int32) * p0) &&& 0x3f).toInt64)) ||| ((1 : Int64) <<< (((2 : Int32) * p0) &&& 0x3f).toInt64)) ||| ((1 : Int64) <<< (((3 : Int32) * p0) &&& 0x3f).toInt64))), .second, .val (.int (4 : Int32))] [(.int (4 : Int32))])) _
    refine XS.iconst X0.here hx rfl (hb hby d1_5) ?_
    show Steps p.tables e below (s₁.setTop (mkF m 6 #[.val (.int p0), .val (.long (((((0 : Int64) ||| ((1 : Int64) <<< (((0 : Int32) * p0) &&& 0x3f).toInt64)) ||| ((1 : Int64) <<< (((1 : Int32) * p0) &&& 0x3f).toInt64)) ||| ((1 : Int64) <<< (((2 : Int32) * p0) &&& 0x3f).toInt64)) ||| ((1 : Int64) <<< (((3 : Int32) * p0) &&& 0x3f).toInt64))), .second, .val (.int (4 : Int32))] [(.int (4 : Int32)), (.int (4 : Int32))])) _
    refine XS.icmpYes X0.here hx rfl (pc0 := 6) (pc' := 23) rfl (hb hby d1_6) rfl (flt (by decide)).2.1 (by decide) (by decide) ?_
    show Steps p.tables e below (s₁.setTop (mkF m 23 #[.val (.int p0), .val (.long (((((0 : Int64) ||| ((1 : Int64) <<< (((0 : Int32) * p0) &&& 0x3f).toInt64)) ||| ((1 : Int64) <<< (((1 : Int32) * p0) &&& 0x3f).toInt64)) ||| ((1 : Int64) <<< (((2 : Int32) * p0) &&& 0x3f).toInt64)) ||| ((1 : Int64) <<< (((3 : Int32) * p0) &&& 0x3f).toInt64))), .second, .val (.int (4 : Int32))] [])) _
    refine XS.lloadN X0.here hx rfl (hb hby d1_23) rfl ?_
    exact k
  obtain ⟨fs, hr, hrun, hended, hW, hsame⟩ := X0.leave (v := some (.long (((((0 : Int64) ||| ((1 : Int64) <<< (((0 : Int32) * p0) &&& 0x3f).toInt64)) ||| ((1 : Int64) <<< (((1 : Int32) * p0) &&& 0x3f).toInt64)) ||| ((1 : Int64) <<< (((2 : Int32) * p0) &&& 0x3f).toInt64)) ||| ((1 : Int64) <<< (((3 : Int32) * p0) &&& 0x3f).toInt64)))) (fun h => by rw [Bd.returns] at h; cases h)
  refine ⟨_, _, pre1 _ ?_, hrun, hended, _, _, rfl, ?_, ⟨_, rfl⟩, hW, hsame.mono (by decide) (by decide)⟩
  · exact lreturnOut X0 hx Bd.returns (hb hby d1_24) hr
  · show Q1 Z p0 h0 n0 _ s₁.heap _
    rw [e0]
    refine ⟨?_, N0, rfl⟩
    rfl
def own_four (w : Int32) : Int64 := (if w = (16 : Int32) then (-1 : Int64) else (((1 : Int64) <<< (((4 : Int32) * w) &&& 0x3f).toInt64) - (1 : Int64)))
theorem own_all : ∀ k : Fin 16, own_lows (Int32.ofNat k.val + 1) * (((1 : Int64) <<< ((Int32.ofNat k.val + 1) &&& 0x3f).toInt64) - (1 : Int64)) = own_four (Int32.ofNat k.val + 1) := by decide +kernel
theorem own_plain (p0 : Int32) (v : Int64) (h : v = own_four ((p0 &&& (15 : Int32)) + (1 : Int32))) : own_lows ((p0 &&& (15 : Int32)) + (1 : Int32)) * (((1 : Int64) <<< (((p0 &&& (15 : Int32)) + (1 : Int32)) &&& 0x3f).toInt64) - (1 : Int64)) = v := by
  have e := c_mask p0 15 4 (by decide) (by decide)
  have q : 0 ≤ (p0 &&& (15 : Int32)).toInt ∧ (p0 &&& (15 : Int32)).toInt < 16 := by omega
  rw [h]
  clear h e
  generalize (p0 &&& (15 : Int32)) = y at *
  have := own_all ⟨y.toInt.toNat, by omega⟩
  have z : Int32.ofNat (y.toInt.toNat) = y := Int32.toInt_inj.mp (by rw [Int32.toInt_ofNat_of_lt (by omega)]; omega)
  simp only [z] at this; exact this
theorem pd_0 : parseMethodDescriptor "(I)J" = some ⟨[.int], some .long⟩ := by decide +kernel
theorem pn_0 : plainName "com/example/shunt/shunt/bits/CuckooBucketsSlotLowsPinLaw" = true := by first | (simp [plainName, overriddenIn]; done) | decide +kernel
theorem ef_0 (m : MethodId) (x0 : Int32) : entryFrame m #[(.int x0)] maxLocals = mkF m 0 #[.val (.int x0), .unset, .unset, .unset, .unset, .unset, .unset, .unset] [] := by first | (simp [entryFrame, mkF, argsToLocals, Value.category, maxLocals]; done) | rfl
def Q0 (Z : State) (p0 : Int32) (h0 : Heap) (n0 : Nat) (v : Option Value) (h : Heap) (L : List Loc) : Prop := v = some (.int (1 : Int32)) ∧ Fr n0 L
set_option maxRecDepth 65536 in
set_option maxHeartbeats 40000000 in
theorem rm0 (l : Launch) (Z : State) (a0 : Array Value) (hw : ∀ d ∈ tables_1, d.before a0 Z = true) (ws : List Jvm.Cond) (p0 : Int32) (h0 : Heap) (n0 : Nat) (Z0 : n0 ≤ h0.size) :
    MetFree l x (head1 (Jvm.Cond.code x code maxLocals ret :: ws) room_1) (fun a U => a = #[(.int p0)] ∧ Z.Warmed39 U.vm ∧ U.heap = h0) (fun _ _ _ _ _ => True) (fun _ U o U' => ∃ v L, o = .returned v ∧ Q0 Z p0 h0 n0 v U'.heap L ∧ FrameEnd U o U' L room_1.cells room_1.slots) := by
  refine MetFree.of_bodySF (plainFor_of_name pn_0) hisR ?_
  intro p e s m args below meth c s₁ Bd hml0 hP hK
  obtain ⟨rfl, hZ, hh⟩ := hP
  have hx := Bd.exec
  have hby := Bd.bytes
  have hml : c.maxLocals = 8 := hml0
  have hown : s.vm.findClass "com/example/shunt/shunt/bits/CuckooBucketsSlotLowsPinLaw" = some m.cls := findClass_of_methodNamed Bd.named
  have hnm := (name_of_methodNamed Bd.named Bd.method).1
  have X0 : Stand p l e room_1 s m #[(.int p0)] below meth c s₁ [] 0 0 := Stand.of_body Bd
  have e0 : s₁.heap = h0 := by rw [← hh, Bd.state]; rfl
  have N0 := Fr.nil n0
  have pre0 : ∀ t, Steps p.tables e below (s₁.setTop (mkF m 0 #[.val (.int p0), .unset, .unset, .unset, .unset, .unset, .unset, .unset] [])) t → Steps p.tables e below (s₁.setTop (entryFrame m #[(.int p0)] maxLocals)) t := fun t k => castTop (ef_0 m p0) k
  have pre2 : ∀ t, Steps p.tables e below (s₁.setTop (mkF m 8 #[.val (.int p0), .val (.int ((p0 &&& (15 : Int32)) + (1 : Int32))), .unset, .unset, .unset, .unset, .unset, .unset] [(.int ((p0 &&& (15 : Int32)) + (1 : Int32)))])) t → Steps p.tables e below (s₁.setTop (entryFrame m #[(.int p0)] maxLocals)) t := by
    intro t k
    refine pre0 t ?_
    show Steps p.tables e below (s₁.setTop (mkF m 0 #[.val (.int p0), .unset, .unset, .unset, .unset, .unset, .unset, .unset] [])) _
    refine XS.iloadN X0.here hx rfl (hb hby at_0) rfl ?_
    show Steps p.tables e below (s₁.setTop (mkF m 1 #[.val (.int p0), .unset, .unset, .unset, .unset, .unset, .unset, .unset] [(.int p0)])) _
    refine XS.bipush X0.here hx rfl (hb hby at_1) ?_
    show Steps p.tables e below (s₁.setTop (mkF m 3 #[.val (.int p0), .unset, .unset, .unset, .unset, .unset, .unset, .unset] [(.int (15 : Int32)), (.int p0)])) _
    refine XS.iand X0.here hx rfl (hb hby at_3) rfl ?_
    show Steps p.tables e below (s₁.setTop (mkF m 4 #[.val (.int p0), .unset, .unset, .unset, .unset, .unset, .unset, .unset] [(.int (p0 &&& (15 : Int32)))])) _
    refine XS.iconst X0.here hx rfl (hb hby at_4) ?_
    show Steps p.tables e below (s₁.setTop (mkF m 5 #[.val (.int p0), .unset, .unset, .unset, .unset, .unset, .unset, .unset] [(.int (1 : Int32)), (.int (p0 &&& (15 : Int32)))])) _
    refine XS.iadd X0.here hx rfl (hb hby at_5) rfl ?_
    show Steps p.tables e below (s₁.setTop (mkF m 6 #[.val (.int p0), .unset, .unset, .unset, .unset, .unset, .unset, .unset] [(.int ((p0 &&& (15 : Int32)) + (1 : Int32)))])) _
    refine XS.istoreN X0.here hx rfl (hb hby at_6) rfl (l' := #[.val (.int p0), .val (.int ((p0 &&& (15 : Int32)) + (1 : Int32))), .unset, .unset, .unset, .unset, .unset, .unset]) rfl ?_
    show Steps p.tables e below (s₁.setTop (mkF m 7 #[.val (.int p0), .val (.int ((p0 &&& (15 : Int32)) + (1 : Int32))), .unset, .unset, .unset, .unset, .unset, .unset] [])) _
    refine XS.iloadN X0.here hx rfl (hb hby at_7) rfl ?_
    exact k
  obtain ⟨_, _, ⟨T3, L3, k3, n3⟩, -, X3, ⟨Lc3, hQ3, l3, y3, z3⟩, st3⟩ := Jvm.LawKit.callS X0 hx (y := (⟨"com/example/shunt/shunt/bits/CuckooBuckets", "slotLows", "(I)J"⟩ : MethodName)) hown (mvT hZ (hw _ (List.mem_of_getElem? (i := 0) rfl))) (mvT hZ (hw _ (List.mem_of_getElem? (i := 1) rfl))) (mvT hZ (hw _ (List.mem_of_getElem? (i := 2) rfl))) (mvT hZ (hw _ (List.mem_of_getElem? (i := 3) rfl))) (by decide) (backOf (W := 0) (rm1 l Z a0 hw [] ((p0 &&& (15 : Int32)) + (1 : Int32))  h0 n0 Z0) hZ (hw _ (List.mem_of_getElem? (i := 3) rfl)) (hw _ (List.mem_of_getElem? (i := 2) rfl)) (by decide) (by decide)) (g := (mkF m 8 #[.val (.int p0), .val (.int ((p0 &&& (15 : Int32)) + (1 : Int32))), .unset, .unset, .unset, .unset, .unset, .unset] [(.int ((p0 &&& (15 : Int32)) + (1 : Int32)))])) rfl (by rw [hml]; rfl) (argsL := [(.int ((p0 &&& (15 : Int32)) + (1 : Int32)))]) (rest := []) (lenOf pd_0 rfl) rfl (by show 2 * 0 + _ ≤ _; exact Nat.le_of_eq rfl) (hb hby at_8) (fun _ _ => ⟨rfl, e0, (by decide : 0 + 0 ≤ _), (by decide : 0 + 0 ≤ _)⟩)
  dsimp only [Pt.U, Pt.locs, Pt.cells, Pt.slots] at X3 l3 y3 z3 st3 hQ3
  subst l3 y3 z3
  obtain ⟨rfl, N3q, e3⟩ := hQ3
  have N3 := Fr.app N0 N3q
  have pre4 : ∀ t, Steps p.tables e below (T3.setTop (mkF m 11 #[.val (.int p0), .val (.int ((p0 &&& (15 : Int32)) + (1 : Int32))), .unset, .unset, .unset, .unset, .unset, .unset] [(.long (own_lows ((p0 &&& (15 : Int32)) + (1 : Int32))))])) t → Steps p.tables e below (s₁.setTop (entryFrame m #[(.int p0)] maxLocals)) t := fun t k => pre2 t (st3 _ k)
  have pre5 : ∀ t, Steps p.tables e below (T3.setTop (mkF m 22 #[.val (.int p0), .val (.int ((p0 &&& (15 : Int32)) + (1 : Int32))), .val (.long (own_lows ((p0 &&& (15 : Int32)) + (1 : Int32)))), .second, .val (.long (((1 : Int64) <<< (((p0 &&& (15 : Int32)) + (1 : Int32)) &&& 0x3f).toInt64) - (1 : Int64))), .second, .unset, .unset] [(.int (16 : Int32)), (.int ((p0 &&& (15 : Int32)) + (1 : Int32)))])) t → Steps p.tables e below (s₁.setTop (entryFrame m #[(.int p0)] maxLocals)) t := by
    intro t k
    refine pre4 t ?_
    show Steps p.tables e below (T3.setTop (mkF m 11 #[.val (.int p0), .val (.int ((p0 &&& (15 : Int32)) + (1 : Int32))), .unset, .unset, .unset, .unset, .unset, .unset] [(.long (own_lows ((p0 &&& (15 : Int32)) + (1 : Int32))))])) _
    refine XS.lstoreN X3.here hx rfl (hb hby at_11) rfl (l' := #[.val (.int p0), .val (.int ((p0 &&& (15 : Int32)) + (1 : Int32))), .val (.long (own_lows ((p0 &&& (15 : Int32)) + (1 : Int32)))), .second, .unset, .unset, .unset, .unset]) rfl ?_
    show Steps p.tables e below (T3.setTop (mkF m 12 #[.val (.int p0), .val (.int ((p0 &&& (15 : Int32)) + (1 : Int32))), .val (.long (own_lows ((p0 &&& (15 : Int32)) + (1 : Int32)))), .second, .unset, .unset, .unset, .unset] [])) _
    refine XS.lconst X3.here hx rfl (hb hby at_12) ?_
    show Steps p.tables e below (T3.setTop (mkF m 13 #[.val (.int p0), .val (.int ((p0 &&& (15 : Int32)) + (1 : Int32))), .val (.long (own_lows ((p0 &&& (15 : Int32)) + (1 : Int32)))), .second, .unset, .unset, .unset, .unset] [(.long (1 : Int64))])) _
    refine XS.iloadN X3.here hx rfl (hb hby at_13) rfl ?_
    show Steps p.tables e below (T3.setTop (mkF m 14 #[.val (.int p0), .val (.int ((p0 &&& (15 : Int32)) + (1 : Int32))), .val (.long (own_lows ((p0 &&& (15 : Int32)) + (1 : Int32)))), .second, .unset, .unset, .unset, .unset] [(.int ((p0 &&& (15 : Int32)) + (1 : Int32))), (.long (1 : Int64))])) _
    refine XS.lshl X3.here hx rfl (hb hby at_14) rfl ?_
    show Steps p.tables e below (T3.setTop (mkF m 15 #[.val (.int p0), .val (.int ((p0 &&& (15 : Int32)) + (1 : Int32))), .val (.long (own_lows ((p0 &&& (15 : Int32)) + (1 : Int32)))), .second, .unset, .unset, .unset, .unset] [(.long ((1 : Int64) <<< (((p0 &&& (15 : Int32)) + (1 : Int32)) &&& 0x3f).toInt64))])) _
    refine XS.lconst X3.here hx rfl (hb hby at_15) ?_
    show Steps p.tables e below (T3.setTop (mkF m 16 #[.val (.int p0), .val (.int ((p0 &&& (15 : Int32)) + (1 : Int32))), .val (.long (own_lows ((p0 &&& (15 : Int32)) + (1 : Int32)))), .second, .unset, .unset, .unset, .unset] [(.long (1 : Int64)), (.long ((1 : Int64) <<< (((p0 &&& (15 : Int32)) + (1 : Int32)) &&& 0x3f).toInt64))])) _
    refine XS.lsub X3.here hx rfl (hb hby at_16) rfl ?_
    show Steps p.tables e below (T3.setTop (mkF m 17 #[.val (.int p0), .val (.int ((p0 &&& (15 : Int32)) + (1 : Int32))), .val (.long (own_lows ((p0 &&& (15 : Int32)) + (1 : Int32)))), .second, .unset, .unset, .unset, .unset] [(.long (((1 : Int64) <<< (((p0 &&& (15 : Int32)) + (1 : Int32)) &&& 0x3f).toInt64) - (1 : Int64)))])) _
    refine XS.lstore X3.here hx rfl (hb hby at_17) rfl (l' := #[.val (.int p0), .val (.int ((p0 &&& (15 : Int32)) + (1 : Int32))), .val (.long (own_lows ((p0 &&& (15 : Int32)) + (1 : Int32)))), .second, .val (.long (((1 : Int64) <<< (((p0 &&& (15 : Int32)) + (1 : Int32)) &&& 0x3f).toInt64) - (1 : Int64))), .second, .unset, .unset]) rfl ?_
    show Steps p.tables e below (T3.setTop (mkF m 19 #[.val (.int p0), .val (.int ((p0 &&& (15 : Int32)) + (1 : Int32))), .val (.long (own_lows ((p0 &&& (15 : Int32)) + (1 : Int32)))), .second, .val (.long (((1 : Int64) <<< (((p0 &&& (15 : Int32)) + (1 : Int32)) &&& 0x3f).toInt64) - (1 : Int64))), .second, .unset, .unset] [])) _
    refine XS.iloadN X3.here hx rfl (hb hby at_19) rfl ?_
    show Steps p.tables e below (T3.setTop (mkF m 20 #[.val (.int p0), .val (.int ((p0 &&& (15 : Int32)) + (1 : Int32))), .val (.long (own_lows ((p0 &&& (15 : Int32)) + (1 : Int32)))), .second, .val (.long (((1 : Int64) <<< (((p0 &&& (15 : Int32)) + (1 : Int32)) &&& 0x3f).toInt64) - (1 : Int64))), .second, .unset, .unset] [(.int ((p0 &&& (15 : Int32)) + (1 : Int32)))])) _
    refine XS.bipush X3.here hx rfl (hb hby at_20) ?_
    exact k
  obtain ⟨v38, hv38⟩ : ∃ z : Int64, z = (if ((p0 &&& (15 : Int32)) + (1 : Int32)) = (16 : Int32) then (-1 : Int64) else (((1 : Int64) <<< (((4 : Int32) * ((p0 &&& (15 : Int32)) + (1 : Int32))) &&& 0x3f).toInt64) - (1 : Int64))) := ⟨_, rfl⟩
  have pre6 : ∀ t, Steps p.tables e below (T3.setTop (mkF m 38 #[.val (.int p0), .val (.int ((p0 &&& (15 : Int32)) + (1 : Int32))), .val (.long (own_lows ((p0 &&& (15 : Int32)) + (1 : Int32)))), .second, .val (.long (((1 : Int64) <<< (((p0 &&& (15 : Int32)) + (1 : Int32)) &&& 0x3f).toInt64) - (1 : Int64))), .second, .unset, .unset] [(.long v38)])) t → Steps p.tables e below (s₁.setTop (entryFrame m #[(.int p0)] maxLocals)) t := by
    intro t k
    refine pre5 t ?_
    by_cases j_22 : ((p0 &&& (15 : Int32)) + (1 : Int32)) = (16 : Int32)
    · rw [hv38, if_pos j_22] at k
      show Steps p.tables e below (T3.setTop (mkF m 22 #[.val (.int p0), .val (.int ((p0 &&& (15 : Int32)) + (1 : Int32))), .val (.long (own_lows ((p0 &&& (15 : Int32)) + (1 : Int32)))), .second, .val (.long (((1 : Int64) <<< (((p0 &&& (15 : Int32)) + (1 : Int32)) &&& 0x3f).toInt64) - (1 : Int64))), .second, .unset, .unset] [(.int (16 : Int32)), (.int ((p0 &&& (15 : Int32)) + (1 : Int32)))])) _
      refine XS.icmpNo X3.here hx rfl (hb hby at_22) rfl (teq j_22).2 ?_
      show Steps p.tables e below (T3.setTop (mkF m 25 #[.val (.int p0), .val (.int ((p0 &&& (15 : Int32)) + (1 : Int32))), .val (.long (own_lows ((p0 &&& (15 : Int32)) + (1 : Int32)))), .second, .val (.long (((1 : Int64) <<< (((p0 &&& (15 : Int32)) + (1 : Int32)) &&& 0x3f).toInt64) - (1 : Int64))), .second, .unset, .unset] [])) _
      refine X3.ldc2Long hx hown (mvT hZ (hw _ (List.mem_of_getElem? (i := 4) rfl))) (g := (mkF m 25 #[.val (.int p0), .val (.int ((p0 &&& (15 : Int32)) + (1 : Int32))), .val (.long (own_lows ((p0 &&& (15 : Int32)) + (1 : Int32)))), .second, .val (.long (((1 : Int64) <<< (((p0 &&& (15 : Int32)) + (1 : Int32)) &&& 0x3f).toInt64) - (1 : Int64))), .second, .unset, .unset] [])) rfl (hb hby at_25) _ ?_
      show Steps p.tables e below (T3.setTop (mkF m 28 #[.val (.int p0), .val (.int ((p0 &&& (15 : Int32)) + (1 : Int32))), .val (.long (own_lows ((p0 &&& (15 : Int32)) + (1 : Int32)))), .second, .val (.long (((1 : Int64) <<< (((p0 &&& (15 : Int32)) + (1 : Int32)) &&& 0x3f).toInt64) - (1 : Int64))), .second, .unset, .unset] [(.long (-1 : Int64))])) _
      refine XS.goto X3.here hx rfl (pc0 := 28) (pc' := 38) rfl (hb hby at_28) (by decide) (by decide) ?_
      exact k
    · rw [hv38, if_neg j_22] at k
      show Steps p.tables e below (T3.setTop (mkF m 22 #[.val (.int p0), .val (.int ((p0 &&& (15 : Int32)) + (1 : Int32))), .val (.long (own_lows ((p0 &&& (15 : Int32)) + (1 : Int32)))), .second, .val (.long (((1 : Int64) <<< (((p0 &&& (15 : Int32)) + (1 : Int32)) &&& 0x3f).toInt64) - (1 : Int64))), .second, .unset, .unset] [(.int (16 : Int32)), (.int ((p0 &&& (15 : Int32)) + (1 : Int32)))])) _
      refine XS.icmpYes X3.here hx rfl (pc0 := 22) (pc' := 31) rfl (hb hby at_22) rfl (feq j_22).2 (by decide) (by decide) ?_
      show Steps p.tables e below (T3.setTop (mkF m 31 #[.val (.int p0), .val (.int ((p0 &&& (15 : Int32)) + (1 : Int32))), .val (.long (own_lows ((p0 &&& (15 : Int32)) + (1 : Int32)))), .second, .val (.long (((1 : Int64) <<< (((p0 &&& (15 : Int32)) + (1 : Int32)) &&& 0x3f).toInt64) - (1 : Int64))), .second, .unset, .unset] [])) _
      refine XS.lconst X3.here hx rfl (hb hby at_31) ?_
      show Steps p.tables e below (T3.setTop (mkF m 32 #[.val (.int p0), .val (.int ((p0 &&& (15 : Int32)) + (1 : Int32))), .val (.long (own_lows ((p0 &&& (15 : Int32)) + (1 : Int32)))), .second, .val (.long (((1 : Int64) <<< (((p0 &&& (15 : Int32)) + (1 : Int32)) &&& 0x3f).toInt64) - (1 : Int64))), .second, .unset, .unset] [(.long (1 : Int64))])) _
      refine XS.iconst X3.here hx rfl (hb hby at_32) ?_
      show Steps p.tables e below (T3.setTop (mkF m 33 #[.val (.int p0), .val (.int ((p0 &&& (15 : Int32)) + (1 : Int32))), .val (.long (own_lows ((p0 &&& (15 : Int32)) + (1 : Int32)))), .second, .val (.long (((1 : Int64) <<< (((p0 &&& (15 : Int32)) + (1 : Int32)) &&& 0x3f).toInt64) - (1 : Int64))), .second, .unset, .unset] [(.int (4 : Int32)), (.long (1 : Int64))])) _
      refine XS.iloadN X3.here hx rfl (hb hby at_33) rfl ?_
      show Steps p.tables e below (T3.setTop (mkF m 34 #[.val (.int p0), .val (.int ((p0 &&& (15 : Int32)) + (1 : Int32))), .val (.long (own_lows ((p0 &&& (15 : Int32)) + (1 : Int32)))), .second, .val (.long (((1 : Int64) <<< (((p0 &&& (15 : Int32)) + (1 : Int32)) &&& 0x3f).toInt64) - (1 : Int64))), .second, .unset, .unset] [(.int ((p0 &&& (15 : Int32)) + (1 : Int32))), (.int (4 : Int32)), (.long (1 : Int64))])) _
      refine XS.imul X3.here hx rfl (hb hby at_34) rfl ?_
      show Steps p.tables e below (T3.setTop (mkF m 35 #[.val (.int p0), .val (.int ((p0 &&& (15 : Int32)) + (1 : Int32))), .val (.long (own_lows ((p0 &&& (15 : Int32)) + (1 : Int32)))), .second, .val (.long (((1 : Int64) <<< (((p0 &&& (15 : Int32)) + (1 : Int32)) &&& 0x3f).toInt64) - (1 : Int64))), .second, .unset, .unset] [(.int ((4 : Int32) * ((p0 &&& (15 : Int32)) + (1 : Int32)))), (.long (1 : Int64))])) _
      refine XS.lshl X3.here hx rfl (hb hby at_35) rfl ?_
      show Steps p.tables e below (T3.setTop (mkF m 36 #[.val (.int p0), .val (.int ((p0 &&& (15 : Int32)) + (1 : Int32))), .val (.long (own_lows ((p0 &&& (15 : Int32)) + (1 : Int32)))), .second, .val (.long (((1 : Int64) <<< (((p0 &&& (15 : Int32)) + (1 : Int32)) &&& 0x3f).toInt64) - (1 : Int64))), .second, .unset, .unset] [(.long ((1 : Int64) <<< (((4 : Int32) * ((p0 &&& (15 : Int32)) + (1 : Int32))) &&& 0x3f).toInt64))])) _
      refine XS.lconst X3.here hx rfl (hb hby at_36) ?_
      show Steps p.tables e below (T3.setTop (mkF m 37 #[.val (.int p0), .val (.int ((p0 &&& (15 : Int32)) + (1 : Int32))), .val (.long (own_lows ((p0 &&& (15 : Int32)) + (1 : Int32)))), .second, .val (.long (((1 : Int64) <<< (((p0 &&& (15 : Int32)) + (1 : Int32)) &&& 0x3f).toInt64) - (1 : Int64))), .second, .unset, .unset] [(.long (1 : Int64)), (.long ((1 : Int64) <<< (((4 : Int32) * ((p0 &&& (15 : Int32)) + (1 : Int32))) &&& 0x3f).toInt64))])) _
      refine XS.lsub X3.here hx rfl (hb hby at_37) rfl ?_
      exact k
  have pre7 : ∀ t, Steps p.tables e below (T3.setTop (mkF m 47 #[.val (.int p0), .val (.int ((p0 &&& (15 : Int32)) + (1 : Int32))), .val (.long (own_lows ((p0 &&& (15 : Int32)) + (1 : Int32)))), .second, .val (.long (((1 : Int64) <<< (((p0 &&& (15 : Int32)) + (1 : Int32)) &&& 0x3f).toInt64) - (1 : Int64))), .second, .val (.long v38), .second] [(.int (lcmpW ((own_lows ((p0 &&& (15 : Int32)) + (1 : Int32))) * (((1 : Int64) <<< (((p0 &&& (15 : Int32)) + (1 : Int32)) &&& 0x3f).toInt64) - (1 : Int64))) v38))])) t → Steps p.tables e below (s₁.setTop (entryFrame m #[(.int p0)] maxLocals)) t := by
    intro t k
    refine pre6 t ?_
    show Steps p.tables e below (T3.setTop (mkF m 38 #[.val (.int p0), .val (.int ((p0 &&& (15 : Int32)) + (1 : Int32))), .val (.long (own_lows ((p0 &&& (15 : Int32)) + (1 : Int32)))), .second, .val (.long (((1 : Int64) <<< (((p0 &&& (15 : Int32)) + (1 : Int32)) &&& 0x3f).toInt64) - (1 : Int64))), .second, .unset, .unset] [(.long v38)])) _
    refine XS.lstore X3.here hx rfl (hb hby at_38) rfl (l' := #[.val (.int p0), .val (.int ((p0 &&& (15 : Int32)) + (1 : Int32))), .val (.long (own_lows ((p0 &&& (15 : Int32)) + (1 : Int32)))), .second, .val (.long (((1 : Int64) <<< (((p0 &&& (15 : Int32)) + (1 : Int32)) &&& 0x3f).toInt64) - (1 : Int64))), .second, .val (.long v38), .second]) rfl ?_
    show Steps p.tables e below (T3.setTop (mkF m 40 #[.val (.int p0), .val (.int ((p0 &&& (15 : Int32)) + (1 : Int32))), .val (.long (own_lows ((p0 &&& (15 : Int32)) + (1 : Int32)))), .second, .val (.long (((1 : Int64) <<< (((p0 &&& (15 : Int32)) + (1 : Int32)) &&& 0x3f).toInt64) - (1 : Int64))), .second, .val (.long v38), .second] [])) _
    refine XS.lloadN X3.here hx rfl (hb hby at_40) rfl ?_
    show Steps p.tables e below (T3.setTop (mkF m 41 #[.val (.int p0), .val (.int ((p0 &&& (15 : Int32)) + (1 : Int32))), .val (.long (own_lows ((p0 &&& (15 : Int32)) + (1 : Int32)))), .second, .val (.long (((1 : Int64) <<< (((p0 &&& (15 : Int32)) + (1 : Int32)) &&& 0x3f).toInt64) - (1 : Int64))), .second, .val (.long v38), .second] [(.long (own_lows ((p0 &&& (15 : Int32)) + (1 : Int32))))])) _
    refine XS.lload X3.here hx rfl (hb hby at_41) rfl ?_
    show Steps p.tables e below (T3.setTop (mkF m 43 #[.val (.int p0), .val (.int ((p0 &&& (15 : Int32)) + (1 : Int32))), .val (.long (own_lows ((p0 &&& (15 : Int32)) + (1 : Int32)))), .second, .val (.long (((1 : Int64) <<< (((p0 &&& (15 : Int32)) + (1 : Int32)) &&& 0x3f).toInt64) - (1 : Int64))), .second, .val (.long v38), .second] [(.long (((1 : Int64) <<< (((p0 &&& (15 : Int32)) + (1 : Int32)) &&& 0x3f).toInt64) - (1 : Int64))), (.long (own_lows ((p0 &&& (15 : Int32)) + (1 : Int32))))])) _
    refine XS.lmul X3.here hx rfl (hb hby at_43) rfl ?_
    show Steps p.tables e below (T3.setTop (mkF m 44 #[.val (.int p0), .val (.int ((p0 &&& (15 : Int32)) + (1 : Int32))), .val (.long (own_lows ((p0 &&& (15 : Int32)) + (1 : Int32)))), .second, .val (.long (((1 : Int64) <<< (((p0 &&& (15 : Int32)) + (1 : Int32)) &&& 0x3f).toInt64) - (1 : Int64))), .second, .val (.long v38), .second] [(.long ((own_lows ((p0 &&& (15 : Int32)) + (1 : Int32))) * (((1 : Int64) <<< (((p0 &&& (15 : Int32)) + (1 : Int32)) &&& 0x3f).toInt64) - (1 : Int64))))])) _
    refine XS.lload X3.here hx rfl (hb hby at_44) rfl ?_
    show Steps p.tables e below (T3.setTop (mkF m 46 #[.val (.int p0), .val (.int ((p0 &&& (15 : Int32)) + (1 : Int32))), .val (.long (own_lows ((p0 &&& (15 : Int32)) + (1 : Int32)))), .second, .val (.long (((1 : Int64) <<< (((p0 &&& (15 : Int32)) + (1 : Int32)) &&& 0x3f).toInt64) - (1 : Int64))), .second, .val (.long v38), .second] [(.long v38), (.long ((own_lows ((p0 &&& (15 : Int32)) + (1 : Int32))) * (((1 : Int64) <<< (((p0 &&& (15 : Int32)) + (1 : Int32)) &&& 0x3f).toInt64) - (1 : Int64))))])) _
    refine XS.lcmp X3.here hx rfl (hb hby at_46) rfl ?_
    exact k
  by_cases hc47 : ((own_lows ((p0 &&& (15 : Int32)) + (1 : Int32))) * (((1 : Int64) <<< (((p0 &&& (15 : Int32)) + (1 : Int32)) &&& 0x3f).toInt64) - (1 : Int64))) = v38
  · have pre8 : ∀ t, Steps p.tables e below (T3.setTop (mkF m 55 #[.val (.int p0), .val (.int ((p0 &&& (15 : Int32)) + (1 : Int32))), .val (.long (own_lows ((p0 &&& (15 : Int32)) + (1 : Int32)))), .second, .val (.long (((1 : Int64) <<< (((p0 &&& (15 : Int32)) + (1 : Int32)) &&& 0x3f).toInt64) - (1 : Int64))), .second, .val (.long v38), .second] [(.int (1 : Int32))])) t → Steps p.tables e below (s₁.setTop (entryFrame m #[(.int p0)] maxLocals)) t := by
      intro t k
      refine pre7 t ?_
      show Steps p.tables e below (T3.setTop (mkF m 47 #[.val (.int p0), .val (.int ((p0 &&& (15 : Int32)) + (1 : Int32))), .val (.long (own_lows ((p0 &&& (15 : Int32)) + (1 : Int32)))), .second, .val (.long (((1 : Int64) <<< (((p0 &&& (15 : Int32)) + (1 : Int32)) &&& 0x3f).toInt64) - (1 : Int64))), .second, .val (.long v38), .second] [(.int (lcmpW ((own_lows ((p0 &&& (15 : Int32)) + (1 : Int32))) * (((1 : Int64) <<< (((p0 &&& (15 : Int32)) + (1 : Int32)) &&& 0x3f).toInt64) - (1 : Int64))) v38))])) _
      refine XS.ifNo X3.here hx rfl (hb hby at_47) rfl ((if0 _ _).trans (teq ((lw_eq _ _).mpr hc47)).2) ?_
      show Steps p.tables e below (T3.setTop (mkF m 50 #[.val (.int p0), .val (.int ((p0 &&& (15 : Int32)) + (1 : Int32))), .val (.long (own_lows ((p0 &&& (15 : Int32)) + (1 : Int32)))), .second, .val (.long (((1 : Int64) <<< (((p0 &&& (15 : Int32)) + (1 : Int32)) &&& 0x3f).toInt64) - (1 : Int64))), .second, .val (.long v38), .second] [])) _
      refine XS.iconst X3.here hx rfl (hb hby at_50) ?_
      show Steps p.tables e below (T3.setTop (mkF m 51 #[.val (.int p0), .val (.int ((p0 &&& (15 : Int32)) + (1 : Int32))), .val (.long (own_lows ((p0 &&& (15 : Int32)) + (1 : Int32)))), .second, .val (.long (((1 : Int64) <<< (((p0 &&& (15 : Int32)) + (1 : Int32)) &&& 0x3f).toInt64) - (1 : Int64))), .second, .val (.long v38), .second] [(.int (1 : Int32))])) _
      refine XS.goto X3.here hx rfl (pc0 := 51) (pc' := 55) rfl (hb hby at_51) (by decide) (by decide) ?_
      exact k
    obtain ⟨fs, hr, hrun, hended, hW, hsame⟩ := X3.leave (v := some (.int (1 : Int32))) (fun h => by rw [Bd.returns] at h; cases h)
    refine ⟨_, _, pre8 _ ?_, hrun, hended, _, _, rfl, ?_, ⟨_, rfl⟩, hW, hsame.mono (by decide) (by decide)⟩
    · exact retN X3 hx (t := .boolean) Bd.returns (by simp) (hb hby at_55) hr
    · show Q0 Z p0 h0 n0 _ T3.heap _
      rw [e3]
      exact ⟨rfl, N3⟩
  · exfalso
    exact hc47 (own_plain p0 v38 hv38)
set_option maxRecDepth 65536 in
set_option maxHeartbeats 40000000 in
theorem comes_1 {Post : Tables → Env → Array Value → State → Outcome → State → Prop} (hpost : ∀ tb e args s v u, (limb_1_1.after args s (.returned v) u = true ∧ limb_1_2.after args s (.returned v) u = true ∧ True) → FrameEnd s (.returned v) u (Jvm.fieldLocs frame_1_writes args s ++ Jvm.arrayLocs frame_1_arrays args s ++ Jvm.staticLocs frame_1_statics s) 0 0 → Post tb e args s (.returned v) u) :
    ArmFor flags0 classFile x code maxLocals ret World_1 tables_1 room_1 Calls_1 rest_1 Pre_1 Post := by
  intro l hfl _ _ p e ha hc hk s m args below hf hA hF happ hP
  obtain ⟨hcalls, hrest, hpre⟩ := hP
  obtain ⟨-, -, -, hnamed, -, -, -, hat⟩ := (Spec.applies_iff hf).mp happ
  obtain ⟨hg, hn⟩ := and_e (Cond.before_iff.mp (show (Jvm.Cond.and given_1 narrow_1).before args s = true from hpre))
  obtain ⟨g1, g2⟩ := and_e hg
  obtain ⟨w0, rfl⟩ : ∃ w0 : Value, args = #[w0] := by
    have hs : args.size = 1 := by simpa [Cond.value, given_1] using g1
    obtain ⟨L⟩ := args
    match L, hs with
    | [w0], _ => exact ⟨w0, rfl⟩
  have hw := fun d (hd : d ∈ tables_1) => atoms_spec (ws := Jvm.Cond.code x code maxLocals ret :: tables_1) hat d (List.mem_cons_of_mem _ hd)
  have hfit : Fit s := fun {y c} hc i hi => by
    obtain ⟨ha, rfl⟩ := Array.getElem?_eq_some_iff.mp hc
    have q := List.all_eq_true.mp ((Array.all_eq_true_iff_forall_mem.mp hF) _ (Array.getElem_mem ha)) i (List.mem_range.mpr hi)
    simpa [Array.getElem?_eq_getElem hi] using q
  obtain ⟨i0, ei0⟩ := is_v g2
  obtain rfl : w0 = (.int i0) := Option.some.inj ei0
  obtain ⟨n, o, h1, h2, h3, _, L, rfl, ⟨rfl, N⟩, hq⟩ := rm0 l s _ hw tables_1 i0 s.heap s.heap.size (Nat.le_refl _) p e ha hc hk s m _ below hf ((Spec.applies_iff_loose hf).mp happ).1 ⟨rfl, State.Warmed39.refl s, rfl⟩ trivial
  refine ⟨n, _, h1, h2, h3, hpost _ _ _ _ _ _ ⟨Cond.after_iff.mpr rfl, Cond.after_iff.mpr (eq_i res_at (Term.int_eval (1)) rfl), trivial⟩ ⟨hq.1, hq.2.1, (hq.2.2.sift fun y hy => Or.inr (N y hy)).mono (by decide) (by decide)⟩⟩
theorem main_1_1 : Claimed_1_1 := comes_1 fun _ _ _ _ _ _ h hF => ⟨h.1, hF⟩
theorem main_1_2 : Claimed_1_2 := comes_1 fun _ _ _ _ _ _ h hF => ⟨h.2.1, hF⟩
end Jvm.Pilot.@@N@@
namespace Jvm.Pilot.@@N@@
open Jvm Jvm.ClassFile Sem Op Lib Jvm.Free Jvm.Stand Jvm.Pilot.@@N@@.Jvm.D
/-! MADE BY PROGRAM (witnessworld.py) out of the Statement's table words and the real class files: 9 classes; the members and pool entries that the words name. The judged class is class 1, her method 1. -/
namespace start1
open Jvm.ClassFile
def u (s : String) : CpInfo := .utf8 (stringToUtf16 s)
/-- a pool by its gaps: so many unusable entries, then the entry; so many at the end -/
def gap : Nat → List CpInfo → List CpInfo
  | 0, r => r
  | n + 1, r => .unusable :: gap n r
def poolList (es : List (Nat × CpInfo)) (last : Nat) : List CpInfo := es.foldr (fun e r => gap e.1 (e.2 :: r)) (gap last [])
def pool (es : List (Nat × CpInfo)) (last : Nat) : Array CpInfo := ⟨poolList es last⟩
def fileOf (pool : Array CpInfo) (this : Nat) (attrs : Array Attribute := #[]) (ms : Array MethodInfo := #[]) (fl : Nat := 33) (sup : Nat := 0) (ifs : Array Nat := #[]) (fds : Array FieldInfo := #[]) : ClassFile where
  minorVersion := 0
  majorVersion := 65
  constantPool := pool
  accessFlags := fl
  thisClass := this
  superClass := sup
  interfaces := ifs
  fields := fds
  methods := ms
  attributes := attrs
def plain (name : String) (sup : Option ClassId) : Class where
  name := name
  kind := .ordinary
  loader := none
  accessFlags := 33
  super := sup
  interfaces := #[]
  cf := none
  fields := #[]
  methods := #[]
  instanceTypes := #[]
  staticTypes := #[]
  resolved := #[]
  callSites := []
  init := .initialized
  statics := none
  mirror := none

def pool0 : Array CpInfo := pool [(5, u "<init>"), (0, u "()V"), (1, .class_ 10), (1, u "java/lang/Object")] 113

def k0m0 : Method := { name := "<init>", desc := "()V", sig := { parameters := [], returnType := none }, accessFlags := 1, code := none }
/-- java/lang/Object -/
def k0 : Class := { plain "java/lang/Object" none with
  accessFlags := 33
  interfaces := #[]
  cf := some (fileOf pool0 8 #[] #[{ accessFlags := 1, nameIndex := 5, descriptorIndex := 6, attributes := #[] }] 33 0 #[] #[])
  fields := #[]
  methods := #[k0m0]
  instanceTypes := #[]
  staticTypes := #[]
  resolved := Array.replicate 124 none
  statics := none }

def pool1 : Array CpInfo := pool [(2, .class_ 4), (1, u "java/lang/Object"), (0, u "<init>"), (0, u "()V"), (0, .methodref 8 9), (0, .class_ 10), (0, .nameAndType 11 12), (0, u "com/example/shunt/shunt/bits/CuckooBuckets"), (0, u "slotLows"), (0, u "(I)J"), (0, .long 18446744073709551615), (1, .class_ 16), (0, u "com/example/shunt/shunt/bits/CuckooBucketsSlotLowsPinLaw"), (2, u "law"), (0, u "(I)Z")] 3

def k1m0 : Method := { name := "<init>", desc := "()V", sig := { parameters := [], returnType := none }, accessFlags := 1, code := none }
def k1c1 : Code := { maxStack := 4, maxLocals := 8, code := code, exceptionTable := #[], attributes := #[] }
def k1m1 : Method := { name := "law", desc := "(I)Z", sig := { parameters := [.int], returnType := some .boolean }, accessFlags := 9, code := some k1c1 }
/-- com/example/shunt/shunt/bits/CuckooBucketsSlotLowsPinLaw -/
def k1 : Class := { plain "com/example/shunt/shunt/bits/CuckooBucketsSlotLowsPinLaw" (some 0) with
  accessFlags := 49
  interfaces := #[]
  cf := some (fileOf pool1 15 #[] #[{ accessFlags := 1, nameIndex := 5, descriptorIndex := 6, attributes := #[] }, { accessFlags := 9, nameIndex := 19, descriptorIndex := 20, attributes := #[] }] 49 2 #[] #[])
  fields := #[]
  methods := #[k1m0, k1m1]
  instanceTypes := #[]
  staticTypes := #[]
  resolved := Array.replicate 24 none
  statics := none }

def pool2 : Array CpInfo := pool [(2, .class_ 4), (1, u "java/lang/Object"), (0, u "<init>"), (0, u "()V"), (0, .class_ 8), (0, u "com/example/shunt/shunt/bits/CuckooBuckets"), (14, u "searched"), (0, u "Lcom/example/shunt/shunt/bits/SearchedBuckets;"), (2, u "reached"), (0, u "[J"), (2, u "reachedBy"), (0, u "[I"), (36, u "SLOTS"), (0, u "I"), (2, u "INITIAL_REACH"), (3, u "slotLows"), (0, u "(I)J")] 7

def k2m0 : Method := { name := "<init>", desc := "()V", sig := { parameters := [], returnType := none }, accessFlags := 1, code := none }
def k2c1 : Code := { maxStack := 6, maxLocals := 4, code := prog_3_method_2_code, exceptionTable := #[], attributes := #[] }
def k2m1 : Method := { name := "slotLows", desc := "(I)J", sig := { parameters := [.int], returnType := some .long }, accessFlags := 9, code := some k2c1 }
/-- com/example/shunt/shunt/bits/CuckooBuckets -/
def k2 : Class := { plain "com/example/shunt/shunt/bits/CuckooBuckets" (some 0) with
  accessFlags := 1057
  interfaces := #[]
  cf := some (fileOf pool2 7 #[] #[{ accessFlags := 1, nameIndex := 5, descriptorIndex := 6, attributes := #[] }, { accessFlags := 9, nameIndex := 77, descriptorIndex := 78, attributes := #[] }] 1057 2 #[] #[{ accessFlags := 25, nameIndex := 69, descriptorIndex := 70, attributes := #[] }, { accessFlags := 26, nameIndex := 73, descriptorIndex := 70, attributes := #[] }, { accessFlags := 2, nameIndex := 27, descriptorIndex := 28, attributes := #[] }, { accessFlags := 2, nameIndex := 31, descriptorIndex := 32, attributes := #[] }, { accessFlags := 2, nameIndex := 23, descriptorIndex := 24, attributes := #[] }])
  fields := #[{ name := "SLOTS", type := .int, accessFlags := 25, slot := 0, constantValue := 0 }, { name := "INITIAL_REACH", type := .int, accessFlags := 26, slot := 1, constantValue := 0 }, { name := "reached", type := (.array .long), accessFlags := 2, slot := 0, constantValue := 0 }, { name := "reachedBy", type := (.array .int), accessFlags := 2, slot := 1, constantValue := 0 }, { name := "searched", type := (.object "com/example/shunt/shunt/bits/SearchedBuckets"), accessFlags := 2, slot := 2, constantValue := 0 }]
  methods := #[k2m0, k2m1]
  instanceTypes := #[(.array .long), (.array .int), (.object "com/example/shunt/shunt/bits/SearchedBuckets")]
  staticTypes := #[.int, .int]
  resolved := Array.replicate 86 none
  statics := none }

def pool3 : Array CpInfo := pool [(1, u "java/lang/Cloneable"), (0, .class_ 1), (0, u "java/lang/Object"), (0, .class_ 3)] 3

/-- java/lang/Cloneable -/
def k3 : Class := { plain "java/lang/Cloneable" (some 0) with
  accessFlags := 1537
  interfaces := #[]
  cf := some (fileOf pool3 2 #[] #[] 1537 4 #[] #[])
  fields := #[]
  methods := #[]
  instanceTypes := #[]
  staticTypes := #[]
  resolved := Array.replicate 8 none
  statics := none }

def pool4 : Array CpInfo := pool [(1, u "java/io/Serializable"), (0, .class_ 1), (0, u "java/lang/Object"), (0, .class_ 3)] 3

/-- java/io/Serializable -/
def k4 : Class := { plain "java/io/Serializable" (some 0) with
  accessFlags := 1537
  interfaces := #[]
  cf := some (fileOf pool4 2 #[] #[] 1537 4 #[] #[])
  fields := #[]
  methods := #[]
  instanceTypes := #[]
  staticTypes := #[]
  resolved := Array.replicate 8 none
  statics := none }

/-- the primitive byte -/
def k5 : Class := { plain "byte" none with kind := .primitive 'B', accessFlags := 0x411 }
/-- [B -/
def k6 : Class := { plain "[B" (some 0) with kind := .array 5 .byte, interfaces := #[3, 4], accessFlags := 1041 }

/-- the primitive int -/
def k7 : Class := { plain "int" none with kind := .primitive 'I', accessFlags := 0x411 }
/-- [I -/
def k8 : Class := { plain "[I" (some 0) with kind := .array 7 .int, interfaces := #[3, 4], accessFlags := 1041 }

def heap : Heap := #[]
def classes : Array Class := #[k0, k1, k2, k3, k4, k5, k6, k7, k8]
def interned : List (Array UInt16 × Addr) := []
def slotsUsed : Nat := 0
def theMethod : MethodId := ⟨1, 1⟩
def args0 : Array Value := #[.int 9]
def aboutOver (below : List Frame) : State where
  vm := { classes := classes, interned := interned.toArray }
  heap := heap
  slotsUsed := slotsUsed
  threads := #[{ frames := .invoking theMethod args0 :: below }]
def below0 : List Frame := [.native { method := ⟨0, 0⟩, args := #[] }]
def about1 : State := aboutOver below0
def p0 : Program := .bare "" "" ""
def e0 : Env := launch0.env 0 0 0
theorem w_frames : about1.frames = Frame.invoking theMethod args0 :: below0 := rfl
set_option maxRecDepth 65536 in
theorem w_args : argsFit about1.vm theMethod args0 = true := by decide +kernel
set_option maxRecDepth 65536 in
theorem w_heap : heapFits about1 = true := by decide +kernel
set_option maxRecDepth 65536 in
theorem w_runnable : about1.curStatus? = some .runnable := by decide +kernel
set_option maxRecDepth 65536 in
theorem w_alone : about1.alone = true := by decide +kernel
set_option maxRecDepth 65536 in
theorem w_named : about1.methodNamed? x = some theMethod := by decide +kernel
set_option maxRecDepth 65536 in
theorem w_hears : about1.hears theMethod below0 = true := by decide +kernel
set_option maxRecDepth 65536 in
theorem w_ripe : about1.ripe theMethod args0 below0 = true := by decide +kernel
theorem w_running : about1.status = .running := rfl
set_option maxRecDepth 65536 in
theorem w_room : about1.hasRoom e0.platform room_1 = true :=
  launch0.hasRoom_least _ room_1 (by decide +kernel) (by decide +kernel) (by decide +kernel) (by decide +kernel) (by decide +kernel) (by decide +kernel)
theorem allAtoms_all (ts : List Jvm.Cond) (a : Array Jvm.Value) (st : Jvm.State) : (allAtoms ts).before a st = ts.all (fun c => c.before a st) := by
  induction ts with
  | nil => rfl
  | cons c t ih =>
    show (Jvm.Cond.and c (allAtoms t)).before a st = _
    rw [Jvm.Cond.before_and, ih, List.all_cons]
def words1 : List Jvm.Cond := Jvm.Cond.code x code maxLocals ret :: tables_1
/-- a 'code' word, met by the world's own term for the bytes: nothing is compared byte by byte -/
theorem code_word {y : MethodName} {bytes : ByteArray} {mx : Nat} {rt : Option FieldType} {a : Array Value} {s : State} {m : MethodId} {meth : Method} {c : Code} (h1 : s.methodNamed? y = some m) (h2 : s.vm.method? m = some meth) (h3 : meth.code = some c) (h4 : c.code = bytes)
    (h5 : (c.maxLocals == mx && c.exceptionTable.isEmpty && decide (c.maxStack ≤ mostOperands) && decide (meth.sig.returnType = rt) && !meth.locks && decide (parseMethodDescriptor y.desc = some meth.sig)) = true) : (Jvm.Cond.code y bytes mx rt).before a s = true := by
  simp only [Bool.and_eq_true, beq_iff_eq, Bool.not_eq_true', decide_eq_true_eq] at h5
  obtain ⟨⟨⟨⟨⟨g1, g2⟩, g3⟩, g4⟩, g5⟩, g6⟩ := h5
  simp [Cond.before, Cond.holds, Cond.value, h1, h2, h3, h4, g1, g2, g3, g4, g5, g6]
def isCode : Jvm.Cond → Bool
  | .code _ _ _ _ => true
  | _ => false
theorem all_split {L : List Jvm.Cond} {P : Jvm.Cond → Bool} (h1 : L.all (fun c => isCode c || P c) = true) (h2 : ∀ c ∈ L.filter isCode, P c = true) : L.all P = true := by
  refine List.all_eq_true.mpr fun c hc => ?_
  have h := List.all_eq_true.mp h1 c hc
  rcases Bool.eq_false_or_eq_true (isCode c) with hi | hi
  · exact h2 c (List.mem_filter.mpr ⟨hc, hi⟩)
  · simpa [hi] using h
set_option maxRecDepth 65536 in
theorem w_c0 : (Jvm.Cond.code x code maxLocals ret).before args0 about1 = true := code_word (m := ⟨1, 1⟩) (meth := k1m1) (c := k1c1) (by decide +kernel) rfl rfl rfl (by decide +kernel)
set_option maxRecDepth 65536 in
theorem w_c1 : (Jvm.Cond.code ({ cls := "com/example/shunt/shunt/bits/CuckooBuckets", name := "slotLows", desc := "(I)J" } : Jvm.MethodName) prog_3_method_2_code (4 : Nat) (Option.some Jvm.ClassFile.FieldType.long)).before args0 about1 = true := code_word (m := ⟨2, 1⟩) (meth := k2m1) (c := k2c1) (by decide +kernel) rfl rfl rfl (by decide +kernel)
def codes1 : List Jvm.Cond := [Jvm.Cond.code x code maxLocals ret, Jvm.Cond.code ({ cls := "com/example/shunt/shunt/bits/CuckooBuckets", name := "slotLows", desc := "(I)J" } : Jvm.MethodName) prog_3_method_2_code (4 : Nat) (Option.some Jvm.ClassFile.FieldType.long)]
set_option maxRecDepth 65536 in
theorem codes_eq : words1.filter isCode = codes1 := rfl
theorem w_codes : ∀ c ∈ words1.filter isCode, c.before args0 about1 = true := by
  rw [codes_eq]
  intro c hc
  simp only [codes1, List.mem_cons, List.not_mem_nil, or_false] at hc
  rcases hc with rfl | rfl
  · exact w_c0
  · exact w_c1
set_option maxRecDepth 65536 in
theorem w_t1 : words1.all (fun c => isCode c || c.before args0 about1) = true := by decide +kernel
theorem w_tables : (allAtoms (Jvm.Cond.code x code maxLocals ret :: tables_1)).before args0 about1 = true := by
  rw [allAtoms_all]
  show words1.all (fun c => c.before args0 about1) = true
  refine all_split ?_ w_codes
  rw [w_t1]
set_option maxRecDepth 65536 in
theorem w_case : (Jvm.Cond.and given_1 narrow_1).before args0 about1 = true := by decide +kernel
theorem w_applies : (headSpec (Jvm.Cond.code x code maxLocals ret :: tables_1) room_1).applies x e0.platform about1 = true :=
  (Spec.applies_iff w_frames).mpr ⟨w_running, w_runnable, w_alone, w_named, w_hears, w_ripe, w_room, w_tables⟩
theorem atStart : AtStart classFile x code maxLocals ret World_1 tables_1 room_1 Calls_1 rest_1 Pre_1 launch0 p0 e0 about1 theMethod args0 below0 :=
  ⟨lists_1, trivial, launch0.admits_env _ _ _, launch0.least_env, fairChoices_fair.cas, fairChoices_fair.clock, w_frames, w_args, w_heap, w_applies, trivial, trivial, w_case⟩
end start1
theorem witness_1 : WitnessClaimed_1 := ⟨start1.p0, start1.e0, start1.about1, start1.theMethod, start1.args0, start1.below0, start1.atStart⟩
end Jvm.Pilot.@@N@@
