import JvmDerived
import JvmDerived.Pilot.@@N@@Statement
import JvmDerived.Pilot.@@N@@Code
set_option linter.unusedVariables false
set_option linter.unusedSimpArgs false
namespace Jvm.RoadKit
open Sem ClassFile Op Lib Jvm.Stand Jvm.Free Jvm.LawKit
section New
variable {p : Program} {l : Launch} {e : Env} {R : Room} {s : State} {m : MethodId} {args : Array Value} {below : List Frame} {meth : Method} {c : Code} {T : State} {locs : List Loc} {cells slots : Nat}
theorem retI (X : Stand p l e R s m args below meth c T locs cells slots) (hx : p.tables.exec = Jvm.exec) {pc : Nat} {Ls : Array Slot} {z : Int32} {rest : List Value} (hret : meth.sig.returnType = some .int) (hd : decode c.code pc = .ok (.ireturn, 1)) {fs : List Frame}
    (hl : ∀ (f : JFrame) (acts : List Action), f.method = m → f.locked = none → f.entered = [] → (doReturn e (T.setTop f) acts (some (.int z))).1 = T.setFrames fs) : Steps p.tables e below (T.setTop (mkF m pc Ls (.int z :: rest))) (T.setFrames fs) := by
  have hm' : T.vm.method? m = some meth := X.method'
  have hn : narrow .int (.int z) = .int z := rfl
  show Steps p.tables e below (T.setTop { method := m, pc := pc, locals := Ls, stack := _ :: rest, locked := none }) _
  jvm_step X.here [X.here.top, hx, hd, hm', hret, hn]
  first | (intro acts; rw [hl _ acts rfl rfl rfl]) | rw [hl _ _ rfl rfl rfl]
  exact Steps.refl _
end New
end Jvm.RoadKit
namespace Jvm.Pilot.@@N@@
open Jvm Jvm.ClassFile Sem Op Lib Jvm.Free Jvm.Stand Jvm.LawKit Jvm.RoadKit Bundle Jvm.Pilot.@@N@@.Jvm.D
theorem d1_0 : decode prog_25_method_9_code 0 = .ok (.lload_n 0, 1) := by decide +kernel
theorem d1_1 : decode prog_25_method_9_code 1 = .ok (.lload_n 0, 1) := by decide +kernel
theorem d1_2 : decode prog_25_method_9_code 2 = .ok (.bipush 33, 2) := by decide +kernel
theorem d1_4 : decode prog_25_method_9_code 4 = .ok (.lushr, 1) := by decide +kernel
theorem d1_5 : decode prog_25_method_9_code 5 = .ok (.lxor, 1) := by decide +kernel
theorem d1_6 : decode prog_25_method_9_code 6 = .ok (.lstore_n 0, 1) := by decide +kernel
theorem d1_7 : decode prog_25_method_9_code 7 = .ok (.lload_n 0, 1) := by decide +kernel
theorem d1_8 : decode prog_25_method_9_code 8 = .ok (.ldc2_w 99, 3) := by decide +kernel
theorem d1_11 : decode prog_25_method_9_code 11 = .ok (.lmul, 1) := by decide +kernel
theorem d1_12 : decode prog_25_method_9_code 12 = .ok (.lstore_n 0, 1) := by decide +kernel
theorem d1_13 : decode prog_25_method_9_code 13 = .ok (.lload_n 0, 1) := by decide +kernel
theorem d1_14 : decode prog_25_method_9_code 14 = .ok (.lload_n 0, 1) := by decide +kernel
theorem d1_15 : decode prog_25_method_9_code 15 = .ok (.bipush 33, 2) := by decide +kernel
theorem d1_17 : decode prog_25_method_9_code 17 = .ok (.lushr, 1) := by decide +kernel
theorem d1_18 : decode prog_25_method_9_code 18 = .ok (.lxor, 1) := by decide +kernel
theorem d1_19 : decode prog_25_method_9_code 19 = .ok (.lstore_n 0, 1) := by decide +kernel
theorem d1_20 : decode prog_25_method_9_code 20 = .ok (.lload_n 0, 1) := by decide +kernel
theorem d1_21 : decode prog_25_method_9_code 21 = .ok (.ldc2_w 101, 3) := by decide +kernel
theorem d1_24 : decode prog_25_method_9_code 24 = .ok (.lmul, 1) := by decide +kernel
theorem d1_25 : decode prog_25_method_9_code 25 = .ok (.lstore_n 0, 1) := by decide +kernel
theorem d1_26 : decode prog_25_method_9_code 26 = .ok (.lload_n 0, 1) := by decide +kernel
theorem d1_27 : decode prog_25_method_9_code 27 = .ok (.lload_n 0, 1) := by decide +kernel
theorem d1_28 : decode prog_25_method_9_code 28 = .ok (.bipush 33, 2) := by decide +kernel
theorem d1_30 : decode prog_25_method_9_code 30 = .ok (.lushr, 1) := by decide +kernel
theorem d1_31 : decode prog_25_method_9_code 31 = .ok (.lxor, 1) := by decide +kernel
theorem d1_32 : decode prog_25_method_9_code 32 = .ok (.lstore_n 0, 1) := by decide +kernel
theorem d1_33 : decode prog_25_method_9_code 33 = .ok (.lload_n 0, 1) := by decide +kernel
theorem d1_34 : decode prog_25_method_9_code 34 = .ok (.lreturn, 1) := by decide +kernel
def own_fmix (p0 : Int64) : Int64 := (((((p0 ^^^ ((p0.toUInt64 >>> ((33 : Int32) &&& 0x3f).toInt64.toUInt64).toInt64)) * (-49064778989728563 : Int64)) ^^^ ((((p0 ^^^ ((p0.toUInt64 >>> ((33 : Int32) &&& 0x3f).toInt64.toUInt64).toInt64)) * (-49064778989728563 : Int64)).toUInt64 >>> ((33 : Int32) &&& 0x3f).toInt64.toUInt64).toInt64)) * (-4265267296055464877 : Int64)) ^^^ ((((((p0 ^^^ ((p0.toUInt64 >>> ((33 : Int32) &&& 0x3f).toInt64.toUInt64).toInt64)) * (-49064778989728563 : Int64)) ^^^ ((((p0 ^^^ ((p0.toUInt64 >>> ((33 : Int32) &&& 0x3f).toInt64.toUInt64).toInt64)) * (-49064778989728563 : Int64)).toUInt64 >>> ((33 : Int32) &&& 0x3f).toInt64.toUInt64).toInt64)) * (-4265267296055464877 : Int64)).toUInt64 >>> ((33 : Int32) &&& 0x3f).toInt64.toUInt64).toInt64))
theorem pn_1 : plainName "com/example/shunt/shunt/hash/Murmur3x64_128" = true := by first | (simp [plainName, overriddenIn]; done) | decide +kernel
theorem ef_1 (m : MethodId) (x0 : Int64) : entryFrame m #[(.long x0)] 2 = mkF m 0 #[.val (.long x0), .second] [] := by first | (simp [entryFrame, mkF, argsToLocals, Value.category]; done) | rfl
def Q1 (Z : State) (p0 : Int64) (h0 : Heap) (n0 : Nat) (v : Option Value) (h : Heap) (L : List Loc) : Prop := v = some (.long (own_fmix p0)) ∧ Fr n0 L ∧ h = h0
set_option maxRecDepth 65536 in
set_option maxHeartbeats 40000000 in
theorem rm1 (l : Launch) (Z : State) (a0 : Array Value) (hw : ∀ d ∈ tables_1, d.before a0 Z = true) (ws : List Jvm.Cond) (p0 : Int64) (h0 : Heap) (n0 : Nat) (Z0 : n0 ≤ h0.size) :
    MetFree l (⟨"com/example/shunt/shunt/hash/Murmur3x64_128", "fmix64", "(J)J"⟩ : MethodName) (head1 (Jvm.Cond.code (⟨"com/example/shunt/shunt/hash/Murmur3x64_128", "fmix64", "(J)J"⟩ : MethodName) prog_25_method_9_code 2 (some .long) :: ws) ({ frames := 0, cells := 0, slots := 0, locals := 0 } : Room)) (fun a U => a = #[(.long p0)] ∧ Z.Warmed39 U.vm ∧ U.heap = h0) (fun _ _ _ _ _ => True) (fun _ U o U' => ∃ v L, o = .returned v ∧ Q1 Z p0 h0 n0 v U'.heap L ∧ FrameEnd U o U' L ({ frames := 0, cells := 0, slots := 0, locals := 0 } : Room).cells ({ frames := 0, cells := 0, slots := 0, locals := 0 } : Room).slots) := by
  refine MetFree.of_bodySF (plainFor_of_name pn_1) hisR ?_
  intro p e s m args below meth c s₁ Bd hml0 hP hK
  obtain ⟨rfl, hZ, hh⟩ := hP
  have hx := Bd.exec
  have hby := Bd.bytes
  have hml : c.maxLocals = 2 := hml0
  have hown : s.vm.findClass "com/example/shunt/shunt/hash/Murmur3x64_128" = some m.cls := findClass_of_methodNamed Bd.named
  have hnm := (name_of_methodNamed Bd.named Bd.method).1
  have X0 : Stand p l e ({ frames := 0, cells := 0, slots := 0, locals := 0 } : Room) s m #[(.long p0)] below meth c s₁ [] 0 0 := Stand.of_body Bd
  have e0 : s₁.heap = h0 := by rw [← hh, Bd.state]; rfl
  have N0 := Fr.nil n0
  have pre0 : ∀ t, Steps p.tables e below (s₁.setTop (mkF m 0 #[.val (.long p0), .second] [])) t → Steps p.tables e below (s₁.setTop (entryFrame m #[(.long p0)] 2)) t := fun t k => castTop (ef_1 m p0) k
  have pre1 : ∀ t, Steps p.tables e below (s₁.setTop (mkF m 34 #[.val (.long (((((p0 ^^^ ((p0.toUInt64 >>> ((33 : Int32) &&& 0x3f).toInt64.toUInt64).toInt64)) * (-49064778989728563 : Int64)) ^^^ ((((p0 ^^^ ((p0.toUInt64 >>> ((33 : Int32) &&& 0x3f).toInt64.toUInt64).toInt64)) * (-49064778989728563 : Int64)).toUInt64 >>> ((33 : Int32) &&& 0x3f).toInt64.toUInt64).toInt64)) * (-4265267296055464877 : Int64)) ^^^ ((((((p0 ^^^ ((p0.toUInt64 >>> ((33 : Int32) &&& 0x3f).toInt64.toUInt64).toInt64)) * (-49064778989728563 : Int64)) ^^^ ((((p0 ^^^ ((p0.toUInt64 >>> ((33 : Int32) &&& 0x3f).toInt64.toUInt64).toInt64)) * (-49064778989728563 : Int64)).toUInt64 >>> ((33 : Int32) &&& 0x3f).toInt64.toUInt64).toInt64)) * (-4265267296055464877 : Int64)).toUInt64 >>> ((33 : Int32) &&& 0x3f).toInt64.toUInt64).toInt64))), .second] [(.long (((((p0 ^^^ ((p0.toUInt64 >>> ((33 : Int32) &&& 0x3f).toInt64.toUInt64).toInt64)) * (-49064778989728563 : Int64)) ^^^ ((((p0 ^^^ ((p0.toUInt64 >>> ((33 : Int32) &&& 0x3f).toInt64.toUInt64).toInt64)) * (-49064778989728563 : Int64)).toUInt64 >>> ((33 : Int32) &&& 0x3f).toInt64.toUInt64).toInt64)) * (-4265267296055464877 : Int64)) ^^^ ((((((p0 ^^^ ((p0.toUInt64 >>> ((33 : Int32) &&& 0x3f).toInt64.toUInt64).toInt64)) * (-49064778989728563 : Int64)) ^^^ ((((p0 ^^^ ((p0.toUInt64 >>> ((33 : Int32) &&& 0x3f).toInt64.toUInt64).toInt64)) * (-49064778989728563 : Int64)).toUInt64 >>> ((33 : Int32) &&& 0x3f).toInt64.toUInt64).toInt64)) * (-4265267296055464877 : Int64)).toUInt64 >>> ((33 : Int32) &&& 0x3f).toInt64.toUInt64).toInt64)))])) t → Steps p.tables e below (s₁.setTop (entryFrame m #[(.long p0)] 2)) t := by
    intro t k
    refine pre0 t ?_
    show Steps p.tables e below (s₁.setTop (mkF m 0 #[.val (.long p0), .second] [])) _
    refine XS.lloadN X0.here hx rfl (hb hby d1_0) rfl ?_
    show Steps p.tables e below (s₁.setTop (mkF m 1 #[.val (.long p0), .second] [(.long p0)])) _
    refine XS.lloadN X0.here hx rfl (hb hby d1_1) rfl ?_
    show Steps p.tables e below (s₁.setTop (mkF m 2 #[.val (.long p0), .second] [(.long p0), (.long p0)])) _
    refine XS.bipush X0.here hx rfl (hb hby d1_2) ?_
    show Steps p.tables e below (s₁.setTop (mkF m 4 #[.val (.long p0), .second] [(.int (33 : Int32)), (.long p0), (.long p0)])) _
    refine XS.lushr X0.here hx rfl (hb hby d1_4) rfl ?_
    show Steps p.tables e below (s₁.setTop (mkF m 5 #[.val (.long p0), .second] [(.long ((p0.toUInt64 >>> ((33 : Int32) &&& 0x3f).toInt64.toUInt64).toInt64)), (.long p0)])) _
    refine XS.lxor X0.here hx rfl (hb hby d1_5) rfl ?_
    show Steps p.tables e below (s₁.setTop (mkF m 6 #[.val (.long p0), .second] [(.long (p0 ^^^ ((p0.toUInt64 >>> ((33 : Int32) &&& 0x3f).toInt64.toUInt64).toInt64)))])) _
    refine XS.lstoreN X0.here hx rfl (hb hby d1_6) rfl (l' := #[.val (.long (p0 ^^^ ((p0.toUInt64 >>> ((33 : Int32) &&& 0x3f).toInt64.toUInt64).toInt64))), .second]) rfl ?_
    show Steps p.tables e below (s₁.setTop (mkF m 7 #[.val (.long (p0 ^^^ ((p0.toUInt64 >>> ((33 : Int32) &&& 0x3f).toInt64.toUInt64).toInt64))), .second] [])) _
    refine XS.lloadN X0.here hx rfl (hb hby d1_7) rfl ?_
    show Steps p.tables e below (s₁.setTop (mkF m 8 #[.val (.long (p0 ^^^ ((p0.toUInt64 >>> ((33 : Int32) &&& 0x3f).toInt64.toUInt64).toInt64))), .second] [(.long (p0 ^^^ ((p0.toUInt64 >>> ((33 : Int32) &&& 0x3f).toInt64.toUInt64).toInt64)))])) _
    refine X0.ldc2Long hx hown (mvT hZ (hw _ (List.mem_of_getElem? (i := 4) rfl))) (g := (mkF m 8 #[.val (.long (p0 ^^^ ((p0.toUInt64 >>> ((33 : Int32) &&& 0x3f).toInt64.toUInt64).toInt64))), .second] [(.long (p0 ^^^ ((p0.toUInt64 >>> ((33 : Int32) &&& 0x3f).toInt64.toUInt64).toInt64)))])) rfl (hb hby d1_8) _ ?_
    show Steps p.tables e below (s₁.setTop (mkF m 11 #[.val (.long (p0 ^^^ ((p0.toUInt64 >>> ((33 : Int32) &&& 0x3f).toInt64.toUInt64).toInt64))), .second] [(.long (-49064778989728563 : Int64)), (.long (p0 ^^^ ((p0.toUInt64 >>> ((33 : Int32) &&& 0x3f).toInt64.toUInt64).toInt64)))])) _
    refine XS.lmul X0.here hx rfl (hb hby d1_11) rfl ?_
    show Steps p.tables e below (s₁.setTop (mkF m 12 #[.val (.long (p0 ^^^ ((p0.toUInt64 >>> ((33 : Int32) &&& 0x3f).toInt64.toUInt64).toInt64))), .second] [(.long ((p0 ^^^ ((p0.toUInt64 >>> ((33 : Int32) &&& 0x3f).toInt64.toUInt64).toInt64)) * (-49064778989728563 : Int64)))])) _
    refine XS.lstoreN X0.here hx rfl (hb hby d1_12) rfl (l' := #[.val (.long ((p0 ^^^ ((p0.toUInt64 >>> ((33 : Int32) &&& 0x3f).toInt64.toUInt64).toInt64)) * (-49064778989728563 : Int64))), .second]) rfl ?_
    show Steps p.tables e below (s₁.setTop (mkF m 13 #[.val (.long ((p0 ^^^ ((p0.toUInt64 >>> ((33 : Int32) &&& 0x3f).toInt64.toUInt64).toInt64)) * (-49064778989728563 : Int64))), .second] [])) _
    refine XS.lloadN X0.here hx rfl (hb hby d1_13) rfl ?_
    show Steps p.tables e below (s₁.setTop (mkF m 14 #[.val (.long ((p0 ^^^ ((p0.toUInt64 >>> ((33 : Int32) &&& 0x3f).toInt64.toUInt64).toInt64)) * (-49064778989728563 : Int64))), .second] [(.long ((p0 ^^^ ((p0.toUInt64 >>> ((33 : Int32) &&& 0x3f).toInt64.toUInt64).toInt64)) * (-49064778989728563 : Int64)))])) _
    refine XS.lloadN X0.here hx rfl (hb hby d1_14) rfl ?_
    show Steps p.tables e below (s₁.setTop (mkF m 15 #[.val (.long ((p0 ^^^ ((p0.toUInt64 >>> ((33 : Int32) &&& 0x3f).toInt64.toUInt64).toInt64)) * (-49064778989728563 : Int64))), .second] [(.long ((p0 ^^^ ((p0.toUInt64 >>> ((33 : Int32) &&& 0x3f).toInt64.toUInt64).toInt64)) * (-49064778989728563 : Int64))), (.long ((p0 ^^^ ((p0.toUInt64 >>> ((33 : Int32) &&& 0x3f).toInt64.toUInt64).toInt64)) * (-49064778989728563 : Int64)))])) _
    refine XS.bipush X0.here hx rfl (hb hby d1_15) ?_
    show Steps p.tables e below (s₁.setTop (mkF m 17 #[.val (.long ((p0 ^^^ ((p0.toUInt64 >>> ((33 : Int32) &&& 0x3f).toInt64.toUInt64).toInt64)) * (-49064778989728563 : Int64))), .second] [(.int (33 : Int32)), (.long ((p0 ^^^ ((p0.toUInt64 >>> ((33 : Int32) &&& 0x3f).toInt64.toUInt64).toInt64)) * (-49064778989728563 : Int64))), (.long ((p0 ^^^ ((p0.toUInt64 >>> ((33 : Int32) &&& 0x3f).toInt64.toUInt64).toInt64)) * (-49064778989728563 : Int64)))])) _
    refine XS.lushr X0.here hx rfl (hb hby d1_17) rfl ?_
    show Steps p.tables e below (s₁.setTop (mkF m 18 #[.val (.long ((p0 ^^^ ((p0.toUInt64 >>> ((33 : Int32) &&& 0x3f).toInt64.toUInt64).toInt64)) * (-49064778989728563 : Int64))), .second] [(.long ((((p0 ^^^ ((p0.toUInt64 >>> ((33 : Int32) &&& 0x3f).toInt64.toUInt64).toInt64)) * (-49064778989728563 : Int64)).toUInt64 >>> ((33 : Int32) &&& 0x3f).toInt64.toUInt64).toInt64)), (.long ((p0 ^^^ ((p0.toUInt64 >>> ((33 : Int32) &&& 0x3f).toInt64.toUInt64).toInt64)) * (-49064778989728563 : Int64)))])) _
    refine XS.lxor X0.here hx rfl (hb hby d1_18) rfl ?_
    show Steps p.tables e below (s₁.setTop (mkF m 19 #[.val (.long ((p0 ^^^ ((p0.toUInt64 >>> ((33 : Int32) &&& 0x3f).toInt64.toUInt64).toInt64)) * (-49064778989728563 : Int64))), .second] [(.long (((p0 ^^^ ((p0.toUInt64 >>> ((33 : Int32) &&& 0x3f).toInt64.toUInt64).toInt64)) * (-49064778989728563 : Int64)) ^^^ ((((p0 ^^^ ((p0.toUInt64 >>> ((33 : Int32) &&& 0x3f).toInt64.toUInt64).toInt64)) * (-49064778989728563 : Int64)).toUInt64 >>> ((33 : Int32) &&& 0x3f).toInt64.toUInt64).toInt64)))])) _
    refine XS.lstoreN X0.here hx rfl (hb hby d1_19) rfl (l' := #[.val (.long (((p0 ^^^ ((p0.toUInt64 >>> ((33 : Int32) &&& 0x3f).toInt64.toUInt64).toInt64)) * (-49064778989728563 : Int64)) ^^^ ((((p0 ^^^ ((p0.toUInt64 >>> ((33 : Int32) &&& 0x3f).toInt64.toUInt64).toInt64)) * (-49064778989728563 : Int64)).toUInt64 >>> ((33 : Int32) &&& 0x3f).toInt64.toUInt64).toInt64))), .second]) rfl ?_
    show Steps p.tables e below (s₁.setTop (mkF m 20 #[.val (.long (((p0 ^^^ ((p0.toUInt64 >>> ((33 : Int32) &&& 0x3f).toInt64.toUInt64).toInt64)) * (-49064778989728563 : Int64)) ^^^ ((((p0 ^^^ ((p0.toUInt64 >>> ((33 : Int32) &&& 0x3f).toInt64.toUInt64).toInt64)) * (-49064778989728563 : Int64)).toUInt64 >>> ((33 : Int32) &&& 0x3f).toInt64.toUInt64).toInt64))), .second] [])) _
    refine XS.lloadN X0.here hx rfl (hb hby d1_20) rfl ?_
    show Steps p.tables e below (s₁.setTop (mkF m 21 #[.val (.long (((p0 ^^^ ((p0.toUInt64 >>> ((33 : Int32) &&& 0x3f).toInt64.toUInt64).toInt64)) * (-49064778989728563 : Int64)) ^^^ ((((p0 ^^^ ((p0.toUInt64 >>> ((33 : Int32) &&& 0x3f).toInt64.toUInt64).toInt64)) * (-49064778989728563 : Int64)).toUInt64 >>> ((33 : Int32) &&& 0x3f).toInt64.toUInt64).toInt64))), .second] [(.long (((p0 ^^^ ((p0.toUInt64 >>> ((33 : Int32) &&& 0x3f).toInt64.toUInt64).toInt64)) * (-49064778989728563 : Int64)) ^^^ ((((p0 ^^^ ((p0.toUInt64 >>> ((33 : Int32) &&& 0x3f).toInt64.toUInt64).toInt64)) * (-49064778989728563 : Int64)).toUInt64 >>> ((33 : Int32) &&& 0x3f).toInt64.toUInt64).toInt64)))])) _
    refine X0.ldc2Long hx hown (mvT hZ (hw _ (List.mem_of_getElem? (i := 5) rfl))) (g := (mkF m 21 #[.val (.long (((p0 ^^^ ((p0.toUInt64 >>> ((33 : Int32) &&& 0x3f).toInt64.toUInt64).toInt64)) * (-49064778989728563 : Int64)) ^^^ ((((p0 ^^^ ((p0.toUInt64 >>> ((33 : Int32) &&& 0x3f).toInt64.toUInt64).toInt64)) * (-49064778989728563 : Int64)).toUInt64 >>> ((33 : Int32) &&& 0x3f).toInt64.toUInt64).toInt64))), .second] [(.long (((p0 ^^^ ((p0.toUInt64 >>> ((33 : Int32) &&& 0x3f).toInt64.toUInt64).toInt64)) * (-49064778989728563 : Int64)) ^^^ ((((p0 ^^^ ((p0.toUInt64 >>> ((33 : Int32) &&& 0x3f).toInt64.toUInt64).toInt64)) * (-49064778989728563 : Int64)).toUInt64 >>> ((33 : Int32) &&& 0x3f).toInt64.toUInt64).toInt64)))])) rfl (hb hby d1_21) _ ?_
    show Steps p.tables e below (s₁.setTop (mkF m 24 #[.val (.long (((p0 ^^^ ((p0.toUInt64 >>> ((33 : Int32) &&& 0x3f).toInt64.toUInt64).toInt64)) * (-49064778989728563 : Int64)) ^^^ ((((p0 ^^^ ((p0.toUInt64 >>> ((33 : Int32) &&& 0x3f).toInt64.toUInt64).toInt64)) * (-49064778989728563 : Int64)).toUInt64 >>> ((33 : Int32) &&& 0x3f).toInt64.toUInt64).toInt64))), .second] [(.long (-4265267296055464877 : Int64)), (.long (((p0 ^^^ ((p0.toUInt64 >>> ((33 : Int32) &&& 0x3f).toInt64.toUInt64).toInt64)) * (-49064778989728563 : Int64)) ^^^ ((((p0 ^^^ ((p0.toUInt64 >>> ((33 : Int32) &&& 0x3f).toInt64.toUInt64).toInt64)) * (-49064778989728563 : Int64)).toUInt64 >>> ((33 : Int32) &&& 0x3f).toInt64.toUInt64).toInt64)))])) _
    refine XS.lmul X0.here hx rfl (hb hby d1_24) rfl ?_
    show Steps p.tables e below (s₁.setTop (mkF m 25 #[.val (.long (((p0 ^^^ ((p0.toUInt64 >>> ((33 : Int32) &&& 0x3f).toInt64.toUInt64).toInt64)) * (-49064778989728563 : Int64)) ^^^ ((((p0 ^^^ ((p0.toUInt64 >>> ((33 : Int32) &&& 0x3f).toInt64.toUInt64).toInt64)) * (-49064778989728563 : Int64)).toUInt64 >>> ((33 : Int32) &&& 0x3f).toInt64.toUInt64).toInt64))), .second] [(.long ((((p0 ^^^ ((p0.toUInt64 >>> ((33 : Int32) &&& 0x3f).toInt64.toUInt64).toInt64)) * (-49064778989728563 : Int64)) ^^^ ((((p0 ^^^ ((p0.toUInt64 >>> ((33 : Int32) &&& 0x3f).toInt64.toUInt64).toInt64)) * (-49064778989728563 : Int64)).toUInt64 >>> ((33 : Int32) &&& 0x3f).toInt64.toUInt64).toInt64)) * (-4265267296055464877 : Int64)))])) _
    refine XS.lstoreN X0.here hx rfl (hb hby d1_25) rfl (l' := #[.val (.long ((((p0 ^^^ ((p0.toUInt64 >>> ((33 : Int32) &&& 0x3f).toInt64.toUInt64).toInt64)) * (-49064778989728563 : Int64)) ^^^ ((((p0 ^^^ ((p0.toUInt64 >>> ((33 : Int32) &&& 0x3f).toInt64.toUInt64).toInt64)) * (-49064778989728563 : Int64)).toUInt64 >>> ((33 : Int32) &&& 0x3f).toInt64.toUInt64).toInt64)) * (-4265267296055464877 : Int64))), .second]) rfl ?_
    show Steps p.tables e below (s₁.setTop (mkF m 26 #[.val (.long ((((p0 ^^^ ((p0.toUInt64 >>> ((33 : Int32) &&& 0x3f).toInt64.toUInt64).toInt64)) * (-49064778989728563 : Int64)) ^^^ ((((p0 ^^^ ((p0.toUInt64 >>> ((33 : Int32) &&& 0x3f).toInt64.toUInt64).toInt64)) * (-49064778989728563 : Int64)).toUInt64 >>> ((33 : Int32) &&& 0x3f).toInt64.toUInt64).toInt64)) * (-4265267296055464877 : Int64))), .second] [])) _
    refine XS.lloadN X0.here hx rfl (hb hby d1_26) rfl ?_
    show Steps p.tables e below (s₁.setTop (mkF m 27 #[.val (.long ((((p0 ^^^ ((p0.toUInt64 >>> ((33 : Int32) &&& 0x3f).toInt64.toUInt64).toInt64)) * (-49064778989728563 : Int64)) ^^^ ((((p0 ^^^ ((p0.toUInt64 >>> ((33 : Int32) &&& 0x3f).toInt64.toUInt64).toInt64)) * (-49064778989728563 : Int64)).toUInt64 >>> ((33 : Int32) &&& 0x3f).toInt64.toUInt64).toInt64)) * (-4265267296055464877 : Int64))), .second] [(.long ((((p0 ^^^ ((p0.toUInt64 >>> ((33 : Int32) &&& 0x3f).toInt64.toUInt64).toInt64)) * (-49064778989728563 : Int64)) ^^^ ((((p0 ^^^ ((p0.toUInt64 >>> ((33 : Int32) &&& 0x3f).toInt64.toUInt64).toInt64)) * (-49064778989728563 : Int64)).toUInt64 >>> ((33 : Int32) &&& 0x3f).toInt64.toUInt64).toInt64)) * (-4265267296055464877 : Int64)))])) _
    refine XS.lloadN X0.here hx rfl (hb hby d1_27) rfl ?_
    show Steps p.tables e below (s₁.setTop (mkF m 28 #[.val (.long ((((p0 ^^^ ((p0.toUInt64 >>> ((33 : Int32) &&& 0x3f).toInt64.toUInt64).toInt64)) * (-49064778989728563 : Int64)) ^^^ ((((p0 ^^^ ((p0.toUInt64 >>> ((33 : Int32) &&& 0x3f).toInt64.toUInt64).toInt64)) * (-49064778989728563 : Int64)).toUInt64 >>> ((33 : Int32) &&& 0x3f).toInt64.toUInt64).toInt64)) * (-4265267296055464877 : Int64))), .second] [(.long ((((p0 ^^^ ((p0.toUInt64 >>> ((33 : Int32) &&& 0x3f).toInt64.toUInt64).toInt64)) * (-49064778989728563 : Int64)) ^^^ ((((p0 ^^^ ((p0.toUInt64 >>> ((33 : Int32) &&& 0x3f).toInt64.toUInt64).toInt64)) * (-49064778989728563 : Int64)).toUInt64 >>> ((33 : Int32) &&& 0x3f).toInt64.toUInt64).toInt64)) * (-4265267296055464877 : Int64))), (.long ((((p0 ^^^ ((p0.toUInt64 >>> ((33 : Int32) &&& 0x3f).toInt64.toUInt64).toInt64)) * (-49064778989728563 : Int64)) ^^^ ((((p0 ^^^ ((p0.toUInt64 >>> ((33 : Int32) &&& 0x3f).toInt64.toUInt64).toInt64)) * (-49064778989728563 : Int64)).toUInt64 >>> ((33 : Int32) &&& 0x3f).toInt64.toUInt64).toInt64)) * (-4265267296055464877 : Int64)))])) _
    refine XS.bipush X0.here hx rfl (hb hby d1_28) ?_
    show Steps p.tables e below (s₁.setTop (mkF m 30 #[.val (.long ((((p0 ^^^ ((p0.toUInt64 >>> ((33 : Int32) &&& 0x3f).toInt64.toUInt64).toInt64)) * (-49064778989728563 : Int64)) ^^^ ((((p0 ^^^ ((p0.toUInt64 >>> ((33 : Int32) &&& 0x3f).toInt64.toUInt64).toInt64)) * (-49064778989728563 : Int64)).toUInt64 >>> ((33 : Int32) &&& 0x3f).toInt64.toUInt64).toInt64)) * (-4265267296055464877 : Int64))), .second] [(.int (33 : Int32)), (.long ((((p0 ^^^ ((p0.toUInt64 >>> ((33 : Int32) &&& 0x3f).toInt64.toUInt64).toInt64)) * (-49064778989728563 : Int64)) ^^^ ((((p0 ^^^ ((p0.toUInt64 >>> ((33 : Int32) &&& 0x3f).toInt64.toUInt64).toInt64)) * (-49064778989728563 : Int64)).toUInt64 >>> ((33 : Int32) &&& 0x3f).toInt64.toUInt64).toInt64)) * (-4265267296055464877 : Int64))), (.long ((((p0 ^^^ ((p0.toUInt64 >>> ((33 : Int32) &&& 0x3f).toInt64.toUInt64).toInt64)) * (-49064778989728563 : Int64)) ^^^ ((((p0 ^^^ ((p0.toUInt64 >>> ((33 : Int32) &&& 0x3f).toInt64.toUInt64).toInt64)) * (-49064778989728563 : Int64)).toUInt64 >>> ((33 : Int32) &&& 0x3f).toInt64.toUInt64).toInt64)) * (-4265267296055464877 : Int64)))])) _
    refine XS.lushr X0.here hx rfl (hb hby d1_30) rfl ?_
    show Steps p.tables e below (s₁.setTop (mkF m 31 #[.val (.long ((((p0 ^^^ ((p0.toUInt64 >>> ((33 : Int32) &&& 0x3f).toInt64.toUInt64).toInt64)) * (-49064778989728563 : Int64)) ^^^ ((((p0 ^^^ ((p0.toUInt64 >>> ((33 : Int32) &&& 0x3f).toInt64.toUInt64).toInt64)) * (-49064778989728563 : Int64)).toUInt64 >>> ((33 : Int32) &&& 0x3f).toInt64.toUInt64).toInt64)) * (-4265267296055464877 : Int64))), .second] [(.long ((((((p0 ^^^ ((p0.toUInt64 >>> ((33 : Int32) &&& 0x3f).toInt64.toUInt64).toInt64)) * (-49064778989728563 : Int64)) ^^^ ((((p0 ^^^ ((p0.toUInt64 >>> ((33 : Int32) &&& 0x3f).toInt64.toUInt64).toInt64)) * (-49064778989728563 : Int64)).toUInt64 >>> ((33 : Int32) &&& 0x3f).toInt64.toUInt64).toInt64)) * (-4265267296055464877 : Int64)).toUInt64 >>> ((33 : Int32) &&& 0x3f).toInt64.toUInt64).toInt64)), (.long ((((p0 ^^^ ((p0.toUInt64 >>> ((33 : Int32) &&& 0x3f).toInt64.toUInt64).toInt64)) * (-49064778989728563 : Int64)) ^^^ ((((p0 ^^^ ((p0.toUInt64 >>> ((33 : Int32) &&& 0x3f).toInt64.toUInt64).toInt64)) * (-49064778989728563 : Int64)).toUInt64 >>> ((33 : Int32) &&& 0x3f).toInt64.toUInt64).toInt64)) * (-4265267296055464877 : Int64)))])) _
    refine XS.lxor X0.here hx rfl (hb hby d1_31) rfl ?_
    show Steps p.tables e below (s₁.setTop (mkF m 32 #[.val (.long ((((p0 ^^^ ((p0.toUInt64 >>> ((33 : Int32) &&& 0x3f).toInt64.toUInt64).toInt64)) * (-49064778989728563 : Int64)) ^^^ ((((p0 ^^^ ((p0.toUInt64 >>> ((33 : Int32) &&& 0x3f).toInt64.toUInt64).toInt64)) * (-49064778989728563 : Int64)).toUInt64 >>> ((33 : Int32) &&& 0x3f).toInt64.toUInt64).toInt64)) * (-4265267296055464877 : Int64))), .second] [(.long (((((p0 ^^^ ((p0.toUInt64 >>> ((33 : Int32) &&& 0x3f).toInt64.toUInt64).toInt64)) * (-49064778989728563 : Int64)) ^^^ ((((p0 ^^^ ((p0.toUInt64 >>> ((33 : Int32) &&& 0x3f).toInt64.toUInt64).toInt64)) * (-49064778989728563 : Int64)).toUInt64 >>> ((33 : Int32) &&& 0x3f).toInt64.toUInt64).toInt64)) * (-4265267296055464877 : Int64)) ^^^ ((((((p0 ^^^ ((p0.toUInt64 >>> ((33 : Int32) &&& 0x3f).toInt64.toUInt64).toInt64)) * (-49064778989728563 : Int64)) ^^^ ((((p0 ^^^ ((p0.toUInt64 >>> ((33 : Int32) &&& 0x3f).toInt64.toUInt64).toInt64)) * (-49064778989728563 : Int64)).toUInt64 >>> ((33 : Int32) &&& 0x3f).toInt64.toUInt64).toInt64)) * (-4265267296055464877 : Int64)).toUInt64 >>> ((33 : Int32) &&& 0x3f).toInt64.toUInt64).toInt64)))])) _
    refine XS.lstoreN X0.here hx rfl (hb hby d1_32) rfl (l' := #[.val (.long (((((p0 ^^^ ((p0.toUInt64 >>> ((33 : Int32) &&& 0x3f).toInt64.toUInt64).toInt64)) * (-49064778989728563 : Int64)) ^^^ ((((p0 ^^^ ((p0.toUInt64 >>> ((33 : Int32) &&& 0x3f).toInt64.toUInt64).toInt64)) * (-49064778989728563 : Int64)).toUInt64 >>> ((33 : Int32) &&& 0x3f).toInt64.toUInt64).toInt64)) * (-4265267296055464877 : Int64)) ^^^ ((((((p0 ^^^ ((p0.toUInt64 >>> ((33 : Int32) &&& 0x3f).toInt64.toUInt64).toInt64)) * (-49064778989728563 : Int64)) ^^^ ((((p0 ^^^ ((p0.toUInt64 >>> ((33 : Int32) &&& 0x3f).toInt64.toUInt64).toInt64)) * (-49064778989728563 : Int64)).toUInt64 >>> ((33 : Int32) &&& 0x3f).toInt64.toUInt64).toInt64)) * (-4265267296055464877 : Int64)).toUInt64 >>> ((33 : Int32) &&& 0x3f).toInt64.toUInt64).toInt64))), .second]) rfl ?_
    show Steps p.tables e below (s₁.setTop (mkF m 33 #[.val (.long (((((p0 ^^^ ((p0.toUInt64 >>> ((33 : Int32) &&& 0x3f).toInt64.toUInt64).toInt64)) * (-49064778989728563 : Int64)) ^^^ ((((p0 ^^^ ((p0.toUInt64 >>> ((33 : Int32) &&& 0x3f).toInt64.toUInt64).toInt64)) * (-49064778989728563 : Int64)).toUInt64 >>> ((33 : Int32) &&& 0x3f).toInt64.toUInt64).toInt64)) * (-4265267296055464877 : Int64)) ^^^ ((((((p0 ^^^ ((p0.toUInt64 >>> ((33 : Int32) &&& 0x3f).toInt64.toUInt64).toInt64)) * (-49064778989728563 : Int64)) ^^^ ((((p0 ^^^ ((p0.toUInt64 >>> ((33 : Int32) &&& 0x3f).toInt64.toUInt64).toInt64)) * (-49064778989728563 : Int64)).toUInt64 >>> ((33 : Int32) &&& 0x3f).toInt64.toUInt64).toInt64)) * (-4265267296055464877 : Int64)).toUInt64 >>> ((33 : Int32) &&& 0x3f).toInt64.toUInt64).toInt64))), .second] [])) _
    refine XS.lloadN X0.here hx rfl (hb hby d1_33) rfl ?_
    exact k
  obtain ⟨fs, hr, hrun, hended, hW, hsame⟩ := X0.leave (v := some (.long (((((p0 ^^^ ((p0.toUInt64 >>> ((33 : Int32) &&& 0x3f).toInt64.toUInt64).toInt64)) * (-49064778989728563 : Int64)) ^^^ ((((p0 ^^^ ((p0.toUInt64 >>> ((33 : Int32) &&& 0x3f).toInt64.toUInt64).toInt64)) * (-49064778989728563 : Int64)).toUInt64 >>> ((33 : Int32) &&& 0x3f).toInt64.toUInt64).toInt64)) * (-4265267296055464877 : Int64)) ^^^ ((((((p0 ^^^ ((p0.toUInt64 >>> ((33 : Int32) &&& 0x3f).toInt64.toUInt64).toInt64)) * (-49064778989728563 : Int64)) ^^^ ((((p0 ^^^ ((p0.toUInt64 >>> ((33 : Int32) &&& 0x3f).toInt64.toUInt64).toInt64)) * (-49064778989728563 : Int64)).toUInt64 >>> ((33 : Int32) &&& 0x3f).toInt64.toUInt64).toInt64)) * (-4265267296055464877 : Int64)).toUInt64 >>> ((33 : Int32) &&& 0x3f).toInt64.toUInt64).toInt64)))) (fun h => by rw [Bd.returns] at h; cases h)
  refine ⟨_, _, pre1 _ ?_, hrun, hended, _, _, rfl, ?_, ⟨_, rfl⟩, hW, hsame.mono (by decide) (by decide)⟩
  · exact lreturnOut X0 hx Bd.returns (hb hby d1_34) hr
  · show Q1 Z p0 h0 n0 _ s₁.heap _
    rw [e0]
    refine ⟨?_, N0, rfl⟩
    rfl
theorem d2_0 : decode method_2_code 0 = .ok (.lload_n 0, 1) := by decide +kernel
theorem d2_1 : decode method_2_code 1 = .ok (.lstore_n 2, 1) := by decide +kernel
theorem d2_2 : decode method_2_code 2 = .ok (.lload_n 2, 1) := by decide +kernel
theorem d2_3 : decode method_2_code 3 = .ok (.ldc2_w 7, 3) := by decide +kernel
theorem d2_6 : decode method_2_code 6 = .ok (.lload_n 0, 1) := by decide +kernel
theorem d2_7 : decode method_2_code 7 = .ok (.lload_n 2, 1) := by decide +kernel
theorem d2_8 : decode method_2_code 8 = .ok (.lmul, 1) := by decide +kernel
theorem d2_9 : decode method_2_code 9 = .ok (.lsub, 1) := by decide +kernel
theorem d2_10 : decode method_2_code 10 = .ok (.lmul, 1) := by decide +kernel
theorem d2_11 : decode method_2_code 11 = .ok (.lstore_n 2, 1) := by decide +kernel
theorem d2_12 : decode method_2_code 12 = .ok (.lload_n 2, 1) := by decide +kernel
theorem d2_13 : decode method_2_code 13 = .ok (.ldc2_w 7, 3) := by decide +kernel
theorem d2_16 : decode method_2_code 16 = .ok (.lload_n 0, 1) := by decide +kernel
theorem d2_17 : decode method_2_code 17 = .ok (.lload_n 2, 1) := by decide +kernel
theorem d2_18 : decode method_2_code 18 = .ok (.lmul, 1) := by decide +kernel
theorem d2_19 : decode method_2_code 19 = .ok (.lsub, 1) := by decide +kernel
theorem d2_20 : decode method_2_code 20 = .ok (.lmul, 1) := by decide +kernel
theorem d2_21 : decode method_2_code 21 = .ok (.lstore_n 2, 1) := by decide +kernel
theorem d2_22 : decode method_2_code 22 = .ok (.lload_n 2, 1) := by decide +kernel
theorem d2_23 : decode method_2_code 23 = .ok (.ldc2_w 7, 3) := by decide +kernel
theorem d2_26 : decode method_2_code 26 = .ok (.lload_n 0, 1) := by decide +kernel
theorem d2_27 : decode method_2_code 27 = .ok (.lload_n 2, 1) := by decide +kernel
theorem d2_28 : decode method_2_code 28 = .ok (.lmul, 1) := by decide +kernel
theorem d2_29 : decode method_2_code 29 = .ok (.lsub, 1) := by decide +kernel
theorem d2_30 : decode method_2_code 30 = .ok (.lmul, 1) := by decide +kernel
theorem d2_31 : decode method_2_code 31 = .ok (.lstore_n 2, 1) := by decide +kernel
theorem d2_32 : decode method_2_code 32 = .ok (.lload_n 2, 1) := by decide +kernel
theorem d2_33 : decode method_2_code 33 = .ok (.ldc2_w 7, 3) := by decide +kernel
theorem d2_36 : decode method_2_code 36 = .ok (.lload_n 0, 1) := by decide +kernel
theorem d2_37 : decode method_2_code 37 = .ok (.lload_n 2, 1) := by decide +kernel
theorem d2_38 : decode method_2_code 38 = .ok (.lmul, 1) := by decide +kernel
theorem d2_39 : decode method_2_code 39 = .ok (.lsub, 1) := by decide +kernel
theorem d2_40 : decode method_2_code 40 = .ok (.lmul, 1) := by decide +kernel
theorem d2_41 : decode method_2_code 41 = .ok (.lstore_n 2, 1) := by decide +kernel
theorem d2_42 : decode method_2_code 42 = .ok (.lload_n 2, 1) := by decide +kernel
theorem d2_43 : decode method_2_code 43 = .ok (.ldc2_w 7, 3) := by decide +kernel
theorem d2_46 : decode method_2_code 46 = .ok (.lload_n 0, 1) := by decide +kernel
theorem d2_47 : decode method_2_code 47 = .ok (.lload_n 2, 1) := by decide +kernel
theorem d2_48 : decode method_2_code 48 = .ok (.lmul, 1) := by decide +kernel
theorem d2_49 : decode method_2_code 49 = .ok (.lsub, 1) := by decide +kernel
theorem d2_50 : decode method_2_code 50 = .ok (.lmul, 1) := by decide +kernel
theorem d2_51 : decode method_2_code 51 = .ok (.lstore_n 2, 1) := by decide +kernel
theorem d2_52 : decode method_2_code 52 = .ok (.lload_n 2, 1) := by decide +kernel
theorem d2_53 : decode method_2_code 53 = .ok (.lreturn, 1) := by decide +kernel
def own_inv (p0 : Int64) : Int64 := (((((p0 * ((2 : Int64) - (p0 * p0))) * ((2 : Int64) - (p0 * (p0 * ((2 : Int64) - (p0 * p0)))))) * ((2 : Int64) - (p0 * ((p0 * ((2 : Int64) - (p0 * p0))) * ((2 : Int64) - (p0 * (p0 * ((2 : Int64) - (p0 * p0))))))))) * ((2 : Int64) - (p0 * (((p0 * ((2 : Int64) - (p0 * p0))) * ((2 : Int64) - (p0 * (p0 * ((2 : Int64) - (p0 * p0)))))) * ((2 : Int64) - (p0 * ((p0 * ((2 : Int64) - (p0 * p0))) * ((2 : Int64) - (p0 * (p0 * ((2 : Int64) - (p0 * p0)))))))))))) * ((2 : Int64) - (p0 * ((((p0 * ((2 : Int64) - (p0 * p0))) * ((2 : Int64) - (p0 * (p0 * ((2 : Int64) - (p0 * p0)))))) * ((2 : Int64) - (p0 * ((p0 * ((2 : Int64) - (p0 * p0))) * ((2 : Int64) - (p0 * (p0 * ((2 : Int64) - (p0 * p0))))))))) * ((2 : Int64) - (p0 * (((p0 * ((2 : Int64) - (p0 * p0))) * ((2 : Int64) - (p0 * (p0 * ((2 : Int64) - (p0 * p0)))))) * ((2 : Int64) - (p0 * ((p0 * ((2 : Int64) - (p0 * p0))) * ((2 : Int64) - (p0 * (p0 * ((2 : Int64) - (p0 * p0)))))))))))))))
theorem pn_2 : plainName "com/example/shunt/shunt/hash/Murmur3x64_128Fmix64PinLaw" = true := by first | (simp [plainName, overriddenIn]; done) | decide +kernel
theorem ef_2 (m : MethodId) (x0 : Int64) : entryFrame m #[(.long x0)] 4 = mkF m 0 #[.val (.long x0), .second, .unset, .unset] [] := by first | (simp [entryFrame, mkF, argsToLocals, Value.category]; done) | rfl
def Q2 (Z : State) (p0 : Int64) (h0 : Heap) (n0 : Nat) (v : Option Value) (h : Heap) (L : List Loc) : Prop := v = some (.long (own_inv p0)) ∧ Fr n0 L ∧ h = h0
set_option maxRecDepth 65536 in
set_option maxHeartbeats 40000000 in
theorem rm2 (l : Launch) (Z : State) (a0 : Array Value) (hw : ∀ d ∈ tables_1, d.before a0 Z = true) (ws : List Jvm.Cond) (p0 : Int64) (h0 : Heap) (n0 : Nat) (Z0 : n0 ≤ h0.size) :
    MetFree l (⟨"com/example/shunt/shunt/hash/Murmur3x64_128Fmix64PinLaw", "inverse", "(J)J"⟩ : MethodName) (head1 (Jvm.Cond.code (⟨"com/example/shunt/shunt/hash/Murmur3x64_128Fmix64PinLaw", "inverse", "(J)J"⟩ : MethodName) method_2_code 4 (some .long) :: ws) ({ frames := 0, cells := 0, slots := 0, locals := 0 } : Room)) (fun a U => a = #[(.long p0)] ∧ Z.Warmed39 U.vm ∧ U.heap = h0) (fun _ _ _ _ _ => True) (fun _ U o U' => ∃ v L, o = .returned v ∧ Q2 Z p0 h0 n0 v U'.heap L ∧ FrameEnd U o U' L ({ frames := 0, cells := 0, slots := 0, locals := 0 } : Room).cells ({ frames := 0, cells := 0, slots := 0, locals := 0 } : Room).slots) := by
  refine MetFree.of_bodySF (plainFor_of_name pn_2) hisR ?_
  intro p e s m args below meth c s₁ Bd hml0 hP hK
  obtain ⟨rfl, hZ, hh⟩ := hP
  have hx := Bd.exec
  have hby := Bd.bytes
  have hml : c.maxLocals = 4 := hml0
  have hown : s.vm.findClass "com/example/shunt/shunt/hash/Murmur3x64_128Fmix64PinLaw" = some m.cls := findClass_of_methodNamed Bd.named
  have hnm := (name_of_methodNamed Bd.named Bd.method).1
  have X0 : Stand p l e ({ frames := 0, cells := 0, slots := 0, locals := 0 } : Room) s m #[(.long p0)] below meth c s₁ [] 0 0 := Stand.of_body Bd
  have e0 : s₁.heap = h0 := by rw [← hh, Bd.state]; rfl
  have N0 := Fr.nil n0
  have pre0 : ∀ t, Steps p.tables e below (s₁.setTop (mkF m 0 #[.val (.long p0), .second, .unset, .unset] [])) t → Steps p.tables e below (s₁.setTop (entryFrame m #[(.long p0)] 4)) t := fun t k => castTop (ef_2 m p0) k
  have pre2 : ∀ t, Steps p.tables e below (s₁.setTop (mkF m 53 #[.val (.long p0), .second, .val (.long (((((p0 * ((2 : Int64) - (p0 * p0))) * ((2 : Int64) - (p0 * (p0 * ((2 : Int64) - (p0 * p0)))))) * ((2 : Int64) - (p0 * ((p0 * ((2 : Int64) - (p0 * p0))) * ((2 : Int64) - (p0 * (p0 * ((2 : Int64) - (p0 * p0))))))))) * ((2 : Int64) - (p0 * (((p0 * ((2 : Int64) - (p0 * p0))) * ((2 : Int64) - (p0 * (p0 * ((2 : Int64) - (p0 * p0)))))) * ((2 : Int64) - (p0 * ((p0 * ((2 : Int64) - (p0 * p0))) * ((2 : Int64) - (p0 * (p0 * ((2 : Int64) - (p0 * p0)))))))))))) * ((2 : Int64) - (p0 * ((((p0 * ((2 : Int64) - (p0 * p0))) * ((2 : Int64) - (p0 * (p0 * ((2 : Int64) - (p0 * p0)))))) * ((2 : Int64) - (p0 * ((p0 * ((2 : Int64) - (p0 * p0))) * ((2 : Int64) - (p0 * (p0 * ((2 : Int64) - (p0 * p0))))))))) * ((2 : Int64) - (p0 * (((p0 * ((2 : Int64) - (p0 * p0))) * ((2 : Int64) - (p0 * (p0 * ((2 : Int64) - (p0 * p0)))))) * ((2 : Int64) - (p0 * ((p0 * ((2 : Int64) - (p0 * p0))) * ((2 : Int64) - (p0 * (p0 * ((2 : Int64) - (p0 * p0)))))))))))))))), .second] [(.long (((((p0 * ((2 : Int64) - (p0 * p0))) * ((2 : Int64) - (p0 * (p0 * ((2 : Int64) - (p0 * p0)))))) * ((2 : Int64) - (p0 * ((p0 * ((2 : Int64) - (p0 * p0))) * ((2 : Int64) - (p0 * (p0 * ((2 : Int64) - (p0 * p0))))))))) * ((2 : Int64) - (p0 * (((p0 * ((2 : Int64) - (p0 * p0))) * ((2 : Int64) - (p0 * (p0 * ((2 : Int64) - (p0 * p0)))))) * ((2 : Int64) - (p0 * ((p0 * ((2 : Int64) - (p0 * p0))) * ((2 : Int64) - (p0 * (p0 * ((2 : Int64) - (p0 * p0)))))))))))) * ((2 : Int64) - (p0 * ((((p0 * ((2 : Int64) - (p0 * p0))) * ((2 : Int64) - (p0 * (p0 * ((2 : Int64) - (p0 * p0)))))) * ((2 : Int64) - (p0 * ((p0 * ((2 : Int64) - (p0 * p0))) * ((2 : Int64) - (p0 * (p0 * ((2 : Int64) - (p0 * p0))))))))) * ((2 : Int64) - (p0 * (((p0 * ((2 : Int64) - (p0 * p0))) * ((2 : Int64) - (p0 * (p0 * ((2 : Int64) - (p0 * p0)))))) * ((2 : Int64) - (p0 * ((p0 * ((2 : Int64) - (p0 * p0))) * ((2 : Int64) - (p0 * (p0 * ((2 : Int64) - (p0 * p0))))))))))))))))])) t → Steps p.tables e below (s₁.setTop (entryFrame m #[(.long p0)] 4)) t := by
    intro t k
    refine pre0 t ?_
    show Steps p.tables e below (s₁.setTop (mkF m 0 #[.val (.long p0), .second, .unset, .unset] [])) _
    refine XS.lloadN X0.here hx rfl (hb hby d2_0) rfl ?_
    show Steps p.tables e below (s₁.setTop (mkF m 1 #[.val (.long p0), .second, .unset, .unset] [(.long p0)])) _
    refine XS.lstoreN X0.here hx rfl (hb hby d2_1) rfl (l' := #[.val (.long p0), .second, .val (.long p0), .second]) rfl ?_
    show Steps p.tables e below (s₁.setTop (mkF m 2 #[.val (.long p0), .second, .val (.long p0), .second] [])) _
    refine XS.lloadN X0.here hx rfl (hb hby d2_2) rfl ?_
    show Steps p.tables e below (s₁.setTop (mkF m 3 #[.val (.long p0), .second, .val (.long p0), .second] [(.long p0)])) _
    refine X0.ldc2Long hx hown (mvT hZ (hw _ (List.mem_of_getElem? (i := 11) rfl))) (g := (mkF m 3 #[.val (.long p0), .second, .val (.long p0), .second] [(.long p0)])) rfl (hb hby d2_3) _ ?_
    show Steps p.tables e below (s₁.setTop (mkF m 6 #[.val (.long p0), .second, .val (.long p0), .second] [(.long (2 : Int64)), (.long p0)])) _
    refine XS.lloadN X0.here hx rfl (hb hby d2_6) rfl ?_
    show Steps p.tables e below (s₁.setTop (mkF m 7 #[.val (.long p0), .second, .val (.long p0), .second] [(.long p0), (.long (2 : Int64)), (.long p0)])) _
    refine XS.lloadN X0.here hx rfl (hb hby d2_7) rfl ?_
    show Steps p.tables e below (s₁.setTop (mkF m 8 #[.val (.long p0), .second, .val (.long p0), .second] [(.long p0), (.long p0), (.long (2 : Int64)), (.long p0)])) _
    refine XS.lmul X0.here hx rfl (hb hby d2_8) rfl ?_
    show Steps p.tables e below (s₁.setTop (mkF m 9 #[.val (.long p0), .second, .val (.long p0), .second] [(.long (p0 * p0)), (.long (2 : Int64)), (.long p0)])) _
    refine XS.lsub X0.here hx rfl (hb hby d2_9) rfl ?_
    show Steps p.tables e below (s₁.setTop (mkF m 10 #[.val (.long p0), .second, .val (.long p0), .second] [(.long ((2 : Int64) - (p0 * p0))), (.long p0)])) _
    refine XS.lmul X0.here hx rfl (hb hby d2_10) rfl ?_
    show Steps p.tables e below (s₁.setTop (mkF m 11 #[.val (.long p0), .second, .val (.long p0), .second] [(.long (p0 * ((2 : Int64) - (p0 * p0))))])) _
    refine XS.lstoreN X0.here hx rfl (hb hby d2_11) rfl (l' := #[.val (.long p0), .second, .val (.long (p0 * ((2 : Int64) - (p0 * p0)))), .second]) rfl ?_
    show Steps p.tables e below (s₁.setTop (mkF m 12 #[.val (.long p0), .second, .val (.long (p0 * ((2 : Int64) - (p0 * p0)))), .second] [])) _
    refine XS.lloadN X0.here hx rfl (hb hby d2_12) rfl ?_
    show Steps p.tables e below (s₁.setTop (mkF m 13 #[.val (.long p0), .second, .val (.long (p0 * ((2 : Int64) - (p0 * p0)))), .second] [(.long (p0 * ((2 : Int64) - (p0 * p0))))])) _
    refine X0.ldc2Long hx hown (mvT hZ (hw _ (List.mem_of_getElem? (i := 11) rfl))) (g := (mkF m 13 #[.val (.long p0), .second, .val (.long (p0 * ((2 : Int64) - (p0 * p0)))), .second] [(.long (p0 * ((2 : Int64) - (p0 * p0))))])) rfl (hb hby d2_13) _ ?_
    show Steps p.tables e below (s₁.setTop (mkF m 16 #[.val (.long p0), .second, .val (.long (p0 * ((2 : Int64) - (p0 * p0)))), .second] [(.long (2 : Int64)), (.long (p0 * ((2 : Int64) - (p0 * p0))))])) _
    refine XS.lloadN X0.here hx rfl (hb hby d2_16) rfl ?_
    show Steps p.tables e below (s₁.setTop (mkF m 17 #[.val (.long p0), .second, .val (.long (p0 * ((2 : Int64) - (p0 * p0)))), .second] [(.long p0), (.long (2 : Int64)), (.long (p0 * ((2 : Int64) - (p0 * p0))))])) _
    refine XS.lloadN X0.here hx rfl (hb hby d2_17) rfl ?_
    show Steps p.tables e below (s₁.setTop (mkF m 18 #[.val (.long p0), .second, .val (.long (p0 * ((2 : Int64) - (p0 * p0)))), .second] [(.long (p0 * ((2 : Int64) - (p0 * p0)))), (.long p0), (.long (2 : Int64)), (.long (p0 * ((2 : Int64) - (p0 * p0))))])) _
    refine XS.lmul X0.here hx rfl (hb hby d2_18) rfl ?_
    show Steps p.tables e below (s₁.setTop (mkF m 19 #[.val (.long p0), .second, .val (.long (p0 * ((2 : Int64) - (p0 * p0)))), .second] [(.long (p0 * (p0 * ((2 : Int64) - (p0 * p0))))), (.long (2 : Int64)), (.long (p0 * ((2 : Int64) - (p0 * p0))))])) _
    refine XS.lsub X0.here hx rfl (hb hby d2_19) rfl ?_
    show Steps p.tables e below (s₁.setTop (mkF m 20 #[.val (.long p0), .second, .val (.long (p0 * ((2 : Int64) - (p0 * p0)))), .second] [(.long ((2 : Int64) - (p0 * (p0 * ((2 : Int64) - (p0 * p0)))))), (.long (p0 * ((2 : Int64) - (p0 * p0))))])) _
    refine XS.lmul X0.here hx rfl (hb hby d2_20) rfl ?_
    show Steps p.tables e below (s₁.setTop (mkF m 21 #[.val (.long p0), .second, .val (.long (p0 * ((2 : Int64) - (p0 * p0)))), .second] [(.long ((p0 * ((2 : Int64) - (p0 * p0))) * ((2 : Int64) - (p0 * (p0 * ((2 : Int64) - (p0 * p0)))))))])) _
    refine XS.lstoreN X0.here hx rfl (hb hby d2_21) rfl (l' := #[.val (.long p0), .second, .val (.long ((p0 * ((2 : Int64) - (p0 * p0))) * ((2 : Int64) - (p0 * (p0 * ((2 : Int64) - (p0 * p0))))))), .second]) rfl ?_
    show Steps p.tables e below (s₁.setTop (mkF m 22 #[.val (.long p0), .second, .val (.long ((p0 * ((2 : Int64) - (p0 * p0))) * ((2 : Int64) - (p0 * (p0 * ((2 : Int64) - (p0 * p0))))))), .second] [])) _
    refine XS.lloadN X0.here hx rfl (hb hby d2_22) rfl ?_
    show Steps p.tables e below (s₁.setTop (mkF m 23 #[.val (.long p0), .second, .val (.long ((p0 * ((2 : Int64) - (p0 * p0))) * ((2 : Int64) - (p0 * (p0 * ((2 : Int64) - (p0 * p0))))))), .second] [(.long ((p0 * ((2 : Int64) - (p0 * p0))) * ((2 : Int64) - (p0 * (p0 * ((2 : Int64) - (p0 * p0)))))))])) _
    refine X0.ldc2Long hx hown (mvT hZ (hw _ (List.mem_of_getElem? (i := 11) rfl))) (g := (mkF m 23 #[.val (.long p0), .second, .val (.long ((p0 * ((2 : Int64) - (p0 * p0))) * ((2 : Int64) - (p0 * (p0 * ((2 : Int64) - (p0 * p0))))))), .second] [(.long ((p0 * ((2 : Int64) - (p0 * p0))) * ((2 : Int64) - (p0 * (p0 * ((2 : Int64) - (p0 * p0)))))))])) rfl (hb hby d2_23) _ ?_
    show Steps p.tables e below (s₁.setTop (mkF m 26 #[.val (.long p0), .second, .val (.long ((p0 * ((2 : Int64) - (p0 * p0))) * ((2 : Int64) - (p0 * (p0 * ((2 : Int64) - (p0 * p0))))))), .second] [(.long (2 : Int64)), (.long ((p0 * ((2 : Int64) - (p0 * p0))) * ((2 : Int64) - (p0 * (p0 * ((2 : Int64) - (p0 * p0)))))))])) _
    refine XS.lloadN X0.here hx rfl (hb hby d2_26) rfl ?_
    show Steps p.tables e below (s₁.setTop (mkF m 27 #[.val (.long p0), .second, .val (.long ((p0 * ((2 : Int64) - (p0 * p0))) * ((2 : Int64) - (p0 * (p0 * ((2 : Int64) - (p0 * p0))))))), .second] [(.long p0), (.long (2 : Int64)), (.long ((p0 * ((2 : Int64) - (p0 * p0))) * ((2 : Int64) - (p0 * (p0 * ((2 : Int64) - (p0 * p0)))))))])) _
    refine XS.lloadN X0.here hx rfl (hb hby d2_27) rfl ?_
    show Steps p.tables e below (s₁.setTop (mkF m 28 #[.val (.long p0), .second, .val (.long ((p0 * ((2 : Int64) - (p0 * p0))) * ((2 : Int64) - (p0 * (p0 * ((2 : Int64) - (p0 * p0))))))), .second] [(.long ((p0 * ((2 : Int64) - (p0 * p0))) * ((2 : Int64) - (p0 * (p0 * ((2 : Int64) - (p0 * p0))))))), (.long p0), (.long (2 : Int64)), (.long ((p0 * ((2 : Int64) - (p0 * p0))) * ((2 : Int64) - (p0 * (p0 * ((2 : Int64) - (p0 * p0)))))))])) _
    refine XS.lmul X0.here hx rfl (hb hby d2_28) rfl ?_
    show Steps p.tables e below (s₁.setTop (mkF m 29 #[.val (.long p0), .second, .val (.long ((p0 * ((2 : Int64) - (p0 * p0))) * ((2 : Int64) - (p0 * (p0 * ((2 : Int64) - (p0 * p0))))))), .second] [(.long (p0 * ((p0 * ((2 : Int64) - (p0 * p0))) * ((2 : Int64) - (p0 * (p0 * ((2 : Int64) - (p0 * p0)))))))), (.long (2 : Int64)), (.long ((p0 * ((2 : Int64) - (p0 * p0))) * ((2 : Int64) - (p0 * (p0 * ((2 : Int64) - (p0 * p0)))))))])) _
    refine XS.lsub X0.here hx rfl (hb hby d2_29) rfl ?_
    show Steps p.tables e below (s₁.setTop (mkF m 30 #[.val (.long p0), .second, .val (.long ((p0 * ((2 : Int64) - (p0 * p0))) * ((2 : Int64) - (p0 * (p0 * ((2 : Int64) - (p0 * p0))))))), .second] [(.long ((2 : Int64) - (p0 * ((p0 * ((2 : Int64) - (p0 * p0))) * ((2 : Int64) - (p0 * (p0 * ((2 : Int64) - (p0 * p0))))))))), (.long ((p0 * ((2 : Int64) - (p0 * p0))) * ((2 : Int64) - (p0 * (p0 * ((2 : Int64) - (p0 * p0)))))))])) _
    refine XS.lmul X0.here hx rfl (hb hby d2_30) rfl ?_
    show Steps p.tables e below (s₁.setTop (mkF m 31 #[.val (.long p0), .second, .val (.long ((p0 * ((2 : Int64) - (p0 * p0))) * ((2 : Int64) - (p0 * (p0 * ((2 : Int64) - (p0 * p0))))))), .second] [(.long (((p0 * ((2 : Int64) - (p0 * p0))) * ((2 : Int64) - (p0 * (p0 * ((2 : Int64) - (p0 * p0)))))) * ((2 : Int64) - (p0 * ((p0 * ((2 : Int64) - (p0 * p0))) * ((2 : Int64) - (p0 * (p0 * ((2 : Int64) - (p0 * p0))))))))))])) _
    refine XS.lstoreN X0.here hx rfl (hb hby d2_31) rfl (l' := #[.val (.long p0), .second, .val (.long (((p0 * ((2 : Int64) - (p0 * p0))) * ((2 : Int64) - (p0 * (p0 * ((2 : Int64) - (p0 * p0)))))) * ((2 : Int64) - (p0 * ((p0 * ((2 : Int64) - (p0 * p0))) * ((2 : Int64) - (p0 * (p0 * ((2 : Int64) - (p0 * p0)))))))))), .second]) rfl ?_
    show Steps p.tables e below (s₁.setTop (mkF m 32 #[.val (.long p0), .second, .val (.long (((p0 * ((2 : Int64) - (p0 * p0))) * ((2 : Int64) - (p0 * (p0 * ((2 : Int64) - (p0 * p0)))))) * ((2 : Int64) - (p0 * ((p0 * ((2 : Int64) - (p0 * p0))) * ((2 : Int64) - (p0 * (p0 * ((2 : Int64) - (p0 * p0)))))))))), .second] [])) _
    refine XS.lloadN X0.here hx rfl (hb hby d2_32) rfl ?_
    show Steps p.tables e below (s₁.setTop (mkF m 33 #[.val (.long p0), .second, .val (.long (((p0 * ((2 : Int64) - (p0 * p0))) * ((2 : Int64) - (p0 * (p0 * ((2 : Int64) - (p0 * p0)))))) * ((2 : Int64) - (p0 * ((p0 * ((2 : Int64) - (p0 * p0))) * ((2 : Int64) - (p0 * (p0 * ((2 : Int64) - (p0 * p0)))))))))), .second] [(.long (((p0 * ((2 : Int64) - (p0 * p0))) * ((2 : Int64) - (p0 * (p0 * ((2 : Int64) - (p0 * p0)))))) * ((2 : Int64) - (p0 * ((p0 * ((2 : Int64) - (p0 * p0))) * ((2 : Int64) - (p0 * (p0 * ((2 : Int64) - (p0 * p0))))))))))])) _
    refine X0.ldc2Long hx hown (mvT hZ (hw _ (List.mem_of_getElem? (i := 11) rfl))) (g := (mkF m 33 #[.val (.long p0), .second, .val (.long (((p0 * ((2 : Int64) - (p0 * p0))) * ((2 : Int64) - (p0 * (p0 * ((2 : Int64) - (p0 * p0)))))) * ((2 : Int64) - (p0 * ((p0 * ((2 : Int64) - (p0 * p0))) * ((2 : Int64) - (p0 * (p0 * ((2 : Int64) - (p0 * p0)))))))))), .second] [(.long (((p0 * ((2 : Int64) - (p0 * p0))) * ((2 : Int64) - (p0 * (p0 * ((2 : Int64) - (p0 * p0)))))) * ((2 : Int64) - (p0 * ((p0 * ((2 : Int64) - (p0 * p0))) * ((2 : Int64) - (p0 * (p0 * ((2 : Int64) - (p0 * p0))))))))))])) rfl (hb hby d2_33) _ ?_
    show Steps p.tables e below (s₁.setTop (mkF m 36 #[.val (.long p0), .second, .val (.long (((p0 * ((2 : Int64) - (p0 * p0))) * ((2 : Int64) - (p0 * (p0 * ((2 : Int64) - (p0 * p0)))))) * ((2 : Int64) - (p0 * ((p0 * ((2 : Int64) - (p0 * p0))) * ((2 : Int64) - (p0 * (p0 * ((2 : Int64) - (p0 * p0)))))))))), .second] [(.long (2 : Int64)), (.long (((p0 * ((2 : Int64) - (p0 * p0))) * ((2 : Int64) - (p0 * (p0 * ((2 : Int64) - (p0 * p0)))))) * ((2 : Int64) - (p0 * ((p0 * ((2 : Int64) - (p0 * p0))) * ((2 : Int64) - (p0 * (p0 * ((2 : Int64) - (p0 * p0))))))))))])) _
    refine XS.lloadN X0.here hx rfl (hb hby d2_36) rfl ?_
    show Steps p.tables e below (s₁.setTop (mkF m 37 #[.val (.long p0), .second, .val (.long (((p0 * ((2 : Int64) - (p0 * p0))) * ((2 : Int64) - (p0 * (p0 * ((2 : Int64) - (p0 * p0)))))) * ((2 : Int64) - (p0 * ((p0 * ((2 : Int64) - (p0 * p0))) * ((2 : Int64) - (p0 * (p0 * ((2 : Int64) - (p0 * p0)))))))))), .second] [(.long p0), (.long (2 : Int64)), (.long (((p0 * ((2 : Int64) - (p0 * p0))) * ((2 : Int64) - (p0 * (p0 * ((2 : Int64) - (p0 * p0)))))) * ((2 : Int64) - (p0 * ((p0 * ((2 : Int64) - (p0 * p0))) * ((2 : Int64) - (p0 * (p0 * ((2 : Int64) - (p0 * p0))))))))))])) _
    refine XS.lloadN X0.here hx rfl (hb hby d2_37) rfl ?_
    show Steps p.tables e below (s₁.setTop (mkF m 38 #[.val (.long p0), .second, .val (.long (((p0 * ((2 : Int64) - (p0 * p0))) * ((2 : Int64) - (p0 * (p0 * ((2 : Int64) - (p0 * p0)))))) * ((2 : Int64) - (p0 * ((p0 * ((2 : Int64) - (p0 * p0))) * ((2 : Int64) - (p0 * (p0 * ((2 : Int64) - (p0 * p0)))))))))), .second] [(.long (((p0 * ((2 : Int64) - (p0 * p0))) * ((2 : Int64) - (p0 * (p0 * ((2 : Int64) - (p0 * p0)))))) * ((2 : Int64) - (p0 * ((p0 * ((2 : Int64) - (p0 * p0))) * ((2 : Int64) - (p0 * (p0 * ((2 : Int64) - (p0 * p0)))))))))), (.long p0), (.long (2 : Int64)), (.long (((p0 * ((2 : Int64) - (p0 * p0))) * ((2 : Int64) - (p0 * (p0 * ((2 : Int64) - (p0 * p0)))))) * ((2 : Int64) - (p0 * ((p0 * ((2 : Int64) - (p0 * p0))) * ((2 : Int64) - (p0 * (p0 * ((2 : Int64) - (p0 * p0))))))))))])) _
    refine XS.lmul X0.here hx rfl (hb hby d2_38) rfl ?_
    show Steps p.tables e below (s₁.setTop (mkF m 39 #[.val (.long p0), .second, .val (.long (((p0 * ((2 : Int64) - (p0 * p0))) * ((2 : Int64) - (p0 * (p0 * ((2 : Int64) - (p0 * p0)))))) * ((2 : Int64) - (p0 * ((p0 * ((2 : Int64) - (p0 * p0))) * ((2 : Int64) - (p0 * (p0 * ((2 : Int64) - (p0 * p0)))))))))), .second] [(.long (p0 * (((p0 * ((2 : Int64) - (p0 * p0))) * ((2 : Int64) - (p0 * (p0 * ((2 : Int64) - (p0 * p0)))))) * ((2 : Int64) - (p0 * ((p0 * ((2 : Int64) - (p0 * p0))) * ((2 : Int64) - (p0 * (p0 * ((2 : Int64) - (p0 * p0))))))))))), (.long (2 : Int64)), (.long (((p0 * ((2 : Int64) - (p0 * p0))) * ((2 : Int64) - (p0 * (p0 * ((2 : Int64) - (p0 * p0)))))) * ((2 : Int64) - (p0 * ((p0 * ((2 : Int64) - (p0 * p0))) * ((2 : Int64) - (p0 * (p0 * ((2 : Int64) - (p0 * p0))))))))))])) _
    refine XS.lsub X0.here hx rfl (hb hby d2_39) rfl ?_
    show Steps p.tables e below (s₁.setTop (mkF m 40 #[.val (.long p0), .second, .val (.long (((p0 * ((2 : Int64) - (p0 * p0))) * ((2 : Int64) - (p0 * (p0 * ((2 : Int64) - (p0 * p0)))))) * ((2 : Int64) - (p0 * ((p0 * ((2 : Int64) - (p0 * p0))) * ((2 : Int64) - (p0 * (p0 * ((2 : Int64) - (p0 * p0)))))))))), .second] [(.long ((2 : Int64) - (p0 * (((p0 * ((2 : Int64) - (p0 * p0))) * ((2 : Int64) - (p0 * (p0 * ((2 : Int64) - (p0 * p0)))))) * ((2 : Int64) - (p0 * ((p0 * ((2 : Int64) - (p0 * p0))) * ((2 : Int64) - (p0 * (p0 * ((2 : Int64) - (p0 * p0)))))))))))), (.long (((p0 * ((2 : Int64) - (p0 * p0))) * ((2 : Int64) - (p0 * (p0 * ((2 : Int64) - (p0 * p0)))))) * ((2 : Int64) - (p0 * ((p0 * ((2 : Int64) - (p0 * p0))) * ((2 : Int64) - (p0 * (p0 * ((2 : Int64) - (p0 * p0))))))))))])) _
    refine XS.lmul X0.here hx rfl (hb hby d2_40) rfl ?_
    show Steps p.tables e below (s₁.setTop (mkF m 41 #[.val (.long p0), .second, .val (.long (((p0 * ((2 : Int64) - (p0 * p0))) * ((2 : Int64) - (p0 * (p0 * ((2 : Int64) - (p0 * p0)))))) * ((2 : Int64) - (p0 * ((p0 * ((2 : Int64) - (p0 * p0))) * ((2 : Int64) - (p0 * (p0 * ((2 : Int64) - (p0 * p0)))))))))), .second] [(.long ((((p0 * ((2 : Int64) - (p0 * p0))) * ((2 : Int64) - (p0 * (p0 * ((2 : Int64) - (p0 * p0)))))) * ((2 : Int64) - (p0 * ((p0 * ((2 : Int64) - (p0 * p0))) * ((2 : Int64) - (p0 * (p0 * ((2 : Int64) - (p0 * p0))))))))) * ((2 : Int64) - (p0 * (((p0 * ((2 : Int64) - (p0 * p0))) * ((2 : Int64) - (p0 * (p0 * ((2 : Int64) - (p0 * p0)))))) * ((2 : Int64) - (p0 * ((p0 * ((2 : Int64) - (p0 * p0))) * ((2 : Int64) - (p0 * (p0 * ((2 : Int64) - (p0 * p0)))))))))))))])) _
    refine XS.lstoreN X0.here hx rfl (hb hby d2_41) rfl (l' := #[.val (.long p0), .second, .val (.long ((((p0 * ((2 : Int64) - (p0 * p0))) * ((2 : Int64) - (p0 * (p0 * ((2 : Int64) - (p0 * p0)))))) * ((2 : Int64) - (p0 * ((p0 * ((2 : Int64) - (p0 * p0))) * ((2 : Int64) - (p0 * (p0 * ((2 : Int64) - (p0 * p0))))))))) * ((2 : Int64) - (p0 * (((p0 * ((2 : Int64) - (p0 * p0))) * ((2 : Int64) - (p0 * (p0 * ((2 : Int64) - (p0 * p0)))))) * ((2 : Int64) - (p0 * ((p0 * ((2 : Int64) - (p0 * p0))) * ((2 : Int64) - (p0 * (p0 * ((2 : Int64) - (p0 * p0))))))))))))), .second]) rfl ?_
    show Steps p.tables e below (s₁.setTop (mkF m 42 #[.val (.long p0), .second, .val (.long ((((p0 * ((2 : Int64) - (p0 * p0))) * ((2 : Int64) - (p0 * (p0 * ((2 : Int64) - (p0 * p0)))))) * ((2 : Int64) - (p0 * ((p0 * ((2 : Int64) - (p0 * p0))) * ((2 : Int64) - (p0 * (p0 * ((2 : Int64) - (p0 * p0))))))))) * ((2 : Int64) - (p0 * (((p0 * ((2 : Int64) - (p0 * p0))) * ((2 : Int64) - (p0 * (p0 * ((2 : Int64) - (p0 * p0)))))) * ((2 : Int64) - (p0 * ((p0 * ((2 : Int64) - (p0 * p0))) * ((2 : Int64) - (p0 * (p0 * ((2 : Int64) - (p0 * p0))))))))))))), .second] [])) _
    refine XS.lloadN X0.here hx rfl (hb hby d2_42) rfl ?_
    show Steps p.tables e below (s₁.setTop (mkF m 43 #[.val (.long p0), .second, .val (.long ((((p0 * ((2 : Int64) - (p0 * p0))) * ((2 : Int64) - (p0 * (p0 * ((2 : Int64) - (p0 * p0)))))) * ((2 : Int64) - (p0 * ((p0 * ((2 : Int64) - (p0 * p0))) * ((2 : Int64) - (p0 * (p0 * ((2 : Int64) - (p0 * p0))))))))) * ((2 : Int64) - (p0 * (((p0 * ((2 : Int64) - (p0 * p0))) * ((2 : Int64) - (p0 * (p0 * ((2 : Int64) - (p0 * p0)))))) * ((2 : Int64) - (p0 * ((p0 * ((2 : Int64) - (p0 * p0))) * ((2 : Int64) - (p0 * (p0 * ((2 : Int64) - (p0 * p0))))))))))))), .second] [(.long ((((p0 * ((2 : Int64) - (p0 * p0))) * ((2 : Int64) - (p0 * (p0 * ((2 : Int64) - (p0 * p0)))))) * ((2 : Int64) - (p0 * ((p0 * ((2 : Int64) - (p0 * p0))) * ((2 : Int64) - (p0 * (p0 * ((2 : Int64) - (p0 * p0))))))))) * ((2 : Int64) - (p0 * (((p0 * ((2 : Int64) - (p0 * p0))) * ((2 : Int64) - (p0 * (p0 * ((2 : Int64) - (p0 * p0)))))) * ((2 : Int64) - (p0 * ((p0 * ((2 : Int64) - (p0 * p0))) * ((2 : Int64) - (p0 * (p0 * ((2 : Int64) - (p0 * p0)))))))))))))])) _
    refine X0.ldc2Long hx hown (mvT hZ (hw _ (List.mem_of_getElem? (i := 11) rfl))) (g := (mkF m 43 #[.val (.long p0), .second, .val (.long ((((p0 * ((2 : Int64) - (p0 * p0))) * ((2 : Int64) - (p0 * (p0 * ((2 : Int64) - (p0 * p0)))))) * ((2 : Int64) - (p0 * ((p0 * ((2 : Int64) - (p0 * p0))) * ((2 : Int64) - (p0 * (p0 * ((2 : Int64) - (p0 * p0))))))))) * ((2 : Int64) - (p0 * (((p0 * ((2 : Int64) - (p0 * p0))) * ((2 : Int64) - (p0 * (p0 * ((2 : Int64) - (p0 * p0)))))) * ((2 : Int64) - (p0 * ((p0 * ((2 : Int64) - (p0 * p0))) * ((2 : Int64) - (p0 * (p0 * ((2 : Int64) - (p0 * p0))))))))))))), .second] [(.long ((((p0 * ((2 : Int64) - (p0 * p0))) * ((2 : Int64) - (p0 * (p0 * ((2 : Int64) - (p0 * p0)))))) * ((2 : Int64) - (p0 * ((p0 * ((2 : Int64) - (p0 * p0))) * ((2 : Int64) - (p0 * (p0 * ((2 : Int64) - (p0 * p0))))))))) * ((2 : Int64) - (p0 * (((p0 * ((2 : Int64) - (p0 * p0))) * ((2 : Int64) - (p0 * (p0 * ((2 : Int64) - (p0 * p0)))))) * ((2 : Int64) - (p0 * ((p0 * ((2 : Int64) - (p0 * p0))) * ((2 : Int64) - (p0 * (p0 * ((2 : Int64) - (p0 * p0)))))))))))))])) rfl (hb hby d2_43) _ ?_
    show Steps p.tables e below (s₁.setTop (mkF m 46 #[.val (.long p0), .second, .val (.long ((((p0 * ((2 : Int64) - (p0 * p0))) * ((2 : Int64) - (p0 * (p0 * ((2 : Int64) - (p0 * p0)))))) * ((2 : Int64) - (p0 * ((p0 * ((2 : Int64) - (p0 * p0))) * ((2 : Int64) - (p0 * (p0 * ((2 : Int64) - (p0 * p0))))))))) * ((2 : Int64) - (p0 * (((p0 * ((2 : Int64) - (p0 * p0))) * ((2 : Int64) - (p0 * (p0 * ((2 : Int64) - (p0 * p0)))))) * ((2 : Int64) - (p0 * ((p0 * ((2 : Int64) - (p0 * p0))) * ((2 : Int64) - (p0 * (p0 * ((2 : Int64) - (p0 * p0))))))))))))), .second] [(.long (2 : Int64)), (.long ((((p0 * ((2 : Int64) - (p0 * p0))) * ((2 : Int64) - (p0 * (p0 * ((2 : Int64) - (p0 * p0)))))) * ((2 : Int64) - (p0 * ((p0 * ((2 : Int64) - (p0 * p0))) * ((2 : Int64) - (p0 * (p0 * ((2 : Int64) - (p0 * p0))))))))) * ((2 : Int64) - (p0 * (((p0 * ((2 : Int64) - (p0 * p0))) * ((2 : Int64) - (p0 * (p0 * ((2 : Int64) - (p0 * p0)))))) * ((2 : Int64) - (p0 * ((p0 * ((2 : Int64) - (p0 * p0))) * ((2 : Int64) - (p0 * (p0 * ((2 : Int64) - (p0 * p0)))))))))))))])) _
    refine XS.lloadN X0.here hx rfl (hb hby d2_46) rfl ?_
    show Steps p.tables e below (s₁.setTop (mkF m 47 #[.val (.long p0), .second, .val (.long ((((p0 * ((2 : Int64) - (p0 * p0))) * ((2 : Int64) - (p0 * (p0 * ((2 : Int64) - (p0 * p0)))))) * ((2 : Int64) - (p0 * ((p0 * ((2 : Int64) - (p0 * p0))) * ((2 : Int64) - (p0 * (p0 * ((2 : Int64) - (p0 * p0))))))))) * ((2 : Int64) - (p0 * (((p0 * ((2 : Int64) - (p0 * p0))) * ((2 : Int64) - (p0 * (p0 * ((2 : Int64) - (p0 * p0)))))) * ((2 : Int64) - (p0 * ((p0 * ((2 : Int64) - (p0 * p0))) * ((2 : Int64) - (p0 * (p0 * ((2 : Int64) - (p0 * p0))))))))))))), .second] [(.long p0), (.long (2 : Int64)), (.long ((((p0 * ((2 : Int64) - (p0 * p0))) * ((2 : Int64) - (p0 * (p0 * ((2 : Int64) - (p0 * p0)))))) * ((2 : Int64) - (p0 * ((p0 * ((2 : Int64) - (p0 * p0))) * ((2 : Int64) - (p0 * (p0 * ((2 : Int64) - (p0 * p0))))))))) * ((2 : Int64) - (p0 * (((p0 * ((2 : Int64) - (p0 * p0))) * ((2 : Int64) - (p0 * (p0 * ((2 : Int64) - (p0 * p0)))))) * ((2 : Int64) - (p0 * ((p0 * ((2 : Int64) - (p0 * p0))) * ((2 : Int64) - (p0 * (p0 * ((2 : Int64) - (p0 * p0)))))))))))))])) _
    refine XS.lloadN X0.here hx rfl (hb hby d2_47) rfl ?_
    show Steps p.tables e below (s₁.setTop (mkF m 48 #[.val (.long p0), .second, .val (.long ((((p0 * ((2 : Int64) - (p0 * p0))) * ((2 : Int64) - (p0 * (p0 * ((2 : Int64) - (p0 * p0)))))) * ((2 : Int64) - (p0 * ((p0 * ((2 : Int64) - (p0 * p0))) * ((2 : Int64) - (p0 * (p0 * ((2 : Int64) - (p0 * p0))))))))) * ((2 : Int64) - (p0 * (((p0 * ((2 : Int64) - (p0 * p0))) * ((2 : Int64) - (p0 * (p0 * ((2 : Int64) - (p0 * p0)))))) * ((2 : Int64) - (p0 * ((p0 * ((2 : Int64) - (p0 * p0))) * ((2 : Int64) - (p0 * (p0 * ((2 : Int64) - (p0 * p0))))))))))))), .second] [(.long ((((p0 * ((2 : Int64) - (p0 * p0))) * ((2 : Int64) - (p0 * (p0 * ((2 : Int64) - (p0 * p0)))))) * ((2 : Int64) - (p0 * ((p0 * ((2 : Int64) - (p0 * p0))) * ((2 : Int64) - (p0 * (p0 * ((2 : Int64) - (p0 * p0))))))))) * ((2 : Int64) - (p0 * (((p0 * ((2 : Int64) - (p0 * p0))) * ((2 : Int64) - (p0 * (p0 * ((2 : Int64) - (p0 * p0)))))) * ((2 : Int64) - (p0 * ((p0 * ((2 : Int64) - (p0 * p0))) * ((2 : Int64) - (p0 * (p0 * ((2 : Int64) - (p0 * p0))))))))))))), (.long p0), (.long (2 : Int64)), (.long ((((p0 * ((2 : Int64) - (p0 * p0))) * ((2 : Int64) - (p0 * (p0 * ((2 : Int64) - (p0 * p0)))))) * ((2 : Int64) - (p0 * ((p0 * ((2 : Int64) - (p0 * p0))) * ((2 : Int64) - (p0 * (p0 * ((2 : Int64) - (p0 * p0))))))))) * ((2 : Int64) - (p0 * (((p0 * ((2 : Int64) - (p0 * p0))) * ((2 : Int64) - (p0 * (p0 * ((2 : Int64) - (p0 * p0)))))) * ((2 : Int64) - (p0 * ((p0 * ((2 : Int64) - (p0 * p0))) * ((2 : Int64) - (p0 * (p0 * ((2 : Int64) - (p0 * p0)))))))))))))])) _
    refine XS.lmul X0.here hx rfl (hb hby d2_48) rfl ?_
    show Steps p.tables e below (s₁.setTop (mkF m 49 #[.val (.long p0), .second, .val (.long ((((p0 * ((2 : Int64) - (p0 * p0))) * ((2 : Int64) - (p0 * (p0 * ((2 : Int64) - (p0 * p0)))))) * ((2 : Int64) - (p0 * ((p0 * ((2 : Int64) - (p0 * p0))) * ((2 : Int64) - (p0 * (p0 * ((2 : Int64) - (p0 * p0))))))))) * ((2 : Int64) - (p0 * (((p0 * ((2 : Int64) - (p0 * p0))) * ((2 : Int64) - (p0 * (p0 * ((2 : Int64) - (p0 * p0)))))) * ((2 : Int64) - (p0 * ((p0 * ((2 : Int64) - (p0 * p0))) * ((2 : Int64) - (p0 * (p0 * ((2 : Int64) - (p0 * p0))))))))))))), .second] [(.long (p0 * ((((p0 * ((2 : Int64) - (p0 * p0))) * ((2 : Int64) - (p0 * (p0 * ((2 : Int64) - (p0 * p0)))))) * ((2 : Int64) - (p0 * ((p0 * ((2 : Int64) - (p0 * p0))) * ((2 : Int64) - (p0 * (p0 * ((2 : Int64) - (p0 * p0))))))))) * ((2 : Int64) - (p0 * (((p0 * ((2 : Int64) - (p0 * p0))) * ((2 : Int64) - (p0 * (p0 * ((2 : Int64) - (p0 * p0)))))) * ((2 : Int64) - (p0 * ((p0 * ((2 : Int64) - (p0 * p0))) * ((2 : Int64) - (p0 * (p0 * ((2 : Int64) - (p0 * p0)))))))))))))), (.long (2 : Int64)), (.long ((((p0 * ((2 : Int64) - (p0 * p0))) * ((2 : Int64) - (p0 * (p0 * ((2 : Int64) - (p0 * p0)))))) * ((2 : Int64) - (p0 * ((p0 * ((2 : Int64) - (p0 * p0))) * ((2 : Int64) - (p0 * (p0 * ((2 : Int64) - (p0 * p0))))))))) * ((2 : Int64) - (p0 * (((p0 * ((2 : Int64) - (p0 * p0))) * ((2 : Int64) - (p0 * (p0 * ((2 : Int64) - (p0 * p0)))))) * ((2 : Int64) - (p0 * ((p0 * ((2 : Int64) - (p0 * p0))) * ((2 : Int64) - (p0 * (p0 * ((2 : Int64) - (p0 * p0)))))))))))))])) _
    refine XS.lsub X0.here hx rfl (hb hby d2_49) rfl ?_
    show Steps p.tables e below (s₁.setTop (mkF m 50 #[.val (.long p0), .second, .val (.long ((((p0 * ((2 : Int64) - (p0 * p0))) * ((2 : Int64) - (p0 * (p0 * ((2 : Int64) - (p0 * p0)))))) * ((2 : Int64) - (p0 * ((p0 * ((2 : Int64) - (p0 * p0))) * ((2 : Int64) - (p0 * (p0 * ((2 : Int64) - (p0 * p0))))))))) * ((2 : Int64) - (p0 * (((p0 * ((2 : Int64) - (p0 * p0))) * ((2 : Int64) - (p0 * (p0 * ((2 : Int64) - (p0 * p0)))))) * ((2 : Int64) - (p0 * ((p0 * ((2 : Int64) - (p0 * p0))) * ((2 : Int64) - (p0 * (p0 * ((2 : Int64) - (p0 * p0))))))))))))), .second] [(.long ((2 : Int64) - (p0 * ((((p0 * ((2 : Int64) - (p0 * p0))) * ((2 : Int64) - (p0 * (p0 * ((2 : Int64) - (p0 * p0)))))) * ((2 : Int64) - (p0 * ((p0 * ((2 : Int64) - (p0 * p0))) * ((2 : Int64) - (p0 * (p0 * ((2 : Int64) - (p0 * p0))))))))) * ((2 : Int64) - (p0 * (((p0 * ((2 : Int64) - (p0 * p0))) * ((2 : Int64) - (p0 * (p0 * ((2 : Int64) - (p0 * p0)))))) * ((2 : Int64) - (p0 * ((p0 * ((2 : Int64) - (p0 * p0))) * ((2 : Int64) - (p0 * (p0 * ((2 : Int64) - (p0 * p0))))))))))))))), (.long ((((p0 * ((2 : Int64) - (p0 * p0))) * ((2 : Int64) - (p0 * (p0 * ((2 : Int64) - (p0 * p0)))))) * ((2 : Int64) - (p0 * ((p0 * ((2 : Int64) - (p0 * p0))) * ((2 : Int64) - (p0 * (p0 * ((2 : Int64) - (p0 * p0))))))))) * ((2 : Int64) - (p0 * (((p0 * ((2 : Int64) - (p0 * p0))) * ((2 : Int64) - (p0 * (p0 * ((2 : Int64) - (p0 * p0)))))) * ((2 : Int64) - (p0 * ((p0 * ((2 : Int64) - (p0 * p0))) * ((2 : Int64) - (p0 * (p0 * ((2 : Int64) - (p0 * p0)))))))))))))])) _
    refine XS.lmul X0.here hx rfl (hb hby d2_50) rfl ?_
    show Steps p.tables e below (s₁.setTop (mkF m 51 #[.val (.long p0), .second, .val (.long ((((p0 * ((2 : Int64) - (p0 * p0))) * ((2 : Int64) - (p0 * (p0 * ((2 : Int64) - (p0 * p0)))))) * ((2 : Int64) - (p0 * ((p0 * ((2 : Int64) - (p0 * p0))) * ((2 : Int64) - (p0 * (p0 * ((2 : Int64) - (p0 * p0))))))))) * ((2 : Int64) - (p0 * (((p0 * ((2 : Int64) - (p0 * p0))) * ((2 : Int64) - (p0 * (p0 * ((2 : Int64) - (p0 * p0)))))) * ((2 : Int64) - (p0 * ((p0 * ((2 : Int64) - (p0 * p0))) * ((2 : Int64) - (p0 * (p0 * ((2 : Int64) - (p0 * p0))))))))))))), .second] [(.long (((((p0 * ((2 : Int64) - (p0 * p0))) * ((2 : Int64) - (p0 * (p0 * ((2 : Int64) - (p0 * p0)))))) * ((2 : Int64) - (p0 * ((p0 * ((2 : Int64) - (p0 * p0))) * ((2 : Int64) - (p0 * (p0 * ((2 : Int64) - (p0 * p0))))))))) * ((2 : Int64) - (p0 * (((p0 * ((2 : Int64) - (p0 * p0))) * ((2 : Int64) - (p0 * (p0 * ((2 : Int64) - (p0 * p0)))))) * ((2 : Int64) - (p0 * ((p0 * ((2 : Int64) - (p0 * p0))) * ((2 : Int64) - (p0 * (p0 * ((2 : Int64) - (p0 * p0)))))))))))) * ((2 : Int64) - (p0 * ((((p0 * ((2 : Int64) - (p0 * p0))) * ((2 : Int64) - (p0 * (p0 * ((2 : Int64) - (p0 * p0)))))) * ((2 : Int64) - (p0 * ((p0 * ((2 : Int64) - (p0 * p0))) * ((2 : Int64) - (p0 * (p0 * ((2 : Int64) - (p0 * p0))))))))) * ((2 : Int64) - (p0 * (((p0 * ((2 : Int64) - (p0 * p0))) * ((2 : Int64) - (p0 * (p0 * ((2 : Int64) - (p0 * p0)))))) * ((2 : Int64) - (p0 * ((p0 * ((2 : Int64) - (p0 * p0))) * ((2 : Int64) - (p0 * (p0 * ((2 : Int64) - (p0 * p0))))))))))))))))])) _
    refine XS.lstoreN X0.here hx rfl (hb hby d2_51) rfl (l' := #[.val (.long p0), .second, .val (.long (((((p0 * ((2 : Int64) - (p0 * p0))) * ((2 : Int64) - (p0 * (p0 * ((2 : Int64) - (p0 * p0)))))) * ((2 : Int64) - (p0 * ((p0 * ((2 : Int64) - (p0 * p0))) * ((2 : Int64) - (p0 * (p0 * ((2 : Int64) - (p0 * p0))))))))) * ((2 : Int64) - (p0 * (((p0 * ((2 : Int64) - (p0 * p0))) * ((2 : Int64) - (p0 * (p0 * ((2 : Int64) - (p0 * p0)))))) * ((2 : Int64) - (p0 * ((p0 * ((2 : Int64) - (p0 * p0))) * ((2 : Int64) - (p0 * (p0 * ((2 : Int64) - (p0 * p0)))))))))))) * ((2 : Int64) - (p0 * ((((p0 * ((2 : Int64) - (p0 * p0))) * ((2 : Int64) - (p0 * (p0 * ((2 : Int64) - (p0 * p0)))))) * ((2 : Int64) - (p0 * ((p0 * ((2 : Int64) - (p0 * p0))) * ((2 : Int64) - (p0 * (p0 * ((2 : Int64) - (p0 * p0))))))))) * ((2 : Int64) - (p0 * (((p0 * ((2 : Int64) - (p0 * p0))) * ((2 : Int64) - (p0 * (p0 * ((2 : Int64) - (p0 * p0)))))) * ((2 : Int64) - (p0 * ((p0 * ((2 : Int64) - (p0 * p0))) * ((2 : Int64) - (p0 * (p0 * ((2 : Int64) - (p0 * p0)))))))))))))))), .second]) rfl ?_
    show Steps p.tables e below (s₁.setTop (mkF m 52 #[.val (.long p0), .second, .val (.long (((((p0 * ((2 : Int64) - (p0 * p0))) * ((2 : Int64) - (p0 * (p0 * ((2 : Int64) - (p0 * p0)))))) * ((2 : Int64) - (p0 * ((p0 * ((2 : Int64) - (p0 * p0))) * ((2 : Int64) - (p0 * (p0 * ((2 : Int64) - (p0 * p0))))))))) * ((2 : Int64) - (p0 * (((p0 * ((2 : Int64) - (p0 * p0))) * ((2 : Int64) - (p0 * (p0 * ((2 : Int64) - (p0 * p0)))))) * ((2 : Int64) - (p0 * ((p0 * ((2 : Int64) - (p0 * p0))) * ((2 : Int64) - (p0 * (p0 * ((2 : Int64) - (p0 * p0)))))))))))) * ((2 : Int64) - (p0 * ((((p0 * ((2 : Int64) - (p0 * p0))) * ((2 : Int64) - (p0 * (p0 * ((2 : Int64) - (p0 * p0)))))) * ((2 : Int64) - (p0 * ((p0 * ((2 : Int64) - (p0 * p0))) * ((2 : Int64) - (p0 * (p0 * ((2 : Int64) - (p0 * p0))))))))) * ((2 : Int64) - (p0 * (((p0 * ((2 : Int64) - (p0 * p0))) * ((2 : Int64) - (p0 * (p0 * ((2 : Int64) - (p0 * p0)))))) * ((2 : Int64) - (p0 * ((p0 * ((2 : Int64) - (p0 * p0))) * ((2 : Int64) - (p0 * (p0 * ((2 : Int64) - (p0 * p0)))))))))))))))), .second] [])) _
    refine XS.lloadN X0.here hx rfl (hb hby d2_52) rfl ?_
    exact k
  obtain ⟨fs, hr, hrun, hended, hW, hsame⟩ := X0.leave (v := some (.long (((((p0 * ((2 : Int64) - (p0 * p0))) * ((2 : Int64) - (p0 * (p0 * ((2 : Int64) - (p0 * p0)))))) * ((2 : Int64) - (p0 * ((p0 * ((2 : Int64) - (p0 * p0))) * ((2 : Int64) - (p0 * (p0 * ((2 : Int64) - (p0 * p0))))))))) * ((2 : Int64) - (p0 * (((p0 * ((2 : Int64) - (p0 * p0))) * ((2 : Int64) - (p0 * (p0 * ((2 : Int64) - (p0 * p0)))))) * ((2 : Int64) - (p0 * ((p0 * ((2 : Int64) - (p0 * p0))) * ((2 : Int64) - (p0 * (p0 * ((2 : Int64) - (p0 * p0)))))))))))) * ((2 : Int64) - (p0 * ((((p0 * ((2 : Int64) - (p0 * p0))) * ((2 : Int64) - (p0 * (p0 * ((2 : Int64) - (p0 * p0)))))) * ((2 : Int64) - (p0 * ((p0 * ((2 : Int64) - (p0 * p0))) * ((2 : Int64) - (p0 * (p0 * ((2 : Int64) - (p0 * p0))))))))) * ((2 : Int64) - (p0 * (((p0 * ((2 : Int64) - (p0 * p0))) * ((2 : Int64) - (p0 * (p0 * ((2 : Int64) - (p0 * p0)))))) * ((2 : Int64) - (p0 * ((p0 * ((2 : Int64) - (p0 * p0))) * ((2 : Int64) - (p0 * (p0 * ((2 : Int64) - (p0 * p0))))))))))))))))) (fun h => by rw [Bd.returns] at h; cases h)
  refine ⟨_, _, pre2 _ ?_, hrun, hended, _, _, rfl, ?_, ⟨_, rfl⟩, hW, hsame.mono (by decide) (by decide)⟩
  · exact lreturnOut X0 hx Bd.returns (hb hby d2_53) hr
  · show Q2 Z p0 h0 n0 _ s₁.heap _
    rw [e0]
    refine ⟨?_, N0, rfl⟩
    rfl
theorem d3_0 : decode method_3_code 0 = .ok (.lload_n 0, 1) := by decide +kernel
theorem d3_1 : decode method_3_code 1 = .ok (.lload_n 0, 1) := by decide +kernel
theorem d3_2 : decode method_3_code 2 = .ok (.bipush 33, 2) := by decide +kernel
theorem d3_4 : decode method_3_code 4 = .ok (.lushr, 1) := by decide +kernel
theorem d3_5 : decode method_3_code 5 = .ok (.lxor, 1) := by decide +kernel
theorem d3_6 : decode method_3_code 6 = .ok (.lreturn, 1) := by decide +kernel
def own_un (p0 : Int64) : Int64 := (p0 ^^^ ((p0.toUInt64 >>> ((33 : Int32) &&& 0x3f).toInt64.toUInt64).toInt64))
theorem ef_3 (m : MethodId) (x0 : Int64) : entryFrame m #[(.long x0)] 2 = mkF m 0 #[.val (.long x0), .second] [] := by first | (simp [entryFrame, mkF, argsToLocals, Value.category]; done) | rfl
def Q3 (Z : State) (p0 : Int64) (h0 : Heap) (n0 : Nat) (v : Option Value) (h : Heap) (L : List Loc) : Prop := v = some (.long (own_un p0)) ∧ Fr n0 L ∧ h = h0
set_option maxRecDepth 65536 in
set_option maxHeartbeats 40000000 in
theorem rm3 (l : Launch) (Z : State) (a0 : Array Value) (hw : ∀ d ∈ tables_1, d.before a0 Z = true) (ws : List Jvm.Cond) (p0 : Int64) (h0 : Heap) (n0 : Nat) (Z0 : n0 ≤ h0.size) :
    MetFree l (⟨"com/example/shunt/shunt/hash/Murmur3x64_128Fmix64PinLaw", "unshift", "(J)J"⟩ : MethodName) (head1 (Jvm.Cond.code (⟨"com/example/shunt/shunt/hash/Murmur3x64_128Fmix64PinLaw", "unshift", "(J)J"⟩ : MethodName) method_3_code 2 (some .long) :: ws) ({ frames := 0, cells := 0, slots := 0, locals := 0 } : Room)) (fun a U => a = #[(.long p0)] ∧ Z.Warmed39 U.vm ∧ U.heap = h0) (fun _ _ _ _ _ => True) (fun _ U o U' => ∃ v L, o = .returned v ∧ Q3 Z p0 h0 n0 v U'.heap L ∧ FrameEnd U o U' L ({ frames := 0, cells := 0, slots := 0, locals := 0 } : Room).cells ({ frames := 0, cells := 0, slots := 0, locals := 0 } : Room).slots) := by
  refine MetFree.of_bodySF (plainFor_of_name pn_2) hisR ?_
  intro p e s m args below meth c s₁ Bd hml0 hP hK
  obtain ⟨rfl, hZ, hh⟩ := hP
  have hx := Bd.exec
  have hby := Bd.bytes
  have hml : c.maxLocals = 2 := hml0
  have hown : s.vm.findClass "com/example/shunt/shunt/hash/Murmur3x64_128Fmix64PinLaw" = some m.cls := findClass_of_methodNamed Bd.named
  have hnm := (name_of_methodNamed Bd.named Bd.method).1
  have X0 : Stand p l e ({ frames := 0, cells := 0, slots := 0, locals := 0 } : Room) s m #[(.long p0)] below meth c s₁ [] 0 0 := Stand.of_body Bd
  have e0 : s₁.heap = h0 := by rw [← hh, Bd.state]; rfl
  have N0 := Fr.nil n0
  have pre0 : ∀ t, Steps p.tables e below (s₁.setTop (mkF m 0 #[.val (.long p0), .second] [])) t → Steps p.tables e below (s₁.setTop (entryFrame m #[(.long p0)] 2)) t := fun t k => castTop (ef_3 m p0) k
  have pre3 : ∀ t, Steps p.tables e below (s₁.setTop (mkF m 6 #[.val (.long p0), .second] [(.long (p0 ^^^ ((p0.toUInt64 >>> ((33 : Int32) &&& 0x3f).toInt64.toUInt64).toInt64)))])) t → Steps p.tables e below (s₁.setTop (entryFrame m #[(.long p0)] 2)) t := by
    intro t k
    refine pre0 t ?_
    show Steps p.tables e below (s₁.setTop (mkF m 0 #[.val (.long p0), .second] [])) _
    refine XS.lloadN X0.here hx rfl (hb hby d3_0) rfl ?_
    show Steps p.tables e below (s₁.setTop (mkF m 1 #[.val (.long p0), .second] [(.long p0)])) _
    refine XS.lloadN X0.here hx rfl (hb hby d3_1) rfl ?_
    show Steps p.tables e below (s₁.setTop (mkF m 2 #[.val (.long p0), .second] [(.long p0), (.long p0)])) _
    refine XS.bipush X0.here hx rfl (hb hby d3_2) ?_
    show Steps p.tables e below (s₁.setTop (mkF m 4 #[.val (.long p0), .second] [(.int (33 : Int32)), (.long p0), (.long p0)])) _
    refine XS.lushr X0.here hx rfl (hb hby d3_4) rfl ?_
    show Steps p.tables e below (s₁.setTop (mkF m 5 #[.val (.long p0), .second] [(.long ((p0.toUInt64 >>> ((33 : Int32) &&& 0x3f).toInt64.toUInt64).toInt64)), (.long p0)])) _
    refine XS.lxor X0.here hx rfl (hb hby d3_5) rfl ?_
    exact k
  obtain ⟨fs, hr, hrun, hended, hW, hsame⟩ := X0.leave (v := some (.long (p0 ^^^ ((p0.toUInt64 >>> ((33 : Int32) &&& 0x3f).toInt64.toUInt64).toInt64)))) (fun h => by rw [Bd.returns] at h; cases h)
  refine ⟨_, _, pre3 _ ?_, hrun, hended, _, _, rfl, ?_, ⟨_, rfl⟩, hW, hsame.mono (by decide) (by decide)⟩
  · exact lreturnOut X0 hx Bd.returns (hb hby d3_6) hr
  · show Q3 Z p0 h0 n0 _ s₁.heap _
    rw [e0]
    refine ⟨?_, N0, rfl⟩
    rfl
theorem own_sh (x : Int64) : ((x.toUInt64 >>> ((33 : Int32) &&& 0x3f).toInt64.toUInt64).toInt64).toBitVec = x.toBitVec >>> 33 := by
  have h : ((33 : Int32) &&& 0x3f).toInt64.toUInt64 = 33 := by decide
  rw [h]; rfl
theorem own_invol (x : Int64) : own_un (own_un x) = x := by
  rw [← Int64.toBitVec_inj]
  unfold own_un
  rw [Int64.toBitVec_xor, own_sh, Int64.toBitVec_xor, own_sh, BitVec.ushiftRight_xor_distrib, ← BitVec.shiftRight_add, BitVec.ushiftRight_eq_zero (n := 33 + 33) (by decide), BitVec.xor_zero, BitVec.xor_assoc, BitVec.xor_self, BitVec.xor_zero]
theorem own_m1 : (-49064778989728563 : Int64) * own_inv (-49064778989728563) = 1 := by decide
theorem own_m2 : (-4265267296055464877 : Int64) * own_inv (-4265267296055464877) = 1 := by decide
theorem own_mix (k : Int64) : own_fmix k = own_un (own_un (own_un k * (-49064778989728563)) * (-4265267296055464877)) := rfl
theorem own_plain (k : Int64) : own_un (own_un (own_un (own_fmix k) * own_inv (-4265267296055464877)) * own_inv (-49064778989728563)) = k := by
  rw [own_mix, own_invol, Int64.mul_assoc, own_m2, Int64.mul_one, own_invol, Int64.mul_assoc, own_m1, Int64.mul_one, own_invol]
theorem pd_0 : parseMethodDescriptor "(J)J" = some ⟨[.long], some .long⟩ := by decide +kernel
theorem ef_0 (m : MethodId) (x0 : Int64) : entryFrame m #[(.long x0)] maxLocals = mkF m 0 #[.val (.long x0), .second, .unset, .unset, .unset, .unset, .unset, .unset, .unset, .unset] [] := by first | (simp [entryFrame, mkF, argsToLocals, Value.category, maxLocals]; done) | rfl
def Q0 (Z : State) (p0 : Int64) (h0 : Heap) (n0 : Nat) (v : Option Value) (h : Heap) (L : List Loc) : Prop := v = some (.int (1 : Int32)) ∧ Fr n0 L
set_option maxRecDepth 65536 in
set_option maxHeartbeats 40000000 in
theorem rm0 (l : Launch) (Z : State) (a0 : Array Value) (hw : ∀ d ∈ tables_1, d.before a0 Z = true) (ws : List Jvm.Cond) (p0 : Int64) (h0 : Heap) (n0 : Nat) (Z0 : n0 ≤ h0.size) :
    MetFree l x (head1 (Jvm.Cond.code x code maxLocals ret :: ws) room_1) (fun a U => a = #[(.long p0)] ∧ Z.Warmed39 U.vm ∧ U.heap = h0) (fun _ _ _ _ _ => True) (fun _ U o U' => ∃ v L, o = .returned v ∧ Q0 Z p0 h0 n0 v U'.heap L ∧ FrameEnd U o U' L room_1.cells room_1.slots) := by
  refine MetFree.of_bodySF (plainFor_of_name pn_2) hisR ?_
  intro p e s m args below meth c s₁ Bd hml0 hP hK
  obtain ⟨rfl, hZ, hh⟩ := hP
  have hx := Bd.exec
  have hby := Bd.bytes
  have hml : c.maxLocals = 10 := hml0
  have hown : s.vm.findClass "com/example/shunt/shunt/hash/Murmur3x64_128Fmix64PinLaw" = some m.cls := findClass_of_methodNamed Bd.named
  have hnm := (name_of_methodNamed Bd.named Bd.method).1
  have X0 : Stand p l e room_1 s m #[(.long p0)] below meth c s₁ [] 0 0 := Stand.of_body Bd
  have e0 : s₁.heap = h0 := by rw [← hh, Bd.state]; rfl
  have N0 := Fr.nil n0
  have pre0 : ∀ t, Steps p.tables e below (s₁.setTop (mkF m 0 #[.val (.long p0), .second, .unset, .unset, .unset, .unset, .unset, .unset, .unset, .unset] [])) t → Steps p.tables e below (s₁.setTop (entryFrame m #[(.long p0)] maxLocals)) t := fun t k => castTop (ef_0 m p0) k
  have pre4 : ∀ t, Steps p.tables e below (s₁.setTop (mkF m 1 #[.val (.long p0), .second, .unset, .unset, .unset, .unset, .unset, .unset, .unset, .unset] [(.long p0)])) t → Steps p.tables e below (s₁.setTop (entryFrame m #[(.long p0)] maxLocals)) t := by
    intro t k
    refine pre0 t ?_
    show Steps p.tables e below (s₁.setTop (mkF m 0 #[.val (.long p0), .second, .unset, .unset, .unset, .unset, .unset, .unset, .unset, .unset] [])) _
    refine XS.lloadN X0.here hx rfl (hb hby at_0) rfl ?_
    exact k
  obtain ⟨_, _, ⟨T5, L5, k5, n5⟩, -, X5, ⟨Lc5, hQ5, l5, y5, z5⟩, st5⟩ := Jvm.LawKit.callS X0 hx (y := (⟨"com/example/shunt/shunt/hash/Murmur3x64_128", "fmix64", "(J)J"⟩ : MethodName)) hown (mvT hZ (hw _ (List.mem_of_getElem? (i := 0) rfl))) (mvT hZ (hw _ (List.mem_of_getElem? (i := 1) rfl))) (mvT hZ (hw _ (List.mem_of_getElem? (i := 2) rfl))) (mvT hZ (hw _ (List.mem_of_getElem? (i := 3) rfl))) (by decide) (backOf (W := 0) (rm1 l Z a0 hw [] p0  h0 n0 Z0) hZ (hw _ (List.mem_of_getElem? (i := 3) rfl)) (hw _ (List.mem_of_getElem? (i := 2) rfl)) (by decide) (by decide)) (g := (mkF m 1 #[.val (.long p0), .second, .unset, .unset, .unset, .unset, .unset, .unset, .unset, .unset] [(.long p0)])) rfl (by rw [hml]; rfl) (argsL := [(.long p0)]) (rest := []) (lenOf pd_0 rfl) rfl (by show 2 * 0 + _ ≤ _; exact Nat.le_of_eq rfl) (hb hby at_1) (fun _ _ => ⟨rfl, e0, (by decide : 0 + 0 ≤ _), (by decide : 0 + 0 ≤ _)⟩)
  dsimp only [Pt.U, Pt.locs, Pt.cells, Pt.slots] at X5 l5 y5 z5 st5 hQ5
  subst l5 y5 z5
  obtain ⟨rfl, N5q, e5⟩ := hQ5
  have N5 := Fr.app N0 N5q
  have pre6 : ∀ t, Steps p.tables e below (T5.setTop (mkF m 4 #[.val (.long p0), .second, .unset, .unset, .unset, .unset, .unset, .unset, .unset, .unset] [(.long (own_fmix p0))])) t → Steps p.tables e below (s₁.setTop (entryFrame m #[(.long p0)] maxLocals)) t := fun t k => pre4 t (st5 _ k)
  have pre7 : ∀ t, Steps p.tables e below (T5.setTop (mkF m 8 #[.val (.long p0), .second, .val (.long (own_fmix p0)), .second, .unset, .unset, .unset, .unset, .unset, .unset] [(.long (-49064778989728563 : Int64))])) t → Steps p.tables e below (s₁.setTop (entryFrame m #[(.long p0)] maxLocals)) t := by
    intro t k
    refine pre6 t ?_
    show Steps p.tables e below (T5.setTop (mkF m 4 #[.val (.long p0), .second, .unset, .unset, .unset, .unset, .unset, .unset, .unset, .unset] [(.long (own_fmix p0))])) _
    refine XS.lstoreN X5.here hx rfl (hb hby at_4) rfl (l' := #[.val (.long p0), .second, .val (.long (own_fmix p0)), .second, .unset, .unset, .unset, .unset, .unset, .unset]) rfl ?_
    show Steps p.tables e below (T5.setTop (mkF m 5 #[.val (.long p0), .second, .val (.long (own_fmix p0)), .second, .unset, .unset, .unset, .unset, .unset, .unset] [])) _
    refine X5.ldc2Long hx hown (mvT hZ (hw _ (List.mem_of_getElem? (i := 6) rfl))) (g := (mkF m 5 #[.val (.long p0), .second, .val (.long (own_fmix p0)), .second, .unset, .unset, .unset, .unset, .unset, .unset] [])) rfl (hb hby at_5) _ ?_
    exact k
  obtain ⟨_, _, ⟨T8, L8, k8, n8⟩, -, X8, ⟨Lc8, hQ8, l8, y8, z8⟩, st8⟩ := Jvm.LawKit.callS X5 hx (y := (⟨"com/example/shunt/shunt/hash/Murmur3x64_128Fmix64PinLaw", "inverse", "(J)J"⟩ : MethodName)) hown (mvT hZ (hw _ (List.mem_of_getElem? (i := 7) rfl))) (mvT hZ (hw _ (List.mem_of_getElem? (i := 8) rfl))) (mvT hZ (hw _ (List.mem_of_getElem? (i := 9) rfl))) (mvT hZ (hw _ (List.mem_of_getElem? (i := 10) rfl))) (by decide) (backOf (W := 0) (rm2 l Z a0 hw [] (-49064778989728563 : Int64)  h0 n0 Z0) hZ (hw _ (List.mem_of_getElem? (i := 10) rfl)) (hw _ (List.mem_of_getElem? (i := 9) rfl)) (by decide) (by decide)) (g := (mkF m 8 #[.val (.long p0), .second, .val (.long (own_fmix p0)), .second, .unset, .unset, .unset, .unset, .unset, .unset] [(.long (-49064778989728563 : Int64))])) rfl (by rw [hml]; rfl) (argsL := [(.long (-49064778989728563 : Int64))]) (rest := []) (lenOf pd_0 rfl) rfl (by show 2 * 0 + _ ≤ _; exact Nat.le_of_eq rfl) (hb hby at_8) (fun _ _ => ⟨rfl, e5, (by decide : 0 + 0 ≤ _), (by decide : 0 + 0 ≤ _)⟩)
  dsimp only [Pt.U, Pt.locs, Pt.cells, Pt.slots] at X8 l8 y8 z8 st8 hQ8
  subst l8 y8 z8
  obtain ⟨rfl, N8q, e8⟩ := hQ8
  have N8 := Fr.app N5 N8q
  have pre9 : ∀ t, Steps p.tables e below (T8.setTop (mkF m 11 #[.val (.long p0), .second, .val (.long (own_fmix p0)), .second, .unset, .unset, .unset, .unset, .unset, .unset] [(.long (own_inv (-49064778989728563 : Int64)))])) t → Steps p.tables e below (s₁.setTop (entryFrame m #[(.long p0)] maxLocals)) t := fun t k => pre7 t (st8 _ k)
  have pre10 : ∀ t, Steps p.tables e below (T8.setTop (mkF m 16 #[.val (.long p0), .second, .val (.long (own_fmix p0)), .second, .val (.long (own_inv (-49064778989728563 : Int64))), .second, .unset, .unset, .unset, .unset] [(.long (-4265267296055464877 : Int64))])) t → Steps p.tables e below (s₁.setTop (entryFrame m #[(.long p0)] maxLocals)) t := by
    intro t k
    refine pre9 t ?_
    show Steps p.tables e below (T8.setTop (mkF m 11 #[.val (.long p0), .second, .val (.long (own_fmix p0)), .second, .unset, .unset, .unset, .unset, .unset, .unset] [(.long (own_inv (-49064778989728563 : Int64)))])) _
    refine XS.lstore X8.here hx rfl (hb hby at_11) rfl (l' := #[.val (.long p0), .second, .val (.long (own_fmix p0)), .second, .val (.long (own_inv (-49064778989728563 : Int64))), .second, .unset, .unset, .unset, .unset]) rfl ?_
    show Steps p.tables e below (T8.setTop (mkF m 13 #[.val (.long p0), .second, .val (.long (own_fmix p0)), .second, .val (.long (own_inv (-49064778989728563 : Int64))), .second, .unset, .unset, .unset, .unset] [])) _
    refine X8.ldc2Long hx hown (mvT hZ (hw _ (List.mem_of_getElem? (i := 12) rfl))) (g := (mkF m 13 #[.val (.long p0), .second, .val (.long (own_fmix p0)), .second, .val (.long (own_inv (-49064778989728563 : Int64))), .second, .unset, .unset, .unset, .unset] [])) rfl (hb hby at_13) _ ?_
    exact k
  obtain ⟨_, _, ⟨T11, L11, k11, n11⟩, -, X11, ⟨Lc11, hQ11, l11, y11, z11⟩, st11⟩ := Jvm.LawKit.callS X8 hx (y := (⟨"com/example/shunt/shunt/hash/Murmur3x64_128Fmix64PinLaw", "inverse", "(J)J"⟩ : MethodName)) hown (mvT hZ (hw _ (List.mem_of_getElem? (i := 7) rfl))) (mvT hZ (hw _ (List.mem_of_getElem? (i := 8) rfl))) (mvT hZ (hw _ (List.mem_of_getElem? (i := 9) rfl))) (mvT hZ (hw _ (List.mem_of_getElem? (i := 10) rfl))) (by decide) (backOf (W := 0) (rm2 l Z a0 hw [] (-4265267296055464877 : Int64)  h0 n0 Z0) hZ (hw _ (List.mem_of_getElem? (i := 10) rfl)) (hw _ (List.mem_of_getElem? (i := 9) rfl)) (by decide) (by decide)) (g := (mkF m 16 #[.val (.long p0), .second, .val (.long (own_fmix p0)), .second, .val (.long (own_inv (-49064778989728563 : Int64))), .second, .unset, .unset, .unset, .unset] [(.long (-4265267296055464877 : Int64))])) rfl (by rw [hml]; rfl) (argsL := [(.long (-4265267296055464877 : Int64))]) (rest := []) (lenOf pd_0 rfl) rfl (by show 2 * 0 + _ ≤ _; exact Nat.le_of_eq rfl) (hb hby at_16) (fun _ _ => ⟨rfl, e8, (by decide : 0 + 0 ≤ _), (by decide : 0 + 0 ≤ _)⟩)
  dsimp only [Pt.U, Pt.locs, Pt.cells, Pt.slots] at X11 l11 y11 z11 st11 hQ11
  subst l11 y11 z11
  obtain ⟨rfl, N11q, e11⟩ := hQ11
  have N11 := Fr.app N8 N11q
  have pre12 : ∀ t, Steps p.tables e below (T11.setTop (mkF m 19 #[.val (.long p0), .second, .val (.long (own_fmix p0)), .second, .val (.long (own_inv (-49064778989728563 : Int64))), .second, .unset, .unset, .unset, .unset] [(.long (own_inv (-4265267296055464877 : Int64)))])) t → Steps p.tables e below (s₁.setTop (entryFrame m #[(.long p0)] maxLocals)) t := fun t k => pre10 t (st11 _ k)
  have pre13 : ∀ t, Steps p.tables e below (T11.setTop (mkF m 22 #[.val (.long p0), .second, .val (.long (own_fmix p0)), .second, .val (.long (own_inv (-49064778989728563 : Int64))), .second, .val (.long (own_inv (-4265267296055464877 : Int64))), .second, .unset, .unset] [(.long (own_fmix p0))])) t → Steps p.tables e below (s₁.setTop (entryFrame m #[(.long p0)] maxLocals)) t := by
    intro t k
    refine pre12 t ?_
    show Steps p.tables e below (T11.setTop (mkF m 19 #[.val (.long p0), .second, .val (.long (own_fmix p0)), .second, .val (.long (own_inv (-49064778989728563 : Int64))), .second, .unset, .unset, .unset, .unset] [(.long (own_inv (-4265267296055464877 : Int64)))])) _
    refine XS.lstore X11.here hx rfl (hb hby at_19) rfl (l' := #[.val (.long p0), .second, .val (.long (own_fmix p0)), .second, .val (.long (own_inv (-49064778989728563 : Int64))), .second, .val (.long (own_inv (-4265267296055464877 : Int64))), .second, .unset, .unset]) rfl ?_
    show Steps p.tables e below (T11.setTop (mkF m 21 #[.val (.long p0), .second, .val (.long (own_fmix p0)), .second, .val (.long (own_inv (-49064778989728563 : Int64))), .second, .val (.long (own_inv (-4265267296055464877 : Int64))), .second, .unset, .unset] [])) _
    refine XS.lloadN X11.here hx rfl (hb hby at_21) rfl ?_
    exact k
  obtain ⟨_, _, ⟨T14, L14, k14, n14⟩, -, X14, ⟨Lc14, hQ14, l14, y14, z14⟩, st14⟩ := Jvm.LawKit.callS X11 hx (y := (⟨"com/example/shunt/shunt/hash/Murmur3x64_128Fmix64PinLaw", "unshift", "(J)J"⟩ : MethodName)) hown (mvT hZ (hw _ (List.mem_of_getElem? (i := 13) rfl))) (mvT hZ (hw _ (List.mem_of_getElem? (i := 14) rfl))) (mvT hZ (hw _ (List.mem_of_getElem? (i := 9) rfl))) (mvT hZ (hw _ (List.mem_of_getElem? (i := 15) rfl))) (by decide) (backOf (W := 0) (rm3 l Z a0 hw [] (own_fmix p0)  h0 n0 Z0) hZ (hw _ (List.mem_of_getElem? (i := 15) rfl)) (hw _ (List.mem_of_getElem? (i := 9) rfl)) (by decide) (by decide)) (g := (mkF m 22 #[.val (.long p0), .second, .val (.long (own_fmix p0)), .second, .val (.long (own_inv (-49064778989728563 : Int64))), .second, .val (.long (own_inv (-4265267296055464877 : Int64))), .second, .unset, .unset] [(.long (own_fmix p0))])) rfl (by rw [hml]; rfl) (argsL := [(.long (own_fmix p0))]) (rest := []) (lenOf pd_0 rfl) rfl (by show 2 * 0 + _ ≤ _; exact Nat.le_of_eq rfl) (hb hby at_22) (fun _ _ => ⟨rfl, e11, (by decide : 0 + 0 ≤ _), (by decide : 0 + 0 ≤ _)⟩)
  dsimp only [Pt.U, Pt.locs, Pt.cells, Pt.slots] at X14 l14 y14 z14 st14 hQ14
  subst l14 y14 z14
  obtain ⟨rfl, N14q, e14⟩ := hQ14
  have N14 := Fr.app N11 N14q
  have pre15 : ∀ t, Steps p.tables e below (T14.setTop (mkF m 25 #[.val (.long p0), .second, .val (.long (own_fmix p0)), .second, .val (.long (own_inv (-49064778989728563 : Int64))), .second, .val (.long (own_inv (-4265267296055464877 : Int64))), .second, .unset, .unset] [(.long (own_un (own_fmix p0)))])) t → Steps p.tables e below (s₁.setTop (entryFrame m #[(.long p0)] maxLocals)) t := fun t k => pre13 t (st14 _ k)
  have pre16 : ∀ t, Steps p.tables e below (T14.setTop (mkF m 36 #[.val (.long p0), .second, .val (.long (own_fmix p0)), .second, .val (.long (own_inv (-49064778989728563 : Int64))), .second, .val (.long (own_inv (-4265267296055464877 : Int64))), .second, .val (.long ((own_un (own_fmix p0)) * (own_inv (-4265267296055464877 : Int64)))), .second] [(.long ((own_un (own_fmix p0)) * (own_inv (-4265267296055464877 : Int64))))])) t → Steps p.tables e below (s₁.setTop (entryFrame m #[(.long p0)] maxLocals)) t := by
    intro t k
    refine pre15 t ?_
    show Steps p.tables e below (T14.setTop (mkF m 25 #[.val (.long p0), .second, .val (.long (own_fmix p0)), .second, .val (.long (own_inv (-49064778989728563 : Int64))), .second, .val (.long (own_inv (-4265267296055464877 : Int64))), .second, .unset, .unset] [(.long (own_un (own_fmix p0)))])) _
    refine XS.lstore X14.here hx rfl (hb hby at_25) rfl (l' := #[.val (.long p0), .second, .val (.long (own_fmix p0)), .second, .val (.long (own_inv (-49064778989728563 : Int64))), .second, .val (.long (own_inv (-4265267296055464877 : Int64))), .second, .val (.long (own_un (own_fmix p0))), .second]) rfl ?_
    show Steps p.tables e below (T14.setTop (mkF m 27 #[.val (.long p0), .second, .val (.long (own_fmix p0)), .second, .val (.long (own_inv (-49064778989728563 : Int64))), .second, .val (.long (own_inv (-4265267296055464877 : Int64))), .second, .val (.long (own_un (own_fmix p0))), .second] [])) _
    refine XS.lload X14.here hx rfl (hb hby at_27) rfl ?_
    show Steps p.tables e below (T14.setTop (mkF m 29 #[.val (.long p0), .second, .val (.long (own_fmix p0)), .second, .val (.long (own_inv (-49064778989728563 : Int64))), .second, .val (.long (own_inv (-4265267296055464877 : Int64))), .second, .val (.long (own_un (own_fmix p0))), .second] [(.long (own_un (own_fmix p0)))])) _
    refine XS.lload X14.here hx rfl (hb hby at_29) rfl ?_
    show Steps p.tables e below (T14.setTop (mkF m 31 #[.val (.long p0), .second, .val (.long (own_fmix p0)), .second, .val (.long (own_inv (-49064778989728563 : Int64))), .second, .val (.long (own_inv (-4265267296055464877 : Int64))), .second, .val (.long (own_un (own_fmix p0))), .second] [(.long (own_inv (-4265267296055464877 : Int64))), (.long (own_un (own_fmix p0)))])) _
    refine XS.lmul X14.here hx rfl (hb hby at_31) rfl ?_
    show Steps p.tables e below (T14.setTop (mkF m 32 #[.val (.long p0), .second, .val (.long (own_fmix p0)), .second, .val (.long (own_inv (-49064778989728563 : Int64))), .second, .val (.long (own_inv (-4265267296055464877 : Int64))), .second, .val (.long (own_un (own_fmix p0))), .second] [(.long ((own_un (own_fmix p0)) * (own_inv (-4265267296055464877 : Int64))))])) _
    refine XS.lstore X14.here hx rfl (hb hby at_32) rfl (l' := #[.val (.long p0), .second, .val (.long (own_fmix p0)), .second, .val (.long (own_inv (-49064778989728563 : Int64))), .second, .val (.long (own_inv (-4265267296055464877 : Int64))), .second, .val (.long ((own_un (own_fmix p0)) * (own_inv (-4265267296055464877 : Int64)))), .second]) rfl ?_
    show Steps p.tables e below (T14.setTop (mkF m 34 #[.val (.long p0), .second, .val (.long (own_fmix p0)), .second, .val (.long (own_inv (-49064778989728563 : Int64))), .second, .val (.long (own_inv (-4265267296055464877 : Int64))), .second, .val (.long ((own_un (own_fmix p0)) * (own_inv (-4265267296055464877 : Int64)))), .second] [])) _
    refine XS.lload X14.here hx rfl (hb hby at_34) rfl ?_
    exact k
  obtain ⟨_, _, ⟨T17, L17, k17, n17⟩, -, X17, ⟨Lc17, hQ17, l17, y17, z17⟩, st17⟩ := Jvm.LawKit.callS X14 hx (y := (⟨"com/example/shunt/shunt/hash/Murmur3x64_128Fmix64PinLaw", "unshift", "(J)J"⟩ : MethodName)) hown (mvT hZ (hw _ (List.mem_of_getElem? (i := 13) rfl))) (mvT hZ (hw _ (List.mem_of_getElem? (i := 14) rfl))) (mvT hZ (hw _ (List.mem_of_getElem? (i := 9) rfl))) (mvT hZ (hw _ (List.mem_of_getElem? (i := 15) rfl))) (by decide) (backOf (W := 0) (rm3 l Z a0 hw [] ((own_un (own_fmix p0)) * (own_inv (-4265267296055464877 : Int64)))  h0 n0 Z0) hZ (hw _ (List.mem_of_getElem? (i := 15) rfl)) (hw _ (List.mem_of_getElem? (i := 9) rfl)) (by decide) (by decide)) (g := (mkF m 36 #[.val (.long p0), .second, .val (.long (own_fmix p0)), .second, .val (.long (own_inv (-49064778989728563 : Int64))), .second, .val (.long (own_inv (-4265267296055464877 : Int64))), .second, .val (.long ((own_un (own_fmix p0)) * (own_inv (-4265267296055464877 : Int64)))), .second] [(.long ((own_un (own_fmix p0)) * (own_inv (-4265267296055464877 : Int64))))])) rfl (by rw [hml]; rfl) (argsL := [(.long ((own_un (own_fmix p0)) * (own_inv (-4265267296055464877 : Int64))))]) (rest := []) (lenOf pd_0 rfl) rfl (by show 2 * 0 + _ ≤ _; exact Nat.le_of_eq rfl) (hb hby at_36) (fun _ _ => ⟨rfl, e14, (by decide : 0 + 0 ≤ _), (by decide : 0 + 0 ≤ _)⟩)
  dsimp only [Pt.U, Pt.locs, Pt.cells, Pt.slots] at X17 l17 y17 z17 st17 hQ17
  subst l17 y17 z17
  obtain ⟨rfl, N17q, e17⟩ := hQ17
  have N17 := Fr.app N14 N17q
  have pre18 : ∀ t, Steps p.tables e below (T17.setTop (mkF m 39 #[.val (.long p0), .second, .val (.long (own_fmix p0)), .second, .val (.long (own_inv (-49064778989728563 : Int64))), .second, .val (.long (own_inv (-4265267296055464877 : Int64))), .second, .val (.long ((own_un (own_fmix p0)) * (own_inv (-4265267296055464877 : Int64)))), .second] [(.long (own_un ((own_un (own_fmix p0)) * (own_inv (-4265267296055464877 : Int64)))))])) t → Steps p.tables e below (s₁.setTop (entryFrame m #[(.long p0)] maxLocals)) t := fun t k => pre16 t (st17 _ k)
  have pre19 : ∀ t, Steps p.tables e below (T17.setTop (mkF m 50 #[.val (.long p0), .second, .val (.long (own_fmix p0)), .second, .val (.long (own_inv (-49064778989728563 : Int64))), .second, .val (.long (own_inv (-4265267296055464877 : Int64))), .second, .val (.long ((own_un ((own_un (own_fmix p0)) * (own_inv (-4265267296055464877 : Int64)))) * (own_inv (-49064778989728563 : Int64)))), .second] [(.long ((own_un ((own_un (own_fmix p0)) * (own_inv (-4265267296055464877 : Int64)))) * (own_inv (-49064778989728563 : Int64))))])) t → Steps p.tables e below (s₁.setTop (entryFrame m #[(.long p0)] maxLocals)) t := by
    intro t k
    refine pre18 t ?_
    show Steps p.tables e below (T17.setTop (mkF m 39 #[.val (.long p0), .second, .val (.long (own_fmix p0)), .second, .val (.long (own_inv (-49064778989728563 : Int64))), .second, .val (.long (own_inv (-4265267296055464877 : Int64))), .second, .val (.long ((own_un (own_fmix p0)) * (own_inv (-4265267296055464877 : Int64)))), .second] [(.long (own_un ((own_un (own_fmix p0)) * (own_inv (-4265267296055464877 : Int64)))))])) _
    refine XS.lstore X17.here hx rfl (hb hby at_39) rfl (l' := #[.val (.long p0), .second, .val (.long (own_fmix p0)), .second, .val (.long (own_inv (-49064778989728563 : Int64))), .second, .val (.long (own_inv (-4265267296055464877 : Int64))), .second, .val (.long (own_un ((own_un (own_fmix p0)) * (own_inv (-4265267296055464877 : Int64))))), .second]) rfl ?_
    show Steps p.tables e below (T17.setTop (mkF m 41 #[.val (.long p0), .second, .val (.long (own_fmix p0)), .second, .val (.long (own_inv (-49064778989728563 : Int64))), .second, .val (.long (own_inv (-4265267296055464877 : Int64))), .second, .val (.long (own_un ((own_un (own_fmix p0)) * (own_inv (-4265267296055464877 : Int64))))), .second] [])) _
    refine XS.lload X17.here hx rfl (hb hby at_41) rfl ?_
    show Steps p.tables e below (T17.setTop (mkF m 43 #[.val (.long p0), .second, .val (.long (own_fmix p0)), .second, .val (.long (own_inv (-49064778989728563 : Int64))), .second, .val (.long (own_inv (-4265267296055464877 : Int64))), .second, .val (.long (own_un ((own_un (own_fmix p0)) * (own_inv (-4265267296055464877 : Int64))))), .second] [(.long (own_un ((own_un (own_fmix p0)) * (own_inv (-4265267296055464877 : Int64)))))])) _
    refine XS.lload X17.here hx rfl (hb hby at_43) rfl ?_
    show Steps p.tables e below (T17.setTop (mkF m 45 #[.val (.long p0), .second, .val (.long (own_fmix p0)), .second, .val (.long (own_inv (-49064778989728563 : Int64))), .second, .val (.long (own_inv (-4265267296055464877 : Int64))), .second, .val (.long (own_un ((own_un (own_fmix p0)) * (own_inv (-4265267296055464877 : Int64))))), .second] [(.long (own_inv (-49064778989728563 : Int64))), (.long (own_un ((own_un (own_fmix p0)) * (own_inv (-4265267296055464877 : Int64)))))])) _
    refine XS.lmul X17.here hx rfl (hb hby at_45) rfl ?_
    show Steps p.tables e below (T17.setTop (mkF m 46 #[.val (.long p0), .second, .val (.long (own_fmix p0)), .second, .val (.long (own_inv (-49064778989728563 : Int64))), .second, .val (.long (own_inv (-4265267296055464877 : Int64))), .second, .val (.long (own_un ((own_un (own_fmix p0)) * (own_inv (-4265267296055464877 : Int64))))), .second] [(.long ((own_un ((own_un (own_fmix p0)) * (own_inv (-4265267296055464877 : Int64)))) * (own_inv (-49064778989728563 : Int64))))])) _
    refine XS.lstore X17.here hx rfl (hb hby at_46) rfl (l' := #[.val (.long p0), .second, .val (.long (own_fmix p0)), .second, .val (.long (own_inv (-49064778989728563 : Int64))), .second, .val (.long (own_inv (-4265267296055464877 : Int64))), .second, .val (.long ((own_un ((own_un (own_fmix p0)) * (own_inv (-4265267296055464877 : Int64)))) * (own_inv (-49064778989728563 : Int64)))), .second]) rfl ?_
    show Steps p.tables e below (T17.setTop (mkF m 48 #[.val (.long p0), .second, .val (.long (own_fmix p0)), .second, .val (.long (own_inv (-49064778989728563 : Int64))), .second, .val (.long (own_inv (-4265267296055464877 : Int64))), .second, .val (.long ((own_un ((own_un (own_fmix p0)) * (own_inv (-4265267296055464877 : Int64)))) * (own_inv (-49064778989728563 : Int64)))), .second] [])) _
    refine XS.lload X17.here hx rfl (hb hby at_48) rfl ?_
    exact k
  obtain ⟨_, _, ⟨T20, L20, k20, n20⟩, -, X20, ⟨Lc20, hQ20, l20, y20, z20⟩, st20⟩ := Jvm.LawKit.callS X17 hx (y := (⟨"com/example/shunt/shunt/hash/Murmur3x64_128Fmix64PinLaw", "unshift", "(J)J"⟩ : MethodName)) hown (mvT hZ (hw _ (List.mem_of_getElem? (i := 13) rfl))) (mvT hZ (hw _ (List.mem_of_getElem? (i := 14) rfl))) (mvT hZ (hw _ (List.mem_of_getElem? (i := 9) rfl))) (mvT hZ (hw _ (List.mem_of_getElem? (i := 15) rfl))) (by decide) (backOf (W := 0) (rm3 l Z a0 hw [] ((own_un ((own_un (own_fmix p0)) * (own_inv (-4265267296055464877 : Int64)))) * (own_inv (-49064778989728563 : Int64)))  h0 n0 Z0) hZ (hw _ (List.mem_of_getElem? (i := 15) rfl)) (hw _ (List.mem_of_getElem? (i := 9) rfl)) (by decide) (by decide)) (g := (mkF m 50 #[.val (.long p0), .second, .val (.long (own_fmix p0)), .second, .val (.long (own_inv (-49064778989728563 : Int64))), .second, .val (.long (own_inv (-4265267296055464877 : Int64))), .second, .val (.long ((own_un ((own_un (own_fmix p0)) * (own_inv (-4265267296055464877 : Int64)))) * (own_inv (-49064778989728563 : Int64)))), .second] [(.long ((own_un ((own_un (own_fmix p0)) * (own_inv (-4265267296055464877 : Int64)))) * (own_inv (-49064778989728563 : Int64))))])) rfl (by rw [hml]; rfl) (argsL := [(.long ((own_un ((own_un (own_fmix p0)) * (own_inv (-4265267296055464877 : Int64)))) * (own_inv (-49064778989728563 : Int64))))]) (rest := []) (lenOf pd_0 rfl) rfl (by show 2 * 0 + _ ≤ _; exact Nat.le_of_eq rfl) (hb hby at_50) (fun _ _ => ⟨rfl, e17, (by decide : 0 + 0 ≤ _), (by decide : 0 + 0 ≤ _)⟩)
  dsimp only [Pt.U, Pt.locs, Pt.cells, Pt.slots] at X20 l20 y20 z20 st20 hQ20
  subst l20 y20 z20
  obtain ⟨rfl, N20q, e20⟩ := hQ20
  have N20 := Fr.app N17 N20q
  have pre21 : ∀ t, Steps p.tables e below (T20.setTop (mkF m 53 #[.val (.long p0), .second, .val (.long (own_fmix p0)), .second, .val (.long (own_inv (-49064778989728563 : Int64))), .second, .val (.long (own_inv (-4265267296055464877 : Int64))), .second, .val (.long ((own_un ((own_un (own_fmix p0)) * (own_inv (-4265267296055464877 : Int64)))) * (own_inv (-49064778989728563 : Int64)))), .second] [(.long (own_un ((own_un ((own_un (own_fmix p0)) * (own_inv (-4265267296055464877 : Int64)))) * (own_inv (-49064778989728563 : Int64)))))])) t → Steps p.tables e below (s₁.setTop (entryFrame m #[(.long p0)] maxLocals)) t := fun t k => pre19 t (st20 _ k)
  have pre22 : ∀ t, Steps p.tables e below (T20.setTop (mkF m 59 #[.val (.long p0), .second, .val (.long (own_fmix p0)), .second, .val (.long (own_inv (-49064778989728563 : Int64))), .second, .val (.long (own_inv (-4265267296055464877 : Int64))), .second, .val (.long (own_un ((own_un ((own_un (own_fmix p0)) * (own_inv (-4265267296055464877 : Int64)))) * (own_inv (-49064778989728563 : Int64))))), .second] [(.int (lcmpW (own_un ((own_un ((own_un (own_fmix p0)) * (own_inv (-4265267296055464877 : Int64)))) * (own_inv (-49064778989728563 : Int64)))) p0))])) t → Steps p.tables e below (s₁.setTop (entryFrame m #[(.long p0)] maxLocals)) t := by
    intro t k
    refine pre21 t ?_
    show Steps p.tables e below (T20.setTop (mkF m 53 #[.val (.long p0), .second, .val (.long (own_fmix p0)), .second, .val (.long (own_inv (-49064778989728563 : Int64))), .second, .val (.long (own_inv (-4265267296055464877 : Int64))), .second, .val (.long ((own_un ((own_un (own_fmix p0)) * (own_inv (-4265267296055464877 : Int64)))) * (own_inv (-49064778989728563 : Int64)))), .second] [(.long (own_un ((own_un ((own_un (own_fmix p0)) * (own_inv (-4265267296055464877 : Int64)))) * (own_inv (-49064778989728563 : Int64)))))])) _
    refine XS.lstore X20.here hx rfl (hb hby at_53) rfl (l' := #[.val (.long p0), .second, .val (.long (own_fmix p0)), .second, .val (.long (own_inv (-49064778989728563 : Int64))), .second, .val (.long (own_inv (-4265267296055464877 : Int64))), .second, .val (.long (own_un ((own_un ((own_un (own_fmix p0)) * (own_inv (-4265267296055464877 : Int64)))) * (own_inv (-49064778989728563 : Int64))))), .second]) rfl ?_
    show Steps p.tables e below (T20.setTop (mkF m 55 #[.val (.long p0), .second, .val (.long (own_fmix p0)), .second, .val (.long (own_inv (-49064778989728563 : Int64))), .second, .val (.long (own_inv (-4265267296055464877 : Int64))), .second, .val (.long (own_un ((own_un ((own_un (own_fmix p0)) * (own_inv (-4265267296055464877 : Int64)))) * (own_inv (-49064778989728563 : Int64))))), .second] [])) _
    refine XS.lload X20.here hx rfl (hb hby at_55) rfl ?_
    show Steps p.tables e below (T20.setTop (mkF m 57 #[.val (.long p0), .second, .val (.long (own_fmix p0)), .second, .val (.long (own_inv (-49064778989728563 : Int64))), .second, .val (.long (own_inv (-4265267296055464877 : Int64))), .second, .val (.long (own_un ((own_un ((own_un (own_fmix p0)) * (own_inv (-4265267296055464877 : Int64)))) * (own_inv (-49064778989728563 : Int64))))), .second] [(.long (own_un ((own_un ((own_un (own_fmix p0)) * (own_inv (-4265267296055464877 : Int64)))) * (own_inv (-49064778989728563 : Int64)))))])) _
    refine XS.lloadN X20.here hx rfl (hb hby at_57) rfl ?_
    show Steps p.tables e below (T20.setTop (mkF m 58 #[.val (.long p0), .second, .val (.long (own_fmix p0)), .second, .val (.long (own_inv (-49064778989728563 : Int64))), .second, .val (.long (own_inv (-4265267296055464877 : Int64))), .second, .val (.long (own_un ((own_un ((own_un (own_fmix p0)) * (own_inv (-4265267296055464877 : Int64)))) * (own_inv (-49064778989728563 : Int64))))), .second] [(.long p0), (.long (own_un ((own_un ((own_un (own_fmix p0)) * (own_inv (-4265267296055464877 : Int64)))) * (own_inv (-49064778989728563 : Int64)))))])) _
    refine XS.lcmp X20.here hx rfl (hb hby at_58) rfl ?_
    exact k
  by_cases hc59 : (own_un ((own_un ((own_un (own_fmix p0)) * (own_inv (-4265267296055464877 : Int64)))) * (own_inv (-49064778989728563 : Int64)))) = p0
  · have pre23 : ∀ t, Steps p.tables e below (T20.setTop (mkF m 67 #[.val (.long p0), .second, .val (.long (own_fmix p0)), .second, .val (.long (own_inv (-49064778989728563 : Int64))), .second, .val (.long (own_inv (-4265267296055464877 : Int64))), .second, .val (.long (own_un ((own_un ((own_un (own_fmix p0)) * (own_inv (-4265267296055464877 : Int64)))) * (own_inv (-49064778989728563 : Int64))))), .second] [(.int (1 : Int32))])) t → Steps p.tables e below (s₁.setTop (entryFrame m #[(.long p0)] maxLocals)) t := by
      intro t k
      refine pre22 t ?_
      show Steps p.tables e below (T20.setTop (mkF m 59 #[.val (.long p0), .second, .val (.long (own_fmix p0)), .second, .val (.long (own_inv (-49064778989728563 : Int64))), .second, .val (.long (own_inv (-4265267296055464877 : Int64))), .second, .val (.long (own_un ((own_un ((own_un (own_fmix p0)) * (own_inv (-4265267296055464877 : Int64)))) * (own_inv (-49064778989728563 : Int64))))), .second] [(.int (lcmpW (own_un ((own_un ((own_un (own_fmix p0)) * (own_inv (-4265267296055464877 : Int64)))) * (own_inv (-49064778989728563 : Int64)))) p0))])) _
      refine XS.ifNo X20.here hx rfl (hb hby at_59) rfl ((if0 _ _).trans (teq ((lw_eq _ _).mpr hc59)).2) ?_
      show Steps p.tables e below (T20.setTop (mkF m 62 #[.val (.long p0), .second, .val (.long (own_fmix p0)), .second, .val (.long (own_inv (-49064778989728563 : Int64))), .second, .val (.long (own_inv (-4265267296055464877 : Int64))), .second, .val (.long (own_un ((own_un ((own_un (own_fmix p0)) * (own_inv (-4265267296055464877 : Int64)))) * (own_inv (-49064778989728563 : Int64))))), .second] [])) _
      refine XS.iconst X20.here hx rfl (hb hby at_62) ?_
      show Steps p.tables e below (T20.setTop (mkF m 63 #[.val (.long p0), .second, .val (.long (own_fmix p0)), .second, .val (.long (own_inv (-49064778989728563 : Int64))), .second, .val (.long (own_inv (-4265267296055464877 : Int64))), .second, .val (.long (own_un ((own_un ((own_un (own_fmix p0)) * (own_inv (-4265267296055464877 : Int64)))) * (own_inv (-49064778989728563 : Int64))))), .second] [(.int (1 : Int32))])) _
      refine XS.goto X20.here hx rfl (pc0 := 63) (pc' := 67) rfl (hb hby at_63) (by decide) (by decide) ?_
      exact k
    obtain ⟨fs, hr, hrun, hended, hW, hsame⟩ := X20.leave (v := some (.int (1 : Int32))) (fun h => by rw [Bd.returns] at h; cases h)
    refine ⟨_, _, pre23 _ ?_, hrun, hended, _, _, rfl, ?_, ⟨_, rfl⟩, hW, hsame.mono (by decide) (by decide)⟩
    · exact retN X20 hx (t := .boolean) Bd.returns (by simp) (hb hby at_67) hr
    · show Q0 Z p0 h0 n0 _ T20.heap _
      rw [e20]
      exact ⟨rfl, N20⟩
  · exfalso
    exact hc59 (own_plain p0)
set_option maxRecDepth 65536 in
set_option maxHeartbeats 40000000 in
theorem comes_1 {Post : Tables → Env → Array Value → State → Outcome → State → Prop} (hpost : ∀ tb e args s v u, (limb_1_1.after args s (.returned v) u = true ∧ limb_1_2.after args s (.returned v) u = true ∧ True) → FrameEnd s (.returned v) u (Jvm.fieldLocs frame_1_writes args s ++ Jvm.arrayLocs frame_1_arrays args s ++ Jvm.staticLocs frame_1_statics s) 0 0 → Post tb e args s (.returned v) u) :
    ArmFor flags0 classFile x code maxLocals ret World_1 tables_1 room_1 Calls_1 rest_1 Pre_1 Post := by
  intro l hfl _ _ p e ha hc hk s m args below hf hA hF happ hP
  obtain ⟨hcalls, hrest, hpre⟩ := hP
  obtain ⟨-, -, -, hnamed, -, -, -, hat⟩ := (Spec.applies_iff hf).mp happ
  obtain ⟨hg, hn⟩ := and_e (Cond.before_iff.mp (show (Jvm.Cond.and given_1 narrow_1).before args s = true from hpre))
  obtain ⟨g1, g2⟩ := and_e hg
  obtain ⟨w0, rfl⟩ : ∃ w0 : Value, args = #[w0] := by
    have hs : args.size = 1 := by simpa [Cond.value, given_1] using g1
    obtain ⟨L⟩ := args
    match L, hs with
    | [w0], _ => exact ⟨w0, rfl⟩
  have hw := fun d (hd : d ∈ tables_1) => atoms_spec (ws := Jvm.Cond.code x code maxLocals ret :: tables_1) hat d (List.mem_cons_of_mem _ hd)
  have hfit : Fit s := fun {y c} hc i hi => by
    obtain ⟨ha, rfl⟩ := Array.getElem?_eq_some_iff.mp hc
    have q := List.all_eq_true.mp ((Array.all_eq_true_iff_forall_mem.mp hF) _ (Array.getElem_mem ha)) i (List.mem_range.mpr hi)
    simpa [Array.getElem?_eq_getElem hi] using q
  obtain ⟨i0, ei0⟩ := isL_v g2
  obtain rfl : w0 = (.long i0) := Option.some.inj ei0
  obtain ⟨n, o, h1, h2, h3, _, L, rfl, ⟨rfl, N⟩, hq⟩ := rm0 l s _ hw tables_1 i0 s.heap s.heap.size (Nat.le_refl _) p e ha hc hk s m _ below hf ((Spec.applies_iff_loose hf).mp happ).1 ⟨rfl, State.Warmed39.refl s, rfl⟩ trivial
  refine ⟨n, _, h1, h2, h3, hpost _ _ _ _ _ _ ⟨Cond.after_iff.mpr rfl, Cond.after_iff.mpr (eq_i res_at (Term.int_eval (1)) rfl), trivial⟩ ⟨hq.1, hq.2.1, (hq.2.2.sift fun y hy => Or.inr (N y hy)).mono (by decide) (by decide)⟩⟩
theorem main_1_1 : Claimed_1_1 := comes_1 fun _ _ _ _ _ _ h hF => ⟨h.1, hF⟩
theorem main_1_2 : Claimed_1_2 := comes_1 fun _ _ _ _ _ _ h hF => ⟨h.2.1, hF⟩
end Jvm.Pilot.@@N@@
namespace Jvm.Pilot.@@N@@
open Jvm Jvm.ClassFile Sem Op Lib Jvm.Free Jvm.Stand Jvm.Pilot.@@N@@.Jvm.D
/-! MADE BY PROGRAM (witnessworld.py) out of the Statement's table words and the real class files: 9 classes; the members and pool entries that the words name. The judged class is class 1, her method 3. -/
namespace start1
open Jvm.ClassFile
def u (s : String) : CpInfo := .utf8 (stringToUtf16 s)
/-- a pool by its gaps: so many unusable entries, then the entry; so many at the end -/
def gap : Nat → List CpInfo → List CpInfo
  | 0, r => r
  | n + 1, r => .unusable :: gap n r
def poolList (es : List (Nat × CpInfo)) (last : Nat) : List CpInfo := es.foldr (fun e r => gap e.1 (e.2 :: r)) (gap last [])
def pool (es : List (Nat × CpInfo)) (last : Nat) : Array CpInfo := ⟨poolList es last⟩
def fileOf (pool : Array CpInfo) (this : Nat) (attrs : Array Attribute := #[]) (ms : Array MethodInfo := #[]) (fl : Nat := 33) (sup : Nat := 0) (ifs : Array Nat := #[]) (fds : Array FieldInfo := #[]) : ClassFile where
  minorVersion := 0
  majorVersion := 65
  constantPool := pool
  accessFlags := fl
  thisClass := this
  superClass := sup
  interfaces := ifs
  fields := fds
  methods := ms
  attributes := attrs
def plain (name : String) (sup : Option ClassId) : Class where
  name := name
  kind := .ordinary
  loader := none
  accessFlags := 33
  super := sup
  interfaces := #[]
  cf := none
  fields := #[]
  methods := #[]
  instanceTypes := #[]
  staticTypes := #[]
  resolved := #[]
  callSites := []
  init := .initialized
  statics := none
  mirror := none

def pool0 : Array CpInfo := pool [(5, u "<init>"), (0, u "()V"), (1, .class_ 10), (1, u "java/lang/Object")] 113

def k0m0 : Method := { name := "<init>", desc := "()V", sig := { parameters := [], returnType := none }, accessFlags := 1, code := none }
/-- java/lang/Object -/
def k0 : Class := { plain "java/lang/Object" none with
  accessFlags := 33
  interfaces := #[]
  cf := some (fileOf pool0 8 #[] #[{ accessFlags := 1, nameIndex := 5, descriptorIndex := 6, attributes := #[] }] 33 0 #[] #[])
  fields := #[]
  methods := #[k0m0]
  instanceTypes := #[]
  staticTypes := #[]
  resolved := Array.replicate 124 none
  statics := none }

def pool1 : Array CpInfo := pool [(2, .class_ 4), (1, u "java/lang/Object"), (0, u "<init>"), (0, u "()V"), (0, .long 2), (1, .methodref 10 11), (0, .class_ 12), (0, .nameAndType 13 14), (0, u "com/example/shunt/shunt/hash/Murmur3x64_128"), (0, u "fmix64"), (0, u "(J)J"), (0, .long 18397679294719823053), (1, .methodref 18 19), (0, .class_ 20), (0, .nameAndType 21 14), (0, u "com/example/shunt/shunt/hash/Murmur3x64_128Fmix64PinLaw"), (0, u "inverse"), (0, .long 14181476777654086739), (1, .methodref 18 25), (0, .nameAndType 26 14), (0, u "unshift"), (2, u "law"), (0, u "(J)Z")] 3

def k1m0 : Method := { name := "<init>", desc := "()V", sig := { parameters := [], returnType := none }, accessFlags := 2, code := none }
def k1c1 : Code := { maxStack := 8, maxLocals := 4, code := method_2_code, exceptionTable := #[], attributes := #[] }
def k1m1 : Method := { name := "inverse", desc := "(J)J", sig := { parameters := [.long], returnType := some .long }, accessFlags := 10, code := some k1c1 }
def k1c2 : Code := { maxStack := 5, maxLocals := 2, code := method_3_code, exceptionTable := #[], attributes := #[] }
def k1m2 : Method := { name := "unshift", desc := "(J)J", sig := { parameters := [.long], returnType := some .long }, accessFlags := 10, code := some k1c2 }
def k1c3 : Code := { maxStack := 4, maxLocals := 10, code := code, exceptionTable := #[], attributes := #[] }
def k1m3 : Method := { name := "law", desc := "(J)Z", sig := { parameters := [.long], returnType := some .boolean }, accessFlags := 9, code := some k1c3 }
/-- com/example/shunt/shunt/hash/Murmur3x64_128Fmix64PinLaw -/
def k1 : Class := { plain "com/example/shunt/shunt/hash/Murmur3x64_128Fmix64PinLaw" (some 0) with
  accessFlags := 49
  interfaces := #[]
  cf := some (fileOf pool1 18 #[] #[{ accessFlags := 2, nameIndex := 5, descriptorIndex := 6, attributes := #[] }, { accessFlags := 10, nameIndex := 21, descriptorIndex := 14, attributes := #[] }, { accessFlags := 10, nameIndex := 26, descriptorIndex := 14, attributes := #[] }, { accessFlags := 9, nameIndex := 29, descriptorIndex := 30, attributes := #[] }] 49 2 #[] #[])
  fields := #[]
  methods := #[k1m0, k1m1, k1m2, k1m3]
  instanceTypes := #[]
  staticTypes := #[]
  resolved := Array.replicate 34 none
  statics := none }

def pool2 : Array CpInfo := pool [(2, .class_ 4), (1, u "java/lang/Object"), (0, u "<init>"), (0, u "()V"), (1, .class_ 10), (1, u "com/example/shunt/shunt/hash/Murmur3x64_128"), (18, u "LITTLE_ENDIAN_LONG"), (0, u "Ljava/lang/invoke/VarHandle;"), (9, u "(J)J"), (20, u "fmix64"), (21, u "LITTLE_ENDIAN_INT"), (5, u "LITTLE_ENDIAN_SHORT"), (9, .long 18397679294719823053), (1, .long 14181476777654086739), (19, u "C1"), (0, u "J"), (1, u "C2"), (0, u "BLOCK_BYTES"), (0, u "I")] 10

def k2m0 : Method := { name := "<init>", desc := "()V", sig := { parameters := [], returnType := none }, accessFlags := 2, code := none }
def k2c1 : Code := { maxStack := 5, maxLocals := 2, code := prog_25_method_9_code, exceptionTable := #[], attributes := #[] }
def k2m1 : Method := { name := "fmix64", desc := "(J)J", sig := { parameters := [.long], returnType := some .long }, accessFlags := 9, code := some k2c1 }
/-- com/example/shunt/shunt/hash/Murmur3x64_128 -/
def k2 : Class := { plain "com/example/shunt/shunt/hash/Murmur3x64_128" (some 0) with
  accessFlags := 33
  interfaces := #[]
  cf := some (fileOf pool2 8 #[] #[{ accessFlags := 2, nameIndex := 5, descriptorIndex := 6, attributes := #[] }, { accessFlags := 9, nameIndex := 61, descriptorIndex := 40, attributes := #[] }] 33 2 #[] #[{ accessFlags := 26, nameIndex := 121, descriptorIndex := 122, attributes := #[] }, { accessFlags := 26, nameIndex := 124, descriptorIndex := 122, attributes := #[] }, { accessFlags := 26, nameIndex := 125, descriptorIndex := 126, attributes := #[] }, { accessFlags := 26, nameIndex := 29, descriptorIndex := 30, attributes := #[] }, { accessFlags := 26, nameIndex := 83, descriptorIndex := 30, attributes := #[] }, { accessFlags := 26, nameIndex := 89, descriptorIndex := 30, attributes := #[] }])
  fields := #[{ name := "C1", type := .long, accessFlags := 26, slot := 0, constantValue := 0 }, { name := "C2", type := .long, accessFlags := 26, slot := 1, constantValue := 0 }, { name := "BLOCK_BYTES", type := .int, accessFlags := 26, slot := 2, constantValue := 0 }, { name := "LITTLE_ENDIAN_LONG", type := (.object "java/lang/invoke/VarHandle"), accessFlags := 26, slot := 3, constantValue := 0 }, { name := "LITTLE_ENDIAN_INT", type := (.object "java/lang/invoke/VarHandle"), accessFlags := 26, slot := 4, constantValue := 0 }, { name := "LITTLE_ENDIAN_SHORT", type := (.object "java/lang/invoke/VarHandle"), accessFlags := 26, slot := 5, constantValue := 0 }]
  methods := #[k2m0, k2m1]
  instanceTypes := #[]
  staticTypes := #[.long, .long, .int, (.object "java/lang/invoke/VarHandle"), (.object "java/lang/invoke/VarHandle"), (.object "java/lang/invoke/VarHandle")]
  resolved := Array.replicate 137 none
  statics := none }

def pool3 : Array CpInfo := pool [(1, u "java/lang/Cloneable"), (0, .class_ 1), (0, u "java/lang/Object"), (0, .class_ 3)] 3

/-- java/lang/Cloneable -/
def k3 : Class := { plain "java/lang/Cloneable" (some 0) with
  accessFlags := 1537
  interfaces := #[]
  cf := some (fileOf pool3 2 #[] #[] 1537 4 #[] #[])
  fields := #[]
  methods := #[]
  instanceTypes := #[]
  staticTypes := #[]
  resolved := Array.replicate 8 none
  statics := none }

def pool4 : Array CpInfo := pool [(1, u "java/io/Serializable"), (0, .class_ 1), (0, u "java/lang/Object"), (0, .class_ 3)] 3

/-- java/io/Serializable -/
def k4 : Class := { plain "java/io/Serializable" (some 0) with
  accessFlags := 1537
  interfaces := #[]
  cf := some (fileOf pool4 2 #[] #[] 1537 4 #[] #[])
  fields := #[]
  methods := #[]
  instanceTypes := #[]
  staticTypes := #[]
  resolved := Array.replicate 8 none
  statics := none }

/-- the primitive byte -/
def k5 : Class := { plain "byte" none with kind := .primitive 'B', accessFlags := 0x411 }
/-- [B -/
def k6 : Class := { plain "[B" (some 0) with kind := .array 5 .byte, interfaces := #[3, 4], accessFlags := 1041 }

/-- the primitive int -/
def k7 : Class := { plain "int" none with kind := .primitive 'I', accessFlags := 0x411 }
/-- [I -/
def k8 : Class := { plain "[I" (some 0) with kind := .array 7 .int, interfaces := #[3, 4], accessFlags := 1041 }

def heap : Heap := #[]
def classes : Array Class := #[k0, k1, k2, k3, k4, k5, k6, k7, k8]
def interned : List (Array UInt16 × Addr) := []
def slotsUsed : Nat := 0
def theMethod : MethodId := ⟨1, 3⟩
def args0 : Array Value := #[.long 7]
def aboutOver (below : List Frame) : State where
  vm := { classes := classes, interned := interned.toArray }
  heap := heap
  slotsUsed := slotsUsed
  threads := #[{ frames := .invoking theMethod args0 :: below }]
def below0 : List Frame := [.native { method := ⟨0, 0⟩, args := #[] }]
def about1 : State := aboutOver below0
def p0 : Program := .bare "" "" ""
def e0 : Env := launch0.env 0 0 0
theorem w_frames : about1.frames = Frame.invoking theMethod args0 :: below0 := rfl
set_option maxRecDepth 65536 in
theorem w_args : argsFit about1.vm theMethod args0 = true := by decide +kernel
set_option maxRecDepth 65536 in
theorem w_heap : heapFits about1 = true := by decide +kernel
set_option maxRecDepth 65536 in
theorem w_runnable : about1.curStatus? = some .runnable := by decide +kernel
set_option maxRecDepth 65536 in
theorem w_alone : about1.alone = true := by decide +kernel
set_option maxRecDepth 65536 in
theorem w_named : about1.methodNamed? x = some theMethod := by decide +kernel
set_option maxRecDepth 65536 in
theorem w_hears : about1.hears theMethod below0 = true := by decide +kernel
set_option maxRecDepth 65536 in
theorem w_ripe : about1.ripe theMethod args0 below0 = true := by decide +kernel
theorem w_running : about1.status = .running := rfl
set_option maxRecDepth 65536 in
theorem w_room : about1.hasRoom e0.platform room_1 = true :=
  launch0.hasRoom_least _ room_1 (by decide +kernel) (by decide +kernel) (by decide +kernel) (by decide +kernel) (by decide +kernel) (by decide +kernel)
theorem allAtoms_all (ts : List Jvm.Cond) (a : Array Jvm.Value) (st : Jvm.State) : (allAtoms ts).before a st = ts.all (fun c => c.before a st) := by
  induction ts with
  | nil => rfl
  | cons c t ih =>
    show (Jvm.Cond.and c (allAtoms t)).before a st = _
    rw [Jvm.Cond.before_and, ih, List.all_cons]
def words1 : List Jvm.Cond := Jvm.Cond.code x code maxLocals ret :: tables_1
/-- a 'code' word, met by the world's own term for the bytes: nothing is compared byte by byte -/
theorem code_word {y : MethodName} {bytes : ByteArray} {mx : Nat} {rt : Option FieldType} {a : Array Value} {s : State} {m : MethodId} {meth : Method} {c : Code} (h1 : s.methodNamed? y = some m) (h2 : s.vm.method? m = some meth) (h3 : meth.code = some c) (h4 : c.code = bytes)
    (h5 : (c.maxLocals == mx && c.exceptionTable.isEmpty && decide (c.maxStack ≤ mostOperands) && decide (meth.sig.returnType = rt) && !meth.locks && decide (parseMethodDescriptor y.desc = some meth.sig)) = true) : (Jvm.Cond.code y bytes mx rt).before a s = true := by
  simp only [Bool.and_eq_true, beq_iff_eq, Bool.not_eq_true', decide_eq_true_eq] at h5
  obtain ⟨⟨⟨⟨⟨g1, g2⟩, g3⟩, g4⟩, g5⟩, g6⟩ := h5
  simp [Cond.before, Cond.holds, Cond.value, h1, h2, h3, h4, g1, g2, g3, g4, g5, g6]
def isCode : Jvm.Cond → Bool
  | .code _ _ _ _ => true
  | _ => false
theorem all_split {L : List Jvm.Cond} {P : Jvm.Cond → Bool} (h1 : L.all (fun c => isCode c || P c) = true) (h2 : ∀ c ∈ L.filter isCode, P c = true) : L.all P = true := by
  refine List.all_eq_true.mpr fun c hc => ?_
  have h := List.all_eq_true.mp h1 c hc
  rcases Bool.eq_false_or_eq_true (isCode c) with hi | hi
  · exact h2 c (List.mem_filter.mpr ⟨hc, hi⟩)
  · simpa [hi] using h
set_option maxRecDepth 65536 in
theorem w_c0 : (Jvm.Cond.code x code maxLocals ret).before args0 about1 = true := code_word (m := ⟨1, 3⟩) (meth := k1m3) (c := k1c3) (by decide +kernel) rfl rfl rfl (by decide +kernel)
set_option maxRecDepth 65536 in
theorem w_c1 : (Jvm.Cond.code ({ cls := "com/example/shunt/shunt/hash/Murmur3x64_128", name := "fmix64", desc := "(J)J" } : Jvm.MethodName) prog_25_method_9_code (2 : Nat) (Option.some Jvm.ClassFile.FieldType.long)).before args0 about1 = true := code_word (m := ⟨2, 1⟩) (meth := k2m1) (c := k2c1) (by decide +kernel) rfl rfl rfl (by decide +kernel)
set_option maxRecDepth 65536 in
theorem w_c2 : (Jvm.Cond.code ({ cls := "com/example/shunt/shunt/hash/Murmur3x64_128Fmix64PinLaw", name := "inverse", desc := "(J)J" } : Jvm.MethodName) method_2_code (4 : Nat) (Option.some Jvm.ClassFile.FieldType.long)).before args0 about1 = true := code_word (m := ⟨1, 1⟩) (meth := k1m1) (c := k1c1) (by decide +kernel) rfl rfl rfl (by decide +kernel)
set_option maxRecDepth 65536 in
theorem w_c3 : (Jvm.Cond.code ({ cls := "com/example/shunt/shunt/hash/Murmur3x64_128Fmix64PinLaw", name := "unshift", desc := "(J)J" } : Jvm.MethodName) method_3_code (2 : Nat) (Option.some Jvm.ClassFile.FieldType.long)).before args0 about1 = true := code_word (m := ⟨1, 2⟩) (meth := k1m2) (c := k1c2) (by decide +kernel) rfl rfl rfl (by decide +kernel)
def codes1 : List Jvm.Cond := [Jvm.Cond.code x code maxLocals ret, Jvm.Cond.code ({ cls := "com/example/shunt/shunt/hash/Murmur3x64_128", name := "fmix64", desc := "(J)J" } : Jvm.MethodName) prog_25_method_9_code (2 : Nat) (Option.some Jvm.ClassFile.FieldType.long), Jvm.Cond.code ({ cls := "com/example/shunt/shunt/hash/Murmur3x64_128Fmix64PinLaw", name := "inverse", desc := "(J)J" } : Jvm.MethodName) method_2_code (4 : Nat) (Option.some Jvm.ClassFile.FieldType.long), Jvm.Cond.code ({ cls := "com/example/shunt/shunt/hash/Murmur3x64_128Fmix64PinLaw", name := "unshift", desc := "(J)J" } : Jvm.MethodName) method_3_code (2 : Nat) (Option.some Jvm.ClassFile.FieldType.long)]
set_option maxRecDepth 65536 in
theorem codes_eq : words1.filter isCode = codes1 := rfl
theorem w_codes : ∀ c ∈ words1.filter isCode, c.before args0 about1 = true := by
  rw [codes_eq]
  intro c hc
  simp only [codes1, List.mem_cons, List.not_mem_nil, or_false] at hc
  rcases hc with rfl | rfl | rfl | rfl
  · exact w_c0
  · exact w_c1
  · exact w_c2
  · exact w_c3
set_option maxRecDepth 65536 in
theorem w_t1 : words1.all (fun c => isCode c || c.before args0 about1) = true := by decide +kernel
theorem w_tables : (allAtoms (Jvm.Cond.code x code maxLocals ret :: tables_1)).before args0 about1 = true := by
  rw [allAtoms_all]
  show words1.all (fun c => c.before args0 about1) = true
  refine all_split ?_ w_codes
  rw [w_t1]
set_option maxRecDepth 65536 in
theorem w_case : (Jvm.Cond.and given_1 narrow_1).before args0 about1 = true := by decide +kernel
theorem w_applies : (headSpec (Jvm.Cond.code x code maxLocals ret :: tables_1) room_1).applies x e0.platform about1 = true :=
  (Spec.applies_iff w_frames).mpr ⟨w_running, w_runnable, w_alone, w_named, w_hears, w_ripe, w_room, w_tables⟩
theorem atStart : AtStart classFile x code maxLocals ret World_1 tables_1 room_1 Calls_1 rest_1 Pre_1 launch0 p0 e0 about1 theMethod args0 below0 :=
  ⟨lists_1, trivial, launch0.admits_env _ _ _, launch0.least_env, fairChoices_fair.cas, fairChoices_fair.clock, w_frames, w_args, w_heap, w_applies, trivial, trivial, w_case⟩
end start1
theorem witness_1 : WitnessClaimed_1 := ⟨start1.p0, start1.e0, start1.about1, start1.theMethod, start1.args0, start1.below0, start1.atStart⟩
end Jvm.Pilot.@@N@@
