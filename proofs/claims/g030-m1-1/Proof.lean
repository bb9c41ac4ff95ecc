import JvmDerived
import JvmDerived.Pilot.@@N@@Statement
import JvmDerived.Pilot.@@N@@Code
set_option linter.unusedVariables false
set_option linter.unusedSimpArgs false
namespace Jvm.RoadKit
open Sem ClassFile Op Lib Jvm.Stand Jvm.Free Jvm.LawKit
section New
variable {p : Program} {l : Launch} {e : Env} {R : Room} {s : State} {m : MethodId} {args : Array Value} {below : List Frame} {meth : Method} {c : Code} {T : State} {locs : List Loc} {cells slots : Nat}
theorem retI (X : Stand p l e R s m args below meth c T locs cells slots) (hx : p.tables.exec = Jvm.exec) {pc : Nat} {Ls : Array Slot} {z : Int32} {rest : List Value} (hret : meth.sig.returnType = some .int) (hd : decode c.code pc = .ok (.ireturn, 1)) {fs : List Frame}
    (hl : ∀ (f : JFrame) (acts : List Action), f.method = m → f.locked = none → f.entered = [] → (doReturn e (T.setTop f) acts (some (.int z))).1 = T.setFrames fs) : Steps p.tables e below (T.setTop (mkF m pc Ls (.int z :: rest))) (T.setFrames fs) := by
  have hm' : T.vm.method? m = some meth := X.method'
  have hn : narrow .int (.int z) = .int z := rfl
  show Steps p.tables e below (T.setTop { method := m, pc := pc, locals := Ls, stack := _ :: rest, locked := none }) _
  jvm_step X.here [X.here.top, hx, hd, hm', hret, hn]
  first | (intro acts; rw [hl _ acts rfl rfl rfl]) | rw [hl _ _ rfl rfl rfl]
  exact Steps.refl _
end New
end Jvm.RoadKit
namespace Jvm.Pilot.@@N@@
open Jvm Jvm.ClassFile Sem Op Lib Jvm.Free Jvm.Stand Jvm.LawKit Jvm.RoadKit Bundle Jvm.Pilot.@@N@@.Jvm.D
def own_s (x : Int64) : Int64 := ((x.toUInt64 >>> ((7 : Int32) &&& 0x3f).toInt64.toUInt64).toInt64)
theorem own_sv (x : Int64) : (own_s x).toInt = (x.toInt % 18446744073709551616) / 128 := c_lushr x 7 7 (by decide) (by decide)
theorem own_z (x : Int64) : x = (0 : Int64) ↔ x.toInt = 0 := by rw [← Int64.toInt_inj]; exact Iff.rfl
theorem own_zero (x : Int64) : (own_s (own_s (own_s (own_s (own_s (own_s (own_s (own_s (own_s (own_s x)))))))))) = (0 : Int64) := by
  have s1 := own_sv x
  have s2 := own_sv (own_s x)
  have s3 := own_sv (own_s (own_s x))
  have s4 := own_sv (own_s (own_s (own_s x)))
  have s5 := own_sv (own_s (own_s (own_s (own_s x))))
  have s6 := own_sv (own_s (own_s (own_s (own_s (own_s x)))))
  have s7 := own_sv (own_s (own_s (own_s (own_s (own_s (own_s x))))))
  have s8 := own_sv (own_s (own_s (own_s (own_s (own_s (own_s (own_s x)))))))
  have s9 := own_sv (own_s (own_s (own_s (own_s (own_s (own_s (own_s (own_s x))))))))
  have s10 := own_sv (own_s (own_s (own_s (own_s (own_s (own_s (own_s (own_s (own_s x)))))))))
  have r := rng64 x
  rw [own_z]; omega
theorem d1_0 : decode prog_61_method_3_code 0 = .ok (.iconst 1, 1) := by decide +kernel
theorem d1_1 : decode prog_61_method_3_code 1 = .ok (.istore_n 2, 1) := by decide +kernel
theorem d1_2 : decode prog_61_method_3_code 2 = .ok (.lload_n 0, 1) := by decide +kernel
theorem d1_3 : decode prog_61_method_3_code 3 = .ok (.bipush 7, 2) := by decide +kernel
theorem d1_5 : decode prog_61_method_3_code 5 = .ok (.lushr, 1) := by decide +kernel
theorem d1_6 : decode prog_61_method_3_code 6 = .ok (.lstore_n 3, 1) := by decide +kernel
theorem d1_7 : decode prog_61_method_3_code 7 = .ok (.lload_n 3, 1) := by decide +kernel
theorem d1_8 : decode prog_61_method_3_code 8 = .ok (.lconst 0, 1) := by decide +kernel
theorem d1_9 : decode prog_61_method_3_code 9 = .ok (.lcmp, 1) := by decide +kernel
theorem d1_10 : decode prog_61_method_3_code 10 = .ok (.ifCond .eq 14, 3) := by decide +kernel
theorem d1_24 : decode prog_61_method_3_code 24 = .ok (.iload_n 2, 1) := by decide +kernel
theorem d1_25 : decode prog_61_method_3_code 25 = .ok (.ireturn, 1) := by decide +kernel
theorem d1_13 : decode prog_61_method_3_code 13 = .ok (.iinc 2 1, 3) := by decide +kernel
theorem d1_16 : decode prog_61_method_3_code 16 = .ok (.lload_n 3, 1) := by decide +kernel
theorem d1_17 : decode prog_61_method_3_code 17 = .ok (.bipush 7, 2) := by decide +kernel
theorem d1_19 : decode prog_61_method_3_code 19 = .ok (.lushr, 1) := by decide +kernel
theorem d1_20 : decode prog_61_method_3_code 20 = .ok (.lstore_n 3, 1) := by decide +kernel
theorem d1_21 : decode prog_61_method_3_code 21 = .ok (.goto (-14), 3) := by decide +kernel
def own_size (p0 : Int64) : Int32 := (if ((p0.toUInt64 >>> ((7 : Int32) &&& 0x3f).toInt64.toUInt64).toInt64) = (0 : Int64) then (1 : Int32) else (if ((((p0.toUInt64 >>> ((7 : Int32) &&& 0x3f).toInt64.toUInt64).toInt64).toUInt64 >>> ((7 : Int32) &&& 0x3f).toInt64.toUInt64).toInt64) = (0 : Int64) then (2 : Int32) else (if ((((((p0.toUInt64 >>> ((7 : Int32) &&& 0x3f).toInt64.toUInt64).toInt64).toUInt64 >>> ((7 : Int32) &&& 0x3f).toInt64.toUInt64).toInt64).toUInt64 >>> ((7 : Int32) &&& 0x3f).toInt64.toUInt64).toInt64) = (0 : Int64) then (3 : Int32) else (if ((((((((p0.toUInt64 >>> ((7 : Int32) &&& 0x3f).toInt64.toUInt64).toInt64).toUInt64 >>> ((7 : Int32) &&& 0x3f).toInt64.toUInt64).toInt64).toUInt64 >>> ((7 : Int32) &&& 0x3f).toInt64.toUInt64).toInt64).toUInt64 >>> ((7 : Int32) &&& 0x3f).toInt64.toUInt64).toInt64) = (0 : Int64) then (4 : Int32) else (if ((((((((((p0.toUInt64 >>> ((7 : Int32) &&& 0x3f).toInt64.toUInt64).toInt64).toUInt64 >>> ((7 : Int32) &&& 0x3f).toInt64.toUInt64).toInt64).toUInt64 >>> ((7 : Int32) &&& 0x3f).toInt64.toUInt64).toInt64).toUInt64 >>> ((7 : Int32) &&& 0x3f).toInt64.toUInt64).toInt64).toUInt64 >>> ((7 : Int32) &&& 0x3f).toInt64.toUInt64).toInt64) = (0 : Int64) then (5 : Int32) else (if ((((((((((((p0.toUInt64 >>> ((7 : Int32) &&& 0x3f).toInt64.toUInt64).toInt64).toUInt64 >>> ((7 : Int32) &&& 0x3f).toInt64.toUInt64).toInt64).toUInt64 >>> ((7 : Int32) &&& 0x3f).toInt64.toUInt64).toInt64).toUInt64 >>> ((7 : Int32) &&& 0x3f).toInt64.toUInt64).toInt64).toUInt64 >>> ((7 : Int32) &&& 0x3f).toInt64.toUInt64).toInt64).toUInt64 >>> ((7 : Int32) &&& 0x3f).toInt64.toUInt64).toInt64) = (0 : Int64) then (6 : Int32) else (if ((((((((((((((p0.toUInt64 >>> ((7 : Int32) &&& 0x3f).toInt64.toUInt64).toInt64).toUInt64 >>> ((7 : Int32) &&& 0x3f).toInt64.toUInt64).toInt64).toUInt64 >>> ((7 : Int32) &&& 0x3f).toInt64.toUInt64).toInt64).toUInt64 >>> ((7 : Int32) &&& 0x3f).toInt64.toUInt64).toInt64).toUInt64 >>> ((7 : Int32) &&& 0x3f).toInt64.toUInt64).toInt64).toUInt64 >>> ((7 : Int32) &&& 0x3f).toInt64.toUInt64).toInt64).toUInt64 >>> ((7 : Int32) &&& 0x3f).toInt64.toUInt64).toInt64) = (0 : Int64) then (7 : Int32) else (if ((((((((((((((((p0.toUInt64 >>> ((7 : Int32) &&& 0x3f).toInt64.toUInt64).toInt64).toUInt64 >>> ((7 : Int32) &&& 0x3f).toInt64.toUInt64).toInt64).toUInt64 >>> ((7 : Int32) &&& 0x3f).toInt64.toUInt64).toInt64).toUInt64 >>> ((7 : Int32) &&& 0x3f).toInt64.toUInt64).toInt64).toUInt64 >>> ((7 : Int32) &&& 0x3f).toInt64.toUInt64).toInt64).toUInt64 >>> ((7 : Int32) &&& 0x3f).toInt64.toUInt64).toInt64).toUInt64 >>> ((7 : Int32) &&& 0x3f).toInt64.toUInt64).toInt64).toUInt64 >>> ((7 : Int32) &&& 0x3f).toInt64.toUInt64).toInt64) = (0 : Int64) then (8 : Int32) else (if ((((((((((((((((((p0.toUInt64 >>> ((7 : Int32) &&& 0x3f).toInt64.toUInt64).toInt64).toUInt64 >>> ((7 : Int32) &&& 0x3f).toInt64.toUInt64).toInt64).toUInt64 >>> ((7 : Int32) &&& 0x3f).toInt64.toUInt64).toInt64).toUInt64 >>> ((7 : Int32) &&& 0x3f).toInt64.toUInt64).toInt64).toUInt64 >>> ((7 : Int32) &&& 0x3f).toInt64.toUInt64).toInt64).toUInt64 >>> ((7 : Int32) &&& 0x3f).toInt64.toUInt64).toInt64).toUInt64 >>> ((7 : Int32) &&& 0x3f).toInt64.toUInt64).toInt64).toUInt64 >>> ((7 : Int32) &&& 0x3f).toInt64.toUInt64).toInt64).toUInt64 >>> ((7 : Int32) &&& 0x3f).toInt64.toUInt64).toInt64) = (0 : Int64) then (9 : Int32) else (if ((((((((((((((((((((p0.toUInt64 >>> ((7 : Int32) &&& 0x3f).toInt64.toUInt64).toInt64).toUInt64 >>> ((7 : Int32) &&& 0x3f).toInt64.toUInt64).toInt64).toUInt64 >>> ((7 : Int32) &&& 0x3f).toInt64.toUInt64).toInt64).toUInt64 >>> ((7 : Int32) &&& 0x3f).toInt64.toUInt64).toInt64).toUInt64 >>> ((7 : Int32) &&& 0x3f).toInt64.toUInt64).toInt64).toUInt64 >>> ((7 : Int32) &&& 0x3f).toInt64.toUInt64).toInt64).toUInt64 >>> ((7 : Int32) &&& 0x3f).toInt64.toUInt64).toInt64).toUInt64 >>> ((7 : Int32) &&& 0x3f).toInt64.toUInt64).toInt64).toUInt64 >>> ((7 : Int32) &&& 0x3f).toInt64.toUInt64).toInt64).toUInt64 >>> ((7 : Int32) &&& 0x3f).toInt64.toUInt64).toInt64) = (0 : Int64) then (10 : Int32) else (0 : Int32)))))))))))
theorem pn_1 : plainName "com/example/wirecall/wirecall/Varint" = true := by first | (simp [plainName, overriddenIn]; done) | decide +kernel
theorem ef_1 (m : MethodId) (x0 : Int64) : entryFrame m #[(.long x0)] 5 = mkF m 0 #[.val (.long x0), .second, .unset, .unset, .unset] [] := by first | (simp [entryFrame, mkF, argsToLocals, Value.category]; done) | rfl
def Q1 (Z : State) (p0 : Int64) (h0 : Heap) (n0 : Nat) (v : Option Value) (h : Heap) (L : List Loc) : Prop := v = some (.int (own_size p0)) ∧ Fr n0 L ∧ h = h0
set_option maxRecDepth 65536 in
set_option maxHeartbeats 40000000 in
theorem rm1 (l : Launch) (Z : State) (a0 : Array Value) (hw : ∀ d ∈ tables_1, d.before a0 Z = true) (ws : List Jvm.Cond) (p0 : Int64) (h0 : Heap) (n0 : Nat) (Z0 : n0 ≤ h0.size) :
    MetFree l (⟨"com/example/wirecall/wirecall/Varint", "size", "(J)I"⟩ : MethodName) (head1 (Jvm.Cond.code (⟨"com/example/wirecall/wirecall/Varint", "size", "(J)I"⟩ : MethodName) prog_61_method_3_code 5 (some .int) :: ws) ({ frames := 0, cells := 0, slots := 0, locals := 0 } : Room)) (fun a U => a = #[(.long p0)] ∧ Z.Warmed39 U.vm ∧ U.heap = h0) (fun _ _ _ _ _ => True) (fun _ U o U' => ∃ v L, o = .returned v ∧ Q1 Z p0 h0 n0 v U'.heap L ∧ FrameEnd U o U' L ({ frames := 0, cells := 0, slots := 0, locals := 0 } : Room).cells ({ frames := 0, cells := 0, slots := 0, locals := 0 } : Room).slots) := by
  refine MetFree.of_bodySF (plainFor_of_name pn_1) hisR ?_
  intro p e s m args below meth c s₁ Bd hml0 hP hK
  obtain ⟨rfl, hZ, hh⟩ := hP
  have hx := Bd.exec
  have hby := Bd.bytes
  have hml : c.maxLocals = 5 := hml0
  have hown : s.vm.findClass "com/example/wirecall/wirecall/Varint" = some m.cls := findClass_of_methodNamed Bd.named
  have hnm := (name_of_methodNamed Bd.named Bd.method).1
  have X0 : Stand p l e ({ frames := 0, cells := 0, slots := 0, locals := 0 } : Room) s m #[(.long p0)] below meth c s₁ [] 0 0 := Stand.of_body Bd
  have e0 : s₁.heap = h0 := by rw [← hh, Bd.state]; rfl
  have N0 := Fr.nil n0
  have pre0 : ∀ t, Steps p.tables e below (s₁.setTop (mkF m 0 #[.val (.long p0), .second, .unset, .unset, .unset] [])) t → Steps p.tables e below (s₁.setTop (entryFrame m #[(.long p0)] 5)) t := fun t k => castTop (ef_1 m p0) k
  have pre1 : ∀ t, Steps p.tables e below (s₁.setTop (mkF m 10 #[.val (.long p0), .second, .val (.int (1 : Int32)), .val (.long ((p0.toUInt64 >>> ((7 : Int32) &&& 0x3f).toInt64.toUInt64).toInt64)), .second] [(.int (lcmpW ((p0.toUInt64 >>> ((7 : Int32) &&& 0x3f).toInt64.toUInt64).toInt64) (0 : Int64)))])) t → Steps p.tables e below (s₁.setTop (entryFrame m #[(.long p0)] 5)) t := by
    intro t k
    refine pre0 t ?_
    show Steps p.tables e below (s₁.setTop (mkF m 0 #[.val (.long p0), .second, .unset, .unset, .unset] [])) _
    refine XS.iconst X0.here hx rfl (hb hby d1_0) ?_
    show Steps p.tables e below (s₁.setTop (mkF m 1 #[.val (.long p0), .second, .unset, .unset, .unset] [(.int (1 : Int32))])) _
    refine XS.istoreN X0.here hx rfl (hb hby d1_1) rfl (l' := #[.val (.long p0), .second, .val (.int (1 : Int32)), .unset, .unset]) rfl ?_
    show Steps p.tables e below (s₁.setTop (mkF m 2 #[.val (.long p0), .second, .val (.int (1 : Int32)), .unset, .unset] [])) _
    refine XS.lloadN X0.here hx rfl (hb hby d1_2) rfl ?_
    show Steps p.tables e below (s₁.setTop (mkF m 3 #[.val (.long p0), .second, .val (.int (1 : Int32)), .unset, .unset] [(.long p0)])) _
    refine XS.bipush X0.here hx rfl (hb hby d1_3) ?_
    show Steps p.tables e below (s₁.setTop (mkF m 5 #[.val (.long p0), .second, .val (.int (1 : Int32)), .unset, .unset] [(.int (7 : Int32)), (.long p0)])) _
    refine XS.lushr X0.here hx rfl (hb hby d1_5) rfl ?_
    show Steps p.tables e below (s₁.setTop (mkF m 6 #[.val (.long p0), .second, .val (.int (1 : Int32)), .unset, .unset] [(.long ((p0.toUInt64 >>> ((7 : Int32) &&& 0x3f).toInt64.toUInt64).toInt64))])) _
    refine XS.lstoreN X0.here hx rfl (hb hby d1_6) rfl (l' := #[.val (.long p0), .second, .val (.int (1 : Int32)), .val (.long ((p0.toUInt64 >>> ((7 : Int32) &&& 0x3f).toInt64.toUInt64).toInt64)), .second]) rfl ?_
    show Steps p.tables e below (s₁.setTop (mkF m 7 #[.val (.long p0), .second, .val (.int (1 : Int32)), .val (.long ((p0.toUInt64 >>> ((7 : Int32) &&& 0x3f).toInt64.toUInt64).toInt64)), .second] [])) _
    refine XS.lloadN X0.here hx rfl (hb hby d1_7) rfl ?_
    show Steps p.tables e below (s₁.setTop (mkF m 8 #[.val (.long p0), .second, .val (.int (1 : Int32)), .val (.long ((p0.toUInt64 >>> ((7 : Int32) &&& 0x3f).toInt64.toUInt64).toInt64)), .second] [(.long ((p0.toUInt64 >>> ((7 : Int32) &&& 0x3f).toInt64.toUInt64).toInt64))])) _
    refine XS.lconst X0.here hx rfl (hb hby d1_8) ?_
    show Steps p.tables e below (s₁.setTop (mkF m 9 #[.val (.long p0), .second, .val (.int (1 : Int32)), .val (.long ((p0.toUInt64 >>> ((7 : Int32) &&& 0x3f).toInt64.toUInt64).toInt64)), .second] [(.long (0 : Int64)), (.long ((p0.toUInt64 >>> ((7 : Int32) &&& 0x3f).toInt64.toUInt64).toInt64))])) _
    refine XS.lcmp X0.here hx rfl (hb hby d1_9) rfl ?_
    exact k
  by_cases hc10 : ((p0.toUInt64 >>> ((7 : Int32) &&& 0x3f).toInt64.toUInt64).toInt64) = (0 : Int64)
  · have pre2 : ∀ t, Steps p.tables e below (s₁.setTop (mkF m 25 #[.val (.long p0), .second, .val (.int (1 : Int32)), .val (.long ((p0.toUInt64 >>> ((7 : Int32) &&& 0x3f).toInt64.toUInt64).toInt64)), .second] [(.int (1 : Int32))])) t → Steps p.tables e below (s₁.setTop (entryFrame m #[(.long p0)] 5)) t := by
      intro t k
      refine pre1 t ?_
      show Steps p.tables e below (s₁.setTop (mkF m 10 #[.val (.long p0), .second, .val (.int (1 : Int32)), .val (.long ((p0.toUInt64 >>> ((7 : Int32) &&& 0x3f).toInt64.toUInt64).toInt64)), .second] [(.int (lcmpW ((p0.toUInt64 >>> ((7 : Int32) &&& 0x3f).toInt64.toUInt64).toInt64) (0 : Int64)))])) _
      refine XS.ifYes X0.here hx rfl (pc0 := 10) (pc' := 24) rfl (hb hby d1_10) rfl ((if0 _ _).trans (teq ((lw_eq _ _).mpr hc10)).1) (by decide) (by decide) ?_
      show Steps p.tables e below (s₁.setTop (mkF m 24 #[.val (.long p0), .second, .val (.int (1 : Int32)), .val (.long ((p0.toUInt64 >>> ((7 : Int32) &&& 0x3f).toInt64.toUInt64).toInt64)), .second] [])) _
      refine XS.iloadN X0.here hx rfl (hb hby d1_24) rfl ?_
      exact k
    obtain ⟨fs, hr, hrun, hended, hW, hsame⟩ := X0.leave (v := some (.int (1 : Int32))) (fun h => by rw [Bd.returns] at h; cases h)
    refine ⟨_, _, pre2 _ ?_, hrun, hended, _, _, rfl, ?_, ⟨_, rfl⟩, hW, hsame.mono (by decide) (by decide)⟩
    · exact retI X0 hx Bd.returns (hb hby d1_25) hr
    · show Q1 Z p0 h0 n0 _ s₁.heap _
      rw [e0]
      refine ⟨?_, N0, rfl⟩
      unfold own_size; rw [if_pos hc10]
  · have pre3 : ∀ t, Steps p.tables e below (s₁.setTop (mkF m 10 #[.val (.long p0), .second, .val (.int (2 : Int32)), .val (.long ((((p0.toUInt64 >>> ((7 : Int32) &&& 0x3f).toInt64.toUInt64).toInt64).toUInt64 >>> ((7 : Int32) &&& 0x3f).toInt64.toUInt64).toInt64)), .second] [(.int (lcmpW ((((p0.toUInt64 >>> ((7 : Int32) &&& 0x3f).toInt64.toUInt64).toInt64).toUInt64 >>> ((7 : Int32) &&& 0x3f).toInt64.toUInt64).toInt64) (0 : Int64)))])) t → Steps p.tables e below (s₁.setTop (entryFrame m #[(.long p0)] 5)) t := by
      intro t k
      refine pre1 t ?_
      show Steps p.tables e below (s₁.setTop (mkF m 10 #[.val (.long p0), .second, .val (.int (1 : Int32)), .val (.long ((p0.toUInt64 >>> ((7 : Int32) &&& 0x3f).toInt64.toUInt64).toInt64)), .second] [(.int (lcmpW ((p0.toUInt64 >>> ((7 : Int32) &&& 0x3f).toInt64.toUInt64).toInt64) (0 : Int64)))])) _
      refine XS.ifNo X0.here hx rfl (hb hby d1_10) rfl ((if0 _ _).trans (feq (fun q => hc10 ((lw_eq _ _).mp q))).1) ?_
      show Steps p.tables e below (s₁.setTop (mkF m 13 #[.val (.long p0), .second, .val (.int (1 : Int32)), .val (.long ((p0.toUInt64 >>> ((7 : Int32) &&& 0x3f).toInt64.toUInt64).toInt64)), .second] [])) _
      refine XS.iinc X0.here hx rfl (hb hby d1_13) rfl (l' := #[.val (.long p0), .second, .val (.int (2 : Int32)), .val (.long ((p0.toUInt64 >>> ((7 : Int32) &&& 0x3f).toInt64.toUInt64).toInt64)), .second]) rfl ?_
      show Steps p.tables e below (s₁.setTop (mkF m 16 #[.val (.long p0), .second, .val (.int (2 : Int32)), .val (.long ((p0.toUInt64 >>> ((7 : Int32) &&& 0x3f).toInt64.toUInt64).toInt64)), .second] [])) _
      refine XS.lloadN X0.here hx rfl (hb hby d1_16) rfl ?_
      show Steps p.tables e below (s₁.setTop (mkF m 17 #[.val (.long p0), .second, .val (.int (2 : Int32)), .val (.long ((p0.toUInt64 >>> ((7 : Int32) &&& 0x3f).toInt64.toUInt64).toInt64)), .second] [(.long ((p0.toUInt64 >>> ((7 : Int32) &&& 0x3f).toInt64.toUInt64).toInt64))])) _
      refine XS.bipush X0.here hx rfl (hb hby d1_17) ?_
      show Steps p.tables e below (s₁.setTop (mkF m 19 #[.val (.long p0), .second, .val (.int (2 : Int32)), .val (.long ((p0.toUInt64 >>> ((7 : Int32) &&& 0x3f).toInt64.toUInt64).toInt64)), .second] [(.int (7 : Int32)), (.long ((p0.toUInt64 >>> ((7 : Int32) &&& 0x3f).toInt64.toUInt64).toInt64))])) _
      refine XS.lushr X0.here hx rfl (hb hby d1_19) rfl ?_
      show Steps p.tables e below (s₁.setTop (mkF m 20 #[.val (.long p0), .second, .val (.int (2 : Int32)), .val (.long ((p0.toUInt64 >>> ((7 : Int32) &&& 0x3f).toInt64.toUInt64).toInt64)), .second] [(.long ((((p0.toUInt64 >>> ((7 : Int32) &&& 0x3f).toInt64.toUInt64).toInt64).toUInt64 >>> ((7 : Int32) &&& 0x3f).toInt64.toUInt64).toInt64))])) _
      refine XS.lstoreN X0.here hx rfl (hb hby d1_20) rfl (l' := #[.val (.long p0), .second, .val (.int (2 : Int32)), .val (.long ((((p0.toUInt64 >>> ((7 : Int32) &&& 0x3f).toInt64.toUInt64).toInt64).toUInt64 >>> ((7 : Int32) &&& 0x3f).toInt64.toUInt64).toInt64)), .second]) rfl ?_
      show Steps p.tables e below (s₁.setTop (mkF m 21 #[.val (.long p0), .second, .val (.int (2 : Int32)), .val (.long ((((p0.toUInt64 >>> ((7 : Int32) &&& 0x3f).toInt64.toUInt64).toInt64).toUInt64 >>> ((7 : Int32) &&& 0x3f).toInt64.toUInt64).toInt64)), .second] [])) _
      refine XS.goto X0.here hx rfl (pc0 := 21) (pc' := 7) rfl (hb hby d1_21) (by decide) (by decide) ?_
      show Steps p.tables e below (s₁.setTop (mkF m 7 #[.val (.long p0), .second, .val (.int (2 : Int32)), .val (.long ((((p0.toUInt64 >>> ((7 : Int32) &&& 0x3f).toInt64.toUInt64).toInt64).toUInt64 >>> ((7 : Int32) &&& 0x3f).toInt64.toUInt64).toInt64)), .second] [])) _
      refine XS.lloadN X0.here hx rfl (hb hby d1_7) rfl ?_
      show Steps p.tables e below (s₁.setTop (mkF m 8 #[.val (.long p0), .second, .val (.int (2 : Int32)), .val (.long ((((p0.toUInt64 >>> ((7 : Int32) &&& 0x3f).toInt64.toUInt64).toInt64).toUInt64 >>> ((7 : Int32) &&& 0x3f).toInt64.toUInt64).toInt64)), .second] [(.long ((((p0.toUInt64 >>> ((7 : Int32) &&& 0x3f).toInt64.toUInt64).toInt64).toUInt64 >>> ((7 : Int32) &&& 0x3f).toInt64.toUInt64).toInt64))])) _
      refine XS.lconst X0.here hx rfl (hb hby d1_8) ?_
      show Steps p.tables e below (s₁.setTop (mkF m 9 #[.val (.long p0), .second, .val (.int (2 : Int32)), .val (.long ((((p0.toUInt64 >>> ((7 : Int32) &&& 0x3f).toInt64.toUInt64).toInt64).toUInt64 >>> ((7 : Int32) &&& 0x3f).toInt64.toUInt64).toInt64)), .second] [(.long (0 : Int64)), (.long ((((p0.toUInt64 >>> ((7 : Int32) &&& 0x3f).toInt64.toUInt64).toInt64).toUInt64 >>> ((7 : Int32) &&& 0x3f).toInt64.toUInt64).toInt64))])) _
      refine XS.lcmp X0.here hx rfl (hb hby d1_9) rfl ?_
      exact k
    by_cases hc10' : ((((p0.toUInt64 >>> ((7 : Int32) &&& 0x3f).toInt64.toUInt64).toInt64).toUInt64 >>> ((7 : Int32) &&& 0x3f).toInt64.toUInt64).toInt64) = (0 : Int64)
    · have pre4 : ∀ t, Steps p.tables e below (s₁.setTop (mkF m 25 #[.val (.long p0), .second, .val (.int (2 : Int32)), .val (.long ((((p0.toUInt64 >>> ((7 : Int32) &&& 0x3f).toInt64.toUInt64).toInt64).toUInt64 >>> ((7 : Int32) &&& 0x3f).toInt64.toUInt64).toInt64)), .second] [(.int (2 : Int32))])) t → Steps p.tables e below (s₁.setTop (entryFrame m #[(.long p0)] 5)) t := by
        intro t k
        refine pre3 t ?_
        show Steps p.tables e below (s₁.setTop (mkF m 10 #[.val (.long p0), .second, .val (.int (2 : Int32)), .val (.long ((((p0.toUInt64 >>> ((7 : Int32) &&& 0x3f).toInt64.toUInt64).toInt64).toUInt64 >>> ((7 : Int32) &&& 0x3f).toInt64.toUInt64).toInt64)), .second] [(.int (lcmpW ((((p0.toUInt64 >>> ((7 : Int32) &&& 0x3f).toInt64.toUInt64).toInt64).toUInt64 >>> ((7 : Int32) &&& 0x3f).toInt64.toUInt64).toInt64) (0 : Int64)))])) _
        refine XS.ifYes X0.here hx rfl (pc0 := 10) (pc' := 24) rfl (hb hby d1_10) rfl ((if0 _ _).trans (teq ((lw_eq _ _).mpr hc10')).1) (by decide) (by decide) ?_
        show Steps p.tables e below (s₁.setTop (mkF m 24 #[.val (.long p0), .second, .val (.int (2 : Int32)), .val (.long ((((p0.toUInt64 >>> ((7 : Int32) &&& 0x3f).toInt64.toUInt64).toInt64).toUInt64 >>> ((7 : Int32) &&& 0x3f).toInt64.toUInt64).toInt64)), .second] [])) _
        refine XS.iloadN X0.here hx rfl (hb hby d1_24) rfl ?_
        exact k
      obtain ⟨fs, hr, hrun, hended, hW, hsame⟩ := X0.leave (v := some (.int (2 : Int32))) (fun h => by rw [Bd.returns] at h; cases h)
      refine ⟨_, _, pre4 _ ?_, hrun, hended, _, _, rfl, ?_, ⟨_, rfl⟩, hW, hsame.mono (by decide) (by decide)⟩
      · exact retI X0 hx Bd.returns (hb hby d1_25) hr
      · show Q1 Z p0 h0 n0 _ s₁.heap _
        rw [e0]
        refine ⟨?_, N0, rfl⟩
        unfold own_size; rw [if_neg hc10, if_pos hc10']
    · have pre5 : ∀ t, Steps p.tables e below (s₁.setTop (mkF m 10 #[.val (.long p0), .second, .val (.int (3 : Int32)), .val (.long ((((((p0.toUInt64 >>> ((7 : Int32) &&& 0x3f).toInt64.toUInt64).toInt64).toUInt64 >>> ((7 : Int32) &&& 0x3f).toInt64.toUInt64).toInt64).toUInt64 >>> ((7 : Int32) &&& 0x3f).toInt64.toUInt64).toInt64)), .second] [(.int (lcmpW ((((((p0.toUInt64 >>> ((7 : Int32) &&& 0x3f).toInt64.toUInt64).toInt64).toUInt64 >>> ((7 : Int32) &&& 0x3f).toInt64.toUInt64).toInt64).toUInt64 >>> ((7 : Int32) &&& 0x3f).toInt64.toUInt64).toInt64) (0 : Int64)))])) t → Steps p.tables e below (s₁.setTop (entryFrame m #[(.long p0)] 5)) t := by
        intro t k
        refine pre3 t ?_
        show Steps p.tables e below (s₁.setTop (mkF m 10 #[.val (.long p0), .second, .val (.int (2 : Int32)), .val (.long ((((p0.toUInt64 >>> ((7 : Int32) &&& 0x3f).toInt64.toUInt64).toInt64).toUInt64 >>> ((7 : Int32) &&& 0x3f).toInt64.toUInt64).toInt64)), .second] [(.int (lcmpW ((((p0.toUInt64 >>> ((7 : Int32) &&& 0x3f).toInt64.toUInt64).toInt64).toUInt64 >>> ((7 : Int32) &&& 0x3f).toInt64.toUInt64).toInt64) (0 : Int64)))])) _
        refine XS.ifNo X0.here hx rfl (hb hby d1_10) rfl ((if0 _ _).trans (feq (fun q => hc10' ((lw_eq _ _).mp q))).1) ?_
        show Steps p.tables e below (s₁.setTop (mkF m 13 #[.val (.long p0), .second, .val (.int (2 : Int32)), .val (.long ((((p0.toUInt64 >>> ((7 : Int32) &&& 0x3f).toInt64.toUInt64).toInt64).toUInt64 >>> ((7 : Int32) &&& 0x3f).toInt64.toUInt64).toInt64)), .second] [])) _
        refine XS.iinc X0.here hx rfl (hb hby d1_13) rfl (l' := #[.val (.long p0), .second, .val (.int (3 : Int32)), .val (.long ((((p0.toUInt64 >>> ((7 : Int32) &&& 0x3f).toInt64.toUInt64).toInt64).toUInt64 >>> ((7 : Int32) &&& 0x3f).toInt64.toUInt64).toInt64)), .second]) rfl ?_
        show Steps p.tables e below (s₁.setTop (mkF m 16 #[.val (.long p0), .second, .val (.int (3 : Int32)), .val (.long ((((p0.toUInt64 >>> ((7 : Int32) &&& 0x3f).toInt64.toUInt64).toInt64).toUInt64 >>> ((7 : Int32) &&& 0x3f).toInt64.toUInt64).toInt64)), .second] [])) _
        refine XS.lloadN X0.here hx rfl (hb hby d1_16) rfl ?_
        show Steps p.tables e below (s₁.setTop (mkF m 17 #[.val (.long p0), .second, .val (.int (3 : Int32)), .val (.long ((((p0.toUInt64 >>> ((7 : Int32) &&& 0x3f).toInt64.toUInt64).toInt64).toUInt64 >>> ((7 : Int32) &&& 0x3f).toInt64.toUInt64).toInt64)), .second] [(.long ((((p0.toUInt64 >>> ((7 : Int32) &&& 0x3f).toInt64.toUInt64).toInt64).toUInt64 >>> ((7 : Int32) &&& 0x3f).toInt64.toUInt64).toInt64))])) _
        refine XS.bipush X0.here hx rfl (hb hby d1_17) ?_
        show Steps p.tables e below (s₁.setTop (mkF m 19 #[.val (.long p0), .second, .val (.int (3 : Int32)), .val (.long ((((p0.toUInt64 >>> ((7 : Int32) &&& 0x3f).toInt64.toUInt64).toInt64).toUInt64 >>> ((7 : Int32) &&& 0x3f).toInt64.toUInt64).toInt64)), .second] [(.int (7 : Int32)), (.long ((((p0.toUInt64 >>> ((7 : Int32) &&& 0x3f).toInt64.toUInt64).toInt64).toUInt64 >>> ((7 : Int32) &&& 0x3f).toInt64.toUInt64).toInt64))])) _
        refine XS.lushr X0.here hx rfl (hb hby d1_19) rfl ?_
        show Steps p.tables e below (s₁.setTop (mkF m 20 #[.val (.long p0), .second, .val (.int (3 : Int32)), .val (.long ((((p0.toUInt64 >>> ((7 : Int32) &&& 0x3f).toInt64.toUInt64).toInt64).toUInt64 >>> ((7 : Int32) &&& 0x3f).toInt64.toUInt64).toInt64)), .second] [(.long ((((((p0.toUInt64 >>> ((7 : Int32) &&& 0x3f).toInt64.toUInt64).toInt64).toUInt64 >>> ((7 : Int32) &&& 0x3f).toInt64.toUInt64).toInt64).toUInt64 >>> ((7 : Int32) &&& 0x3f).toInt64.toUInt64).toInt64))])) _
        refine XS.lstoreN X0.here hx rfl (hb hby d1_20) rfl (l' := #[.val (.long p0), .second, .val (.int (3 : Int32)), .val (.long ((((((p0.toUInt64 >>> ((7 : Int32) &&& 0x3f).toInt64.toUInt64).toInt64).toUInt64 >>> ((7 : Int32) &&& 0x3f).toInt64.toUInt64).toInt64).toUInt64 >>> ((7 : Int32) &&& 0x3f).toInt64.toUInt64).toInt64)), .second]) rfl ?_
        show Steps p.tables e below (s₁.setTop (mkF m 21 #[.val (.long p0), .second, .val (.int (3 : Int32)), .val (.long ((((((p0.toUInt64 >>> ((7 : Int32) &&& 0x3f).toInt64.toUInt64).toInt64).toUInt64 >>> ((7 : Int32) &&& 0x3f).toInt64.toUInt64).toInt64).toUInt64 >>> ((7 : Int32) &&& 0x3f).toInt64.toUInt64).toInt64)), .second] [])) _
        refine XS.goto X0.here hx rfl (pc0 := 21) (pc' := 7) rfl (hb hby d1_21) (by decide) (by decide) ?_
        show Steps p.tables e below (s₁.setTop (mkF m 7 #[.val (.long p0), .second, .val (.int (3 : Int32)), .val (.long ((((((p0.toUInt64 >>> ((7 : Int32) &&& 0x3f).toInt64.toUInt64).toInt64).toUInt64 >>> ((7 : Int32) &&& 0x3f).toInt64.toUInt64).toInt64).toUInt64 >>> ((7 : Int32) &&& 0x3f).toInt64.toUInt64).toInt64)), .second] [])) _
        refine XS.lloadN X0.here hx rfl (hb hby d1_7) rfl ?_
        show Steps p.tables e below (s₁.setTop (mkF m 8 #[.val (.long p0), .second, .val (.int (3 : Int32)), .val (.long ((((((p0.toUInt64 >>> ((7 : Int32) &&& 0x3f).toInt64.toUInt64).toInt64).toUInt64 >>> ((7 : Int32) &&& 0x3f).toInt64.toUInt64).toInt64).toUInt64 >>> ((7 : Int32) &&& 0x3f).toInt64.toUInt64).toInt64)), .second] [(.long ((((((p0.toUInt64 >>> ((7 : Int32) &&& 0x3f).toInt64.toUInt64).toInt64).toUInt64 >>> ((7 : Int32) &&& 0x3f).toInt64.toUInt64).toInt64).toUInt64 >>> ((7 : Int32) &&& 0x3f).toInt64.toUInt64).toInt64))])) _
        refine XS.lconst X0.here hx rfl (hb hby d1_8) ?_
        show Steps p.tables e below (s₁.setTop (mkF m 9 #[.val (.long p0), .second, .val (.int (3 : Int32)), .val (.long ((((((p0.toUInt64 >>> ((7 : Int32) &&& 0x3f).toInt64.toUInt64).toInt64).toUInt64 >>> ((7 : Int32) &&& 0x3f).toInt64.toUInt64).toInt64).toUInt64 >>> ((7 : Int32) &&& 0x3f).toInt64.toUInt64).toInt64)), .second] [(.long (0 : Int64)), (.long ((((((p0.toUInt64 >>> ((7 : Int32) &&& 0x3f).toInt64.toUInt64).toInt64).toUInt64 >>> ((7 : Int32) &&& 0x3f).toInt64.toUInt64).toInt64).toUInt64 >>> ((7 : Int32) &&& 0x3f).toInt64.toUInt64).toInt64))])) _
        refine XS.lcmp X0.here hx rfl (hb hby d1_9) rfl ?_
        exact k
      by_cases hc10'' : ((((((p0.toUInt64 >>> ((7 : Int32) &&& 0x3f).toInt64.toUInt64).toInt64).toUInt64 >>> ((7 : Int32) &&& 0x3f).toInt64.toUInt64).toInt64).toUInt64 >>> ((7 : Int32) &&& 0x3f).toInt64.toUInt64).toInt64) = (0 : Int64)
      · have pre6 : ∀ t, Steps p.tables e below (s₁.setTop (mkF m 25 #[.val (.long p0), .second, .val (.int (3 : Int32)), .val (.long ((((((p0.toUInt64 >>> ((7 : Int32) &&& 0x3f).toInt64.toUInt64).toInt64).toUInt64 >>> ((7 : Int32) &&& 0x3f).toInt64.toUInt64).toInt64).toUInt64 >>> ((7 : Int32) &&& 0x3f).toInt64.toUInt64).toInt64)), .second] [(.int (3 : Int32))])) t → Steps p.tables e below (s₁.setTop (entryFrame m #[(.long p0)] 5)) t := by
          intro t k
          refine pre5 t ?_
          show Steps p.tables e below (s₁.setTop (mkF m 10 #[.val (.long p0), .second, .val (.int (3 : Int32)), .val (.long ((((((p0.toUInt64 >>> ((7 : Int32) &&& 0x3f).toInt64.toUInt64).toInt64).toUInt64 >>> ((7 : Int32) &&& 0x3f).toInt64.toUInt64).toInt64).toUInt64 >>> ((7 : Int32) &&& 0x3f).toInt64.toUInt64).toInt64)), .second] [(.int (lcmpW ((((((p0.toUInt64 >>> ((7 : Int32) &&& 0x3f).toInt64.toUInt64).toInt64).toUInt64 >>> ((7 : Int32) &&& 0x3f).toInt64.toUInt64).toInt64).toUInt64 >>> ((7 : Int32) &&& 0x3f).toInt64.toUInt64).toInt64) (0 : Int64)))])) _
          refine XS.ifYes X0.here hx rfl (pc0 := 10) (pc' := 24) rfl (hb hby d1_10) rfl ((if0 _ _).trans (teq ((lw_eq _ _).mpr hc10'')).1) (by decide) (by decide) ?_
          show Steps p.tables e below (s₁.setTop (mkF m 24 #[.val (.long p0), .second, .val (.int (3 : Int32)), .val (.long ((((((p0.toUInt64 >>> ((7 : Int32) &&& 0x3f).toInt64.toUInt64).toInt64).toUInt64 >>> ((7 : Int32) &&& 0x3f).toInt64.toUInt64).toInt64).toUInt64 >>> ((7 : Int32) &&& 0x3f).toInt64.toUInt64).toInt64)), .second] [])) _
          refine XS.iloadN X0.here hx rfl (hb hby d1_24) rfl ?_
          exact k
        obtain ⟨fs, hr, hrun, hended, hW, hsame⟩ := X0.leave (v := some (.int (3 : Int32))) (fun h => by rw [Bd.returns] at h; cases h)
        refine ⟨_, _, pre6 _ ?_, hrun, hended, _, _, rfl, ?_, ⟨_, rfl⟩, hW, hsame.mono (by decide) (by decide)⟩
        · exact retI X0 hx Bd.returns (hb hby d1_25) hr
        · show Q1 Z p0 h0 n0 _ s₁.heap _
          rw [e0]
          refine ⟨?_, N0, rfl⟩
          unfold own_size; rw [if_neg hc10, if_neg hc10', if_pos hc10'']
      · have pre7 : ∀ t, Steps p.tables e below (s₁.setTop (mkF m 10 #[.val (.long p0), .second, .val (.int (4 : Int32)), .val (.long ((((((((p0.toUInt64 >>> ((7 : Int32) &&& 0x3f).toInt64.toUInt64).toInt64).toUInt64 >>> ((7 : Int32) &&& 0x3f).toInt64.toUInt64).toInt64).toUInt64 >>> ((7 : Int32) &&& 0x3f).toInt64.toUInt64).toInt64).toUInt64 >>> ((7 : Int32) &&& 0x3f).toInt64.toUInt64).toInt64)), .second] [(.int (lcmpW ((((((((p0.toUInt64 >>> ((7 : Int32) &&& 0x3f).toInt64.toUInt64).toInt64).toUInt64 >>> ((7 : Int32) &&& 0x3f).toInt64.toUInt64).toInt64).toUInt64 >>> ((7 : Int32) &&& 0x3f).toInt64.toUInt64).toInt64).toUInt64 >>> ((7 : Int32) &&& 0x3f).toInt64.toUInt64).toInt64) (0 : Int64)))])) t → Steps p.tables e below (s₁.setTop (entryFrame m #[(.long p0)] 5)) t := by
          intro t k
          refine pre5 t ?_
          show Steps p.tables e below (s₁.setTop (mkF m 10 #[.val (.long p0), .second, .val (.int (3 : Int32)), .val (.long ((((((p0.toUInt64 >>> ((7 : Int32) &&& 0x3f).toInt64.toUInt64).toInt64).toUInt64 >>> ((7 : Int32) &&& 0x3f).toInt64.toUInt64).toInt64).toUInt64 >>> ((7 : Int32) &&& 0x3f).toInt64.toUInt64).toInt64)), .second] [(.int (lcmpW ((((((p0.toUInt64 >>> ((7 : Int32) &&& 0x3f).toInt64.toUInt64).toInt64).toUInt64 >>> ((7 : Int32) &&& 0x3f).toInt64.toUInt64).toInt64).toUInt64 >>> ((7 : Int32) &&& 0x3f).toInt64.toUInt64).toInt64) (0 : Int64)))])) _
          refine XS.ifNo X0.here hx rfl (hb hby d1_10) rfl ((if0 _ _).trans (feq (fun q => hc10'' ((lw_eq _ _).mp q))).1) ?_
          show Steps p.tables e below (s₁.setTop (mkF m 13 #[.val (.long p0), .second, .val (.int (3 : Int32)), .val (.long ((((((p0.toUInt64 >>> ((7 : Int32) &&& 0x3f).toInt64.toUInt64).toInt64).toUInt64 >>> ((7 : Int32) &&& 0x3f).toInt64.toUInt64).toInt64).toUInt64 >>> ((7 : Int32) &&& 0x3f).toInt64.toUInt64).toInt64)), .second] [])) _
          refine XS.iinc X0.here hx rfl (hb hby d1_13) rfl (l' := #[.val (.long p0), .second, .val (.int (4 : Int32)), .val (.long ((((((p0.toUInt64 >>> ((7 : Int32) &&& 0x3f).toInt64.toUInt64).toInt64).toUInt64 >>> ((7 : Int32) &&& 0x3f).toInt64.toUInt64).toInt64).toUInt64 >>> ((7 : Int32) &&& 0x3f).toInt64.toUInt64).toInt64)), .second]) rfl ?_
          show Steps p.tables e below (s₁.setTop (mkF m 16 #[.val (.long p0), .second, .val (.int (4 : Int32)), .val (.long ((((((p0.toUInt64 >>> ((7 : Int32) &&& 0x3f).toInt64.toUInt64).toInt64).toUInt64 >>> ((7 : Int32) &&& 0x3f).toInt64.toUInt64).toInt64).toUInt64 >>> ((7 : Int32) &&& 0x3f).toInt64.toUInt64).toInt64)), .second] [])) _
          refine XS.lloadN X0.here hx rfl (hb hby d1_16) rfl ?_
          show Steps p.tables e below (s₁.setTop (mkF m 17 #[.val (.long p0), .second, .val (.int (4 : Int32)), .val (.long ((((((p0.toUInt64 >>> ((7 : Int32) &&& 0x3f).toInt64.toUInt64).toInt64).toUInt64 >>> ((7 : Int32) &&& 0x3f).toInt64.toUInt64).toInt64).toUInt64 >>> ((7 : Int32) &&& 0x3f).toInt64.toUInt64).toInt64)), .second] [(.long ((((((p0.toUInt64 >>> ((7 : Int32) &&& 0x3f).toInt64.toUInt64).toInt64).toUInt64 >>> ((7 : Int32) &&& 0x3f).toInt64.toUInt64).toInt64).toUInt64 >>> ((7 : Int32) &&& 0x3f).toInt64.toUInt64).toInt64))])) _
          refine XS.bipush X0.here hx rfl (hb hby d1_17) ?_
          show Steps p.tables e below (s₁.setTop (mkF m 19 #[.val (.long p0), .second, .val (.int (4 : Int32)), .val (.long ((((((p0.toUInt64 >>> ((7 : Int32) &&& 0x3f).toInt64.toUInt64).toInt64).toUInt64 >>> ((7 : Int32) &&& 0x3f).toInt64.toUInt64).toInt64).toUInt64 >>> ((7 : Int32) &&& 0x3f).toInt64.toUInt64).toInt64)), .second] [(.int (7 : Int32)), (.long ((((((p0.toUInt64 >>> ((7 : Int32) &&& 0x3f).toInt64.toUInt64).toInt64).toUInt64 >>> ((7 : Int32) &&& 0x3f).toInt64.toUInt64).toInt64).toUInt64 >>> ((7 : Int32) &&& 0x3f).toInt64.toUInt64).toInt64))])) _
          refine XS.lushr X0.here hx rfl (hb hby d1_19) rfl ?_
          show Steps p.tables e below (s₁.setTop (mkF m 20 #[.val (.long p0), .second, .val (.int (4 : Int32)), .val (.long ((((((p0.toUInt64 >>> ((7 : Int32) &&& 0x3f).toInt64.toUInt64).toInt64).toUInt64 >>> ((7 : Int32) &&& 0x3f).toInt64.toUInt64).toInt64).toUInt64 >>> ((7 : Int32) &&& 0x3f).toInt64.toUInt64).toInt64)), .second] [(.long ((((((((p0.toUInt64 >>> ((7 : Int32) &&& 0x3f).toInt64.toUInt64).toInt64).toUInt64 >>> ((7 : Int32) &&& 0x3f).toInt64.toUInt64).toInt64).toUInt64 >>> ((7 : Int32) &&& 0x3f).toInt64.toUInt64).toInt64).toUInt64 >>> ((7 : Int32) &&& 0x3f).toInt64.toUInt64).toInt64))])) _
          refine XS.lstoreN X0.here hx rfl (hb hby d1_20) rfl (l' := #[.val (.long p0), .second, .val (.int (4 : Int32)), .val (.long ((((((((p0.toUInt64 >>> ((7 : Int32) &&& 0x3f).toInt64.toUInt64).toInt64).toUInt64 >>> ((7 : Int32) &&& 0x3f).toInt64.toUInt64).toInt64).toUInt64 >>> ((7 : Int32) &&& 0x3f).toInt64.toUInt64).toInt64).toUInt64 >>> ((7 : Int32) &&& 0x3f).toInt64.toUInt64).toInt64)), .second]) rfl ?_
          show Steps p.tables e below (s₁.setTop (mkF m 21 #[.val (.long p0), .second, .val (.int (4 : Int32)), .val (.long ((((((((p0.toUInt64 >>> ((7 : Int32) &&& 0x3f).toInt64.toUInt64).toInt64).toUInt64 >>> ((7 : Int32) &&& 0x3f).toInt64.toUInt64).toInt64).toUInt64 >>> ((7 : Int32) &&& 0x3f).toInt64.toUInt64).toInt64).toUInt64 >>> ((7 : Int32) &&& 0x3f).toInt64.toUInt64).toInt64)), .second] [])) _
          refine XS.goto X0.here hx rfl (pc0 := 21) (pc' := 7) rfl (hb hby d1_21) (by decide) (by decide) ?_
          show Steps p.tables e below (s₁.setTop (mkF m 7 #[.val (.long p0), .second, .val (.int (4 : Int32)), .val (.long ((((((((p0.toUInt64 >>> ((7 : Int32) &&& 0x3f).toInt64.toUInt64).toInt64).toUInt64 >>> ((7 : Int32) &&& 0x3f).toInt64.toUInt64).toInt64).toUInt64 >>> ((7 : Int32) &&& 0x3f).toInt64.toUInt64).toInt64).toUInt64 >>> ((7 : Int32) &&& 0x3f).toInt64.toUInt64).toInt64)), .second] [])) _
          refine XS.lloadN X0.here hx rfl (hb hby d1_7) rfl ?_
          show Steps p.tables e below (s₁.setTop (mkF m 8 #[.val (.long p0), .second, .val (.int (4 : Int32)), .val (.long ((((((((p0.toUInt64 >>> ((7 : Int32) &&& 0x3f).toInt64.toUInt64).toInt64).toUInt64 >>> ((7 : Int32) &&& 0x3f).toInt64.toUInt64).toInt64).toUInt64 >>> ((7 : Int32) &&& 0x3f).toInt64.toUInt64).toInt64).toUInt64 >>> ((7 : Int32) &&& 0x3f).toInt64.toUInt64).toInt64)), .second] [(.long ((((((((p0.toUInt64 >>> ((7 : Int32) &&& 0x3f).toInt64.toUInt64).toInt64).toUInt64 >>> ((7 : Int32) &&& 0x3f).toInt64.toUInt64).toInt64).toUInt64 >>> ((7 : Int32) &&& 0x3f).toInt64.toUInt64).toInt64).toUInt64 >>> ((7 : Int32) &&& 0x3f).toInt64.toUInt64).toInt64))])) _
          refine XS.lconst X0.here hx rfl (hb hby d1_8) ?_
          show Steps p.tables e below (s₁.setTop (mkF m 9 #[.val (.long p0), .second, .val (.int (4 : Int32)), .val (.long ((((((((p0.toUInt64 >>> ((7 : Int32) &&& 0x3f).toInt64.toUInt64).toInt64).toUInt64 >>> ((7 : Int32) &&& 0x3f).toInt64.toUInt64).toInt64).toUInt64 >>> ((7 : Int32) &&& 0x3f).toInt64.toUInt64).toInt64).toUInt64 >>> ((7 : Int32) &&& 0x3f).toInt64.toUInt64).toInt64)), .second] [(.long (0 : Int64)), (.long ((((((((p0.toUInt64 >>> ((7 : Int32) &&& 0x3f).toInt64.toUInt64).toInt64).toUInt64 >>> ((7 : Int32) &&& 0x3f).toInt64.toUInt64).toInt64).toUInt64 >>> ((7 : Int32) &&& 0x3f).toInt64.toUInt64).toInt64).toUInt64 >>> ((7 : Int32) &&& 0x3f).toInt64.toUInt64).toInt64))])) _
          refine XS.lcmp X0.here hx rfl (hb hby d1_9) rfl ?_
          exact k
        by_cases hc10''' : ((((((((p0.toUInt64 >>> ((7 : Int32) &&& 0x3f).toInt64.toUInt64).toInt64).toUInt64 >>> ((7 : Int32) &&& 0x3f).toInt64.toUInt64).toInt64).toUInt64 >>> ((7 : Int32) &&& 0x3f).toInt64.toUInt64).toInt64).toUInt64 >>> ((7 : Int32) &&& 0x3f).toInt64.toUInt64).toInt64) = (0 : Int64)
        · have pre8 : ∀ t, Steps p.tables e below (s₁.setTop (mkF m 25 #[.val (.long p0), .second, .val (.int (4 : Int32)), .val (.long ((((((((p0.toUInt64 >>> ((7 : Int32) &&& 0x3f).toInt64.toUInt64).toInt64).toUInt64 >>> ((7 : Int32) &&& 0x3f).toInt64.toUInt64).toInt64).toUInt64 >>> ((7 : Int32) &&& 0x3f).toInt64.toUInt64).toInt64).toUInt64 >>> ((7 : Int32) &&& 0x3f).toInt64.toUInt64).toInt64)), .second] [(.int (4 : Int32))])) t → Steps p.tables e below (s₁.setTop (entryFrame m #[(.long p0)] 5)) t := by
            intro t k
            refine pre7 t ?_
            show Steps p.tables e below (s₁.setTop (mkF m 10 #[.val (.long p0), .second, .val (.int (4 : Int32)), .val (.long ((((((((p0.toUInt64 >>> ((7 : Int32) &&& 0x3f).toInt64.toUInt64).toInt64).toUInt64 >>> ((7 : Int32) &&& 0x3f).toInt64.toUInt64).toInt64).toUInt64 >>> ((7 : Int32) &&& 0x3f).toInt64.toUInt64).toInt64).toUInt64 >>> ((7 : Int32) &&& 0x3f).toInt64.toUInt64).toInt64)), .second] [(.int (lcmpW ((((((((p0.toUInt64 >>> ((7 : Int32) &&& 0x3f).toInt64.toUInt64).toInt64).toUInt64 >>> ((7 : Int32) &&& 0x3f).toInt64.toUInt64).toInt64).toUInt64 >>> ((7 : Int32) &&& 0x3f).toInt64.toUInt64).toInt64).toUInt64 >>> ((7 : Int32) &&& 0x3f).toInt64.toUInt64).toInt64) (0 : Int64)))])) _
            refine XS.ifYes X0.here hx rfl (pc0 := 10) (pc' := 24) rfl (hb hby d1_10) rfl ((if0 _ _).trans (teq ((lw_eq _ _).mpr hc10''')).1) (by decide) (by decide) ?_
            show Steps p.tables e below (s₁.setTop (mkF m 24 #[.val (.long p0), .second, .val (.int (4 : Int32)), .val (.long ((((((((p0.toUInt64 >>> ((7 : Int32) &&& 0x3f).toInt64.toUInt64).toInt64).toUInt64 >>> ((7 : Int32) &&& 0x3f).toInt64.toUInt64).toInt64).toUInt64 >>> ((7 : Int32) &&& 0x3f).toInt64.toUInt64).toInt64).toUInt64 >>> ((7 : Int32) &&& 0x3f).toInt64.toUInt64).toInt64)), .second] [])) _
            refine XS.iloadN X0.here hx rfl (hb hby d1_24) rfl ?_
            exact k
          obtain ⟨fs, hr, hrun, hended, hW, hsame⟩ := X0.leave (v := some (.int (4 : Int32))) (fun h => by rw [Bd.returns] at h; cases h)
          refine ⟨_, _, pre8 _ ?_, hrun, hended, _, _, rfl, ?_, ⟨_, rfl⟩, hW, hsame.mono (by decide) (by decide)⟩
          · exact retI X0 hx Bd.returns (hb hby d1_25) hr
          · show Q1 Z p0 h0 n0 _ s₁.heap _
            rw [e0]
            refine ⟨?_, N0, rfl⟩
            unfold own_size; rw [if_neg hc10, if_neg hc10', if_neg hc10'', if_pos hc10''']
        · have pre9 : ∀ t, Steps p.tables e below (s₁.setTop (mkF m 10 #[.val (.long p0), .second, .val (.int (5 : Int32)), .val (.long ((((((((((p0.toUInt64 >>> ((7 : Int32) &&& 0x3f).toInt64.toUInt64).toInt64).toUInt64 >>> ((7 : Int32) &&& 0x3f).toInt64.toUInt64).toInt64).toUInt64 >>> ((7 : Int32) &&& 0x3f).toInt64.toUInt64).toInt64).toUInt64 >>> ((7 : Int32) &&& 0x3f).toInt64.toUInt64).toInt64).toUInt64 >>> ((7 : Int32) &&& 0x3f).toInt64.toUInt64).toInt64)), .second] [(.int (lcmpW ((((((((((p0.toUInt64 >>> ((7 : Int32) &&& 0x3f).toInt64.toUInt64).toInt64).toUInt64 >>> ((7 : Int32) &&& 0x3f).toInt64.toUInt64).toInt64).toUInt64 >>> ((7 : Int32) &&& 0x3f).toInt64.toUInt64).toInt64).toUInt64 >>> ((7 : Int32) &&& 0x3f).toInt64.toUInt64).toInt64).toUInt64 >>> ((7 : Int32) &&& 0x3f).toInt64.toUInt64).toInt64) (0 : Int64)))])) t → Steps p.tables e below (s₁.setTop (entryFrame m #[(.long p0)] 5)) t := by
            intro t k
            refine pre7 t ?_
            show Steps p.tables e below (s₁.setTop (mkF m 10 #[.val (.long p0), .second, .val (.int (4 : Int32)), .val (.long ((((((((p0.toUInt64 >>> ((7 : Int32) &&& 0x3f).toInt64.toUInt64).toInt64).toUInt64 >>> ((7 : Int32) &&& 0x3f).toInt64.toUInt64).toInt64).toUInt64 >>> ((7 : Int32) &&& 0x3f).toInt64.toUInt64).toInt64).toUInt64 >>> ((7 : Int32) &&& 0x3f).toInt64.toUInt64).toInt64)), .second] [(.int (lcmpW ((((((((p0.toUInt64 >>> ((7 : Int32) &&& 0x3f).toInt64.toUInt64).toInt64).toUInt64 >>> ((7 : Int32) &&& 0x3f).toInt64.toUInt64).toInt64).toUInt64 >>> ((7 : Int32) &&& 0x3f).toInt64.toUInt64).toInt64).toUInt64 >>> ((7 : Int32) &&& 0x3f).toInt64.toUInt64).toInt64) (0 : Int64)))])) _
            refine XS.ifNo X0.here hx rfl (hb hby d1_10) rfl ((if0 _ _).trans (feq (fun q => hc10''' ((lw_eq _ _).mp q))).1) ?_
            show Steps p.tables e below (s₁.setTop (mkF m 13 #[.val (.long p0), .second, .val (.int (4 : Int32)), .val (.long ((((((((p0.toUInt64 >>> ((7 : Int32) &&& 0x3f).toInt64.toUInt64).toInt64).toUInt64 >>> ((7 : Int32) &&& 0x3f).toInt64.toUInt64).toInt64).toUInt64 >>> ((7 : Int32) &&& 0x3f).toInt64.toUInt64).toInt64).toUInt64 >>> ((7 : Int32) &&& 0x3f).toInt64.toUInt64).toInt64)), .second] [])) _
            refine XS.iinc X0.here hx rfl (hb hby d1_13) rfl (l' := #[.val (.long p0), .second, .val (.int (5 : Int32)), .val (.long ((((((((p0.toUInt64 >>> ((7 : Int32) &&& 0x3f).toInt64.toUInt64).toInt64).toUInt64 >>> ((7 : Int32) &&& 0x3f).toInt64.toUInt64).toInt64).toUInt64 >>> ((7 : Int32) &&& 0x3f).toInt64.toUInt64).toInt64).toUInt64 >>> ((7 : Int32) &&& 0x3f).toInt64.toUInt64).toInt64)), .second]) rfl ?_
            show Steps p.tables e below (s₁.setTop (mkF m 16 #[.val (.long p0), .second, .val (.int (5 : Int32)), .val (.long ((((((((p0.toUInt64 >>> ((7 : Int32) &&& 0x3f).toInt64.toUInt64).toInt64).toUInt64 >>> ((7 : Int32) &&& 0x3f).toInt64.toUInt64).toInt64).toUInt64 >>> ((7 : Int32) &&& 0x3f).toInt64.toUInt64).toInt64).toUInt64 >>> ((7 : Int32) &&& 0x3f).toInt64.toUInt64).toInt64)), .second] [])) _
            refine XS.lloadN X0.here hx rfl (hb hby d1_16) rfl ?_
            show Steps p.tables e below (s₁.setTop (mkF m 17 #[.val (.long p0), .second, .val (.int (5 : Int32)), .val (.long ((((((((p0.toUInt64 >>> ((7 : Int32) &&& 0x3f).toInt64.toUInt64).toInt64).toUInt64 >>> ((7 : Int32) &&& 0x3f).toInt64.toUInt64).toInt64).toUInt64 >>> ((7 : Int32) &&& 0x3f).toInt64.toUInt64).toInt64).toUInt64 >>> ((7 : Int32) &&& 0x3f).toInt64.toUInt64).toInt64)), .second] [(.long ((((((((p0.toUInt64 >>> ((7 : Int32) &&& 0x3f).toInt64.toUInt64).toInt64).toUInt64 >>> ((7 : Int32) &&& 0x3f).toInt64.toUInt64).toInt64).toUInt64 >>> ((7 : Int32) &&& 0x3f).toInt64.toUInt64).toInt64).toUInt64 >>> ((7 : Int32) &&& 0x3f).toInt64.toUInt64).toInt64))])) _
            refine XS.bipush X0.here hx rfl (hb hby d1_17) ?_
            show Steps p.tables e below (s₁.setTop (mkF m 19 #[.val (.long p0), .second, .val (.int (5 : Int32)), .val (.long ((((((((p0.toUInt64 >>> ((7 : Int32) &&& 0x3f).toInt64.toUInt64).toInt64).toUInt64 >>> ((7 : Int32) &&& 0x3f).toInt64.toUInt64).toInt64).toUInt64 >>> ((7 : Int32) &&& 0x3f).toInt64.toUInt64).toInt64).toUInt64 >>> ((7 : Int32) &&& 0x3f).toInt64.toUInt64).toInt64)), .second] [(.int (7 : Int32)), (.long ((((((((p0.toUInt64 >>> ((7 : Int32) &&& 0x3f).toInt64.toUInt64).toInt64).toUInt64 >>> ((7 : Int32) &&& 0x3f).toInt64.toUInt64).toInt64).toUInt64 >>> ((7 : Int32) &&& 0x3f).toInt64.toUInt64).toInt64).toUInt64 >>> ((7 : Int32) &&& 0x3f).toInt64.toUInt64).toInt64))])) _
            refine XS.lushr X0.here hx rfl (hb hby d1_19) rfl ?_
            show Steps p.tables e below (s₁.setTop (mkF m 20 #[.val (.long p0), .second, .val (.int (5 : Int32)), .val (.long ((((((((p0.toUInt64 >>> ((7 : Int32) &&& 0x3f).toInt64.toUInt64).toInt64).toUInt64 >>> ((7 : Int32) &&& 0x3f).toInt64.toUInt64).toInt64).toUInt64 >>> ((7 : Int32) &&& 0x3f).toInt64.toUInt64).toInt64).toUInt64 >>> ((7 : Int32) &&& 0x3f).toInt64.toUInt64).toInt64)), .second] [(.long ((((((((((p0.toUInt64 >>> ((7 : Int32) &&& 0x3f).toInt64.toUInt64).toInt64).toUInt64 >>> ((7 : Int32) &&& 0x3f).toInt64.toUInt64).toInt64).toUInt64 >>> ((7 : Int32) &&& 0x3f).toInt64.toUInt64).toInt64).toUInt64 >>> ((7 : Int32) &&& 0x3f).toInt64.toUInt64).toInt64).toUInt64 >>> ((7 : Int32) &&& 0x3f).toInt64.toUInt64).toInt64))])) _
            refine XS.lstoreN X0.here hx rfl (hb hby d1_20) rfl (l' := #[.val (.long p0), .second, .val (.int (5 : Int32)), .val (.long ((((((((((p0.toUInt64 >>> ((7 : Int32) &&& 0x3f).toInt64.toUInt64).toInt64).toUInt64 >>> ((7 : Int32) &&& 0x3f).toInt64.toUInt64).toInt64).toUInt64 >>> ((7 : Int32) &&& 0x3f).toInt64.toUInt64).toInt64).toUInt64 >>> ((7 : Int32) &&& 0x3f).toInt64.toUInt64).toInt64).toUInt64 >>> ((7 : Int32) &&& 0x3f).toInt64.toUInt64).toInt64)), .second]) rfl ?_
            show Steps p.tables e below (s₁.setTop (mkF m 21 #[.val (.long p0), .second, .val (.int (5 : Int32)), .val (.long ((((((((((p0.toUInt64 >>> ((7 : Int32) &&& 0x3f).toInt64.toUInt64).toInt64).toUInt64 >>> ((7 : Int32) &&& 0x3f).toInt64.toUInt64).toInt64).toUInt64 >>> ((7 : Int32) &&& 0x3f).toInt64.toUInt64).toInt64).toUInt64 >>> ((7 : Int32) &&& 0x3f).toInt64.toUInt64).toInt64).toUInt64 >>> ((7 : Int32) &&& 0x3f).toInt64.toUInt64).toInt64)), .second] [])) _
            refine XS.goto X0.here hx rfl (pc0 := 21) (pc' := 7) rfl (hb hby d1_21) (by decide) (by decide) ?_
            show Steps p.tables e below (s₁.setTop (mkF m 7 #[.val (.long p0), .second, .val (.int (5 : Int32)), .val (.long ((((((((((p0.toUInt64 >>> ((7 : Int32) &&& 0x3f).toInt64.toUInt64).toInt64).toUInt64 >>> ((7 : Int32) &&& 0x3f).toInt64.toUInt64).toInt64).toUInt64 >>> ((7 : Int32) &&& 0x3f).toInt64.toUInt64).toInt64).toUInt64 >>> ((7 : Int32) &&& 0x3f).toInt64.toUInt64).toInt64).toUInt64 >>> ((7 : Int32) &&& 0x3f).toInt64.toUInt64).toInt64)), .second] [])) _
            refine XS.lloadN X0.here hx rfl (hb hby d1_7) rfl ?_
            show Steps p.tables e below (s₁.setTop (mkF m 8 #[.val (.long p0), .second, .val (.int (5 : Int32)), .val (.long ((((((((((p0.toUInt64 >>> ((7 : Int32) &&& 0x3f).toInt64.toUInt64).toInt64).toUInt64 >>> ((7 : Int32) &&& 0x3f).toInt64.toUInt64).toInt64).toUInt64 >>> ((7 : Int32) &&& 0x3f).toInt64.toUInt64).toInt64).toUInt64 >>> ((7 : Int32) &&& 0x3f).toInt64.toUInt64).toInt64).toUInt64 >>> ((7 : Int32) &&& 0x3f).toInt64.toUInt64).toInt64)), .second] [(.long ((((((((((p0.toUInt64 >>> ((7 : Int32) &&& 0x3f).toInt64.toUInt64).toInt64).toUInt64 >>> ((7 : Int32) &&& 0x3f).toInt64.toUInt64).toInt64).toUInt64 >>> ((7 : Int32) &&& 0x3f).toInt64.toUInt64).toInt64).toUInt64 >>> ((7 : Int32) &&& 0x3f).toInt64.toUInt64).toInt64).toUInt64 >>> ((7 : Int32) &&& 0x3f).toInt64.toUInt64).toInt64))])) _
            refine XS.lconst X0.here hx rfl (hb hby d1_8) ?_
            show Steps p.tables e below (s₁.setTop (mkF m 9 #[.val (.long p0), .second, .val (.int (5 : Int32)), .val (.long ((((((((((p0.toUInt64 >>> ((7 : Int32) &&& 0x3f).toInt64.toUInt64).toInt64).toUInt64 >>> ((7 : Int32) &&& 0x3f).toInt64.toUInt64).toInt64).toUInt64 >>> ((7 : Int32) &&& 0x3f).toInt64.toUInt64).toInt64).toUInt64 >>> ((7 : Int32) &&& 0x3f).toInt64.toUInt64).toInt64).toUInt64 >>> ((7 : Int32) &&& 0x3f).toInt64.toUInt64).toInt64)), .second] [(.long (0 : Int64)), (.long ((((((((((p0.toUInt64 >>> ((7 : Int32) &&& 0x3f).toInt64.toUInt64).toInt64).toUInt64 >>> ((7 : Int32) &&& 0x3f).toInt64.toUInt64).toInt64).toUInt64 >>> ((7 : Int32) &&& 0x3f).toInt64.toUInt64).toInt64).toUInt64 >>> ((7 : Int32) &&& 0x3f).toInt64.toUInt64).toInt64).toUInt64 >>> ((7 : Int32) &&& 0x3f).toInt64.toUInt64).toInt64))])) _
            refine XS.lcmp X0.here hx rfl (hb hby d1_9) rfl ?_
            exact k
          by_cases hc10'''' : ((((((((((p0.toUInt64 >>> ((7 : Int32) &&& 0x3f).toInt64.toUInt64).toInt64).toUInt64 >>> ((7 : Int32) &&& 0x3f).toInt64.toUInt64).toInt64).toUInt64 >>> ((7 : Int32) &&& 0x3f).toInt64.toUInt64).toInt64).toUInt64 >>> ((7 : Int32) &&& 0x3f).toInt64.toUInt64).toInt64).toUInt64 >>> ((7 : Int32) &&& 0x3f).toInt64.toUInt64).toInt64) = (0 : Int64)
          · have pre10 : ∀ t, Steps p.tables e below (s₁.setTop (mkF m 25 #[.val (.long p0), .second, .val (.int (5 : Int32)), .val (.long ((((((((((p0.toUInt64 >>> ((7 : Int32) &&& 0x3f).toInt64.toUInt64).toInt64).toUInt64 >>> ((7 : Int32) &&& 0x3f).toInt64.toUInt64).toInt64).toUInt64 >>> ((7 : Int32) &&& 0x3f).toInt64.toUInt64).toInt64).toUInt64 >>> ((7 : Int32) &&& 0x3f).toInt64.toUInt64).toInt64).toUInt64 >>> ((7 : Int32) &&& 0x3f).toInt64.toUInt64).toInt64)), .second] [(.int (5 : Int32))])) t → Steps p.tables e below (s₁.setTop (entryFrame m #[(.long p0)] 5)) t := by
              intro t k
              refine pre9 t ?_
              show Steps p.tables e below (s₁.setTop (mkF m 10 #[.val (.long p0), .second, .val (.int (5 : Int32)), .val (.long ((((((((((p0.toUInt64 >>> ((7 : Int32) &&& 0x3f).toInt64.toUInt64).toInt64).toUInt64 >>> ((7 : Int32) &&& 0x3f).toInt64.toUInt64).toInt64).toUInt64 >>> ((7 : Int32) &&& 0x3f).toInt64.toUInt64).toInt64).toUInt64 >>> ((7 : Int32) &&& 0x3f).toInt64.toUInt64).toInt64).toUInt64 >>> ((7 : Int32) &&& 0x3f).toInt64.toUInt64).toInt64)), .second] [(.int (lcmpW ((((((((((p0.toUInt64 >>> ((7 : Int32) &&& 0x3f).toInt64.toUInt64).toInt64).toUInt64 >>> ((7 : Int32) &&& 0x3f).toInt64.toUInt64).toInt64).toUInt64 >>> ((7 : Int32) &&& 0x3f).toInt64.toUInt64).toInt64).toUInt64 >>> ((7 : Int32) &&& 0x3f).toInt64.toUInt64).toInt64).toUInt64 >>> ((7 : Int32) &&& 0x3f).toInt64.toUInt64).toInt64) (0 : Int64)))])) _
              refine XS.ifYes X0.here hx rfl (pc0 := 10) (pc' := 24) rfl (hb hby d1_10) rfl ((if0 _ _).trans (teq ((lw_eq _ _).mpr hc10'''')).1) (by decide) (by decide) ?_
              show Steps p.tables e below (s₁.setTop (mkF m 24 #[.val (.long p0), .second, .val (.int (5 : Int32)), .val (.long ((((((((((p0.toUInt64 >>> ((7 : Int32) &&& 0x3f).toInt64.toUInt64).toInt64).toUInt64 >>> ((7 : Int32) &&& 0x3f).toInt64.toUInt64).toInt64).toUInt64 >>> ((7 : Int32) &&& 0x3f).toInt64.toUInt64).toInt64).toUInt64 >>> ((7 : Int32) &&& 0x3f).toInt64.toUInt64).toInt64).toUInt64 >>> ((7 : Int32) &&& 0x3f).toInt64.toUInt64).toInt64)), .second] [])) _
              refine XS.iloadN X0.here hx rfl (hb hby d1_24) rfl ?_
              exact k
            obtain ⟨fs, hr, hrun, hended, hW, hsame⟩ := X0.leave (v := some (.int (5 : Int32))) (fun h => by rw [Bd.returns] at h; cases h)
            refine ⟨_, _, pre10 _ ?_, hrun, hended, _, _, rfl, ?_, ⟨_, rfl⟩, hW, hsame.mono (by decide) (by decide)⟩
            · exact retI X0 hx Bd.returns (hb hby d1_25) hr
            · show Q1 Z p0 h0 n0 _ s₁.heap _
              rw [e0]
              refine ⟨?_, N0, rfl⟩
              unfold own_size; rw [if_neg hc10, if_neg hc10', if_neg hc10'', if_neg hc10''', if_pos hc10'''']
          · have pre11 : ∀ t, Steps p.tables e below (s₁.setTop (mkF m 10 #[.val (.long p0), .second, .val (.int (6 : Int32)), .val (.long ((((((((((((p0.toUInt64 >>> ((7 : Int32) &&& 0x3f).toInt64.toUInt64).toInt64).toUInt64 >>> ((7 : Int32) &&& 0x3f).toInt64.toUInt64).toInt64).toUInt64 >>> ((7 : Int32) &&& 0x3f).toInt64.toUInt64).toInt64).toUInt64 >>> ((7 : Int32) &&& 0x3f).toInt64.toUInt64).toInt64).toUInt64 >>> ((7 : Int32) &&& 0x3f).toInt64.toUInt64).toInt64).toUInt64 >>> ((7 : Int32) &&& 0x3f).toInt64.toUInt64).toInt64)), .second] [(.int (lcmpW ((((((((((((p0.toUInt64 >>> ((7 : Int32) &&& 0x3f).toInt64.toUInt64).toInt64).toUInt64 >>> ((7 : Int32) &&& 0x3f).toInt64.toUInt64).toInt64).toUInt64 >>> ((7 : Int32) &&& 0x3f).toInt64.toUInt64).toInt64).toUInt64 >>> ((7 : Int32) &&& 0x3f).toInt64.toUInt64).toInt64).toUInt64 >>> ((7 : Int32) &&& 0x3f).toInt64.toUInt64).toInt64).toUInt64 >>> ((7 : Int32) &&& 0x3f).toInt64.toUInt64).toInt64) (0 : Int64)))])) t → Steps p.tables e below (s₁.setTop (entryFrame m #[(.long p0)] 5)) t := by
              intro t k
              refine pre9 t ?_
              show Steps p.tables e below (s₁.setTop (mkF m 10 #[.val (.long p0), .second, .val (.int (5 : Int32)), .val (.long ((((((((((p0.toUInt64 >>> ((7 : Int32) &&& 0x3f).toInt64.toUInt64).toInt64).toUInt64 >>> ((7 : Int32) &&& 0x3f).toInt64.toUInt64).toInt64).toUInt64 >>> ((7 : Int32) &&& 0x3f).toInt64.toUInt64).toInt64).toUInt64 >>> ((7 : Int32) &&& 0x3f).toInt64.toUInt64).toInt64).toUInt64 >>> ((7 : Int32) &&& 0x3f).toInt64.toUInt64).toInt64)), .second] [(.int (lcmpW ((((((((((p0.toUInt64 >>> ((7 : Int32) &&& 0x3f).toInt64.toUInt64).toInt64).toUInt64 >>> ((7 : Int32) &&& 0x3f).toInt64.toUInt64).toInt64).toUInt64 >>> ((7 : Int32) &&& 0x3f).toInt64.toUInt64).toInt64).toUInt64 >>> ((7 : Int32) &&& 0x3f).toInt64.toUInt64).toInt64).toUInt64 >>> ((7 : Int32) &&& 0x3f).toInt64.toUInt64).toInt64) (0 : Int64)))])) _
              refine XS.ifNo X0.here hx rfl (hb hby d1_10) rfl ((if0 _ _).trans (feq (fun q => hc10'''' ((lw_eq _ _).mp q))).1) ?_
              show Steps p.tables e below (s₁.setTop (mkF m 13 #[.val (.long p0), .second, .val (.int (5 : Int32)), .val (.long ((((((((((p0.toUInt64 >>> ((7 : Int32) &&& 0x3f).toInt64.toUInt64).toInt64).toUInt64 >>> ((7 : Int32) &&& 0x3f).toInt64.toUInt64).toInt64).toUInt64 >>> ((7 : Int32) &&& 0x3f).toInt64.toUInt64).toInt64).toUInt64 >>> ((7 : Int32) &&& 0x3f).toInt64.toUInt64).toInt64).toUInt64 >>> ((7 : Int32) &&& 0x3f).toInt64.toUInt64).toInt64)), .second] [])) _
              refine XS.iinc X0.here hx rfl (hb hby d1_13) rfl (l' := #[.val (.long p0), .second, .val (.int (6 : Int32)), .val (.long ((((((((((p0.toUInt64 >>> ((7 : Int32) &&& 0x3f).toInt64.toUInt64).toInt64).toUInt64 >>> ((7 : Int32) &&& 0x3f).toInt64.toUInt64).toInt64).toUInt64 >>> ((7 : Int32) &&& 0x3f).toInt64.toUInt64).toInt64).toUInt64 >>> ((7 : Int32) &&& 0x3f).toInt64.toUInt64).toInt64).toUInt64 >>> ((7 : Int32) &&& 0x3f).toInt64.toUInt64).toInt64)), .second]) rfl ?_
              show Steps p.tables e below (s₁.setTop (mkF m 16 #[.val (.long p0), .second, .val (.int (6 : Int32)), .val (.long ((((((((((p0.toUInt64 >>> ((7 : Int32) &&& 0x3f).toInt64.toUInt64).toInt64).toUInt64 >>> ((7 : Int32) &&& 0x3f).toInt64.toUInt64).toInt64).toUInt64 >>> ((7 : Int32) &&& 0x3f).toInt64.toUInt64).toInt64).toUInt64 >>> ((7 : Int32) &&& 0x3f).toInt64.toUInt64).toInt64).toUInt64 >>> ((7 : Int32) &&& 0x3f).toInt64.toUInt64).toInt64)), .second] [])) _
              refine XS.lloadN X0.here hx rfl (hb hby d1_16) rfl ?_
              show Steps p.tables e below (s₁.setTop (mkF m 17 #[.val (.long p0), .second, .val (.int (6 : Int32)), .val (.long ((((((((((p0.toUInt64 >>> ((7 : Int32) &&& 0x3f).toInt64.toUInt64).toInt64).toUInt64 >>> ((7 : Int32) &&& 0x3f).toInt64.toUInt64).toInt64).toUInt64 >>> ((7 : Int32) &&& 0x3f).toInt64.toUInt64).toInt64).toUInt64 >>> ((7 : Int32) &&& 0x3f).toInt64.toUInt64).toInt64).toUInt64 >>> ((7 : Int32) &&& 0x3f).toInt64.toUInt64).toInt64)), .second] [(.long ((((((((((p0.toUInt64 >>> ((7 : Int32) &&& 0x3f).toInt64.toUInt64).toInt64).toUInt64 >>> ((7 : Int32) &&& 0x3f).toInt64.toUInt64).toInt64).toUInt64 >>> ((7 : Int32) &&& 0x3f).toInt64.toUInt64).toInt64).toUInt64 >>> ((7 : Int32) &&& 0x3f).toInt64.toUInt64).toInt64).toUInt64 >>> ((7 : Int32) &&& 0x3f).toInt64.toUInt64).toInt64))])) _
              refine XS.bipush X0.here hx rfl (hb hby d1_17) ?_
              show Steps p.tables e below (s₁.setTop (mkF m 19 #[.val (.long p0), .second, .val (.int (6 : Int32)), .val (.long ((((((((((p0.toUInt64 >>> ((7 : Int32) &&& 0x3f).toInt64.toUInt64).toInt64).toUInt64 >>> ((7 : Int32) &&& 0x3f).toInt64.toUInt64).toInt64).toUInt64 >>> ((7 : Int32) &&& 0x3f).toInt64.toUInt64).toInt64).toUInt64 >>> ((7 : Int32) &&& 0x3f).toInt64.toUInt64).toInt64).toUInt64 >>> ((7 : Int32) &&& 0x3f).toInt64.toUInt64).toInt64)), .second] [(.int (7 : Int32)), (.long ((((((((((p0.toUInt64 >>> ((7 : Int32) &&& 0x3f).toInt64.toUInt64).toInt64).toUInt64 >>> ((7 : Int32) &&& 0x3f).toInt64.toUInt64).toInt64).toUInt64 >>> ((7 : Int32) &&& 0x3f).toInt64.toUInt64).toInt64).toUInt64 >>> ((7 : Int32) &&& 0x3f).toInt64.toUInt64).toInt64).toUInt64 >>> ((7 : Int32) &&& 0x3f).toInt64.toUInt64).toInt64))])) _
              refine XS.lushr X0.here hx rfl (hb hby d1_19) rfl ?_
              show Steps p.tables e below (s₁.setTop (mkF m 20 #[.val (.long p0), .second, .val (.int (6 : Int32)), .val (.long ((((((((((p0.toUInt64 >>> ((7 : Int32) &&& 0x3f).toInt64.toUInt64).toInt64).toUInt64 >>> ((7 : Int32) &&& 0x3f).toInt64.toUInt64).toInt64).toUInt64 >>> ((7 : Int32) &&& 0x3f).toInt64.toUInt64).toInt64).toUInt64 >>> ((7 : Int32) &&& 0x3f).toInt64.toUInt64).toInt64).toUInt64 >>> ((7 : Int32) &&& 0x3f).toInt64.toUInt64).toInt64)), .second] [(.long ((((((((((((p0.toUInt64 >>> ((7 : Int32) &&& 0x3f).toInt64.toUInt64).toInt64).toUInt64 >>> ((7 : Int32) &&& 0x3f).toInt64.toUInt64).toInt64).toUInt64 >>> ((7 : Int32) &&& 0x3f).toInt64.toUInt64).toInt64).toUInt64 >>> ((7 : Int32) &&& 0x3f).toInt64.toUInt64).toInt64).toUInt64 >>> ((7 : Int32) &&& 0x3f).toInt64.toUInt64).toInt64).toUInt64 >>> ((7 : Int32) &&& 0x3f).toInt64.toUInt64).toInt64))])) _
              refine XS.lstoreN X0.here hx rfl (hb hby d1_20) rfl (l' := #[.val (.long p0), .second, .val (.int (6 : Int32)), .val (.long ((((((((((((p0.toUInt64 >>> ((7 : Int32) &&& 0x3f).toInt64.toUInt64).toInt64).toUInt64 >>> ((7 : Int32) &&& 0x3f).toInt64.toUInt64).toInt64).toUInt64 >>> ((7 : Int32) &&& 0x3f).toInt64.toUInt64).toInt64).toUInt64 >>> ((7 : Int32) &&& 0x3f).toInt64.toUInt64).toInt64).toUInt64 >>> ((7 : Int32) &&& 0x3f).toInt64.toUInt64).toInt64).toUInt64 >>> ((7 : Int32) &&& 0x3f).toInt64.toUInt64).toInt64)), .second]) rfl ?_
              show Steps p.tables e below (s₁.setTop (mkF m 21 #[.val (.long p0), .second, .val (.int (6 : Int32)), .val (.long ((((((((((((p0.toUInt64 >>> ((7 : Int32) &&& 0x3f).toInt64.toUInt64).toInt64).toUInt64 >>> ((7 : Int32) &&& 0x3f).toInt64.toUInt64).toInt64).toUInt64 >>> ((7 : Int32) &&& 0x3f).toInt64.toUInt64).toInt64).toUInt64 >>> ((7 : Int32) &&& 0x3f).toInt64.toUInt64).toInt64).toUInt64 >>> ((7 : Int32) &&& 0x3f).toInt64.toUInt64).toInt64).toUInt64 >>> ((7 : Int32) &&& 0x3f).toInt64.toUInt64).toInt64)), .second] [])) _
              refine XS.goto X0.here hx rfl (pc0 := 21) (pc' := 7) rfl (hb hby d1_21) (by decide) (by decide) ?_
              show Steps p.tables e below (s₁.setTop (mkF m 7 #[.val (.long p0), .second, .val (.int (6 : Int32)), .val (.long ((((((((((((p0.toUInt64 >>> ((7 : Int32) &&& 0x3f).toInt64.toUInt64).toInt64).toUInt64 >>> ((7 : Int32) &&& 0x3f).toInt64.toUInt64).toInt64).toUInt64 >>> ((7 : Int32) &&& 0x3f).toInt64.toUInt64).toInt64).toUInt64 >>> ((7 : Int32) &&& 0x3f).toInt64.toUInt64).toInt64).toUInt64 >>> ((7 : Int32) &&& 0x3f).toInt64.toUInt64).toInt64).toUInt64 >>> ((7 : Int32) &&& 0x3f).toInt64.toUInt64).toInt64)), .second] [])) _
              refine XS.lloadN X0.here hx rfl (hb hby d1_7) rfl ?_
              show Steps p.tables e below (s₁.setTop (mkF m 8 #[.val (.long p0), .second, .val (.int (6 : Int32)), .val (.long ((((((((((((p0.toUInt64 >>> ((7 : Int32) &&& 0x3f).toInt64.toUInt64).toInt64).toUInt64 >>> ((7 : Int32) &&& 0x3f).toInt64.toUInt64).toInt64).toUInt64 >>> ((7 : Int32) &&& 0x3f).toInt64.toUInt64).toInt64).toUInt64 >>> ((7 : Int32) &&& 0x3f).toInt64.toUInt64).toInt64).toUInt64 >>> ((7 : Int32) &&& 0x3f).toInt64.toUInt64).toInt64).toUInt64 >>> ((7 : Int32) &&& 0x3f).toInt64.toUInt64).toInt64)), .second] [(.long ((((((((((((p0.toUInt64 >>> ((7 : Int32) &&& 0x3f).toInt64.toUInt64).toInt64).toUInt64 >>> ((7 : Int32) &&& 0x3f).toInt64.toUInt64).toInt64).toUInt64 >>> ((7 : Int32) &&& 0x3f).toInt64.toUInt64).toInt64).toUInt64 >>> ((7 : Int32) &&& 0x3f).toInt64.toUInt64).toInt64).toUInt64 >>> ((7 : Int32) &&& 0x3f).toInt64.toUInt64).toInt64).toUInt64 >>> ((7 : Int32) &&& 0x3f).toInt64.toUInt64).toInt64))])) _
              refine XS.lconst X0.here hx rfl (hb hby d1_8) ?_
              show Steps p.tables e below (s₁.setTop (mkF m 9 #[.val (.long p0), .second, .val (.int (6 : Int32)), .val (.long ((((((((((((p0.toUInt64 >>> ((7 : Int32) &&& 0x3f).toInt64.toUInt64).toInt64).toUInt64 >>> ((7 : Int32) &&& 0x3f).toInt64.toUInt64).toInt64).toUInt64 >>> ((7 : Int32) &&& 0x3f).toInt64.toUInt64).toInt64).toUInt64 >>> ((7 : Int32) &&& 0x3f).toInt64.toUInt64).toInt64).toUInt64 >>> ((7 : Int32) &&& 0x3f).toInt64.toUInt64).toInt64).toUInt64 >>> ((7 : Int32) &&& 0x3f).toInt64.toUInt64).toInt64)), .second] [(.long (0 : Int64)), (.long ((((((((((((p0.toUInt64 >>> ((7 : Int32) &&& 0x3f).toInt64.toUInt64).toInt64).toUInt64 >>> ((7 : Int32) &&& 0x3f).toInt64.toUInt64).toInt64).toUInt64 >>> ((7 : Int32) &&& 0x3f).toInt64.toUInt64).toInt64).toUInt64 >>> ((7 : Int32) &&& 0x3f).toInt64.toUInt64).toInt64).toUInt64 >>> ((7 : Int32) &&& 0x3f).toInt64.toUInt64).toInt64).toUInt64 >>> ((7 : Int32) &&& 0x3f).toInt64.toUInt64).toInt64))])) _
              refine XS.lcmp X0.here hx rfl (hb hby d1_9) rfl ?_
              exact k
            by_cases hc10''''' : ((((((((((((p0.toUInt64 >>> ((7 : Int32) &&& 0x3f).toInt64.toUInt64).toInt64).toUInt64 >>> ((7 : Int32) &&& 0x3f).toInt64.toUInt64).toInt64).toUInt64 >>> ((7 : Int32) &&& 0x3f).toInt64.toUInt64).toInt64).toUInt64 >>> ((7 : Int32) &&& 0x3f).toInt64.toUInt64).toInt64).toUInt64 >>> ((7 : Int32) &&& 0x3f).toInt64.toUInt64).toInt64).toUInt64 >>> ((7 : Int32) &&& 0x3f).toInt64.toUInt64).toInt64) = (0 : Int64)
            · have pre12 : ∀ t, Steps p.tables e below (s₁.setTop (mkF m 25 #[.val (.long p0), .second, .val (.int (6 : Int32)), .val (.long ((((((((((((p0.toUInt64 >>> ((7 : Int32) &&& 0x3f).toInt64.toUInt64).toInt64).toUInt64 >>> ((7 : Int32) &&& 0x3f).toInt64.toUInt64).toInt64).toUInt64 >>> ((7 : Int32) &&& 0x3f).toInt64.toUInt64).toInt64).toUInt64 >>> ((7 : Int32) &&& 0x3f).toInt64.toUInt64).toInt64).toUInt64 >>> ((7 : Int32) &&& 0x3f).toInt64.toUInt64).toInt64).toUInt64 >>> ((7 : Int32) &&& 0x3f).toInt64.toUInt64).toInt64)), .second] [(.int (6 : Int32))])) t → Steps p.tables e below (s₁.setTop (entryFrame m #[(.long p0)] 5)) t := by
                intro t k
                refine pre11 t ?_
                show Steps p.tables e below (s₁.setTop (mkF m 10 #[.val (.long p0), .second, .val (.int (6 : Int32)), .val (.long ((((((((((((p0.toUInt64 >>> ((7 : Int32) &&& 0x3f).toInt64.toUInt64).toInt64).toUInt64 >>> ((7 : Int32) &&& 0x3f).toInt64.toUInt64).toInt64).toUInt64 >>> ((7 : Int32) &&& 0x3f).toInt64.toUInt64).toInt64).toUInt64 >>> ((7 : Int32) &&& 0x3f).toInt64.toUInt64).toInt64).toUInt64 >>> ((7 : Int32) &&& 0x3f).toInt64.toUInt64).toInt64).toUInt64 >>> ((7 : Int32) &&& 0x3f).toInt64.toUInt64).toInt64)), .second] [(.int (lcmpW ((((((((((((p0.toUInt64 >>> ((7 : Int32) &&& 0x3f).toInt64.toUInt64).toInt64).toUInt64 >>> ((7 : Int32) &&& 0x3f).toInt64.toUInt64).toInt64).toUInt64 >>> ((7 : Int32) &&& 0x3f).toInt64.toUInt64).toInt64).toUInt64 >>> ((7 : Int32) &&& 0x3f).toInt64.toUInt64).toInt64).toUInt64 >>> ((7 : Int32) &&& 0x3f).toInt64.toUInt64).toInt64).toUInt64 >>> ((7 : Int32) &&& 0x3f).toInt64.toUInt64).toInt64) (0 : Int64)))])) _
                refine XS.ifYes X0.here hx rfl (pc0 := 10) (pc' := 24) rfl (hb hby d1_10) rfl ((if0 _ _).trans (teq ((lw_eq _ _).mpr hc10''''')).1) (by decide) (by decide) ?_
                show Steps p.tables e below (s₁.setTop (mkF m 24 #[.val (.long p0), .second, .val (.int (6 : Int32)), .val (.long ((((((((((((p0.toUInt64 >>> ((7 : Int32) &&& 0x3f).toInt64.toUInt64).toInt64).toUInt64 >>> ((7 : Int32) &&& 0x3f).toInt64.toUInt64).toInt64).toUInt64 >>> ((7 : Int32) &&& 0x3f).toInt64.toUInt64).toInt64).toUInt64 >>> ((7 : Int32) &&& 0x3f).toInt64.toUInt64).toInt64).toUInt64 >>> ((7 : Int32) &&& 0x3f).toInt64.toUInt64).toInt64).toUInt64 >>> ((7 : Int32) &&& 0x3f).toInt64.toUInt64).toInt64)), .second] [])) _
                refine XS.iloadN X0.here hx rfl (hb hby d1_24) rfl ?_
                exact k
              obtain ⟨fs, hr, hrun, hended, hW, hsame⟩ := X0.leave (v := some (.int (6 : Int32))) (fun h => by rw [Bd.returns] at h; cases h)
              refine ⟨_, _, pre12 _ ?_, hrun, hended, _, _, rfl, ?_, ⟨_, rfl⟩, hW, hsame.mono (by decide) (by decide)⟩
              · exact retI X0 hx Bd.returns (hb hby d1_25) hr
              · show Q1 Z p0 h0 n0 _ s₁.heap _
                rw [e0]
                refine ⟨?_, N0, rfl⟩
                unfold own_size; rw [if_neg hc10, if_neg hc10', if_neg hc10'', if_neg hc10''', if_neg hc10'''', if_pos hc10''''']
            · have pre13 : ∀ t, Steps p.tables e below (s₁.setTop (mkF m 10 #[.val (.long p0), .second, .val (.int (7 : Int32)), .val (.long ((((((((((((((p0.toUInt64 >>> ((7 : Int32) &&& 0x3f).toInt64.toUInt64).toInt64).toUInt64 >>> ((7 : Int32) &&& 0x3f).toInt64.toUInt64).toInt64).toUInt64 >>> ((7 : Int32) &&& 0x3f).toInt64.toUInt64).toInt64).toUInt64 >>> ((7 : Int32) &&& 0x3f).toInt64.toUInt64).toInt64).toUInt64 >>> ((7 : Int32) &&& 0x3f).toInt64.toUInt64).toInt64).toUInt64 >>> ((7 : Int32) &&& 0x3f).toInt64.toUInt64).toInt64).toUInt64 >>> ((7 : Int32) &&& 0x3f).toInt64.toUInt64).toInt64)), .second] [(.int (lcmpW ((((((((((((((p0.toUInt64 >>> ((7 : Int32) &&& 0x3f).toInt64.toUInt64).toInt64).toUInt64 >>> ((7 : Int32) &&& 0x3f).toInt64.toUInt64).toInt64).toUInt64 >>> ((7 : Int32) &&& 0x3f).toInt64.toUInt64).toInt64).toUInt64 >>> ((7 : Int32) &&& 0x3f).toInt64.toUInt64).toInt64).toUInt64 >>> ((7 : Int32) &&& 0x3f).toInt64.toUInt64).toInt64).toUInt64 >>> ((7 : Int32) &&& 0x3f).toInt64.toUInt64).toInt64).toUInt64 >>> ((7 : Int32) &&& 0x3f).toInt64.toUInt64).toInt64) (0 : Int64)))])) t → Steps p.tables e below (s₁.setTop (entryFrame m #[(.long p0)] 5)) t := by
                intro t k
                refine pre11 t ?_
                show Steps p.tables e below (s₁.setTop (mkF m 10 #[.val (.long p0), .second, .val (.int (6 : Int32)), .val (.long ((((((((((((p0.toUInt64 >>> ((7 : Int32) &&& 0x3f).toInt64.toUInt64).toInt64).toUInt64 >>> ((7 : Int32) &&& 0x3f).toInt64.toUInt64).toInt64).toUInt64 >>> ((7 : Int32) &&& 0x3f).toInt64.toUInt64).toInt64).toUInt64 >>> ((7 : Int32) &&& 0x3f).toInt64.toUInt64).toInt64).toUInt64 >>> ((7 : Int32) &&& 0x3f).toInt64.toUInt64).toInt64).toUInt64 >>> ((7 : Int32) &&& 0x3f).toInt64.toUInt64).toInt64)), .second] [(.int (lcmpW ((((((((((((p0.toUInt64 >>> ((7 : Int32) &&& 0x3f).toInt64.toUInt64).toInt64).toUInt64 >>> ((7 : Int32) &&& 0x3f).toInt64.toUInt64).toInt64).toUInt64 >>> ((7 : Int32) &&& 0x3f).toInt64.toUInt64).toInt64).toUInt64 >>> ((7 : Int32) &&& 0x3f).toInt64.toUInt64).toInt64).toUInt64 >>> ((7 : Int32) &&& 0x3f).toInt64.toUInt64).toInt64).toUInt64 >>> ((7 : Int32) &&& 0x3f).toInt64.toUInt64).toInt64) (0 : Int64)))])) _
                refine XS.ifNo X0.here hx rfl (hb hby d1_10) rfl ((if0 _ _).trans (feq (fun q => hc10''''' ((lw_eq _ _).mp q))).1) ?_
                show Steps p.tables e below (s₁.setTop (mkF m 13 #[.val (.long p0), .second, .val (.int (6 : Int32)), .val (.long ((((((((((((p0.toUInt64 >>> ((7 : Int32) &&& 0x3f).toInt64.toUInt64).toInt64).toUInt64 >>> ((7 : Int32) &&& 0x3f).toInt64.toUInt64).toInt64).toUInt64 >>> ((7 : Int32) &&& 0x3f).toInt64.toUInt64).toInt64).toUInt64 >>> ((7 : Int32) &&& 0x3f).toInt64.toUInt64).toInt64).toUInt64 >>> ((7 : Int32) &&& 0x3f).toInt64.toUInt64).toInt64).toUInt64 >>> ((7 : Int32) &&& 0x3f).toInt64.toUInt64).toInt64)), .second] [])) _
                refine XS.iinc X0.here hx rfl (hb hby d1_13) rfl (l' := #[.val (.long p0), .second, .val (.int (7 : Int32)), .val (.long ((((((((((((p0.toUInt64 >>> ((7 : Int32) &&& 0x3f).toInt64.toUInt64).toInt64).toUInt64 >>> ((7 : Int32) &&& 0x3f).toInt64.toUInt64).toInt64).toUInt64 >>> ((7 : Int32) &&& 0x3f).toInt64.toUInt64).toInt64).toUInt64 >>> ((7 : Int32) &&& 0x3f).toInt64.toUInt64).toInt64).toUInt64 >>> ((7 : Int32) &&& 0x3f).toInt64.toUInt64).toInt64).toUInt64 >>> ((7 : Int32) &&& 0x3f).toInt64.toUInt64).toInt64)), .second]) rfl ?_
                show Steps p.tables e below (s₁.setTop (mkF m 16 #[.val (.long p0), .second, .val (.int (7 : Int32)), .val (.long ((((((((((((p0.toUInt64 >>> ((7 : Int32) &&& 0x3f).toInt64.toUInt64).toInt64).toUInt64 >>> ((7 : Int32) &&& 0x3f).toInt64.toUInt64).toInt64).toUInt64 >>> ((7 : Int32) &&& 0x3f).toInt64.toUInt64).toInt64).toUInt64 >>> ((7 : Int32) &&& 0x3f).toInt64.toUInt64).toInt64).toUInt64 >>> ((7 : Int32) &&& 0x3f).toInt64.toUInt64).toInt64).toUInt64 >>> ((7 : Int32) &&& 0x3f).toInt64.toUInt64).toInt64)), .second] [])) _
                refine XS.lloadN X0.here hx rfl (hb hby d1_16) rfl ?_
                show Steps p.tables e below (s₁.setTop (mkF m 17 #[.val (.long p0), .second, .val (.int (7 : Int32)), .val (.long ((((((((((((p0.toUInt64 >>> ((7 : Int32) &&& 0x3f).toInt64.toUInt64).toInt64).toUInt64 >>> ((7 : Int32) &&& 0x3f).toInt64.toUInt64).toInt64).toUInt64 >>> ((7 : Int32) &&& 0x3f).toInt64.toUInt64).toInt64).toUInt64 >>> ((7 : Int32) &&& 0x3f).toInt64.toUInt64).toInt64).toUInt64 >>> ((7 : Int32) &&& 0x3f).toInt64.toUInt64).toInt64).toUInt64 >>> ((7 : Int32) &&& 0x3f).toInt64.toUInt64).toInt64)), .second] [(.long ((((((((((((p0.toUInt64 >>> ((7 : Int32) &&& 0x3f).toInt64.toUInt64).toInt64).toUInt64 >>> ((7 : Int32) &&& 0x3f).toInt64.toUInt64).toInt64).toUInt64 >>> ((7 : Int32) &&& 0x3f).toInt64.toUInt64).toInt64).toUInt64 >>> ((7 : Int32) &&& 0x3f).toInt64.toUInt64).toInt64).toUInt64 >>> ((7 : Int32) &&& 0x3f).toInt64.toUInt64).toInt64).toUInt64 >>> ((7 : Int32) &&& 0x3f).toInt64.toUInt64).toInt64))])) _
                refine XS.bipush X0.here hx rfl (hb hby d1_17) ?_
                show Steps p.tables e below (s₁.setTop (mkF m 19 #[.val (.long p0), .second, .val (.int (7 : Int32)), .val (.long ((((((((((((p0.toUInt64 >>> ((7 : Int32) &&& 0x3f).toInt64.toUInt64).toInt64).toUInt64 >>> ((7 : Int32) &&& 0x3f).toInt64.toUInt64).toInt64).toUInt64 >>> ((7 : Int32) &&& 0x3f).toInt64.toUInt64).toInt64).toUInt64 >>> ((7 : Int32) &&& 0x3f).toInt64.toUInt64).toInt64).toUInt64 >>> ((7 : Int32) &&& 0x3f).toInt64.toUInt64).toInt64).toUInt64 >>> ((7 : Int32) &&& 0x3f).toInt64.toUInt64).toInt64)), .second] [(.int (7 : Int32)), (.long ((((((((((((p0.toUInt64 >>> ((7 : Int32) &&& 0x3f).toInt64.toUInt64).toInt64).toUInt64 >>> ((7 : Int32) &&& 0x3f).toInt64.toUInt64).toInt64).toUInt64 >>> ((7 : Int32) &&& 0x3f).toInt64.toUInt64).toInt64).toUInt64 >>> ((7 : Int32) &&& 0x3f).toInt64.toUInt64).toInt64).toUInt64 >>> ((7 : Int32) &&& 0x3f).toInt64.toUInt64).toInt64).toUInt64 >>> ((7 : Int32) &&& 0x3f).toInt64.toUInt64).toInt64))])) _
                refine XS.lushr X0.here hx rfl (hb hby d1_19) rfl ?_
                show Steps p.tables e below (s₁.setTop (mkF m 20 #[.val (.long p0), .second, .val (.int (7 : Int32)), .val (.long ((((((((((((p0.toUInt64 >>> ((7 : Int32) &&& 0x3f).toInt64.toUInt64).toInt64).toUInt64 >>> ((7 : Int32) &&& 0x3f).toInt64.toUInt64).toInt64).toUInt64 >>> ((7 : Int32) &&& 0x3f).toInt64.toUInt64).toInt64).toUInt64 >>> ((7 : Int32) &&& 0x3f).toInt64.toUInt64).toInt64).toUInt64 >>> ((7 : Int32) &&& 0x3f).toInt64.toUInt64).toInt64).toUInt64 >>> ((7 : Int32) &&& 0x3f).toInt64.toUInt64).toInt64)), .second] [(.long ((((((((((((((p0.toUInt64 >>> ((7 : Int32) &&& 0x3f).toInt64.toUInt64).toInt64).toUInt64 >>> ((7 : Int32) &&& 0x3f).toInt64.toUInt64).toInt64).toUInt64 >>> ((7 : Int32) &&& 0x3f).toInt64.toUInt64).toInt64).toUInt64 >>> ((7 : Int32) &&& 0x3f).toInt64.toUInt64).toInt64).toUInt64 >>> ((7 : Int32) &&& 0x3f).toInt64.toUInt64).toInt64).toUInt64 >>> ((7 : Int32) &&& 0x3f).toInt64.toUInt64).toInt64).toUInt64 >>> ((7 : Int32) &&& 0x3f).toInt64.toUInt64).toInt64))])) _
                refine XS.lstoreN X0.here hx rfl (hb hby d1_20) rfl (l' := #[.val (.long p0), .second, .val (.int (7 : Int32)), .val (.long ((((((((((((((p0.toUInt64 >>> ((7 : Int32) &&& 0x3f).toInt64.toUInt64).toInt64).toUInt64 >>> ((7 : Int32) &&& 0x3f).toInt64.toUInt64).toInt64).toUInt64 >>> ((7 : Int32) &&& 0x3f).toInt64.toUInt64).toInt64).toUInt64 >>> ((7 : Int32) &&& 0x3f).toInt64.toUInt64).toInt64).toUInt64 >>> ((7 : Int32) &&& 0x3f).toInt64.toUInt64).toInt64).toUInt64 >>> ((7 : Int32) &&& 0x3f).toInt64.toUInt64).toInt64).toUInt64 >>> ((7 : Int32) &&& 0x3f).toInt64.toUInt64).toInt64)), .second]) rfl ?_
                show Steps p.tables e below (s₁.setTop (mkF m 21 #[.val (.long p0), .second, .val (.int (7 : Int32)), .val (.long ((((((((((((((p0.toUInt64 >>> ((7 : Int32) &&& 0x3f).toInt64.toUInt64).toInt64).toUInt64 >>> ((7 : Int32) &&& 0x3f).toInt64.toUInt64).toInt64).toUInt64 >>> ((7 : Int32) &&& 0x3f).toInt64.toUInt64).toInt64).toUInt64 >>> ((7 : Int32) &&& 0x3f).toInt64.toUInt64).toInt64).toUInt64 >>> ((7 : Int32) &&& 0x3f).toInt64.toUInt64).toInt64).toUInt64 >>> ((7 : Int32) &&& 0x3f).toInt64.toUInt64).toInt64).toUInt64 >>> ((7 : Int32) &&& 0x3f).toInt64.toUInt64).toInt64)), .second] [])) _
                refine XS.goto X0.here hx rfl (pc0 := 21) (pc' := 7) rfl (hb hby d1_21) (by decide) (by decide) ?_
                show Steps p.tables e below (s₁.setTop (mkF m 7 #[.val (.long p0), .second, .val (.int (7 : Int32)), .val (.long ((((((((((((((p0.toUInt64 >>> ((7 : Int32) &&& 0x3f).toInt64.toUInt64).toInt64).toUInt64 >>> ((7 : Int32) &&& 0x3f).toInt64.toUInt64).toInt64).toUInt64 >>> ((7 : Int32) &&& 0x3f).toInt64.toUInt64).toInt64).toUInt64 >>> ((7 : Int32) &&& 0x3f).toInt64.toUInt64).toInt64).toUInt64 >>> ((7 : Int32) &&& 0x3f).toInt64.toUInt64).toInt64).toUInt64 >>> ((7 : Int32) &&& 0x3f).toInt64.toUInt64).toInt64).toUInt64 >>> ((7 : Int32) &&& 0x3f).toInt64.toUInt64).toInt64)), .second] [])) _
                refine XS.lloadN X0.here hx rfl (hb hby d1_7) rfl ?_
                show Steps p.tables e below (s₁.setTop (mkF m 8 #[.val (.long p0), .second, .val (.int (7 : Int32)), .val (.long ((((((((((((((p0.toUInt64 >>> ((7 : Int32) &&& 0x3f).toInt64.toUInt64).toInt64).toUInt64 >>> ((7 : Int32) &&& 0x3f).toInt64.toUInt64).toInt64).toUInt64 >>> ((7 : Int32) &&& 0x3f).toInt64.toUInt64).toInt64).toUInt64 >>> ((7 : Int32) &&& 0x3f).toInt64.toUInt64).toInt64).toUInt64 >>> ((7 : Int32) &&& 0x3f).toInt64.toUInt64).toInt64).toUInt64 >>> ((7 : Int32) &&& 0x3f).toInt64.toUInt64).toInt64).toUInt64 >>> ((7 : Int32) &&& 0x3f).toInt64.toUInt64).toInt64)), .second] [(.long ((((((((((((((p0.toUInt64 >>> ((7 : Int32) &&& 0x3f).toInt64.toUInt64).toInt64).toUInt64 >>> ((7 : Int32) &&& 0x3f).toInt64.toUInt64).toInt64).toUInt64 >>> ((7 : Int32) &&& 0x3f).toInt64.toUInt64).toInt64).toUInt64 >>> ((7 : Int32) &&& 0x3f).toInt64.toUInt64).toInt64).toUInt64 >>> ((7 : Int32) &&& 0x3f).toInt64.toUInt64).toInt64).toUInt64 >>> ((7 : Int32) &&& 0x3f).toInt64.toUInt64).toInt64).toUInt64 >>> ((7 : Int32) &&& 0x3f).toInt64.toUInt64).toInt64))])) _
                refine XS.lconst X0.here hx rfl (hb hby d1_8) ?_
                show Steps p.tables e below (s₁.setTop (mkF m 9 #[.val (.long p0), .second, .val (.int (7 : Int32)), .val (.long ((((((((((((((p0.toUInt64 >>> ((7 : Int32) &&& 0x3f).toInt64.toUInt64).toInt64).toUInt64 >>> ((7 : Int32) &&& 0x3f).toInt64.toUInt64).toInt64).toUInt64 >>> ((7 : Int32) &&& 0x3f).toInt64.toUInt64).toInt64).toUInt64 >>> ((7 : Int32) &&& 0x3f).toInt64.toUInt64).toInt64).toUInt64 >>> ((7 : Int32) &&& 0x3f).toInt64.toUInt64).toInt64).toUInt64 >>> ((7 : Int32) &&& 0x3f).toInt64.toUInt64).toInt64).toUInt64 >>> ((7 : Int32) &&& 0x3f).toInt64.toUInt64).toInt64)), .second] [(.long (0 : Int64)), (.long ((((((((((((((p0.toUInt64 >>> ((7 : Int32) &&& 0x3f).toInt64.toUInt64).toInt64).toUInt64 >>> ((7 : Int32) &&& 0x3f).toInt64.toUInt64).toInt64).toUInt64 >>> ((7 : Int32) &&& 0x3f).toInt64.toUInt64).toInt64).toUInt64 >>> ((7 : Int32) &&& 0x3f).toInt64.toUInt64).toInt64).toUInt64 >>> ((7 : Int32) &&& 0x3f).toInt64.toUInt64).toInt64).toUInt64 >>> ((7 : Int32) &&& 0x3f).toInt64.toUInt64).toInt64).toUInt64 >>> ((7 : Int32) &&& 0x3f).toInt64.toUInt64).toInt64))])) _
                refine XS.lcmp X0.here hx rfl (hb hby d1_9) rfl ?_
                exact k
              by_cases hc10'''''' : ((((((((((((((p0.toUInt64 >>> ((7 : Int32) &&& 0x3f).toInt64.toUInt64).toInt64).toUInt64 >>> ((7 : Int32) &&& 0x3f).toInt64.toUInt64).toInt64).toUInt64 >>> ((7 : Int32) &&& 0x3f).toInt64.toUInt64).toInt64).toUInt64 >>> ((7 : Int32) &&& 0x3f).toInt64.toUInt64).toInt64).toUInt64 >>> ((7 : Int32) &&& 0x3f).toInt64.toUInt64).toInt64).toUInt64 >>> ((7 : Int32) &&& 0x3f).toInt64.toUInt64).toInt64).toUInt64 >>> ((7 : Int32) &&& 0x3f).toInt64.toUInt64).toInt64) = (0 : Int64)
              · have pre14 : ∀ t, Steps p.tables e below (s₁.setTop (mkF m 25 #[.val (.long p0), .second, .val (.int (7 : Int32)), .val (.long ((((((((((((((p0.toUInt64 >>> ((7 : Int32) &&& 0x3f).toInt64.toUInt64).toInt64).toUInt64 >>> ((7 : Int32) &&& 0x3f).toInt64.toUInt64).toInt64).toUInt64 >>> ((7 : Int32) &&& 0x3f).toInt64.toUInt64).toInt64).toUInt64 >>> ((7 : Int32) &&& 0x3f).toInt64.toUInt64).toInt64).toUInt64 >>> ((7 : Int32) &&& 0x3f).toInt64.toUInt64).toInt64).toUInt64 >>> ((7 : Int32) &&& 0x3f).toInt64.toUInt64).toInt64).toUInt64 >>> ((7 : Int32) &&& 0x3f).toInt64.toUInt64).toInt64)), .second] [(.int (7 : Int32))])) t → Steps p.tables e below (s₁.setTop (entryFrame m #[(.long p0)] 5)) t := by
                  intro t k
                  refine pre13 t ?_
                  show Steps p.tables e below (s₁.setTop (mkF m 10 #[.val (.long p0), .second, .val (.int (7 : Int32)), .val (.long ((((((((((((((p0.toUInt64 >>> ((7 : Int32) &&& 0x3f).toInt64.toUInt64).toInt64).toUInt64 >>> ((7 : Int32) &&& 0x3f).toInt64.toUInt64).toInt64).toUInt64 >>> ((7 : Int32) &&& 0x3f).toInt64.toUInt64).toInt64).toUInt64 >>> ((7 : Int32) &&& 0x3f).toInt64.toUInt64).toInt64).toUInt64 >>> ((7 : Int32) &&& 0x3f).toInt64.toUInt64).toInt64).toUInt64 >>> ((7 : Int32) &&& 0x3f).toInt64.toUInt64).toInt64).toUInt64 >>> ((7 : Int32) &&& 0x3f).toInt64.toUInt64).toInt64)), .second] [(.int (lcmpW ((((((((((((((p0.toUInt64 >>> ((7 : Int32) &&& 0x3f).toInt64.toUInt64).toInt64).toUInt64 >>> ((7 : Int32) &&& 0x3f).toInt64.toUInt64).toInt64).toUInt64 >>> ((7 : Int32) &&& 0x3f).toInt64.toUInt64).toInt64).toUInt64 >>> ((7 : Int32) &&& 0x3f).toInt64.toUInt64).toInt64).toUInt64 >>> ((7 : Int32) &&& 0x3f).toInt64.toUInt64).toInt64).toUInt64 >>> ((7 : Int32) &&& 0x3f).toInt64.toUInt64).toInt64).toUInt64 >>> ((7 : Int32) &&& 0x3f).toInt64.toUInt64).toInt64) (0 : Int64)))])) _
                  refine XS.ifYes X0.here hx rfl (pc0 := 10) (pc' := 24) rfl (hb hby d1_10) rfl ((if0 _ _).trans (teq ((lw_eq _ _).mpr hc10'''''')).1) (by decide) (by decide) ?_
                  show Steps p.tables e below (s₁.setTop (mkF m 24 #[.val (.long p0), .second, .val (.int (7 : Int32)), .val (.long ((((((((((((((p0.toUInt64 >>> ((7 : Int32) &&& 0x3f).toInt64.toUInt64).toInt64).toUInt64 >>> ((7 : Int32) &&& 0x3f).toInt64.toUInt64).toInt64).toUInt64 >>> ((7 : Int32) &&& 0x3f).toInt64.toUInt64).toInt64).toUInt64 >>> ((7 : Int32) &&& 0x3f).toInt64.toUInt64).toInt64).toUInt64 >>> ((7 : Int32) &&& 0x3f).toInt64.toUInt64).toInt64).toUInt64 >>> ((7 : Int32) &&& 0x3f).toInt64.toUInt64).toInt64).toUInt64 >>> ((7 : Int32) &&& 0x3f).toInt64.toUInt64).toInt64)), .second] [])) _
                  refine XS.iloadN X0.here hx rfl (hb hby d1_24) rfl ?_
                  exact k
                obtain ⟨fs, hr, hrun, hended, hW, hsame⟩ := X0.leave (v := some (.int (7 : Int32))) (fun h => by rw [Bd.returns] at h; cases h)
                refine ⟨_, _, pre14 _ ?_, hrun, hended, _, _, rfl, ?_, ⟨_, rfl⟩, hW, hsame.mono (by decide) (by decide)⟩
                · exact retI X0 hx Bd.returns (hb hby d1_25) hr
                · show Q1 Z p0 h0 n0 _ s₁.heap _
                  rw [e0]
                  refine ⟨?_, N0, rfl⟩
                  unfold own_size; rw [if_neg hc10, if_neg hc10', if_neg hc10'', if_neg hc10''', if_neg hc10'''', if_neg hc10''''', if_pos hc10'''''']
              · have pre15 : ∀ t, Steps p.tables e below (s₁.setTop (mkF m 10 #[.val (.long p0), .second, .val (.int (8 : Int32)), .val (.long ((((((((((((((((p0.toUInt64 >>> ((7 : Int32) &&& 0x3f).toInt64.toUInt64).toInt64).toUInt64 >>> ((7 : Int32) &&& 0x3f).toInt64.toUInt64).toInt64).toUInt64 >>> ((7 : Int32) &&& 0x3f).toInt64.toUInt64).toInt64).toUInt64 >>> ((7 : Int32) &&& 0x3f).toInt64.toUInt64).toInt64).toUInt64 >>> ((7 : Int32) &&& 0x3f).toInt64.toUInt64).toInt64).toUInt64 >>> ((7 : Int32) &&& 0x3f).toInt64.toUInt64).toInt64).toUInt64 >>> ((7 : Int32) &&& 0x3f).toInt64.toUInt64).toInt64).toUInt64 >>> ((7 : Int32) &&& 0x3f).toInt64.toUInt64).toInt64)), .second] [(.int (lcmpW ((((((((((((((((p0.toUInt64 >>> ((7 : Int32) &&& 0x3f).toInt64.toUInt64).toInt64).toUInt64 >>> ((7 : Int32) &&& 0x3f).toInt64.toUInt64).toInt64).toUInt64 >>> ((7 : Int32) &&& 0x3f).toInt64.toUInt64).toInt64).toUInt64 >>> ((7 : Int32) &&& 0x3f).toInt64.toUInt64).toInt64).toUInt64 >>> ((7 : Int32) &&& 0x3f).toInt64.toUInt64).toInt64).toUInt64 >>> ((7 : Int32) &&& 0x3f).toInt64.toUInt64).toInt64).toUInt64 >>> ((7 : Int32) &&& 0x3f).toInt64.toUInt64).toInt64).toUInt64 >>> ((7 : Int32) &&& 0x3f).toInt64.toUInt64).toInt64) (0 : Int64)))])) t → Steps p.tables e below (s₁.setTop (entryFrame m #[(.long p0)] 5)) t := by
                  intro t k
                  refine pre13 t ?_
                  show Steps p.tables e below (s₁.setTop (mkF m 10 #[.val (.long p0), .second, .val (.int (7 : Int32)), .val (.long ((((((((((((((p0.toUInt64 >>> ((7 : Int32) &&& 0x3f).toInt64.toUInt64).toInt64).toUInt64 >>> ((7 : Int32) &&& 0x3f).toInt64.toUInt64).toInt64).toUInt64 >>> ((7 : Int32) &&& 0x3f).toInt64.toUInt64).toInt64).toUInt64 >>> ((7 : Int32) &&& 0x3f).toInt64.toUInt64).toInt64).toUInt64 >>> ((7 : Int32) &&& 0x3f).toInt64.toUInt64).toInt64).toUInt64 >>> ((7 : Int32) &&& 0x3f).toInt64.toUInt64).toInt64).toUInt64 >>> ((7 : Int32) &&& 0x3f).toInt64.toUInt64).toInt64)), .second] [(.int (lcmpW ((((((((((((((p0.toUInt64 >>> ((7 : Int32) &&& 0x3f).toInt64.toUInt64).toInt64).toUInt64 >>> ((7 : Int32) &&& 0x3f).toInt64.toUInt64).toInt64).toUInt64 >>> ((7 : Int32) &&& 0x3f).toInt64.toUInt64).toInt64).toUInt64 >>> ((7 : Int32) &&& 0x3f).toInt64.toUInt64).toInt64).toUInt64 >>> ((7 : Int32) &&& 0x3f).toInt64.toUInt64).toInt64).toUInt64 >>> ((7 : Int32) &&& 0x3f).toInt64.toUInt64).toInt64).toUInt64 >>> ((7 : Int32) &&& 0x3f).toInt64.toUInt64).toInt64) (0 : Int64)))])) _
                  refine XS.ifNo X0.here hx rfl (hb hby d1_10) rfl ((if0 _ _).trans (feq (fun q => hc10'''''' ((lw_eq _ _).mp q))).1) ?_
                  show Steps p.tables e below (s₁.setTop (mkF m 13 #[.val (.long p0), .second, .val (.int (7 : Int32)), .val (.long ((((((((((((((p0.toUInt64 >>> ((7 : Int32) &&& 0x3f).toInt64.toUInt64).toInt64).toUInt64 >>> ((7 : Int32) &&& 0x3f).toInt64.toUInt64).toInt64).toUInt64 >>> ((7 : Int32) &&& 0x3f).toInt64.toUInt64).toInt64).toUInt64 >>> ((7 : Int32) &&& 0x3f).toInt64.toUInt64).toInt64).toUInt64 >>> ((7 : Int32) &&& 0x3f).toInt64.toUInt64).toInt64).toUInt64 >>> ((7 : Int32) &&& 0x3f).toInt64.toUInt64).toInt64).toUInt64 >>> ((7 : Int32) &&& 0x3f).toInt64.toUInt64).toInt64)), .second] [])) _
                  refine XS.iinc X0.here hx rfl (hb hby d1_13) rfl (l' := #[.val (.long p0), .second, .val (.int (8 : Int32)), .val (.long ((((((((((((((p0.toUInt64 >>> ((7 : Int32) &&& 0x3f).toInt64.toUInt64).toInt64).toUInt64 >>> ((7 : Int32) &&& 0x3f).toInt64.toUInt64).toInt64).toUInt64 >>> ((7 : Int32) &&& 0x3f).toInt64.toUInt64).toInt64).toUInt64 >>> ((7 : Int32) &&& 0x3f).toInt64.toUInt64).toInt64).toUInt64 >>> ((7 : Int32) &&& 0x3f).toInt64.toUInt64).toInt64).toUInt64 >>> ((7 : Int32) &&& 0x3f).toInt64.toUInt64).toInt64).toUInt64 >>> ((7 : Int32) &&& 0x3f).toInt64.toUInt64).toInt64)), .second]) rfl ?_
                  show Steps p.tables e below (s₁.setTop (mkF m 16 #[.val (.long p0), .second, .val (.int (8 : Int32)), .val (.long ((((((((((((((p0.toUInt64 >>> ((7 : Int32) &&& 0x3f).toInt64.toUInt64).toInt64).toUInt64 >>> ((7 : Int32) &&& 0x3f).toInt64.toUInt64).toInt64).toUInt64 >>> ((7 : Int32) &&& 0x3f).toInt64.toUInt64).toInt64).toUInt64 >>> ((7 : Int32) &&& 0x3f).toInt64.toUInt64).toInt64).toUInt64 >>> ((7 : Int32) &&& 0x3f).toInt64.toUInt64).toInt64).toUInt64 >>> ((7 : Int32) &&& 0x3f).toInt64.toUInt64).toInt64).toUInt64 >>> ((7 : Int32) &&& 0x3f).toInt64.toUInt64).toInt64)), .second] [])) _
                  refine XS.lloadN X0.here hx rfl (hb hby d1_16) rfl ?_
                  show Steps p.tables e below (s₁.setTop (mkF m 17 #[.val (.long p0), .second, .val (.int (8 : Int32)), .val (.long ((((((((((((((p0.toUInt64 >>> ((7 : Int32) &&& 0x3f).toInt64.toUInt64).toInt64).toUInt64 >>> ((7 : Int32) &&& 0x3f).toInt64.toUInt64).toInt64).toUInt64 >>> ((7 : Int32) &&& 0x3f).toInt64.toUInt64).toInt64).toUInt64 >>> ((7 : Int32) &&& 0x3f).toInt64.toUInt64).toInt64).toUInt64 >>> ((7 : Int32) &&& 0x3f).toInt64.toUInt64).toInt64).toUInt64 >>> ((7 : Int32) &&& 0x3f).toInt64.toUInt64).toInt64).toUInt64 >>> ((7 : Int32) &&& 0x3f).toInt64.toUInt64).toInt64)), .second] [(.long ((((((((((((((p0.toUInt64 >>> ((7 : Int32) &&& 0x3f).toInt64.toUInt64).toInt64).toUInt64 >>> ((7 : Int32) &&& 0x3f).toInt64.toUInt64).toInt64).toUInt64 >>> ((7 : Int32) &&& 0x3f).toInt64.toUInt64).toInt64).toUInt64 >>> ((7 : Int32) &&& 0x3f).toInt64.toUInt64).toInt64).toUInt64 >>> ((7 : Int32) &&& 0x3f).toInt64.toUInt64).toInt64).toUInt64 >>> ((7 : Int32) &&& 0x3f).toInt64.toUInt64).toInt64).toUInt64 >>> ((7 : Int32) &&& 0x3f).toInt64.toUInt64).toInt64))])) _
                  refine XS.bipush X0.here hx rfl (hb hby d1_17) ?_
                  show Steps p.tables e below (s₁.setTop (mkF m 19 #[.val (.long p0), .second, .val (.int (8 : Int32)), .val (.long ((((((((((((((p0.toUInt64 >>> ((7 : Int32) &&& 0x3f).toInt64.toUInt64).toInt64).toUInt64 >>> ((7 : Int32) &&& 0x3f).toInt64.toUInt64).toInt64).toUInt64 >>> ((7 : Int32) &&& 0x3f).toInt64.toUInt64).toInt64).toUInt64 >>> ((7 : Int32) &&& 0x3f).toInt64.toUInt64).toInt64).toUInt64 >>> ((7 : Int32) &&& 0x3f).toInt64.toUInt64).toInt64).toUInt64 >>> ((7 : Int32) &&& 0x3f).toInt64.toUInt64).toInt64).toUInt64 >>> ((7 : Int32) &&& 0x3f).toInt64.toUInt64).toInt64)), .second] [(.int (7 : Int32)), (.long ((((((((((((((p0.toUInt64 >>> ((7 : Int32) &&& 0x3f).toInt64.toUInt64).toInt64).toUInt64 >>> ((7 : Int32) &&& 0x3f).toInt64.toUInt64).toInt64).toUInt64 >>> ((7 : Int32) &&& 0x3f).toInt64.toUInt64).toInt64).toUInt64 >>> ((7 : Int32) &&& 0x3f).toInt64.toUInt64).toInt64).toUInt64 >>> ((7 : Int32) &&& 0x3f).toInt64.toUInt64).toInt64).toUInt64 >>> ((7 : Int32) &&& 0x3f).toInt64.toUInt64).toInt64).toUInt64 >>> ((7 : Int32) &&& 0x3f).toInt64.toUInt64).toInt64))])) _
                  refine XS.lushr X0.here hx rfl (hb hby d1_19) rfl ?_
                  show Steps p.tables e below (s₁.setTop (mkF m 20 #[.val (.long p0), .second, .val (.int (8 : Int32)), .val (.long ((((((((((((((p0.toUInt64 >>> ((7 : Int32) &&& 0x3f).toInt64.toUInt64).toInt64).toUInt64 >>> ((7 : Int32) &&& 0x3f).toInt64.toUInt64).toInt64).toUInt64 >>> ((7 : Int32) &&& 0x3f).toInt64.toUInt64).toInt64).toUInt64 >>> ((7 : Int32) &&& 0x3f).toInt64.toUInt64).toInt64).toUInt64 >>> ((7 : Int32) &&& 0x3f).toInt64.toUInt64).toInt64).toUInt64 >>> ((7 : Int32) &&& 0x3f).toInt64.toUInt64).toInt64).toUInt64 >>> ((7 : Int32) &&& 0x3f).toInt64.toUInt64).toInt64)), .second] [(.long ((((((((((((((((p0.toUInt64 >>> ((7 : Int32) &&& 0x3f).toInt64.toUInt64).toInt64).toUInt64 >>> ((7 : Int32) &&& 0x3f).toInt64.toUInt64).toInt64).toUInt64 >>> ((7 : Int32) &&& 0x3f).toInt64.toUInt64).toInt64).toUInt64 >>> ((7 : Int32) &&& 0x3f).toInt64.toUInt64).toInt64).toUInt64 >>> ((7 : Int32) &&& 0x3f).toInt64.toUInt64).toInt64).toUInt64 >>> ((7 : Int32) &&& 0x3f).toInt64.toUInt64).toInt64).toUInt64 >>> ((7 : Int32) &&& 0x3f).toInt64.toUInt64).toInt64).toUInt64 >>> ((7 : Int32) &&& 0x3f).toInt64.toUInt64).toInt64))])) _
                  refine XS.lstoreN X0.here hx rfl (hb hby d1_20) rfl (l' := #[.val (.long p0), .second, .val (.int (8 : Int32)), .val (.long ((((((((((((((((p0.toUInt64 >>> ((7 : Int32) &&& 0x3f).toInt64.toUInt64).toInt64).toUInt64 >>> ((7 : Int32) &&& 0x3f).toInt64.toUInt64).toInt64).toUInt64 >>> ((7 : Int32) &&& 0x3f).toInt64.toUInt64).toInt64).toUInt64 >>> ((7 : Int32) &&& 0x3f).toInt64.toUInt64).toInt64).toUInt64 >>> ((7 : Int32) &&& 0x3f).toInt64.toUInt64).toInt64).toUInt64 >>> ((7 : Int32) &&& 0x3f).toInt64.toUInt64).toInt64).toUInt64 >>> ((7 : Int32) &&& 0x3f).toInt64.toUInt64).toInt64).toUInt64 >>> ((7 : Int32) &&& 0x3f).toInt64.toUInt64).toInt64)), .second]) rfl ?_
                  show Steps p.tables e below (s₁.setTop (mkF m 21 #[.val (.long p0), .second, .val (.int (8 : Int32)), .val (.long ((((((((((((((((p0.toUInt64 >>> ((7 : Int32) &&& 0x3f).toInt64.toUInt64).toInt64).toUInt64 >>> ((7 : Int32) &&& 0x3f).toInt64.toUInt64).toInt64).toUInt64 >>> ((7 : Int32) &&& 0x3f).toInt64.toUInt64).toInt64).toUInt64 >>> ((7 : Int32) &&& 0x3f).toInt64.toUInt64).toInt64).toUInt64 >>> ((7 : Int32) &&& 0x3f).toInt64.toUInt64).toInt64).toUInt64 >>> ((7 : Int32) &&& 0x3f).toInt64.toUInt64).toInt64).toUInt64 >>> ((7 : Int32) &&& 0x3f).toInt64.toUInt64).toInt64).toUInt64 >>> ((7 : Int32) &&& 0x3f).toInt64.toUInt64).toInt64)), .second] [])) _
                  refine XS.goto X0.here hx rfl (pc0 := 21) (pc' := 7) rfl (hb hby d1_21) (by decide) (by decide) ?_
                  show Steps p.tables e below (s₁.setTop (mkF m 7 #[.val (.long p0), .second, .val (.int (8 : Int32)), .val (.long ((((((((((((((((p0.toUInt64 >>> ((7 : Int32) &&& 0x3f).toInt64.toUInt64).toInt64).toUInt64 >>> ((7 : Int32) &&& 0x3f).toInt64.toUInt64).toInt64).toUInt64 >>> ((7 : Int32) &&& 0x3f).toInt64.toUInt64).toInt64).toUInt64 >>> ((7 : Int32) &&& 0x3f).toInt64.toUInt64).toInt64).toUInt64 >>> ((7 : Int32) &&& 0x3f).toInt64.toUInt64).toInt64).toUInt64 >>> ((7 : Int32) &&& 0x3f).toInt64.toUInt64).toInt64).toUInt64 >>> ((7 : Int32) &&& 0x3f).toInt64.toUInt64).toInt64).toUInt64 >>> ((7 : Int32) &&& 0x3f).toInt64.toUInt64).toInt64)), .second] [])) _
                  refine XS.lloadN X0.here hx rfl (hb hby d1_7) rfl ?_
                  show Steps p.tables e below (s₁.setTop (mkF m 8 #[.val (.long p0), .second, .val (.int (8 : Int32)), .val (.long ((((((((((((((((p0.toUInt64 >>> ((7 : Int32) &&& 0x3f).toInt64.toUInt64).toInt64).toUInt64 >>> ((7 : Int32) &&& 0x3f).toInt64.toUInt64).toInt64).toUInt64 >>> ((7 : Int32) &&& 0x3f).toInt64.toUInt64).toInt64).toUInt64 >>> ((7 : Int32) &&& 0x3f).toInt64.toUInt64).toInt64).toUInt64 >>> ((7 : Int32) &&& 0x3f).toInt64.toUInt64).toInt64).toUInt64 >>> ((7 : Int32) &&& 0x3f).toInt64.toUInt64).toInt64).toUInt64 >>> ((7 : Int32) &&& 0x3f).toInt64.toUInt64).toInt64).toUInt64 >>> ((7 : Int32) &&& 0x3f).toInt64.toUInt64).toInt64)), .second] [(.long ((((((((((((((((p0.toUInt64 >>> ((7 : Int32) &&& 0x3f).toInt64.toUInt64).toInt64).toUInt64 >>> ((7 : Int32) &&& 0x3f).toInt64.toUInt64).toInt64).toUInt64 >>> ((7 : Int32) &&& 0x3f).toInt64.toUInt64).toInt64).toUInt64 >>> ((7 : Int32) &&& 0x3f).toInt64.toUInt64).toInt64).toUInt64 >>> ((7 : Int32) &&& 0x3f).toInt64.toUInt64).toInt64).toUInt64 >>> ((7 : Int32) &&& 0x3f).toInt64.toUInt64).toInt64).toUInt64 >>> ((7 : Int32) &&& 0x3f).toInt64.toUInt64).toInt64).toUInt64 >>> ((7 : Int32) &&& 0x3f).toInt64.toUInt64).toInt64))])) _
                  refine XS.lconst X0.here hx rfl (hb hby d1_8) ?_
                  show Steps p.tables e below (s₁.setTop (mkF m 9 #[.val (.long p0), .second, .val (.int (8 : Int32)), .val (.long ((((((((((((((((p0.toUInt64 >>> ((7 : Int32) &&& 0x3f).toInt64.toUInt64).toInt64).toUInt64 >>> ((7 : Int32) &&& 0x3f).toInt64.toUInt64).toInt64).toUInt64 >>> ((7 : Int32) &&& 0x3f).toInt64.toUInt64).toInt64).toUInt64 >>> ((7 : Int32) &&& 0x3f).toInt64.toUInt64).toInt64).toUInt64 >>> ((7 : Int32) &&& 0x3f).toInt64.toUInt64).toInt64).toUInt64 >>> ((7 : Int32) &&& 0x3f).toInt64.toUInt64).toInt64).toUInt64 >>> ((7 : Int32) &&& 0x3f).toInt64.toUInt64).toInt64).toUInt64 >>> ((7 : Int32) &&& 0x3f).toInt64.toUInt64).toInt64)), .second] [(.long (0 : Int64)), (.long ((((((((((((((((p0.toUInt64 >>> ((7 : Int32) &&& 0x3f).toInt64.toUInt64).toInt64).toUInt64 >>> ((7 : Int32) &&& 0x3f).toInt64.toUInt64).toInt64).toUInt64 >>> ((7 : Int32) &&& 0x3f).toInt64.toUInt64).toInt64).toUInt64 >>> ((7 : Int32) &&& 0x3f).toInt64.toUInt64).toInt64).toUInt64 >>> ((7 : Int32) &&& 0x3f).toInt64.toUInt64).toInt64).toUInt64 >>> ((7 : Int32) &&& 0x3f).toInt64.toUInt64).toInt64).toUInt64 >>> ((7 : Int32) &&& 0x3f).toInt64.toUInt64).toInt64).toUInt64 >>> ((7 : Int32) &&& 0x3f).toInt64.toUInt64).toInt64))])) _
                  refine XS.lcmp X0.here hx rfl (hb hby d1_9) rfl ?_
                  exact k
                by_cases hc10''''''' : ((((((((((((((((p0.toUInt64 >>> ((7 : Int32) &&& 0x3f).toInt64.toUInt64).toInt64).toUInt64 >>> ((7 : Int32) &&& 0x3f).toInt64.toUInt64).toInt64).toUInt64 >>> ((7 : Int32) &&& 0x3f).toInt64.toUInt64).toInt64).toUInt64 >>> ((7 : Int32) &&& 0x3f).toInt64.toUInt64).toInt64).toUInt64 >>> ((7 : Int32) &&& 0x3f).toInt64.toUInt64).toInt64).toUInt64 >>> ((7 : Int32) &&& 0x3f).toInt64.toUInt64).toInt64).toUInt64 >>> ((7 : Int32) &&& 0x3f).toInt64.toUInt64).toInt64).toUInt64 >>> ((7 : Int32) &&& 0x3f).toInt64.toUInt64).toInt64) = (0 : Int64)
                · have pre16 : ∀ t, Steps p.tables e below (s₁.setTop (mkF m 25 #[.val (.long p0), .second, .val (.int (8 : Int32)), .val (.long ((((((((((((((((p0.toUInt64 >>> ((7 : Int32) &&& 0x3f).toInt64.toUInt64).toInt64).toUInt64 >>> ((7 : Int32) &&& 0x3f).toInt64.toUInt64).toInt64).toUInt64 >>> ((7 : Int32) &&& 0x3f).toInt64.toUInt64).toInt64).toUInt64 >>> ((7 : Int32) &&& 0x3f).toInt64.toUInt64).toInt64).toUInt64 >>> ((7 : Int32) &&& 0x3f).toInt64.toUInt64).toInt64).toUInt64 >>> ((7 : Int32) &&& 0x3f).toInt64.toUInt64).toInt64).toUInt64 >>> ((7 : Int32) &&& 0x3f).toInt64.toUInt64).toInt64).toUInt64 >>> ((7 : Int32) &&& 0x3f).toInt64.toUInt64).toInt64)), .second] [(.int (8 : Int32))])) t → Steps p.tables e below (s₁.setTop (entryFrame m #[(.long p0)] 5)) t := by
                    intro t k
                    refine pre15 t ?_
                    show Steps p.tables e below (s₁.setTop (mkF m 10 #[.val (.long p0), .second, .val (.int (8 : Int32)), .val (.long ((((((((((((((((p0.toUInt64 >>> ((7 : Int32) &&& 0x3f).toInt64.toUInt64).toInt64).toUInt64 >>> ((7 : Int32) &&& 0x3f).toInt64.toUInt64).toInt64).toUInt64 >>> ((7 : Int32) &&& 0x3f).toInt64.toUInt64).toInt64).toUInt64 >>> ((7 : Int32) &&& 0x3f).toInt64.toUInt64).toInt64).toUInt64 >>> ((7 : Int32) &&& 0x3f).toInt64.toUInt64).toInt64).toUInt64 >>> ((7 : Int32) &&& 0x3f).toInt64.toUInt64).toInt64).toUInt64 >>> ((7 : Int32) &&& 0x3f).toInt64.toUInt64).toInt64).toUInt64 >>> ((7 : Int32) &&& 0x3f).toInt64.toUInt64).toInt64)), .second] [(.int (lcmpW ((((((((((((((((p0.toUInt64 >>> ((7 : Int32) &&& 0x3f).toInt64.toUInt64).toInt64).toUInt64 >>> ((7 : Int32) &&& 0x3f).toInt64.toUInt64).toInt64).toUInt64 >>> ((7 : Int32) &&& 0x3f).toInt64.toUInt64).toInt64).toUInt64 >>> ((7 : Int32) &&& 0x3f).toInt64.toUInt64).toInt64).toUInt64 >>> ((7 : Int32) &&& 0x3f).toInt64.toUInt64).toInt64).toUInt64 >>> ((7 : Int32) &&& 0x3f).toInt64.toUInt64).toInt64).toUInt64 >>> ((7 : Int32) &&& 0x3f).toInt64.toUInt64).toInt64).toUInt64 >>> ((7 : Int32) &&& 0x3f).toInt64.toUInt64).toInt64) (0 : Int64)))])) _
                    refine XS.ifYes X0.here hx rfl (pc0 := 10) (pc' := 24) rfl (hb hby d1_10) rfl ((if0 _ _).trans (teq ((lw_eq _ _).mpr hc10''''''')).1) (by decide) (by decide) ?_
                    show Steps p.tables e below (s₁.setTop (mkF m 24 #[.val (.long p0), .second, .val (.int (8 : Int32)), .val (.long ((((((((((((((((p0.toUInt64 >>> ((7 : Int32) &&& 0x3f).toInt64.toUInt64).toInt64).toUInt64 >>> ((7 : Int32) &&& 0x3f).toInt64.toUInt64).toInt64).toUInt64 >>> ((7 : Int32) &&& 0x3f).toInt64.toUInt64).toInt64).toUInt64 >>> ((7 : Int32) &&& 0x3f).toInt64.toUInt64).toInt64).toUInt64 >>> ((7 : Int32) &&& 0x3f).toInt64.toUInt64).toInt64).toUInt64 >>> ((7 : Int32) &&& 0x3f).toInt64.toUInt64).toInt64).toUInt64 >>> ((7 : Int32) &&& 0x3f).toInt64.toUInt64).toInt64).toUInt64 >>> ((7 : Int32) &&& 0x3f).toInt64.toUInt64).toInt64)), .second] [])) _
                    refine XS.iloadN X0.here hx rfl (hb hby d1_24) rfl ?_
                    exact k
                  obtain ⟨fs, hr, hrun, hended, hW, hsame⟩ := X0.leave (v := some (.int (8 : Int32))) (fun h => by rw [Bd.returns] at h; cases h)
                  refine ⟨_, _, pre16 _ ?_, hrun, hended, _, _, rfl, ?_, ⟨_, rfl⟩, hW, hsame.mono (by decide) (by decide)⟩
                  · exact retI X0 hx Bd.returns (hb hby d1_25) hr
                  · show Q1 Z p0 h0 n0 _ s₁.heap _
                    rw [e0]
                    refine ⟨?_, N0, rfl⟩
                    unfold own_size; rw [if_neg hc10, if_neg hc10', if_neg hc10'', if_neg hc10''', if_neg hc10'''', if_neg hc10''''', if_neg hc10'''''', if_pos hc10''''''']
                · have pre17 : ∀ t, Steps p.tables e below (s₁.setTop (mkF m 10 #[.val (.long p0), .second, .val (.int (9 : Int32)), .val (.long ((((((((((((((((((p0.toUInt64 >>> ((7 : Int32) &&& 0x3f).toInt64.toUInt64).toInt64).toUInt64 >>> ((7 : Int32) &&& 0x3f).toInt64.toUInt64).toInt64).toUInt64 >>> ((7 : Int32) &&& 0x3f).toInt64.toUInt64).toInt64).toUInt64 >>> ((7 : Int32) &&& 0x3f).toInt64.toUInt64).toInt64).toUInt64 >>> ((7 : Int32) &&& 0x3f).toInt64.toUInt64).toInt64).toUInt64 >>> ((7 : Int32) &&& 0x3f).toInt64.toUInt64).toInt64).toUInt64 >>> ((7 : Int32) &&& 0x3f).toInt64.toUInt64).toInt64).toUInt64 >>> ((7 : Int32) &&& 0x3f).toInt64.toUInt64).toInt64).toUInt64 >>> ((7 : Int32) &&& 0x3f).toInt64.toUInt64).toInt64)), .second] [(.int (lcmpW ((((((((((((((((((p0.toUInt64 >>> ((7 : Int32) &&& 0x3f).toInt64.toUInt64).toInt64).toUInt64 >>> ((7 : Int32) &&& 0x3f).toInt64.toUInt64).toInt64).toUInt64 >>> ((7 : Int32) &&& 0x3f).toInt64.toUInt64).toInt64).toUInt64 >>> ((7 : Int32) &&& 0x3f).toInt64.toUInt64).toInt64).toUInt64 >>> ((7 : Int32) &&& 0x3f).toInt64.toUInt64).toInt64).toUInt64 >>> ((7 : Int32) &&& 0x3f).toInt64.toUInt64).toInt64).toUInt64 >>> ((7 : Int32) &&& 0x3f).toInt64.toUInt64).toInt64).toUInt64 >>> ((7 : Int32) &&& 0x3f).toInt64.toUInt64).toInt64).toUInt64 >>> ((7 : Int32) &&& 0x3f).toInt64.toUInt64).toInt64) (0 : Int64)))])) t → Steps p.tables e below (s₁.setTop (entryFrame m #[(.long p0)] 5)) t := by
                    intro t k
                    refine pre15 t ?_
                    show Steps p.tables e below (s₁.setTop (mkF m 10 #[.val (.long p0), .second, .val (.int (8 : Int32)), .val (.long ((((((((((((((((p0.toUInt64 >>> ((7 : Int32) &&& 0x3f).toInt64.toUInt64).toInt64).toUInt64 >>> ((7 : Int32) &&& 0x3f).toInt64.toUInt64).toInt64).toUInt64 >>> ((7 : Int32) &&& 0x3f).toInt64.toUInt64).toInt64).toUInt64 >>> ((7 : Int32) &&& 0x3f).toInt64.toUInt64).toInt64).toUInt64 >>> ((7 : Int32) &&& 0x3f).toInt64.toUInt64).toInt64).toUInt64 >>> ((7 : Int32) &&& 0x3f).toInt64.toUInt64).toInt64).toUInt64 >>> ((7 : Int32) &&& 0x3f).toInt64.toUInt64).toInt64).toUInt64 >>> ((7 : Int32) &&& 0x3f).toInt64.toUInt64).toInt64)), .second] [(.int (lcmpW ((((((((((((((((p0.toUInt64 >>> ((7 : Int32) &&& 0x3f).toInt64.toUInt64).toInt64).toUInt64 >>> ((7 : Int32) &&& 0x3f).toInt64.toUInt64).toInt64).toUInt64 >>> ((7 : Int32) &&& 0x3f).toInt64.toUInt64).toInt64).toUInt64 >>> ((7 : Int32) &&& 0x3f).toInt64.toUInt64).toInt64).toUInt64 >>> ((7 : Int32) &&& 0x3f).toInt64.toUInt64).toInt64).toUInt64 >>> ((7 : Int32) &&& 0x3f).toInt64.toUInt64).toInt64).toUInt64 >>> ((7 : Int32) &&& 0x3f).toInt64.toUInt64).toInt64).toUInt64 >>> ((7 : Int32) &&& 0x3f).toInt64.toUInt64).toInt64) (0 : Int64)))])) _
                    refine XS.ifNo X0.here hx rfl (hb hby d1_10) rfl ((if0 _ _).trans (feq (fun q => hc10''''''' ((lw_eq _ _).mp q))).1) ?_
                    show Steps p.tables e below (s₁.setTop (mkF m 13 #[.val (.long p0), .second, .val (.int (8 : Int32)), .val (.long ((((((((((((((((p0.toUInt64 >>> ((7 : Int32) &&& 0x3f).toInt64.toUInt64).toInt64).toUInt64 >>> ((7 : Int32) &&& 0x3f).toInt64.toUInt64).toInt64).toUInt64 >>> ((7 : Int32) &&& 0x3f).toInt64.toUInt64).toInt64).toUInt64 >>> ((7 : Int32) &&& 0x3f).toInt64.toUInt64).toInt64).toUInt64 >>> ((7 : Int32) &&& 0x3f).toInt64.toUInt64).toInt64).toUInt64 >>> ((7 : Int32) &&& 0x3f).toInt64.toUInt64).toInt64).toUInt64 >>> ((7 : Int32) &&& 0x3f).toInt64.toUInt64).toInt64).toUInt64 >>> ((7 : Int32) &&& 0x3f).toInt64.toUInt64).toInt64)), .second] [])) _
                    refine XS.iinc X0.here hx rfl (hb hby d1_13) rfl (l' := #[.val (.long p0), .second, .val (.int (9 : Int32)), .val (.long ((((((((((((((((p0.toUInt64 >>> ((7 : Int32) &&& 0x3f).toInt64.toUInt64).toInt64).toUInt64 >>> ((7 : Int32) &&& 0x3f).toInt64.toUInt64).toInt64).toUInt64 >>> ((7 : Int32) &&& 0x3f).toInt64.toUInt64).toInt64).toUInt64 >>> ((7 : Int32) &&& 0x3f).toInt64.toUInt64).toInt64).toUInt64 >>> ((7 : Int32) &&& 0x3f).toInt64.toUInt64).toInt64).toUInt64 >>> ((7 : Int32) &&& 0x3f).toInt64.toUInt64).toInt64).toUInt64 >>> ((7 : Int32) &&& 0x3f).toInt64.toUInt64).toInt64).toUInt64 >>> ((7 : Int32) &&& 0x3f).toInt64.toUInt64).toInt64)), .second]) rfl ?_
                    show Steps p.tables e below (s₁.setTop (mkF m 16 #[.val (.long p0), .second, .val (.int (9 : Int32)), .val (.long ((((((((((((((((p0.toUInt64 >>> ((7 : Int32) &&& 0x3f).toInt64.toUInt64).toInt64).toUInt64 >>> ((7 : Int32) &&& 0x3f).toInt64.toUInt64).toInt64).toUInt64 >>> ((7 : Int32) &&& 0x3f).toInt64.toUInt64).toInt64).toUInt64 >>> ((7 : Int32) &&& 0x3f).toInt64.toUInt64).toInt64).toUInt64 >>> ((7 : Int32) &&& 0x3f).toInt64.toUInt64).toInt64).toUInt64 >>> ((7 : Int32) &&& 0x3f).toInt64.toUInt64).toInt64).toUInt64 >>> ((7 : Int32) &&& 0x3f).toInt64.toUInt64).toInt64).toUInt64 >>> ((7 : Int32) &&& 0x3f).toInt64.toUInt64).toInt64)), .second] [])) _
                    refine XS.lloadN X0.here hx rfl (hb hby d1_16) rfl ?_
                    show Steps p.tables e below (s₁.setTop (mkF m 17 #[.val (.long p0), .second, .val (.int (9 : Int32)), .val (.long ((((((((((((((((p0.toUInt64 >>> ((7 : Int32) &&& 0x3f).toInt64.toUInt64).toInt64).toUInt64 >>> ((7 : Int32) &&& 0x3f).toInt64.toUInt64).toInt64).toUInt64 >>> ((7 : Int32) &&& 0x3f).toInt64.toUInt64).toInt64).toUInt64 >>> ((7 : Int32) &&& 0x3f).toInt64.toUInt64).toInt64).toUInt64 >>> ((7 : Int32) &&& 0x3f).toInt64.toUInt64).toInt64).toUInt64 >>> ((7 : Int32) &&& 0x3f).toInt64.toUInt64).toInt64).toUInt64 >>> ((7 : Int32) &&& 0x3f).toInt64.toUInt64).toInt64).toUInt64 >>> ((7 : Int32) &&& 0x3f).toInt64.toUInt64).toInt64)), .second] [(.long ((((((((((((((((p0.toUInt64 >>> ((7 : Int32) &&& 0x3f).toInt64.toUInt64).toInt64).toUInt64 >>> ((7 : Int32) &&& 0x3f).toInt64.toUInt64).toInt64).toUInt64 >>> ((7 : Int32) &&& 0x3f).toInt64.toUInt64).toInt64).toUInt64 >>> ((7 : Int32) &&& 0x3f).toInt64.toUInt64).toInt64).toUInt64 >>> ((7 : Int32) &&& 0x3f).toInt64.toUInt64).toInt64).toUInt64 >>> ((7 : Int32) &&& 0x3f).toInt64.toUInt64).toInt64).toUInt64 >>> ((7 : Int32) &&& 0x3f).toInt64.toUInt64).toInt64).toUInt64 >>> ((7 : Int32) &&& 0x3f).toInt64.toUInt64).toInt64))])) _
                    refine XS.bipush X0.here hx rfl (hb hby d1_17) ?_
                    show Steps p.tables e below (s₁.setTop (mkF m 19 #[.val (.long p0), .second, .val (.int (9 : Int32)), .val (.long ((((((((((((((((p0.toUInt64 >>> ((7 : Int32) &&& 0x3f).toInt64.toUInt64).toInt64).toUInt64 >>> ((7 : Int32) &&& 0x3f).toInt64.toUInt64).toInt64).toUInt64 >>> ((7 : Int32) &&& 0x3f).toInt64.toUInt64).toInt64).toUInt64 >>> ((7 : Int32) &&& 0x3f).toInt64.toUInt64).toInt64).toUInt64 >>> ((7 : Int32) &&& 0x3f).toInt64.toUInt64).toInt64).toUInt64 >>> ((7 : Int32) &&& 0x3f).toInt64.toUInt64).toInt64).toUInt64 >>> ((7 : Int32) &&& 0x3f).toInt64.toUInt64).toInt64).toUInt64 >>> ((7 : Int32) &&& 0x3f).toInt64.toUInt64).toInt64)), .second] [(.int (7 : Int32)), (.long ((((((((((((((((p0.toUInt64 >>> ((7 : Int32) &&& 0x3f).toInt64.toUInt64).toInt64).toUInt64 >>> ((7 : Int32) &&& 0x3f).toInt64.toUInt64).toInt64).toUInt64 >>> ((7 : Int32) &&& 0x3f).toInt64.toUInt64).toInt64).toUInt64 >>> ((7 : Int32) &&& 0x3f).toInt64.toUInt64).toInt64).toUInt64 >>> ((7 : Int32) &&& 0x3f).toInt64.toUInt64).toInt64).toUInt64 >>> ((7 : Int32) &&& 0x3f).toInt64.toUInt64).toInt64).toUInt64 >>> ((7 : Int32) &&& 0x3f).toInt64.toUInt64).toInt64).toUInt64 >>> ((7 : Int32) &&& 0x3f).toInt64.toUInt64).toInt64))])) _
                    refine XS.lushr X0.here hx rfl (hb hby d1_19) rfl ?_
                    show Steps p.tables e below (s₁.setTop (mkF m 20 #[.val (.long p0), .second, .val (.int (9 : Int32)), .val (.long ((((((((((((((((p0.toUInt64 >>> ((7 : Int32) &&& 0x3f).toInt64.toUInt64).toInt64).toUInt64 >>> ((7 : Int32) &&& 0x3f).toInt64.toUInt64).toInt64).toUInt64 >>> ((7 : Int32) &&& 0x3f).toInt64.toUInt64).toInt64).toUInt64 >>> ((7 : Int32) &&& 0x3f).toInt64.toUInt64).toInt64).toUInt64 >>> ((7 : Int32) &&& 0x3f).toInt64.toUInt64).toInt64).toUInt64 >>> ((7 : Int32) &&& 0x3f).toInt64.toUInt64).toInt64).toUInt64 >>> ((7 : Int32) &&& 0x3f).toInt64.toUInt64).toInt64).toUInt64 >>> ((7 : Int32) &&& 0x3f).toInt64.toUInt64).toInt64)), .second] [(.long ((((((((((((((((((p0.toUInt64 >>> ((7 : Int32) &&& 0x3f).toInt64.toUInt64).toInt64).toUInt64 >>> ((7 : Int32) &&& 0x3f).toInt64.toUInt64).toInt64).toUInt64 >>> ((7 : Int32) &&& 0x3f).toInt64.toUInt64).toInt64).toUInt64 >>> ((7 : Int32) &&& 0x3f).toInt64.toUInt64).toInt64).toUInt64 >>> ((7 : Int32) &&& 0x3f).toInt64.toUInt64).toInt64).toUInt64 >>> ((7 : Int32) &&& 0x3f).toInt64.toUInt64).toInt64).toUInt64 >>> ((7 : Int32) &&& 0x3f).toInt64.toUInt64).toInt64).toUInt64 >>> ((7 : Int32) &&& 0x3f).toInt64.toUInt64).toInt64).toUInt64 >>> ((7 : Int32) &&& 0x3f).toInt64.toUInt64).toInt64))])) _
                    refine XS.lstoreN X0.here hx rfl (hb hby d1_20) rfl (l' := #[.val (.long p0), .second, .val (.int (9 : Int32)), .val (.long ((((((((((((((((((p0.toUInt64 >>> ((7 : Int32) &&& 0x3f).toInt64.toUInt64).toInt64).toUInt64 >>> ((7 : Int32) &&& 0x3f).toInt64.toUInt64).toInt64).toUInt64 >>> ((7 : Int32) &&& 0x3f).toInt64.toUInt64).toInt64).toUInt64 >>> ((7 : Int32) &&& 0x3f).toInt64.toUInt64).toInt64).toUInt64 >>> ((7 : Int32) &&& 0x3f).toInt64.toUInt64).toInt64).toUInt64 >>> ((7 : Int32) &&& 0x3f).toInt64.toUInt64).toInt64).toUInt64 >>> ((7 : Int32) &&& 0x3f).toInt64.toUInt64).toInt64).toUInt64 >>> ((7 : Int32) &&& 0x3f).toInt64.toUInt64).toInt64).toUInt64 >>> ((7 : Int32) &&& 0x3f).toInt64.toUInt64).toInt64)), .second]) rfl ?_
                    show Steps p.tables e below (s₁.setTop (mkF m 21 #[.val (.long p0), .second, .val (.int (9 : Int32)), .val (.long ((((((((((((((((((p0.toUInt64 >>> ((7 : Int32) &&& 0x3f).toInt64.toUInt64).toInt64).toUInt64 >>> ((7 : Int32) &&& 0x3f).toInt64.toUInt64).toInt64).toUInt64 >>> ((7 : Int32) &&& 0x3f).toInt64.toUInt64).toInt64).toUInt64 >>> ((7 : Int32) &&& 0x3f).toInt64.toUInt64).toInt64).toUInt64 >>> ((7 : Int32) &&& 0x3f).toInt64.toUInt64).toInt64).toUInt64 >>> ((7 : Int32) &&& 0x3f).toInt64.toUInt64).toInt64).toUInt64 >>> ((7 : Int32) &&& 0x3f).toInt64.toUInt64).toInt64).toUInt64 >>> ((7 : Int32) &&& 0x3f).toInt64.toUInt64).toInt64).toUInt64 >>> ((7 : Int32) &&& 0x3f).toInt64.toUInt64).toInt64)), .second] [])) _
                    refine XS.goto X0.here hx rfl (pc0 := 21) (pc' := 7) rfl (hb hby d1_21) (by decide) (by decide) ?_
                    show Steps p.tables e below (s₁.setTop (mkF m 7 #[.val (.long p0), .second, .val (.int (9 : Int32)), .val (.long ((((((((((((((((((p0.toUInt64 >>> ((7 : Int32) &&& 0x3f).toInt64.toUInt64).toInt64).toUInt64 >>> ((7 : Int32) &&& 0x3f).toInt64.toUInt64).toInt64).toUInt64 >>> ((7 : Int32) &&& 0x3f).toInt64.toUInt64).toInt64).toUInt64 >>> ((7 : Int32) &&& 0x3f).toInt64.toUInt64).toInt64).toUInt64 >>> ((7 : Int32) &&& 0x3f).toInt64.toUInt64).toInt64).toUInt64 >>> ((7 : Int32) &&& 0x3f).toInt64.toUInt64).toInt64).toUInt64 >>> ((7 : Int32) &&& 0x3f).toInt64.toUInt64).toInt64).toUInt64 >>> ((7 : Int32) &&& 0x3f).toInt64.toUInt64).toInt64).toUInt64 >>> ((7 : Int32) &&& 0x3f).toInt64.toUInt64).toInt64)), .second] [])) _
                    refine XS.lloadN X0.here hx rfl (hb hby d1_7) rfl ?_
                    show Steps p.tables e below (s₁.setTop (mkF m 8 #[.val (.long p0), .second, .val (.int (9 : Int32)), .val (.long ((((((((((((((((((p0.toUInt64 >>> ((7 : Int32) &&& 0x3f).toInt64.toUInt64).toInt64).toUInt64 >>> ((7 : Int32) &&& 0x3f).toInt64.toUInt64).toInt64).toUInt64 >>> ((7 : Int32) &&& 0x3f).toInt64.toUInt64).toInt64).toUInt64 >>> ((7 : Int32) &&& 0x3f).toInt64.toUInt64).toInt64).toUInt64 >>> ((7 : Int32) &&& 0x3f).toInt64.toUInt64).toInt64).toUInt64 >>> ((7 : Int32) &&& 0x3f).toInt64.toUInt64).toInt64).toUInt64 >>> ((7 : Int32) &&& 0x3f).toInt64.toUInt64).toInt64).toUInt64 >>> ((7 : Int32) &&& 0x3f).toInt64.toUInt64).toInt64).toUInt64 >>> ((7 : Int32) &&& 0x3f).toInt64.toUInt64).toInt64)), .second] [(.long ((((((((((((((((((p0.toUInt64 >>> ((7 : Int32) &&& 0x3f).toInt64.toUInt64).toInt64).toUInt64 >>> ((7 : Int32) &&& 0x3f).toInt64.toUInt64).toInt64).toUInt64 >>> ((7 : Int32) &&& 0x3f).toInt64.toUInt64).toInt64).toUInt64 >>> ((7 : Int32) &&& 0x3f).toInt64.toUInt64).toInt64).toUInt64 >>> ((7 : Int32) &&& 0x3f).toInt64.toUInt64).toInt64).toUInt64 >>> ((7 : Int32) &&& 0x3f).toInt64.toUInt64).toInt64).toUInt64 >>> ((7 : Int32) &&& 0x3f).toInt64.toUInt64).toInt64).toUInt64 >>> ((7 : Int32) &&& 0x3f).toInt64.toUInt64).toInt64).toUInt64 >>> ((7 : Int32) &&& 0x3f).toInt64.toUInt64).toInt64))])) _
                    refine XS.lconst X0.here hx rfl (hb hby d1_8) ?_
                    show Steps p.tables e below (s₁.setTop (mkF m 9 #[.val (.long p0), .second, .val (.int (9 : Int32)), .val (.long ((((((((((((((((((p0.toUInt64 >>> ((7 : Int32) &&& 0x3f).toInt64.toUInt64).toInt64).toUInt64 >>> ((7 : Int32) &&& 0x3f).toInt64.toUInt64).toInt64).toUInt64 >>> ((7 : Int32) &&& 0x3f).toInt64.toUInt64).toInt64).toUInt64 >>> ((7 : Int32) &&& 0x3f).toInt64.toUInt64).toInt64).toUInt64 >>> ((7 : Int32) &&& 0x3f).toInt64.toUInt64).toInt64).toUInt64 >>> ((7 : Int32) &&& 0x3f).toInt64.toUInt64).toInt64).toUInt64 >>> ((7 : Int32) &&& 0x3f).toInt64.toUInt64).toInt64).toUInt64 >>> ((7 : Int32) &&& 0x3f).toInt64.toUInt64).toInt64).toUInt64 >>> ((7 : Int32) &&& 0x3f).toInt64.toUInt64).toInt64)), .second] [(.long (0 : Int64)), (.long ((((((((((((((((((p0.toUInt64 >>> ((7 : Int32) &&& 0x3f).toInt64.toUInt64).toInt64).toUInt64 >>> ((7 : Int32) &&& 0x3f).toInt64.toUInt64).toInt64).toUInt64 >>> ((7 : Int32) &&& 0x3f).toInt64.toUInt64).toInt64).toUInt64 >>> ((7 : Int32) &&& 0x3f).toInt64.toUInt64).toInt64).toUInt64 >>> ((7 : Int32) &&& 0x3f).toInt64.toUInt64).toInt64).toUInt64 >>> ((7 : Int32) &&& 0x3f).toInt64.toUInt64).toInt64).toUInt64 >>> ((7 : Int32) &&& 0x3f).toInt64.toUInt64).toInt64).toUInt64 >>> ((7 : Int32) &&& 0x3f).toInt64.toUInt64).toInt64).toUInt64 >>> ((7 : Int32) &&& 0x3f).toInt64.toUInt64).toInt64))])) _
                    refine XS.lcmp X0.here hx rfl (hb hby d1_9) rfl ?_
                    exact k
                  by_cases hc10'''''''' : ((((((((((((((((((p0.toUInt64 >>> ((7 : Int32) &&& 0x3f).toInt64.toUInt64).toInt64).toUInt64 >>> ((7 : Int32) &&& 0x3f).toInt64.toUInt64).toInt64).toUInt64 >>> ((7 : Int32) &&& 0x3f).toInt64.toUInt64).toInt64).toUInt64 >>> ((7 : Int32) &&& 0x3f).toInt64.toUInt64).toInt64).toUInt64 >>> ((7 : Int32) &&& 0x3f).toInt64.toUInt64).toInt64).toUInt64 >>> ((7 : Int32) &&& 0x3f).toInt64.toUInt64).toInt64).toUInt64 >>> ((7 : Int32) &&& 0x3f).toInt64.toUInt64).toInt64).toUInt64 >>> ((7 : Int32) &&& 0x3f).toInt64.toUInt64).toInt64).toUInt64 >>> ((7 : Int32) &&& 0x3f).toInt64.toUInt64).toInt64) = (0 : Int64)
                  · have pre18 : ∀ t, Steps p.tables e below (s₁.setTop (mkF m 25 #[.val (.long p0), .second, .val (.int (9 : Int32)), .val (.long ((((((((((((((((((p0.toUInt64 >>> ((7 : Int32) &&& 0x3f).toInt64.toUInt64).toInt64).toUInt64 >>> ((7 : Int32) &&& 0x3f).toInt64.toUInt64).toInt64).toUInt64 >>> ((7 : Int32) &&& 0x3f).toInt64.toUInt64).toInt64).toUInt64 >>> ((7 : Int32) &&& 0x3f).toInt64.toUInt64).toInt64).toUInt64 >>> ((7 : Int32) &&& 0x3f).toInt64.toUInt64).toInt64).toUInt64 >>> ((7 : Int32) &&& 0x3f).toInt64.toUInt64).toInt64).toUInt64 >>> ((7 : Int32) &&& 0x3f).toInt64.toUInt64).toInt64).toUInt64 >>> ((7 : Int32) &&& 0x3f).toInt64.toUInt64).toInt64).toUInt64 >>> ((7 : Int32) &&& 0x3f).toInt64.toUInt64).toInt64)), .second] [(.int (9 : Int32))])) t → Steps p.tables e below (s₁.setTop (entryFrame m #[(.long p0)] 5)) t := by
                      intro t k
                      refine pre17 t ?_
                      show Steps p.tables e below (s₁.setTop (mkF m 10 #[.val (.long p0), .second, .val (.int (9 : Int32)), .val (.long ((((((((((((((((((p0.toUInt64 >>> ((7 : Int32) &&& 0x3f).toInt64.toUInt64).toInt64).toUInt64 >>> ((7 : Int32) &&& 0x3f).toInt64.toUInt64).toInt64).toUInt64 >>> ((7 : Int32) &&& 0x3f).toInt64.toUInt64).toInt64).toUInt64 >>> ((7 : Int32) &&& 0x3f).toInt64.toUInt64).toInt64).toUInt64 >>> ((7 : Int32) &&& 0x3f).toInt64.toUInt64).toInt64).toUInt64 >>> ((7 : Int32) &&& 0x3f).toInt64.toUInt64).toInt64).toUInt64 >>> ((7 : Int32) &&& 0x3f).toInt64.toUInt64).toInt64).toUInt64 >>> ((7 : Int32) &&& 0x3f).toInt64.toUInt64).toInt64).toUInt64 >>> ((7 : Int32) &&& 0x3f).toInt64.toUInt64).toInt64)), .second] [(.int (lcmpW ((((((((((((((((((p0.toUInt64 >>> ((7 : Int32) &&& 0x3f).toInt64.toUInt64).toInt64).toUInt64 >>> ((7 : Int32) &&& 0x3f).toInt64.toUInt64).toInt64).toUInt64 >>> ((7 : Int32) &&& 0x3f).toInt64.toUInt64).toInt64).toUInt64 >>> ((7 : Int32) &&& 0x3f).toInt64.toUInt64).toInt64).toUInt64 >>> ((7 : Int32) &&& 0x3f).toInt64.toUInt64).toInt64).toUInt64 >>> ((7 : Int32) &&& 0x3f).toInt64.toUInt64).toInt64).toUInt64 >>> ((7 : Int32) &&& 0x3f).toInt64.toUInt64).toInt64).toUInt64 >>> ((7 : Int32) &&& 0x3f).toInt64.toUInt64).toInt64).toUInt64 >>> ((7 : Int32) &&& 0x3f).toInt64.toUInt64).toInt64) (0 : Int64)))])) _
                      refine XS.ifYes X0.here hx rfl (pc0 := 10) (pc' := 24) rfl (hb hby d1_10) rfl ((if0 _ _).trans (teq ((lw_eq _ _).mpr hc10'''''''')).1) (by decide) (by decide) ?_
                      show Steps p.tables e below (s₁.setTop (mkF m 24 #[.val (.long p0), .second, .val (.int (9 : Int32)), .val (.long ((((((((((((((((((p0.toUInt64 >>> ((7 : Int32) &&& 0x3f).toInt64.toUInt64).toInt64).toUInt64 >>> ((7 : Int32) &&& 0x3f).toInt64.toUInt64).toInt64).toUInt64 >>> ((7 : Int32) &&& 0x3f).toInt64.toUInt64).toInt64).toUInt64 >>> ((7 : Int32) &&& 0x3f).toInt64.toUInt64).toInt64).toUInt64 >>> ((7 : Int32) &&& 0x3f).toInt64.toUInt64).toInt64).toUInt64 >>> ((7 : Int32) &&& 0x3f).toInt64.toUInt64).toInt64).toUInt64 >>> ((7 : Int32) &&& 0x3f).toInt64.toUInt64).toInt64).toUInt64 >>> ((7 : Int32) &&& 0x3f).toInt64.toUInt64).toInt64).toUInt64 >>> ((7 : Int32) &&& 0x3f).toInt64.toUInt64).toInt64)), .second] [])) _
                      refine XS.iloadN X0.here hx rfl (hb hby d1_24) rfl ?_
                      exact k
                    obtain ⟨fs, hr, hrun, hended, hW, hsame⟩ := X0.leave (v := some (.int (9 : Int32))) (fun h => by rw [Bd.returns] at h; cases h)
                    refine ⟨_, _, pre18 _ ?_, hrun, hended, _, _, rfl, ?_, ⟨_, rfl⟩, hW, hsame.mono (by decide) (by decide)⟩
                    · exact retI X0 hx Bd.returns (hb hby d1_25) hr
                    · show Q1 Z p0 h0 n0 _ s₁.heap _
                      rw [e0]
                      refine ⟨?_, N0, rfl⟩
                      unfold own_size; rw [if_neg hc10, if_neg hc10', if_neg hc10'', if_neg hc10''', if_neg hc10'''', if_neg hc10''''', if_neg hc10'''''', if_neg hc10''''''', if_pos hc10'''''''']
                  · have pre19 : ∀ t, Steps p.tables e below (s₁.setTop (mkF m 10 #[.val (.long p0), .second, .val (.int (10 : Int32)), .val (.long ((((((((((((((((((((p0.toUInt64 >>> ((7 : Int32) &&& 0x3f).toInt64.toUInt64).toInt64).toUInt64 >>> ((7 : Int32) &&& 0x3f).toInt64.toUInt64).toInt64).toUInt64 >>> ((7 : Int32) &&& 0x3f).toInt64.toUInt64).toInt64).toUInt64 >>> ((7 : Int32) &&& 0x3f).toInt64.toUInt64).toInt64).toUInt64 >>> ((7 : Int32) &&& 0x3f).toInt64.toUInt64).toInt64).toUInt64 >>> ((7 : Int32) &&& 0x3f).toInt64.toUInt64).toInt64).toUInt64 >>> ((7 : Int32) &&& 0x3f).toInt64.toUInt64).toInt64).toUInt64 >>> ((7 : Int32) &&& 0x3f).toInt64.toUInt64).toInt64).toUInt64 >>> ((7 : Int32) &&& 0x3f).toInt64.toUInt64).toInt64).toUInt64 >>> ((7 : Int32) &&& 0x3f).toInt64.toUInt64).toInt64)), .second] [(.int (lcmpW ((((((((((((((((((((p0.toUInt64 >>> ((7 : Int32) &&& 0x3f).toInt64.toUInt64).toInt64).toUInt64 >>> ((7 : Int32) &&& 0x3f).toInt64.toUInt64).toInt64).toUInt64 >>> ((7 : Int32) &&& 0x3f).toInt64.toUInt64).toInt64).toUInt64 >>> ((7 : Int32) &&& 0x3f).toInt64.toUInt64).toInt64).toUInt64 >>> ((7 : Int32) &&& 0x3f).toInt64.toUInt64).toInt64).toUInt64 >>> ((7 : Int32) &&& 0x3f).toInt64.toUInt64).toInt64).toUInt64 >>> ((7 : Int32) &&& 0x3f).toInt64.toUInt64).toInt64).toUInt64 >>> ((7 : Int32) &&& 0x3f).toInt64.toUInt64).toInt64).toUInt64 >>> ((7 : Int32) &&& 0x3f).toInt64.toUInt64).toInt64).toUInt64 >>> ((7 : Int32) &&& 0x3f).toInt64.toUInt64).toInt64) (0 : Int64)))])) t → Steps p.tables e below (s₁.setTop (entryFrame m #[(.long p0)] 5)) t := by
                      intro t k
                      refine pre17 t ?_
                      show Steps p.tables e below (s₁.setTop (mkF m 10 #[.val (.long p0), .second, .val (.int (9 : Int32)), .val (.long ((((((((((((((((((p0.toUInt64 >>> ((7 : Int32) &&& 0x3f).toInt64.toUInt64).toInt64).toUInt64 >>> ((7 : Int32) &&& 0x3f).toInt64.toUInt64).toInt64).toUInt64 >>> ((7 : Int32) &&& 0x3f).toInt64.toUInt64).toInt64).toUInt64 >>> ((7 : Int32) &&& 0x3f).toInt64.toUInt64).toInt64).toUInt64 >>> ((7 : Int32) &&& 0x3f).toInt64.toUInt64).toInt64).toUInt64 >>> ((7 : Int32) &&& 0x3f).toInt64.toUInt64).toInt64).toUInt64 >>> ((7 : Int32) &&& 0x3f).toInt64.toUInt64).toInt64).toUInt64 >>> ((7 : Int32) &&& 0x3f).toInt64.toUInt64).toInt64).toUInt64 >>> ((7 : Int32) &&& 0x3f).toInt64.toUInt64).toInt64)), .second] [(.int (lcmpW ((((((((((((((((((p0.toUInt64 >>> ((7 : Int32) &&& 0x3f).toInt64.toUInt64).toInt64).toUInt64 >>> ((7 : Int32) &&& 0x3f).toInt64.toUInt64).toInt64).toUInt64 >>> ((7 : Int32) &&& 0x3f).toInt64.toUInt64).toInt64).toUInt64 >>> ((7 : Int32) &&& 0x3f).toInt64.toUInt64).toInt64).toUInt64 >>> ((7 : Int32) &&& 0x3f).toInt64.toUInt64).toInt64).toUInt64 >>> ((7 : Int32) &&& 0x3f).toInt64.toUInt64).toInt64).toUInt64 >>> ((7 : Int32) &&& 0x3f).toInt64.toUInt64).toInt64).toUInt64 >>> ((7 : Int32) &&& 0x3f).toInt64.toUInt64).toInt64).toUInt64 >>> ((7 : Int32) &&& 0x3f).toInt64.toUInt64).toInt64) (0 : Int64)))])) _
                      refine XS.ifNo X0.here hx rfl (hb hby d1_10) rfl ((if0 _ _).trans (feq (fun q => hc10'''''''' ((lw_eq _ _).mp q))).1) ?_
                      show Steps p.tables e below (s₁.setTop (mkF m 13 #[.val (.long p0), .second, .val (.int (9 : Int32)), .val (.long ((((((((((((((((((p0.toUInt64 >>> ((7 : Int32) &&& 0x3f).toInt64.toUInt64).toInt64).toUInt64 >>> ((7 : Int32) &&& 0x3f).toInt64.toUInt64).toInt64).toUInt64 >>> ((7 : Int32) &&& 0x3f).toInt64.toUInt64).toInt64).toUInt64 >>> ((7 : Int32) &&& 0x3f).toInt64.toUInt64).toInt64).toUInt64 >>> ((7 : Int32) &&& 0x3f).toInt64.toUInt64).toInt64).toUInt64 >>> ((7 : Int32) &&& 0x3f).toInt64.toUInt64).toInt64).toUInt64 >>> ((7 : Int32) &&& 0x3f).toInt64.toUInt64).toInt64).toUInt64 >>> ((7 : Int32) &&& 0x3f).toInt64.toUInt64).toInt64).toUInt64 >>> ((7 : Int32) &&& 0x3f).toInt64.toUInt64).toInt64)), .second] [])) _
                      refine XS.iinc X0.here hx rfl (hb hby d1_13) rfl (l' := #[.val (.long p0), .second, .val (.int (10 : Int32)), .val (.long ((((((((((((((((((p0.toUInt64 >>> ((7 : Int32) &&& 0x3f).toInt64.toUInt64).toInt64).toUInt64 >>> ((7 : Int32) &&& 0x3f).toInt64.toUInt64).toInt64).toUInt64 >>> ((7 : Int32) &&& 0x3f).toInt64.toUInt64).toInt64).toUInt64 >>> ((7 : Int32) &&& 0x3f).toInt64.toUInt64).toInt64).toUInt64 >>> ((7 : Int32) &&& 0x3f).toInt64.toUInt64).toInt64).toUInt64 >>> ((7 : Int32) &&& 0x3f).toInt64.toUInt64).toInt64).toUInt64 >>> ((7 : Int32) &&& 0x3f).toInt64.toUInt64).toInt64).toUInt64 >>> ((7 : Int32) &&& 0x3f).toInt64.toUInt64).toInt64).toUInt64 >>> ((7 : Int32) &&& 0x3f).toInt64.toUInt64).toInt64)), .second]) rfl ?_
                      show Steps p.tables e below (s₁.setTop (mkF m 16 #[.val (.long p0), .second, .val (.int (10 : Int32)), .val (.long ((((((((((((((((((p0.toUInt64 >>> ((7 : Int32) &&& 0x3f).toInt64.toUInt64).toInt64).toUInt64 >>> ((7 : Int32) &&& 0x3f).toInt64.toUInt64).toInt64).toUInt64 >>> ((7 : Int32) &&& 0x3f).toInt64.toUInt64).toInt64).toUInt64 >>> ((7 : Int32) &&& 0x3f).toInt64.toUInt64).toInt64).toUInt64 >>> ((7 : Int32) &&& 0x3f).toInt64.toUInt64).toInt64).toUInt64 >>> ((7 : Int32) &&& 0x3f).toInt64.toUInt64).toInt64).toUInt64 >>> ((7 : Int32) &&& 0x3f).toInt64.toUInt64).toInt64).toUInt64 >>> ((7 : Int32) &&& 0x3f).toInt64.toUInt64).toInt64).toUInt64 >>> ((7 : Int32) &&& 0x3f).toInt64.toUInt64).toInt64)), .second] [])) _
                      refine XS.lloadN X0.here hx rfl (hb hby d1_16) rfl ?_
                      show Steps p.tables e below (s₁.setTop (mkF m 17 #[.val (.long p0), .second, .val (.int (10 : Int32)), .val (.long ((((((((((((((((((p0.toUInt64 >>> ((7 : Int32) &&& 0x3f).toInt64.toUInt64).toInt64).toUInt64 >>> ((7 : Int32) &&& 0x3f).toInt64.toUInt64).toInt64).toUInt64 >>> ((7 : Int32) &&& 0x3f).toInt64.toUInt64).toInt64).toUInt64 >>> ((7 : Int32) &&& 0x3f).toInt64.toUInt64).toInt64).toUInt64 >>> ((7 : Int32) &&& 0x3f).toInt64.toUInt64).toInt64).toUInt64 >>> ((7 : Int32) &&& 0x3f).toInt64.toUInt64).toInt64).toUInt64 >>> ((7 : Int32) &&& 0x3f).toInt64.toUInt64).toInt64).toUInt64 >>> ((7 : Int32) &&& 0x3f).toInt64.toUInt64).toInt64).toUInt64 >>> ((7 : Int32) &&& 0x3f).toInt64.toUInt64).toInt64)), .second] [(.long ((((((((((((((((((p0.toUInt64 >>> ((7 : Int32) &&& 0x3f).toInt64.toUInt64).toInt64).toUInt64 >>> ((7 : Int32) &&& 0x3f).toInt64.toUInt64).toInt64).toUInt64 >>> ((7 : Int32) &&& 0x3f).toInt64.toUInt64).toInt64).toUInt64 >>> ((7 : Int32) &&& 0x3f).toInt64.toUInt64).toInt64).toUInt64 >>> ((7 : Int32) &&& 0x3f).toInt64.toUInt64).toInt64).toUInt64 >>> ((7 : Int32) &&& 0x3f).toInt64.toUInt64).toInt64).toUInt64 >>> ((7 : Int32) &&& 0x3f).toInt64.toUInt64).toInt64).toUInt64 >>> ((7 : Int32) &&& 0x3f).toInt64.toUInt64).toInt64).toUInt64 >>> ((7 : Int32) &&& 0x3f).toInt64.toUInt64).toInt64))])) _
                      refine XS.bipush X0.here hx rfl (hb hby d1_17) ?_
                      show Steps p.tables e below (s₁.setTop (mkF m 19 #[.val (.long p0), .second, .val (.int (10 : Int32)), .val (.long ((((((((((((((((((p0.toUInt64 >>> ((7 : Int32) &&& 0x3f).toInt64.toUInt64).toInt64).toUInt64 >>> ((7 : Int32) &&& 0x3f).toInt64.toUInt64).toInt64).toUInt64 >>> ((7 : Int32) &&& 0x3f).toInt64.toUInt64).toInt64).toUInt64 >>> ((7 : Int32) &&& 0x3f).toInt64.toUInt64).toInt64).toUInt64 >>> ((7 : Int32) &&& 0x3f).toInt64.toUInt64).toInt64).toUInt64 >>> ((7 : Int32) &&& 0x3f).toInt64.toUInt64).toInt64).toUInt64 >>> ((7 : Int32) &&& 0x3f).toInt64.toUInt64).toInt64).toUInt64 >>> ((7 : Int32) &&& 0x3f).toInt64.toUInt64).toInt64).toUInt64 >>> ((7 : Int32) &&& 0x3f).toInt64.toUInt64).toInt64)), .second] [(.int (7 : Int32)), (.long ((((((((((((((((((p0.toUInt64 >>> ((7 : Int32) &&& 0x3f).toInt64.toUInt64).toInt64).toUInt64 >>> ((7 : Int32) &&& 0x3f).toInt64.toUInt64).toInt64).toUInt64 >>> ((7 : Int32) &&& 0x3f).toInt64.toUInt64).toInt64).toUInt64 >>> ((7 : Int32) &&& 0x3f).toInt64.toUInt64).toInt64).toUInt64 >>> ((7 : Int32) &&& 0x3f).toInt64.toUInt64).toInt64).toUInt64 >>> ((7 : Int32) &&& 0x3f).toInt64.toUInt64).toInt64).toUInt64 >>> ((7 : Int32) &&& 0x3f).toInt64.toUInt64).toInt64).toUInt64 >>> ((7 : Int32) &&& 0x3f).toInt64.toUInt64).toInt64).toUInt64 >>> ((7 : Int32) &&& 0x3f).toInt64.toUInt64).toInt64))])) _
                      refine XS.lushr X0.here hx rfl (hb hby d1_19) rfl ?_
                      show Steps p.tables e below (s₁.setTop (mkF m 20 #[.val (.long p0), .second, .val (.int (10 : Int32)), .val (.long ((((((((((((((((((p0.toUInt64 >>> ((7 : Int32) &&& 0x3f).toInt64.toUInt64).toInt64).toUInt64 >>> ((7 : Int32) &&& 0x3f).toInt64.toUInt64).toInt64).toUInt64 >>> ((7 : Int32) &&& 0x3f).toInt64.toUInt64).toInt64).toUInt64 >>> ((7 : Int32) &&& 0x3f).toInt64.toUInt64).toInt64).toUInt64 >>> ((7 : Int32) &&& 0x3f).toInt64.toUInt64).toInt64).toUInt64 >>> ((7 : Int32) &&& 0x3f).toInt64.toUInt64).toInt64).toUInt64 >>> ((7 : Int32) &&& 0x3f).toInt64.toUInt64).toInt64).toUInt64 >>> ((7 : Int32) &&& 0x3f).toInt64.toUInt64).toInt64).toUInt64 >>> ((7 : Int32) &&& 0x3f).toInt64.toUInt64).toInt64)), .second] [(.long ((((((((((((((((((((p0.toUInt64 >>> ((7 : Int32) &&& 0x3f).toInt64.toUInt64).toInt64).toUInt64 >>> ((7 : Int32) &&& 0x3f).toInt64.toUInt64).toInt64).toUInt64 >>> ((7 : Int32) &&& 0x3f).toInt64.toUInt64).toInt64).toUInt64 >>> ((7 : Int32) &&& 0x3f).toInt64.toUInt64).toInt64).toUInt64 >>> ((7 : Int32) &&& 0x3f).toInt64.toUInt64).toInt64).toUInt64 >>> ((7 : Int32) &&& 0x3f).toInt64.toUInt64).toInt64).toUInt64 >>> ((7 : Int32) &&& 0x3f).toInt64.toUInt64).toInt64).toUInt64 >>> ((7 : Int32) &&& 0x3f).toInt64.toUInt64).toInt64).toUInt64 >>> ((7 : Int32) &&& 0x3f).toInt64.toUInt64).toInt64).toUInt64 >>> ((7 : Int32) &&& 0x3f).toInt64.toUInt64).toInt64))])) _
                      refine XS.lstoreN X0.here hx rfl (hb hby d1_20) rfl (l' := #[.val (.long p0), .second, .val (.int (10 : Int32)), .val (.long ((((((((((((((((((((p0.toUInt64 >>> ((7 : Int32) &&& 0x3f).toInt64.toUInt64).toInt64).toUInt64 >>> ((7 : Int32) &&& 0x3f).toInt64.toUInt64).toInt64).toUInt64 >>> ((7 : Int32) &&& 0x3f).toInt64.toUInt64).toInt64).toUInt64 >>> ((7 : Int32) &&& 0x3f).toInt64.toUInt64).toInt64).toUInt64 >>> ((7 : Int32) &&& 0x3f).toInt64.toUInt64).toInt64).toUInt64 >>> ((7 : Int32) &&& 0x3f).toInt64.toUInt64).toInt64).toUInt64 >>> ((7 : Int32) &&& 0x3f).toInt64.toUInt64).toInt64).toUInt64 >>> ((7 : Int32) &&& 0x3f).toInt64.toUInt64).toInt64).toUInt64 >>> ((7 : Int32) &&& 0x3f).toInt64.toUInt64).toInt64).toUInt64 >>> ((7 : Int32) &&& 0x3f).toInt64.toUInt64).toInt64)), .second]) rfl ?_
                      show Steps p.tables e below (s₁.setTop (mkF m 21 #[.val (.long p0), .second, .val (.int (10 : Int32)), .val (.long ((((((((((((((((((((p0.toUInt64 >>> ((7 : Int32) &&& 0x3f).toInt64.toUInt64).toInt64).toUInt64 >>> ((7 : Int32) &&& 0x3f).toInt64.toUInt64).toInt64).toUInt64 >>> ((7 : Int32) &&& 0x3f).toInt64.toUInt64).toInt64).toUInt64 >>> ((7 : Int32) &&& 0x3f).toInt64.toUInt64).toInt64).toUInt64 >>> ((7 : Int32) &&& 0x3f).toInt64.toUInt64).toInt64).toUInt64 >>> ((7 : Int32) &&& 0x3f).toInt64.toUInt64).toInt64).toUInt64 >>> ((7 : Int32) &&& 0x3f).toInt64.toUInt64).toInt64).toUInt64 >>> ((7 : Int32) &&& 0x3f).toInt64.toUInt64).toInt64).toUInt64 >>> ((7 : Int32) &&& 0x3f).toInt64.toUInt64).toInt64).toUInt64 >>> ((7 : Int32) &&& 0x3f).toInt64.toUInt64).toInt64)), .second] [])) _
                      refine XS.goto X0.here hx rfl (pc0 := 21) (pc' := 7) rfl (hb hby d1_21) (by decide) (by decide) ?_
                      show Steps p.tables e below (s₁.setTop (mkF m 7 #[.val (.long p0), .second, .val (.int (10 : Int32)), .val (.long ((((((((((((((((((((p0.toUInt64 >>> ((7 : Int32) &&& 0x3f).toInt64.toUInt64).toInt64).toUInt64 >>> ((7 : Int32) &&& 0x3f).toInt64.toUInt64).toInt64).toUInt64 >>> ((7 : Int32) &&& 0x3f).toInt64.toUInt64).toInt64).toUInt64 >>> ((7 : Int32) &&& 0x3f).toInt64.toUInt64).toInt64).toUInt64 >>> ((7 : Int32) &&& 0x3f).toInt64.toUInt64).toInt64).toUInt64 >>> ((7 : Int32) &&& 0x3f).toInt64.toUInt64).toInt64).toUInt64 >>> ((7 : Int32) &&& 0x3f).toInt64.toUInt64).toInt64).toUInt64 >>> ((7 : Int32) &&& 0x3f).toInt64.toUInt64).toInt64).toUInt64 >>> ((7 : Int32) &&& 0x3f).toInt64.toUInt64).toInt64).toUInt64 >>> ((7 : Int32) &&& 0x3f).toInt64.toUInt64).toInt64)), .second] [])) _
                      refine XS.lloadN X0.here hx rfl (hb hby d1_7) rfl ?_
                      show Steps p.tables e below (s₁.setTop (mkF m 8 #[.val (.long p0), .second, .val (.int (10 : Int32)), .val (.long ((((((((((((((((((((p0.toUInt64 >>> ((7 : Int32) &&& 0x3f).toInt64.toUInt64).toInt64).toUInt64 >>> ((7 : Int32) &&& 0x3f).toInt64.toUInt64).toInt64).toUInt64 >>> ((7 : Int32) &&& 0x3f).toInt64.toUInt64).toInt64).toUInt64 >>> ((7 : Int32) &&& 0x3f).toInt64.toUInt64).toInt64).toUInt64 >>> ((7 : Int32) &&& 0x3f).toInt64.toUInt64).toInt64).toUInt64 >>> ((7 : Int32) &&& 0x3f).toInt64.toUInt64).toInt64).toUInt64 >>> ((7 : Int32) &&& 0x3f).toInt64.toUInt64).toInt64).toUInt64 >>> ((7 : Int32) &&& 0x3f).toInt64.toUInt64).toInt64).toUInt64 >>> ((7 : Int32) &&& 0x3f).toInt64.toUInt64).toInt64).toUInt64 >>> ((7 : Int32) &&& 0x3f).toInt64.toUInt64).toInt64)), .second] [(.long ((((((((((((((((((((p0.toUInt64 >>> ((7 : Int32) &&& 0x3f).toInt64.toUInt64).toInt64).toUInt64 >>> ((7 : Int32) &&& 0x3f).toInt64.toUInt64).toInt64).toUInt64 >>> ((7 : Int32) &&& 0x3f).toInt64.toUInt64).toInt64).toUInt64 >>> ((7 : Int32) &&& 0x3f).toInt64.toUInt64).toInt64).toUInt64 >>> ((7 : Int32) &&& 0x3f).toInt64.toUInt64).toInt64).toUInt64 >>> ((7 : Int32) &&& 0x3f).toInt64.toUInt64).toInt64).toUInt64 >>> ((7 : Int32) &&& 0x3f).toInt64.toUInt64).toInt64).toUInt64 >>> ((7 : Int32) &&& 0x3f).toInt64.toUInt64).toInt64).toUInt64 >>> ((7 : Int32) &&& 0x3f).toInt64.toUInt64).toInt64).toUInt64 >>> ((7 : Int32) &&& 0x3f).toInt64.toUInt64).toInt64))])) _
                      refine XS.lconst X0.here hx rfl (hb hby d1_8) ?_
                      show Steps p.tables e below (s₁.setTop (mkF m 9 #[.val (.long p0), .second, .val (.int (10 : Int32)), .val (.long ((((((((((((((((((((p0.toUInt64 >>> ((7 : Int32) &&& 0x3f).toInt64.toUInt64).toInt64).toUInt64 >>> ((7 : Int32) &&& 0x3f).toInt64.toUInt64).toInt64).toUInt64 >>> ((7 : Int32) &&& 0x3f).toInt64.toUInt64).toInt64).toUInt64 >>> ((7 : Int32) &&& 0x3f).toInt64.toUInt64).toInt64).toUInt64 >>> ((7 : Int32) &&& 0x3f).toInt64.toUInt64).toInt64).toUInt64 >>> ((7 : Int32) &&& 0x3f).toInt64.toUInt64).toInt64).toUInt64 >>> ((7 : Int32) &&& 0x3f).toInt64.toUInt64).toInt64).toUInt64 >>> ((7 : Int32) &&& 0x3f).toInt64.toUInt64).toInt64).toUInt64 >>> ((7 : Int32) &&& 0x3f).toInt64.toUInt64).toInt64).toUInt64 >>> ((7 : Int32) &&& 0x3f).toInt64.toUInt64).toInt64)), .second] [(.long (0 : Int64)), (.long ((((((((((((((((((((p0.toUInt64 >>> ((7 : Int32) &&& 0x3f).toInt64.toUInt64).toInt64).toUInt64 >>> ((7 : Int32) &&& 0x3f).toInt64.toUInt64).toInt64).toUInt64 >>> ((7 : Int32) &&& 0x3f).toInt64.toUInt64).toInt64).toUInt64 >>> ((7 : Int32) &&& 0x3f).toInt64.toUInt64).toInt64).toUInt64 >>> ((7 : Int32) &&& 0x3f).toInt64.toUInt64).toInt64).toUInt64 >>> ((7 : Int32) &&& 0x3f).toInt64.toUInt64).toInt64).toUInt64 >>> ((7 : Int32) &&& 0x3f).toInt64.toUInt64).toInt64).toUInt64 >>> ((7 : Int32) &&& 0x3f).toInt64.toUInt64).toInt64).toUInt64 >>> ((7 : Int32) &&& 0x3f).toInt64.toUInt64).toInt64).toUInt64 >>> ((7 : Int32) &&& 0x3f).toInt64.toUInt64).toInt64))])) _
                      refine XS.lcmp X0.here hx rfl (hb hby d1_9) rfl ?_
                      exact k
                    by_cases hc10''''''''' : ((((((((((((((((((((p0.toUInt64 >>> ((7 : Int32) &&& 0x3f).toInt64.toUInt64).toInt64).toUInt64 >>> ((7 : Int32) &&& 0x3f).toInt64.toUInt64).toInt64).toUInt64 >>> ((7 : Int32) &&& 0x3f).toInt64.toUInt64).toInt64).toUInt64 >>> ((7 : Int32) &&& 0x3f).toInt64.toUInt64).toInt64).toUInt64 >>> ((7 : Int32) &&& 0x3f).toInt64.toUInt64).toInt64).toUInt64 >>> ((7 : Int32) &&& 0x3f).toInt64.toUInt64).toInt64).toUInt64 >>> ((7 : Int32) &&& 0x3f).toInt64.toUInt64).toInt64).toUInt64 >>> ((7 : Int32) &&& 0x3f).toInt64.toUInt64).toInt64).toUInt64 >>> ((7 : Int32) &&& 0x3f).toInt64.toUInt64).toInt64).toUInt64 >>> ((7 : Int32) &&& 0x3f).toInt64.toUInt64).toInt64) = (0 : Int64)
                    · have pre20 : ∀ t, Steps p.tables e below (s₁.setTop (mkF m 25 #[.val (.long p0), .second, .val (.int (10 : Int32)), .val (.long ((((((((((((((((((((p0.toUInt64 >>> ((7 : Int32) &&& 0x3f).toInt64.toUInt64).toInt64).toUInt64 >>> ((7 : Int32) &&& 0x3f).toInt64.toUInt64).toInt64).toUInt64 >>> ((7 : Int32) &&& 0x3f).toInt64.toUInt64).toInt64).toUInt64 >>> ((7 : Int32) &&& 0x3f).toInt64.toUInt64).toInt64).toUInt64 >>> ((7 : Int32) &&& 0x3f).toInt64.toUInt64).toInt64).toUInt64 >>> ((7 : Int32) &&& 0x3f).toInt64.toUInt64).toInt64).toUInt64 >>> ((7 : Int32) &&& 0x3f).toInt64.toUInt64).toInt64).toUInt64 >>> ((7 : Int32) &&& 0x3f).toInt64.toUInt64).toInt64).toUInt64 >>> ((7 : Int32) &&& 0x3f).toInt64.toUInt64).toInt64).toUInt64 >>> ((7 : Int32) &&& 0x3f).toInt64.toUInt64).toInt64)), .second] [(.int (10 : Int32))])) t → Steps p.tables e below (s₁.setTop (entryFrame m #[(.long p0)] 5)) t := by
                        intro t k
                        refine pre19 t ?_
                        show Steps p.tables e below (s₁.setTop (mkF m 10 #[.val (.long p0), .second, .val (.int (10 : Int32)), .val (.long ((((((((((((((((((((p0.toUInt64 >>> ((7 : Int32) &&& 0x3f).toInt64.toUInt64).toInt64).toUInt64 >>> ((7 : Int32) &&& 0x3f).toInt64.toUInt64).toInt64).toUInt64 >>> ((7 : Int32) &&& 0x3f).toInt64.toUInt64).toInt64).toUInt64 >>> ((7 : Int32) &&& 0x3f).toInt64.toUInt64).toInt64).toUInt64 >>> ((7 : Int32) &&& 0x3f).toInt64.toUInt64).toInt64).toUInt64 >>> ((7 : Int32) &&& 0x3f).toInt64.toUInt64).toInt64).toUInt64 >>> ((7 : Int32) &&& 0x3f).toInt64.toUInt64).toInt64).toUInt64 >>> ((7 : Int32) &&& 0x3f).toInt64.toUInt64).toInt64).toUInt64 >>> ((7 : Int32) &&& 0x3f).toInt64.toUInt64).toInt64).toUInt64 >>> ((7 : Int32) &&& 0x3f).toInt64.toUInt64).toInt64)), .second] [(.int (lcmpW ((((((((((((((((((((p0.toUInt64 >>> ((7 : Int32) &&& 0x3f).toInt64.toUInt64).toInt64).toUInt64 >>> ((7 : Int32) &&& 0x3f).toInt64.toUInt64).toInt64).toUInt64 >>> ((7 : Int32) &&& 0x3f).toInt64.toUInt64).toInt64).toUInt64 >>> ((7 : Int32) &&& 0x3f).toInt64.toUInt64).toInt64).toUInt64 >>> ((7 : Int32) &&& 0x3f).toInt64.toUInt64).toInt64).toUInt64 >>> ((7 : Int32) &&& 0x3f).toInt64.toUInt64).toInt64).toUInt64 >>> ((7 : Int32) &&& 0x3f).toInt64.toUInt64).toInt64).toUInt64 >>> ((7 : Int32) &&& 0x3f).toInt64.toUInt64).toInt64).toUInt64 >>> ((7 : Int32) &&& 0x3f).toInt64.toUInt64).toInt64).toUInt64 >>> ((7 : Int32) &&& 0x3f).toInt64.toUInt64).toInt64) (0 : Int64)))])) _
                        refine XS.ifYes X0.here hx rfl (pc0 := 10) (pc' := 24) rfl (hb hby d1_10) rfl ((if0 _ _).trans (teq ((lw_eq _ _).mpr hc10''''''''')).1) (by decide) (by decide) ?_
                        show Steps p.tables e below (s₁.setTop (mkF m 24 #[.val (.long p0), .second, .val (.int (10 : Int32)), .val (.long ((((((((((((((((((((p0.toUInt64 >>> ((7 : Int32) &&& 0x3f).toInt64.toUInt64).toInt64).toUInt64 >>> ((7 : Int32) &&& 0x3f).toInt64.toUInt64).toInt64).toUInt64 >>> ((7 : Int32) &&& 0x3f).toInt64.toUInt64).toInt64).toUInt64 >>> ((7 : Int32) &&& 0x3f).toInt64.toUInt64).toInt64).toUInt64 >>> ((7 : Int32) &&& 0x3f).toInt64.toUInt64).toInt64).toUInt64 >>> ((7 : Int32) &&& 0x3f).toInt64.toUInt64).toInt64).toUInt64 >>> ((7 : Int32) &&& 0x3f).toInt64.toUInt64).toInt64).toUInt64 >>> ((7 : Int32) &&& 0x3f).toInt64.toUInt64).toInt64).toUInt64 >>> ((7 : Int32) &&& 0x3f).toInt64.toUInt64).toInt64).toUInt64 >>> ((7 : Int32) &&& 0x3f).toInt64.toUInt64).toInt64)), .second] [])) _
                        refine XS.iloadN X0.here hx rfl (hb hby d1_24) rfl ?_
                        exact k
                      obtain ⟨fs, hr, hrun, hended, hW, hsame⟩ := X0.leave (v := some (.int (10 : Int32))) (fun h => by rw [Bd.returns] at h; cases h)
                      refine ⟨_, _, pre20 _ ?_, hrun, hended, _, _, rfl, ?_, ⟨_, rfl⟩, hW, hsame.mono (by decide) (by decide)⟩
                      · exact retI X0 hx Bd.returns (hb hby d1_25) hr
                      · show Q1 Z p0 h0 n0 _ s₁.heap _
                        rw [e0]
                        refine ⟨?_, N0, rfl⟩
                        unfold own_size; rw [if_neg hc10, if_neg hc10', if_neg hc10'', if_neg hc10''', if_neg hc10'''', if_neg hc10''''', if_neg hc10'''''', if_neg hc10''''''', if_neg hc10'''''''', if_pos hc10''''''''']
                    · exfalso
                      exact hc10''''''''' (own_zero p0)
theorem d2_0 : decode method_2_code 0 = .ok (.lload_n 0, 1) := by decide +kernel
theorem d2_1 : decode method_2_code 1 = .ok (.lconst 0, 1) := by decide +kernel
theorem d2_2 : decode method_2_code 2 = .ok (.lcmp, 1) := by decide +kernel
theorem d2_3 : decode method_2_code 3 = .ok (.ifCond .ge 6, 3) := by decide +kernel
theorem d2_6 : decode method_2_code 6 = .ok (.bipush 10, 2) := by decide +kernel
theorem d2_8 : decode method_2_code 8 = .ok (.ireturn, 1) := by decide +kernel
theorem d2_9 : decode method_2_code 9 = .ok (.lload_n 0, 1) := by decide +kernel
theorem d2_10 : decode method_2_code 10 = .ok (.ldc2_w 7, 3) := by decide +kernel
theorem d2_13 : decode method_2_code 13 = .ok (.lcmp, 1) := by decide +kernel
theorem d2_14 : decode method_2_code 14 = .ok (.ifCond .ge 5, 3) := by decide +kernel
theorem d2_17 : decode method_2_code 17 = .ok (.iconst 1, 1) := by decide +kernel
theorem d2_18 : decode method_2_code 18 = .ok (.ireturn, 1) := by decide +kernel
theorem d2_19 : decode method_2_code 19 = .ok (.lload_n 0, 1) := by decide +kernel
theorem d2_20 : decode method_2_code 20 = .ok (.ldc2_w 9, 3) := by decide +kernel
theorem d2_23 : decode method_2_code 23 = .ok (.lcmp, 1) := by decide +kernel
theorem d2_24 : decode method_2_code 24 = .ok (.ifCond .ge 5, 3) := by decide +kernel
theorem d2_27 : decode method_2_code 27 = .ok (.iconst 2, 1) := by decide +kernel
theorem d2_28 : decode method_2_code 28 = .ok (.ireturn, 1) := by decide +kernel
theorem d2_29 : decode method_2_code 29 = .ok (.lload_n 0, 1) := by decide +kernel
theorem d2_30 : decode method_2_code 30 = .ok (.ldc2_w 11, 3) := by decide +kernel
theorem d2_33 : decode method_2_code 33 = .ok (.lcmp, 1) := by decide +kernel
theorem d2_34 : decode method_2_code 34 = .ok (.ifCond .ge 5, 3) := by decide +kernel
theorem d2_37 : decode method_2_code 37 = .ok (.iconst 3, 1) := by decide +kernel
theorem d2_38 : decode method_2_code 38 = .ok (.ireturn, 1) := by decide +kernel
theorem d2_39 : decode method_2_code 39 = .ok (.lload_n 0, 1) := by decide +kernel
theorem d2_40 : decode method_2_code 40 = .ok (.ldc2_w 13, 3) := by decide +kernel
theorem d2_43 : decode method_2_code 43 = .ok (.lcmp, 1) := by decide +kernel
theorem d2_44 : decode method_2_code 44 = .ok (.ifCond .ge 5, 3) := by decide +kernel
theorem d2_47 : decode method_2_code 47 = .ok (.iconst 4, 1) := by decide +kernel
theorem d2_48 : decode method_2_code 48 = .ok (.ireturn, 1) := by decide +kernel
theorem d2_49 : decode method_2_code 49 = .ok (.lload_n 0, 1) := by decide +kernel
theorem d2_50 : decode method_2_code 50 = .ok (.ldc2_w 15, 3) := by decide +kernel
theorem d2_53 : decode method_2_code 53 = .ok (.lcmp, 1) := by decide +kernel
theorem d2_54 : decode method_2_code 54 = .ok (.ifCond .ge 5, 3) := by decide +kernel
theorem d2_57 : decode method_2_code 57 = .ok (.iconst 5, 1) := by decide +kernel
theorem d2_58 : decode method_2_code 58 = .ok (.ireturn, 1) := by decide +kernel
theorem d2_59 : decode method_2_code 59 = .ok (.lload_n 0, 1) := by decide +kernel
theorem d2_60 : decode method_2_code 60 = .ok (.ldc2_w 17, 3) := by decide +kernel
theorem d2_63 : decode method_2_code 63 = .ok (.lcmp, 1) := by decide +kernel
theorem d2_64 : decode method_2_code 64 = .ok (.ifCond .ge 6, 3) := by decide +kernel
theorem d2_67 : decode method_2_code 67 = .ok (.bipush 6, 2) := by decide +kernel
theorem d2_69 : decode method_2_code 69 = .ok (.ireturn, 1) := by decide +kernel
theorem d2_70 : decode method_2_code 70 = .ok (.lload_n 0, 1) := by decide +kernel
theorem d2_71 : decode method_2_code 71 = .ok (.ldc2_w 19, 3) := by decide +kernel
theorem d2_74 : decode method_2_code 74 = .ok (.lcmp, 1) := by decide +kernel
theorem d2_75 : decode method_2_code 75 = .ok (.ifCond .ge 6, 3) := by decide +kernel
theorem d2_78 : decode method_2_code 78 = .ok (.bipush 7, 2) := by decide +kernel
theorem d2_80 : decode method_2_code 80 = .ok (.ireturn, 1) := by decide +kernel
theorem d2_81 : decode method_2_code 81 = .ok (.lload_n 0, 1) := by decide +kernel
theorem d2_82 : decode method_2_code 82 = .ok (.ldc2_w 21, 3) := by decide +kernel
theorem d2_85 : decode method_2_code 85 = .ok (.lcmp, 1) := by decide +kernel
theorem d2_86 : decode method_2_code 86 = .ok (.ifCond .ge 6, 3) := by decide +kernel
theorem d2_89 : decode method_2_code 89 = .ok (.bipush 8, 2) := by decide +kernel
theorem d2_91 : decode method_2_code 91 = .ok (.ireturn, 1) := by decide +kernel
theorem d2_92 : decode method_2_code 92 = .ok (.bipush 9, 2) := by decide +kernel
theorem d2_94 : decode method_2_code 94 = .ok (.ireturn, 1) := by decide +kernel
def own_exp (p0 : Int64) : Int32 := (if p0 < (0 : Int64) then (10 : Int32) else (if p0 < (128 : Int64) then (1 : Int32) else (if p0 < (16384 : Int64) then (2 : Int32) else (if p0 < (2097152 : Int64) then (3 : Int32) else (if p0 < (268435456 : Int64) then (4 : Int32) else (if p0 < (34359738368 : Int64) then (5 : Int32) else (if p0 < (4398046511104 : Int64) then (6 : Int32) else (if p0 < (562949953421312 : Int64) then (7 : Int32) else (if p0 < (72057594037927936 : Int64) then (8 : Int32) else (9 : Int32))))))))))
theorem pn_2 : plainName "com/example/wirecall/wirecall/VarintSizePinLaw" = true := by first | (simp [plainName, overriddenIn]; done) | decide +kernel
theorem ef_2 (m : MethodId) (x0 : Int64) : entryFrame m #[(.long x0)] 2 = mkF m 0 #[.val (.long x0), .second] [] := by first | (simp [entryFrame, mkF, argsToLocals, Value.category]; done) | rfl
def Q2 (Z : State) (p0 : Int64) (h0 : Heap) (n0 : Nat) (v : Option Value) (h : Heap) (L : List Loc) : Prop := v = some (.int (own_exp p0)) ∧ Fr n0 L ∧ h = h0
set_option maxRecDepth 65536 in
set_option maxHeartbeats 40000000 in
theorem rm2 (l : Launch) (Z : State) (a0 : Array Value) (hw : ∀ d ∈ tables_1, d.before a0 Z = true) (ws : List Jvm.Cond) (p0 : Int64) (h0 : Heap) (n0 : Nat) (Z0 : n0 ≤ h0.size) :
    MetFree l (⟨"com/example/wirecall/wirecall/VarintSizePinLaw", "expected", "(J)I"⟩ : MethodName) (head1 (Jvm.Cond.code (⟨"com/example/wirecall/wirecall/VarintSizePinLaw", "expected", "(J)I"⟩ : MethodName) method_2_code 2 (some .int) :: ws) ({ frames := 0, cells := 0, slots := 0, locals := 0 } : Room)) (fun a U => a = #[(.long p0)] ∧ Z.Warmed39 U.vm ∧ U.heap = h0) (fun _ _ _ _ _ => True) (fun _ U o U' => ∃ v L, o = .returned v ∧ Q2 Z p0 h0 n0 v U'.heap L ∧ FrameEnd U o U' L ({ frames := 0, cells := 0, slots := 0, locals := 0 } : Room).cells ({ frames := 0, cells := 0, slots := 0, locals := 0 } : Room).slots) := by
  refine MetFree.of_bodySF (plainFor_of_name pn_2) hisR ?_
  intro p e s m args below meth c s₁ Bd hml0 hP hK
  obtain ⟨rfl, hZ, hh⟩ := hP
  have hx := Bd.exec
  have hby := Bd.bytes
  have hml : c.maxLocals = 2 := hml0
  have hown : s.vm.findClass "com/example/wirecall/wirecall/VarintSizePinLaw" = some m.cls := findClass_of_methodNamed Bd.named
  have hnm := (name_of_methodNamed Bd.named Bd.method).1
  have X0 : Stand p l e ({ frames := 0, cells := 0, slots := 0, locals := 0 } : Room) s m #[(.long p0)] below meth c s₁ [] 0 0 := Stand.of_body Bd
  have e0 : s₁.heap = h0 := by rw [← hh, Bd.state]; rfl
  have N0 := Fr.nil n0
  have pre0 : ∀ t, Steps p.tables e below (s₁.setTop (mkF m 0 #[.val (.long p0), .second] [])) t → Steps p.tables e below (s₁.setTop (entryFrame m #[(.long p0)] 2)) t := fun t k => castTop (ef_2 m p0) k
  have pre21 : ∀ t, Steps p.tables e below (s₁.setTop (mkF m 3 #[.val (.long p0), .second] [(.int (lcmpW p0 (0 : Int64)))])) t → Steps p.tables e below (s₁.setTop (entryFrame m #[(.long p0)] 2)) t := by
    intro t k
    refine pre0 t ?_
    show Steps p.tables e below (s₁.setTop (mkF m 0 #[.val (.long p0), .second] [])) _
    refine XS.lloadN X0.here hx rfl (hb hby d2_0) rfl ?_
    show Steps p.tables e below (s₁.setTop (mkF m 1 #[.val (.long p0), .second] [(.long p0)])) _
    refine XS.lconst X0.here hx rfl (hb hby d2_1) ?_
    show Steps p.tables e below (s₁.setTop (mkF m 2 #[.val (.long p0), .second] [(.long (0 : Int64)), (.long p0)])) _
    refine XS.lcmp X0.here hx rfl (hb hby d2_2) rfl ?_
    exact k
  by_cases hc3 : p0 < (0 : Int64)
  · have pre22 : ∀ t, Steps p.tables e below (s₁.setTop (mkF m 8 #[.val (.long p0), .second] [(.int (10 : Int32))])) t → Steps p.tables e below (s₁.setTop (entryFrame m #[(.long p0)] 2)) t := by
      intro t k
      refine pre21 t ?_
      show Steps p.tables e below (s₁.setTop (mkF m 3 #[.val (.long p0), .second] [(.int (lcmpW p0 (0 : Int64)))])) _
      refine XS.ifNo X0.here hx rfl (hb hby d2_3) rfl ((if0 _ _).trans (tlt ((lw_lt _ _).mpr hc3)).2.1) ?_
      show Steps p.tables e below (s₁.setTop (mkF m 6 #[.val (.long p0), .second] [])) _
      refine XS.bipush X0.here hx rfl (hb hby d2_6) ?_
      exact k
    obtain ⟨fs, hr, hrun, hended, hW, hsame⟩ := X0.leave (v := some (.int (10 : Int32))) (fun h => by rw [Bd.returns] at h; cases h)
    refine ⟨_, _, pre22 _ ?_, hrun, hended, _, _, rfl, ?_, ⟨_, rfl⟩, hW, hsame.mono (by decide) (by decide)⟩
    · exact retI X0 hx Bd.returns (hb hby d2_8) hr
    · show Q2 Z p0 h0 n0 _ s₁.heap _
      rw [e0]
      refine ⟨?_, N0, rfl⟩
      unfold own_exp; rw [if_pos hc3]
  · have pre23 : ∀ t, Steps p.tables e below (s₁.setTop (mkF m 14 #[.val (.long p0), .second] [(.int (lcmpW p0 (128 : Int64)))])) t → Steps p.tables e below (s₁.setTop (entryFrame m #[(.long p0)] 2)) t := by
      intro t k
      refine pre21 t ?_
      show Steps p.tables e below (s₁.setTop (mkF m 3 #[.val (.long p0), .second] [(.int (lcmpW p0 (0 : Int64)))])) _
      refine XS.ifYes X0.here hx rfl (pc0 := 3) (pc' := 9) rfl (hb hby d2_3) rfl ((if0 _ _).trans (flt (fun q => hc3 ((lw_lt _ _).mp q))).2.1) (by decide) (by decide) ?_
      show Steps p.tables e below (s₁.setTop (mkF m 9 #[.val (.long p0), .second] [])) _
      refine XS.lloadN X0.here hx rfl (hb hby d2_9) rfl ?_
      show Steps p.tables e below (s₁.setTop (mkF m 10 #[.val (.long p0), .second] [(.long p0)])) _
      refine X0.ldc2Long hx hown (mvT hZ (hw _ (List.mem_of_getElem? (i := 8) rfl))) (g := (mkF m 10 #[.val (.long p0), .second] [(.long p0)])) rfl (hb hby d2_10) _ ?_
      show Steps p.tables e below (s₁.setTop (mkF m 13 #[.val (.long p0), .second] [(.long (128 : Int64)), (.long p0)])) _
      refine XS.lcmp X0.here hx rfl (hb hby d2_13) rfl ?_
      exact k
    by_cases hc14 : p0 < (128 : Int64)
    · have pre24 : ∀ t, Steps p.tables e below (s₁.setTop (mkF m 18 #[.val (.long p0), .second] [(.int (1 : Int32))])) t → Steps p.tables e below (s₁.setTop (entryFrame m #[(.long p0)] 2)) t := by
        intro t k
        refine pre23 t ?_
        show Steps p.tables e below (s₁.setTop (mkF m 14 #[.val (.long p0), .second] [(.int (lcmpW p0 (128 : Int64)))])) _
        refine XS.ifNo X0.here hx rfl (hb hby d2_14) rfl ((if0 _ _).trans (tlt ((lw_lt _ _).mpr hc14)).2.1) ?_
        show Steps p.tables e below (s₁.setTop (mkF m 17 #[.val (.long p0), .second] [])) _
        refine XS.iconst X0.here hx rfl (hb hby d2_17) ?_
        exact k
      obtain ⟨fs, hr, hrun, hended, hW, hsame⟩ := X0.leave (v := some (.int (1 : Int32))) (fun h => by rw [Bd.returns] at h; cases h)
      refine ⟨_, _, pre24 _ ?_, hrun, hended, _, _, rfl, ?_, ⟨_, rfl⟩, hW, hsame.mono (by decide) (by decide)⟩
      · exact retI X0 hx Bd.returns (hb hby d2_18) hr
      · show Q2 Z p0 h0 n0 _ s₁.heap _
        rw [e0]
        refine ⟨?_, N0, rfl⟩
        unfold own_exp; rw [if_neg hc3, if_pos hc14]
    · have pre25 : ∀ t, Steps p.tables e below (s₁.setTop (mkF m 24 #[.val (.long p0), .second] [(.int (lcmpW p0 (16384 : Int64)))])) t → Steps p.tables e below (s₁.setTop (entryFrame m #[(.long p0)] 2)) t := by
        intro t k
        refine pre23 t ?_
        show Steps p.tables e below (s₁.setTop (mkF m 14 #[.val (.long p0), .second] [(.int (lcmpW p0 (128 : Int64)))])) _
        refine XS.ifYes X0.here hx rfl (pc0 := 14) (pc' := 19) rfl (hb hby d2_14) rfl ((if0 _ _).trans (flt (fun q => hc14 ((lw_lt _ _).mp q))).2.1) (by decide) (by decide) ?_
        show Steps p.tables e below (s₁.setTop (mkF m 19 #[.val (.long p0), .second] [])) _
        refine XS.lloadN X0.here hx rfl (hb hby d2_19) rfl ?_
        show Steps p.tables e below (s₁.setTop (mkF m 20 #[.val (.long p0), .second] [(.long p0)])) _
        refine X0.ldc2Long hx hown (mvT hZ (hw _ (List.mem_of_getElem? (i := 9) rfl))) (g := (mkF m 20 #[.val (.long p0), .second] [(.long p0)])) rfl (hb hby d2_20) _ ?_
        show Steps p.tables e below (s₁.setTop (mkF m 23 #[.val (.long p0), .second] [(.long (16384 : Int64)), (.long p0)])) _
        refine XS.lcmp X0.here hx rfl (hb hby d2_23) rfl ?_
        exact k
      by_cases hc24 : p0 < (16384 : Int64)
      · have pre26 : ∀ t, Steps p.tables e below (s₁.setTop (mkF m 28 #[.val (.long p0), .second] [(.int (2 : Int32))])) t → Steps p.tables e below (s₁.setTop (entryFrame m #[(.long p0)] 2)) t := by
          intro t k
          refine pre25 t ?_
          show Steps p.tables e below (s₁.setTop (mkF m 24 #[.val (.long p0), .second] [(.int (lcmpW p0 (16384 : Int64)))])) _
          refine XS.ifNo X0.here hx rfl (hb hby d2_24) rfl ((if0 _ _).trans (tlt ((lw_lt _ _).mpr hc24)).2.1) ?_
          show Steps p.tables e below (s₁.setTop (mkF m 27 #[.val (.long p0), .second] [])) _
          refine XS.iconst X0.here hx rfl (hb hby d2_27) ?_
          exact k
        obtain ⟨fs, hr, hrun, hended, hW, hsame⟩ := X0.leave (v := some (.int (2 : Int32))) (fun h => by rw [Bd.returns] at h; cases h)
        refine ⟨_, _, pre26 _ ?_, hrun, hended, _, _, rfl, ?_, ⟨_, rfl⟩, hW, hsame.mono (by decide) (by decide)⟩
        · exact retI X0 hx Bd.returns (hb hby d2_28) hr
        · show Q2 Z p0 h0 n0 _ s₁.heap _
          rw [e0]
          refine ⟨?_, N0, rfl⟩
          unfold own_exp; rw [if_neg hc3, if_neg hc14, if_pos hc24]
      · have pre27 : ∀ t, Steps p.tables e below (s₁.setTop (mkF m 34 #[.val (.long p0), .second] [(.int (lcmpW p0 (2097152 : Int64)))])) t → Steps p.tables e below (s₁.setTop (entryFrame m #[(.long p0)] 2)) t := by
          intro t k
          refine pre25 t ?_
          show Steps p.tables e below (s₁.setTop (mkF m 24 #[.val (.long p0), .second] [(.int (lcmpW p0 (16384 : Int64)))])) _
          refine XS.ifYes X0.here hx rfl (pc0 := 24) (pc' := 29) rfl (hb hby d2_24) rfl ((if0 _ _).trans (flt (fun q => hc24 ((lw_lt _ _).mp q))).2.1) (by decide) (by decide) ?_
          show Steps p.tables e below (s₁.setTop (mkF m 29 #[.val (.long p0), .second] [])) _
          refine XS.lloadN X0.here hx rfl (hb hby d2_29) rfl ?_
          show Steps p.tables e below (s₁.setTop (mkF m 30 #[.val (.long p0), .second] [(.long p0)])) _
          refine X0.ldc2Long hx hown (mvT hZ (hw _ (List.mem_of_getElem? (i := 10) rfl))) (g := (mkF m 30 #[.val (.long p0), .second] [(.long p0)])) rfl (hb hby d2_30) _ ?_
          show Steps p.tables e below (s₁.setTop (mkF m 33 #[.val (.long p0), .second] [(.long (2097152 : Int64)), (.long p0)])) _
          refine XS.lcmp X0.here hx rfl (hb hby d2_33) rfl ?_
          exact k
        by_cases hc34 : p0 < (2097152 : Int64)
        · have pre28 : ∀ t, Steps p.tables e below (s₁.setTop (mkF m 38 #[.val (.long p0), .second] [(.int (3 : Int32))])) t → Steps p.tables e below (s₁.setTop (entryFrame m #[(.long p0)] 2)) t := by
            intro t k
            refine pre27 t ?_
            show Steps p.tables e below (s₁.setTop (mkF m 34 #[.val (.long p0), .second] [(.int (lcmpW p0 (2097152 : Int64)))])) _
            refine XS.ifNo X0.here hx rfl (hb hby d2_34) rfl ((if0 _ _).trans (tlt ((lw_lt _ _).mpr hc34)).2.1) ?_
            show Steps p.tables e below (s₁.setTop (mkF m 37 #[.val (.long p0), .second] [])) _
            refine XS.iconst X0.here hx rfl (hb hby d2_37) ?_
            exact k
          obtain ⟨fs, hr, hrun, hended, hW, hsame⟩ := X0.leave (v := some (.int (3 : Int32))) (fun h => by rw [Bd.returns] at h; cases h)
          refine ⟨_, _, pre28 _ ?_, hrun, hended, _, _, rfl, ?_, ⟨_, rfl⟩, hW, hsame.mono (by decide) (by decide)⟩
          · exact retI X0 hx Bd.returns (hb hby d2_38) hr
          · show Q2 Z p0 h0 n0 _ s₁.heap _
            rw [e0]
            refine ⟨?_, N0, rfl⟩
            unfold own_exp; rw [if_neg hc3, if_neg hc14, if_neg hc24, if_pos hc34]
        · have pre29 : ∀ t, Steps p.tables e below (s₁.setTop (mkF m 44 #[.val (.long p0), .second] [(.int (lcmpW p0 (268435456 : Int64)))])) t → Steps p.tables e below (s₁.setTop (entryFrame m #[(.long p0)] 2)) t := by
            intro t k
            refine pre27 t ?_
            show Steps p.tables e below (s₁.setTop (mkF m 34 #[.val (.long p0), .second] [(.int (lcmpW p0 (2097152 : Int64)))])) _
            refine XS.ifYes X0.here hx rfl (pc0 := 34) (pc' := 39) rfl (hb hby d2_34) rfl ((if0 _ _).trans (flt (fun q => hc34 ((lw_lt _ _).mp q))).2.1) (by decide) (by decide) ?_
            show Steps p.tables e below (s₁.setTop (mkF m 39 #[.val (.long p0), .second] [])) _
            refine XS.lloadN X0.here hx rfl (hb hby d2_39) rfl ?_
            show Steps p.tables e below (s₁.setTop (mkF m 40 #[.val (.long p0), .second] [(.long p0)])) _
            refine X0.ldc2Long hx hown (mvT hZ (hw _ (List.mem_of_getElem? (i := 11) rfl))) (g := (mkF m 40 #[.val (.long p0), .second] [(.long p0)])) rfl (hb hby d2_40) _ ?_
            show Steps p.tables e below (s₁.setTop (mkF m 43 #[.val (.long p0), .second] [(.long (268435456 : Int64)), (.long p0)])) _
            refine XS.lcmp X0.here hx rfl (hb hby d2_43) rfl ?_
            exact k
          by_cases hc44 : p0 < (268435456 : Int64)
          · have pre30 : ∀ t, Steps p.tables e below (s₁.setTop (mkF m 48 #[.val (.long p0), .second] [(.int (4 : Int32))])) t → Steps p.tables e below (s₁.setTop (entryFrame m #[(.long p0)] 2)) t := by
              intro t k
              refine pre29 t ?_
              show Steps p.tables e below (s₁.setTop (mkF m 44 #[.val (.long p0), .second] [(.int (lcmpW p0 (268435456 : Int64)))])) _
              refine XS.ifNo X0.here hx rfl (hb hby d2_44) rfl ((if0 _ _).trans (tlt ((lw_lt _ _).mpr hc44)).2.1) ?_
              show Steps p.tables e below (s₁.setTop (mkF m 47 #[.val (.long p0), .second] [])) _
              refine XS.iconst X0.here hx rfl (hb hby d2_47) ?_
              exact k
            obtain ⟨fs, hr, hrun, hended, hW, hsame⟩ := X0.leave (v := some (.int (4 : Int32))) (fun h => by rw [Bd.returns] at h; cases h)
            refine ⟨_, _, pre30 _ ?_, hrun, hended, _, _, rfl, ?_, ⟨_, rfl⟩, hW, hsame.mono (by decide) (by decide)⟩
            · exact retI X0 hx Bd.returns (hb hby d2_48) hr
            · show Q2 Z p0 h0 n0 _ s₁.heap _
              rw [e0]
              refine ⟨?_, N0, rfl⟩
              unfold own_exp; rw [if_neg hc3, if_neg hc14, if_neg hc24, if_neg hc34, if_pos hc44]
          · have pre31 : ∀ t, Steps p.tables e below (s₁.setTop (mkF m 54 #[.val (.long p0), .second] [(.int (lcmpW p0 (34359738368 : Int64)))])) t → Steps p.tables e below (s₁.setTop (entryFrame m #[(.long p0)] 2)) t := by
              intro t k
              refine pre29 t ?_
              show Steps p.tables e below (s₁.setTop (mkF m 44 #[.val (.long p0), .second] [(.int (lcmpW p0 (268435456 : Int64)))])) _
              refine XS.ifYes X0.here hx rfl (pc0 := 44) (pc' := 49) rfl (hb hby d2_44) rfl ((if0 _ _).trans (flt (fun q => hc44 ((lw_lt _ _).mp q))).2.1) (by decide) (by decide) ?_
              show Steps p.tables e below (s₁.setTop (mkF m 49 #[.val (.long p0), .second] [])) _
              refine XS.lloadN X0.here hx rfl (hb hby d2_49) rfl ?_
              show Steps p.tables e below (s₁.setTop (mkF m 50 #[.val (.long p0), .second] [(.long p0)])) _
              refine X0.ldc2Long hx hown (mvT hZ (hw _ (List.mem_of_getElem? (i := 12) rfl))) (g := (mkF m 50 #[.val (.long p0), .second] [(.long p0)])) rfl (hb hby d2_50) _ ?_
              show Steps p.tables e below (s₁.setTop (mkF m 53 #[.val (.long p0), .second] [(.long (34359738368 : Int64)), (.long p0)])) _
              refine XS.lcmp X0.here hx rfl (hb hby d2_53) rfl ?_
              exact k
            by_cases hc54 : p0 < (34359738368 : Int64)
            · have pre32 : ∀ t, Steps p.tables e below (s₁.setTop (mkF m 58 #[.val (.long p0), .second] [(.int (5 : Int32))])) t → Steps p.tables e below (s₁.setTop (entryFrame m #[(.long p0)] 2)) t := by
                intro t k
                refine pre31 t ?_
                show Steps p.tables e below (s₁.setTop (mkF m 54 #[.val (.long p0), .second] [(.int (lcmpW p0 (34359738368 : Int64)))])) _
                refine XS.ifNo X0.here hx rfl (hb hby d2_54) rfl ((if0 _ _).trans (tlt ((lw_lt _ _).mpr hc54)).2.1) ?_
                show Steps p.tables e below (s₁.setTop (mkF m 57 #[.val (.long p0), .second] [])) _
                refine XS.iconst X0.here hx rfl (hb hby d2_57) ?_
                exact k
              obtain ⟨fs, hr, hrun, hended, hW, hsame⟩ := X0.leave (v := some (.int (5 : Int32))) (fun h => by rw [Bd.returns] at h; cases h)
              refine ⟨_, _, pre32 _ ?_, hrun, hended, _, _, rfl, ?_, ⟨_, rfl⟩, hW, hsame.mono (by decide) (by decide)⟩
              · exact retI X0 hx Bd.returns (hb hby d2_58) hr
              · show Q2 Z p0 h0 n0 _ s₁.heap _
                rw [e0]
                refine ⟨?_, N0, rfl⟩
                unfold own_exp; rw [if_neg hc3, if_neg hc14, if_neg hc24, if_neg hc34, if_neg hc44, if_pos hc54]
            · have pre33 : ∀ t, Steps p.tables e below (s₁.setTop (mkF m 64 #[.val (.long p0), .second] [(.int (lcmpW p0 (4398046511104 : Int64)))])) t → Steps p.tables e below (s₁.setTop (entryFrame m #[(.long p0)] 2)) t := by
                intro t k
                refine pre31 t ?_
                show Steps p.tables e below (s₁.setTop (mkF m 54 #[.val (.long p0), .second] [(.int (lcmpW p0 (34359738368 : Int64)))])) _
                refine XS.ifYes X0.here hx rfl (pc0 := 54) (pc' := 59) rfl (hb hby d2_54) rfl ((if0 _ _).trans (flt (fun q => hc54 ((lw_lt _ _).mp q))).2.1) (by decide) (by decide) ?_
                show Steps p.tables e below (s₁.setTop (mkF m 59 #[.val (.long p0), .second] [])) _
                refine XS.lloadN X0.here hx rfl (hb hby d2_59) rfl ?_
                show Steps p.tables e below (s₁.setTop (mkF m 60 #[.val (.long p0), .second] [(.long p0)])) _
                refine X0.ldc2Long hx hown (mvT hZ (hw _ (List.mem_of_getElem? (i := 13) rfl))) (g := (mkF m 60 #[.val (.long p0), .second] [(.long p0)])) rfl (hb hby d2_60) _ ?_
                show Steps p.tables e below (s₁.setTop (mkF m 63 #[.val (.long p0), .second] [(.long (4398046511104 : Int64)), (.long p0)])) _
                refine XS.lcmp X0.here hx rfl (hb hby d2_63) rfl ?_
                exact k
              by_cases hc64 : p0 < (4398046511104 : Int64)
              · have pre34 : ∀ t, Steps p.tables e below (s₁.setTop (mkF m 69 #[.val (.long p0), .second] [(.int (6 : Int32))])) t → Steps p.tables e below (s₁.setTop (entryFrame m #[(.long p0)] 2)) t := by
                  intro t k
                  refine pre33 t ?_
                  show Steps p.tables e below (s₁.setTop (mkF m 64 #[.val (.long p0), .second] [(.int (lcmpW p0 (4398046511104 : Int64)))])) _
                  refine XS.ifNo X0.here hx rfl (hb hby d2_64) rfl ((if0 _ _).trans (tlt ((lw_lt _ _).mpr hc64)).2.1) ?_
                  show Steps p.tables e below (s₁.setTop (mkF m 67 #[.val (.long p0), .second] [])) _
                  refine XS.bipush X0.here hx rfl (hb hby d2_67) ?_
                  exact k
                obtain ⟨fs, hr, hrun, hended, hW, hsame⟩ := X0.leave (v := some (.int (6 : Int32))) (fun h => by rw [Bd.returns] at h; cases h)
                refine ⟨_, _, pre34 _ ?_, hrun, hended, _, _, rfl, ?_, ⟨_, rfl⟩, hW, hsame.mono (by decide) (by decide)⟩
                · exact retI X0 hx Bd.returns (hb hby d2_69) hr
                · show Q2 Z p0 h0 n0 _ s₁.heap _
                  rw [e0]
                  refine ⟨?_, N0, rfl⟩
                  unfold own_exp; rw [if_neg hc3, if_neg hc14, if_neg hc24, if_neg hc34, if_neg hc44, if_neg hc54, if_pos hc64]
              · have pre35 : ∀ t, Steps p.tables e below (s₁.setTop (mkF m 75 #[.val (.long p0), .second] [(.int (lcmpW p0 (562949953421312 : Int64)))])) t → Steps p.tables e below (s₁.setTop (entryFrame m #[(.long p0)] 2)) t := by
                  intro t k
                  refine pre33 t ?_
                  show Steps p.tables e below (s₁.setTop (mkF m 64 #[.val (.long p0), .second] [(.int (lcmpW p0 (4398046511104 : Int64)))])) _
                  refine XS.ifYes X0.here hx rfl (pc0 := 64) (pc' := 70) rfl (hb hby d2_64) rfl ((if0 _ _).trans (flt (fun q => hc64 ((lw_lt _ _).mp q))).2.1) (by decide) (by decide) ?_
                  show Steps p.tables e below (s₁.setTop (mkF m 70 #[.val (.long p0), .second] [])) _
                  refine XS.lloadN X0.here hx rfl (hb hby d2_70) rfl ?_
                  show Steps p.tables e below (s₁.setTop (mkF m 71 #[.val (.long p0), .second] [(.long p0)])) _
                  refine X0.ldc2Long hx hown (mvT hZ (hw _ (List.mem_of_getElem? (i := 14) rfl))) (g := (mkF m 71 #[.val (.long p0), .second] [(.long p0)])) rfl (hb hby d2_71) _ ?_
                  show Steps p.tables e below (s₁.setTop (mkF m 74 #[.val (.long p0), .second] [(.long (562949953421312 : Int64)), (.long p0)])) _
                  refine XS.lcmp X0.here hx rfl (hb hby d2_74) rfl ?_
                  exact k
                by_cases hc75 : p0 < (562949953421312 : Int64)
                · have pre36 : ∀ t, Steps p.tables e below (s₁.setTop (mkF m 80 #[.val (.long p0), .second] [(.int (7 : Int32))])) t → Steps p.tables e below (s₁.setTop (entryFrame m #[(.long p0)] 2)) t := by
                    intro t k
                    refine pre35 t ?_
                    show Steps p.tables e below (s₁.setTop (mkF m 75 #[.val (.long p0), .second] [(.int (lcmpW p0 (562949953421312 : Int64)))])) _
                    refine XS.ifNo X0.here hx rfl (hb hby d2_75) rfl ((if0 _ _).trans (tlt ((lw_lt _ _).mpr hc75)).2.1) ?_
                    show Steps p.tables e below (s₁.setTop (mkF m 78 #[.val (.long p0), .second] [])) _
                    refine XS.bipush X0.here hx rfl (hb hby d2_78) ?_
                    exact k
                  obtain ⟨fs, hr, hrun, hended, hW, hsame⟩ := X0.leave (v := some (.int (7 : Int32))) (fun h => by rw [Bd.returns] at h; cases h)
                  refine ⟨_, _, pre36 _ ?_, hrun, hended, _, _, rfl, ?_, ⟨_, rfl⟩, hW, hsame.mono (by decide) (by decide)⟩
                  · exact retI X0 hx Bd.returns (hb hby d2_80) hr
                  · show Q2 Z p0 h0 n0 _ s₁.heap _
                    rw [e0]
                    refine ⟨?_, N0, rfl⟩
                    unfold own_exp; rw [if_neg hc3, if_neg hc14, if_neg hc24, if_neg hc34, if_neg hc44, if_neg hc54, if_neg hc64, if_pos hc75]
                · have pre37 : ∀ t, Steps p.tables e below (s₁.setTop (mkF m 86 #[.val (.long p0), .second] [(.int (lcmpW p0 (72057594037927936 : Int64)))])) t → Steps p.tables e below (s₁.setTop (entryFrame m #[(.long p0)] 2)) t := by
                    intro t k
                    refine pre35 t ?_
                    show Steps p.tables e below (s₁.setTop (mkF m 75 #[.val (.long p0), .second] [(.int (lcmpW p0 (562949953421312 : Int64)))])) _
                    refine XS.ifYes X0.here hx rfl (pc0 := 75) (pc' := 81) rfl (hb hby d2_75) rfl ((if0 _ _).trans (flt (fun q => hc75 ((lw_lt _ _).mp q))).2.1) (by decide) (by decide) ?_
                    show Steps p.tables e below (s₁.setTop (mkF m 81 #[.val (.long p0), .second] [])) _
                    refine XS.lloadN X0.here hx rfl (hb hby d2_81) rfl ?_
                    show Steps p.tables e below (s₁.setTop (mkF m 82 #[.val (.long p0), .second] [(.long p0)])) _
                    refine X0.ldc2Long hx hown (mvT hZ (hw _ (List.mem_of_getElem? (i := 15) rfl))) (g := (mkF m 82 #[.val (.long p0), .second] [(.long p0)])) rfl (hb hby d2_82) _ ?_
                    show Steps p.tables e below (s₁.setTop (mkF m 85 #[.val (.long p0), .second] [(.long (72057594037927936 : Int64)), (.long p0)])) _
                    refine XS.lcmp X0.here hx rfl (hb hby d2_85) rfl ?_
                    exact k
                  by_cases hc86 : p0 < (72057594037927936 : Int64)
                  · have pre38 : ∀ t, Steps p.tables e below (s₁.setTop (mkF m 91 #[.val (.long p0), .second] [(.int (8 : Int32))])) t → Steps p.tables e below (s₁.setTop (entryFrame m #[(.long p0)] 2)) t := by
                      intro t k
                      refine pre37 t ?_
                      show Steps p.tables e below (s₁.setTop (mkF m 86 #[.val (.long p0), .second] [(.int (lcmpW p0 (72057594037927936 : Int64)))])) _
                      refine XS.ifNo X0.here hx rfl (hb hby d2_86) rfl ((if0 _ _).trans (tlt ((lw_lt _ _).mpr hc86)).2.1) ?_
                      show Steps p.tables e below (s₁.setTop (mkF m 89 #[.val (.long p0), .second] [])) _
                      refine XS.bipush X0.here hx rfl (hb hby d2_89) ?_
                      exact k
                    obtain ⟨fs, hr, hrun, hended, hW, hsame⟩ := X0.leave (v := some (.int (8 : Int32))) (fun h => by rw [Bd.returns] at h; cases h)
                    refine ⟨_, _, pre38 _ ?_, hrun, hended, _, _, rfl, ?_, ⟨_, rfl⟩, hW, hsame.mono (by decide) (by decide)⟩
                    · exact retI X0 hx Bd.returns (hb hby d2_91) hr
                    · show Q2 Z p0 h0 n0 _ s₁.heap _
                      rw [e0]
                      refine ⟨?_, N0, rfl⟩
                      unfold own_exp; rw [if_neg hc3, if_neg hc14, if_neg hc24, if_neg hc34, if_neg hc44, if_neg hc54, if_neg hc64, if_neg hc75, if_pos hc86]
                  · have pre39 : ∀ t, Steps p.tables e below (s₁.setTop (mkF m 94 #[.val (.long p0), .second] [(.int (9 : Int32))])) t → Steps p.tables e below (s₁.setTop (entryFrame m #[(.long p0)] 2)) t := by
                      intro t k
                      refine pre37 t ?_
                      show Steps p.tables e below (s₁.setTop (mkF m 86 #[.val (.long p0), .second] [(.int (lcmpW p0 (72057594037927936 : Int64)))])) _
                      refine XS.ifYes X0.here hx rfl (pc0 := 86) (pc' := 92) rfl (hb hby d2_86) rfl ((if0 _ _).trans (flt (fun q => hc86 ((lw_lt _ _).mp q))).2.1) (by decide) (by decide) ?_
                      show Steps p.tables e below (s₁.setTop (mkF m 92 #[.val (.long p0), .second] [])) _
                      refine XS.bipush X0.here hx rfl (hb hby d2_92) ?_
                      exact k
                    obtain ⟨fs, hr, hrun, hended, hW, hsame⟩ := X0.leave (v := some (.int (9 : Int32))) (fun h => by rw [Bd.returns] at h; cases h)
                    refine ⟨_, _, pre39 _ ?_, hrun, hended, _, _, rfl, ?_, ⟨_, rfl⟩, hW, hsame.mono (by decide) (by decide)⟩
                    · exact retI X0 hx Bd.returns (hb hby d2_94) hr
                    · show Q2 Z p0 h0 n0 _ s₁.heap _
                      rw [e0]
                      refine ⟨?_, N0, rfl⟩
                      unfold own_exp; rw [if_neg hc3, if_neg hc14, if_neg hc24, if_neg hc34, if_neg hc44, if_neg hc54, if_neg hc64, if_neg hc75, if_neg hc86]
theorem own_size_eq (x : Int64) : own_size x = (if (own_s x) = (0 : Int64) then (1 : Int32) else (if (own_s (own_s x)) = (0 : Int64) then (2 : Int32) else (if (own_s (own_s (own_s x))) = (0 : Int64) then (3 : Int32) else (if (own_s (own_s (own_s (own_s x)))) = (0 : Int64) then (4 : Int32) else (if (own_s (own_s (own_s (own_s (own_s x))))) = (0 : Int64) then (5 : Int32) else (if (own_s (own_s (own_s (own_s (own_s (own_s x)))))) = (0 : Int64) then (6 : Int32) else (if (own_s (own_s (own_s (own_s (own_s (own_s (own_s x))))))) = (0 : Int64) then (7 : Int32) else (if (own_s (own_s (own_s (own_s (own_s (own_s (own_s (own_s x)))))))) = (0 : Int64) then (8 : Int32) else (if (own_s (own_s (own_s (own_s (own_s (own_s (own_s (own_s (own_s x))))))))) = (0 : Int64) then (9 : Int32) else (if (own_s (own_s (own_s (own_s (own_s (own_s (own_s (own_s (own_s (own_s x)))))))))) = (0 : Int64) then (10 : Int32) else (0 : Int32))))))))))) := rfl
set_option maxHeartbeats 40000000 in
theorem own_plain (x : Int64) : own_size x = own_exp x := by
  rw [own_size_eq]
  unfold own_exp
  have r := rng64 x
  have s1 := own_sv x
  have s2 := own_sv (own_s x)
  have s3 := own_sv (own_s (own_s x))
  have s4 := own_sv (own_s (own_s (own_s x)))
  have s5 := own_sv (own_s (own_s (own_s (own_s x))))
  have s6 := own_sv (own_s (own_s (own_s (own_s (own_s x)))))
  have s7 := own_sv (own_s (own_s (own_s (own_s (own_s (own_s x))))))
  have s8 := own_sv (own_s (own_s (own_s (own_s (own_s (own_s (own_s x)))))))
  have s9 := own_sv (own_s (own_s (own_s (own_s (own_s (own_s (own_s (own_s x))))))))
  have s10 := own_sv (own_s (own_s (own_s (own_s (own_s (own_s (own_s (own_s (own_s x)))))))))
  have f0 : x < (0 : Int64) ↔ x.toInt < 0 := Int64.lt_iff_toInt_lt
  have f1 : x < (128 : Int64) ↔ x.toInt < 128 := Int64.lt_iff_toInt_lt
  have f2 : x < (16384 : Int64) ↔ x.toInt < 16384 := Int64.lt_iff_toInt_lt
  have f3 : x < (2097152 : Int64) ↔ x.toInt < 2097152 := Int64.lt_iff_toInt_lt
  have f4 : x < (268435456 : Int64) ↔ x.toInt < 268435456 := Int64.lt_iff_toInt_lt
  have f5 : x < (34359738368 : Int64) ↔ x.toInt < 34359738368 := Int64.lt_iff_toInt_lt
  have f6 : x < (4398046511104 : Int64) ↔ x.toInt < 4398046511104 := Int64.lt_iff_toInt_lt
  have f7 : x < (562949953421312 : Int64) ↔ x.toInt < 562949953421312 := Int64.lt_iff_toInt_lt
  have f8 : x < (72057594037927936 : Int64) ↔ x.toInt < 72057594037927936 := Int64.lt_iff_toInt_lt
  have z1 := own_z (own_s x)
  have z2 := own_z (own_s (own_s x))
  have z3 := own_z (own_s (own_s (own_s x)))
  have z4 := own_z (own_s (own_s (own_s (own_s x))))
  have z5 := own_z (own_s (own_s (own_s (own_s (own_s x)))))
  have z6 := own_z (own_s (own_s (own_s (own_s (own_s (own_s x))))))
  have z7 := own_z (own_s (own_s (own_s (own_s (own_s (own_s (own_s x)))))))
  have z8 := own_z (own_s (own_s (own_s (own_s (own_s (own_s (own_s (own_s x))))))))
  have z9 := own_z (own_s (own_s (own_s (own_s (own_s (own_s (own_s (own_s (own_s x)))))))))
  have z10 := own_z (own_s (own_s (own_s (own_s (own_s (own_s (own_s (own_s (own_s (own_s x))))))))))
  by_cases c0 : x < (0 : Int64)
  · rw [if_pos c0]
    simp only [f0, f1, f2, f3, f4, f5, f6, f7, f8] at c0
    rw [if_neg (by rw [z1]; omega), if_neg (by rw [z2]; omega), if_neg (by rw [z3]; omega), if_neg (by rw [z4]; omega), if_neg (by rw [z5]; omega), if_neg (by rw [z6]; omega), if_neg (by rw [z7]; omega), if_neg (by rw [z8]; omega), if_neg (by rw [z9]; omega), if_pos (by rw [z10]; omega)]
  by_cases c1 : x < (128 : Int64)
  · rw [if_neg c0, if_pos c1]
    simp only [f0, f1, f2, f3, f4, f5, f6, f7, f8] at c0 c1
    rw [if_pos (by rw [z1]; omega)]
  by_cases c2 : x < (16384 : Int64)
  · rw [if_neg c0, if_neg c1, if_pos c2]
    simp only [f0, f1, f2, f3, f4, f5, f6, f7, f8] at c0 c1 c2
    rw [if_neg (by rw [z1]; omega), if_pos (by rw [z2]; omega)]
  by_cases c3 : x < (2097152 : Int64)
  · rw [if_neg c0, if_neg c1, if_neg c2, if_pos c3]
    simp only [f0, f1, f2, f3, f4, f5, f6, f7, f8] at c0 c1 c2 c3
    rw [if_neg (by rw [z1]; omega), if_neg (by rw [z2]; omega), if_pos (by rw [z3]; omega)]
  by_cases c4 : x < (268435456 : Int64)
  · rw [if_neg c0, if_neg c1, if_neg c2, if_neg c3, if_pos c4]
    simp only [f0, f1, f2, f3, f4, f5, f6, f7, f8] at c0 c1 c2 c3 c4
    rw [if_neg (by rw [z1]; omega), if_neg (by rw [z2]; omega), if_neg (by rw [z3]; omega), if_pos (by rw [z4]; omega)]
  by_cases c5 : x < (34359738368 : Int64)
  · rw [if_neg c0, if_neg c1, if_neg c2, if_neg c3, if_neg c4, if_pos c5]
    simp only [f0, f1, f2, f3, f4, f5, f6, f7, f8] at c0 c1 c2 c3 c4 c5
    rw [if_neg (by rw [z1]; omega), if_neg (by rw [z2]; omega), if_neg (by rw [z3]; omega), if_neg (by rw [z4]; omega), if_pos (by rw [z5]; omega)]
  by_cases c6 : x < (4398046511104 : Int64)
  · rw [if_neg c0, if_neg c1, if_neg c2, if_neg c3, if_neg c4, if_neg c5, if_pos c6]
    simp only [f0, f1, f2, f3, f4, f5, f6, f7, f8] at c0 c1 c2 c3 c4 c5 c6
    rw [if_neg (by rw [z1]; omega), if_neg (by rw [z2]; omega), if_neg (by rw [z3]; omega), if_neg (by rw [z4]; omega), if_neg (by rw [z5]; omega), if_pos (by rw [z6]; omega)]
  by_cases c7 : x < (562949953421312 : Int64)
  · rw [if_neg c0, if_neg c1, if_neg c2, if_neg c3, if_neg c4, if_neg c5, if_neg c6, if_pos c7]
    simp only [f0, f1, f2, f3, f4, f5, f6, f7, f8] at c0 c1 c2 c3 c4 c5 c6 c7
    rw [if_neg (by rw [z1]; omega), if_neg (by rw [z2]; omega), if_neg (by rw [z3]; omega), if_neg (by rw [z4]; omega), if_neg (by rw [z5]; omega), if_neg (by rw [z6]; omega), if_pos (by rw [z7]; omega)]
  by_cases c8 : x < (72057594037927936 : Int64)
  · rw [if_neg c0, if_neg c1, if_neg c2, if_neg c3, if_neg c4, if_neg c5, if_neg c6, if_neg c7, if_pos c8]
    simp only [f0, f1, f2, f3, f4, f5, f6, f7, f8] at c0 c1 c2 c3 c4 c5 c6 c7 c8
    rw [if_neg (by rw [z1]; omega), if_neg (by rw [z2]; omega), if_neg (by rw [z3]; omega), if_neg (by rw [z4]; omega), if_neg (by rw [z5]; omega), if_neg (by rw [z6]; omega), if_neg (by rw [z7]; omega), if_pos (by rw [z8]; omega)]
  rw [if_neg c0, if_neg c1, if_neg c2, if_neg c3, if_neg c4, if_neg c5, if_neg c6, if_neg c7, if_neg c8]
  simp only [f0, f1, f2, f3, f4, f5, f6, f7, f8] at c0 c1 c2 c3 c4 c5 c6 c7 c8
  rw [if_neg (by rw [z1]; omega), if_neg (by rw [z2]; omega), if_neg (by rw [z3]; omega), if_neg (by rw [z4]; omega), if_neg (by rw [z5]; omega), if_neg (by rw [z6]; omega), if_neg (by rw [z7]; omega), if_neg (by rw [z8]; omega), if_pos (by rw [z9]; omega)]
theorem pd_0 : parseMethodDescriptor "(J)I" = some ⟨[.long], some .int⟩ := by decide +kernel
theorem ef_0 (m : MethodId) (x0 : Int64) (x1 : Int32) : entryFrame m #[(.long x0), (.int x1)] maxLocals = mkF m 0 #[.val (.long x0), .second, .val (.int x1), .unset, .unset] [] := by first | (simp [entryFrame, mkF, argsToLocals, Value.category, maxLocals]; done) | rfl
def Q0 (Z : State) (p0 : Int64) (p1 : Int32) (h0 : Heap) (n0 : Nat) (v : Option Value) (h : Heap) (L : List Loc) : Prop := v = some (.int (1 : Int32)) ∧ Fr n0 L
set_option maxRecDepth 65536 in
set_option maxHeartbeats 40000000 in
theorem rm0 (l : Launch) (Z : State) (a0 : Array Value) (hw : ∀ d ∈ tables_1, d.before a0 Z = true) (ws : List Jvm.Cond) (p0 : Int64) (p1 : Int32) (h0 : Heap) (n0 : Nat) (Z0 : n0 ≤ h0.size) :
    MetFree l x (head1 (Jvm.Cond.code x code maxLocals ret :: ws) room_1) (fun a U => a = #[(.long p0), (.int p1)] ∧ Z.Warmed39 U.vm ∧ U.heap = h0) (fun _ _ _ _ _ => True) (fun _ U o U' => ∃ v L, o = .returned v ∧ Q0 Z p0 p1 h0 n0 v U'.heap L ∧ FrameEnd U o U' L room_1.cells room_1.slots) := by
  refine MetFree.of_bodySF (plainFor_of_name pn_2) hisR ?_
  intro p e s m args below meth c s₁ Bd hml0 hP hK
  obtain ⟨rfl, hZ, hh⟩ := hP
  have hx := Bd.exec
  have hby := Bd.bytes
  have hml : c.maxLocals = 5 := hml0
  have hown : s.vm.findClass "com/example/wirecall/wirecall/VarintSizePinLaw" = some m.cls := findClass_of_methodNamed Bd.named
  have hnm := (name_of_methodNamed Bd.named Bd.method).1
  have X0 : Stand p l e room_1 s m #[(.long p0), (.int p1)] below meth c s₁ [] 0 0 := Stand.of_body Bd
  have e0 : s₁.heap = h0 := by rw [← hh, Bd.state]; rfl
  have N0 := Fr.nil n0
  have pre0 : ∀ t, Steps p.tables e below (s₁.setTop (mkF m 0 #[.val (.long p0), .second, .val (.int p1), .unset, .unset] [])) t → Steps p.tables e below (s₁.setTop (entryFrame m #[(.long p0), (.int p1)] maxLocals)) t := fun t k => castTop (ef_0 m p0 p1) k
  have pre40 : ∀ t, Steps p.tables e below (s₁.setTop (mkF m 8 #[.val (.long p0), .second, .val (.int p1), .val (.long ((p0.toUInt64 >>> ((p1 &&& (63 : Int32)) &&& 0x3f).toInt64.toUInt64).toInt64)), .second] [(.long ((p0.toUInt64 >>> ((p1 &&& (63 : Int32)) &&& 0x3f).toInt64.toUInt64).toInt64))])) t → Steps p.tables e below (s₁.setTop (entryFrame m #[(.long p0), (.int p1)] maxLocals)) t := by
    intro t k
    refine pre0 t ?_
    show Steps p.tables e below (s₁.setTop (mkF m 0 #[.val (.long p0), .second, .val (.int p1), .unset, .unset] [])) _
    refine XS.lloadN X0.here hx rfl (hb hby at_0) rfl ?_
    show Steps p.tables e below (s₁.setTop (mkF m 1 #[.val (.long p0), .second, .val (.int p1), .unset, .unset] [(.long p0)])) _
    refine XS.iloadN X0.here hx rfl (hb hby at_1) rfl ?_
    show Steps p.tables e below (s₁.setTop (mkF m 2 #[.val (.long p0), .second, .val (.int p1), .unset, .unset] [(.int p1), (.long p0)])) _
    refine XS.bipush X0.here hx rfl (hb hby at_2) ?_
    show Steps p.tables e below (s₁.setTop (mkF m 4 #[.val (.long p0), .second, .val (.int p1), .unset, .unset] [(.int (63 : Int32)), (.int p1), (.long p0)])) _
    refine XS.iand X0.here hx rfl (hb hby at_4) rfl ?_
    show Steps p.tables e below (s₁.setTop (mkF m 5 #[.val (.long p0), .second, .val (.int p1), .unset, .unset] [(.int (p1 &&& (63 : Int32))), (.long p0)])) _
    refine XS.lushr X0.here hx rfl (hb hby at_5) rfl ?_
    show Steps p.tables e below (s₁.setTop (mkF m 6 #[.val (.long p0), .second, .val (.int p1), .unset, .unset] [(.long ((p0.toUInt64 >>> ((p1 &&& (63 : Int32)) &&& 0x3f).toInt64.toUInt64).toInt64))])) _
    refine XS.lstoreN X0.here hx rfl (hb hby at_6) rfl (l' := #[.val (.long p0), .second, .val (.int p1), .val (.long ((p0.toUInt64 >>> ((p1 &&& (63 : Int32)) &&& 0x3f).toInt64.toUInt64).toInt64)), .second]) rfl ?_
    show Steps p.tables e below (s₁.setTop (mkF m 7 #[.val (.long p0), .second, .val (.int p1), .val (.long ((p0.toUInt64 >>> ((p1 &&& (63 : Int32)) &&& 0x3f).toInt64.toUInt64).toInt64)), .second] [])) _
    refine XS.lloadN X0.here hx rfl (hb hby at_7) rfl ?_
    exact k
  obtain ⟨_, _, ⟨T41, L41, k41, n41⟩, -, X41, ⟨Lc41, hQ41, l41, y41, z41⟩, st41⟩ := Jvm.LawKit.callS X0 hx (y := (⟨"com/example/wirecall/wirecall/Varint", "size", "(J)I"⟩ : MethodName)) hown (mvT hZ (hw _ (List.mem_of_getElem? (i := 0) rfl))) (mvT hZ (hw _ (List.mem_of_getElem? (i := 1) rfl))) (mvT hZ (hw _ (List.mem_of_getElem? (i := 2) rfl))) (mvT hZ (hw _ (List.mem_of_getElem? (i := 3) rfl))) (by decide) (backOf (W := 0) (rm1 l Z a0 hw [] ((p0.toUInt64 >>> ((p1 &&& (63 : Int32)) &&& 0x3f).toInt64.toUInt64).toInt64)  h0 n0 Z0) hZ (hw _ (List.mem_of_getElem? (i := 3) rfl)) (hw _ (List.mem_of_getElem? (i := 2) rfl)) (by decide) (by decide)) (g := (mkF m 8 #[.val (.long p0), .second, .val (.int p1), .val (.long ((p0.toUInt64 >>> ((p1 &&& (63 : Int32)) &&& 0x3f).toInt64.toUInt64).toInt64)), .second] [(.long ((p0.toUInt64 >>> ((p1 &&& (63 : Int32)) &&& 0x3f).toInt64.toUInt64).toInt64))])) rfl (by rw [hml]; rfl) (argsL := [(.long ((p0.toUInt64 >>> ((p1 &&& (63 : Int32)) &&& 0x3f).toInt64.toUInt64).toInt64))]) (rest := []) (lenOf pd_0 rfl) rfl (by show 2 * 0 + _ ≤ _; exact Nat.le_of_eq rfl) (hb hby at_8) (fun _ _ => ⟨rfl, e0, (by decide : 0 + 0 ≤ _), (by decide : 0 + 0 ≤ _)⟩)
  dsimp only [Pt.U, Pt.locs, Pt.cells, Pt.slots] at X41 l41 y41 z41 st41 hQ41
  subst l41 y41 z41
  obtain ⟨rfl, N41q, e41⟩ := hQ41
  have N41 := Fr.app N0 N41q
  have pre42 : ∀ t, Steps p.tables e below (T41.setTop (mkF m 11 #[.val (.long p0), .second, .val (.int p1), .val (.long ((p0.toUInt64 >>> ((p1 &&& (63 : Int32)) &&& 0x3f).toInt64.toUInt64).toInt64)), .second] [(.int (own_size ((p0.toUInt64 >>> ((p1 &&& (63 : Int32)) &&& 0x3f).toInt64.toUInt64).toInt64)))])) t → Steps p.tables e below (s₁.setTop (entryFrame m #[(.long p0), (.int p1)] maxLocals)) t := fun t k => pre40 t (st41 _ k)
  have pre43 : ∀ t, Steps p.tables e below (T41.setTop (mkF m 12 #[.val (.long p0), .second, .val (.int p1), .val (.long ((p0.toUInt64 >>> ((p1 &&& (63 : Int32)) &&& 0x3f).toInt64.toUInt64).toInt64)), .second] [(.long ((p0.toUInt64 >>> ((p1 &&& (63 : Int32)) &&& 0x3f).toInt64.toUInt64).toInt64)), (.int (own_size ((p0.toUInt64 >>> ((p1 &&& (63 : Int32)) &&& 0x3f).toInt64.toUInt64).toInt64)))])) t → Steps p.tables e below (s₁.setTop (entryFrame m #[(.long p0), (.int p1)] maxLocals)) t := by
    intro t k
    refine pre42 t ?_
    show Steps p.tables e below (T41.setTop (mkF m 11 #[.val (.long p0), .second, .val (.int p1), .val (.long ((p0.toUInt64 >>> ((p1 &&& (63 : Int32)) &&& 0x3f).toInt64.toUInt64).toInt64)), .second] [(.int (own_size ((p0.toUInt64 >>> ((p1 &&& (63 : Int32)) &&& 0x3f).toInt64.toUInt64).toInt64)))])) _
    refine XS.lloadN X41.here hx rfl (hb hby at_11) rfl ?_
    exact k
  obtain ⟨_, _, ⟨T44, L44, k44, n44⟩, -, X44, ⟨Lc44, hQ44, l44, y44, z44⟩, st44⟩ := Jvm.LawKit.callS X41 hx (y := (⟨"com/example/wirecall/wirecall/VarintSizePinLaw", "expected", "(J)I"⟩ : MethodName)) hown (mvT hZ (hw _ (List.mem_of_getElem? (i := 4) rfl))) (mvT hZ (hw _ (List.mem_of_getElem? (i := 5) rfl))) (mvT hZ (hw _ (List.mem_of_getElem? (i := 6) rfl))) (mvT hZ (hw _ (List.mem_of_getElem? (i := 7) rfl))) (by decide) (backOf (W := 1) (rm2 l Z a0 hw [] ((p0.toUInt64 >>> ((p1 &&& (63 : Int32)) &&& 0x3f).toInt64.toUInt64).toInt64)  h0 n0 Z0) hZ (hw _ (List.mem_of_getElem? (i := 7) rfl)) (hw _ (List.mem_of_getElem? (i := 6) rfl)) (by decide) (by decide)) (g := (mkF m 12 #[.val (.long p0), .second, .val (.int p1), .val (.long ((p0.toUInt64 >>> ((p1 &&& (63 : Int32)) &&& 0x3f).toInt64.toUInt64).toInt64)), .second] [(.long ((p0.toUInt64 >>> ((p1 &&& (63 : Int32)) &&& 0x3f).toInt64.toUInt64).toInt64)), (.int (own_size ((p0.toUInt64 >>> ((p1 &&& (63 : Int32)) &&& 0x3f).toInt64.toUInt64).toInt64)))])) rfl (by rw [hml]; rfl) (argsL := [(.long ((p0.toUInt64 >>> ((p1 &&& (63 : Int32)) &&& 0x3f).toInt64.toUInt64).toInt64))]) (rest := [(.int (own_size ((p0.toUInt64 >>> ((p1 &&& (63 : Int32)) &&& 0x3f).toInt64.toUInt64).toInt64)))]) (lenOf pd_0 rfl) rfl (by show 2 * 0 + _ ≤ _; exact Nat.le_of_eq rfl) (hb hby at_12) (fun _ _ => ⟨rfl, e41, (by decide : 0 + 0 ≤ _), (by decide : 0 + 0 ≤ _)⟩)
  dsimp only [Pt.U, Pt.locs, Pt.cells, Pt.slots] at X44 l44 y44 z44 st44 hQ44
  subst l44 y44 z44
  obtain ⟨rfl, N44q, e44⟩ := hQ44
  have N44 := Fr.app N41 N44q
  have pre45 : ∀ t, Steps p.tables e below (T44.setTop (mkF m 15 #[.val (.long p0), .second, .val (.int p1), .val (.long ((p0.toUInt64 >>> ((p1 &&& (63 : Int32)) &&& 0x3f).toInt64.toUInt64).toInt64)), .second] [(.int (own_exp ((p0.toUInt64 >>> ((p1 &&& (63 : Int32)) &&& 0x3f).toInt64.toUInt64).toInt64))), (.int (own_size ((p0.toUInt64 >>> ((p1 &&& (63 : Int32)) &&& 0x3f).toInt64.toUInt64).toInt64)))])) t → Steps p.tables e below (s₁.setTop (entryFrame m #[(.long p0), (.int p1)] maxLocals)) t := fun t k => pre43 t (st44 _ k)
  by_cases hc15 : (own_size ((p0.toUInt64 >>> ((p1 &&& (63 : Int32)) &&& 0x3f).toInt64.toUInt64).toInt64)) = (own_exp ((p0.toUInt64 >>> ((p1 &&& (63 : Int32)) &&& 0x3f).toInt64.toUInt64).toInt64))
  · have pre46 : ∀ t, Steps p.tables e below (T44.setTop (mkF m 23 #[.val (.long p0), .second, .val (.int p1), .val (.long ((p0.toUInt64 >>> ((p1 &&& (63 : Int32)) &&& 0x3f).toInt64.toUInt64).toInt64)), .second] [(.int (1 : Int32))])) t → Steps p.tables e below (s₁.setTop (entryFrame m #[(.long p0), (.int p1)] maxLocals)) t := by
      intro t k
      refine pre45 t ?_
      show Steps p.tables e below (T44.setTop (mkF m 15 #[.val (.long p0), .second, .val (.int p1), .val (.long ((p0.toUInt64 >>> ((p1 &&& (63 : Int32)) &&& 0x3f).toInt64.toUInt64).toInt64)), .second] [(.int (own_exp ((p0.toUInt64 >>> ((p1 &&& (63 : Int32)) &&& 0x3f).toInt64.toUInt64).toInt64))), (.int (own_size ((p0.toUInt64 >>> ((p1 &&& (63 : Int32)) &&& 0x3f).toInt64.toUInt64).toInt64)))])) _
      refine XS.icmpNo X44.here hx rfl (hb hby at_15) rfl (teq hc15).2 ?_
      show Steps p.tables e below (T44.setTop (mkF m 18 #[.val (.long p0), .second, .val (.int p1), .val (.long ((p0.toUInt64 >>> ((p1 &&& (63 : Int32)) &&& 0x3f).toInt64.toUInt64).toInt64)), .second] [])) _
      refine XS.iconst X44.here hx rfl (hb hby at_18) ?_
      show Steps p.tables e below (T44.setTop (mkF m 19 #[.val (.long p0), .second, .val (.int p1), .val (.long ((p0.toUInt64 >>> ((p1 &&& (63 : Int32)) &&& 0x3f).toInt64.toUInt64).toInt64)), .second] [(.int (1 : Int32))])) _
      refine XS.goto X44.here hx rfl (pc0 := 19) (pc' := 23) rfl (hb hby at_19) (by decide) (by decide) ?_
      exact k
    obtain ⟨fs, hr, hrun, hended, hW, hsame⟩ := X44.leave (v := some (.int (1 : Int32))) (fun h => by rw [Bd.returns] at h; cases h)
    refine ⟨_, _, pre46 _ ?_, hrun, hended, _, _, rfl, ?_, ⟨_, rfl⟩, hW, hsame.mono (by decide) (by decide)⟩
    · exact retN X44 hx (t := .boolean) Bd.returns (by simp) (hb hby at_23) hr
    · show Q0 Z p0 p1 h0 n0 _ T44.heap _
      rw [e44]
      exact ⟨rfl, N44⟩
  · exfalso
    exact hc15 (own_plain _)
set_option maxRecDepth 65536 in
set_option maxHeartbeats 40000000 in
theorem comes_1 {Post : Tables → Env → Array Value → State → Outcome → State → Prop} (hpost : ∀ tb e args s v u, (limb_1_1.after args s (.returned v) u = true ∧ limb_1_2.after args s (.returned v) u = true ∧ True) → FrameEnd s (.returned v) u (Jvm.fieldLocs frame_1_writes args s ++ Jvm.arrayLocs frame_1_arrays args s ++ Jvm.staticLocs frame_1_statics s) 0 0 → Post tb e args s (.returned v) u) :
    ArmFor flags0 classFile x code maxLocals ret World_1 tables_1 room_1 Calls_1 rest_1 Pre_1 Post := by
  intro l hfl _ _ p e ha hc hk s m args below hf hA hF happ hP
  obtain ⟨hcalls, hrest, hpre⟩ := hP
  obtain ⟨-, -, -, hnamed, -, -, -, hat⟩ := (Spec.applies_iff hf).mp happ
  obtain ⟨hg, hn⟩ := and_e (Cond.before_iff.mp (show (Jvm.Cond.and given_1 narrow_1).before args s = true from hpre))
  obtain ⟨g1, g2⟩ := and_e hg
  obtain ⟨g3, g4⟩ := and_e g2
  obtain ⟨w0, w1, rfl⟩ : ∃ w0 w1 : Value, args = #[w0, w1] := by
    have hs : args.size = 2 := by simpa [Cond.value, given_1] using g1
    obtain ⟨L⟩ := args
    match L, hs with
    | [w0, w1], _ => exact ⟨w0, w1, rfl⟩
  have hw := fun d (hd : d ∈ tables_1) => atoms_spec (ws := Jvm.Cond.code x code maxLocals ret :: tables_1) hat d (List.mem_cons_of_mem _ hd)
  have hfit : Fit s := fun {y c} hc i hi => by
    obtain ⟨ha, rfl⟩ := Array.getElem?_eq_some_iff.mp hc
    have q := List.all_eq_true.mp ((Array.all_eq_true_iff_forall_mem.mp hF) _ (Array.getElem_mem ha)) i (List.mem_range.mpr hi)
    simpa [Array.getElem?_eq_getElem hi] using q
  obtain ⟨i0, ei0⟩ := isL_v g3
  obtain rfl : w0 = (.long i0) := Option.some.inj ei0
  obtain ⟨i1, ei1⟩ := is_v g4
  obtain rfl : w1 = (.int i1) := Option.some.inj ei1
  obtain ⟨n, o, h1, h2, h3, _, L, rfl, ⟨rfl, N⟩, hq⟩ := rm0 l s _ hw tables_1 i0 i1 s.heap s.heap.size (Nat.le_refl _) p e ha hc hk s m _ below hf ((Spec.applies_iff_loose hf).mp happ).1 ⟨rfl, State.Warmed39.refl s, rfl⟩ trivial
  refine ⟨n, _, h1, h2, h3, hpost _ _ _ _ _ _ ⟨Cond.after_iff.mpr rfl, Cond.after_iff.mpr (eq_i res_at (Term.int_eval (1)) rfl), trivial⟩ ⟨hq.1, hq.2.1, (hq.2.2.sift fun y hy => Or.inr (N y hy)).mono (by decide) (by decide)⟩⟩
theorem main_1_1 : Claimed_1_1 := comes_1 fun _ _ _ _ _ _ h hF => ⟨h.1, hF⟩
theorem main_1_2 : Claimed_1_2 := comes_1 fun _ _ _ _ _ _ h hF => ⟨h.2.1, hF⟩
end Jvm.Pilot.@@N@@
namespace Jvm.Pilot.@@N@@
open Jvm Jvm.ClassFile Sem Op Lib Jvm.Free Jvm.Stand Jvm.Pilot.@@N@@.Jvm.D
/-! MADE BY PROGRAM (witnessworld.py) out of the Statement's table words and the real class files: 9 classes; the members and pool entries that the words name. The judged class is class 1, her method 2. -/
namespace start1
open Jvm.ClassFile
def u (s : String) : CpInfo := .utf8 (stringToUtf16 s)
/-- a pool by its gaps: so many unusable entries, then the entry; so many at the end -/
def gap : Nat → List CpInfo → List CpInfo
  | 0, r => r
  | n + 1, r => .unusable :: gap n r
def poolList (es : List (Nat × CpInfo)) (last : Nat) : List CpInfo := es.foldr (fun e r => gap e.1 (e.2 :: r)) (gap last [])
def pool (es : List (Nat × CpInfo)) (last : Nat) : Array CpInfo := ⟨poolList es last⟩
def fileOf (pool : Array CpInfo) (this : Nat) (attrs : Array Attribute := #[]) (ms : Array MethodInfo := #[]) (fl : Nat := 33) (sup : Nat := 0) (ifs : Array Nat := #[]) (fds : Array FieldInfo := #[]) : ClassFile where
  minorVersion := 0
  majorVersion := 65
  constantPool := pool
  accessFlags := fl
  thisClass := this
  superClass := sup
  interfaces := ifs
  fields := fds
  methods := ms
  attributes := attrs
def plain (name : String) (sup : Option ClassId) : Class where
  name := name
  kind := .ordinary
  loader := none
  accessFlags := 33
  super := sup
  interfaces := #[]
  cf := none
  fields := #[]
  methods := #[]
  instanceTypes := #[]
  staticTypes := #[]
  resolved := #[]
  callSites := []
  init := .initialized
  statics := none
  mirror := none

def pool0 : Array CpInfo := pool [(5, u "<init>"), (0, u "()V"), (1, .class_ 10), (1, u "java/lang/Object")] 113

def k0m0 : Method := { name := "<init>", desc := "()V", sig := { parameters := [], returnType := none }, accessFlags := 1, code := none }
/-- java/lang/Object -/
def k0 : Class := { plain "java/lang/Object" none with
  accessFlags := 33
  interfaces := #[]
  cf := some (fileOf pool0 8 #[] #[{ accessFlags := 1, nameIndex := 5, descriptorIndex := 6, attributes := #[] }] 33 0 #[] #[])
  fields := #[]
  methods := #[k0m0]
  instanceTypes := #[]
  staticTypes := #[]
  resolved := Array.replicate 124 none
  statics := none }

def pool1 : Array CpInfo := pool [(2, .class_ 4), (1, u "java/lang/Object"), (0, u "<init>"), (0, u "()V"), (0, .long 128), (1, .long 16384), (1, .long 2097152), (1, .long 268435456), (1, .long 34359738368), (1, .long 4398046511104), (1, .long 562949953421312), (1, .long 72057594037927936), (1, .methodref 24 25), (0, .class_ 26), (0, .nameAndType 27 28), (0, u "com/example/wirecall/wirecall/Varint"), (0, u "size"), (0, u "(J)I"), (0, .methodref 30 31), (0, .class_ 32), (0, .nameAndType 33 28), (0, u "com/example/wirecall/wirecall/VarintSizePinLaw"), (0, u "expected"), (3, u "law"), (0, u "(JI)Z")] 2

def k1m0 : Method := { name := "<init>", desc := "()V", sig := { parameters := [], returnType := none }, accessFlags := 2, code := none }
def k1c1 : Code := { maxStack := 4, maxLocals := 2, code := method_2_code, exceptionTable := #[], attributes := #[] }
def k1m1 : Method := { name := "expected", desc := "(J)I", sig := { parameters := [.long], returnType := some .int }, accessFlags := 10, code := some k1c1 }
def k1c2 : Code := { maxStack := 4, maxLocals := 5, code := code, exceptionTable := #[], attributes := #[] }
def k1m2 : Method := { name := "law", desc := "(JI)Z", sig := { parameters := [.long, .int], returnType := some .boolean }, accessFlags := 9, code := some k1c2 }
/-- com/example/wirecall/wirecall/VarintSizePinLaw -/
def k1 : Class := { plain "com/example/wirecall/wirecall/VarintSizePinLaw" (some 0) with
  accessFlags := 49
  interfaces := #[]
  cf := some (fileOf pool1 30 #[] #[{ accessFlags := 2, nameIndex := 5, descriptorIndex := 6, attributes := #[] }, { accessFlags := 10, nameIndex := 33, descriptorIndex := 28, attributes := #[] }, { accessFlags := 9, nameIndex := 37, descriptorIndex := 38, attributes := #[] }] 49 2 #[] #[])
  fields := #[]
  methods := #[k1m0, k1m1, k1m2]
  instanceTypes := #[]
  staticTypes := #[]
  resolved := Array.replicate 41 none
  statics := none }

def pool2 : Array CpInfo := pool [(2, .class_ 4), (1, u "java/lang/Object"), (0, u "<init>"), (0, u "()V"), (1, .class_ 10), (1, u "com/example/wirecall/wirecall/Varint$ByteSource"), (28, .class_ 40), (0, u "com/example/wirecall/wirecall/Varint"), (0, u "MAX_BYTES"), (0, u "I"), (10, u "size"), (0, u "(J)I")] 23

def k2m0 : Method := { name := "<init>", desc := "()V", sig := { parameters := [], returnType := none }, accessFlags := 2, code := none }
def k2c1 : Code := { maxStack := 4, maxLocals := 5, code := prog_61_method_3_code, exceptionTable := #[], attributes := #[] }
def k2m1 : Method := { name := "size", desc := "(J)I", sig := { parameters := [.long], returnType := some .int }, accessFlags := 8, code := some k2c1 }
/-- com/example/wirecall/wirecall/Varint -/
def k2 : Class := { plain "com/example/wirecall/wirecall/Varint" (some 0) with
  accessFlags := 48
  interfaces := #[]
  cf := some (fileOf pool2 39 #[.nestMembers #[8]] #[{ accessFlags := 2, nameIndex := 5, descriptorIndex := 6, attributes := #[] }, { accessFlags := 8, nameIndex := 53, descriptorIndex := 54, attributes := #[] }] 48 2 #[] #[{ accessFlags := 24, nameIndex := 41, descriptorIndex := 42, attributes := #[] }])
  fields := #[{ name := "MAX_BYTES", type := .int, accessFlags := 24, slot := 0, constantValue := 0 }]
  methods := #[k2m0, k2m1]
  instanceTypes := #[]
  staticTypes := #[.int]
  resolved := Array.replicate 78 none
  statics := none }

def pool3 : Array CpInfo := pool [(1, u "java/lang/Cloneable"), (0, .class_ 1), (0, u "java/lang/Object"), (0, .class_ 3)] 3

/-- java/lang/Cloneable -/
def k3 : Class := { plain "java/lang/Cloneable" (some 0) with
  accessFlags := 1537
  interfaces := #[]
  cf := some (fileOf pool3 2 #[] #[] 1537 4 #[] #[])
  fields := #[]
  methods := #[]
  instanceTypes := #[]
  staticTypes := #[]
  resolved := Array.replicate 8 none
  statics := none }

def pool4 : Array CpInfo := pool [(1, u "java/io/Serializable"), (0, .class_ 1), (0, u "java/lang/Object"), (0, .class_ 3)] 3

/-- java/io/Serializable -/
def k4 : Class := { plain "java/io/Serializable" (some 0) with
  accessFlags := 1537
  interfaces := #[]
  cf := some (fileOf pool4 2 #[] #[] 1537 4 #[] #[])
  fields := #[]
  methods := #[]
  instanceTypes := #[]
  staticTypes := #[]
  resolved := Array.replicate 8 none
  statics := none }

/-- the primitive byte -/
def k5 : Class := { plain "byte" none with kind := .primitive 'B', accessFlags := 0x411 }
/-- [B -/
def k6 : Class := { plain "[B" (some 0) with kind := .array 5 .byte, interfaces := #[3, 4], accessFlags := 1041 }

/-- the primitive int -/
def k7 : Class := { plain "int" none with kind := .primitive 'I', accessFlags := 0x411 }
/-- [I -/
def k8 : Class := { plain "[I" (some 0) with kind := .array 7 .int, interfaces := #[3, 4], accessFlags := 1041 }

def heap : Heap := #[]
def classes : Array Class := #[k0, k1, k2, k3, k4, k5, k6, k7, k8]
def interned : List (Array UInt16 × Addr) := []
def slotsUsed : Nat := 0
def theMethod : MethodId := ⟨1, 2⟩
def args0 : Array Value := #[.long 9, .int 10]
def aboutOver (below : List Frame) : State where
  vm := { classes := classes, interned := interned.toArray }
  heap := heap
  slotsUsed := slotsUsed
  threads := #[{ frames := .invoking theMethod args0 :: below }]
def below0 : List Frame := [.native { method := ⟨0, 0⟩, args := #[] }]
def about1 : State := aboutOver below0
def p0 : Program := .bare "" "" ""
def e0 : Env := launch0.env 0 0 0
theorem w_frames : about1.frames = Frame.invoking theMethod args0 :: below0 := rfl
set_option maxRecDepth 65536 in
theorem w_args : argsFit about1.vm theMethod args0 = true := by decide +kernel
set_option maxRecDepth 65536 in
theorem w_heap : heapFits about1 = true := by decide +kernel
set_option maxRecDepth 65536 in
theorem w_runnable : about1.curStatus? = some .runnable := by decide +kernel
set_option maxRecDepth 65536 in
theorem w_alone : about1.alone = true := by decide +kernel
set_option maxRecDepth 65536 in
theorem w_named : about1.methodNamed? x = some theMethod := by decide +kernel
set_option maxRecDepth 65536 in
theorem w_hears : about1.hears theMethod below0 = true := by decide +kernel
set_option maxRecDepth 65536 in
theorem w_ripe : about1.ripe theMethod args0 below0 = true := by decide +kernel
theorem w_running : about1.status = .running := rfl
set_option maxRecDepth 65536 in
theorem w_room : about1.hasRoom e0.platform room_1 = true :=
  launch0.hasRoom_least _ room_1 (by decide +kernel) (by decide +kernel) (by decide +kernel) (by decide +kernel) (by decide +kernel) (by decide +kernel)
theorem allAtoms_all (ts : List Jvm.Cond) (a : Array Jvm.Value) (st : Jvm.State) : (allAtoms ts).before a st = ts.all (fun c => c.before a st) := by
  induction ts with
  | nil => rfl
  | cons c t ih =>
    show (Jvm.Cond.and c (allAtoms t)).before a st = _
    rw [Jvm.Cond.before_and, ih, List.all_cons]
def words1 : List Jvm.Cond := Jvm.Cond.code x code maxLocals ret :: tables_1
/-- a 'code' word, met by the world's own term for the bytes: nothing is compared byte by byte -/
theorem code_word {y : MethodName} {bytes : ByteArray} {mx : Nat} {rt : Option FieldType} {a : Array Value} {s : State} {m : MethodId} {meth : Method} {c : Code} (h1 : s.methodNamed? y = some m) (h2 : s.vm.method? m = some meth) (h3 : meth.code = some c) (h4 : c.code = bytes)
    (h5 : (c.maxLocals == mx && c.exceptionTable.isEmpty && decide (c.maxStack ≤ mostOperands) && decide (meth.sig.returnType = rt) && !meth.locks && decide (parseMethodDescriptor y.desc = some meth.sig)) = true) : (Jvm.Cond.code y bytes mx rt).before a s = true := by
  simp only [Bool.and_eq_true, beq_iff_eq, Bool.not_eq_true', decide_eq_true_eq] at h5
  obtain ⟨⟨⟨⟨⟨g1, g2⟩, g3⟩, g4⟩, g5⟩, g6⟩ := h5
  simp [Cond.before, Cond.holds, Cond.value, h1, h2, h3, h4, g1, g2, g3, g4, g5, g6]
def isCode : Jvm.Cond → Bool
  | .code _ _ _ _ => true
  | _ => false
theorem all_split {L : List Jvm.Cond} {P : Jvm.Cond → Bool} (h1 : L.all (fun c => isCode c || P c) = true) (h2 : ∀ c ∈ L.filter isCode, P c = true) : L.all P = true := by
  refine List.all_eq_true.mpr fun c hc => ?_
  have h := List.all_eq_true.mp h1 c hc
  rcases Bool.eq_false_or_eq_true (isCode c) with hi | hi
  · exact h2 c (List.mem_filter.mpr ⟨hc, hi⟩)
  · simpa [hi] using h
set_option maxRecDepth 65536 in
theorem w_c0 : (Jvm.Cond.code x code maxLocals ret).before args0 about1 = true := code_word (m := ⟨1, 2⟩) (meth := k1m2) (c := k1c2) (by decide +kernel) rfl rfl rfl (by decide +kernel)
set_option maxRecDepth 65536 in
theorem w_c1 : (Jvm.Cond.code ({ cls := "com/example/wirecall/wirecall/Varint", name := "size", desc := "(J)I" } : Jvm.MethodName) prog_61_method_3_code (5 : Nat) (Option.some Jvm.ClassFile.FieldType.int)).before args0 about1 = true := code_word (m := ⟨2, 1⟩) (meth := k2m1) (c := k2c1) (by decide +kernel) rfl rfl rfl (by decide +kernel)
set_option maxRecDepth 65536 in
theorem w_c2 : (Jvm.Cond.code ({ cls := "com/example/wirecall/wirecall/VarintSizePinLaw", name := "expected", desc := "(J)I" } : Jvm.MethodName) method_2_code (2 : Nat) (Option.some Jvm.ClassFile.FieldType.int)).before args0 about1 = true := code_word (m := ⟨1, 1⟩) (meth := k1m1) (c := k1c1) (by decide +kernel) rfl rfl rfl (by decide +kernel)
def codes1 : List Jvm.Cond := [Jvm.Cond.code x code maxLocals ret, Jvm.Cond.code ({ cls := "com/example/wirecall/wirecall/Varint", name := "size", desc := "(J)I" } : Jvm.MethodName) prog_61_method_3_code (5 : Nat) (Option.some Jvm.ClassFile.FieldType.int), Jvm.Cond.code ({ cls := "com/example/wirecall/wirecall/VarintSizePinLaw", name := "expected", desc := "(J)I" } : Jvm.MethodName) method_2_code (2 : Nat) (Option.some Jvm.ClassFile.FieldType.int)]
set_option maxRecDepth 65536 in
theorem codes_eq : words1.filter isCode = codes1 := rfl
theorem w_codes : ∀ c ∈ words1.filter isCode, c.before args0 about1 = true := by
  rw [codes_eq]
  intro c hc
  simp only [codes1, List.mem_cons, List.not_mem_nil, or_false] at hc
  rcases hc with rfl | rfl | rfl
  · exact w_c0
  · exact w_c1
  · exact w_c2
set_option maxRecDepth 65536 in
theorem w_t1 : words1.all (fun c => isCode c || c.before args0 about1) = true := by decide +kernel
theorem w_tables : (allAtoms (Jvm.Cond.code x code maxLocals ret :: tables_1)).before args0 about1 = true := by
  rw [allAtoms_all]
  show words1.all (fun c => c.before args0 about1) = true
  refine all_split ?_ w_codes
  rw [w_t1]
set_option maxRecDepth 65536 in
theorem w_case : (Jvm.Cond.and given_1 narrow_1).before args0 about1 = true := by decide +kernel
theorem w_applies : (headSpec (Jvm.Cond.code x code maxLocals ret :: tables_1) room_1).applies x e0.platform about1 = true :=
  (Spec.applies_iff w_frames).mpr ⟨w_running, w_runnable, w_alone, w_named, w_hears, w_ripe, w_room, w_tables⟩
theorem atStart : AtStart classFile x code maxLocals ret World_1 tables_1 room_1 Calls_1 rest_1 Pre_1 launch0 p0 e0 about1 theMethod args0 below0 :=
  ⟨lists_1, trivial, launch0.admits_env _ _ _, launch0.least_env, fairChoices_fair.cas, fairChoices_fair.clock, w_frames, w_args, w_heap, w_applies, trivial, trivial, w_case⟩
end start1
theorem witness_1 : WitnessClaimed_1 := ⟨start1.p0, start1.e0, start1.about1, start1.theMethod, start1.args0, start1.below0, start1.atStart⟩
end Jvm.Pilot.@@N@@
