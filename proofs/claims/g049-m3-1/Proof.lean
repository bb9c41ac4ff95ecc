import JvmDerived
import JvmDerived.Pilot.@@N@@Statement
import JvmDerived.Pilot.@@N@@Code
set_option linter.unusedVariables false
set_option linter.unusedSimpArgs false
namespace Jvm.RoadKit
open Sem ClassFile Op Lib Jvm.Stand Jvm.Free Jvm.LawKit
section New
variable {p : Program} {l : Launch} {e : Env} {R : Room} {s : State} {m : MethodId} {args : Array Value} {below : List Frame} {meth : Method} {c : Code} {T : State} {locs : List Loc} {cells slots : Nat}
theorem retI (X : Stand p l e R s m args below meth c T locs cells slots) (hx : p.tables.exec = Jvm.exec) {pc : Nat} {Ls : Array Slot} {z : Int32} {rest : List Value} (hret : meth.sig.returnType = some .int) (hd : decode c.code pc = .ok (.ireturn, 1)) {fs : List Frame}
    (hl : ∀ (f : JFrame) (acts : List Action), f.method = m → f.locked = none → f.entered = [] → (doReturn e (T.setTop f) acts (some (.int z))).1 = T.setFrames fs) : Steps p.tables e below (T.setTop (mkF m pc Ls (.int z :: rest))) (T.setFrames fs) := by
  have hm' : T.vm.method? m = some meth := X.method'
  have hn : narrow .int (.int z) = .int z := rfl
  show Steps p.tables e below (T.setTop { method := m, pc := pc, locals := Ls, stack := _ :: rest, locked := none }) _
  jvm_step X.here [X.here.top, hx, hd, hm', hret, hn]
  first | (intro acts; rw [hl _ acts rfl rfl rfl]) | rw [hl _ _ rfl rfl rfl]
  exact Steps.refl _
end New
end Jvm.RoadKit
namespace Jvm.RoadKit
open Sem ClassFile Op Lib Jvm.Stand Jvm.Free Jvm.LawKit
section OwnArr
variable {p : Program} {l : Launch} {e : Env} {R : Room} {s : State} {m : MethodId} {args : Array Value} {below : List Frame} {meth : Method} {c : Code} {T : State} {locs : List Loc} {cells slots : Nat} {Z : State} {h h' : Heap} {a b : Addr} {ty : FieldType} {n : Nat} {f : Nat → Value}
/-- an array of n places, place j holds f j -/
def own_arr (Z : State) (h : Heap) (a : Addr) (ty : FieldType) (n : Nat) (f : Nat → Value) : Prop := ∃ c : Cell, Arr Z h a c ty ∧ c.slots.size = n ∧ ∀ j, j < n → c.slots[j]? = some (f j)
theorem own_arr.lt (F : own_arr Z h a ty n f) : a < h.size := by obtain ⟨c, A, -⟩ := F; exact A.lt
theorem own_arr.ext (F : own_arr Z h a ty n f) (E : Ext h h') : own_arr Z h' a ty n f := by obtain ⟨c, A, r⟩ := F; exact ⟨c, A.ext E, r⟩
theorem own_arr.other {sl : Nat} {v : Value} (F : own_arr Z h b ty n f) (W : Wr h h' a sl v) (q : b ≠ a) : own_arr Z h' b ty n f := by obtain ⟨c, A, r⟩ := F; exact ⟨c, A.other W q, r⟩
theorem own_arr.keep {ws : List Addr} (F : own_arr Z h a ty n f) (K : Keep h h' ws) (q : a ∉ ws) : own_arr Z h' a ty n f := by obtain ⟨c, A, r⟩ := F; exact ⟨c, ⟨K.2.1 a c A.1 q, A.2⟩, r⟩
theorem own_arr.to {n' : Nat} {f' : Nat → Value} (F : own_arr Z h a ty n f) (q : n = n') (r : ∀ j, j < n → f j = f' j) : own_arr Z h a ty n' f' := by obtain ⟨c, A, s, t⟩ := F; subst q; exact ⟨c, A, s, fun j hj => (t j hj).trans (congrArg some (r j hj))⟩
theorem own_arr.new {k : ClassId} {z : Int32} (A : Arr Z h a (newA k ty z) ty) : own_arr Z h a ty z.toNatClampNeg (fun _ => defaultValue ty) := ⟨_, A, sz_new _ _ _, fun j hj => by simp [newA, hj]⟩
theorem own_arr.newI {k : ClassId} {z : Int32} {i : Nat} (A : Arr Z h a (newA k .int z) .int) (q : z.toNatClampNeg = i) : own_arr Z h a .int i (fun _ => .int 0) := q ▸ own_arr.new A
theorem own_arr.newB {k : ClassId} {z : Int32} {i : Nat} (A : Arr Z h a (newA k .byte z) .byte) (q : z.toNatClampNeg = i) : own_arr Z h a .byte i (fun _ => .int 0) := q ▸ own_arr.new A
theorem own_arr.newJ {k : ClassId} {z : Int32} {i : Nat} (A : Arr Z h a (newA k .long z) .long) (q : z.toNatClampNeg = i) : own_arr Z h a .long i (fun _ => .long 0) := q ▸ own_arr.new A
theorem own_arr.set {j : Nat} {v : Value} (F : own_arr Z h a ty n f) (W : Wr h h' a j v) : own_arr Z h' a ty n (fun i => if i = j then v else f i) := by
  obtain ⟨c, A, s, t⟩ := F
  refine ⟨_, A.same W, by rw [sz_set]; exact s, fun i hi => ?_⟩
  by_cases q : i = j
  · subst q; simp [Cell.setSlot, s, hi]
  · simp only [q, if_false]; rw [← t i hi]; exact Array.getElem?_setIfInBounds_ne fun z => q z.symm
theorem own_in {j : Int32} {k : Nat} {cl : Cell} (h0 : ¬ j < 0) (hj : j.toNatClampNeg = k) (hk : k < n) (q : cl.slots.size = n) : ¬ (j < 0 ∨ cl.slots.size ≤ j.toNatClampNeg) := by
  rintro (r | r)
  · exact h0 r
  · omega
theorem own_ldI {g : Nat → Int32} (X : Stand p l e R s m args below meth c T locs cells slots) (hx : p.tables.exec = Jvm.exec) (hZ : Z.Warmed39 s.vm) (eT : T.heap = h) (A : own_arr Z h a .int n (fun i => .int (g i))) {j : Int32} {k : Nat} (h0 : ¬ j < 0) (hj : j.toNatClampNeg = k) (hk : k < n)
    {fr : JFrame} (hg : fr.method = m) {rest : List Value} (hs : fr.stack = .int j :: .ref a :: rest) (hd : decode c.code fr.pc = .ok (.iaload, 1)) (target : State)
    (hr : Steps p.tables e below (T.setTop { fr with pc := fr.pc + 1, stack := .int (g k) :: rest }) target) : Steps p.tables e below (T.setTop fr) target := by
  obtain ⟨cl, A, s, t⟩ := A
  exact X.iaload hx (by rw [eT]; exact A.1) (State.isArrayOf_alike hZ.alike A.2.1) A.2.2 (own_in h0 hj hk s) (by rw [hj]; exact t k hk) hg hs hd _ hr
theorem own_ldB {g : Nat → Int32} (X : Stand p l e R s m args below meth c T locs cells slots) (hx : p.tables.exec = Jvm.exec) (hZ : Z.Warmed39 s.vm) (eT : T.heap = h) (A : own_arr Z h a .byte n (fun i => .int (g i))) {j : Int32} {k : Nat} (h0 : ¬ j < 0) (hj : j.toNatClampNeg = k) (hk : k < n)
    {fr : JFrame} (hg : fr.method = m) {rest : List Value} (hs : fr.stack = .int j :: .ref a :: rest) (hd : decode c.code fr.pc = .ok (.baload, 1)) (target : State)
    (hr : Steps p.tables e below (T.setTop { fr with pc := fr.pc + 1, stack := .int (g k) :: rest }) target) : Steps p.tables e below (T.setTop fr) target := by
  obtain ⟨cl, A, s, t⟩ := A
  exact X.baloadBytes hx (by rw [eT]; exact A.1) (State.isArrayOf_alike hZ.alike A.2.1) A.2.2 (own_in h0 hj hk s) (by rw [hj]; exact t k hk) hg hs hd _ hr
theorem own_ldJ {g : Nat → Int64} (X : Stand p l e R s m args below meth c T locs cells slots) (hx : p.tables.exec = Jvm.exec) (hZ : Z.Warmed39 s.vm) (eT : T.heap = h) (A : own_arr Z h a .long n (fun i => .long (g i))) {j : Int32} {k : Nat} (h0 : ¬ j < 0) (hj : j.toNatClampNeg = k) (hk : k < n)
    {fr : JFrame} (hg : fr.method = m) {rest : List Value} (hs : fr.stack = .int j :: .ref a :: rest) (hd : decode c.code fr.pc = .ok (.laload, 1)) (target : State)
    (hr : Steps p.tables e below (T.setTop { fr with pc := fr.pc + 1, stack := .long (g k) :: rest }) target) : Steps p.tables e below (T.setTop fr) target := by
  obtain ⟨cl, A, s, t⟩ := A
  exact X.laload hx (by rw [eT]; exact A.1) (State.isArrayOf_alike hZ.alike A.2.1) A.2.2 (own_in h0 hj hk s) (by rw [hj]; exact t k hk) hg hs hd _ hr
theorem own_len (X : Stand p l e R s m args below meth c T locs cells slots) (hx : p.tables.exec = Jvm.exec) (hZ : Z.Warmed39 s.vm) (eT : T.heap = h) (A : own_arr Z h a ty n f) {z : Int32} (q : n.toInt32 = z)
    {fr : JFrame} (hg : fr.method = m) {rest : List Value} (hs : fr.stack = .ref a :: rest) (hd : decode c.code fr.pc = .ok (.arraylength, 1)) (target : State)
    (hr : Steps p.tables e below (T.setTop { fr with pc := fr.pc + 1, stack := .int z :: rest }) target) : Steps p.tables e below (T.setTop fr) target := by
  obtain ⟨cl, A, s, t⟩ := A
  refine X.arraylength hx (by rw [eT]; exact A.1) (State.isArrayOf_alike hZ.alike A.2.1) hg hs hd _ ?_
  rw [s, q]; exact hr
theorem own_stI {g : Nat → Int32} (X : Stand p l e R s m args below meth c T locs cells slots) (hx : p.tables.exec = Jvm.exec) (hZ : Z.Warmed39 s.vm) (eT : T.heap = h) (A : own_arr Z h a .int n (fun i => .int (g i))) {j x : Int32} {k : Nat} (h0 : ¬ j < 0) (hj : j.toNatClampNeg = k) (hk : k < n)
    {fr : JFrame} (hg : fr.method = m) {rest : List Value} (hs : fr.stack = .int x :: .int j :: .ref a :: rest) (hd : decode c.code fr.pc = .ok (.iastore, 1)) :
    ∃ T' h', Stand p l e R s m args below meth c T' (locs ++ [⟨a, k⟩]) cells slots ∧ T'.heap = h' ∧ Wr h h' a k (.int x) ∧ own_arr Z h' a .int n (fun i => .int (if i = k then x else g i)) ∧ ∀ target, Steps p.tables e below (T'.setTop { fr with pc := fr.pc + 1, stack := rest }) target → Steps p.tables e below (T.setTop fr) target := by
  have A' := A
  obtain ⟨cl, A, s, t⟩ := A
  obtain ⟨T', h', X', e', W, st⟩ := stI X hx hZ eT A (own_in h0 hj hk s) hg hs hd
  rw [hj] at X' W
  exact ⟨T', h', X', e', W, (A'.set W).to rfl fun j _ => by by_cases q : j = k <;> simp [q], st⟩
theorem own_stJ {g : Nat → Int64} (X : Stand p l e R s m args below meth c T locs cells slots) (hx : p.tables.exec = Jvm.exec) (hZ : Z.Warmed39 s.vm) (eT : T.heap = h) (A : own_arr Z h a .long n (fun i => .long (g i))) {j : Int32} {x : Int64} {k : Nat} (h0 : ¬ j < 0) (hj : j.toNatClampNeg = k) (hk : k < n)
    {fr : JFrame} (hg : fr.method = m) {rest : List Value} (hs : fr.stack = .long x :: .int j :: .ref a :: rest) (hd : decode c.code fr.pc = .ok (.lastore, 1)) :
    ∃ T' h', Stand p l e R s m args below meth c T' (locs ++ [⟨a, k⟩]) cells slots ∧ T'.heap = h' ∧ Wr h h' a k (.long x) ∧ own_arr Z h' a .long n (fun i => .long (if i = k then x else g i)) ∧ ∀ target, Steps p.tables e below (T'.setTop { fr with pc := fr.pc + 1, stack := rest }) target → Steps p.tables e below (T.setTop fr) target := by
  have A' := A
  obtain ⟨cl, A, s, t⟩ := A
  obtain ⟨T', h', X', e', W, st⟩ := stJ X hx hZ eT A (own_in h0 hj hk s) hg hs hd
  rw [hj] at X' W
  exact ⟨T', h', X', e', W, (A'.set W).to rfl fun j _ => by by_cases q : j = k <;> simp [q], st⟩
theorem own_stB {g : Nat → Int32} (X : Stand p l e R s m args below meth c T locs cells slots) (hx : p.tables.exec = Jvm.exec) (hZ : Z.Warmed39 s.vm) (eT : T.heap = h) (A : own_arr Z h a .byte n (fun i => .int (g i))) {j x : Int32} {k : Nat} (h0 : ¬ j < 0) (hj : j.toNatClampNeg = k) (hk : k < n)
    {fr : JFrame} (hg : fr.method = m) {rest : List Value} (hs : fr.stack = .int x :: .int j :: .ref a :: rest) (hd : decode c.code fr.pc = .ok (.bastore, 1)) :
    ∃ T' h', Stand p l e R s m args below meth c T' (locs ++ [⟨a, k⟩]) cells slots ∧ T'.heap = h' ∧ Wr h h' a k (.int (x.toInt8.toInt32)) ∧ own_arr Z h' a .byte n (fun i => .int (if i = k then x.toInt8.toInt32 else g i)) ∧ ∀ target, Steps p.tables e below (T'.setTop { fr with pc := fr.pc + 1, stack := rest }) target → Steps p.tables e below (T.setTop fr) target := by
  have A' := A
  obtain ⟨cl, A, s, t⟩ := A
  obtain ⟨T', h', X', e', W, st⟩ := stB X hx hZ eT A (own_in h0 hj hk s) hg hs hd
  rw [hj] at X' W
  exact ⟨T', h', X', e', W, (A'.set W).to rfl fun j _ => by by_cases q : j = k <;> simp [q, nar], st⟩
end OwnArr
end Jvm.RoadKit
namespace Jvm.Pilot.@@N@@
open Jvm Jvm.ClassFile Sem Op Lib Jvm.Free Jvm.Stand Jvm.LawKit Jvm.RoadKit Bundle Jvm.Pilot.@@N@@.Jvm.D
def own_word (b f t : Int32) : Int64 := ((-((((b.toUInt32 >>> (((7 : Int32) - (f &&& (7 : Int32))) &&& 31).toUInt32).toInt32).toInt64) &&& (1 : Int64))) &&& (((-9223372036854775808 : Int64).toUInt64 >>> ((t &&& (63 : Int32)) &&& 0x3f).toInt64.toUInt64).toInt64))
theorem d1_3 : decode prog_30_method_5_code 3 = .ok (.iload 5, 2) := by decide +kernel
theorem d1_5 : decode prog_30_method_5_code 5 = .ok (.iload_n 2, 1) := by decide +kernel
theorem d1_6 : decode prog_30_method_5_code 6 = .ok (.if_icmp .ge 65, 3) := by decide +kernel
theorem d1_9 : decode prog_30_method_5_code 9 = .ok (.iload_n 1, 1) := by decide +kernel
theorem d1_10 : decode prog_30_method_5_code 10 = .ok (.iload 5, 2) := by decide +kernel
theorem d1_12 : decode prog_30_method_5_code 12 = .ok (.iadd, 1) := by decide +kernel
theorem d1_13 : decode prog_30_method_5_code 13 = .ok (.istore 6, 2) := by decide +kernel
theorem d1_15 : decode prog_30_method_5_code 15 = .ok (.iload 4, 2) := by decide +kernel
theorem d1_17 : decode prog_30_method_5_code 17 = .ok (.iload 5, 2) := by decide +kernel
theorem d1_19 : decode prog_30_method_5_code 19 = .ok (.iadd, 1) := by decide +kernel
theorem d1_20 : decode prog_30_method_5_code 20 = .ok (.istore 7, 2) := by decide +kernel
theorem d1_22 : decode prog_30_method_5_code 22 = .ok (.aload_n 0, 1) := by decide +kernel
theorem d1_23 : decode prog_30_method_5_code 23 = .ok (.iload 6, 2) := by decide +kernel
theorem d1_25 : decode prog_30_method_5_code 25 = .ok (.iconst 3, 1) := by decide +kernel
theorem d1_26 : decode prog_30_method_5_code 26 = .ok (.iushr, 1) := by decide +kernel
theorem d1_27 : decode prog_30_method_5_code 27 = .ok (.baload, 1) := by decide +kernel
theorem d1_28 : decode prog_30_method_5_code 28 = .ok (.bipush 7, 2) := by decide +kernel
theorem d1_30 : decode prog_30_method_5_code 30 = .ok (.iload 6, 2) := by decide +kernel
theorem d1_32 : decode prog_30_method_5_code 32 = .ok (.bipush 7, 2) := by decide +kernel
theorem d1_34 : decode prog_30_method_5_code 34 = .ok (.iand, 1) := by decide +kernel
theorem d1_35 : decode prog_30_method_5_code 35 = .ok (.isub, 1) := by decide +kernel
theorem d1_36 : decode prog_30_method_5_code 36 = .ok (.iushr, 1) := by decide +kernel
theorem d1_37 : decode prog_30_method_5_code 37 = .ok (.i2l, 1) := by decide +kernel
theorem d1_38 : decode prog_30_method_5_code 38 = .ok (.lconst 1, 1) := by decide +kernel
theorem d1_39 : decode prog_30_method_5_code 39 = .ok (.land, 1) := by decide +kernel
theorem d1_40 : decode prog_30_method_5_code 40 = .ok (.lstore 8, 2) := by decide +kernel
theorem d1_42 : decode prog_30_method_5_code 42 = .ok (.aload_n 3, 1) := by decide +kernel
theorem d1_43 : decode prog_30_method_5_code 43 = .ok (.iload 7, 2) := by decide +kernel
theorem d1_45 : decode prog_30_method_5_code 45 = .ok (.bipush 6, 2) := by decide +kernel
theorem d1_47 : decode prog_30_method_5_code 47 = .ok (.iushr, 1) := by decide +kernel
theorem d1_48 : decode prog_30_method_5_code 48 = .ok (.dup2, 1) := by decide +kernel
theorem d1_49 : decode prog_30_method_5_code 49 = .ok (.laload, 1) := by decide +kernel
theorem d1_50 : decode prog_30_method_5_code 50 = .ok (.lload 8, 2) := by decide +kernel
theorem d1_52 : decode prog_30_method_5_code 52 = .ok (.lneg, 1) := by decide +kernel
theorem d1_53 : decode prog_30_method_5_code 53 = .ok (.ldc2_w 25, 3) := by decide +kernel
theorem d1_56 : decode prog_30_method_5_code 56 = .ok (.iload 7, 2) := by decide +kernel
theorem d1_58 : decode prog_30_method_5_code 58 = .ok (.bipush 63, 2) := by decide +kernel
theorem d1_60 : decode prog_30_method_5_code 60 = .ok (.iand, 1) := by decide +kernel
theorem d1_61 : decode prog_30_method_5_code 61 = .ok (.lushr, 1) := by decide +kernel
theorem d1_62 : decode prog_30_method_5_code 62 = .ok (.land, 1) := by decide +kernel
theorem d1_63 : decode prog_30_method_5_code 63 = .ok (.lor, 1) := by decide +kernel
theorem d1_64 : decode prog_30_method_5_code 64 = .ok (.lastore, 1) := by decide +kernel
theorem d1_65 : decode prog_30_method_5_code 65 = .ok (.iinc 5 1, 3) := by decide +kernel
theorem d1_68 : decode prog_30_method_5_code 68 = .ok (.goto (-65), 3) := by decide +kernel
set_option maxRecDepth 65536 in
set_option maxHeartbeats 40000000 in
theorem own_ts {p : Program} {l : Launch} {e : Env} {R : Room} {s : State} {m : MethodId} {args : Array Value} {below : List Frame} {meth : Method} {c : Code} {T0 : State} {locs : List Loc} {cells slots : Nat} {Z : State} {a0 : Array Value} {h0 : Heap} {n0 : Nat} (o0 : Addr) (o3 : Addr) (i1 : Int32) (i2 : Int32) (i4 : Int32) (i5 : Int32) (x6 : Int32) (x7 : Int32) (x8 : Int64) (g : Nat → Int32) (u : Nat → Int64)
    (X0 : Stand p l e R s m args below meth c T0 locs cells slots) (hx : p.tables.exec = Jvm.exec) (hZ : Z.Warmed39 s.vm) (hw : ∀ d ∈ tables_1, d.before a0 Z = true) (hby : c.code = prog_30_method_5_code) (hml : c.maxLocals = 10) (hown : s.vm.findClass "org/hiddenfield/math/BitVectors" = some m.cls) (e0 : T0.heap = h0) (A0 : own_arr Z h0 o0 .byte 16 (fun i => .int (g i))) (A3 : own_arr Z h0 o3 .long 2 (fun jj => .long (u jj))) (ne03 : o0 ≠ o3) (N0 : Fr n0 locs) (g3 : n0 ≤ o3) (Z0 : n0 ≤ h0.size) (hb0 : ¬ (((i1 + i5).toUInt32 >>> ((3 : Int32) &&& 31).toUInt32).toInt32) < 0) (hb1 : (((i1 + i5).toUInt32 >>> ((3 : Int32) &&& 31).toUInt32).toInt32).toNatClampNeg < 16) (hv0 : ¬ (((i4 + i5).toUInt32 >>> ((6 : Int32) &&& 31).toUInt32).toInt32) < 0) (hv1 : (((i4 + i5).toUInt32 >>> ((6 : Int32) &&& 31).toUInt32).toInt32).toNatClampNeg < 2) (hc6 : i5 < i2) :
    ∃ (T' : State) (h' : Heap), Stand p l e R s m args below meth c T' (locs ++ [⟨o3, (((i4 + i5).toUInt32 >>> ((6 : Int32) &&& 31).toUInt32).toInt32).toNatClampNeg⟩]) cells slots ∧ T'.heap = h' ∧ Fr n0 (locs ++ [⟨o3, (((i4 + i5).toUInt32 >>> ((6 : Int32) &&& 31).toUInt32).toInt32).toNatClampNeg⟩]) ∧ n0 ≤ h'.size ∧ Keep h0 h' [o3] ∧ own_arr Z h' o0 .byte 16 (fun i => .int (g i)) ∧ own_arr Z h' o3 .long 2 (fun i => .long (if i = (((i4 + i5).toUInt32 >>> ((6 : Int32) &&& 31).toUInt32).toInt32).toNatClampNeg then (u ((((i4 + i5).toUInt32 >>> ((6 : Int32) &&& 31).toUInt32).toInt32).toNatClampNeg) ||| own_word (g ((((i1 + i5).toUInt32 >>> ((3 : Int32) &&& 31).toUInt32).toInt32).toNatClampNeg)) (i1 + i5) (i4 + i5)) else u i)) ∧
      ∀ t, Steps p.tables e below (T'.setTop (mkF m 3 #[.val (.ref o0), .val (.int i1), .val (.int i2), .val (.ref o3), .val (.int i4), .val (.int (i5 + (1 : Int32))), .val (.int (i1 + i5)), .val (.int (i4 + i5)), .val (.long (((((g ((((i1 + i5).toUInt32 >>> ((3 : Int32) &&& 31).toUInt32).toInt32).toNatClampNeg)).toUInt32 >>> (((7 : Int32) - ((i1 + i5) &&& (7 : Int32))) &&& 31).toUInt32).toInt32).toInt64) &&& (1 : Int64))), .second] [])) t → Steps p.tables e below (T0.setTop (mkF m 3 #[.val (.ref o0), .val (.int i1), .val (.int i2), .val (.ref o3), .val (.int i4), .val (.int i5), .val (.int x6), .val (.int x7), .val (.long x8), .second] [])) t := by
  have pre0 : ∀ t, Steps p.tables e below (T0.setTop (mkF m 3 #[.val (.ref o0), .val (.int i1), .val (.int i2), .val (.ref o3), .val (.int i4), .val (.int i5), .val (.int x6), .val (.int x7), .val (.long x8), .second] [])) t → Steps p.tables e below (T0.setTop (mkF m 3 #[.val (.ref o0), .val (.int i1), .val (.int i2), .val (.ref o3), .val (.int i4), .val (.int i5), .val (.int x6), .val (.int x7), .val (.long x8), .second] [])) t := fun t k => k
  have pre1 : ∀ t, Steps p.tables e below (T0.setTop (mkF m 64 #[.val (.ref o0), .val (.int i1), .val (.int i2), .val (.ref o3), .val (.int i4), .val (.int i5), .val (.int (i1 + i5)), .val (.int (i4 + i5)), .val (.long (((((g ((((i1 + i5).toUInt32 >>> ((3 : Int32) &&& 31).toUInt32).toInt32).toNatClampNeg)).toUInt32 >>> (((7 : Int32) - ((i1 + i5) &&& (7 : Int32))) &&& 31).toUInt32).toInt32).toInt64) &&& (1 : Int64))), .second] [(.long ((u ((((i4 + i5).toUInt32 >>> ((6 : Int32) &&& 31).toUInt32).toInt32).toNatClampNeg)) ||| ((-(((((g ((((i1 + i5).toUInt32 >>> ((3 : Int32) &&& 31).toUInt32).toInt32).toNatClampNeg)).toUInt32 >>> (((7 : Int32) - ((i1 + i5) &&& (7 : Int32))) &&& 31).toUInt32).toInt32).toInt64) &&& (1 : Int64))) &&& (((-9223372036854775808 : Int64).toUInt64 >>> (((i4 + i5) &&& (63 : Int32)) &&& 0x3f).toInt64.toUInt64).toInt64)))), (.int (((i4 + i5).toUInt32 >>> ((6 : Int32) &&& 31).toUInt32).toInt32)), (.ref o3)])) t → Steps p.tables e below (T0.setTop (mkF m 3 #[.val (.ref o0), .val (.int i1), .val (.int i2), .val (.ref o3), .val (.int i4), .val (.int i5), .val (.int x6), .val (.int x7), .val (.long x8), .second] [])) t := by
    intro t kont
    refine pre0 t ?_
    show Steps p.tables e below (T0.setTop (mkF m 3 #[.val (.ref o0), .val (.int i1), .val (.int i2), .val (.ref o3), .val (.int i4), .val (.int i5), .val (.int x6), .val (.int x7), .val (.long x8), .second] [])) _
    refine XS.iload X0.here hx rfl (hb hby d1_3) rfl ?_
    show Steps p.tables e below (T0.setTop (mkF m 5 #[.val (.ref o0), .val (.int i1), .val (.int i2), .val (.ref o3), .val (.int i4), .val (.int i5), .val (.int x6), .val (.int x7), .val (.long x8), .second] [(.int i5)])) _
    refine XS.iloadN X0.here hx rfl (hb hby d1_5) rfl ?_
    show Steps p.tables e below (T0.setTop (mkF m 6 #[.val (.ref o0), .val (.int i1), .val (.int i2), .val (.ref o3), .val (.int i4), .val (.int i5), .val (.int x6), .val (.int x7), .val (.long x8), .second] [(.int i2), (.int i5)])) _
    refine XS.icmpNo X0.here hx rfl (hb hby d1_6) rfl (tlt hc6).2.1 ?_
    show Steps p.tables e below (T0.setTop (mkF m 9 #[.val (.ref o0), .val (.int i1), .val (.int i2), .val (.ref o3), .val (.int i4), .val (.int i5), .val (.int x6), .val (.int x7), .val (.long x8), .second] [])) _
    refine XS.iloadN X0.here hx rfl (hb hby d1_9) rfl ?_
    show Steps p.tables e below (T0.setTop (mkF m 10 #[.val (.ref o0), .val (.int i1), .val (.int i2), .val (.ref o3), .val (.int i4), .val (.int i5), .val (.int x6), .val (.int x7), .val (.long x8), .second] [(.int i1)])) _
    refine XS.iload X0.here hx rfl (hb hby d1_10) rfl ?_
    show Steps p.tables e below (T0.setTop (mkF m 12 #[.val (.ref o0), .val (.int i1), .val (.int i2), .val (.ref o3), .val (.int i4), .val (.int i5), .val (.int x6), .val (.int x7), .val (.long x8), .second] [(.int i5), (.int i1)])) _
    refine XS.iadd X0.here hx rfl (hb hby d1_12) rfl ?_
    show Steps p.tables e below (T0.setTop (mkF m 13 #[.val (.ref o0), .val (.int i1), .val (.int i2), .val (.ref o3), .val (.int i4), .val (.int i5), .val (.int x6), .val (.int x7), .val (.long x8), .second] [(.int (i1 + i5))])) _
    refine XS.istore X0.here hx rfl (hb hby d1_13) rfl (l' := #[.val (.ref o0), .val (.int i1), .val (.int i2), .val (.ref o3), .val (.int i4), .val (.int i5), .val (.int (i1 + i5)), .val (.int x7), .val (.long x8), .second]) rfl ?_
    show Steps p.tables e below (T0.setTop (mkF m 15 #[.val (.ref o0), .val (.int i1), .val (.int i2), .val (.ref o3), .val (.int i4), .val (.int i5), .val (.int (i1 + i5)), .val (.int x7), .val (.long x8), .second] [])) _
    refine XS.iload X0.here hx rfl (hb hby d1_15) rfl ?_
    show Steps p.tables e below (T0.setTop (mkF m 17 #[.val (.ref o0), .val (.int i1), .val (.int i2), .val (.ref o3), .val (.int i4), .val (.int i5), .val (.int (i1 + i5)), .val (.int x7), .val (.long x8), .second] [(.int i4)])) _
    refine XS.iload X0.here hx rfl (hb hby d1_17) rfl ?_
    show Steps p.tables e below (T0.setTop (mkF m 19 #[.val (.ref o0), .val (.int i1), .val (.int i2), .val (.ref o3), .val (.int i4), .val (.int i5), .val (.int (i1 + i5)), .val (.int x7), .val (.long x8), .second] [(.int i5), (.int i4)])) _
    refine XS.iadd X0.here hx rfl (hb hby d1_19) rfl ?_
    show Steps p.tables e below (T0.setTop (mkF m 20 #[.val (.ref o0), .val (.int i1), .val (.int i2), .val (.ref o3), .val (.int i4), .val (.int i5), .val (.int (i1 + i5)), .val (.int x7), .val (.long x8), .second] [(.int (i4 + i5))])) _
    refine XS.istore X0.here hx rfl (hb hby d1_20) rfl (l' := #[.val (.ref o0), .val (.int i1), .val (.int i2), .val (.ref o3), .val (.int i4), .val (.int i5), .val (.int (i1 + i5)), .val (.int (i4 + i5)), .val (.long x8), .second]) rfl ?_
    show Steps p.tables e below (T0.setTop (mkF m 22 #[.val (.ref o0), .val (.int i1), .val (.int i2), .val (.ref o3), .val (.int i4), .val (.int i5), .val (.int (i1 + i5)), .val (.int (i4 + i5)), .val (.long x8), .second] [])) _
    refine XS.aloadN X0.here hx rfl (hb hby d1_22) rfl rfl ?_
    show Steps p.tables e below (T0.setTop (mkF m 23 #[.val (.ref o0), .val (.int i1), .val (.int i2), .val (.ref o3), .val (.int i4), .val (.int i5), .val (.int (i1 + i5)), .val (.int (i4 + i5)), .val (.long x8), .second] [(.ref o0)])) _
    refine XS.iload X0.here hx rfl (hb hby d1_23) rfl ?_
    show Steps p.tables e below (T0.setTop (mkF m 25 #[.val (.ref o0), .val (.int i1), .val (.int i2), .val (.ref o3), .val (.int i4), .val (.int i5), .val (.int (i1 + i5)), .val (.int (i4 + i5)), .val (.long x8), .second] [(.int (i1 + i5)), (.ref o0)])) _
    refine XS.iconst X0.here hx rfl (hb hby d1_25) ?_
    show Steps p.tables e below (T0.setTop (mkF m 26 #[.val (.ref o0), .val (.int i1), .val (.int i2), .val (.ref o3), .val (.int i4), .val (.int i5), .val (.int (i1 + i5)), .val (.int (i4 + i5)), .val (.long x8), .second] [(.int (3 : Int32)), (.int (i1 + i5)), (.ref o0)])) _
    refine XS.iushr X0.here hx rfl (hb hby d1_26) rfl ?_
    show Steps p.tables e below (T0.setTop (mkF m 27 #[.val (.ref o0), .val (.int i1), .val (.int i2), .val (.ref o3), .val (.int i4), .val (.int i5), .val (.int (i1 + i5)), .val (.int (i4 + i5)), .val (.long x8), .second] [(.int (((i1 + i5).toUInt32 >>> ((3 : Int32) &&& 31).toUInt32).toInt32)), (.ref o0)])) _
    refine own_ldB X0 hx hZ e0 A0 (k := (((i1 + i5).toUInt32 >>> ((3 : Int32) &&& 31).toUInt32).toInt32).toNatClampNeg) hb0 rfl hb1 (fr := (mkF m 27 #[.val (.ref o0), .val (.int i1), .val (.int i2), .val (.ref o3), .val (.int i4), .val (.int i5), .val (.int (i1 + i5)), .val (.int (i4 + i5)), .val (.long x8), .second] [(.int (((i1 + i5).toUInt32 >>> ((3 : Int32) &&& 31).toUInt32).toInt32)), (.ref o0)])) rfl rfl (hb hby d1_27) _ ?_
    show Steps p.tables e below (T0.setTop (mkF m 28 #[.val (.ref o0), .val (.int i1), .val (.int i2), .val (.ref o3), .val (.int i4), .val (.int i5), .val (.int (i1 + i5)), .val (.int (i4 + i5)), .val (.long x8), .second] [(.int (g ((((i1 + i5).toUInt32 >>> ((3 : Int32) &&& 31).toUInt32).toInt32).toNatClampNeg)))])) _
    refine XS.bipush X0.here hx rfl (hb hby d1_28) ?_
    show Steps p.tables e below (T0.setTop (mkF m 30 #[.val (.ref o0), .val (.int i1), .val (.int i2), .val (.ref o3), .val (.int i4), .val (.int i5), .val (.int (i1 + i5)), .val (.int (i4 + i5)), .val (.long x8), .second] [(.int (7 : Int32)), (.int (g ((((i1 + i5).toUInt32 >>> ((3 : Int32) &&& 31).toUInt32).toInt32).toNatClampNeg)))])) _
    refine XS.iload X0.here hx rfl (hb hby d1_30) rfl ?_
    show Steps p.tables e below (T0.setTop (mkF m 32 #[.val (.ref o0), .val (.int i1), .val (.int i2), .val (.ref o3), .val (.int i4), .val (.int i5), .val (.int (i1 + i5)), .val (.int (i4 + i5)), .val (.long x8), .second] [(.int (i1 + i5)), (.int (7 : Int32)), (.int (g ((((i1 + i5).toUInt32 >>> ((3 : Int32) &&& 31).toUInt32).toInt32).toNatClampNeg)))])) _
    refine XS.bipush X0.here hx rfl (hb hby d1_32) ?_
    show Steps p.tables e below (T0.setTop (mkF m 34 #[.val (.ref o0), .val (.int i1), .val (.int i2), .val (.ref o3), .val (.int i4), .val (.int i5), .val (.int (i1 + i5)), .val (.int (i4 + i5)), .val (.long x8), .second] [(.int (7 : Int32)), (.int (i1 + i5)), (.int (7 : Int32)), (.int (g ((((i1 + i5).toUInt32 >>> ((3 : Int32) &&& 31).toUInt32).toInt32).toNatClampNeg)))])) _
    refine XS.iand X0.here hx rfl (hb hby d1_34) rfl ?_
    show Steps p.tables e below (T0.setTop (mkF m 35 #[.val (.ref o0), .val (.int i1), .val (.int i2), .val (.ref o3), .val (.int i4), .val (.int i5), .val (.int (i1 + i5)), .val (.int (i4 + i5)), .val (.long x8), .second] [(.int ((i1 + i5) &&& (7 : Int32))), (.int (7 : Int32)), (.int (g ((((i1 + i5).toUInt32 >>> ((3 : Int32) &&& 31).toUInt32).toInt32).toNatClampNeg)))])) _
    refine XS.isub X0.here hx rfl (hb hby d1_35) rfl ?_
    show Steps p.tables e below (T0.setTop (mkF m 36 #[.val (.ref o0), .val (.int i1), .val (.int i2), .val (.ref o3), .val (.int i4), .val (.int i5), .val (.int (i1 + i5)), .val (.int (i4 + i5)), .val (.long x8), .second] [(.int ((7 : Int32) - ((i1 + i5) &&& (7 : Int32)))), (.int (g ((((i1 + i5).toUInt32 >>> ((3 : Int32) &&& 31).toUInt32).toInt32).toNatClampNeg)))])) _
    refine XS.iushr X0.here hx rfl (hb hby d1_36) rfl ?_
    show Steps p.tables e below (T0.setTop (mkF m 37 #[.val (.ref o0), .val (.int i1), .val (.int i2), .val (.ref o3), .val (.int i4), .val (.int i5), .val (.int (i1 + i5)), .val (.int (i4 + i5)), .val (.long x8), .second] [(.int (((g ((((i1 + i5).toUInt32 >>> ((3 : Int32) &&& 31).toUInt32).toInt32).toNatClampNeg)).toUInt32 >>> (((7 : Int32) - ((i1 + i5) &&& (7 : Int32))) &&& 31).toUInt32).toInt32))])) _
    refine XS.i2l X0.here hx rfl (hb hby d1_37) rfl ?_
    show Steps p.tables e below (T0.setTop (mkF m 38 #[.val (.ref o0), .val (.int i1), .val (.int i2), .val (.ref o3), .val (.int i4), .val (.int i5), .val (.int (i1 + i5)), .val (.int (i4 + i5)), .val (.long x8), .second] [(.long ((((g ((((i1 + i5).toUInt32 >>> ((3 : Int32) &&& 31).toUInt32).toInt32).toNatClampNeg)).toUInt32 >>> (((7 : Int32) - ((i1 + i5) &&& (7 : Int32))) &&& 31).toUInt32).toInt32).toInt64))])) _
    refine XS.lconst X0.here hx rfl (hb hby d1_38) ?_
    show Steps p.tables e below (T0.setTop (mkF m 39 #[.val (.ref o0), .val (.int i1), .val (.int i2), .val (.ref o3), .val (.int i4), .val (.int i5), .val (.int (i1 + i5)), .val (.int (i4 + i5)), .val (.long x8), .second] [(.long (1 : Int64)), (.long ((((g ((((i1 + i5).toUInt32 >>> ((3 : Int32) &&& 31).toUInt32).toInt32).toNatClampNeg)).toUInt32 >>> (((7 : Int32) - ((i1 + i5) &&& (7 : Int32))) &&& 31).toUInt32).toInt32).toInt64))])) _
    refine XS.land X0.here hx rfl (hb hby d1_39) rfl ?_
    show Steps p.tables e below (T0.setTop (mkF m 40 #[.val (.ref o0), .val (.int i1), .val (.int i2), .val (.ref o3), .val (.int i4), .val (.int i5), .val (.int (i1 + i5)), .val (.int (i4 + i5)), .val (.long x8), .second] [(.long (((((g ((((i1 + i5).toUInt32 >>> ((3 : Int32) &&& 31).toUInt32).toInt32).toNatClampNeg)).toUInt32 >>> (((7 : Int32) - ((i1 + i5) &&& (7 : Int32))) &&& 31).toUInt32).toInt32).toInt64) &&& (1 : Int64)))])) _
    refine XS.lstore X0.here hx rfl (hb hby d1_40) rfl (l' := #[.val (.ref o0), .val (.int i1), .val (.int i2), .val (.ref o3), .val (.int i4), .val (.int i5), .val (.int (i1 + i5)), .val (.int (i4 + i5)), .val (.long (((((g ((((i1 + i5).toUInt32 >>> ((3 : Int32) &&& 31).toUInt32).toInt32).toNatClampNeg)).toUInt32 >>> (((7 : Int32) - ((i1 + i5) &&& (7 : Int32))) &&& 31).toUInt32).toInt32).toInt64) &&& (1 : Int64))), .second]) rfl ?_
    show Steps p.tables e below (T0.setTop (mkF m 42 #[.val (.ref o0), .val (.int i1), .val (.int i2), .val (.ref o3), .val (.int i4), .val (.int i5), .val (.int (i1 + i5)), .val (.int (i4 + i5)), .val (.long (((((g ((((i1 + i5).toUInt32 >>> ((3 : Int32) &&& 31).toUInt32).toInt32).toNatClampNeg)).toUInt32 >>> (((7 : Int32) - ((i1 + i5) &&& (7 : Int32))) &&& 31).toUInt32).toInt32).toInt64) &&& (1 : Int64))), .second] [])) _
    refine XS.aloadN X0.here hx rfl (hb hby d1_42) rfl rfl ?_
    show Steps p.tables e below (T0.setTop (mkF m 43 #[.val (.ref o0), .val (.int i1), .val (.int i2), .val (.ref o3), .val (.int i4), .val (.int i5), .val (.int (i1 + i5)), .val (.int (i4 + i5)), .val (.long (((((g ((((i1 + i5).toUInt32 >>> ((3 : Int32) &&& 31).toUInt32).toInt32).toNatClampNeg)).toUInt32 >>> (((7 : Int32) - ((i1 + i5) &&& (7 : Int32))) &&& 31).toUInt32).toInt32).toInt64) &&& (1 : Int64))), .second] [(.ref o3)])) _
    refine XS.iload X0.here hx rfl (hb hby d1_43) rfl ?_
    show Steps p.tables e below (T0.setTop (mkF m 45 #[.val (.ref o0), .val (.int i1), .val (.int i2), .val (.ref o3), .val (.int i4), .val (.int i5), .val (.int (i1 + i5)), .val (.int (i4 + i5)), .val (.long (((((g ((((i1 + i5).toUInt32 >>> ((3 : Int32) &&& 31).toUInt32).toInt32).toNatClampNeg)).toUInt32 >>> (((7 : Int32) - ((i1 + i5) &&& (7 : Int32))) &&& 31).toUInt32).toInt32).toInt64) &&& (1 : Int64))), .second] [(.int (i4 + i5)), (.ref o3)])) _
    refine XS.bipush X0.here hx rfl (hb hby d1_45) ?_
    show Steps p.tables e below (T0.setTop (mkF m 47 #[.val (.ref o0), .val (.int i1), .val (.int i2), .val (.ref o3), .val (.int i4), .val (.int i5), .val (.int (i1 + i5)), .val (.int (i4 + i5)), .val (.long (((((g ((((i1 + i5).toUInt32 >>> ((3 : Int32) &&& 31).toUInt32).toInt32).toNatClampNeg)).toUInt32 >>> (((7 : Int32) - ((i1 + i5) &&& (7 : Int32))) &&& 31).toUInt32).toInt32).toInt64) &&& (1 : Int64))), .second] [(.int (6 : Int32)), (.int (i4 + i5)), (.ref o3)])) _
    refine XS.iushr X0.here hx rfl (hb hby d1_47) rfl ?_
    show Steps p.tables e below (T0.setTop (mkF m 48 #[.val (.ref o0), .val (.int i1), .val (.int i2), .val (.ref o3), .val (.int i4), .val (.int i5), .val (.int (i1 + i5)), .val (.int (i4 + i5)), .val (.long (((((g ((((i1 + i5).toUInt32 >>> ((3 : Int32) &&& 31).toUInt32).toInt32).toNatClampNeg)).toUInt32 >>> (((7 : Int32) - ((i1 + i5) &&& (7 : Int32))) &&& 31).toUInt32).toInt32).toInt64) &&& (1 : Int64))), .second] [(.int (((i4 + i5).toUInt32 >>> ((6 : Int32) &&& 31).toUInt32).toInt32)), (.ref o3)])) _
    refine XT.dup2 X0.here hx rfl (hb hby d1_48) rfl rfl rfl ?_
    show Steps p.tables e below (T0.setTop (mkF m 49 #[.val (.ref o0), .val (.int i1), .val (.int i2), .val (.ref o3), .val (.int i4), .val (.int i5), .val (.int (i1 + i5)), .val (.int (i4 + i5)), .val (.long (((((g ((((i1 + i5).toUInt32 >>> ((3 : Int32) &&& 31).toUInt32).toInt32).toNatClampNeg)).toUInt32 >>> (((7 : Int32) - ((i1 + i5) &&& (7 : Int32))) &&& 31).toUInt32).toInt32).toInt64) &&& (1 : Int64))), .second] [(.int (((i4 + i5).toUInt32 >>> ((6 : Int32) &&& 31).toUInt32).toInt32)), (.ref o3), (.int (((i4 + i5).toUInt32 >>> ((6 : Int32) &&& 31).toUInt32).toInt32)), (.ref o3)])) _
    refine own_ldJ X0 hx hZ e0 A3 (k := (((i4 + i5).toUInt32 >>> ((6 : Int32) &&& 31).toUInt32).toInt32).toNatClampNeg) hv0 rfl hv1 (fr := (mkF m 49 #[.val (.ref o0), .val (.int i1), .val (.int i2), .val (.ref o3), .val (.int i4), .val (.int i5), .val (.int (i1 + i5)), .val (.int (i4 + i5)), .val (.long (((((g ((((i1 + i5).toUInt32 >>> ((3 : Int32) &&& 31).toUInt32).toInt32).toNatClampNeg)).toUInt32 >>> (((7 : Int32) - ((i1 + i5) &&& (7 : Int32))) &&& 31).toUInt32).toInt32).toInt64) &&& (1 : Int64))), .second] [(.int (((i4 + i5).toUInt32 >>> ((6 : Int32) &&& 31).toUInt32).toInt32)), (.ref o3), (.int (((i4 + i5).toUInt32 >>> ((6 : Int32) &&& 31).toUInt32).toInt32)), (.ref o3)])) rfl rfl (hb hby d1_49) _ ?_
    show Steps p.tables e below (T0.setTop (mkF m 50 #[.val (.ref o0), .val (.int i1), .val (.int i2), .val (.ref o3), .val (.int i4), .val (.int i5), .val (.int (i1 + i5)), .val (.int (i4 + i5)), .val (.long (((((g ((((i1 + i5).toUInt32 >>> ((3 : Int32) &&& 31).toUInt32).toInt32).toNatClampNeg)).toUInt32 >>> (((7 : Int32) - ((i1 + i5) &&& (7 : Int32))) &&& 31).toUInt32).toInt32).toInt64) &&& (1 : Int64))), .second] [(.long (u ((((i4 + i5).toUInt32 >>> ((6 : Int32) &&& 31).toUInt32).toInt32).toNatClampNeg))), (.int (((i4 + i5).toUInt32 >>> ((6 : Int32) &&& 31).toUInt32).toInt32)), (.ref o3)])) _
    refine XS.lload X0.here hx rfl (hb hby d1_50) rfl ?_
    show Steps p.tables e below (T0.setTop (mkF m 52 #[.val (.ref o0), .val (.int i1), .val (.int i2), .val (.ref o3), .val (.int i4), .val (.int i5), .val (.int (i1 + i5)), .val (.int (i4 + i5)), .val (.long (((((g ((((i1 + i5).toUInt32 >>> ((3 : Int32) &&& 31).toUInt32).toInt32).toNatClampNeg)).toUInt32 >>> (((7 : Int32) - ((i1 + i5) &&& (7 : Int32))) &&& 31).toUInt32).toInt32).toInt64) &&& (1 : Int64))), .second] [(.long (((((g ((((i1 + i5).toUInt32 >>> ((3 : Int32) &&& 31).toUInt32).toInt32).toNatClampNeg)).toUInt32 >>> (((7 : Int32) - ((i1 + i5) &&& (7 : Int32))) &&& 31).toUInt32).toInt32).toInt64) &&& (1 : Int64))), (.long (u ((((i4 + i5).toUInt32 >>> ((6 : Int32) &&& 31).toUInt32).toInt32).toNatClampNeg))), (.int (((i4 + i5).toUInt32 >>> ((6 : Int32) &&& 31).toUInt32).toInt32)), (.ref o3)])) _
    refine XS.lneg X0.here hx rfl (hb hby d1_52) rfl ?_
    show Steps p.tables e below (T0.setTop (mkF m 53 #[.val (.ref o0), .val (.int i1), .val (.int i2), .val (.ref o3), .val (.int i4), .val (.int i5), .val (.int (i1 + i5)), .val (.int (i4 + i5)), .val (.long (((((g ((((i1 + i5).toUInt32 >>> ((3 : Int32) &&& 31).toUInt32).toInt32).toNatClampNeg)).toUInt32 >>> (((7 : Int32) - ((i1 + i5) &&& (7 : Int32))) &&& 31).toUInt32).toInt32).toInt64) &&& (1 : Int64))), .second] [(.long (-(((((g ((((i1 + i5).toUInt32 >>> ((3 : Int32) &&& 31).toUInt32).toInt32).toNatClampNeg)).toUInt32 >>> (((7 : Int32) - ((i1 + i5) &&& (7 : Int32))) &&& 31).toUInt32).toInt32).toInt64) &&& (1 : Int64)))), (.long (u ((((i4 + i5).toUInt32 >>> ((6 : Int32) &&& 31).toUInt32).toInt32).toNatClampNeg))), (.int (((i4 + i5).toUInt32 >>> ((6 : Int32) &&& 31).toUInt32).toInt32)), (.ref o3)])) _
    refine X0.ldc2Long hx hown (mvT hZ (hw _ (List.mem_of_getElem? (i := 7) rfl))) (g := (mkF m 53 #[.val (.ref o0), .val (.int i1), .val (.int i2), .val (.ref o3), .val (.int i4), .val (.int i5), .val (.int (i1 + i5)), .val (.int (i4 + i5)), .val (.long (((((g ((((i1 + i5).toUInt32 >>> ((3 : Int32) &&& 31).toUInt32).toInt32).toNatClampNeg)).toUInt32 >>> (((7 : Int32) - ((i1 + i5) &&& (7 : Int32))) &&& 31).toUInt32).toInt32).toInt64) &&& (1 : Int64))), .second] [(.long (-(((((g ((((i1 + i5).toUInt32 >>> ((3 : Int32) &&& 31).toUInt32).toInt32).toNatClampNeg)).toUInt32 >>> (((7 : Int32) - ((i1 + i5) &&& (7 : Int32))) &&& 31).toUInt32).toInt32).toInt64) &&& (1 : Int64)))), (.long (u ((((i4 + i5).toUInt32 >>> ((6 : Int32) &&& 31).toUInt32).toInt32).toNatClampNeg))), (.int (((i4 + i5).toUInt32 >>> ((6 : Int32) &&& 31).toUInt32).toInt32)), (.ref o3)])) rfl (hb hby d1_53) _ ?_
    show Steps p.tables e below (T0.setTop (mkF m 56 #[.val (.ref o0), .val (.int i1), .val (.int i2), .val (.ref o3), .val (.int i4), .val (.int i5), .val (.int (i1 + i5)), .val (.int (i4 + i5)), .val (.long (((((g ((((i1 + i5).toUInt32 >>> ((3 : Int32) &&& 31).toUInt32).toInt32).toNatClampNeg)).toUInt32 >>> (((7 : Int32) - ((i1 + i5) &&& (7 : Int32))) &&& 31).toUInt32).toInt32).toInt64) &&& (1 : Int64))), .second] [(.long (-9223372036854775808 : Int64)), (.long (-(((((g ((((i1 + i5).toUInt32 >>> ((3 : Int32) &&& 31).toUInt32).toInt32).toNatClampNeg)).toUInt32 >>> (((7 : Int32) - ((i1 + i5) &&& (7 : Int32))) &&& 31).toUInt32).toInt32).toInt64) &&& (1 : Int64)))), (.long (u ((((i4 + i5).toUInt32 >>> ((6 : Int32) &&& 31).toUInt32).toInt32).toNatClampNeg))), (.int (((i4 + i5).toUInt32 >>> ((6 : Int32) &&& 31).toUInt32).toInt32)), (.ref o3)])) _
    refine XS.iload X0.here hx rfl (hb hby d1_56) rfl ?_
    show Steps p.tables e below (T0.setTop (mkF m 58 #[.val (.ref o0), .val (.int i1), .val (.int i2), .val (.ref o3), .val (.int i4), .val (.int i5), .val (.int (i1 + i5)), .val (.int (i4 + i5)), .val (.long (((((g ((((i1 + i5).toUInt32 >>> ((3 : Int32) &&& 31).toUInt32).toInt32).toNatClampNeg)).toUInt32 >>> (((7 : Int32) - ((i1 + i5) &&& (7 : Int32))) &&& 31).toUInt32).toInt32).toInt64) &&& (1 : Int64))), .second] [(.int (i4 + i5)), (.long (-9223372036854775808 : Int64)), (.long (-(((((g ((((i1 + i5).toUInt32 >>> ((3 : Int32) &&& 31).toUInt32).toInt32).toNatClampNeg)).toUInt32 >>> (((7 : Int32) - ((i1 + i5) &&& (7 : Int32))) &&& 31).toUInt32).toInt32).toInt64) &&& (1 : Int64)))), (.long (u ((((i4 + i5).toUInt32 >>> ((6 : Int32) &&& 31).toUInt32).toInt32).toNatClampNeg))), (.int (((i4 + i5).toUInt32 >>> ((6 : Int32) &&& 31).toUInt32).toInt32)), (.ref o3)])) _
    refine XS.bipush X0.here hx rfl (hb hby d1_58) ?_
    show Steps p.tables e below (T0.setTop (mkF m 60 #[.val (.ref o0), .val (.int i1), .val (.int i2), .val (.ref o3), .val (.int i4), .val (.int i5), .val (.int (i1 + i5)), .val (.int (i4 + i5)), .val (.long (((((g ((((i1 + i5).toUInt32 >>> ((3 : Int32) &&& 31).toUInt32).toInt32).toNatClampNeg)).toUInt32 >>> (((7 : Int32) - ((i1 + i5) &&& (7 : Int32))) &&& 31).toUInt32).toInt32).toInt64) &&& (1 : Int64))), .second] [(.int (63 : Int32)), (.int (i4 + i5)), (.long (-9223372036854775808 : Int64)), (.long (-(((((g ((((i1 + i5).toUInt32 >>> ((3 : Int32) &&& 31).toUInt32).toInt32).toNatClampNeg)).toUInt32 >>> (((7 : Int32) - ((i1 + i5) &&& (7 : Int32))) &&& 31).toUInt32).toInt32).toInt64) &&& (1 : Int64)))), (.long (u ((((i4 + i5).toUInt32 >>> ((6 : Int32) &&& 31).toUInt32).toInt32).toNatClampNeg))), (.int (((i4 + i5).toUInt32 >>> ((6 : Int32) &&& 31).toUInt32).toInt32)), (.ref o3)])) _
    refine XS.iand X0.here hx rfl (hb hby d1_60) rfl ?_
    show Steps p.tables e below (T0.setTop (mkF m 61 #[.val (.ref o0), .val (.int i1), .val (.int i2), .val (.ref o3), .val (.int i4), .val (.int i5), .val (.int (i1 + i5)), .val (.int (i4 + i5)), .val (.long (((((g ((((i1 + i5).toUInt32 >>> ((3 : Int32) &&& 31).toUInt32).toInt32).toNatClampNeg)).toUInt32 >>> (((7 : Int32) - ((i1 + i5) &&& (7 : Int32))) &&& 31).toUInt32).toInt32).toInt64) &&& (1 : Int64))), .second] [(.int ((i4 + i5) &&& (63 : Int32))), (.long (-9223372036854775808 : Int64)), (.long (-(((((g ((((i1 + i5).toUInt32 >>> ((3 : Int32) &&& 31).toUInt32).toInt32).toNatClampNeg)).toUInt32 >>> (((7 : Int32) - ((i1 + i5) &&& (7 : Int32))) &&& 31).toUInt32).toInt32).toInt64) &&& (1 : Int64)))), (.long (u ((((i4 + i5).toUInt32 >>> ((6 : Int32) &&& 31).toUInt32).toInt32).toNatClampNeg))), (.int (((i4 + i5).toUInt32 >>> ((6 : Int32) &&& 31).toUInt32).toInt32)), (.ref o3)])) _
    refine XS.lushr X0.here hx rfl (hb hby d1_61) rfl ?_
    show Steps p.tables e below (T0.setTop (mkF m 62 #[.val (.ref o0), .val (.int i1), .val (.int i2), .val (.ref o3), .val (.int i4), .val (.int i5), .val (.int (i1 + i5)), .val (.int (i4 + i5)), .val (.long (((((g ((((i1 + i5).toUInt32 >>> ((3 : Int32) &&& 31).toUInt32).toInt32).toNatClampNeg)).toUInt32 >>> (((7 : Int32) - ((i1 + i5) &&& (7 : Int32))) &&& 31).toUInt32).toInt32).toInt64) &&& (1 : Int64))), .second] [(.long (((-9223372036854775808 : Int64).toUInt64 >>> (((i4 + i5) &&& (63 : Int32)) &&& 0x3f).toInt64.toUInt64).toInt64)), (.long (-(((((g ((((i1 + i5).toUInt32 >>> ((3 : Int32) &&& 31).toUInt32).toInt32).toNatClampNeg)).toUInt32 >>> (((7 : Int32) - ((i1 + i5) &&& (7 : Int32))) &&& 31).toUInt32).toInt32).toInt64) &&& (1 : Int64)))), (.long (u ((((i4 + i5).toUInt32 >>> ((6 : Int32) &&& 31).toUInt32).toInt32).toNatClampNeg))), (.int (((i4 + i5).toUInt32 >>> ((6 : Int32) &&& 31).toUInt32).toInt32)), (.ref o3)])) _
    refine XS.land X0.here hx rfl (hb hby d1_62) rfl ?_
    show Steps p.tables e below (T0.setTop (mkF m 63 #[.val (.ref o0), .val (.int i1), .val (.int i2), .val (.ref o3), .val (.int i4), .val (.int i5), .val (.int (i1 + i5)), .val (.int (i4 + i5)), .val (.long (((((g ((((i1 + i5).toUInt32 >>> ((3 : Int32) &&& 31).toUInt32).toInt32).toNatClampNeg)).toUInt32 >>> (((7 : Int32) - ((i1 + i5) &&& (7 : Int32))) &&& 31).toUInt32).toInt32).toInt64) &&& (1 : Int64))), .second] [(.long ((-(((((g ((((i1 + i5).toUInt32 >>> ((3 : Int32) &&& 31).toUInt32).toInt32).toNatClampNeg)).toUInt32 >>> (((7 : Int32) - ((i1 + i5) &&& (7 : Int32))) &&& 31).toUInt32).toInt32).toInt64) &&& (1 : Int64))) &&& (((-9223372036854775808 : Int64).toUInt64 >>> (((i4 + i5) &&& (63 : Int32)) &&& 0x3f).toInt64.toUInt64).toInt64))), (.long (u ((((i4 + i5).toUInt32 >>> ((6 : Int32) &&& 31).toUInt32).toInt32).toNatClampNeg))), (.int (((i4 + i5).toUInt32 >>> ((6 : Int32) &&& 31).toUInt32).toInt32)), (.ref o3)])) _
    refine XS.lor X0.here hx rfl (hb hby d1_63) rfl ?_
    exact kont
  obtain ⟨T2, h2, X2, e2, W2, V2, st2⟩ := own_stJ X0 hx hZ e0 A3 (k := (((i4 + i5).toUInt32 >>> ((6 : Int32) &&& 31).toUInt32).toInt32).toNatClampNeg) hv0 rfl hv1 (fr := (mkF m 64 #[.val (.ref o0), .val (.int i1), .val (.int i2), .val (.ref o3), .val (.int i4), .val (.int i5), .val (.int (i1 + i5)), .val (.int (i4 + i5)), .val (.long (((((g ((((i1 + i5).toUInt32 >>> ((3 : Int32) &&& 31).toUInt32).toInt32).toNatClampNeg)).toUInt32 >>> (((7 : Int32) - ((i1 + i5) &&& (7 : Int32))) &&& 31).toUInt32).toInt32).toInt64) &&& (1 : Int64))), .second] [(.long ((u ((((i4 + i5).toUInt32 >>> ((6 : Int32) &&& 31).toUInt32).toInt32).toNatClampNeg)) ||| ((-(((((g ((((i1 + i5).toUInt32 >>> ((3 : Int32) &&& 31).toUInt32).toInt32).toNatClampNeg)).toUInt32 >>> (((7 : Int32) - ((i1 + i5) &&& (7 : Int32))) &&& 31).toUInt32).toInt32).toInt64) &&& (1 : Int64))) &&& (((-9223372036854775808 : Int64).toUInt64 >>> (((i4 + i5) &&& (63 : Int32)) &&& 0x3f).toInt64.toUInt64).toInt64)))), (.int (((i4 + i5).toUInt32 >>> ((6 : Int32) &&& 31).toUInt32).toInt32)), (.ref o3)])) rfl rfl (hb hby d1_64)
  have f2_0 := A0.other W2 ne03
  obtain ⟨u64, hu64⟩ : ∃ z : Nat → Int64, z = fun i => if i = (((i4 + i5).toUInt32 >>> ((6 : Int32) &&& 31).toUInt32).toInt32).toNatClampNeg then ((u ((((i4 + i5).toUInt32 >>> ((6 : Int32) &&& 31).toUInt32).toInt32).toNatClampNeg)) ||| ((-(((((g ((((i1 + i5).toUInt32 >>> ((3 : Int32) &&& 31).toUInt32).toInt32).toNatClampNeg)).toUInt32 >>> (((7 : Int32) - ((i1 + i5) &&& (7 : Int32))) &&& 31).toUInt32).toInt32).toInt64) &&& (1 : Int64))) &&& (((-9223372036854775808 : Int64).toUInt64 >>> (((i4 + i5) &&& (63 : Int32)) &&& 0x3f).toInt64.toUInt64).toInt64))) else u i := ⟨_, rfl⟩
  replace V2 : own_arr Z h2 o3 .long 2 (fun i => .long (u64 i)) := by rw [hu64]; exact V2
  have K2 : Keep h0 h2 [o3] := (Keep.refl h0 [o3]).wr W2 (Or.inl (List.mem_of_getElem? (i := 0) rfl))
  have Z2 : n0 ≤ h2.size := Nat.le_trans Z0 (Keep.of_wr W2).1
  have N2 := Fr.snoc X2 N0 g3
  have pre3 : ∀ t, Steps p.tables e below (T2.setTop (mkF m 65 #[.val (.ref o0), .val (.int i1), .val (.int i2), .val (.ref o3), .val (.int i4), .val (.int i5), .val (.int (i1 + i5)), .val (.int (i4 + i5)), .val (.long (((((g ((((i1 + i5).toUInt32 >>> ((3 : Int32) &&& 31).toUInt32).toInt32).toNatClampNeg)).toUInt32 >>> (((7 : Int32) - ((i1 + i5) &&& (7 : Int32))) &&& 31).toUInt32).toInt32).toInt64) &&& (1 : Int64))), .second] [])) t → Steps p.tables e below (T0.setTop (mkF m 3 #[.val (.ref o0), .val (.int i1), .val (.int i2), .val (.ref o3), .val (.int i4), .val (.int i5), .val (.int x6), .val (.int x7), .val (.long x8), .second] [])) t := fun t kont => pre1 t (st2 _ kont)
  have pre4 : ∀ t, Steps p.tables e below (T2.setTop (mkF m 3 #[.val (.ref o0), .val (.int i1), .val (.int i2), .val (.ref o3), .val (.int i4), .val (.int (i5 + (1 : Int32))), .val (.int (i1 + i5)), .val (.int (i4 + i5)), .val (.long (((((g ((((i1 + i5).toUInt32 >>> ((3 : Int32) &&& 31).toUInt32).toInt32).toNatClampNeg)).toUInt32 >>> (((7 : Int32) - ((i1 + i5) &&& (7 : Int32))) &&& 31).toUInt32).toInt32).toInt64) &&& (1 : Int64))), .second] [])) t → Steps p.tables e below (T0.setTop (mkF m 3 #[.val (.ref o0), .val (.int i1), .val (.int i2), .val (.ref o3), .val (.int i4), .val (.int i5), .val (.int x6), .val (.int x7), .val (.long x8), .second] [])) t := by
    intro t kont
    refine pre3 t ?_
    show Steps p.tables e below (T2.setTop (mkF m 65 #[.val (.ref o0), .val (.int i1), .val (.int i2), .val (.ref o3), .val (.int i4), .val (.int i5), .val (.int (i1 + i5)), .val (.int (i4 + i5)), .val (.long (((((g ((((i1 + i5).toUInt32 >>> ((3 : Int32) &&& 31).toUInt32).toInt32).toNatClampNeg)).toUInt32 >>> (((7 : Int32) - ((i1 + i5) &&& (7 : Int32))) &&& 31).toUInt32).toInt32).toInt64) &&& (1 : Int64))), .second] [])) _
    refine XS.iinc X2.here hx rfl (hb hby d1_65) rfl (l' := #[.val (.ref o0), .val (.int i1), .val (.int i2), .val (.ref o3), .val (.int i4), .val (.int (i5 + (1 : Int32))), .val (.int (i1 + i5)), .val (.int (i4 + i5)), .val (.long (((((g ((((i1 + i5).toUInt32 >>> ((3 : Int32) &&& 31).toUInt32).toInt32).toNatClampNeg)).toUInt32 >>> (((7 : Int32) - ((i1 + i5) &&& (7 : Int32))) &&& 31).toUInt32).toInt32).toInt64) &&& (1 : Int64))), .second]) rfl ?_
    show Steps p.tables e below (T2.setTop (mkF m 68 #[.val (.ref o0), .val (.int i1), .val (.int i2), .val (.ref o3), .val (.int i4), .val (.int (i5 + (1 : Int32))), .val (.int (i1 + i5)), .val (.int (i4 + i5)), .val (.long (((((g ((((i1 + i5).toUInt32 >>> ((3 : Int32) &&& 31).toUInt32).toInt32).toNatClampNeg)).toUInt32 >>> (((7 : Int32) - ((i1 + i5) &&& (7 : Int32))) &&& 31).toUInt32).toInt32).toInt64) &&& (1 : Int64))), .second] [])) _
    refine XS.goto X2.here hx rfl (pc0 := 68) (pc' := 3) rfl (hb hby d1_68) (by decide) (by decide) ?_
    exact kont
  exact ⟨T2, h2, X2, e2, N2, Z2, K2, f2_0, V2.to rfl (fun j _ => by rw [hu64]; rfl), pre4⟩
set_option maxRecDepth 65536 in
set_option maxHeartbeats 40000000 in
theorem own_tu {p : Program} {l : Launch} {e : Env} {R : Room} {s : State} {m : MethodId} {args : Array Value} {below : List Frame} {meth : Method} {c : Code} {T0 : State} {locs : List Loc} {cells slots : Nat} {Z : State} {a0 : Array Value} {h0 : Heap} {n0 : Nat} (o0 : Addr) (o3 : Addr) (i1 : Int32) (i2 : Int32) (i4 : Int32) (i5 : Int32) (g : Nat → Int32) (u : Nat → Int64)
    (X0 : Stand p l e R s m args below meth c T0 locs cells slots) (hx : p.tables.exec = Jvm.exec) (hZ : Z.Warmed39 s.vm) (hw : ∀ d ∈ tables_1, d.before a0 Z = true) (hby : c.code = prog_30_method_5_code) (hml : c.maxLocals = 10) (hown : s.vm.findClass "org/hiddenfield/math/BitVectors" = some m.cls) (e0 : T0.heap = h0) (A0 : own_arr Z h0 o0 .byte 16 (fun i => .int (g i))) (A3 : own_arr Z h0 o3 .long 2 (fun jj => .long (u jj))) (ne03 : o0 ≠ o3) (N0 : Fr n0 locs) (g3 : n0 ≤ o3) (Z0 : n0 ≤ h0.size) (hb0 : ¬ (((i1 + i5).toUInt32 >>> ((3 : Int32) &&& 31).toUInt32).toInt32) < 0) (hb1 : (((i1 + i5).toUInt32 >>> ((3 : Int32) &&& 31).toUInt32).toInt32).toNatClampNeg < 16) (hv0 : ¬ (((i4 + i5).toUInt32 >>> ((6 : Int32) &&& 31).toUInt32).toInt32) < 0) (hv1 : (((i4 + i5).toUInt32 >>> ((6 : Int32) &&& 31).toUInt32).toInt32).toNatClampNeg < 2) (hc6 : i5 < i2) :
    ∃ (T' : State) (h' : Heap), Stand p l e R s m args below meth c T' (locs ++ [⟨o3, (((i4 + i5).toUInt32 >>> ((6 : Int32) &&& 31).toUInt32).toInt32).toNatClampNeg⟩]) cells slots ∧ T'.heap = h' ∧ Fr n0 (locs ++ [⟨o3, (((i4 + i5).toUInt32 >>> ((6 : Int32) &&& 31).toUInt32).toInt32).toNatClampNeg⟩]) ∧ n0 ≤ h'.size ∧ Keep h0 h' [o3] ∧ own_arr Z h' o0 .byte 16 (fun i => .int (g i)) ∧ own_arr Z h' o3 .long 2 (fun i => .long (if i = (((i4 + i5).toUInt32 >>> ((6 : Int32) &&& 31).toUInt32).toInt32).toNatClampNeg then (u ((((i4 + i5).toUInt32 >>> ((6 : Int32) &&& 31).toUInt32).toInt32).toNatClampNeg) ||| own_word (g ((((i1 + i5).toUInt32 >>> ((3 : Int32) &&& 31).toUInt32).toInt32).toNatClampNeg)) (i1 + i5) (i4 + i5)) else u i)) ∧
      ∀ t, Steps p.tables e below (T'.setTop (mkF m 3 #[.val (.ref o0), .val (.int i1), .val (.int i2), .val (.ref o3), .val (.int i4), .val (.int (i5 + (1 : Int32))), .val (.int (i1 + i5)), .val (.int (i4 + i5)), .val (.long (((((g ((((i1 + i5).toUInt32 >>> ((3 : Int32) &&& 31).toUInt32).toInt32).toNatClampNeg)).toUInt32 >>> (((7 : Int32) - ((i1 + i5) &&& (7 : Int32))) &&& 31).toUInt32).toInt32).toInt64) &&& (1 : Int64))), .second] [])) t → Steps p.tables e below (T0.setTop (mkF m 3 #[.val (.ref o0), .val (.int i1), .val (.int i2), .val (.ref o3), .val (.int i4), .val (.int i5), .unset, .unset, .unset, .unset] [])) t := by
  have pre0 : ∀ t, Steps p.tables e below (T0.setTop (mkF m 3 #[.val (.ref o0), .val (.int i1), .val (.int i2), .val (.ref o3), .val (.int i4), .val (.int i5), .unset, .unset, .unset, .unset] [])) t → Steps p.tables e below (T0.setTop (mkF m 3 #[.val (.ref o0), .val (.int i1), .val (.int i2), .val (.ref o3), .val (.int i4), .val (.int i5), .unset, .unset, .unset, .unset] [])) t := fun t k => k
  have pre5 : ∀ t, Steps p.tables e below (T0.setTop (mkF m 64 #[.val (.ref o0), .val (.int i1), .val (.int i2), .val (.ref o3), .val (.int i4), .val (.int i5), .val (.int (i1 + i5)), .val (.int (i4 + i5)), .val (.long (((((g ((((i1 + i5).toUInt32 >>> ((3 : Int32) &&& 31).toUInt32).toInt32).toNatClampNeg)).toUInt32 >>> (((7 : Int32) - ((i1 + i5) &&& (7 : Int32))) &&& 31).toUInt32).toInt32).toInt64) &&& (1 : Int64))), .second] [(.long ((u ((((i4 + i5).toUInt32 >>> ((6 : Int32) &&& 31).toUInt32).toInt32).toNatClampNeg)) ||| ((-(((((g ((((i1 + i5).toUInt32 >>> ((3 : Int32) &&& 31).toUInt32).toInt32).toNatClampNeg)).toUInt32 >>> (((7 : Int32) - ((i1 + i5) &&& (7 : Int32))) &&& 31).toUInt32).toInt32).toInt64) &&& (1 : Int64))) &&& (((-9223372036854775808 : Int64).toUInt64 >>> (((i4 + i5) &&& (63 : Int32)) &&& 0x3f).toInt64.toUInt64).toInt64)))), (.int (((i4 + i5).toUInt32 >>> ((6 : Int32) &&& 31).toUInt32).toInt32)), (.ref o3)])) t → Steps p.tables e below (T0.setTop (mkF m 3 #[.val (.ref o0), .val (.int i1), .val (.int i2), .val (.ref o3), .val (.int i4), .val (.int i5), .unset, .unset, .unset, .unset] [])) t := by
    intro t kont
    refine pre0 t ?_
    show Steps p.tables e below (T0.setTop (mkF m 3 #[.val (.ref o0), .val (.int i1), .val (.int i2), .val (.ref o3), .val (.int i4), .val (.int i5), .unset, .unset, .unset, .unset] [])) _
    refine XS.iload X0.here hx rfl (hb hby d1_3) rfl ?_
    show Steps p.tables e below (T0.setTop (mkF m 5 #[.val (.ref o0), .val (.int i1), .val (.int i2), .val (.ref o3), .val (.int i4), .val (.int i5), .unset, .unset, .unset, .unset] [(.int i5)])) _
    refine XS.iloadN X0.here hx rfl (hb hby d1_5) rfl ?_
    show Steps p.tables e below (T0.setTop (mkF m 6 #[.val (.ref o0), .val (.int i1), .val (.int i2), .val (.ref o3), .val (.int i4), .val (.int i5), .unset, .unset, .unset, .unset] [(.int i2), (.int i5)])) _
    refine XS.icmpNo X0.here hx rfl (hb hby d1_6) rfl (tlt hc6).2.1 ?_
    show Steps p.tables e below (T0.setTop (mkF m 9 #[.val (.ref o0), .val (.int i1), .val (.int i2), .val (.ref o3), .val (.int i4), .val (.int i5), .unset, .unset, .unset, .unset] [])) _
    refine XS.iloadN X0.here hx rfl (hb hby d1_9) rfl ?_
    show Steps p.tables e below (T0.setTop (mkF m 10 #[.val (.ref o0), .val (.int i1), .val (.int i2), .val (.ref o3), .val (.int i4), .val (.int i5), .unset, .unset, .unset, .unset] [(.int i1)])) _
    refine XS.iload X0.here hx rfl (hb hby d1_10) rfl ?_
    show Steps p.tables e below (T0.setTop (mkF m 12 #[.val (.ref o0), .val (.int i1), .val (.int i2), .val (.ref o3), .val (.int i4), .val (.int i5), .unset, .unset, .unset, .unset] [(.int i5), (.int i1)])) _
    refine XS.iadd X0.here hx rfl (hb hby d1_12) rfl ?_
    show Steps p.tables e below (T0.setTop (mkF m 13 #[.val (.ref o0), .val (.int i1), .val (.int i2), .val (.ref o3), .val (.int i4), .val (.int i5), .unset, .unset, .unset, .unset] [(.int (i1 + i5))])) _
    refine XS.istore X0.here hx rfl (hb hby d1_13) rfl (l' := #[.val (.ref o0), .val (.int i1), .val (.int i2), .val (.ref o3), .val (.int i4), .val (.int i5), .val (.int (i1 + i5)), .unset, .unset, .unset]) rfl ?_
    show Steps p.tables e below (T0.setTop (mkF m 15 #[.val (.ref o0), .val (.int i1), .val (.int i2), .val (.ref o3), .val (.int i4), .val (.int i5), .val (.int (i1 + i5)), .unset, .unset, .unset] [])) _
    refine XS.iload X0.here hx rfl (hb hby d1_15) rfl ?_
    show Steps p.tables e below (T0.setTop (mkF m 17 #[.val (.ref o0), .val (.int i1), .val (.int i2), .val (.ref o3), .val (.int i4), .val (.int i5), .val (.int (i1 + i5)), .unset, .unset, .unset] [(.int i4)])) _
    refine XS.iload X0.here hx rfl (hb hby d1_17) rfl ?_
    show Steps p.tables e below (T0.setTop (mkF m 19 #[.val (.ref o0), .val (.int i1), .val (.int i2), .val (.ref o3), .val (.int i4), .val (.int i5), .val (.int (i1 + i5)), .unset, .unset, .unset] [(.int i5), (.int i4)])) _
    refine XS.iadd X0.here hx rfl (hb hby d1_19) rfl ?_
    show Steps p.tables e below (T0.setTop (mkF m 20 #[.val (.ref o0), .val (.int i1), .val (.int i2), .val (.ref o3), .val (.int i4), .val (.int i5), .val (.int (i1 + i5)), .unset, .unset, .unset] [(.int (i4 + i5))])) _
    refine XS.istore X0.here hx rfl (hb hby d1_20) rfl (l' := #[.val (.ref o0), .val (.int i1), .val (.int i2), .val (.ref o3), .val (.int i4), .val (.int i5), .val (.int (i1 + i5)), .val (.int (i4 + i5)), .unset, .unset]) rfl ?_
    show Steps p.tables e below (T0.setTop (mkF m 22 #[.val (.ref o0), .val (.int i1), .val (.int i2), .val (.ref o3), .val (.int i4), .val (.int i5), .val (.int (i1 + i5)), .val (.int (i4 + i5)), .unset, .unset] [])) _
    refine XS.aloadN X0.here hx rfl (hb hby d1_22) rfl rfl ?_
    show Steps p.tables e below (T0.setTop (mkF m 23 #[.val (.ref o0), .val (.int i1), .val (.int i2), .val (.ref o3), .val (.int i4), .val (.int i5), .val (.int (i1 + i5)), .val (.int (i4 + i5)), .unset, .unset] [(.ref o0)])) _
    refine XS.iload X0.here hx rfl (hb hby d1_23) rfl ?_
    show Steps p.tables e below (T0.setTop (mkF m 25 #[.val (.ref o0), .val (.int i1), .val (.int i2), .val (.ref o3), .val (.int i4), .val (.int i5), .val (.int (i1 + i5)), .val (.int (i4 + i5)), .unset, .unset] [(.int (i1 + i5)), (.ref o0)])) _
    refine XS.iconst X0.here hx rfl (hb hby d1_25) ?_
    show Steps p.tables e below (T0.setTop (mkF m 26 #[.val (.ref o0), .val (.int i1), .val (.int i2), .val (.ref o3), .val (.int i4), .val (.int i5), .val (.int (i1 + i5)), .val (.int (i4 + i5)), .unset, .unset] [(.int (3 : Int32)), (.int (i1 + i5)), (.ref o0)])) _
    refine XS.iushr X0.here hx rfl (hb hby d1_26) rfl ?_
    show Steps p.tables e below (T0.setTop (mkF m 27 #[.val (.ref o0), .val (.int i1), .val (.int i2), .val (.ref o3), .val (.int i4), .val (.int i5), .val (.int (i1 + i5)), .val (.int (i4 + i5)), .unset, .unset] [(.int (((i1 + i5).toUInt32 >>> ((3 : Int32) &&& 31).toUInt32).toInt32)), (.ref o0)])) _
    refine own_ldB X0 hx hZ e0 A0 (k := (((i1 + i5).toUInt32 >>> ((3 : Int32) &&& 31).toUInt32).toInt32).toNatClampNeg) hb0 rfl hb1 (fr := (mkF m 27 #[.val (.ref o0), .val (.int i1), .val (.int i2), .val (.ref o3), .val (.int i4), .val (.int i5), .val (.int (i1 + i5)), .val (.int (i4 + i5)), .unset, .unset] [(.int (((i1 + i5).toUInt32 >>> ((3 : Int32) &&& 31).toUInt32).toInt32)), (.ref o0)])) rfl rfl (hb hby d1_27) _ ?_
    show Steps p.tables e below (T0.setTop (mkF m 28 #[.val (.ref o0), .val (.int i1), .val (.int i2), .val (.ref o3), .val (.int i4), .val (.int i5), .val (.int (i1 + i5)), .val (.int (i4 + i5)), .unset, .unset] [(.int (g ((((i1 + i5).toUInt32 >>> ((3 : Int32) &&& 31).toUInt32).toInt32).toNatClampNeg)))])) _
    refine XS.bipush X0.here hx rfl (hb hby d1_28) ?_
    show Steps p.tables e below (T0.setTop (mkF m 30 #[.val (.ref o0), .val (.int i1), .val (.int i2), .val (.ref o3), .val (.int i4), .val (.int i5), .val (.int (i1 + i5)), .val (.int (i4 + i5)), .unset, .unset] [(.int (7 : Int32)), (.int (g ((((i1 + i5).toUInt32 >>> ((3 : Int32) &&& 31).toUInt32).toInt32).toNatClampNeg)))])) _
    refine XS.iload X0.here hx rfl (hb hby d1_30) rfl ?_
    show Steps p.tables e below (T0.setTop (mkF m 32 #[.val (.ref o0), .val (.int i1), .val (.int i2), .val (.ref o3), .val (.int i4), .val (.int i5), .val (.int (i1 + i5)), .val (.int (i4 + i5)), .unset, .unset] [(.int (i1 + i5)), (.int (7 : Int32)), (.int (g ((((i1 + i5).toUInt32 >>> ((3 : Int32) &&& 31).toUInt32).toInt32).toNatClampNeg)))])) _
    refine XS.bipush X0.here hx rfl (hb hby d1_32) ?_
    show Steps p.tables e below (T0.setTop (mkF m 34 #[.val (.ref o0), .val (.int i1), .val (.int i2), .val (.ref o3), .val (.int i4), .val (.int i5), .val (.int (i1 + i5)), .val (.int (i4 + i5)), .unset, .unset] [(.int (7 : Int32)), (.int (i1 + i5)), (.int (7 : Int32)), (.int (g ((((i1 + i5).toUInt32 >>> ((3 : Int32) &&& 31).toUInt32).toInt32).toNatClampNeg)))])) _
    refine XS.iand X0.here hx rfl (hb hby d1_34) rfl ?_
    show Steps p.tables e below (T0.setTop (mkF m 35 #[.val (.ref o0), .val (.int i1), .val (.int i2), .val (.ref o3), .val (.int i4), .val (.int i5), .val (.int (i1 + i5)), .val (.int (i4 + i5)), .unset, .unset] [(.int ((i1 + i5) &&& (7 : Int32))), (.int (7 : Int32)), (.int (g ((((i1 + i5).toUInt32 >>> ((3 : Int32) &&& 31).toUInt32).toInt32).toNatClampNeg)))])) _
    refine XS.isub X0.here hx rfl (hb hby d1_35) rfl ?_
    show Steps p.tables e below (T0.setTop (mkF m 36 #[.val (.ref o0), .val (.int i1), .val (.int i2), .val (.ref o3), .val (.int i4), .val (.int i5), .val (.int (i1 + i5)), .val (.int (i4 + i5)), .unset, .unset] [(.int ((7 : Int32) - ((i1 + i5) &&& (7 : Int32)))), (.int (g ((((i1 + i5).toUInt32 >>> ((3 : Int32) &&& 31).toUInt32).toInt32).toNatClampNeg)))])) _
    refine XS.iushr X0.here hx rfl (hb hby d1_36) rfl ?_
    show Steps p.tables e below (T0.setTop (mkF m 37 #[.val (.ref o0), .val (.int i1), .val (.int i2), .val (.ref o3), .val (.int i4), .val (.int i5), .val (.int (i1 + i5)), .val (.int (i4 + i5)), .unset, .unset] [(.int (((g ((((i1 + i5).toUInt32 >>> ((3 : Int32) &&& 31).toUInt32).toInt32).toNatClampNeg)).toUInt32 >>> (((7 : Int32) - ((i1 + i5) &&& (7 : Int32))) &&& 31).toUInt32).toInt32))])) _
    refine XS.i2l X0.here hx rfl (hb hby d1_37) rfl ?_
    show Steps p.tables e below (T0.setTop (mkF m 38 #[.val (.ref o0), .val (.int i1), .val (.int i2), .val (.ref o3), .val (.int i4), .val (.int i5), .val (.int (i1 + i5)), .val (.int (i4 + i5)), .unset, .unset] [(.long ((((g ((((i1 + i5).toUInt32 >>> ((3 : Int32) &&& 31).toUInt32).toInt32).toNatClampNeg)).toUInt32 >>> (((7 : Int32) - ((i1 + i5) &&& (7 : Int32))) &&& 31).toUInt32).toInt32).toInt64))])) _
    refine XS.lconst X0.here hx rfl (hb hby d1_38) ?_
    show Steps p.tables e below (T0.setTop (mkF m 39 #[.val (.ref o0), .val (.int i1), .val (.int i2), .val (.ref o3), .val (.int i4), .val (.int i5), .val (.int (i1 + i5)), .val (.int (i4 + i5)), .unset, .unset] [(.long (1 : Int64)), (.long ((((g ((((i1 + i5).toUInt32 >>> ((3 : Int32) &&& 31).toUInt32).toInt32).toNatClampNeg)).toUInt32 >>> (((7 : Int32) - ((i1 + i5) &&& (7 : Int32))) &&& 31).toUInt32).toInt32).toInt64))])) _
    refine XS.land X0.here hx rfl (hb hby d1_39) rfl ?_
    show Steps p.tables e below (T0.setTop (mkF m 40 #[.val (.ref o0), .val (.int i1), .val (.int i2), .val (.ref o3), .val (.int i4), .val (.int i5), .val (.int (i1 + i5)), .val (.int (i4 + i5)), .unset, .unset] [(.long (((((g ((((i1 + i5).toUInt32 >>> ((3 : Int32) &&& 31).toUInt32).toInt32).toNatClampNeg)).toUInt32 >>> (((7 : Int32) - ((i1 + i5) &&& (7 : Int32))) &&& 31).toUInt32).toInt32).toInt64) &&& (1 : Int64)))])) _
    refine XS.lstore X0.here hx rfl (hb hby d1_40) rfl (l' := #[.val (.ref o0), .val (.int i1), .val (.int i2), .val (.ref o3), .val (.int i4), .val (.int i5), .val (.int (i1 + i5)), .val (.int (i4 + i5)), .val (.long (((((g ((((i1 + i5).toUInt32 >>> ((3 : Int32) &&& 31).toUInt32).toInt32).toNatClampNeg)).toUInt32 >>> (((7 : Int32) - ((i1 + i5) &&& (7 : Int32))) &&& 31).toUInt32).toInt32).toInt64) &&& (1 : Int64))), .second]) rfl ?_
    show Steps p.tables e below (T0.setTop (mkF m 42 #[.val (.ref o0), .val (.int i1), .val (.int i2), .val (.ref o3), .val (.int i4), .val (.int i5), .val (.int (i1 + i5)), .val (.int (i4 + i5)), .val (.long (((((g ((((i1 + i5).toUInt32 >>> ((3 : Int32) &&& 31).toUInt32).toInt32).toNatClampNeg)).toUInt32 >>> (((7 : Int32) - ((i1 + i5) &&& (7 : Int32))) &&& 31).toUInt32).toInt32).toInt64) &&& (1 : Int64))), .second] [])) _
    refine XS.aloadN X0.here hx rfl (hb hby d1_42) rfl rfl ?_
    show Steps p.tables e below (T0.setTop (mkF m 43 #[.val (.ref o0), .val (.int i1), .val (.int i2), .val (.ref o3), .val (.int i4), .val (.int i5), .val (.int (i1 + i5)), .val (.int (i4 + i5)), .val (.long (((((g ((((i1 + i5).toUInt32 >>> ((3 : Int32) &&& 31).toUInt32).toInt32).toNatClampNeg)).toUInt32 >>> (((7 : Int32) - ((i1 + i5) &&& (7 : Int32))) &&& 31).toUInt32).toInt32).toInt64) &&& (1 : Int64))), .second] [(.ref o3)])) _
    refine XS.iload X0.here hx rfl (hb hby d1_43) rfl ?_
    show Steps p.tables e below (T0.setTop (mkF m 45 #[.val (.ref o0), .val (.int i1), .val (.int i2), .val (.ref o3), .val (.int i4), .val (.int i5), .val (.int (i1 + i5)), .val (.int (i4 + i5)), .val (.long (((((g ((((i1 + i5).toUInt32 >>> ((3 : Int32) &&& 31).toUInt32).toInt32).toNatClampNeg)).toUInt32 >>> (((7 : Int32) - ((i1 + i5) &&& (7 : Int32))) &&& 31).toUInt32).toInt32).toInt64) &&& (1 : Int64))), .second] [(.int (i4 + i5)), (.ref o3)])) _
    refine XS.bipush X0.here hx rfl (hb hby d1_45) ?_
    show Steps p.tables e below (T0.setTop (mkF m 47 #[.val (.ref o0), .val (.int i1), .val (.int i2), .val (.ref o3), .val (.int i4), .val (.int i5), .val (.int (i1 + i5)), .val (.int (i4 + i5)), .val (.long (((((g ((((i1 + i5).toUInt32 >>> ((3 : Int32) &&& 31).toUInt32).toInt32).toNatClampNeg)).toUInt32 >>> (((7 : Int32) - ((i1 + i5) &&& (7 : Int32))) &&& 31).toUInt32).toInt32).toInt64) &&& (1 : Int64))), .second] [(.int (6 : Int32)), (.int (i4 + i5)), (.ref o3)])) _
    refine XS.iushr X0.here hx rfl (hb hby d1_47) rfl ?_
    show Steps p.tables e below (T0.setTop (mkF m 48 #[.val (.ref o0), .val (.int i1), .val (.int i2), .val (.ref o3), .val (.int i4), .val (.int i5), .val (.int (i1 + i5)), .val (.int (i4 + i5)), .val (.long (((((g ((((i1 + i5).toUInt32 >>> ((3 : Int32) &&& 31).toUInt32).toInt32).toNatClampNeg)).toUInt32 >>> (((7 : Int32) - ((i1 + i5) &&& (7 : Int32))) &&& 31).toUInt32).toInt32).toInt64) &&& (1 : Int64))), .second] [(.int (((i4 + i5).toUInt32 >>> ((6 : Int32) &&& 31).toUInt32).toInt32)), (.ref o3)])) _
    refine XT.dup2 X0.here hx rfl (hb hby d1_48) rfl rfl rfl ?_
    show Steps p.tables e below (T0.setTop (mkF m 49 #[.val (.ref o0), .val (.int i1), .val (.int i2), .val (.ref o3), .val (.int i4), .val (.int i5), .val (.int (i1 + i5)), .val (.int (i4 + i5)), .val (.long (((((g ((((i1 + i5).toUInt32 >>> ((3 : Int32) &&& 31).toUInt32).toInt32).toNatClampNeg)).toUInt32 >>> (((7 : Int32) - ((i1 + i5) &&& (7 : Int32))) &&& 31).toUInt32).toInt32).toInt64) &&& (1 : Int64))), .second] [(.int (((i4 + i5).toUInt32 >>> ((6 : Int32) &&& 31).toUInt32).toInt32)), (.ref o3), (.int (((i4 + i5).toUInt32 >>> ((6 : Int32) &&& 31).toUInt32).toInt32)), (.ref o3)])) _
    refine own_ldJ X0 hx hZ e0 A3 (k := (((i4 + i5).toUInt32 >>> ((6 : Int32) &&& 31).toUInt32).toInt32).toNatClampNeg) hv0 rfl hv1 (fr := (mkF m 49 #[.val (.ref o0), .val (.int i1), .val (.int i2), .val (.ref o3), .val (.int i4), .val (.int i5), .val (.int (i1 + i5)), .val (.int (i4 + i5)), .val (.long (((((g ((((i1 + i5).toUInt32 >>> ((3 : Int32) &&& 31).toUInt32).toInt32).toNatClampNeg)).toUInt32 >>> (((7 : Int32) - ((i1 + i5) &&& (7 : Int32))) &&& 31).toUInt32).toInt32).toInt64) &&& (1 : Int64))), .second] [(.int (((i4 + i5).toUInt32 >>> ((6 : Int32) &&& 31).toUInt32).toInt32)), (.ref o3), (.int (((i4 + i5).toUInt32 >>> ((6 : Int32) &&& 31).toUInt32).toInt32)), (.ref o3)])) rfl rfl (hb hby d1_49) _ ?_
    show Steps p.tables e below (T0.setTop (mkF m 50 #[.val (.ref o0), .val (.int i1), .val (.int i2), .val (.ref o3), .val (.int i4), .val (.int i5), .val (.int (i1 + i5)), .val (.int (i4 + i5)), .val (.long (((((g ((((i1 + i5).toUInt32 >>> ((3 : Int32) &&& 31).toUInt32).toInt32).toNatClampNeg)).toUInt32 >>> (((7 : Int32) - ((i1 + i5) &&& (7 : Int32))) &&& 31).toUInt32).toInt32).toInt64) &&& (1 : Int64))), .second] [(.long (u ((((i4 + i5).toUInt32 >>> ((6 : Int32) &&& 31).toUInt32).toInt32).toNatClampNeg))), (.int (((i4 + i5).toUInt32 >>> ((6 : Int32) &&& 31).toUInt32).toInt32)), (.ref o3)])) _
    refine XS.lload X0.here hx rfl (hb hby d1_50) rfl ?_
    show Steps p.tables e below (T0.setTop (mkF m 52 #[.val (.ref o0), .val (.int i1), .val (.int i2), .val (.ref o3), .val (.int i4), .val (.int i5), .val (.int (i1 + i5)), .val (.int (i4 + i5)), .val (.long (((((g ((((i1 + i5).toUInt32 >>> ((3 : Int32) &&& 31).toUInt32).toInt32).toNatClampNeg)).toUInt32 >>> (((7 : Int32) - ((i1 + i5) &&& (7 : Int32))) &&& 31).toUInt32).toInt32).toInt64) &&& (1 : Int64))), .second] [(.long (((((g ((((i1 + i5).toUInt32 >>> ((3 : Int32) &&& 31).toUInt32).toInt32).toNatClampNeg)).toUInt32 >>> (((7 : Int32) - ((i1 + i5) &&& (7 : Int32))) &&& 31).toUInt32).toInt32).toInt64) &&& (1 : Int64))), (.long (u ((((i4 + i5).toUInt32 >>> ((6 : Int32) &&& 31).toUInt32).toInt32).toNatClampNeg))), (.int (((i4 + i5).toUInt32 >>> ((6 : Int32) &&& 31).toUInt32).toInt32)), (.ref o3)])) _
    refine XS.lneg X0.here hx rfl (hb hby d1_52) rfl ?_
    show Steps p.tables e below (T0.setTop (mkF m 53 #[.val (.ref o0), .val (.int i1), .val (.int i2), .val (.ref o3), .val (.int i4), .val (.int i5), .val (.int (i1 + i5)), .val (.int (i4 + i5)), .val (.long (((((g ((((i1 + i5).toUInt32 >>> ((3 : Int32) &&& 31).toUInt32).toInt32).toNatClampNeg)).toUInt32 >>> (((7 : Int32) - ((i1 + i5) &&& (7 : Int32))) &&& 31).toUInt32).toInt32).toInt64) &&& (1 : Int64))), .second] [(.long (-(((((g ((((i1 + i5).toUInt32 >>> ((3 : Int32) &&& 31).toUInt32).toInt32).toNatClampNeg)).toUInt32 >>> (((7 : Int32) - ((i1 + i5) &&& (7 : Int32))) &&& 31).toUInt32).toInt32).toInt64) &&& (1 : Int64)))), (.long (u ((((i4 + i5).toUInt32 >>> ((6 : Int32) &&& 31).toUInt32).toInt32).toNatClampNeg))), (.int (((i4 + i5).toUInt32 >>> ((6 : Int32) &&& 31).toUInt32).toInt32)), (.ref o3)])) _
    refine X0.ldc2Long hx hown (mvT hZ (hw _ (List.mem_of_getElem? (i := 7) rfl))) (g := (mkF m 53 #[.val (.ref o0), .val (.int i1), .val (.int i2), .val (.ref o3), .val (.int i4), .val (.int i5), .val (.int (i1 + i5)), .val (.int (i4 + i5)), .val (.long (((((g ((((i1 + i5).toUInt32 >>> ((3 : Int32) &&& 31).toUInt32).toInt32).toNatClampNeg)).toUInt32 >>> (((7 : Int32) - ((i1 + i5) &&& (7 : Int32))) &&& 31).toUInt32).toInt32).toInt64) &&& (1 : Int64))), .second] [(.long (-(((((g ((((i1 + i5).toUInt32 >>> ((3 : Int32) &&& 31).toUInt32).toInt32).toNatClampNeg)).toUInt32 >>> (((7 : Int32) - ((i1 + i5) &&& (7 : Int32))) &&& 31).toUInt32).toInt32).toInt64) &&& (1 : Int64)))), (.long (u ((((i4 + i5).toUInt32 >>> ((6 : Int32) &&& 31).toUInt32).toInt32).toNatClampNeg))), (.int (((i4 + i5).toUInt32 >>> ((6 : Int32) &&& 31).toUInt32).toInt32)), (.ref o3)])) rfl (hb hby d1_53) _ ?_
    show Steps p.tables e below (T0.setTop (mkF m 56 #[.val (.ref o0), .val (.int i1), .val (.int i2), .val (.ref o3), .val (.int i4), .val (.int i5), .val (.int (i1 + i5)), .val (.int (i4 + i5)), .val (.long (((((g ((((i1 + i5).toUInt32 >>> ((3 : Int32) &&& 31).toUInt32).toInt32).toNatClampNeg)).toUInt32 >>> (((7 : Int32) - ((i1 + i5) &&& (7 : Int32))) &&& 31).toUInt32).toInt32).toInt64) &&& (1 : Int64))), .second] [(.long (-9223372036854775808 : Int64)), (.long (-(((((g ((((i1 + i5).toUInt32 >>> ((3 : Int32) &&& 31).toUInt32).toInt32).toNatClampNeg)).toUInt32 >>> (((7 : Int32) - ((i1 + i5) &&& (7 : Int32))) &&& 31).toUInt32).toInt32).toInt64) &&& (1 : Int64)))), (.long (u ((((i4 + i5).toUInt32 >>> ((6 : Int32) &&& 31).toUInt32).toInt32).toNatClampNeg))), (.int (((i4 + i5).toUInt32 >>> ((6 : Int32) &&& 31).toUInt32).toInt32)), (.ref o3)])) _
    refine XS.iload X0.here hx rfl (hb hby d1_56) rfl ?_
    show Steps p.tables e below (T0.setTop (mkF m 58 #[.val (.ref o0), .val (.int i1), .val (.int i2), .val (.ref o3), .val (.int i4), .val (.int i5), .val (.int (i1 + i5)), .val (.int (i4 + i5)), .val (.long (((((g ((((i1 + i5).toUInt32 >>> ((3 : Int32) &&& 31).toUInt32).toInt32).toNatClampNeg)).toUInt32 >>> (((7 : Int32) - ((i1 + i5) &&& (7 : Int32))) &&& 31).toUInt32).toInt32).toInt64) &&& (1 : Int64))), .second] [(.int (i4 + i5)), (.long (-9223372036854775808 : Int64)), (.long (-(((((g ((((i1 + i5).toUInt32 >>> ((3 : Int32) &&& 31).toUInt32).toInt32).toNatClampNeg)).toUInt32 >>> (((7 : Int32) - ((i1 + i5) &&& (7 : Int32))) &&& 31).toUInt32).toInt32).toInt64) &&& (1 : Int64)))), (.long (u ((((i4 + i5).toUInt32 >>> ((6 : Int32) &&& 31).toUInt32).toInt32).toNatClampNeg))), (.int (((i4 + i5).toUInt32 >>> ((6 : Int32) &&& 31).toUInt32).toInt32)), (.ref o3)])) _
    refine XS.bipush X0.here hx rfl (hb hby d1_58) ?_
    show Steps p.tables e below (T0.setTop (mkF m 60 #[.val (.ref o0), .val (.int i1), .val (.int i2), .val (.ref o3), .val (.int i4), .val (.int i5), .val (.int (i1 + i5)), .val (.int (i4 + i5)), .val (.long (((((g ((((i1 + i5).toUInt32 >>> ((3 : Int32) &&& 31).toUInt32).toInt32).toNatClampNeg)).toUInt32 >>> (((7 : Int32) - ((i1 + i5) &&& (7 : Int32))) &&& 31).toUInt32).toInt32).toInt64) &&& (1 : Int64))), .second] [(.int (63 : Int32)), (.int (i4 + i5)), (.long (-9223372036854775808 : Int64)), (.long (-(((((g ((((i1 + i5).toUInt32 >>> ((3 : Int32) &&& 31).toUInt32).toInt32).toNatClampNeg)).toUInt32 >>> (((7 : Int32) - ((i1 + i5) &&& (7 : Int32))) &&& 31).toUInt32).toInt32).toInt64) &&& (1 : Int64)))), (.long (u ((((i4 + i5).toUInt32 >>> ((6 : Int32) &&& 31).toUInt32).toInt32).toNatClampNeg))), (.int (((i4 + i5).toUInt32 >>> ((6 : Int32) &&& 31).toUInt32).toInt32)), (.ref o3)])) _
    refine XS.iand X0.here hx rfl (hb hby d1_60) rfl ?_
    show Steps p.tables e below (T0.setTop (mkF m 61 #[.val (.ref o0), .val (.int i1), .val (.int i2), .val (.ref o3), .val (.int i4), .val (.int i5), .val (.int (i1 + i5)), .val (.int (i4 + i5)), .val (.long (((((g ((((i1 + i5).toUInt32 >>> ((3 : Int32) &&& 31).toUInt32).toInt32).toNatClampNeg)).toUInt32 >>> (((7 : Int32) - ((i1 + i5) &&& (7 : Int32))) &&& 31).toUInt32).toInt32).toInt64) &&& (1 : Int64))), .second] [(.int ((i4 + i5) &&& (63 : Int32))), (.long (-9223372036854775808 : Int64)), (.long (-(((((g ((((i1 + i5).toUInt32 >>> ((3 : Int32) &&& 31).toUInt32).toInt32).toNatClampNeg)).toUInt32 >>> (((7 : Int32) - ((i1 + i5) &&& (7 : Int32))) &&& 31).toUInt32).toInt32).toInt64) &&& (1 : Int64)))), (.long (u ((((i4 + i5).toUInt32 >>> ((6 : Int32) &&& 31).toUInt32).toInt32).toNatClampNeg))), (.int (((i4 + i5).toUInt32 >>> ((6 : Int32) &&& 31).toUInt32).toInt32)), (.ref o3)])) _
    refine XS.lushr X0.here hx rfl (hb hby d1_61) rfl ?_
    show Steps p.tables e below (T0.setTop (mkF m 62 #[.val (.ref o0), .val (.int i1), .val (.int i2), .val (.ref o3), .val (.int i4), .val (.int i5), .val (.int (i1 + i5)), .val (.int (i4 + i5)), .val (.long (((((g ((((i1 + i5).toUInt32 >>> ((3 : Int32) &&& 31).toUInt32).toInt32).toNatClampNeg)).toUInt32 >>> (((7 : Int32) - ((i1 + i5) &&& (7 : Int32))) &&& 31).toUInt32).toInt32).toInt64) &&& (1 : Int64))), .second] [(.long (((-9223372036854775808 : Int64).toUInt64 >>> (((i4 + i5) &&& (63 : Int32)) &&& 0x3f).toInt64.toUInt64).toInt64)), (.long (-(((((g ((((i1 + i5).toUInt32 >>> ((3 : Int32) &&& 31).toUInt32).toInt32).toNatClampNeg)).toUInt32 >>> (((7 : Int32) - ((i1 + i5) &&& (7 : Int32))) &&& 31).toUInt32).toInt32).toInt64) &&& (1 : Int64)))), (.long (u ((((i4 + i5).toUInt32 >>> ((6 : Int32) &&& 31).toUInt32).toInt32).toNatClampNeg))), (.int (((i4 + i5).toUInt32 >>> ((6 : Int32) &&& 31).toUInt32).toInt32)), (.ref o3)])) _
    refine XS.land X0.here hx rfl (hb hby d1_62) rfl ?_
    show Steps p.tables e below (T0.setTop (mkF m 63 #[.val (.ref o0), .val (.int i1), .val (.int i2), .val (.ref o3), .val (.int i4), .val (.int i5), .val (.int (i1 + i5)), .val (.int (i4 + i5)), .val (.long (((((g ((((i1 + i5).toUInt32 >>> ((3 : Int32) &&& 31).toUInt32).toInt32).toNatClampNeg)).toUInt32 >>> (((7 : Int32) - ((i1 + i5) &&& (7 : Int32))) &&& 31).toUInt32).toInt32).toInt64) &&& (1 : Int64))), .second] [(.long ((-(((((g ((((i1 + i5).toUInt32 >>> ((3 : Int32) &&& 31).toUInt32).toInt32).toNatClampNeg)).toUInt32 >>> (((7 : Int32) - ((i1 + i5) &&& (7 : Int32))) &&& 31).toUInt32).toInt32).toInt64) &&& (1 : Int64))) &&& (((-9223372036854775808 : Int64).toUInt64 >>> (((i4 + i5) &&& (63 : Int32)) &&& 0x3f).toInt64.toUInt64).toInt64))), (.long (u ((((i4 + i5).toUInt32 >>> ((6 : Int32) &&& 31).toUInt32).toInt32).toNatClampNeg))), (.int (((i4 + i5).toUInt32 >>> ((6 : Int32) &&& 31).toUInt32).toInt32)), (.ref o3)])) _
    refine XS.lor X0.here hx rfl (hb hby d1_63) rfl ?_
    exact kont
  obtain ⟨T6, h6, X6, e6, W6, V6, st6⟩ := own_stJ X0 hx hZ e0 A3 (k := (((i4 + i5).toUInt32 >>> ((6 : Int32) &&& 31).toUInt32).toInt32).toNatClampNeg) hv0 rfl hv1 (fr := (mkF m 64 #[.val (.ref o0), .val (.int i1), .val (.int i2), .val (.ref o3), .val (.int i4), .val (.int i5), .val (.int (i1 + i5)), .val (.int (i4 + i5)), .val (.long (((((g ((((i1 + i5).toUInt32 >>> ((3 : Int32) &&& 31).toUInt32).toInt32).toNatClampNeg)).toUInt32 >>> (((7 : Int32) - ((i1 + i5) &&& (7 : Int32))) &&& 31).toUInt32).toInt32).toInt64) &&& (1 : Int64))), .second] [(.long ((u ((((i4 + i5).toUInt32 >>> ((6 : Int32) &&& 31).toUInt32).toInt32).toNatClampNeg)) ||| ((-(((((g ((((i1 + i5).toUInt32 >>> ((3 : Int32) &&& 31).toUInt32).toInt32).toNatClampNeg)).toUInt32 >>> (((7 : Int32) - ((i1 + i5) &&& (7 : Int32))) &&& 31).toUInt32).toInt32).toInt64) &&& (1 : Int64))) &&& (((-9223372036854775808 : Int64).toUInt64 >>> (((i4 + i5) &&& (63 : Int32)) &&& 0x3f).toInt64.toUInt64).toInt64)))), (.int (((i4 + i5).toUInt32 >>> ((6 : Int32) &&& 31).toUInt32).toInt32)), (.ref o3)])) rfl rfl (hb hby d1_64)
  have f6_0 := A0.other W6 ne03
  obtain ⟨u64, hu64⟩ : ∃ z : Nat → Int64, z = fun i => if i = (((i4 + i5).toUInt32 >>> ((6 : Int32) &&& 31).toUInt32).toInt32).toNatClampNeg then ((u ((((i4 + i5).toUInt32 >>> ((6 : Int32) &&& 31).toUInt32).toInt32).toNatClampNeg)) ||| ((-(((((g ((((i1 + i5).toUInt32 >>> ((3 : Int32) &&& 31).toUInt32).toInt32).toNatClampNeg)).toUInt32 >>> (((7 : Int32) - ((i1 + i5) &&& (7 : Int32))) &&& 31).toUInt32).toInt32).toInt64) &&& (1 : Int64))) &&& (((-9223372036854775808 : Int64).toUInt64 >>> (((i4 + i5) &&& (63 : Int32)) &&& 0x3f).toInt64.toUInt64).toInt64))) else u i := ⟨_, rfl⟩
  replace V6 : own_arr Z h6 o3 .long 2 (fun i => .long (u64 i)) := by rw [hu64]; exact V6
  have K6 : Keep h0 h6 [o3] := (Keep.refl h0 [o3]).wr W6 (Or.inl (List.mem_of_getElem? (i := 0) rfl))
  have Z6 : n0 ≤ h6.size := Nat.le_trans Z0 (Keep.of_wr W6).1
  have N6 := Fr.snoc X6 N0 g3
  have pre7 : ∀ t, Steps p.tables e below (T6.setTop (mkF m 65 #[.val (.ref o0), .val (.int i1), .val (.int i2), .val (.ref o3), .val (.int i4), .val (.int i5), .val (.int (i1 + i5)), .val (.int (i4 + i5)), .val (.long (((((g ((((i1 + i5).toUInt32 >>> ((3 : Int32) &&& 31).toUInt32).toInt32).toNatClampNeg)).toUInt32 >>> (((7 : Int32) - ((i1 + i5) &&& (7 : Int32))) &&& 31).toUInt32).toInt32).toInt64) &&& (1 : Int64))), .second] [])) t → Steps p.tables e below (T0.setTop (mkF m 3 #[.val (.ref o0), .val (.int i1), .val (.int i2), .val (.ref o3), .val (.int i4), .val (.int i5), .unset, .unset, .unset, .unset] [])) t := fun t kont => pre5 t (st6 _ kont)
  have pre8 : ∀ t, Steps p.tables e below (T6.setTop (mkF m 3 #[.val (.ref o0), .val (.int i1), .val (.int i2), .val (.ref o3), .val (.int i4), .val (.int (i5 + (1 : Int32))), .val (.int (i1 + i5)), .val (.int (i4 + i5)), .val (.long (((((g ((((i1 + i5).toUInt32 >>> ((3 : Int32) &&& 31).toUInt32).toInt32).toNatClampNeg)).toUInt32 >>> (((7 : Int32) - ((i1 + i5) &&& (7 : Int32))) &&& 31).toUInt32).toInt32).toInt64) &&& (1 : Int64))), .second] [])) t → Steps p.tables e below (T0.setTop (mkF m 3 #[.val (.ref o0), .val (.int i1), .val (.int i2), .val (.ref o3), .val (.int i4), .val (.int i5), .unset, .unset, .unset, .unset] [])) t := by
    intro t kont
    refine pre7 t ?_
    show Steps p.tables e below (T6.setTop (mkF m 65 #[.val (.ref o0), .val (.int i1), .val (.int i2), .val (.ref o3), .val (.int i4), .val (.int i5), .val (.int (i1 + i5)), .val (.int (i4 + i5)), .val (.long (((((g ((((i1 + i5).toUInt32 >>> ((3 : Int32) &&& 31).toUInt32).toInt32).toNatClampNeg)).toUInt32 >>> (((7 : Int32) - ((i1 + i5) &&& (7 : Int32))) &&& 31).toUInt32).toInt32).toInt64) &&& (1 : Int64))), .second] [])) _
    refine XS.iinc X6.here hx rfl (hb hby d1_65) rfl (l' := #[.val (.ref o0), .val (.int i1), .val (.int i2), .val (.ref o3), .val (.int i4), .val (.int (i5 + (1 : Int32))), .val (.int (i1 + i5)), .val (.int (i4 + i5)), .val (.long (((((g ((((i1 + i5).toUInt32 >>> ((3 : Int32) &&& 31).toUInt32).toInt32).toNatClampNeg)).toUInt32 >>> (((7 : Int32) - ((i1 + i5) &&& (7 : Int32))) &&& 31).toUInt32).toInt32).toInt64) &&& (1 : Int64))), .second]) rfl ?_
    show Steps p.tables e below (T6.setTop (mkF m 68 #[.val (.ref o0), .val (.int i1), .val (.int i2), .val (.ref o3), .val (.int i4), .val (.int (i5 + (1 : Int32))), .val (.int (i1 + i5)), .val (.int (i4 + i5)), .val (.long (((((g ((((i1 + i5).toUInt32 >>> ((3 : Int32) &&& 31).toUInt32).toInt32).toNatClampNeg)).toUInt32 >>> (((7 : Int32) - ((i1 + i5) &&& (7 : Int32))) &&& 31).toUInt32).toInt32).toInt64) &&& (1 : Int64))), .second] [])) _
    refine XS.goto X6.here hx rfl (pc0 := 68) (pc' := 3) rfl (hb hby d1_68) (by decide) (by decide) ?_
    exact kont
  exact ⟨T6, h6, X6, e6, N6, Z6, K6, f6_0, V6.to rfl (fun j _ => by rw [hu64]; rfl), pre8⟩
set_option maxRecDepth 65536 in
set_option maxHeartbeats 40000000 in
theorem own_ls {p : Program} {l : Launch} {e : Env} {R : Room} {s : State} {m : MethodId} {args : Array Value} {below : List Frame} {meth : Method} {c : Code} {T0 : State} {locs : List Loc} {cells slots : Nat} {Z : State} {a0 : Array Value} {h0 : Heap} {n0 : Nat} (o0 : Addr) (o3 : Addr) (i1 : Int32) (i2 : Int32) (i4 : Int32) (i5 : Int32) (x6 : Int32) (x7 : Int32) (x8 : Int64)
    (X0 : Stand p l e R s m args below meth c T0 locs cells slots) (hx : p.tables.exec = Jvm.exec) (hZ : Z.Warmed39 s.vm) (hw : ∀ d ∈ tables_1, d.before a0 Z = true) (hby : c.code = prog_30_method_5_code) (hml : c.maxLocals = 10) (hown : s.vm.findClass "org/hiddenfield/math/BitVectors" = some m.cls) (e0 : T0.heap = h0) (hc6 : ¬ (i5 < i2)) :
    ∀ t, Steps p.tables e below (T0.setTop (mkF m 71 #[.val (.ref o0), .val (.int i1), .val (.int i2), .val (.ref o3), .val (.int i4), .val (.int i5), .val (.int x6), .val (.int x7), .val (.long x8), .second] [])) t → Steps p.tables e below (T0.setTop (mkF m 3 #[.val (.ref o0), .val (.int i1), .val (.int i2), .val (.ref o3), .val (.int i4), .val (.int i5), .val (.int x6), .val (.int x7), .val (.long x8), .second] [])) t := by
  have pre0 : ∀ t, Steps p.tables e below (T0.setTop (mkF m 3 #[.val (.ref o0), .val (.int i1), .val (.int i2), .val (.ref o3), .val (.int i4), .val (.int i5), .val (.int x6), .val (.int x7), .val (.long x8), .second] [])) t → Steps p.tables e below (T0.setTop (mkF m 3 #[.val (.ref o0), .val (.int i1), .val (.int i2), .val (.ref o3), .val (.int i4), .val (.int i5), .val (.int x6), .val (.int x7), .val (.long x8), .second] [])) t := fun t k => k
  have pre9 : ∀ t, Steps p.tables e below (T0.setTop (mkF m 71 #[.val (.ref o0), .val (.int i1), .val (.int i2), .val (.ref o3), .val (.int i4), .val (.int i5), .val (.int x6), .val (.int x7), .val (.long x8), .second] [])) t → Steps p.tables e below (T0.setTop (mkF m 3 #[.val (.ref o0), .val (.int i1), .val (.int i2), .val (.ref o3), .val (.int i4), .val (.int i5), .val (.int x6), .val (.int x7), .val (.long x8), .second] [])) t := by
    intro t kont
    refine pre0 t ?_
    show Steps p.tables e below (T0.setTop (mkF m 3 #[.val (.ref o0), .val (.int i1), .val (.int i2), .val (.ref o3), .val (.int i4), .val (.int i5), .val (.int x6), .val (.int x7), .val (.long x8), .second] [])) _
    refine XS.iload X0.here hx rfl (hb hby d1_3) rfl ?_
    show Steps p.tables e below (T0.setTop (mkF m 5 #[.val (.ref o0), .val (.int i1), .val (.int i2), .val (.ref o3), .val (.int i4), .val (.int i5), .val (.int x6), .val (.int x7), .val (.long x8), .second] [(.int i5)])) _
    refine XS.iloadN X0.here hx rfl (hb hby d1_5) rfl ?_
    show Steps p.tables e below (T0.setTop (mkF m 6 #[.val (.ref o0), .val (.int i1), .val (.int i2), .val (.ref o3), .val (.int i4), .val (.int i5), .val (.int x6), .val (.int x7), .val (.long x8), .second] [(.int i2), (.int i5)])) _
    refine XS.icmpYes X0.here hx rfl (pc0 := 6) (pc' := 71) rfl (hb hby d1_6) rfl (flt hc6).2.1 (by decide) (by decide) ?_
    exact kont
  exact pre9
set_option maxRecDepth 65536 in
set_option maxHeartbeats 40000000 in
theorem own_lu {p : Program} {l : Launch} {e : Env} {R : Room} {s : State} {m : MethodId} {args : Array Value} {below : List Frame} {meth : Method} {c : Code} {T0 : State} {locs : List Loc} {cells slots : Nat} {Z : State} {a0 : Array Value} {h0 : Heap} {n0 : Nat} (o0 : Addr) (o3 : Addr) (i1 : Int32) (i2 : Int32) (i4 : Int32) (i5 : Int32)
    (X0 : Stand p l e R s m args below meth c T0 locs cells slots) (hx : p.tables.exec = Jvm.exec) (hZ : Z.Warmed39 s.vm) (hw : ∀ d ∈ tables_1, d.before a0 Z = true) (hby : c.code = prog_30_method_5_code) (hml : c.maxLocals = 10) (hown : s.vm.findClass "org/hiddenfield/math/BitVectors" = some m.cls) (e0 : T0.heap = h0) (hc6 : ¬ (i5 < i2)) :
    ∀ t, Steps p.tables e below (T0.setTop (mkF m 71 #[.val (.ref o0), .val (.int i1), .val (.int i2), .val (.ref o3), .val (.int i4), .val (.int i5), .unset, .unset, .unset, .unset] [])) t → Steps p.tables e below (T0.setTop (mkF m 3 #[.val (.ref o0), .val (.int i1), .val (.int i2), .val (.ref o3), .val (.int i4), .val (.int i5), .unset, .unset, .unset, .unset] [])) t := by
  have pre0 : ∀ t, Steps p.tables e below (T0.setTop (mkF m 3 #[.val (.ref o0), .val (.int i1), .val (.int i2), .val (.ref o3), .val (.int i4), .val (.int i5), .unset, .unset, .unset, .unset] [])) t → Steps p.tables e below (T0.setTop (mkF m 3 #[.val (.ref o0), .val (.int i1), .val (.int i2), .val (.ref o3), .val (.int i4), .val (.int i5), .unset, .unset, .unset, .unset] [])) t := fun t k => k
  have pre10 : ∀ t, Steps p.tables e below (T0.setTop (mkF m 71 #[.val (.ref o0), .val (.int i1), .val (.int i2), .val (.ref o3), .val (.int i4), .val (.int i5), .unset, .unset, .unset, .unset] [])) t → Steps p.tables e below (T0.setTop (mkF m 3 #[.val (.ref o0), .val (.int i1), .val (.int i2), .val (.ref o3), .val (.int i4), .val (.int i5), .unset, .unset, .unset, .unset] [])) t := by
    intro t kont
    refine pre0 t ?_
    show Steps p.tables e below (T0.setTop (mkF m 3 #[.val (.ref o0), .val (.int i1), .val (.int i2), .val (.ref o3), .val (.int i4), .val (.int i5), .unset, .unset, .unset, .unset] [])) _
    refine XS.iload X0.here hx rfl (hb hby d1_3) rfl ?_
    show Steps p.tables e below (T0.setTop (mkF m 5 #[.val (.ref o0), .val (.int i1), .val (.int i2), .val (.ref o3), .val (.int i4), .val (.int i5), .unset, .unset, .unset, .unset] [(.int i5)])) _
    refine XS.iloadN X0.here hx rfl (hb hby d1_5) rfl ?_
    show Steps p.tables e below (T0.setTop (mkF m 6 #[.val (.ref o0), .val (.int i1), .val (.int i2), .val (.ref o3), .val (.int i4), .val (.int i5), .unset, .unset, .unset, .unset] [(.int i2), (.int i5)])) _
    refine XS.icmpYes X0.here hx rfl (pc0 := 6) (pc' := 71) rfl (hb hby d1_6) rfl (flt hc6).2.1 (by decide) (by decide) ?_
    exact kont
  exact pre10
def own_vec (g : Nat → Int32) (i1 i4 : Int32) (u : Nat → Int64) : Nat → Nat → Int64
  | 0 => u
  | n + 1 => fun j => if j = (((i4 + (Int32.ofNat n)).toUInt32 >>> ((6 : Int32) &&& 31).toUInt32).toInt32).toNatClampNeg then (own_vec g i1 i4 u n ((((i4 + (Int32.ofNat n)).toUInt32 >>> ((6 : Int32) &&& 31).toUInt32).toInt32).toNatClampNeg) ||| own_word (g ((((i1 + (Int32.ofNat n)).toUInt32 >>> ((3 : Int32) &&& 31).toUInt32).toInt32).toNatClampNeg)) (i1 + (Int32.ofNat n)) (i4 + (Int32.ofNat n))) else own_vec g i1 i4 u n j
theorem own_of (n : Nat) (h : n ≤ 1000) : (Int32.ofNat n).toInt = n := Int32.toInt_ofNat_of_lt (by omega)
theorem own_upn (n : Nat) (h : n ≤ 500) : Int32.ofNat n + (1 : Int32) = Int32.ofNat (n + 1) := Int32.toInt_inj.mp (by
  have a := c_iadd (Int32.ofNat n) 1
  have r := rng32 (Int32.ofNat n + 1)
  have o : (1 : Int32).toInt = 1 := rfl
  rw [own_of n (by omega), o] at a
  rw [own_of (n + 1) (by omega)]
  omega)
theorem own_sum {a : Int32} (i : Nat) (ha : 0 ≤ a.toInt ∧ a.toInt < 64) (h : i < 64) : (a + Int32.ofNat i).toInt = a.toInt + i := by
  have q := c_iadd a (Int32.ofNat i)
  have r := rng32 (a + Int32.ofNat i)
  rw [own_of i (by omega)] at q
  omega
theorem own_bix {a : Int32} (i : Nat) (ha : 0 ≤ a.toInt ∧ a.toInt < 64) (h : i < 64) : ¬ (((a + (Int32.ofNat i)).toUInt32 >>> ((3 : Int32) &&& 31).toUInt32).toInt32) < 0 ∧ (((a + (Int32.ofNat i)).toUInt32 >>> ((3 : Int32) &&& 31).toUInt32).toInt32).toNatClampNeg < 16 ∧ (((a + (Int32.ofNat i)).toUInt32 >>> ((3 : Int32) &&& 31).toUInt32).toInt32).toNatClampNeg = (a.toInt.toNat + i) / 8 := by
  have q := own_sum i ha h
  have e := c_iushr (a + Int32.ofNat i) 3 3 (by decide) (by decide)
  have o : (0 : Int32).toInt = 0 := rfl
  rw [Int32.lt_iff_toInt_lt, Int32.toNatClampNeg, e]
  omega
theorem own_vix {a : Int32} (i : Nat) (ha : 0 ≤ a.toInt ∧ a.toInt < 64) (h : i < 64) : ¬ (((a + (Int32.ofNat i)).toUInt32 >>> ((6 : Int32) &&& 31).toUInt32).toInt32) < 0 ∧ (((a + (Int32.ofNat i)).toUInt32 >>> ((6 : Int32) &&& 31).toUInt32).toInt32).toNatClampNeg < 2 ∧ (((a + (Int32.ofNat i)).toUInt32 >>> ((6 : Int32) &&& 31).toUInt32).toInt32).toNatClampNeg = (a.toInt.toNat + i) / 64 := by
  have q := own_sum i ha h
  have e := c_iushr (a + Int32.ofNat i) 6 6 (by decide) (by decide)
  have o : (0 : Int32).toInt = 0 := rfl
  rw [Int32.lt_iff_toInt_lt, Int32.toNatClampNeg, e]
  omega
theorem own_ilt {i n : Nat} (hn : n ≤ 64) (h : i < n) : Int32.ofNat i < Int32.ofNat n := by rw [Int32.lt_iff_toInt_lt, own_of i (by omega), own_of n (by omega)]; omega
theorem own_nlt {n : Nat} : ¬ Int32.ofNat n < Int32.ofNat n := by rw [Int32.lt_iff_toInt_lt]; omega
set_option maxRecDepth 65536 in
set_option maxHeartbeats 40000000 in
theorem own_loop {p : Program} {l : Launch} {e : Env} {R : Room} {s : State} {m : MethodId} {args : Array Value} {below : List Frame} {meth : Method} {c : Code} {cells slots : Nat} {Z : State} {a0 : Array Value} {n0 : Nat} (hx : p.tables.exec = Jvm.exec) (hZ : Z.Warmed39 s.vm) (hw : ∀ d ∈ tables_1, d.before a0 Z = true) (hby : c.code = prog_30_method_5_code) (hml : c.maxLocals = 10) (hown : s.vm.findClass "org/hiddenfield/math/BitVectors" = some m.cls) (o0 o3 : Addr) (i1 i4 : Int32) (g : Nat → Int32) (u : Nat → Int64) (n : Nat) (hn : n ≤ 64) (h1 : 0 ≤ i1.toInt ∧ i1.toInt < 64) (h4 : 0 ≤ i4.toInt ∧ i4.toInt < 64) (ne03 : o0 ≠ o3) (g3 : n0 ≤ o3) :
    ∀ (k i : Nat) (T0 : State) (locs : List Loc) (h0 : Heap) (x6 x7 : Int32) (x8 : Int64), i + k = n → Stand p l e R s m args below meth c T0 locs cells slots → T0.heap = h0 → Fr n0 locs → n0 ≤ h0.size → own_arr Z h0 o0 .byte 16 (fun i => .int (g i)) → own_arr Z h0 o3 .long 2 (fun jj => .long (own_vec g i1 i4 u i jj)) →
      ∃ (T' : State) (h' : Heap) (locs' : List Loc) (Lx : Array Slot), Stand p l e R s m args below meth c T' locs' cells slots ∧ T'.heap = h' ∧ Fr n0 locs' ∧ n0 ≤ h'.size ∧ Keep h0 h' [o3] ∧ own_arr Z h' o3 .long 2 (fun jj => .long (own_vec g i1 i4 u n jj)) ∧
        ∀ t, Steps p.tables e below (T'.setTop (mkF m 71 Lx [])) t → Steps p.tables e below (T0.setTop (mkF m 3 #[.val (.ref o0), .val (.int i1), .val (.int (Int32.ofNat n)), .val (.ref o3), .val (.int i4), .val (.int (Int32.ofNat i)), .val (.int x6), .val (.int x7), .val (.long x8), .second] [])) t := by
  intro k
  induction k with
  | zero =>
    intro i T0 locs h0 x6 x7 x8 hik X0 e0 N0 Z0 A0 A3
    obtain rfl : i = n := by omega
    exact ⟨T0, h0, locs, _, X0, e0, N0, Z0, Keep.refl _ _, A3, own_ls (n0 := n0) o0 o3 i1 _ i4 _ x6 x7 x8 X0 hx hZ hw hby hml hown e0 own_nlt⟩
  | succ k ih =>
    intro i T0 locs h0 x6 x7 x8 hik X0 e0 N0 Z0 A0 A3
    have b1 := own_bix i h1 (by omega)
    have b4 := own_vix i h4 (by omega)
    obtain ⟨T1, hh1, X1, e1, N1, Z1, K1, B0, B3, st1⟩ := own_ts o0 o3 i1 (Int32.ofNat n) i4 (Int32.ofNat i) x6 x7 x8 g (own_vec g i1 i4 u i) X0 hx hZ hw hby hml hown e0 A0 A3 ne03 N0 g3 Z0 b1.1 b1.2.1 b4.1 b4.2.1 (own_ilt hn (by omega))
    rw [own_upn i (by omega)] at st1
    obtain ⟨T2, hh2, locs2, Lx, X2, e2, N2, Z2, K2, B4, st2⟩ := ih (i + 1) T1 _ hh1 _ _ _ (by omega) X1 e1 N1 Z1 B0 B3
    exact ⟨T2, hh2, locs2, Lx, X2, e2, N2, Z2, K1.trans K2 (allS (Or.inl (List.mem_of_getElem? (i := 0) rfl)) all0), B4, fun t k => st1 t (st2 t k)⟩
set_option maxRecDepth 65536 in
set_option maxHeartbeats 40000000 in
theorem own_whole {p : Program} {l : Launch} {e : Env} {R : Room} {s : State} {m : MethodId} {args : Array Value} {below : List Frame} {meth : Method} {c : Code} {cells slots : Nat} {Z : State} {a0 : Array Value} {n0 : Nat} (hx : p.tables.exec = Jvm.exec) (hZ : Z.Warmed39 s.vm) (hw : ∀ d ∈ tables_1, d.before a0 Z = true) (hby : c.code = prog_30_method_5_code) (hml : c.maxLocals = 10) (hown : s.vm.findClass "org/hiddenfield/math/BitVectors" = some m.cls) (o0 o3 : Addr) (i1 i4 : Int32) (g : Nat → Int32) (u : Nat → Int64) (n : Nat) (hn : n ≤ 64) (h1 : 0 ≤ i1.toInt ∧ i1.toInt < 64) (h4 : 0 ≤ i4.toInt ∧ i4.toInt < 64) (ne03 : o0 ≠ o3) (g3 : n0 ≤ o3)
    (T0 : State) (locs : List Loc) (h0 : Heap) (X0 : Stand p l e R s m args below meth c T0 locs cells slots) (e0 : T0.heap = h0) (N0 : Fr n0 locs) (Z0 : n0 ≤ h0.size) (A0 : own_arr Z h0 o0 .byte 16 (fun i => .int (g i))) (A3 : own_arr Z h0 o3 .long 2 (fun jj => .long (u jj))) :
      ∃ (T' : State) (h' : Heap) (locs' : List Loc) (Lx : Array Slot), Stand p l e R s m args below meth c T' locs' cells slots ∧ T'.heap = h' ∧ Fr n0 locs' ∧ n0 ≤ h'.size ∧ Keep h0 h' [o3] ∧ own_arr Z h' o3 .long 2 (fun jj => .long (own_vec g i1 i4 u n jj)) ∧
        ∀ t, Steps p.tables e below (T'.setTop (mkF m 71 Lx [])) t → Steps p.tables e below (T0.setTop (mkF m 3 #[.val (.ref o0), .val (.int i1), .val (.int (Int32.ofNat n)), .val (.ref o3), .val (.int i4), .val (.int (0 : Int32)), .unset, .unset, .unset, .unset] [])) t := by
  cases n with
  | zero => exact ⟨T0, h0, locs, _, X0, e0, N0, Z0, Keep.refl _ _, A3, own_lu (n0 := n0) o0 o3 i1 _ i4 _ X0 hx hZ hw hby hml hown e0 (by decide)⟩
  | succ k =>
    have b1 := own_bix 0 h1 (by omega)
    have b4 := own_vix 0 h4 (by omega)
    obtain ⟨T1, hh1, X1, e1, N1, Z1, K1, B0, B3, st1⟩ := own_tu o0 o3 i1 (Int32.ofNat (k + 1)) i4 (Int32.ofNat 0) g u X0 hx hZ hw hby hml hown e0 A0 A3 ne03 N0 g3 Z0 b1.1 b1.2.1 b4.1 b4.2.1 (own_ilt hn (by omega))
    rw [own_upn 0 (by omega)] at st1
    obtain ⟨T2, hh2, locs2, Lx, X2, e2, N2, Z2, K2, B4, st2⟩ := own_loop hx hZ hw hby hml hown o0 o3 i1 i4 g u (k + 1) hn h1 h4 ne03 g3 k 1 T1 _ hh1 _ _ _ (by omega) X1 e1 N1 Z1 B0 B3
    exact ⟨T2, hh2, locs2, Lx, X2, e2, N2, Z2, K1.trans K2 (allS (Or.inl (List.mem_of_getElem? (i := 0) rfl)) all0), B4, fun t k => st1 t (st2 t k)⟩
theorem d1_0 : decode prog_30_method_5_code 0 = .ok (.iconst 0, 1) := by decide +kernel
theorem d1_1 : decode prog_30_method_5_code 1 = .ok (.istore 5, 2) := by decide +kernel
theorem d1_71 : decode prog_30_method_5_code 71 = .ok (.return_, 1) := by decide +kernel
theorem pn_1 : plainName "org/hiddenfield/math/BitVectors" = true := by first | (simp [plainName, overriddenIn]; done) | decide +kernel
theorem ef_1 (m : MethodId) (x0 : Addr) (x1 : Int32) (x2 : Int32) (x3 : Addr) (x4 : Int32) : entryFrame m #[(.ref x0), (.int x1), (.int x2), (.ref x3), (.int x4)] 10 = mkF m 0 #[.val (.ref x0), .val (.int x1), .val (.int x2), .val (.ref x3), .val (.int x4), .unset, .unset, .unset, .unset, .unset] [] := by first | (simp [entryFrame, mkF, argsToLocals, Value.category]; done) | rfl
def Q1 (Z : State) (p0 : Addr) (p1 : Int32) (p3 : Addr) (p4 : Int32) (n : Nat) (g : Nat → Int32) (u : Nat → Int64) (h0 : Heap) (n0 : Nat) (v : Option Value) (h : Heap) (L : List Loc) : Prop := v = none ∧ Fr n0 L ∧ Keep h0 h [p3] ∧ own_arr Z h p3 .long 2 (fun i => .long (own_vec g p1 p4 u n i))
set_option maxRecDepth 65536 in
set_option maxHeartbeats 40000000 in
theorem rm1 (l : Launch) (Z : State) (a0 : Array Value) (hw : ∀ d ∈ tables_1, d.before a0 Z = true) (ws : List Jvm.Cond) (p0 : Addr) (p1 : Int32) (p3 : Addr) (p4 : Int32) (n : Nat) (g : Nat → Int32) (u : Nat → Int64) (h0 : Heap) (n0 : Nat) (Z0 : n0 ≤ h0.size) (A0 : own_arr Z h0 p0 .byte 16 (fun i => .int (g i))) (A3 : own_arr Z h0 p3 .long 2 (fun i => .long (u i))) (ne03 : p0 ≠ p3) (g3 : n0 ≤ p3) (hn : n ≤ 64) (h1 : 0 ≤ p1.toInt ∧ p1.toInt < 64) (h4 : 0 ≤ p4.toInt ∧ p4.toInt < 64) :
    MetFree l (⟨"org/hiddenfield/math/BitVectors", "read", "([BII[JI)V"⟩ : MethodName) (head1 (Jvm.Cond.code (⟨"org/hiddenfield/math/BitVectors", "read", "([BII[JI)V"⟩ : MethodName) prog_30_method_5_code 10 none :: ws) ({ frames := 0, cells := 0, slots := 0, locals := 0 } : Room)) (fun a U => a = #[(.ref p0), (.int p1), (.int (Int32.ofNat n)), (.ref p3), (.int p4)] ∧ Z.Warmed39 U.vm ∧ U.heap = h0) (fun _ _ _ _ _ => True) (fun _ U o U' => ∃ v L, o = .returned v ∧ Q1 Z p0 p1 p3 p4 n g u h0 n0 v U'.heap L ∧ FrameEnd U o U' L ({ frames := 0, cells := 0, slots := 0, locals := 0 } : Room).cells ({ frames := 0, cells := 0, slots := 0, locals := 0 } : Room).slots) := by
  refine MetFree.of_bodySF (plainFor_of_name pn_1) hisR ?_
  intro p e s m args below meth c s₁ Bd hml0 hP hK
  obtain ⟨rfl, hZ, hh⟩ := hP
  have hx := Bd.exec
  have hby := Bd.bytes
  have hml : c.maxLocals = 10 := hml0
  have hown : s.vm.findClass "org/hiddenfield/math/BitVectors" = some m.cls := findClass_of_methodNamed Bd.named
  have hnm := (name_of_methodNamed Bd.named Bd.method).1
  have X0 : Stand p l e ({ frames := 0, cells := 0, slots := 0, locals := 0 } : Room) s m #[(.ref p0), (.int p1), (.int (Int32.ofNat n)), (.ref p3), (.int p4)] below meth c s₁ [] 0 0 := Stand.of_body Bd
  have e0 : s₁.heap = h0 := by rw [← hh, Bd.state]; rfl
  have N0 := Fr.nil n0
  have pre0 : ∀ t, Steps p.tables e below (s₁.setTop (mkF m 0 #[.val (.ref p0), .val (.int p1), .val (.int (Int32.ofNat n)), .val (.ref p3), .val (.int p4), .unset, .unset, .unset, .unset, .unset] [])) t → Steps p.tables e below (s₁.setTop (entryFrame m #[(.ref p0), (.int p1), (.int (Int32.ofNat n)), (.ref p3), (.int p4)] 10)) t := fun t k => castTop (ef_1 m p0 p1 (Int32.ofNat n) p3 p4) k
  have pre11 : ∀ t, Steps p.tables e below (s₁.setTop (mkF m 3 #[.val (.ref p0), .val (.int p1), .val (.int (Int32.ofNat n)), .val (.ref p3), .val (.int p4), .val (.int (0 : Int32)), .unset, .unset, .unset, .unset] [])) t → Steps p.tables e below (s₁.setTop (entryFrame m #[(.ref p0), (.int p1), (.int (Int32.ofNat n)), (.ref p3), (.int p4)] 10)) t := by
    intro t kont
    refine pre0 t ?_
    show Steps p.tables e below (s₁.setTop (mkF m 0 #[.val (.ref p0), .val (.int p1), .val (.int (Int32.ofNat n)), .val (.ref p3), .val (.int p4), .unset, .unset, .unset, .unset, .unset] [])) _
    refine XS.iconst X0.here hx rfl (hb hby d1_0) ?_
    show Steps p.tables e below (s₁.setTop (mkF m 1 #[.val (.ref p0), .val (.int p1), .val (.int (Int32.ofNat n)), .val (.ref p3), .val (.int p4), .unset, .unset, .unset, .unset, .unset] [(.int (0 : Int32))])) _
    refine XS.istore X0.here hx rfl (hb hby d1_1) rfl (l' := #[.val (.ref p0), .val (.int p1), .val (.int (Int32.ofNat n)), .val (.ref p3), .val (.int p4), .val (.int (0 : Int32)), .unset, .unset, .unset, .unset]) rfl ?_
    exact kont
  obtain ⟨T12, h12, locs12, Lx, X12, e12, N12, Z12, K12, V12, st12⟩ := own_whole hx hZ hw hby hml hown p0 p3 p1 p4 g u n hn h1 h4 ne03 g3 _ _ _ X0 e0 N0 Z0 A0 A3
  have pre13 : ∀ t, Steps p.tables e below (T12.setTop (mkF m 71 Lx [])) t → Steps p.tables e below (s₁.setTop (entryFrame m #[(.ref p0), (.int p1), (.int (Int32.ofNat n)), (.ref p3), (.int p4)] 10)) t := fun t kont => pre11 t (st12 _ kont)
  obtain ⟨fs, hr, hrun, hended, hW, hsame⟩ := X12.leave (v := none) (fun _ => rfl)
  refine ⟨_, _, pre13 _ ?_, hrun, hended, _, _, rfl, ?_, ⟨_, rfl⟩, hW, hsame.mono (by decide) (by decide)⟩
  · exact X12.returnOut hx Bd.returns (hb hby d1_71) hr
  · show Q1 Z p0 p1 p3 p4 n g u h0 n0 _ T12.heap _
    rw [e12]
    exact ⟨rfl, N12, K12, V12⟩
theorem own_k64 {k : Int32} {K : Nat} (h : k.toInt = K) (hK : K < 64) : k.toBitVec.toNat % 64 = K := by
  have e : k.toInt = k.toBitVec.toInt := rfl
  rw [e, BitVec.toInt_eq_toNat_cond] at h
  split at h <;> omega
theorem own_lushrv (x : Int64) {k : Int32} {K : Nat} (h : k.toInt = K) (hK : K < 64) : (((x.toUInt64 >>> (k &&& 0x3f).toInt64.toUInt64).toInt64)).toBitVec = x.toBitVec >>> K := by
  have s := (sm64 k K (own_k64 h hK)).1
  show x.toBitVec >>> ((k &&& 0x3f).toInt64.toBitVec % 64#64) = _
  rw [s, BitVec.ushiftRight_eq']
  congr 1
  rw [BitVec.toNat_umod, BitVec.toNat_ofNat]
  show K % 2 ^ 64 % 64 = K
  omega
theorem own_lshlv (x : Int64) {k : Int32} {K : Nat} (h : k.toInt = K) (hK : K < 64) : ((x <<< (k &&& 0x3f).toInt64)).toBitVec = x.toBitVec <<< K := by
  have s := (sm64 k K (own_k64 h hK)).1
  show x.toBitVec <<< ((k &&& 0x3f).toInt64.toBitVec.smod 64#64) = _
  rw [s, BitVec.shiftLeft_eq']
  exact congrArg (fun z => x.toBitVec <<< z) (smod64 K hK)
theorem own_oneb (m p : Nat) (hm : m < 64) (hp : p < 64) : ((1#64) <<< m).getLsbD p = decide (p = m) := by
  rw [BitVec.getLsbD_shiftLeft, BitVec.getLsbD_one]
  by_cases q : p = m
  · subst q; simp [hp]
  · by_cases r : p < m
    · simp [r, q]
    · have : ¬ p - m = 0 := by omega
      simp [this, q]
theorem own_minsh : ∀ K : Fin 64, ((-9223372036854775808 : Int64).toBitVec >>> K.val) = (1#64) <<< (63 - K.val) := by decide +kernel
theorem own_bb (b : Int32) : ∀ c : Nat, c < 8 → ((((b.toUInt32 >>> (((7 : Int32) - Int32.ofNat c) &&& 31).toUInt32).toInt32).toInt64) &&& (1 : Int64)) = if b.toBitVec.getLsbD (7 - c) then (1 : Int64) else 0 := by
  intro c hc
  match c, hc with
  | 0, _ =>
    rw [← Int64.toBitVec_inj]
    have e : ((((b.toUInt32 >>> (((7 : Int32) - Int32.ofNat 0) &&& 31).toUInt32).toInt32).toInt64) &&& (1 : Int64)).toBitVec = ((b.toBitVec >>> 7).signExtend 64) &&& 1#64 := rfl
    rw [e]
    have d : ((b.toBitVec >>> 7).signExtend 64) &&& 1#64 = if b.toBitVec.getLsbD 7 then 1#64 else 0#64 := by
      apply BitVec.eq_of_getLsbD_eq
      intro i hi
      rw [BitVec.getLsbD_and, BitVec.getLsbD_one]
      by_cases q : i = 0
      · subst q; rw [BitVec.getLsbD_signExtend, BitVec.getLsbD_ushiftRight]; cases w : b.toBitVec.getLsbD 7 <;> simp_all
      · cases w : b.toBitVec.getLsbD 7 <;> simp [q, BitVec.getLsbD_one]
    rw [d]; cases b.toBitVec.getLsbD 7 <;> rfl
  | 1, _ =>
    rw [← Int64.toBitVec_inj]
    have e : ((((b.toUInt32 >>> (((7 : Int32) - Int32.ofNat 1) &&& 31).toUInt32).toInt32).toInt64) &&& (1 : Int64)).toBitVec = ((b.toBitVec >>> 6).signExtend 64) &&& 1#64 := rfl
    rw [e]
    have d : ((b.toBitVec >>> 6).signExtend 64) &&& 1#64 = if b.toBitVec.getLsbD 6 then 1#64 else 0#64 := by
      apply BitVec.eq_of_getLsbD_eq
      intro i hi
      rw [BitVec.getLsbD_and, BitVec.getLsbD_one]
      by_cases q : i = 0
      · subst q; rw [BitVec.getLsbD_signExtend, BitVec.getLsbD_ushiftRight]; cases w : b.toBitVec.getLsbD 6 <;> simp_all
      · cases w : b.toBitVec.getLsbD 6 <;> simp [q, BitVec.getLsbD_one]
    rw [d]; cases b.toBitVec.getLsbD 6 <;> rfl
  | 2, _ =>
    rw [← Int64.toBitVec_inj]
    have e : ((((b.toUInt32 >>> (((7 : Int32) - Int32.ofNat 2) &&& 31).toUInt32).toInt32).toInt64) &&& (1 : Int64)).toBitVec = ((b.toBitVec >>> 5).signExtend 64) &&& 1#64 := rfl
    rw [e]
    have d : ((b.toBitVec >>> 5).signExtend 64) &&& 1#64 = if b.toBitVec.getLsbD 5 then 1#64 else 0#64 := by
      apply BitVec.eq_of_getLsbD_eq
      intro i hi
      rw [BitVec.getLsbD_and, BitVec.getLsbD_one]
      by_cases q : i = 0
      · subst q; rw [BitVec.getLsbD_signExtend, BitVec.getLsbD_ushiftRight]; cases w : b.toBitVec.getLsbD 5 <;> simp_all
      · cases w : b.toBitVec.getLsbD 5 <;> simp [q, BitVec.getLsbD_one]
    rw [d]; cases b.toBitVec.getLsbD 5 <;> rfl
  | 3, _ =>
    rw [← Int64.toBitVec_inj]
    have e : ((((b.toUInt32 >>> (((7 : Int32) - Int32.ofNat 3) &&& 31).toUInt32).toInt32).toInt64) &&& (1 : Int64)).toBitVec = ((b.toBitVec >>> 4).signExtend 64) &&& 1#64 := rfl
    rw [e]
    have d : ((b.toBitVec >>> 4).signExtend 64) &&& 1#64 = if b.toBitVec.getLsbD 4 then 1#64 else 0#64 := by
      apply BitVec.eq_of_getLsbD_eq
      intro i hi
      rw [BitVec.getLsbD_and, BitVec.getLsbD_one]
      by_cases q : i = 0
      · subst q; rw [BitVec.getLsbD_signExtend, BitVec.getLsbD_ushiftRight]; cases w : b.toBitVec.getLsbD 4 <;> simp_all
      · cases w : b.toBitVec.getLsbD 4 <;> simp [q, BitVec.getLsbD_one]
    rw [d]; cases b.toBitVec.getLsbD 4 <;> rfl
  | 4, _ =>
    rw [← Int64.toBitVec_inj]
    have e : ((((b.toUInt32 >>> (((7 : Int32) - Int32.ofNat 4) &&& 31).toUInt32).toInt32).toInt64) &&& (1 : Int64)).toBitVec = ((b.toBitVec >>> 3).signExtend 64) &&& 1#64 := rfl
    rw [e]
    have d : ((b.toBitVec >>> 3).signExtend 64) &&& 1#64 = if b.toBitVec.getLsbD 3 then 1#64 else 0#64 := by
      apply BitVec.eq_of_getLsbD_eq
      intro i hi
      rw [BitVec.getLsbD_and, BitVec.getLsbD_one]
      by_cases q : i = 0
      · subst q; rw [BitVec.getLsbD_signExtend, BitVec.getLsbD_ushiftRight]; cases w : b.toBitVec.getLsbD 3 <;> simp_all
      · cases w : b.toBitVec.getLsbD 3 <;> simp [q, BitVec.getLsbD_one]
    rw [d]; cases b.toBitVec.getLsbD 3 <;> rfl
  | 5, _ =>
    rw [← Int64.toBitVec_inj]
    have e : ((((b.toUInt32 >>> (((7 : Int32) - Int32.ofNat 5) &&& 31).toUInt32).toInt32).toInt64) &&& (1 : Int64)).toBitVec = ((b.toBitVec >>> 2).signExtend 64) &&& 1#64 := rfl
    rw [e]
    have d : ((b.toBitVec >>> 2).signExtend 64) &&& 1#64 = if b.toBitVec.getLsbD 2 then 1#64 else 0#64 := by
      apply BitVec.eq_of_getLsbD_eq
      intro i hi
      rw [BitVec.getLsbD_and, BitVec.getLsbD_one]
      by_cases q : i = 0
      · subst q; rw [BitVec.getLsbD_signExtend, BitVec.getLsbD_ushiftRight]; cases w : b.toBitVec.getLsbD 2 <;> simp_all
      · cases w : b.toBitVec.getLsbD 2 <;> simp [q, BitVec.getLsbD_one]
    rw [d]; cases b.toBitVec.getLsbD 2 <;> rfl
  | 6, _ =>
    rw [← Int64.toBitVec_inj]
    have e : ((((b.toUInt32 >>> (((7 : Int32) - Int32.ofNat 6) &&& 31).toUInt32).toInt32).toInt64) &&& (1 : Int64)).toBitVec = ((b.toBitVec >>> 1).signExtend 64) &&& 1#64 := rfl
    rw [e]
    have d : ((b.toBitVec >>> 1).signExtend 64) &&& 1#64 = if b.toBitVec.getLsbD 1 then 1#64 else 0#64 := by
      apply BitVec.eq_of_getLsbD_eq
      intro i hi
      rw [BitVec.getLsbD_and, BitVec.getLsbD_one]
      by_cases q : i = 0
      · subst q; rw [BitVec.getLsbD_signExtend, BitVec.getLsbD_ushiftRight]; cases w : b.toBitVec.getLsbD 1 <;> simp_all
      · cases w : b.toBitVec.getLsbD 1 <;> simp [q, BitVec.getLsbD_one]
    rw [d]; cases b.toBitVec.getLsbD 1 <;> rfl
  | 7, _ =>
    rw [← Int64.toBitVec_inj]
    have e : ((((b.toUInt32 >>> (((7 : Int32) - Int32.ofNat 7) &&& 31).toUInt32).toInt32).toInt64) &&& (1 : Int64)).toBitVec = ((b.toBitVec >>> 0).signExtend 64) &&& 1#64 := rfl
    rw [e]
    have d : ((b.toBitVec >>> 0).signExtend 64) &&& 1#64 = if b.toBitVec.getLsbD 0 then 1#64 else 0#64 := by
      apply BitVec.eq_of_getLsbD_eq
      intro i hi
      rw [BitVec.getLsbD_and, BitVec.getLsbD_one]
      by_cases q : i = 0
      · subst q; rw [BitVec.getLsbD_signExtend, BitVec.getLsbD_ushiftRight]; cases w : b.toBitVec.getLsbD 0 <;> simp_all
      · cases w : b.toBitVec.getLsbD 0 <;> simp [q, BitVec.getLsbD_one]
    rw [d]; cases b.toBitVec.getLsbD 0 <;> rfl
  | c + 8, h => exact absurd h (by omega)
theorem own_word_bit (b f t : Int32) (F T : Nat) (hf : f.toInt = F) (ht : t.toInt = T) (p : Nat) (hp : p < 64) : (own_word b f t).toBitVec.getLsbD p = (b.toBitVec.getLsbD (7 - F % 8) && decide (p = 63 - T % 64)) := by
  have e1 : (f &&& (7 : Int32)) = Int32.ofNat (F % 8) := Int32.toInt_inj.mp (by rw [c_mask f 7 3 (by decide) (by decide), Int32.toInt_ofNat_of_lt (by omega), hf]; omega)
  have e2 : (t &&& (63 : Int32)).toInt = ((T % 64 : Nat) : Int) := by rw [c_mask t 63 6 (by decide) (by decide), ht]; omega
  unfold own_word
  rw [e1, own_bb b (F % 8) (by omega), Int64.toBitVec_and, own_lushrv _ e2 (by omega), own_minsh ⟨T % 64, by omega⟩, BitVec.getLsbD_and, own_oneb _ _ (by omega) hp]
  cases b.toBitVec.getLsbD (7 - F % 8)
  · have : (-(if false = true then (1 : Int64) else 0)).toBitVec = 0#64 := by decide
    rw [this]; simp
  · have : (-(if true = true then (1 : Int64) else 0)).toBitVec = BitVec.allOnes 64 := by decide
    rw [this, BitVec.getLsbD_allOnes]; simp [hp]
theorem own_vec_bit (g : Nat → Int32) {i1 i4 : Int32} (u : Nat → Int64) {F A : Nat} (h1 : i1.toInt = F) (h4 : i4.toInt = A) (hF : F < 64) (hA : A < 64) (j p : Nat) (hp : p < 64) : ∀ n, n ≤ 64 → ((own_vec g i1 i4 u n j).toBitVec.getLsbD p = true ↔ ((u j).toBitVec.getLsbD p = true ∨ ∃ i, i < n ∧ (A + i) / 64 = j ∧ p = 63 - (A + i) % 64 ∧ (g ((F + i) / 8)).toBitVec.getLsbD (7 - (F + i) % 8) = true)) := by
  intro n
  induction n with
  | zero => intro _; exact ⟨Or.inl, fun h => h.elim id fun ⟨i, hi, _⟩ => absurd hi (by omega)⟩
  | succ n ih =>
    intro hn
    have b1 := own_bix n (a := i1) (by omega) (by omega)
    have b4 := own_vix n (a := i4) (by omega) (by omega)
    have s1 := own_sum n (a := i1) (by omega) (by omega)
    have s4 := own_sum n (a := i4) (by omega) (by omega)
    have k1 : (i1.toInt.toNat + n) / 8 = (F + n) / 8 := by omega
    have k4 : (i4.toInt.toNat + n) / 64 = (A + n) / 64 := by omega
    unfold own_vec
    rw [b1.2.2, b4.2.2, k1, k4]
    have IH := ih (by omega)
    by_cases q : j = (A + n) / 64
    · have qq : (if j = (A + n) / 64 then (own_vec g i1 i4 u n ((A + n) / 64) ||| own_word (g ((F + n) / 8)) (i1 + Int32.ofNat n) (i4 + Int32.ofNat n)) else own_vec g i1 i4 u n j) = (own_vec g i1 i4 u n j ||| own_word (g ((F + n) / 8)) (i1 + Int32.ofNat n) (i4 + Int32.ofNat n)) := by rw [if_pos q, q]
      simp only [qq]
      rw [Int64.toBitVec_or, BitVec.getLsbD_or, own_word_bit _ _ _ (F + n) (A + n) (by omega) (by omega) p hp, Bool.or_eq_true, IH, Bool.and_eq_true, decide_eq_true_eq]
      constructor
      · rintro ((h | ⟨i, hi, r⟩) | ⟨r1, r2⟩)
        · exact Or.inl h
        · exact Or.inr ⟨i, by omega, r⟩
        · exact Or.inr ⟨n, by omega, q.symm, r2, r1⟩
      · rintro (h | ⟨i, hi, r1, r2, r3⟩)
        · exact Or.inl (Or.inl h)
        · by_cases z : i = n
          · subst z; exact Or.inr ⟨r3, r2⟩
          · exact Or.inl (Or.inr ⟨i, by omega, r1, r2, r3⟩)
    · simp only [if_neg q]
      rw [IH]
      constructor
      · rintro (h | ⟨i, hi, r⟩)
        · exact Or.inl h
        · exact Or.inr ⟨i, by omega, r⟩
      · rintro (h | ⟨i, hi, r1, r2, r3⟩)
        · exact Or.inl h
        · by_cases z : i = n
          · subst z; exact absurd r1.symm q
          · exact Or.inr ⟨i, by omega, r1, r2, r3⟩
def own_N (b0 b1 : Int64) (r : Nat) : Bool := if r < 64 then b1.toBitVec.getLsbD r else b0.toBitVec.getLsbD (r - 64)
def own_by (b0 b1 : Int64) (i : Nat) : Int32 := if i = 15 then ((b1.toInt32).toInt8.toInt32).toInt8.toInt32 else if i = 14 then ((((b1.toUInt64 >>> ((8 : Int32) &&& 0x3f).toInt64.toUInt64).toInt64).toInt32).toInt8.toInt32).toInt8.toInt32 else if i = 13 then ((((b1.toUInt64 >>> ((16 : Int32) &&& 0x3f).toInt64.toUInt64).toInt64).toInt32).toInt8.toInt32).toInt8.toInt32 else if i = 12 then ((((b1.toUInt64 >>> ((24 : Int32) &&& 0x3f).toInt64.toUInt64).toInt64).toInt32).toInt8.toInt32).toInt8.toInt32 else if i = 11 then ((((b1.toUInt64 >>> ((32 : Int32) &&& 0x3f).toInt64.toUInt64).toInt64).toInt32).toInt8.toInt32).toInt8.toInt32 else if i = 10 then ((((b1.toUInt64 >>> ((40 : Int32) &&& 0x3f).toInt64.toUInt64).toInt64).toInt32).toInt8.toInt32).toInt8.toInt32 else if i = 9 then ((((b1.toUInt64 >>> ((48 : Int32) &&& 0x3f).toInt64.toUInt64).toInt64).toInt32).toInt8.toInt32).toInt8.toInt32 else if i = 8 then ((((b1.toUInt64 >>> ((56 : Int32) &&& 0x3f).toInt64.toUInt64).toInt64).toInt32).toInt8.toInt32).toInt8.toInt32 else if i = 7 then ((b0.toInt32).toInt8.toInt32).toInt8.toInt32 else if i = 6 then ((((b0.toUInt64 >>> ((8 : Int32) &&& 0x3f).toInt64.toUInt64).toInt64).toInt32).toInt8.toInt32).toInt8.toInt32 else if i = 5 then ((((b0.toUInt64 >>> ((16 : Int32) &&& 0x3f).toInt64.toUInt64).toInt64).toInt32).toInt8.toInt32).toInt8.toInt32 else if i = 4 then ((((b0.toUInt64 >>> ((24 : Int32) &&& 0x3f).toInt64.toUInt64).toInt64).toInt32).toInt8.toInt32).toInt8.toInt32 else if i = 3 then ((((b0.toUInt64 >>> ((32 : Int32) &&& 0x3f).toInt64.toUInt64).toInt64).toInt32).toInt8.toInt32).toInt8.toInt32 else if i = 2 then ((((b0.toUInt64 >>> ((40 : Int32) &&& 0x3f).toInt64.toUInt64).toInt64).toInt32).toInt8.toInt32).toInt8.toInt32 else if i = 1 then ((((b0.toUInt64 >>> ((48 : Int32) &&& 0x3f).toInt64.toUInt64).toInt64).toInt32).toInt8.toInt32).toInt8.toInt32 else if i = 0 then ((((b0.toUInt64 >>> ((56 : Int32) &&& 0x3f).toInt64.toUInt64).toInt64).toInt32).toInt8.toInt32).toInt8.toInt32 else (0 : Int32)
theorem own_low8 (y : Int64) : ∀ i : Nat, i < 8 → (((y.toInt32).toInt8.toInt32).toInt8.toInt32).toBitVec.getLsbD i = y.toBitVec.getLsbD i := by
  intro i hi
  match i, hi with
  | 0, _ => simp [BitVec.getElem_signExtend]
  | 1, _ => simp [BitVec.getElem_signExtend]
  | 2, _ => simp [BitVec.getElem_signExtend]
  | 3, _ => simp [BitVec.getElem_signExtend]
  | 4, _ => simp [BitVec.getElem_signExtend]
  | 5, _ => simp [BitVec.getElem_signExtend]
  | 6, _ => simp [BitVec.getElem_signExtend]
  | 7, _ => simp [BitVec.getElem_signExtend]
  | i + 8, h => exact absurd h (by omega)
theorem own_byb (b0 b1 : Int64) (k i : Nat) (hk : k < 16) (hi : i < 8) : (own_by b0 b1 k).toBitVec.getLsbD i = if k < 8 then b0.toBitVec.getLsbD (56 - 8 * k + i) else b1.toBitVec.getLsbD (120 - 8 * k + i) := by
  match k, hk with
  | 0, _ =>
    have e := own_low8 ((b0.toUInt64 >>> ((56 : Int32) &&& 0x3f).toInt64.toUInt64).toInt64) i hi
    rw [if_pos (by decide)]
    show (((((b0.toUInt64 >>> ((56 : Int32) &&& 0x3f).toInt64.toUInt64).toInt64).toInt32).toInt8.toInt32).toInt8.toInt32).toBitVec.getLsbD i = _
    rw [e]
    rw [own_lushrv b0 (k := (56 : Int32)) (K := 56) (by decide) (by decide), BitVec.getLsbD_ushiftRight]
  | 1, _ =>
    have e := own_low8 ((b0.toUInt64 >>> ((48 : Int32) &&& 0x3f).toInt64.toUInt64).toInt64) i hi
    rw [if_pos (by decide)]
    show (((((b0.toUInt64 >>> ((48 : Int32) &&& 0x3f).toInt64.toUInt64).toInt64).toInt32).toInt8.toInt32).toInt8.toInt32).toBitVec.getLsbD i = _
    rw [e]
    rw [own_lushrv b0 (k := (48 : Int32)) (K := 48) (by decide) (by decide), BitVec.getLsbD_ushiftRight]
  | 2, _ =>
    have e := own_low8 ((b0.toUInt64 >>> ((40 : Int32) &&& 0x3f).toInt64.toUInt64).toInt64) i hi
    rw [if_pos (by decide)]
    show (((((b0.toUInt64 >>> ((40 : Int32) &&& 0x3f).toInt64.toUInt64).toInt64).toInt32).toInt8.toInt32).toInt8.toInt32).toBitVec.getLsbD i = _
    rw [e]
    rw [own_lushrv b0 (k := (40 : Int32)) (K := 40) (by decide) (by decide), BitVec.getLsbD_ushiftRight]
  | 3, _ =>
    have e := own_low8 ((b0.toUInt64 >>> ((32 : Int32) &&& 0x3f).toInt64.toUInt64).toInt64) i hi
    rw [if_pos (by decide)]
    show (((((b0.toUInt64 >>> ((32 : Int32) &&& 0x3f).toInt64.toUInt64).toInt64).toInt32).toInt8.toInt32).toInt8.toInt32).toBitVec.getLsbD i = _
    rw [e]
    rw [own_lushrv b0 (k := (32 : Int32)) (K := 32) (by decide) (by decide), BitVec.getLsbD_ushiftRight]
  | 4, _ =>
    have e := own_low8 ((b0.toUInt64 >>> ((24 : Int32) &&& 0x3f).toInt64.toUInt64).toInt64) i hi
    rw [if_pos (by decide)]
    show (((((b0.toUInt64 >>> ((24 : Int32) &&& 0x3f).toInt64.toUInt64).toInt64).toInt32).toInt8.toInt32).toInt8.toInt32).toBitVec.getLsbD i = _
    rw [e]
    rw [own_lushrv b0 (k := (24 : Int32)) (K := 24) (by decide) (by decide), BitVec.getLsbD_ushiftRight]
  | 5, _ =>
    have e := own_low8 ((b0.toUInt64 >>> ((16 : Int32) &&& 0x3f).toInt64.toUInt64).toInt64) i hi
    rw [if_pos (by decide)]
    show (((((b0.toUInt64 >>> ((16 : Int32) &&& 0x3f).toInt64.toUInt64).toInt64).toInt32).toInt8.toInt32).toInt8.toInt32).toBitVec.getLsbD i = _
    rw [e]
    rw [own_lushrv b0 (k := (16 : Int32)) (K := 16) (by decide) (by decide), BitVec.getLsbD_ushiftRight]
  | 6, _ =>
    have e := own_low8 ((b0.toUInt64 >>> ((8 : Int32) &&& 0x3f).toInt64.toUInt64).toInt64) i hi
    rw [if_pos (by decide)]
    show (((((b0.toUInt64 >>> ((8 : Int32) &&& 0x3f).toInt64.toUInt64).toInt64).toInt32).toInt8.toInt32).toInt8.toInt32).toBitVec.getLsbD i = _
    rw [e]
    rw [own_lushrv b0 (k := (8 : Int32)) (K := 8) (by decide) (by decide), BitVec.getLsbD_ushiftRight]
  | 7, _ =>
    have e := own_low8 b0 i hi
    rw [if_pos (by decide)]
    show (((b0.toInt32).toInt8.toInt32).toInt8.toInt32).toBitVec.getLsbD i = _
    rw [e]
    simp
  | 8, _ =>
    have e := own_low8 ((b1.toUInt64 >>> ((56 : Int32) &&& 0x3f).toInt64.toUInt64).toInt64) i hi
    rw [if_neg (by decide)]
    show (((((b1.toUInt64 >>> ((56 : Int32) &&& 0x3f).toInt64.toUInt64).toInt64).toInt32).toInt8.toInt32).toInt8.toInt32).toBitVec.getLsbD i = _
    rw [e]
    rw [own_lushrv b1 (k := (56 : Int32)) (K := 56) (by decide) (by decide), BitVec.getLsbD_ushiftRight]
  | 9, _ =>
    have e := own_low8 ((b1.toUInt64 >>> ((48 : Int32) &&& 0x3f).toInt64.toUInt64).toInt64) i hi
    rw [if_neg (by decide)]
    show (((((b1.toUInt64 >>> ((48 : Int32) &&& 0x3f).toInt64.toUInt64).toInt64).toInt32).toInt8.toInt32).toInt8.toInt32).toBitVec.getLsbD i = _
    rw [e]
    rw [own_lushrv b1 (k := (48 : Int32)) (K := 48) (by decide) (by decide), BitVec.getLsbD_ushiftRight]
  | 10, _ =>
    have e := own_low8 ((b1.toUInt64 >>> ((40 : Int32) &&& 0x3f).toInt64.toUInt64).toInt64) i hi
    rw [if_neg (by decide)]
    show (((((b1.toUInt64 >>> ((40 : Int32) &&& 0x3f).toInt64.toUInt64).toInt64).toInt32).toInt8.toInt32).toInt8.toInt32).toBitVec.getLsbD i = _
    rw [e]
    rw [own_lushrv b1 (k := (40 : Int32)) (K := 40) (by decide) (by decide), BitVec.getLsbD_ushiftRight]
  | 11, _ =>
    have e := own_low8 ((b1.toUInt64 >>> ((32 : Int32) &&& 0x3f).toInt64.toUInt64).toInt64) i hi
    rw [if_neg (by decide)]
    show (((((b1.toUInt64 >>> ((32 : Int32) &&& 0x3f).toInt64.toUInt64).toInt64).toInt32).toInt8.toInt32).toInt8.toInt32).toBitVec.getLsbD i = _
    rw [e]
    rw [own_lushrv b1 (k := (32 : Int32)) (K := 32) (by decide) (by decide), BitVec.getLsbD_ushiftRight]
  | 12, _ =>
    have e := own_low8 ((b1.toUInt64 >>> ((24 : Int32) &&& 0x3f).toInt64.toUInt64).toInt64) i hi
    rw [if_neg (by decide)]
    show (((((b1.toUInt64 >>> ((24 : Int32) &&& 0x3f).toInt64.toUInt64).toInt64).toInt32).toInt8.toInt32).toInt8.toInt32).toBitVec.getLsbD i = _
    rw [e]
    rw [own_lushrv b1 (k := (24 : Int32)) (K := 24) (by decide) (by decide), BitVec.getLsbD_ushiftRight]
  | 13, _ =>
    have e := own_low8 ((b1.toUInt64 >>> ((16 : Int32) &&& 0x3f).toInt64.toUInt64).toInt64) i hi
    rw [if_neg (by decide)]
    show (((((b1.toUInt64 >>> ((16 : Int32) &&& 0x3f).toInt64.toUInt64).toInt64).toInt32).toInt8.toInt32).toInt8.toInt32).toBitVec.getLsbD i = _
    rw [e]
    rw [own_lushrv b1 (k := (16 : Int32)) (K := 16) (by decide) (by decide), BitVec.getLsbD_ushiftRight]
  | 14, _ =>
    have e := own_low8 ((b1.toUInt64 >>> ((8 : Int32) &&& 0x3f).toInt64.toUInt64).toInt64) i hi
    rw [if_neg (by decide)]
    show (((((b1.toUInt64 >>> ((8 : Int32) &&& 0x3f).toInt64.toUInt64).toInt64).toInt32).toInt8.toInt32).toInt8.toInt32).toBitVec.getLsbD i = _
    rw [e]
    rw [own_lushrv b1 (k := (8 : Int32)) (K := 8) (by decide) (by decide), BitVec.getLsbD_ushiftRight]
  | 15, _ =>
    have e := own_low8 b1 i hi
    rw [if_neg (by decide)]
    show (((b1.toInt32).toInt8.toInt32).toInt8.toInt32).toBitVec.getLsbD i = _
    rw [e]
    simp
  | k + 16, h => exact absurd h (by omega)
theorem own_byN (b0 b1 : Int64) (f : Nat) (hf : f < 128) : (own_by b0 b1 (f / 8)).toBitVec.getLsbD (7 - f % 8) = own_N b0 b1 (127 - f) := by
  rw [own_byb b0 b1 _ _ (by omega) (by omega)]
  unfold own_N
  by_cases q : f / 8 < 8
  · rw [if_pos q, if_neg (by omega)]; congr 1; omega
  · rw [if_neg q, if_pos (by omega)]; congr 1; omega
theorem own_mb (len : Int32) (m : Int64) (n : Nat) (hn : n ≤ 64) (hl : len = Int32.ofNat n) (h : m = (if len = (0 : Int32) then (0 : Int64) else ((-1 : Int64) <<< (((64 : Int32) - len) &&& 0x3f).toInt64))) (q : Nat) (hq : q < 64) : m.toBitVec.getLsbD q = decide (64 - n ≤ q) := by
  have o := Int32.toInt_ofNat_of_lt (n := n) (by omega)
  by_cases z : n = 0
  · subst z; rw [h, if_pos (show len = (0 : Int32) from hl)]; simp; omega
  · have s := c_isub 64 len
    have r := rng32 ((64 : Int32) - len)
    have o64 : (64 : Int32).toInt = 64 := rfl
    have o0 : (0 : Int32).toInt = 0 := rfl
    rw [hl, o, o64] at s
    rw [hl] at r
    have v : ((64 : Int32) - Int32.ofNat n).toInt = ((64 - n : Nat) : Int) := by omega
    rw [h, if_neg (fun w => z (by rw [hl, ← Int32.toInt_inj, o, o0] at w; omega)), hl, own_lshlv _ v (by omega)]
    have a1 : (-1 : Int64).toBitVec = BitVec.allOnes 64 := by decide
    rw [a1, BitVec.getLsbD_shiftLeft, BitVec.getLsbD_allOnes]
    by_cases y : q < 64 - n
    · rw [decide_eq_false (show ¬ 64 - n ≤ q by omega)]; simp [y]
    · rw [decide_eq_true (show 64 - n ≤ q by omega)]; simp [y, hq]; omega
theorem own_srcb (fr : Int32) (b0 b1 x : Int64) (F : Nat) (hF : F < 64) (hf : fr.toInt = F) (h : x = (if fr = (0 : Int32) then b0 else ((b0 <<< (fr &&& 0x3f).toInt64) ||| ((b1.toUInt64 >>> (((64 : Int32) - fr) &&& 0x3f).toInt64.toUInt64).toInt64)))) (q : Nat) (hq : q < 64) : x.toBitVec.getLsbD q = own_N b0 b1 (q + 64 - F) := by
  have o0 : (0 : Int32).toInt = 0 := rfl
  unfold own_N
  by_cases z : F = 0
  · subst z
    rw [h, if_pos (Int32.toInt_inj.mp (by rw [hf]; rfl)), if_neg (by omega)]; congr 1
  · have s := c_isub 64 fr
    have r := rng32 ((64 : Int32) - fr)
    have o64 : (64 : Int32).toInt = 64 := rfl
    rw [hf, o64] at s
    have v : ((64 : Int32) - fr).toInt = ((64 - F : Nat) : Int) := by omega
    rw [h, if_neg (fun w => z (by rw [← Int32.toInt_inj, hf, o0] at w; omega)), Int64.toBitVec_or, own_lshlv _ hf hF, own_lushrv _ v (by omega), BitVec.getLsbD_or, BitVec.getLsbD_shiftLeft, BitVec.getLsbD_ushiftRight]
    by_cases y : q < F
    · rw [if_pos (by omega)]; simp [y, hq]; congr 1; omega
    · have big : b1.toBitVec.getLsbD (64 - F + q) = false := BitVec.getLsbD_of_ge _ _ (by omega)
      rw [if_neg (by omega), big]; simp [y, hq]; congr 1; omega
theorem own_main0 (fr at_ len : Int32) (b0 b1 m x w : Int64) (u : Nat → Int64) (F A n : Nat) (hF : F < 64) (hA : A < 64) (hn : n ≤ 64) (hf : fr.toInt = F) (ha : at_.toInt = A) (hl : len = Int32.ofNat n) (hm : m = (if len = (0 : Int32) then (0 : Int64) else ((-1 : Int64) <<< (((64 : Int32) - len) &&& 0x3f).toInt64))) (hx : x = (if fr = (0 : Int32) then b0 else ((b0 <<< (fr &&& 0x3f).toInt64) ||| ((b1.toUInt64 >>> (((64 : Int32) - fr) &&& 0x3f).toInt64.toUInt64).toInt64)))) (hu : u 0 = w) :
    own_vec (own_by b0 b1) fr at_ u n 0 = (w ||| (((x &&& m).toUInt64 >>> (at_ &&& 0x3f).toInt64.toUInt64).toInt64)) := by
  rw [← Int64.toBitVec_inj]
  apply BitVec.eq_of_getLsbD_eq
  intro p hp
  rw [Bool.eq_iff_iff, own_vec_bit _ u hf ha hF hA 0 p hp n hn, hu, Int64.toBitVec_or, BitVec.getLsbD_or, own_lushrv _ ha hA, BitVec.getLsbD_ushiftRight, Bool.or_eq_true, Int64.toBitVec_and, BitVec.getLsbD_and, Bool.and_eq_true]
  refine or_congr Iff.rfl ?_
  by_cases y : A + p < 64
  · rw [own_srcb fr b0 b1 x F hF hf hx _ y, own_mb len m n hn hl hm _ y, decide_eq_true_eq]
    constructor
    · rintro ⟨i, hi, r1, r2, r3⟩
      rw [own_byN b0 b1 _ (by omega)] at r3
      refine ⟨?_, by omega⟩
      have : A + p + 64 - F = 127 - (F + i) := by omega
      rw [this]; exact r3
    · rintro ⟨r1, r2⟩
      refine ⟨63 - A - p, by omega, by omega, by omega, ?_⟩
      rw [own_byN b0 b1 _ (by omega)]
      have : 127 - (F + (63 - A - p)) = A + p + 64 - F := by omega
      rw [this]; exact r1
  · rw [BitVec.getLsbD_of_ge x.toBitVec _ (by omega)]
    constructor
    · rintro ⟨i, hi, r1, r2, r3⟩; omega
    · rintro ⟨r1, -⟩; cases r1
theorem own_main1 (fr at_ len : Int32) (b0 b1 m x w t1 : Int64) (u : Nat → Int64) (F A n : Nat) (hF : F < 64) (hA : A < 64) (hn : n ≤ 64) (hf : fr.toInt = F) (ha : at_.toInt = A) (hl : len = Int32.ofNat n) (hm : m = (if len = (0 : Int32) then (0 : Int64) else ((-1 : Int64) <<< (((64 : Int32) - len) &&& 0x3f).toInt64))) (hx : x = (if fr = (0 : Int32) then b0 else ((b0 <<< (fr &&& 0x3f).toInt64) ||| ((b1.toUInt64 >>> (((64 : Int32) - fr) &&& 0x3f).toInt64.toUInt64).toInt64)))) (hu : u 1 = w)
    (ht : t1 = (if at_ = (0 : Int32) then (0 : Int64) else ((x &&& m) <<< (((64 : Int32) - at_) &&& 0x3f).toInt64))) : own_vec (own_by b0 b1) fr at_ u n 1 = (w ||| t1) := by
  have o0 : (0 : Int32).toInt = 0 := rfl
  rw [← Int64.toBitVec_inj]
  apply BitVec.eq_of_getLsbD_eq
  intro p hp
  rw [Bool.eq_iff_iff, own_vec_bit _ u hf ha hF hA 1 p hp n hn, hu, Int64.toBitVec_or, BitVec.getLsbD_or, Bool.or_eq_true]
  refine or_congr Iff.rfl ?_
  by_cases z : A = 0
  · subst z
    rw [ht, if_pos (Int32.toInt_inj.mp (by rw [ha]; rfl))]
    constructor
    · rintro ⟨i, hi, r1, r2, r3⟩; omega
    · intro h; simp at h
  · have s := c_isub 64 at_
    have r := rng32 ((64 : Int32) - at_)
    have o64 : (64 : Int32).toInt = 64 := rfl
    rw [ha, o64] at s
    have v : ((64 : Int32) - at_).toInt = ((64 - A : Nat) : Int) := by omega
    rw [ht, if_neg (fun y => z (by rw [← Int32.toInt_inj, ha, o0] at y; omega)), own_lshlv _ v (by omega), BitVec.getLsbD_shiftLeft]
    by_cases y : p < 64 - A
    · constructor
      · rintro ⟨i, hi, r1, r2, r3⟩; omega
      · intro h; simp [y] at h
    · rw [Int64.toBitVec_and, BitVec.getLsbD_and, own_srcb fr b0 b1 x F hF hf hx _ (by omega), own_mb len m n hn hl hm _ (by omega)]
      simp only [hp, y, decide_true, decide_false, Bool.not_false, Bool.true_and, Bool.and_eq_true, decide_eq_true_eq]
      constructor
      · rintro ⟨i, hi, r1, r2, r3⟩
        rw [own_byN b0 b1 _ (by omega)] at r3
        refine ⟨?_, by omega⟩
        have : p - (64 - A) + 64 - F = 127 - (F + i) := by omega
        rw [this]; exact r3
      · rintro ⟨r1, r2⟩
        refine ⟨127 - A - p, by omega, by omega, by omega, ?_⟩
        rw [own_byN b0 b1 _ (by omega)]
        have : 127 - (F + (127 - A - p)) = p - (64 - A) + 64 - F := by omega
        rw [this]; exact r1

theorem own_63 (x : Int32) : ∃ K : Nat, K < 64 ∧ (x &&& (63 : Int32)).toInt = K := by
  have e := c_mask x 63 6 (by decide) (by decide)
  exact ⟨(x &&& (63 : Int32)).toInt.toNat, by omega, by omega⟩
theorem own_65 (x : Int32) : ∃ n : Nat, n ≤ 64 ∧ (((x.toUInt32 >>> ((12 : Int32) &&& 31).toUInt32).toInt32) % (65 : Int32)) = Int32.ofNat n := by
  have e := c_iushr x 12 12 (by decide) (by decide)
  have r := rng32 x
  have q := (c_irem ((x.toUInt32 >>> ((12 : Int32) &&& 31).toUInt32).toInt32) 65 65 (by decide)).1 (by omega)
  refine ⟨(((x.toUInt32 >>> ((12 : Int32) &&& 31).toUInt32).toInt32) % (65 : Int32)).toInt.toNat, by omega, Int32.toInt_inj.mp ?_⟩
  rw [Int32.toInt_ofNat_of_lt (by omega)]; omega
theorem pd_0 : parseMethodDescriptor "([BII[JI)V" = some ⟨[(.array .byte), .int, .int, (.array .long), .int], none⟩ := by decide +kernel
theorem pn_0 : plainName "org/hiddenfield/math/BitVectorsReadPinLaw" = true := by first | (simp [plainName, overriddenIn]; done) | decide +kernel
theorem ef_0 (m : MethodId) (x0 : Int64) (x1 : Int64) (x2 : Int64) (x3 : Int64) (x4 : Int32) : entryFrame m #[(.long x0), (.long x1), (.long x2), (.long x3), (.int x4)] maxLocals = mkF m 0 #[.val (.long x0), .second, .val (.long x1), .second, .val (.long x2), .second, .val (.long x3), .second, .val (.int x4), .unset, .unset, .unset, .unset, .unset, .unset, .unset, .unset, .unset, .unset, .unset, .unset, .unset, .unset, .unset, .unset, .unset, .unset, .unset, .unset, .unset, .unset, .unset] [] := by first | (simp [entryFrame, mkF, argsToLocals, Value.category, maxLocals]; done) | rfl
def Q0 (Z : State) (p0 : Int64) (p1 : Int64) (p2 : Int64) (p3 : Int64) (p4 : Int32) (h0 : Heap) (n0 : Nat) (v : Option Value) (h : Heap) (L : List Loc) : Prop := v = some (.int (1 : Int32)) ∧ Fr n0 L
set_option maxRecDepth 65536 in
set_option maxHeartbeats 40000000 in
theorem rm0 (l : Launch) (Z : State) (a0 : Array Value) (hw : ∀ d ∈ tables_1, d.before a0 Z = true) (ws : List Jvm.Cond) (p0 : Int64) (p1 : Int64) (p2 : Int64) (p3 : Int64) (p4 : Int32) (h0 : Heap) (n0 : Nat) (Z0 : n0 ≤ h0.size) :
    MetFree l x (head1 (Jvm.Cond.code x code maxLocals ret :: ws) room_1) (fun a U => a = #[(.long p0), (.long p1), (.long p2), (.long p3), (.int p4)] ∧ Z.Warmed39 U.vm ∧ U.heap = h0) (fun _ _ _ _ _ => True) (fun _ U o U' => ∃ v L, o = .returned v ∧ Q0 Z p0 p1 p2 p3 p4 h0 n0 v U'.heap L ∧ FrameEnd U o U' L room_1.cells room_1.slots) := by
  refine MetFree.of_bodySF (plainFor_of_name pn_0) hisR ?_
  intro p e s m args below meth c s₁ Bd hml0 hP hK
  obtain ⟨rfl, hZ, hh⟩ := hP
  have hx := Bd.exec
  have hby := Bd.bytes
  have hml : c.maxLocals = 32 := hml0
  have hown : s.vm.findClass "org/hiddenfield/math/BitVectorsReadPinLaw" = some m.cls := findClass_of_methodNamed Bd.named
  have hnm := (name_of_methodNamed Bd.named Bd.method).1
  have X0 : Stand p l e room_1 s m #[(.long p0), (.long p1), (.long p2), (.long p3), (.int p4)] below meth c s₁ [] 0 0 := Stand.of_body Bd
  have e0 : s₁.heap = h0 := by rw [← hh, Bd.state]; rfl
  have N0 := Fr.nil n0
  have pre0 : ∀ t, Steps p.tables e below (s₁.setTop (mkF m 0 #[.val (.long p0), .second, .val (.long p1), .second, .val (.long p2), .second, .val (.long p3), .second, .val (.int p4), .unset, .unset, .unset, .unset, .unset, .unset, .unset, .unset, .unset, .unset, .unset, .unset, .unset, .unset, .unset, .unset, .unset, .unset, .unset, .unset, .unset, .unset, .unset] [])) t → Steps p.tables e below (s₁.setTop (entryFrame m #[(.long p0), (.long p1), (.long p2), (.long p3), (.int p4)] maxLocals)) t := fun t k => castTop (ef_0 m p0 p1 p2 p3 p4) k
  have pre14 : ∀ t, Steps p.tables e below (s₁.setTop (mkF m 27 #[.val (.long p0), .second, .val (.long p1), .second, .val (.long p2), .second, .val (.long p3), .second, .val (.int p4), .val (.int (p4 &&& (63 : Int32))), .val (.int (((p4.toUInt32 >>> ((6 : Int32) &&& 31).toUInt32).toInt32) &&& (63 : Int32))), .val (.int (((p4.toUInt32 >>> ((12 : Int32) &&& 31).toUInt32).toInt32) % (65 : Int32))), .unset, .unset, .unset, .unset, .unset, .unset, .unset, .unset, .unset, .unset, .unset, .unset, .unset, .unset, .unset, .unset, .unset, .unset, .unset, .unset] [])) t → Steps p.tables e below (s₁.setTop (entryFrame m #[(.long p0), (.long p1), (.long p2), (.long p3), (.int p4)] maxLocals)) t := by
    intro t kont
    refine pre0 t ?_
    show Steps p.tables e below (s₁.setTop (mkF m 0 #[.val (.long p0), .second, .val (.long p1), .second, .val (.long p2), .second, .val (.long p3), .second, .val (.int p4), .unset, .unset, .unset, .unset, .unset, .unset, .unset, .unset, .unset, .unset, .unset, .unset, .unset, .unset, .unset, .unset, .unset, .unset, .unset, .unset, .unset, .unset, .unset] [])) _
    refine XS.iload X0.here hx rfl (hb hby at_0) rfl ?_
    show Steps p.tables e below (s₁.setTop (mkF m 2 #[.val (.long p0), .second, .val (.long p1), .second, .val (.long p2), .second, .val (.long p3), .second, .val (.int p4), .unset, .unset, .unset, .unset, .unset, .unset, .unset, .unset, .unset, .unset, .unset, .unset, .unset, .unset, .unset, .unset, .unset, .unset, .unset, .unset, .unset, .unset, .unset] [(.int p4)])) _
    refine XS.bipush X0.here hx rfl (hb hby at_2) ?_
    show Steps p.tables e below (s₁.setTop (mkF m 4 #[.val (.long p0), .second, .val (.long p1), .second, .val (.long p2), .second, .val (.long p3), .second, .val (.int p4), .unset, .unset, .unset, .unset, .unset, .unset, .unset, .unset, .unset, .unset, .unset, .unset, .unset, .unset, .unset, .unset, .unset, .unset, .unset, .unset, .unset, .unset, .unset] [(.int (63 : Int32)), (.int p4)])) _
    refine XS.iand X0.here hx rfl (hb hby at_4) rfl ?_
    show Steps p.tables e below (s₁.setTop (mkF m 5 #[.val (.long p0), .second, .val (.long p1), .second, .val (.long p2), .second, .val (.long p3), .second, .val (.int p4), .unset, .unset, .unset, .unset, .unset, .unset, .unset, .unset, .unset, .unset, .unset, .unset, .unset, .unset, .unset, .unset, .unset, .unset, .unset, .unset, .unset, .unset, .unset] [(.int (p4 &&& (63 : Int32)))])) _
    refine XS.istore X0.here hx rfl (hb hby at_5) rfl (l' := #[.val (.long p0), .second, .val (.long p1), .second, .val (.long p2), .second, .val (.long p3), .second, .val (.int p4), .val (.int (p4 &&& (63 : Int32))), .unset, .unset, .unset, .unset, .unset, .unset, .unset, .unset, .unset, .unset, .unset, .unset, .unset, .unset, .unset, .unset, .unset, .unset, .unset, .unset, .unset, .unset]) rfl ?_
    show Steps p.tables e below (s₁.setTop (mkF m 7 #[.val (.long p0), .second, .val (.long p1), .second, .val (.long p2), .second, .val (.long p3), .second, .val (.int p4), .val (.int (p4 &&& (63 : Int32))), .unset, .unset, .unset, .unset, .unset, .unset, .unset, .unset, .unset, .unset, .unset, .unset, .unset, .unset, .unset, .unset, .unset, .unset, .unset, .unset, .unset, .unset] [])) _
    refine XS.iload X0.here hx rfl (hb hby at_7) rfl ?_
    show Steps p.tables e below (s₁.setTop (mkF m 9 #[.val (.long p0), .second, .val (.long p1), .second, .val (.long p2), .second, .val (.long p3), .second, .val (.int p4), .val (.int (p4 &&& (63 : Int32))), .unset, .unset, .unset, .unset, .unset, .unset, .unset, .unset, .unset, .unset, .unset, .unset, .unset, .unset, .unset, .unset, .unset, .unset, .unset, .unset, .unset, .unset] [(.int p4)])) _
    refine XS.bipush X0.here hx rfl (hb hby at_9) ?_
    show Steps p.tables e below (s₁.setTop (mkF m 11 #[.val (.long p0), .second, .val (.long p1), .second, .val (.long p2), .second, .val (.long p3), .second, .val (.int p4), .val (.int (p4 &&& (63 : Int32))), .unset, .unset, .unset, .unset, .unset, .unset, .unset, .unset, .unset, .unset, .unset, .unset, .unset, .unset, .unset, .unset, .unset, .unset, .unset, .unset, .unset, .unset] [(.int (6 : Int32)), (.int p4)])) _
    refine XS.iushr X0.here hx rfl (hb hby at_11) rfl ?_
    show Steps p.tables e below (s₁.setTop (mkF m 12 #[.val (.long p0), .second, .val (.long p1), .second, .val (.long p2), .second, .val (.long p3), .second, .val (.int p4), .val (.int (p4 &&& (63 : Int32))), .unset, .unset, .unset, .unset, .unset, .unset, .unset, .unset, .unset, .unset, .unset, .unset, .unset, .unset, .unset, .unset, .unset, .unset, .unset, .unset, .unset, .unset] [(.int ((p4.toUInt32 >>> ((6 : Int32) &&& 31).toUInt32).toInt32))])) _
    refine XS.bipush X0.here hx rfl (hb hby at_12) ?_
    show Steps p.tables e below (s₁.setTop (mkF m 14 #[.val (.long p0), .second, .val (.long p1), .second, .val (.long p2), .second, .val (.long p3), .second, .val (.int p4), .val (.int (p4 &&& (63 : Int32))), .unset, .unset, .unset, .unset, .unset, .unset, .unset, .unset, .unset, .unset, .unset, .unset, .unset, .unset, .unset, .unset, .unset, .unset, .unset, .unset, .unset, .unset] [(.int (63 : Int32)), (.int ((p4.toUInt32 >>> ((6 : Int32) &&& 31).toUInt32).toInt32))])) _
    refine XS.iand X0.here hx rfl (hb hby at_14) rfl ?_
    show Steps p.tables e below (s₁.setTop (mkF m 15 #[.val (.long p0), .second, .val (.long p1), .second, .val (.long p2), .second, .val (.long p3), .second, .val (.int p4), .val (.int (p4 &&& (63 : Int32))), .unset, .unset, .unset, .unset, .unset, .unset, .unset, .unset, .unset, .unset, .unset, .unset, .unset, .unset, .unset, .unset, .unset, .unset, .unset, .unset, .unset, .unset] [(.int (((p4.toUInt32 >>> ((6 : Int32) &&& 31).toUInt32).toInt32) &&& (63 : Int32)))])) _
    refine XS.istore X0.here hx rfl (hb hby at_15) rfl (l' := #[.val (.long p0), .second, .val (.long p1), .second, .val (.long p2), .second, .val (.long p3), .second, .val (.int p4), .val (.int (p4 &&& (63 : Int32))), .val (.int (((p4.toUInt32 >>> ((6 : Int32) &&& 31).toUInt32).toInt32) &&& (63 : Int32))), .unset, .unset, .unset, .unset, .unset, .unset, .unset, .unset, .unset, .unset, .unset, .unset, .unset, .unset, .unset, .unset, .unset, .unset, .unset, .unset, .unset]) rfl ?_
    show Steps p.tables e below (s₁.setTop (mkF m 17 #[.val (.long p0), .second, .val (.long p1), .second, .val (.long p2), .second, .val (.long p3), .second, .val (.int p4), .val (.int (p4 &&& (63 : Int32))), .val (.int (((p4.toUInt32 >>> ((6 : Int32) &&& 31).toUInt32).toInt32) &&& (63 : Int32))), .unset, .unset, .unset, .unset, .unset, .unset, .unset, .unset, .unset, .unset, .unset, .unset, .unset, .unset, .unset, .unset, .unset, .unset, .unset, .unset, .unset] [])) _
    refine XS.iload X0.here hx rfl (hb hby at_17) rfl ?_
    show Steps p.tables e below (s₁.setTop (mkF m 19 #[.val (.long p0), .second, .val (.long p1), .second, .val (.long p2), .second, .val (.long p3), .second, .val (.int p4), .val (.int (p4 &&& (63 : Int32))), .val (.int (((p4.toUInt32 >>> ((6 : Int32) &&& 31).toUInt32).toInt32) &&& (63 : Int32))), .unset, .unset, .unset, .unset, .unset, .unset, .unset, .unset, .unset, .unset, .unset, .unset, .unset, .unset, .unset, .unset, .unset, .unset, .unset, .unset, .unset] [(.int p4)])) _
    refine XS.bipush X0.here hx rfl (hb hby at_19) ?_
    show Steps p.tables e below (s₁.setTop (mkF m 21 #[.val (.long p0), .second, .val (.long p1), .second, .val (.long p2), .second, .val (.long p3), .second, .val (.int p4), .val (.int (p4 &&& (63 : Int32))), .val (.int (((p4.toUInt32 >>> ((6 : Int32) &&& 31).toUInt32).toInt32) &&& (63 : Int32))), .unset, .unset, .unset, .unset, .unset, .unset, .unset, .unset, .unset, .unset, .unset, .unset, .unset, .unset, .unset, .unset, .unset, .unset, .unset, .unset, .unset] [(.int (12 : Int32)), (.int p4)])) _
    refine XS.iushr X0.here hx rfl (hb hby at_21) rfl ?_
    show Steps p.tables e below (s₁.setTop (mkF m 22 #[.val (.long p0), .second, .val (.long p1), .second, .val (.long p2), .second, .val (.long p3), .second, .val (.int p4), .val (.int (p4 &&& (63 : Int32))), .val (.int (((p4.toUInt32 >>> ((6 : Int32) &&& 31).toUInt32).toInt32) &&& (63 : Int32))), .unset, .unset, .unset, .unset, .unset, .unset, .unset, .unset, .unset, .unset, .unset, .unset, .unset, .unset, .unset, .unset, .unset, .unset, .unset, .unset, .unset] [(.int ((p4.toUInt32 >>> ((12 : Int32) &&& 31).toUInt32).toInt32))])) _
    refine XS.bipush X0.here hx rfl (hb hby at_22) ?_
    show Steps p.tables e below (s₁.setTop (mkF m 24 #[.val (.long p0), .second, .val (.long p1), .second, .val (.long p2), .second, .val (.long p3), .second, .val (.int p4), .val (.int (p4 &&& (63 : Int32))), .val (.int (((p4.toUInt32 >>> ((6 : Int32) &&& 31).toUInt32).toInt32) &&& (63 : Int32))), .unset, .unset, .unset, .unset, .unset, .unset, .unset, .unset, .unset, .unset, .unset, .unset, .unset, .unset, .unset, .unset, .unset, .unset, .unset, .unset, .unset] [(.int (65 : Int32)), (.int ((p4.toUInt32 >>> ((12 : Int32) &&& 31).toUInt32).toInt32))])) _
    refine iremM X0 hx rfl (hb hby at_24) rfl (by decide) ?_
    show Steps p.tables e below (s₁.setTop (mkF m 25 #[.val (.long p0), .second, .val (.long p1), .second, .val (.long p2), .second, .val (.long p3), .second, .val (.int p4), .val (.int (p4 &&& (63 : Int32))), .val (.int (((p4.toUInt32 >>> ((6 : Int32) &&& 31).toUInt32).toInt32) &&& (63 : Int32))), .unset, .unset, .unset, .unset, .unset, .unset, .unset, .unset, .unset, .unset, .unset, .unset, .unset, .unset, .unset, .unset, .unset, .unset, .unset, .unset, .unset] [(.int (((p4.toUInt32 >>> ((12 : Int32) &&& 31).toUInt32).toInt32) % (65 : Int32)))])) _
    refine XS.istore X0.here hx rfl (hb hby at_25) rfl (l' := #[.val (.long p0), .second, .val (.long p1), .second, .val (.long p2), .second, .val (.long p3), .second, .val (.int p4), .val (.int (p4 &&& (63 : Int32))), .val (.int (((p4.toUInt32 >>> ((6 : Int32) &&& 31).toUInt32).toInt32) &&& (63 : Int32))), .val (.int (((p4.toUInt32 >>> ((12 : Int32) &&& 31).toUInt32).toInt32) % (65 : Int32))), .unset, .unset, .unset, .unset, .unset, .unset, .unset, .unset, .unset, .unset, .unset, .unset, .unset, .unset, .unset, .unset, .unset, .unset, .unset, .unset]) rfl ?_
    exact kont
  obtain ⟨fr, hfr⟩ : ∃ z : Int32, z = (p4 &&& (63 : Int32)) := ⟨_, rfl⟩
  rw [← hfr] at pre14
  obtain ⟨at_, hat_⟩ : ∃ z : Int32, z = (((p4.toUInt32 >>> ((6 : Int32) &&& 31).toUInt32).toInt32) &&& (63 : Int32)) := ⟨_, rfl⟩
  rw [← hat_] at pre14
  obtain ⟨F, hF, hf⟩ := own_63 p4
  rw [← hfr] at hf
  obtain ⟨A, hA, ha⟩ := own_63 ((p4.toUInt32 >>> ((6 : Int32) &&& 31).toUInt32).toInt32)
  rw [← hat_] at ha
  obtain ⟨n, hn, hl⟩ := own_65 p4
  have rq15 : (((p4.toUInt32 >>> ((12 : Int32) &&& 31).toUInt32).toInt32) % (65 : Int32)) = (Int32.ofNat n) := hl
  rw [rq15] at pre14
  have pre16 : ∀ t, Steps p.tables e below (s₁.setTop (mkF m 29 #[.val (.long p0), .second, .val (.long p1), .second, .val (.long p2), .second, .val (.long p3), .second, .val (.int p4), .val (.int fr), .val (.int at_), .val (.int (Int32.ofNat n)), .unset, .unset, .unset, .unset, .unset, .unset, .unset, .unset, .unset, .unset, .unset, .unset, .unset, .unset, .unset, .unset, .unset, .unset, .unset, .unset] [(.int (16 : Int32))])) t → Steps p.tables e below (s₁.setTop (entryFrame m #[(.long p0), (.long p1), (.long p2), (.long p3), (.int p4)] maxLocals)) t := by
    intro t kont
    refine pre14 t ?_
    show Steps p.tables e below (s₁.setTop (mkF m 27 #[.val (.long p0), .second, .val (.long p1), .second, .val (.long p2), .second, .val (.long p3), .second, .val (.int p4), .val (.int fr), .val (.int at_), .val (.int (Int32.ofNat n)), .unset, .unset, .unset, .unset, .unset, .unset, .unset, .unset, .unset, .unset, .unset, .unset, .unset, .unset, .unset, .unset, .unset, .unset, .unset, .unset] [])) _
    refine XS.bipush X0.here hx rfl (hb hby at_27) ?_
    exact kont
  obtain ⟨T17, h17, k17, X17, e17, E17, A17, st17⟩ := newP X0 hx hZ (hw _ (List.mem_of_getElem? (i := 0) rfl)) e0 (g := (mkF m 29 #[.val (.long p0), .second, .val (.long p1), .second, .val (.long p2), .second, .val (.long p3), .second, .val (.int p4), .val (.int fr), .val (.int at_), .val (.int (Int32.ofNat n)), .unset, .unset, .unset, .unset, .unset, .unset, .unset, .unset, .unset, .unset, .unset, .unset, .unset, .unset, .unset, .unset, .unset, .unset, .unset, .unset] [(.int (16 : Int32))])) rfl (hb hby at_29) rfl (by decide) (cap := 16) (by decide) (by decide) (by decide) (by decide)
  obtain ⟨b29, g17⟩ : ∃ z, z = h0.size := ⟨_, rfl⟩
  rw [← g17] at A17 st17
  have g_b29 : n0 ≤ b29 := Nat.le_trans Z0 (Nat.le_of_eq g17.symm)
  have V17 := own_arr.newB A17 (i := 16) rfl
  have Z17 : n0 ≤ h17.size := Nat.le_trans Z0 E17.1
  have pre18 : ∀ t, Steps p.tables e below (T17.setTop (mkF m 31 #[.val (.long p0), .second, .val (.long p1), .second, .val (.long p2), .second, .val (.long p3), .second, .val (.int p4), .val (.int fr), .val (.int at_), .val (.int (Int32.ofNat n)), .unset, .unset, .unset, .unset, .unset, .unset, .unset, .unset, .unset, .unset, .unset, .unset, .unset, .unset, .unset, .unset, .unset, .unset, .unset, .unset] [(.ref b29)])) t → Steps p.tables e below (s₁.setTop (entryFrame m #[(.long p0), (.long p1), (.long p2), (.long p3), (.int p4)] maxLocals)) t := fun t kont => pre16 t (st17 _ kont)
  have pre19 : ∀ t, Steps p.tables e below (T17.setTop (mkF m 42 #[.val (.long p0), .second, .val (.long p1), .second, .val (.long p2), .second, .val (.long p3), .second, .val (.int p4), .val (.int fr), .val (.int at_), .val (.int (Int32.ofNat n)), .val (.ref b29), .unset, .unset, .unset, .unset, .unset, .unset, .unset, .unset, .unset, .unset, .unset, .unset, .unset, .unset, .unset, .unset, .unset, .unset, .unset] [(.int ((((p0.toUInt64 >>> ((56 : Int32) &&& 0x3f).toInt64.toUInt64).toInt64).toInt32).toInt8.toInt32)), (.int (0 : Int32)), (.ref b29)])) t → Steps p.tables e below (s₁.setTop (entryFrame m #[(.long p0), (.long p1), (.long p2), (.long p3), (.int p4)] maxLocals)) t := by
    intro t kont
    refine pre18 t ?_
    show Steps p.tables e below (T17.setTop (mkF m 31 #[.val (.long p0), .second, .val (.long p1), .second, .val (.long p2), .second, .val (.long p3), .second, .val (.int p4), .val (.int fr), .val (.int at_), .val (.int (Int32.ofNat n)), .unset, .unset, .unset, .unset, .unset, .unset, .unset, .unset, .unset, .unset, .unset, .unset, .unset, .unset, .unset, .unset, .unset, .unset, .unset, .unset] [(.ref b29)])) _
    refine XS.astore X17.here hx rfl (hb hby at_31) rfl rfl (l' := #[.val (.long p0), .second, .val (.long p1), .second, .val (.long p2), .second, .val (.long p3), .second, .val (.int p4), .val (.int fr), .val (.int at_), .val (.int (Int32.ofNat n)), .val (.ref b29), .unset, .unset, .unset, .unset, .unset, .unset, .unset, .unset, .unset, .unset, .unset, .unset, .unset, .unset, .unset, .unset, .unset, .unset, .unset]) rfl ?_
    show Steps p.tables e below (T17.setTop (mkF m 33 #[.val (.long p0), .second, .val (.long p1), .second, .val (.long p2), .second, .val (.long p3), .second, .val (.int p4), .val (.int fr), .val (.int at_), .val (.int (Int32.ofNat n)), .val (.ref b29), .unset, .unset, .unset, .unset, .unset, .unset, .unset, .unset, .unset, .unset, .unset, .unset, .unset, .unset, .unset, .unset, .unset, .unset, .unset] [])) _
    refine XS.aload X17.here hx rfl (hb hby at_33) rfl rfl ?_
    show Steps p.tables e below (T17.setTop (mkF m 35 #[.val (.long p0), .second, .val (.long p1), .second, .val (.long p2), .second, .val (.long p3), .second, .val (.int p4), .val (.int fr), .val (.int at_), .val (.int (Int32.ofNat n)), .val (.ref b29), .unset, .unset, .unset, .unset, .unset, .unset, .unset, .unset, .unset, .unset, .unset, .unset, .unset, .unset, .unset, .unset, .unset, .unset, .unset] [(.ref b29)])) _
    refine XS.iconst X17.here hx rfl (hb hby at_35) ?_
    show Steps p.tables e below (T17.setTop (mkF m 36 #[.val (.long p0), .second, .val (.long p1), .second, .val (.long p2), .second, .val (.long p3), .second, .val (.int p4), .val (.int fr), .val (.int at_), .val (.int (Int32.ofNat n)), .val (.ref b29), .unset, .unset, .unset, .unset, .unset, .unset, .unset, .unset, .unset, .unset, .unset, .unset, .unset, .unset, .unset, .unset, .unset, .unset, .unset] [(.int (0 : Int32)), (.ref b29)])) _
    refine XS.lloadN X17.here hx rfl (hb hby at_36) rfl ?_
    show Steps p.tables e below (T17.setTop (mkF m 37 #[.val (.long p0), .second, .val (.long p1), .second, .val (.long p2), .second, .val (.long p3), .second, .val (.int p4), .val (.int fr), .val (.int at_), .val (.int (Int32.ofNat n)), .val (.ref b29), .unset, .unset, .unset, .unset, .unset, .unset, .unset, .unset, .unset, .unset, .unset, .unset, .unset, .unset, .unset, .unset, .unset, .unset, .unset] [(.long p0), (.int (0 : Int32)), (.ref b29)])) _
    refine XS.bipush X17.here hx rfl (hb hby at_37) ?_
    show Steps p.tables e below (T17.setTop (mkF m 39 #[.val (.long p0), .second, .val (.long p1), .second, .val (.long p2), .second, .val (.long p3), .second, .val (.int p4), .val (.int fr), .val (.int at_), .val (.int (Int32.ofNat n)), .val (.ref b29), .unset, .unset, .unset, .unset, .unset, .unset, .unset, .unset, .unset, .unset, .unset, .unset, .unset, .unset, .unset, .unset, .unset, .unset, .unset] [(.int (56 : Int32)), (.long p0), (.int (0 : Int32)), (.ref b29)])) _
    refine XS.lushr X17.here hx rfl (hb hby at_39) rfl ?_
    show Steps p.tables e below (T17.setTop (mkF m 40 #[.val (.long p0), .second, .val (.long p1), .second, .val (.long p2), .second, .val (.long p3), .second, .val (.int p4), .val (.int fr), .val (.int at_), .val (.int (Int32.ofNat n)), .val (.ref b29), .unset, .unset, .unset, .unset, .unset, .unset, .unset, .unset, .unset, .unset, .unset, .unset, .unset, .unset, .unset, .unset, .unset, .unset, .unset] [(.long ((p0.toUInt64 >>> ((56 : Int32) &&& 0x3f).toInt64.toUInt64).toInt64)), (.int (0 : Int32)), (.ref b29)])) _
    refine XS.l2i X17.here hx rfl (hb hby at_40) rfl ?_
    show Steps p.tables e below (T17.setTop (mkF m 41 #[.val (.long p0), .second, .val (.long p1), .second, .val (.long p2), .second, .val (.long p3), .second, .val (.int p4), .val (.int fr), .val (.int at_), .val (.int (Int32.ofNat n)), .val (.ref b29), .unset, .unset, .unset, .unset, .unset, .unset, .unset, .unset, .unset, .unset, .unset, .unset, .unset, .unset, .unset, .unset, .unset, .unset, .unset] [(.int (((p0.toUInt64 >>> ((56 : Int32) &&& 0x3f).toInt64.toUInt64).toInt64).toInt32)), (.int (0 : Int32)), (.ref b29)])) _
    refine XS.i2b X17.here hx rfl (hb hby at_41) rfl ?_
    exact kont
  obtain ⟨T20, h20, X20, e20, W20, V20, st20⟩ := own_stB X17 hx hZ e17 V17 (k := 0) (by decide) (by decide) (by decide) (fr := (mkF m 42 #[.val (.long p0), .second, .val (.long p1), .second, .val (.long p2), .second, .val (.long p3), .second, .val (.int p4), .val (.int fr), .val (.int at_), .val (.int (Int32.ofNat n)), .val (.ref b29), .unset, .unset, .unset, .unset, .unset, .unset, .unset, .unset, .unset, .unset, .unset, .unset, .unset, .unset, .unset, .unset, .unset, .unset, .unset] [(.int ((((p0.toUInt64 >>> ((56 : Int32) &&& 0x3f).toInt64.toUInt64).toInt64).toInt32).toInt8.toInt32)), (.int (0 : Int32)), (.ref b29)])) rfl rfl (hb hby at_42)
  obtain ⟨u42, hu42⟩ : ∃ z : Nat → Int32, z = fun i => if i = 0 then ((((p0.toUInt64 >>> ((56 : Int32) &&& 0x3f).toInt64.toUInt64).toInt64).toInt32).toInt8.toInt32).toInt8.toInt32 else (fun _ => (0 : Int32)) i := ⟨_, rfl⟩
  replace V20 : own_arr Z h20 b29 .byte 16 (fun i => .int (u42 i)) := by rw [hu42]; exact V20
  have Z20 : n0 ≤ h20.size := Nat.le_trans Z17 (Keep.of_wr W20).1
  have N20 := Fr.snoc X20 N0 g_b29
  have pre21 : ∀ t, Steps p.tables e below (T20.setTop (mkF m 43 #[.val (.long p0), .second, .val (.long p1), .second, .val (.long p2), .second, .val (.long p3), .second, .val (.int p4), .val (.int fr), .val (.int at_), .val (.int (Int32.ofNat n)), .val (.ref b29), .unset, .unset, .unset, .unset, .unset, .unset, .unset, .unset, .unset, .unset, .unset, .unset, .unset, .unset, .unset, .unset, .unset, .unset, .unset] [])) t → Steps p.tables e below (s₁.setTop (entryFrame m #[(.long p0), (.long p1), (.long p2), (.long p3), (.int p4)] maxLocals)) t := fun t kont => pre19 t (st20 _ kont)
  have pre22 : ∀ t, Steps p.tables e below (T20.setTop (mkF m 52 #[.val (.long p0), .second, .val (.long p1), .second, .val (.long p2), .second, .val (.long p3), .second, .val (.int p4), .val (.int fr), .val (.int at_), .val (.int (Int32.ofNat n)), .val (.ref b29), .unset, .unset, .unset, .unset, .unset, .unset, .unset, .unset, .unset, .unset, .unset, .unset, .unset, .unset, .unset, .unset, .unset, .unset, .unset] [(.int ((((p0.toUInt64 >>> ((48 : Int32) &&& 0x3f).toInt64.toUInt64).toInt64).toInt32).toInt8.toInt32)), (.int (1 : Int32)), (.ref b29)])) t → Steps p.tables e below (s₁.setTop (entryFrame m #[(.long p0), (.long p1), (.long p2), (.long p3), (.int p4)] maxLocals)) t := by
    intro t kont
    refine pre21 t ?_
    show Steps p.tables e below (T20.setTop (mkF m 43 #[.val (.long p0), .second, .val (.long p1), .second, .val (.long p2), .second, .val (.long p3), .second, .val (.int p4), .val (.int fr), .val (.int at_), .val (.int (Int32.ofNat n)), .val (.ref b29), .unset, .unset, .unset, .unset, .unset, .unset, .unset, .unset, .unset, .unset, .unset, .unset, .unset, .unset, .unset, .unset, .unset, .unset, .unset] [])) _
    refine XS.aload X20.here hx rfl (hb hby at_43) rfl rfl ?_
    show Steps p.tables e below (T20.setTop (mkF m 45 #[.val (.long p0), .second, .val (.long p1), .second, .val (.long p2), .second, .val (.long p3), .second, .val (.int p4), .val (.int fr), .val (.int at_), .val (.int (Int32.ofNat n)), .val (.ref b29), .unset, .unset, .unset, .unset, .unset, .unset, .unset, .unset, .unset, .unset, .unset, .unset, .unset, .unset, .unset, .unset, .unset, .unset, .unset] [(.ref b29)])) _
    refine XS.iconst X20.here hx rfl (hb hby at_45) ?_
    show Steps p.tables e below (T20.setTop (mkF m 46 #[.val (.long p0), .second, .val (.long p1), .second, .val (.long p2), .second, .val (.long p3), .second, .val (.int p4), .val (.int fr), .val (.int at_), .val (.int (Int32.ofNat n)), .val (.ref b29), .unset, .unset, .unset, .unset, .unset, .unset, .unset, .unset, .unset, .unset, .unset, .unset, .unset, .unset, .unset, .unset, .unset, .unset, .unset] [(.int (1 : Int32)), (.ref b29)])) _
    refine XS.lloadN X20.here hx rfl (hb hby at_46) rfl ?_
    show Steps p.tables e below (T20.setTop (mkF m 47 #[.val (.long p0), .second, .val (.long p1), .second, .val (.long p2), .second, .val (.long p3), .second, .val (.int p4), .val (.int fr), .val (.int at_), .val (.int (Int32.ofNat n)), .val (.ref b29), .unset, .unset, .unset, .unset, .unset, .unset, .unset, .unset, .unset, .unset, .unset, .unset, .unset, .unset, .unset, .unset, .unset, .unset, .unset] [(.long p0), (.int (1 : Int32)), (.ref b29)])) _
    refine XS.bipush X20.here hx rfl (hb hby at_47) ?_
    show Steps p.tables e below (T20.setTop (mkF m 49 #[.val (.long p0), .second, .val (.long p1), .second, .val (.long p2), .second, .val (.long p3), .second, .val (.int p4), .val (.int fr), .val (.int at_), .val (.int (Int32.ofNat n)), .val (.ref b29), .unset, .unset, .unset, .unset, .unset, .unset, .unset, .unset, .unset, .unset, .unset, .unset, .unset, .unset, .unset, .unset, .unset, .unset, .unset] [(.int (48 : Int32)), (.long p0), (.int (1 : Int32)), (.ref b29)])) _
    refine XS.lushr X20.here hx rfl (hb hby at_49) rfl ?_
    show Steps p.tables e below (T20.setTop (mkF m 50 #[.val (.long p0), .second, .val (.long p1), .second, .val (.long p2), .second, .val (.long p3), .second, .val (.int p4), .val (.int fr), .val (.int at_), .val (.int (Int32.ofNat n)), .val (.ref b29), .unset, .unset, .unset, .unset, .unset, .unset, .unset, .unset, .unset, .unset, .unset, .unset, .unset, .unset, .unset, .unset, .unset, .unset, .unset] [(.long ((p0.toUInt64 >>> ((48 : Int32) &&& 0x3f).toInt64.toUInt64).toInt64)), (.int (1 : Int32)), (.ref b29)])) _
    refine XS.l2i X20.here hx rfl (hb hby at_50) rfl ?_
    show Steps p.tables e below (T20.setTop (mkF m 51 #[.val (.long p0), .second, .val (.long p1), .second, .val (.long p2), .second, .val (.long p3), .second, .val (.int p4), .val (.int fr), .val (.int at_), .val (.int (Int32.ofNat n)), .val (.ref b29), .unset, .unset, .unset, .unset, .unset, .unset, .unset, .unset, .unset, .unset, .unset, .unset, .unset, .unset, .unset, .unset, .unset, .unset, .unset] [(.int (((p0.toUInt64 >>> ((48 : Int32) &&& 0x3f).toInt64.toUInt64).toInt64).toInt32)), (.int (1 : Int32)), (.ref b29)])) _
    refine XS.i2b X20.here hx rfl (hb hby at_51) rfl ?_
    exact kont
  obtain ⟨T23, h23, X23, e23, W23, V23, st23⟩ := own_stB X20 hx hZ e20 V20 (k := 1) (by decide) (by decide) (by decide) (fr := (mkF m 52 #[.val (.long p0), .second, .val (.long p1), .second, .val (.long p2), .second, .val (.long p3), .second, .val (.int p4), .val (.int fr), .val (.int at_), .val (.int (Int32.ofNat n)), .val (.ref b29), .unset, .unset, .unset, .unset, .unset, .unset, .unset, .unset, .unset, .unset, .unset, .unset, .unset, .unset, .unset, .unset, .unset, .unset, .unset] [(.int ((((p0.toUInt64 >>> ((48 : Int32) &&& 0x3f).toInt64.toUInt64).toInt64).toInt32).toInt8.toInt32)), (.int (1 : Int32)), (.ref b29)])) rfl rfl (hb hby at_52)
  obtain ⟨u52, hu52⟩ : ∃ z : Nat → Int32, z = fun i => if i = 1 then ((((p0.toUInt64 >>> ((48 : Int32) &&& 0x3f).toInt64.toUInt64).toInt64).toInt32).toInt8.toInt32).toInt8.toInt32 else u42 i := ⟨_, rfl⟩
  replace V23 : own_arr Z h23 b29 .byte 16 (fun i => .int (u52 i)) := by rw [hu52]; exact V23
  have Z23 : n0 ≤ h23.size := Nat.le_trans Z20 (Keep.of_wr W23).1
  have N23 := Fr.snoc X23 N20 g_b29
  have pre24 : ∀ t, Steps p.tables e below (T23.setTop (mkF m 53 #[.val (.long p0), .second, .val (.long p1), .second, .val (.long p2), .second, .val (.long p3), .second, .val (.int p4), .val (.int fr), .val (.int at_), .val (.int (Int32.ofNat n)), .val (.ref b29), .unset, .unset, .unset, .unset, .unset, .unset, .unset, .unset, .unset, .unset, .unset, .unset, .unset, .unset, .unset, .unset, .unset, .unset, .unset] [])) t → Steps p.tables e below (s₁.setTop (entryFrame m #[(.long p0), (.long p1), (.long p2), (.long p3), (.int p4)] maxLocals)) t := fun t kont => pre22 t (st23 _ kont)
  have pre25 : ∀ t, Steps p.tables e below (T23.setTop (mkF m 62 #[.val (.long p0), .second, .val (.long p1), .second, .val (.long p2), .second, .val (.long p3), .second, .val (.int p4), .val (.int fr), .val (.int at_), .val (.int (Int32.ofNat n)), .val (.ref b29), .unset, .unset, .unset, .unset, .unset, .unset, .unset, .unset, .unset, .unset, .unset, .unset, .unset, .unset, .unset, .unset, .unset, .unset, .unset] [(.int ((((p0.toUInt64 >>> ((40 : Int32) &&& 0x3f).toInt64.toUInt64).toInt64).toInt32).toInt8.toInt32)), (.int (2 : Int32)), (.ref b29)])) t → Steps p.tables e below (s₁.setTop (entryFrame m #[(.long p0), (.long p1), (.long p2), (.long p3), (.int p4)] maxLocals)) t := by
    intro t kont
    refine pre24 t ?_
    show Steps p.tables e below (T23.setTop (mkF m 53 #[.val (.long p0), .second, .val (.long p1), .second, .val (.long p2), .second, .val (.long p3), .second, .val (.int p4), .val (.int fr), .val (.int at_), .val (.int (Int32.ofNat n)), .val (.ref b29), .unset, .unset, .unset, .unset, .unset, .unset, .unset, .unset, .unset, .unset, .unset, .unset, .unset, .unset, .unset, .unset, .unset, .unset, .unset] [])) _
    refine XS.aload X23.here hx rfl (hb hby at_53) rfl rfl ?_
    show Steps p.tables e below (T23.setTop (mkF m 55 #[.val (.long p0), .second, .val (.long p1), .second, .val (.long p2), .second, .val (.long p3), .second, .val (.int p4), .val (.int fr), .val (.int at_), .val (.int (Int32.ofNat n)), .val (.ref b29), .unset, .unset, .unset, .unset, .unset, .unset, .unset, .unset, .unset, .unset, .unset, .unset, .unset, .unset, .unset, .unset, .unset, .unset, .unset] [(.ref b29)])) _
    refine XS.iconst X23.here hx rfl (hb hby at_55) ?_
    show Steps p.tables e below (T23.setTop (mkF m 56 #[.val (.long p0), .second, .val (.long p1), .second, .val (.long p2), .second, .val (.long p3), .second, .val (.int p4), .val (.int fr), .val (.int at_), .val (.int (Int32.ofNat n)), .val (.ref b29), .unset, .unset, .unset, .unset, .unset, .unset, .unset, .unset, .unset, .unset, .unset, .unset, .unset, .unset, .unset, .unset, .unset, .unset, .unset] [(.int (2 : Int32)), (.ref b29)])) _
    refine XS.lloadN X23.here hx rfl (hb hby at_56) rfl ?_
    show Steps p.tables e below (T23.setTop (mkF m 57 #[.val (.long p0), .second, .val (.long p1), .second, .val (.long p2), .second, .val (.long p3), .second, .val (.int p4), .val (.int fr), .val (.int at_), .val (.int (Int32.ofNat n)), .val (.ref b29), .unset, .unset, .unset, .unset, .unset, .unset, .unset, .unset, .unset, .unset, .unset, .unset, .unset, .unset, .unset, .unset, .unset, .unset, .unset] [(.long p0), (.int (2 : Int32)), (.ref b29)])) _
    refine XS.bipush X23.here hx rfl (hb hby at_57) ?_
    show Steps p.tables e below (T23.setTop (mkF m 59 #[.val (.long p0), .second, .val (.long p1), .second, .val (.long p2), .second, .val (.long p3), .second, .val (.int p4), .val (.int fr), .val (.int at_), .val (.int (Int32.ofNat n)), .val (.ref b29), .unset, .unset, .unset, .unset, .unset, .unset, .unset, .unset, .unset, .unset, .unset, .unset, .unset, .unset, .unset, .unset, .unset, .unset, .unset] [(.int (40 : Int32)), (.long p0), (.int (2 : Int32)), (.ref b29)])) _
    refine XS.lushr X23.here hx rfl (hb hby at_59) rfl ?_
    show Steps p.tables e below (T23.setTop (mkF m 60 #[.val (.long p0), .second, .val (.long p1), .second, .val (.long p2), .second, .val (.long p3), .second, .val (.int p4), .val (.int fr), .val (.int at_), .val (.int (Int32.ofNat n)), .val (.ref b29), .unset, .unset, .unset, .unset, .unset, .unset, .unset, .unset, .unset, .unset, .unset, .unset, .unset, .unset, .unset, .unset, .unset, .unset, .unset] [(.long ((p0.toUInt64 >>> ((40 : Int32) &&& 0x3f).toInt64.toUInt64).toInt64)), (.int (2 : Int32)), (.ref b29)])) _
    refine XS.l2i X23.here hx rfl (hb hby at_60) rfl ?_
    show Steps p.tables e below (T23.setTop (mkF m 61 #[.val (.long p0), .second, .val (.long p1), .second, .val (.long p2), .second, .val (.long p3), .second, .val (.int p4), .val (.int fr), .val (.int at_), .val (.int (Int32.ofNat n)), .val (.ref b29), .unset, .unset, .unset, .unset, .unset, .unset, .unset, .unset, .unset, .unset, .unset, .unset, .unset, .unset, .unset, .unset, .unset, .unset, .unset] [(.int (((p0.toUInt64 >>> ((40 : Int32) &&& 0x3f).toInt64.toUInt64).toInt64).toInt32)), (.int (2 : Int32)), (.ref b29)])) _
    refine XS.i2b X23.here hx rfl (hb hby at_61) rfl ?_
    exact kont
  obtain ⟨T26, h26, X26, e26, W26, V26, st26⟩ := own_stB X23 hx hZ e23 V23 (k := 2) (by decide) (by decide) (by decide) (fr := (mkF m 62 #[.val (.long p0), .second, .val (.long p1), .second, .val (.long p2), .second, .val (.long p3), .second, .val (.int p4), .val (.int fr), .val (.int at_), .val (.int (Int32.ofNat n)), .val (.ref b29), .unset, .unset, .unset, .unset, .unset, .unset, .unset, .unset, .unset, .unset, .unset, .unset, .unset, .unset, .unset, .unset, .unset, .unset, .unset] [(.int ((((p0.toUInt64 >>> ((40 : Int32) &&& 0x3f).toInt64.toUInt64).toInt64).toInt32).toInt8.toInt32)), (.int (2 : Int32)), (.ref b29)])) rfl rfl (hb hby at_62)
  obtain ⟨u62, hu62⟩ : ∃ z : Nat → Int32, z = fun i => if i = 2 then ((((p0.toUInt64 >>> ((40 : Int32) &&& 0x3f).toInt64.toUInt64).toInt64).toInt32).toInt8.toInt32).toInt8.toInt32 else u52 i := ⟨_, rfl⟩
  replace V26 : own_arr Z h26 b29 .byte 16 (fun i => .int (u62 i)) := by rw [hu62]; exact V26
  have Z26 : n0 ≤ h26.size := Nat.le_trans Z23 (Keep.of_wr W26).1
  have N26 := Fr.snoc X26 N23 g_b29
  have pre27 : ∀ t, Steps p.tables e below (T26.setTop (mkF m 63 #[.val (.long p0), .second, .val (.long p1), .second, .val (.long p2), .second, .val (.long p3), .second, .val (.int p4), .val (.int fr), .val (.int at_), .val (.int (Int32.ofNat n)), .val (.ref b29), .unset, .unset, .unset, .unset, .unset, .unset, .unset, .unset, .unset, .unset, .unset, .unset, .unset, .unset, .unset, .unset, .unset, .unset, .unset] [])) t → Steps p.tables e below (s₁.setTop (entryFrame m #[(.long p0), (.long p1), (.long p2), (.long p3), (.int p4)] maxLocals)) t := fun t kont => pre25 t (st26 _ kont)
  have pre28 : ∀ t, Steps p.tables e below (T26.setTop (mkF m 72 #[.val (.long p0), .second, .val (.long p1), .second, .val (.long p2), .second, .val (.long p3), .second, .val (.int p4), .val (.int fr), .val (.int at_), .val (.int (Int32.ofNat n)), .val (.ref b29), .unset, .unset, .unset, .unset, .unset, .unset, .unset, .unset, .unset, .unset, .unset, .unset, .unset, .unset, .unset, .unset, .unset, .unset, .unset] [(.int ((((p0.toUInt64 >>> ((32 : Int32) &&& 0x3f).toInt64.toUInt64).toInt64).toInt32).toInt8.toInt32)), (.int (3 : Int32)), (.ref b29)])) t → Steps p.tables e below (s₁.setTop (entryFrame m #[(.long p0), (.long p1), (.long p2), (.long p3), (.int p4)] maxLocals)) t := by
    intro t kont
    refine pre27 t ?_
    show Steps p.tables e below (T26.setTop (mkF m 63 #[.val (.long p0), .second, .val (.long p1), .second, .val (.long p2), .second, .val (.long p3), .second, .val (.int p4), .val (.int fr), .val (.int at_), .val (.int (Int32.ofNat n)), .val (.ref b29), .unset, .unset, .unset, .unset, .unset, .unset, .unset, .unset, .unset, .unset, .unset, .unset, .unset, .unset, .unset, .unset, .unset, .unset, .unset] [])) _
    refine XS.aload X26.here hx rfl (hb hby at_63) rfl rfl ?_
    show Steps p.tables e below (T26.setTop (mkF m 65 #[.val (.long p0), .second, .val (.long p1), .second, .val (.long p2), .second, .val (.long p3), .second, .val (.int p4), .val (.int fr), .val (.int at_), .val (.int (Int32.ofNat n)), .val (.ref b29), .unset, .unset, .unset, .unset, .unset, .unset, .unset, .unset, .unset, .unset, .unset, .unset, .unset, .unset, .unset, .unset, .unset, .unset, .unset] [(.ref b29)])) _
    refine XS.iconst X26.here hx rfl (hb hby at_65) ?_
    show Steps p.tables e below (T26.setTop (mkF m 66 #[.val (.long p0), .second, .val (.long p1), .second, .val (.long p2), .second, .val (.long p3), .second, .val (.int p4), .val (.int fr), .val (.int at_), .val (.int (Int32.ofNat n)), .val (.ref b29), .unset, .unset, .unset, .unset, .unset, .unset, .unset, .unset, .unset, .unset, .unset, .unset, .unset, .unset, .unset, .unset, .unset, .unset, .unset] [(.int (3 : Int32)), (.ref b29)])) _
    refine XS.lloadN X26.here hx rfl (hb hby at_66) rfl ?_
    show Steps p.tables e below (T26.setTop (mkF m 67 #[.val (.long p0), .second, .val (.long p1), .second, .val (.long p2), .second, .val (.long p3), .second, .val (.int p4), .val (.int fr), .val (.int at_), .val (.int (Int32.ofNat n)), .val (.ref b29), .unset, .unset, .unset, .unset, .unset, .unset, .unset, .unset, .unset, .unset, .unset, .unset, .unset, .unset, .unset, .unset, .unset, .unset, .unset] [(.long p0), (.int (3 : Int32)), (.ref b29)])) _
    refine XS.bipush X26.here hx rfl (hb hby at_67) ?_
    show Steps p.tables e below (T26.setTop (mkF m 69 #[.val (.long p0), .second, .val (.long p1), .second, .val (.long p2), .second, .val (.long p3), .second, .val (.int p4), .val (.int fr), .val (.int at_), .val (.int (Int32.ofNat n)), .val (.ref b29), .unset, .unset, .unset, .unset, .unset, .unset, .unset, .unset, .unset, .unset, .unset, .unset, .unset, .unset, .unset, .unset, .unset, .unset, .unset] [(.int (32 : Int32)), (.long p0), (.int (3 : Int32)), (.ref b29)])) _
    refine XS.lushr X26.here hx rfl (hb hby at_69) rfl ?_
    show Steps p.tables e below (T26.setTop (mkF m 70 #[.val (.long p0), .second, .val (.long p1), .second, .val (.long p2), .second, .val (.long p3), .second, .val (.int p4), .val (.int fr), .val (.int at_), .val (.int (Int32.ofNat n)), .val (.ref b29), .unset, .unset, .unset, .unset, .unset, .unset, .unset, .unset, .unset, .unset, .unset, .unset, .unset, .unset, .unset, .unset, .unset, .unset, .unset] [(.long ((p0.toUInt64 >>> ((32 : Int32) &&& 0x3f).toInt64.toUInt64).toInt64)), (.int (3 : Int32)), (.ref b29)])) _
    refine XS.l2i X26.here hx rfl (hb hby at_70) rfl ?_
    show Steps p.tables e below (T26.setTop (mkF m 71 #[.val (.long p0), .second, .val (.long p1), .second, .val (.long p2), .second, .val (.long p3), .second, .val (.int p4), .val (.int fr), .val (.int at_), .val (.int (Int32.ofNat n)), .val (.ref b29), .unset, .unset, .unset, .unset, .unset, .unset, .unset, .unset, .unset, .unset, .unset, .unset, .unset, .unset, .unset, .unset, .unset, .unset, .unset] [(.int (((p0.toUInt64 >>> ((32 : Int32) &&& 0x3f).toInt64.toUInt64).toInt64).toInt32)), (.int (3 : Int32)), (.ref b29)])) _
    refine XS.i2b X26.here hx rfl (hb hby at_71) rfl ?_
    exact kont
  obtain ⟨T29, h29, X29, e29, W29, V29, st29⟩ := own_stB X26 hx hZ e26 V26 (k := 3) (by decide) (by decide) (by decide) (fr := (mkF m 72 #[.val (.long p0), .second, .val (.long p1), .second, .val (.long p2), .second, .val (.long p3), .second, .val (.int p4), .val (.int fr), .val (.int at_), .val (.int (Int32.ofNat n)), .val (.ref b29), .unset, .unset, .unset, .unset, .unset, .unset, .unset, .unset, .unset, .unset, .unset, .unset, .unset, .unset, .unset, .unset, .unset, .unset, .unset] [(.int ((((p0.toUInt64 >>> ((32 : Int32) &&& 0x3f).toInt64.toUInt64).toInt64).toInt32).toInt8.toInt32)), (.int (3 : Int32)), (.ref b29)])) rfl rfl (hb hby at_72)
  obtain ⟨u72, hu72⟩ : ∃ z : Nat → Int32, z = fun i => if i = 3 then ((((p0.toUInt64 >>> ((32 : Int32) &&& 0x3f).toInt64.toUInt64).toInt64).toInt32).toInt8.toInt32).toInt8.toInt32 else u62 i := ⟨_, rfl⟩
  replace V29 : own_arr Z h29 b29 .byte 16 (fun i => .int (u72 i)) := by rw [hu72]; exact V29
  have Z29 : n0 ≤ h29.size := Nat.le_trans Z26 (Keep.of_wr W29).1
  have N29 := Fr.snoc X29 N26 g_b29
  have pre30 : ∀ t, Steps p.tables e below (T29.setTop (mkF m 73 #[.val (.long p0), .second, .val (.long p1), .second, .val (.long p2), .second, .val (.long p3), .second, .val (.int p4), .val (.int fr), .val (.int at_), .val (.int (Int32.ofNat n)), .val (.ref b29), .unset, .unset, .unset, .unset, .unset, .unset, .unset, .unset, .unset, .unset, .unset, .unset, .unset, .unset, .unset, .unset, .unset, .unset, .unset] [])) t → Steps p.tables e below (s₁.setTop (entryFrame m #[(.long p0), (.long p1), (.long p2), (.long p3), (.int p4)] maxLocals)) t := fun t kont => pre28 t (st29 _ kont)
  have pre31 : ∀ t, Steps p.tables e below (T29.setTop (mkF m 82 #[.val (.long p0), .second, .val (.long p1), .second, .val (.long p2), .second, .val (.long p3), .second, .val (.int p4), .val (.int fr), .val (.int at_), .val (.int (Int32.ofNat n)), .val (.ref b29), .unset, .unset, .unset, .unset, .unset, .unset, .unset, .unset, .unset, .unset, .unset, .unset, .unset, .unset, .unset, .unset, .unset, .unset, .unset] [(.int ((((p0.toUInt64 >>> ((24 : Int32) &&& 0x3f).toInt64.toUInt64).toInt64).toInt32).toInt8.toInt32)), (.int (4 : Int32)), (.ref b29)])) t → Steps p.tables e below (s₁.setTop (entryFrame m #[(.long p0), (.long p1), (.long p2), (.long p3), (.int p4)] maxLocals)) t := by
    intro t kont
    refine pre30 t ?_
    show Steps p.tables e below (T29.setTop (mkF m 73 #[.val (.long p0), .second, .val (.long p1), .second, .val (.long p2), .second, .val (.long p3), .second, .val (.int p4), .val (.int fr), .val (.int at_), .val (.int (Int32.ofNat n)), .val (.ref b29), .unset, .unset, .unset, .unset, .unset, .unset, .unset, .unset, .unset, .unset, .unset, .unset, .unset, .unset, .unset, .unset, .unset, .unset, .unset] [])) _
    refine XS.aload X29.here hx rfl (hb hby at_73) rfl rfl ?_
    show Steps p.tables e below (T29.setTop (mkF m 75 #[.val (.long p0), .second, .val (.long p1), .second, .val (.long p2), .second, .val (.long p3), .second, .val (.int p4), .val (.int fr), .val (.int at_), .val (.int (Int32.ofNat n)), .val (.ref b29), .unset, .unset, .unset, .unset, .unset, .unset, .unset, .unset, .unset, .unset, .unset, .unset, .unset, .unset, .unset, .unset, .unset, .unset, .unset] [(.ref b29)])) _
    refine XS.iconst X29.here hx rfl (hb hby at_75) ?_
    show Steps p.tables e below (T29.setTop (mkF m 76 #[.val (.long p0), .second, .val (.long p1), .second, .val (.long p2), .second, .val (.long p3), .second, .val (.int p4), .val (.int fr), .val (.int at_), .val (.int (Int32.ofNat n)), .val (.ref b29), .unset, .unset, .unset, .unset, .unset, .unset, .unset, .unset, .unset, .unset, .unset, .unset, .unset, .unset, .unset, .unset, .unset, .unset, .unset] [(.int (4 : Int32)), (.ref b29)])) _
    refine XS.lloadN X29.here hx rfl (hb hby at_76) rfl ?_
    show Steps p.tables e below (T29.setTop (mkF m 77 #[.val (.long p0), .second, .val (.long p1), .second, .val (.long p2), .second, .val (.long p3), .second, .val (.int p4), .val (.int fr), .val (.int at_), .val (.int (Int32.ofNat n)), .val (.ref b29), .unset, .unset, .unset, .unset, .unset, .unset, .unset, .unset, .unset, .unset, .unset, .unset, .unset, .unset, .unset, .unset, .unset, .unset, .unset] [(.long p0), (.int (4 : Int32)), (.ref b29)])) _
    refine XS.bipush X29.here hx rfl (hb hby at_77) ?_
    show Steps p.tables e below (T29.setTop (mkF m 79 #[.val (.long p0), .second, .val (.long p1), .second, .val (.long p2), .second, .val (.long p3), .second, .val (.int p4), .val (.int fr), .val (.int at_), .val (.int (Int32.ofNat n)), .val (.ref b29), .unset, .unset, .unset, .unset, .unset, .unset, .unset, .unset, .unset, .unset, .unset, .unset, .unset, .unset, .unset, .unset, .unset, .unset, .unset] [(.int (24 : Int32)), (.long p0), (.int (4 : Int32)), (.ref b29)])) _
    refine XS.lushr X29.here hx rfl (hb hby at_79) rfl ?_
    show Steps p.tables e below (T29.setTop (mkF m 80 #[.val (.long p0), .second, .val (.long p1), .second, .val (.long p2), .second, .val (.long p3), .second, .val (.int p4), .val (.int fr), .val (.int at_), .val (.int (Int32.ofNat n)), .val (.ref b29), .unset, .unset, .unset, .unset, .unset, .unset, .unset, .unset, .unset, .unset, .unset, .unset, .unset, .unset, .unset, .unset, .unset, .unset, .unset] [(.long ((p0.toUInt64 >>> ((24 : Int32) &&& 0x3f).toInt64.toUInt64).toInt64)), (.int (4 : Int32)), (.ref b29)])) _
    refine XS.l2i X29.here hx rfl (hb hby at_80) rfl ?_
    show Steps p.tables e below (T29.setTop (mkF m 81 #[.val (.long p0), .second, .val (.long p1), .second, .val (.long p2), .second, .val (.long p3), .second, .val (.int p4), .val (.int fr), .val (.int at_), .val (.int (Int32.ofNat n)), .val (.ref b29), .unset, .unset, .unset, .unset, .unset, .unset, .unset, .unset, .unset, .unset, .unset, .unset, .unset, .unset, .unset, .unset, .unset, .unset, .unset] [(.int (((p0.toUInt64 >>> ((24 : Int32) &&& 0x3f).toInt64.toUInt64).toInt64).toInt32)), (.int (4 : Int32)), (.ref b29)])) _
    refine XS.i2b X29.here hx rfl (hb hby at_81) rfl ?_
    exact kont
  obtain ⟨T32, h32, X32, e32, W32, V32, st32⟩ := own_stB X29 hx hZ e29 V29 (k := 4) (by decide) (by decide) (by decide) (fr := (mkF m 82 #[.val (.long p0), .second, .val (.long p1), .second, .val (.long p2), .second, .val (.long p3), .second, .val (.int p4), .val (.int fr), .val (.int at_), .val (.int (Int32.ofNat n)), .val (.ref b29), .unset, .unset, .unset, .unset, .unset, .unset, .unset, .unset, .unset, .unset, .unset, .unset, .unset, .unset, .unset, .unset, .unset, .unset, .unset] [(.int ((((p0.toUInt64 >>> ((24 : Int32) &&& 0x3f).toInt64.toUInt64).toInt64).toInt32).toInt8.toInt32)), (.int (4 : Int32)), (.ref b29)])) rfl rfl (hb hby at_82)
  obtain ⟨u82, hu82⟩ : ∃ z : Nat → Int32, z = fun i => if i = 4 then ((((p0.toUInt64 >>> ((24 : Int32) &&& 0x3f).toInt64.toUInt64).toInt64).toInt32).toInt8.toInt32).toInt8.toInt32 else u72 i := ⟨_, rfl⟩
  replace V32 : own_arr Z h32 b29 .byte 16 (fun i => .int (u82 i)) := by rw [hu82]; exact V32
  have Z32 : n0 ≤ h32.size := Nat.le_trans Z29 (Keep.of_wr W32).1
  have N32 := Fr.snoc X32 N29 g_b29
  have pre33 : ∀ t, Steps p.tables e below (T32.setTop (mkF m 83 #[.val (.long p0), .second, .val (.long p1), .second, .val (.long p2), .second, .val (.long p3), .second, .val (.int p4), .val (.int fr), .val (.int at_), .val (.int (Int32.ofNat n)), .val (.ref b29), .unset, .unset, .unset, .unset, .unset, .unset, .unset, .unset, .unset, .unset, .unset, .unset, .unset, .unset, .unset, .unset, .unset, .unset, .unset] [])) t → Steps p.tables e below (s₁.setTop (entryFrame m #[(.long p0), (.long p1), (.long p2), (.long p3), (.int p4)] maxLocals)) t := fun t kont => pre31 t (st32 _ kont)
  have pre34 : ∀ t, Steps p.tables e below (T32.setTop (mkF m 92 #[.val (.long p0), .second, .val (.long p1), .second, .val (.long p2), .second, .val (.long p3), .second, .val (.int p4), .val (.int fr), .val (.int at_), .val (.int (Int32.ofNat n)), .val (.ref b29), .unset, .unset, .unset, .unset, .unset, .unset, .unset, .unset, .unset, .unset, .unset, .unset, .unset, .unset, .unset, .unset, .unset, .unset, .unset] [(.int ((((p0.toUInt64 >>> ((16 : Int32) &&& 0x3f).toInt64.toUInt64).toInt64).toInt32).toInt8.toInt32)), (.int (5 : Int32)), (.ref b29)])) t → Steps p.tables e below (s₁.setTop (entryFrame m #[(.long p0), (.long p1), (.long p2), (.long p3), (.int p4)] maxLocals)) t := by
    intro t kont
    refine pre33 t ?_
    show Steps p.tables e below (T32.setTop (mkF m 83 #[.val (.long p0), .second, .val (.long p1), .second, .val (.long p2), .second, .val (.long p3), .second, .val (.int p4), .val (.int fr), .val (.int at_), .val (.int (Int32.ofNat n)), .val (.ref b29), .unset, .unset, .unset, .unset, .unset, .unset, .unset, .unset, .unset, .unset, .unset, .unset, .unset, .unset, .unset, .unset, .unset, .unset, .unset] [])) _
    refine XS.aload X32.here hx rfl (hb hby at_83) rfl rfl ?_
    show Steps p.tables e below (T32.setTop (mkF m 85 #[.val (.long p0), .second, .val (.long p1), .second, .val (.long p2), .second, .val (.long p3), .second, .val (.int p4), .val (.int fr), .val (.int at_), .val (.int (Int32.ofNat n)), .val (.ref b29), .unset, .unset, .unset, .unset, .unset, .unset, .unset, .unset, .unset, .unset, .unset, .unset, .unset, .unset, .unset, .unset, .unset, .unset, .unset] [(.ref b29)])) _
    refine XS.iconst X32.here hx rfl (hb hby at_85) ?_
    show Steps p.tables e below (T32.setTop (mkF m 86 #[.val (.long p0), .second, .val (.long p1), .second, .val (.long p2), .second, .val (.long p3), .second, .val (.int p4), .val (.int fr), .val (.int at_), .val (.int (Int32.ofNat n)), .val (.ref b29), .unset, .unset, .unset, .unset, .unset, .unset, .unset, .unset, .unset, .unset, .unset, .unset, .unset, .unset, .unset, .unset, .unset, .unset, .unset] [(.int (5 : Int32)), (.ref b29)])) _
    refine XS.lloadN X32.here hx rfl (hb hby at_86) rfl ?_
    show Steps p.tables e below (T32.setTop (mkF m 87 #[.val (.long p0), .second, .val (.long p1), .second, .val (.long p2), .second, .val (.long p3), .second, .val (.int p4), .val (.int fr), .val (.int at_), .val (.int (Int32.ofNat n)), .val (.ref b29), .unset, .unset, .unset, .unset, .unset, .unset, .unset, .unset, .unset, .unset, .unset, .unset, .unset, .unset, .unset, .unset, .unset, .unset, .unset] [(.long p0), (.int (5 : Int32)), (.ref b29)])) _
    refine XS.bipush X32.here hx rfl (hb hby at_87) ?_
    show Steps p.tables e below (T32.setTop (mkF m 89 #[.val (.long p0), .second, .val (.long p1), .second, .val (.long p2), .second, .val (.long p3), .second, .val (.int p4), .val (.int fr), .val (.int at_), .val (.int (Int32.ofNat n)), .val (.ref b29), .unset, .unset, .unset, .unset, .unset, .unset, .unset, .unset, .unset, .unset, .unset, .unset, .unset, .unset, .unset, .unset, .unset, .unset, .unset] [(.int (16 : Int32)), (.long p0), (.int (5 : Int32)), (.ref b29)])) _
    refine XS.lushr X32.here hx rfl (hb hby at_89) rfl ?_
    show Steps p.tables e below (T32.setTop (mkF m 90 #[.val (.long p0), .second, .val (.long p1), .second, .val (.long p2), .second, .val (.long p3), .second, .val (.int p4), .val (.int fr), .val (.int at_), .val (.int (Int32.ofNat n)), .val (.ref b29), .unset, .unset, .unset, .unset, .unset, .unset, .unset, .unset, .unset, .unset, .unset, .unset, .unset, .unset, .unset, .unset, .unset, .unset, .unset] [(.long ((p0.toUInt64 >>> ((16 : Int32) &&& 0x3f).toInt64.toUInt64).toInt64)), (.int (5 : Int32)), (.ref b29)])) _
    refine XS.l2i X32.here hx rfl (hb hby at_90) rfl ?_
    show Steps p.tables e below (T32.setTop (mkF m 91 #[.val (.long p0), .second, .val (.long p1), .second, .val (.long p2), .second, .val (.long p3), .second, .val (.int p4), .val (.int fr), .val (.int at_), .val (.int (Int32.ofNat n)), .val (.ref b29), .unset, .unset, .unset, .unset, .unset, .unset, .unset, .unset, .unset, .unset, .unset, .unset, .unset, .unset, .unset, .unset, .unset, .unset, .unset] [(.int (((p0.toUInt64 >>> ((16 : Int32) &&& 0x3f).toInt64.toUInt64).toInt64).toInt32)), (.int (5 : Int32)), (.ref b29)])) _
    refine XS.i2b X32.here hx rfl (hb hby at_91) rfl ?_
    exact kont
  obtain ⟨T35, h35, X35, e35, W35, V35, st35⟩ := own_stB X32 hx hZ e32 V32 (k := 5) (by decide) (by decide) (by decide) (fr := (mkF m 92 #[.val (.long p0), .second, .val (.long p1), .second, .val (.long p2), .second, .val (.long p3), .second, .val (.int p4), .val (.int fr), .val (.int at_), .val (.int (Int32.ofNat n)), .val (.ref b29), .unset, .unset, .unset, .unset, .unset, .unset, .unset, .unset, .unset, .unset, .unset, .unset, .unset, .unset, .unset, .unset, .unset, .unset, .unset] [(.int ((((p0.toUInt64 >>> ((16 : Int32) &&& 0x3f).toInt64.toUInt64).toInt64).toInt32).toInt8.toInt32)), (.int (5 : Int32)), (.ref b29)])) rfl rfl (hb hby at_92)
  obtain ⟨u92, hu92⟩ : ∃ z : Nat → Int32, z = fun i => if i = 5 then ((((p0.toUInt64 >>> ((16 : Int32) &&& 0x3f).toInt64.toUInt64).toInt64).toInt32).toInt8.toInt32).toInt8.toInt32 else u82 i := ⟨_, rfl⟩
  replace V35 : own_arr Z h35 b29 .byte 16 (fun i => .int (u92 i)) := by rw [hu92]; exact V35
  have Z35 : n0 ≤ h35.size := Nat.le_trans Z32 (Keep.of_wr W35).1
  have N35 := Fr.snoc X35 N32 g_b29
  have pre36 : ∀ t, Steps p.tables e below (T35.setTop (mkF m 93 #[.val (.long p0), .second, .val (.long p1), .second, .val (.long p2), .second, .val (.long p3), .second, .val (.int p4), .val (.int fr), .val (.int at_), .val (.int (Int32.ofNat n)), .val (.ref b29), .unset, .unset, .unset, .unset, .unset, .unset, .unset, .unset, .unset, .unset, .unset, .unset, .unset, .unset, .unset, .unset, .unset, .unset, .unset] [])) t → Steps p.tables e below (s₁.setTop (entryFrame m #[(.long p0), (.long p1), (.long p2), (.long p3), (.int p4)] maxLocals)) t := fun t kont => pre34 t (st35 _ kont)
  have pre37 : ∀ t, Steps p.tables e below (T35.setTop (mkF m 103 #[.val (.long p0), .second, .val (.long p1), .second, .val (.long p2), .second, .val (.long p3), .second, .val (.int p4), .val (.int fr), .val (.int at_), .val (.int (Int32.ofNat n)), .val (.ref b29), .unset, .unset, .unset, .unset, .unset, .unset, .unset, .unset, .unset, .unset, .unset, .unset, .unset, .unset, .unset, .unset, .unset, .unset, .unset] [(.int ((((p0.toUInt64 >>> ((8 : Int32) &&& 0x3f).toInt64.toUInt64).toInt64).toInt32).toInt8.toInt32)), (.int (6 : Int32)), (.ref b29)])) t → Steps p.tables e below (s₁.setTop (entryFrame m #[(.long p0), (.long p1), (.long p2), (.long p3), (.int p4)] maxLocals)) t := by
    intro t kont
    refine pre36 t ?_
    show Steps p.tables e below (T35.setTop (mkF m 93 #[.val (.long p0), .second, .val (.long p1), .second, .val (.long p2), .second, .val (.long p3), .second, .val (.int p4), .val (.int fr), .val (.int at_), .val (.int (Int32.ofNat n)), .val (.ref b29), .unset, .unset, .unset, .unset, .unset, .unset, .unset, .unset, .unset, .unset, .unset, .unset, .unset, .unset, .unset, .unset, .unset, .unset, .unset] [])) _
    refine XS.aload X35.here hx rfl (hb hby at_93) rfl rfl ?_
    show Steps p.tables e below (T35.setTop (mkF m 95 #[.val (.long p0), .second, .val (.long p1), .second, .val (.long p2), .second, .val (.long p3), .second, .val (.int p4), .val (.int fr), .val (.int at_), .val (.int (Int32.ofNat n)), .val (.ref b29), .unset, .unset, .unset, .unset, .unset, .unset, .unset, .unset, .unset, .unset, .unset, .unset, .unset, .unset, .unset, .unset, .unset, .unset, .unset] [(.ref b29)])) _
    refine XS.bipush X35.here hx rfl (hb hby at_95) ?_
    show Steps p.tables e below (T35.setTop (mkF m 97 #[.val (.long p0), .second, .val (.long p1), .second, .val (.long p2), .second, .val (.long p3), .second, .val (.int p4), .val (.int fr), .val (.int at_), .val (.int (Int32.ofNat n)), .val (.ref b29), .unset, .unset, .unset, .unset, .unset, .unset, .unset, .unset, .unset, .unset, .unset, .unset, .unset, .unset, .unset, .unset, .unset, .unset, .unset] [(.int (6 : Int32)), (.ref b29)])) _
    refine XS.lloadN X35.here hx rfl (hb hby at_97) rfl ?_
    show Steps p.tables e below (T35.setTop (mkF m 98 #[.val (.long p0), .second, .val (.long p1), .second, .val (.long p2), .second, .val (.long p3), .second, .val (.int p4), .val (.int fr), .val (.int at_), .val (.int (Int32.ofNat n)), .val (.ref b29), .unset, .unset, .unset, .unset, .unset, .unset, .unset, .unset, .unset, .unset, .unset, .unset, .unset, .unset, .unset, .unset, .unset, .unset, .unset] [(.long p0), (.int (6 : Int32)), (.ref b29)])) _
    refine XS.bipush X35.here hx rfl (hb hby at_98) ?_
    show Steps p.tables e below (T35.setTop (mkF m 100 #[.val (.long p0), .second, .val (.long p1), .second, .val (.long p2), .second, .val (.long p3), .second, .val (.int p4), .val (.int fr), .val (.int at_), .val (.int (Int32.ofNat n)), .val (.ref b29), .unset, .unset, .unset, .unset, .unset, .unset, .unset, .unset, .unset, .unset, .unset, .unset, .unset, .unset, .unset, .unset, .unset, .unset, .unset] [(.int (8 : Int32)), (.long p0), (.int (6 : Int32)), (.ref b29)])) _
    refine XS.lushr X35.here hx rfl (hb hby at_100) rfl ?_
    show Steps p.tables e below (T35.setTop (mkF m 101 #[.val (.long p0), .second, .val (.long p1), .second, .val (.long p2), .second, .val (.long p3), .second, .val (.int p4), .val (.int fr), .val (.int at_), .val (.int (Int32.ofNat n)), .val (.ref b29), .unset, .unset, .unset, .unset, .unset, .unset, .unset, .unset, .unset, .unset, .unset, .unset, .unset, .unset, .unset, .unset, .unset, .unset, .unset] [(.long ((p0.toUInt64 >>> ((8 : Int32) &&& 0x3f).toInt64.toUInt64).toInt64)), (.int (6 : Int32)), (.ref b29)])) _
    refine XS.l2i X35.here hx rfl (hb hby at_101) rfl ?_
    show Steps p.tables e below (T35.setTop (mkF m 102 #[.val (.long p0), .second, .val (.long p1), .second, .val (.long p2), .second, .val (.long p3), .second, .val (.int p4), .val (.int fr), .val (.int at_), .val (.int (Int32.ofNat n)), .val (.ref b29), .unset, .unset, .unset, .unset, .unset, .unset, .unset, .unset, .unset, .unset, .unset, .unset, .unset, .unset, .unset, .unset, .unset, .unset, .unset] [(.int (((p0.toUInt64 >>> ((8 : Int32) &&& 0x3f).toInt64.toUInt64).toInt64).toInt32)), (.int (6 : Int32)), (.ref b29)])) _
    refine XS.i2b X35.here hx rfl (hb hby at_102) rfl ?_
    exact kont
  obtain ⟨T38, h38, X38, e38, W38, V38, st38⟩ := own_stB X35 hx hZ e35 V35 (k := 6) (by decide) (by decide) (by decide) (fr := (mkF m 103 #[.val (.long p0), .second, .val (.long p1), .second, .val (.long p2), .second, .val (.long p3), .second, .val (.int p4), .val (.int fr), .val (.int at_), .val (.int (Int32.ofNat n)), .val (.ref b29), .unset, .unset, .unset, .unset, .unset, .unset, .unset, .unset, .unset, .unset, .unset, .unset, .unset, .unset, .unset, .unset, .unset, .unset, .unset] [(.int ((((p0.toUInt64 >>> ((8 : Int32) &&& 0x3f).toInt64.toUInt64).toInt64).toInt32).toInt8.toInt32)), (.int (6 : Int32)), (.ref b29)])) rfl rfl (hb hby at_103)
  obtain ⟨u103, hu103⟩ : ∃ z : Nat → Int32, z = fun i => if i = 6 then ((((p0.toUInt64 >>> ((8 : Int32) &&& 0x3f).toInt64.toUInt64).toInt64).toInt32).toInt8.toInt32).toInt8.toInt32 else u92 i := ⟨_, rfl⟩
  replace V38 : own_arr Z h38 b29 .byte 16 (fun i => .int (u103 i)) := by rw [hu103]; exact V38
  have Z38 : n0 ≤ h38.size := Nat.le_trans Z35 (Keep.of_wr W38).1
  have N38 := Fr.snoc X38 N35 g_b29
  have pre39 : ∀ t, Steps p.tables e below (T38.setTop (mkF m 104 #[.val (.long p0), .second, .val (.long p1), .second, .val (.long p2), .second, .val (.long p3), .second, .val (.int p4), .val (.int fr), .val (.int at_), .val (.int (Int32.ofNat n)), .val (.ref b29), .unset, .unset, .unset, .unset, .unset, .unset, .unset, .unset, .unset, .unset, .unset, .unset, .unset, .unset, .unset, .unset, .unset, .unset, .unset] [])) t → Steps p.tables e below (s₁.setTop (entryFrame m #[(.long p0), (.long p1), (.long p2), (.long p3), (.int p4)] maxLocals)) t := fun t kont => pre37 t (st38 _ kont)
  have pre40 : ∀ t, Steps p.tables e below (T38.setTop (mkF m 111 #[.val (.long p0), .second, .val (.long p1), .second, .val (.long p2), .second, .val (.long p3), .second, .val (.int p4), .val (.int fr), .val (.int at_), .val (.int (Int32.ofNat n)), .val (.ref b29), .unset, .unset, .unset, .unset, .unset, .unset, .unset, .unset, .unset, .unset, .unset, .unset, .unset, .unset, .unset, .unset, .unset, .unset, .unset] [(.int ((p0.toInt32).toInt8.toInt32)), (.int (7 : Int32)), (.ref b29)])) t → Steps p.tables e below (s₁.setTop (entryFrame m #[(.long p0), (.long p1), (.long p2), (.long p3), (.int p4)] maxLocals)) t := by
    intro t kont
    refine pre39 t ?_
    show Steps p.tables e below (T38.setTop (mkF m 104 #[.val (.long p0), .second, .val (.long p1), .second, .val (.long p2), .second, .val (.long p3), .second, .val (.int p4), .val (.int fr), .val (.int at_), .val (.int (Int32.ofNat n)), .val (.ref b29), .unset, .unset, .unset, .unset, .unset, .unset, .unset, .unset, .unset, .unset, .unset, .unset, .unset, .unset, .unset, .unset, .unset, .unset, .unset] [])) _
    refine XS.aload X38.here hx rfl (hb hby at_104) rfl rfl ?_
    show Steps p.tables e below (T38.setTop (mkF m 106 #[.val (.long p0), .second, .val (.long p1), .second, .val (.long p2), .second, .val (.long p3), .second, .val (.int p4), .val (.int fr), .val (.int at_), .val (.int (Int32.ofNat n)), .val (.ref b29), .unset, .unset, .unset, .unset, .unset, .unset, .unset, .unset, .unset, .unset, .unset, .unset, .unset, .unset, .unset, .unset, .unset, .unset, .unset] [(.ref b29)])) _
    refine XS.bipush X38.here hx rfl (hb hby at_106) ?_
    show Steps p.tables e below (T38.setTop (mkF m 108 #[.val (.long p0), .second, .val (.long p1), .second, .val (.long p2), .second, .val (.long p3), .second, .val (.int p4), .val (.int fr), .val (.int at_), .val (.int (Int32.ofNat n)), .val (.ref b29), .unset, .unset, .unset, .unset, .unset, .unset, .unset, .unset, .unset, .unset, .unset, .unset, .unset, .unset, .unset, .unset, .unset, .unset, .unset] [(.int (7 : Int32)), (.ref b29)])) _
    refine XS.lloadN X38.here hx rfl (hb hby at_108) rfl ?_
    show Steps p.tables e below (T38.setTop (mkF m 109 #[.val (.long p0), .second, .val (.long p1), .second, .val (.long p2), .second, .val (.long p3), .second, .val (.int p4), .val (.int fr), .val (.int at_), .val (.int (Int32.ofNat n)), .val (.ref b29), .unset, .unset, .unset, .unset, .unset, .unset, .unset, .unset, .unset, .unset, .unset, .unset, .unset, .unset, .unset, .unset, .unset, .unset, .unset] [(.long p0), (.int (7 : Int32)), (.ref b29)])) _
    refine XS.l2i X38.here hx rfl (hb hby at_109) rfl ?_
    show Steps p.tables e below (T38.setTop (mkF m 110 #[.val (.long p0), .second, .val (.long p1), .second, .val (.long p2), .second, .val (.long p3), .second, .val (.int p4), .val (.int fr), .val (.int at_), .val (.int (Int32.ofNat n)), .val (.ref b29), .unset, .unset, .unset, .unset, .unset, .unset, .unset, .unset, .unset, .unset, .unset, .unset, .unset, .unset, .unset, .unset, .unset, .unset, .unset] [(.int (p0.toInt32)), (.int (7 : Int32)), (.ref b29)])) _
    refine XS.i2b X38.here hx rfl (hb hby at_110) rfl ?_
    exact kont
  obtain ⟨T41, h41, X41, e41, W41, V41, st41⟩ := own_stB X38 hx hZ e38 V38 (k := 7) (by decide) (by decide) (by decide) (fr := (mkF m 111 #[.val (.long p0), .second, .val (.long p1), .second, .val (.long p2), .second, .val (.long p3), .second, .val (.int p4), .val (.int fr), .val (.int at_), .val (.int (Int32.ofNat n)), .val (.ref b29), .unset, .unset, .unset, .unset, .unset, .unset, .unset, .unset, .unset, .unset, .unset, .unset, .unset, .unset, .unset, .unset, .unset, .unset, .unset] [(.int ((p0.toInt32).toInt8.toInt32)), (.int (7 : Int32)), (.ref b29)])) rfl rfl (hb hby at_111)
  obtain ⟨u111, hu111⟩ : ∃ z : Nat → Int32, z = fun i => if i = 7 then ((p0.toInt32).toInt8.toInt32).toInt8.toInt32 else u103 i := ⟨_, rfl⟩
  replace V41 : own_arr Z h41 b29 .byte 16 (fun i => .int (u111 i)) := by rw [hu111]; exact V41
  have Z41 : n0 ≤ h41.size := Nat.le_trans Z38 (Keep.of_wr W41).1
  have N41 := Fr.snoc X41 N38 g_b29
  have pre42 : ∀ t, Steps p.tables e below (T41.setTop (mkF m 112 #[.val (.long p0), .second, .val (.long p1), .second, .val (.long p2), .second, .val (.long p3), .second, .val (.int p4), .val (.int fr), .val (.int at_), .val (.int (Int32.ofNat n)), .val (.ref b29), .unset, .unset, .unset, .unset, .unset, .unset, .unset, .unset, .unset, .unset, .unset, .unset, .unset, .unset, .unset, .unset, .unset, .unset, .unset] [])) t → Steps p.tables e below (s₁.setTop (entryFrame m #[(.long p0), (.long p1), (.long p2), (.long p3), (.int p4)] maxLocals)) t := fun t kont => pre40 t (st41 _ kont)
  have pre43 : ∀ t, Steps p.tables e below (T41.setTop (mkF m 122 #[.val (.long p0), .second, .val (.long p1), .second, .val (.long p2), .second, .val (.long p3), .second, .val (.int p4), .val (.int fr), .val (.int at_), .val (.int (Int32.ofNat n)), .val (.ref b29), .unset, .unset, .unset, .unset, .unset, .unset, .unset, .unset, .unset, .unset, .unset, .unset, .unset, .unset, .unset, .unset, .unset, .unset, .unset] [(.int ((((p1.toUInt64 >>> ((56 : Int32) &&& 0x3f).toInt64.toUInt64).toInt64).toInt32).toInt8.toInt32)), (.int (8 : Int32)), (.ref b29)])) t → Steps p.tables e below (s₁.setTop (entryFrame m #[(.long p0), (.long p1), (.long p2), (.long p3), (.int p4)] maxLocals)) t := by
    intro t kont
    refine pre42 t ?_
    show Steps p.tables e below (T41.setTop (mkF m 112 #[.val (.long p0), .second, .val (.long p1), .second, .val (.long p2), .second, .val (.long p3), .second, .val (.int p4), .val (.int fr), .val (.int at_), .val (.int (Int32.ofNat n)), .val (.ref b29), .unset, .unset, .unset, .unset, .unset, .unset, .unset, .unset, .unset, .unset, .unset, .unset, .unset, .unset, .unset, .unset, .unset, .unset, .unset] [])) _
    refine XS.aload X41.here hx rfl (hb hby at_112) rfl rfl ?_
    show Steps p.tables e below (T41.setTop (mkF m 114 #[.val (.long p0), .second, .val (.long p1), .second, .val (.long p2), .second, .val (.long p3), .second, .val (.int p4), .val (.int fr), .val (.int at_), .val (.int (Int32.ofNat n)), .val (.ref b29), .unset, .unset, .unset, .unset, .unset, .unset, .unset, .unset, .unset, .unset, .unset, .unset, .unset, .unset, .unset, .unset, .unset, .unset, .unset] [(.ref b29)])) _
    refine XS.bipush X41.here hx rfl (hb hby at_114) ?_
    show Steps p.tables e below (T41.setTop (mkF m 116 #[.val (.long p0), .second, .val (.long p1), .second, .val (.long p2), .second, .val (.long p3), .second, .val (.int p4), .val (.int fr), .val (.int at_), .val (.int (Int32.ofNat n)), .val (.ref b29), .unset, .unset, .unset, .unset, .unset, .unset, .unset, .unset, .unset, .unset, .unset, .unset, .unset, .unset, .unset, .unset, .unset, .unset, .unset] [(.int (8 : Int32)), (.ref b29)])) _
    refine XS.lloadN X41.here hx rfl (hb hby at_116) rfl ?_
    show Steps p.tables e below (T41.setTop (mkF m 117 #[.val (.long p0), .second, .val (.long p1), .second, .val (.long p2), .second, .val (.long p3), .second, .val (.int p4), .val (.int fr), .val (.int at_), .val (.int (Int32.ofNat n)), .val (.ref b29), .unset, .unset, .unset, .unset, .unset, .unset, .unset, .unset, .unset, .unset, .unset, .unset, .unset, .unset, .unset, .unset, .unset, .unset, .unset] [(.long p1), (.int (8 : Int32)), (.ref b29)])) _
    refine XS.bipush X41.here hx rfl (hb hby at_117) ?_
    show Steps p.tables e below (T41.setTop (mkF m 119 #[.val (.long p0), .second, .val (.long p1), .second, .val (.long p2), .second, .val (.long p3), .second, .val (.int p4), .val (.int fr), .val (.int at_), .val (.int (Int32.ofNat n)), .val (.ref b29), .unset, .unset, .unset, .unset, .unset, .unset, .unset, .unset, .unset, .unset, .unset, .unset, .unset, .unset, .unset, .unset, .unset, .unset, .unset] [(.int (56 : Int32)), (.long p1), (.int (8 : Int32)), (.ref b29)])) _
    refine XS.lushr X41.here hx rfl (hb hby at_119) rfl ?_
    show Steps p.tables e below (T41.setTop (mkF m 120 #[.val (.long p0), .second, .val (.long p1), .second, .val (.long p2), .second, .val (.long p3), .second, .val (.int p4), .val (.int fr), .val (.int at_), .val (.int (Int32.ofNat n)), .val (.ref b29), .unset, .unset, .unset, .unset, .unset, .unset, .unset, .unset, .unset, .unset, .unset, .unset, .unset, .unset, .unset, .unset, .unset, .unset, .unset] [(.long ((p1.toUInt64 >>> ((56 : Int32) &&& 0x3f).toInt64.toUInt64).toInt64)), (.int (8 : Int32)), (.ref b29)])) _
    refine XS.l2i X41.here hx rfl (hb hby at_120) rfl ?_
    show Steps p.tables e below (T41.setTop (mkF m 121 #[.val (.long p0), .second, .val (.long p1), .second, .val (.long p2), .second, .val (.long p3), .second, .val (.int p4), .val (.int fr), .val (.int at_), .val (.int (Int32.ofNat n)), .val (.ref b29), .unset, .unset, .unset, .unset, .unset, .unset, .unset, .unset, .unset, .unset, .unset, .unset, .unset, .unset, .unset, .unset, .unset, .unset, .unset] [(.int (((p1.toUInt64 >>> ((56 : Int32) &&& 0x3f).toInt64.toUInt64).toInt64).toInt32)), (.int (8 : Int32)), (.ref b29)])) _
    refine XS.i2b X41.here hx rfl (hb hby at_121) rfl ?_
    exact kont
  obtain ⟨T44, h44, X44, e44, W44, V44, st44⟩ := own_stB X41 hx hZ e41 V41 (k := 8) (by decide) (by decide) (by decide) (fr := (mkF m 122 #[.val (.long p0), .second, .val (.long p1), .second, .val (.long p2), .second, .val (.long p3), .second, .val (.int p4), .val (.int fr), .val (.int at_), .val (.int (Int32.ofNat n)), .val (.ref b29), .unset, .unset, .unset, .unset, .unset, .unset, .unset, .unset, .unset, .unset, .unset, .unset, .unset, .unset, .unset, .unset, .unset, .unset, .unset] [(.int ((((p1.toUInt64 >>> ((56 : Int32) &&& 0x3f).toInt64.toUInt64).toInt64).toInt32).toInt8.toInt32)), (.int (8 : Int32)), (.ref b29)])) rfl rfl (hb hby at_122)
  obtain ⟨u122, hu122⟩ : ∃ z : Nat → Int32, z = fun i => if i = 8 then ((((p1.toUInt64 >>> ((56 : Int32) &&& 0x3f).toInt64.toUInt64).toInt64).toInt32).toInt8.toInt32).toInt8.toInt32 else u111 i := ⟨_, rfl⟩
  replace V44 : own_arr Z h44 b29 .byte 16 (fun i => .int (u122 i)) := by rw [hu122]; exact V44
  have Z44 : n0 ≤ h44.size := Nat.le_trans Z41 (Keep.of_wr W44).1
  have N44 := Fr.snoc X44 N41 g_b29
  have pre45 : ∀ t, Steps p.tables e below (T44.setTop (mkF m 123 #[.val (.long p0), .second, .val (.long p1), .second, .val (.long p2), .second, .val (.long p3), .second, .val (.int p4), .val (.int fr), .val (.int at_), .val (.int (Int32.ofNat n)), .val (.ref b29), .unset, .unset, .unset, .unset, .unset, .unset, .unset, .unset, .unset, .unset, .unset, .unset, .unset, .unset, .unset, .unset, .unset, .unset, .unset] [])) t → Steps p.tables e below (s₁.setTop (entryFrame m #[(.long p0), (.long p1), (.long p2), (.long p3), (.int p4)] maxLocals)) t := fun t kont => pre43 t (st44 _ kont)
  have pre46 : ∀ t, Steps p.tables e below (T44.setTop (mkF m 133 #[.val (.long p0), .second, .val (.long p1), .second, .val (.long p2), .second, .val (.long p3), .second, .val (.int p4), .val (.int fr), .val (.int at_), .val (.int (Int32.ofNat n)), .val (.ref b29), .unset, .unset, .unset, .unset, .unset, .unset, .unset, .unset, .unset, .unset, .unset, .unset, .unset, .unset, .unset, .unset, .unset, .unset, .unset] [(.int ((((p1.toUInt64 >>> ((48 : Int32) &&& 0x3f).toInt64.toUInt64).toInt64).toInt32).toInt8.toInt32)), (.int (9 : Int32)), (.ref b29)])) t → Steps p.tables e below (s₁.setTop (entryFrame m #[(.long p0), (.long p1), (.long p2), (.long p3), (.int p4)] maxLocals)) t := by
    intro t kont
    refine pre45 t ?_
    show Steps p.tables e below (T44.setTop (mkF m 123 #[.val (.long p0), .second, .val (.long p1), .second, .val (.long p2), .second, .val (.long p3), .second, .val (.int p4), .val (.int fr), .val (.int at_), .val (.int (Int32.ofNat n)), .val (.ref b29), .unset, .unset, .unset, .unset, .unset, .unset, .unset, .unset, .unset, .unset, .unset, .unset, .unset, .unset, .unset, .unset, .unset, .unset, .unset] [])) _
    refine XS.aload X44.here hx rfl (hb hby at_123) rfl rfl ?_
    show Steps p.tables e below (T44.setTop (mkF m 125 #[.val (.long p0), .second, .val (.long p1), .second, .val (.long p2), .second, .val (.long p3), .second, .val (.int p4), .val (.int fr), .val (.int at_), .val (.int (Int32.ofNat n)), .val (.ref b29), .unset, .unset, .unset, .unset, .unset, .unset, .unset, .unset, .unset, .unset, .unset, .unset, .unset, .unset, .unset, .unset, .unset, .unset, .unset] [(.ref b29)])) _
    refine XS.bipush X44.here hx rfl (hb hby at_125) ?_
    show Steps p.tables e below (T44.setTop (mkF m 127 #[.val (.long p0), .second, .val (.long p1), .second, .val (.long p2), .second, .val (.long p3), .second, .val (.int p4), .val (.int fr), .val (.int at_), .val (.int (Int32.ofNat n)), .val (.ref b29), .unset, .unset, .unset, .unset, .unset, .unset, .unset, .unset, .unset, .unset, .unset, .unset, .unset, .unset, .unset, .unset, .unset, .unset, .unset] [(.int (9 : Int32)), (.ref b29)])) _
    refine XS.lloadN X44.here hx rfl (hb hby at_127) rfl ?_
    show Steps p.tables e below (T44.setTop (mkF m 128 #[.val (.long p0), .second, .val (.long p1), .second, .val (.long p2), .second, .val (.long p3), .second, .val (.int p4), .val (.int fr), .val (.int at_), .val (.int (Int32.ofNat n)), .val (.ref b29), .unset, .unset, .unset, .unset, .unset, .unset, .unset, .unset, .unset, .unset, .unset, .unset, .unset, .unset, .unset, .unset, .unset, .unset, .unset] [(.long p1), (.int (9 : Int32)), (.ref b29)])) _
    refine XS.bipush X44.here hx rfl (hb hby at_128) ?_
    show Steps p.tables e below (T44.setTop (mkF m 130 #[.val (.long p0), .second, .val (.long p1), .second, .val (.long p2), .second, .val (.long p3), .second, .val (.int p4), .val (.int fr), .val (.int at_), .val (.int (Int32.ofNat n)), .val (.ref b29), .unset, .unset, .unset, .unset, .unset, .unset, .unset, .unset, .unset, .unset, .unset, .unset, .unset, .unset, .unset, .unset, .unset, .unset, .unset] [(.int (48 : Int32)), (.long p1), (.int (9 : Int32)), (.ref b29)])) _
    refine XS.lushr X44.here hx rfl (hb hby at_130) rfl ?_
    show Steps p.tables e below (T44.setTop (mkF m 131 #[.val (.long p0), .second, .val (.long p1), .second, .val (.long p2), .second, .val (.long p3), .second, .val (.int p4), .val (.int fr), .val (.int at_), .val (.int (Int32.ofNat n)), .val (.ref b29), .unset, .unset, .unset, .unset, .unset, .unset, .unset, .unset, .unset, .unset, .unset, .unset, .unset, .unset, .unset, .unset, .unset, .unset, .unset] [(.long ((p1.toUInt64 >>> ((48 : Int32) &&& 0x3f).toInt64.toUInt64).toInt64)), (.int (9 : Int32)), (.ref b29)])) _
    refine XS.l2i X44.here hx rfl (hb hby at_131) rfl ?_
    show Steps p.tables e below (T44.setTop (mkF m 132 #[.val (.long p0), .second, .val (.long p1), .second, .val (.long p2), .second, .val (.long p3), .second, .val (.int p4), .val (.int fr), .val (.int at_), .val (.int (Int32.ofNat n)), .val (.ref b29), .unset, .unset, .unset, .unset, .unset, .unset, .unset, .unset, .unset, .unset, .unset, .unset, .unset, .unset, .unset, .unset, .unset, .unset, .unset] [(.int (((p1.toUInt64 >>> ((48 : Int32) &&& 0x3f).toInt64.toUInt64).toInt64).toInt32)), (.int (9 : Int32)), (.ref b29)])) _
    refine XS.i2b X44.here hx rfl (hb hby at_132) rfl ?_
    exact kont
  obtain ⟨T47, h47, X47, e47, W47, V47, st47⟩ := own_stB X44 hx hZ e44 V44 (k := 9) (by decide) (by decide) (by decide) (fr := (mkF m 133 #[.val (.long p0), .second, .val (.long p1), .second, .val (.long p2), .second, .val (.long p3), .second, .val (.int p4), .val (.int fr), .val (.int at_), .val (.int (Int32.ofNat n)), .val (.ref b29), .unset, .unset, .unset, .unset, .unset, .unset, .unset, .unset, .unset, .unset, .unset, .unset, .unset, .unset, .unset, .unset, .unset, .unset, .unset] [(.int ((((p1.toUInt64 >>> ((48 : Int32) &&& 0x3f).toInt64.toUInt64).toInt64).toInt32).toInt8.toInt32)), (.int (9 : Int32)), (.ref b29)])) rfl rfl (hb hby at_133)
  obtain ⟨u133, hu133⟩ : ∃ z : Nat → Int32, z = fun i => if i = 9 then ((((p1.toUInt64 >>> ((48 : Int32) &&& 0x3f).toInt64.toUInt64).toInt64).toInt32).toInt8.toInt32).toInt8.toInt32 else u122 i := ⟨_, rfl⟩
  replace V47 : own_arr Z h47 b29 .byte 16 (fun i => .int (u133 i)) := by rw [hu133]; exact V47
  have Z47 : n0 ≤ h47.size := Nat.le_trans Z44 (Keep.of_wr W47).1
  have N47 := Fr.snoc X47 N44 g_b29
  have pre48 : ∀ t, Steps p.tables e below (T47.setTop (mkF m 134 #[.val (.long p0), .second, .val (.long p1), .second, .val (.long p2), .second, .val (.long p3), .second, .val (.int p4), .val (.int fr), .val (.int at_), .val (.int (Int32.ofNat n)), .val (.ref b29), .unset, .unset, .unset, .unset, .unset, .unset, .unset, .unset, .unset, .unset, .unset, .unset, .unset, .unset, .unset, .unset, .unset, .unset, .unset] [])) t → Steps p.tables e below (s₁.setTop (entryFrame m #[(.long p0), (.long p1), (.long p2), (.long p3), (.int p4)] maxLocals)) t := fun t kont => pre46 t (st47 _ kont)
  have pre49 : ∀ t, Steps p.tables e below (T47.setTop (mkF m 144 #[.val (.long p0), .second, .val (.long p1), .second, .val (.long p2), .second, .val (.long p3), .second, .val (.int p4), .val (.int fr), .val (.int at_), .val (.int (Int32.ofNat n)), .val (.ref b29), .unset, .unset, .unset, .unset, .unset, .unset, .unset, .unset, .unset, .unset, .unset, .unset, .unset, .unset, .unset, .unset, .unset, .unset, .unset] [(.int ((((p1.toUInt64 >>> ((40 : Int32) &&& 0x3f).toInt64.toUInt64).toInt64).toInt32).toInt8.toInt32)), (.int (10 : Int32)), (.ref b29)])) t → Steps p.tables e below (s₁.setTop (entryFrame m #[(.long p0), (.long p1), (.long p2), (.long p3), (.int p4)] maxLocals)) t := by
    intro t kont
    refine pre48 t ?_
    show Steps p.tables e below (T47.setTop (mkF m 134 #[.val (.long p0), .second, .val (.long p1), .second, .val (.long p2), .second, .val (.long p3), .second, .val (.int p4), .val (.int fr), .val (.int at_), .val (.int (Int32.ofNat n)), .val (.ref b29), .unset, .unset, .unset, .unset, .unset, .unset, .unset, .unset, .unset, .unset, .unset, .unset, .unset, .unset, .unset, .unset, .unset, .unset, .unset] [])) _
    refine XS.aload X47.here hx rfl (hb hby at_134) rfl rfl ?_
    show Steps p.tables e below (T47.setTop (mkF m 136 #[.val (.long p0), .second, .val (.long p1), .second, .val (.long p2), .second, .val (.long p3), .second, .val (.int p4), .val (.int fr), .val (.int at_), .val (.int (Int32.ofNat n)), .val (.ref b29), .unset, .unset, .unset, .unset, .unset, .unset, .unset, .unset, .unset, .unset, .unset, .unset, .unset, .unset, .unset, .unset, .unset, .unset, .unset] [(.ref b29)])) _
    refine XS.bipush X47.here hx rfl (hb hby at_136) ?_
    show Steps p.tables e below (T47.setTop (mkF m 138 #[.val (.long p0), .second, .val (.long p1), .second, .val (.long p2), .second, .val (.long p3), .second, .val (.int p4), .val (.int fr), .val (.int at_), .val (.int (Int32.ofNat n)), .val (.ref b29), .unset, .unset, .unset, .unset, .unset, .unset, .unset, .unset, .unset, .unset, .unset, .unset, .unset, .unset, .unset, .unset, .unset, .unset, .unset] [(.int (10 : Int32)), (.ref b29)])) _
    refine XS.lloadN X47.here hx rfl (hb hby at_138) rfl ?_
    show Steps p.tables e below (T47.setTop (mkF m 139 #[.val (.long p0), .second, .val (.long p1), .second, .val (.long p2), .second, .val (.long p3), .second, .val (.int p4), .val (.int fr), .val (.int at_), .val (.int (Int32.ofNat n)), .val (.ref b29), .unset, .unset, .unset, .unset, .unset, .unset, .unset, .unset, .unset, .unset, .unset, .unset, .unset, .unset, .unset, .unset, .unset, .unset, .unset] [(.long p1), (.int (10 : Int32)), (.ref b29)])) _
    refine XS.bipush X47.here hx rfl (hb hby at_139) ?_
    show Steps p.tables e below (T47.setTop (mkF m 141 #[.val (.long p0), .second, .val (.long p1), .second, .val (.long p2), .second, .val (.long p3), .second, .val (.int p4), .val (.int fr), .val (.int at_), .val (.int (Int32.ofNat n)), .val (.ref b29), .unset, .unset, .unset, .unset, .unset, .unset, .unset, .unset, .unset, .unset, .unset, .unset, .unset, .unset, .unset, .unset, .unset, .unset, .unset] [(.int (40 : Int32)), (.long p1), (.int (10 : Int32)), (.ref b29)])) _
    refine XS.lushr X47.here hx rfl (hb hby at_141) rfl ?_
    show Steps p.tables e below (T47.setTop (mkF m 142 #[.val (.long p0), .second, .val (.long p1), .second, .val (.long p2), .second, .val (.long p3), .second, .val (.int p4), .val (.int fr), .val (.int at_), .val (.int (Int32.ofNat n)), .val (.ref b29), .unset, .unset, .unset, .unset, .unset, .unset, .unset, .unset, .unset, .unset, .unset, .unset, .unset, .unset, .unset, .unset, .unset, .unset, .unset] [(.long ((p1.toUInt64 >>> ((40 : Int32) &&& 0x3f).toInt64.toUInt64).toInt64)), (.int (10 : Int32)), (.ref b29)])) _
    refine XS.l2i X47.here hx rfl (hb hby at_142) rfl ?_
    show Steps p.tables e below (T47.setTop (mkF m 143 #[.val (.long p0), .second, .val (.long p1), .second, .val (.long p2), .second, .val (.long p3), .second, .val (.int p4), .val (.int fr), .val (.int at_), .val (.int (Int32.ofNat n)), .val (.ref b29), .unset, .unset, .unset, .unset, .unset, .unset, .unset, .unset, .unset, .unset, .unset, .unset, .unset, .unset, .unset, .unset, .unset, .unset, .unset] [(.int (((p1.toUInt64 >>> ((40 : Int32) &&& 0x3f).toInt64.toUInt64).toInt64).toInt32)), (.int (10 : Int32)), (.ref b29)])) _
    refine XS.i2b X47.here hx rfl (hb hby at_143) rfl ?_
    exact kont
  obtain ⟨T50, h50, X50, e50, W50, V50, st50⟩ := own_stB X47 hx hZ e47 V47 (k := 10) (by decide) (by decide) (by decide) (fr := (mkF m 144 #[.val (.long p0), .second, .val (.long p1), .second, .val (.long p2), .second, .val (.long p3), .second, .val (.int p4), .val (.int fr), .val (.int at_), .val (.int (Int32.ofNat n)), .val (.ref b29), .unset, .unset, .unset, .unset, .unset, .unset, .unset, .unset, .unset, .unset, .unset, .unset, .unset, .unset, .unset, .unset, .unset, .unset, .unset] [(.int ((((p1.toUInt64 >>> ((40 : Int32) &&& 0x3f).toInt64.toUInt64).toInt64).toInt32).toInt8.toInt32)), (.int (10 : Int32)), (.ref b29)])) rfl rfl (hb hby at_144)
  obtain ⟨u144, hu144⟩ : ∃ z : Nat → Int32, z = fun i => if i = 10 then ((((p1.toUInt64 >>> ((40 : Int32) &&& 0x3f).toInt64.toUInt64).toInt64).toInt32).toInt8.toInt32).toInt8.toInt32 else u133 i := ⟨_, rfl⟩
  replace V50 : own_arr Z h50 b29 .byte 16 (fun i => .int (u144 i)) := by rw [hu144]; exact V50
  have Z50 : n0 ≤ h50.size := Nat.le_trans Z47 (Keep.of_wr W50).1
  have N50 := Fr.snoc X50 N47 g_b29
  have pre51 : ∀ t, Steps p.tables e below (T50.setTop (mkF m 145 #[.val (.long p0), .second, .val (.long p1), .second, .val (.long p2), .second, .val (.long p3), .second, .val (.int p4), .val (.int fr), .val (.int at_), .val (.int (Int32.ofNat n)), .val (.ref b29), .unset, .unset, .unset, .unset, .unset, .unset, .unset, .unset, .unset, .unset, .unset, .unset, .unset, .unset, .unset, .unset, .unset, .unset, .unset] [])) t → Steps p.tables e below (s₁.setTop (entryFrame m #[(.long p0), (.long p1), (.long p2), (.long p3), (.int p4)] maxLocals)) t := fun t kont => pre49 t (st50 _ kont)
  have pre52 : ∀ t, Steps p.tables e below (T50.setTop (mkF m 155 #[.val (.long p0), .second, .val (.long p1), .second, .val (.long p2), .second, .val (.long p3), .second, .val (.int p4), .val (.int fr), .val (.int at_), .val (.int (Int32.ofNat n)), .val (.ref b29), .unset, .unset, .unset, .unset, .unset, .unset, .unset, .unset, .unset, .unset, .unset, .unset, .unset, .unset, .unset, .unset, .unset, .unset, .unset] [(.int ((((p1.toUInt64 >>> ((32 : Int32) &&& 0x3f).toInt64.toUInt64).toInt64).toInt32).toInt8.toInt32)), (.int (11 : Int32)), (.ref b29)])) t → Steps p.tables e below (s₁.setTop (entryFrame m #[(.long p0), (.long p1), (.long p2), (.long p3), (.int p4)] maxLocals)) t := by
    intro t kont
    refine pre51 t ?_
    show Steps p.tables e below (T50.setTop (mkF m 145 #[.val (.long p0), .second, .val (.long p1), .second, .val (.long p2), .second, .val (.long p3), .second, .val (.int p4), .val (.int fr), .val (.int at_), .val (.int (Int32.ofNat n)), .val (.ref b29), .unset, .unset, .unset, .unset, .unset, .unset, .unset, .unset, .unset, .unset, .unset, .unset, .unset, .unset, .unset, .unset, .unset, .unset, .unset] [])) _
    refine XS.aload X50.here hx rfl (hb hby at_145) rfl rfl ?_
    show Steps p.tables e below (T50.setTop (mkF m 147 #[.val (.long p0), .second, .val (.long p1), .second, .val (.long p2), .second, .val (.long p3), .second, .val (.int p4), .val (.int fr), .val (.int at_), .val (.int (Int32.ofNat n)), .val (.ref b29), .unset, .unset, .unset, .unset, .unset, .unset, .unset, .unset, .unset, .unset, .unset, .unset, .unset, .unset, .unset, .unset, .unset, .unset, .unset] [(.ref b29)])) _
    refine XS.bipush X50.here hx rfl (hb hby at_147) ?_
    show Steps p.tables e below (T50.setTop (mkF m 149 #[.val (.long p0), .second, .val (.long p1), .second, .val (.long p2), .second, .val (.long p3), .second, .val (.int p4), .val (.int fr), .val (.int at_), .val (.int (Int32.ofNat n)), .val (.ref b29), .unset, .unset, .unset, .unset, .unset, .unset, .unset, .unset, .unset, .unset, .unset, .unset, .unset, .unset, .unset, .unset, .unset, .unset, .unset] [(.int (11 : Int32)), (.ref b29)])) _
    refine XS.lloadN X50.here hx rfl (hb hby at_149) rfl ?_
    show Steps p.tables e below (T50.setTop (mkF m 150 #[.val (.long p0), .second, .val (.long p1), .second, .val (.long p2), .second, .val (.long p3), .second, .val (.int p4), .val (.int fr), .val (.int at_), .val (.int (Int32.ofNat n)), .val (.ref b29), .unset, .unset, .unset, .unset, .unset, .unset, .unset, .unset, .unset, .unset, .unset, .unset, .unset, .unset, .unset, .unset, .unset, .unset, .unset] [(.long p1), (.int (11 : Int32)), (.ref b29)])) _
    refine XS.bipush X50.here hx rfl (hb hby at_150) ?_
    show Steps p.tables e below (T50.setTop (mkF m 152 #[.val (.long p0), .second, .val (.long p1), .second, .val (.long p2), .second, .val (.long p3), .second, .val (.int p4), .val (.int fr), .val (.int at_), .val (.int (Int32.ofNat n)), .val (.ref b29), .unset, .unset, .unset, .unset, .unset, .unset, .unset, .unset, .unset, .unset, .unset, .unset, .unset, .unset, .unset, .unset, .unset, .unset, .unset] [(.int (32 : Int32)), (.long p1), (.int (11 : Int32)), (.ref b29)])) _
    refine XS.lushr X50.here hx rfl (hb hby at_152) rfl ?_
    show Steps p.tables e below (T50.setTop (mkF m 153 #[.val (.long p0), .second, .val (.long p1), .second, .val (.long p2), .second, .val (.long p3), .second, .val (.int p4), .val (.int fr), .val (.int at_), .val (.int (Int32.ofNat n)), .val (.ref b29), .unset, .unset, .unset, .unset, .unset, .unset, .unset, .unset, .unset, .unset, .unset, .unset, .unset, .unset, .unset, .unset, .unset, .unset, .unset] [(.long ((p1.toUInt64 >>> ((32 : Int32) &&& 0x3f).toInt64.toUInt64).toInt64)), (.int (11 : Int32)), (.ref b29)])) _
    refine XS.l2i X50.here hx rfl (hb hby at_153) rfl ?_
    show Steps p.tables e below (T50.setTop (mkF m 154 #[.val (.long p0), .second, .val (.long p1), .second, .val (.long p2), .second, .val (.long p3), .second, .val (.int p4), .val (.int fr), .val (.int at_), .val (.int (Int32.ofNat n)), .val (.ref b29), .unset, .unset, .unset, .unset, .unset, .unset, .unset, .unset, .unset, .unset, .unset, .unset, .unset, .unset, .unset, .unset, .unset, .unset, .unset] [(.int (((p1.toUInt64 >>> ((32 : Int32) &&& 0x3f).toInt64.toUInt64).toInt64).toInt32)), (.int (11 : Int32)), (.ref b29)])) _
    refine XS.i2b X50.here hx rfl (hb hby at_154) rfl ?_
    exact kont
  obtain ⟨T53, h53, X53, e53, W53, V53, st53⟩ := own_stB X50 hx hZ e50 V50 (k := 11) (by decide) (by decide) (by decide) (fr := (mkF m 155 #[.val (.long p0), .second, .val (.long p1), .second, .val (.long p2), .second, .val (.long p3), .second, .val (.int p4), .val (.int fr), .val (.int at_), .val (.int (Int32.ofNat n)), .val (.ref b29), .unset, .unset, .unset, .unset, .unset, .unset, .unset, .unset, .unset, .unset, .unset, .unset, .unset, .unset, .unset, .unset, .unset, .unset, .unset] [(.int ((((p1.toUInt64 >>> ((32 : Int32) &&& 0x3f).toInt64.toUInt64).toInt64).toInt32).toInt8.toInt32)), (.int (11 : Int32)), (.ref b29)])) rfl rfl (hb hby at_155)
  obtain ⟨u155, hu155⟩ : ∃ z : Nat → Int32, z = fun i => if i = 11 then ((((p1.toUInt64 >>> ((32 : Int32) &&& 0x3f).toInt64.toUInt64).toInt64).toInt32).toInt8.toInt32).toInt8.toInt32 else u144 i := ⟨_, rfl⟩
  replace V53 : own_arr Z h53 b29 .byte 16 (fun i => .int (u155 i)) := by rw [hu155]; exact V53
  have Z53 : n0 ≤ h53.size := Nat.le_trans Z50 (Keep.of_wr W53).1
  have N53 := Fr.snoc X53 N50 g_b29
  have pre54 : ∀ t, Steps p.tables e below (T53.setTop (mkF m 156 #[.val (.long p0), .second, .val (.long p1), .second, .val (.long p2), .second, .val (.long p3), .second, .val (.int p4), .val (.int fr), .val (.int at_), .val (.int (Int32.ofNat n)), .val (.ref b29), .unset, .unset, .unset, .unset, .unset, .unset, .unset, .unset, .unset, .unset, .unset, .unset, .unset, .unset, .unset, .unset, .unset, .unset, .unset] [])) t → Steps p.tables e below (s₁.setTop (entryFrame m #[(.long p0), (.long p1), (.long p2), (.long p3), (.int p4)] maxLocals)) t := fun t kont => pre52 t (st53 _ kont)
  have pre55 : ∀ t, Steps p.tables e below (T53.setTop (mkF m 166 #[.val (.long p0), .second, .val (.long p1), .second, .val (.long p2), .second, .val (.long p3), .second, .val (.int p4), .val (.int fr), .val (.int at_), .val (.int (Int32.ofNat n)), .val (.ref b29), .unset, .unset, .unset, .unset, .unset, .unset, .unset, .unset, .unset, .unset, .unset, .unset, .unset, .unset, .unset, .unset, .unset, .unset, .unset] [(.int ((((p1.toUInt64 >>> ((24 : Int32) &&& 0x3f).toInt64.toUInt64).toInt64).toInt32).toInt8.toInt32)), (.int (12 : Int32)), (.ref b29)])) t → Steps p.tables e below (s₁.setTop (entryFrame m #[(.long p0), (.long p1), (.long p2), (.long p3), (.int p4)] maxLocals)) t := by
    intro t kont
    refine pre54 t ?_
    show Steps p.tables e below (T53.setTop (mkF m 156 #[.val (.long p0), .second, .val (.long p1), .second, .val (.long p2), .second, .val (.long p3), .second, .val (.int p4), .val (.int fr), .val (.int at_), .val (.int (Int32.ofNat n)), .val (.ref b29), .unset, .unset, .unset, .unset, .unset, .unset, .unset, .unset, .unset, .unset, .unset, .unset, .unset, .unset, .unset, .unset, .unset, .unset, .unset] [])) _
    refine XS.aload X53.here hx rfl (hb hby at_156) rfl rfl ?_
    show Steps p.tables e below (T53.setTop (mkF m 158 #[.val (.long p0), .second, .val (.long p1), .second, .val (.long p2), .second, .val (.long p3), .second, .val (.int p4), .val (.int fr), .val (.int at_), .val (.int (Int32.ofNat n)), .val (.ref b29), .unset, .unset, .unset, .unset, .unset, .unset, .unset, .unset, .unset, .unset, .unset, .unset, .unset, .unset, .unset, .unset, .unset, .unset, .unset] [(.ref b29)])) _
    refine XS.bipush X53.here hx rfl (hb hby at_158) ?_
    show Steps p.tables e below (T53.setTop (mkF m 160 #[.val (.long p0), .second, .val (.long p1), .second, .val (.long p2), .second, .val (.long p3), .second, .val (.int p4), .val (.int fr), .val (.int at_), .val (.int (Int32.ofNat n)), .val (.ref b29), .unset, .unset, .unset, .unset, .unset, .unset, .unset, .unset, .unset, .unset, .unset, .unset, .unset, .unset, .unset, .unset, .unset, .unset, .unset] [(.int (12 : Int32)), (.ref b29)])) _
    refine XS.lloadN X53.here hx rfl (hb hby at_160) rfl ?_
    show Steps p.tables e below (T53.setTop (mkF m 161 #[.val (.long p0), .second, .val (.long p1), .second, .val (.long p2), .second, .val (.long p3), .second, .val (.int p4), .val (.int fr), .val (.int at_), .val (.int (Int32.ofNat n)), .val (.ref b29), .unset, .unset, .unset, .unset, .unset, .unset, .unset, .unset, .unset, .unset, .unset, .unset, .unset, .unset, .unset, .unset, .unset, .unset, .unset] [(.long p1), (.int (12 : Int32)), (.ref b29)])) _
    refine XS.bipush X53.here hx rfl (hb hby at_161) ?_
    show Steps p.tables e below (T53.setTop (mkF m 163 #[.val (.long p0), .second, .val (.long p1), .second, .val (.long p2), .second, .val (.long p3), .second, .val (.int p4), .val (.int fr), .val (.int at_), .val (.int (Int32.ofNat n)), .val (.ref b29), .unset, .unset, .unset, .unset, .unset, .unset, .unset, .unset, .unset, .unset, .unset, .unset, .unset, .unset, .unset, .unset, .unset, .unset, .unset] [(.int (24 : Int32)), (.long p1), (.int (12 : Int32)), (.ref b29)])) _
    refine XS.lushr X53.here hx rfl (hb hby at_163) rfl ?_
    show Steps p.tables e below (T53.setTop (mkF m 164 #[.val (.long p0), .second, .val (.long p1), .second, .val (.long p2), .second, .val (.long p3), .second, .val (.int p4), .val (.int fr), .val (.int at_), .val (.int (Int32.ofNat n)), .val (.ref b29), .unset, .unset, .unset, .unset, .unset, .unset, .unset, .unset, .unset, .unset, .unset, .unset, .unset, .unset, .unset, .unset, .unset, .unset, .unset] [(.long ((p1.toUInt64 >>> ((24 : Int32) &&& 0x3f).toInt64.toUInt64).toInt64)), (.int (12 : Int32)), (.ref b29)])) _
    refine XS.l2i X53.here hx rfl (hb hby at_164) rfl ?_
    show Steps p.tables e below (T53.setTop (mkF m 165 #[.val (.long p0), .second, .val (.long p1), .second, .val (.long p2), .second, .val (.long p3), .second, .val (.int p4), .val (.int fr), .val (.int at_), .val (.int (Int32.ofNat n)), .val (.ref b29), .unset, .unset, .unset, .unset, .unset, .unset, .unset, .unset, .unset, .unset, .unset, .unset, .unset, .unset, .unset, .unset, .unset, .unset, .unset] [(.int (((p1.toUInt64 >>> ((24 : Int32) &&& 0x3f).toInt64.toUInt64).toInt64).toInt32)), (.int (12 : Int32)), (.ref b29)])) _
    refine XS.i2b X53.here hx rfl (hb hby at_165) rfl ?_
    exact kont
  obtain ⟨T56, h56, X56, e56, W56, V56, st56⟩ := own_stB X53 hx hZ e53 V53 (k := 12) (by decide) (by decide) (by decide) (fr := (mkF m 166 #[.val (.long p0), .second, .val (.long p1), .second, .val (.long p2), .second, .val (.long p3), .second, .val (.int p4), .val (.int fr), .val (.int at_), .val (.int (Int32.ofNat n)), .val (.ref b29), .unset, .unset, .unset, .unset, .unset, .unset, .unset, .unset, .unset, .unset, .unset, .unset, .unset, .unset, .unset, .unset, .unset, .unset, .unset] [(.int ((((p1.toUInt64 >>> ((24 : Int32) &&& 0x3f).toInt64.toUInt64).toInt64).toInt32).toInt8.toInt32)), (.int (12 : Int32)), (.ref b29)])) rfl rfl (hb hby at_166)
  obtain ⟨u166, hu166⟩ : ∃ z : Nat → Int32, z = fun i => if i = 12 then ((((p1.toUInt64 >>> ((24 : Int32) &&& 0x3f).toInt64.toUInt64).toInt64).toInt32).toInt8.toInt32).toInt8.toInt32 else u155 i := ⟨_, rfl⟩
  replace V56 : own_arr Z h56 b29 .byte 16 (fun i => .int (u166 i)) := by rw [hu166]; exact V56
  have Z56 : n0 ≤ h56.size := Nat.le_trans Z53 (Keep.of_wr W56).1
  have N56 := Fr.snoc X56 N53 g_b29
  have pre57 : ∀ t, Steps p.tables e below (T56.setTop (mkF m 167 #[.val (.long p0), .second, .val (.long p1), .second, .val (.long p2), .second, .val (.long p3), .second, .val (.int p4), .val (.int fr), .val (.int at_), .val (.int (Int32.ofNat n)), .val (.ref b29), .unset, .unset, .unset, .unset, .unset, .unset, .unset, .unset, .unset, .unset, .unset, .unset, .unset, .unset, .unset, .unset, .unset, .unset, .unset] [])) t → Steps p.tables e below (s₁.setTop (entryFrame m #[(.long p0), (.long p1), (.long p2), (.long p3), (.int p4)] maxLocals)) t := fun t kont => pre55 t (st56 _ kont)
  have pre58 : ∀ t, Steps p.tables e below (T56.setTop (mkF m 177 #[.val (.long p0), .second, .val (.long p1), .second, .val (.long p2), .second, .val (.long p3), .second, .val (.int p4), .val (.int fr), .val (.int at_), .val (.int (Int32.ofNat n)), .val (.ref b29), .unset, .unset, .unset, .unset, .unset, .unset, .unset, .unset, .unset, .unset, .unset, .unset, .unset, .unset, .unset, .unset, .unset, .unset, .unset] [(.int ((((p1.toUInt64 >>> ((16 : Int32) &&& 0x3f).toInt64.toUInt64).toInt64).toInt32).toInt8.toInt32)), (.int (13 : Int32)), (.ref b29)])) t → Steps p.tables e below (s₁.setTop (entryFrame m #[(.long p0), (.long p1), (.long p2), (.long p3), (.int p4)] maxLocals)) t := by
    intro t kont
    refine pre57 t ?_
    show Steps p.tables e below (T56.setTop (mkF m 167 #[.val (.long p0), .second, .val (.long p1), .second, .val (.long p2), .second, .val (.long p3), .second, .val (.int p4), .val (.int fr), .val (.int at_), .val (.int (Int32.ofNat n)), .val (.ref b29), .unset, .unset, .unset, .unset, .unset, .unset, .unset, .unset, .unset, .unset, .unset, .unset, .unset, .unset, .unset, .unset, .unset, .unset, .unset] [])) _
    refine XS.aload X56.here hx rfl (hb hby at_167) rfl rfl ?_
    show Steps p.tables e below (T56.setTop (mkF m 169 #[.val (.long p0), .second, .val (.long p1), .second, .val (.long p2), .second, .val (.long p3), .second, .val (.int p4), .val (.int fr), .val (.int at_), .val (.int (Int32.ofNat n)), .val (.ref b29), .unset, .unset, .unset, .unset, .unset, .unset, .unset, .unset, .unset, .unset, .unset, .unset, .unset, .unset, .unset, .unset, .unset, .unset, .unset] [(.ref b29)])) _
    refine XS.bipush X56.here hx rfl (hb hby at_169) ?_
    show Steps p.tables e below (T56.setTop (mkF m 171 #[.val (.long p0), .second, .val (.long p1), .second, .val (.long p2), .second, .val (.long p3), .second, .val (.int p4), .val (.int fr), .val (.int at_), .val (.int (Int32.ofNat n)), .val (.ref b29), .unset, .unset, .unset, .unset, .unset, .unset, .unset, .unset, .unset, .unset, .unset, .unset, .unset, .unset, .unset, .unset, .unset, .unset, .unset] [(.int (13 : Int32)), (.ref b29)])) _
    refine XS.lloadN X56.here hx rfl (hb hby at_171) rfl ?_
    show Steps p.tables e below (T56.setTop (mkF m 172 #[.val (.long p0), .second, .val (.long p1), .second, .val (.long p2), .second, .val (.long p3), .second, .val (.int p4), .val (.int fr), .val (.int at_), .val (.int (Int32.ofNat n)), .val (.ref b29), .unset, .unset, .unset, .unset, .unset, .unset, .unset, .unset, .unset, .unset, .unset, .unset, .unset, .unset, .unset, .unset, .unset, .unset, .unset] [(.long p1), (.int (13 : Int32)), (.ref b29)])) _
    refine XS.bipush X56.here hx rfl (hb hby at_172) ?_
    show Steps p.tables e below (T56.setTop (mkF m 174 #[.val (.long p0), .second, .val (.long p1), .second, .val (.long p2), .second, .val (.long p3), .second, .val (.int p4), .val (.int fr), .val (.int at_), .val (.int (Int32.ofNat n)), .val (.ref b29), .unset, .unset, .unset, .unset, .unset, .unset, .unset, .unset, .unset, .unset, .unset, .unset, .unset, .unset, .unset, .unset, .unset, .unset, .unset] [(.int (16 : Int32)), (.long p1), (.int (13 : Int32)), (.ref b29)])) _
    refine XS.lushr X56.here hx rfl (hb hby at_174) rfl ?_
    show Steps p.tables e below (T56.setTop (mkF m 175 #[.val (.long p0), .second, .val (.long p1), .second, .val (.long p2), .second, .val (.long p3), .second, .val (.int p4), .val (.int fr), .val (.int at_), .val (.int (Int32.ofNat n)), .val (.ref b29), .unset, .unset, .unset, .unset, .unset, .unset, .unset, .unset, .unset, .unset, .unset, .unset, .unset, .unset, .unset, .unset, .unset, .unset, .unset] [(.long ((p1.toUInt64 >>> ((16 : Int32) &&& 0x3f).toInt64.toUInt64).toInt64)), (.int (13 : Int32)), (.ref b29)])) _
    refine XS.l2i X56.here hx rfl (hb hby at_175) rfl ?_
    show Steps p.tables e below (T56.setTop (mkF m 176 #[.val (.long p0), .second, .val (.long p1), .second, .val (.long p2), .second, .val (.long p3), .second, .val (.int p4), .val (.int fr), .val (.int at_), .val (.int (Int32.ofNat n)), .val (.ref b29), .unset, .unset, .unset, .unset, .unset, .unset, .unset, .unset, .unset, .unset, .unset, .unset, .unset, .unset, .unset, .unset, .unset, .unset, .unset] [(.int (((p1.toUInt64 >>> ((16 : Int32) &&& 0x3f).toInt64.toUInt64).toInt64).toInt32)), (.int (13 : Int32)), (.ref b29)])) _
    refine XS.i2b X56.here hx rfl (hb hby at_176) rfl ?_
    exact kont
  obtain ⟨T59, h59, X59, e59, W59, V59, st59⟩ := own_stB X56 hx hZ e56 V56 (k := 13) (by decide) (by decide) (by decide) (fr := (mkF m 177 #[.val (.long p0), .second, .val (.long p1), .second, .val (.long p2), .second, .val (.long p3), .second, .val (.int p4), .val (.int fr), .val (.int at_), .val (.int (Int32.ofNat n)), .val (.ref b29), .unset, .unset, .unset, .unset, .unset, .unset, .unset, .unset, .unset, .unset, .unset, .unset, .unset, .unset, .unset, .unset, .unset, .unset, .unset] [(.int ((((p1.toUInt64 >>> ((16 : Int32) &&& 0x3f).toInt64.toUInt64).toInt64).toInt32).toInt8.toInt32)), (.int (13 : Int32)), (.ref b29)])) rfl rfl (hb hby at_177)
  obtain ⟨u177, hu177⟩ : ∃ z : Nat → Int32, z = fun i => if i = 13 then ((((p1.toUInt64 >>> ((16 : Int32) &&& 0x3f).toInt64.toUInt64).toInt64).toInt32).toInt8.toInt32).toInt8.toInt32 else u166 i := ⟨_, rfl⟩
  replace V59 : own_arr Z h59 b29 .byte 16 (fun i => .int (u177 i)) := by rw [hu177]; exact V59
  have Z59 : n0 ≤ h59.size := Nat.le_trans Z56 (Keep.of_wr W59).1
  have N59 := Fr.snoc X59 N56 g_b29
  have pre60 : ∀ t, Steps p.tables e below (T59.setTop (mkF m 178 #[.val (.long p0), .second, .val (.long p1), .second, .val (.long p2), .second, .val (.long p3), .second, .val (.int p4), .val (.int fr), .val (.int at_), .val (.int (Int32.ofNat n)), .val (.ref b29), .unset, .unset, .unset, .unset, .unset, .unset, .unset, .unset, .unset, .unset, .unset, .unset, .unset, .unset, .unset, .unset, .unset, .unset, .unset] [])) t → Steps p.tables e below (s₁.setTop (entryFrame m #[(.long p0), (.long p1), (.long p2), (.long p3), (.int p4)] maxLocals)) t := fun t kont => pre58 t (st59 _ kont)
  have pre61 : ∀ t, Steps p.tables e below (T59.setTop (mkF m 188 #[.val (.long p0), .second, .val (.long p1), .second, .val (.long p2), .second, .val (.long p3), .second, .val (.int p4), .val (.int fr), .val (.int at_), .val (.int (Int32.ofNat n)), .val (.ref b29), .unset, .unset, .unset, .unset, .unset, .unset, .unset, .unset, .unset, .unset, .unset, .unset, .unset, .unset, .unset, .unset, .unset, .unset, .unset] [(.int ((((p1.toUInt64 >>> ((8 : Int32) &&& 0x3f).toInt64.toUInt64).toInt64).toInt32).toInt8.toInt32)), (.int (14 : Int32)), (.ref b29)])) t → Steps p.tables e below (s₁.setTop (entryFrame m #[(.long p0), (.long p1), (.long p2), (.long p3), (.int p4)] maxLocals)) t := by
    intro t kont
    refine pre60 t ?_
    show Steps p.tables e below (T59.setTop (mkF m 178 #[.val (.long p0), .second, .val (.long p1), .second, .val (.long p2), .second, .val (.long p3), .second, .val (.int p4), .val (.int fr), .val (.int at_), .val (.int (Int32.ofNat n)), .val (.ref b29), .unset, .unset, .unset, .unset, .unset, .unset, .unset, .unset, .unset, .unset, .unset, .unset, .unset, .unset, .unset, .unset, .unset, .unset, .unset] [])) _
    refine XS.aload X59.here hx rfl (hb hby at_178) rfl rfl ?_
    show Steps p.tables e below (T59.setTop (mkF m 180 #[.val (.long p0), .second, .val (.long p1), .second, .val (.long p2), .second, .val (.long p3), .second, .val (.int p4), .val (.int fr), .val (.int at_), .val (.int (Int32.ofNat n)), .val (.ref b29), .unset, .unset, .unset, .unset, .unset, .unset, .unset, .unset, .unset, .unset, .unset, .unset, .unset, .unset, .unset, .unset, .unset, .unset, .unset] [(.ref b29)])) _
    refine XS.bipush X59.here hx rfl (hb hby at_180) ?_
    show Steps p.tables e below (T59.setTop (mkF m 182 #[.val (.long p0), .second, .val (.long p1), .second, .val (.long p2), .second, .val (.long p3), .second, .val (.int p4), .val (.int fr), .val (.int at_), .val (.int (Int32.ofNat n)), .val (.ref b29), .unset, .unset, .unset, .unset, .unset, .unset, .unset, .unset, .unset, .unset, .unset, .unset, .unset, .unset, .unset, .unset, .unset, .unset, .unset] [(.int (14 : Int32)), (.ref b29)])) _
    refine XS.lloadN X59.here hx rfl (hb hby at_182) rfl ?_
    show Steps p.tables e below (T59.setTop (mkF m 183 #[.val (.long p0), .second, .val (.long p1), .second, .val (.long p2), .second, .val (.long p3), .second, .val (.int p4), .val (.int fr), .val (.int at_), .val (.int (Int32.ofNat n)), .val (.ref b29), .unset, .unset, .unset, .unset, .unset, .unset, .unset, .unset, .unset, .unset, .unset, .unset, .unset, .unset, .unset, .unset, .unset, .unset, .unset] [(.long p1), (.int (14 : Int32)), (.ref b29)])) _
    refine XS.bipush X59.here hx rfl (hb hby at_183) ?_
    show Steps p.tables e below (T59.setTop (mkF m 185 #[.val (.long p0), .second, .val (.long p1), .second, .val (.long p2), .second, .val (.long p3), .second, .val (.int p4), .val (.int fr), .val (.int at_), .val (.int (Int32.ofNat n)), .val (.ref b29), .unset, .unset, .unset, .unset, .unset, .unset, .unset, .unset, .unset, .unset, .unset, .unset, .unset, .unset, .unset, .unset, .unset, .unset, .unset] [(.int (8 : Int32)), (.long p1), (.int (14 : Int32)), (.ref b29)])) _
    refine XS.lushr X59.here hx rfl (hb hby at_185) rfl ?_
    show Steps p.tables e below (T59.setTop (mkF m 186 #[.val (.long p0), .second, .val (.long p1), .second, .val (.long p2), .second, .val (.long p3), .second, .val (.int p4), .val (.int fr), .val (.int at_), .val (.int (Int32.ofNat n)), .val (.ref b29), .unset, .unset, .unset, .unset, .unset, .unset, .unset, .unset, .unset, .unset, .unset, .unset, .unset, .unset, .unset, .unset, .unset, .unset, .unset] [(.long ((p1.toUInt64 >>> ((8 : Int32) &&& 0x3f).toInt64.toUInt64).toInt64)), (.int (14 : Int32)), (.ref b29)])) _
    refine XS.l2i X59.here hx rfl (hb hby at_186) rfl ?_
    show Steps p.tables e below (T59.setTop (mkF m 187 #[.val (.long p0), .second, .val (.long p1), .second, .val (.long p2), .second, .val (.long p3), .second, .val (.int p4), .val (.int fr), .val (.int at_), .val (.int (Int32.ofNat n)), .val (.ref b29), .unset, .unset, .unset, .unset, .unset, .unset, .unset, .unset, .unset, .unset, .unset, .unset, .unset, .unset, .unset, .unset, .unset, .unset, .unset] [(.int (((p1.toUInt64 >>> ((8 : Int32) &&& 0x3f).toInt64.toUInt64).toInt64).toInt32)), (.int (14 : Int32)), (.ref b29)])) _
    refine XS.i2b X59.here hx rfl (hb hby at_187) rfl ?_
    exact kont
  obtain ⟨T62, h62, X62, e62, W62, V62, st62⟩ := own_stB X59 hx hZ e59 V59 (k := 14) (by decide) (by decide) (by decide) (fr := (mkF m 188 #[.val (.long p0), .second, .val (.long p1), .second, .val (.long p2), .second, .val (.long p3), .second, .val (.int p4), .val (.int fr), .val (.int at_), .val (.int (Int32.ofNat n)), .val (.ref b29), .unset, .unset, .unset, .unset, .unset, .unset, .unset, .unset, .unset, .unset, .unset, .unset, .unset, .unset, .unset, .unset, .unset, .unset, .unset] [(.int ((((p1.toUInt64 >>> ((8 : Int32) &&& 0x3f).toInt64.toUInt64).toInt64).toInt32).toInt8.toInt32)), (.int (14 : Int32)), (.ref b29)])) rfl rfl (hb hby at_188)
  obtain ⟨u188, hu188⟩ : ∃ z : Nat → Int32, z = fun i => if i = 14 then ((((p1.toUInt64 >>> ((8 : Int32) &&& 0x3f).toInt64.toUInt64).toInt64).toInt32).toInt8.toInt32).toInt8.toInt32 else u177 i := ⟨_, rfl⟩
  replace V62 : own_arr Z h62 b29 .byte 16 (fun i => .int (u188 i)) := by rw [hu188]; exact V62
  have Z62 : n0 ≤ h62.size := Nat.le_trans Z59 (Keep.of_wr W62).1
  have N62 := Fr.snoc X62 N59 g_b29
  have pre63 : ∀ t, Steps p.tables e below (T62.setTop (mkF m 189 #[.val (.long p0), .second, .val (.long p1), .second, .val (.long p2), .second, .val (.long p3), .second, .val (.int p4), .val (.int fr), .val (.int at_), .val (.int (Int32.ofNat n)), .val (.ref b29), .unset, .unset, .unset, .unset, .unset, .unset, .unset, .unset, .unset, .unset, .unset, .unset, .unset, .unset, .unset, .unset, .unset, .unset, .unset] [])) t → Steps p.tables e below (s₁.setTop (entryFrame m #[(.long p0), (.long p1), (.long p2), (.long p3), (.int p4)] maxLocals)) t := fun t kont => pre61 t (st62 _ kont)
  have pre64 : ∀ t, Steps p.tables e below (T62.setTop (mkF m 196 #[.val (.long p0), .second, .val (.long p1), .second, .val (.long p2), .second, .val (.long p3), .second, .val (.int p4), .val (.int fr), .val (.int at_), .val (.int (Int32.ofNat n)), .val (.ref b29), .unset, .unset, .unset, .unset, .unset, .unset, .unset, .unset, .unset, .unset, .unset, .unset, .unset, .unset, .unset, .unset, .unset, .unset, .unset] [(.int ((p1.toInt32).toInt8.toInt32)), (.int (15 : Int32)), (.ref b29)])) t → Steps p.tables e below (s₁.setTop (entryFrame m #[(.long p0), (.long p1), (.long p2), (.long p3), (.int p4)] maxLocals)) t := by
    intro t kont
    refine pre63 t ?_
    show Steps p.tables e below (T62.setTop (mkF m 189 #[.val (.long p0), .second, .val (.long p1), .second, .val (.long p2), .second, .val (.long p3), .second, .val (.int p4), .val (.int fr), .val (.int at_), .val (.int (Int32.ofNat n)), .val (.ref b29), .unset, .unset, .unset, .unset, .unset, .unset, .unset, .unset, .unset, .unset, .unset, .unset, .unset, .unset, .unset, .unset, .unset, .unset, .unset] [])) _
    refine XS.aload X62.here hx rfl (hb hby at_189) rfl rfl ?_
    show Steps p.tables e below (T62.setTop (mkF m 191 #[.val (.long p0), .second, .val (.long p1), .second, .val (.long p2), .second, .val (.long p3), .second, .val (.int p4), .val (.int fr), .val (.int at_), .val (.int (Int32.ofNat n)), .val (.ref b29), .unset, .unset, .unset, .unset, .unset, .unset, .unset, .unset, .unset, .unset, .unset, .unset, .unset, .unset, .unset, .unset, .unset, .unset, .unset] [(.ref b29)])) _
    refine XS.bipush X62.here hx rfl (hb hby at_191) ?_
    show Steps p.tables e below (T62.setTop (mkF m 193 #[.val (.long p0), .second, .val (.long p1), .second, .val (.long p2), .second, .val (.long p3), .second, .val (.int p4), .val (.int fr), .val (.int at_), .val (.int (Int32.ofNat n)), .val (.ref b29), .unset, .unset, .unset, .unset, .unset, .unset, .unset, .unset, .unset, .unset, .unset, .unset, .unset, .unset, .unset, .unset, .unset, .unset, .unset] [(.int (15 : Int32)), (.ref b29)])) _
    refine XS.lloadN X62.here hx rfl (hb hby at_193) rfl ?_
    show Steps p.tables e below (T62.setTop (mkF m 194 #[.val (.long p0), .second, .val (.long p1), .second, .val (.long p2), .second, .val (.long p3), .second, .val (.int p4), .val (.int fr), .val (.int at_), .val (.int (Int32.ofNat n)), .val (.ref b29), .unset, .unset, .unset, .unset, .unset, .unset, .unset, .unset, .unset, .unset, .unset, .unset, .unset, .unset, .unset, .unset, .unset, .unset, .unset] [(.long p1), (.int (15 : Int32)), (.ref b29)])) _
    refine XS.l2i X62.here hx rfl (hb hby at_194) rfl ?_
    show Steps p.tables e below (T62.setTop (mkF m 195 #[.val (.long p0), .second, .val (.long p1), .second, .val (.long p2), .second, .val (.long p3), .second, .val (.int p4), .val (.int fr), .val (.int at_), .val (.int (Int32.ofNat n)), .val (.ref b29), .unset, .unset, .unset, .unset, .unset, .unset, .unset, .unset, .unset, .unset, .unset, .unset, .unset, .unset, .unset, .unset, .unset, .unset, .unset] [(.int (p1.toInt32)), (.int (15 : Int32)), (.ref b29)])) _
    refine XS.i2b X62.here hx rfl (hb hby at_195) rfl ?_
    exact kont
  obtain ⟨T65, h65, X65, e65, W65, V65, st65⟩ := own_stB X62 hx hZ e62 V62 (k := 15) (by decide) (by decide) (by decide) (fr := (mkF m 196 #[.val (.long p0), .second, .val (.long p1), .second, .val (.long p2), .second, .val (.long p3), .second, .val (.int p4), .val (.int fr), .val (.int at_), .val (.int (Int32.ofNat n)), .val (.ref b29), .unset, .unset, .unset, .unset, .unset, .unset, .unset, .unset, .unset, .unset, .unset, .unset, .unset, .unset, .unset, .unset, .unset, .unset, .unset] [(.int ((p1.toInt32).toInt8.toInt32)), (.int (15 : Int32)), (.ref b29)])) rfl rfl (hb hby at_196)
  obtain ⟨u196, hu196⟩ : ∃ z : Nat → Int32, z = fun i => if i = 15 then ((p1.toInt32).toInt8.toInt32).toInt8.toInt32 else u188 i := ⟨_, rfl⟩
  replace V65 : own_arr Z h65 b29 .byte 16 (fun i => .int (u196 i)) := by rw [hu196]; exact V65
  have Z65 : n0 ≤ h65.size := Nat.le_trans Z62 (Keep.of_wr W65).1
  have N65 := Fr.snoc X65 N62 g_b29
  have pre66 : ∀ t, Steps p.tables e below (T65.setTop (mkF m 197 #[.val (.long p0), .second, .val (.long p1), .second, .val (.long p2), .second, .val (.long p3), .second, .val (.int p4), .val (.int fr), .val (.int at_), .val (.int (Int32.ofNat n)), .val (.ref b29), .unset, .unset, .unset, .unset, .unset, .unset, .unset, .unset, .unset, .unset, .unset, .unset, .unset, .unset, .unset, .unset, .unset, .unset, .unset] [])) t → Steps p.tables e below (s₁.setTop (entryFrame m #[(.long p0), (.long p1), (.long p2), (.long p3), (.int p4)] maxLocals)) t := fun t kont => pre64 t (st65 _ kont)
  have hby_ : u196 = own_by p0 p1 := by rw [hu196, hu188, hu177, hu166, hu155, hu144, hu133, hu122, hu111, hu103, hu92, hu82, hu72, hu62, hu52, hu42]; rfl
  have pre67 : ∀ t, Steps p.tables e below (T65.setTop (mkF m 199 #[.val (.long p0), .second, .val (.long p1), .second, .val (.long p2), .second, .val (.long p3), .second, .val (.int p4), .val (.int fr), .val (.int at_), .val (.int (Int32.ofNat n)), .val (.ref b29), .unset, .unset, .unset, .unset, .unset, .unset, .unset, .unset, .unset, .unset, .unset, .unset, .unset, .unset, .unset, .unset, .unset, .unset, .unset] [(.int (Int32.ofNat n))])) t → Steps p.tables e below (s₁.setTop (entryFrame m #[(.long p0), (.long p1), (.long p2), (.long p3), (.int p4)] maxLocals)) t := by
    intro t kont
    refine pre66 t ?_
    show Steps p.tables e below (T65.setTop (mkF m 197 #[.val (.long p0), .second, .val (.long p1), .second, .val (.long p2), .second, .val (.long p3), .second, .val (.int p4), .val (.int fr), .val (.int at_), .val (.int (Int32.ofNat n)), .val (.ref b29), .unset, .unset, .unset, .unset, .unset, .unset, .unset, .unset, .unset, .unset, .unset, .unset, .unset, .unset, .unset, .unset, .unset, .unset, .unset] [])) _
    refine XS.iload X65.here hx rfl (hb hby at_197) rfl ?_
    exact kont
  obtain ⟨v215, hv215⟩ : ∃ z : Int64, z = (if (Int32.ofNat n) = (0 : Int32) then (0 : Int64) else ((-1 : Int64) <<< (((64 : Int32) - (Int32.ofNat n)) &&& 0x3f).toInt64)) := ⟨_, rfl⟩
  have pre68 : ∀ t, Steps p.tables e below (T65.setTop (mkF m 215 #[.val (.long p0), .second, .val (.long p1), .second, .val (.long p2), .second, .val (.long p3), .second, .val (.int p4), .val (.int fr), .val (.int at_), .val (.int (Int32.ofNat n)), .val (.ref b29), .unset, .unset, .unset, .unset, .unset, .unset, .unset, .unset, .unset, .unset, .unset, .unset, .unset, .unset, .unset, .unset, .unset, .unset, .unset] [(.long v215)])) t → Steps p.tables e below (s₁.setTop (entryFrame m #[(.long p0), (.long p1), (.long p2), (.long p3), (.int p4)] maxLocals)) t := by
    intro t kont
    refine pre67 t ?_
    by_cases j_199 : (Int32.ofNat n) = (0 : Int32)
    · rw [hv215, if_pos j_199] at kont
      show Steps p.tables e below (T65.setTop (mkF m 199 #[.val (.long p0), .second, .val (.long p1), .second, .val (.long p2), .second, .val (.long p3), .second, .val (.int p4), .val (.int fr), .val (.int at_), .val (.int (Int32.ofNat n)), .val (.ref b29), .unset, .unset, .unset, .unset, .unset, .unset, .unset, .unset, .unset, .unset, .unset, .unset, .unset, .unset, .unset, .unset, .unset, .unset, .unset] [(.int (Int32.ofNat n))])) _
      refine XS.ifNo X65.here hx rfl (hb hby at_199) rfl ((if0 _ _).trans (teq j_199).2) ?_
      show Steps p.tables e below (T65.setTop (mkF m 202 #[.val (.long p0), .second, .val (.long p1), .second, .val (.long p2), .second, .val (.long p3), .second, .val (.int p4), .val (.int fr), .val (.int at_), .val (.int (Int32.ofNat n)), .val (.ref b29), .unset, .unset, .unset, .unset, .unset, .unset, .unset, .unset, .unset, .unset, .unset, .unset, .unset, .unset, .unset, .unset, .unset, .unset, .unset] [])) _
      refine XS.lconst X65.here hx rfl (hb hby at_202) ?_
      show Steps p.tables e below (T65.setTop (mkF m 203 #[.val (.long p0), .second, .val (.long p1), .second, .val (.long p2), .second, .val (.long p3), .second, .val (.int p4), .val (.int fr), .val (.int at_), .val (.int (Int32.ofNat n)), .val (.ref b29), .unset, .unset, .unset, .unset, .unset, .unset, .unset, .unset, .unset, .unset, .unset, .unset, .unset, .unset, .unset, .unset, .unset, .unset, .unset] [(.long (0 : Int64))])) _
      refine XS.goto X65.here hx rfl (pc0 := 203) (pc' := 215) rfl (hb hby at_203) (by decide) (by decide) ?_
      exact kont
    · rw [hv215, if_neg j_199] at kont
      show Steps p.tables e below (T65.setTop (mkF m 199 #[.val (.long p0), .second, .val (.long p1), .second, .val (.long p2), .second, .val (.long p3), .second, .val (.int p4), .val (.int fr), .val (.int at_), .val (.int (Int32.ofNat n)), .val (.ref b29), .unset, .unset, .unset, .unset, .unset, .unset, .unset, .unset, .unset, .unset, .unset, .unset, .unset, .unset, .unset, .unset, .unset, .unset, .unset] [(.int (Int32.ofNat n))])) _
      refine XS.ifYes X65.here hx rfl (pc0 := 199) (pc' := 206) rfl (hb hby at_199) rfl ((if0 _ _).trans (feq j_199).2) (by decide) (by decide) ?_
      show Steps p.tables e below (T65.setTop (mkF m 206 #[.val (.long p0), .second, .val (.long p1), .second, .val (.long p2), .second, .val (.long p3), .second, .val (.int p4), .val (.int fr), .val (.int at_), .val (.int (Int32.ofNat n)), .val (.ref b29), .unset, .unset, .unset, .unset, .unset, .unset, .unset, .unset, .unset, .unset, .unset, .unset, .unset, .unset, .unset, .unset, .unset, .unset, .unset] [])) _
      refine X65.ldc2Long hx hown (mvT hZ (hw _ (List.mem_of_getElem? (i := 1) rfl))) (g := (mkF m 206 #[.val (.long p0), .second, .val (.long p1), .second, .val (.long p2), .second, .val (.long p3), .second, .val (.int p4), .val (.int fr), .val (.int at_), .val (.int (Int32.ofNat n)), .val (.ref b29), .unset, .unset, .unset, .unset, .unset, .unset, .unset, .unset, .unset, .unset, .unset, .unset, .unset, .unset, .unset, .unset, .unset, .unset, .unset] [])) rfl (hb hby at_206) _ ?_
      show Steps p.tables e below (T65.setTop (mkF m 209 #[.val (.long p0), .second, .val (.long p1), .second, .val (.long p2), .second, .val (.long p3), .second, .val (.int p4), .val (.int fr), .val (.int at_), .val (.int (Int32.ofNat n)), .val (.ref b29), .unset, .unset, .unset, .unset, .unset, .unset, .unset, .unset, .unset, .unset, .unset, .unset, .unset, .unset, .unset, .unset, .unset, .unset, .unset] [(.long (-1 : Int64))])) _
      refine XS.bipush X65.here hx rfl (hb hby at_209) ?_
      show Steps p.tables e below (T65.setTop (mkF m 211 #[.val (.long p0), .second, .val (.long p1), .second, .val (.long p2), .second, .val (.long p3), .second, .val (.int p4), .val (.int fr), .val (.int at_), .val (.int (Int32.ofNat n)), .val (.ref b29), .unset, .unset, .unset, .unset, .unset, .unset, .unset, .unset, .unset, .unset, .unset, .unset, .unset, .unset, .unset, .unset, .unset, .unset, .unset] [(.int (64 : Int32)), (.long (-1 : Int64))])) _
      refine XS.iload X65.here hx rfl (hb hby at_211) rfl ?_
      show Steps p.tables e below (T65.setTop (mkF m 213 #[.val (.long p0), .second, .val (.long p1), .second, .val (.long p2), .second, .val (.long p3), .second, .val (.int p4), .val (.int fr), .val (.int at_), .val (.int (Int32.ofNat n)), .val (.ref b29), .unset, .unset, .unset, .unset, .unset, .unset, .unset, .unset, .unset, .unset, .unset, .unset, .unset, .unset, .unset, .unset, .unset, .unset, .unset] [(.int (Int32.ofNat n)), (.int (64 : Int32)), (.long (-1 : Int64))])) _
      refine XS.isub X65.here hx rfl (hb hby at_213) rfl ?_
      show Steps p.tables e below (T65.setTop (mkF m 214 #[.val (.long p0), .second, .val (.long p1), .second, .val (.long p2), .second, .val (.long p3), .second, .val (.int p4), .val (.int fr), .val (.int at_), .val (.int (Int32.ofNat n)), .val (.ref b29), .unset, .unset, .unset, .unset, .unset, .unset, .unset, .unset, .unset, .unset, .unset, .unset, .unset, .unset, .unset, .unset, .unset, .unset, .unset] [(.int ((64 : Int32) - (Int32.ofNat n))), (.long (-1 : Int64))])) _
      refine XS.lshl X65.here hx rfl (hb hby at_214) rfl ?_
      exact kont
  have pre69 : ∀ t, Steps p.tables e below (T65.setTop (mkF m 219 #[.val (.long p0), .second, .val (.long p1), .second, .val (.long p2), .second, .val (.long p3), .second, .val (.int p4), .val (.int fr), .val (.int at_), .val (.int (Int32.ofNat n)), .val (.ref b29), .val (.long v215), .second, .unset, .unset, .unset, .unset, .unset, .unset, .unset, .unset, .unset, .unset, .unset, .unset, .unset, .unset, .unset, .unset, .unset] [(.int fr)])) t → Steps p.tables e below (s₁.setTop (entryFrame m #[(.long p0), (.long p1), (.long p2), (.long p3), (.int p4)] maxLocals)) t := by
    intro t kont
    refine pre68 t ?_
    show Steps p.tables e below (T65.setTop (mkF m 215 #[.val (.long p0), .second, .val (.long p1), .second, .val (.long p2), .second, .val (.long p3), .second, .val (.int p4), .val (.int fr), .val (.int at_), .val (.int (Int32.ofNat n)), .val (.ref b29), .unset, .unset, .unset, .unset, .unset, .unset, .unset, .unset, .unset, .unset, .unset, .unset, .unset, .unset, .unset, .unset, .unset, .unset, .unset] [(.long v215)])) _
    refine XS.lstore X65.here hx rfl (hb hby at_215) rfl (l' := #[.val (.long p0), .second, .val (.long p1), .second, .val (.long p2), .second, .val (.long p3), .second, .val (.int p4), .val (.int fr), .val (.int at_), .val (.int (Int32.ofNat n)), .val (.ref b29), .val (.long v215), .second, .unset, .unset, .unset, .unset, .unset, .unset, .unset, .unset, .unset, .unset, .unset, .unset, .unset, .unset, .unset, .unset, .unset]) rfl ?_
    show Steps p.tables e below (T65.setTop (mkF m 217 #[.val (.long p0), .second, .val (.long p1), .second, .val (.long p2), .second, .val (.long p3), .second, .val (.int p4), .val (.int fr), .val (.int at_), .val (.int (Int32.ofNat n)), .val (.ref b29), .val (.long v215), .second, .unset, .unset, .unset, .unset, .unset, .unset, .unset, .unset, .unset, .unset, .unset, .unset, .unset, .unset, .unset, .unset, .unset] [])) _
    refine XS.iload X65.here hx rfl (hb hby at_217) rfl ?_
    exact kont
  obtain ⟨v238, hv238⟩ : ∃ z : Int64, z = (if fr = (0 : Int32) then p0 else ((p0 <<< (fr &&& 0x3f).toInt64) ||| ((p1.toUInt64 >>> (((64 : Int32) - fr) &&& 0x3f).toInt64.toUInt64).toInt64))) := ⟨_, rfl⟩
  have pre70 : ∀ t, Steps p.tables e below (T65.setTop (mkF m 238 #[.val (.long p0), .second, .val (.long p1), .second, .val (.long p2), .second, .val (.long p3), .second, .val (.int p4), .val (.int fr), .val (.int at_), .val (.int (Int32.ofNat n)), .val (.ref b29), .val (.long v215), .second, .unset, .unset, .unset, .unset, .unset, .unset, .unset, .unset, .unset, .unset, .unset, .unset, .unset, .unset, .unset, .unset, .unset] [(.long v238)])) t → Steps p.tables e below (s₁.setTop (entryFrame m #[(.long p0), (.long p1), (.long p2), (.long p3), (.int p4)] maxLocals)) t := by
    intro t kont
    refine pre69 t ?_
    by_cases j_219 : fr = (0 : Int32)
    · rw [hv238, if_pos j_219] at kont
      show Steps p.tables e below (T65.setTop (mkF m 219 #[.val (.long p0), .second, .val (.long p1), .second, .val (.long p2), .second, .val (.long p3), .second, .val (.int p4), .val (.int fr), .val (.int at_), .val (.int (Int32.ofNat n)), .val (.ref b29), .val (.long v215), .second, .unset, .unset, .unset, .unset, .unset, .unset, .unset, .unset, .unset, .unset, .unset, .unset, .unset, .unset, .unset, .unset, .unset] [(.int fr)])) _
      refine XS.ifNo X65.here hx rfl (hb hby at_219) rfl ((if0 _ _).trans (teq j_219).2) ?_
      show Steps p.tables e below (T65.setTop (mkF m 222 #[.val (.long p0), .second, .val (.long p1), .second, .val (.long p2), .second, .val (.long p3), .second, .val (.int p4), .val (.int fr), .val (.int at_), .val (.int (Int32.ofNat n)), .val (.ref b29), .val (.long v215), .second, .unset, .unset, .unset, .unset, .unset, .unset, .unset, .unset, .unset, .unset, .unset, .unset, .unset, .unset, .unset, .unset, .unset] [])) _
      refine XS.lloadN X65.here hx rfl (hb hby at_222) rfl ?_
      show Steps p.tables e below (T65.setTop (mkF m 223 #[.val (.long p0), .second, .val (.long p1), .second, .val (.long p2), .second, .val (.long p3), .second, .val (.int p4), .val (.int fr), .val (.int at_), .val (.int (Int32.ofNat n)), .val (.ref b29), .val (.long v215), .second, .unset, .unset, .unset, .unset, .unset, .unset, .unset, .unset, .unset, .unset, .unset, .unset, .unset, .unset, .unset, .unset, .unset] [(.long p0)])) _
      refine XS.goto X65.here hx rfl (pc0 := 223) (pc' := 238) rfl (hb hby at_223) (by decide) (by decide) ?_
      exact kont
    · rw [hv238, if_neg j_219] at kont
      show Steps p.tables e below (T65.setTop (mkF m 219 #[.val (.long p0), .second, .val (.long p1), .second, .val (.long p2), .second, .val (.long p3), .second, .val (.int p4), .val (.int fr), .val (.int at_), .val (.int (Int32.ofNat n)), .val (.ref b29), .val (.long v215), .second, .unset, .unset, .unset, .unset, .unset, .unset, .unset, .unset, .unset, .unset, .unset, .unset, .unset, .unset, .unset, .unset, .unset] [(.int fr)])) _
      refine XS.ifYes X65.here hx rfl (pc0 := 219) (pc' := 226) rfl (hb hby at_219) rfl ((if0 _ _).trans (feq j_219).2) (by decide) (by decide) ?_
      show Steps p.tables e below (T65.setTop (mkF m 226 #[.val (.long p0), .second, .val (.long p1), .second, .val (.long p2), .second, .val (.long p3), .second, .val (.int p4), .val (.int fr), .val (.int at_), .val (.int (Int32.ofNat n)), .val (.ref b29), .val (.long v215), .second, .unset, .unset, .unset, .unset, .unset, .unset, .unset, .unset, .unset, .unset, .unset, .unset, .unset, .unset, .unset, .unset, .unset] [])) _
      refine XS.lloadN X65.here hx rfl (hb hby at_226) rfl ?_
      show Steps p.tables e below (T65.setTop (mkF m 227 #[.val (.long p0), .second, .val (.long p1), .second, .val (.long p2), .second, .val (.long p3), .second, .val (.int p4), .val (.int fr), .val (.int at_), .val (.int (Int32.ofNat n)), .val (.ref b29), .val (.long v215), .second, .unset, .unset, .unset, .unset, .unset, .unset, .unset, .unset, .unset, .unset, .unset, .unset, .unset, .unset, .unset, .unset, .unset] [(.long p0)])) _
      refine XS.iload X65.here hx rfl (hb hby at_227) rfl ?_
      show Steps p.tables e below (T65.setTop (mkF m 229 #[.val (.long p0), .second, .val (.long p1), .second, .val (.long p2), .second, .val (.long p3), .second, .val (.int p4), .val (.int fr), .val (.int at_), .val (.int (Int32.ofNat n)), .val (.ref b29), .val (.long v215), .second, .unset, .unset, .unset, .unset, .unset, .unset, .unset, .unset, .unset, .unset, .unset, .unset, .unset, .unset, .unset, .unset, .unset] [(.int fr), (.long p0)])) _
      refine XS.lshl X65.here hx rfl (hb hby at_229) rfl ?_
      show Steps p.tables e below (T65.setTop (mkF m 230 #[.val (.long p0), .second, .val (.long p1), .second, .val (.long p2), .second, .val (.long p3), .second, .val (.int p4), .val (.int fr), .val (.int at_), .val (.int (Int32.ofNat n)), .val (.ref b29), .val (.long v215), .second, .unset, .unset, .unset, .unset, .unset, .unset, .unset, .unset, .unset, .unset, .unset, .unset, .unset, .unset, .unset, .unset, .unset] [(.long (p0 <<< (fr &&& 0x3f).toInt64))])) _
      refine XS.lloadN X65.here hx rfl (hb hby at_230) rfl ?_
      show Steps p.tables e below (T65.setTop (mkF m 231 #[.val (.long p0), .second, .val (.long p1), .second, .val (.long p2), .second, .val (.long p3), .second, .val (.int p4), .val (.int fr), .val (.int at_), .val (.int (Int32.ofNat n)), .val (.ref b29), .val (.long v215), .second, .unset, .unset, .unset, .unset, .unset, .unset, .unset, .unset, .unset, .unset, .unset, .unset, .unset, .unset, .unset, .unset, .unset] [(.long p1), (.long (p0 <<< (fr &&& 0x3f).toInt64))])) _
      refine XS.bipush X65.here hx rfl (hb hby at_231) ?_
      show Steps p.tables e below (T65.setTop (mkF m 233 #[.val (.long p0), .second, .val (.long p1), .second, .val (.long p2), .second, .val (.long p3), .second, .val (.int p4), .val (.int fr), .val (.int at_), .val (.int (Int32.ofNat n)), .val (.ref b29), .val (.long v215), .second, .unset, .unset, .unset, .unset, .unset, .unset, .unset, .unset, .unset, .unset, .unset, .unset, .unset, .unset, .unset, .unset, .unset] [(.int (64 : Int32)), (.long p1), (.long (p0 <<< (fr &&& 0x3f).toInt64))])) _
      refine XS.iload X65.here hx rfl (hb hby at_233) rfl ?_
      show Steps p.tables e below (T65.setTop (mkF m 235 #[.val (.long p0), .second, .val (.long p1), .second, .val (.long p2), .second, .val (.long p3), .second, .val (.int p4), .val (.int fr), .val (.int at_), .val (.int (Int32.ofNat n)), .val (.ref b29), .val (.long v215), .second, .unset, .unset, .unset, .unset, .unset, .unset, .unset, .unset, .unset, .unset, .unset, .unset, .unset, .unset, .unset, .unset, .unset] [(.int fr), (.int (64 : Int32)), (.long p1), (.long (p0 <<< (fr &&& 0x3f).toInt64))])) _
      refine XS.isub X65.here hx rfl (hb hby at_235) rfl ?_
      show Steps p.tables e below (T65.setTop (mkF m 236 #[.val (.long p0), .second, .val (.long p1), .second, .val (.long p2), .second, .val (.long p3), .second, .val (.int p4), .val (.int fr), .val (.int at_), .val (.int (Int32.ofNat n)), .val (.ref b29), .val (.long v215), .second, .unset, .unset, .unset, .unset, .unset, .unset, .unset, .unset, .unset, .unset, .unset, .unset, .unset, .unset, .unset, .unset, .unset] [(.int ((64 : Int32) - fr)), (.long p1), (.long (p0 <<< (fr &&& 0x3f).toInt64))])) _
      refine XS.lushr X65.here hx rfl (hb hby at_236) rfl ?_
      show Steps p.tables e below (T65.setTop (mkF m 237 #[.val (.long p0), .second, .val (.long p1), .second, .val (.long p2), .second, .val (.long p3), .second, .val (.int p4), .val (.int fr), .val (.int at_), .val (.int (Int32.ofNat n)), .val (.ref b29), .val (.long v215), .second, .unset, .unset, .unset, .unset, .unset, .unset, .unset, .unset, .unset, .unset, .unset, .unset, .unset, .unset, .unset, .unset, .unset] [(.long ((p1.toUInt64 >>> (((64 : Int32) - fr) &&& 0x3f).toInt64.toUInt64).toInt64)), (.long (p0 <<< (fr &&& 0x3f).toInt64))])) _
      refine XS.lor X65.here hx rfl (hb hby at_237) rfl ?_
      exact kont
  have pre71 : ∀ t, Steps p.tables e below (T65.setTop (mkF m 256 #[.val (.long p0), .second, .val (.long p1), .second, .val (.long p2), .second, .val (.long p3), .second, .val (.int p4), .val (.int fr), .val (.int at_), .val (.int (Int32.ofNat n)), .val (.ref b29), .val (.long v215), .second, .val (.long v238), .second, .val (.long (v238 &&& v215)), .second, .val (.long ((v215.toUInt64 >>> (at_ &&& 0x3f).toInt64.toUInt64).toInt64)), .second, .unset, .unset, .unset, .unset, .unset, .unset, .unset, .unset, .unset, .unset, .unset] [(.int at_)])) t → Steps p.tables e below (s₁.setTop (entryFrame m #[(.long p0), (.long p1), (.long p2), (.long p3), (.int p4)] maxLocals)) t := by
    intro t kont
    refine pre70 t ?_
    show Steps p.tables e below (T65.setTop (mkF m 238 #[.val (.long p0), .second, .val (.long p1), .second, .val (.long p2), .second, .val (.long p3), .second, .val (.int p4), .val (.int fr), .val (.int at_), .val (.int (Int32.ofNat n)), .val (.ref b29), .val (.long v215), .second, .unset, .unset, .unset, .unset, .unset, .unset, .unset, .unset, .unset, .unset, .unset, .unset, .unset, .unset, .unset, .unset, .unset] [(.long v238)])) _
    refine XS.lstore X65.here hx rfl (hb hby at_238) rfl (l' := #[.val (.long p0), .second, .val (.long p1), .second, .val (.long p2), .second, .val (.long p3), .second, .val (.int p4), .val (.int fr), .val (.int at_), .val (.int (Int32.ofNat n)), .val (.ref b29), .val (.long v215), .second, .val (.long v238), .second, .unset, .unset, .unset, .unset, .unset, .unset, .unset, .unset, .unset, .unset, .unset, .unset, .unset, .unset, .unset]) rfl ?_
    show Steps p.tables e below (T65.setTop (mkF m 240 #[.val (.long p0), .second, .val (.long p1), .second, .val (.long p2), .second, .val (.long p3), .second, .val (.int p4), .val (.int fr), .val (.int at_), .val (.int (Int32.ofNat n)), .val (.ref b29), .val (.long v215), .second, .val (.long v238), .second, .unset, .unset, .unset, .unset, .unset, .unset, .unset, .unset, .unset, .unset, .unset, .unset, .unset, .unset, .unset] [])) _
    refine XS.lload X65.here hx rfl (hb hby at_240) rfl ?_
    show Steps p.tables e below (T65.setTop (mkF m 242 #[.val (.long p0), .second, .val (.long p1), .second, .val (.long p2), .second, .val (.long p3), .second, .val (.int p4), .val (.int fr), .val (.int at_), .val (.int (Int32.ofNat n)), .val (.ref b29), .val (.long v215), .second, .val (.long v238), .second, .unset, .unset, .unset, .unset, .unset, .unset, .unset, .unset, .unset, .unset, .unset, .unset, .unset, .unset, .unset] [(.long v238)])) _
    refine XS.lload X65.here hx rfl (hb hby at_242) rfl ?_
    show Steps p.tables e below (T65.setTop (mkF m 244 #[.val (.long p0), .second, .val (.long p1), .second, .val (.long p2), .second, .val (.long p3), .second, .val (.int p4), .val (.int fr), .val (.int at_), .val (.int (Int32.ofNat n)), .val (.ref b29), .val (.long v215), .second, .val (.long v238), .second, .unset, .unset, .unset, .unset, .unset, .unset, .unset, .unset, .unset, .unset, .unset, .unset, .unset, .unset, .unset] [(.long v215), (.long v238)])) _
    refine XS.land X65.here hx rfl (hb hby at_244) rfl ?_
    show Steps p.tables e below (T65.setTop (mkF m 245 #[.val (.long p0), .second, .val (.long p1), .second, .val (.long p2), .second, .val (.long p3), .second, .val (.int p4), .val (.int fr), .val (.int at_), .val (.int (Int32.ofNat n)), .val (.ref b29), .val (.long v215), .second, .val (.long v238), .second, .unset, .unset, .unset, .unset, .unset, .unset, .unset, .unset, .unset, .unset, .unset, .unset, .unset, .unset, .unset] [(.long (v238 &&& v215))])) _
    refine XS.lstore X65.here hx rfl (hb hby at_245) rfl (l' := #[.val (.long p0), .second, .val (.long p1), .second, .val (.long p2), .second, .val (.long p3), .second, .val (.int p4), .val (.int fr), .val (.int at_), .val (.int (Int32.ofNat n)), .val (.ref b29), .val (.long v215), .second, .val (.long v238), .second, .val (.long (v238 &&& v215)), .second, .unset, .unset, .unset, .unset, .unset, .unset, .unset, .unset, .unset, .unset, .unset, .unset, .unset]) rfl ?_
    show Steps p.tables e below (T65.setTop (mkF m 247 #[.val (.long p0), .second, .val (.long p1), .second, .val (.long p2), .second, .val (.long p3), .second, .val (.int p4), .val (.int fr), .val (.int at_), .val (.int (Int32.ofNat n)), .val (.ref b29), .val (.long v215), .second, .val (.long v238), .second, .val (.long (v238 &&& v215)), .second, .unset, .unset, .unset, .unset, .unset, .unset, .unset, .unset, .unset, .unset, .unset, .unset, .unset] [])) _
    refine XS.lload X65.here hx rfl (hb hby at_247) rfl ?_
    show Steps p.tables e below (T65.setTop (mkF m 249 #[.val (.long p0), .second, .val (.long p1), .second, .val (.long p2), .second, .val (.long p3), .second, .val (.int p4), .val (.int fr), .val (.int at_), .val (.int (Int32.ofNat n)), .val (.ref b29), .val (.long v215), .second, .val (.long v238), .second, .val (.long (v238 &&& v215)), .second, .unset, .unset, .unset, .unset, .unset, .unset, .unset, .unset, .unset, .unset, .unset, .unset, .unset] [(.long v215)])) _
    refine XS.iload X65.here hx rfl (hb hby at_249) rfl ?_
    show Steps p.tables e below (T65.setTop (mkF m 251 #[.val (.long p0), .second, .val (.long p1), .second, .val (.long p2), .second, .val (.long p3), .second, .val (.int p4), .val (.int fr), .val (.int at_), .val (.int (Int32.ofNat n)), .val (.ref b29), .val (.long v215), .second, .val (.long v238), .second, .val (.long (v238 &&& v215)), .second, .unset, .unset, .unset, .unset, .unset, .unset, .unset, .unset, .unset, .unset, .unset, .unset, .unset] [(.int at_), (.long v215)])) _
    refine XS.lushr X65.here hx rfl (hb hby at_251) rfl ?_
    show Steps p.tables e below (T65.setTop (mkF m 252 #[.val (.long p0), .second, .val (.long p1), .second, .val (.long p2), .second, .val (.long p3), .second, .val (.int p4), .val (.int fr), .val (.int at_), .val (.int (Int32.ofNat n)), .val (.ref b29), .val (.long v215), .second, .val (.long v238), .second, .val (.long (v238 &&& v215)), .second, .unset, .unset, .unset, .unset, .unset, .unset, .unset, .unset, .unset, .unset, .unset, .unset, .unset] [(.long ((v215.toUInt64 >>> (at_ &&& 0x3f).toInt64.toUInt64).toInt64))])) _
    refine XS.lstore X65.here hx rfl (hb hby at_252) rfl (l' := #[.val (.long p0), .second, .val (.long p1), .second, .val (.long p2), .second, .val (.long p3), .second, .val (.int p4), .val (.int fr), .val (.int at_), .val (.int (Int32.ofNat n)), .val (.ref b29), .val (.long v215), .second, .val (.long v238), .second, .val (.long (v238 &&& v215)), .second, .val (.long ((v215.toUInt64 >>> (at_ &&& 0x3f).toInt64.toUInt64).toInt64)), .second, .unset, .unset, .unset, .unset, .unset, .unset, .unset, .unset, .unset, .unset, .unset]) rfl ?_
    show Steps p.tables e below (T65.setTop (mkF m 254 #[.val (.long p0), .second, .val (.long p1), .second, .val (.long p2), .second, .val (.long p3), .second, .val (.int p4), .val (.int fr), .val (.int at_), .val (.int (Int32.ofNat n)), .val (.ref b29), .val (.long v215), .second, .val (.long v238), .second, .val (.long (v238 &&& v215)), .second, .val (.long ((v215.toUInt64 >>> (at_ &&& 0x3f).toInt64.toUInt64).toInt64)), .second, .unset, .unset, .unset, .unset, .unset, .unset, .unset, .unset, .unset, .unset, .unset] [])) _
    refine XS.iload X65.here hx rfl (hb hby at_254) rfl ?_
    exact kont
  obtain ⟨v271, hv271⟩ : ∃ z : Int64, z = (if at_ = (0 : Int32) then (0 : Int64) else (v215 <<< (((64 : Int32) - at_) &&& 0x3f).toInt64)) := ⟨_, rfl⟩
  have pre72 : ∀ t, Steps p.tables e below (T65.setTop (mkF m 271 #[.val (.long p0), .second, .val (.long p1), .second, .val (.long p2), .second, .val (.long p3), .second, .val (.int p4), .val (.int fr), .val (.int at_), .val (.int (Int32.ofNat n)), .val (.ref b29), .val (.long v215), .second, .val (.long v238), .second, .val (.long (v238 &&& v215)), .second, .val (.long ((v215.toUInt64 >>> (at_ &&& 0x3f).toInt64.toUInt64).toInt64)), .second, .unset, .unset, .unset, .unset, .unset, .unset, .unset, .unset, .unset, .unset, .unset] [(.long v271)])) t → Steps p.tables e below (s₁.setTop (entryFrame m #[(.long p0), (.long p1), (.long p2), (.long p3), (.int p4)] maxLocals)) t := by
    intro t kont
    refine pre71 t ?_
    by_cases j_256 : at_ = (0 : Int32)
    · rw [hv271, if_pos j_256] at kont
      show Steps p.tables e below (T65.setTop (mkF m 256 #[.val (.long p0), .second, .val (.long p1), .second, .val (.long p2), .second, .val (.long p3), .second, .val (.int p4), .val (.int fr), .val (.int at_), .val (.int (Int32.ofNat n)), .val (.ref b29), .val (.long v215), .second, .val (.long v238), .second, .val (.long (v238 &&& v215)), .second, .val (.long ((v215.toUInt64 >>> (at_ &&& 0x3f).toInt64.toUInt64).toInt64)), .second, .unset, .unset, .unset, .unset, .unset, .unset, .unset, .unset, .unset, .unset, .unset] [(.int at_)])) _
      refine XS.ifNo X65.here hx rfl (hb hby at_256) rfl ((if0 _ _).trans (teq j_256).2) ?_
      show Steps p.tables e below (T65.setTop (mkF m 259 #[.val (.long p0), .second, .val (.long p1), .second, .val (.long p2), .second, .val (.long p3), .second, .val (.int p4), .val (.int fr), .val (.int at_), .val (.int (Int32.ofNat n)), .val (.ref b29), .val (.long v215), .second, .val (.long v238), .second, .val (.long (v238 &&& v215)), .second, .val (.long ((v215.toUInt64 >>> (at_ &&& 0x3f).toInt64.toUInt64).toInt64)), .second, .unset, .unset, .unset, .unset, .unset, .unset, .unset, .unset, .unset, .unset, .unset] [])) _
      refine XS.lconst X65.here hx rfl (hb hby at_259) ?_
      show Steps p.tables e below (T65.setTop (mkF m 260 #[.val (.long p0), .second, .val (.long p1), .second, .val (.long p2), .second, .val (.long p3), .second, .val (.int p4), .val (.int fr), .val (.int at_), .val (.int (Int32.ofNat n)), .val (.ref b29), .val (.long v215), .second, .val (.long v238), .second, .val (.long (v238 &&& v215)), .second, .val (.long ((v215.toUInt64 >>> (at_ &&& 0x3f).toInt64.toUInt64).toInt64)), .second, .unset, .unset, .unset, .unset, .unset, .unset, .unset, .unset, .unset, .unset, .unset] [(.long (0 : Int64))])) _
      refine XS.goto X65.here hx rfl (pc0 := 260) (pc' := 271) rfl (hb hby at_260) (by decide) (by decide) ?_
      exact kont
    · rw [hv271, if_neg j_256] at kont
      show Steps p.tables e below (T65.setTop (mkF m 256 #[.val (.long p0), .second, .val (.long p1), .second, .val (.long p2), .second, .val (.long p3), .second, .val (.int p4), .val (.int fr), .val (.int at_), .val (.int (Int32.ofNat n)), .val (.ref b29), .val (.long v215), .second, .val (.long v238), .second, .val (.long (v238 &&& v215)), .second, .val (.long ((v215.toUInt64 >>> (at_ &&& 0x3f).toInt64.toUInt64).toInt64)), .second, .unset, .unset, .unset, .unset, .unset, .unset, .unset, .unset, .unset, .unset, .unset] [(.int at_)])) _
      refine XS.ifYes X65.here hx rfl (pc0 := 256) (pc' := 263) rfl (hb hby at_256) rfl ((if0 _ _).trans (feq j_256).2) (by decide) (by decide) ?_
      show Steps p.tables e below (T65.setTop (mkF m 263 #[.val (.long p0), .second, .val (.long p1), .second, .val (.long p2), .second, .val (.long p3), .second, .val (.int p4), .val (.int fr), .val (.int at_), .val (.int (Int32.ofNat n)), .val (.ref b29), .val (.long v215), .second, .val (.long v238), .second, .val (.long (v238 &&& v215)), .second, .val (.long ((v215.toUInt64 >>> (at_ &&& 0x3f).toInt64.toUInt64).toInt64)), .second, .unset, .unset, .unset, .unset, .unset, .unset, .unset, .unset, .unset, .unset, .unset] [])) _
      refine XS.lload X65.here hx rfl (hb hby at_263) rfl ?_
      show Steps p.tables e below (T65.setTop (mkF m 265 #[.val (.long p0), .second, .val (.long p1), .second, .val (.long p2), .second, .val (.long p3), .second, .val (.int p4), .val (.int fr), .val (.int at_), .val (.int (Int32.ofNat n)), .val (.ref b29), .val (.long v215), .second, .val (.long v238), .second, .val (.long (v238 &&& v215)), .second, .val (.long ((v215.toUInt64 >>> (at_ &&& 0x3f).toInt64.toUInt64).toInt64)), .second, .unset, .unset, .unset, .unset, .unset, .unset, .unset, .unset, .unset, .unset, .unset] [(.long v215)])) _
      refine XS.bipush X65.here hx rfl (hb hby at_265) ?_
      show Steps p.tables e below (T65.setTop (mkF m 267 #[.val (.long p0), .second, .val (.long p1), .second, .val (.long p2), .second, .val (.long p3), .second, .val (.int p4), .val (.int fr), .val (.int at_), .val (.int (Int32.ofNat n)), .val (.ref b29), .val (.long v215), .second, .val (.long v238), .second, .val (.long (v238 &&& v215)), .second, .val (.long ((v215.toUInt64 >>> (at_ &&& 0x3f).toInt64.toUInt64).toInt64)), .second, .unset, .unset, .unset, .unset, .unset, .unset, .unset, .unset, .unset, .unset, .unset] [(.int (64 : Int32)), (.long v215)])) _
      refine XS.iload X65.here hx rfl (hb hby at_267) rfl ?_
      show Steps p.tables e below (T65.setTop (mkF m 269 #[.val (.long p0), .second, .val (.long p1), .second, .val (.long p2), .second, .val (.long p3), .second, .val (.int p4), .val (.int fr), .val (.int at_), .val (.int (Int32.ofNat n)), .val (.ref b29), .val (.long v215), .second, .val (.long v238), .second, .val (.long (v238 &&& v215)), .second, .val (.long ((v215.toUInt64 >>> (at_ &&& 0x3f).toInt64.toUInt64).toInt64)), .second, .unset, .unset, .unset, .unset, .unset, .unset, .unset, .unset, .unset, .unset, .unset] [(.int at_), (.int (64 : Int32)), (.long v215)])) _
      refine XS.isub X65.here hx rfl (hb hby at_269) rfl ?_
      show Steps p.tables e below (T65.setTop (mkF m 270 #[.val (.long p0), .second, .val (.long p1), .second, .val (.long p2), .second, .val (.long p3), .second, .val (.int p4), .val (.int fr), .val (.int at_), .val (.int (Int32.ofNat n)), .val (.ref b29), .val (.long v215), .second, .val (.long v238), .second, .val (.long (v238 &&& v215)), .second, .val (.long ((v215.toUInt64 >>> (at_ &&& 0x3f).toInt64.toUInt64).toInt64)), .second, .unset, .unset, .unset, .unset, .unset, .unset, .unset, .unset, .unset, .unset, .unset] [(.int ((64 : Int32) - at_)), (.long v215)])) _
      refine XS.lshl X65.here hx rfl (hb hby at_270) rfl ?_
      exact kont
  have pre73 : ∀ t, Steps p.tables e below (T65.setTop (mkF m 282 #[.val (.long p0), .second, .val (.long p1), .second, .val (.long p2), .second, .val (.long p3), .second, .val (.int p4), .val (.int fr), .val (.int at_), .val (.int (Int32.ofNat n)), .val (.ref b29), .val (.long v215), .second, .val (.long v238), .second, .val (.long (v238 &&& v215)), .second, .val (.long ((v215.toUInt64 >>> (at_ &&& 0x3f).toInt64.toUInt64).toInt64)), .second, .val (.long v271), .second, .val (.long (((v238 &&& v215).toUInt64 >>> (at_ &&& 0x3f).toInt64.toUInt64).toInt64)), .second, .unset, .unset, .unset, .unset, .unset, .unset, .unset] [(.int at_)])) t → Steps p.tables e below (s₁.setTop (entryFrame m #[(.long p0), (.long p1), (.long p2), (.long p3), (.int p4)] maxLocals)) t := by
    intro t kont
    refine pre72 t ?_
    show Steps p.tables e below (T65.setTop (mkF m 271 #[.val (.long p0), .second, .val (.long p1), .second, .val (.long p2), .second, .val (.long p3), .second, .val (.int p4), .val (.int fr), .val (.int at_), .val (.int (Int32.ofNat n)), .val (.ref b29), .val (.long v215), .second, .val (.long v238), .second, .val (.long (v238 &&& v215)), .second, .val (.long ((v215.toUInt64 >>> (at_ &&& 0x3f).toInt64.toUInt64).toInt64)), .second, .unset, .unset, .unset, .unset, .unset, .unset, .unset, .unset, .unset, .unset, .unset] [(.long v271)])) _
    refine XS.lstore X65.here hx rfl (hb hby at_271) rfl (l' := #[.val (.long p0), .second, .val (.long p1), .second, .val (.long p2), .second, .val (.long p3), .second, .val (.int p4), .val (.int fr), .val (.int at_), .val (.int (Int32.ofNat n)), .val (.ref b29), .val (.long v215), .second, .val (.long v238), .second, .val (.long (v238 &&& v215)), .second, .val (.long ((v215.toUInt64 >>> (at_ &&& 0x3f).toInt64.toUInt64).toInt64)), .second, .val (.long v271), .second, .unset, .unset, .unset, .unset, .unset, .unset, .unset, .unset, .unset]) rfl ?_
    show Steps p.tables e below (T65.setTop (mkF m 273 #[.val (.long p0), .second, .val (.long p1), .second, .val (.long p2), .second, .val (.long p3), .second, .val (.int p4), .val (.int fr), .val (.int at_), .val (.int (Int32.ofNat n)), .val (.ref b29), .val (.long v215), .second, .val (.long v238), .second, .val (.long (v238 &&& v215)), .second, .val (.long ((v215.toUInt64 >>> (at_ &&& 0x3f).toInt64.toUInt64).toInt64)), .second, .val (.long v271), .second, .unset, .unset, .unset, .unset, .unset, .unset, .unset, .unset, .unset] [])) _
    refine XS.lload X65.here hx rfl (hb hby at_273) rfl ?_
    show Steps p.tables e below (T65.setTop (mkF m 275 #[.val (.long p0), .second, .val (.long p1), .second, .val (.long p2), .second, .val (.long p3), .second, .val (.int p4), .val (.int fr), .val (.int at_), .val (.int (Int32.ofNat n)), .val (.ref b29), .val (.long v215), .second, .val (.long v238), .second, .val (.long (v238 &&& v215)), .second, .val (.long ((v215.toUInt64 >>> (at_ &&& 0x3f).toInt64.toUInt64).toInt64)), .second, .val (.long v271), .second, .unset, .unset, .unset, .unset, .unset, .unset, .unset, .unset, .unset] [(.long (v238 &&& v215))])) _
    refine XS.iload X65.here hx rfl (hb hby at_275) rfl ?_
    show Steps p.tables e below (T65.setTop (mkF m 277 #[.val (.long p0), .second, .val (.long p1), .second, .val (.long p2), .second, .val (.long p3), .second, .val (.int p4), .val (.int fr), .val (.int at_), .val (.int (Int32.ofNat n)), .val (.ref b29), .val (.long v215), .second, .val (.long v238), .second, .val (.long (v238 &&& v215)), .second, .val (.long ((v215.toUInt64 >>> (at_ &&& 0x3f).toInt64.toUInt64).toInt64)), .second, .val (.long v271), .second, .unset, .unset, .unset, .unset, .unset, .unset, .unset, .unset, .unset] [(.int at_), (.long (v238 &&& v215))])) _
    refine XS.lushr X65.here hx rfl (hb hby at_277) rfl ?_
    show Steps p.tables e below (T65.setTop (mkF m 278 #[.val (.long p0), .second, .val (.long p1), .second, .val (.long p2), .second, .val (.long p3), .second, .val (.int p4), .val (.int fr), .val (.int at_), .val (.int (Int32.ofNat n)), .val (.ref b29), .val (.long v215), .second, .val (.long v238), .second, .val (.long (v238 &&& v215)), .second, .val (.long ((v215.toUInt64 >>> (at_ &&& 0x3f).toInt64.toUInt64).toInt64)), .second, .val (.long v271), .second, .unset, .unset, .unset, .unset, .unset, .unset, .unset, .unset, .unset] [(.long (((v238 &&& v215).toUInt64 >>> (at_ &&& 0x3f).toInt64.toUInt64).toInt64))])) _
    refine XS.lstore X65.here hx rfl (hb hby at_278) rfl (l' := #[.val (.long p0), .second, .val (.long p1), .second, .val (.long p2), .second, .val (.long p3), .second, .val (.int p4), .val (.int fr), .val (.int at_), .val (.int (Int32.ofNat n)), .val (.ref b29), .val (.long v215), .second, .val (.long v238), .second, .val (.long (v238 &&& v215)), .second, .val (.long ((v215.toUInt64 >>> (at_ &&& 0x3f).toInt64.toUInt64).toInt64)), .second, .val (.long v271), .second, .val (.long (((v238 &&& v215).toUInt64 >>> (at_ &&& 0x3f).toInt64.toUInt64).toInt64)), .second, .unset, .unset, .unset, .unset, .unset, .unset, .unset]) rfl ?_
    show Steps p.tables e below (T65.setTop (mkF m 280 #[.val (.long p0), .second, .val (.long p1), .second, .val (.long p2), .second, .val (.long p3), .second, .val (.int p4), .val (.int fr), .val (.int at_), .val (.int (Int32.ofNat n)), .val (.ref b29), .val (.long v215), .second, .val (.long v238), .second, .val (.long (v238 &&& v215)), .second, .val (.long ((v215.toUInt64 >>> (at_ &&& 0x3f).toInt64.toUInt64).toInt64)), .second, .val (.long v271), .second, .val (.long (((v238 &&& v215).toUInt64 >>> (at_ &&& 0x3f).toInt64.toUInt64).toInt64)), .second, .unset, .unset, .unset, .unset, .unset, .unset, .unset] [])) _
    refine XS.iload X65.here hx rfl (hb hby at_280) rfl ?_
    exact kont
  obtain ⟨v297, hv297⟩ : ∃ z : Int64, z = (if at_ = (0 : Int32) then (0 : Int64) else ((v238 &&& v215) <<< (((64 : Int32) - at_) &&& 0x3f).toInt64)) := ⟨_, rfl⟩
  have pre74 : ∀ t, Steps p.tables e below (T65.setTop (mkF m 297 #[.val (.long p0), .second, .val (.long p1), .second, .val (.long p2), .second, .val (.long p3), .second, .val (.int p4), .val (.int fr), .val (.int at_), .val (.int (Int32.ofNat n)), .val (.ref b29), .val (.long v215), .second, .val (.long v238), .second, .val (.long (v238 &&& v215)), .second, .val (.long ((v215.toUInt64 >>> (at_ &&& 0x3f).toInt64.toUInt64).toInt64)), .second, .val (.long v271), .second, .val (.long (((v238 &&& v215).toUInt64 >>> (at_ &&& 0x3f).toInt64.toUInt64).toInt64)), .second, .unset, .unset, .unset, .unset, .unset, .unset, .unset] [(.long v297)])) t → Steps p.tables e below (s₁.setTop (entryFrame m #[(.long p0), (.long p1), (.long p2), (.long p3), (.int p4)] maxLocals)) t := by
    intro t kont
    refine pre73 t ?_
    by_cases j_282 : at_ = (0 : Int32)
    · rw [hv297, if_pos j_282] at kont
      show Steps p.tables e below (T65.setTop (mkF m 282 #[.val (.long p0), .second, .val (.long p1), .second, .val (.long p2), .second, .val (.long p3), .second, .val (.int p4), .val (.int fr), .val (.int at_), .val (.int (Int32.ofNat n)), .val (.ref b29), .val (.long v215), .second, .val (.long v238), .second, .val (.long (v238 &&& v215)), .second, .val (.long ((v215.toUInt64 >>> (at_ &&& 0x3f).toInt64.toUInt64).toInt64)), .second, .val (.long v271), .second, .val (.long (((v238 &&& v215).toUInt64 >>> (at_ &&& 0x3f).toInt64.toUInt64).toInt64)), .second, .unset, .unset, .unset, .unset, .unset, .unset, .unset] [(.int at_)])) _
      refine XS.ifNo X65.here hx rfl (hb hby at_282) rfl ((if0 _ _).trans (teq j_282).2) ?_
      show Steps p.tables e below (T65.setTop (mkF m 285 #[.val (.long p0), .second, .val (.long p1), .second, .val (.long p2), .second, .val (.long p3), .second, .val (.int p4), .val (.int fr), .val (.int at_), .val (.int (Int32.ofNat n)), .val (.ref b29), .val (.long v215), .second, .val (.long v238), .second, .val (.long (v238 &&& v215)), .second, .val (.long ((v215.toUInt64 >>> (at_ &&& 0x3f).toInt64.toUInt64).toInt64)), .second, .val (.long v271), .second, .val (.long (((v238 &&& v215).toUInt64 >>> (at_ &&& 0x3f).toInt64.toUInt64).toInt64)), .second, .unset, .unset, .unset, .unset, .unset, .unset, .unset] [])) _
      refine XS.lconst X65.here hx rfl (hb hby at_285) ?_
      show Steps p.tables e below (T65.setTop (mkF m 286 #[.val (.long p0), .second, .val (.long p1), .second, .val (.long p2), .second, .val (.long p3), .second, .val (.int p4), .val (.int fr), .val (.int at_), .val (.int (Int32.ofNat n)), .val (.ref b29), .val (.long v215), .second, .val (.long v238), .second, .val (.long (v238 &&& v215)), .second, .val (.long ((v215.toUInt64 >>> (at_ &&& 0x3f).toInt64.toUInt64).toInt64)), .second, .val (.long v271), .second, .val (.long (((v238 &&& v215).toUInt64 >>> (at_ &&& 0x3f).toInt64.toUInt64).toInt64)), .second, .unset, .unset, .unset, .unset, .unset, .unset, .unset] [(.long (0 : Int64))])) _
      refine XS.goto X65.here hx rfl (pc0 := 286) (pc' := 297) rfl (hb hby at_286) (by decide) (by decide) ?_
      exact kont
    · rw [hv297, if_neg j_282] at kont
      show Steps p.tables e below (T65.setTop (mkF m 282 #[.val (.long p0), .second, .val (.long p1), .second, .val (.long p2), .second, .val (.long p3), .second, .val (.int p4), .val (.int fr), .val (.int at_), .val (.int (Int32.ofNat n)), .val (.ref b29), .val (.long v215), .second, .val (.long v238), .second, .val (.long (v238 &&& v215)), .second, .val (.long ((v215.toUInt64 >>> (at_ &&& 0x3f).toInt64.toUInt64).toInt64)), .second, .val (.long v271), .second, .val (.long (((v238 &&& v215).toUInt64 >>> (at_ &&& 0x3f).toInt64.toUInt64).toInt64)), .second, .unset, .unset, .unset, .unset, .unset, .unset, .unset] [(.int at_)])) _
      refine XS.ifYes X65.here hx rfl (pc0 := 282) (pc' := 289) rfl (hb hby at_282) rfl ((if0 _ _).trans (feq j_282).2) (by decide) (by decide) ?_
      show Steps p.tables e below (T65.setTop (mkF m 289 #[.val (.long p0), .second, .val (.long p1), .second, .val (.long p2), .second, .val (.long p3), .second, .val (.int p4), .val (.int fr), .val (.int at_), .val (.int (Int32.ofNat n)), .val (.ref b29), .val (.long v215), .second, .val (.long v238), .second, .val (.long (v238 &&& v215)), .second, .val (.long ((v215.toUInt64 >>> (at_ &&& 0x3f).toInt64.toUInt64).toInt64)), .second, .val (.long v271), .second, .val (.long (((v238 &&& v215).toUInt64 >>> (at_ &&& 0x3f).toInt64.toUInt64).toInt64)), .second, .unset, .unset, .unset, .unset, .unset, .unset, .unset] [])) _
      refine XS.lload X65.here hx rfl (hb hby at_289) rfl ?_
      show Steps p.tables e below (T65.setTop (mkF m 291 #[.val (.long p0), .second, .val (.long p1), .second, .val (.long p2), .second, .val (.long p3), .second, .val (.int p4), .val (.int fr), .val (.int at_), .val (.int (Int32.ofNat n)), .val (.ref b29), .val (.long v215), .second, .val (.long v238), .second, .val (.long (v238 &&& v215)), .second, .val (.long ((v215.toUInt64 >>> (at_ &&& 0x3f).toInt64.toUInt64).toInt64)), .second, .val (.long v271), .second, .val (.long (((v238 &&& v215).toUInt64 >>> (at_ &&& 0x3f).toInt64.toUInt64).toInt64)), .second, .unset, .unset, .unset, .unset, .unset, .unset, .unset] [(.long (v238 &&& v215))])) _
      refine XS.bipush X65.here hx rfl (hb hby at_291) ?_
      show Steps p.tables e below (T65.setTop (mkF m 293 #[.val (.long p0), .second, .val (.long p1), .second, .val (.long p2), .second, .val (.long p3), .second, .val (.int p4), .val (.int fr), .val (.int at_), .val (.int (Int32.ofNat n)), .val (.ref b29), .val (.long v215), .second, .val (.long v238), .second, .val (.long (v238 &&& v215)), .second, .val (.long ((v215.toUInt64 >>> (at_ &&& 0x3f).toInt64.toUInt64).toInt64)), .second, .val (.long v271), .second, .val (.long (((v238 &&& v215).toUInt64 >>> (at_ &&& 0x3f).toInt64.toUInt64).toInt64)), .second, .unset, .unset, .unset, .unset, .unset, .unset, .unset] [(.int (64 : Int32)), (.long (v238 &&& v215))])) _
      refine XS.iload X65.here hx rfl (hb hby at_293) rfl ?_
      show Steps p.tables e below (T65.setTop (mkF m 295 #[.val (.long p0), .second, .val (.long p1), .second, .val (.long p2), .second, .val (.long p3), .second, .val (.int p4), .val (.int fr), .val (.int at_), .val (.int (Int32.ofNat n)), .val (.ref b29), .val (.long v215), .second, .val (.long v238), .second, .val (.long (v238 &&& v215)), .second, .val (.long ((v215.toUInt64 >>> (at_ &&& 0x3f).toInt64.toUInt64).toInt64)), .second, .val (.long v271), .second, .val (.long (((v238 &&& v215).toUInt64 >>> (at_ &&& 0x3f).toInt64.toUInt64).toInt64)), .second, .unset, .unset, .unset, .unset, .unset, .unset, .unset] [(.int at_), (.int (64 : Int32)), (.long (v238 &&& v215))])) _
      refine XS.isub X65.here hx rfl (hb hby at_295) rfl ?_
      show Steps p.tables e below (T65.setTop (mkF m 296 #[.val (.long p0), .second, .val (.long p1), .second, .val (.long p2), .second, .val (.long p3), .second, .val (.int p4), .val (.int fr), .val (.int at_), .val (.int (Int32.ofNat n)), .val (.ref b29), .val (.long v215), .second, .val (.long v238), .second, .val (.long (v238 &&& v215)), .second, .val (.long ((v215.toUInt64 >>> (at_ &&& 0x3f).toInt64.toUInt64).toInt64)), .second, .val (.long v271), .second, .val (.long (((v238 &&& v215).toUInt64 >>> (at_ &&& 0x3f).toInt64.toUInt64).toInt64)), .second, .unset, .unset, .unset, .unset, .unset, .unset, .unset] [(.int ((64 : Int32) - at_)), (.long (v238 &&& v215))])) _
      refine XS.lshl X65.here hx rfl (hb hby at_296) rfl ?_
      exact kont
  have pre75 : ∀ t, Steps p.tables e below (T65.setTop (mkF m 321 #[.val (.long p0), .second, .val (.long p1), .second, .val (.long p2), .second, .val (.long p3), .second, .val (.int p4), .val (.int fr), .val (.int at_), .val (.int (Int32.ofNat n)), .val (.ref b29), .val (.long v215), .second, .val (.long v238), .second, .val (.long (v238 &&& v215)), .second, .val (.long ((v215.toUInt64 >>> (at_ &&& 0x3f).toInt64.toUInt64).toInt64)), .second, .val (.long v271), .second, .val (.long (((v238 &&& v215).toUInt64 >>> (at_ &&& 0x3f).toInt64.toUInt64).toInt64)), .second, .val (.long v297), .second, .val (.long (p2 &&& (((v215.toUInt64 >>> (at_ &&& 0x3f).toInt64.toUInt64).toInt64) ^^^ (-1 : Int64)))), .second, .val (.long (p3 &&& (v271 ^^^ (-1 : Int64)))), .second, .unset] [])) t → Steps p.tables e below (s₁.setTop (entryFrame m #[(.long p0), (.long p1), (.long p2), (.long p3), (.int p4)] maxLocals)) t := by
    intro t kont
    refine pre74 t ?_
    show Steps p.tables e below (T65.setTop (mkF m 297 #[.val (.long p0), .second, .val (.long p1), .second, .val (.long p2), .second, .val (.long p3), .second, .val (.int p4), .val (.int fr), .val (.int at_), .val (.int (Int32.ofNat n)), .val (.ref b29), .val (.long v215), .second, .val (.long v238), .second, .val (.long (v238 &&& v215)), .second, .val (.long ((v215.toUInt64 >>> (at_ &&& 0x3f).toInt64.toUInt64).toInt64)), .second, .val (.long v271), .second, .val (.long (((v238 &&& v215).toUInt64 >>> (at_ &&& 0x3f).toInt64.toUInt64).toInt64)), .second, .unset, .unset, .unset, .unset, .unset, .unset, .unset] [(.long v297)])) _
    refine XS.lstore X65.here hx rfl (hb hby at_297) rfl (l' := #[.val (.long p0), .second, .val (.long p1), .second, .val (.long p2), .second, .val (.long p3), .second, .val (.int p4), .val (.int fr), .val (.int at_), .val (.int (Int32.ofNat n)), .val (.ref b29), .val (.long v215), .second, .val (.long v238), .second, .val (.long (v238 &&& v215)), .second, .val (.long ((v215.toUInt64 >>> (at_ &&& 0x3f).toInt64.toUInt64).toInt64)), .second, .val (.long v271), .second, .val (.long (((v238 &&& v215).toUInt64 >>> (at_ &&& 0x3f).toInt64.toUInt64).toInt64)), .second, .val (.long v297), .second, .unset, .unset, .unset, .unset, .unset]) rfl ?_
    show Steps p.tables e below (T65.setTop (mkF m 299 #[.val (.long p0), .second, .val (.long p1), .second, .val (.long p2), .second, .val (.long p3), .second, .val (.int p4), .val (.int fr), .val (.int at_), .val (.int (Int32.ofNat n)), .val (.ref b29), .val (.long v215), .second, .val (.long v238), .second, .val (.long (v238 &&& v215)), .second, .val (.long ((v215.toUInt64 >>> (at_ &&& 0x3f).toInt64.toUInt64).toInt64)), .second, .val (.long v271), .second, .val (.long (((v238 &&& v215).toUInt64 >>> (at_ &&& 0x3f).toInt64.toUInt64).toInt64)), .second, .val (.long v297), .second, .unset, .unset, .unset, .unset, .unset] [])) _
    refine XS.lload X65.here hx rfl (hb hby at_299) rfl ?_
    show Steps p.tables e below (T65.setTop (mkF m 301 #[.val (.long p0), .second, .val (.long p1), .second, .val (.long p2), .second, .val (.long p3), .second, .val (.int p4), .val (.int fr), .val (.int at_), .val (.int (Int32.ofNat n)), .val (.ref b29), .val (.long v215), .second, .val (.long v238), .second, .val (.long (v238 &&& v215)), .second, .val (.long ((v215.toUInt64 >>> (at_ &&& 0x3f).toInt64.toUInt64).toInt64)), .second, .val (.long v271), .second, .val (.long (((v238 &&& v215).toUInt64 >>> (at_ &&& 0x3f).toInt64.toUInt64).toInt64)), .second, .val (.long v297), .second, .unset, .unset, .unset, .unset, .unset] [(.long p2)])) _
    refine XS.lload X65.here hx rfl (hb hby at_301) rfl ?_
    show Steps p.tables e below (T65.setTop (mkF m 303 #[.val (.long p0), .second, .val (.long p1), .second, .val (.long p2), .second, .val (.long p3), .second, .val (.int p4), .val (.int fr), .val (.int at_), .val (.int (Int32.ofNat n)), .val (.ref b29), .val (.long v215), .second, .val (.long v238), .second, .val (.long (v238 &&& v215)), .second, .val (.long ((v215.toUInt64 >>> (at_ &&& 0x3f).toInt64.toUInt64).toInt64)), .second, .val (.long v271), .second, .val (.long (((v238 &&& v215).toUInt64 >>> (at_ &&& 0x3f).toInt64.toUInt64).toInt64)), .second, .val (.long v297), .second, .unset, .unset, .unset, .unset, .unset] [(.long ((v215.toUInt64 >>> (at_ &&& 0x3f).toInt64.toUInt64).toInt64)), (.long p2)])) _
    refine X65.ldc2Long hx hown (mvT hZ (hw _ (List.mem_of_getElem? (i := 1) rfl))) (g := (mkF m 303 #[.val (.long p0), .second, .val (.long p1), .second, .val (.long p2), .second, .val (.long p3), .second, .val (.int p4), .val (.int fr), .val (.int at_), .val (.int (Int32.ofNat n)), .val (.ref b29), .val (.long v215), .second, .val (.long v238), .second, .val (.long (v238 &&& v215)), .second, .val (.long ((v215.toUInt64 >>> (at_ &&& 0x3f).toInt64.toUInt64).toInt64)), .second, .val (.long v271), .second, .val (.long (((v238 &&& v215).toUInt64 >>> (at_ &&& 0x3f).toInt64.toUInt64).toInt64)), .second, .val (.long v297), .second, .unset, .unset, .unset, .unset, .unset] [(.long ((v215.toUInt64 >>> (at_ &&& 0x3f).toInt64.toUInt64).toInt64)), (.long p2)])) rfl (hb hby at_303) _ ?_
    show Steps p.tables e below (T65.setTop (mkF m 306 #[.val (.long p0), .second, .val (.long p1), .second, .val (.long p2), .second, .val (.long p3), .second, .val (.int p4), .val (.int fr), .val (.int at_), .val (.int (Int32.ofNat n)), .val (.ref b29), .val (.long v215), .second, .val (.long v238), .second, .val (.long (v238 &&& v215)), .second, .val (.long ((v215.toUInt64 >>> (at_ &&& 0x3f).toInt64.toUInt64).toInt64)), .second, .val (.long v271), .second, .val (.long (((v238 &&& v215).toUInt64 >>> (at_ &&& 0x3f).toInt64.toUInt64).toInt64)), .second, .val (.long v297), .second, .unset, .unset, .unset, .unset, .unset] [(.long (-1 : Int64)), (.long ((v215.toUInt64 >>> (at_ &&& 0x3f).toInt64.toUInt64).toInt64)), (.long p2)])) _
    refine XS.lxor X65.here hx rfl (hb hby at_306) rfl ?_
    show Steps p.tables e below (T65.setTop (mkF m 307 #[.val (.long p0), .second, .val (.long p1), .second, .val (.long p2), .second, .val (.long p3), .second, .val (.int p4), .val (.int fr), .val (.int at_), .val (.int (Int32.ofNat n)), .val (.ref b29), .val (.long v215), .second, .val (.long v238), .second, .val (.long (v238 &&& v215)), .second, .val (.long ((v215.toUInt64 >>> (at_ &&& 0x3f).toInt64.toUInt64).toInt64)), .second, .val (.long v271), .second, .val (.long (((v238 &&& v215).toUInt64 >>> (at_ &&& 0x3f).toInt64.toUInt64).toInt64)), .second, .val (.long v297), .second, .unset, .unset, .unset, .unset, .unset] [(.long (((v215.toUInt64 >>> (at_ &&& 0x3f).toInt64.toUInt64).toInt64) ^^^ (-1 : Int64))), (.long p2)])) _
    refine XS.land X65.here hx rfl (hb hby at_307) rfl ?_
    show Steps p.tables e below (T65.setTop (mkF m 308 #[.val (.long p0), .second, .val (.long p1), .second, .val (.long p2), .second, .val (.long p3), .second, .val (.int p4), .val (.int fr), .val (.int at_), .val (.int (Int32.ofNat n)), .val (.ref b29), .val (.long v215), .second, .val (.long v238), .second, .val (.long (v238 &&& v215)), .second, .val (.long ((v215.toUInt64 >>> (at_ &&& 0x3f).toInt64.toUInt64).toInt64)), .second, .val (.long v271), .second, .val (.long (((v238 &&& v215).toUInt64 >>> (at_ &&& 0x3f).toInt64.toUInt64).toInt64)), .second, .val (.long v297), .second, .unset, .unset, .unset, .unset, .unset] [(.long (p2 &&& (((v215.toUInt64 >>> (at_ &&& 0x3f).toInt64.toUInt64).toInt64) ^^^ (-1 : Int64))))])) _
    refine XS.lstore X65.here hx rfl (hb hby at_308) rfl (l' := #[.val (.long p0), .second, .val (.long p1), .second, .val (.long p2), .second, .val (.long p3), .second, .val (.int p4), .val (.int fr), .val (.int at_), .val (.int (Int32.ofNat n)), .val (.ref b29), .val (.long v215), .second, .val (.long v238), .second, .val (.long (v238 &&& v215)), .second, .val (.long ((v215.toUInt64 >>> (at_ &&& 0x3f).toInt64.toUInt64).toInt64)), .second, .val (.long v271), .second, .val (.long (((v238 &&& v215).toUInt64 >>> (at_ &&& 0x3f).toInt64.toUInt64).toInt64)), .second, .val (.long v297), .second, .val (.long (p2 &&& (((v215.toUInt64 >>> (at_ &&& 0x3f).toInt64.toUInt64).toInt64) ^^^ (-1 : Int64)))), .second, .unset, .unset, .unset]) rfl ?_
    show Steps p.tables e below (T65.setTop (mkF m 310 #[.val (.long p0), .second, .val (.long p1), .second, .val (.long p2), .second, .val (.long p3), .second, .val (.int p4), .val (.int fr), .val (.int at_), .val (.int (Int32.ofNat n)), .val (.ref b29), .val (.long v215), .second, .val (.long v238), .second, .val (.long (v238 &&& v215)), .second, .val (.long ((v215.toUInt64 >>> (at_ &&& 0x3f).toInt64.toUInt64).toInt64)), .second, .val (.long v271), .second, .val (.long (((v238 &&& v215).toUInt64 >>> (at_ &&& 0x3f).toInt64.toUInt64).toInt64)), .second, .val (.long v297), .second, .val (.long (p2 &&& (((v215.toUInt64 >>> (at_ &&& 0x3f).toInt64.toUInt64).toInt64) ^^^ (-1 : Int64)))), .second, .unset, .unset, .unset] [])) _
    refine XS.lload X65.here hx rfl (hb hby at_310) rfl ?_
    show Steps p.tables e below (T65.setTop (mkF m 312 #[.val (.long p0), .second, .val (.long p1), .second, .val (.long p2), .second, .val (.long p3), .second, .val (.int p4), .val (.int fr), .val (.int at_), .val (.int (Int32.ofNat n)), .val (.ref b29), .val (.long v215), .second, .val (.long v238), .second, .val (.long (v238 &&& v215)), .second, .val (.long ((v215.toUInt64 >>> (at_ &&& 0x3f).toInt64.toUInt64).toInt64)), .second, .val (.long v271), .second, .val (.long (((v238 &&& v215).toUInt64 >>> (at_ &&& 0x3f).toInt64.toUInt64).toInt64)), .second, .val (.long v297), .second, .val (.long (p2 &&& (((v215.toUInt64 >>> (at_ &&& 0x3f).toInt64.toUInt64).toInt64) ^^^ (-1 : Int64)))), .second, .unset, .unset, .unset] [(.long p3)])) _
    refine XS.lload X65.here hx rfl (hb hby at_312) rfl ?_
    show Steps p.tables e below (T65.setTop (mkF m 314 #[.val (.long p0), .second, .val (.long p1), .second, .val (.long p2), .second, .val (.long p3), .second, .val (.int p4), .val (.int fr), .val (.int at_), .val (.int (Int32.ofNat n)), .val (.ref b29), .val (.long v215), .second, .val (.long v238), .second, .val (.long (v238 &&& v215)), .second, .val (.long ((v215.toUInt64 >>> (at_ &&& 0x3f).toInt64.toUInt64).toInt64)), .second, .val (.long v271), .second, .val (.long (((v238 &&& v215).toUInt64 >>> (at_ &&& 0x3f).toInt64.toUInt64).toInt64)), .second, .val (.long v297), .second, .val (.long (p2 &&& (((v215.toUInt64 >>> (at_ &&& 0x3f).toInt64.toUInt64).toInt64) ^^^ (-1 : Int64)))), .second, .unset, .unset, .unset] [(.long v271), (.long p3)])) _
    refine X65.ldc2Long hx hown (mvT hZ (hw _ (List.mem_of_getElem? (i := 1) rfl))) (g := (mkF m 314 #[.val (.long p0), .second, .val (.long p1), .second, .val (.long p2), .second, .val (.long p3), .second, .val (.int p4), .val (.int fr), .val (.int at_), .val (.int (Int32.ofNat n)), .val (.ref b29), .val (.long v215), .second, .val (.long v238), .second, .val (.long (v238 &&& v215)), .second, .val (.long ((v215.toUInt64 >>> (at_ &&& 0x3f).toInt64.toUInt64).toInt64)), .second, .val (.long v271), .second, .val (.long (((v238 &&& v215).toUInt64 >>> (at_ &&& 0x3f).toInt64.toUInt64).toInt64)), .second, .val (.long v297), .second, .val (.long (p2 &&& (((v215.toUInt64 >>> (at_ &&& 0x3f).toInt64.toUInt64).toInt64) ^^^ (-1 : Int64)))), .second, .unset, .unset, .unset] [(.long v271), (.long p3)])) rfl (hb hby at_314) _ ?_
    show Steps p.tables e below (T65.setTop (mkF m 317 #[.val (.long p0), .second, .val (.long p1), .second, .val (.long p2), .second, .val (.long p3), .second, .val (.int p4), .val (.int fr), .val (.int at_), .val (.int (Int32.ofNat n)), .val (.ref b29), .val (.long v215), .second, .val (.long v238), .second, .val (.long (v238 &&& v215)), .second, .val (.long ((v215.toUInt64 >>> (at_ &&& 0x3f).toInt64.toUInt64).toInt64)), .second, .val (.long v271), .second, .val (.long (((v238 &&& v215).toUInt64 >>> (at_ &&& 0x3f).toInt64.toUInt64).toInt64)), .second, .val (.long v297), .second, .val (.long (p2 &&& (((v215.toUInt64 >>> (at_ &&& 0x3f).toInt64.toUInt64).toInt64) ^^^ (-1 : Int64)))), .second, .unset, .unset, .unset] [(.long (-1 : Int64)), (.long v271), (.long p3)])) _
    refine XS.lxor X65.here hx rfl (hb hby at_317) rfl ?_
    show Steps p.tables e below (T65.setTop (mkF m 318 #[.val (.long p0), .second, .val (.long p1), .second, .val (.long p2), .second, .val (.long p3), .second, .val (.int p4), .val (.int fr), .val (.int at_), .val (.int (Int32.ofNat n)), .val (.ref b29), .val (.long v215), .second, .val (.long v238), .second, .val (.long (v238 &&& v215)), .second, .val (.long ((v215.toUInt64 >>> (at_ &&& 0x3f).toInt64.toUInt64).toInt64)), .second, .val (.long v271), .second, .val (.long (((v238 &&& v215).toUInt64 >>> (at_ &&& 0x3f).toInt64.toUInt64).toInt64)), .second, .val (.long v297), .second, .val (.long (p2 &&& (((v215.toUInt64 >>> (at_ &&& 0x3f).toInt64.toUInt64).toInt64) ^^^ (-1 : Int64)))), .second, .unset, .unset, .unset] [(.long (v271 ^^^ (-1 : Int64))), (.long p3)])) _
    refine XS.land X65.here hx rfl (hb hby at_318) rfl ?_
    show Steps p.tables e below (T65.setTop (mkF m 319 #[.val (.long p0), .second, .val (.long p1), .second, .val (.long p2), .second, .val (.long p3), .second, .val (.int p4), .val (.int fr), .val (.int at_), .val (.int (Int32.ofNat n)), .val (.ref b29), .val (.long v215), .second, .val (.long v238), .second, .val (.long (v238 &&& v215)), .second, .val (.long ((v215.toUInt64 >>> (at_ &&& 0x3f).toInt64.toUInt64).toInt64)), .second, .val (.long v271), .second, .val (.long (((v238 &&& v215).toUInt64 >>> (at_ &&& 0x3f).toInt64.toUInt64).toInt64)), .second, .val (.long v297), .second, .val (.long (p2 &&& (((v215.toUInt64 >>> (at_ &&& 0x3f).toInt64.toUInt64).toInt64) ^^^ (-1 : Int64)))), .second, .unset, .unset, .unset] [(.long (p3 &&& (v271 ^^^ (-1 : Int64))))])) _
    refine XS.lstore X65.here hx rfl (hb hby at_319) rfl (l' := #[.val (.long p0), .second, .val (.long p1), .second, .val (.long p2), .second, .val (.long p3), .second, .val (.int p4), .val (.int fr), .val (.int at_), .val (.int (Int32.ofNat n)), .val (.ref b29), .val (.long v215), .second, .val (.long v238), .second, .val (.long (v238 &&& v215)), .second, .val (.long ((v215.toUInt64 >>> (at_ &&& 0x3f).toInt64.toUInt64).toInt64)), .second, .val (.long v271), .second, .val (.long (((v238 &&& v215).toUInt64 >>> (at_ &&& 0x3f).toInt64.toUInt64).toInt64)), .second, .val (.long v297), .second, .val (.long (p2 &&& (((v215.toUInt64 >>> (at_ &&& 0x3f).toInt64.toUInt64).toInt64) ^^^ (-1 : Int64)))), .second, .val (.long (p3 &&& (v271 ^^^ (-1 : Int64)))), .second, .unset]) rfl ?_
    exact kont
  obtain ⟨w0, hw0⟩ : ∃ z : Int64, z = (p2 &&& (((v215.toUInt64 >>> (at_ &&& 0x3f).toInt64.toUInt64).toInt64) ^^^ (-1 : Int64))) := ⟨_, rfl⟩
  rw [← hw0] at pre75
  obtain ⟨w1, hw1⟩ : ∃ z : Int64, z = (p3 &&& (v271 ^^^ (-1 : Int64))) := ⟨_, rfl⟩
  rw [← hw1] at pre75
  have pre76 : ∀ t, Steps p.tables e below (T65.setTop (mkF m 322 #[.val (.long p0), .second, .val (.long p1), .second, .val (.long p2), .second, .val (.long p3), .second, .val (.int p4), .val (.int fr), .val (.int at_), .val (.int (Int32.ofNat n)), .val (.ref b29), .val (.long v215), .second, .val (.long v238), .second, .val (.long (v238 &&& v215)), .second, .val (.long ((v215.toUInt64 >>> (at_ &&& 0x3f).toInt64.toUInt64).toInt64)), .second, .val (.long v271), .second, .val (.long (((v238 &&& v215).toUInt64 >>> (at_ &&& 0x3f).toInt64.toUInt64).toInt64)), .second, .val (.long v297), .second, .val (.long w0), .second, .val (.long w1), .second, .unset] [(.int (2 : Int32))])) t → Steps p.tables e below (s₁.setTop (entryFrame m #[(.long p0), (.long p1), (.long p2), (.long p3), (.int p4)] maxLocals)) t := by
    intro t kont
    refine pre75 t ?_
    show Steps p.tables e below (T65.setTop (mkF m 321 #[.val (.long p0), .second, .val (.long p1), .second, .val (.long p2), .second, .val (.long p3), .second, .val (.int p4), .val (.int fr), .val (.int at_), .val (.int (Int32.ofNat n)), .val (.ref b29), .val (.long v215), .second, .val (.long v238), .second, .val (.long (v238 &&& v215)), .second, .val (.long ((v215.toUInt64 >>> (at_ &&& 0x3f).toInt64.toUInt64).toInt64)), .second, .val (.long v271), .second, .val (.long (((v238 &&& v215).toUInt64 >>> (at_ &&& 0x3f).toInt64.toUInt64).toInt64)), .second, .val (.long v297), .second, .val (.long w0), .second, .val (.long w1), .second, .unset] [])) _
    refine XS.iconst X65.here hx rfl (hb hby at_321) ?_
    exact kont
  obtain ⟨T77, h77, k77, X77, e77, E77, A77, st77⟩ := newP X65 hx hZ (hw _ (List.mem_of_getElem? (i := 2) rfl)) e65 (g := (mkF m 322 #[.val (.long p0), .second, .val (.long p1), .second, .val (.long p2), .second, .val (.long p3), .second, .val (.int p4), .val (.int fr), .val (.int at_), .val (.int (Int32.ofNat n)), .val (.ref b29), .val (.long v215), .second, .val (.long v238), .second, .val (.long (v238 &&& v215)), .second, .val (.long ((v215.toUInt64 >>> (at_ &&& 0x3f).toInt64.toUInt64).toInt64)), .second, .val (.long v271), .second, .val (.long (((v238 &&& v215).toUInt64 >>> (at_ &&& 0x3f).toInt64.toUInt64).toInt64)), .second, .val (.long v297), .second, .val (.long w0), .second, .val (.long w1), .second, .unset] [(.int (2 : Int32))])) rfl (hb hby at_322) rfl (by decide) (cap := 2) (by decide) (by decide) (by decide) (by decide)
  obtain ⟨b322, g77⟩ : ∃ z, z = h65.size := ⟨_, rfl⟩
  rw [← g77] at A77 st77
  have g_b322 : n0 ≤ b322 := Nat.le_trans Z65 (Nat.le_of_eq g77.symm)
  have ne_b29_b322 : b29 ≠ b322 := Nat.ne_of_lt (Nat.lt_of_lt_of_le (V65).lt (Nat.le_of_eq g77.symm))
  have f77_0 := V65.ext E77
  have V77 := own_arr.newJ A77 (i := 2) rfl
  have Z77 : n0 ≤ h77.size := Nat.le_trans Z65 E77.1
  have pre78 : ∀ t, Steps p.tables e below (T77.setTop (mkF m 324 #[.val (.long p0), .second, .val (.long p1), .second, .val (.long p2), .second, .val (.long p3), .second, .val (.int p4), .val (.int fr), .val (.int at_), .val (.int (Int32.ofNat n)), .val (.ref b29), .val (.long v215), .second, .val (.long v238), .second, .val (.long (v238 &&& v215)), .second, .val (.long ((v215.toUInt64 >>> (at_ &&& 0x3f).toInt64.toUInt64).toInt64)), .second, .val (.long v271), .second, .val (.long (((v238 &&& v215).toUInt64 >>> (at_ &&& 0x3f).toInt64.toUInt64).toInt64)), .second, .val (.long v297), .second, .val (.long w0), .second, .val (.long w1), .second, .unset] [(.ref b322)])) t → Steps p.tables e below (s₁.setTop (entryFrame m #[(.long p0), (.long p1), (.long p2), (.long p3), (.int p4)] maxLocals)) t := fun t kont => pre76 t (st77 _ kont)
  have pre79 : ∀ t, Steps p.tables e below (T77.setTop (mkF m 331 #[.val (.long p0), .second, .val (.long p1), .second, .val (.long p2), .second, .val (.long p3), .second, .val (.int p4), .val (.int fr), .val (.int at_), .val (.int (Int32.ofNat n)), .val (.ref b29), .val (.long v215), .second, .val (.long v238), .second, .val (.long (v238 &&& v215)), .second, .val (.long ((v215.toUInt64 >>> (at_ &&& 0x3f).toInt64.toUInt64).toInt64)), .second, .val (.long v271), .second, .val (.long (((v238 &&& v215).toUInt64 >>> (at_ &&& 0x3f).toInt64.toUInt64).toInt64)), .second, .val (.long v297), .second, .val (.long w0), .second, .val (.long w1), .second, .val (.ref b322)] [(.long w0), (.int (0 : Int32)), (.ref b322)])) t → Steps p.tables e below (s₁.setTop (entryFrame m #[(.long p0), (.long p1), (.long p2), (.long p3), (.int p4)] maxLocals)) t := by
    intro t kont
    refine pre78 t ?_
    show Steps p.tables e below (T77.setTop (mkF m 324 #[.val (.long p0), .second, .val (.long p1), .second, .val (.long p2), .second, .val (.long p3), .second, .val (.int p4), .val (.int fr), .val (.int at_), .val (.int (Int32.ofNat n)), .val (.ref b29), .val (.long v215), .second, .val (.long v238), .second, .val (.long (v238 &&& v215)), .second, .val (.long ((v215.toUInt64 >>> (at_ &&& 0x3f).toInt64.toUInt64).toInt64)), .second, .val (.long v271), .second, .val (.long (((v238 &&& v215).toUInt64 >>> (at_ &&& 0x3f).toInt64.toUInt64).toInt64)), .second, .val (.long v297), .second, .val (.long w0), .second, .val (.long w1), .second, .unset] [(.ref b322)])) _
    refine XS.astore X77.here hx rfl (hb hby at_324) rfl rfl (l' := #[.val (.long p0), .second, .val (.long p1), .second, .val (.long p2), .second, .val (.long p3), .second, .val (.int p4), .val (.int fr), .val (.int at_), .val (.int (Int32.ofNat n)), .val (.ref b29), .val (.long v215), .second, .val (.long v238), .second, .val (.long (v238 &&& v215)), .second, .val (.long ((v215.toUInt64 >>> (at_ &&& 0x3f).toInt64.toUInt64).toInt64)), .second, .val (.long v271), .second, .val (.long (((v238 &&& v215).toUInt64 >>> (at_ &&& 0x3f).toInt64.toUInt64).toInt64)), .second, .val (.long v297), .second, .val (.long w0), .second, .val (.long w1), .second, .val (.ref b322)]) rfl ?_
    show Steps p.tables e below (T77.setTop (mkF m 326 #[.val (.long p0), .second, .val (.long p1), .second, .val (.long p2), .second, .val (.long p3), .second, .val (.int p4), .val (.int fr), .val (.int at_), .val (.int (Int32.ofNat n)), .val (.ref b29), .val (.long v215), .second, .val (.long v238), .second, .val (.long (v238 &&& v215)), .second, .val (.long ((v215.toUInt64 >>> (at_ &&& 0x3f).toInt64.toUInt64).toInt64)), .second, .val (.long v271), .second, .val (.long (((v238 &&& v215).toUInt64 >>> (at_ &&& 0x3f).toInt64.toUInt64).toInt64)), .second, .val (.long v297), .second, .val (.long w0), .second, .val (.long w1), .second, .val (.ref b322)] [])) _
    refine XS.aload X77.here hx rfl (hb hby at_326) rfl rfl ?_
    show Steps p.tables e below (T77.setTop (mkF m 328 #[.val (.long p0), .second, .val (.long p1), .second, .val (.long p2), .second, .val (.long p3), .second, .val (.int p4), .val (.int fr), .val (.int at_), .val (.int (Int32.ofNat n)), .val (.ref b29), .val (.long v215), .second, .val (.long v238), .second, .val (.long (v238 &&& v215)), .second, .val (.long ((v215.toUInt64 >>> (at_ &&& 0x3f).toInt64.toUInt64).toInt64)), .second, .val (.long v271), .second, .val (.long (((v238 &&& v215).toUInt64 >>> (at_ &&& 0x3f).toInt64.toUInt64).toInt64)), .second, .val (.long v297), .second, .val (.long w0), .second, .val (.long w1), .second, .val (.ref b322)] [(.ref b322)])) _
    refine XS.iconst X77.here hx rfl (hb hby at_328) ?_
    show Steps p.tables e below (T77.setTop (mkF m 329 #[.val (.long p0), .second, .val (.long p1), .second, .val (.long p2), .second, .val (.long p3), .second, .val (.int p4), .val (.int fr), .val (.int at_), .val (.int (Int32.ofNat n)), .val (.ref b29), .val (.long v215), .second, .val (.long v238), .second, .val (.long (v238 &&& v215)), .second, .val (.long ((v215.toUInt64 >>> (at_ &&& 0x3f).toInt64.toUInt64).toInt64)), .second, .val (.long v271), .second, .val (.long (((v238 &&& v215).toUInt64 >>> (at_ &&& 0x3f).toInt64.toUInt64).toInt64)), .second, .val (.long v297), .second, .val (.long w0), .second, .val (.long w1), .second, .val (.ref b322)] [(.int (0 : Int32)), (.ref b322)])) _
    refine XS.lload X77.here hx rfl (hb hby at_329) rfl ?_
    exact kont
  obtain ⟨T80, h80, X80, e80, W80, V80, st80⟩ := own_stJ X77 hx hZ e77 V77 (k := 0) (by decide) (by decide) (by decide) (fr := (mkF m 331 #[.val (.long p0), .second, .val (.long p1), .second, .val (.long p2), .second, .val (.long p3), .second, .val (.int p4), .val (.int fr), .val (.int at_), .val (.int (Int32.ofNat n)), .val (.ref b29), .val (.long v215), .second, .val (.long v238), .second, .val (.long (v238 &&& v215)), .second, .val (.long ((v215.toUInt64 >>> (at_ &&& 0x3f).toInt64.toUInt64).toInt64)), .second, .val (.long v271), .second, .val (.long (((v238 &&& v215).toUInt64 >>> (at_ &&& 0x3f).toInt64.toUInt64).toInt64)), .second, .val (.long v297), .second, .val (.long w0), .second, .val (.long w1), .second, .val (.ref b322)] [(.long w0), (.int (0 : Int32)), (.ref b322)])) rfl rfl (hb hby at_331)
  have f80_0 := f77_0.other W80 ne_b29_b322
  obtain ⟨u331, hu331⟩ : ∃ z : Nat → Int64, z = fun i => if i = 0 then w0 else (fun _ => (0 : Int64)) i := ⟨_, rfl⟩
  replace V80 : own_arr Z h80 b322 .long 2 (fun i => .long (u331 i)) := by rw [hu331]; exact V80
  have Z80 : n0 ≤ h80.size := Nat.le_trans Z77 (Keep.of_wr W80).1
  have N80 := Fr.snoc X80 N65 g_b322
  have pre81 : ∀ t, Steps p.tables e below (T80.setTop (mkF m 332 #[.val (.long p0), .second, .val (.long p1), .second, .val (.long p2), .second, .val (.long p3), .second, .val (.int p4), .val (.int fr), .val (.int at_), .val (.int (Int32.ofNat n)), .val (.ref b29), .val (.long v215), .second, .val (.long v238), .second, .val (.long (v238 &&& v215)), .second, .val (.long ((v215.toUInt64 >>> (at_ &&& 0x3f).toInt64.toUInt64).toInt64)), .second, .val (.long v271), .second, .val (.long (((v238 &&& v215).toUInt64 >>> (at_ &&& 0x3f).toInt64.toUInt64).toInt64)), .second, .val (.long v297), .second, .val (.long w0), .second, .val (.long w1), .second, .val (.ref b322)] [])) t → Steps p.tables e below (s₁.setTop (entryFrame m #[(.long p0), (.long p1), (.long p2), (.long p3), (.int p4)] maxLocals)) t := fun t kont => pre79 t (st80 _ kont)
  have pre82 : ∀ t, Steps p.tables e below (T80.setTop (mkF m 337 #[.val (.long p0), .second, .val (.long p1), .second, .val (.long p2), .second, .val (.long p3), .second, .val (.int p4), .val (.int fr), .val (.int at_), .val (.int (Int32.ofNat n)), .val (.ref b29), .val (.long v215), .second, .val (.long v238), .second, .val (.long (v238 &&& v215)), .second, .val (.long ((v215.toUInt64 >>> (at_ &&& 0x3f).toInt64.toUInt64).toInt64)), .second, .val (.long v271), .second, .val (.long (((v238 &&& v215).toUInt64 >>> (at_ &&& 0x3f).toInt64.toUInt64).toInt64)), .second, .val (.long v297), .second, .val (.long w0), .second, .val (.long w1), .second, .val (.ref b322)] [(.long w1), (.int (1 : Int32)), (.ref b322)])) t → Steps p.tables e below (s₁.setTop (entryFrame m #[(.long p0), (.long p1), (.long p2), (.long p3), (.int p4)] maxLocals)) t := by
    intro t kont
    refine pre81 t ?_
    show Steps p.tables e below (T80.setTop (mkF m 332 #[.val (.long p0), .second, .val (.long p1), .second, .val (.long p2), .second, .val (.long p3), .second, .val (.int p4), .val (.int fr), .val (.int at_), .val (.int (Int32.ofNat n)), .val (.ref b29), .val (.long v215), .second, .val (.long v238), .second, .val (.long (v238 &&& v215)), .second, .val (.long ((v215.toUInt64 >>> (at_ &&& 0x3f).toInt64.toUInt64).toInt64)), .second, .val (.long v271), .second, .val (.long (((v238 &&& v215).toUInt64 >>> (at_ &&& 0x3f).toInt64.toUInt64).toInt64)), .second, .val (.long v297), .second, .val (.long w0), .second, .val (.long w1), .second, .val (.ref b322)] [])) _
    refine XS.aload X80.here hx rfl (hb hby at_332) rfl rfl ?_
    show Steps p.tables e below (T80.setTop (mkF m 334 #[.val (.long p0), .second, .val (.long p1), .second, .val (.long p2), .second, .val (.long p3), .second, .val (.int p4), .val (.int fr), .val (.int at_), .val (.int (Int32.ofNat n)), .val (.ref b29), .val (.long v215), .second, .val (.long v238), .second, .val (.long (v238 &&& v215)), .second, .val (.long ((v215.toUInt64 >>> (at_ &&& 0x3f).toInt64.toUInt64).toInt64)), .second, .val (.long v271), .second, .val (.long (((v238 &&& v215).toUInt64 >>> (at_ &&& 0x3f).toInt64.toUInt64).toInt64)), .second, .val (.long v297), .second, .val (.long w0), .second, .val (.long w1), .second, .val (.ref b322)] [(.ref b322)])) _
    refine XS.iconst X80.here hx rfl (hb hby at_334) ?_
    show Steps p.tables e below (T80.setTop (mkF m 335 #[.val (.long p0), .second, .val (.long p1), .second, .val (.long p2), .second, .val (.long p3), .second, .val (.int p4), .val (.int fr), .val (.int at_), .val (.int (Int32.ofNat n)), .val (.ref b29), .val (.long v215), .second, .val (.long v238), .second, .val (.long (v238 &&& v215)), .second, .val (.long ((v215.toUInt64 >>> (at_ &&& 0x3f).toInt64.toUInt64).toInt64)), .second, .val (.long v271), .second, .val (.long (((v238 &&& v215).toUInt64 >>> (at_ &&& 0x3f).toInt64.toUInt64).toInt64)), .second, .val (.long v297), .second, .val (.long w0), .second, .val (.long w1), .second, .val (.ref b322)] [(.int (1 : Int32)), (.ref b322)])) _
    refine XS.lload X80.here hx rfl (hb hby at_335) rfl ?_
    exact kont
  obtain ⟨T83, h83, X83, e83, W83, V83, st83⟩ := own_stJ X80 hx hZ e80 V80 (k := 1) (by decide) (by decide) (by decide) (fr := (mkF m 337 #[.val (.long p0), .second, .val (.long p1), .second, .val (.long p2), .second, .val (.long p3), .second, .val (.int p4), .val (.int fr), .val (.int at_), .val (.int (Int32.ofNat n)), .val (.ref b29), .val (.long v215), .second, .val (.long v238), .second, .val (.long (v238 &&& v215)), .second, .val (.long ((v215.toUInt64 >>> (at_ &&& 0x3f).toInt64.toUInt64).toInt64)), .second, .val (.long v271), .second, .val (.long (((v238 &&& v215).toUInt64 >>> (at_ &&& 0x3f).toInt64.toUInt64).toInt64)), .second, .val (.long v297), .second, .val (.long w0), .second, .val (.long w1), .second, .val (.ref b322)] [(.long w1), (.int (1 : Int32)), (.ref b322)])) rfl rfl (hb hby at_337)
  have f83_0 := f80_0.other W83 ne_b29_b322
  obtain ⟨u337, hu337⟩ : ∃ z : Nat → Int64, z = fun i => if i = 1 then w1 else u331 i := ⟨_, rfl⟩
  replace V83 : own_arr Z h83 b322 .long 2 (fun i => .long (u337 i)) := by rw [hu337]; exact V83
  have Z83 : n0 ≤ h83.size := Nat.le_trans Z80 (Keep.of_wr W83).1
  have N83 := Fr.snoc X83 N80 g_b322
  have pre84 : ∀ t, Steps p.tables e below (T83.setTop (mkF m 338 #[.val (.long p0), .second, .val (.long p1), .second, .val (.long p2), .second, .val (.long p3), .second, .val (.int p4), .val (.int fr), .val (.int at_), .val (.int (Int32.ofNat n)), .val (.ref b29), .val (.long v215), .second, .val (.long v238), .second, .val (.long (v238 &&& v215)), .second, .val (.long ((v215.toUInt64 >>> (at_ &&& 0x3f).toInt64.toUInt64).toInt64)), .second, .val (.long v271), .second, .val (.long (((v238 &&& v215).toUInt64 >>> (at_ &&& 0x3f).toInt64.toUInt64).toInt64)), .second, .val (.long v297), .second, .val (.long w0), .second, .val (.long w1), .second, .val (.ref b322)] [])) t → Steps p.tables e below (s₁.setTop (entryFrame m #[(.long p0), (.long p1), (.long p2), (.long p3), (.int p4)] maxLocals)) t := fun t kont => pre82 t (st83 _ kont)
  have pre85 : ∀ t, Steps p.tables e below (T83.setTop (mkF m 348 #[.val (.long p0), .second, .val (.long p1), .second, .val (.long p2), .second, .val (.long p3), .second, .val (.int p4), .val (.int fr), .val (.int at_), .val (.int (Int32.ofNat n)), .val (.ref b29), .val (.long v215), .second, .val (.long v238), .second, .val (.long (v238 &&& v215)), .second, .val (.long ((v215.toUInt64 >>> (at_ &&& 0x3f).toInt64.toUInt64).toInt64)), .second, .val (.long v271), .second, .val (.long (((v238 &&& v215).toUInt64 >>> (at_ &&& 0x3f).toInt64.toUInt64).toInt64)), .second, .val (.long v297), .second, .val (.long w0), .second, .val (.long w1), .second, .val (.ref b322)] [(.int at_), (.ref b322), (.int (Int32.ofNat n)), (.int fr), (.ref b29)])) t → Steps p.tables e below (s₁.setTop (entryFrame m #[(.long p0), (.long p1), (.long p2), (.long p3), (.int p4)] maxLocals)) t := by
    intro t kont
    refine pre84 t ?_
    show Steps p.tables e below (T83.setTop (mkF m 338 #[.val (.long p0), .second, .val (.long p1), .second, .val (.long p2), .second, .val (.long p3), .second, .val (.int p4), .val (.int fr), .val (.int at_), .val (.int (Int32.ofNat n)), .val (.ref b29), .val (.long v215), .second, .val (.long v238), .second, .val (.long (v238 &&& v215)), .second, .val (.long ((v215.toUInt64 >>> (at_ &&& 0x3f).toInt64.toUInt64).toInt64)), .second, .val (.long v271), .second, .val (.long (((v238 &&& v215).toUInt64 >>> (at_ &&& 0x3f).toInt64.toUInt64).toInt64)), .second, .val (.long v297), .second, .val (.long w0), .second, .val (.long w1), .second, .val (.ref b322)] [])) _
    refine XS.aload X83.here hx rfl (hb hby at_338) rfl rfl ?_
    show Steps p.tables e below (T83.setTop (mkF m 340 #[.val (.long p0), .second, .val (.long p1), .second, .val (.long p2), .second, .val (.long p3), .second, .val (.int p4), .val (.int fr), .val (.int at_), .val (.int (Int32.ofNat n)), .val (.ref b29), .val (.long v215), .second, .val (.long v238), .second, .val (.long (v238 &&& v215)), .second, .val (.long ((v215.toUInt64 >>> (at_ &&& 0x3f).toInt64.toUInt64).toInt64)), .second, .val (.long v271), .second, .val (.long (((v238 &&& v215).toUInt64 >>> (at_ &&& 0x3f).toInt64.toUInt64).toInt64)), .second, .val (.long v297), .second, .val (.long w0), .second, .val (.long w1), .second, .val (.ref b322)] [(.ref b29)])) _
    refine XS.iload X83.here hx rfl (hb hby at_340) rfl ?_
    show Steps p.tables e below (T83.setTop (mkF m 342 #[.val (.long p0), .second, .val (.long p1), .second, .val (.long p2), .second, .val (.long p3), .second, .val (.int p4), .val (.int fr), .val (.int at_), .val (.int (Int32.ofNat n)), .val (.ref b29), .val (.long v215), .second, .val (.long v238), .second, .val (.long (v238 &&& v215)), .second, .val (.long ((v215.toUInt64 >>> (at_ &&& 0x3f).toInt64.toUInt64).toInt64)), .second, .val (.long v271), .second, .val (.long (((v238 &&& v215).toUInt64 >>> (at_ &&& 0x3f).toInt64.toUInt64).toInt64)), .second, .val (.long v297), .second, .val (.long w0), .second, .val (.long w1), .second, .val (.ref b322)] [(.int fr), (.ref b29)])) _
    refine XS.iload X83.here hx rfl (hb hby at_342) rfl ?_
    show Steps p.tables e below (T83.setTop (mkF m 344 #[.val (.long p0), .second, .val (.long p1), .second, .val (.long p2), .second, .val (.long p3), .second, .val (.int p4), .val (.int fr), .val (.int at_), .val (.int (Int32.ofNat n)), .val (.ref b29), .val (.long v215), .second, .val (.long v238), .second, .val (.long (v238 &&& v215)), .second, .val (.long ((v215.toUInt64 >>> (at_ &&& 0x3f).toInt64.toUInt64).toInt64)), .second, .val (.long v271), .second, .val (.long (((v238 &&& v215).toUInt64 >>> (at_ &&& 0x3f).toInt64.toUInt64).toInt64)), .second, .val (.long v297), .second, .val (.long w0), .second, .val (.long w1), .second, .val (.ref b322)] [(.int (Int32.ofNat n)), (.int fr), (.ref b29)])) _
    refine XS.aload X83.here hx rfl (hb hby at_344) rfl rfl ?_
    show Steps p.tables e below (T83.setTop (mkF m 346 #[.val (.long p0), .second, .val (.long p1), .second, .val (.long p2), .second, .val (.long p3), .second, .val (.int p4), .val (.int fr), .val (.int at_), .val (.int (Int32.ofNat n)), .val (.ref b29), .val (.long v215), .second, .val (.long v238), .second, .val (.long (v238 &&& v215)), .second, .val (.long ((v215.toUInt64 >>> (at_ &&& 0x3f).toInt64.toUInt64).toInt64)), .second, .val (.long v271), .second, .val (.long (((v238 &&& v215).toUInt64 >>> (at_ &&& 0x3f).toInt64.toUInt64).toInt64)), .second, .val (.long v297), .second, .val (.long w0), .second, .val (.long w1), .second, .val (.ref b322)] [(.ref b322), (.int (Int32.ofNat n)), (.int fr), (.ref b29)])) _
    refine XS.iload X83.here hx rfl (hb hby at_346) rfl ?_
    exact kont
  obtain ⟨_, _, ⟨T86, L86, k86, n86⟩, -, X86, ⟨Lc86, hQ86, l86, y86, z86⟩, st86⟩ := Jvm.LawKit.callS X83 hx (y := (⟨"org/hiddenfield/math/BitVectors", "read", "([BII[JI)V"⟩ : MethodName)) hown (mvT hZ (hw _ (List.mem_of_getElem? (i := 3) rfl))) (mvT hZ (hw _ (List.mem_of_getElem? (i := 4) rfl))) (mvT hZ (hw _ (List.mem_of_getElem? (i := 5) rfl))) (mvT hZ (hw _ (List.mem_of_getElem? (i := 6) rfl))) (by decide) (backOf (W := 0) (rm1 l Z a0 hw [] b29 fr b322 at_ n u196 u337  h83 n0 Z83 f83_0 V83 ne_b29_b322 g_b322 hn (by omega) (by omega)) hZ (hw _ (List.mem_of_getElem? (i := 6) rfl)) (hw _ (List.mem_of_getElem? (i := 5) rfl)) (by decide) (by decide)) (g := (mkF m 348 #[.val (.long p0), .second, .val (.long p1), .second, .val (.long p2), .second, .val (.long p3), .second, .val (.int p4), .val (.int fr), .val (.int at_), .val (.int (Int32.ofNat n)), .val (.ref b29), .val (.long v215), .second, .val (.long v238), .second, .val (.long (v238 &&& v215)), .second, .val (.long ((v215.toUInt64 >>> (at_ &&& 0x3f).toInt64.toUInt64).toInt64)), .second, .val (.long v271), .second, .val (.long (((v238 &&& v215).toUInt64 >>> (at_ &&& 0x3f).toInt64.toUInt64).toInt64)), .second, .val (.long v297), .second, .val (.long w0), .second, .val (.long w1), .second, .val (.ref b322)] [(.int at_), (.ref b322), (.int (Int32.ofNat n)), (.int fr), (.ref b29)])) rfl (by rw [hml]; rfl) (argsL := [(.ref b29), (.int fr), (.int (Int32.ofNat n)), (.ref b322), (.int at_)]) (rest := []) (lenOf pd_0 rfl) rfl (by show 2 * 0 + _ ≤ _; exact Nat.le_of_eq rfl) (hb hby at_348) (fun _ _ => ⟨rfl, e83, (by decide : 2 + 0 ≤ _), (by decide : 18 + 0 ≤ _)⟩)
  dsimp only [Pt.U, Pt.locs, Pt.cells, Pt.slots] at X86 l86 y86 z86 st86 hQ86
  subst l86 y86 z86
  obtain ⟨rfl, N86q, K86, V86⟩ := hQ86
  have N86 := Fr.app N83 N86q
  have f86_0 := f83_0.keep K86 (ninS ne_b29_b322 nin0)
  have Z86 : n0 ≤ T86.heap.size := Nat.le_trans Z83 (K86).1
  have pre87 : ∀ t, Steps p.tables e below (T86.setTop (mkF m 351 #[.val (.long p0), .second, .val (.long p1), .second, .val (.long p2), .second, .val (.long p3), .second, .val (.int p4), .val (.int fr), .val (.int at_), .val (.int (Int32.ofNat n)), .val (.ref b29), .val (.long v215), .second, .val (.long v238), .second, .val (.long (v238 &&& v215)), .second, .val (.long ((v215.toUInt64 >>> (at_ &&& 0x3f).toInt64.toUInt64).toInt64)), .second, .val (.long v271), .second, .val (.long (((v238 &&& v215).toUInt64 >>> (at_ &&& 0x3f).toInt64.toUInt64).toInt64)), .second, .val (.long v297), .second, .val (.long w0), .second, .val (.long w1), .second, .val (.ref b322)] [])) t → Steps p.tables e below (s₁.setTop (entryFrame m #[(.long p0), (.long p1), (.long p2), (.long p3), (.int p4)] maxLocals)) t := fun t kont => pre85 t (st86 _ kont)
  have k0 : u337 0 = w0 := by rw [hu337, hu331]; rfl
  have k1 : u337 1 = w1 := by rw [hu337]; rfl
  have q0 := own_main0 fr at_ (Int32.ofNat n) p0 p1 v215 v238 w0 u337 F A n hF hA hn hf ha rfl hv215 hv238 k0
  have q1 := own_main1 fr at_ (Int32.ofNat n) p0 p1 v215 v238 w1 v297 u337 F A n hF hA hn hf ha rfl hv215 hv238 k1 hv297
  rw [← hby_] at q0 q1
  have pre88 : ∀ t, Steps p.tables e below (T86.setTop (mkF m 361 #[.val (.long p0), .second, .val (.long p1), .second, .val (.long p2), .second, .val (.long p3), .second, .val (.int p4), .val (.int fr), .val (.int at_), .val (.int (Int32.ofNat n)), .val (.ref b29), .val (.long v215), .second, .val (.long v238), .second, .val (.long (v238 &&& v215)), .second, .val (.long ((v215.toUInt64 >>> (at_ &&& 0x3f).toInt64.toUInt64).toInt64)), .second, .val (.long v271), .second, .val (.long (((v238 &&& v215).toUInt64 >>> (at_ &&& 0x3f).toInt64.toUInt64).toInt64)), .second, .val (.long v297), .second, .val (.long w0), .second, .val (.long w1), .second, .val (.ref b322)] [(.int (lcmpW ((own_vec u196 fr at_ u337 n) 0) (w0 ||| (((v238 &&& v215).toUInt64 >>> (at_ &&& 0x3f).toInt64.toUInt64).toInt64))))])) t → Steps p.tables e below (s₁.setTop (entryFrame m #[(.long p0), (.long p1), (.long p2), (.long p3), (.int p4)] maxLocals)) t := by
    intro t kont
    refine pre87 t ?_
    show Steps p.tables e below (T86.setTop (mkF m 351 #[.val (.long p0), .second, .val (.long p1), .second, .val (.long p2), .second, .val (.long p3), .second, .val (.int p4), .val (.int fr), .val (.int at_), .val (.int (Int32.ofNat n)), .val (.ref b29), .val (.long v215), .second, .val (.long v238), .second, .val (.long (v238 &&& v215)), .second, .val (.long ((v215.toUInt64 >>> (at_ &&& 0x3f).toInt64.toUInt64).toInt64)), .second, .val (.long v271), .second, .val (.long (((v238 &&& v215).toUInt64 >>> (at_ &&& 0x3f).toInt64.toUInt64).toInt64)), .second, .val (.long v297), .second, .val (.long w0), .second, .val (.long w1), .second, .val (.ref b322)] [])) _
    refine XS.aload X86.here hx rfl (hb hby at_351) rfl rfl ?_
    show Steps p.tables e below (T86.setTop (mkF m 353 #[.val (.long p0), .second, .val (.long p1), .second, .val (.long p2), .second, .val (.long p3), .second, .val (.int p4), .val (.int fr), .val (.int at_), .val (.int (Int32.ofNat n)), .val (.ref b29), .val (.long v215), .second, .val (.long v238), .second, .val (.long (v238 &&& v215)), .second, .val (.long ((v215.toUInt64 >>> (at_ &&& 0x3f).toInt64.toUInt64).toInt64)), .second, .val (.long v271), .second, .val (.long (((v238 &&& v215).toUInt64 >>> (at_ &&& 0x3f).toInt64.toUInt64).toInt64)), .second, .val (.long v297), .second, .val (.long w0), .second, .val (.long w1), .second, .val (.ref b322)] [(.ref b322)])) _
    refine XS.iconst X86.here hx rfl (hb hby at_353) ?_
    show Steps p.tables e below (T86.setTop (mkF m 354 #[.val (.long p0), .second, .val (.long p1), .second, .val (.long p2), .second, .val (.long p3), .second, .val (.int p4), .val (.int fr), .val (.int at_), .val (.int (Int32.ofNat n)), .val (.ref b29), .val (.long v215), .second, .val (.long v238), .second, .val (.long (v238 &&& v215)), .second, .val (.long ((v215.toUInt64 >>> (at_ &&& 0x3f).toInt64.toUInt64).toInt64)), .second, .val (.long v271), .second, .val (.long (((v238 &&& v215).toUInt64 >>> (at_ &&& 0x3f).toInt64.toUInt64).toInt64)), .second, .val (.long v297), .second, .val (.long w0), .second, .val (.long w1), .second, .val (.ref b322)] [(.int (0 : Int32)), (.ref b322)])) _
    refine own_ldJ X86 hx hZ rfl V86 (k := 0) (by decide) (by decide) (by decide) (fr := (mkF m 354 #[.val (.long p0), .second, .val (.long p1), .second, .val (.long p2), .second, .val (.long p3), .second, .val (.int p4), .val (.int fr), .val (.int at_), .val (.int (Int32.ofNat n)), .val (.ref b29), .val (.long v215), .second, .val (.long v238), .second, .val (.long (v238 &&& v215)), .second, .val (.long ((v215.toUInt64 >>> (at_ &&& 0x3f).toInt64.toUInt64).toInt64)), .second, .val (.long v271), .second, .val (.long (((v238 &&& v215).toUInt64 >>> (at_ &&& 0x3f).toInt64.toUInt64).toInt64)), .second, .val (.long v297), .second, .val (.long w0), .second, .val (.long w1), .second, .val (.ref b322)] [(.int (0 : Int32)), (.ref b322)])) rfl rfl (hb hby at_354) _ ?_
    show Steps p.tables e below (T86.setTop (mkF m 355 #[.val (.long p0), .second, .val (.long p1), .second, .val (.long p2), .second, .val (.long p3), .second, .val (.int p4), .val (.int fr), .val (.int at_), .val (.int (Int32.ofNat n)), .val (.ref b29), .val (.long v215), .second, .val (.long v238), .second, .val (.long (v238 &&& v215)), .second, .val (.long ((v215.toUInt64 >>> (at_ &&& 0x3f).toInt64.toUInt64).toInt64)), .second, .val (.long v271), .second, .val (.long (((v238 &&& v215).toUInt64 >>> (at_ &&& 0x3f).toInt64.toUInt64).toInt64)), .second, .val (.long v297), .second, .val (.long w0), .second, .val (.long w1), .second, .val (.ref b322)] [(.long ((own_vec u196 fr at_ u337 n) 0))])) _
    refine XS.lload X86.here hx rfl (hb hby at_355) rfl ?_
    show Steps p.tables e below (T86.setTop (mkF m 357 #[.val (.long p0), .second, .val (.long p1), .second, .val (.long p2), .second, .val (.long p3), .second, .val (.int p4), .val (.int fr), .val (.int at_), .val (.int (Int32.ofNat n)), .val (.ref b29), .val (.long v215), .second, .val (.long v238), .second, .val (.long (v238 &&& v215)), .second, .val (.long ((v215.toUInt64 >>> (at_ &&& 0x3f).toInt64.toUInt64).toInt64)), .second, .val (.long v271), .second, .val (.long (((v238 &&& v215).toUInt64 >>> (at_ &&& 0x3f).toInt64.toUInt64).toInt64)), .second, .val (.long v297), .second, .val (.long w0), .second, .val (.long w1), .second, .val (.ref b322)] [(.long w0), (.long ((own_vec u196 fr at_ u337 n) 0))])) _
    refine XS.lload X86.here hx rfl (hb hby at_357) rfl ?_
    show Steps p.tables e below (T86.setTop (mkF m 359 #[.val (.long p0), .second, .val (.long p1), .second, .val (.long p2), .second, .val (.long p3), .second, .val (.int p4), .val (.int fr), .val (.int at_), .val (.int (Int32.ofNat n)), .val (.ref b29), .val (.long v215), .second, .val (.long v238), .second, .val (.long (v238 &&& v215)), .second, .val (.long ((v215.toUInt64 >>> (at_ &&& 0x3f).toInt64.toUInt64).toInt64)), .second, .val (.long v271), .second, .val (.long (((v238 &&& v215).toUInt64 >>> (at_ &&& 0x3f).toInt64.toUInt64).toInt64)), .second, .val (.long v297), .second, .val (.long w0), .second, .val (.long w1), .second, .val (.ref b322)] [(.long (((v238 &&& v215).toUInt64 >>> (at_ &&& 0x3f).toInt64.toUInt64).toInt64)), (.long w0), (.long ((own_vec u196 fr at_ u337 n) 0))])) _
    refine XS.lor X86.here hx rfl (hb hby at_359) rfl ?_
    show Steps p.tables e below (T86.setTop (mkF m 360 #[.val (.long p0), .second, .val (.long p1), .second, .val (.long p2), .second, .val (.long p3), .second, .val (.int p4), .val (.int fr), .val (.int at_), .val (.int (Int32.ofNat n)), .val (.ref b29), .val (.long v215), .second, .val (.long v238), .second, .val (.long (v238 &&& v215)), .second, .val (.long ((v215.toUInt64 >>> (at_ &&& 0x3f).toInt64.toUInt64).toInt64)), .second, .val (.long v271), .second, .val (.long (((v238 &&& v215).toUInt64 >>> (at_ &&& 0x3f).toInt64.toUInt64).toInt64)), .second, .val (.long v297), .second, .val (.long w0), .second, .val (.long w1), .second, .val (.ref b322)] [(.long (w0 ||| (((v238 &&& v215).toUInt64 >>> (at_ &&& 0x3f).toInt64.toUInt64).toInt64))), (.long ((own_vec u196 fr at_ u337 n) 0))])) _
    refine XS.lcmp X86.here hx rfl (hb hby at_360) rfl ?_
    exact kont
  by_cases hc361 : ((own_vec u196 fr at_ u337 n) 0) = (w0 ||| (((v238 &&& v215).toUInt64 >>> (at_ &&& 0x3f).toInt64.toUInt64).toInt64))
  · have pre89 : ∀ t, Steps p.tables e below (T86.setTop (mkF m 374 #[.val (.long p0), .second, .val (.long p1), .second, .val (.long p2), .second, .val (.long p3), .second, .val (.int p4), .val (.int fr), .val (.int at_), .val (.int (Int32.ofNat n)), .val (.ref b29), .val (.long v215), .second, .val (.long v238), .second, .val (.long (v238 &&& v215)), .second, .val (.long ((v215.toUInt64 >>> (at_ &&& 0x3f).toInt64.toUInt64).toInt64)), .second, .val (.long v271), .second, .val (.long (((v238 &&& v215).toUInt64 >>> (at_ &&& 0x3f).toInt64.toUInt64).toInt64)), .second, .val (.long v297), .second, .val (.long w0), .second, .val (.long w1), .second, .val (.ref b322)] [(.int (lcmpW ((own_vec u196 fr at_ u337 n) 1) (w1 ||| v297)))])) t → Steps p.tables e below (s₁.setTop (entryFrame m #[(.long p0), (.long p1), (.long p2), (.long p3), (.int p4)] maxLocals)) t := by
      intro t kont
      refine pre88 t ?_
      show Steps p.tables e below (T86.setTop (mkF m 361 #[.val (.long p0), .second, .val (.long p1), .second, .val (.long p2), .second, .val (.long p3), .second, .val (.int p4), .val (.int fr), .val (.int at_), .val (.int (Int32.ofNat n)), .val (.ref b29), .val (.long v215), .second, .val (.long v238), .second, .val (.long (v238 &&& v215)), .second, .val (.long ((v215.toUInt64 >>> (at_ &&& 0x3f).toInt64.toUInt64).toInt64)), .second, .val (.long v271), .second, .val (.long (((v238 &&& v215).toUInt64 >>> (at_ &&& 0x3f).toInt64.toUInt64).toInt64)), .second, .val (.long v297), .second, .val (.long w0), .second, .val (.long w1), .second, .val (.ref b322)] [(.int (lcmpW ((own_vec u196 fr at_ u337 n) 0) (w0 ||| (((v238 &&& v215).toUInt64 >>> (at_ &&& 0x3f).toInt64.toUInt64).toInt64))))])) _
      refine XS.ifNo X86.here hx rfl (hb hby at_361) rfl ((if0 _ _).trans (teq ((lw_eq _ _).mpr hc361)).2) ?_
      show Steps p.tables e below (T86.setTop (mkF m 364 #[.val (.long p0), .second, .val (.long p1), .second, .val (.long p2), .second, .val (.long p3), .second, .val (.int p4), .val (.int fr), .val (.int at_), .val (.int (Int32.ofNat n)), .val (.ref b29), .val (.long v215), .second, .val (.long v238), .second, .val (.long (v238 &&& v215)), .second, .val (.long ((v215.toUInt64 >>> (at_ &&& 0x3f).toInt64.toUInt64).toInt64)), .second, .val (.long v271), .second, .val (.long (((v238 &&& v215).toUInt64 >>> (at_ &&& 0x3f).toInt64.toUInt64).toInt64)), .second, .val (.long v297), .second, .val (.long w0), .second, .val (.long w1), .second, .val (.ref b322)] [])) _
      refine XS.aload X86.here hx rfl (hb hby at_364) rfl rfl ?_
      show Steps p.tables e below (T86.setTop (mkF m 366 #[.val (.long p0), .second, .val (.long p1), .second, .val (.long p2), .second, .val (.long p3), .second, .val (.int p4), .val (.int fr), .val (.int at_), .val (.int (Int32.ofNat n)), .val (.ref b29), .val (.long v215), .second, .val (.long v238), .second, .val (.long (v238 &&& v215)), .second, .val (.long ((v215.toUInt64 >>> (at_ &&& 0x3f).toInt64.toUInt64).toInt64)), .second, .val (.long v271), .second, .val (.long (((v238 &&& v215).toUInt64 >>> (at_ &&& 0x3f).toInt64.toUInt64).toInt64)), .second, .val (.long v297), .second, .val (.long w0), .second, .val (.long w1), .second, .val (.ref b322)] [(.ref b322)])) _
      refine XS.iconst X86.here hx rfl (hb hby at_366) ?_
      show Steps p.tables e below (T86.setTop (mkF m 367 #[.val (.long p0), .second, .val (.long p1), .second, .val (.long p2), .second, .val (.long p3), .second, .val (.int p4), .val (.int fr), .val (.int at_), .val (.int (Int32.ofNat n)), .val (.ref b29), .val (.long v215), .second, .val (.long v238), .second, .val (.long (v238 &&& v215)), .second, .val (.long ((v215.toUInt64 >>> (at_ &&& 0x3f).toInt64.toUInt64).toInt64)), .second, .val (.long v271), .second, .val (.long (((v238 &&& v215).toUInt64 >>> (at_ &&& 0x3f).toInt64.toUInt64).toInt64)), .second, .val (.long v297), .second, .val (.long w0), .second, .val (.long w1), .second, .val (.ref b322)] [(.int (1 : Int32)), (.ref b322)])) _
      refine own_ldJ X86 hx hZ rfl V86 (k := 1) (by decide) (by decide) (by decide) (fr := (mkF m 367 #[.val (.long p0), .second, .val (.long p1), .second, .val (.long p2), .second, .val (.long p3), .second, .val (.int p4), .val (.int fr), .val (.int at_), .val (.int (Int32.ofNat n)), .val (.ref b29), .val (.long v215), .second, .val (.long v238), .second, .val (.long (v238 &&& v215)), .second, .val (.long ((v215.toUInt64 >>> (at_ &&& 0x3f).toInt64.toUInt64).toInt64)), .second, .val (.long v271), .second, .val (.long (((v238 &&& v215).toUInt64 >>> (at_ &&& 0x3f).toInt64.toUInt64).toInt64)), .second, .val (.long v297), .second, .val (.long w0), .second, .val (.long w1), .second, .val (.ref b322)] [(.int (1 : Int32)), (.ref b322)])) rfl rfl (hb hby at_367) _ ?_
      show Steps p.tables e below (T86.setTop (mkF m 368 #[.val (.long p0), .second, .val (.long p1), .second, .val (.long p2), .second, .val (.long p3), .second, .val (.int p4), .val (.int fr), .val (.int at_), .val (.int (Int32.ofNat n)), .val (.ref b29), .val (.long v215), .second, .val (.long v238), .second, .val (.long (v238 &&& v215)), .second, .val (.long ((v215.toUInt64 >>> (at_ &&& 0x3f).toInt64.toUInt64).toInt64)), .second, .val (.long v271), .second, .val (.long (((v238 &&& v215).toUInt64 >>> (at_ &&& 0x3f).toInt64.toUInt64).toInt64)), .second, .val (.long v297), .second, .val (.long w0), .second, .val (.long w1), .second, .val (.ref b322)] [(.long ((own_vec u196 fr at_ u337 n) 1))])) _
      refine XS.lload X86.here hx rfl (hb hby at_368) rfl ?_
      show Steps p.tables e below (T86.setTop (mkF m 370 #[.val (.long p0), .second, .val (.long p1), .second, .val (.long p2), .second, .val (.long p3), .second, .val (.int p4), .val (.int fr), .val (.int at_), .val (.int (Int32.ofNat n)), .val (.ref b29), .val (.long v215), .second, .val (.long v238), .second, .val (.long (v238 &&& v215)), .second, .val (.long ((v215.toUInt64 >>> (at_ &&& 0x3f).toInt64.toUInt64).toInt64)), .second, .val (.long v271), .second, .val (.long (((v238 &&& v215).toUInt64 >>> (at_ &&& 0x3f).toInt64.toUInt64).toInt64)), .second, .val (.long v297), .second, .val (.long w0), .second, .val (.long w1), .second, .val (.ref b322)] [(.long w1), (.long ((own_vec u196 fr at_ u337 n) 1))])) _
      refine XS.lload X86.here hx rfl (hb hby at_370) rfl ?_
      show Steps p.tables e below (T86.setTop (mkF m 372 #[.val (.long p0), .second, .val (.long p1), .second, .val (.long p2), .second, .val (.long p3), .second, .val (.int p4), .val (.int fr), .val (.int at_), .val (.int (Int32.ofNat n)), .val (.ref b29), .val (.long v215), .second, .val (.long v238), .second, .val (.long (v238 &&& v215)), .second, .val (.long ((v215.toUInt64 >>> (at_ &&& 0x3f).toInt64.toUInt64).toInt64)), .second, .val (.long v271), .second, .val (.long (((v238 &&& v215).toUInt64 >>> (at_ &&& 0x3f).toInt64.toUInt64).toInt64)), .second, .val (.long v297), .second, .val (.long w0), .second, .val (.long w1), .second, .val (.ref b322)] [(.long v297), (.long w1), (.long ((own_vec u196 fr at_ u337 n) 1))])) _
      refine XS.lor X86.here hx rfl (hb hby at_372) rfl ?_
      show Steps p.tables e below (T86.setTop (mkF m 373 #[.val (.long p0), .second, .val (.long p1), .second, .val (.long p2), .second, .val (.long p3), .second, .val (.int p4), .val (.int fr), .val (.int at_), .val (.int (Int32.ofNat n)), .val (.ref b29), .val (.long v215), .second, .val (.long v238), .second, .val (.long (v238 &&& v215)), .second, .val (.long ((v215.toUInt64 >>> (at_ &&& 0x3f).toInt64.toUInt64).toInt64)), .second, .val (.long v271), .second, .val (.long (((v238 &&& v215).toUInt64 >>> (at_ &&& 0x3f).toInt64.toUInt64).toInt64)), .second, .val (.long v297), .second, .val (.long w0), .second, .val (.long w1), .second, .val (.ref b322)] [(.long (w1 ||| v297)), (.long ((own_vec u196 fr at_ u337 n) 1))])) _
      refine XS.lcmp X86.here hx rfl (hb hby at_373) rfl ?_
      exact kont
    by_cases hc374 : ((own_vec u196 fr at_ u337 n) 1) = (w1 ||| v297)
    · have pre90 : ∀ t, Steps p.tables e below (T86.setTop (mkF m 382 #[.val (.long p0), .second, .val (.long p1), .second, .val (.long p2), .second, .val (.long p3), .second, .val (.int p4), .val (.int fr), .val (.int at_), .val (.int (Int32.ofNat n)), .val (.ref b29), .val (.long v215), .second, .val (.long v238), .second, .val (.long (v238 &&& v215)), .second, .val (.long ((v215.toUInt64 >>> (at_ &&& 0x3f).toInt64.toUInt64).toInt64)), .second, .val (.long v271), .second, .val (.long (((v238 &&& v215).toUInt64 >>> (at_ &&& 0x3f).toInt64.toUInt64).toInt64)), .second, .val (.long v297), .second, .val (.long w0), .second, .val (.long w1), .second, .val (.ref b322)] [(.int (1 : Int32))])) t → Steps p.tables e below (s₁.setTop (entryFrame m #[(.long p0), (.long p1), (.long p2), (.long p3), (.int p4)] maxLocals)) t := by
        intro t kont
        refine pre89 t ?_
        show Steps p.tables e below (T86.setTop (mkF m 374 #[.val (.long p0), .second, .val (.long p1), .second, .val (.long p2), .second, .val (.long p3), .second, .val (.int p4), .val (.int fr), .val (.int at_), .val (.int (Int32.ofNat n)), .val (.ref b29), .val (.long v215), .second, .val (.long v238), .second, .val (.long (v238 &&& v215)), .second, .val (.long ((v215.toUInt64 >>> (at_ &&& 0x3f).toInt64.toUInt64).toInt64)), .second, .val (.long v271), .second, .val (.long (((v238 &&& v215).toUInt64 >>> (at_ &&& 0x3f).toInt64.toUInt64).toInt64)), .second, .val (.long v297), .second, .val (.long w0), .second, .val (.long w1), .second, .val (.ref b322)] [(.int (lcmpW ((own_vec u196 fr at_ u337 n) 1) (w1 ||| v297)))])) _
        refine XS.ifNo X86.here hx rfl (hb hby at_374) rfl ((if0 _ _).trans (teq ((lw_eq _ _).mpr hc374)).2) ?_
        show Steps p.tables e below (T86.setTop (mkF m 377 #[.val (.long p0), .second, .val (.long p1), .second, .val (.long p2), .second, .val (.long p3), .second, .val (.int p4), .val (.int fr), .val (.int at_), .val (.int (Int32.ofNat n)), .val (.ref b29), .val (.long v215), .second, .val (.long v238), .second, .val (.long (v238 &&& v215)), .second, .val (.long ((v215.toUInt64 >>> (at_ &&& 0x3f).toInt64.toUInt64).toInt64)), .second, .val (.long v271), .second, .val (.long (((v238 &&& v215).toUInt64 >>> (at_ &&& 0x3f).toInt64.toUInt64).toInt64)), .second, .val (.long v297), .second, .val (.long w0), .second, .val (.long w1), .second, .val (.ref b322)] [])) _
        refine XS.iconst X86.here hx rfl (hb hby at_377) ?_
        show Steps p.tables e below (T86.setTop (mkF m 378 #[.val (.long p0), .second, .val (.long p1), .second, .val (.long p2), .second, .val (.long p3), .second, .val (.int p4), .val (.int fr), .val (.int at_), .val (.int (Int32.ofNat n)), .val (.ref b29), .val (.long v215), .second, .val (.long v238), .second, .val (.long (v238 &&& v215)), .second, .val (.long ((v215.toUInt64 >>> (at_ &&& 0x3f).toInt64.toUInt64).toInt64)), .second, .val (.long v271), .second, .val (.long (((v238 &&& v215).toUInt64 >>> (at_ &&& 0x3f).toInt64.toUInt64).toInt64)), .second, .val (.long v297), .second, .val (.long w0), .second, .val (.long w1), .second, .val (.ref b322)] [(.int (1 : Int32))])) _
        refine XS.goto X86.here hx rfl (pc0 := 378) (pc' := 382) rfl (hb hby at_378) (by decide) (by decide) ?_
        exact kont
      obtain ⟨fs, hr, hrun, hended, hW, hsame⟩ := X86.leave (v := some (.int (1 : Int32))) (fun h => by rw [Bd.returns] at h; cases h)
      refine ⟨_, _, pre90 _ ?_, hrun, hended, _, _, rfl, ?_, ⟨_, rfl⟩, hW, hsame.mono (by decide) (by decide)⟩
      · exact retN X86 hx (t := .boolean) Bd.returns (by simp) (hb hby at_382) hr
      · show Q0 Z p0 p1 p2 p3 p4 h0 n0 _ T86.heap _
        exact ⟨rfl, N86⟩
    · exfalso
      first | exact hc374 q1 | exact hc361 q0
  · exfalso
    first | exact hc374 q1 | exact hc361 q0
set_option maxRecDepth 65536 in
set_option maxHeartbeats 40000000 in
theorem comes_1 {Post : Tables → Env → Array Value → State → Outcome → State → Prop} (hpost : ∀ tb e args s v u, (limb_1_1.after args s (.returned v) u = true ∧ limb_1_2.after args s (.returned v) u = true ∧ True) → FrameEnd s (.returned v) u (Jvm.fieldLocs frame_1_writes args s ++ Jvm.arrayLocs frame_1_arrays args s ++ Jvm.staticLocs frame_1_statics s) 16 128 → Post tb e args s (.returned v) u) :
    ArmFor flags0 classFile x code maxLocals ret World_1 tables_1 room_1 Calls_1 rest_1 Pre_1 Post := by
  intro l hfl _ _ p e ha hc hk s m args below hf hA hF happ hP
  obtain ⟨hcalls, hrest, hpre⟩ := hP
  obtain ⟨-, -, -, hnamed, -, -, -, hat⟩ := (Spec.applies_iff hf).mp happ
  obtain ⟨hg, hn⟩ := and_e (Cond.before_iff.mp (show (Jvm.Cond.and given_1 narrow_1).before args s = true from hpre))
  obtain ⟨g1, g2⟩ := and_e hg
  obtain ⟨g3, g4⟩ := and_e g2
  obtain ⟨g5, g6⟩ := and_e g4
  obtain ⟨g7, g8⟩ := and_e g6
  obtain ⟨g9, g10⟩ := and_e g8
  obtain ⟨w0, w1, w2, w3, w4, rfl⟩ : ∃ w0 w1 w2 w3 w4 : Value, args = #[w0, w1, w2, w3, w4] := by
    have hs : args.size = 5 := by simpa [Cond.value, given_1] using g1
    obtain ⟨L⟩ := args
    match L, hs with
    | [w0, w1, w2, w3, w4], _ => exact ⟨w0, w1, w2, w3, w4, rfl⟩
  have hw := fun d (hd : d ∈ tables_1) => atoms_spec (ws := Jvm.Cond.code x code maxLocals ret :: tables_1) hat d (List.mem_cons_of_mem _ hd)
  have hfit : Fit s := fun {y c} hc i hi => by
    obtain ⟨ha, rfl⟩ := Array.getElem?_eq_some_iff.mp hc
    have q := List.all_eq_true.mp ((Array.all_eq_true_iff_forall_mem.mp hF) _ (Array.getElem_mem ha)) i (List.mem_range.mpr hi)
    simpa [Array.getElem?_eq_getElem hi] using q
  obtain ⟨i0, ei0⟩ := isL_v g3
  obtain rfl : w0 = (.long i0) := Option.some.inj ei0
  obtain ⟨i1, ei1⟩ := isL_v g5
  obtain rfl : w1 = (.long i1) := Option.some.inj ei1
  obtain ⟨i2, ei2⟩ := isL_v g7
  obtain rfl : w2 = (.long i2) := Option.some.inj ei2
  obtain ⟨i3, ei3⟩ := isL_v g9
  obtain rfl : w3 = (.long i3) := Option.some.inj ei3
  obtain ⟨i4, ei4⟩ := is_v g10
  obtain rfl : w4 = (.int i4) := Option.some.inj ei4
  obtain ⟨n, o, h1, h2, h3, _, L, rfl, ⟨rfl, N⟩, hq⟩ := rm0 l s _ hw tables_1 i0 i1 i2 i3 i4 s.heap s.heap.size (Nat.le_refl _) p e ha hc hk s m _ below hf ((Spec.applies_iff_loose hf).mp happ).1 ⟨rfl, State.Warmed39.refl s, rfl⟩ trivial
  refine ⟨n, _, h1, h2, h3, hpost _ _ _ _ _ _ ⟨Cond.after_iff.mpr rfl, Cond.after_iff.mpr (eq_i res_at (Term.int_eval (1)) rfl), trivial⟩ ⟨hq.1, hq.2.1, (hq.2.2.sift fun y hy => Or.inr (N y hy)).mono (by decide) (by decide)⟩⟩
theorem main_1_1 : Claimed_1_1 := comes_1 fun _ _ _ _ _ _ h hF => ⟨h.1, hF⟩
theorem main_1_2 : Claimed_1_2 := comes_1 fun _ _ _ _ _ _ h hF => ⟨h.2.1, hF⟩
end Jvm.Pilot.@@N@@
namespace Jvm.Pilot.@@N@@
open Jvm Jvm.ClassFile Sem Op Lib Jvm.Free Jvm.Stand Jvm.Pilot.@@N@@.Jvm.D
/-! MADE BY PROGRAM (witnessworld.py) out of the Statement's table words and the real class files: 11 classes; the members and pool entries that the words name. The judged class is class 1, her method 1. -/
namespace start1
open Jvm.ClassFile
def u (s : String) : CpInfo := .utf8 (stringToUtf16 s)
/-- a pool by its gaps: so many unusable entries, then the entry; so many at the end -/
def gap : Nat → List CpInfo → List CpInfo
  | 0, r => r
  | n + 1, r => .unusable :: gap n r
def poolList (es : List (Nat × CpInfo)) (last : Nat) : List CpInfo := es.foldr (fun e r => gap e.1 (e.2 :: r)) (gap last [])
def pool (es : List (Nat × CpInfo)) (last : Nat) : Array CpInfo := ⟨poolList es last⟩
def fileOf (pool : Array CpInfo) (this : Nat) (attrs : Array Attribute := #[]) (ms : Array MethodInfo := #[]) (fl : Nat := 33) (sup : Nat := 0) (ifs : Array Nat := #[]) (fds : Array FieldInfo := #[]) : ClassFile where
  minorVersion := 0
  majorVersion := 65
  constantPool := pool
  accessFlags := fl
  thisClass := this
  superClass := sup
  interfaces := ifs
  fields := fds
  methods := ms
  attributes := attrs
def plain (name : String) (sup : Option ClassId) : Class where
  name := name
  kind := .ordinary
  loader := none
  accessFlags := 33
  super := sup
  interfaces := #[]
  cf := none
  fields := #[]
  methods := #[]
  instanceTypes := #[]
  staticTypes := #[]
  resolved := #[]
  callSites := []
  init := .initialized
  statics := none
  mirror := none

def pool0 : Array CpInfo := pool [(5, u "<init>"), (0, u "()V"), (1, .class_ 10), (1, u "java/lang/Object")] 113

def k0m0 : Method := { name := "<init>", desc := "()V", sig := { parameters := [], returnType := none }, accessFlags := 1, code := none }
/-- java/lang/Object -/
def k0 : Class := { plain "java/lang/Object" none with
  accessFlags := 33
  interfaces := #[]
  cf := some (fileOf pool0 8 #[] #[{ accessFlags := 1, nameIndex := 5, descriptorIndex := 6, attributes := #[] }] 33 0 #[] #[])
  fields := #[]
  methods := #[k0m0]
  instanceTypes := #[]
  staticTypes := #[]
  resolved := Array.replicate 124 none
  statics := none }

def pool1 : Array CpInfo := pool [(2, .class_ 4), (1, u "java/lang/Object"), (0, u "<init>"), (0, u "()V"), (0, .long 18446744073709551615), (1, .methodref 10 11), (0, .class_ 12), (0, .nameAndType 13 14), (0, u "org/hiddenfield/math/BitVectors"), (0, u "read"), (0, u "([BII[JI)V"), (0, .class_ 16), (0, u "org/hiddenfield/math/BitVectorsReadPinLaw"), (2, u "law"), (0, u "(JJJJI)Z")] 7

def k1m0 : Method := { name := "<init>", desc := "()V", sig := { parameters := [], returnType := none }, accessFlags := 1, code := none }
def k1c1 : Code := { maxStack := 6, maxLocals := 32, code := code, exceptionTable := #[], attributes := #[] }
def k1m1 : Method := { name := "law", desc := "(JJJJI)Z", sig := { parameters := [.long, .long, .long, .long, .int], returnType := some .boolean }, accessFlags := 9, code := some k1c1 }
/-- org/hiddenfield/math/BitVectorsReadPinLaw -/
def k1 : Class := { plain "org/hiddenfield/math/BitVectorsReadPinLaw" (some 0) with
  accessFlags := 49
  interfaces := #[]
  cf := some (fileOf pool1 15 #[] #[{ accessFlags := 1, nameIndex := 5, descriptorIndex := 6, attributes := #[] }, { accessFlags := 9, nameIndex := 19, descriptorIndex := 20, attributes := #[] }] 49 2 #[] #[])
  fields := #[]
  methods := #[k1m0, k1m1]
  instanceTypes := #[]
  staticTypes := #[]
  resolved := Array.replicate 28 none
  statics := none }

def pool2 : Array CpInfo := pool [(2, .class_ 4), (1, u "java/lang/Object"), (0, u "<init>"), (0, u "()V"), (5, .class_ 14), (1, u "org/hiddenfield/math/BitVectors"), (10, .long 9223372036854775808), (14, u "read"), (0, u "([BII[JI)V")] 13

def k2m0 : Method := { name := "<init>", desc := "()V", sig := { parameters := [], returnType := none }, accessFlags := 2, code := none }
def k2c1 : Code := { maxStack := 10, maxLocals := 10, code := prog_30_method_5_code, exceptionTable := #[], attributes := #[] }
def k2m1 : Method := { name := "read", desc := "([BII[JI)V", sig := { parameters := [(.array .byte), .int, .int, (.array .long), .int], returnType := none }, accessFlags := 9, code := some k2c1 }
/-- org/hiddenfield/math/BitVectors -/
def k2 : Class := { plain "org/hiddenfield/math/BitVectors" (some 0) with
  accessFlags := 49
  interfaces := #[]
  cf := some (fileOf pool2 12 #[] #[{ accessFlags := 2, nameIndex := 5, descriptorIndex := 6, attributes := #[] }, { accessFlags := 9, nameIndex := 40, descriptorIndex := 41, attributes := #[] }] 49 2 #[] #[])
  fields := #[]
  methods := #[k2m0, k2m1]
  instanceTypes := #[]
  staticTypes := #[]
  resolved := Array.replicate 55 none
  statics := none }

def pool3 : Array CpInfo := pool [(1, u "java/lang/Cloneable"), (0, .class_ 1), (0, u "java/lang/Object"), (0, .class_ 3)] 3

/-- java/lang/Cloneable -/
def k3 : Class := { plain "java/lang/Cloneable" (some 0) with
  accessFlags := 1537
  interfaces := #[]
  cf := some (fileOf pool3 2 #[] #[] 1537 4 #[] #[])
  fields := #[]
  methods := #[]
  instanceTypes := #[]
  staticTypes := #[]
  resolved := Array.replicate 8 none
  statics := none }

def pool4 : Array CpInfo := pool [(1, u "java/io/Serializable"), (0, .class_ 1), (0, u "java/lang/Object"), (0, .class_ 3)] 3

/-- java/io/Serializable -/
def k4 : Class := { plain "java/io/Serializable" (some 0) with
  accessFlags := 1537
  interfaces := #[]
  cf := some (fileOf pool4 2 #[] #[] 1537 4 #[] #[])
  fields := #[]
  methods := #[]
  instanceTypes := #[]
  staticTypes := #[]
  resolved := Array.replicate 8 none
  statics := none }

/-- the primitive byte -/
def k5 : Class := { plain "byte" none with kind := .primitive 'B', accessFlags := 0x411 }
/-- [B -/
def k6 : Class := { plain "[B" (some 0) with kind := .array 5 .byte, interfaces := #[3, 4], accessFlags := 1041 }

/-- the primitive int -/
def k7 : Class := { plain "int" none with kind := .primitive 'I', accessFlags := 0x411 }
/-- [I -/
def k8 : Class := { plain "[I" (some 0) with kind := .array 7 .int, interfaces := #[3, 4], accessFlags := 1041 }

/-- the primitive long -/
def k9 : Class := { plain "long" none with kind := .primitive 'J', accessFlags := 0x411 }
/-- [J -/
def k10 : Class := { plain "[J" (some 0) with kind := .array 9 .long, interfaces := #[3, 4], accessFlags := 1041 }

def heap : Heap := #[]
def classes : Array Class := #[k0, k1, k2, k3, k4, k5, k6, k7, k8, k9, k10]
def interned : List (Array UInt16 × Addr) := []
def slotsUsed : Nat := 0
def theMethod : MethodId := ⟨1, 1⟩
def args0 : Array Value := #[.long 9, .long 10, .long 5, .long 1, .int 3]
def aboutOver (below : List Frame) : State where
  vm := { classes := classes, interned := interned.toArray }
  heap := heap
  slotsUsed := slotsUsed
  threads := #[{ frames := .invoking theMethod args0 :: below }]
def below0 : List Frame := [.native { method := ⟨0, 0⟩, args := #[] }]
def about1 : State := aboutOver below0
def p0 : Program := .bare "" "" ""
def e0 : Env := launch0.env 0 0 0
theorem w_frames : about1.frames = Frame.invoking theMethod args0 :: below0 := rfl
set_option maxRecDepth 65536 in
theorem w_args : argsFit about1.vm theMethod args0 = true := by decide +kernel
set_option maxRecDepth 65536 in
theorem w_heap : heapFits about1 = true := by decide +kernel
set_option maxRecDepth 65536 in
theorem w_runnable : about1.curStatus? = some .runnable := by decide +kernel
set_option maxRecDepth 65536 in
theorem w_alone : about1.alone = true := by decide +kernel
set_option maxRecDepth 65536 in
theorem w_named : about1.methodNamed? x = some theMethod := by decide +kernel
set_option maxRecDepth 65536 in
theorem w_hears : about1.hears theMethod below0 = true := by decide +kernel
set_option maxRecDepth 65536 in
theorem w_ripe : about1.ripe theMethod args0 below0 = true := by decide +kernel
theorem w_running : about1.status = .running := rfl
set_option maxRecDepth 65536 in
theorem w_room : about1.hasRoom e0.platform room_1 = true :=
  launch0.hasRoom_least _ room_1 (by decide +kernel) (by decide +kernel) (by decide +kernel) (by decide +kernel) (by decide +kernel) (by decide +kernel)
theorem allAtoms_all (ts : List Jvm.Cond) (a : Array Jvm.Value) (st : Jvm.State) : (allAtoms ts).before a st = ts.all (fun c => c.before a st) := by
  induction ts with
  | nil => rfl
  | cons c t ih =>
    show (Jvm.Cond.and c (allAtoms t)).before a st = _
    rw [Jvm.Cond.before_and, ih, List.all_cons]
def words1 : List Jvm.Cond := Jvm.Cond.code x code maxLocals ret :: tables_1
/-- a 'code' word, met by the world's own term for the bytes: nothing is compared byte by byte -/
theorem code_word {y : MethodName} {bytes : ByteArray} {mx : Nat} {rt : Option FieldType} {a : Array Value} {s : State} {m : MethodId} {meth : Method} {c : Code} (h1 : s.methodNamed? y = some m) (h2 : s.vm.method? m = some meth) (h3 : meth.code = some c) (h4 : c.code = bytes)
    (h5 : (c.maxLocals == mx && c.exceptionTable.isEmpty && decide (c.maxStack ≤ mostOperands) && decide (meth.sig.returnType = rt) && !meth.locks && decide (parseMethodDescriptor y.desc = some meth.sig)) = true) : (Jvm.Cond.code y bytes mx rt).before a s = true := by
  simp only [Bool.and_eq_true, beq_iff_eq, Bool.not_eq_true', decide_eq_true_eq] at h5
  obtain ⟨⟨⟨⟨⟨g1, g2⟩, g3⟩, g4⟩, g5⟩, g6⟩ := h5
  simp [Cond.before, Cond.holds, Cond.value, h1, h2, h3, h4, g1, g2, g3, g4, g5, g6]
def isCode : Jvm.Cond → Bool
  | .code _ _ _ _ => true
  | _ => false
theorem all_split {L : List Jvm.Cond} {P : Jvm.Cond → Bool} (h1 : L.all (fun c => isCode c || P c) = true) (h2 : ∀ c ∈ L.filter isCode, P c = true) : L.all P = true := by
  refine List.all_eq_true.mpr fun c hc => ?_
  have h := List.all_eq_true.mp h1 c hc
  rcases Bool.eq_false_or_eq_true (isCode c) with hi | hi
  · exact h2 c (List.mem_filter.mpr ⟨hc, hi⟩)
  · simpa [hi] using h
set_option maxRecDepth 65536 in
theorem w_c0 : (Jvm.Cond.code x code maxLocals ret).before args0 about1 = true := code_word (m := ⟨1, 1⟩) (meth := k1m1) (c := k1c1) (by decide +kernel) rfl rfl rfl (by decide +kernel)
set_option maxRecDepth 65536 in
theorem w_c1 : (Jvm.Cond.code ({ cls := "org/hiddenfield/math/BitVectors", name := "read", desc := "([BII[JI)V" } : Jvm.MethodName) prog_30_method_5_code (10 : Nat) (Option.none : Option Jvm.ClassFile.FieldType)).before args0 about1 = true := code_word (m := ⟨2, 1⟩) (meth := k2m1) (c := k2c1) (by decide +kernel) rfl rfl rfl (by decide +kernel)
def codes1 : List Jvm.Cond := [Jvm.Cond.code x code maxLocals ret, Jvm.Cond.code ({ cls := "org/hiddenfield/math/BitVectors", name := "read", desc := "([BII[JI)V" } : Jvm.MethodName) prog_30_method_5_code (10 : Nat) (Option.none : Option Jvm.ClassFile.FieldType)]
set_option maxRecDepth 65536 in
theorem codes_eq : words1.filter isCode = codes1 := rfl
theorem w_codes : ∀ c ∈ words1.filter isCode, c.before args0 about1 = true := by
  rw [codes_eq]
  intro c hc
  simp only [codes1, List.mem_cons, List.not_mem_nil, or_false] at hc
  rcases hc with rfl | rfl
  · exact w_c0
  · exact w_c1
set_option maxRecDepth 65536 in
theorem w_t1 : words1.all (fun c => isCode c || c.before args0 about1) = true := by decide +kernel
theorem w_tables : (allAtoms (Jvm.Cond.code x code maxLocals ret :: tables_1)).before args0 about1 = true := by
  rw [allAtoms_all]
  show words1.all (fun c => c.before args0 about1) = true
  refine all_split ?_ w_codes
  rw [w_t1]
set_option maxRecDepth 65536 in
theorem w_case : (Jvm.Cond.and given_1 narrow_1).before args0 about1 = true := by decide +kernel
theorem w_applies : (headSpec (Jvm.Cond.code x code maxLocals ret :: tables_1) room_1).applies x e0.platform about1 = true :=
  (Spec.applies_iff w_frames).mpr ⟨w_running, w_runnable, w_alone, w_named, w_hears, w_ripe, w_room, w_tables⟩
theorem atStart : AtStart classFile x code maxLocals ret World_1 tables_1 room_1 Calls_1 rest_1 Pre_1 launch0 p0 e0 about1 theMethod args0 below0 :=
  ⟨lists_1, trivial, launch0.admits_env _ _ _, launch0.least_env, fairChoices_fair.cas, fairChoices_fair.clock, w_frames, w_args, w_heap, w_applies, trivial, trivial, w_case⟩
end start1
theorem witness_1 : WitnessClaimed_1 := ⟨start1.p0, start1.e0, start1.about1, start1.theMethod, start1.args0, start1.below0, start1.atStart⟩
end Jvm.Pilot.@@N@@
