import JvmDerived
import JvmDerived.Pilot.@@N@@Statement
import JvmDerived.Pilot.@@N@@Code
set_option linter.unusedVariables false
set_option linter.unusedSimpArgs false
namespace Jvm.Pilot.@@N@@
open Jvm Jvm.ClassFile Sem Op Lib Jvm.Free Jvm.Stand Jvm.LawKit Jvm.RoadKit Bundle Jvm.Pilot.@@N@@.Jvm.D
theorem d1_0 : decode prog_52_method_2_code 0 = .ok (.ldc2_w 27, 3) := by decide +kernel
theorem d1_3 : decode prog_52_method_2_code 3 = .ok (.ldc2_w 29, 3) := by decide +kernel
theorem d1_6 : decode prog_52_method_2_code 6 = .ok (.iload_n 0, 1) := by decide +kernel
theorem d1_7 : decode prog_52_method_2_code 7 = .ok (.i2l, 1) := by decide +kernel
theorem d1_8 : decode prog_52_method_2_code 8 = .ok (.lmul, 1) := by decide +kernel
theorem d1_9 : decode prog_52_method_2_code 9 = .ok (.ladd, 1) := by decide +kernel
theorem d1_10 : decode prog_52_method_2_code 10 = .ok (.ldc2_w 31, 3) := by decide +kernel
theorem d1_13 : decode prog_52_method_2_code 13 = .ok (.iload_n 1, 1) := by decide +kernel
theorem d1_14 : decode prog_52_method_2_code 14 = .ok (.i2l, 1) := by decide +kernel
theorem d1_15 : decode prog_52_method_2_code 15 = .ok (.lmul, 1) := by decide +kernel
theorem d1_16 : decode prog_52_method_2_code 16 = .ok (.ladd, 1) := by decide +kernel
theorem d1_17 : decode prog_52_method_2_code 17 = .ok (.lreturn, 1) := by decide +kernel
theorem pn_1 : plainName "com/example/brisk_ledger/briskledger/store/IndexFile" = true := by first | (simp [plainName, overriddenIn]; done) | decide +kernel
theorem ef_1 (m : MethodId) (p0 : Int32) (p1 : Int32) : entryFrame m #[(.int p0), (.int p1)] 2 = mkF m 0 #[.val (.int p0), .val (.int p1)] [] := by first | (simp [entryFrame, mkF, argsToLocals, Value.category]; done) | rfl
def b1_0 (p0 : Int32) (p1 : Int32) : Int64 := (((40 : Int64) + ((4 : Int64) * (p0.toInt64))) + ((20 : Int64) * (p1.toInt64)))
set_option maxRecDepth 65536 in
set_option maxHeartbeats 40000000 in
theorem bl1_0 {p : Program} {l : Launch} {e : Env} {R : Room} {s : State} {m : MethodId} {args : Array Value} {below : List Frame} {meth : Method} {c : Code} {T : State} {locs : List Loc} {cells slots : Nat} {Z : State} {a0 : Array Value} (p0 : Int32) (p1 : Int32) (X0 : Stand p l e R s m args below meth c T locs cells slots) (hx : p.tables.exec = Jvm.exec) (hZ : Z.Warmed39 s.vm) (hw : ∀ d ∈ tables_1, d.before a0 Z = true) (hby : c.code = prog_52_method_2_code) (hown : s.vm.findClass "com/example/brisk_ledger/briskledger/store/IndexFile" = some m.cls) (hrt : meth.sig.returnType = some .long) {fs : List Frame} (hr : ∀ (f : JFrame) (acts : List Action), f.method = m → f.locked = none → f.entered = [] → (doReturn e (T.setTop f) acts (some (.long (b1_0 p0 p1)))).1 = T.setFrames fs) :
    Steps p.tables e below (T.setTop (mkF m 0 #[.val (.int p0), .val (.int p1)] [])) (T.setFrames fs) := by
  rw [show b1_0 p0 p1 = (((40 : Int64) + ((4 : Int64) * (p0.toInt64))) + ((20 : Int64) * (p1.toInt64))) from by rw [b1_0]] at hr
  refine X0.ldc2Long hx hown (mvT hZ (hw _ (List.mem_of_getElem? (i := 4) rfl))) (g := (mkF m 0 #[.val (.int p0), .val (.int p1)] [])) rfl (hb hby d1_0) _ ?_
  show Steps p.tables e below (T.setTop (mkF m 3 #[.val (.int p0), .val (.int p1)] [(.long (40 : Int64))])) _
  refine X0.ldc2Long hx hown (mvT hZ (hw _ (List.mem_of_getElem? (i := 5) rfl))) (g := (mkF m 3 #[.val (.int p0), .val (.int p1)] [(.long (40 : Int64))])) rfl (hb hby d1_3) _ ?_
  show Steps p.tables e below (T.setTop (mkF m 6 #[.val (.int p0), .val (.int p1)] [(.long (4 : Int64)), (.long (40 : Int64))])) _
  refine XS.iloadN X0.here hx rfl (hb hby d1_6) rfl ?_
  show Steps p.tables e below (T.setTop (mkF m 7 #[.val (.int p0), .val (.int p1)] [(.int p0), (.long (4 : Int64)), (.long (40 : Int64))])) _
  refine XS.i2l X0.here hx rfl (hb hby d1_7) rfl ?_
  show Steps p.tables e below (T.setTop (mkF m 8 #[.val (.int p0), .val (.int p1)] [(.long (p0.toInt64)), (.long (4 : Int64)), (.long (40 : Int64))])) _
  refine XS.lmul X0.here hx rfl (hb hby d1_8) rfl ?_
  show Steps p.tables e below (T.setTop (mkF m 9 #[.val (.int p0), .val (.int p1)] [(.long ((4 : Int64) * (p0.toInt64))), (.long (40 : Int64))])) _
  refine XS.ladd X0.here hx rfl (hb hby d1_9) rfl ?_
  show Steps p.tables e below (T.setTop (mkF m 10 #[.val (.int p0), .val (.int p1)] [(.long ((40 : Int64) + ((4 : Int64) * (p0.toInt64))))])) _
  refine X0.ldc2Long hx hown (mvT hZ (hw _ (List.mem_of_getElem? (i := 6) rfl))) (g := (mkF m 10 #[.val (.int p0), .val (.int p1)] [(.long ((40 : Int64) + ((4 : Int64) * (p0.toInt64))))])) rfl (hb hby d1_10) _ ?_
  show Steps p.tables e below (T.setTop (mkF m 13 #[.val (.int p0), .val (.int p1)] [(.long (20 : Int64)), (.long ((40 : Int64) + ((4 : Int64) * (p0.toInt64))))])) _
  refine XS.iloadN X0.here hx rfl (hb hby d1_13) rfl ?_
  show Steps p.tables e below (T.setTop (mkF m 14 #[.val (.int p0), .val (.int p1)] [(.int p1), (.long (20 : Int64)), (.long ((40 : Int64) + ((4 : Int64) * (p0.toInt64))))])) _
  refine XS.i2l X0.here hx rfl (hb hby d1_14) rfl ?_
  show Steps p.tables e below (T.setTop (mkF m 15 #[.val (.int p0), .val (.int p1)] [(.long (p1.toInt64)), (.long (20 : Int64)), (.long ((40 : Int64) + ((4 : Int64) * (p0.toInt64))))])) _
  refine XS.lmul X0.here hx rfl (hb hby d1_15) rfl ?_
  show Steps p.tables e below (T.setTop (mkF m 16 #[.val (.int p0), .val (.int p1)] [(.long ((20 : Int64) * (p1.toInt64))), (.long ((40 : Int64) + ((4 : Int64) * (p0.toInt64))))])) _
  refine XS.ladd X0.here hx rfl (hb hby d1_16) rfl ?_
  show Steps p.tables e below (T.setTop (mkF m 17 #[.val (.int p0), .val (.int p1)] [(.long (((40 : Int64) + ((4 : Int64) * (p0.toInt64))) + ((20 : Int64) * (p1.toInt64))))])) _
  exact retOut X0 hx hrt rfl (Or.inr (Or.inl ⟨rfl, rfl, _, rfl⟩)) (hb hby d1_17) hr
def Q1 (Z : State) (p0 : Int32) (p1 : Int32) (h0 : Heap) (n0 : Nat) (v : Option Value) (h : Heap) (L : List Loc) : Prop := v = some (.long (b1_0 p0 p1)) ∧ Fr n0 L ∧ h = h0
set_option maxRecDepth 65536 in
set_option maxHeartbeats 40000000 in
theorem rm1 (l : Launch) (Z : State) (a0 : Array Value) (hw : ∀ d ∈ tables_1, d.before a0 Z = true) (ws : List Jvm.Cond) (p0 : Int32) (p1 : Int32) (h0 : Heap) (n0 : Nat) (Z0 : n0 ≤ h0.size) :
    MetFree l (⟨"com/example/brisk_ledger/briskledger/store/IndexFile", "size", "(II)J"⟩ : MethodName) (head1 (Jvm.Cond.code (⟨"com/example/brisk_ledger/briskledger/store/IndexFile", "size", "(II)J"⟩ : MethodName) prog_52_method_2_code 2 (some .long) :: ws) ({ frames := 0, cells := 0, slots := 0, locals := 0 } : Room)) (fun a U => a = #[(.int p0), (.int p1)] ∧ Z.Warmed39 U.vm ∧ U.heap = h0) (fun _ _ _ _ _ => True) (fun _ U o U' => ∃ v L, o = .returned v ∧ Q1 Z p0 p1 h0 n0 v U'.heap L ∧ FrameEnd U o U' L ({ frames := 0, cells := 0, slots := 0, locals := 0 } : Room).cells ({ frames := 0, cells := 0, slots := 0, locals := 0 } : Room).slots) := by
  refine MetFree.of_bodySF (plainFor_of_name pn_1) hisR ?_
  intro p e s m args below meth c s₁ Bd hml0 hP hK
  obtain ⟨rfl, hZ, hh⟩ := hP
  have hx := Bd.exec
  have hby := Bd.bytes
  have hml : c.maxLocals = 2 := hml0
  have hown : s.vm.findClass "com/example/brisk_ledger/briskledger/store/IndexFile" = some m.cls := findClass_of_methodNamed Bd.named
  have hnm := (name_of_methodNamed Bd.named Bd.method).1
  have X0 : Stand p l e ({ frames := 0, cells := 0, slots := 0, locals := 0 } : Room) s m #[(.int p0), (.int p1)] below meth c s₁ [] 0 0 := Stand.of_body Bd
  have e0 : s₁.heap = h0 := by rw [← hh, Bd.state]; rfl
  have N0 := Fr.nil n0
  have pre0 : ∀ t, Steps p.tables e below (s₁.setTop (mkF m 0 #[.val (.int p0), .val (.int p1)] [])) t → Steps p.tables e below (s₁.setTop (entryFrame m #[(.int p0), (.int p1)] 2)) t := fun t k => castTop (ef_1 m p0 p1) k
  obtain ⟨fs, hr, hrun, hended, hW, hsame⟩ := X0.leave (v := some (.long (b1_0 p0 p1))) (fun h => by rw [Bd.returns] at h; cases h)
  refine ⟨_, _, pre0 _ ?_, hrun, hended, _, _, rfl, ?_, ⟨_, rfl⟩, hW, hsame.mono (by decide) (by decide)⟩
  · exact bl1_0 p0 p1 X0 hx hZ hw hby hown Bd.returns hr
  · show Q1 Z p0 p1 h0 n0 _ s₁.heap _
    rw [e0]
    exact ⟨rfl, N0, rfl⟩
theorem own_z : (0 : Int32).toInt64 = 0 := by decide
theorem own_1 : b1_0 (0 : Int32) (0 : Int32) = (40 : Int64) := by decide +kernel
theorem own_2 (s t : Int32) : b1_0 s t = b1_0 s (0 : Int32) + b1_0 (0 : Int32) t - b1_0 (0 : Int32) (0 : Int32) := by
  rw [own_1]
  simp only [b1_0, own_z, Int64.mul_zero, Int64.add_zero]
  generalize (4 : Int64) * s.toInt64 = x
  generalize (20 : Int64) * t.toInt64 = y
  rw [show (40 : Int64) + x + (40 + y) = (40 + x + y) + 40 by ac_rfl, Int64.add_sub_cancel]
theorem own_up (s : Int32) (h : ¬ s = (2147483647 : Int32)) : (s + (1 : Int32)).toInt64 = s.toInt64 + 1 := by
  have r := rng32 s
  have q : s.toInt ≠ 2147483647 := fun e => h (Int32.toInt_inj.mp (by rw [e]; decide))
  have a := c_iadd s 1
  have b := c_ladd s.toInt64 1
  have e1 : (1 : Int32).toInt = 1 := by decide
  have e2 : (1 : Int64).toInt = 1 := by decide
  have r2 := rng32 (s + 1)
  have r3 := rng64 (s.toInt64 + 1)
  apply Int64.toInt_inj.mp
  rw [c_i2l] at *
  omega
theorem own_3 (s t : Int32) (h : ¬ s = (2147483647 : Int32)) : b1_0 (s + (1 : Int32)) t - b1_0 s t = (4 : Int64) := by
  simp only [b1_0, own_up s h, Int64.mul_add, Int64.mul_one]
  generalize (4 : Int64) * s.toInt64 = x
  generalize (20 : Int64) * t.toInt64 = y
  rw [show (40 : Int64) + (x + 4) + y = 4 + (40 + x + y) by ac_rfl, Int64.add_sub_cancel]
theorem own_4 (s t : Int32) (h : ¬ t = (2147483647 : Int32)) : b1_0 s (t + (1 : Int32)) - b1_0 s t = (20 : Int64) := by
  simp only [b1_0, own_up t h, Int64.mul_add, Int64.mul_one]
  generalize (4 : Int64) * s.toInt64 = x
  generalize (20 : Int64) * t.toInt64 = y
  rw [show (40 : Int64) + x + (y + 20) = 20 + (40 + x + y) by ac_rfl, Int64.add_sub_cancel]
theorem own_m {s z : Int32} (h : z = (if s = (2147483647 : Int32) then (s - (1 : Int32)) else s)) : ¬ z = (2147483647 : Int32) := by
  by_cases q : s = (2147483647 : Int32)
  · rw [h, if_pos q, q]; decide
  · rw [h, if_neg q]; exact q
theorem own_5 : b1_0 (7 : Int32) (5 : Int32) = b1_0 (2 : Int32) (6 : Int32) := by decide +kernel
theorem pn_0 : plainName "com/example/brisk_ledger/briskledger/store/IndexFileSizePinLaw" = true := by first | (simp [plainName, overriddenIn]; done) | decide +kernel
theorem ef_0 (m : MethodId) (p0 : Int32) (p1 : Int32) : entryFrame m #[(.int p0), (.int p1)] maxLocals = mkF m 0 #[.val (.int p0), .val (.int p1), .unset, .unset, .unset, .unset, .unset, .unset, .unset, .unset, .unset, .unset, .unset] [] := by first | (simp [entryFrame, mkF, argsToLocals, Value.category, maxLocals]; done) | rfl
theorem pd_0 : parseMethodDescriptor "(II)J" = some ⟨[.int, .int], some .long⟩ := by decide +kernel
def Q0 (Z : State) (p0 : Int32) (p1 : Int32) (h0 : Heap) (n0 : Nat) (v : Option Value) (h : Heap) (L : List Loc) : Prop := v = some (.int 1) ∧ Fr n0 L
set_option maxRecDepth 65536 in
set_option maxHeartbeats 40000000 in
theorem rm0 (l : Launch) (Z : State) (a0 : Array Value) (hw : ∀ d ∈ tables_1, d.before a0 Z = true) (ws : List Jvm.Cond) (p0 : Int32) (p1 : Int32) (h0 : Heap) (n0 : Nat) (Z0 : n0 ≤ h0.size)  :
    MetFree l x (head1 (Jvm.Cond.code x code maxLocals ret :: ws) room_1) (fun a U => a = #[(.int p0), (.int p1)] ∧ Z.Warmed39 U.vm ∧ U.heap = h0) (fun _ _ _ _ _ => True) (fun _ U o U' => ∃ v L, o = .returned v ∧ Q0 Z p0 p1 h0 n0 v U'.heap L ∧ FrameEnd U o U' L room_1.cells room_1.slots) := by
  refine MetFree.of_bodySF (plainFor_of_name pn_0) hisR ?_
  intro p e s m args below meth c s₁ Bd hml0 hP hK
  obtain ⟨rfl, hZ, hh⟩ := hP
  have hx := Bd.exec
  have hby := Bd.bytes
  have hml : c.maxLocals = 13 := hml0
  have hown : s.vm.findClass "com/example/brisk_ledger/briskledger/store/IndexFileSizePinLaw" = some m.cls := findClass_of_methodNamed Bd.named
  have hnm := (name_of_methodNamed Bd.named Bd.method).1
  have X0 : Stand p l e room_1 s m #[(.int p0), (.int p1)] below meth c s₁ [] 0 0 := Stand.of_body Bd
  have e0 : s₁.heap = h0 := by rw [← hh, Bd.state]; rfl
  have N0 := Fr.nil n0
  have pre0 : ∀ t, Steps p.tables e below (s₁.setTop (mkF m 0 #[.val (.int p0), .val (.int p1), .unset, .unset, .unset, .unset, .unset, .unset, .unset, .unset, .unset, .unset, .unset] [])) t → Steps p.tables e below (s₁.setTop (entryFrame m #[(.int p0), (.int p1)] maxLocals)) t := fun t k => castTop (ef_0 m p0 p1) k
  obtain ⟨_, _, ⟨T11, L11, k11, n11⟩, -, X11, ⟨Lc11, hQ11, l11, y11, z11⟩, st11⟩ := Jvm.LawKit.callS X0 hx (y := (⟨"com/example/brisk_ledger/briskledger/store/IndexFile", "size", "(II)J"⟩ : MethodName)) hown (mvT hZ (hw _ (List.mem_of_getElem? (i := 0) rfl))) (mvT hZ (hw _ (List.mem_of_getElem? (i := 1) rfl))) (mvT hZ (hw _ (List.mem_of_getElem? (i := 2) rfl))) (mvT hZ (hw _ (List.mem_of_getElem? (i := 3) rfl))) (by decide) (backOf (W := 0) (rm1 l Z a0 hw [] p0 p1 h0 n0 Z0) hZ (hw _ (List.mem_of_getElem? (i := 3) rfl)) (hw _ (List.mem_of_getElem? (i := 2) rfl)) (by decide) (by decide)) (g := (mkF m 2 #[.val (.int p0), .val (.int p1), .unset, .unset, .unset, .unset, .unset, .unset, .unset, .unset, .unset, .unset, .unset] [(.int p1), (.int p0)])) rfl (by rw [hml]; rfl) (argsL := [(.int p0), (.int p1)]) (rest := []) (lenOf pd_0 rfl) rfl (by show 2 * 0 + _ ≤ _; exact Nat.le_of_eq rfl) (hb hby at_2) (fun _ _ => ⟨rfl, e0, (by decide : 0 + 0 ≤ _), (by decide : 0 + 0 ≤ _)⟩)
  dsimp only [Pt.U, Pt.locs, Pt.cells, Pt.slots] at X11 l11 y11 z11 st11 hQ11
  subst l11 y11 z11
  obtain ⟨rfl, Nq11, eh11⟩ := hQ11
  have N11 := Fr.app N0 Nq11
  obtain ⟨_, _, ⟨T12, L12, k12, n12⟩, -, X12, ⟨Lc12, hQ12, l12, y12, z12⟩, st12⟩ := Jvm.LawKit.callS X11 hx (y := (⟨"com/example/brisk_ledger/briskledger/store/IndexFile", "size", "(II)J"⟩ : MethodName)) hown (mvT hZ (hw _ (List.mem_of_getElem? (i := 0) rfl))) (mvT hZ (hw _ (List.mem_of_getElem? (i := 1) rfl))) (mvT hZ (hw _ (List.mem_of_getElem? (i := 2) rfl))) (mvT hZ (hw _ (List.mem_of_getElem? (i := 3) rfl))) (by decide) (backOf (W := 0) (rm1 l Z a0 hw [] (0 : Int32) (0 : Int32) h0 n0 Z0) hZ (hw _ (List.mem_of_getElem? (i := 3) rfl)) (hw _ (List.mem_of_getElem? (i := 2) rfl)) (by decide) (by decide)) (g := (mkF m 8 #[.val (.int p0), .val (.int p1), .val (.long (b1_0 p0 p1)), .second, .unset, .unset, .unset, .unset, .unset, .unset, .unset, .unset, .unset] [(.int (0 : Int32)), (.int (0 : Int32))])) rfl (by rw [hml]; rfl) (argsL := [(.int (0 : Int32)), (.int (0 : Int32))]) (rest := []) (lenOf pd_0 rfl) rfl (by show 2 * 0 + _ ≤ _; exact Nat.le_of_eq rfl) (hb hby at_8) (fun _ _ => ⟨rfl, eh11, (by decide : 0 + 0 ≤ _), (by decide : 0 + 0 ≤ _)⟩)
  dsimp only [Pt.U, Pt.locs, Pt.cells, Pt.slots] at X12 l12 y12 z12 st12 hQ12
  subst l12 y12 z12
  obtain ⟨rfl, Nq12, eh12⟩ := hQ12
  have N12 := Fr.app N11 Nq12
  obtain ⟨_, _, ⟨T13, L13, k13, n13⟩, -, X13, ⟨Lc13, hQ13, l13, y13, z13⟩, st13⟩ := Jvm.LawKit.callS X12 hx (y := (⟨"com/example/brisk_ledger/briskledger/store/IndexFile", "size", "(II)J"⟩ : MethodName)) hown (mvT hZ (hw _ (List.mem_of_getElem? (i := 0) rfl))) (mvT hZ (hw _ (List.mem_of_getElem? (i := 1) rfl))) (mvT hZ (hw _ (List.mem_of_getElem? (i := 2) rfl))) (mvT hZ (hw _ (List.mem_of_getElem? (i := 3) rfl))) (by decide) (backOf (W := 2) (rm1 l Z a0 hw [] p0 (0 : Int32) h0 n0 Z0) hZ (hw _ (List.mem_of_getElem? (i := 3) rfl)) (hw _ (List.mem_of_getElem? (i := 2) rfl)) (by decide) (by decide)) (g := (mkF m 32 #[.val (.int p0), .val (.int p1), .val (.long (b1_0 p0 p1)), .second, .val (.long (b1_0 (0 : Int32) (0 : Int32))), .second, .val (.int (1 : Int32)), .unset, .unset, .unset, .unset, .unset, .unset] [(.int (0 : Int32)), (.int p0), (.long (b1_0 p0 p1))])) rfl (by rw [hml]; rfl) (argsL := [(.int p0), (.int (0 : Int32))]) (rest := [(.long (b1_0 p0 p1))]) (lenOf pd_0 rfl) rfl (by show 2 * 0 + _ ≤ _; exact Nat.le_of_eq rfl) (hb hby at_32) (fun _ _ => ⟨rfl, eh12, (by decide : 0 + 0 ≤ _), (by decide : 0 + 0 ≤ _)⟩)
  dsimp only [Pt.U, Pt.locs, Pt.cells, Pt.slots] at X13 l13 y13 z13 st13 hQ13
  subst l13 y13 z13
  obtain ⟨rfl, Nq13, eh13⟩ := hQ13
  have N13 := Fr.app N12 Nq13
  obtain ⟨_, _, ⟨T14, L14, k14, n14⟩, -, X14, ⟨Lc14, hQ14, l14, y14, z14⟩, st14⟩ := Jvm.LawKit.callS X13 hx (y := (⟨"com/example/brisk_ledger/briskledger/store/IndexFile", "size", "(II)J"⟩ : MethodName)) hown (mvT hZ (hw _ (List.mem_of_getElem? (i := 0) rfl))) (mvT hZ (hw _ (List.mem_of_getElem? (i := 1) rfl))) (mvT hZ (hw _ (List.mem_of_getElem? (i := 2) rfl))) (mvT hZ (hw _ (List.mem_of_getElem? (i := 3) rfl))) (by decide) (backOf (W := 4) (rm1 l Z a0 hw [] (0 : Int32) p1 h0 n0 Z0) hZ (hw _ (List.mem_of_getElem? (i := 3) rfl)) (hw _ (List.mem_of_getElem? (i := 2) rfl)) (by decide) (by decide)) (g := (mkF m 37 #[.val (.int p0), .val (.int p1), .val (.long (b1_0 p0 p1)), .second, .val (.long (b1_0 (0 : Int32) (0 : Int32))), .second, .val (.int (1 : Int32)), .unset, .unset, .unset, .unset, .unset, .unset] [(.int p1), (.int (0 : Int32)), (.long (b1_0 p0 (0 : Int32))), (.long (b1_0 p0 p1))])) rfl (by rw [hml]; rfl) (argsL := [(.int (0 : Int32)), (.int p1)]) (rest := [(.long (b1_0 p0 (0 : Int32))), (.long (b1_0 p0 p1))]) (lenOf pd_0 rfl) rfl (by show 2 * 0 + _ ≤ _; exact Nat.le_of_eq rfl) (hb hby at_37) (fun _ _ => ⟨rfl, eh13, (by decide : 0 + 0 ≤ _), (by decide : 0 + 0 ≤ _)⟩)
  dsimp only [Pt.U, Pt.locs, Pt.cells, Pt.slots] at X14 l14 y14 z14 st14 hQ14
  subst l14 y14 z14
  obtain ⟨rfl, Nq14, eh14⟩ := hQ14
  have N14 := Fr.app N13 Nq14
  have pre15 : ∀ t, Steps p.tables e below (T14.setTop (mkF m 58 #[.val (.int p0), .val (.int p1), .val (.long (b1_0 p0 p1)), .second, .val (.long (b1_0 (0 : Int32) (0 : Int32))), .second, .val (.int (1 : Int32)), .val (.int (1 : Int32)), .unset, .unset, .unset, .unset, .unset] [(.int (2147483647 : Int32)), (.int p0)])) t → Steps p.tables e below (s₁.setTop (entryFrame m #[(.int p0), (.int p1)] maxLocals)) t := fun t k => pre0 t (by
    refine XS.iloadN X0.here hx rfl (hb hby at_0) rfl ?_
    show Steps p.tables e below (s₁.setTop (mkF m 1 #[.val (.int p0), .val (.int p1), .unset, .unset, .unset, .unset, .unset, .unset, .unset, .unset, .unset, .unset, .unset] [(.int p0)])) _
    refine XS.iloadN X0.here hx rfl (hb hby at_1) rfl ?_
    show Steps p.tables e below (s₁.setTop (mkF m 2 #[.val (.int p0), .val (.int p1), .unset, .unset, .unset, .unset, .unset, .unset, .unset, .unset, .unset, .unset, .unset] [(.int p1), (.int p0)])) _
    refine st11 _ ?_
    show Steps p.tables e below (T11.setTop (mkF m 5 #[.val (.int p0), .val (.int p1), .unset, .unset, .unset, .unset, .unset, .unset, .unset, .unset, .unset, .unset, .unset] [(.long (b1_0 p0 p1))])) _
    refine XS.lstoreN X11.here hx rfl (hb hby at_5) rfl (l' := #[.val (.int p0), .val (.int p1), .val (.long (b1_0 p0 p1)), .second, .unset, .unset, .unset, .unset, .unset, .unset, .unset, .unset, .unset]) rfl ?_
    show Steps p.tables e below (T11.setTop (mkF m 6 #[.val (.int p0), .val (.int p1), .val (.long (b1_0 p0 p1)), .second, .unset, .unset, .unset, .unset, .unset, .unset, .unset, .unset, .unset] [])) _
    refine XS.iconst X11.here hx rfl (hb hby at_6) ?_
    show Steps p.tables e below (T11.setTop (mkF m 7 #[.val (.int p0), .val (.int p1), .val (.long (b1_0 p0 p1)), .second, .unset, .unset, .unset, .unset, .unset, .unset, .unset, .unset, .unset] [(.int (0 : Int32))])) _
    refine XS.iconst X11.here hx rfl (hb hby at_7) ?_
    show Steps p.tables e below (T11.setTop (mkF m 8 #[.val (.int p0), .val (.int p1), .val (.long (b1_0 p0 p1)), .second, .unset, .unset, .unset, .unset, .unset, .unset, .unset, .unset, .unset] [(.int (0 : Int32)), (.int (0 : Int32))])) _
    refine st12 _ ?_
    show Steps p.tables e below (T12.setTop (mkF m 11 #[.val (.int p0), .val (.int p1), .val (.long (b1_0 p0 p1)), .second, .unset, .unset, .unset, .unset, .unset, .unset, .unset, .unset, .unset] [(.long (b1_0 (0 : Int32) (0 : Int32)))])) _
    refine XS.lstore X12.here hx rfl (hb hby at_11) rfl (l' := #[.val (.int p0), .val (.int p1), .val (.long (b1_0 p0 p1)), .second, .val (.long (b1_0 (0 : Int32) (0 : Int32))), .second, .unset, .unset, .unset, .unset, .unset, .unset, .unset]) rfl ?_
    show Steps p.tables e below (T12.setTop (mkF m 13 #[.val (.int p0), .val (.int p1), .val (.long (b1_0 p0 p1)), .second, .val (.long (b1_0 (0 : Int32) (0 : Int32))), .second, .unset, .unset, .unset, .unset, .unset, .unset, .unset] [])) _
    refine XS.lload X12.here hx rfl (hb hby at_13) rfl ?_
    show Steps p.tables e below (T12.setTop (mkF m 15 #[.val (.int p0), .val (.int p1), .val (.long (b1_0 p0 p1)), .second, .val (.long (b1_0 (0 : Int32) (0 : Int32))), .second, .unset, .unset, .unset, .unset, .unset, .unset, .unset] [(.long (b1_0 (0 : Int32) (0 : Int32)))])) _
    refine X12.ldc2Long hx hown (mvT hZ (hw _ (List.mem_of_getElem? (i := 7) rfl))) (g := (mkF m 15 #[.val (.int p0), .val (.int p1), .val (.long (b1_0 p0 p1)), .second, .val (.long (b1_0 (0 : Int32) (0 : Int32))), .second, .unset, .unset, .unset, .unset, .unset, .unset, .unset] [(.long (b1_0 (0 : Int32) (0 : Int32)))])) rfl (hb hby at_15) _ ?_
    show Steps p.tables e below (T12.setTop (mkF m 18 #[.val (.int p0), .val (.int p1), .val (.long (b1_0 p0 p1)), .second, .val (.long (b1_0 (0 : Int32) (0 : Int32))), .second, .unset, .unset, .unset, .unset, .unset, .unset, .unset] [(.long (40 : Int64)), (.long (b1_0 (0 : Int32) (0 : Int32)))])) _
    refine XS.lcmp X12.here hx rfl (hb hby at_18) rfl ?_
    show Steps p.tables e below (T12.setTop (mkF m 19 #[.val (.int p0), .val (.int p1), .val (.long (b1_0 p0 p1)), .second, .val (.long (b1_0 (0 : Int32) (0 : Int32))), .second, .unset, .unset, .unset, .unset, .unset, .unset, .unset] [(.int (lcmpW (b1_0 (0 : Int32) (0 : Int32)) (40 : Int64)))])) _
    refine XS.ifNo X12.here hx rfl (hb hby at_19) rfl ((if0 _ _).trans (teq ((lw_eq (b1_0 (0 : Int32) (0 : Int32)) (40 : Int64)).mpr own_1)).2) ?_
    show Steps p.tables e below (T12.setTop (mkF m 22 #[.val (.int p0), .val (.int p1), .val (.long (b1_0 p0 p1)), .second, .val (.long (b1_0 (0 : Int32) (0 : Int32))), .second, .unset, .unset, .unset, .unset, .unset, .unset, .unset] [])) _
    refine XS.iconst X12.here hx rfl (hb hby at_22) ?_
    show Steps p.tables e below (T12.setTop (mkF m 23 #[.val (.int p0), .val (.int p1), .val (.long (b1_0 p0 p1)), .second, .val (.long (b1_0 (0 : Int32) (0 : Int32))), .second, .unset, .unset, .unset, .unset, .unset, .unset, .unset] [(.int (1 : Int32))])) _
    refine XS.goto X12.here hx rfl (pc0 := 23) (pc' := 27) rfl (hb hby at_23) (by decide) (by decide) ?_
    show Steps p.tables e below (T12.setTop (mkF m 27 #[.val (.int p0), .val (.int p1), .val (.long (b1_0 p0 p1)), .second, .val (.long (b1_0 (0 : Int32) (0 : Int32))), .second, .unset, .unset, .unset, .unset, .unset, .unset, .unset] [(.int (1 : Int32))])) _
    refine XS.istore X12.here hx rfl (hb hby at_27) rfl (l' := #[.val (.int p0), .val (.int p1), .val (.long (b1_0 p0 p1)), .second, .val (.long (b1_0 (0 : Int32) (0 : Int32))), .second, .val (.int (1 : Int32)), .unset, .unset, .unset, .unset, .unset, .unset]) rfl ?_
    show Steps p.tables e below (T12.setTop (mkF m 29 #[.val (.int p0), .val (.int p1), .val (.long (b1_0 p0 p1)), .second, .val (.long (b1_0 (0 : Int32) (0 : Int32))), .second, .val (.int (1 : Int32)), .unset, .unset, .unset, .unset, .unset, .unset] [])) _
    refine XS.lloadN X12.here hx rfl (hb hby at_29) rfl ?_
    show Steps p.tables e below (T12.setTop (mkF m 30 #[.val (.int p0), .val (.int p1), .val (.long (b1_0 p0 p1)), .second, .val (.long (b1_0 (0 : Int32) (0 : Int32))), .second, .val (.int (1 : Int32)), .unset, .unset, .unset, .unset, .unset, .unset] [(.long (b1_0 p0 p1))])) _
    refine XS.iloadN X12.here hx rfl (hb hby at_30) rfl ?_
    show Steps p.tables e below (T12.setTop (mkF m 31 #[.val (.int p0), .val (.int p1), .val (.long (b1_0 p0 p1)), .second, .val (.long (b1_0 (0 : Int32) (0 : Int32))), .second, .val (.int (1 : Int32)), .unset, .unset, .unset, .unset, .unset, .unset] [(.int p0), (.long (b1_0 p0 p1))])) _
    refine XS.iconst X12.here hx rfl (hb hby at_31) ?_
    show Steps p.tables e below (T12.setTop (mkF m 32 #[.val (.int p0), .val (.int p1), .val (.long (b1_0 p0 p1)), .second, .val (.long (b1_0 (0 : Int32) (0 : Int32))), .second, .val (.int (1 : Int32)), .unset, .unset, .unset, .unset, .unset, .unset] [(.int (0 : Int32)), (.int p0), (.long (b1_0 p0 p1))])) _
    refine st13 _ ?_
    show Steps p.tables e below (T13.setTop (mkF m 35 #[.val (.int p0), .val (.int p1), .val (.long (b1_0 p0 p1)), .second, .val (.long (b1_0 (0 : Int32) (0 : Int32))), .second, .val (.int (1 : Int32)), .unset, .unset, .unset, .unset, .unset, .unset] [(.long (b1_0 p0 (0 : Int32))), (.long (b1_0 p0 p1))])) _
    refine XS.iconst X13.here hx rfl (hb hby at_35) ?_
    show Steps p.tables e below (T13.setTop (mkF m 36 #[.val (.int p0), .val (.int p1), .val (.long (b1_0 p0 p1)), .second, .val (.long (b1_0 (0 : Int32) (0 : Int32))), .second, .val (.int (1 : Int32)), .unset, .unset, .unset, .unset, .unset, .unset] [(.int (0 : Int32)), (.long (b1_0 p0 (0 : Int32))), (.long (b1_0 p0 p1))])) _
    refine XS.iloadN X13.here hx rfl (hb hby at_36) rfl ?_
    show Steps p.tables e below (T13.setTop (mkF m 37 #[.val (.int p0), .val (.int p1), .val (.long (b1_0 p0 p1)), .second, .val (.long (b1_0 (0 : Int32) (0 : Int32))), .second, .val (.int (1 : Int32)), .unset, .unset, .unset, .unset, .unset, .unset] [(.int p1), (.int (0 : Int32)), (.long (b1_0 p0 (0 : Int32))), (.long (b1_0 p0 p1))])) _
    refine st14 _ ?_
    show Steps p.tables e below (T14.setTop (mkF m 40 #[.val (.int p0), .val (.int p1), .val (.long (b1_0 p0 p1)), .second, .val (.long (b1_0 (0 : Int32) (0 : Int32))), .second, .val (.int (1 : Int32)), .unset, .unset, .unset, .unset, .unset, .unset] [(.long (b1_0 (0 : Int32) p1)), (.long (b1_0 p0 (0 : Int32))), (.long (b1_0 p0 p1))])) _
    refine XS.ladd X14.here hx rfl (hb hby at_40) rfl ?_
    show Steps p.tables e below (T14.setTop (mkF m 41 #[.val (.int p0), .val (.int p1), .val (.long (b1_0 p0 p1)), .second, .val (.long (b1_0 (0 : Int32) (0 : Int32))), .second, .val (.int (1 : Int32)), .unset, .unset, .unset, .unset, .unset, .unset] [(.long ((b1_0 p0 (0 : Int32)) + (b1_0 (0 : Int32) p1))), (.long (b1_0 p0 p1))])) _
    refine XS.lload X14.here hx rfl (hb hby at_41) rfl ?_
    show Steps p.tables e below (T14.setTop (mkF m 43 #[.val (.int p0), .val (.int p1), .val (.long (b1_0 p0 p1)), .second, .val (.long (b1_0 (0 : Int32) (0 : Int32))), .second, .val (.int (1 : Int32)), .unset, .unset, .unset, .unset, .unset, .unset] [(.long (b1_0 (0 : Int32) (0 : Int32))), (.long ((b1_0 p0 (0 : Int32)) + (b1_0 (0 : Int32) p1))), (.long (b1_0 p0 p1))])) _
    refine XS.lsub X14.here hx rfl (hb hby at_43) rfl ?_
    show Steps p.tables e below (T14.setTop (mkF m 44 #[.val (.int p0), .val (.int p1), .val (.long (b1_0 p0 p1)), .second, .val (.long (b1_0 (0 : Int32) (0 : Int32))), .second, .val (.int (1 : Int32)), .unset, .unset, .unset, .unset, .unset, .unset] [(.long (((b1_0 p0 (0 : Int32)) + (b1_0 (0 : Int32) p1)) - (b1_0 (0 : Int32) (0 : Int32)))), (.long (b1_0 p0 p1))])) _
    refine XS.lcmp X14.here hx rfl (hb hby at_44) rfl ?_
    show Steps p.tables e below (T14.setTop (mkF m 45 #[.val (.int p0), .val (.int p1), .val (.long (b1_0 p0 p1)), .second, .val (.long (b1_0 (0 : Int32) (0 : Int32))), .second, .val (.int (1 : Int32)), .unset, .unset, .unset, .unset, .unset, .unset] [(.int (lcmpW (b1_0 p0 p1) (((b1_0 p0 (0 : Int32)) + (b1_0 (0 : Int32) p1)) - (b1_0 (0 : Int32) (0 : Int32)))))])) _
    refine XS.ifNo X14.here hx rfl (hb hby at_45) rfl ((if0 _ _).trans (teq ((lw_eq (b1_0 p0 p1) (((b1_0 p0 (0 : Int32)) + (b1_0 (0 : Int32) p1)) - (b1_0 (0 : Int32) (0 : Int32)))).mpr (own_2 _ _))).2) ?_
    show Steps p.tables e below (T14.setTop (mkF m 48 #[.val (.int p0), .val (.int p1), .val (.long (b1_0 p0 p1)), .second, .val (.long (b1_0 (0 : Int32) (0 : Int32))), .second, .val (.int (1 : Int32)), .unset, .unset, .unset, .unset, .unset, .unset] [])) _
    refine XS.iconst X14.here hx rfl (hb hby at_48) ?_
    show Steps p.tables e below (T14.setTop (mkF m 49 #[.val (.int p0), .val (.int p1), .val (.long (b1_0 p0 p1)), .second, .val (.long (b1_0 (0 : Int32) (0 : Int32))), .second, .val (.int (1 : Int32)), .unset, .unset, .unset, .unset, .unset, .unset] [(.int (1 : Int32))])) _
    refine XS.goto X14.here hx rfl (pc0 := 49) (pc' := 53) rfl (hb hby at_49) (by decide) (by decide) ?_
    show Steps p.tables e below (T14.setTop (mkF m 53 #[.val (.int p0), .val (.int p1), .val (.long (b1_0 p0 p1)), .second, .val (.long (b1_0 (0 : Int32) (0 : Int32))), .second, .val (.int (1 : Int32)), .unset, .unset, .unset, .unset, .unset, .unset] [(.int (1 : Int32))])) _
    refine XS.istore X14.here hx rfl (hb hby at_53) rfl (l' := #[.val (.int p0), .val (.int p1), .val (.long (b1_0 p0 p1)), .second, .val (.long (b1_0 (0 : Int32) (0 : Int32))), .second, .val (.int (1 : Int32)), .val (.int (1 : Int32)), .unset, .unset, .unset, .unset, .unset]) rfl ?_
    show Steps p.tables e below (T14.setTop (mkF m 55 #[.val (.int p0), .val (.int p1), .val (.long (b1_0 p0 p1)), .second, .val (.long (b1_0 (0 : Int32) (0 : Int32))), .second, .val (.int (1 : Int32)), .val (.int (1 : Int32)), .unset, .unset, .unset, .unset, .unset] [])) _
    refine XS.iloadN X14.here hx rfl (hb hby at_55) rfl ?_
    show Steps p.tables e below (T14.setTop (mkF m 56 #[.val (.int p0), .val (.int p1), .val (.long (b1_0 p0 p1)), .second, .val (.long (b1_0 (0 : Int32) (0 : Int32))), .second, .val (.int (1 : Int32)), .val (.int (1 : Int32)), .unset, .unset, .unset, .unset, .unset] [(.int p0)])) _
    refine X14.ldcInt hx hown (mvT hZ (hw _ (List.mem_of_getElem? (i := 8) rfl))) (g := (mkF m 56 #[.val (.int p0), .val (.int p1), .val (.long (b1_0 p0 p1)), .second, .val (.long (b1_0 (0 : Int32) (0 : Int32))), .second, .val (.int (1 : Int32)), .val (.int (1 : Int32)), .unset, .unset, .unset, .unset, .unset] [(.int p0)])) rfl (hb hby at_56) _ ?_
    exact k)
  obtain ⟨sl, hsl⟩ : ∃ z : Int32, z = (if p0 = (2147483647 : Int32) then (p0 - (1 : Int32)) else p0) := ⟨_, rfl⟩
  have pre17 : ∀ t, Steps p.tables e below (T14.setTop (mkF m 68 #[.val (.int p0), .val (.int p1), .val (.long (b1_0 p0 p1)), .second, .val (.long (b1_0 (0 : Int32) (0 : Int32))), .second, .val (.int (1 : Int32)), .val (.int (1 : Int32)), .unset, .unset, .unset, .unset, .unset] [(.int sl)])) t → Steps p.tables e below (s₁.setTop (entryFrame m #[(.int p0), (.int p1)] maxLocals)) t := fun t k => pre15 t (by
    by_cases hm16 : p0 = (2147483647 : Int32)
    · rw [show sl = (p0 - (1 : Int32)) from by rw [hsl, if_pos hm16]] at k
      refine XS.icmpNo X14.here hx rfl (hb hby at_58) rfl (teq hm16).2 ?_
      show Steps p.tables e below (T14.setTop (mkF m 61 #[.val (.int p0), .val (.int p1), .val (.long (b1_0 p0 p1)), .second, .val (.long (b1_0 (0 : Int32) (0 : Int32))), .second, .val (.int (1 : Int32)), .val (.int (1 : Int32)), .unset, .unset, .unset, .unset, .unset] [])) _
      refine XS.iloadN X14.here hx rfl (hb hby at_61) rfl ?_
      show Steps p.tables e below (T14.setTop (mkF m 62 #[.val (.int p0), .val (.int p1), .val (.long (b1_0 p0 p1)), .second, .val (.long (b1_0 (0 : Int32) (0 : Int32))), .second, .val (.int (1 : Int32)), .val (.int (1 : Int32)), .unset, .unset, .unset, .unset, .unset] [(.int p0)])) _
      refine XS.iconst X14.here hx rfl (hb hby at_62) ?_
      show Steps p.tables e below (T14.setTop (mkF m 63 #[.val (.int p0), .val (.int p1), .val (.long (b1_0 p0 p1)), .second, .val (.long (b1_0 (0 : Int32) (0 : Int32))), .second, .val (.int (1 : Int32)), .val (.int (1 : Int32)), .unset, .unset, .unset, .unset, .unset] [(.int (1 : Int32)), (.int p0)])) _
      refine XS.isub X14.here hx rfl (hb hby at_63) rfl ?_
      show Steps p.tables e below (T14.setTop (mkF m 64 #[.val (.int p0), .val (.int p1), .val (.long (b1_0 p0 p1)), .second, .val (.long (b1_0 (0 : Int32) (0 : Int32))), .second, .val (.int (1 : Int32)), .val (.int (1 : Int32)), .unset, .unset, .unset, .unset, .unset] [(.int (p0 - (1 : Int32)))])) _
      refine XS.goto X14.here hx rfl (pc0 := 64) (pc' := 68) rfl (hb hby at_64) (by decide) (by decide) ?_
      exact k
    · rw [show sl = p0 from by rw [hsl, if_neg hm16]] at k
      refine XS.icmpYes X14.here hx rfl (pc0 := 58) (pc' := 67) rfl (hb hby at_58) rfl (feq hm16).2 (by decide) (by decide) ?_
      show Steps p.tables e below (T14.setTop (mkF m 67 #[.val (.int p0), .val (.int p1), .val (.long (b1_0 p0 p1)), .second, .val (.long (b1_0 (0 : Int32) (0 : Int32))), .second, .val (.int (1 : Int32)), .val (.int (1 : Int32)), .unset, .unset, .unset, .unset, .unset] [])) _
      refine XS.iloadN X14.here hx rfl (hb hby at_67) rfl ?_
      exact k)
  obtain ⟨_, _, ⟨T18, L18, k18, n18⟩, -, X18, ⟨Lc18, hQ18, l18, y18, z18⟩, st18⟩ := Jvm.LawKit.callS X14 hx (y := (⟨"com/example/brisk_ledger/briskledger/store/IndexFile", "size", "(II)J"⟩ : MethodName)) hown (mvT hZ (hw _ (List.mem_of_getElem? (i := 0) rfl))) (mvT hZ (hw _ (List.mem_of_getElem? (i := 1) rfl))) (mvT hZ (hw _ (List.mem_of_getElem? (i := 2) rfl))) (mvT hZ (hw _ (List.mem_of_getElem? (i := 3) rfl))) (by decide) (backOf (W := 0) (rm1 l Z a0 hw [] (sl + (1 : Int32)) p1 h0 n0 Z0) hZ (hw _ (List.mem_of_getElem? (i := 3) rfl)) (hw _ (List.mem_of_getElem? (i := 2) rfl)) (by decide) (by decide)) (g := (mkF m 75 #[.val (.int p0), .val (.int p1), .val (.long (b1_0 p0 p1)), .second, .val (.long (b1_0 (0 : Int32) (0 : Int32))), .second, .val (.int (1 : Int32)), .val (.int (1 : Int32)), .val (.int sl), .unset, .unset, .unset, .unset] [(.int p1), (.int (sl + (1 : Int32)))])) rfl (by rw [hml]; rfl) (argsL := [(.int (sl + (1 : Int32))), (.int p1)]) (rest := []) (lenOf pd_0 rfl) rfl (by show 2 * 0 + _ ≤ _; exact Nat.le_of_eq rfl) (hb hby at_75) (fun _ _ => ⟨rfl, eh14, (by decide : 0 + 0 ≤ _), (by decide : 0 + 0 ≤ _)⟩)
  dsimp only [Pt.U, Pt.locs, Pt.cells, Pt.slots] at X18 l18 y18 z18 st18 hQ18
  subst l18 y18 z18
  obtain ⟨rfl, Nq18, eh18⟩ := hQ18
  have N18 := Fr.app N14 Nq18
  obtain ⟨_, _, ⟨T19, L19, k19, n19⟩, -, X19, ⟨Lc19, hQ19, l19, y19, z19⟩, st19⟩ := Jvm.LawKit.callS X18 hx (y := (⟨"com/example/brisk_ledger/briskledger/store/IndexFile", "size", "(II)J"⟩ : MethodName)) hown (mvT hZ (hw _ (List.mem_of_getElem? (i := 0) rfl))) (mvT hZ (hw _ (List.mem_of_getElem? (i := 1) rfl))) (mvT hZ (hw _ (List.mem_of_getElem? (i := 2) rfl))) (mvT hZ (hw _ (List.mem_of_getElem? (i := 3) rfl))) (by decide) (backOf (W := 2) (rm1 l Z a0 hw [] sl p1 h0 n0 Z0) hZ (hw _ (List.mem_of_getElem? (i := 3) rfl)) (hw _ (List.mem_of_getElem? (i := 2) rfl)) (by decide) (by decide)) (g := (mkF m 81 #[.val (.int p0), .val (.int p1), .val (.long (b1_0 p0 p1)), .second, .val (.long (b1_0 (0 : Int32) (0 : Int32))), .second, .val (.int (1 : Int32)), .val (.int (1 : Int32)), .val (.int sl), .unset, .unset, .unset, .unset] [(.int p1), (.int sl), (.long (b1_0 (sl + (1 : Int32)) p1))])) rfl (by rw [hml]; rfl) (argsL := [(.int sl), (.int p1)]) (rest := [(.long (b1_0 (sl + (1 : Int32)) p1))]) (lenOf pd_0 rfl) rfl (by show 2 * 0 + _ ≤ _; exact Nat.le_of_eq rfl) (hb hby at_81) (fun _ _ => ⟨rfl, eh18, (by decide : 0 + 0 ≤ _), (by decide : 0 + 0 ≤ _)⟩)
  dsimp only [Pt.U, Pt.locs, Pt.cells, Pt.slots] at X19 l19 y19 z19 st19 hQ19
  subst l19 y19 z19
  obtain ⟨rfl, Nq19, eh19⟩ := hQ19
  have N19 := Fr.app N18 Nq19
  have pre20 : ∀ t, Steps p.tables e below (T19.setTop (mkF m 102 #[.val (.int p0), .val (.int p1), .val (.long (b1_0 p0 p1)), .second, .val (.long (b1_0 (0 : Int32) (0 : Int32))), .second, .val (.int (1 : Int32)), .val (.int (1 : Int32)), .val (.int sl), .val (.int (1 : Int32)), .unset, .unset, .unset] [(.int (2147483647 : Int32)), (.int p1)])) t → Steps p.tables e below (s₁.setTop (entryFrame m #[(.int p0), (.int p1)] maxLocals)) t := fun t k => pre17 t (by
    refine XS.istore X14.here hx rfl (hb hby at_68) rfl (l' := #[.val (.int p0), .val (.int p1), .val (.long (b1_0 p0 p1)), .second, .val (.long (b1_0 (0 : Int32) (0 : Int32))), .second, .val (.int (1 : Int32)), .val (.int (1 : Int32)), .val (.int sl), .unset, .unset, .unset, .unset]) rfl ?_
    show Steps p.tables e below (T14.setTop (mkF m 70 #[.val (.int p0), .val (.int p1), .val (.long (b1_0 p0 p1)), .second, .val (.long (b1_0 (0 : Int32) (0 : Int32))), .second, .val (.int (1 : Int32)), .val (.int (1 : Int32)), .val (.int sl), .unset, .unset, .unset, .unset] [])) _
    refine XS.iload X14.here hx rfl (hb hby at_70) rfl ?_
    show Steps p.tables e below (T14.setTop (mkF m 72 #[.val (.int p0), .val (.int p1), .val (.long (b1_0 p0 p1)), .second, .val (.long (b1_0 (0 : Int32) (0 : Int32))), .second, .val (.int (1 : Int32)), .val (.int (1 : Int32)), .val (.int sl), .unset, .unset, .unset, .unset] [(.int sl)])) _
    refine XS.iconst X14.here hx rfl (hb hby at_72) ?_
    show Steps p.tables e below (T14.setTop (mkF m 73 #[.val (.int p0), .val (.int p1), .val (.long (b1_0 p0 p1)), .second, .val (.long (b1_0 (0 : Int32) (0 : Int32))), .second, .val (.int (1 : Int32)), .val (.int (1 : Int32)), .val (.int sl), .unset, .unset, .unset, .unset] [(.int (1 : Int32)), (.int sl)])) _
    refine XS.iadd X14.here hx rfl (hb hby at_73) rfl ?_
    show Steps p.tables e below (T14.setTop (mkF m 74 #[.val (.int p0), .val (.int p1), .val (.long (b1_0 p0 p1)), .second, .val (.long (b1_0 (0 : Int32) (0 : Int32))), .second, .val (.int (1 : Int32)), .val (.int (1 : Int32)), .val (.int sl), .unset, .unset, .unset, .unset] [(.int (sl + (1 : Int32)))])) _
    refine XS.iloadN X14.here hx rfl (hb hby at_74) rfl ?_
    show Steps p.tables e below (T14.setTop (mkF m 75 #[.val (.int p0), .val (.int p1), .val (.long (b1_0 p0 p1)), .second, .val (.long (b1_0 (0 : Int32) (0 : Int32))), .second, .val (.int (1 : Int32)), .val (.int (1 : Int32)), .val (.int sl), .unset, .unset, .unset, .unset] [(.int p1), (.int (sl + (1 : Int32)))])) _
    refine st18 _ ?_
    show Steps p.tables e below (T18.setTop (mkF m 78 #[.val (.int p0), .val (.int p1), .val (.long (b1_0 p0 p1)), .second, .val (.long (b1_0 (0 : Int32) (0 : Int32))), .second, .val (.int (1 : Int32)), .val (.int (1 : Int32)), .val (.int sl), .unset, .unset, .unset, .unset] [(.long (b1_0 (sl + (1 : Int32)) p1))])) _
    refine XS.iload X18.here hx rfl (hb hby at_78) rfl ?_
    show Steps p.tables e below (T18.setTop (mkF m 80 #[.val (.int p0), .val (.int p1), .val (.long (b1_0 p0 p1)), .second, .val (.long (b1_0 (0 : Int32) (0 : Int32))), .second, .val (.int (1 : Int32)), .val (.int (1 : Int32)), .val (.int sl), .unset, .unset, .unset, .unset] [(.int sl), (.long (b1_0 (sl + (1 : Int32)) p1))])) _
    refine XS.iloadN X18.here hx rfl (hb hby at_80) rfl ?_
    show Steps p.tables e below (T18.setTop (mkF m 81 #[.val (.int p0), .val (.int p1), .val (.long (b1_0 p0 p1)), .second, .val (.long (b1_0 (0 : Int32) (0 : Int32))), .second, .val (.int (1 : Int32)), .val (.int (1 : Int32)), .val (.int sl), .unset, .unset, .unset, .unset] [(.int p1), (.int sl), (.long (b1_0 (sl + (1 : Int32)) p1))])) _
    refine st19 _ ?_
    show Steps p.tables e below (T19.setTop (mkF m 84 #[.val (.int p0), .val (.int p1), .val (.long (b1_0 p0 p1)), .second, .val (.long (b1_0 (0 : Int32) (0 : Int32))), .second, .val (.int (1 : Int32)), .val (.int (1 : Int32)), .val (.int sl), .unset, .unset, .unset, .unset] [(.long (b1_0 sl p1)), (.long (b1_0 (sl + (1 : Int32)) p1))])) _
    refine XS.lsub X19.here hx rfl (hb hby at_84) rfl ?_
    show Steps p.tables e below (T19.setTop (mkF m 85 #[.val (.int p0), .val (.int p1), .val (.long (b1_0 p0 p1)), .second, .val (.long (b1_0 (0 : Int32) (0 : Int32))), .second, .val (.int (1 : Int32)), .val (.int (1 : Int32)), .val (.int sl), .unset, .unset, .unset, .unset] [(.long ((b1_0 (sl + (1 : Int32)) p1) - (b1_0 sl p1)))])) _
    refine X19.ldc2Long hx hown (mvT hZ (hw _ (List.mem_of_getElem? (i := 9) rfl))) (g := (mkF m 85 #[.val (.int p0), .val (.int p1), .val (.long (b1_0 p0 p1)), .second, .val (.long (b1_0 (0 : Int32) (0 : Int32))), .second, .val (.int (1 : Int32)), .val (.int (1 : Int32)), .val (.int sl), .unset, .unset, .unset, .unset] [(.long ((b1_0 (sl + (1 : Int32)) p1) - (b1_0 sl p1)))])) rfl (hb hby at_85) _ ?_
    show Steps p.tables e below (T19.setTop (mkF m 88 #[.val (.int p0), .val (.int p1), .val (.long (b1_0 p0 p1)), .second, .val (.long (b1_0 (0 : Int32) (0 : Int32))), .second, .val (.int (1 : Int32)), .val (.int (1 : Int32)), .val (.int sl), .unset, .unset, .unset, .unset] [(.long (4 : Int64)), (.long ((b1_0 (sl + (1 : Int32)) p1) - (b1_0 sl p1)))])) _
    refine XS.lcmp X19.here hx rfl (hb hby at_88) rfl ?_
    show Steps p.tables e below (T19.setTop (mkF m 89 #[.val (.int p0), .val (.int p1), .val (.long (b1_0 p0 p1)), .second, .val (.long (b1_0 (0 : Int32) (0 : Int32))), .second, .val (.int (1 : Int32)), .val (.int (1 : Int32)), .val (.int sl), .unset, .unset, .unset, .unset] [(.int (lcmpW ((b1_0 (sl + (1 : Int32)) p1) - (b1_0 sl p1)) (4 : Int64)))])) _
    refine XS.ifNo X19.here hx rfl (hb hby at_89) rfl ((if0 _ _).trans (teq ((lw_eq ((b1_0 (sl + (1 : Int32)) p1) - (b1_0 sl p1)) (4 : Int64)).mpr (own_3 _ _ (own_m hsl)))).2) ?_
    show Steps p.tables e below (T19.setTop (mkF m 92 #[.val (.int p0), .val (.int p1), .val (.long (b1_0 p0 p1)), .second, .val (.long (b1_0 (0 : Int32) (0 : Int32))), .second, .val (.int (1 : Int32)), .val (.int (1 : Int32)), .val (.int sl), .unset, .unset, .unset, .unset] [])) _
    refine XS.iconst X19.here hx rfl (hb hby at_92) ?_
    show Steps p.tables e below (T19.setTop (mkF m 93 #[.val (.int p0), .val (.int p1), .val (.long (b1_0 p0 p1)), .second, .val (.long (b1_0 (0 : Int32) (0 : Int32))), .second, .val (.int (1 : Int32)), .val (.int (1 : Int32)), .val (.int sl), .unset, .unset, .unset, .unset] [(.int (1 : Int32))])) _
    refine XS.goto X19.here hx rfl (pc0 := 93) (pc' := 97) rfl (hb hby at_93) (by decide) (by decide) ?_
    show Steps p.tables e below (T19.setTop (mkF m 97 #[.val (.int p0), .val (.int p1), .val (.long (b1_0 p0 p1)), .second, .val (.long (b1_0 (0 : Int32) (0 : Int32))), .second, .val (.int (1 : Int32)), .val (.int (1 : Int32)), .val (.int sl), .unset, .unset, .unset, .unset] [(.int (1 : Int32))])) _
    refine XS.istore X19.here hx rfl (hb hby at_97) rfl (l' := #[.val (.int p0), .val (.int p1), .val (.long (b1_0 p0 p1)), .second, .val (.long (b1_0 (0 : Int32) (0 : Int32))), .second, .val (.int (1 : Int32)), .val (.int (1 : Int32)), .val (.int sl), .val (.int (1 : Int32)), .unset, .unset, .unset]) rfl ?_
    show Steps p.tables e below (T19.setTop (mkF m 99 #[.val (.int p0), .val (.int p1), .val (.long (b1_0 p0 p1)), .second, .val (.long (b1_0 (0 : Int32) (0 : Int32))), .second, .val (.int (1 : Int32)), .val (.int (1 : Int32)), .val (.int sl), .val (.int (1 : Int32)), .unset, .unset, .unset] [])) _
    refine XS.iloadN X19.here hx rfl (hb hby at_99) rfl ?_
    show Steps p.tables e below (T19.setTop (mkF m 100 #[.val (.int p0), .val (.int p1), .val (.long (b1_0 p0 p1)), .second, .val (.long (b1_0 (0 : Int32) (0 : Int32))), .second, .val (.int (1 : Int32)), .val (.int (1 : Int32)), .val (.int sl), .val (.int (1 : Int32)), .unset, .unset, .unset] [(.int p1)])) _
    refine X19.ldcInt hx hown (mvT hZ (hw _ (List.mem_of_getElem? (i := 8) rfl))) (g := (mkF m 100 #[.val (.int p0), .val (.int p1), .val (.long (b1_0 p0 p1)), .second, .val (.long (b1_0 (0 : Int32) (0 : Int32))), .second, .val (.int (1 : Int32)), .val (.int (1 : Int32)), .val (.int sl), .val (.int (1 : Int32)), .unset, .unset, .unset] [(.int p1)])) rfl (hb hby at_100) _ ?_
    exact k)
  obtain ⟨el, hel⟩ : ∃ z : Int32, z = (if p1 = (2147483647 : Int32) then (p1 - (1 : Int32)) else p1) := ⟨_, rfl⟩
  have pre22 : ∀ t, Steps p.tables e below (T19.setTop (mkF m 112 #[.val (.int p0), .val (.int p1), .val (.long (b1_0 p0 p1)), .second, .val (.long (b1_0 (0 : Int32) (0 : Int32))), .second, .val (.int (1 : Int32)), .val (.int (1 : Int32)), .val (.int sl), .val (.int (1 : Int32)), .unset, .unset, .unset] [(.int el)])) t → Steps p.tables e below (s₁.setTop (entryFrame m #[(.int p0), (.int p1)] maxLocals)) t := fun t k => pre20 t (by
    by_cases hm21 : p1 = (2147483647 : Int32)
    · rw [show el = (p1 - (1 : Int32)) from by rw [hel, if_pos hm21]] at k
      refine XS.icmpNo X19.here hx rfl (hb hby at_102) rfl (teq hm21).2 ?_
      show Steps p.tables e below (T19.setTop (mkF m 105 #[.val (.int p0), .val (.int p1), .val (.long (b1_0 p0 p1)), .second, .val (.long (b1_0 (0 : Int32) (0 : Int32))), .second, .val (.int (1 : Int32)), .val (.int (1 : Int32)), .val (.int sl), .val (.int (1 : Int32)), .unset, .unset, .unset] [])) _
      refine XS.iloadN X19.here hx rfl (hb hby at_105) rfl ?_
      show Steps p.tables e below (T19.setTop (mkF m 106 #[.val (.int p0), .val (.int p1), .val (.long (b1_0 p0 p1)), .second, .val (.long (b1_0 (0 : Int32) (0 : Int32))), .second, .val (.int (1 : Int32)), .val (.int (1 : Int32)), .val (.int sl), .val (.int (1 : Int32)), .unset, .unset, .unset] [(.int p1)])) _
      refine XS.iconst X19.here hx rfl (hb hby at_106) ?_
      show Steps p.tables e below (T19.setTop (mkF m 107 #[.val (.int p0), .val (.int p1), .val (.long (b1_0 p0 p1)), .second, .val (.long (b1_0 (0 : Int32) (0 : Int32))), .second, .val (.int (1 : Int32)), .val (.int (1 : Int32)), .val (.int sl), .val (.int (1 : Int32)), .unset, .unset, .unset] [(.int (1 : Int32)), (.int p1)])) _
      refine XS.isub X19.here hx rfl (hb hby at_107) rfl ?_
      show Steps p.tables e below (T19.setTop (mkF m 108 #[.val (.int p0), .val (.int p1), .val (.long (b1_0 p0 p1)), .second, .val (.long (b1_0 (0 : Int32) (0 : Int32))), .second, .val (.int (1 : Int32)), .val (.int (1 : Int32)), .val (.int sl), .val (.int (1 : Int32)), .unset, .unset, .unset] [(.int (p1 - (1 : Int32)))])) _
      refine XS.goto X19.here hx rfl (pc0 := 108) (pc' := 112) rfl (hb hby at_108) (by decide) (by decide) ?_
      exact k
    · rw [show el = p1 from by rw [hel, if_neg hm21]] at k
      refine XS.icmpYes X19.here hx rfl (pc0 := 102) (pc' := 111) rfl (hb hby at_102) rfl (feq hm21).2 (by decide) (by decide) ?_
      show Steps p.tables e below (T19.setTop (mkF m 111 #[.val (.int p0), .val (.int p1), .val (.long (b1_0 p0 p1)), .second, .val (.long (b1_0 (0 : Int32) (0 : Int32))), .second, .val (.int (1 : Int32)), .val (.int (1 : Int32)), .val (.int sl), .val (.int (1 : Int32)), .unset, .unset, .unset] [])) _
      refine XS.iloadN X19.here hx rfl (hb hby at_111) rfl ?_
      exact k)
  obtain ⟨_, _, ⟨T23, L23, k23, n23⟩, -, X23, ⟨Lc23, hQ23, l23, y23, z23⟩, st23⟩ := Jvm.LawKit.callS X19 hx (y := (⟨"com/example/brisk_ledger/briskledger/store/IndexFile", "size", "(II)J"⟩ : MethodName)) hown (mvT hZ (hw _ (List.mem_of_getElem? (i := 0) rfl))) (mvT hZ (hw _ (List.mem_of_getElem? (i := 1) rfl))) (mvT hZ (hw _ (List.mem_of_getElem? (i := 2) rfl))) (mvT hZ (hw _ (List.mem_of_getElem? (i := 3) rfl))) (by decide) (backOf (W := 0) (rm1 l Z a0 hw [] p0 (el + (1 : Int32)) h0 n0 Z0) hZ (hw _ (List.mem_of_getElem? (i := 3) rfl)) (hw _ (List.mem_of_getElem? (i := 2) rfl)) (by decide) (by decide)) (g := (mkF m 119 #[.val (.int p0), .val (.int p1), .val (.long (b1_0 p0 p1)), .second, .val (.long (b1_0 (0 : Int32) (0 : Int32))), .second, .val (.int (1 : Int32)), .val (.int (1 : Int32)), .val (.int sl), .val (.int (1 : Int32)), .val (.int el), .unset, .unset] [(.int (el + (1 : Int32))), (.int p0)])) rfl (by rw [hml]; rfl) (argsL := [(.int p0), (.int (el + (1 : Int32)))]) (rest := []) (lenOf pd_0 rfl) rfl (by show 2 * 0 + _ ≤ _; exact Nat.le_of_eq rfl) (hb hby at_119) (fun _ _ => ⟨rfl, eh19, (by decide : 0 + 0 ≤ _), (by decide : 0 + 0 ≤ _)⟩)
  dsimp only [Pt.U, Pt.locs, Pt.cells, Pt.slots] at X23 l23 y23 z23 st23 hQ23
  subst l23 y23 z23
  obtain ⟨rfl, Nq23, eh23⟩ := hQ23
  have N23 := Fr.app N19 Nq23
  obtain ⟨_, _, ⟨T24, L24, k24, n24⟩, -, X24, ⟨Lc24, hQ24, l24, y24, z24⟩, st24⟩ := Jvm.LawKit.callS X23 hx (y := (⟨"com/example/brisk_ledger/briskledger/store/IndexFile", "size", "(II)J"⟩ : MethodName)) hown (mvT hZ (hw _ (List.mem_of_getElem? (i := 0) rfl))) (mvT hZ (hw _ (List.mem_of_getElem? (i := 1) rfl))) (mvT hZ (hw _ (List.mem_of_getElem? (i := 2) rfl))) (mvT hZ (hw _ (List.mem_of_getElem? (i := 3) rfl))) (by decide) (backOf (W := 2) (rm1 l Z a0 hw [] p0 el h0 n0 Z0) hZ (hw _ (List.mem_of_getElem? (i := 3) rfl)) (hw _ (List.mem_of_getElem? (i := 2) rfl)) (by decide) (by decide)) (g := (mkF m 125 #[.val (.int p0), .val (.int p1), .val (.long (b1_0 p0 p1)), .second, .val (.long (b1_0 (0 : Int32) (0 : Int32))), .second, .val (.int (1 : Int32)), .val (.int (1 : Int32)), .val (.int sl), .val (.int (1 : Int32)), .val (.int el), .unset, .unset] [(.int el), (.int p0), (.long (b1_0 p0 (el + (1 : Int32))))])) rfl (by rw [hml]; rfl) (argsL := [(.int p0), (.int el)]) (rest := [(.long (b1_0 p0 (el + (1 : Int32))))]) (lenOf pd_0 rfl) rfl (by show 2 * 0 + _ ≤ _; exact Nat.le_of_eq rfl) (hb hby at_125) (fun _ _ => ⟨rfl, eh23, (by decide : 0 + 0 ≤ _), (by decide : 0 + 0 ≤ _)⟩)
  dsimp only [Pt.U, Pt.locs, Pt.cells, Pt.slots] at X24 l24 y24 z24 st24 hQ24
  subst l24 y24 z24
  obtain ⟨rfl, Nq24, eh24⟩ := hQ24
  have N24 := Fr.app N23 Nq24
  obtain ⟨_, _, ⟨T25, L25, k25, n25⟩, -, X25, ⟨Lc25, hQ25, l25, y25, z25⟩, st25⟩ := Jvm.LawKit.callS X24 hx (y := (⟨"com/example/brisk_ledger/briskledger/store/IndexFile", "size", "(II)J"⟩ : MethodName)) hown (mvT hZ (hw _ (List.mem_of_getElem? (i := 0) rfl))) (mvT hZ (hw _ (List.mem_of_getElem? (i := 1) rfl))) (mvT hZ (hw _ (List.mem_of_getElem? (i := 2) rfl))) (mvT hZ (hw _ (List.mem_of_getElem? (i := 3) rfl))) (by decide) (backOf (W := 0) (rm1 l Z a0 hw [] (7 : Int32) (5 : Int32) h0 n0 Z0) hZ (hw _ (List.mem_of_getElem? (i := 3) rfl)) (hw _ (List.mem_of_getElem? (i := 2) rfl)) (by decide) (by decide)) (g := (mkF m 146 #[.val (.int p0), .val (.int p1), .val (.long (b1_0 p0 p1)), .second, .val (.long (b1_0 (0 : Int32) (0 : Int32))), .second, .val (.int (1 : Int32)), .val (.int (1 : Int32)), .val (.int sl), .val (.int (1 : Int32)), .val (.int el), .val (.int (1 : Int32)), .unset] [(.int (5 : Int32)), (.int (7 : Int32))])) rfl (by rw [hml]; rfl) (argsL := [(.int (7 : Int32)), (.int (5 : Int32))]) (rest := []) (lenOf pd_0 rfl) rfl (by show 2 * 0 + _ ≤ _; exact Nat.le_of_eq rfl) (hb hby at_146) (fun _ _ => ⟨rfl, eh24, (by decide : 0 + 0 ≤ _), (by decide : 0 + 0 ≤ _)⟩)
  dsimp only [Pt.U, Pt.locs, Pt.cells, Pt.slots] at X25 l25 y25 z25 st25 hQ25
  subst l25 y25 z25
  obtain ⟨rfl, Nq25, eh25⟩ := hQ25
  have N25 := Fr.app N24 Nq25
  obtain ⟨_, _, ⟨T26, L26, k26, n26⟩, -, X26, ⟨Lc26, hQ26, l26, y26, z26⟩, st26⟩ := Jvm.LawKit.callS X25 hx (y := (⟨"com/example/brisk_ledger/briskledger/store/IndexFile", "size", "(II)J"⟩ : MethodName)) hown (mvT hZ (hw _ (List.mem_of_getElem? (i := 0) rfl))) (mvT hZ (hw _ (List.mem_of_getElem? (i := 1) rfl))) (mvT hZ (hw _ (List.mem_of_getElem? (i := 2) rfl))) (mvT hZ (hw _ (List.mem_of_getElem? (i := 3) rfl))) (by decide) (backOf (W := 2) (rm1 l Z a0 hw [] (2 : Int32) (6 : Int32) h0 n0 Z0) hZ (hw _ (List.mem_of_getElem? (i := 3) rfl)) (hw _ (List.mem_of_getElem? (i := 2) rfl)) (by decide) (by decide)) (g := (mkF m 152 #[.val (.int p0), .val (.int p1), .val (.long (b1_0 p0 p1)), .second, .val (.long (b1_0 (0 : Int32) (0 : Int32))), .second, .val (.int (1 : Int32)), .val (.int (1 : Int32)), .val (.int sl), .val (.int (1 : Int32)), .val (.int el), .val (.int (1 : Int32)), .unset] [(.int (6 : Int32)), (.int (2 : Int32)), (.long (b1_0 (7 : Int32) (5 : Int32)))])) rfl (by rw [hml]; rfl) (argsL := [(.int (2 : Int32)), (.int (6 : Int32))]) (rest := [(.long (b1_0 (7 : Int32) (5 : Int32)))]) (lenOf pd_0 rfl) rfl (by show 2 * 0 + _ ≤ _; exact Nat.le_of_eq rfl) (hb hby at_152) (fun _ _ => ⟨rfl, eh25, (by decide : 0 + 0 ≤ _), (by decide : 0 + 0 ≤ _)⟩)
  dsimp only [Pt.U, Pt.locs, Pt.cells, Pt.slots] at X26 l26 y26 z26 st26 hQ26
  subst l26 y26 z26
  obtain ⟨rfl, Nq26, eh26⟩ := hQ26
  have N26 := Fr.app N25 Nq26
  obtain ⟨fs, hr, hrun, hended, hW, hsame⟩ := X26.leave (v := some (.int (1 : Int32))) (fun h => by rw [Bd.returns] at h; cases h)
  refine ⟨_, _, pre22 _ ?_, hrun, hended, _, _, rfl, ?_, ⟨_, rfl⟩, hW, hsame.mono (by decide) (by decide)⟩
  · refine XS.istore X19.here hx rfl (hb hby at_112) rfl (l' := #[.val (.int p0), .val (.int p1), .val (.long (b1_0 p0 p1)), .second, .val (.long (b1_0 (0 : Int32) (0 : Int32))), .second, .val (.int (1 : Int32)), .val (.int (1 : Int32)), .val (.int sl), .val (.int (1 : Int32)), .val (.int el), .unset, .unset]) rfl ?_
    show Steps p.tables e below (T19.setTop (mkF m 114 #[.val (.int p0), .val (.int p1), .val (.long (b1_0 p0 p1)), .second, .val (.long (b1_0 (0 : Int32) (0 : Int32))), .second, .val (.int (1 : Int32)), .val (.int (1 : Int32)), .val (.int sl), .val (.int (1 : Int32)), .val (.int el), .unset, .unset] [])) _
    refine XS.iloadN X19.here hx rfl (hb hby at_114) rfl ?_
    show Steps p.tables e below (T19.setTop (mkF m 115 #[.val (.int p0), .val (.int p1), .val (.long (b1_0 p0 p1)), .second, .val (.long (b1_0 (0 : Int32) (0 : Int32))), .second, .val (.int (1 : Int32)), .val (.int (1 : Int32)), .val (.int sl), .val (.int (1 : Int32)), .val (.int el), .unset, .unset] [(.int p0)])) _
    refine XS.iload X19.here hx rfl (hb hby at_115) rfl ?_
    show Steps p.tables e below (T19.setTop (mkF m 117 #[.val (.int p0), .val (.int p1), .val (.long (b1_0 p0 p1)), .second, .val (.long (b1_0 (0 : Int32) (0 : Int32))), .second, .val (.int (1 : Int32)), .val (.int (1 : Int32)), .val (.int sl), .val (.int (1 : Int32)), .val (.int el), .unset, .unset] [(.int el), (.int p0)])) _
    refine XS.iconst X19.here hx rfl (hb hby at_117) ?_
    show Steps p.tables e below (T19.setTop (mkF m 118 #[.val (.int p0), .val (.int p1), .val (.long (b1_0 p0 p1)), .second, .val (.long (b1_0 (0 : Int32) (0 : Int32))), .second, .val (.int (1 : Int32)), .val (.int (1 : Int32)), .val (.int sl), .val (.int (1 : Int32)), .val (.int el), .unset, .unset] [(.int (1 : Int32)), (.int el), (.int p0)])) _
    refine XS.iadd X19.here hx rfl (hb hby at_118) rfl ?_
    show Steps p.tables e below (T19.setTop (mkF m 119 #[.val (.int p0), .val (.int p1), .val (.long (b1_0 p0 p1)), .second, .val (.long (b1_0 (0 : Int32) (0 : Int32))), .second, .val (.int (1 : Int32)), .val (.int (1 : Int32)), .val (.int sl), .val (.int (1 : Int32)), .val (.int el), .unset, .unset] [(.int (el + (1 : Int32))), (.int p0)])) _
    refine st23 _ ?_
    show Steps p.tables e below (T23.setTop (mkF m 122 #[.val (.int p0), .val (.int p1), .val (.long (b1_0 p0 p1)), .second, .val (.long (b1_0 (0 : Int32) (0 : Int32))), .second, .val (.int (1 : Int32)), .val (.int (1 : Int32)), .val (.int sl), .val (.int (1 : Int32)), .val (.int el), .unset, .unset] [(.long (b1_0 p0 (el + (1 : Int32))))])) _
    refine XS.iloadN X23.here hx rfl (hb hby at_122) rfl ?_
    show Steps p.tables e below (T23.setTop (mkF m 123 #[.val (.int p0), .val (.int p1), .val (.long (b1_0 p0 p1)), .second, .val (.long (b1_0 (0 : Int32) (0 : Int32))), .second, .val (.int (1 : Int32)), .val (.int (1 : Int32)), .val (.int sl), .val (.int (1 : Int32)), .val (.int el), .unset, .unset] [(.int p0), (.long (b1_0 p0 (el + (1 : Int32))))])) _
    refine XS.iload X23.here hx rfl (hb hby at_123) rfl ?_
    show Steps p.tables e below (T23.setTop (mkF m 125 #[.val (.int p0), .val (.int p1), .val (.long (b1_0 p0 p1)), .second, .val (.long (b1_0 (0 : Int32) (0 : Int32))), .second, .val (.int (1 : Int32)), .val (.int (1 : Int32)), .val (.int sl), .val (.int (1 : Int32)), .val (.int el), .unset, .unset] [(.int el), (.int p0), (.long (b1_0 p0 (el + (1 : Int32))))])) _
    refine st24 _ ?_
    show Steps p.tables e below (T24.setTop (mkF m 128 #[.val (.int p0), .val (.int p1), .val (.long (b1_0 p0 p1)), .second, .val (.long (b1_0 (0 : Int32) (0 : Int32))), .second, .val (.int (1 : Int32)), .val (.int (1 : Int32)), .val (.int sl), .val (.int (1 : Int32)), .val (.int el), .unset, .unset] [(.long (b1_0 p0 el)), (.long (b1_0 p0 (el + (1 : Int32))))])) _
    refine XS.lsub X24.here hx rfl (hb hby at_128) rfl ?_
    show Steps p.tables e below (T24.setTop (mkF m 129 #[.val (.int p0), .val (.int p1), .val (.long (b1_0 p0 p1)), .second, .val (.long (b1_0 (0 : Int32) (0 : Int32))), .second, .val (.int (1 : Int32)), .val (.int (1 : Int32)), .val (.int sl), .val (.int (1 : Int32)), .val (.int el), .unset, .unset] [(.long ((b1_0 p0 (el + (1 : Int32))) - (b1_0 p0 el)))])) _
    refine X24.ldc2Long hx hown (mvT hZ (hw _ (List.mem_of_getElem? (i := 10) rfl))) (g := (mkF m 129 #[.val (.int p0), .val (.int p1), .val (.long (b1_0 p0 p1)), .second, .val (.long (b1_0 (0 : Int32) (0 : Int32))), .second, .val (.int (1 : Int32)), .val (.int (1 : Int32)), .val (.int sl), .val (.int (1 : Int32)), .val (.int el), .unset, .unset] [(.long ((b1_0 p0 (el + (1 : Int32))) - (b1_0 p0 el)))])) rfl (hb hby at_129) _ ?_
    show Steps p.tables e below (T24.setTop (mkF m 132 #[.val (.int p0), .val (.int p1), .val (.long (b1_0 p0 p1)), .second, .val (.long (b1_0 (0 : Int32) (0 : Int32))), .second, .val (.int (1 : Int32)), .val (.int (1 : Int32)), .val (.int sl), .val (.int (1 : Int32)), .val (.int el), .unset, .unset] [(.long (20 : Int64)), (.long ((b1_0 p0 (el + (1 : Int32))) - (b1_0 p0 el)))])) _
    refine XS.lcmp X24.here hx rfl (hb hby at_132) rfl ?_
    show Steps p.tables e below (T24.setTop (mkF m 133 #[.val (.int p0), .val (.int p1), .val (.long (b1_0 p0 p1)), .second, .val (.long (b1_0 (0 : Int32) (0 : Int32))), .second, .val (.int (1 : Int32)), .val (.int (1 : Int32)), .val (.int sl), .val (.int (1 : Int32)), .val (.int el), .unset, .unset] [(.int (lcmpW ((b1_0 p0 (el + (1 : Int32))) - (b1_0 p0 el)) (20 : Int64)))])) _
    refine XS.ifNo X24.here hx rfl (hb hby at_133) rfl ((if0 _ _).trans (teq ((lw_eq ((b1_0 p0 (el + (1 : Int32))) - (b1_0 p0 el)) (20 : Int64)).mpr (own_4 _ _ (own_m hel)))).2) ?_
    show Steps p.tables e below (T24.setTop (mkF m 136 #[.val (.int p0), .val (.int p1), .val (.long (b1_0 p0 p1)), .second, .val (.long (b1_0 (0 : Int32) (0 : Int32))), .second, .val (.int (1 : Int32)), .val (.int (1 : Int32)), .val (.int sl), .val (.int (1 : Int32)), .val (.int el), .unset, .unset] [])) _
    refine XS.iconst X24.here hx rfl (hb hby at_136) ?_
    show Steps p.tables e below (T24.setTop (mkF m 137 #[.val (.int p0), .val (.int p1), .val (.long (b1_0 p0 p1)), .second, .val (.long (b1_0 (0 : Int32) (0 : Int32))), .second, .val (.int (1 : Int32)), .val (.int (1 : Int32)), .val (.int sl), .val (.int (1 : Int32)), .val (.int el), .unset, .unset] [(.int (1 : Int32))])) _
    refine XS.goto X24.here hx rfl (pc0 := 137) (pc' := 141) rfl (hb hby at_137) (by decide) (by decide) ?_
    show Steps p.tables e below (T24.setTop (mkF m 141 #[.val (.int p0), .val (.int p1), .val (.long (b1_0 p0 p1)), .second, .val (.long (b1_0 (0 : Int32) (0 : Int32))), .second, .val (.int (1 : Int32)), .val (.int (1 : Int32)), .val (.int sl), .val (.int (1 : Int32)), .val (.int el), .unset, .unset] [(.int (1 : Int32))])) _
    refine XS.istore X24.here hx rfl (hb hby at_141) rfl (l' := #[.val (.int p0), .val (.int p1), .val (.long (b1_0 p0 p1)), .second, .val (.long (b1_0 (0 : Int32) (0 : Int32))), .second, .val (.int (1 : Int32)), .val (.int (1 : Int32)), .val (.int sl), .val (.int (1 : Int32)), .val (.int el), .val (.int (1 : Int32)), .unset]) rfl ?_
    show Steps p.tables e below (T24.setTop (mkF m 143 #[.val (.int p0), .val (.int p1), .val (.long (b1_0 p0 p1)), .second, .val (.long (b1_0 (0 : Int32) (0 : Int32))), .second, .val (.int (1 : Int32)), .val (.int (1 : Int32)), .val (.int sl), .val (.int (1 : Int32)), .val (.int el), .val (.int (1 : Int32)), .unset] [])) _
    refine XS.bipush X24.here hx rfl (hb hby at_143) ?_
    show Steps p.tables e below (T24.setTop (mkF m 145 #[.val (.int p0), .val (.int p1), .val (.long (b1_0 p0 p1)), .second, .val (.long (b1_0 (0 : Int32) (0 : Int32))), .second, .val (.int (1 : Int32)), .val (.int (1 : Int32)), .val (.int sl), .val (.int (1 : Int32)), .val (.int el), .val (.int (1 : Int32)), .unset] [(.int (7 : Int32))])) _
    refine XS.iconst X24.here hx rfl (hb hby at_145) ?_
    show Steps p.tables e below (T24.setTop (mkF m 146 #[.val (.int p0), .val (.int p1), .val (.long (b1_0 p0 p1)), .second, .val (.long (b1_0 (0 : Int32) (0 : Int32))), .second, .val (.int (1 : Int32)), .val (.int (1 : Int32)), .val (.int sl), .val (.int (1 : Int32)), .val (.int el), .val (.int (1 : Int32)), .unset] [(.int (5 : Int32)), (.int (7 : Int32))])) _
    refine st25 _ ?_
    show Steps p.tables e below (T25.setTop (mkF m 149 #[.val (.int p0), .val (.int p1), .val (.long (b1_0 p0 p1)), .second, .val (.long (b1_0 (0 : Int32) (0 : Int32))), .second, .val (.int (1 : Int32)), .val (.int (1 : Int32)), .val (.int sl), .val (.int (1 : Int32)), .val (.int el), .val (.int (1 : Int32)), .unset] [(.long (b1_0 (7 : Int32) (5 : Int32)))])) _
    refine XS.iconst X25.here hx rfl (hb hby at_149) ?_
    show Steps p.tables e below (T25.setTop (mkF m 150 #[.val (.int p0), .val (.int p1), .val (.long (b1_0 p0 p1)), .second, .val (.long (b1_0 (0 : Int32) (0 : Int32))), .second, .val (.int (1 : Int32)), .val (.int (1 : Int32)), .val (.int sl), .val (.int (1 : Int32)), .val (.int el), .val (.int (1 : Int32)), .unset] [(.int (2 : Int32)), (.long (b1_0 (7 : Int32) (5 : Int32)))])) _
    refine XS.bipush X25.here hx rfl (hb hby at_150) ?_
    show Steps p.tables e below (T25.setTop (mkF m 152 #[.val (.int p0), .val (.int p1), .val (.long (b1_0 p0 p1)), .second, .val (.long (b1_0 (0 : Int32) (0 : Int32))), .second, .val (.int (1 : Int32)), .val (.int (1 : Int32)), .val (.int sl), .val (.int (1 : Int32)), .val (.int el), .val (.int (1 : Int32)), .unset] [(.int (6 : Int32)), (.int (2 : Int32)), (.long (b1_0 (7 : Int32) (5 : Int32)))])) _
    refine st26 _ ?_
    show Steps p.tables e below (T26.setTop (mkF m 155 #[.val (.int p0), .val (.int p1), .val (.long (b1_0 p0 p1)), .second, .val (.long (b1_0 (0 : Int32) (0 : Int32))), .second, .val (.int (1 : Int32)), .val (.int (1 : Int32)), .val (.int sl), .val (.int (1 : Int32)), .val (.int el), .val (.int (1 : Int32)), .unset] [(.long (b1_0 (2 : Int32) (6 : Int32))), (.long (b1_0 (7 : Int32) (5 : Int32)))])) _
    refine XS.lcmp X26.here hx rfl (hb hby at_155) rfl ?_
    show Steps p.tables e below (T26.setTop (mkF m 156 #[.val (.int p0), .val (.int p1), .val (.long (b1_0 p0 p1)), .second, .val (.long (b1_0 (0 : Int32) (0 : Int32))), .second, .val (.int (1 : Int32)), .val (.int (1 : Int32)), .val (.int sl), .val (.int (1 : Int32)), .val (.int el), .val (.int (1 : Int32)), .unset] [(.int (lcmpW (b1_0 (7 : Int32) (5 : Int32)) (b1_0 (2 : Int32) (6 : Int32))))])) _
    refine XS.ifNo X26.here hx rfl (hb hby at_156) rfl ((if0 _ _).trans (teq ((lw_eq (b1_0 (7 : Int32) (5 : Int32)) (b1_0 (2 : Int32) (6 : Int32))).mpr own_5)).2) ?_
    show Steps p.tables e below (T26.setTop (mkF m 159 #[.val (.int p0), .val (.int p1), .val (.long (b1_0 p0 p1)), .second, .val (.long (b1_0 (0 : Int32) (0 : Int32))), .second, .val (.int (1 : Int32)), .val (.int (1 : Int32)), .val (.int sl), .val (.int (1 : Int32)), .val (.int el), .val (.int (1 : Int32)), .unset] [])) _
    refine XS.iconst X26.here hx rfl (hb hby at_159) ?_
    show Steps p.tables e below (T26.setTop (mkF m 160 #[.val (.int p0), .val (.int p1), .val (.long (b1_0 p0 p1)), .second, .val (.long (b1_0 (0 : Int32) (0 : Int32))), .second, .val (.int (1 : Int32)), .val (.int (1 : Int32)), .val (.int sl), .val (.int (1 : Int32)), .val (.int el), .val (.int (1 : Int32)), .unset] [(.int (1 : Int32))])) _
    refine XS.goto X26.here hx rfl (pc0 := 160) (pc' := 164) rfl (hb hby at_160) (by decide) (by decide) ?_
    show Steps p.tables e below (T26.setTop (mkF m 164 #[.val (.int p0), .val (.int p1), .val (.long (b1_0 p0 p1)), .second, .val (.long (b1_0 (0 : Int32) (0 : Int32))), .second, .val (.int (1 : Int32)), .val (.int (1 : Int32)), .val (.int sl), .val (.int (1 : Int32)), .val (.int el), .val (.int (1 : Int32)), .unset] [(.int (1 : Int32))])) _
    refine XS.istore X26.here hx rfl (hb hby at_164) rfl (l' := #[.val (.int p0), .val (.int p1), .val (.long (b1_0 p0 p1)), .second, .val (.long (b1_0 (0 : Int32) (0 : Int32))), .second, .val (.int (1 : Int32)), .val (.int (1 : Int32)), .val (.int sl), .val (.int (1 : Int32)), .val (.int el), .val (.int (1 : Int32)), .val (.int (1 : Int32))]) rfl ?_
    show Steps p.tables e below (T26.setTop (mkF m 166 #[.val (.int p0), .val (.int p1), .val (.long (b1_0 p0 p1)), .second, .val (.long (b1_0 (0 : Int32) (0 : Int32))), .second, .val (.int (1 : Int32)), .val (.int (1 : Int32)), .val (.int sl), .val (.int (1 : Int32)), .val (.int el), .val (.int (1 : Int32)), .val (.int (1 : Int32))] [])) _
    refine XS.iload X26.here hx rfl (hb hby at_166) rfl ?_
    show Steps p.tables e below (T26.setTop (mkF m 168 #[.val (.int p0), .val (.int p1), .val (.long (b1_0 p0 p1)), .second, .val (.long (b1_0 (0 : Int32) (0 : Int32))), .second, .val (.int (1 : Int32)), .val (.int (1 : Int32)), .val (.int sl), .val (.int (1 : Int32)), .val (.int el), .val (.int (1 : Int32)), .val (.int (1 : Int32))] [(.int (1 : Int32))])) _
    refine XS.ifNo X26.here hx rfl (hb hby at_168) rfl ((if0 _ _).trans (feq (by decide : ¬ ((1 : Int32) = (0 : Int32)))).1) ?_
    show Steps p.tables e below (T26.setTop (mkF m 171 #[.val (.int p0), .val (.int p1), .val (.long (b1_0 p0 p1)), .second, .val (.long (b1_0 (0 : Int32) (0 : Int32))), .second, .val (.int (1 : Int32)), .val (.int (1 : Int32)), .val (.int sl), .val (.int (1 : Int32)), .val (.int el), .val (.int (1 : Int32)), .val (.int (1 : Int32))] [])) _
    refine XS.iload X26.here hx rfl (hb hby at_171) rfl ?_
    show Steps p.tables e below (T26.setTop (mkF m 173 #[.val (.int p0), .val (.int p1), .val (.long (b1_0 p0 p1)), .second, .val (.long (b1_0 (0 : Int32) (0 : Int32))), .second, .val (.int (1 : Int32)), .val (.int (1 : Int32)), .val (.int sl), .val (.int (1 : Int32)), .val (.int el), .val (.int (1 : Int32)), .val (.int (1 : Int32))] [(.int (1 : Int32))])) _
    refine XS.ifNo X26.here hx rfl (hb hby at_173) rfl ((if0 _ _).trans (feq (by decide : ¬ ((1 : Int32) = (0 : Int32)))).1) ?_
    show Steps p.tables e below (T26.setTop (mkF m 176 #[.val (.int p0), .val (.int p1), .val (.long (b1_0 p0 p1)), .second, .val (.long (b1_0 (0 : Int32) (0 : Int32))), .second, .val (.int (1 : Int32)), .val (.int (1 : Int32)), .val (.int sl), .val (.int (1 : Int32)), .val (.int el), .val (.int (1 : Int32)), .val (.int (1 : Int32))] [])) _
    refine XS.iload X26.here hx rfl (hb hby at_176) rfl ?_
    show Steps p.tables e below (T26.setTop (mkF m 178 #[.val (.int p0), .val (.int p1), .val (.long (b1_0 p0 p1)), .second, .val (.long (b1_0 (0 : Int32) (0 : Int32))), .second, .val (.int (1 : Int32)), .val (.int (1 : Int32)), .val (.int sl), .val (.int (1 : Int32)), .val (.int el), .val (.int (1 : Int32)), .val (.int (1 : Int32))] [(.int (1 : Int32))])) _
    refine XS.ifNo X26.here hx rfl (hb hby at_178) rfl ((if0 _ _).trans (feq (by decide : ¬ ((1 : Int32) = (0 : Int32)))).1) ?_
    show Steps p.tables e below (T26.setTop (mkF m 181 #[.val (.int p0), .val (.int p1), .val (.long (b1_0 p0 p1)), .second, .val (.long (b1_0 (0 : Int32) (0 : Int32))), .second, .val (.int (1 : Int32)), .val (.int (1 : Int32)), .val (.int sl), .val (.int (1 : Int32)), .val (.int el), .val (.int (1 : Int32)), .val (.int (1 : Int32))] [])) _
    refine XS.iload X26.here hx rfl (hb hby at_181) rfl ?_
    show Steps p.tables e below (T26.setTop (mkF m 183 #[.val (.int p0), .val (.int p1), .val (.long (b1_0 p0 p1)), .second, .val (.long (b1_0 (0 : Int32) (0 : Int32))), .second, .val (.int (1 : Int32)), .val (.int (1 : Int32)), .val (.int sl), .val (.int (1 : Int32)), .val (.int el), .val (.int (1 : Int32)), .val (.int (1 : Int32))] [(.int (1 : Int32))])) _
    refine XS.ifNo X26.here hx rfl (hb hby at_183) rfl ((if0 _ _).trans (feq (by decide : ¬ ((1 : Int32) = (0 : Int32)))).1) ?_
    show Steps p.tables e below (T26.setTop (mkF m 186 #[.val (.int p0), .val (.int p1), .val (.long (b1_0 p0 p1)), .second, .val (.long (b1_0 (0 : Int32) (0 : Int32))), .second, .val (.int (1 : Int32)), .val (.int (1 : Int32)), .val (.int sl), .val (.int (1 : Int32)), .val (.int el), .val (.int (1 : Int32)), .val (.int (1 : Int32))] [])) _
    refine XS.iload X26.here hx rfl (hb hby at_186) rfl ?_
    show Steps p.tables e below (T26.setTop (mkF m 188 #[.val (.int p0), .val (.int p1), .val (.long (b1_0 p0 p1)), .second, .val (.long (b1_0 (0 : Int32) (0 : Int32))), .second, .val (.int (1 : Int32)), .val (.int (1 : Int32)), .val (.int sl), .val (.int (1 : Int32)), .val (.int el), .val (.int (1 : Int32)), .val (.int (1 : Int32))] [(.int (1 : Int32))])) _
    refine XS.ifNo X26.here hx rfl (hb hby at_188) rfl ((if0 _ _).trans (feq (by decide : ¬ ((1 : Int32) = (0 : Int32)))).1) ?_
    show Steps p.tables e below (T26.setTop (mkF m 191 #[.val (.int p0), .val (.int p1), .val (.long (b1_0 p0 p1)), .second, .val (.long (b1_0 (0 : Int32) (0 : Int32))), .second, .val (.int (1 : Int32)), .val (.int (1 : Int32)), .val (.int sl), .val (.int (1 : Int32)), .val (.int el), .val (.int (1 : Int32)), .val (.int (1 : Int32))] [])) _
    refine XS.iconst X26.here hx rfl (hb hby at_191) ?_
    show Steps p.tables e below (T26.setTop (mkF m 192 #[.val (.int p0), .val (.int p1), .val (.long (b1_0 p0 p1)), .second, .val (.long (b1_0 (0 : Int32) (0 : Int32))), .second, .val (.int (1 : Int32)), .val (.int (1 : Int32)), .val (.int sl), .val (.int (1 : Int32)), .val (.int el), .val (.int (1 : Int32)), .val (.int (1 : Int32))] [(.int (1 : Int32))])) _
    refine XS.goto X26.here hx rfl (pc0 := 192) (pc' := 196) rfl (hb hby at_192) (by decide) (by decide) ?_
    show Steps p.tables e below (T26.setTop (mkF m 196 #[.val (.int p0), .val (.int p1), .val (.long (b1_0 p0 p1)), .second, .val (.long (b1_0 (0 : Int32) (0 : Int32))), .second, .val (.int (1 : Int32)), .val (.int (1 : Int32)), .val (.int sl), .val (.int (1 : Int32)), .val (.int el), .val (.int (1 : Int32)), .val (.int (1 : Int32))] [(.int (1 : Int32))])) _
    exact retN X26 hx (t := .boolean) Bd.returns (by simp) (hb hby at_196) hr
  · show Q0 Z p0 p1 h0 n0 _ T26.heap _
    rw [eh26]
    exact ⟨rfl, N26⟩
set_option maxRecDepth 65536 in
set_option maxHeartbeats 40000000 in
theorem comes_1 {Post : Tables → Env → Array Value → State → Outcome → State → Prop} (hpost : ∀ tb e args s v u, (limb_1_1.after args s (.returned v) u = true ∧ limb_1_2.after args s (.returned v) u = true ∧ True) → FrameEnd s (.returned v) u (Jvm.fieldLocs frame_1_writes args s ++ Jvm.arrayLocs frame_1_arrays args s ++ Jvm.staticLocs frame_1_statics s) 0 0 → Post tb e args s (.returned v) u) :
    ArmFor flags0 classFile x code maxLocals ret World_1 tables_1 room_1 Calls_1 rest_1 Pre_1 Post := by
  intro l hfl _ _ p e ha hc hk s m args below hf hA hF happ hP
  obtain ⟨hcalls, hrest, hpre⟩ := hP
  obtain ⟨-, -, -, hnamed, -, -, -, hat⟩ := (Spec.applies_iff hf).mp happ
  obtain ⟨hg, hn⟩ := and_e (Cond.before_iff.mp (show (Jvm.Cond.and given_1 narrow_1).before args s = true from hpre))
  obtain ⟨g1, g2⟩ := and_e hg
  obtain ⟨g3, g4⟩ := and_e g2
  obtain ⟨w0, w1, rfl⟩ : ∃ w0 w1 : Value, args = #[w0, w1] := by
    have hs : args.size = 2 := by simpa [Cond.value, given_1] using g1
    obtain ⟨L⟩ := args
    match L, hs with
    | [w0, w1], _ => exact ⟨w0, w1, rfl⟩
  have hw := fun d (hd : d ∈ tables_1) => atoms_spec (ws := Jvm.Cond.code x code maxLocals ret :: tables_1) hat d (List.mem_cons_of_mem _ hd)
  obtain ⟨i0, ei0⟩ := is_v g3
  obtain rfl : w0 = (.int i0) := Option.some.inj ei0
  obtain ⟨i1, ei1⟩ := is_v g4
  obtain rfl : w1 = (.int i1) := Option.some.inj ei1
  obtain ⟨n, o, h1, h2, h3, _, L, rfl, ⟨rfl, N⟩, hq⟩ := rm0 l s _ hw tables_1 i0 i1 s.heap s.heap.size (Nat.le_refl _) p e ha hc hk s m _ below hf ((Spec.applies_iff_loose hf).mp happ).1 ⟨rfl, State.Warmed39.refl s, rfl⟩ trivial
  refine ⟨n, _, h1, h2, h3, hpost _ _ _ _ _ _ ⟨Cond.after_iff.mpr rfl, Cond.after_iff.mpr (eq_i res_at (Term.int_eval (1)) rfl), trivial⟩ ⟨hq.1, hq.2.1, (hq.2.2.sift fun y hy => Or.inr (N y hy)).mono (by decide) (by decide)⟩⟩
theorem main_1_1 : Claimed_1_1 := comes_1 fun _ _ _ _ _ _ h hF => ⟨h.1, hF⟩
theorem main_1_2 : Claimed_1_2 := comes_1 fun _ _ _ _ _ _ h hF => ⟨h.2.1, hF⟩
end Jvm.Pilot.@@N@@
namespace Jvm.Pilot.@@N@@
open Jvm Jvm.ClassFile Sem Op Lib Jvm.Free Jvm.Stand Jvm.Pilot.@@N@@.Jvm.D
/-! MADE BY PROGRAM (witnessworld.py) out of the Statement's table words and the real class files: 9 classes; the members and pool entries that the words name. The judged class is class 1, her method 1. -/
namespace start1
open Jvm.ClassFile
def u (s : String) : CpInfo := .utf8 (stringToUtf16 s)
/-- a pool by its gaps: so many unusable entries, then the entry; so many at the end -/
def gap : Nat → List CpInfo → List CpInfo
  | 0, r => r
  | n + 1, r => .unusable :: gap n r
def poolList (es : List (Nat × CpInfo)) (last : Nat) : List CpInfo := es.foldr (fun e r => gap e.1 (e.2 :: r)) (gap last [])
def pool (es : List (Nat × CpInfo)) (last : Nat) : Array CpInfo := ⟨poolList es last⟩
def fileOf (pool : Array CpInfo) (this : Nat) (attrs : Array Attribute := #[]) (ms : Array MethodInfo := #[]) (fl : Nat := 33) (sup : Nat := 0) (ifs : Array Nat := #[]) (fds : Array FieldInfo := #[]) : ClassFile where
  minorVersion := 0
  majorVersion := 65
  constantPool := pool
  accessFlags := fl
  thisClass := this
  superClass := sup
  interfaces := ifs
  fields := fds
  methods := ms
  attributes := attrs
def plain (name : String) (sup : Option ClassId) : Class where
  name := name
  kind := .ordinary
  loader := none
  accessFlags := 33
  super := sup
  interfaces := #[]
  cf := none
  fields := #[]
  methods := #[]
  instanceTypes := #[]
  staticTypes := #[]
  resolved := #[]
  callSites := []
  init := .initialized
  statics := none
  mirror := none

def pool0 : Array CpInfo := pool [(5, u "<init>"), (0, u "()V"), (1, .class_ 10), (1, u "java/lang/Object")] 113

def k0m0 : Method := { name := "<init>", desc := "()V", sig := { parameters := [], returnType := none }, accessFlags := 1, code := none }
/-- java/lang/Object -/
def k0 : Class := { plain "java/lang/Object" none with
  accessFlags := 33
  interfaces := #[]
  cf := some (fileOf pool0 8 #[] #[{ accessFlags := 1, nameIndex := 5, descriptorIndex := 6, attributes := #[] }] 33 0 #[] #[])
  fields := #[]
  methods := #[k0m0]
  instanceTypes := #[]
  staticTypes := #[]
  resolved := Array.replicate 124 none
  statics := none }

def pool1 : Array CpInfo := pool [(2, .class_ 4), (1, u "java/lang/Object"), (0, u "<init>"), (0, u "()V"), (0, .methodref 8 9), (0, .class_ 10), (0, .nameAndType 11 12), (0, u "com/example/brisk_ledger/briskledger/store/IndexFile"), (0, u "size"), (0, u "(II)J"), (0, .long 40), (3, .integer 2147483647), (0, .long 4), (1, .long 20), (1, .class_ 23), (0, u "com/example/brisk_ledger/briskledger/store/IndexFileSizePinLaw"), (2, u "law"), (0, u "(II)Z")] 3

def k1m0 : Method := { name := "<init>", desc := "()V", sig := { parameters := [], returnType := none }, accessFlags := 2, code := none }
def k1c1 : Code := { maxStack := 6, maxLocals := 13, code := code, exceptionTable := #[], attributes := #[] }
def k1m1 : Method := { name := "law", desc := "(II)Z", sig := { parameters := [.int, .int], returnType := some .boolean }, accessFlags := 9, code := some k1c1 }
/-- com/example/brisk_ledger/briskledger/store/IndexFileSizePinLaw -/
def k1 : Class := { plain "com/example/brisk_ledger/briskledger/store/IndexFileSizePinLaw" (some 0) with
  accessFlags := 49
  interfaces := #[]
  cf := some (fileOf pool1 22 #[] #[{ accessFlags := 2, nameIndex := 5, descriptorIndex := 6, attributes := #[] }, { accessFlags := 9, nameIndex := 26, descriptorIndex := 27, attributes := #[] }] 49 2 #[] #[])
  fields := #[]
  methods := #[k1m0, k1m1]
  instanceTypes := #[]
  staticTypes := #[]
  resolved := Array.replicate 31 none
  statics := none }

def pool2 : Array CpInfo := pool [(2, .class_ 4), (1, u "java/lang/Object"), (3, .class_ 10), (1, u "com/example/brisk_ledger/briskledger/store/IndexFile"), (0, u "path"), (0, u "Ljava/nio/file/Path;"), (2, u "buffer"), (0, u "Ljava/nio/MappedByteBuffer;"), (2, u "slots"), (0, u "I"), (2, u "capacity"), (2, u "count"), (0, .long 40), (1, .long 4), (1, .long 20), (3, u "size"), (0, u "(II)J"), (133, u "torn"), (0, u "Z"), (20, .class_ 194), (1, u "com/example/brisk_ledger/briskledger/store/IndexFile$KeyCheck"), (13, u "HEADER_SIZE"), (2, u "SLOT_SIZE"), (1, u "ENTRY_SIZE"), (1, u "BEGIN_TIMESTAMP"), (1, u "END_TIMESTAMP"), (1, u "BEGIN_PHYSICAL_OFFSET"), (1, u "END_PHYSICAL_OFFSET"), (1, u "SLOTS_IN_USE"), (1, u "COUNT"), (1, u "PHYSICAL_OFFSET"), (0, u "TIME_DIFF"), (1, u "PREVIOUS"), (0, u "MILLIS_PER_SECOND"), (0, u "J")] 54

def k2c0 : Code := { maxStack := 6, maxLocals := 2, code := prog_52_method_2_code, exceptionTable := #[], attributes := #[] }
def k2m0 : Method := { name := "size", desc := "(II)J", sig := { parameters := [.int, .int], returnType := some .long }, accessFlags := 8, code := some k2c0 }
/-- com/example/brisk_ledger/briskledger/store/IndexFile -/
def k2 : Class := { plain "com/example/brisk_ledger/briskledger/store/IndexFile" (some 0) with
  accessFlags := 48
  interfaces := #[]
  cf := some (fileOf pool2 8 #[.nestMembers #[192]] #[{ accessFlags := 8, nameIndex := 35, descriptorIndex := 36, attributes := #[] }] 48 2 #[] #[{ accessFlags := 24, nameIndex := 208, descriptorIndex := 20, attributes := #[] }, { accessFlags := 24, nameIndex := 211, descriptorIndex := 20, attributes := #[] }, { accessFlags := 24, nameIndex := 213, descriptorIndex := 20, attributes := #[] }, { accessFlags := 26, nameIndex := 215, descriptorIndex := 20, attributes := #[] }, { accessFlags := 26, nameIndex := 217, descriptorIndex := 20, attributes := #[] }, { accessFlags := 26, nameIndex := 219, descriptorIndex := 20, attributes := #[] }, { accessFlags := 26, nameIndex := 221, descriptorIndex := 20, attributes := #[] }, { accessFlags := 26, nameIndex := 223, descriptorIndex := 20, attributes := #[] }, { accessFlags := 26, nameIndex := 225, descriptorIndex := 20, attributes := #[] }, { accessFlags := 26, nameIndex := 227, descriptorIndex := 20, attributes := #[] }, { accessFlags := 26, nameIndex := 228, descriptorIndex := 20, attributes := #[] }, { accessFlags := 26, nameIndex := 230, descriptorIndex := 20, attributes := #[] }, { accessFlags := 26, nameIndex := 231, descriptorIndex := 232, attributes := #[] }, { accessFlags := 18, nameIndex := 11, descriptorIndex := 12, attributes := #[] }, { accessFlags := 18, nameIndex := 15, descriptorIndex := 16, attributes := #[] }, { accessFlags := 18, nameIndex := 19, descriptorIndex := 20, attributes := #[] }, { accessFlags := 18, nameIndex := 23, descriptorIndex := 20, attributes := #[] }, { accessFlags := 2, nameIndex := 26, descriptorIndex := 20, attributes := #[] }, { accessFlags := 2, nameIndex := 170, descriptorIndex := 171, attributes := #[] }])
  fields := #[{ name := "HEADER_SIZE", type := .int, accessFlags := 24, slot := 0, constantValue := 0 }, { name := "SLOT_SIZE", type := .int, accessFlags := 24, slot := 1, constantValue := 0 }, { name := "ENTRY_SIZE", type := .int, accessFlags := 24, slot := 2, constantValue := 0 }, { name := "BEGIN_TIMESTAMP", type := .int, accessFlags := 26, slot := 3, constantValue := 0 }, { name := "END_TIMESTAMP", type := .int, accessFlags := 26, slot := 4, constantValue := 0 }, { name := "BEGIN_PHYSICAL_OFFSET", type := .int, accessFlags := 26, slot := 5, constantValue := 0 }, { name := "END_PHYSICAL_OFFSET", type := .int, accessFlags := 26, slot := 6, constantValue := 0 }, { name := "SLOTS_IN_USE", type := .int, accessFlags := 26, slot := 7, constantValue := 0 }, { name := "COUNT", type := .int, accessFlags := 26, slot := 8, constantValue := 0 }, { name := "PHYSICAL_OFFSET", type := .int, accessFlags := 26, slot := 9, constantValue := 0 }, { name := "TIME_DIFF", type := .int, accessFlags := 26, slot := 10, constantValue := 0 }, { name := "PREVIOUS", type := .int, accessFlags := 26, slot := 11, constantValue := 0 }, { name := "MILLIS_PER_SECOND", type := .long, accessFlags := 26, slot := 12, constantValue := 0 }, { name := "path", type := (.object "java/nio/file/Path"), accessFlags := 18, slot := 0, constantValue := 0 }, { name := "buffer", type := (.object "java/nio/MappedByteBuffer"), accessFlags := 18, slot := 1, constantValue := 0 }, { name := "slots", type := .int, accessFlags := 18, slot := 2, constantValue := 0 }, { name := "capacity", type := .int, accessFlags := 18, slot := 3, constantValue := 0 }, { name := "count", type := .int, accessFlags := 2, slot := 4, constantValue := 0 }, { name := "torn", type := .boolean, accessFlags := 2, slot := 5, constantValue := 0 }]
  methods := #[k2m0]
  instanceTypes := #[(.object "java/nio/file/Path"), (.object "java/nio/MappedByteBuffer"), .int, .int, .int, .boolean]
  staticTypes := #[.int, .int, .int, .int, .int, .int, .int, .int, .int, .int, .int, .int, .long]
  resolved := Array.replicate 287 none
  statics := none }

def pool3 : Array CpInfo := pool [(1, u "java/lang/Cloneable"), (0, .class_ 1), (0, u "java/lang/Object"), (0, .class_ 3)] 3

/-- java/lang/Cloneable -/
def k3 : Class := { plain "java/lang/Cloneable" (some 0) with
  accessFlags := 1537
  interfaces := #[]
  cf := some (fileOf pool3 2 #[] #[] 1537 4 #[] #[])
  fields := #[]
  methods := #[]
  instanceTypes := #[]
  staticTypes := #[]
  resolved := Array.replicate 8 none
  statics := none }

def pool4 : Array CpInfo := pool [(1, u "java/io/Serializable"), (0, .class_ 1), (0, u "java/lang/Object"), (0, .class_ 3)] 3

/-- java/io/Serializable -/
def k4 : Class := { plain "java/io/Serializable" (some 0) with
  accessFlags := 1537
  interfaces := #[]
  cf := some (fileOf pool4 2 #[] #[] 1537 4 #[] #[])
  fields := #[]
  methods := #[]
  instanceTypes := #[]
  staticTypes := #[]
  resolved := Array.replicate 8 none
  statics := none }

/-- the primitive byte -/
def k5 : Class := { plain "byte" none with kind := .primitive 'B', accessFlags := 0x411 }
/-- [B -/
def k6 : Class := { plain "[B" (some 0) with kind := .array 5 .byte, interfaces := #[3, 4], accessFlags := 1041 }

/-- the primitive int -/
def k7 : Class := { plain "int" none with kind := .primitive 'I', accessFlags := 0x411 }
/-- [I -/
def k8 : Class := { plain "[I" (some 0) with kind := .array 7 .int, interfaces := #[3, 4], accessFlags := 1041 }

def heap : Heap := #[]
def classes : Array Class := #[k0, k1, k2, k3, k4, k5, k6, k7, k8]
def interned : List (Array UInt16 × Addr) := []
def slotsUsed : Nat := 0
def theMethod : MethodId := ⟨1, 1⟩
def args0 : Array Value := #[.int 5, .int 3]
def aboutOver (below : List Frame) : State where
  vm := { classes := classes, interned := interned.toArray }
  heap := heap
  slotsUsed := slotsUsed
  threads := #[{ frames := .invoking theMethod args0 :: below }]
def below0 : List Frame := [.native { method := ⟨0, 0⟩, args := #[] }]
def about1 : State := aboutOver below0
def p0 : Program := .bare "" "" ""
def e0 : Env := launch0.env 0 0 0
theorem w_frames : about1.frames = Frame.invoking theMethod args0 :: below0 := rfl
set_option maxRecDepth 65536 in
theorem w_args : argsFit about1.vm theMethod args0 = true := by decide +kernel
set_option maxRecDepth 65536 in
theorem w_heap : heapFits about1 = true := by decide +kernel
set_option maxRecDepth 65536 in
theorem w_runnable : about1.curStatus? = some .runnable := by decide +kernel
set_option maxRecDepth 65536 in
theorem w_alone : about1.alone = true := by decide +kernel
set_option maxRecDepth 65536 in
theorem w_named : about1.methodNamed? x = some theMethod := by decide +kernel
set_option maxRecDepth 65536 in
theorem w_hears : about1.hears theMethod below0 = true := by decide +kernel
set_option maxRecDepth 65536 in
theorem w_ripe : about1.ripe theMethod args0 below0 = true := by decide +kernel
theorem w_running : about1.status = .running := rfl
set_option maxRecDepth 65536 in
theorem w_room : about1.hasRoom e0.platform room_1 = true :=
  launch0.hasRoom_least _ room_1 (by decide +kernel) (by decide +kernel) (by decide +kernel) (by decide +kernel) (by decide +kernel) (by decide +kernel)
theorem allAtoms_all (ts : List Jvm.Cond) (a : Array Jvm.Value) (st : Jvm.State) : (allAtoms ts).before a st = ts.all (fun c => c.before a st) := by
  induction ts with
  | nil => rfl
  | cons c t ih =>
    show (Jvm.Cond.and c (allAtoms t)).before a st = _
    rw [Jvm.Cond.before_and, ih, List.all_cons]
def words1 : List Jvm.Cond := Jvm.Cond.code x code maxLocals ret :: tables_1
/-- a 'code' word, met by the world's own term for the bytes: nothing is compared byte by byte -/
theorem code_word {y : MethodName} {bytes : ByteArray} {mx : Nat} {rt : Option FieldType} {a : Array Value} {s : State} {m : MethodId} {meth : Method} {c : Code} (h1 : s.methodNamed? y = some m) (h2 : s.vm.method? m = some meth) (h3 : meth.code = some c) (h4 : c.code = bytes)
    (h5 : (c.maxLocals == mx && c.exceptionTable.isEmpty && decide (c.maxStack ≤ mostOperands) && decide (meth.sig.returnType = rt) && !meth.locks && decide (parseMethodDescriptor y.desc = some meth.sig)) = true) : (Jvm.Cond.code y bytes mx rt).before a s = true := by
  simp only [Bool.and_eq_true, beq_iff_eq, Bool.not_eq_true', decide_eq_true_eq] at h5
  obtain ⟨⟨⟨⟨⟨g1, g2⟩, g3⟩, g4⟩, g5⟩, g6⟩ := h5
  simp [Cond.before, Cond.holds, Cond.value, h1, h2, h3, h4, g1, g2, g3, g4, g5, g6]
def isCode : Jvm.Cond → Bool
  | .code _ _ _ _ => true
  | _ => false
theorem all_split {L : List Jvm.Cond} {P : Jvm.Cond → Bool} (h1 : L.all (fun c => isCode c || P c) = true) (h2 : ∀ c ∈ L.filter isCode, P c = true) : L.all P = true := by
  refine List.all_eq_true.mpr fun c hc => ?_
  have h := List.all_eq_true.mp h1 c hc
  rcases Bool.eq_false_or_eq_true (isCode c) with hi | hi
  · exact h2 c (List.mem_filter.mpr ⟨hc, hi⟩)
  · simpa [hi] using h
set_option maxRecDepth 65536 in
theorem w_c0 : (Jvm.Cond.code x code maxLocals ret).before args0 about1 = true := code_word (m := ⟨1, 1⟩) (meth := k1m1) (c := k1c1) (by decide +kernel) rfl rfl rfl (by decide +kernel)
set_option maxRecDepth 65536 in
theorem w_c1 : (Jvm.Cond.code ({ cls := "com/example/brisk_ledger/briskledger/store/IndexFile", name := "size", desc := "(II)J" } : Jvm.MethodName) prog_52_method_2_code (2 : Nat) (Option.some Jvm.ClassFile.FieldType.long)).before args0 about1 = true := code_word (m := ⟨2, 0⟩) (meth := k2m0) (c := k2c0) (by decide +kernel) rfl rfl rfl (by decide +kernel)
def codes1 : List Jvm.Cond := [Jvm.Cond.code x code maxLocals ret, Jvm.Cond.code ({ cls := "com/example/brisk_ledger/briskledger/store/IndexFile", name := "size", desc := "(II)J" } : Jvm.MethodName) prog_52_method_2_code (2 : Nat) (Option.some Jvm.ClassFile.FieldType.long)]
set_option maxRecDepth 65536 in
theorem codes_eq : words1.filter isCode = codes1 := rfl
theorem w_codes : ∀ c ∈ words1.filter isCode, c.before args0 about1 = true := by
  rw [codes_eq]
  intro c hc
  simp only [codes1, List.mem_cons, List.not_mem_nil, or_false] at hc
  rcases hc with rfl | rfl
  · exact w_c0
  · exact w_c1
set_option maxRecDepth 65536 in
theorem w_t1 : words1.all (fun c => isCode c || c.before args0 about1) = true := by decide +kernel
theorem w_tables : (allAtoms (Jvm.Cond.code x code maxLocals ret :: tables_1)).before args0 about1 = true := by
  rw [allAtoms_all]
  show words1.all (fun c => c.before args0 about1) = true
  refine all_split ?_ w_codes
  rw [w_t1]
set_option maxRecDepth 65536 in
theorem w_case : (Jvm.Cond.and given_1 narrow_1).before args0 about1 = true := by decide +kernel
theorem w_applies : (headSpec (Jvm.Cond.code x code maxLocals ret :: tables_1) room_1).applies x e0.platform about1 = true :=
  (Spec.applies_iff w_frames).mpr ⟨w_running, w_runnable, w_alone, w_named, w_hears, w_ripe, w_room, w_tables⟩
theorem atStart : AtStart classFile x code maxLocals ret World_1 tables_1 room_1 Calls_1 rest_1 Pre_1 launch0 p0 e0 about1 theMethod args0 below0 :=
  ⟨lists_1, trivial, launch0.admits_env _ _ _, launch0.least_env, fairChoices_fair.cas, fairChoices_fair.clock, w_frames, w_args, w_heap, w_applies, trivial, trivial, w_case⟩
end start1
theorem witness_1 : WitnessClaimed_1 := ⟨start1.p0, start1.e0, start1.about1, start1.theMethod, start1.args0, start1.below0, start1.atStart⟩
end Jvm.Pilot.@@N@@
