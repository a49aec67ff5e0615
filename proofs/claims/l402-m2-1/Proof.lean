import JvmDerived
import JvmDerived.Pilot.@@N@@Statement
import JvmDerived.Pilot.@@N@@Code
set_option linter.unusedVariables false
set_option linter.unusedSimpArgs false
namespace Jvm.Pilot.@@N@@
open Jvm Jvm.ClassFile Sem Op Lib Jvm.Free Jvm.Stand Jvm.LawKit Jvm.RoadKit Bundle Jvm.Pilot.@@N@@.Jvm.D
theorem d1_0 : decode prog_59_method_5_code 0 = .ok (.ldc2_w 176, 3) := by decide +kernel
theorem d1_3 : decode prog_59_method_5_code 3 = .ok (.lload_n 0, 1) := by decide +kernel
theorem d1_4 : decode prog_59_method_5_code 4 = .ok (.ladd, 1) := by decide +kernel
theorem d1_5 : decode prog_59_method_5_code 5 = .ok (.iload_n 2, 1) := by decide +kernel
theorem d1_6 : decode prog_59_method_5_code 6 = .ok (.i2l, 1) := by decide +kernel
theorem d1_7 : decode prog_59_method_5_code 7 = .ok (.ladd, 1) := by decide +kernel
theorem d1_8 : decode prog_59_method_5_code 8 = .ok (.iload_n 3, 1) := by decide +kernel
theorem d1_9 : decode prog_59_method_5_code 9 = .ok (.i2l, 1) := by decide +kernel
theorem d1_10 : decode prog_59_method_5_code 10 = .ok (.ladd, 1) := by decide +kernel
theorem d1_11 : decode prog_59_method_5_code 11 = .ok (.lreturn, 1) := by decide +kernel
theorem pn_1 : plainName "com/example/brisk_ledger/briskledger/store/MessageRecord" = true := by first | (simp [plainName, overriddenIn]; done) | decide +kernel
theorem ef_1 (m : MethodId) (q0 : Int64) (p1 : Int32) (p2 : Int32) : entryFrame m #[(.long q0), (.int p1), (.int p2)] 4 = mkF m 0 #[.val (.long q0), .second, .val (.int p1), .val (.int p2)] [] := by first | (simp [entryFrame, mkF, argsToLocals, Value.category]; done) | rfl
def b1_0 (q0 : Int64) (p1 : Int32) (p2 : Int32) : Int64 := ((((91 : Int64) + q0) + (p1.toInt64)) + (p2.toInt64))
set_option maxRecDepth 65536 in
set_option maxHeartbeats 40000000 in
theorem bl1_0 {p : Program} {l : Launch} {e : Env} {R : Room} {s : State} {m : MethodId} {args : Array Value} {below : List Frame} {meth : Method} {c : Code} {T : State} {locs : List Loc} {cells slots : Nat} {Z : State} {a0 : Array Value} (q0 : Int64) (p1 : Int32) (p2 : Int32) (X0 : Stand p l e R s m args below meth c T locs cells slots) (hx : p.tables.exec = Jvm.exec) (hZ : Z.Warmed39 s.vm) (hw : ∀ d ∈ tables_1, d.before a0 Z = true) (hby : c.code = prog_59_method_5_code) (hown : s.vm.findClass "com/example/brisk_ledger/briskledger/store/MessageRecord" = some m.cls) (hrt : meth.sig.returnType = some .long) {fs : List Frame} (hr : ∀ (f : JFrame) (acts : List Action), f.method = m → f.locked = none → f.entered = [] → (doReturn e (T.setTop f) acts (some (.long (b1_0 q0 p1 p2)))).1 = T.setFrames fs) :
    Steps p.tables e below (T.setTop (mkF m 0 #[.val (.long q0), .second, .val (.int p1), .val (.int p2)] [])) (T.setFrames fs) := by
  rw [show b1_0 q0 p1 p2 = ((((91 : Int64) + q0) + (p1.toInt64)) + (p2.toInt64)) from by rw [b1_0]] at hr
  refine X0.ldc2Long hx hown (mvT hZ (hw _ (List.mem_of_getElem? (i := 5) rfl))) (g := (mkF m 0 #[.val (.long q0), .second, .val (.int p1), .val (.int p2)] [])) rfl (hb hby d1_0) _ ?_
  show Steps p.tables e below (T.setTop (mkF m 3 #[.val (.long q0), .second, .val (.int p1), .val (.int p2)] [(.long (91 : Int64))])) _
  refine XS.lloadN X0.here hx rfl (hb hby d1_3) rfl ?_
  show Steps p.tables e below (T.setTop (mkF m 4 #[.val (.long q0), .second, .val (.int p1), .val (.int p2)] [(.long q0), (.long (91 : Int64))])) _
  refine XS.ladd X0.here hx rfl (hb hby d1_4) rfl ?_
  show Steps p.tables e below (T.setTop (mkF m 5 #[.val (.long q0), .second, .val (.int p1), .val (.int p2)] [(.long ((91 : Int64) + q0))])) _
  refine XS.iloadN X0.here hx rfl (hb hby d1_5) rfl ?_
  show Steps p.tables e below (T.setTop (mkF m 6 #[.val (.long q0), .second, .val (.int p1), .val (.int p2)] [(.int p1), (.long ((91 : Int64) + q0))])) _
  refine XS.i2l X0.here hx rfl (hb hby d1_6) rfl ?_
  show Steps p.tables e below (T.setTop (mkF m 7 #[.val (.long q0), .second, .val (.int p1), .val (.int p2)] [(.long (p1.toInt64)), (.long ((91 : Int64) + q0))])) _
  refine XS.ladd X0.here hx rfl (hb hby d1_7) rfl ?_
  show Steps p.tables e below (T.setTop (mkF m 8 #[.val (.long q0), .second, .val (.int p1), .val (.int p2)] [(.long (((91 : Int64) + q0) + (p1.toInt64)))])) _
  refine XS.iloadN X0.here hx rfl (hb hby d1_8) rfl ?_
  show Steps p.tables e below (T.setTop (mkF m 9 #[.val (.long q0), .second, .val (.int p1), .val (.int p2)] [(.int p2), (.long (((91 : Int64) + q0) + (p1.toInt64)))])) _
  refine XS.i2l X0.here hx rfl (hb hby d1_9) rfl ?_
  show Steps p.tables e below (T.setTop (mkF m 10 #[.val (.long q0), .second, .val (.int p1), .val (.int p2)] [(.long (p2.toInt64)), (.long (((91 : Int64) + q0) + (p1.toInt64)))])) _
  refine XS.ladd X0.here hx rfl (hb hby d1_10) rfl ?_
  show Steps p.tables e below (T.setTop (mkF m 11 #[.val (.long q0), .second, .val (.int p1), .val (.int p2)] [(.long ((((91 : Int64) + q0) + (p1.toInt64)) + (p2.toInt64)))])) _
  exact retOut X0 hx hrt rfl (Or.inr (Or.inl ⟨rfl, rfl, _, rfl⟩)) (hb hby d1_11) hr
def Q1 (Z : State) (q0 : Int64) (p1 : Int32) (p2 : Int32) (h0 : Heap) (n0 : Nat) (v : Option Value) (h : Heap) (L : List Loc) : Prop := v = some (.long (b1_0 q0 p1 p2)) ∧ Fr n0 L ∧ h = h0
set_option maxRecDepth 65536 in
set_option maxHeartbeats 40000000 in
theorem rm1 (l : Launch) (Z : State) (a0 : Array Value) (hw : ∀ d ∈ tables_1, d.before a0 Z = true) (ws : List Jvm.Cond) (q0 : Int64) (p1 : Int32) (p2 : Int32) (h0 : Heap) (n0 : Nat) (Z0 : n0 ≤ h0.size) :
    MetFree l (⟨"com/example/brisk_ledger/briskledger/store/MessageRecord", "sizeOf", "(JII)J"⟩ : MethodName) (head1 (Jvm.Cond.code (⟨"com/example/brisk_ledger/briskledger/store/MessageRecord", "sizeOf", "(JII)J"⟩ : MethodName) prog_59_method_5_code 4 (some .long) :: ws) ({ frames := 0, cells := 0, slots := 0, locals := 0 } : Room)) (fun a U => a = #[(.long q0), (.int p1), (.int p2)] ∧ Z.Warmed39 U.vm ∧ U.heap = h0) (fun _ _ _ _ _ => True) (fun _ U o U' => ∃ v L, o = .returned v ∧ Q1 Z q0 p1 p2 h0 n0 v U'.heap L ∧ FrameEnd U o U' L ({ frames := 0, cells := 0, slots := 0, locals := 0 } : Room).cells ({ frames := 0, cells := 0, slots := 0, locals := 0 } : Room).slots) := by
  refine MetFree.of_bodySF (plainFor_of_name pn_1) hisR ?_
  intro p e s m args below meth c s₁ Bd hml0 hP hK
  obtain ⟨rfl, hZ, hh⟩ := hP
  have hx := Bd.exec
  have hby := Bd.bytes
  have hml : c.maxLocals = 4 := hml0
  have hown : s.vm.findClass "com/example/brisk_ledger/briskledger/store/MessageRecord" = some m.cls := findClass_of_methodNamed Bd.named
  have hnm := (name_of_methodNamed Bd.named Bd.method).1
  have X0 : Stand p l e ({ frames := 0, cells := 0, slots := 0, locals := 0 } : Room) s m #[(.long q0), (.int p1), (.int p2)] below meth c s₁ [] 0 0 := Stand.of_body Bd
  have e0 : s₁.heap = h0 := by rw [← hh, Bd.state]; rfl
  have N0 := Fr.nil n0
  have pre0 : ∀ t, Steps p.tables e below (s₁.setTop (mkF m 0 #[.val (.long q0), .second, .val (.int p1), .val (.int p2)] [])) t → Steps p.tables e below (s₁.setTop (entryFrame m #[(.long q0), (.int p1), (.int p2)] 4)) t := fun t k => castTop (ef_1 m q0 p1 p2) k
  obtain ⟨fs, hr, hrun, hended, hW, hsame⟩ := X0.leave (v := some (.long (b1_0 q0 p1 p2))) (fun h => by rw [Bd.returns] at h; cases h)
  refine ⟨_, _, pre0 _ ?_, hrun, hended, _, _, rfl, ?_, ⟨_, rfl⟩, hW, hsame.mono (by decide) (by decide)⟩
  · exact bl1_0 q0 p1 p2 X0 hx hZ hw hby hown Bd.returns hr
  · show Q1 Z q0 p1 p2 h0 n0 _ s₁.heap _
    rw [e0]
    exact ⟨rfl, N0, rfl⟩
theorem own_1 : b1_0 (0 : Int64) (0 : Int32) (0 : Int32) = (91 : Int64) := by decide +kernel
theorem own_z : (0 : Int32).toInt64 = 0 := by decide
theorem own_2 (b : Int64) (t q : Int32) : b1_0 b t q = b1_0 (0 : Int64) t q + b := by
  simp only [b1_0, Int64.add_zero]; ac_rfl
theorem own_3 (b : Int64) (t q : Int32) : b1_0 b t q = b1_0 b (0 : Int32) q + t.toInt64 := by
  simp only [b1_0, own_z, Int64.add_zero]; ac_rfl
theorem own_4 (b : Int64) (t q : Int32) : b1_0 b t q = b1_0 b t (0 : Int32) + q.toInt64 := by
  simp only [b1_0, own_z, Int64.add_zero]
theorem pn_0 : plainName "com/example/brisk_ledger/briskledger/store/MessageRecordSizeOfPinLaw" = true := by first | (simp [plainName, overriddenIn]; done) | decide +kernel
theorem ef_0 (m : MethodId) (q0 : Int64) (p1 : Int32) (p2 : Int32) : entryFrame m #[(.long q0), (.int p1), (.int p2)] maxLocals = mkF m 0 #[.val (.long q0), .second, .val (.int p1), .val (.int p2), .unset, .unset, .unset, .unset, .unset, .unset, .unset, .unset, .unset, .unset, .unset, .unset, .unset, .unset, .unset, .unset] [] := by first | (simp [entryFrame, mkF, argsToLocals, Value.category, maxLocals]; done) | rfl
theorem pd_0 : parseMethodDescriptor "(JII)J" = some ⟨[.long, .int, .int], some .long⟩ := by decide +kernel
def Q0 (Z : State) (q0 : Int64) (p1 : Int32) (p2 : Int32) (h0 : Heap) (n0 : Nat) (v : Option Value) (h : Heap) (L : List Loc) : Prop := v = some (.int 1) ∧ Fr n0 L
set_option maxRecDepth 65536 in
set_option maxHeartbeats 40000000 in
theorem rm0 (l : Launch) (Z : State) (a0 : Array Value) (hw : ∀ d ∈ tables_1, d.before a0 Z = true) (ws : List Jvm.Cond) (q0 : Int64) (p1 : Int32) (p2 : Int32) (h0 : Heap) (n0 : Nat) (Z0 : n0 ≤ h0.size)  :
    MetFree l x (head1 (Jvm.Cond.code x code maxLocals ret :: ws) room_1) (fun a U => a = #[(.long q0), (.int p1), (.int p2)] ∧ Z.Warmed39 U.vm ∧ U.heap = h0) (fun _ _ _ _ _ => True) (fun _ U o U' => ∃ v L, o = .returned v ∧ Q0 Z q0 p1 p2 h0 n0 v U'.heap L ∧ FrameEnd U o U' L room_1.cells room_1.slots) := by
  refine MetFree.of_bodySF (plainFor_of_name pn_0) hisR ?_
  intro p e s m args below meth c s₁ Bd hml0 hP hK
  obtain ⟨rfl, hZ, hh⟩ := hP
  have hx := Bd.exec
  have hby := Bd.bytes
  have hml : c.maxLocals = 20 := hml0
  have hown : s.vm.findClass "com/example/brisk_ledger/briskledger/store/MessageRecordSizeOfPinLaw" = some m.cls := findClass_of_methodNamed Bd.named
  have hnm := (name_of_methodNamed Bd.named Bd.method).1
  have X0 : Stand p l e room_1 s m #[(.long q0), (.int p1), (.int p2)] below meth c s₁ [] 0 0 := Stand.of_body Bd
  have e0 : s₁.heap = h0 := by rw [← hh, Bd.state]; rfl
  have N0 := Fr.nil n0
  have pre0 : ∀ t, Steps p.tables e below (s₁.setTop (mkF m 0 #[.val (.long q0), .second, .val (.int p1), .val (.int p2), .unset, .unset, .unset, .unset, .unset, .unset, .unset, .unset, .unset, .unset, .unset, .unset, .unset, .unset, .unset, .unset] [])) t → Steps p.tables e below (s₁.setTop (entryFrame m #[(.long q0), (.int p1), (.int p2)] maxLocals)) t := fun t k => castTop (ef_0 m q0 p1 p2) k
  have pre11 : ∀ t, Steps p.tables e below (s₁.setTop (mkF m 18 #[.val (.long q0), .second, .val (.int p1), .val (.int p2), .val (.int ((p1 &&& (2147483647 : Int32)) % (2147483647 : Int32))), .val (.int ((p2 &&& (2147483647 : Int32)) % (2147483647 : Int32))), .unset, .unset, .unset, .unset, .unset, .unset, .unset, .unset, .unset, .unset, .unset, .unset, .unset, .unset] [])) t → Steps p.tables e below (s₁.setTop (entryFrame m #[(.long q0), (.int p1), (.int p2)] maxLocals)) t := fun t k => pre0 t (by
    refine XS.iloadN X0.here hx rfl (hb hby at_0) rfl ?_
    show Steps p.tables e below (s₁.setTop (mkF m 1 #[.val (.long q0), .second, .val (.int p1), .val (.int p2), .unset, .unset, .unset, .unset, .unset, .unset, .unset, .unset, .unset, .unset, .unset, .unset, .unset, .unset, .unset, .unset] [(.int p1)])) _
    refine X0.ldcInt hx hown (mvT hZ (hw _ (List.mem_of_getElem? (i := 0) rfl))) (g := (mkF m 1 #[.val (.long q0), .second, .val (.int p1), .val (.int p2), .unset, .unset, .unset, .unset, .unset, .unset, .unset, .unset, .unset, .unset, .unset, .unset, .unset, .unset, .unset, .unset] [(.int p1)])) rfl (hb hby at_1) _ ?_
    show Steps p.tables e below (s₁.setTop (mkF m 3 #[.val (.long q0), .second, .val (.int p1), .val (.int p2), .unset, .unset, .unset, .unset, .unset, .unset, .unset, .unset, .unset, .unset, .unset, .unset, .unset, .unset, .unset, .unset] [(.int (2147483647 : Int32)), (.int p1)])) _
    refine XS.iand X0.here hx rfl (hb hby at_3) rfl ?_
    show Steps p.tables e below (s₁.setTop (mkF m 4 #[.val (.long q0), .second, .val (.int p1), .val (.int p2), .unset, .unset, .unset, .unset, .unset, .unset, .unset, .unset, .unset, .unset, .unset, .unset, .unset, .unset, .unset, .unset] [(.int (p1 &&& (2147483647 : Int32)))])) _
    refine X0.ldcInt hx hown (mvT hZ (hw _ (List.mem_of_getElem? (i := 0) rfl))) (g := (mkF m 4 #[.val (.long q0), .second, .val (.int p1), .val (.int p2), .unset, .unset, .unset, .unset, .unset, .unset, .unset, .unset, .unset, .unset, .unset, .unset, .unset, .unset, .unset, .unset] [(.int (p1 &&& (2147483647 : Int32)))])) rfl (hb hby at_4) _ ?_
    show Steps p.tables e below (s₁.setTop (mkF m 6 #[.val (.long q0), .second, .val (.int p1), .val (.int p2), .unset, .unset, .unset, .unset, .unset, .unset, .unset, .unset, .unset, .unset, .unset, .unset, .unset, .unset, .unset, .unset] [(.int (2147483647 : Int32)), (.int (p1 &&& (2147483647 : Int32)))])) _
    refine Jvm.RoadKit.iremM X0 hx rfl (hb hby at_6) rfl (by decide) ?_
    show Steps p.tables e below (s₁.setTop (mkF m 7 #[.val (.long q0), .second, .val (.int p1), .val (.int p2), .unset, .unset, .unset, .unset, .unset, .unset, .unset, .unset, .unset, .unset, .unset, .unset, .unset, .unset, .unset, .unset] [(.int ((p1 &&& (2147483647 : Int32)) % (2147483647 : Int32)))])) _
    refine XS.istore X0.here hx rfl (hb hby at_7) rfl (l' := #[.val (.long q0), .second, .val (.int p1), .val (.int p2), .val (.int ((p1 &&& (2147483647 : Int32)) % (2147483647 : Int32))), .unset, .unset, .unset, .unset, .unset, .unset, .unset, .unset, .unset, .unset, .unset, .unset, .unset, .unset, .unset]) rfl ?_
    show Steps p.tables e below (s₁.setTop (mkF m 9 #[.val (.long q0), .second, .val (.int p1), .val (.int p2), .val (.int ((p1 &&& (2147483647 : Int32)) % (2147483647 : Int32))), .unset, .unset, .unset, .unset, .unset, .unset, .unset, .unset, .unset, .unset, .unset, .unset, .unset, .unset, .unset] [])) _
    refine XS.iloadN X0.here hx rfl (hb hby at_9) rfl ?_
    show Steps p.tables e below (s₁.setTop (mkF m 10 #[.val (.long q0), .second, .val (.int p1), .val (.int p2), .val (.int ((p1 &&& (2147483647 : Int32)) % (2147483647 : Int32))), .unset, .unset, .unset, .unset, .unset, .unset, .unset, .unset, .unset, .unset, .unset, .unset, .unset, .unset, .unset] [(.int p2)])) _
    refine X0.ldcInt hx hown (mvT hZ (hw _ (List.mem_of_getElem? (i := 0) rfl))) (g := (mkF m 10 #[.val (.long q0), .second, .val (.int p1), .val (.int p2), .val (.int ((p1 &&& (2147483647 : Int32)) % (2147483647 : Int32))), .unset, .unset, .unset, .unset, .unset, .unset, .unset, .unset, .unset, .unset, .unset, .unset, .unset, .unset, .unset] [(.int p2)])) rfl (hb hby at_10) _ ?_
    show Steps p.tables e below (s₁.setTop (mkF m 12 #[.val (.long q0), .second, .val (.int p1), .val (.int p2), .val (.int ((p1 &&& (2147483647 : Int32)) % (2147483647 : Int32))), .unset, .unset, .unset, .unset, .unset, .unset, .unset, .unset, .unset, .unset, .unset, .unset, .unset, .unset, .unset] [(.int (2147483647 : Int32)), (.int p2)])) _
    refine XS.iand X0.here hx rfl (hb hby at_12) rfl ?_
    show Steps p.tables e below (s₁.setTop (mkF m 13 #[.val (.long q0), .second, .val (.int p1), .val (.int p2), .val (.int ((p1 &&& (2147483647 : Int32)) % (2147483647 : Int32))), .unset, .unset, .unset, .unset, .unset, .unset, .unset, .unset, .unset, .unset, .unset, .unset, .unset, .unset, .unset] [(.int (p2 &&& (2147483647 : Int32)))])) _
    refine X0.ldcInt hx hown (mvT hZ (hw _ (List.mem_of_getElem? (i := 0) rfl))) (g := (mkF m 13 #[.val (.long q0), .second, .val (.int p1), .val (.int p2), .val (.int ((p1 &&& (2147483647 : Int32)) % (2147483647 : Int32))), .unset, .unset, .unset, .unset, .unset, .unset, .unset, .unset, .unset, .unset, .unset, .unset, .unset, .unset, .unset] [(.int (p2 &&& (2147483647 : Int32)))])) rfl (hb hby at_13) _ ?_
    show Steps p.tables e below (s₁.setTop (mkF m 15 #[.val (.long q0), .second, .val (.int p1), .val (.int p2), .val (.int ((p1 &&& (2147483647 : Int32)) % (2147483647 : Int32))), .unset, .unset, .unset, .unset, .unset, .unset, .unset, .unset, .unset, .unset, .unset, .unset, .unset, .unset, .unset] [(.int (2147483647 : Int32)), (.int (p2 &&& (2147483647 : Int32)))])) _
    refine Jvm.RoadKit.iremM X0 hx rfl (hb hby at_15) rfl (by decide) ?_
    show Steps p.tables e below (s₁.setTop (mkF m 16 #[.val (.long q0), .second, .val (.int p1), .val (.int p2), .val (.int ((p1 &&& (2147483647 : Int32)) % (2147483647 : Int32))), .unset, .unset, .unset, .unset, .unset, .unset, .unset, .unset, .unset, .unset, .unset, .unset, .unset, .unset, .unset] [(.int ((p2 &&& (2147483647 : Int32)) % (2147483647 : Int32)))])) _
    refine XS.istore X0.here hx rfl (hb hby at_16) rfl (l' := #[.val (.long q0), .second, .val (.int p1), .val (.int p2), .val (.int ((p1 &&& (2147483647 : Int32)) % (2147483647 : Int32))), .val (.int ((p2 &&& (2147483647 : Int32)) % (2147483647 : Int32))), .unset, .unset, .unset, .unset, .unset, .unset, .unset, .unset, .unset, .unset, .unset, .unset, .unset, .unset]) rfl ?_
    exact k)
  obtain ⟨tt, htt⟩ : ∃ z, z = ((p1 &&& (2147483647 : Int32)) % (2147483647 : Int32)) := ⟨_, rfl⟩
  rw [← htt] at pre11
  obtain ⟨pp, hpp⟩ : ∃ z, z = ((p2 &&& (2147483647 : Int32)) % (2147483647 : Int32)) := ⟨_, rfl⟩
  rw [← hpp] at pre11
  obtain ⟨_, _, ⟨T12, L12, k12, n12⟩, -, X12, ⟨Lc12, hQ12, l12, y12, z12⟩, st12⟩ := Jvm.LawKit.callS X0 hx (y := (⟨"com/example/brisk_ledger/briskledger/store/MessageRecord", "sizeOf", "(JII)J"⟩ : MethodName)) hown (mvT hZ (hw _ (List.mem_of_getElem? (i := 1) rfl))) (mvT hZ (hw _ (List.mem_of_getElem? (i := 2) rfl))) (mvT hZ (hw _ (List.mem_of_getElem? (i := 3) rfl))) (mvT hZ (hw _ (List.mem_of_getElem? (i := 4) rfl))) (by decide) (backOf (W := 0) (rm1 l Z a0 hw [] (0 : Int64) (0 : Int32) (0 : Int32) h0 n0 Z0) hZ (hw _ (List.mem_of_getElem? (i := 4) rfl)) (hw _ (List.mem_of_getElem? (i := 3) rfl)) (by decide) (by decide)) (g := (mkF m 21 #[.val (.long q0), .second, .val (.int p1), .val (.int p2), .val (.int tt), .val (.int pp), .unset, .unset, .unset, .unset, .unset, .unset, .unset, .unset, .unset, .unset, .unset, .unset, .unset, .unset] [(.int (0 : Int32)), (.int (0 : Int32)), (.long (0 : Int64))])) rfl (by rw [hml]; rfl) (argsL := [(.long (0 : Int64)), (.int (0 : Int32)), (.int (0 : Int32))]) (rest := []) (lenOf pd_0 rfl) rfl (by show 2 * 0 + _ ≤ _; exact Nat.le_of_eq rfl) (hb hby at_21) (fun _ _ => ⟨rfl, e0, (by decide : 0 + 0 ≤ _), (by decide : 0 + 0 ≤ _)⟩)
  dsimp only [Pt.U, Pt.locs, Pt.cells, Pt.slots] at X12 l12 y12 z12 st12 hQ12
  subst l12 y12 z12
  obtain ⟨rfl, Nq12, eh12⟩ := hQ12
  have N12 := Fr.app N0 Nq12
  obtain ⟨_, _, ⟨T13, L13, k13, n13⟩, -, X13, ⟨Lc13, hQ13, l13, y13, z13⟩, st13⟩ := Jvm.LawKit.callS X12 hx (y := (⟨"com/example/brisk_ledger/briskledger/store/MessageRecord", "sizeOf", "(JII)J"⟩ : MethodName)) hown (mvT hZ (hw _ (List.mem_of_getElem? (i := 1) rfl))) (mvT hZ (hw _ (List.mem_of_getElem? (i := 2) rfl))) (mvT hZ (hw _ (List.mem_of_getElem? (i := 3) rfl))) (mvT hZ (hw _ (List.mem_of_getElem? (i := 4) rfl))) (by decide) (backOf (W := 0) (rm1 l Z a0 hw [] q0 tt pp h0 n0 Z0) hZ (hw _ (List.mem_of_getElem? (i := 4) rfl)) (hw _ (List.mem_of_getElem? (i := 3) rfl)) (by decide) (by decide)) (g := (mkF m 31 #[.val (.long q0), .second, .val (.int p1), .val (.int p2), .val (.int tt), .val (.int pp), .val (.long (b1_0 (0 : Int64) (0 : Int32) (0 : Int32))), .second, .unset, .unset, .unset, .unset, .unset, .unset, .unset, .unset, .unset, .unset, .unset, .unset] [(.int pp), (.int tt), (.long q0)])) rfl (by rw [hml]; rfl) (argsL := [(.long q0), (.int tt), (.int pp)]) (rest := []) (lenOf pd_0 rfl) rfl (by show 2 * 0 + _ ≤ _; exact Nat.le_of_eq rfl) (hb hby at_31) (fun _ _ => ⟨rfl, eh12, (by decide : 0 + 0 ≤ _), (by decide : 0 + 0 ≤ _)⟩)
  dsimp only [Pt.U, Pt.locs, Pt.cells, Pt.slots] at X13 l13 y13 z13 st13 hQ13
  subst l13 y13 z13
  obtain ⟨rfl, Nq13, eh13⟩ := hQ13
  have N13 := Fr.app N12 Nq13
  obtain ⟨_, _, ⟨T14, L14, k14, n14⟩, -, X14, ⟨Lc14, hQ14, l14, y14, z14⟩, st14⟩ := Jvm.LawKit.callS X13 hx (y := (⟨"com/example/brisk_ledger/briskledger/store/MessageRecord", "sizeOf", "(JII)J"⟩ : MethodName)) hown (mvT hZ (hw _ (List.mem_of_getElem? (i := 1) rfl))) (mvT hZ (hw _ (List.mem_of_getElem? (i := 2) rfl))) (mvT hZ (hw _ (List.mem_of_getElem? (i := 3) rfl))) (mvT hZ (hw _ (List.mem_of_getElem? (i := 4) rfl))) (by decide) (backOf (W := 0) (rm1 l Z a0 hw [] (0 : Int64) tt pp h0 n0 Z0) hZ (hw _ (List.mem_of_getElem? (i := 4) rfl)) (hw _ (List.mem_of_getElem? (i := 3) rfl)) (by decide) (by decide)) (g := (mkF m 41 #[.val (.long q0), .second, .val (.int p1), .val (.int p2), .val (.int tt), .val (.int pp), .val (.long (b1_0 (0 : Int64) (0 : Int32) (0 : Int32))), .second, .val (.long (b1_0 q0 tt pp)), .second, .unset, .unset, .unset, .unset, .unset, .unset, .unset, .unset, .unset, .unset] [(.int pp), (.int tt), (.long (0 : Int64))])) rfl (by rw [hml]; rfl) (argsL := [(.long (0 : Int64)), (.int tt), (.int pp)]) (rest := []) (lenOf pd_0 rfl) rfl (by show 2 * 0 + _ ≤ _; exact Nat.le_of_eq rfl) (hb hby at_41) (fun _ _ => ⟨rfl, eh13, (by decide : 0 + 0 ≤ _), (by decide : 0 + 0 ≤ _)⟩)
  dsimp only [Pt.U, Pt.locs, Pt.cells, Pt.slots] at X14 l14 y14 z14 st14 hQ14
  subst l14 y14 z14
  obtain ⟨rfl, Nq14, eh14⟩ := hQ14
  have N14 := Fr.app N13 Nq14
  obtain ⟨_, _, ⟨T15, L15, k15, n15⟩, -, X15, ⟨Lc15, hQ15, l15, y15, z15⟩, st15⟩ := Jvm.LawKit.callS X14 hx (y := (⟨"com/example/brisk_ledger/briskledger/store/MessageRecord", "sizeOf", "(JII)J"⟩ : MethodName)) hown (mvT hZ (hw _ (List.mem_of_getElem? (i := 1) rfl))) (mvT hZ (hw _ (List.mem_of_getElem? (i := 2) rfl))) (mvT hZ (hw _ (List.mem_of_getElem? (i := 3) rfl))) (mvT hZ (hw _ (List.mem_of_getElem? (i := 4) rfl))) (by decide) (backOf (W := 0) (rm1 l Z a0 hw [] q0 (0 : Int32) pp h0 n0 Z0) hZ (hw _ (List.mem_of_getElem? (i := 4) rfl)) (hw _ (List.mem_of_getElem? (i := 3) rfl)) (by decide) (by decide)) (g := (mkF m 50 #[.val (.long q0), .second, .val (.int p1), .val (.int p2), .val (.int tt), .val (.int pp), .val (.long (b1_0 (0 : Int64) (0 : Int32) (0 : Int32))), .second, .val (.long (b1_0 q0 tt pp)), .second, .val (.long (b1_0 (0 : Int64) tt pp)), .second, .unset, .unset, .unset, .unset, .unset, .unset, .unset, .unset] [(.int pp), (.int (0 : Int32)), (.long q0)])) rfl (by rw [hml]; rfl) (argsL := [(.long q0), (.int (0 : Int32)), (.int pp)]) (rest := []) (lenOf pd_0 rfl) rfl (by show 2 * 0 + _ ≤ _; exact Nat.le_of_eq rfl) (hb hby at_50) (fun _ _ => ⟨rfl, eh14, (by decide : 0 + 0 ≤ _), (by decide : 0 + 0 ≤ _)⟩)
  dsimp only [Pt.U, Pt.locs, Pt.cells, Pt.slots] at X15 l15 y15 z15 st15 hQ15
  subst l15 y15 z15
  obtain ⟨rfl, Nq15, eh15⟩ := hQ15
  have N15 := Fr.app N14 Nq15
  obtain ⟨_, _, ⟨T16, L16, k16, n16⟩, -, X16, ⟨Lc16, hQ16, l16, y16, z16⟩, st16⟩ := Jvm.LawKit.callS X15 hx (y := (⟨"com/example/brisk_ledger/briskledger/store/MessageRecord", "sizeOf", "(JII)J"⟩ : MethodName)) hown (mvT hZ (hw _ (List.mem_of_getElem? (i := 1) rfl))) (mvT hZ (hw _ (List.mem_of_getElem? (i := 2) rfl))) (mvT hZ (hw _ (List.mem_of_getElem? (i := 3) rfl))) (mvT hZ (hw _ (List.mem_of_getElem? (i := 4) rfl))) (by decide) (backOf (W := 0) (rm1 l Z a0 hw [] q0 tt (0 : Int32) h0 n0 Z0) hZ (hw _ (List.mem_of_getElem? (i := 4) rfl)) (hw _ (List.mem_of_getElem? (i := 3) rfl)) (by decide) (by decide)) (g := (mkF m 59 #[.val (.long q0), .second, .val (.int p1), .val (.int p2), .val (.int tt), .val (.int pp), .val (.long (b1_0 (0 : Int64) (0 : Int32) (0 : Int32))), .second, .val (.long (b1_0 q0 tt pp)), .second, .val (.long (b1_0 (0 : Int64) tt pp)), .second, .val (.long (b1_0 q0 (0 : Int32) pp)), .second, .unset, .unset, .unset, .unset, .unset, .unset] [(.int (0 : Int32)), (.int tt), (.long q0)])) rfl (by rw [hml]; rfl) (argsL := [(.long q0), (.int tt), (.int (0 : Int32))]) (rest := []) (lenOf pd_0 rfl) rfl (by show 2 * 0 + _ ≤ _; exact Nat.le_of_eq rfl) (hb hby at_59) (fun _ _ => ⟨rfl, eh15, (by decide : 0 + 0 ≤ _), (by decide : 0 + 0 ≤ _)⟩)
  dsimp only [Pt.U, Pt.locs, Pt.cells, Pt.slots] at X16 l16 y16 z16 st16 hQ16
  subst l16 y16 z16
  obtain ⟨rfl, Nq16, eh16⟩ := hQ16
  have N16 := Fr.app N15 Nq16
  obtain ⟨fs, hr, hrun, hended, hW, hsame⟩ := X16.leave (v := some (.int (1 : Int32))) (fun h => by rw [Bd.returns] at h; cases h)
  refine ⟨_, _, pre11 _ ?_, hrun, hended, _, _, rfl, ?_, ⟨_, rfl⟩, hW, hsame.mono (by decide) (by decide)⟩
  · refine XS.lconst X0.here hx rfl (hb hby at_18) ?_
    show Steps p.tables e below (s₁.setTop (mkF m 19 #[.val (.long q0), .second, .val (.int p1), .val (.int p2), .val (.int tt), .val (.int pp), .unset, .unset, .unset, .unset, .unset, .unset, .unset, .unset, .unset, .unset, .unset, .unset, .unset, .unset] [(.long (0 : Int64))])) _
    refine XS.iconst X0.here hx rfl (hb hby at_19) ?_
    show Steps p.tables e below (s₁.setTop (mkF m 20 #[.val (.long q0), .second, .val (.int p1), .val (.int p2), .val (.int tt), .val (.int pp), .unset, .unset, .unset, .unset, .unset, .unset, .unset, .unset, .unset, .unset, .unset, .unset, .unset, .unset] [(.int (0 : Int32)), (.long (0 : Int64))])) _
    refine XS.iconst X0.here hx rfl (hb hby at_20) ?_
    show Steps p.tables e below (s₁.setTop (mkF m 21 #[.val (.long q0), .second, .val (.int p1), .val (.int p2), .val (.int tt), .val (.int pp), .unset, .unset, .unset, .unset, .unset, .unset, .unset, .unset, .unset, .unset, .unset, .unset, .unset, .unset] [(.int (0 : Int32)), (.int (0 : Int32)), (.long (0 : Int64))])) _
    refine st12 _ ?_
    show Steps p.tables e below (T12.setTop (mkF m 24 #[.val (.long q0), .second, .val (.int p1), .val (.int p2), .val (.int tt), .val (.int pp), .unset, .unset, .unset, .unset, .unset, .unset, .unset, .unset, .unset, .unset, .unset, .unset, .unset, .unset] [(.long (b1_0 (0 : Int64) (0 : Int32) (0 : Int32)))])) _
    refine XS.lstore X12.here hx rfl (hb hby at_24) rfl (l' := #[.val (.long q0), .second, .val (.int p1), .val (.int p2), .val (.int tt), .val (.int pp), .val (.long (b1_0 (0 : Int64) (0 : Int32) (0 : Int32))), .second, .unset, .unset, .unset, .unset, .unset, .unset, .unset, .unset, .unset, .unset, .unset, .unset]) rfl ?_
    show Steps p.tables e below (T12.setTop (mkF m 26 #[.val (.long q0), .second, .val (.int p1), .val (.int p2), .val (.int tt), .val (.int pp), .val (.long (b1_0 (0 : Int64) (0 : Int32) (0 : Int32))), .second, .unset, .unset, .unset, .unset, .unset, .unset, .unset, .unset, .unset, .unset, .unset, .unset] [])) _
    refine XS.lloadN X12.here hx rfl (hb hby at_26) rfl ?_
    show Steps p.tables e below (T12.setTop (mkF m 27 #[.val (.long q0), .second, .val (.int p1), .val (.int p2), .val (.int tt), .val (.int pp), .val (.long (b1_0 (0 : Int64) (0 : Int32) (0 : Int32))), .second, .unset, .unset, .unset, .unset, .unset, .unset, .unset, .unset, .unset, .unset, .unset, .unset] [(.long q0)])) _
    refine XS.iload X12.here hx rfl (hb hby at_27) rfl ?_
    show Steps p.tables e below (T12.setTop (mkF m 29 #[.val (.long q0), .second, .val (.int p1), .val (.int p2), .val (.int tt), .val (.int pp), .val (.long (b1_0 (0 : Int64) (0 : Int32) (0 : Int32))), .second, .unset, .unset, .unset, .unset, .unset, .unset, .unset, .unset, .unset, .unset, .unset, .unset] [(.int tt), (.long q0)])) _
    refine XS.iload X12.here hx rfl (hb hby at_29) rfl ?_
    show Steps p.tables e below (T12.setTop (mkF m 31 #[.val (.long q0), .second, .val (.int p1), .val (.int p2), .val (.int tt), .val (.int pp), .val (.long (b1_0 (0 : Int64) (0 : Int32) (0 : Int32))), .second, .unset, .unset, .unset, .unset, .unset, .unset, .unset, .unset, .unset, .unset, .unset, .unset] [(.int pp), (.int tt), (.long q0)])) _
    refine st13 _ ?_
    show Steps p.tables e below (T13.setTop (mkF m 34 #[.val (.long q0), .second, .val (.int p1), .val (.int p2), .val (.int tt), .val (.int pp), .val (.long (b1_0 (0 : Int64) (0 : Int32) (0 : Int32))), .second, .unset, .unset, .unset, .unset, .unset, .unset, .unset, .unset, .unset, .unset, .unset, .unset] [(.long (b1_0 q0 tt pp))])) _
    refine XS.lstore X13.here hx rfl (hb hby at_34) rfl (l' := #[.val (.long q0), .second, .val (.int p1), .val (.int p2), .val (.int tt), .val (.int pp), .val (.long (b1_0 (0 : Int64) (0 : Int32) (0 : Int32))), .second, .val (.long (b1_0 q0 tt pp)), .second, .unset, .unset, .unset, .unset, .unset, .unset, .unset, .unset, .unset, .unset]) rfl ?_
    show Steps p.tables e below (T13.setTop (mkF m 36 #[.val (.long q0), .second, .val (.int p1), .val (.int p2), .val (.int tt), .val (.int pp), .val (.long (b1_0 (0 : Int64) (0 : Int32) (0 : Int32))), .second, .val (.long (b1_0 q0 tt pp)), .second, .unset, .unset, .unset, .unset, .unset, .unset, .unset, .unset, .unset, .unset] [])) _
    refine XS.lconst X13.here hx rfl (hb hby at_36) ?_
    show Steps p.tables e below (T13.setTop (mkF m 37 #[.val (.long q0), .second, .val (.int p1), .val (.int p2), .val (.int tt), .val (.int pp), .val (.long (b1_0 (0 : Int64) (0 : Int32) (0 : Int32))), .second, .val (.long (b1_0 q0 tt pp)), .second, .unset, .unset, .unset, .unset, .unset, .unset, .unset, .unset, .unset, .unset] [(.long (0 : Int64))])) _
    refine XS.iload X13.here hx rfl (hb hby at_37) rfl ?_
    show Steps p.tables e below (T13.setTop (mkF m 39 #[.val (.long q0), .second, .val (.int p1), .val (.int p2), .val (.int tt), .val (.int pp), .val (.long (b1_0 (0 : Int64) (0 : Int32) (0 : Int32))), .second, .val (.long (b1_0 q0 tt pp)), .second, .unset, .unset, .unset, .unset, .unset, .unset, .unset, .unset, .unset, .unset] [(.int tt), (.long (0 : Int64))])) _
    refine XS.iload X13.here hx rfl (hb hby at_39) rfl ?_
    show Steps p.tables e below (T13.setTop (mkF m 41 #[.val (.long q0), .second, .val (.int p1), .val (.int p2), .val (.int tt), .val (.int pp), .val (.long (b1_0 (0 : Int64) (0 : Int32) (0 : Int32))), .second, .val (.long (b1_0 q0 tt pp)), .second, .unset, .unset, .unset, .unset, .unset, .unset, .unset, .unset, .unset, .unset] [(.int pp), (.int tt), (.long (0 : Int64))])) _
    refine st14 _ ?_
    show Steps p.tables e below (T14.setTop (mkF m 44 #[.val (.long q0), .second, .val (.int p1), .val (.int p2), .val (.int tt), .val (.int pp), .val (.long (b1_0 (0 : Int64) (0 : Int32) (0 : Int32))), .second, .val (.long (b1_0 q0 tt pp)), .second, .unset, .unset, .unset, .unset, .unset, .unset, .unset, .unset, .unset, .unset] [(.long (b1_0 (0 : Int64) tt pp))])) _
    refine XS.lstore X14.here hx rfl (hb hby at_44) rfl (l' := #[.val (.long q0), .second, .val (.int p1), .val (.int p2), .val (.int tt), .val (.int pp), .val (.long (b1_0 (0 : Int64) (0 : Int32) (0 : Int32))), .second, .val (.long (b1_0 q0 tt pp)), .second, .val (.long (b1_0 (0 : Int64) tt pp)), .second, .unset, .unset, .unset, .unset, .unset, .unset, .unset, .unset]) rfl ?_
    show Steps p.tables e below (T14.setTop (mkF m 46 #[.val (.long q0), .second, .val (.int p1), .val (.int p2), .val (.int tt), .val (.int pp), .val (.long (b1_0 (0 : Int64) (0 : Int32) (0 : Int32))), .second, .val (.long (b1_0 q0 tt pp)), .second, .val (.long (b1_0 (0 : Int64) tt pp)), .second, .unset, .unset, .unset, .unset, .unset, .unset, .unset, .unset] [])) _
    refine XS.lloadN X14.here hx rfl (hb hby at_46) rfl ?_
    show Steps p.tables e below (T14.setTop (mkF m 47 #[.val (.long q0), .second, .val (.int p1), .val (.int p2), .val (.int tt), .val (.int pp), .val (.long (b1_0 (0 : Int64) (0 : Int32) (0 : Int32))), .second, .val (.long (b1_0 q0 tt pp)), .second, .val (.long (b1_0 (0 : Int64) tt pp)), .second, .unset, .unset, .unset, .unset, .unset, .unset, .unset, .unset] [(.long q0)])) _
    refine XS.iconst X14.here hx rfl (hb hby at_47) ?_
    show Steps p.tables e below (T14.setTop (mkF m 48 #[.val (.long q0), .second, .val (.int p1), .val (.int p2), .val (.int tt), .val (.int pp), .val (.long (b1_0 (0 : Int64) (0 : Int32) (0 : Int32))), .second, .val (.long (b1_0 q0 tt pp)), .second, .val (.long (b1_0 (0 : Int64) tt pp)), .second, .unset, .unset, .unset, .unset, .unset, .unset, .unset, .unset] [(.int (0 : Int32)), (.long q0)])) _
    refine XS.iload X14.here hx rfl (hb hby at_48) rfl ?_
    show Steps p.tables e below (T14.setTop (mkF m 50 #[.val (.long q0), .second, .val (.int p1), .val (.int p2), .val (.int tt), .val (.int pp), .val (.long (b1_0 (0 : Int64) (0 : Int32) (0 : Int32))), .second, .val (.long (b1_0 q0 tt pp)), .second, .val (.long (b1_0 (0 : Int64) tt pp)), .second, .unset, .unset, .unset, .unset, .unset, .unset, .unset, .unset] [(.int pp), (.int (0 : Int32)), (.long q0)])) _
    refine st15 _ ?_
    show Steps p.tables e below (T15.setTop (mkF m 53 #[.val (.long q0), .second, .val (.int p1), .val (.int p2), .val (.int tt), .val (.int pp), .val (.long (b1_0 (0 : Int64) (0 : Int32) (0 : Int32))), .second, .val (.long (b1_0 q0 tt pp)), .second, .val (.long (b1_0 (0 : Int64) tt pp)), .second, .unset, .unset, .unset, .unset, .unset, .unset, .unset, .unset] [(.long (b1_0 q0 (0 : Int32) pp))])) _
    refine XS.lstore X15.here hx rfl (hb hby at_53) rfl (l' := #[.val (.long q0), .second, .val (.int p1), .val (.int p2), .val (.int tt), .val (.int pp), .val (.long (b1_0 (0 : Int64) (0 : Int32) (0 : Int32))), .second, .val (.long (b1_0 q0 tt pp)), .second, .val (.long (b1_0 (0 : Int64) tt pp)), .second, .val (.long (b1_0 q0 (0 : Int32) pp)), .second, .unset, .unset, .unset, .unset, .unset, .unset]) rfl ?_
    show Steps p.tables e below (T15.setTop (mkF m 55 #[.val (.long q0), .second, .val (.int p1), .val (.int p2), .val (.int tt), .val (.int pp), .val (.long (b1_0 (0 : Int64) (0 : Int32) (0 : Int32))), .second, .val (.long (b1_0 q0 tt pp)), .second, .val (.long (b1_0 (0 : Int64) tt pp)), .second, .val (.long (b1_0 q0 (0 : Int32) pp)), .second, .unset, .unset, .unset, .unset, .unset, .unset] [])) _
    refine XS.lloadN X15.here hx rfl (hb hby at_55) rfl ?_
    show Steps p.tables e below (T15.setTop (mkF m 56 #[.val (.long q0), .second, .val (.int p1), .val (.int p2), .val (.int tt), .val (.int pp), .val (.long (b1_0 (0 : Int64) (0 : Int32) (0 : Int32))), .second, .val (.long (b1_0 q0 tt pp)), .second, .val (.long (b1_0 (0 : Int64) tt pp)), .second, .val (.long (b1_0 q0 (0 : Int32) pp)), .second, .unset, .unset, .unset, .unset, .unset, .unset] [(.long q0)])) _
    refine XS.iload X15.here hx rfl (hb hby at_56) rfl ?_
    show Steps p.tables e below (T15.setTop (mkF m 58 #[.val (.long q0), .second, .val (.int p1), .val (.int p2), .val (.int tt), .val (.int pp), .val (.long (b1_0 (0 : Int64) (0 : Int32) (0 : Int32))), .second, .val (.long (b1_0 q0 tt pp)), .second, .val (.long (b1_0 (0 : Int64) tt pp)), .second, .val (.long (b1_0 q0 (0 : Int32) pp)), .second, .unset, .unset, .unset, .unset, .unset, .unset] [(.int tt), (.long q0)])) _
    refine XS.iconst X15.here hx rfl (hb hby at_58) ?_
    show Steps p.tables e below (T15.setTop (mkF m 59 #[.val (.long q0), .second, .val (.int p1), .val (.int p2), .val (.int tt), .val (.int pp), .val (.long (b1_0 (0 : Int64) (0 : Int32) (0 : Int32))), .second, .val (.long (b1_0 q0 tt pp)), .second, .val (.long (b1_0 (0 : Int64) tt pp)), .second, .val (.long (b1_0 q0 (0 : Int32) pp)), .second, .unset, .unset, .unset, .unset, .unset, .unset] [(.int (0 : Int32)), (.int tt), (.long q0)])) _
    refine st16 _ ?_
    show Steps p.tables e below (T16.setTop (mkF m 62 #[.val (.long q0), .second, .val (.int p1), .val (.int p2), .val (.int tt), .val (.int pp), .val (.long (b1_0 (0 : Int64) (0 : Int32) (0 : Int32))), .second, .val (.long (b1_0 q0 tt pp)), .second, .val (.long (b1_0 (0 : Int64) tt pp)), .second, .val (.long (b1_0 q0 (0 : Int32) pp)), .second, .unset, .unset, .unset, .unset, .unset, .unset] [(.long (b1_0 q0 tt (0 : Int32)))])) _
    refine XS.lstore X16.here hx rfl (hb hby at_62) rfl (l' := #[.val (.long q0), .second, .val (.int p1), .val (.int p2), .val (.int tt), .val (.int pp), .val (.long (b1_0 (0 : Int64) (0 : Int32) (0 : Int32))), .second, .val (.long (b1_0 q0 tt pp)), .second, .val (.long (b1_0 (0 : Int64) tt pp)), .second, .val (.long (b1_0 q0 (0 : Int32) pp)), .second, .val (.long (b1_0 q0 tt (0 : Int32))), .second, .unset, .unset, .unset, .unset]) rfl ?_
    show Steps p.tables e below (T16.setTop (mkF m 64 #[.val (.long q0), .second, .val (.int p1), .val (.int p2), .val (.int tt), .val (.int pp), .val (.long (b1_0 (0 : Int64) (0 : Int32) (0 : Int32))), .second, .val (.long (b1_0 q0 tt pp)), .second, .val (.long (b1_0 (0 : Int64) tt pp)), .second, .val (.long (b1_0 q0 (0 : Int32) pp)), .second, .val (.long (b1_0 q0 tt (0 : Int32))), .second, .unset, .unset, .unset, .unset] [])) _
    refine XS.iload X16.here hx rfl (hb hby at_64) rfl ?_
    show Steps p.tables e below (T16.setTop (mkF m 66 #[.val (.long q0), .second, .val (.int p1), .val (.int p2), .val (.int tt), .val (.int pp), .val (.long (b1_0 (0 : Int64) (0 : Int32) (0 : Int32))), .second, .val (.long (b1_0 q0 tt pp)), .second, .val (.long (b1_0 (0 : Int64) tt pp)), .second, .val (.long (b1_0 q0 (0 : Int32) pp)), .second, .val (.long (b1_0 q0 tt (0 : Int32))), .second, .unset, .unset, .unset, .unset] [(.int tt)])) _
    refine XS.i2l X16.here hx rfl (hb hby at_66) rfl ?_
    show Steps p.tables e below (T16.setTop (mkF m 67 #[.val (.long q0), .second, .val (.int p1), .val (.int p2), .val (.int tt), .val (.int pp), .val (.long (b1_0 (0 : Int64) (0 : Int32) (0 : Int32))), .second, .val (.long (b1_0 q0 tt pp)), .second, .val (.long (b1_0 (0 : Int64) tt pp)), .second, .val (.long (b1_0 q0 (0 : Int32) pp)), .second, .val (.long (b1_0 q0 tt (0 : Int32))), .second, .unset, .unset, .unset, .unset] [(.long (tt.toInt64))])) _
    refine XS.lstore X16.here hx rfl (hb hby at_67) rfl (l' := #[.val (.long q0), .second, .val (.int p1), .val (.int p2), .val (.int tt), .val (.int pp), .val (.long (b1_0 (0 : Int64) (0 : Int32) (0 : Int32))), .second, .val (.long (b1_0 q0 tt pp)), .second, .val (.long (b1_0 (0 : Int64) tt pp)), .second, .val (.long (b1_0 q0 (0 : Int32) pp)), .second, .val (.long (b1_0 q0 tt (0 : Int32))), .second, .val (.long (tt.toInt64)), .second, .unset, .unset]) rfl ?_
    show Steps p.tables e below (T16.setTop (mkF m 69 #[.val (.long q0), .second, .val (.int p1), .val (.int p2), .val (.int tt), .val (.int pp), .val (.long (b1_0 (0 : Int64) (0 : Int32) (0 : Int32))), .second, .val (.long (b1_0 q0 tt pp)), .second, .val (.long (b1_0 (0 : Int64) tt pp)), .second, .val (.long (b1_0 q0 (0 : Int32) pp)), .second, .val (.long (b1_0 q0 tt (0 : Int32))), .second, .val (.long (tt.toInt64)), .second, .unset, .unset] [])) _
    refine XS.iload X16.here hx rfl (hb hby at_69) rfl ?_
    show Steps p.tables e below (T16.setTop (mkF m 71 #[.val (.long q0), .second, .val (.int p1), .val (.int p2), .val (.int tt), .val (.int pp), .val (.long (b1_0 (0 : Int64) (0 : Int32) (0 : Int32))), .second, .val (.long (b1_0 q0 tt pp)), .second, .val (.long (b1_0 (0 : Int64) tt pp)), .second, .val (.long (b1_0 q0 (0 : Int32) pp)), .second, .val (.long (b1_0 q0 tt (0 : Int32))), .second, .val (.long (tt.toInt64)), .second, .unset, .unset] [(.int pp)])) _
    refine XS.i2l X16.here hx rfl (hb hby at_71) rfl ?_
    show Steps p.tables e below (T16.setTop (mkF m 72 #[.val (.long q0), .second, .val (.int p1), .val (.int p2), .val (.int tt), .val (.int pp), .val (.long (b1_0 (0 : Int64) (0 : Int32) (0 : Int32))), .second, .val (.long (b1_0 q0 tt pp)), .second, .val (.long (b1_0 (0 : Int64) tt pp)), .second, .val (.long (b1_0 q0 (0 : Int32) pp)), .second, .val (.long (b1_0 q0 tt (0 : Int32))), .second, .val (.long (tt.toInt64)), .second, .unset, .unset] [(.long (pp.toInt64))])) _
    refine XS.lstore X16.here hx rfl (hb hby at_72) rfl (l' := #[.val (.long q0), .second, .val (.int p1), .val (.int p2), .val (.int tt), .val (.int pp), .val (.long (b1_0 (0 : Int64) (0 : Int32) (0 : Int32))), .second, .val (.long (b1_0 q0 tt pp)), .second, .val (.long (b1_0 (0 : Int64) tt pp)), .second, .val (.long (b1_0 q0 (0 : Int32) pp)), .second, .val (.long (b1_0 q0 tt (0 : Int32))), .second, .val (.long (tt.toInt64)), .second, .val (.long (pp.toInt64)), .second]) rfl ?_
    show Steps p.tables e below (T16.setTop (mkF m 74 #[.val (.long q0), .second, .val (.int p1), .val (.int p2), .val (.int tt), .val (.int pp), .val (.long (b1_0 (0 : Int64) (0 : Int32) (0 : Int32))), .second, .val (.long (b1_0 q0 tt pp)), .second, .val (.long (b1_0 (0 : Int64) tt pp)), .second, .val (.long (b1_0 q0 (0 : Int32) pp)), .second, .val (.long (b1_0 q0 tt (0 : Int32))), .second, .val (.long (tt.toInt64)), .second, .val (.long (pp.toInt64)), .second] [])) _
    refine XS.lload X16.here hx rfl (hb hby at_74) rfl ?_
    show Steps p.tables e below (T16.setTop (mkF m 76 #[.val (.long q0), .second, .val (.int p1), .val (.int p2), .val (.int tt), .val (.int pp), .val (.long (b1_0 (0 : Int64) (0 : Int32) (0 : Int32))), .second, .val (.long (b1_0 q0 tt pp)), .second, .val (.long (b1_0 (0 : Int64) tt pp)), .second, .val (.long (b1_0 q0 (0 : Int32) pp)), .second, .val (.long (b1_0 q0 tt (0 : Int32))), .second, .val (.long (tt.toInt64)), .second, .val (.long (pp.toInt64)), .second] [(.long (b1_0 (0 : Int64) (0 : Int32) (0 : Int32)))])) _
    refine X16.ldc2Long hx hown (mvT hZ (hw _ (List.mem_of_getElem? (i := 6) rfl))) (g := (mkF m 76 #[.val (.long q0), .second, .val (.int p1), .val (.int p2), .val (.int tt), .val (.int pp), .val (.long (b1_0 (0 : Int64) (0 : Int32) (0 : Int32))), .second, .val (.long (b1_0 q0 tt pp)), .second, .val (.long (b1_0 (0 : Int64) tt pp)), .second, .val (.long (b1_0 q0 (0 : Int32) pp)), .second, .val (.long (b1_0 q0 tt (0 : Int32))), .second, .val (.long (tt.toInt64)), .second, .val (.long (pp.toInt64)), .second] [(.long (b1_0 (0 : Int64) (0 : Int32) (0 : Int32)))])) rfl (hb hby at_76) _ ?_
    show Steps p.tables e below (T16.setTop (mkF m 79 #[.val (.long q0), .second, .val (.int p1), .val (.int p2), .val (.int tt), .val (.int pp), .val (.long (b1_0 (0 : Int64) (0 : Int32) (0 : Int32))), .second, .val (.long (b1_0 q0 tt pp)), .second, .val (.long (b1_0 (0 : Int64) tt pp)), .second, .val (.long (b1_0 q0 (0 : Int32) pp)), .second, .val (.long (b1_0 q0 tt (0 : Int32))), .second, .val (.long (tt.toInt64)), .second, .val (.long (pp.toInt64)), .second] [(.long (91 : Int64)), (.long (b1_0 (0 : Int64) (0 : Int32) (0 : Int32)))])) _
    refine XS.lcmp X16.here hx rfl (hb hby at_79) rfl ?_
    show Steps p.tables e below (T16.setTop (mkF m 80 #[.val (.long q0), .second, .val (.int p1), .val (.int p2), .val (.int tt), .val (.int pp), .val (.long (b1_0 (0 : Int64) (0 : Int32) (0 : Int32))), .second, .val (.long (b1_0 q0 tt pp)), .second, .val (.long (b1_0 (0 : Int64) tt pp)), .second, .val (.long (b1_0 q0 (0 : Int32) pp)), .second, .val (.long (b1_0 q0 tt (0 : Int32))), .second, .val (.long (tt.toInt64)), .second, .val (.long (pp.toInt64)), .second] [(.int (lcmpW (b1_0 (0 : Int64) (0 : Int32) (0 : Int32)) (91 : Int64)))])) _
    refine XS.ifNo X16.here hx rfl (hb hby at_80) rfl ((if0 _ _).trans (teq ((lw_eq (b1_0 (0 : Int64) (0 : Int32) (0 : Int32)) (91 : Int64)).mpr own_1)).2) ?_
    show Steps p.tables e below (T16.setTop (mkF m 83 #[.val (.long q0), .second, .val (.int p1), .val (.int p2), .val (.int tt), .val (.int pp), .val (.long (b1_0 (0 : Int64) (0 : Int32) (0 : Int32))), .second, .val (.long (b1_0 q0 tt pp)), .second, .val (.long (b1_0 (0 : Int64) tt pp)), .second, .val (.long (b1_0 q0 (0 : Int32) pp)), .second, .val (.long (b1_0 q0 tt (0 : Int32))), .second, .val (.long (tt.toInt64)), .second, .val (.long (pp.toInt64)), .second] [])) _
    refine XS.lload X16.here hx rfl (hb hby at_83) rfl ?_
    show Steps p.tables e below (T16.setTop (mkF m 85 #[.val (.long q0), .second, .val (.int p1), .val (.int p2), .val (.int tt), .val (.int pp), .val (.long (b1_0 (0 : Int64) (0 : Int32) (0 : Int32))), .second, .val (.long (b1_0 q0 tt pp)), .second, .val (.long (b1_0 (0 : Int64) tt pp)), .second, .val (.long (b1_0 q0 (0 : Int32) pp)), .second, .val (.long (b1_0 q0 tt (0 : Int32))), .second, .val (.long (tt.toInt64)), .second, .val (.long (pp.toInt64)), .second] [(.long (b1_0 q0 tt pp))])) _
    refine XS.lload X16.here hx rfl (hb hby at_85) rfl ?_
    show Steps p.tables e below (T16.setTop (mkF m 87 #[.val (.long q0), .second, .val (.int p1), .val (.int p2), .val (.int tt), .val (.int pp), .val (.long (b1_0 (0 : Int64) (0 : Int32) (0 : Int32))), .second, .val (.long (b1_0 q0 tt pp)), .second, .val (.long (b1_0 (0 : Int64) tt pp)), .second, .val (.long (b1_0 q0 (0 : Int32) pp)), .second, .val (.long (b1_0 q0 tt (0 : Int32))), .second, .val (.long (tt.toInt64)), .second, .val (.long (pp.toInt64)), .second] [(.long (b1_0 (0 : Int64) tt pp)), (.long (b1_0 q0 tt pp))])) _
    refine XS.lloadN X16.here hx rfl (hb hby at_87) rfl ?_
    show Steps p.tables e below (T16.setTop (mkF m 88 #[.val (.long q0), .second, .val (.int p1), .val (.int p2), .val (.int tt), .val (.int pp), .val (.long (b1_0 (0 : Int64) (0 : Int32) (0 : Int32))), .second, .val (.long (b1_0 q0 tt pp)), .second, .val (.long (b1_0 (0 : Int64) tt pp)), .second, .val (.long (b1_0 q0 (0 : Int32) pp)), .second, .val (.long (b1_0 q0 tt (0 : Int32))), .second, .val (.long (tt.toInt64)), .second, .val (.long (pp.toInt64)), .second] [(.long q0), (.long (b1_0 (0 : Int64) tt pp)), (.long (b1_0 q0 tt pp))])) _
    refine XS.ladd X16.here hx rfl (hb hby at_88) rfl ?_
    show Steps p.tables e below (T16.setTop (mkF m 89 #[.val (.long q0), .second, .val (.int p1), .val (.int p2), .val (.int tt), .val (.int pp), .val (.long (b1_0 (0 : Int64) (0 : Int32) (0 : Int32))), .second, .val (.long (b1_0 q0 tt pp)), .second, .val (.long (b1_0 (0 : Int64) tt pp)), .second, .val (.long (b1_0 q0 (0 : Int32) pp)), .second, .val (.long (b1_0 q0 tt (0 : Int32))), .second, .val (.long (tt.toInt64)), .second, .val (.long (pp.toInt64)), .second] [(.long ((b1_0 (0 : Int64) tt pp) + q0)), (.long (b1_0 q0 tt pp))])) _
    refine XS.lcmp X16.here hx rfl (hb hby at_89) rfl ?_
    show Steps p.tables e below (T16.setTop (mkF m 90 #[.val (.long q0), .second, .val (.int p1), .val (.int p2), .val (.int tt), .val (.int pp), .val (.long (b1_0 (0 : Int64) (0 : Int32) (0 : Int32))), .second, .val (.long (b1_0 q0 tt pp)), .second, .val (.long (b1_0 (0 : Int64) tt pp)), .second, .val (.long (b1_0 q0 (0 : Int32) pp)), .second, .val (.long (b1_0 q0 tt (0 : Int32))), .second, .val (.long (tt.toInt64)), .second, .val (.long (pp.toInt64)), .second] [(.int (lcmpW (b1_0 q0 tt pp) ((b1_0 (0 : Int64) tt pp) + q0)))])) _
    refine XS.ifNo X16.here hx rfl (hb hby at_90) rfl ((if0 _ _).trans (teq ((lw_eq (b1_0 q0 tt pp) ((b1_0 (0 : Int64) tt pp) + q0)).mpr (own_2 _ _ _))).2) ?_
    show Steps p.tables e below (T16.setTop (mkF m 93 #[.val (.long q0), .second, .val (.int p1), .val (.int p2), .val (.int tt), .val (.int pp), .val (.long (b1_0 (0 : Int64) (0 : Int32) (0 : Int32))), .second, .val (.long (b1_0 q0 tt pp)), .second, .val (.long (b1_0 (0 : Int64) tt pp)), .second, .val (.long (b1_0 q0 (0 : Int32) pp)), .second, .val (.long (b1_0 q0 tt (0 : Int32))), .second, .val (.long (tt.toInt64)), .second, .val (.long (pp.toInt64)), .second] [])) _
    refine XS.lload X16.here hx rfl (hb hby at_93) rfl ?_
    show Steps p.tables e below (T16.setTop (mkF m 95 #[.val (.long q0), .second, .val (.int p1), .val (.int p2), .val (.int tt), .val (.int pp), .val (.long (b1_0 (0 : Int64) (0 : Int32) (0 : Int32))), .second, .val (.long (b1_0 q0 tt pp)), .second, .val (.long (b1_0 (0 : Int64) tt pp)), .second, .val (.long (b1_0 q0 (0 : Int32) pp)), .second, .val (.long (b1_0 q0 tt (0 : Int32))), .second, .val (.long (tt.toInt64)), .second, .val (.long (pp.toInt64)), .second] [(.long (b1_0 q0 tt pp))])) _
    refine XS.lload X16.here hx rfl (hb hby at_95) rfl ?_
    show Steps p.tables e below (T16.setTop (mkF m 97 #[.val (.long q0), .second, .val (.int p1), .val (.int p2), .val (.int tt), .val (.int pp), .val (.long (b1_0 (0 : Int64) (0 : Int32) (0 : Int32))), .second, .val (.long (b1_0 q0 tt pp)), .second, .val (.long (b1_0 (0 : Int64) tt pp)), .second, .val (.long (b1_0 q0 (0 : Int32) pp)), .second, .val (.long (b1_0 q0 tt (0 : Int32))), .second, .val (.long (tt.toInt64)), .second, .val (.long (pp.toInt64)), .second] [(.long (b1_0 q0 (0 : Int32) pp)), (.long (b1_0 q0 tt pp))])) _
    refine XS.lload X16.here hx rfl (hb hby at_97) rfl ?_
    show Steps p.tables e below (T16.setTop (mkF m 99 #[.val (.long q0), .second, .val (.int p1), .val (.int p2), .val (.int tt), .val (.int pp), .val (.long (b1_0 (0 : Int64) (0 : Int32) (0 : Int32))), .second, .val (.long (b1_0 q0 tt pp)), .second, .val (.long (b1_0 (0 : Int64) tt pp)), .second, .val (.long (b1_0 q0 (0 : Int32) pp)), .second, .val (.long (b1_0 q0 tt (0 : Int32))), .second, .val (.long (tt.toInt64)), .second, .val (.long (pp.toInt64)), .second] [(.long (tt.toInt64)), (.long (b1_0 q0 (0 : Int32) pp)), (.long (b1_0 q0 tt pp))])) _
    refine XS.ladd X16.here hx rfl (hb hby at_99) rfl ?_
    show Steps p.tables e below (T16.setTop (mkF m 100 #[.val (.long q0), .second, .val (.int p1), .val (.int p2), .val (.int tt), .val (.int pp), .val (.long (b1_0 (0 : Int64) (0 : Int32) (0 : Int32))), .second, .val (.long (b1_0 q0 tt pp)), .second, .val (.long (b1_0 (0 : Int64) tt pp)), .second, .val (.long (b1_0 q0 (0 : Int32) pp)), .second, .val (.long (b1_0 q0 tt (0 : Int32))), .second, .val (.long (tt.toInt64)), .second, .val (.long (pp.toInt64)), .second] [(.long ((b1_0 q0 (0 : Int32) pp) + (tt.toInt64))), (.long (b1_0 q0 tt pp))])) _
    refine XS.lcmp X16.here hx rfl (hb hby at_100) rfl ?_
    show Steps p.tables e below (T16.setTop (mkF m 101 #[.val (.long q0), .second, .val (.int p1), .val (.int p2), .val (.int tt), .val (.int pp), .val (.long (b1_0 (0 : Int64) (0 : Int32) (0 : Int32))), .second, .val (.long (b1_0 q0 tt pp)), .second, .val (.long (b1_0 (0 : Int64) tt pp)), .second, .val (.long (b1_0 q0 (0 : Int32) pp)), .second, .val (.long (b1_0 q0 tt (0 : Int32))), .second, .val (.long (tt.toInt64)), .second, .val (.long (pp.toInt64)), .second] [(.int (lcmpW (b1_0 q0 tt pp) ((b1_0 q0 (0 : Int32) pp) + (tt.toInt64))))])) _
    refine XS.ifNo X16.here hx rfl (hb hby at_101) rfl ((if0 _ _).trans (teq ((lw_eq (b1_0 q0 tt pp) ((b1_0 q0 (0 : Int32) pp) + (tt.toInt64))).mpr (own_3 _ _ _))).2) ?_
    show Steps p.tables e below (T16.setTop (mkF m 104 #[.val (.long q0), .second, .val (.int p1), .val (.int p2), .val (.int tt), .val (.int pp), .val (.long (b1_0 (0 : Int64) (0 : Int32) (0 : Int32))), .second, .val (.long (b1_0 q0 tt pp)), .second, .val (.long (b1_0 (0 : Int64) tt pp)), .second, .val (.long (b1_0 q0 (0 : Int32) pp)), .second, .val (.long (b1_0 q0 tt (0 : Int32))), .second, .val (.long (tt.toInt64)), .second, .val (.long (pp.toInt64)), .second] [])) _
    refine XS.lload X16.here hx rfl (hb hby at_104) rfl ?_
    show Steps p.tables e below (T16.setTop (mkF m 106 #[.val (.long q0), .second, .val (.int p1), .val (.int p2), .val (.int tt), .val (.int pp), .val (.long (b1_0 (0 : Int64) (0 : Int32) (0 : Int32))), .second, .val (.long (b1_0 q0 tt pp)), .second, .val (.long (b1_0 (0 : Int64) tt pp)), .second, .val (.long (b1_0 q0 (0 : Int32) pp)), .second, .val (.long (b1_0 q0 tt (0 : Int32))), .second, .val (.long (tt.toInt64)), .second, .val (.long (pp.toInt64)), .second] [(.long (b1_0 q0 tt pp))])) _
    refine XS.lload X16.here hx rfl (hb hby at_106) rfl ?_
    show Steps p.tables e below (T16.setTop (mkF m 108 #[.val (.long q0), .second, .val (.int p1), .val (.int p2), .val (.int tt), .val (.int pp), .val (.long (b1_0 (0 : Int64) (0 : Int32) (0 : Int32))), .second, .val (.long (b1_0 q0 tt pp)), .second, .val (.long (b1_0 (0 : Int64) tt pp)), .second, .val (.long (b1_0 q0 (0 : Int32) pp)), .second, .val (.long (b1_0 q0 tt (0 : Int32))), .second, .val (.long (tt.toInt64)), .second, .val (.long (pp.toInt64)), .second] [(.long (b1_0 q0 tt (0 : Int32))), (.long (b1_0 q0 tt pp))])) _
    refine XS.lload X16.here hx rfl (hb hby at_108) rfl ?_
    show Steps p.tables e below (T16.setTop (mkF m 110 #[.val (.long q0), .second, .val (.int p1), .val (.int p2), .val (.int tt), .val (.int pp), .val (.long (b1_0 (0 : Int64) (0 : Int32) (0 : Int32))), .second, .val (.long (b1_0 q0 tt pp)), .second, .val (.long (b1_0 (0 : Int64) tt pp)), .second, .val (.long (b1_0 q0 (0 : Int32) pp)), .second, .val (.long (b1_0 q0 tt (0 : Int32))), .second, .val (.long (tt.toInt64)), .second, .val (.long (pp.toInt64)), .second] [(.long (pp.toInt64)), (.long (b1_0 q0 tt (0 : Int32))), (.long (b1_0 q0 tt pp))])) _
    refine XS.ladd X16.here hx rfl (hb hby at_110) rfl ?_
    show Steps p.tables e below (T16.setTop (mkF m 111 #[.val (.long q0), .second, .val (.int p1), .val (.int p2), .val (.int tt), .val (.int pp), .val (.long (b1_0 (0 : Int64) (0 : Int32) (0 : Int32))), .second, .val (.long (b1_0 q0 tt pp)), .second, .val (.long (b1_0 (0 : Int64) tt pp)), .second, .val (.long (b1_0 q0 (0 : Int32) pp)), .second, .val (.long (b1_0 q0 tt (0 : Int32))), .second, .val (.long (tt.toInt64)), .second, .val (.long (pp.toInt64)), .second] [(.long ((b1_0 q0 tt (0 : Int32)) + (pp.toInt64))), (.long (b1_0 q0 tt pp))])) _
    refine XS.lcmp X16.here hx rfl (hb hby at_111) rfl ?_
    show Steps p.tables e below (T16.setTop (mkF m 112 #[.val (.long q0), .second, .val (.int p1), .val (.int p2), .val (.int tt), .val (.int pp), .val (.long (b1_0 (0 : Int64) (0 : Int32) (0 : Int32))), .second, .val (.long (b1_0 q0 tt pp)), .second, .val (.long (b1_0 (0 : Int64) tt pp)), .second, .val (.long (b1_0 q0 (0 : Int32) pp)), .second, .val (.long (b1_0 q0 tt (0 : Int32))), .second, .val (.long (tt.toInt64)), .second, .val (.long (pp.toInt64)), .second] [(.int (lcmpW (b1_0 q0 tt pp) ((b1_0 q0 tt (0 : Int32)) + (pp.toInt64))))])) _
    refine XS.ifNo X16.here hx rfl (hb hby at_112) rfl ((if0 _ _).trans (teq ((lw_eq (b1_0 q0 tt pp) ((b1_0 q0 tt (0 : Int32)) + (pp.toInt64))).mpr (own_4 _ _ _))).2) ?_
    show Steps p.tables e below (T16.setTop (mkF m 115 #[.val (.long q0), .second, .val (.int p1), .val (.int p2), .val (.int tt), .val (.int pp), .val (.long (b1_0 (0 : Int64) (0 : Int32) (0 : Int32))), .second, .val (.long (b1_0 q0 tt pp)), .second, .val (.long (b1_0 (0 : Int64) tt pp)), .second, .val (.long (b1_0 q0 (0 : Int32) pp)), .second, .val (.long (b1_0 q0 tt (0 : Int32))), .second, .val (.long (tt.toInt64)), .second, .val (.long (pp.toInt64)), .second] [])) _
    refine XS.iconst X16.here hx rfl (hb hby at_115) ?_
    show Steps p.tables e below (T16.setTop (mkF m 116 #[.val (.long q0), .second, .val (.int p1), .val (.int p2), .val (.int tt), .val (.int pp), .val (.long (b1_0 (0 : Int64) (0 : Int32) (0 : Int32))), .second, .val (.long (b1_0 q0 tt pp)), .second, .val (.long (b1_0 (0 : Int64) tt pp)), .second, .val (.long (b1_0 q0 (0 : Int32) pp)), .second, .val (.long (b1_0 q0 tt (0 : Int32))), .second, .val (.long (tt.toInt64)), .second, .val (.long (pp.toInt64)), .second] [(.int (1 : Int32))])) _
    refine XS.goto X16.here hx rfl (pc0 := 116) (pc' := 120) rfl (hb hby at_116) (by decide) (by decide) ?_
    show Steps p.tables e below (T16.setTop (mkF m 120 #[.val (.long q0), .second, .val (.int p1), .val (.int p2), .val (.int tt), .val (.int pp), .val (.long (b1_0 (0 : Int64) (0 : Int32) (0 : Int32))), .second, .val (.long (b1_0 q0 tt pp)), .second, .val (.long (b1_0 (0 : Int64) tt pp)), .second, .val (.long (b1_0 q0 (0 : Int32) pp)), .second, .val (.long (b1_0 q0 tt (0 : Int32))), .second, .val (.long (tt.toInt64)), .second, .val (.long (pp.toInt64)), .second] [(.int (1 : Int32))])) _
    exact retN X16 hx (t := .boolean) Bd.returns (by simp) (hb hby at_120) hr
  · show Q0 Z q0 p1 p2 h0 n0 _ T16.heap _
    rw [eh16]
    exact ⟨rfl, N16⟩
set_option maxRecDepth 65536 in
set_option maxHeartbeats 40000000 in
theorem comes_1 {Post : Tables → Env → Array Value → State → Outcome → State → Prop} (hpost : ∀ tb e args s v u, (limb_1_1.after args s (.returned v) u = true ∧ limb_1_2.after args s (.returned v) u = true ∧ True) → FrameEnd s (.returned v) u (Jvm.fieldLocs frame_1_writes args s ++ Jvm.arrayLocs frame_1_arrays args s ++ Jvm.staticLocs frame_1_statics s) 0 0 → Post tb e args s (.returned v) u) :
    ArmFor flags0 classFile x code maxLocals ret World_1 tables_1 room_1 Calls_1 rest_1 Pre_1 Post := by
  intro l hfl _ _ p e ha hc hk s m args below hf hA hF happ hP
  obtain ⟨hcalls, hrest, hpre⟩ := hP
  obtain ⟨-, -, -, hnamed, -, -, -, hat⟩ := (Spec.applies_iff hf).mp happ
  obtain ⟨hg, hn⟩ := and_e (Cond.before_iff.mp (show (Jvm.Cond.and given_1 narrow_1).before args s = true from hpre))
  obtain ⟨g1, g2⟩ := and_e hg
  obtain ⟨g3, g4⟩ := and_e g2
  obtain ⟨g5, g6⟩ := and_e g4
  obtain ⟨w0, w1, w2, rfl⟩ : ∃ w0 w1 w2 : Value, args = #[w0, w1, w2] := by
    have hs : args.size = 3 := by simpa [Cond.value, given_1] using g1
    obtain ⟨L⟩ := args
    match L, hs with
    | [w0, w1, w2], _ => exact ⟨w0, w1, w2, rfl⟩
  have hw := fun d (hd : d ∈ tables_1) => atoms_spec (ws := Jvm.Cond.code x code maxLocals ret :: tables_1) hat d (List.mem_cons_of_mem _ hd)
  obtain ⟨i0, ei0⟩ := isL_v g3
  obtain rfl : w0 = (.long i0) := Option.some.inj ei0
  obtain ⟨i1, ei1⟩ := is_v g5
  obtain rfl : w1 = (.int i1) := Option.some.inj ei1
  obtain ⟨i2, ei2⟩ := is_v g6
  obtain rfl : w2 = (.int i2) := Option.some.inj ei2
  obtain ⟨n, o, h1, h2, h3, _, L, rfl, ⟨rfl, N⟩, hq⟩ := rm0 l s _ hw tables_1 i0 i1 i2 s.heap s.heap.size (Nat.le_refl _) p e ha hc hk s m _ below hf ((Spec.applies_iff_loose hf).mp happ).1 ⟨rfl, State.Warmed39.refl s, rfl⟩ trivial
  refine ⟨n, _, h1, h2, h3, hpost _ _ _ _ _ _ ⟨Cond.after_iff.mpr rfl, Cond.after_iff.mpr (eq_i res_at (Term.int_eval (1)) rfl), trivial⟩ ⟨hq.1, hq.2.1, (hq.2.2.sift fun y hy => Or.inr (N y hy)).mono (by decide) (by decide)⟩⟩
theorem main_1_1 : Claimed_1_1 := comes_1 fun _ _ _ _ _ _ h hF => ⟨h.1, hF⟩
theorem main_1_2 : Claimed_1_2 := comes_1 fun _ _ _ _ _ _ h hF => ⟨h.2.1, hF⟩
end Jvm.Pilot.@@N@@
namespace Jvm.Pilot.@@N@@
open Jvm Jvm.ClassFile Sem Op Lib Jvm.Free Jvm.Stand Jvm.Pilot.@@N@@.Jvm.D
/-! MADE BY PROGRAM (witnessworld.py) out of the Statement's table words and the real class files: 10 classes; the members and pool entries that the words name. The judged class is class 1, her method 1. -/
namespace start1
open Jvm.ClassFile
def u (s : String) : CpInfo := .utf8 (stringToUtf16 s)
/-- a pool by its gaps: so many unusable entries, then the entry; so many at the end -/
def gap : Nat → List CpInfo → List CpInfo
  | 0, r => r
  | n + 1, r => .unusable :: gap n r
def poolList (es : List (Nat × CpInfo)) (last : Nat) : List CpInfo := es.foldr (fun e r => gap e.1 (e.2 :: r)) (gap last [])
def pool (es : List (Nat × CpInfo)) (last : Nat) : Array CpInfo := ⟨poolList es last⟩
def fileOf (pool : Array CpInfo) (this : Nat) (attrs : Array Attribute := #[]) (ms : Array MethodInfo := #[]) (fl : Nat := 33) (sup : Nat := 0) (ifs : Array Nat := #[]) (fds : Array FieldInfo := #[]) : ClassFile where
  minorVersion := 0
  majorVersion := 65
  constantPool := pool
  accessFlags := fl
  thisClass := this
  superClass := sup
  interfaces := ifs
  fields := fds
  methods := ms
  attributes := attrs
def plain (name : String) (sup : Option ClassId) : Class where
  name := name
  kind := .ordinary
  loader := none
  accessFlags := 33
  super := sup
  interfaces := #[]
  cf := none
  fields := #[]
  methods := #[]
  instanceTypes := #[]
  staticTypes := #[]
  resolved := #[]
  callSites := []
  init := .initialized
  statics := none
  mirror := none

def pool0 : Array CpInfo := pool [(5, u "<init>"), (0, u "()V"), (1, .class_ 10), (1, u "java/lang/Object")] 113

def k0m0 : Method := { name := "<init>", desc := "()V", sig := { parameters := [], returnType := none }, accessFlags := 1, code := none }
/-- java/lang/Object -/
def k0 : Class := { plain "java/lang/Object" none with
  accessFlags := 33
  interfaces := #[]
  cf := some (fileOf pool0 8 #[] #[{ accessFlags := 1, nameIndex := 5, descriptorIndex := 6, attributes := #[] }] 33 0 #[] #[])
  fields := #[]
  methods := #[k0m0]
  instanceTypes := #[]
  staticTypes := #[]
  resolved := Array.replicate 124 none
  statics := none }

def pool1 : Array CpInfo := pool [(2, .class_ 4), (1, u "java/lang/Object"), (0, u "<init>"), (0, u "()V"), (0, .integer 2147483647), (0, .methodref 9 10), (0, .class_ 11), (0, .nameAndType 12 13), (0, u "com/example/brisk_ledger/briskledger/store/MessageRecord"), (0, u "sizeOf"), (0, u "(JII)J"), (0, .long 91), (1, .class_ 17), (0, u "com/example/brisk_ledger/briskledger/store/MessageRecordSizeOfPinLaw"), (2, u "law"), (0, u "(JII)Z")] 3

def k1m0 : Method := { name := "<init>", desc := "()V", sig := { parameters := [], returnType := none }, accessFlags := 2, code := none }
def k1c1 : Code := { maxStack := 6, maxLocals := 20, code := code, exceptionTable := #[], attributes := #[] }
def k1m1 : Method := { name := "law", desc := "(JII)Z", sig := { parameters := [.long, .int, .int], returnType := some .boolean }, accessFlags := 9, code := some k1c1 }
/-- com/example/brisk_ledger/briskledger/store/MessageRecordSizeOfPinLaw -/
def k1 : Class := { plain "com/example/brisk_ledger/briskledger/store/MessageRecordSizeOfPinLaw" (some 0) with
  accessFlags := 49
  interfaces := #[]
  cf := some (fileOf pool1 16 #[] #[{ accessFlags := 2, nameIndex := 5, descriptorIndex := 6, attributes := #[] }, { accessFlags := 9, nameIndex := 20, descriptorIndex := 21, attributes := #[] }] 49 2 #[] #[])
  fields := #[]
  methods := #[k1m0, k1m1]
  instanceTypes := #[]
  staticTypes := #[]
  resolved := Array.replicate 25 none
  statics := none }

def pool2 : Array CpInfo := pool [(2, .class_ 4), (1, u "java/lang/Object"), (0, u "<init>"), (0, u "()V"), (0, .class_ 8), (0, u "java/lang/Record")] 13

def k2m0 : Method := { name := "<init>", desc := "()V", sig := { parameters := [], returnType := none }, accessFlags := 4, code := none }
/-- java/lang/Record -/
def k2 : Class := { plain "java/lang/Record" (some 0) with
  accessFlags := 1057
  interfaces := #[]
  cf := some (fileOf pool2 7 #[] #[{ accessFlags := 4, nameIndex := 5, descriptorIndex := 6, attributes := #[] }] 1057 2 #[] #[])
  fields := #[]
  methods := #[k2m0]
  instanceTypes := #[]
  staticTypes := #[]
  resolved := Array.replicate 22 none
  statics := none }

def pool3 : Array CpInfo := pool [(4, .class_ 6), (1, u "java/lang/Record"), (3, .class_ 12), (1, u "com/example/brisk_ledger/briskledger/store/MessageRecord"), (3, u "body"), (36, u "topic"), (0, u "Ljava/lang/String;"), (2, u "queueId"), (0, u "I"), (2, u "flag"), (2, u "queueOffset"), (0, u "J"), (2, u "physicalOffset"), (2, u "sysFlag"), (2, u "bornTimestamp"), (2, u "bornHost"), (0, u "Ljava/net/InetSocketAddress;"), (2, u "storeTimestamp"), (2, u "storeHost"), (2, u "reconsumeTimes"), (2, u "preparedTransactionOffset"), (2, u "[B"), (2, u "properties"), (79, .long 91), (45, u "sizeOf"), (0, u "(JII)J"), (53, u "MAGIC_CODE"), (1, u "MAX_TOPIC_LENGTH"), (1, u "MAX_PROPERTIES_LENGTH"), (1, u "FIXED_LENGTH"), (1, u "MAGIC"), (1, u "BODY_CRC"), (1, u "QUEUE_ID"), (1, u "FLAG"), (1, u "QUEUE_OFFSET"), (1, u "PHYSICAL_OFFSET"), (1, u "SYS_FLAG"), (1, u "BORN_TIMESTAMP"), (1, u "BORN_HOST"), (1, u "STORE_TIMESTAMP"), (1, u "STORE_HOST"), (1, u "RECONSUME_TIMES"), (1, u "PREPARED_TRANSACTION_OFFSET"), (1, u "BODY_LENGTH"), (1, u "BODY"), (1, u "IPV4_LENGTH"), (0, u "TOPIC_LENGTH_FIELD"), (1, u "PROPERTIES_LENGTH_FIELD"), (1, u "TOP_BIT_CLEARED")] 64

def k3c0 : Code := { maxStack := 4, maxLocals := 4, code := prog_59_method_5_code, exceptionTable := #[], attributes := #[] }
def k3m0 : Method := { name := "sizeOf", desc := "(JII)J", sig := { parameters := [.long, .int, .int], returnType := some .long }, accessFlags := 9, code := some k3c0 }
/-- com/example/brisk_ledger/briskledger/store/MessageRecord -/
def k3 : Class := { plain "com/example/brisk_ledger/briskledger/store/MessageRecord" (some 2) with
  accessFlags := 49
  interfaces := #[]
  cf := some (fileOf pool3 10 #[] #[{ accessFlags := 9, nameIndex := 222, descriptorIndex := 223, attributes := #[] }] 49 4 #[] #[{ accessFlags := 18, nameIndex := 53, descriptorIndex := 54, attributes := #[] }, { accessFlags := 18, nameIndex := 57, descriptorIndex := 58, attributes := #[] }, { accessFlags := 18, nameIndex := 61, descriptorIndex := 58, attributes := #[] }, { accessFlags := 18, nameIndex := 64, descriptorIndex := 65, attributes := #[] }, { accessFlags := 18, nameIndex := 68, descriptorIndex := 65, attributes := #[] }, { accessFlags := 18, nameIndex := 71, descriptorIndex := 58, attributes := #[] }, { accessFlags := 18, nameIndex := 74, descriptorIndex := 65, attributes := #[] }, { accessFlags := 18, nameIndex := 77, descriptorIndex := 78, attributes := #[] }, { accessFlags := 18, nameIndex := 81, descriptorIndex := 65, attributes := #[] }, { accessFlags := 18, nameIndex := 84, descriptorIndex := 78, attributes := #[] }, { accessFlags := 18, nameIndex := 87, descriptorIndex := 58, attributes := #[] }, { accessFlags := 18, nameIndex := 90, descriptorIndex := 65, attributes := #[] }, { accessFlags := 18, nameIndex := 16, descriptorIndex := 93, attributes := #[] }, { accessFlags := 18, nameIndex := 96, descriptorIndex := 93, attributes := #[] }, { accessFlags := 25, nameIndex := 277, descriptorIndex := 58, attributes := #[] }, { accessFlags := 25, nameIndex := 279, descriptorIndex := 58, attributes := #[] }, { accessFlags := 25, nameIndex := 281, descriptorIndex := 58, attributes := #[] }, { accessFlags := 26, nameIndex := 283, descriptorIndex := 58, attributes := #[] }, { accessFlags := 26, nameIndex := 285, descriptorIndex := 58, attributes := #[] }, { accessFlags := 26, nameIndex := 287, descriptorIndex := 58, attributes := #[] }, { accessFlags := 26, nameIndex := 289, descriptorIndex := 58, attributes := #[] }, { accessFlags := 26, nameIndex := 291, descriptorIndex := 58, attributes := #[] }, { accessFlags := 26, nameIndex := 293, descriptorIndex := 58, attributes := #[] }, { accessFlags := 26, nameIndex := 295, descriptorIndex := 58, attributes := #[] }, { accessFlags := 26, nameIndex := 297, descriptorIndex := 58, attributes := #[] }, { accessFlags := 26, nameIndex := 299, descriptorIndex := 58, attributes := #[] }, { accessFlags := 26, nameIndex := 301, descriptorIndex := 58, attributes := #[] }, { accessFlags := 26, nameIndex := 303, descriptorIndex := 58, attributes := #[] }, { accessFlags := 26, nameIndex := 305, descriptorIndex := 58, attributes := #[] }, { accessFlags := 26, nameIndex := 307, descriptorIndex := 58, attributes := #[] }, { accessFlags := 26, nameIndex := 309, descriptorIndex := 58, attributes := #[] }, { accessFlags := 26, nameIndex := 311, descriptorIndex := 58, attributes := #[] }, { accessFlags := 26, nameIndex := 313, descriptorIndex := 58, attributes := #[] }, { accessFlags := 26, nameIndex := 315, descriptorIndex := 58, attributes := #[] }, { accessFlags := 26, nameIndex := 316, descriptorIndex := 58, attributes := #[] }, { accessFlags := 26, nameIndex := 318, descriptorIndex := 58, attributes := #[] }, { accessFlags := 26, nameIndex := 320, descriptorIndex := 58, attributes := #[] }])
  fields := #[{ name := "topic", type := (.object "java/lang/String"), accessFlags := 18, slot := 0, constantValue := 0 }, { name := "queueId", type := .int, accessFlags := 18, slot := 1, constantValue := 0 }, { name := "flag", type := .int, accessFlags := 18, slot := 2, constantValue := 0 }, { name := "queueOffset", type := .long, accessFlags := 18, slot := 3, constantValue := 0 }, { name := "physicalOffset", type := .long, accessFlags := 18, slot := 4, constantValue := 0 }, { name := "sysFlag", type := .int, accessFlags := 18, slot := 5, constantValue := 0 }, { name := "bornTimestamp", type := .long, accessFlags := 18, slot := 6, constantValue := 0 }, { name := "bornHost", type := (.object "java/net/InetSocketAddress"), accessFlags := 18, slot := 7, constantValue := 0 }, { name := "storeTimestamp", type := .long, accessFlags := 18, slot := 8, constantValue := 0 }, { name := "storeHost", type := (.object "java/net/InetSocketAddress"), accessFlags := 18, slot := 9, constantValue := 0 }, { name := "reconsumeTimes", type := .int, accessFlags := 18, slot := 10, constantValue := 0 }, { name := "preparedTransactionOffset", type := .long, accessFlags := 18, slot := 11, constantValue := 0 }, { name := "body", type := (.array .byte), accessFlags := 18, slot := 12, constantValue := 0 }, { name := "properties", type := (.array .byte), accessFlags := 18, slot := 13, constantValue := 0 }, { name := "MAGIC_CODE", type := .int, accessFlags := 25, slot := 0, constantValue := 0 }, { name := "MAX_TOPIC_LENGTH", type := .int, accessFlags := 25, slot := 1, constantValue := 0 }, { name := "MAX_PROPERTIES_LENGTH", type := .int, accessFlags := 25, slot := 2, constantValue := 0 }, { name := "FIXED_LENGTH", type := .int, accessFlags := 26, slot := 3, constantValue := 0 }, { name := "MAGIC", type := .int, accessFlags := 26, slot := 4, constantValue := 0 }, { name := "BODY_CRC", type := .int, accessFlags := 26, slot := 5, constantValue := 0 }, { name := "QUEUE_ID", type := .int, accessFlags := 26, slot := 6, constantValue := 0 }, { name := "FLAG", type := .int, accessFlags := 26, slot := 7, constantValue := 0 }, { name := "QUEUE_OFFSET", type := .int, accessFlags := 26, slot := 8, constantValue := 0 }, { name := "PHYSICAL_OFFSET", type := .int, accessFlags := 26, slot := 9, constantValue := 0 }, { name := "SYS_FLAG", type := .int, accessFlags := 26, slot := 10, constantValue := 0 }, { name := "BORN_TIMESTAMP", type := .int, accessFlags := 26, slot := 11, constantValue := 0 }, { name := "BORN_HOST", type := .int, accessFlags := 26, slot := 12, constantValue := 0 }, { name := "STORE_TIMESTAMP", type := .int, accessFlags := 26, slot := 13, constantValue := 0 }, { name := "STORE_HOST", type := .int, accessFlags := 26, slot := 14, constantValue := 0 }, { name := "RECONSUME_TIMES", type := .int, accessFlags := 26, slot := 15, constantValue := 0 }, { name := "PREPARED_TRANSACTION_OFFSET", type := .int, accessFlags := 26, slot := 16, constantValue := 0 }, { name := "BODY_LENGTH", type := .int, accessFlags := 26, slot := 17, constantValue := 0 }, { name := "BODY", type := .int, accessFlags := 26, slot := 18, constantValue := 0 }, { name := "IPV4_LENGTH", type := .int, accessFlags := 26, slot := 19, constantValue := 0 }, { name := "TOPIC_LENGTH_FIELD", type := .int, accessFlags := 26, slot := 20, constantValue := 0 }, { name := "PROPERTIES_LENGTH_FIELD", type := .int, accessFlags := 26, slot := 21, constantValue := 0 }, { name := "TOP_BIT_CLEARED", type := .int, accessFlags := 26, slot := 22, constantValue := 0 }]
  methods := #[k3m0]
  instanceTypes := #[(.object "java/lang/String"), .int, .int, .long, .long, .int, .long, (.object "java/net/InetSocketAddress"), .long, (.object "java/net/InetSocketAddress"), .int, .long, (.array .byte), (.array .byte)]
  staticTypes := #[.int, .int, .int, .int, .int, .int, .int, .int, .int, .int, .int, .int, .int, .int, .int, .int, .int, .int, .int, .int, .int, .int, .int]
  resolved := Array.replicate 385 none
  statics := none }

def pool4 : Array CpInfo := pool [(1, u "java/lang/Cloneable"), (0, .class_ 1), (0, u "java/lang/Object"), (0, .class_ 3)] 3

/-- java/lang/Cloneable -/
def k4 : Class := { plain "java/lang/Cloneable" (some 0) with
  accessFlags := 1537
  interfaces := #[]
  cf := some (fileOf pool4 2 #[] #[] 1537 4 #[] #[])
  fields := #[]
  methods := #[]
  instanceTypes := #[]
  staticTypes := #[]
  resolved := Array.replicate 8 none
  statics := none }

def pool5 : Array CpInfo := pool [(1, u "java/io/Serializable"), (0, .class_ 1), (0, u "java/lang/Object"), (0, .class_ 3)] 3

/-- java/io/Serializable -/
def k5 : Class := { plain "java/io/Serializable" (some 0) with
  accessFlags := 1537
  interfaces := #[]
  cf := some (fileOf pool5 2 #[] #[] 1537 4 #[] #[])
  fields := #[]
  methods := #[]
  instanceTypes := #[]
  staticTypes := #[]
  resolved := Array.replicate 8 none
  statics := none }

/-- the primitive byte -/
def k6 : Class := { plain "byte" none with kind := .primitive 'B', accessFlags := 0x411 }
/-- [B -/
def k7 : Class := { plain "[B" (some 0) with kind := .array 6 .byte, interfaces := #[4, 5], accessFlags := 1041 }

/-- the primitive int -/
def k8 : Class := { plain "int" none with kind := .primitive 'I', accessFlags := 0x411 }
/-- [I -/
def k9 : Class := { plain "[I" (some 0) with kind := .array 8 .int, interfaces := #[4, 5], accessFlags := 1041 }

def heap : Heap := #[]
def classes : Array Class := #[k0, k1, k2, k3, k4, k5, k6, k7, k8, k9]
def interned : List (Array UInt16 × Addr) := []
def slotsUsed : Nat := 0
def theMethod : MethodId := ⟨1, 1⟩
def args0 : Array Value := #[.long 5, .int 3, .int 4]
def aboutOver (below : List Frame) : State where
  vm := { classes := classes, interned := interned.toArray }
  heap := heap
  slotsUsed := slotsUsed
  threads := #[{ frames := .invoking theMethod args0 :: below }]
def below0 : List Frame := [.native { method := ⟨0, 0⟩, args := #[] }]
def about1 : State := aboutOver below0
def p0 : Program := .bare "" "" ""
def e0 : Env := launch0.env 0 0 0
theorem w_frames : about1.frames = Frame.invoking theMethod args0 :: below0 := rfl
set_option maxRecDepth 65536 in
theorem w_args : argsFit about1.vm theMethod args0 = true := by decide +kernel
set_option maxRecDepth 65536 in
theorem w_heap : heapFits about1 = true := by decide +kernel
set_option maxRecDepth 65536 in
theorem w_runnable : about1.curStatus? = some .runnable := by decide +kernel
set_option maxRecDepth 65536 in
theorem w_alone : about1.alone = true := by decide +kernel
set_option maxRecDepth 65536 in
theorem w_named : about1.methodNamed? x = some theMethod := by decide +kernel
set_option maxRecDepth 65536 in
theorem w_hears : about1.hears theMethod below0 = true := by decide +kernel
set_option maxRecDepth 65536 in
theorem w_ripe : about1.ripe theMethod args0 below0 = true := by decide +kernel
theorem w_running : about1.status = .running := rfl
set_option maxRecDepth 65536 in
theorem w_room : about1.hasRoom e0.platform room_1 = true :=
  launch0.hasRoom_least _ room_1 (by decide +kernel) (by decide +kernel) (by decide +kernel) (by decide +kernel) (by decide +kernel) (by decide +kernel)
theorem allAtoms_all (ts : List Jvm.Cond) (a : Array Jvm.Value) (st : Jvm.State) : (allAtoms ts).before a st = ts.all (fun c => c.before a st) := by
  induction ts with
  | nil => rfl
  | cons c t ih =>
    show (Jvm.Cond.and c (allAtoms t)).before a st = _
    rw [Jvm.Cond.before_and, ih, List.all_cons]
def words1 : List Jvm.Cond := Jvm.Cond.code x code maxLocals ret :: tables_1
/-- a 'code' word, met by the world's own term for the bytes: nothing is compared byte by byte -/
theorem code_word {y : MethodName} {bytes : ByteArray} {mx : Nat} {rt : Option FieldType} {a : Array Value} {s : State} {m : MethodId} {meth : Method} {c : Code} (h1 : s.methodNamed? y = some m) (h2 : s.vm.method? m = some meth) (h3 : meth.code = some c) (h4 : c.code = bytes)
    (h5 : (c.maxLocals == mx && c.exceptionTable.isEmpty && decide (c.maxStack ≤ mostOperands) && decide (meth.sig.returnType = rt) && !meth.locks && decide (parseMethodDescriptor y.desc = some meth.sig)) = true) : (Jvm.Cond.code y bytes mx rt).before a s = true := by
  simp only [Bool.and_eq_true, beq_iff_eq, Bool.not_eq_true', decide_eq_true_eq] at h5
  obtain ⟨⟨⟨⟨⟨g1, g2⟩, g3⟩, g4⟩, g5⟩, g6⟩ := h5
  simp [Cond.before, Cond.holds, Cond.value, h1, h2, h3, h4, g1, g2, g3, g4, g5, g6]
def isCode : Jvm.Cond → Bool
  | .code _ _ _ _ => true
  | _ => false
theorem all_split {L : List Jvm.Cond} {P : Jvm.Cond → Bool} (h1 : L.all (fun c => isCode c || P c) = true) (h2 : ∀ c ∈ L.filter isCode, P c = true) : L.all P = true := by
  refine List.all_eq_true.mpr fun c hc => ?_
  have h := List.all_eq_true.mp h1 c hc
  rcases Bool.eq_false_or_eq_true (isCode c) with hi | hi
  · exact h2 c (List.mem_filter.mpr ⟨hc, hi⟩)
  · simpa [hi] using h
set_option maxRecDepth 65536 in
theorem w_c0 : (Jvm.Cond.code x code maxLocals ret).before args0 about1 = true := code_word (m := ⟨1, 1⟩) (meth := k1m1) (c := k1c1) (by decide +kernel) rfl rfl rfl (by decide +kernel)
set_option maxRecDepth 65536 in
theorem w_c1 : (Jvm.Cond.code ({ cls := "com/example/brisk_ledger/briskledger/store/MessageRecord", name := "sizeOf", desc := "(JII)J" } : Jvm.MethodName) prog_59_method_5_code (4 : Nat) (Option.some Jvm.ClassFile.FieldType.long)).before args0 about1 = true := code_word (m := ⟨3, 0⟩) (meth := k3m0) (c := k3c0) (by decide +kernel) rfl rfl rfl (by decide +kernel)
def codes1 : List Jvm.Cond := [Jvm.Cond.code x code maxLocals ret, Jvm.Cond.code ({ cls := "com/example/brisk_ledger/briskledger/store/MessageRecord", name := "sizeOf", desc := "(JII)J" } : Jvm.MethodName) prog_59_method_5_code (4 : Nat) (Option.some Jvm.ClassFile.FieldType.long)]
set_option maxRecDepth 65536 in
theorem codes_eq : words1.filter isCode = codes1 := rfl
theorem w_codes : ∀ c ∈ words1.filter isCode, c.before args0 about1 = true := by
  rw [codes_eq]
  intro c hc
  simp only [codes1, List.mem_cons, List.not_mem_nil, or_false] at hc
  rcases hc with rfl | rfl
  · exact w_c0
  · exact w_c1
set_option maxRecDepth 65536 in
theorem w_t1 : words1.all (fun c => isCode c || c.before args0 about1) = true := by decide +kernel
theorem w_tables : (allAtoms (Jvm.Cond.code x code maxLocals ret :: tables_1)).before args0 about1 = true := by
  rw [allAtoms_all]
  show words1.all (fun c => c.before args0 about1) = true
  refine all_split ?_ w_codes
  rw [w_t1]
set_option maxRecDepth 65536 in
theorem w_case : (Jvm.Cond.and given_1 narrow_1).before args0 about1 = true := by decide +kernel
theorem w_applies : (headSpec (Jvm.Cond.code x code maxLocals ret :: tables_1) room_1).applies x e0.platform about1 = true :=
  (Spec.applies_iff w_frames).mpr ⟨w_running, w_runnable, w_alone, w_named, w_hears, w_ripe, w_room, w_tables⟩
theorem atStart : AtStart classFile x code maxLocals ret World_1 tables_1 room_1 Calls_1 rest_1 Pre_1 launch0 p0 e0 about1 theMethod args0 below0 :=
  ⟨lists_1, trivial, launch0.admits_env _ _ _, launch0.least_env, fairChoices_fair.cas, fairChoices_fair.clock, w_frames, w_args, w_heap, w_applies, trivial, trivial, w_case⟩
end start1
theorem witness_1 : WitnessClaimed_1 := ⟨start1.p0, start1.e0, start1.about1, start1.theMethod, start1.args0, start1.below0, start1.atStart⟩
end Jvm.Pilot.@@N@@
