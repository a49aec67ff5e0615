import JvmDerived
import JvmDerived.Pilot.@@N@@Statement
import JvmDerived.Pilot.@@N@@Code
set_option linter.unusedVariables false
set_option linter.unusedSimpArgs false
namespace Jvm.Pilot.@@N@@
open Jvm Jvm.ClassFile Sem Op Lib Jvm.Free Jvm.Stand Jvm.LawKit Jvm.RoadKit Bundle Jvm.Pilot.@@N@@.Jvm.D

def AI (Z : State) (h : Heap) (a : Addr) (ty : FieldType) (z : Int32) (f : Nat → Int32) : Prop := ∃ c : Cell, Arr Z h a c ty ∧ c.slots.size = z.toNatClampNeg ∧ ¬ z < 0 ∧ ∀ i, i < c.slots.size → c.slots[i]? = some (.int (f i))
def AL (Z : State) (h : Heap) (a : Addr) (z : Int32) (f : Nat → Int64) : Prop := ∃ c : Cell, Arr Z h a c .long ∧ c.slots.size = z.toNatClampNeg ∧ ¬ z < 0 ∧ ∀ i, i < c.slots.size → c.slots[i]? = some (.long (f i))
section Own
variable {Z : State} {h h' : Heap} {a b : Addr} {k : ClassId} {ty : FieldType} {z : Int32} {f : Nat → Int32} {fl : Nat → Int64} {sl : Nat} {v : Value} {ws : List Addr}
theorem AI.lt (F : AI Z h a ty z f) : a < h.size := by obtain ⟨c, A, -⟩ := F; exact A.lt
theorem AL.lt (F : AL Z h a z fl) : a < h.size := by obtain ⟨c, A, -⟩ := F; exact A.lt
theorem AI.ext (F : AI Z h a ty z f) (E : Ext h h') : AI Z h' a ty z f := by obtain ⟨c, A, r⟩ := F; exact ⟨c, A.ext E, r⟩
theorem AL.ext (F : AL Z h a z fl) (E : Ext h h') : AL Z h' a z fl := by obtain ⟨c, A, r⟩ := F; exact ⟨c, A.ext E, r⟩
theorem AI.other (F : AI Z h b ty z f) (W : Wr h h' a sl v) (q : b ≠ a) : AI Z h' b ty z f := by obtain ⟨c, A, r⟩ := F; exact ⟨c, A.other W q, r⟩
theorem AL.other (F : AL Z h b z fl) (W : Wr h h' a sl v) (q : b ≠ a) : AL Z h' b z fl := by obtain ⟨c, A, r⟩ := F; exact ⟨c, A.other W q, r⟩
theorem AI.keep (F : AI Z h a ty z f) (K : Keep h h' ws) (q : a ∉ ws) : AI Z h' a ty z f := by obtain ⟨c, A, r⟩ := F; exact ⟨c, ⟨K.2.1 a c A.1 q, A.2⟩, r⟩
theorem AL.keep (F : AL Z h a z fl) (K : Keep h h' ws) (q : a ∉ ws) : AL Z h' a z fl := by obtain ⟨c, A, r⟩ := F; exact ⟨c, ⟨K.2.1 a c A.1 q, A.2⟩, r⟩
theorem AI.new (hd : defaultValue ty = .int 0) (A : Arr Z h a (newA k ty z) ty) (q : ¬ z < 0) : AI Z h a ty z (fun _ => (0 : Int32)) := ⟨_, A, by simp [newA], q, fun i hi => by
  have hi' : i < z.toNatClampNeg := by simpa [newA] using hi
  simp [newA, hi', hd]⟩
theorem AL.new (A : Arr Z h a (newA k .long z) .long) (q : ¬ z < 0) : AL Z h a z (fun _ => (0 : Int64)) := ⟨_, A, by simp [newA], q, fun i hi => by
  have hi' : i < z.toNatClampNeg := by simpa [newA] using hi
  simp [newA, hi', defaultValue]⟩
theorem AI.set {j : Nat} {x : Int32} (F : AI Z h a ty z f) (W : Wr h h' a j (.int x)) : AI Z h' a ty z (fun i => if i = j then x else f i) := by
  obtain ⟨c, A, S, q, H⟩ := F
  refine ⟨_, A.same W, by simpa [Cell.setSlot] using S, q, fun i hi => ?_⟩
  have hi' : i < c.slots.size := by simpa [Cell.setSlot] using hi
  by_cases e : i = j
  · subst e; simp [Cell.setSlot, hi']
  · have e' : ¬ j = i := fun q => e q.symm
    simp only [Cell.setSlot, if_neg e]; rw [Array.getElem?_setIfInBounds_ne e']; exact H i hi'
theorem AL.set {j : Nat} {x : Int64} (F : AL Z h a z fl) (W : Wr h h' a j (.long x)) : AL Z h' a z (fun i => if i = j then x else fl i) := by
  obtain ⟨c, A, S, q, H⟩ := F
  refine ⟨_, A.same W, by simpa [Cell.setSlot] using S, q, fun i hi => ?_⟩
  have hi' : i < c.slots.size := by simpa [Cell.setSlot] using hi
  by_cases e : i = j
  · subst e; simp [Cell.setSlot, hi']
  · have e' : ¬ j = i := fun q => e q.symm
    simp only [Cell.setSlot, if_neg e]; rw [Array.getElem?_setIfInBounds_ne e']; exact H i hi'
end Own
theorem d2_0 : decode jdk_29_method_69_code 0 = .ok (.iload_n 0, 1) := by decide +kernel
theorem d2_1 : decode jdk_29_method_69_code 1 = .ok (.iload_n 1, 1) := by decide +kernel
theorem d2_2 : decode jdk_29_method_69_code 2 = .ok (.if_icmp .gt 7, 3) := by decide +kernel
theorem d2_5 : decode jdk_29_method_69_code 5 = .ok (.iload_n 0, 1) := by decide +kernel
theorem d2_6 : decode jdk_29_method_69_code 6 = .ok (.goto 4, 3) := by decide +kernel
theorem d2_9 : decode jdk_29_method_69_code 9 = .ok (.iload_n 1, 1) := by decide +kernel
theorem d2_10 : decode jdk_29_method_69_code 10 = .ok (.ireturn, 1) := by decide +kernel
theorem ef_2 (m : MethodId) (p0 : Int32) (p1 : Int32) : entryFrame m #[(.int p0), (.int p1)] 2 = mkF m 0 #[.val (.int p0), .val (.int p1)] [] := by first | (simp [entryFrame, mkF, argsToLocals, Value.category]; done) | rfl
def b2_0 (p0 : Int32) (p1 : Int32) : Int32 := (if p1 < p0 then p1 else p0)
set_option maxRecDepth 65536 in
set_option maxHeartbeats 40000000 in
theorem bl2_0 {p : Program} {l : Launch} {e : Env} {R : Room} {s : State} {m : MethodId} {args : Array Value} {below : List Frame} {meth : Method} {c : Code} {T : State} {locs : List Loc} {cells slots : Nat} {Z : State} {a0 : Array Value} (p0 : Int32) (p1 : Int32) (X0 : Stand p l e R s m args below meth c T locs cells slots) (hx : p.tables.exec = Jvm.exec) (hZ : Z.Warmed39 s.vm) (hw : ∀ d ∈ tables_1, d.before a0 Z = true) (hby : c.code = jdk_29_method_69_code) (hown : s.vm.findClass "java/lang/Math" = some m.cls) (hrt : meth.sig.returnType = some .int) {fs : List Frame} (hr : ∀ (f : JFrame) (acts : List Action), f.method = m → f.locked = none → f.entered = [] → (doReturn e (T.setTop f) acts (some (.int (b2_0 p0 p1)))).1 = T.setFrames fs) :
    Steps p.tables e below (T.setTop (mkF m 0 #[.val (.int p0), .val (.int p1)] [])) (T.setFrames fs) := by
  refine XS.iloadN X0.here hx rfl (hb hby d2_0) rfl ?_
  show Steps p.tables e below (T.setTop (mkF m 1 #[.val (.int p0), .val (.int p1)] [(.int p0)])) _
  refine XS.iloadN X0.here hx rfl (hb hby d2_1) rfl ?_
  show Steps p.tables e below (T.setTop (mkF m 2 #[.val (.int p0), .val (.int p1)] [(.int p1), (.int p0)])) _
  by_cases hc0 : p1 < p0
  · rw [show b2_0 p0 p1 = p1 from by rw [b2_0, if_pos hc0]] at hr
    refine XS.icmpYes X0.here hx rfl (pc0 := 2) (pc' := 9) rfl (hb hby d2_2) rfl (tlt hc0).2.2.1 (by decide) (by decide) ?_
    show Steps p.tables e below (T.setTop (mkF m 9 #[.val (.int p0), .val (.int p1)] [])) _
    refine XS.iloadN X0.here hx rfl (hb hby d2_9) rfl ?_
    show Steps p.tables e below (T.setTop (mkF m 10 #[.val (.int p0), .val (.int p1)] [(.int p1)])) _
    exact retOut X0 hx hrt rfl (Or.inl ⟨rfl, Or.inl rfl, _, rfl⟩) (hb hby d2_10) hr
  · rw [show b2_0 p0 p1 = p0 from by rw [b2_0, if_neg hc0]] at hr
    refine XS.icmpNo X0.here hx rfl (hb hby d2_2) rfl (flt hc0).2.2.1 ?_
    show Steps p.tables e below (T.setTop (mkF m 5 #[.val (.int p0), .val (.int p1)] [])) _
    refine XS.iloadN X0.here hx rfl (hb hby d2_5) rfl ?_
    show Steps p.tables e below (T.setTop (mkF m 6 #[.val (.int p0), .val (.int p1)] [(.int p0)])) _
    refine XS.goto X0.here hx rfl (pc0 := 6) (pc' := 10) rfl (hb hby d2_6) (by decide) (by decide) ?_
    show Steps p.tables e below (T.setTop (mkF m 10 #[.val (.int p0), .val (.int p1)] [(.int p0)])) _
    exact retOut X0 hx hrt rfl (Or.inl ⟨rfl, Or.inl rfl, _, rfl⟩) (hb hby d2_10) hr
def Q2 (Z : State) (p0 : Int32) (p1 : Int32) (h0 : Heap) (n0 : Nat) (v : Option Value) (h : Heap) (L : List Loc) : Prop := v = some (.int (b2_0 p0 p1)) ∧ Fr n0 L ∧ h = h0
set_option maxRecDepth 65536 in
set_option maxHeartbeats 40000000 in
theorem rm2 (l : Launch) (Z : State) (a0 : Array Value) (hw : ∀ d ∈ tables_1, d.before a0 Z = true) (ws : List Jvm.Cond) (p0 : Int32) (p1 : Int32) (h0 : Heap) (n0 : Nat) (Z0 : n0 ≤ h0.size) :
    MetFree l (⟨"java/lang/Math", "min", "(II)I"⟩ : MethodName) (head1 (Jvm.Cond.code (⟨"java/lang/Math", "min", "(II)I"⟩ : MethodName) jdk_29_method_69_code 2 (some .int) :: ws) ({ frames := 0, cells := 0, slots := 0, locals := 0 } : Room)) (fun a U => a = #[(.int p0), (.int p1)] ∧ Z.Warmed39 U.vm ∧ U.heap = h0) (fun _ _ _ _ _ => True) (fun _ U o U' => ∃ v L, o = .returned v ∧ Q2 Z p0 p1 h0 n0 v U'.heap L ∧ FrameEnd U o U' L ({ frames := 0, cells := 0, slots := 0, locals := 0 } : Room).cells ({ frames := 0, cells := 0, slots := 0, locals := 0 } : Room).slots) := by
  refine MetFree.of_bodySF (Jvm.Free.JP.mathPlain rfl (by decide +kernel)) hisR ?_
  intro p e s m args below meth c s₁ Bd hml0 hP hK
  obtain ⟨rfl, hZ, hh⟩ := hP
  have hx := Bd.exec
  have hby := Bd.bytes
  have hml : c.maxLocals = 2 := hml0
  have hown : s.vm.findClass "java/lang/Math" = some m.cls := findClass_of_methodNamed Bd.named
  have hnm := (name_of_methodNamed Bd.named Bd.method).1
  have X0 : Stand p l e ({ frames := 0, cells := 0, slots := 0, locals := 0 } : Room) s m #[(.int p0), (.int p1)] below meth c s₁ [] 0 0 := Stand.of_body Bd
  have e0 : s₁.heap = h0 := by rw [← hh, Bd.state]; rfl
  have N0 := Fr.nil n0
  have pre0 : ∀ t, Steps p.tables e below (s₁.setTop (mkF m 0 #[.val (.int p0), .val (.int p1)] [])) t → Steps p.tables e below (s₁.setTop (entryFrame m #[(.int p0), (.int p1)] 2)) t := fun t k => castTop (ef_2 m p0 p1) k
  obtain ⟨fs, hr, hrun, hended, hW, hsame⟩ := X0.leave (v := some (.int (b2_0 p0 p1))) (fun h => by rw [Bd.returns] at h; cases h)
  refine ⟨_, _, pre0 _ ?_, hrun, hended, _, _, rfl, ?_, ⟨_, rfl⟩, hW, hsame.mono (by decide) (by decide)⟩
  · exact bl2_0 p0 p1 X0 hx hZ hw hby hown Bd.returns hr
  · show Q2 Z p0 p1 h0 n0 _ s₁.heap _
    rw [e0]
    exact ⟨rfl, N0, rfl⟩
theorem own_cap (n : Int32) (h0 : ¬ n < (0 : Int32)) (h3 : ¬ (3 : Int32) < n) : n.toNatClampNeg ≤ 3 := by
  have e0 : (0 : Int32).toInt = 0 := by decide
  have e3 : (3 : Int32).toInt = 3 := by decide
  rw [Int32.lt_iff_toInt_lt] at h0 h3
  have q : (n.toNatClampNeg : Int) = n.toInt := by rw [← Int32.toNat_toInt]; omega
  omega
theorem own_and (x : Int32) : ¬ (x &&& (3 : Int32)) < (0 : Int32) ∧ ¬ (3 : Int32) < (x &&& (3 : Int32)) := by
  have a := c_mask x 3 2 (by decide) (by decide)
  have e0 : (0 : Int32).toInt = 0 := by decide
  have e3 : (3 : Int32).toInt = 3 := by decide
  rw [Int32.lt_iff_toInt_lt, Int32.lt_iff_toInt_lt]
  omega
theorem own_min {a b : Int32} (ha : ¬ a < (0 : Int32) ∧ ¬ (3 : Int32) < a) (hb : ¬ b < (0 : Int32) ∧ ¬ (3 : Int32) < b) : ¬ b2_0 a b < (0 : Int32) ∧ ¬ (3 : Int32) < b2_0 a b := by
  rw [b2_0]; split <;> assumption
def own_unit (z y : Int32) : Int32 := if z = (0 : Int32) then (if y = (1 : Int32) then 1 else 0) else 0
def own_empty (z y : Int32) : Int32 := if z = (0 : Int32) then (if y = (0 : Int32) then 1 else 0) else 0
theorem d1_0 : decode method_3_code 0 = .ok (.iload_n 0, 1) := by decide +kernel
theorem d1_1 : decode method_3_code 1 = .ok (.newarray .long, 2) := by decide +kernel
theorem d1_3 : decode method_3_code 3 = .ok (.astore_n 3, 1) := by decide +kernel
theorem d1_4 : decode method_3_code 4 = .ok (.iload_n 0, 1) := by decide +kernel
theorem d1_5 : decode method_3_code 5 = .ok (.ifCond .le 7, 3) := by decide +kernel
theorem d1_8 : decode method_3_code 8 = .ok (.aload_n 3, 1) := by decide +kernel
theorem d1_9 : decode method_3_code 9 = .ok (.iconst 0, 1) := by decide +kernel
theorem d1_10 : decode method_3_code 10 = .ok (.lload_n 1, 1) := by decide +kernel
theorem d1_11 : decode method_3_code 11 = .ok (.lastore, 1) := by decide +kernel
theorem d1_12 : decode method_3_code 12 = .ok (.iload_n 0, 1) := by decide +kernel
theorem d1_13 : decode method_3_code 13 = .ok (.iconst 1, 1) := by decide +kernel
theorem d1_14 : decode method_3_code 14 = .ok (.if_icmp .le 9, 3) := by decide +kernel
theorem d1_17 : decode method_3_code 17 = .ok (.aload_n 3, 1) := by decide +kernel
theorem d1_18 : decode method_3_code 18 = .ok (.iconst 1, 1) := by decide +kernel
theorem d1_19 : decode method_3_code 19 = .ok (.lload_n 1, 1) := by decide +kernel
theorem d1_20 : decode method_3_code 20 = .ok (.lconst 1, 1) := by decide +kernel
theorem d1_21 : decode method_3_code 21 = .ok (.ladd, 1) := by decide +kernel
theorem d1_22 : decode method_3_code 22 = .ok (.lastore, 1) := by decide +kernel
theorem d1_23 : decode method_3_code 23 = .ok (.iload_n 0, 1) := by decide +kernel
theorem d1_24 : decode method_3_code 24 = .ok (.iconst 2, 1) := by decide +kernel
theorem d1_25 : decode method_3_code 25 = .ok (.if_icmp .le 11, 3) := by decide +kernel
theorem d1_28 : decode method_3_code 28 = .ok (.aload_n 3, 1) := by decide +kernel
theorem d1_29 : decode method_3_code 29 = .ok (.iconst 2, 1) := by decide +kernel
theorem d1_30 : decode method_3_code 30 = .ok (.lload_n 1, 1) := by decide +kernel
theorem d1_31 : decode method_3_code 31 = .ok (.ldc2_w 31, 3) := by decide +kernel
theorem d1_34 : decode method_3_code 34 = .ok (.ladd, 1) := by decide +kernel
theorem d1_35 : decode method_3_code 35 = .ok (.lastore, 1) := by decide +kernel
theorem d1_36 : decode method_3_code 36 = .ok (.aload_n 3, 1) := by decide +kernel
theorem d1_37 : decode method_3_code 37 = .ok (.areturn, 1) := by decide +kernel
theorem pn_1 : plainName "com/example/honeybee/honeybee/calculus/ClauseIsUnitPinLaw" = true := by first | (simp [plainName, overriddenIn]; done) | decide +kernel
theorem ef_1 (m : MethodId) (p0 : Int32) (q1 : Int64) : entryFrame m #[(.int p0), (.long q1)] 4 = mkF m 0 #[.val (.int p0), .val (.long q1), .second, .unset] [] := by first | (simp [entryFrame, mkF, argsToLocals, Value.category]; done) | rfl
def Q1 (Z : State) (p0 : Int32) (q1 : Int64) (h0 : Heap) (n0 : Nat) (v : Option Value) (h : Heap) (L : List Loc) : Prop := ∃ b : Addr, ∃ f : Nat → Int64, v = some (.ref b) ∧ Fr n0 L ∧ h0.size ≤ b ∧ Keep h0 h [] ∧ AL Z h b p0 f
set_option maxRecDepth 65536 in
set_option maxHeartbeats 40000000 in
theorem rm1 (l : Launch) (Z : State) (a0 : Array Value) (hw : ∀ d ∈ tables_1, d.before a0 Z = true) (ws : List Jvm.Cond) (p0 : Int32) (q1 : Int64) (h0 : Heap) (n0 : Nat) (Z0 : n0 ≤ h0.size) (hn0 : ¬ p0 < (0 : Int32)) (hn3 : ¬ (3 : Int32) < p0) :
    MetFree l (⟨"com/example/honeybee/honeybee/calculus/ClauseIsUnitPinLaw", "arr", "(IJ)[J"⟩ : MethodName) (head1 (Jvm.Cond.code (⟨"com/example/honeybee/honeybee/calculus/ClauseIsUnitPinLaw", "arr", "(IJ)[J"⟩ : MethodName) method_3_code 4 (some (.array .long)) :: ws) ({ frames := 0, cells := 1, slots := 3, locals := 0 } : Room)) (fun a U => a = #[(.int p0), (.long q1)] ∧ Z.Warmed39 U.vm ∧ U.heap = h0) (fun _ _ _ _ _ => True) (fun _ U o U' => ∃ v L, o = .returned v ∧ Q1 Z p0 q1 h0 n0 v U'.heap L ∧ FrameEnd U o U' L ({ frames := 0, cells := 1, slots := 3, locals := 0 } : Room).cells ({ frames := 0, cells := 1, slots := 3, locals := 0 } : Room).slots) := by
  refine MetFree.of_bodySF (plainFor_of_name pn_1) hisR ?_
  intro p e s m args below meth c s₁ Bd hml0 hP hK
  obtain ⟨rfl, hZ, hh⟩ := hP
  have hx := Bd.exec
  have hby := Bd.bytes
  have hml : c.maxLocals = 4 := hml0
  have hown : s.vm.findClass "com/example/honeybee/honeybee/calculus/ClauseIsUnitPinLaw" = some m.cls := findClass_of_methodNamed Bd.named
  have hnm := (name_of_methodNamed Bd.named Bd.method).1
  have X0 : Stand p l e ({ frames := 0, cells := 1, slots := 3, locals := 0 } : Room) s m #[(.int p0), (.long q1)] below meth c s₁ [] 0 0 := Stand.of_body Bd
  have e0 : s₁.heap = h0 := by rw [← hh, Bd.state]; rfl
  have N0 := Fr.nil n0
  have pre0 : ∀ t, Steps p.tables e below (s₁.setTop (mkF m 0 #[.val (.int p0), .val (.long q1), .second, .unset] [])) t → Steps p.tables e below (s₁.setTop (entryFrame m #[(.int p0), (.long q1)] 4)) t := fun t k => castTop (ef_1 m p0 q1) k
  obtain ⟨T11, h11, k11, X11, e11, E11, A11, st11⟩ := newP X0 hx hZ (hw _ (List.mem_of_getElem? (i := 4) rfl)) e0 (g := (mkF m 1 #[.val (.int p0), .val (.long q1), .second, .unset] [(.int p0)])) rfl (hb hby d1_1) rfl hn0 (cap := 3) (own_cap _ hn0 hn3) (by decide) (by decide) (by decide)
  obtain ⟨b11, gb11⟩ : ∃ z, z = h0.size := ⟨_, rfl⟩
  rw [← gb11] at A11 st11
  have g12 : n0 ≤ b11 := Nat.le_trans Z0 (Nat.le_of_eq gb11.symm)
  have z13 : h0.size ≤ b11 := Nat.le_trans (Keep.refl h0 []).1 (Nat.le_of_eq gb11.symm)
  have Z14 : n0 ≤ h11.size := Nat.le_trans Z0 E11.1
  have K15 : Keep h0 h11 [] := (Keep.refl h0 []).ext E11
  have V11 : AL Z h11 b11 p0 (fun _ => (0 : Int64)) := AL.new A11 hn0
  have pre16 : ∀ t, Steps p.tables e below (T11.setTop (mkF m 5 #[.val (.int p0), .val (.long q1), .second, .val (.ref b11)] [(.int p0)])) t → Steps p.tables e below (s₁.setTop (entryFrame m #[(.int p0), (.long q1)] 4)) t := fun t k => pre0 t (by
    refine XS.iloadN X0.here hx rfl (hb hby d1_0) rfl ?_
    show Steps p.tables e below (s₁.setTop (mkF m 1 #[.val (.int p0), .val (.long q1), .second, .unset] [(.int p0)])) _
    refine st11 _ ?_
    show Steps p.tables e below (T11.setTop (mkF m 3 #[.val (.int p0), .val (.long q1), .second, .unset] [(.ref b11)])) _
    refine XS.astoreN X11.here hx rfl (hb hby d1_3) rfl rfl (l' := #[.val (.int p0), .val (.long q1), .second, .val (.ref b11)]) rfl ?_
    show Steps p.tables e below (T11.setTop (mkF m 4 #[.val (.int p0), .val (.long q1), .second, .val (.ref b11)] [])) _
    refine XS.iloadN X11.here hx rfl (hb hby d1_4) rfl ?_
    exact k)
  by_cases hc17 : (0 : Int32) < p0
  · obtain ⟨cl18, Ar18, S18, M18, I18⟩ := id V11
    have hin18 : ¬ ((0 : Int32) < 0 ∨ cl18.slots.size ≤ ((0 : Int32)).toNatClampNeg) := inb_of S18 ⟨by decide, hc17⟩
    obtain ⟨T19, h19, X19, e19, W19, st19⟩ := stJ X11 hx hZ e11 Ar18 (j := (0 : Int32)) hin18 (g := (mkF m 11 #[.val (.int p0), .val (.long q1), .second, .val (.ref b11)] [(.long q1), (.int (0 : Int32)), (.ref b11)])) rfl rfl (hb hby d1_11)
    have V19 : AL Z h19 b11 p0 (fun i => if i = ((0 : Int32)).toNatClampNeg then q1 else (fun _ => (0 : Int64)) i) := AL.set V11 W19
    have Z20 : n0 ≤ h19.size := Nat.le_trans Z14 (Keep.of_wr W19).1
    have K21 : Keep h0 h19 [] := K15.wr W19 (Or.inr z13)
    have N19 := Fr.snoc X19 N0 g12
    have pre22 : ∀ t, Steps p.tables e below (T19.setTop (mkF m 14 #[.val (.int p0), .val (.long q1), .second, .val (.ref b11)] [(.int (1 : Int32)), (.int p0)])) t → Steps p.tables e below (s₁.setTop (entryFrame m #[(.int p0), (.long q1)] 4)) t := fun t k => pre16 t (by
      refine XS.ifNo X11.here hx rfl (hb hby d1_5) rfl ((if0 _ _).trans (tlt hc17).2.2.2) ?_
      show Steps p.tables e below (T11.setTop (mkF m 8 #[.val (.int p0), .val (.long q1), .second, .val (.ref b11)] [])) _
      refine XS.aloadN X11.here hx rfl (hb hby d1_8) rfl rfl ?_
      show Steps p.tables e below (T11.setTop (mkF m 9 #[.val (.int p0), .val (.long q1), .second, .val (.ref b11)] [(.ref b11)])) _
      refine XS.iconst X11.here hx rfl (hb hby d1_9) ?_
      show Steps p.tables e below (T11.setTop (mkF m 10 #[.val (.int p0), .val (.long q1), .second, .val (.ref b11)] [(.int (0 : Int32)), (.ref b11)])) _
      refine XS.lloadN X11.here hx rfl (hb hby d1_10) rfl ?_
      show Steps p.tables e below (T11.setTop (mkF m 11 #[.val (.int p0), .val (.long q1), .second, .val (.ref b11)] [(.long q1), (.int (0 : Int32)), (.ref b11)])) _
      refine st19 _ ?_
      show Steps p.tables e below (T19.setTop (mkF m 12 #[.val (.int p0), .val (.long q1), .second, .val (.ref b11)] [])) _
      refine XS.iloadN X19.here hx rfl (hb hby d1_12) rfl ?_
      show Steps p.tables e below (T19.setTop (mkF m 13 #[.val (.int p0), .val (.long q1), .second, .val (.ref b11)] [(.int p0)])) _
      refine XS.iconst X19.here hx rfl (hb hby d1_13) ?_
      exact k)
    by_cases hc23 : (1 : Int32) < p0
    · obtain ⟨cl24, Ar24, S24, M24, I24⟩ := id V19
      have hin24 : ¬ ((1 : Int32) < 0 ∨ cl24.slots.size ≤ ((1 : Int32)).toNatClampNeg) := inb_of S24 ⟨by decide, hc23⟩
      obtain ⟨T25, h25, X25, e25, W25, st25⟩ := stJ X19 hx hZ e19 Ar24 (j := (1 : Int32)) hin24 (g := (mkF m 22 #[.val (.int p0), .val (.long q1), .second, .val (.ref b11)] [(.long (q1 + (1 : Int64))), (.int (1 : Int32)), (.ref b11)])) rfl rfl (hb hby d1_22)
      have V25 : AL Z h25 b11 p0 (fun i => if i = ((1 : Int32)).toNatClampNeg then (q1 + (1 : Int64)) else (fun i => if i = ((0 : Int32)).toNatClampNeg then q1 else (fun _ => (0 : Int64)) i) i) := AL.set V19 W25
      have Z26 : n0 ≤ h25.size := Nat.le_trans Z20 (Keep.of_wr W25).1
      have K27 : Keep h0 h25 [] := K21.wr W25 (Or.inr z13)
      have N25 := Fr.snoc X25 N19 g12
      have pre28 : ∀ t, Steps p.tables e below (T25.setTop (mkF m 25 #[.val (.int p0), .val (.long q1), .second, .val (.ref b11)] [(.int (2 : Int32)), (.int p0)])) t → Steps p.tables e below (s₁.setTop (entryFrame m #[(.int p0), (.long q1)] 4)) t := fun t k => pre22 t (by
        refine XS.icmpNo X19.here hx rfl (hb hby d1_14) rfl (tlt hc23).2.2.2 ?_
        show Steps p.tables e below (T19.setTop (mkF m 17 #[.val (.int p0), .val (.long q1), .second, .val (.ref b11)] [])) _
        refine XS.aloadN X19.here hx rfl (hb hby d1_17) rfl rfl ?_
        show Steps p.tables e below (T19.setTop (mkF m 18 #[.val (.int p0), .val (.long q1), .second, .val (.ref b11)] [(.ref b11)])) _
        refine XS.iconst X19.here hx rfl (hb hby d1_18) ?_
        show Steps p.tables e below (T19.setTop (mkF m 19 #[.val (.int p0), .val (.long q1), .second, .val (.ref b11)] [(.int (1 : Int32)), (.ref b11)])) _
        refine XS.lloadN X19.here hx rfl (hb hby d1_19) rfl ?_
        show Steps p.tables e below (T19.setTop (mkF m 20 #[.val (.int p0), .val (.long q1), .second, .val (.ref b11)] [(.long q1), (.int (1 : Int32)), (.ref b11)])) _
        refine XS.lconst X19.here hx rfl (hb hby d1_20) ?_
        show Steps p.tables e below (T19.setTop (mkF m 21 #[.val (.int p0), .val (.long q1), .second, .val (.ref b11)] [(.long (1 : Int64)), (.long q1), (.int (1 : Int32)), (.ref b11)])) _
        refine XS.ladd X19.here hx rfl (hb hby d1_21) rfl ?_
        show Steps p.tables e below (T19.setTop (mkF m 22 #[.val (.int p0), .val (.long q1), .second, .val (.ref b11)] [(.long (q1 + (1 : Int64))), (.int (1 : Int32)), (.ref b11)])) _
        refine st25 _ ?_
        show Steps p.tables e below (T25.setTop (mkF m 23 #[.val (.int p0), .val (.long q1), .second, .val (.ref b11)] [])) _
        refine XS.iloadN X25.here hx rfl (hb hby d1_23) rfl ?_
        show Steps p.tables e below (T25.setTop (mkF m 24 #[.val (.int p0), .val (.long q1), .second, .val (.ref b11)] [(.int p0)])) _
        refine XS.iconst X25.here hx rfl (hb hby d1_24) ?_
        exact k)
      by_cases hc29 : (2 : Int32) < p0
      · obtain ⟨cl30, Ar30, S30, M30, I30⟩ := id V25
        have hin30 : ¬ ((2 : Int32) < 0 ∨ cl30.slots.size ≤ ((2 : Int32)).toNatClampNeg) := inb_of S30 ⟨by decide, hc29⟩
        obtain ⟨T31, h31, X31, e31, W31, st31⟩ := stJ X25 hx hZ e25 Ar30 (j := (2 : Int32)) hin30 (g := (mkF m 35 #[.val (.int p0), .val (.long q1), .second, .val (.ref b11)] [(.long (q1 + (2 : Int64))), (.int (2 : Int32)), (.ref b11)])) rfl rfl (hb hby d1_35)
        have V31 : AL Z h31 b11 p0 (fun i => if i = ((2 : Int32)).toNatClampNeg then (q1 + (2 : Int64)) else (fun i => if i = ((1 : Int32)).toNatClampNeg then (q1 + (1 : Int64)) else (fun i => if i = ((0 : Int32)).toNatClampNeg then q1 else (fun _ => (0 : Int64)) i) i) i) := AL.set V25 W31
        have Z32 : n0 ≤ h31.size := Nat.le_trans Z26 (Keep.of_wr W31).1
        have K33 : Keep h0 h31 [] := K27.wr W31 (Or.inr z13)
        have N31 := Fr.snoc X31 N25 g12
        obtain ⟨fs, hr, hrun, hended, hW, hsame⟩ := X31.leave (v := some (.ref b11)) (fun h => by rw [Bd.returns] at h; cases h)
        refine ⟨_, _, pre28 _ ?_, hrun, hended, _, _, rfl, ?_, ⟨_, rfl⟩, hW, hsame.mono (by decide) (by decide)⟩
        · refine XS.icmpNo X25.here hx rfl (hb hby d1_25) rfl (tlt hc29).2.2.2 ?_
          show Steps p.tables e below (T25.setTop (mkF m 28 #[.val (.int p0), .val (.long q1), .second, .val (.ref b11)] [])) _
          refine XS.aloadN X25.here hx rfl (hb hby d1_28) rfl rfl ?_
          show Steps p.tables e below (T25.setTop (mkF m 29 #[.val (.int p0), .val (.long q1), .second, .val (.ref b11)] [(.ref b11)])) _
          refine XS.iconst X25.here hx rfl (hb hby d1_29) ?_
          show Steps p.tables e below (T25.setTop (mkF m 30 #[.val (.int p0), .val (.long q1), .second, .val (.ref b11)] [(.int (2 : Int32)), (.ref b11)])) _
          refine XS.lloadN X25.here hx rfl (hb hby d1_30) rfl ?_
          show Steps p.tables e below (T25.setTop (mkF m 31 #[.val (.int p0), .val (.long q1), .second, .val (.ref b11)] [(.long q1), (.int (2 : Int32)), (.ref b11)])) _
          refine X25.ldc2Long hx hown (mvT hZ (hw _ (List.mem_of_getElem? (i := 36) rfl))) (g := (mkF m 31 #[.val (.int p0), .val (.long q1), .second, .val (.ref b11)] [(.long q1), (.int (2 : Int32)), (.ref b11)])) rfl (hb hby d1_31) _ ?_
          show Steps p.tables e below (T25.setTop (mkF m 34 #[.val (.int p0), .val (.long q1), .second, .val (.ref b11)] [(.long (2 : Int64)), (.long q1), (.int (2 : Int32)), (.ref b11)])) _
          refine XS.ladd X25.here hx rfl (hb hby d1_34) rfl ?_
          show Steps p.tables e below (T25.setTop (mkF m 35 #[.val (.int p0), .val (.long q1), .second, .val (.ref b11)] [(.long (q1 + (2 : Int64))), (.int (2 : Int32)), (.ref b11)])) _
          refine st31 _ ?_
          show Steps p.tables e below (T31.setTop (mkF m 36 #[.val (.int p0), .val (.long q1), .second, .val (.ref b11)] [])) _
          refine XS.aloadN X31.here hx rfl (hb hby d1_36) rfl rfl ?_
          show Steps p.tables e below (T31.setTop (mkF m 37 #[.val (.int p0), .val (.long q1), .second, .val (.ref b11)] [(.ref b11)])) _
          exact retOut X31 hx Bd.returns rfl (Or.inr (Or.inr (Or.inr (Or.inr ⟨rfl, rfl, rfl⟩)))) (hb hby d1_37) hr
        · show Q1 Z p0 q1 h0 n0 _ T31.heap _
          rw [e31]
          exact ⟨b11, (fun i => if i = ((2 : Int32)).toNatClampNeg then (q1 + (2 : Int64)) else (fun i => if i = ((1 : Int32)).toNatClampNeg then (q1 + (1 : Int64)) else (fun i => if i = ((0 : Int32)).toNatClampNeg then q1 else (fun _ => (0 : Int64)) i) i) i), rfl, N31, z13, K33, V31⟩
      · obtain ⟨fs, hr, hrun, hended, hW, hsame⟩ := X25.leave (v := some (.ref b11)) (fun h => by rw [Bd.returns] at h; cases h)
        refine ⟨_, _, pre28 _ ?_, hrun, hended, _, _, rfl, ?_, ⟨_, rfl⟩, hW, hsame.mono (by decide) (by decide)⟩
        · refine XS.icmpYes X25.here hx rfl (pc0 := 25) (pc' := 36) rfl (hb hby d1_25) rfl (flt hc29).2.2.2 (by decide) (by decide) ?_
          show Steps p.tables e below (T25.setTop (mkF m 36 #[.val (.int p0), .val (.long q1), .second, .val (.ref b11)] [])) _
          refine XS.aloadN X25.here hx rfl (hb hby d1_36) rfl rfl ?_
          show Steps p.tables e below (T25.setTop (mkF m 37 #[.val (.int p0), .val (.long q1), .second, .val (.ref b11)] [(.ref b11)])) _
          exact retOut X25 hx Bd.returns rfl (Or.inr (Or.inr (Or.inr (Or.inr ⟨rfl, rfl, rfl⟩)))) (hb hby d1_37) hr
        · show Q1 Z p0 q1 h0 n0 _ T25.heap _
          rw [e25]
          exact ⟨b11, (fun i => if i = ((1 : Int32)).toNatClampNeg then (q1 + (1 : Int64)) else (fun i => if i = ((0 : Int32)).toNatClampNeg then q1 else (fun _ => (0 : Int64)) i) i), rfl, N25, z13, K27, V25⟩
    · have pre34 : ∀ t, Steps p.tables e below (T19.setTop (mkF m 25 #[.val (.int p0), .val (.long q1), .second, .val (.ref b11)] [(.int (2 : Int32)), (.int p0)])) t → Steps p.tables e below (s₁.setTop (entryFrame m #[(.int p0), (.long q1)] 4)) t := fun t k => pre22 t (by
        refine XS.icmpYes X19.here hx rfl (pc0 := 14) (pc' := 23) rfl (hb hby d1_14) rfl (flt hc23).2.2.2 (by decide) (by decide) ?_
        show Steps p.tables e below (T19.setTop (mkF m 23 #[.val (.int p0), .val (.long q1), .second, .val (.ref b11)] [])) _
        refine XS.iloadN X19.here hx rfl (hb hby d1_23) rfl ?_
        show Steps p.tables e below (T19.setTop (mkF m 24 #[.val (.int p0), .val (.long q1), .second, .val (.ref b11)] [(.int p0)])) _
        refine XS.iconst X19.here hx rfl (hb hby d1_24) ?_
        exact k)
      by_cases hc35 : (2 : Int32) < p0
      · obtain ⟨cl36, Ar36, S36, M36, I36⟩ := id V19
        have hin36 : ¬ ((2 : Int32) < 0 ∨ cl36.slots.size ≤ ((2 : Int32)).toNatClampNeg) := inb_of S36 ⟨by decide, hc35⟩
        obtain ⟨T37, h37, X37, e37, W37, st37⟩ := stJ X19 hx hZ e19 Ar36 (j := (2 : Int32)) hin36 (g := (mkF m 35 #[.val (.int p0), .val (.long q1), .second, .val (.ref b11)] [(.long (q1 + (2 : Int64))), (.int (2 : Int32)), (.ref b11)])) rfl rfl (hb hby d1_35)
        have V37 : AL Z h37 b11 p0 (fun i => if i = ((2 : Int32)).toNatClampNeg then (q1 + (2 : Int64)) else (fun i => if i = ((0 : Int32)).toNatClampNeg then q1 else (fun _ => (0 : Int64)) i) i) := AL.set V19 W37
        have Z38 : n0 ≤ h37.size := Nat.le_trans Z20 (Keep.of_wr W37).1
        have K39 : Keep h0 h37 [] := K21.wr W37 (Or.inr z13)
        have N37 := Fr.snoc X37 N19 g12
        obtain ⟨fs, hr, hrun, hended, hW, hsame⟩ := X37.leave (v := some (.ref b11)) (fun h => by rw [Bd.returns] at h; cases h)
        refine ⟨_, _, pre34 _ ?_, hrun, hended, _, _, rfl, ?_, ⟨_, rfl⟩, hW, hsame.mono (by decide) (by decide)⟩
        · refine XS.icmpNo X19.here hx rfl (hb hby d1_25) rfl (tlt hc35).2.2.2 ?_
          show Steps p.tables e below (T19.setTop (mkF m 28 #[.val (.int p0), .val (.long q1), .second, .val (.ref b11)] [])) _
          refine XS.aloadN X19.here hx rfl (hb hby d1_28) rfl rfl ?_
          show Steps p.tables e below (T19.setTop (mkF m 29 #[.val (.int p0), .val (.long q1), .second, .val (.ref b11)] [(.ref b11)])) _
          refine XS.iconst X19.here hx rfl (hb hby d1_29) ?_
          show Steps p.tables e below (T19.setTop (mkF m 30 #[.val (.int p0), .val (.long q1), .second, .val (.ref b11)] [(.int (2 : Int32)), (.ref b11)])) _
          refine XS.lloadN X19.here hx rfl (hb hby d1_30) rfl ?_
          show Steps p.tables e below (T19.setTop (mkF m 31 #[.val (.int p0), .val (.long q1), .second, .val (.ref b11)] [(.long q1), (.int (2 : Int32)), (.ref b11)])) _
          refine X19.ldc2Long hx hown (mvT hZ (hw _ (List.mem_of_getElem? (i := 36) rfl))) (g := (mkF m 31 #[.val (.int p0), .val (.long q1), .second, .val (.ref b11)] [(.long q1), (.int (2 : Int32)), (.ref b11)])) rfl (hb hby d1_31) _ ?_
          show Steps p.tables e below (T19.setTop (mkF m 34 #[.val (.int p0), .val (.long q1), .second, .val (.ref b11)] [(.long (2 : Int64)), (.long q1), (.int (2 : Int32)), (.ref b11)])) _
          refine XS.ladd X19.here hx rfl (hb hby d1_34) rfl ?_
          show Steps p.tables e below (T19.setTop (mkF m 35 #[.val (.int p0), .val (.long q1), .second, .val (.ref b11)] [(.long (q1 + (2 : Int64))), (.int (2 : Int32)), (.ref b11)])) _
          refine st37 _ ?_
          show Steps p.tables e below (T37.setTop (mkF m 36 #[.val (.int p0), .val (.long q1), .second, .val (.ref b11)] [])) _
          refine XS.aloadN X37.here hx rfl (hb hby d1_36) rfl rfl ?_
          show Steps p.tables e below (T37.setTop (mkF m 37 #[.val (.int p0), .val (.long q1), .second, .val (.ref b11)] [(.ref b11)])) _
          exact retOut X37 hx Bd.returns rfl (Or.inr (Or.inr (Or.inr (Or.inr ⟨rfl, rfl, rfl⟩)))) (hb hby d1_37) hr
        · show Q1 Z p0 q1 h0 n0 _ T37.heap _
          rw [e37]
          exact ⟨b11, (fun i => if i = ((2 : Int32)).toNatClampNeg then (q1 + (2 : Int64)) else (fun i => if i = ((0 : Int32)).toNatClampNeg then q1 else (fun _ => (0 : Int64)) i) i), rfl, N37, z13, K39, V37⟩
      · obtain ⟨fs, hr, hrun, hended, hW, hsame⟩ := X19.leave (v := some (.ref b11)) (fun h => by rw [Bd.returns] at h; cases h)
        refine ⟨_, _, pre34 _ ?_, hrun, hended, _, _, rfl, ?_, ⟨_, rfl⟩, hW, hsame.mono (by decide) (by decide)⟩
        · refine XS.icmpYes X19.here hx rfl (pc0 := 25) (pc' := 36) rfl (hb hby d1_25) rfl (flt hc35).2.2.2 (by decide) (by decide) ?_
          show Steps p.tables e below (T19.setTop (mkF m 36 #[.val (.int p0), .val (.long q1), .second, .val (.ref b11)] [])) _
          refine XS.aloadN X19.here hx rfl (hb hby d1_36) rfl rfl ?_
          show Steps p.tables e below (T19.setTop (mkF m 37 #[.val (.int p0), .val (.long q1), .second, .val (.ref b11)] [(.ref b11)])) _
          exact retOut X19 hx Bd.returns rfl (Or.inr (Or.inr (Or.inr (Or.inr ⟨rfl, rfl, rfl⟩)))) (hb hby d1_37) hr
        · show Q1 Z p0 q1 h0 n0 _ T19.heap _
          rw [e19]
          exact ⟨b11, (fun i => if i = ((0 : Int32)).toNatClampNeg then q1 else (fun _ => (0 : Int64)) i), rfl, N19, z13, K21, V19⟩
  · have pre40 : ∀ t, Steps p.tables e below (T11.setTop (mkF m 14 #[.val (.int p0), .val (.long q1), .second, .val (.ref b11)] [(.int (1 : Int32)), (.int p0)])) t → Steps p.tables e below (s₁.setTop (entryFrame m #[(.int p0), (.long q1)] 4)) t := fun t k => pre16 t (by
      refine XS.ifYes X11.here hx rfl (pc0 := 5) (pc' := 12) rfl (hb hby d1_5) rfl ((if0 _ _).trans (flt hc17).2.2.2) (by decide) (by decide) ?_
      show Steps p.tables e below (T11.setTop (mkF m 12 #[.val (.int p0), .val (.long q1), .second, .val (.ref b11)] [])) _
      refine XS.iloadN X11.here hx rfl (hb hby d1_12) rfl ?_
      show Steps p.tables e below (T11.setTop (mkF m 13 #[.val (.int p0), .val (.long q1), .second, .val (.ref b11)] [(.int p0)])) _
      refine XS.iconst X11.here hx rfl (hb hby d1_13) ?_
      exact k)
    by_cases hc41 : (1 : Int32) < p0
    · obtain ⟨cl42, Ar42, S42, M42, I42⟩ := id V11
      have hin42 : ¬ ((1 : Int32) < 0 ∨ cl42.slots.size ≤ ((1 : Int32)).toNatClampNeg) := inb_of S42 ⟨by decide, hc41⟩
      obtain ⟨T43, h43, X43, e43, W43, st43⟩ := stJ X11 hx hZ e11 Ar42 (j := (1 : Int32)) hin42 (g := (mkF m 22 #[.val (.int p0), .val (.long q1), .second, .val (.ref b11)] [(.long (q1 + (1 : Int64))), (.int (1 : Int32)), (.ref b11)])) rfl rfl (hb hby d1_22)
      have V43 : AL Z h43 b11 p0 (fun i => if i = ((1 : Int32)).toNatClampNeg then (q1 + (1 : Int64)) else (fun _ => (0 : Int64)) i) := AL.set V11 W43
      have Z44 : n0 ≤ h43.size := Nat.le_trans Z14 (Keep.of_wr W43).1
      have K45 : Keep h0 h43 [] := K15.wr W43 (Or.inr z13)
      have N43 := Fr.snoc X43 N0 g12
      have pre46 : ∀ t, Steps p.tables e below (T43.setTop (mkF m 25 #[.val (.int p0), .val (.long q1), .second, .val (.ref b11)] [(.int (2 : Int32)), (.int p0)])) t → Steps p.tables e below (s₁.setTop (entryFrame m #[(.int p0), (.long q1)] 4)) t := fun t k => pre40 t (by
        refine XS.icmpNo X11.here hx rfl (hb hby d1_14) rfl (tlt hc41).2.2.2 ?_
        show Steps p.tables e below (T11.setTop (mkF m 17 #[.val (.int p0), .val (.long q1), .second, .val (.ref b11)] [])) _
        refine XS.aloadN X11.here hx rfl (hb hby d1_17) rfl rfl ?_
        show Steps p.tables e below (T11.setTop (mkF m 18 #[.val (.int p0), .val (.long q1), .second, .val (.ref b11)] [(.ref b11)])) _
        refine XS.iconst X11.here hx rfl (hb hby d1_18) ?_
        show Steps p.tables e below (T11.setTop (mkF m 19 #[.val (.int p0), .val (.long q1), .second, .val (.ref b11)] [(.int (1 : Int32)), (.ref b11)])) _
        refine XS.lloadN X11.here hx rfl (hb hby d1_19) rfl ?_
        show Steps p.tables e below (T11.setTop (mkF m 20 #[.val (.int p0), .val (.long q1), .second, .val (.ref b11)] [(.long q1), (.int (1 : Int32)), (.ref b11)])) _
        refine XS.lconst X11.here hx rfl (hb hby d1_20) ?_
        show Steps p.tables e below (T11.setTop (mkF m 21 #[.val (.int p0), .val (.long q1), .second, .val (.ref b11)] [(.long (1 : Int64)), (.long q1), (.int (1 : Int32)), (.ref b11)])) _
        refine XS.ladd X11.here hx rfl (hb hby d1_21) rfl ?_
        show Steps p.tables e below (T11.setTop (mkF m 22 #[.val (.int p0), .val (.long q1), .second, .val (.ref b11)] [(.long (q1 + (1 : Int64))), (.int (1 : Int32)), (.ref b11)])) _
        refine st43 _ ?_
        show Steps p.tables e below (T43.setTop (mkF m 23 #[.val (.int p0), .val (.long q1), .second, .val (.ref b11)] [])) _
        refine XS.iloadN X43.here hx rfl (hb hby d1_23) rfl ?_
        show Steps p.tables e below (T43.setTop (mkF m 24 #[.val (.int p0), .val (.long q1), .second, .val (.ref b11)] [(.int p0)])) _
        refine XS.iconst X43.here hx rfl (hb hby d1_24) ?_
        exact k)
      by_cases hc47 : (2 : Int32) < p0
      · obtain ⟨cl48, Ar48, S48, M48, I48⟩ := id V43
        have hin48 : ¬ ((2 : Int32) < 0 ∨ cl48.slots.size ≤ ((2 : Int32)).toNatClampNeg) := inb_of S48 ⟨by decide, hc47⟩
        obtain ⟨T49, h49, X49, e49, W49, st49⟩ := stJ X43 hx hZ e43 Ar48 (j := (2 : Int32)) hin48 (g := (mkF m 35 #[.val (.int p0), .val (.long q1), .second, .val (.ref b11)] [(.long (q1 + (2 : Int64))), (.int (2 : Int32)), (.ref b11)])) rfl rfl (hb hby d1_35)
        have V49 : AL Z h49 b11 p0 (fun i => if i = ((2 : Int32)).toNatClampNeg then (q1 + (2 : Int64)) else (fun i => if i = ((1 : Int32)).toNatClampNeg then (q1 + (1 : Int64)) else (fun _ => (0 : Int64)) i) i) := AL.set V43 W49
        have Z50 : n0 ≤ h49.size := Nat.le_trans Z44 (Keep.of_wr W49).1
        have K51 : Keep h0 h49 [] := K45.wr W49 (Or.inr z13)
        have N49 := Fr.snoc X49 N43 g12
        obtain ⟨fs, hr, hrun, hended, hW, hsame⟩ := X49.leave (v := some (.ref b11)) (fun h => by rw [Bd.returns] at h; cases h)
        refine ⟨_, _, pre46 _ ?_, hrun, hended, _, _, rfl, ?_, ⟨_, rfl⟩, hW, hsame.mono (by decide) (by decide)⟩
        · refine XS.icmpNo X43.here hx rfl (hb hby d1_25) rfl (tlt hc47).2.2.2 ?_
          show Steps p.tables e below (T43.setTop (mkF m 28 #[.val (.int p0), .val (.long q1), .second, .val (.ref b11)] [])) _
          refine XS.aloadN X43.here hx rfl (hb hby d1_28) rfl rfl ?_
          show Steps p.tables e below (T43.setTop (mkF m 29 #[.val (.int p0), .val (.long q1), .second, .val (.ref b11)] [(.ref b11)])) _
          refine XS.iconst X43.here hx rfl (hb hby d1_29) ?_
          show Steps p.tables e below (T43.setTop (mkF m 30 #[.val (.int p0), .val (.long q1), .second, .val (.ref b11)] [(.int (2 : Int32)), (.ref b11)])) _
          refine XS.lloadN X43.here hx rfl (hb hby d1_30) rfl ?_
          show Steps p.tables e below (T43.setTop (mkF m 31 #[.val (.int p0), .val (.long q1), .second, .val (.ref b11)] [(.long q1), (.int (2 : Int32)), (.ref b11)])) _
          refine X43.ldc2Long hx hown (mvT hZ (hw _ (List.mem_of_getElem? (i := 36) rfl))) (g := (mkF m 31 #[.val (.int p0), .val (.long q1), .second, .val (.ref b11)] [(.long q1), (.int (2 : Int32)), (.ref b11)])) rfl (hb hby d1_31) _ ?_
          show Steps p.tables e below (T43.setTop (mkF m 34 #[.val (.int p0), .val (.long q1), .second, .val (.ref b11)] [(.long (2 : Int64)), (.long q1), (.int (2 : Int32)), (.ref b11)])) _
          refine XS.ladd X43.here hx rfl (hb hby d1_34) rfl ?_
          show Steps p.tables e below (T43.setTop (mkF m 35 #[.val (.int p0), .val (.long q1), .second, .val (.ref b11)] [(.long (q1 + (2 : Int64))), (.int (2 : Int32)), (.ref b11)])) _
          refine st49 _ ?_
          show Steps p.tables e below (T49.setTop (mkF m 36 #[.val (.int p0), .val (.long q1), .second, .val (.ref b11)] [])) _
          refine XS.aloadN X49.here hx rfl (hb hby d1_36) rfl rfl ?_
          show Steps p.tables e below (T49.setTop (mkF m 37 #[.val (.int p0), .val (.long q1), .second, .val (.ref b11)] [(.ref b11)])) _
          exact retOut X49 hx Bd.returns rfl (Or.inr (Or.inr (Or.inr (Or.inr ⟨rfl, rfl, rfl⟩)))) (hb hby d1_37) hr
        · show Q1 Z p0 q1 h0 n0 _ T49.heap _
          rw [e49]
          exact ⟨b11, (fun i => if i = ((2 : Int32)).toNatClampNeg then (q1 + (2 : Int64)) else (fun i => if i = ((1 : Int32)).toNatClampNeg then (q1 + (1 : Int64)) else (fun _ => (0 : Int64)) i) i), rfl, N49, z13, K51, V49⟩
      · obtain ⟨fs, hr, hrun, hended, hW, hsame⟩ := X43.leave (v := some (.ref b11)) (fun h => by rw [Bd.returns] at h; cases h)
        refine ⟨_, _, pre46 _ ?_, hrun, hended, _, _, rfl, ?_, ⟨_, rfl⟩, hW, hsame.mono (by decide) (by decide)⟩
        · refine XS.icmpYes X43.here hx rfl (pc0 := 25) (pc' := 36) rfl (hb hby d1_25) rfl (flt hc47).2.2.2 (by decide) (by decide) ?_
          show Steps p.tables e below (T43.setTop (mkF m 36 #[.val (.int p0), .val (.long q1), .second, .val (.ref b11)] [])) _
          refine XS.aloadN X43.here hx rfl (hb hby d1_36) rfl rfl ?_
          show Steps p.tables e below (T43.setTop (mkF m 37 #[.val (.int p0), .val (.long q1), .second, .val (.ref b11)] [(.ref b11)])) _
          exact retOut X43 hx Bd.returns rfl (Or.inr (Or.inr (Or.inr (Or.inr ⟨rfl, rfl, rfl⟩)))) (hb hby d1_37) hr
        · show Q1 Z p0 q1 h0 n0 _ T43.heap _
          rw [e43]
          exact ⟨b11, (fun i => if i = ((1 : Int32)).toNatClampNeg then (q1 + (1 : Int64)) else (fun _ => (0 : Int64)) i), rfl, N43, z13, K45, V43⟩
    · have pre52 : ∀ t, Steps p.tables e below (T11.setTop (mkF m 25 #[.val (.int p0), .val (.long q1), .second, .val (.ref b11)] [(.int (2 : Int32)), (.int p0)])) t → Steps p.tables e below (s₁.setTop (entryFrame m #[(.int p0), (.long q1)] 4)) t := fun t k => pre40 t (by
        refine XS.icmpYes X11.here hx rfl (pc0 := 14) (pc' := 23) rfl (hb hby d1_14) rfl (flt hc41).2.2.2 (by decide) (by decide) ?_
        show Steps p.tables e below (T11.setTop (mkF m 23 #[.val (.int p0), .val (.long q1), .second, .val (.ref b11)] [])) _
        refine XS.iloadN X11.here hx rfl (hb hby d1_23) rfl ?_
        show Steps p.tables e below (T11.setTop (mkF m 24 #[.val (.int p0), .val (.long q1), .second, .val (.ref b11)] [(.int p0)])) _
        refine XS.iconst X11.here hx rfl (hb hby d1_24) ?_
        exact k)
      by_cases hc53 : (2 : Int32) < p0
      · obtain ⟨cl54, Ar54, S54, M54, I54⟩ := id V11
        have hin54 : ¬ ((2 : Int32) < 0 ∨ cl54.slots.size ≤ ((2 : Int32)).toNatClampNeg) := inb_of S54 ⟨by decide, hc53⟩
        obtain ⟨T55, h55, X55, e55, W55, st55⟩ := stJ X11 hx hZ e11 Ar54 (j := (2 : Int32)) hin54 (g := (mkF m 35 #[.val (.int p0), .val (.long q1), .second, .val (.ref b11)] [(.long (q1 + (2 : Int64))), (.int (2 : Int32)), (.ref b11)])) rfl rfl (hb hby d1_35)
        have V55 : AL Z h55 b11 p0 (fun i => if i = ((2 : Int32)).toNatClampNeg then (q1 + (2 : Int64)) else (fun _ => (0 : Int64)) i) := AL.set V11 W55
        have Z56 : n0 ≤ h55.size := Nat.le_trans Z14 (Keep.of_wr W55).1
        have K57 : Keep h0 h55 [] := K15.wr W55 (Or.inr z13)
        have N55 := Fr.snoc X55 N0 g12
        obtain ⟨fs, hr, hrun, hended, hW, hsame⟩ := X55.leave (v := some (.ref b11)) (fun h => by rw [Bd.returns] at h; cases h)
        refine ⟨_, _, pre52 _ ?_, hrun, hended, _, _, rfl, ?_, ⟨_, rfl⟩, hW, hsame.mono (by decide) (by decide)⟩
        · refine XS.icmpNo X11.here hx rfl (hb hby d1_25) rfl (tlt hc53).2.2.2 ?_
          show Steps p.tables e below (T11.setTop (mkF m 28 #[.val (.int p0), .val (.long q1), .second, .val (.ref b11)] [])) _
          refine XS.aloadN X11.here hx rfl (hb hby d1_28) rfl rfl ?_
          show Steps p.tables e below (T11.setTop (mkF m 29 #[.val (.int p0), .val (.long q1), .second, .val (.ref b11)] [(.ref b11)])) _
          refine XS.iconst X11.here hx rfl (hb hby d1_29) ?_
          show Steps p.tables e below (T11.setTop (mkF m 30 #[.val (.int p0), .val (.long q1), .second, .val (.ref b11)] [(.int (2 : Int32)), (.ref b11)])) _
          refine XS.lloadN X11.here hx rfl (hb hby d1_30) rfl ?_
          show Steps p.tables e below (T11.setTop (mkF m 31 #[.val (.int p0), .val (.long q1), .second, .val (.ref b11)] [(.long q1), (.int (2 : Int32)), (.ref b11)])) _
          refine X11.ldc2Long hx hown (mvT hZ (hw _ (List.mem_of_getElem? (i := 36) rfl))) (g := (mkF m 31 #[.val (.int p0), .val (.long q1), .second, .val (.ref b11)] [(.long q1), (.int (2 : Int32)), (.ref b11)])) rfl (hb hby d1_31) _ ?_
          show Steps p.tables e below (T11.setTop (mkF m 34 #[.val (.int p0), .val (.long q1), .second, .val (.ref b11)] [(.long (2 : Int64)), (.long q1), (.int (2 : Int32)), (.ref b11)])) _
          refine XS.ladd X11.here hx rfl (hb hby d1_34) rfl ?_
          show Steps p.tables e below (T11.setTop (mkF m 35 #[.val (.int p0), .val (.long q1), .second, .val (.ref b11)] [(.long (q1 + (2 : Int64))), (.int (2 : Int32)), (.ref b11)])) _
          refine st55 _ ?_
          show Steps p.tables e below (T55.setTop (mkF m 36 #[.val (.int p0), .val (.long q1), .second, .val (.ref b11)] [])) _
          refine XS.aloadN X55.here hx rfl (hb hby d1_36) rfl rfl ?_
          show Steps p.tables e below (T55.setTop (mkF m 37 #[.val (.int p0), .val (.long q1), .second, .val (.ref b11)] [(.ref b11)])) _
          exact retOut X55 hx Bd.returns rfl (Or.inr (Or.inr (Or.inr (Or.inr ⟨rfl, rfl, rfl⟩)))) (hb hby d1_37) hr
        · show Q1 Z p0 q1 h0 n0 _ T55.heap _
          rw [e55]
          exact ⟨b11, (fun i => if i = ((2 : Int32)).toNatClampNeg then (q1 + (2 : Int64)) else (fun _ => (0 : Int64)) i), rfl, N55, z13, K57, V55⟩
      · obtain ⟨fs, hr, hrun, hended, hW, hsame⟩ := X11.leave (v := some (.ref b11)) (fun h => by rw [Bd.returns] at h; cases h)
        refine ⟨_, _, pre52 _ ?_, hrun, hended, _, _, rfl, ?_, ⟨_, rfl⟩, hW, hsame.mono (by decide) (by decide)⟩
        · refine XS.icmpYes X11.here hx rfl (pc0 := 25) (pc' := 36) rfl (hb hby d1_25) rfl (flt hc53).2.2.2 (by decide) (by decide) ?_
          show Steps p.tables e below (T11.setTop (mkF m 36 #[.val (.int p0), .val (.long q1), .second, .val (.ref b11)] [])) _
          refine XS.aloadN X11.here hx rfl (hb hby d1_36) rfl rfl ?_
          show Steps p.tables e below (T11.setTop (mkF m 37 #[.val (.int p0), .val (.long q1), .second, .val (.ref b11)] [(.ref b11)])) _
          exact retOut X11 hx Bd.returns rfl (Or.inr (Or.inr (Or.inr (Or.inr ⟨rfl, rfl, rfl⟩)))) (hb hby d1_37) hr
        · show Q1 Z p0 q1 h0 n0 _ T11.heap _
          rw [e11]
          exact ⟨b11, (fun _ => (0 : Int64)), rfl, N0, z13, K15, V11⟩
theorem d3_0 : decode prog_3_method_2_code 0 = .ok (.aload_n 0, 1) := by decide +kernel
theorem d3_1 : decode prog_3_method_2_code 1 = .ok (.invokespecial 11, 3) := by decide +kernel
theorem d3_4 : decode prog_3_method_2_code 4 = .ok (.aload_n 0, 1) := by decide +kernel
theorem d3_5 : decode prog_3_method_2_code 5 = .ok (.aload_n 1, 1) := by decide +kernel
theorem d3_6 : decode prog_3_method_2_code 6 = .ok (.putfield 16, 3) := by decide +kernel
theorem d3_9 : decode prog_3_method_2_code 9 = .ok (.aload_n 0, 1) := by decide +kernel
theorem d3_10 : decode prog_3_method_2_code 10 = .ok (.aload_n 2, 1) := by decide +kernel
theorem d3_11 : decode prog_3_method_2_code 11 = .ok (.putfield 19, 3) := by decide +kernel
theorem d3_14 : decode prog_3_method_2_code 14 = .ok (.aload_n 0, 1) := by decide +kernel
theorem d3_15 : decode prog_3_method_2_code 15 = .ok (.aload_n 3, 1) := by decide +kernel
theorem d3_16 : decode prog_3_method_2_code 16 = .ok (.putfield 22, 3) := by decide +kernel
theorem d3_19 : decode prog_3_method_2_code 19 = .ok (.aload_n 0, 1) := by decide +kernel
theorem d3_20 : decode prog_3_method_2_code 20 = .ok (.aload 4, 2) := by decide +kernel
theorem d3_22 : decode prog_3_method_2_code 22 = .ok (.putfield 25, 3) := by decide +kernel
theorem d3_25 : decode prog_3_method_2_code 25 = .ok (.return_, 1) := by decide +kernel
theorem pn_3 : plainName "com/example/honeybee/honeybee/calculus/Clause" = true := by first | (simp [plainName, overriddenIn]; done) | decide +kernel
theorem ef_3 (m : MethodId) (r0 : Addr) (r1 : Addr) (r2 : Addr) (r3 : Addr) (r4 : Addr) : entryFrame m #[(.ref r0), (.ref r1), (.ref r2), (.ref r3), (.ref r4)] 5 = mkF m 0 #[.val (.ref r0), .val (.ref r1), .val (.ref r2), .val (.ref r3), .val (.ref r4)] [] := by first | (simp [entryFrame, mkF, argsToLocals, Value.category]; done) | rfl
theorem sn_e_honeybee_calculus_Clausehead_e_honeybee_calculus_Clausebody {Z : State} {a0 : Array Value} (hw : ∀ d ∈ tables_1, d.before a0 Z = true) : Jvm.RoadKit.slotOf Z "com/example/honeybee/honeybee/calculus/Clause" "head" "[J" ≠ Jvm.RoadKit.slotOf Z "com/example/honeybee/honeybee/calculus/Clause" "body" "[J" := slot_ne (Or.inr (hw _ (List.mem_of_getElem? (i := 21) rfl))) (Or.inr (hw _ (List.mem_of_getElem? (i := 19) rfl))) (by decide) (t := (.array .long)) (t' := (.array .long)) (by decide) (by decide)
theorem sn_oneybee_calculus_Clausemaximal_e_honeybee_calculus_Clausebody {Z : State} {a0 : Array Value} (hw : ∀ d ∈ tables_1, d.before a0 Z = true) : Jvm.RoadKit.slotOf Z "com/example/honeybee/honeybee/calculus/Clause" "maximal" "[J" ≠ Jvm.RoadKit.slotOf Z "com/example/honeybee/honeybee/calculus/Clause" "body" "[J" := slot_ne (Or.inr (hw _ (List.mem_of_getElem? (i := 23) rfl))) (Or.inr (hw _ (List.mem_of_getElem? (i := 19) rfl))) (by decide) (t := (.array .long)) (t' := (.array .long)) (by decide) (by decide)
theorem sn_oneybee_calculus_Clausemaximal_e_honeybee_calculus_Clausehead {Z : State} {a0 : Array Value} (hw : ∀ d ∈ tables_1, d.before a0 Z = true) : Jvm.RoadKit.slotOf Z "com/example/honeybee/honeybee/calculus/Clause" "maximal" "[J" ≠ Jvm.RoadKit.slotOf Z "com/example/honeybee/honeybee/calculus/Clause" "head" "[J" := slot_ne (Or.inr (hw _ (List.mem_of_getElem? (i := 23) rfl))) (Or.inr (hw _ (List.mem_of_getElem? (i := 21) rfl))) (by decide) (t := (.array .long)) (t' := (.array .long)) (by decide) (by decide)
theorem sn_neybee_calculus_ClausefromRoot_e_honeybee_calculus_Clausebody {Z : State} {a0 : Array Value} (hw : ∀ d ∈ tables_1, d.before a0 Z = true) : Jvm.RoadKit.slotOf Z "com/example/honeybee/honeybee/calculus/Clause" "fromRoot" "[J" ≠ Jvm.RoadKit.slotOf Z "com/example/honeybee/honeybee/calculus/Clause" "body" "[J" := slot_ne (Or.inr (hw _ (List.mem_of_getElem? (i := 25) rfl))) (Or.inr (hw _ (List.mem_of_getElem? (i := 19) rfl))) (by decide) (t := (.array .long)) (t' := (.array .long)) (by decide) (by decide)
theorem sn_neybee_calculus_ClausefromRoot_e_honeybee_calculus_Clausehead {Z : State} {a0 : Array Value} (hw : ∀ d ∈ tables_1, d.before a0 Z = true) : Jvm.RoadKit.slotOf Z "com/example/honeybee/honeybee/calculus/Clause" "fromRoot" "[J" ≠ Jvm.RoadKit.slotOf Z "com/example/honeybee/honeybee/calculus/Clause" "head" "[J" := slot_ne (Or.inr (hw _ (List.mem_of_getElem? (i := 25) rfl))) (Or.inr (hw _ (List.mem_of_getElem? (i := 21) rfl))) (by decide) (t := (.array .long)) (t' := (.array .long)) (by decide) (by decide)
theorem sn_neybee_calculus_ClausefromRoot_oneybee_calculus_Clausemaximal {Z : State} {a0 : Array Value} (hw : ∀ d ∈ tables_1, d.before a0 Z = true) : Jvm.RoadKit.slotOf Z "com/example/honeybee/honeybee/calculus/Clause" "fromRoot" "[J" ≠ Jvm.RoadKit.slotOf Z "com/example/honeybee/honeybee/calculus/Clause" "maximal" "[J" := slot_ne (Or.inr (hw _ (List.mem_of_getElem? (i := 25) rfl))) (Or.inr (hw _ (List.mem_of_getElem? (i := 23) rfl))) (by decide) (t := (.array .long)) (t' := (.array .long)) (by decide) (by decide)
theorem sn_e_honeybee_calculus_Clausebody_e_honeybee_calculus_Clausehead {Z : State} {a0 : Array Value} (hw : ∀ d ∈ tables_1, d.before a0 Z = true) : Jvm.RoadKit.slotOf Z "com/example/honeybee/honeybee/calculus/Clause" "body" "[J" ≠ Jvm.RoadKit.slotOf Z "com/example/honeybee/honeybee/calculus/Clause" "head" "[J" := slot_ne (Or.inr (hw _ (List.mem_of_getElem? (i := 19) rfl))) (Or.inr (hw _ (List.mem_of_getElem? (i := 21) rfl))) (by decide) (t := (.array .long)) (t' := (.array .long)) (by decide) (by decide)
theorem sn_e_honeybee_calculus_Clausebody_oneybee_calculus_Clausemaximal {Z : State} {a0 : Array Value} (hw : ∀ d ∈ tables_1, d.before a0 Z = true) : Jvm.RoadKit.slotOf Z "com/example/honeybee/honeybee/calculus/Clause" "body" "[J" ≠ Jvm.RoadKit.slotOf Z "com/example/honeybee/honeybee/calculus/Clause" "maximal" "[J" := slot_ne (Or.inr (hw _ (List.mem_of_getElem? (i := 19) rfl))) (Or.inr (hw _ (List.mem_of_getElem? (i := 23) rfl))) (by decide) (t := (.array .long)) (t' := (.array .long)) (by decide) (by decide)
theorem sn_e_honeybee_calculus_Clausebody_neybee_calculus_ClausefromRoot {Z : State} {a0 : Array Value} (hw : ∀ d ∈ tables_1, d.before a0 Z = true) : Jvm.RoadKit.slotOf Z "com/example/honeybee/honeybee/calculus/Clause" "body" "[J" ≠ Jvm.RoadKit.slotOf Z "com/example/honeybee/honeybee/calculus/Clause" "fromRoot" "[J" := slot_ne (Or.inr (hw _ (List.mem_of_getElem? (i := 19) rfl))) (Or.inr (hw _ (List.mem_of_getElem? (i := 25) rfl))) (by decide) (t := (.array .long)) (t' := (.array .long)) (by decide) (by decide)
theorem sn_e_honeybee_calculus_Clausehead_oneybee_calculus_Clausemaximal {Z : State} {a0 : Array Value} (hw : ∀ d ∈ tables_1, d.before a0 Z = true) : Jvm.RoadKit.slotOf Z "com/example/honeybee/honeybee/calculus/Clause" "head" "[J" ≠ Jvm.RoadKit.slotOf Z "com/example/honeybee/honeybee/calculus/Clause" "maximal" "[J" := slot_ne (Or.inr (hw _ (List.mem_of_getElem? (i := 21) rfl))) (Or.inr (hw _ (List.mem_of_getElem? (i := 23) rfl))) (by decide) (t := (.array .long)) (t' := (.array .long)) (by decide) (by decide)
theorem sn_e_honeybee_calculus_Clausehead_neybee_calculus_ClausefromRoot {Z : State} {a0 : Array Value} (hw : ∀ d ∈ tables_1, d.before a0 Z = true) : Jvm.RoadKit.slotOf Z "com/example/honeybee/honeybee/calculus/Clause" "head" "[J" ≠ Jvm.RoadKit.slotOf Z "com/example/honeybee/honeybee/calculus/Clause" "fromRoot" "[J" := slot_ne (Or.inr (hw _ (List.mem_of_getElem? (i := 21) rfl))) (Or.inr (hw _ (List.mem_of_getElem? (i := 25) rfl))) (by decide) (t := (.array .long)) (t' := (.array .long)) (by decide) (by decide)
def Q3 (Z : State) (r0 : Addr) (r1 : Addr) (r2 : Addr) (r3 : Addr) (r4 : Addr) (h0 : Heap) (n0 : Nat) (v : Option Value) (h : Heap) (L : List Loc) : Prop := v = none ∧ Fr n0 L ∧ Keep h0 h [r0] ∧ Exa Z h r0 "com/example/honeybee/honeybee/calculus/Clause" ∧ Fld Z h r0 "com/example/honeybee/honeybee/calculus/Clause" "body" "[J" (.ref r1) ∧ Fld Z h r0 "com/example/honeybee/honeybee/calculus/Clause" "head" "[J" (.ref r2)
set_option maxRecDepth 65536 in
set_option maxHeartbeats 40000000 in
theorem rm3 (l : Launch) (Z : State) (a0 : Array Value) (hw : ∀ d ∈ tables_1, d.before a0 Z = true) (ws : List Jvm.Cond) (r0 : Addr) (r1 : Addr) (r2 : Addr) (r3 : Addr) (r4 : Addr) (h0 : Heap) (n0 : Nat) (Z0 : n0 ≤ h0.size) (hp0 : Exa Z h0 r0 "com/example/honeybee/honeybee/calculus/Clause") (hp1 : Fld Z h0 r0 "com/example/honeybee/honeybee/calculus/Clause" "body" "[J" .null) (hp2 : Fld Z h0 r0 "com/example/honeybee/honeybee/calculus/Clause" "head" "[J" .null) (hp3 : Fld Z h0 r0 "com/example/honeybee/honeybee/calculus/Clause" "maximal" "[J" .null) (hp4 : Fld Z h0 r0 "com/example/honeybee/honeybee/calculus/Clause" "fromRoot" "[J" .null) (hp5 : n0 ≤ r0) :
    MetFree l (⟨"com/example/honeybee/honeybee/calculus/Clause", "<init>", "([J[J[J[J)V"⟩ : MethodName) (head1 (Jvm.Cond.code (⟨"com/example/honeybee/honeybee/calculus/Clause", "<init>", "([J[J[J[J)V"⟩ : MethodName) prog_3_method_2_code 5 none :: ws) ({ frames := 1, cells := 0, slots := 0, locals := 12 } : Room)) (fun a U => a = #[(.ref r0), (.ref r1), (.ref r2), (.ref r3), (.ref r4)] ∧ Z.Warmed39 U.vm ∧ U.heap = h0) (fun _ _ _ _ _ => True) (fun _ U o U' => ∃ v L, o = .returned v ∧ Q3 Z r0 r1 r2 r3 r4 h0 n0 v U'.heap L ∧ FrameEnd U o U' L ({ frames := 1, cells := 0, slots := 0, locals := 12 } : Room).cells ({ frames := 1, cells := 0, slots := 0, locals := 12 } : Room).slots) := by
  refine MetFree.of_bodySF (plainFor_of_name pn_3) hisR ?_
  intro p e s m args below meth c s₁ Bd hml0 hP hK
  obtain ⟨rfl, hZ, hh⟩ := hP
  have hx := Bd.exec
  have hby := Bd.bytes
  have hml : c.maxLocals = 5 := hml0
  have hown : s.vm.findClass "com/example/honeybee/honeybee/calculus/Clause" = some m.cls := findClass_of_methodNamed Bd.named
  have hnm := (name_of_methodNamed Bd.named Bd.method).1
  have X0 : Stand p l e ({ frames := 1, cells := 0, slots := 0, locals := 12 } : Room) s m #[(.ref r0), (.ref r1), (.ref r2), (.ref r3), (.ref r4)] below meth c s₁ [] 0 0 := Stand.of_body Bd
  have e0 : s₁.heap = h0 := by rw [← hh, Bd.state]; rfl
  have N0 := Fr.nil n0
  have pre0 : ∀ t, Steps p.tables e below (s₁.setTop (mkF m 0 #[.val (.ref r0), .val (.ref r1), .val (.ref r2), .val (.ref r3), .val (.ref r4)] [])) t → Steps p.tables e below (s₁.setTop (entryFrame m #[(.ref r0), (.ref r1), (.ref r2), (.ref r3), (.ref r4)] 5)) t := fun t k => castTop (ef_3 m r0 r1 r2 r3 r4) k
  obtain ⟨T11, X11, e11, st11⟩ := initO X0 hx hZ hown (hw _ (List.mem_of_getElem? (i := 15) rfl)) (hw _ (List.mem_of_getElem? (i := 16) rfl)) (hw _ (List.mem_of_getElem? (i := 17) rfl)) e0 (g := (mkF m 1 #[.val (.ref r0), .val (.ref r1), .val (.ref r2), .val (.ref r3), .val (.ref r4)] [(.ref r0)])) rfl (by rw [hml]; rfl) rfl (hb hby d3_1) (by decide) (W := 0) (by show 2 * 0 + _ ≤ _; exact Nat.le_of_eq rfl) (by decide)
  obtain ⟨T12, h12, X12, e12, W12, st12⟩ := putF X11 hx hZ hown (host := "") (Or.inl (hw _ (List.mem_of_getElem? (i := 18) rfl))) Via.refl e11 hp1 hp0 (Or.inr ⟨(hw _ (List.mem_of_getElem? (i := 19) rfl)), rfl, hnm⟩) (hw _ (List.mem_of_getElem? (i := 10) rfl)) (ty := (.array .long)) (by decide) rfl rfl (g := (mkF m 6 #[.val (.ref r0), .val (.ref r1), .val (.ref r2), .val (.ref r3), .val (.ref r4)] [(.ref r1), (.ref r0)])) rfl rfl (hb hby d3_6)
  have F12 : Fld Z h12 r0 "com/example/honeybee/honeybee/calculus/Clause" "body" "[J" (.ref r1) := hp1.same W12
  have Z13 : n0 ≤ h12.size := Nat.le_trans Z0 (Keep.of_wr W12).1
  have K14 : Keep h0 h12 [r0] := (Keep.refl h0 [r0]).wr W12 (Or.inl (List.mem_of_getElem? (i := 0) rfl))
  have N12 := Fr.snoc X12 N0 hp5
  have E15 : Exa Z h12 r0 "com/example/honeybee/honeybee/calculus/Clause" := (hp0.wr W12)
  have F16 : Fld Z h12 r0 "com/example/honeybee/honeybee/calculus/Clause" "head" "[J" .null := (hp2.other W12 (Or.inr (sn_e_honeybee_calculus_Clausehead_e_honeybee_calculus_Clausebody hw)))
  obtain ⟨T17, h17, X17, e17, W17, st17⟩ := putF X12 hx hZ hown (host := "") (Or.inl (hw _ (List.mem_of_getElem? (i := 20) rfl))) Via.refl e12 F16 E15 (Or.inr ⟨(hw _ (List.mem_of_getElem? (i := 21) rfl)), rfl, hnm⟩) (hw _ (List.mem_of_getElem? (i := 10) rfl)) (ty := (.array .long)) (by decide) rfl rfl (g := (mkF m 11 #[.val (.ref r0), .val (.ref r1), .val (.ref r2), .val (.ref r3), .val (.ref r4)] [(.ref r2), (.ref r0)])) rfl rfl (hb hby d3_11)
  have F17 : Fld Z h17 r0 "com/example/honeybee/honeybee/calculus/Clause" "head" "[J" (.ref r2) := F16.same W17
  have Z18 : n0 ≤ h17.size := Nat.le_trans Z13 (Keep.of_wr W17).1
  have K19 : Keep h0 h17 [r0] := K14.wr W17 (Or.inl (List.mem_of_getElem? (i := 0) rfl))
  have N17 := Fr.snoc X17 N12 hp5
  have E20 : Exa Z h17 r0 "com/example/honeybee/honeybee/calculus/Clause" := (E15.wr W17)
  have F21 : Fld Z h17 r0 "com/example/honeybee/honeybee/calculus/Clause" "maximal" "[J" .null := ((hp3.other W12 (Or.inr (sn_oneybee_calculus_Clausemaximal_e_honeybee_calculus_Clausebody hw))).other W17 (Or.inr (sn_oneybee_calculus_Clausemaximal_e_honeybee_calculus_Clausehead hw)))
  obtain ⟨T22, h22, X22, e22, W22, st22⟩ := putF X17 hx hZ hown (host := "") (Or.inl (hw _ (List.mem_of_getElem? (i := 22) rfl))) Via.refl e17 F21 E20 (Or.inr ⟨(hw _ (List.mem_of_getElem? (i := 23) rfl)), rfl, hnm⟩) (hw _ (List.mem_of_getElem? (i := 10) rfl)) (ty := (.array .long)) (by decide) rfl rfl (g := (mkF m 16 #[.val (.ref r0), .val (.ref r1), .val (.ref r2), .val (.ref r3), .val (.ref r4)] [(.ref r3), (.ref r0)])) rfl rfl (hb hby d3_16)
  have F22 : Fld Z h22 r0 "com/example/honeybee/honeybee/calculus/Clause" "maximal" "[J" (.ref r3) := F21.same W22
  have Z23 : n0 ≤ h22.size := Nat.le_trans Z18 (Keep.of_wr W22).1
  have K24 : Keep h0 h22 [r0] := K19.wr W22 (Or.inl (List.mem_of_getElem? (i := 0) rfl))
  have N22 := Fr.snoc X22 N17 hp5
  have E25 : Exa Z h22 r0 "com/example/honeybee/honeybee/calculus/Clause" := (E20.wr W22)
  have F26 : Fld Z h22 r0 "com/example/honeybee/honeybee/calculus/Clause" "fromRoot" "[J" .null := (((hp4.other W12 (Or.inr (sn_neybee_calculus_ClausefromRoot_e_honeybee_calculus_Clausebody hw))).other W17 (Or.inr (sn_neybee_calculus_ClausefromRoot_e_honeybee_calculus_Clausehead hw))).other W22 (Or.inr (sn_neybee_calculus_ClausefromRoot_oneybee_calculus_Clausemaximal hw)))
  obtain ⟨T27, h27, X27, e27, W27, st27⟩ := putF X22 hx hZ hown (host := "") (Or.inl (hw _ (List.mem_of_getElem? (i := 24) rfl))) Via.refl e22 F26 E25 (Or.inr ⟨(hw _ (List.mem_of_getElem? (i := 25) rfl)), rfl, hnm⟩) (hw _ (List.mem_of_getElem? (i := 10) rfl)) (ty := (.array .long)) (by decide) rfl rfl (g := (mkF m 22 #[.val (.ref r0), .val (.ref r1), .val (.ref r2), .val (.ref r3), .val (.ref r4)] [(.ref r4), (.ref r0)])) rfl rfl (hb hby d3_22)
  have F27 : Fld Z h27 r0 "com/example/honeybee/honeybee/calculus/Clause" "fromRoot" "[J" (.ref r4) := F26.same W27
  have Z28 : n0 ≤ h27.size := Nat.le_trans Z23 (Keep.of_wr W27).1
  have K29 : Keep h0 h27 [r0] := K24.wr W27 (Or.inl (List.mem_of_getElem? (i := 0) rfl))
  have N27 := Fr.snoc X27 N22 hp5
  have E30 : Exa Z h27 r0 "com/example/honeybee/honeybee/calculus/Clause" := (E25.wr W27)
  have F31 : Fld Z h27 r0 "com/example/honeybee/honeybee/calculus/Clause" "body" "[J" (.ref r1) := (((F12.other W17 (Or.inr (sn_e_honeybee_calculus_Clausebody_e_honeybee_calculus_Clausehead hw))).other W22 (Or.inr (sn_e_honeybee_calculus_Clausebody_oneybee_calculus_Clausemaximal hw))).other W27 (Or.inr (sn_e_honeybee_calculus_Clausebody_neybee_calculus_ClausefromRoot hw)))
  have F32 : Fld Z h27 r0 "com/example/honeybee/honeybee/calculus/Clause" "head" "[J" (.ref r2) := ((F17.other W22 (Or.inr (sn_e_honeybee_calculus_Clausehead_oneybee_calculus_Clausemaximal hw))).other W27 (Or.inr (sn_e_honeybee_calculus_Clausehead_neybee_calculus_ClausefromRoot hw)))
  obtain ⟨fs, hr, hrun, hended, hW, hsame⟩ := X27.leave (v := none) (fun _ => rfl)
  refine ⟨_, _, pre0 _ ?_, hrun, hended, _, _, rfl, ?_, ⟨_, rfl⟩, hW, hsame.mono (by decide) (by decide)⟩
  · refine XS.aloadN X0.here hx rfl (hb hby d3_0) rfl rfl ?_
    show Steps p.tables e below (s₁.setTop (mkF m 1 #[.val (.ref r0), .val (.ref r1), .val (.ref r2), .val (.ref r3), .val (.ref r4)] [(.ref r0)])) _
    refine st11 _ ?_
    show Steps p.tables e below (T11.setTop (mkF m 4 #[.val (.ref r0), .val (.ref r1), .val (.ref r2), .val (.ref r3), .val (.ref r4)] [])) _
    refine XS.aloadN X11.here hx rfl (hb hby d3_4) rfl rfl ?_
    show Steps p.tables e below (T11.setTop (mkF m 5 #[.val (.ref r0), .val (.ref r1), .val (.ref r2), .val (.ref r3), .val (.ref r4)] [(.ref r0)])) _
    refine XS.aloadN X11.here hx rfl (hb hby d3_5) rfl rfl ?_
    show Steps p.tables e below (T11.setTop (mkF m 6 #[.val (.ref r0), .val (.ref r1), .val (.ref r2), .val (.ref r3), .val (.ref r4)] [(.ref r1), (.ref r0)])) _
    refine st12 _ ?_
    show Steps p.tables e below (T12.setTop (mkF m 9 #[.val (.ref r0), .val (.ref r1), .val (.ref r2), .val (.ref r3), .val (.ref r4)] [])) _
    refine XS.aloadN X12.here hx rfl (hb hby d3_9) rfl rfl ?_
    show Steps p.tables e below (T12.setTop (mkF m 10 #[.val (.ref r0), .val (.ref r1), .val (.ref r2), .val (.ref r3), .val (.ref r4)] [(.ref r0)])) _
    refine XS.aloadN X12.here hx rfl (hb hby d3_10) rfl rfl ?_
    show Steps p.tables e below (T12.setTop (mkF m 11 #[.val (.ref r0), .val (.ref r1), .val (.ref r2), .val (.ref r3), .val (.ref r4)] [(.ref r2), (.ref r0)])) _
    refine st17 _ ?_
    show Steps p.tables e below (T17.setTop (mkF m 14 #[.val (.ref r0), .val (.ref r1), .val (.ref r2), .val (.ref r3), .val (.ref r4)] [])) _
    refine XS.aloadN X17.here hx rfl (hb hby d3_14) rfl rfl ?_
    show Steps p.tables e below (T17.setTop (mkF m 15 #[.val (.ref r0), .val (.ref r1), .val (.ref r2), .val (.ref r3), .val (.ref r4)] [(.ref r0)])) _
    refine XS.aloadN X17.here hx rfl (hb hby d3_15) rfl rfl ?_
    show Steps p.tables e below (T17.setTop (mkF m 16 #[.val (.ref r0), .val (.ref r1), .val (.ref r2), .val (.ref r3), .val (.ref r4)] [(.ref r3), (.ref r0)])) _
    refine st22 _ ?_
    show Steps p.tables e below (T22.setTop (mkF m 19 #[.val (.ref r0), .val (.ref r1), .val (.ref r2), .val (.ref r3), .val (.ref r4)] [])) _
    refine XS.aloadN X22.here hx rfl (hb hby d3_19) rfl rfl ?_
    show Steps p.tables e below (T22.setTop (mkF m 20 #[.val (.ref r0), .val (.ref r1), .val (.ref r2), .val (.ref r3), .val (.ref r4)] [(.ref r0)])) _
    refine XS.aload X22.here hx rfl (hb hby d3_20) rfl rfl ?_
    show Steps p.tables e below (T22.setTop (mkF m 22 #[.val (.ref r0), .val (.ref r1), .val (.ref r2), .val (.ref r3), .val (.ref r4)] [(.ref r4), (.ref r0)])) _
    refine st27 _ ?_
    show Steps p.tables e below (T27.setTop (mkF m 25 #[.val (.ref r0), .val (.ref r1), .val (.ref r2), .val (.ref r3), .val (.ref r4)] [])) _
    exact X27.returnOut hx Bd.returns (hb hby d3_25) hr
  · show Q3 Z r0 r1 r2 r3 r4 h0 n0 _ T27.heap _
    rw [e27]
    exact ⟨rfl, N27, K29, E30, F31, F32⟩
theorem d5_0 : decode prog_3_method_6_code 0 = .ok (.aload_n 0, 1) := by decide +kernel
theorem d5_1 : decode prog_3_method_6_code 1 = .ok (.getfield 16, 3) := by decide +kernel
theorem d5_4 : decode prog_3_method_6_code 4 = .ok (.arraylength, 1) := by decide +kernel
theorem d5_5 : decode prog_3_method_6_code 5 = .ok (.ifCond .ne 16, 3) := by decide +kernel
theorem d5_8 : decode prog_3_method_6_code 8 = .ok (.aload_n 0, 1) := by decide +kernel
theorem d5_9 : decode prog_3_method_6_code 9 = .ok (.getfield 19, 3) := by decide +kernel
theorem d5_12 : decode prog_3_method_6_code 12 = .ok (.arraylength, 1) := by decide +kernel
theorem d5_13 : decode prog_3_method_6_code 13 = .ok (.iconst 1, 1) := by decide +kernel
theorem d5_14 : decode prog_3_method_6_code 14 = .ok (.if_icmp .ne 7, 3) := by decide +kernel
theorem d5_17 : decode prog_3_method_6_code 17 = .ok (.iconst 1, 1) := by decide +kernel
theorem d5_18 : decode prog_3_method_6_code 18 = .ok (.goto 4, 3) := by decide +kernel
theorem d5_21 : decode prog_3_method_6_code 21 = .ok (.iconst 0, 1) := by decide +kernel
theorem d5_22 : decode prog_3_method_6_code 22 = .ok (.ireturn, 1) := by decide +kernel
theorem pn_5 : plainName "com/example/honeybee/honeybee/calculus/Clause" = true := by first | (simp [plainName, overriddenIn]; done) | decide +kernel
theorem ef_5 (m : MethodId) (r0 : Addr) : entryFrame m #[(.ref r0)] 1 = mkF m 0 #[.val (.ref r0)] [] := by first | (simp [entryFrame, mkF, argsToLocals, Value.category]; done) | rfl
def Q5 (Z : State) (r0 : Addr) (o1 : Addr) (o2 : Addr) (z1 : Int32) (z2 : Int32) (f1 : Nat → Int64) (f2 : Nat → Int64) (h0 : Heap) (n0 : Nat) (v : Option Value) (h : Heap) (L : List Loc) : Prop := v = some (.int (own_unit z1 z2)) ∧ Fr n0 L ∧ h = h0
set_option maxRecDepth 65536 in
set_option maxHeartbeats 40000000 in
theorem rm5 (l : Launch) (Z : State) (a0 : Array Value) (hw : ∀ d ∈ tables_1, d.before a0 Z = true) (ws : List Jvm.Cond) (r0 : Addr) (o1 : Addr) (o2 : Addr) (z1 : Int32) (z2 : Int32) (f1 : Nat → Int64) (f2 : Nat → Int64) (h0 : Heap) (n0 : Nat) (Z0 : n0 ≤ h0.size) (hp0 : Fld Z h0 r0 "com/example/honeybee/honeybee/calculus/Clause" "body" "[J" (.ref o1)) (hp1 : Fld Z h0 r0 "com/example/honeybee/honeybee/calculus/Clause" "head" "[J" (.ref o2)) (hp2 : AL Z h0 o1 z1 f1) (hp3 : AL Z h0 o2 z2 f2) :
    MetFree l (⟨"com/example/honeybee/honeybee/calculus/Clause", "isUnit", "()Z"⟩ : MethodName) (head1 (Jvm.Cond.code (⟨"com/example/honeybee/honeybee/calculus/Clause", "isUnit", "()Z"⟩ : MethodName) prog_3_method_6_code 1 (some .boolean) :: ws) ({ frames := 0, cells := 0, slots := 0, locals := 0 } : Room)) (fun a U => a = #[(.ref r0)] ∧ Z.Warmed39 U.vm ∧ U.heap = h0) (fun _ _ _ _ _ => True) (fun _ U o U' => ∃ v L, o = .returned v ∧ Q5 Z r0 o1 o2 z1 z2 f1 f2 h0 n0 v U'.heap L ∧ FrameEnd U o U' L ({ frames := 0, cells := 0, slots := 0, locals := 0 } : Room).cells ({ frames := 0, cells := 0, slots := 0, locals := 0 } : Room).slots) := by
  refine MetFree.of_bodySF (plainFor_of_name pn_5) hisR ?_
  intro p e s m args below meth c s₁ Bd hml0 hP hK
  obtain ⟨rfl, hZ, hh⟩ := hP
  have hx := Bd.exec
  have hby := Bd.bytes
  have hml : c.maxLocals = 1 := hml0
  have hown : s.vm.findClass "com/example/honeybee/honeybee/calculus/Clause" = some m.cls := findClass_of_methodNamed Bd.named
  have hnm := (name_of_methodNamed Bd.named Bd.method).1
  have X0 : Stand p l e ({ frames := 0, cells := 0, slots := 0, locals := 0 } : Room) s m #[(.ref r0)] below meth c s₁ [] 0 0 := Stand.of_body Bd
  have e0 : s₁.heap = h0 := by rw [← hh, Bd.state]; rfl
  have N0 := Fr.nil n0
  have pre0 : ∀ t, Steps p.tables e below (s₁.setTop (mkF m 0 #[.val (.ref r0)] [])) t → Steps p.tables e below (s₁.setTop (entryFrame m #[(.ref r0)] 1)) t := fun t k => castTop (ef_5 m r0) k
  obtain ⟨T11, X11, e11, st11⟩ := getF X0 hx hZ hown (host := "") (Or.inl (hw _ (List.mem_of_getElem? (i := 18) rfl))) Via.refl e0 hp0 (g := (mkF m 1 #[.val (.ref r0)] [(.ref r0)])) rfl rfl (hb hby d5_1)
  obtain ⟨cl12, Ar12, S12, M12, I12⟩ := id hp2
  have pre13 : ∀ t, Steps p.tables e below (T11.setTop (mkF m 5 #[.val (.ref r0)] [(.int z1)])) t → Steps p.tables e below (s₁.setTop (entryFrame m #[(.ref r0)] 1)) t := fun t k => pre0 t (by
    refine XS.aloadN X0.here hx rfl (hb hby d5_0) rfl rfl ?_
    show Steps p.tables e below (s₁.setTop (mkF m 1 #[.val (.ref r0)] [(.ref r0)])) _
    refine st11 _ ?_
    show Steps p.tables e below (T11.setTop (mkF m 4 #[.val (.ref r0)] [(.ref o1)])) _
    refine X11.arraylength hx (by rw [e11]; exact Ar12.1) (State.isArrayOf_alike hZ.alike Ar12.2.1) (g := (mkF m 4 #[.val (.ref r0)] [(.ref o1)])) rfl rfl (hb hby d5_4) _ ?_
    rw [len_of S12 M12]
    exact k)
  by_cases hc14 : z1 = (0 : Int32)
  · obtain ⟨T15, X15, e15, st15⟩ := getF X11 hx hZ hown (host := "") (Or.inl (hw _ (List.mem_of_getElem? (i := 20) rfl))) Via.refl e11 hp1 (g := (mkF m 9 #[.val (.ref r0)] [(.ref r0)])) rfl rfl (hb hby d5_9)
    obtain ⟨cl16, Ar16, S16, M16, I16⟩ := id hp3
    have pre17 : ∀ t, Steps p.tables e below (T15.setTop (mkF m 14 #[.val (.ref r0)] [(.int (1 : Int32)), (.int z2)])) t → Steps p.tables e below (s₁.setTop (entryFrame m #[(.ref r0)] 1)) t := fun t k => pre13 t (by
      refine XS.ifNo X11.here hx rfl (hb hby d5_5) rfl ((if0 _ _).trans (teq hc14).2) ?_
      show Steps p.tables e below (T11.setTop (mkF m 8 #[.val (.ref r0)] [])) _
      refine XS.aloadN X11.here hx rfl (hb hby d5_8) rfl rfl ?_
      show Steps p.tables e below (T11.setTop (mkF m 9 #[.val (.ref r0)] [(.ref r0)])) _
      refine st15 _ ?_
      show Steps p.tables e below (T15.setTop (mkF m 12 #[.val (.ref r0)] [(.ref o2)])) _
      refine X15.arraylength hx (by rw [e15]; exact Ar16.1) (State.isArrayOf_alike hZ.alike Ar16.2.1) (g := (mkF m 12 #[.val (.ref r0)] [(.ref o2)])) rfl rfl (hb hby d5_12) _ ?_
      rw [len_of S16 M16]
      show Steps p.tables e below (T15.setTop (mkF m 13 #[.val (.ref r0)] [(.int z2)])) _
      refine XS.iconst X15.here hx rfl (hb hby d5_13) ?_
      exact k)
    by_cases hc18 : z2 = (1 : Int32)
    · obtain ⟨fs, hr, hrun, hended, hW, hsame⟩ := X15.leave (v := some (.int (1 : Int32))) (fun h => by rw [Bd.returns] at h; cases h)
      refine ⟨_, _, pre17 _ ?_, hrun, hended, _, _, rfl, ?_, ⟨_, rfl⟩, hW, hsame.mono (by decide) (by decide)⟩
      · refine XS.icmpNo X15.here hx rfl (hb hby d5_14) rfl (teq hc18).2 ?_
        show Steps p.tables e below (T15.setTop (mkF m 17 #[.val (.ref r0)] [])) _
        refine XS.iconst X15.here hx rfl (hb hby d5_17) ?_
        show Steps p.tables e below (T15.setTop (mkF m 18 #[.val (.ref r0)] [(.int (1 : Int32))])) _
        refine XS.goto X15.here hx rfl (pc0 := 18) (pc' := 22) rfl (hb hby d5_18) (by decide) (by decide) ?_
        show Steps p.tables e below (T15.setTop (mkF m 22 #[.val (.ref r0)] [(.int (1 : Int32))])) _
        exact retN X15 hx (t := .boolean) Bd.returns (by simp) (hb hby d5_22) hr
      · show Q5 Z r0 o1 o2 z1 z2 f1 f2 h0 n0 _ T15.heap _
        rw [e15]
        exact ⟨(by rw [own_unit, if_pos hc14, if_pos hc18]), N0, rfl⟩
    · obtain ⟨fs, hr, hrun, hended, hW, hsame⟩ := X15.leave (v := some (.int (0 : Int32))) (fun h => by rw [Bd.returns] at h; cases h)
      refine ⟨_, _, pre17 _ ?_, hrun, hended, _, _, rfl, ?_, ⟨_, rfl⟩, hW, hsame.mono (by decide) (by decide)⟩
      · refine XS.icmpYes X15.here hx rfl (pc0 := 14) (pc' := 21) rfl (hb hby d5_14) rfl (feq hc18).2 (by decide) (by decide) ?_
        show Steps p.tables e below (T15.setTop (mkF m 21 #[.val (.ref r0)] [])) _
        refine XS.iconst X15.here hx rfl (hb hby d5_21) ?_
        show Steps p.tables e below (T15.setTop (mkF m 22 #[.val (.ref r0)] [(.int (0 : Int32))])) _
        exact retN X15 hx (t := .boolean) Bd.returns (by simp) (hb hby d5_22) hr
      · show Q5 Z r0 o1 o2 z1 z2 f1 f2 h0 n0 _ T15.heap _
        rw [e15]
        exact ⟨(by rw [own_unit, if_pos hc14, if_neg hc18]), N0, rfl⟩
  · obtain ⟨fs, hr, hrun, hended, hW, hsame⟩ := X11.leave (v := some (.int (0 : Int32))) (fun h => by rw [Bd.returns] at h; cases h)
    refine ⟨_, _, pre13 _ ?_, hrun, hended, _, _, rfl, ?_, ⟨_, rfl⟩, hW, hsame.mono (by decide) (by decide)⟩
    · refine XS.ifYes X11.here hx rfl (pc0 := 5) (pc' := 21) rfl (hb hby d5_5) rfl ((if0 _ _).trans (feq hc14).2) (by decide) (by decide) ?_
      show Steps p.tables e below (T11.setTop (mkF m 21 #[.val (.ref r0)] [])) _
      refine XS.iconst X11.here hx rfl (hb hby d5_21) ?_
      show Steps p.tables e below (T11.setTop (mkF m 22 #[.val (.ref r0)] [(.int (0 : Int32))])) _
      exact retN X11 hx (t := .boolean) Bd.returns (by simp) (hb hby d5_22) hr
    · show Q5 Z r0 o1 o2 z1 z2 f1 f2 h0 n0 _ T11.heap _
      rw [e11]
      exact ⟨(by rw [own_unit, if_neg hc14]), N0, rfl⟩
theorem d6_0 : decode prog_3_method_7_code 0 = .ok (.aload_n 0, 1) := by decide +kernel
theorem d6_1 : decode prog_3_method_7_code 1 = .ok (.getfield 16, 3) := by decide +kernel
theorem d6_4 : decode prog_3_method_7_code 4 = .ok (.arraylength, 1) := by decide +kernel
theorem d6_5 : decode prog_3_method_7_code 5 = .ok (.ifCond .ne 15, 3) := by decide +kernel
theorem d6_8 : decode prog_3_method_7_code 8 = .ok (.aload_n 0, 1) := by decide +kernel
theorem d6_9 : decode prog_3_method_7_code 9 = .ok (.getfield 19, 3) := by decide +kernel
theorem d6_12 : decode prog_3_method_7_code 12 = .ok (.arraylength, 1) := by decide +kernel
theorem d6_13 : decode prog_3_method_7_code 13 = .ok (.ifCond .ne 7, 3) := by decide +kernel
theorem d6_16 : decode prog_3_method_7_code 16 = .ok (.iconst 1, 1) := by decide +kernel
theorem d6_17 : decode prog_3_method_7_code 17 = .ok (.goto 4, 3) := by decide +kernel
theorem d6_20 : decode prog_3_method_7_code 20 = .ok (.iconst 0, 1) := by decide +kernel
theorem d6_21 : decode prog_3_method_7_code 21 = .ok (.ireturn, 1) := by decide +kernel
theorem pn_6 : plainName "com/example/honeybee/honeybee/calculus/Clause" = true := by first | (simp [plainName, overriddenIn]; done) | decide +kernel
theorem ef_6 (m : MethodId) (r0 : Addr) : entryFrame m #[(.ref r0)] 1 = mkF m 0 #[.val (.ref r0)] [] := by first | (simp [entryFrame, mkF, argsToLocals, Value.category]; done) | rfl
def Q6 (Z : State) (r0 : Addr) (o1 : Addr) (o2 : Addr) (z1 : Int32) (z2 : Int32) (f1 : Nat → Int64) (f2 : Nat → Int64) (h0 : Heap) (n0 : Nat) (v : Option Value) (h : Heap) (L : List Loc) : Prop := v = some (.int (own_empty z1 z2)) ∧ Fr n0 L ∧ h = h0
set_option maxRecDepth 65536 in
set_option maxHeartbeats 40000000 in
theorem rm6 (l : Launch) (Z : State) (a0 : Array Value) (hw : ∀ d ∈ tables_1, d.before a0 Z = true) (ws : List Jvm.Cond) (r0 : Addr) (o1 : Addr) (o2 : Addr) (z1 : Int32) (z2 : Int32) (f1 : Nat → Int64) (f2 : Nat → Int64) (h0 : Heap) (n0 : Nat) (Z0 : n0 ≤ h0.size) (hp0 : Fld Z h0 r0 "com/example/honeybee/honeybee/calculus/Clause" "body" "[J" (.ref o1)) (hp1 : Fld Z h0 r0 "com/example/honeybee/honeybee/calculus/Clause" "head" "[J" (.ref o2)) (hp2 : AL Z h0 o1 z1 f1) (hp3 : AL Z h0 o2 z2 f2) :
    MetFree l (⟨"com/example/honeybee/honeybee/calculus/Clause", "isEmpty", "()Z"⟩ : MethodName) (head1 (Jvm.Cond.code (⟨"com/example/honeybee/honeybee/calculus/Clause", "isEmpty", "()Z"⟩ : MethodName) prog_3_method_7_code 1 (some .boolean) :: ws) ({ frames := 0, cells := 0, slots := 0, locals := 0 } : Room)) (fun a U => a = #[(.ref r0)] ∧ Z.Warmed39 U.vm ∧ U.heap = h0) (fun _ _ _ _ _ => True) (fun _ U o U' => ∃ v L, o = .returned v ∧ Q6 Z r0 o1 o2 z1 z2 f1 f2 h0 n0 v U'.heap L ∧ FrameEnd U o U' L ({ frames := 0, cells := 0, slots := 0, locals := 0 } : Room).cells ({ frames := 0, cells := 0, slots := 0, locals := 0 } : Room).slots) := by
  refine MetFree.of_bodySF (plainFor_of_name pn_6) hisR ?_
  intro p e s m args below meth c s₁ Bd hml0 hP hK
  obtain ⟨rfl, hZ, hh⟩ := hP
  have hx := Bd.exec
  have hby := Bd.bytes
  have hml : c.maxLocals = 1 := hml0
  have hown : s.vm.findClass "com/example/honeybee/honeybee/calculus/Clause" = some m.cls := findClass_of_methodNamed Bd.named
  have hnm := (name_of_methodNamed Bd.named Bd.method).1
  have X0 : Stand p l e ({ frames := 0, cells := 0, slots := 0, locals := 0 } : Room) s m #[(.ref r0)] below meth c s₁ [] 0 0 := Stand.of_body Bd
  have e0 : s₁.heap = h0 := by rw [← hh, Bd.state]; rfl
  have N0 := Fr.nil n0
  have pre0 : ∀ t, Steps p.tables e below (s₁.setTop (mkF m 0 #[.val (.ref r0)] [])) t → Steps p.tables e below (s₁.setTop (entryFrame m #[(.ref r0)] 1)) t := fun t k => castTop (ef_6 m r0) k
  obtain ⟨T11, X11, e11, st11⟩ := getF X0 hx hZ hown (host := "") (Or.inl (hw _ (List.mem_of_getElem? (i := 18) rfl))) Via.refl e0 hp0 (g := (mkF m 1 #[.val (.ref r0)] [(.ref r0)])) rfl rfl (hb hby d6_1)
  obtain ⟨cl12, Ar12, S12, M12, I12⟩ := id hp2
  have pre13 : ∀ t, Steps p.tables e below (T11.setTop (mkF m 5 #[.val (.ref r0)] [(.int z1)])) t → Steps p.tables e below (s₁.setTop (entryFrame m #[(.ref r0)] 1)) t := fun t k => pre0 t (by
    refine XS.aloadN X0.here hx rfl (hb hby d6_0) rfl rfl ?_
    show Steps p.tables e below (s₁.setTop (mkF m 1 #[.val (.ref r0)] [(.ref r0)])) _
    refine st11 _ ?_
    show Steps p.tables e below (T11.setTop (mkF m 4 #[.val (.ref r0)] [(.ref o1)])) _
    refine X11.arraylength hx (by rw [e11]; exact Ar12.1) (State.isArrayOf_alike hZ.alike Ar12.2.1) (g := (mkF m 4 #[.val (.ref r0)] [(.ref o1)])) rfl rfl (hb hby d6_4) _ ?_
    rw [len_of S12 M12]
    exact k)
  by_cases hc14 : z1 = (0 : Int32)
  · obtain ⟨T15, X15, e15, st15⟩ := getF X11 hx hZ hown (host := "") (Or.inl (hw _ (List.mem_of_getElem? (i := 20) rfl))) Via.refl e11 hp1 (g := (mkF m 9 #[.val (.ref r0)] [(.ref r0)])) rfl rfl (hb hby d6_9)
    obtain ⟨cl16, Ar16, S16, M16, I16⟩ := id hp3
    have pre17 : ∀ t, Steps p.tables e below (T15.setTop (mkF m 13 #[.val (.ref r0)] [(.int z2)])) t → Steps p.tables e below (s₁.setTop (entryFrame m #[(.ref r0)] 1)) t := fun t k => pre13 t (by
      refine XS.ifNo X11.here hx rfl (hb hby d6_5) rfl ((if0 _ _).trans (teq hc14).2) ?_
      show Steps p.tables e below (T11.setTop (mkF m 8 #[.val (.ref r0)] [])) _
      refine XS.aloadN X11.here hx rfl (hb hby d6_8) rfl rfl ?_
      show Steps p.tables e below (T11.setTop (mkF m 9 #[.val (.ref r0)] [(.ref r0)])) _
      refine st15 _ ?_
      show Steps p.tables e below (T15.setTop (mkF m 12 #[.val (.ref r0)] [(.ref o2)])) _
      refine X15.arraylength hx (by rw [e15]; exact Ar16.1) (State.isArrayOf_alike hZ.alike Ar16.2.1) (g := (mkF m 12 #[.val (.ref r0)] [(.ref o2)])) rfl rfl (hb hby d6_12) _ ?_
      rw [len_of S16 M16]
      exact k)
    by_cases hc18 : z2 = (0 : Int32)
    · obtain ⟨fs, hr, hrun, hended, hW, hsame⟩ := X15.leave (v := some (.int (1 : Int32))) (fun h => by rw [Bd.returns] at h; cases h)
      refine ⟨_, _, pre17 _ ?_, hrun, hended, _, _, rfl, ?_, ⟨_, rfl⟩, hW, hsame.mono (by decide) (by decide)⟩
      · refine XS.ifNo X15.here hx rfl (hb hby d6_13) rfl ((if0 _ _).trans (teq hc18).2) ?_
        show Steps p.tables e below (T15.setTop (mkF m 16 #[.val (.ref r0)] [])) _
        refine XS.iconst X15.here hx rfl (hb hby d6_16) ?_
        show Steps p.tables e below (T15.setTop (mkF m 17 #[.val (.ref r0)] [(.int (1 : Int32))])) _
        refine XS.goto X15.here hx rfl (pc0 := 17) (pc' := 21) rfl (hb hby d6_17) (by decide) (by decide) ?_
        show Steps p.tables e below (T15.setTop (mkF m 21 #[.val (.ref r0)] [(.int (1 : Int32))])) _
        exact retN X15 hx (t := .boolean) Bd.returns (by simp) (hb hby d6_21) hr
      · show Q6 Z r0 o1 o2 z1 z2 f1 f2 h0 n0 _ T15.heap _
        rw [e15]
        exact ⟨(by rw [own_empty, if_pos hc14, if_pos hc18]), N0, rfl⟩
    · obtain ⟨fs, hr, hrun, hended, hW, hsame⟩ := X15.leave (v := some (.int (0 : Int32))) (fun h => by rw [Bd.returns] at h; cases h)
      refine ⟨_, _, pre17 _ ?_, hrun, hended, _, _, rfl, ?_, ⟨_, rfl⟩, hW, hsame.mono (by decide) (by decide)⟩
      · refine XS.ifYes X15.here hx rfl (pc0 := 13) (pc' := 20) rfl (hb hby d6_13) rfl ((if0 _ _).trans (feq hc18).2) (by decide) (by decide) ?_
        show Steps p.tables e below (T15.setTop (mkF m 20 #[.val (.ref r0)] [])) _
        refine XS.iconst X15.here hx rfl (hb hby d6_20) ?_
        show Steps p.tables e below (T15.setTop (mkF m 21 #[.val (.ref r0)] [(.int (0 : Int32))])) _
        exact retN X15 hx (t := .boolean) Bd.returns (by simp) (hb hby d6_21) hr
      · show Q6 Z r0 o1 o2 z1 z2 f1 f2 h0 n0 _ T15.heap _
        rw [e15]
        exact ⟨(by rw [own_empty, if_pos hc14, if_neg hc18]), N0, rfl⟩
  · obtain ⟨fs, hr, hrun, hended, hW, hsame⟩ := X11.leave (v := some (.int (0 : Int32))) (fun h => by rw [Bd.returns] at h; cases h)
    refine ⟨_, _, pre13 _ ?_, hrun, hended, _, _, rfl, ?_, ⟨_, rfl⟩, hW, hsame.mono (by decide) (by decide)⟩
    · refine XS.ifYes X11.here hx rfl (pc0 := 5) (pc' := 20) rfl (hb hby d6_5) rfl ((if0 _ _).trans (feq hc14).2) (by decide) (by decide) ?_
      show Steps p.tables e below (T11.setTop (mkF m 20 #[.val (.ref r0)] [])) _
      refine XS.iconst X11.here hx rfl (hb hby d6_20) ?_
      show Steps p.tables e below (T11.setTop (mkF m 21 #[.val (.ref r0)] [(.int (0 : Int32))])) _
      exact retN X11 hx (t := .boolean) Bd.returns (by simp) (hb hby d6_21) hr
    · show Q6 Z r0 o1 o2 z1 z2 f1 f2 h0 n0 _ T11.heap _
      rw [e11]
      exact ⟨(by rw [own_empty, if_neg hc14]), N0, rfl⟩
theorem pn_0 : plainName "com/example/honeybee/honeybee/calculus/ClauseIsUnitPinLaw" = true := by first | (simp [plainName, overriddenIn]; done) | decide +kernel
theorem ef_0 (m : MethodId) (p0 : Int32) (q1 : Int64) (q2 : Int64) : entryFrame m #[(.int p0), (.long q1), (.long q2)] maxLocals = mkF m 0 #[.val (.int p0), .val (.long q1), .second, .val (.long q2), .second, .unset, .unset, .unset, .unset, .unset, .unset, .unset, .unset, .unset, .unset, .unset] [] := by first | (simp [entryFrame, mkF, argsToLocals, Value.category, maxLocals]; done) | rfl
theorem pd_0 : parseMethodDescriptor "(IJ)[J" = some ⟨[.int, .long], some (.array .long)⟩ := by decide +kernel
theorem pd_1 : parseMethodDescriptor "(II)I" = some ⟨[.int, .int], some .int⟩ := by decide +kernel
theorem pd_2 : parseMethodDescriptor "([J[J[J[J)V" = some ⟨[(.array .long), (.array .long), (.array .long), (.array .long)], none⟩ := by decide +kernel
theorem pd_3 : parseMethodDescriptor "()Z" = some ⟨[], some .boolean⟩ := by decide +kernel
def Q0 (Z : State) (p0 : Int32) (q1 : Int64) (q2 : Int64) (h0 : Heap) (n0 : Nat) (v : Option Value) (h : Heap) (L : List Loc) : Prop := v = some (.int 1) ∧ Fr n0 L
set_option maxRecDepth 65536 in
set_option maxHeartbeats 40000000 in
theorem rm0 (l : Launch) (Z : State) (a0 : Array Value) (hw : ∀ d ∈ tables_1, d.before a0 Z = true) (ws : List Jvm.Cond) (p0 : Int32) (q1 : Int64) (q2 : Int64) (h0 : Heap) (n0 : Nat) (Z0 : n0 ≤ h0.size)  :
    MetFree l x (head1 (Jvm.Cond.code x code maxLocals ret :: ws) room_1) (fun a U => a = #[(.int p0), (.long q1), (.long q2)] ∧ Z.Warmed39 U.vm ∧ U.heap = h0) (fun _ _ _ _ _ => True) (fun _ U o U' => ∃ v L, o = .returned v ∧ Q0 Z p0 q1 q2 h0 n0 v U'.heap L ∧ FrameEnd U o U' L room_1.cells room_1.slots) := by
  refine MetFree.of_bodySF (plainFor_of_name pn_0) hisR ?_
  intro p e s m args below meth c s₁ Bd hml0 hP hK
  obtain ⟨rfl, hZ, hh⟩ := hP
  have hx := Bd.exec
  have hby := Bd.bytes
  have hml : c.maxLocals = 16 := hml0
  have hown : s.vm.findClass "com/example/honeybee/honeybee/calculus/ClauseIsUnitPinLaw" = some m.cls := findClass_of_methodNamed Bd.named
  have hnm := (name_of_methodNamed Bd.named Bd.method).1
  have X0 : Stand p l e room_1 s m #[(.int p0), (.long q1), (.long q2)] below meth c s₁ [] 0 0 := Stand.of_body Bd
  have e0 : s₁.heap = h0 := by rw [← hh, Bd.state]; rfl
  have N0 := Fr.nil n0
  have pre0 : ∀ t, Steps p.tables e below (s₁.setTop (mkF m 0 #[.val (.int p0), .val (.long q1), .second, .val (.long q2), .second, .unset, .unset, .unset, .unset, .unset, .unset, .unset, .unset, .unset, .unset, .unset] [])) t → Steps p.tables e below (s₁.setTop (entryFrame m #[(.int p0), (.long q1), (.long q2)] maxLocals)) t := fun t k => castTop (ef_0 m p0 q1 q2) k
  have pre11 : ∀ t, Steps p.tables e below (s₁.setTop (mkF m 27 #[.val (.int p0), .val (.long q1), .second, .val (.long q2), .second, .val (.int (p0 &&& (3 : Int32))), .val (.int (((p0.toUInt32 >>> ((2 : Int32) &&& 31).toUInt32).toInt32) &&& (3 : Int32))), .val (.int (((p0.toUInt32 >>> ((4 : Int32) &&& 31).toUInt32).toInt32) &&& (3 : Int32))), .val (.int (((p0.toUInt32 >>> ((6 : Int32) &&& 31).toUInt32).toInt32) &&& (3 : Int32))), .unset, .unset, .unset, .unset, .unset, .unset, .unset] [])) t → Steps p.tables e below (s₁.setTop (entryFrame m #[(.int p0), (.long q1), (.long q2)] maxLocals)) t := fun t k => pre0 t (by
    refine XS.iloadN X0.here hx rfl (hb hby at_0) rfl ?_
    show Steps p.tables e below (s₁.setTop (mkF m 1 #[.val (.int p0), .val (.long q1), .second, .val (.long q2), .second, .unset, .unset, .unset, .unset, .unset, .unset, .unset, .unset, .unset, .unset, .unset] [(.int p0)])) _
    refine XS.iconst X0.here hx rfl (hb hby at_1) ?_
    show Steps p.tables e below (s₁.setTop (mkF m 2 #[.val (.int p0), .val (.long q1), .second, .val (.long q2), .second, .unset, .unset, .unset, .unset, .unset, .unset, .unset, .unset, .unset, .unset, .unset] [(.int (3 : Int32)), (.int p0)])) _
    refine XS.iand X0.here hx rfl (hb hby at_2) rfl ?_
    show Steps p.tables e below (s₁.setTop (mkF m 3 #[.val (.int p0), .val (.long q1), .second, .val (.long q2), .second, .unset, .unset, .unset, .unset, .unset, .unset, .unset, .unset, .unset, .unset, .unset] [(.int (p0 &&& (3 : Int32)))])) _
    refine XS.istore X0.here hx rfl (hb hby at_3) rfl (l' := #[.val (.int p0), .val (.long q1), .second, .val (.long q2), .second, .val (.int (p0 &&& (3 : Int32))), .unset, .unset, .unset, .unset, .unset, .unset, .unset, .unset, .unset, .unset]) rfl ?_
    show Steps p.tables e below (s₁.setTop (mkF m 5 #[.val (.int p0), .val (.long q1), .second, .val (.long q2), .second, .val (.int (p0 &&& (3 : Int32))), .unset, .unset, .unset, .unset, .unset, .unset, .unset, .unset, .unset, .unset] [])) _
    refine XS.iloadN X0.here hx rfl (hb hby at_5) rfl ?_
    show Steps p.tables e below (s₁.setTop (mkF m 6 #[.val (.int p0), .val (.long q1), .second, .val (.long q2), .second, .val (.int (p0 &&& (3 : Int32))), .unset, .unset, .unset, .unset, .unset, .unset, .unset, .unset, .unset, .unset] [(.int p0)])) _
    refine XS.iconst X0.here hx rfl (hb hby at_6) ?_
    show Steps p.tables e below (s₁.setTop (mkF m 7 #[.val (.int p0), .val (.long q1), .second, .val (.long q2), .second, .val (.int (p0 &&& (3 : Int32))), .unset, .unset, .unset, .unset, .unset, .unset, .unset, .unset, .unset, .unset] [(.int (2 : Int32)), (.int p0)])) _
    refine XS.iushr X0.here hx rfl (hb hby at_7) rfl ?_
    show Steps p.tables e below (s₁.setTop (mkF m 8 #[.val (.int p0), .val (.long q1), .second, .val (.long q2), .second, .val (.int (p0 &&& (3 : Int32))), .unset, .unset, .unset, .unset, .unset, .unset, .unset, .unset, .unset, .unset] [(.int ((p0.toUInt32 >>> ((2 : Int32) &&& 31).toUInt32).toInt32))])) _
    refine XS.iconst X0.here hx rfl (hb hby at_8) ?_
    show Steps p.tables e below (s₁.setTop (mkF m 9 #[.val (.int p0), .val (.long q1), .second, .val (.long q2), .second, .val (.int (p0 &&& (3 : Int32))), .unset, .unset, .unset, .unset, .unset, .unset, .unset, .unset, .unset, .unset] [(.int (3 : Int32)), (.int ((p0.toUInt32 >>> ((2 : Int32) &&& 31).toUInt32).toInt32))])) _
    refine XS.iand X0.here hx rfl (hb hby at_9) rfl ?_
    show Steps p.tables e below (s₁.setTop (mkF m 10 #[.val (.int p0), .val (.long q1), .second, .val (.long q2), .second, .val (.int (p0 &&& (3 : Int32))), .unset, .unset, .unset, .unset, .unset, .unset, .unset, .unset, .unset, .unset] [(.int (((p0.toUInt32 >>> ((2 : Int32) &&& 31).toUInt32).toInt32) &&& (3 : Int32)))])) _
    refine XS.istore X0.here hx rfl (hb hby at_10) rfl (l' := #[.val (.int p0), .val (.long q1), .second, .val (.long q2), .second, .val (.int (p0 &&& (3 : Int32))), .val (.int (((p0.toUInt32 >>> ((2 : Int32) &&& 31).toUInt32).toInt32) &&& (3 : Int32))), .unset, .unset, .unset, .unset, .unset, .unset, .unset, .unset, .unset]) rfl ?_
    show Steps p.tables e below (s₁.setTop (mkF m 12 #[.val (.int p0), .val (.long q1), .second, .val (.long q2), .second, .val (.int (p0 &&& (3 : Int32))), .val (.int (((p0.toUInt32 >>> ((2 : Int32) &&& 31).toUInt32).toInt32) &&& (3 : Int32))), .unset, .unset, .unset, .unset, .unset, .unset, .unset, .unset, .unset] [])) _
    refine XS.iloadN X0.here hx rfl (hb hby at_12) rfl ?_
    show Steps p.tables e below (s₁.setTop (mkF m 13 #[.val (.int p0), .val (.long q1), .second, .val (.long q2), .second, .val (.int (p0 &&& (3 : Int32))), .val (.int (((p0.toUInt32 >>> ((2 : Int32) &&& 31).toUInt32).toInt32) &&& (3 : Int32))), .unset, .unset, .unset, .unset, .unset, .unset, .unset, .unset, .unset] [(.int p0)])) _
    refine XS.iconst X0.here hx rfl (hb hby at_13) ?_
    show Steps p.tables e below (s₁.setTop (mkF m 14 #[.val (.int p0), .val (.long q1), .second, .val (.long q2), .second, .val (.int (p0 &&& (3 : Int32))), .val (.int (((p0.toUInt32 >>> ((2 : Int32) &&& 31).toUInt32).toInt32) &&& (3 : Int32))), .unset, .unset, .unset, .unset, .unset, .unset, .unset, .unset, .unset] [(.int (4 : Int32)), (.int p0)])) _
    refine XS.iushr X0.here hx rfl (hb hby at_14) rfl ?_
    show Steps p.tables e below (s₁.setTop (mkF m 15 #[.val (.int p0), .val (.long q1), .second, .val (.long q2), .second, .val (.int (p0 &&& (3 : Int32))), .val (.int (((p0.toUInt32 >>> ((2 : Int32) &&& 31).toUInt32).toInt32) &&& (3 : Int32))), .unset, .unset, .unset, .unset, .unset, .unset, .unset, .unset, .unset] [(.int ((p0.toUInt32 >>> ((4 : Int32) &&& 31).toUInt32).toInt32))])) _
    refine XS.iconst X0.here hx rfl (hb hby at_15) ?_
    show Steps p.tables e below (s₁.setTop (mkF m 16 #[.val (.int p0), .val (.long q1), .second, .val (.long q2), .second, .val (.int (p0 &&& (3 : Int32))), .val (.int (((p0.toUInt32 >>> ((2 : Int32) &&& 31).toUInt32).toInt32) &&& (3 : Int32))), .unset, .unset, .unset, .unset, .unset, .unset, .unset, .unset, .unset] [(.int (3 : Int32)), (.int ((p0.toUInt32 >>> ((4 : Int32) &&& 31).toUInt32).toInt32))])) _
    refine XS.iand X0.here hx rfl (hb hby at_16) rfl ?_
    show Steps p.tables e below (s₁.setTop (mkF m 17 #[.val (.int p0), .val (.long q1), .second, .val (.long q2), .second, .val (.int (p0 &&& (3 : Int32))), .val (.int (((p0.toUInt32 >>> ((2 : Int32) &&& 31).toUInt32).toInt32) &&& (3 : Int32))), .unset, .unset, .unset, .unset, .unset, .unset, .unset, .unset, .unset] [(.int (((p0.toUInt32 >>> ((4 : Int32) &&& 31).toUInt32).toInt32) &&& (3 : Int32)))])) _
    refine XS.istore X0.here hx rfl (hb hby at_17) rfl (l' := #[.val (.int p0), .val (.long q1), .second, .val (.long q2), .second, .val (.int (p0 &&& (3 : Int32))), .val (.int (((p0.toUInt32 >>> ((2 : Int32) &&& 31).toUInt32).toInt32) &&& (3 : Int32))), .val (.int (((p0.toUInt32 >>> ((4 : Int32) &&& 31).toUInt32).toInt32) &&& (3 : Int32))), .unset, .unset, .unset, .unset, .unset, .unset, .unset, .unset]) rfl ?_
    show Steps p.tables e below (s₁.setTop (mkF m 19 #[.val (.int p0), .val (.long q1), .second, .val (.long q2), .second, .val (.int (p0 &&& (3 : Int32))), .val (.int (((p0.toUInt32 >>> ((2 : Int32) &&& 31).toUInt32).toInt32) &&& (3 : Int32))), .val (.int (((p0.toUInt32 >>> ((4 : Int32) &&& 31).toUInt32).toInt32) &&& (3 : Int32))), .unset, .unset, .unset, .unset, .unset, .unset, .unset, .unset] [])) _
    refine XS.iloadN X0.here hx rfl (hb hby at_19) rfl ?_
    show Steps p.tables e below (s₁.setTop (mkF m 20 #[.val (.int p0), .val (.long q1), .second, .val (.long q2), .second, .val (.int (p0 &&& (3 : Int32))), .val (.int (((p0.toUInt32 >>> ((2 : Int32) &&& 31).toUInt32).toInt32) &&& (3 : Int32))), .val (.int (((p0.toUInt32 >>> ((4 : Int32) &&& 31).toUInt32).toInt32) &&& (3 : Int32))), .unset, .unset, .unset, .unset, .unset, .unset, .unset, .unset] [(.int p0)])) _
    refine XS.bipush X0.here hx rfl (hb hby at_20) ?_
    show Steps p.tables e below (s₁.setTop (mkF m 22 #[.val (.int p0), .val (.long q1), .second, .val (.long q2), .second, .val (.int (p0 &&& (3 : Int32))), .val (.int (((p0.toUInt32 >>> ((2 : Int32) &&& 31).toUInt32).toInt32) &&& (3 : Int32))), .val (.int (((p0.toUInt32 >>> ((4 : Int32) &&& 31).toUInt32).toInt32) &&& (3 : Int32))), .unset, .unset, .unset, .unset, .unset, .unset, .unset, .unset] [(.int (6 : Int32)), (.int p0)])) _
    refine XS.iushr X0.here hx rfl (hb hby at_22) rfl ?_
    show Steps p.tables e below (s₁.setTop (mkF m 23 #[.val (.int p0), .val (.long q1), .second, .val (.long q2), .second, .val (.int (p0 &&& (3 : Int32))), .val (.int (((p0.toUInt32 >>> ((2 : Int32) &&& 31).toUInt32).toInt32) &&& (3 : Int32))), .val (.int (((p0.toUInt32 >>> ((4 : Int32) &&& 31).toUInt32).toInt32) &&& (3 : Int32))), .unset, .unset, .unset, .unset, .unset, .unset, .unset, .unset] [(.int ((p0.toUInt32 >>> ((6 : Int32) &&& 31).toUInt32).toInt32))])) _
    refine XS.iconst X0.here hx rfl (hb hby at_23) ?_
    show Steps p.tables e below (s₁.setTop (mkF m 24 #[.val (.int p0), .val (.long q1), .second, .val (.long q2), .second, .val (.int (p0 &&& (3 : Int32))), .val (.int (((p0.toUInt32 >>> ((2 : Int32) &&& 31).toUInt32).toInt32) &&& (3 : Int32))), .val (.int (((p0.toUInt32 >>> ((4 : Int32) &&& 31).toUInt32).toInt32) &&& (3 : Int32))), .unset, .unset, .unset, .unset, .unset, .unset, .unset, .unset] [(.int (3 : Int32)), (.int ((p0.toUInt32 >>> ((6 : Int32) &&& 31).toUInt32).toInt32))])) _
    refine XS.iand X0.here hx rfl (hb hby at_24) rfl ?_
    show Steps p.tables e below (s₁.setTop (mkF m 25 #[.val (.int p0), .val (.long q1), .second, .val (.long q2), .second, .val (.int (p0 &&& (3 : Int32))), .val (.int (((p0.toUInt32 >>> ((2 : Int32) &&& 31).toUInt32).toInt32) &&& (3 : Int32))), .val (.int (((p0.toUInt32 >>> ((4 : Int32) &&& 31).toUInt32).toInt32) &&& (3 : Int32))), .unset, .unset, .unset, .unset, .unset, .unset, .unset, .unset] [(.int (((p0.toUInt32 >>> ((6 : Int32) &&& 31).toUInt32).toInt32) &&& (3 : Int32)))])) _
    refine XS.istore X0.here hx rfl (hb hby at_25) rfl (l' := #[.val (.int p0), .val (.long q1), .second, .val (.long q2), .second, .val (.int (p0 &&& (3 : Int32))), .val (.int (((p0.toUInt32 >>> ((2 : Int32) &&& 31).toUInt32).toInt32) &&& (3 : Int32))), .val (.int (((p0.toUInt32 >>> ((4 : Int32) &&& 31).toUInt32).toInt32) &&& (3 : Int32))), .val (.int (((p0.toUInt32 >>> ((6 : Int32) &&& 31).toUInt32).toInt32) &&& (3 : Int32))), .unset, .unset, .unset, .unset, .unset, .unset, .unset]) rfl ?_
    exact k)
  obtain ⟨vb, hvb⟩ : ∃ z, z = (p0 &&& (3 : Int32)) := ⟨_, rfl⟩
  rw [← hvb] at pre11
  obtain ⟨vh, hvh⟩ : ∃ z, z = (((p0.toUInt32 >>> ((2 : Int32) &&& 31).toUInt32).toInt32) &&& (3 : Int32)) := ⟨_, rfl⟩
  rw [← hvh] at pre11
  obtain ⟨vm, hvm⟩ : ∃ z, z = (((p0.toUInt32 >>> ((4 : Int32) &&& 31).toUInt32).toInt32) &&& (3 : Int32)) := ⟨_, rfl⟩
  rw [← hvm] at pre11
  obtain ⟨vr, hvr⟩ : ∃ z, z = (((p0.toUInt32 >>> ((6 : Int32) &&& 31).toUInt32).toInt32) &&& (3 : Int32)) := ⟨_, rfl⟩
  rw [← hvr] at pre11
  have pre12 : ∀ t, Steps p.tables e below (s₁.setTop (mkF m 29 #[.val (.int p0), .val (.long q1), .second, .val (.long q2), .second, .val (.int vb), .val (.int vh), .val (.int vm), .val (.int vr), .unset, .unset, .unset, .unset, .unset, .unset, .unset] [(.int vb)])) t → Steps p.tables e below (s₁.setTop (entryFrame m #[(.int p0), (.long q1), (.long q2)] maxLocals)) t := fun t k => pre11 t (by
    refine XS.iload X0.here hx rfl (hb hby at_27) rfl ?_
    exact k)
  have Bvb : ¬ vb < (0 : Int32) ∧ ¬ (3 : Int32) < vb := by rw [hvb]; exact own_and _
  have Bvh : ¬ vh < (0 : Int32) ∧ ¬ (3 : Int32) < vh := by rw [hvh]; exact own_and _
  have Bvm : ¬ vm < (0 : Int32) ∧ ¬ (3 : Int32) < vm := by rw [hvm]; exact own_and _
  have Bvr : ¬ vr < (0 : Int32) ∧ ¬ (3 : Int32) < vr := by rw [hvr]; exact own_and _
  obtain ⟨_, _, ⟨T13, L13, k13, n13⟩, -, X13, ⟨Lc13, hQ13, l13, y13, z13⟩, st13⟩ := Jvm.LawKit.callS X0 hx (y := (⟨"com/example/honeybee/honeybee/calculus/ClauseIsUnitPinLaw", "arr", "(IJ)[J"⟩ : MethodName)) hown (mvT hZ (hw _ (List.mem_of_getElem? (i := 0) rfl))) (mvT hZ (hw _ (List.mem_of_getElem? (i := 1) rfl))) (mvT hZ (hw _ (List.mem_of_getElem? (i := 2) rfl))) (mvT hZ (hw _ (List.mem_of_getElem? (i := 3) rfl))) (by decide) (backOf (W := 0) (rm1 l Z a0 hw [] vb (q1 >>> ((2 : Int32) &&& 0x3f).toInt64)  h0 n0 Z0 Bvb.1 Bvb.2) hZ (hw _ (List.mem_of_getElem? (i := 3) rfl)) (hw _ (List.mem_of_getElem? (i := 2) rfl)) (by decide) (by decide)) (g := (mkF m 32 #[.val (.int p0), .val (.long q1), .second, .val (.long q2), .second, .val (.int vb), .val (.int vh), .val (.int vm), .val (.int vr), .unset, .unset, .unset, .unset, .unset, .unset, .unset] [(.long (q1 >>> ((2 : Int32) &&& 0x3f).toInt64)), (.int vb)])) rfl (by rw [hml]; rfl) (argsL := [(.int vb), (.long (q1 >>> ((2 : Int32) &&& 0x3f).toInt64))]) (rest := []) (lenOf pd_0 rfl) rfl (by show 2 * 0 + _ ≤ _; exact Nat.le_of_eq rfl) (hb hby at_32) (fun _ _ => ⟨rfl, e0, (by decide : 0 + 1 ≤ _), (by decide : 0 + 3 ≤ _)⟩)
  dsimp only [Pt.U, Pt.locs, Pt.cells, Pt.slots] at X13 l13 y13 z13 st13 hQ13
  subst l13 y13 z13
  obtain ⟨b_13, f_13, rfl, Nq13, u13_0, u13_1, u13_2⟩ := hQ13
  have N13 := Fr.app N0 Nq13
  have g14 : n0 ≤ b_13 := Nat.le_trans Z0 u13_0
  have Z15 : n0 ≤ T13.heap.size := Nat.le_trans Z0 u13_1.1
  obtain ⟨_, _, ⟨T16, L16, k16, n16⟩, -, X16, ⟨Lc16, hQ16, l16, y16, z16⟩, st16⟩ := Jvm.LawKit.callS X13 hx (y := (⟨"com/example/honeybee/honeybee/calculus/ClauseIsUnitPinLaw", "arr", "(IJ)[J"⟩ : MethodName)) hown (mvT hZ (hw _ (List.mem_of_getElem? (i := 0) rfl))) (mvT hZ (hw _ (List.mem_of_getElem? (i := 1) rfl))) (mvT hZ (hw _ (List.mem_of_getElem? (i := 2) rfl))) (mvT hZ (hw _ (List.mem_of_getElem? (i := 3) rfl))) (by decide) (backOf (W := 0) (rm1 l Z a0 hw [] vh (q2 >>> ((2 : Int32) &&& 0x3f).toInt64)  T13.heap n0 Z15 Bvh.1 Bvh.2) hZ (hw _ (List.mem_of_getElem? (i := 3) rfl)) (hw _ (List.mem_of_getElem? (i := 2) rfl)) (by decide) (by decide)) (g := (mkF m 42 #[.val (.int p0), .val (.long q1), .second, .val (.long q2), .second, .val (.int vb), .val (.int vh), .val (.int vm), .val (.int vr), .val (.ref b_13), .unset, .unset, .unset, .unset, .unset, .unset] [(.long (q2 >>> ((2 : Int32) &&& 0x3f).toInt64)), (.int vh)])) rfl (by rw [hml]; rfl) (argsL := [(.int vh), (.long (q2 >>> ((2 : Int32) &&& 0x3f).toInt64))]) (rest := []) (lenOf pd_0 rfl) rfl (by show 2 * 0 + _ ≤ _; exact Nat.le_of_eq rfl) (hb hby at_42) (fun _ _ => ⟨rfl, rfl, (by decide : 1 + 1 ≤ _), (by decide : 3 + 3 ≤ _)⟩)
  dsimp only [Pt.U, Pt.locs, Pt.cells, Pt.slots] at X16 l16 y16 z16 st16 hQ16
  subst l16 y16 z16
  obtain ⟨b_16, f_16, rfl, Nq16, u16_0, u16_1, u16_2⟩ := hQ16
  have N16 := Fr.app N13 Nq16
  have ne17 : b_13 ≠ b_16 := Nat.ne_of_lt (Nat.lt_of_lt_of_le u13_2.lt u16_0)
  have g18 : n0 ≤ b_16 := Nat.le_trans Z15 u16_0
  have Z19 : n0 ≤ T16.heap.size := Nat.le_trans Z15 u16_1.1
  obtain ⟨_, _, ⟨T20, L20, k20, n20⟩, -, X20, ⟨Lc20, hQ20, l20, y20, z20⟩, st20⟩ := Jvm.LawKit.callS X16 hx (y := (⟨"java/lang/Math", "min", "(II)I"⟩ : MethodName)) hown (mvT hZ (hw _ (List.mem_of_getElem? (i := 5) rfl))) (mvT hZ (hw _ (List.mem_of_getElem? (i := 6) rfl))) (mvT hZ (hw _ (List.mem_of_getElem? (i := 7) rfl))) (mvT hZ (hw _ (List.mem_of_getElem? (i := 8) rfl))) (by decide) (backOf (W := 0) (rm2 l Z a0 hw [] vm vh T16.heap n0 Z19) hZ (hw _ (List.mem_of_getElem? (i := 8) rfl)) (hw _ (List.mem_of_getElem? (i := 7) rfl)) (by decide) (by decide)) (g := (mkF m 51 #[.val (.int p0), .val (.long q1), .second, .val (.long q2), .second, .val (.int vb), .val (.int vh), .val (.int vm), .val (.int vr), .val (.ref b_13), .val (.ref b_16), .unset, .unset, .unset, .unset, .unset] [(.int vh), (.int vm)])) rfl (by rw [hml]; rfl) (argsL := [(.int vm), (.int vh)]) (rest := []) (lenOf pd_1 rfl) rfl (by show 2 * 0 + _ ≤ _; exact Nat.le_of_eq rfl) (hb hby at_51) (fun _ _ => ⟨rfl, rfl, (by decide : 2 + 0 ≤ _), (by decide : 6 + 0 ≤ _)⟩)
  dsimp only [Pt.U, Pt.locs, Pt.cells, Pt.slots] at X20 l20 y20 z20 st20 hQ20
  subst l20 y20 z20
  obtain ⟨rfl, Nq20, eh20⟩ := hQ20
  have N20 := Fr.app N16 Nq20
  obtain ⟨_, _, ⟨T21, L21, k21, n21⟩, -, X21, ⟨Lc21, hQ21, l21, y21, z21⟩, st21⟩ := Jvm.LawKit.callS X20 hx (y := (⟨"com/example/honeybee/honeybee/calculus/ClauseIsUnitPinLaw", "arr", "(IJ)[J"⟩ : MethodName)) hown (mvT hZ (hw _ (List.mem_of_getElem? (i := 0) rfl))) (mvT hZ (hw _ (List.mem_of_getElem? (i := 1) rfl))) (mvT hZ (hw _ (List.mem_of_getElem? (i := 2) rfl))) (mvT hZ (hw _ (List.mem_of_getElem? (i := 3) rfl))) (by decide) (backOf (W := 0) (rm1 l Z a0 hw [] (b2_0 vm vh) (q2 >>> ((2 : Int32) &&& 0x3f).toInt64)  T16.heap n0 Z19 (own_min Bvm Bvh).1 (own_min Bvm Bvh).2) hZ (hw _ (List.mem_of_getElem? (i := 3) rfl)) (hw _ (List.mem_of_getElem? (i := 2) rfl)) (by decide) (by decide)) (g := (mkF m 57 #[.val (.int p0), .val (.long q1), .second, .val (.long q2), .second, .val (.int vb), .val (.int vh), .val (.int vm), .val (.int vr), .val (.ref b_13), .val (.ref b_16), .unset, .unset, .unset, .unset, .unset] [(.long (q2 >>> ((2 : Int32) &&& 0x3f).toInt64)), (.int (b2_0 vm vh))])) rfl (by rw [hml]; rfl) (argsL := [(.int (b2_0 vm vh)), (.long (q2 >>> ((2 : Int32) &&& 0x3f).toInt64))]) (rest := []) (lenOf pd_0 rfl) rfl (by show 2 * 0 + _ ≤ _; exact Nat.le_of_eq rfl) (hb hby at_57) (fun _ _ => ⟨rfl, eh20, (by decide : 2 + 1 ≤ _), (by decide : 6 + 3 ≤ _)⟩)
  dsimp only [Pt.U, Pt.locs, Pt.cells, Pt.slots] at X21 l21 y21 z21 st21 hQ21
  subst l21 y21 z21
  obtain ⟨b_21, f_21, rfl, Nq21, u21_0, u21_1, u21_2⟩ := hQ21
  have N21 := Fr.app N20 Nq21
  have V23 : AL Z T16.heap b_13 vb f_13 := (u13_2.keep u16_1 nin0)
  have ne22 : b_13 ≠ b_21 := Nat.ne_of_lt (Nat.lt_of_lt_of_le V23.lt u21_0)
  have ne24 : b_16 ≠ b_21 := Nat.ne_of_lt (Nat.lt_of_lt_of_le u16_2.lt u21_0)
  have g25 : n0 ≤ b_21 := Nat.le_trans Z19 u21_0
  have Z26 : n0 ≤ T21.heap.size := Nat.le_trans Z19 u21_1.1
  obtain ⟨_, _, ⟨T27, L27, k27, n27⟩, -, X27, ⟨Lc27, hQ27, l27, y27, z27⟩, st27⟩ := Jvm.LawKit.callS X21 hx (y := (⟨"java/lang/Math", "min", "(II)I"⟩ : MethodName)) hown (mvT hZ (hw _ (List.mem_of_getElem? (i := 5) rfl))) (mvT hZ (hw _ (List.mem_of_getElem? (i := 6) rfl))) (mvT hZ (hw _ (List.mem_of_getElem? (i := 7) rfl))) (mvT hZ (hw _ (List.mem_of_getElem? (i := 8) rfl))) (by decide) (backOf (W := 0) (rm2 l Z a0 hw [] vr vh T21.heap n0 Z26) hZ (hw _ (List.mem_of_getElem? (i := 8) rfl)) (hw _ (List.mem_of_getElem? (i := 7) rfl)) (by decide) (by decide)) (g := (mkF m 66 #[.val (.int p0), .val (.long q1), .second, .val (.long q2), .second, .val (.int vb), .val (.int vh), .val (.int vm), .val (.int vr), .val (.ref b_13), .val (.ref b_16), .val (.ref b_21), .unset, .unset, .unset, .unset] [(.int vh), (.int vr)])) rfl (by rw [hml]; rfl) (argsL := [(.int vr), (.int vh)]) (rest := []) (lenOf pd_1 rfl) rfl (by show 2 * 0 + _ ≤ _; exact Nat.le_of_eq rfl) (hb hby at_66) (fun _ _ => ⟨rfl, rfl, (by decide : 3 + 0 ≤ _), (by decide : 9 + 0 ≤ _)⟩)
  dsimp only [Pt.U, Pt.locs, Pt.cells, Pt.slots] at X27 l27 y27 z27 st27 hQ27
  subst l27 y27 z27
  obtain ⟨rfl, Nq27, eh27⟩ := hQ27
  have N27 := Fr.app N21 Nq27
  obtain ⟨_, _, ⟨T28, L28, k28, n28⟩, -, X28, ⟨Lc28, hQ28, l28, y28, z28⟩, st28⟩ := Jvm.LawKit.callS X27 hx (y := (⟨"com/example/honeybee/honeybee/calculus/ClauseIsUnitPinLaw", "arr", "(IJ)[J"⟩ : MethodName)) hown (mvT hZ (hw _ (List.mem_of_getElem? (i := 0) rfl))) (mvT hZ (hw _ (List.mem_of_getElem? (i := 1) rfl))) (mvT hZ (hw _ (List.mem_of_getElem? (i := 2) rfl))) (mvT hZ (hw _ (List.mem_of_getElem? (i := 3) rfl))) (by decide) (backOf (W := 0) (rm1 l Z a0 hw [] (b2_0 vr vh) (q2 >>> ((2 : Int32) &&& 0x3f).toInt64)  T21.heap n0 Z26 (own_min Bvr Bvh).1 (own_min Bvr Bvh).2) hZ (hw _ (List.mem_of_getElem? (i := 3) rfl)) (hw _ (List.mem_of_getElem? (i := 2) rfl)) (by decide) (by decide)) (g := (mkF m 72 #[.val (.int p0), .val (.long q1), .second, .val (.long q2), .second, .val (.int vb), .val (.int vh), .val (.int vm), .val (.int vr), .val (.ref b_13), .val (.ref b_16), .val (.ref b_21), .unset, .unset, .unset, .unset] [(.long (q2 >>> ((2 : Int32) &&& 0x3f).toInt64)), (.int (b2_0 vr vh))])) rfl (by rw [hml]; rfl) (argsL := [(.int (b2_0 vr vh)), (.long (q2 >>> ((2 : Int32) &&& 0x3f).toInt64))]) (rest := []) (lenOf pd_0 rfl) rfl (by show 2 * 0 + _ ≤ _; exact Nat.le_of_eq rfl) (hb hby at_72) (fun _ _ => ⟨rfl, eh27, (by decide : 3 + 1 ≤ _), (by decide : 9 + 3 ≤ _)⟩)
  dsimp only [Pt.U, Pt.locs, Pt.cells, Pt.slots] at X28 l28 y28 z28 st28 hQ28
  subst l28 y28 z28
  obtain ⟨b_28, f_28, rfl, Nq28, u28_0, u28_1, u28_2⟩ := hQ28
  have N28 := Fr.app N27 Nq28
  have V30 : AL Z T21.heap b_13 vb f_13 := (V23.keep u21_1 nin0)
  have ne29 : b_13 ≠ b_28 := Nat.ne_of_lt (Nat.lt_of_lt_of_le V30.lt u28_0)
  have V32 : AL Z T21.heap b_16 vh f_16 := (u16_2.keep u21_1 nin0)
  have ne31 : b_16 ≠ b_28 := Nat.ne_of_lt (Nat.lt_of_lt_of_le V32.lt u28_0)
  have ne33 : b_21 ≠ b_28 := Nat.ne_of_lt (Nat.lt_of_lt_of_le u21_2.lt u28_0)
  have g34 : n0 ≤ b_28 := Nat.le_trans Z26 u28_0
  have Z35 : n0 ≤ T28.heap.size := Nat.le_trans Z26 u28_1.1
  obtain ⟨T36, h36, X36, e36, E36, A36, D36, -, st36⟩ := newO X28 hx hZ hown (hw _ (List.mem_of_getElem? (i := 9) rfl)) (hw _ (List.mem_of_getElem? (i := 10) rfl)) (hw _ (List.mem_of_getElem? (i := 11) rfl)) rfl (g := (mkF m 77 #[.val (.int p0), .val (.long q1), .second, .val (.long q2), .second, .val (.int vb), .val (.int vh), .val (.int vm), .val (.int vr), .val (.ref b_13), .val (.ref b_16), .val (.ref b_21), .val (.ref b_28), .unset, .unset, .unset] [])) rfl (hb hby at_77) (by decide) (by decide)
  obtain ⟨b36, gb36⟩ : ∃ z, z = T28.heap.size := ⟨_, rfl⟩
  rw [← gb36] at A36 D36 st36
  have V38 : AL Z T28.heap b_13 vb f_13 := (V30.keep u28_1 nin0)
  have ne37 : b_13 ≠ b36 := Nat.ne_of_lt (Nat.lt_of_lt_of_le V38.lt (Nat.le_of_eq gb36.symm))
  have V40 : AL Z T28.heap b_16 vh f_16 := (V32.keep u28_1 nin0)
  have ne39 : b_16 ≠ b36 := Nat.ne_of_lt (Nat.lt_of_lt_of_le V40.lt (Nat.le_of_eq gb36.symm))
  have V42 : AL Z T28.heap b_21 (b2_0 vm vh) f_21 := (u21_2.keep u28_1 nin0)
  have ne41 : b_21 ≠ b36 := Nat.ne_of_lt (Nat.lt_of_lt_of_le V42.lt (Nat.le_of_eq gb36.symm))
  have ne43 : b_28 ≠ b36 := Nat.ne_of_lt (Nat.lt_of_lt_of_le u28_2.lt (Nat.le_of_eq gb36.symm))
  have g44 : n0 ≤ b36 := Nat.le_trans Z35 (Nat.le_of_eq gb36.symm)
  have Z45 : n0 ≤ h36.size := Nat.le_trans Z35 E36.1
  have F36_body : Fld Z h36 b36 "com/example/honeybee/honeybee/calculus/Clause" "body" "[J" .null := D36 (Or.inr (hw _ (List.mem_of_getElem? (i := 19) rfl))) (ty := (.array .long)) (by decide)
  have F36_head : Fld Z h36 b36 "com/example/honeybee/honeybee/calculus/Clause" "head" "[J" .null := D36 (Or.inr (hw _ (List.mem_of_getElem? (i := 21) rfl))) (ty := (.array .long)) (by decide)
  have F36_maximal : Fld Z h36 b36 "com/example/honeybee/honeybee/calculus/Clause" "maximal" "[J" .null := D36 (Or.inr (hw _ (List.mem_of_getElem? (i := 23) rfl))) (ty := (.array .long)) (by decide)
  have F36_fromRoot : Fld Z h36 b36 "com/example/honeybee/honeybee/calculus/Clause" "fromRoot" "[J" .null := D36 (Or.inr (hw _ (List.mem_of_getElem? (i := 25) rfl))) (ty := (.array .long)) (by decide)
  obtain ⟨_, _, ⟨T46, L46, k46, n46⟩, -, X46, ⟨Lc46, hQ46, l46, y46, z46⟩, st46⟩ := X36.specialBack hx (y := (⟨"com/example/honeybee/honeybee/calculus/Clause", "<init>", "([J[J[J[J)V"⟩ : MethodName)) rfl hown (mvT hZ (hw _ (List.mem_of_getElem? (i := 12) rfl))) (mvT hZ (hw _ (List.mem_of_getElem? (i := 13) rfl))) (mvT hZ (hw _ (List.mem_of_getElem? (i := 14) rfl))) (by decide) (backOf (W := 1) (rm3 l Z a0 hw [] b36 b_13 b_16 b_21 b_28  h36 n0 Z45 A36 F36_body F36_head F36_maximal F36_fromRoot g44) hZ (hw _ (List.mem_of_getElem? (i := 14) rfl)) (hw _ (List.mem_of_getElem? (i := 11) rfl)) (by decide) (by decide)) (g := (mkF m 89 #[.val (.int p0), .val (.long q1), .second, .val (.long q2), .second, .val (.int vb), .val (.int vh), .val (.int vm), .val (.int vr), .val (.ref b_13), .val (.ref b_16), .val (.ref b_21), .val (.ref b_28), .unset, .unset, .unset] [(.ref b_28), (.ref b_21), (.ref b_16), (.ref b_13), (.ref b36), (.ref b36)])) rfl (by rw [hml]; rfl) (Steps.refl _) (a := b36) (argsL := [(.ref b_13), (.ref b_16), (.ref b_21), (.ref b_28)]) (rest := [(.ref b36)]) (lenOf pd_2 rfl) rfl (by show 2 * 0 + _ ≤ _; exact Nat.le_of_eq rfl) (hb hby at_89) (fun _ _ => ⟨rfl, e36, (by decide : 5 + 0 ≤ _), (by decide : 17 + 0 ≤ _)⟩)
  dsimp only [Pt.U, Pt.locs, Pt.cells, Pt.slots] at X46 l46 y46 z46 st46 hQ46
  subst l46 y46 z46
  obtain ⟨rfl, Nq46, u46_0, u46_1, u46_2, u46_3⟩ := hQ46
  have N46 := Fr.app N28 Nq46
  have Z47 : n0 ≤ T46.heap.size := Nat.le_trans Z45 u46_0.1
  have pre48 : ∀ t, Steps p.tables e below (T46.setTop (mkF m 96 #[.val (.int p0), .val (.long q1), .second, .val (.long q2), .second, .val (.int vb), .val (.int vh), .val (.int vm), .val (.int vr), .val (.ref b_13), .val (.ref b_16), .val (.ref b_21), .val (.ref b_28), .val (.ref b36), .unset, .unset] [(.int vb)])) t → Steps p.tables e below (s₁.setTop (entryFrame m #[(.int p0), (.long q1), (.long q2)] maxLocals)) t := fun t k => pre12 t (by
    refine XS.lloadN X0.here hx rfl (hb hby at_29) rfl ?_
    show Steps p.tables e below (s₁.setTop (mkF m 30 #[.val (.int p0), .val (.long q1), .second, .val (.long q2), .second, .val (.int vb), .val (.int vh), .val (.int vm), .val (.int vr), .unset, .unset, .unset, .unset, .unset, .unset, .unset] [(.long q1), (.int vb)])) _
    refine XS.iconst X0.here hx rfl (hb hby at_30) ?_
    show Steps p.tables e below (s₁.setTop (mkF m 31 #[.val (.int p0), .val (.long q1), .second, .val (.long q2), .second, .val (.int vb), .val (.int vh), .val (.int vm), .val (.int vr), .unset, .unset, .unset, .unset, .unset, .unset, .unset] [(.int (2 : Int32)), (.long q1), (.int vb)])) _
    refine XS.lshr X0.here hx rfl (hb hby at_31) rfl ?_
    show Steps p.tables e below (s₁.setTop (mkF m 32 #[.val (.int p0), .val (.long q1), .second, .val (.long q2), .second, .val (.int vb), .val (.int vh), .val (.int vm), .val (.int vr), .unset, .unset, .unset, .unset, .unset, .unset, .unset] [(.long (q1 >>> ((2 : Int32) &&& 0x3f).toInt64)), (.int vb)])) _
    refine st13 _ ?_
    show Steps p.tables e below (T13.setTop (mkF m 35 #[.val (.int p0), .val (.long q1), .second, .val (.long q2), .second, .val (.int vb), .val (.int vh), .val (.int vm), .val (.int vr), .unset, .unset, .unset, .unset, .unset, .unset, .unset] [(.ref b_13)])) _
    refine XS.astore X13.here hx rfl (hb hby at_35) rfl rfl (l' := #[.val (.int p0), .val (.long q1), .second, .val (.long q2), .second, .val (.int vb), .val (.int vh), .val (.int vm), .val (.int vr), .val (.ref b_13), .unset, .unset, .unset, .unset, .unset, .unset]) rfl ?_
    show Steps p.tables e below (T13.setTop (mkF m 37 #[.val (.int p0), .val (.long q1), .second, .val (.long q2), .second, .val (.int vb), .val (.int vh), .val (.int vm), .val (.int vr), .val (.ref b_13), .unset, .unset, .unset, .unset, .unset, .unset] [])) _
    refine XS.iload X13.here hx rfl (hb hby at_37) rfl ?_
    show Steps p.tables e below (T13.setTop (mkF m 39 #[.val (.int p0), .val (.long q1), .second, .val (.long q2), .second, .val (.int vb), .val (.int vh), .val (.int vm), .val (.int vr), .val (.ref b_13), .unset, .unset, .unset, .unset, .unset, .unset] [(.int vh)])) _
    refine XS.lloadN X13.here hx rfl (hb hby at_39) rfl ?_
    show Steps p.tables e below (T13.setTop (mkF m 40 #[.val (.int p0), .val (.long q1), .second, .val (.long q2), .second, .val (.int vb), .val (.int vh), .val (.int vm), .val (.int vr), .val (.ref b_13), .unset, .unset, .unset, .unset, .unset, .unset] [(.long q2), (.int vh)])) _
    refine XS.iconst X13.here hx rfl (hb hby at_40) ?_
    show Steps p.tables e below (T13.setTop (mkF m 41 #[.val (.int p0), .val (.long q1), .second, .val (.long q2), .second, .val (.int vb), .val (.int vh), .val (.int vm), .val (.int vr), .val (.ref b_13), .unset, .unset, .unset, .unset, .unset, .unset] [(.int (2 : Int32)), (.long q2), (.int vh)])) _
    refine XS.lshr X13.here hx rfl (hb hby at_41) rfl ?_
    show Steps p.tables e below (T13.setTop (mkF m 42 #[.val (.int p0), .val (.long q1), .second, .val (.long q2), .second, .val (.int vb), .val (.int vh), .val (.int vm), .val (.int vr), .val (.ref b_13), .unset, .unset, .unset, .unset, .unset, .unset] [(.long (q2 >>> ((2 : Int32) &&& 0x3f).toInt64)), (.int vh)])) _
    refine st16 _ ?_
    show Steps p.tables e below (T16.setTop (mkF m 45 #[.val (.int p0), .val (.long q1), .second, .val (.long q2), .second, .val (.int vb), .val (.int vh), .val (.int vm), .val (.int vr), .val (.ref b_13), .unset, .unset, .unset, .unset, .unset, .unset] [(.ref b_16)])) _
    refine XS.astore X16.here hx rfl (hb hby at_45) rfl rfl (l' := #[.val (.int p0), .val (.long q1), .second, .val (.long q2), .second, .val (.int vb), .val (.int vh), .val (.int vm), .val (.int vr), .val (.ref b_13), .val (.ref b_16), .unset, .unset, .unset, .unset, .unset]) rfl ?_
    show Steps p.tables e below (T16.setTop (mkF m 47 #[.val (.int p0), .val (.long q1), .second, .val (.long q2), .second, .val (.int vb), .val (.int vh), .val (.int vm), .val (.int vr), .val (.ref b_13), .val (.ref b_16), .unset, .unset, .unset, .unset, .unset] [])) _
    refine XS.iload X16.here hx rfl (hb hby at_47) rfl ?_
    show Steps p.tables e below (T16.setTop (mkF m 49 #[.val (.int p0), .val (.long q1), .second, .val (.long q2), .second, .val (.int vb), .val (.int vh), .val (.int vm), .val (.int vr), .val (.ref b_13), .val (.ref b_16), .unset, .unset, .unset, .unset, .unset] [(.int vm)])) _
    refine XS.iload X16.here hx rfl (hb hby at_49) rfl ?_
    show Steps p.tables e below (T16.setTop (mkF m 51 #[.val (.int p0), .val (.long q1), .second, .val (.long q2), .second, .val (.int vb), .val (.int vh), .val (.int vm), .val (.int vr), .val (.ref b_13), .val (.ref b_16), .unset, .unset, .unset, .unset, .unset] [(.int vh), (.int vm)])) _
    refine st20 _ ?_
    show Steps p.tables e below (T20.setTop (mkF m 54 #[.val (.int p0), .val (.long q1), .second, .val (.long q2), .second, .val (.int vb), .val (.int vh), .val (.int vm), .val (.int vr), .val (.ref b_13), .val (.ref b_16), .unset, .unset, .unset, .unset, .unset] [(.int (b2_0 vm vh))])) _
    refine XS.lloadN X20.here hx rfl (hb hby at_54) rfl ?_
    show Steps p.tables e below (T20.setTop (mkF m 55 #[.val (.int p0), .val (.long q1), .second, .val (.long q2), .second, .val (.int vb), .val (.int vh), .val (.int vm), .val (.int vr), .val (.ref b_13), .val (.ref b_16), .unset, .unset, .unset, .unset, .unset] [(.long q2), (.int (b2_0 vm vh))])) _
    refine XS.iconst X20.here hx rfl (hb hby at_55) ?_
    show Steps p.tables e below (T20.setTop (mkF m 56 #[.val (.int p0), .val (.long q1), .second, .val (.long q2), .second, .val (.int vb), .val (.int vh), .val (.int vm), .val (.int vr), .val (.ref b_13), .val (.ref b_16), .unset, .unset, .unset, .unset, .unset] [(.int (2 : Int32)), (.long q2), (.int (b2_0 vm vh))])) _
    refine XS.lshr X20.here hx rfl (hb hby at_56) rfl ?_
    show Steps p.tables e below (T20.setTop (mkF m 57 #[.val (.int p0), .val (.long q1), .second, .val (.long q2), .second, .val (.int vb), .val (.int vh), .val (.int vm), .val (.int vr), .val (.ref b_13), .val (.ref b_16), .unset, .unset, .unset, .unset, .unset] [(.long (q2 >>> ((2 : Int32) &&& 0x3f).toInt64)), (.int (b2_0 vm vh))])) _
    refine st21 _ ?_
    show Steps p.tables e below (T21.setTop (mkF m 60 #[.val (.int p0), .val (.long q1), .second, .val (.long q2), .second, .val (.int vb), .val (.int vh), .val (.int vm), .val (.int vr), .val (.ref b_13), .val (.ref b_16), .unset, .unset, .unset, .unset, .unset] [(.ref b_21)])) _
    refine XS.astore X21.here hx rfl (hb hby at_60) rfl rfl (l' := #[.val (.int p0), .val (.long q1), .second, .val (.long q2), .second, .val (.int vb), .val (.int vh), .val (.int vm), .val (.int vr), .val (.ref b_13), .val (.ref b_16), .val (.ref b_21), .unset, .unset, .unset, .unset]) rfl ?_
    show Steps p.tables e below (T21.setTop (mkF m 62 #[.val (.int p0), .val (.long q1), .second, .val (.long q2), .second, .val (.int vb), .val (.int vh), .val (.int vm), .val (.int vr), .val (.ref b_13), .val (.ref b_16), .val (.ref b_21), .unset, .unset, .unset, .unset] [])) _
    refine XS.iload X21.here hx rfl (hb hby at_62) rfl ?_
    show Steps p.tables e below (T21.setTop (mkF m 64 #[.val (.int p0), .val (.long q1), .second, .val (.long q2), .second, .val (.int vb), .val (.int vh), .val (.int vm), .val (.int vr), .val (.ref b_13), .val (.ref b_16), .val (.ref b_21), .unset, .unset, .unset, .unset] [(.int vr)])) _
    refine XS.iload X21.here hx rfl (hb hby at_64) rfl ?_
    show Steps p.tables e below (T21.setTop (mkF m 66 #[.val (.int p0), .val (.long q1), .second, .val (.long q2), .second, .val (.int vb), .val (.int vh), .val (.int vm), .val (.int vr), .val (.ref b_13), .val (.ref b_16), .val (.ref b_21), .unset, .unset, .unset, .unset] [(.int vh), (.int vr)])) _
    refine st27 _ ?_
    show Steps p.tables e below (T27.setTop (mkF m 69 #[.val (.int p0), .val (.long q1), .second, .val (.long q2), .second, .val (.int vb), .val (.int vh), .val (.int vm), .val (.int vr), .val (.ref b_13), .val (.ref b_16), .val (.ref b_21), .unset, .unset, .unset, .unset] [(.int (b2_0 vr vh))])) _
    refine XS.lloadN X27.here hx rfl (hb hby at_69) rfl ?_
    show Steps p.tables e below (T27.setTop (mkF m 70 #[.val (.int p0), .val (.long q1), .second, .val (.long q2), .second, .val (.int vb), .val (.int vh), .val (.int vm), .val (.int vr), .val (.ref b_13), .val (.ref b_16), .val (.ref b_21), .unset, .unset, .unset, .unset] [(.long q2), (.int (b2_0 vr vh))])) _
    refine XS.iconst X27.here hx rfl (hb hby at_70) ?_
    show Steps p.tables e below (T27.setTop (mkF m 71 #[.val (.int p0), .val (.long q1), .second, .val (.long q2), .second, .val (.int vb), .val (.int vh), .val (.int vm), .val (.int vr), .val (.ref b_13), .val (.ref b_16), .val (.ref b_21), .unset, .unset, .unset, .unset] [(.int (2 : Int32)), (.long q2), (.int (b2_0 vr vh))])) _
    refine XS.lshr X27.here hx rfl (hb hby at_71) rfl ?_
    show Steps p.tables e below (T27.setTop (mkF m 72 #[.val (.int p0), .val (.long q1), .second, .val (.long q2), .second, .val (.int vb), .val (.int vh), .val (.int vm), .val (.int vr), .val (.ref b_13), .val (.ref b_16), .val (.ref b_21), .unset, .unset, .unset, .unset] [(.long (q2 >>> ((2 : Int32) &&& 0x3f).toInt64)), (.int (b2_0 vr vh))])) _
    refine st28 _ ?_
    show Steps p.tables e below (T28.setTop (mkF m 75 #[.val (.int p0), .val (.long q1), .second, .val (.long q2), .second, .val (.int vb), .val (.int vh), .val (.int vm), .val (.int vr), .val (.ref b_13), .val (.ref b_16), .val (.ref b_21), .unset, .unset, .unset, .unset] [(.ref b_28)])) _
    refine XS.astore X28.here hx rfl (hb hby at_75) rfl rfl (l' := #[.val (.int p0), .val (.long q1), .second, .val (.long q2), .second, .val (.int vb), .val (.int vh), .val (.int vm), .val (.int vr), .val (.ref b_13), .val (.ref b_16), .val (.ref b_21), .val (.ref b_28), .unset, .unset, .unset]) rfl ?_
    show Steps p.tables e below (T28.setTop (mkF m 77 #[.val (.int p0), .val (.long q1), .second, .val (.long q2), .second, .val (.int vb), .val (.int vh), .val (.int vm), .val (.int vr), .val (.ref b_13), .val (.ref b_16), .val (.ref b_21), .val (.ref b_28), .unset, .unset, .unset] [])) _
    refine st36 _ ?_
    show Steps p.tables e below (T36.setTop (mkF m 80 #[.val (.int p0), .val (.long q1), .second, .val (.long q2), .second, .val (.int vb), .val (.int vh), .val (.int vm), .val (.int vr), .val (.ref b_13), .val (.ref b_16), .val (.ref b_21), .val (.ref b_28), .unset, .unset, .unset] [(.ref b36)])) _
    refine XS.dup X36.here hx rfl (hb hby at_80) rfl rfl ?_
    show Steps p.tables e below (T36.setTop (mkF m 81 #[.val (.int p0), .val (.long q1), .second, .val (.long q2), .second, .val (.int vb), .val (.int vh), .val (.int vm), .val (.int vr), .val (.ref b_13), .val (.ref b_16), .val (.ref b_21), .val (.ref b_28), .unset, .unset, .unset] [(.ref b36), (.ref b36)])) _
    refine XS.aload X36.here hx rfl (hb hby at_81) rfl rfl ?_
    show Steps p.tables e below (T36.setTop (mkF m 83 #[.val (.int p0), .val (.long q1), .second, .val (.long q2), .second, .val (.int vb), .val (.int vh), .val (.int vm), .val (.int vr), .val (.ref b_13), .val (.ref b_16), .val (.ref b_21), .val (.ref b_28), .unset, .unset, .unset] [(.ref b_13), (.ref b36), (.ref b36)])) _
    refine XS.aload X36.here hx rfl (hb hby at_83) rfl rfl ?_
    show Steps p.tables e below (T36.setTop (mkF m 85 #[.val (.int p0), .val (.long q1), .second, .val (.long q2), .second, .val (.int vb), .val (.int vh), .val (.int vm), .val (.int vr), .val (.ref b_13), .val (.ref b_16), .val (.ref b_21), .val (.ref b_28), .unset, .unset, .unset] [(.ref b_16), (.ref b_13), (.ref b36), (.ref b36)])) _
    refine XS.aload X36.here hx rfl (hb hby at_85) rfl rfl ?_
    show Steps p.tables e below (T36.setTop (mkF m 87 #[.val (.int p0), .val (.long q1), .second, .val (.long q2), .second, .val (.int vb), .val (.int vh), .val (.int vm), .val (.int vr), .val (.ref b_13), .val (.ref b_16), .val (.ref b_21), .val (.ref b_28), .unset, .unset, .unset] [(.ref b_21), (.ref b_16), (.ref b_13), (.ref b36), (.ref b36)])) _
    refine XS.aload X36.here hx rfl (hb hby at_87) rfl rfl ?_
    show Steps p.tables e below (T36.setTop (mkF m 89 #[.val (.int p0), .val (.long q1), .second, .val (.long q2), .second, .val (.int vb), .val (.int vh), .val (.int vm), .val (.int vr), .val (.ref b_13), .val (.ref b_16), .val (.ref b_21), .val (.ref b_28), .unset, .unset, .unset] [(.ref b_28), (.ref b_21), (.ref b_16), (.ref b_13), (.ref b36), (.ref b36)])) _
    refine st46.trans ?_
    show Steps p.tables e below (T46.setTop (mkF m 92 #[.val (.int p0), .val (.long q1), .second, .val (.long q2), .second, .val (.int vb), .val (.int vh), .val (.int vm), .val (.int vr), .val (.ref b_13), .val (.ref b_16), .val (.ref b_21), .val (.ref b_28), .unset, .unset, .unset] [(.ref b36)])) _
    refine XS.astore X46.here hx rfl (hb hby at_92) rfl rfl (l' := #[.val (.int p0), .val (.long q1), .second, .val (.long q2), .second, .val (.int vb), .val (.int vh), .val (.int vm), .val (.int vr), .val (.ref b_13), .val (.ref b_16), .val (.ref b_21), .val (.ref b_28), .val (.ref b36), .unset, .unset]) rfl ?_
    show Steps p.tables e below (T46.setTop (mkF m 94 #[.val (.int p0), .val (.long q1), .second, .val (.long q2), .second, .val (.int vb), .val (.int vh), .val (.int vm), .val (.int vr), .val (.ref b_13), .val (.ref b_16), .val (.ref b_21), .val (.ref b_28), .val (.ref b36), .unset, .unset] [])) _
    refine XS.iload X46.here hx rfl (hb hby at_94) rfl ?_
    exact k)
  by_cases hc49 : vb = (0 : Int32)
  · have pre50 : ∀ t, Steps p.tables e below (T46.setTop (mkF m 108 #[.val (.int p0), .val (.long q1), .second, .val (.long q2), .second, .val (.int vb), .val (.int vh), .val (.int vm), .val (.int vr), .val (.ref b_13), .val (.ref b_16), .val (.ref b_21), .val (.ref b_28), .val (.ref b36), .unset, .unset] [(.int (1 : Int32)), (.int vh)])) t → Steps p.tables e below (s₁.setTop (entryFrame m #[(.int p0), (.long q1), (.long q2)] maxLocals)) t := fun t k => pre48 t (by
      refine XS.ifYes X46.here hx rfl (pc0 := 96) (pc' := 105) rfl (hb hby at_96) rfl ((if0 _ _).trans (teq hc49).1) (by decide) (by decide) ?_
      show Steps p.tables e below (T46.setTop (mkF m 105 #[.val (.int p0), .val (.long q1), .second, .val (.long q2), .second, .val (.int vb), .val (.int vh), .val (.int vm), .val (.int vr), .val (.ref b_13), .val (.ref b_16), .val (.ref b_21), .val (.ref b_28), .val (.ref b36), .unset, .unset] [])) _
      refine XS.iload X46.here hx rfl (hb hby at_105) rfl ?_
      show Steps p.tables e below (T46.setTop (mkF m 107 #[.val (.int p0), .val (.long q1), .second, .val (.long q2), .second, .val (.int vb), .val (.int vh), .val (.int vm), .val (.int vr), .val (.ref b_13), .val (.ref b_16), .val (.ref b_21), .val (.ref b_28), .val (.ref b36), .unset, .unset] [(.int vh)])) _
      refine XS.iconst X46.here hx rfl (hb hby at_107) ?_
      exact k)
    by_cases hc51 : vh = (1 : Int32)
    · have V53 : AL Z T46.heap b_13 vb f_13 := ((V38.ext E36).keep u46_0 (ninS ne37 nin0))
      have V54 : AL Z T46.heap b_16 vh f_16 := ((V40.ext E36).keep u46_0 (ninS ne39 nin0))
      obtain ⟨cq52, kq52, q52a, q52b, q52c⟩ := isOf hZ rfl u46_1
      obtain ⟨_, _, ⟨T52, L52, k52, n52⟩, -, X52, ⟨Lc52, hQ52, l52, y52, z52⟩, st52⟩ := X46.virtualBack hx (y := (⟨"com/example/honeybee/honeybee/calculus/Clause", "isUnit", "()Z"⟩ : MethodName)) (z := (⟨"com/example/honeybee/honeybee/calculus/Clause", "isUnit", "()Z"⟩ : MethodName)) hown (mvT hZ (hw _ (List.mem_of_getElem? (i := 26) rfl))) (mvT hZ (hw _ (List.mem_of_getElem? (i := 27) rfl))) (notFace_of_selects (args := #[]) (mvT hZ (hw _ (List.mem_of_getElem? (i := 29) rfl)))) (mvT hZ (hw _ (List.mem_of_getElem? (i := 29) rfl))) (mvT hZ (hw _ (List.mem_of_getElem? (i := 28) rfl))) (by decide) (backOf (W := 0) (rm5 l Z a0 hw [] b36 b_13 b_16 vb vh f_13 f_16 T46.heap n0 Z47 u46_2 u46_3 V53 V54) hZ (hw _ (List.mem_of_getElem? (i := 30) rfl)) (hw _ (List.mem_of_getElem? (i := 11) rfl)) (by decide) (by decide)) q52a q52c (g := (mkF m 122 #[.val (.int p0), .val (.long q1), .second, .val (.long q2), .second, .val (.int vb), .val (.int vh), .val (.int vm), .val (.int vr), .val (.ref b_13), .val (.ref b_16), .val (.ref b_21), .val (.ref b_28), .val (.ref b36), .val (.int (1 : Int32)), .unset] [(.ref b36)])) rfl (by rw [hml]; rfl) (Steps.refl _) (argsL := []) (rest := []) (lenOf pd_3 rfl) rfl (by show 2 * 0 + _ ≤ _; exact Nat.le_of_eq rfl) (hb hby at_122) (fun _ _ => ⟨rfl, rfl, (by decide : 5 + 0 ≤ _), (by decide : 17 + 0 ≤ _)⟩)
      dsimp only [Pt.U, Pt.locs, Pt.cells, Pt.slots] at X52 l52 y52 z52 st52 hQ52
      subst l52 y52 z52
      obtain ⟨rfl, Nq52, u52_0⟩ := hQ52
      have N52 := Fr.app N46 Nq52
      obtain ⟨cq55, kq55, q55a, q55b, q55c⟩ := isOf hZ u52_0 u46_1
      obtain ⟨_, _, ⟨T55, L55, k55, n55⟩, -, X55, ⟨Lc55, hQ55, l55, y55, z55⟩, st55⟩ := X52.virtualBack hx (y := (⟨"com/example/honeybee/honeybee/calculus/Clause", "isEmpty", "()Z"⟩ : MethodName)) (z := (⟨"com/example/honeybee/honeybee/calculus/Clause", "isEmpty", "()Z"⟩ : MethodName)) hown (mvT hZ (hw _ (List.mem_of_getElem? (i := 31) rfl))) (mvT hZ (hw _ (List.mem_of_getElem? (i := 32) rfl))) (notFace_of_selects (args := #[]) (mvT hZ (hw _ (List.mem_of_getElem? (i := 34) rfl)))) (mvT hZ (hw _ (List.mem_of_getElem? (i := 34) rfl))) (mvT hZ (hw _ (List.mem_of_getElem? (i := 33) rfl))) (by decide) (backOf (W := 0) (rm6 l Z a0 hw [] b36 b_13 b_16 vb vh f_13 f_16 T46.heap n0 Z47 u46_2 u46_3 V53 V54) hZ (hw _ (List.mem_of_getElem? (i := 35) rfl)) (hw _ (List.mem_of_getElem? (i := 11) rfl)) (by decide) (by decide)) q55a q55c (g := (mkF m 134 #[.val (.int p0), .val (.long q1), .second, .val (.long q2), .second, .val (.int vb), .val (.int vh), .val (.int vm), .val (.int vr), .val (.ref b_13), .val (.ref b_16), .val (.ref b_21), .val (.ref b_28), .val (.ref b36), .val (.int (1 : Int32)), .val (.int (own_unit vb vh))] [(.ref b36)])) rfl (by rw [hml]; rfl) (Steps.refl _) (argsL := []) (rest := []) (lenOf pd_3 rfl) rfl (by show 2 * 0 + _ ≤ _; exact Nat.le_of_eq rfl) (hb hby at_134) (fun _ _ => ⟨rfl, u52_0, (by decide : 5 + 0 ≤ _), (by decide : 17 + 0 ≤ _)⟩)
      dsimp only [Pt.U, Pt.locs, Pt.cells, Pt.slots] at X55 l55 y55 z55 st55 hQ55
      subst l55 y55 z55
      obtain ⟨rfl, Nq55, u55_0⟩ := hQ55
      have N55 := Fr.app N52 Nq55
      obtain ⟨fs, hr, hrun, hended, hW, hsame⟩ := X55.leave (v := some (.int (1 : Int32))) (fun h => by rw [Bd.returns] at h; cases h)
      refine ⟨_, _, pre50 _ ?_, hrun, hended, _, _, rfl, ?_, ⟨_, rfl⟩, hW, hsame.mono (by decide) (by decide)⟩
      · refine XS.icmpNo X46.here hx rfl (hb hby at_108) rfl (teq hc51).2 ?_
        show Steps p.tables e below (T46.setTop (mkF m 111 #[.val (.int p0), .val (.long q1), .second, .val (.long q2), .second, .val (.int vb), .val (.int vh), .val (.int vm), .val (.int vr), .val (.ref b_13), .val (.ref b_16), .val (.ref b_21), .val (.ref b_28), .val (.ref b36), .unset, .unset] [])) _
        refine XS.iconst X46.here hx rfl (hb hby at_111) ?_
        show Steps p.tables e below (T46.setTop (mkF m 112 #[.val (.int p0), .val (.long q1), .second, .val (.long q2), .second, .val (.int vb), .val (.int vh), .val (.int vm), .val (.int vr), .val (.ref b_13), .val (.ref b_16), .val (.ref b_21), .val (.ref b_28), .val (.ref b36), .unset, .unset] [(.int (1 : Int32))])) _
        refine XS.istore X46.here hx rfl (hb hby at_112) rfl (l' := #[.val (.int p0), .val (.long q1), .second, .val (.long q2), .second, .val (.int vb), .val (.int vh), .val (.int vm), .val (.int vr), .val (.ref b_13), .val (.ref b_16), .val (.ref b_21), .val (.ref b_28), .val (.ref b36), .val (.int (1 : Int32)), .unset]) rfl ?_
        show Steps p.tables e below (T46.setTop (mkF m 114 #[.val (.int p0), .val (.long q1), .second, .val (.long q2), .second, .val (.int vb), .val (.int vh), .val (.int vm), .val (.int vr), .val (.ref b_13), .val (.ref b_16), .val (.ref b_21), .val (.ref b_28), .val (.ref b36), .val (.int (1 : Int32)), .unset] [])) _
        refine XS.goto X46.here hx rfl (pc0 := 114) (pc' := 120) rfl (hb hby at_114) (by decide) (by decide) ?_
        show Steps p.tables e below (T46.setTop (mkF m 120 #[.val (.int p0), .val (.long q1), .second, .val (.long q2), .second, .val (.int vb), .val (.int vh), .val (.int vm), .val (.int vr), .val (.ref b_13), .val (.ref b_16), .val (.ref b_21), .val (.ref b_28), .val (.ref b36), .val (.int (1 : Int32)), .unset] [])) _
        refine XS.aload X46.here hx rfl (hb hby at_120) rfl rfl ?_
        show Steps p.tables e below (T46.setTop (mkF m 122 #[.val (.int p0), .val (.long q1), .second, .val (.long q2), .second, .val (.int vb), .val (.int vh), .val (.int vm), .val (.int vr), .val (.ref b_13), .val (.ref b_16), .val (.ref b_21), .val (.ref b_28), .val (.ref b36), .val (.int (1 : Int32)), .unset] [(.ref b36)])) _
        refine st52.trans ?_
        show Steps p.tables e below (T52.setTop (mkF m 125 #[.val (.int p0), .val (.long q1), .second, .val (.long q2), .second, .val (.int vb), .val (.int vh), .val (.int vm), .val (.int vr), .val (.ref b_13), .val (.ref b_16), .val (.ref b_21), .val (.ref b_28), .val (.ref b36), .val (.int (1 : Int32)), .unset] [(.int (own_unit vb vh))])) _
        refine XS.istore X52.here hx rfl (hb hby at_125) rfl (l' := #[.val (.int p0), .val (.long q1), .second, .val (.long q2), .second, .val (.int vb), .val (.int vh), .val (.int vm), .val (.int vr), .val (.ref b_13), .val (.ref b_16), .val (.ref b_21), .val (.ref b_28), .val (.ref b36), .val (.int (1 : Int32)), .val (.int (own_unit vb vh))]) rfl ?_
        show Steps p.tables e below (T52.setTop (mkF m 127 #[.val (.int p0), .val (.long q1), .second, .val (.long q2), .second, .val (.int vb), .val (.int vh), .val (.int vm), .val (.int vr), .val (.ref b_13), .val (.ref b_16), .val (.ref b_21), .val (.ref b_28), .val (.ref b36), .val (.int (1 : Int32)), .val (.int (own_unit vb vh))] [])) _
        refine XS.iload X52.here hx rfl (hb hby at_127) rfl ?_
        show Steps p.tables e below (T52.setTop (mkF m 129 #[.val (.int p0), .val (.long q1), .second, .val (.long q2), .second, .val (.int vb), .val (.int vh), .val (.int vm), .val (.int vr), .val (.ref b_13), .val (.ref b_16), .val (.ref b_21), .val (.ref b_28), .val (.ref b36), .val (.int (1 : Int32)), .val (.int (own_unit vb vh))] [(.int (own_unit vb vh))])) _
        refine XS.ifNo X52.here hx rfl (hb hby at_129) rfl ((if0 _ _).trans (feq (by rw [own_unit, if_pos hc49, if_pos hc51]; decide)).1) ?_
        show Steps p.tables e below (T52.setTop (mkF m 132 #[.val (.int p0), .val (.long q1), .second, .val (.long q2), .second, .val (.int vb), .val (.int vh), .val (.int vm), .val (.int vr), .val (.ref b_13), .val (.ref b_16), .val (.ref b_21), .val (.ref b_28), .val (.ref b36), .val (.int (1 : Int32)), .val (.int (own_unit vb vh))] [])) _
        refine XS.aload X52.here hx rfl (hb hby at_132) rfl rfl ?_
        show Steps p.tables e below (T52.setTop (mkF m 134 #[.val (.int p0), .val (.long q1), .second, .val (.long q2), .second, .val (.int vb), .val (.int vh), .val (.int vm), .val (.int vr), .val (.ref b_13), .val (.ref b_16), .val (.ref b_21), .val (.ref b_28), .val (.ref b36), .val (.int (1 : Int32)), .val (.int (own_unit vb vh))] [(.ref b36)])) _
        refine st55.trans ?_
        show Steps p.tables e below (T55.setTop (mkF m 137 #[.val (.int p0), .val (.long q1), .second, .val (.long q2), .second, .val (.int vb), .val (.int vh), .val (.int vm), .val (.int vr), .val (.ref b_13), .val (.ref b_16), .val (.ref b_21), .val (.ref b_28), .val (.ref b36), .val (.int (1 : Int32)), .val (.int (own_unit vb vh))] [(.int (own_empty vb vh))])) _
        refine XS.ifYes X55.here hx rfl (pc0 := 137) (pc' := 142) rfl (hb hby at_137) rfl ((if0 _ _).trans (teq (by rw [own_empty, if_pos hc49, if_neg (by rw [hc51]; decide)])).1) (by decide) (by decide) ?_
        show Steps p.tables e below (T55.setTop (mkF m 142 #[.val (.int p0), .val (.long q1), .second, .val (.long q2), .second, .val (.int vb), .val (.int vh), .val (.int vm), .val (.int vr), .val (.ref b_13), .val (.ref b_16), .val (.ref b_21), .val (.ref b_28), .val (.ref b36), .val (.int (1 : Int32)), .val (.int (own_unit vb vh))] [])) _
        refine XS.iload X55.here hx rfl (hb hby at_142) rfl ?_
        show Steps p.tables e below (T55.setTop (mkF m 144 #[.val (.int p0), .val (.long q1), .second, .val (.long q2), .second, .val (.int vb), .val (.int vh), .val (.int vm), .val (.int vr), .val (.ref b_13), .val (.ref b_16), .val (.ref b_21), .val (.ref b_28), .val (.ref b36), .val (.int (1 : Int32)), .val (.int (own_unit vb vh))] [(.int (own_unit vb vh))])) _
        refine XS.iload X55.here hx rfl (hb hby at_144) rfl ?_
        show Steps p.tables e below (T55.setTop (mkF m 146 #[.val (.int p0), .val (.long q1), .second, .val (.long q2), .second, .val (.int vb), .val (.int vh), .val (.int vm), .val (.int vr), .val (.ref b_13), .val (.ref b_16), .val (.ref b_21), .val (.ref b_28), .val (.ref b36), .val (.int (1 : Int32)), .val (.int (own_unit vb vh))] [(.int (1 : Int32)), (.int (own_unit vb vh))])) _
        refine XS.icmpNo X55.here hx rfl (hb hby at_146) rfl (teq (by rw [own_unit, if_pos hc49, if_pos hc51])).2 ?_
        show Steps p.tables e below (T55.setTop (mkF m 149 #[.val (.int p0), .val (.long q1), .second, .val (.long q2), .second, .val (.int vb), .val (.int vh), .val (.int vm), .val (.int vr), .val (.ref b_13), .val (.ref b_16), .val (.ref b_21), .val (.ref b_28), .val (.ref b36), .val (.int (1 : Int32)), .val (.int (own_unit vb vh))] [])) _
        refine XS.iconst X55.here hx rfl (hb hby at_149) ?_
        show Steps p.tables e below (T55.setTop (mkF m 150 #[.val (.int p0), .val (.long q1), .second, .val (.long q2), .second, .val (.int vb), .val (.int vh), .val (.int vm), .val (.int vr), .val (.ref b_13), .val (.ref b_16), .val (.ref b_21), .val (.ref b_28), .val (.ref b36), .val (.int (1 : Int32)), .val (.int (own_unit vb vh))] [(.int (1 : Int32))])) _
        refine XS.goto X55.here hx rfl (pc0 := 150) (pc' := 154) rfl (hb hby at_150) (by decide) (by decide) ?_
        show Steps p.tables e below (T55.setTop (mkF m 154 #[.val (.int p0), .val (.long q1), .second, .val (.long q2), .second, .val (.int vb), .val (.int vh), .val (.int vm), .val (.int vr), .val (.ref b_13), .val (.ref b_16), .val (.ref b_21), .val (.ref b_28), .val (.ref b36), .val (.int (1 : Int32)), .val (.int (own_unit vb vh))] [(.int (1 : Int32))])) _
        exact retN X55 hx (t := .boolean) Bd.returns (by simp) (hb hby at_154) hr
      · show Q0 Z p0 q1 q2 h0 n0 _ T55.heap _
        rw [u55_0]
        exact ⟨rfl, N55⟩
    · have V57 : AL Z T46.heap b_13 vb f_13 := ((V38.ext E36).keep u46_0 (ninS ne37 nin0))
      have V58 : AL Z T46.heap b_16 vh f_16 := ((V40.ext E36).keep u46_0 (ninS ne39 nin0))
      obtain ⟨cq56, kq56, q56a, q56b, q56c⟩ := isOf hZ rfl u46_1
      obtain ⟨_, _, ⟨T56, L56, k56, n56⟩, -, X56, ⟨Lc56, hQ56, l56, y56, z56⟩, st56⟩ := X46.virtualBack hx (y := (⟨"com/example/honeybee/honeybee/calculus/Clause", "isUnit", "()Z"⟩ : MethodName)) (z := (⟨"com/example/honeybee/honeybee/calculus/Clause", "isUnit", "()Z"⟩ : MethodName)) hown (mvT hZ (hw _ (List.mem_of_getElem? (i := 26) rfl))) (mvT hZ (hw _ (List.mem_of_getElem? (i := 27) rfl))) (notFace_of_selects (args := #[]) (mvT hZ (hw _ (List.mem_of_getElem? (i := 29) rfl)))) (mvT hZ (hw _ (List.mem_of_getElem? (i := 29) rfl))) (mvT hZ (hw _ (List.mem_of_getElem? (i := 28) rfl))) (by decide) (backOf (W := 0) (rm5 l Z a0 hw [] b36 b_13 b_16 vb vh f_13 f_16 T46.heap n0 Z47 u46_2 u46_3 V57 V58) hZ (hw _ (List.mem_of_getElem? (i := 30) rfl)) (hw _ (List.mem_of_getElem? (i := 11) rfl)) (by decide) (by decide)) q56a q56c (g := (mkF m 122 #[.val (.int p0), .val (.long q1), .second, .val (.long q2), .second, .val (.int vb), .val (.int vh), .val (.int vm), .val (.int vr), .val (.ref b_13), .val (.ref b_16), .val (.ref b_21), .val (.ref b_28), .val (.ref b36), .val (.int (0 : Int32)), .unset] [(.ref b36)])) rfl (by rw [hml]; rfl) (Steps.refl _) (argsL := []) (rest := []) (lenOf pd_3 rfl) rfl (by show 2 * 0 + _ ≤ _; exact Nat.le_of_eq rfl) (hb hby at_122) (fun _ _ => ⟨rfl, rfl, (by decide : 5 + 0 ≤ _), (by decide : 17 + 0 ≤ _)⟩)
      dsimp only [Pt.U, Pt.locs, Pt.cells, Pt.slots] at X56 l56 y56 z56 st56 hQ56
      subst l56 y56 z56
      obtain ⟨rfl, Nq56, u56_0⟩ := hQ56
      have N56 := Fr.app N46 Nq56
      obtain ⟨fs, hr, hrun, hended, hW, hsame⟩ := X56.leave (v := some (.int (1 : Int32))) (fun h => by rw [Bd.returns] at h; cases h)
      refine ⟨_, _, pre50 _ ?_, hrun, hended, _, _, rfl, ?_, ⟨_, rfl⟩, hW, hsame.mono (by decide) (by decide)⟩
      · refine XS.icmpYes X46.here hx rfl (pc0 := 108) (pc' := 117) rfl (hb hby at_108) rfl (feq hc51).2 (by decide) (by decide) ?_
        show Steps p.tables e below (T46.setTop (mkF m 117 #[.val (.int p0), .val (.long q1), .second, .val (.long q2), .second, .val (.int vb), .val (.int vh), .val (.int vm), .val (.int vr), .val (.ref b_13), .val (.ref b_16), .val (.ref b_21), .val (.ref b_28), .val (.ref b36), .unset, .unset] [])) _
        refine XS.iconst X46.here hx rfl (hb hby at_117) ?_
        show Steps p.tables e below (T46.setTop (mkF m 118 #[.val (.int p0), .val (.long q1), .second, .val (.long q2), .second, .val (.int vb), .val (.int vh), .val (.int vm), .val (.int vr), .val (.ref b_13), .val (.ref b_16), .val (.ref b_21), .val (.ref b_28), .val (.ref b36), .unset, .unset] [(.int (0 : Int32))])) _
        refine XS.istore X46.here hx rfl (hb hby at_118) rfl (l' := #[.val (.int p0), .val (.long q1), .second, .val (.long q2), .second, .val (.int vb), .val (.int vh), .val (.int vm), .val (.int vr), .val (.ref b_13), .val (.ref b_16), .val (.ref b_21), .val (.ref b_28), .val (.ref b36), .val (.int (0 : Int32)), .unset]) rfl ?_
        show Steps p.tables e below (T46.setTop (mkF m 120 #[.val (.int p0), .val (.long q1), .second, .val (.long q2), .second, .val (.int vb), .val (.int vh), .val (.int vm), .val (.int vr), .val (.ref b_13), .val (.ref b_16), .val (.ref b_21), .val (.ref b_28), .val (.ref b36), .val (.int (0 : Int32)), .unset] [])) _
        refine XS.aload X46.here hx rfl (hb hby at_120) rfl rfl ?_
        show Steps p.tables e below (T46.setTop (mkF m 122 #[.val (.int p0), .val (.long q1), .second, .val (.long q2), .second, .val (.int vb), .val (.int vh), .val (.int vm), .val (.int vr), .val (.ref b_13), .val (.ref b_16), .val (.ref b_21), .val (.ref b_28), .val (.ref b36), .val (.int (0 : Int32)), .unset] [(.ref b36)])) _
        refine st56.trans ?_
        show Steps p.tables e below (T56.setTop (mkF m 125 #[.val (.int p0), .val (.long q1), .second, .val (.long q2), .second, .val (.int vb), .val (.int vh), .val (.int vm), .val (.int vr), .val (.ref b_13), .val (.ref b_16), .val (.ref b_21), .val (.ref b_28), .val (.ref b36), .val (.int (0 : Int32)), .unset] [(.int (own_unit vb vh))])) _
        refine XS.istore X56.here hx rfl (hb hby at_125) rfl (l' := #[.val (.int p0), .val (.long q1), .second, .val (.long q2), .second, .val (.int vb), .val (.int vh), .val (.int vm), .val (.int vr), .val (.ref b_13), .val (.ref b_16), .val (.ref b_21), .val (.ref b_28), .val (.ref b36), .val (.int (0 : Int32)), .val (.int (own_unit vb vh))]) rfl ?_
        show Steps p.tables e below (T56.setTop (mkF m 127 #[.val (.int p0), .val (.long q1), .second, .val (.long q2), .second, .val (.int vb), .val (.int vh), .val (.int vm), .val (.int vr), .val (.ref b_13), .val (.ref b_16), .val (.ref b_21), .val (.ref b_28), .val (.ref b36), .val (.int (0 : Int32)), .val (.int (own_unit vb vh))] [])) _
        refine XS.iload X56.here hx rfl (hb hby at_127) rfl ?_
        show Steps p.tables e below (T56.setTop (mkF m 129 #[.val (.int p0), .val (.long q1), .second, .val (.long q2), .second, .val (.int vb), .val (.int vh), .val (.int vm), .val (.int vr), .val (.ref b_13), .val (.ref b_16), .val (.ref b_21), .val (.ref b_28), .val (.ref b36), .val (.int (0 : Int32)), .val (.int (own_unit vb vh))] [(.int (own_unit vb vh))])) _
        refine XS.ifYes X56.here hx rfl (pc0 := 129) (pc' := 142) rfl (hb hby at_129) rfl ((if0 _ _).trans (teq (by rw [own_unit, if_pos hc49, if_neg hc51])).1) (by decide) (by decide) ?_
        show Steps p.tables e below (T56.setTop (mkF m 142 #[.val (.int p0), .val (.long q1), .second, .val (.long q2), .second, .val (.int vb), .val (.int vh), .val (.int vm), .val (.int vr), .val (.ref b_13), .val (.ref b_16), .val (.ref b_21), .val (.ref b_28), .val (.ref b36), .val (.int (0 : Int32)), .val (.int (own_unit vb vh))] [])) _
        refine XS.iload X56.here hx rfl (hb hby at_142) rfl ?_
        show Steps p.tables e below (T56.setTop (mkF m 144 #[.val (.int p0), .val (.long q1), .second, .val (.long q2), .second, .val (.int vb), .val (.int vh), .val (.int vm), .val (.int vr), .val (.ref b_13), .val (.ref b_16), .val (.ref b_21), .val (.ref b_28), .val (.ref b36), .val (.int (0 : Int32)), .val (.int (own_unit vb vh))] [(.int (own_unit vb vh))])) _
        refine XS.iload X56.here hx rfl (hb hby at_144) rfl ?_
        show Steps p.tables e below (T56.setTop (mkF m 146 #[.val (.int p0), .val (.long q1), .second, .val (.long q2), .second, .val (.int vb), .val (.int vh), .val (.int vm), .val (.int vr), .val (.ref b_13), .val (.ref b_16), .val (.ref b_21), .val (.ref b_28), .val (.ref b36), .val (.int (0 : Int32)), .val (.int (own_unit vb vh))] [(.int (0 : Int32)), (.int (own_unit vb vh))])) _
        refine XS.icmpNo X56.here hx rfl (hb hby at_146) rfl (teq (by rw [own_unit, if_pos hc49, if_neg hc51])).2 ?_
        show Steps p.tables e below (T56.setTop (mkF m 149 #[.val (.int p0), .val (.long q1), .second, .val (.long q2), .second, .val (.int vb), .val (.int vh), .val (.int vm), .val (.int vr), .val (.ref b_13), .val (.ref b_16), .val (.ref b_21), .val (.ref b_28), .val (.ref b36), .val (.int (0 : Int32)), .val (.int (own_unit vb vh))] [])) _
        refine XS.iconst X56.here hx rfl (hb hby at_149) ?_
        show Steps p.tables e below (T56.setTop (mkF m 150 #[.val (.int p0), .val (.long q1), .second, .val (.long q2), .second, .val (.int vb), .val (.int vh), .val (.int vm), .val (.int vr), .val (.ref b_13), .val (.ref b_16), .val (.ref b_21), .val (.ref b_28), .val (.ref b36), .val (.int (0 : Int32)), .val (.int (own_unit vb vh))] [(.int (1 : Int32))])) _
        refine XS.goto X56.here hx rfl (pc0 := 150) (pc' := 154) rfl (hb hby at_150) (by decide) (by decide) ?_
        show Steps p.tables e below (T56.setTop (mkF m 154 #[.val (.int p0), .val (.long q1), .second, .val (.long q2), .second, .val (.int vb), .val (.int vh), .val (.int vm), .val (.int vr), .val (.ref b_13), .val (.ref b_16), .val (.ref b_21), .val (.ref b_28), .val (.ref b36), .val (.int (0 : Int32)), .val (.int (own_unit vb vh))] [(.int (1 : Int32))])) _
        exact retN X56 hx (t := .boolean) Bd.returns (by simp) (hb hby at_154) hr
      · show Q0 Z p0 q1 q2 h0 n0 _ T56.heap _
        rw [u56_0]
        exact ⟨rfl, N56⟩
  · have V60 : AL Z T46.heap b_13 vb f_13 := ((V38.ext E36).keep u46_0 (ninS ne37 nin0))
    have V61 : AL Z T46.heap b_16 vh f_16 := ((V40.ext E36).keep u46_0 (ninS ne39 nin0))
    obtain ⟨cq59, kq59, q59a, q59b, q59c⟩ := isOf hZ rfl u46_1
    obtain ⟨_, _, ⟨T59, L59, k59, n59⟩, -, X59, ⟨Lc59, hQ59, l59, y59, z59⟩, st59⟩ := X46.virtualBack hx (y := (⟨"com/example/honeybee/honeybee/calculus/Clause", "isUnit", "()Z"⟩ : MethodName)) (z := (⟨"com/example/honeybee/honeybee/calculus/Clause", "isUnit", "()Z"⟩ : MethodName)) hown (mvT hZ (hw _ (List.mem_of_getElem? (i := 26) rfl))) (mvT hZ (hw _ (List.mem_of_getElem? (i := 27) rfl))) (notFace_of_selects (args := #[]) (mvT hZ (hw _ (List.mem_of_getElem? (i := 29) rfl)))) (mvT hZ (hw _ (List.mem_of_getElem? (i := 29) rfl))) (mvT hZ (hw _ (List.mem_of_getElem? (i := 28) rfl))) (by decide) (backOf (W := 0) (rm5 l Z a0 hw [] b36 b_13 b_16 vb vh f_13 f_16 T46.heap n0 Z47 u46_2 u46_3 V60 V61) hZ (hw _ (List.mem_of_getElem? (i := 30) rfl)) (hw _ (List.mem_of_getElem? (i := 11) rfl)) (by decide) (by decide)) q59a q59c (g := (mkF m 122 #[.val (.int p0), .val (.long q1), .second, .val (.long q2), .second, .val (.int vb), .val (.int vh), .val (.int vm), .val (.int vr), .val (.ref b_13), .val (.ref b_16), .val (.ref b_21), .val (.ref b_28), .val (.ref b36), .val (.int (0 : Int32)), .unset] [(.ref b36)])) rfl (by rw [hml]; rfl) (Steps.refl _) (argsL := []) (rest := []) (lenOf pd_3 rfl) rfl (by show 2 * 0 + _ ≤ _; exact Nat.le_of_eq rfl) (hb hby at_122) (fun _ _ => ⟨rfl, rfl, (by decide : 5 + 0 ≤ _), (by decide : 17 + 0 ≤ _)⟩)
    dsimp only [Pt.U, Pt.locs, Pt.cells, Pt.slots] at X59 l59 y59 z59 st59 hQ59
    subst l59 y59 z59
    obtain ⟨rfl, Nq59, u59_0⟩ := hQ59
    have N59 := Fr.app N46 Nq59
    obtain ⟨fs, hr, hrun, hended, hW, hsame⟩ := X59.leave (v := some (.int (1 : Int32))) (fun h => by rw [Bd.returns] at h; cases h)
    refine ⟨_, _, pre48 _ ?_, hrun, hended, _, _, rfl, ?_, ⟨_, rfl⟩, hW, hsame.mono (by decide) (by decide)⟩
    · refine XS.ifNo X46.here hx rfl (hb hby at_96) rfl ((if0 _ _).trans (feq hc49).1) ?_
      show Steps p.tables e below (T46.setTop (mkF m 99 #[.val (.int p0), .val (.long q1), .second, .val (.long q2), .second, .val (.int vb), .val (.int vh), .val (.int vm), .val (.int vr), .val (.ref b_13), .val (.ref b_16), .val (.ref b_21), .val (.ref b_28), .val (.ref b36), .unset, .unset] [])) _
      refine XS.iconst X46.here hx rfl (hb hby at_99) ?_
      show Steps p.tables e below (T46.setTop (mkF m 100 #[.val (.int p0), .val (.long q1), .second, .val (.long q2), .second, .val (.int vb), .val (.int vh), .val (.int vm), .val (.int vr), .val (.ref b_13), .val (.ref b_16), .val (.ref b_21), .val (.ref b_28), .val (.ref b36), .unset, .unset] [(.int (0 : Int32))])) _
      refine XS.istore X46.here hx rfl (hb hby at_100) rfl (l' := #[.val (.int p0), .val (.long q1), .second, .val (.long q2), .second, .val (.int vb), .val (.int vh), .val (.int vm), .val (.int vr), .val (.ref b_13), .val (.ref b_16), .val (.ref b_21), .val (.ref b_28), .val (.ref b36), .val (.int (0 : Int32)), .unset]) rfl ?_
      show Steps p.tables e below (T46.setTop (mkF m 102 #[.val (.int p0), .val (.long q1), .second, .val (.long q2), .second, .val (.int vb), .val (.int vh), .val (.int vm), .val (.int vr), .val (.ref b_13), .val (.ref b_16), .val (.ref b_21), .val (.ref b_28), .val (.ref b36), .val (.int (0 : Int32)), .unset] [])) _
      refine XS.goto X46.here hx rfl (pc0 := 102) (pc' := 120) rfl (hb hby at_102) (by decide) (by decide) ?_
      show Steps p.tables e below (T46.setTop (mkF m 120 #[.val (.int p0), .val (.long q1), .second, .val (.long q2), .second, .val (.int vb), .val (.int vh), .val (.int vm), .val (.int vr), .val (.ref b_13), .val (.ref b_16), .val (.ref b_21), .val (.ref b_28), .val (.ref b36), .val (.int (0 : Int32)), .unset] [])) _
      refine XS.aload X46.here hx rfl (hb hby at_120) rfl rfl ?_
      show Steps p.tables e below (T46.setTop (mkF m 122 #[.val (.int p0), .val (.long q1), .second, .val (.long q2), .second, .val (.int vb), .val (.int vh), .val (.int vm), .val (.int vr), .val (.ref b_13), .val (.ref b_16), .val (.ref b_21), .val (.ref b_28), .val (.ref b36), .val (.int (0 : Int32)), .unset] [(.ref b36)])) _
      refine st59.trans ?_
      show Steps p.tables e below (T59.setTop (mkF m 125 #[.val (.int p0), .val (.long q1), .second, .val (.long q2), .second, .val (.int vb), .val (.int vh), .val (.int vm), .val (.int vr), .val (.ref b_13), .val (.ref b_16), .val (.ref b_21), .val (.ref b_28), .val (.ref b36), .val (.int (0 : Int32)), .unset] [(.int (own_unit vb vh))])) _
      refine XS.istore X59.here hx rfl (hb hby at_125) rfl (l' := #[.val (.int p0), .val (.long q1), .second, .val (.long q2), .second, .val (.int vb), .val (.int vh), .val (.int vm), .val (.int vr), .val (.ref b_13), .val (.ref b_16), .val (.ref b_21), .val (.ref b_28), .val (.ref b36), .val (.int (0 : Int32)), .val (.int (own_unit vb vh))]) rfl ?_
      show Steps p.tables e below (T59.setTop (mkF m 127 #[.val (.int p0), .val (.long q1), .second, .val (.long q2), .second, .val (.int vb), .val (.int vh), .val (.int vm), .val (.int vr), .val (.ref b_13), .val (.ref b_16), .val (.ref b_21), .val (.ref b_28), .val (.ref b36), .val (.int (0 : Int32)), .val (.int (own_unit vb vh))] [])) _
      refine XS.iload X59.here hx rfl (hb hby at_127) rfl ?_
      show Steps p.tables e below (T59.setTop (mkF m 129 #[.val (.int p0), .val (.long q1), .second, .val (.long q2), .second, .val (.int vb), .val (.int vh), .val (.int vm), .val (.int vr), .val (.ref b_13), .val (.ref b_16), .val (.ref b_21), .val (.ref b_28), .val (.ref b36), .val (.int (0 : Int32)), .val (.int (own_unit vb vh))] [(.int (own_unit vb vh))])) _
      refine XS.ifYes X59.here hx rfl (pc0 := 129) (pc' := 142) rfl (hb hby at_129) rfl ((if0 _ _).trans (teq (by rw [own_unit, if_neg hc49])).1) (by decide) (by decide) ?_
      show Steps p.tables e below (T59.setTop (mkF m 142 #[.val (.int p0), .val (.long q1), .second, .val (.long q2), .second, .val (.int vb), .val (.int vh), .val (.int vm), .val (.int vr), .val (.ref b_13), .val (.ref b_16), .val (.ref b_21), .val (.ref b_28), .val (.ref b36), .val (.int (0 : Int32)), .val (.int (own_unit vb vh))] [])) _
      refine XS.iload X59.here hx rfl (hb hby at_142) rfl ?_
      show Steps p.tables e below (T59.setTop (mkF m 144 #[.val (.int p0), .val (.long q1), .second, .val (.long q2), .second, .val (.int vb), .val (.int vh), .val (.int vm), .val (.int vr), .val (.ref b_13), .val (.ref b_16), .val (.ref b_21), .val (.ref b_28), .val (.ref b36), .val (.int (0 : Int32)), .val (.int (own_unit vb vh))] [(.int (own_unit vb vh))])) _
      refine XS.iload X59.here hx rfl (hb hby at_144) rfl ?_
      show Steps p.tables e below (T59.setTop (mkF m 146 #[.val (.int p0), .val (.long q1), .second, .val (.long q2), .second, .val (.int vb), .val (.int vh), .val (.int vm), .val (.int vr), .val (.ref b_13), .val (.ref b_16), .val (.ref b_21), .val (.ref b_28), .val (.ref b36), .val (.int (0 : Int32)), .val (.int (own_unit vb vh))] [(.int (0 : Int32)), (.int (own_unit vb vh))])) _
      refine XS.icmpNo X59.here hx rfl (hb hby at_146) rfl (teq (by rw [own_unit, if_neg hc49])).2 ?_
      show Steps p.tables e below (T59.setTop (mkF m 149 #[.val (.int p0), .val (.long q1), .second, .val (.long q2), .second, .val (.int vb), .val (.int vh), .val (.int vm), .val (.int vr), .val (.ref b_13), .val (.ref b_16), .val (.ref b_21), .val (.ref b_28), .val (.ref b36), .val (.int (0 : Int32)), .val (.int (own_unit vb vh))] [])) _
      refine XS.iconst X59.here hx rfl (hb hby at_149) ?_
      show Steps p.tables e below (T59.setTop (mkF m 150 #[.val (.int p0), .val (.long q1), .second, .val (.long q2), .second, .val (.int vb), .val (.int vh), .val (.int vm), .val (.int vr), .val (.ref b_13), .val (.ref b_16), .val (.ref b_21), .val (.ref b_28), .val (.ref b36), .val (.int (0 : Int32)), .val (.int (own_unit vb vh))] [(.int (1 : Int32))])) _
      refine XS.goto X59.here hx rfl (pc0 := 150) (pc' := 154) rfl (hb hby at_150) (by decide) (by decide) ?_
      show Steps p.tables e below (T59.setTop (mkF m 154 #[.val (.int p0), .val (.long q1), .second, .val (.long q2), .second, .val (.int vb), .val (.int vh), .val (.int vm), .val (.int vr), .val (.ref b_13), .val (.ref b_16), .val (.ref b_21), .val (.ref b_28), .val (.ref b36), .val (.int (0 : Int32)), .val (.int (own_unit vb vh))] [(.int (1 : Int32))])) _
      exact retN X59 hx (t := .boolean) Bd.returns (by simp) (hb hby at_154) hr
    · show Q0 Z p0 q1 q2 h0 n0 _ T59.heap _
      rw [u59_0]
      exact ⟨rfl, N59⟩
set_option maxRecDepth 65536 in
set_option maxHeartbeats 40000000 in
theorem comes_1 {Post : Tables → Env → Array Value → State → Outcome → State → Prop} (hpost : ∀ tb e args s v u, (limb_1_1.after args s (.returned v) u = true ∧ limb_1_2.after args s (.returned v) u = true ∧ True) → FrameEnd s (.returned v) u (Jvm.fieldLocs frame_1_writes args s ++ Jvm.arrayLocs frame_1_arrays args s ++ Jvm.staticLocs frame_1_statics s) 24 128 → Post tb e args s (.returned v) u) :
    ArmFor flags0 classFile x code maxLocals ret World_1 tables_1 room_1 Calls_1 rest_1 Pre_1 Post := by
  intro l hfl _ _ p e ha hc hk s m args below hf hA hF happ hP
  obtain ⟨hcalls, hrest, hpre⟩ := hP
  obtain ⟨-, -, -, hnamed, -, -, -, hat⟩ := (Spec.applies_iff hf).mp happ
  obtain ⟨hg, hn⟩ := and_e (Cond.before_iff.mp (show (Jvm.Cond.and given_1 narrow_1).before args s = true from hpre))
  obtain ⟨g1, g2⟩ := and_e hg
  obtain ⟨g3, g4⟩ := and_e g2
  obtain ⟨g5, g6⟩ := and_e g4
  obtain ⟨w0, w1, w2, rfl⟩ : ∃ w0 w1 w2 : Value, args = #[w0, w1, w2] := by
    have hs : args.size = 3 := by simpa [Cond.value, given_1] using g1
    obtain ⟨L⟩ := args
    match L, hs with
    | [w0, w1, w2], _ => exact ⟨w0, w1, w2, rfl⟩
  have hw := fun d (hd : d ∈ tables_1) => atoms_spec (ws := Jvm.Cond.code x code maxLocals ret :: tables_1) hat d (List.mem_cons_of_mem _ hd)
  obtain ⟨i0, ei0⟩ := is_v g3
  obtain rfl : w0 = (.int i0) := Option.some.inj ei0
  obtain ⟨i1, ei1⟩ := isL_v g5
  obtain rfl : w1 = (.long i1) := Option.some.inj ei1
  obtain ⟨i2, ei2⟩ := isL_v g6
  obtain rfl : w2 = (.long i2) := Option.some.inj ei2
  obtain ⟨n, o, h1, h2, h3, _, L, rfl, ⟨rfl, N⟩, hq⟩ := rm0 l s _ hw tables_1 i0 i1 i2 s.heap s.heap.size (Nat.le_refl _) p e ha hc hk s m _ below hf ((Spec.applies_iff_loose hf).mp happ).1 ⟨rfl, State.Warmed39.refl s, rfl⟩ trivial
  refine ⟨n, _, h1, h2, h3, hpost _ _ _ _ _ _ ⟨Cond.after_iff.mpr rfl, Cond.after_iff.mpr (eq_i res_at (Term.int_eval (1)) rfl), trivial⟩ ⟨hq.1, hq.2.1, (hq.2.2.sift fun y hy => Or.inr (N y hy)).mono (by decide) (by decide)⟩⟩
theorem main_1_1 : Claimed_1_1 := comes_1 fun _ _ _ _ _ _ h hF => ⟨h.1, hF⟩
theorem main_1_2 : Claimed_1_2 := comes_1 fun _ _ _ _ _ _ h hF => ⟨h.2.1, hF⟩
end Jvm.Pilot.@@N@@
namespace Jvm.Pilot.@@N@@
open Jvm Jvm.ClassFile Sem Op Lib Jvm.Free Jvm.Stand Jvm.Pilot.@@N@@.Jvm.D
/-! MADE BY PROGRAM (witnessworld.py) out of the Statement's table words and the real class files: 12 classes; the members and pool entries that the words name. The judged class is class 1, her method 1. -/
namespace start1
open Jvm.ClassFile
def u (s : String) : CpInfo := .utf8 (stringToUtf16 s)
/-- a pool by its gaps: so many unusable entries, then the entry; so many at the end -/
def gap : Nat → List CpInfo → List CpInfo
  | 0, r => r
  | n + 1, r => .unusable :: gap n r
def poolList (es : List (Nat × CpInfo)) (last : Nat) : List CpInfo := es.foldr (fun e r => gap e.1 (e.2 :: r)) (gap last [])
def pool (es : List (Nat × CpInfo)) (last : Nat) : Array CpInfo := ⟨poolList es last⟩
def fileOf (pool : Array CpInfo) (this : Nat) (attrs : Array Attribute := #[]) (ms : Array MethodInfo := #[]) (fl : Nat := 33) (sup : Nat := 0) (ifs : Array Nat := #[]) (fds : Array FieldInfo := #[]) : ClassFile where
  minorVersion := 0
  majorVersion := 65
  constantPool := pool
  accessFlags := fl
  thisClass := this
  superClass := sup
  interfaces := ifs
  fields := fds
  methods := ms
  attributes := attrs
def plain (name : String) (sup : Option ClassId) : Class where
  name := name
  kind := .ordinary
  loader := none
  accessFlags := 33
  super := sup
  interfaces := #[]
  cf := none
  fields := #[]
  methods := #[]
  instanceTypes := #[]
  staticTypes := #[]
  resolved := #[]
  callSites := []
  init := .initialized
  statics := none
  mirror := none

def pool0 : Array CpInfo := pool [(5, u "<init>"), (0, u "()V"), (1, .class_ 10), (1, u "java/lang/Object")] 113

def k0c0 : Code := { maxStack := 0, maxLocals := 1, code := object_method_1_code, exceptionTable := #[], attributes := #[] }
def k0m0 : Method := { name := "<init>", desc := "()V", sig := { parameters := [], returnType := none }, accessFlags := 1, code := some k0c0 }
/-- java/lang/Object -/
def k0 : Class := { plain "java/lang/Object" none with
  accessFlags := 33
  interfaces := #[]
  cf := some (fileOf pool0 8 #[] #[{ accessFlags := 1, nameIndex := 5, descriptorIndex := 6, attributes := #[] }] 33 0 #[] #[])
  fields := #[]
  methods := #[k0m0]
  instanceTypes := #[]
  staticTypes := #[]
  resolved := Array.replicate 124 none
  statics := none }

def pool1 : Array CpInfo := pool [(2, .class_ 4), (1, u "java/lang/Object"), (0, u "<init>"), (0, u "()V"), (0, .methodref 8 9), (0, .class_ 10), (0, .nameAndType 11 12), (0, u "com/example/honeybee/honeybee/calculus/ClauseIsUnitPinLaw"), (0, u "arr"), (0, u "(IJ)[J"), (0, .methodref 14 15), (0, .class_ 16), (0, .nameAndType 17 18), (0, u "java/lang/Math"), (0, u "min"), (0, u "(II)I"), (0, .class_ 20), (0, u "com/example/honeybee/honeybee/calculus/Clause"), (0, .methodref 19 22), (0, .nameAndType 5 23), (0, u "([J[J[J[J)V"), (0, .methodref 19 25), (0, .nameAndType 26 27), (0, u "isUnit"), (0, u "()Z"), (0, .methodref 19 29), (0, .nameAndType 30 27), (0, u "isEmpty"), (0, .long 2), (3, u "law"), (0, u "(IJJ)Z")] 5

def k1m0 : Method := { name := "<init>", desc := "()V", sig := { parameters := [], returnType := none }, accessFlags := 1, code := none }
def k1c1 : Code := { maxStack := 6, maxLocals := 16, code := code, exceptionTable := #[], attributes := #[] }
def k1m1 : Method := { name := "law", desc := "(IJJ)Z", sig := { parameters := [.int, .long, .long], returnType := some .boolean }, accessFlags := 9, code := some k1c1 }
def k1c2 : Code := { maxStack := 6, maxLocals := 4, code := method_3_code, exceptionTable := #[], attributes := #[] }
def k1m2 : Method := { name := "arr", desc := "(IJ)[J", sig := { parameters := [.int, .long], returnType := some (.array .long) }, accessFlags := 10, code := some k1c2 }
/-- com/example/honeybee/honeybee/calculus/ClauseIsUnitPinLaw -/
def k1 : Class := { plain "com/example/honeybee/honeybee/calculus/ClauseIsUnitPinLaw" (some 0) with
  accessFlags := 49
  interfaces := #[]
  cf := some (fileOf pool1 8 #[] #[{ accessFlags := 1, nameIndex := 5, descriptorIndex := 6, attributes := #[] }, { accessFlags := 9, nameIndex := 35, descriptorIndex := 36, attributes := #[] }, { accessFlags := 10, nameIndex := 11, descriptorIndex := 12, attributes := #[] }] 49 2 #[] #[])
  fields := #[]
  methods := #[k1m0, k1m1, k1m2]
  instanceTypes := #[]
  staticTypes := #[]
  resolved := Array.replicate 42 none
  statics := none }

def pool2 : Array CpInfo := pool [(1, .class_ 2), (0, u "java/lang/Math"), (1, .class_ 6), (1, u "java/lang/Object"), (0, u "<init>"), (0, u "()V"), (89, .class_ 100), (1, u "java/lang/Math$RandomNumberGeneratorHolder"), (71, u "negativeZeroFloatBits"), (0, u "J"), (2, u "negativeZeroDoubleBits"), (24, u "min"), (43, u "$assertionsDisabled"), (0, u "Z"), (88, u "(II)I"), (2, u "twoToTheDoubleScaleDown"), (0, u "D"), (4, u "twoToTheDoubleScaleUp"), (9, u "E"), (3, u "PI"), (2, u "TAU"), (2, u "DEGREES_TO_RADIANS"), (0, u "RADIANS_TO_DEGREES")] 94

def k2m0 : Method := { name := "<init>", desc := "()V", sig := { parameters := [], returnType := none }, accessFlags := 2, code := none }
def k2c1 : Code := { maxStack := 2, maxLocals := 2, code := jdk_29_method_69_code, exceptionTable := #[], attributes := #[] }
def k2m1 : Method := { name := "min", desc := "(II)I", sig := { parameters := [.int, .int], returnType := some .int }, accessFlags := 9, code := some k2c1 }
/-- java/lang/Math -/
def k2 : Class := { plain "java/lang/Math" (some 0) with
  accessFlags := 49
  interfaces := #[]
  cf := some (fileOf pool2 1 #[.nestMembers #[98]] #[{ accessFlags := 2, nameIndex := 7, descriptorIndex := 8, attributes := #[] }, { accessFlags := 9, nameIndex := 201, descriptorIndex := 335, attributes := #[] }] 49 4 #[] #[{ accessFlags := 25, nameIndex := 354, descriptorIndex := 339, attributes := #[] }, { accessFlags := 25, nameIndex := 358, descriptorIndex := 339, attributes := #[] }, { accessFlags := 25, nameIndex := 361, descriptorIndex := 339, attributes := #[] }, { accessFlags := 26, nameIndex := 364, descriptorIndex := 339, attributes := #[] }, { accessFlags := 26, nameIndex := 365, descriptorIndex := 339, attributes := #[] }, { accessFlags := 26, nameIndex := 172, descriptorIndex := 173, attributes := #[] }, { accessFlags := 26, nameIndex := 176, descriptorIndex := 173, attributes := #[] }, { accessFlags := 8, nameIndex := 344, descriptorIndex := 339, attributes := #[] }, { accessFlags := 8, nameIndex := 338, descriptorIndex := 339, attributes := #[] }, { accessFlags := 4120, nameIndex := 245, descriptorIndex := 246, attributes := #[] }])
  fields := #[{ name := "E", type := .double, accessFlags := 25, slot := 0, constantValue := 0 }, { name := "PI", type := .double, accessFlags := 25, slot := 1, constantValue := 0 }, { name := "TAU", type := .double, accessFlags := 25, slot := 2, constantValue := 0 }, { name := "DEGREES_TO_RADIANS", type := .double, accessFlags := 26, slot := 3, constantValue := 0 }, { name := "RADIANS_TO_DEGREES", type := .double, accessFlags := 26, slot := 4, constantValue := 0 }, { name := "negativeZeroFloatBits", type := .long, accessFlags := 26, slot := 5, constantValue := 0 }, { name := "negativeZeroDoubleBits", type := .long, accessFlags := 26, slot := 6, constantValue := 0 }, { name := "twoToTheDoubleScaleUp", type := .double, accessFlags := 8, slot := 7, constantValue := 0 }, { name := "twoToTheDoubleScaleDown", type := .double, accessFlags := 8, slot := 8, constantValue := 0 }, { name := "$assertionsDisabled", type := .boolean, accessFlags := 4120, slot := 9, constantValue := 0 }]
  methods := #[k2m0, k2m1]
  instanceTypes := #[]
  staticTypes := #[.double, .double, .double, .double, .double, .long, .long, .double, .double, .boolean]
  resolved := Array.replicate 460 none
  statics := none }

def pool3 : Array CpInfo := pool [(2, .class_ 4), (1, u "com/example/honeybee/honeybee/calculus/Clause"), (0, u "NONE"), (0, u "[J"), (2, u "<init>"), (0, u "([J[J[J[J)V"), (0, .methodref 12 13), (0, .class_ 14), (0, .nameAndType 9 15), (0, u "java/lang/Object"), (0, u "()V"), (0, .fieldref 2 17), (0, .nameAndType 18 6), (0, u "body"), (0, .fieldref 2 20), (0, .nameAndType 21 6), (0, u "head"), (0, .fieldref 2 23), (0, .nameAndType 24 6), (0, u "maximal"), (0, .fieldref 2 26), (0, .nameAndType 27 6), (0, u "fromRoot"), (2, u "deleted"), (0, u "Z"), (4, u "isUnit"), (0, u "()Z"), (1, u "isEmpty")] 8

def k3c0 : Code := { maxStack := 2, maxLocals := 5, code := prog_3_method_2_code, exceptionTable := #[], attributes := #[] }
def k3m0 : Method := { name := "<init>", desc := "([J[J[J[J)V", sig := { parameters := [(.array .long), (.array .long), (.array .long), (.array .long)], returnType := none }, accessFlags := 0, code := some k3c0 }
def k3c1 : Code := { maxStack := 2, maxLocals := 1, code := prog_3_method_6_code, exceptionTable := #[], attributes := #[] }
def k3m1 : Method := { name := "isUnit", desc := "()Z", sig := { parameters := [], returnType := some .boolean }, accessFlags := 0, code := some k3c1 }
def k3c2 : Code := { maxStack := 1, maxLocals := 1, code := prog_3_method_7_code, exceptionTable := #[], attributes := #[] }
def k3m2 : Method := { name := "isEmpty", desc := "()Z", sig := { parameters := [], returnType := some .boolean }, accessFlags := 0, code := some k3c2 }
/-- com/example/honeybee/honeybee/calculus/Clause -/
def k3 : Class := { plain "com/example/honeybee/honeybee/calculus/Clause" (some 0) with
  accessFlags := 48
  interfaces := #[]
  cf := some (fileOf pool3 2 #[] #[{ accessFlags := 0, nameIndex := 9, descriptorIndex := 10, attributes := #[] }, { accessFlags := 0, nameIndex := 36, descriptorIndex := 37, attributes := #[] }, { accessFlags := 0, nameIndex := 39, descriptorIndex := 37, attributes := #[] }] 48 12 #[] #[{ accessFlags := 26, nameIndex := 5, descriptorIndex := 6, attributes := #[] }, { accessFlags := 18, nameIndex := 18, descriptorIndex := 6, attributes := #[] }, { accessFlags := 18, nameIndex := 21, descriptorIndex := 6, attributes := #[] }, { accessFlags := 18, nameIndex := 24, descriptorIndex := 6, attributes := #[] }, { accessFlags := 18, nameIndex := 27, descriptorIndex := 6, attributes := #[] }, { accessFlags := 2, nameIndex := 30, descriptorIndex := 31, attributes := #[] }])
  fields := #[{ name := "NONE", type := (.array .long), accessFlags := 26, slot := 0, constantValue := 0 }, { name := "body", type := (.array .long), accessFlags := 18, slot := 0, constantValue := 0 }, { name := "head", type := (.array .long), accessFlags := 18, slot := 1, constantValue := 0 }, { name := "maximal", type := (.array .long), accessFlags := 18, slot := 2, constantValue := 0 }, { name := "fromRoot", type := (.array .long), accessFlags := 18, slot := 3, constantValue := 0 }, { name := "deleted", type := .boolean, accessFlags := 2, slot := 4, constantValue := 0 }]
  methods := #[k3m0, k3m1, k3m2]
  instanceTypes := #[(.array .long), (.array .long), (.array .long), (.array .long), .boolean]
  staticTypes := #[(.array .long)]
  resolved := Array.replicate 48 none
  statics := none }

def pool4 : Array CpInfo := pool [(1, u "java/lang/Cloneable"), (0, .class_ 1), (0, u "java/lang/Object"), (0, .class_ 3)] 3

/-- java/lang/Cloneable -/
def k4 : Class := { plain "java/lang/Cloneable" (some 0) with
  accessFlags := 1537
  interfaces := #[]
  cf := some (fileOf pool4 2 #[] #[] 1537 4 #[] #[])
  fields := #[]
  methods := #[]
  instanceTypes := #[]
  staticTypes := #[]
  resolved := Array.replicate 8 none
  statics := none }

def pool5 : Array CpInfo := pool [(1, u "java/io/Serializable"), (0, .class_ 1), (0, u "java/lang/Object"), (0, .class_ 3)] 3

/-- java/io/Serializable -/
def k5 : Class := { plain "java/io/Serializable" (some 0) with
  accessFlags := 1537
  interfaces := #[]
  cf := some (fileOf pool5 2 #[] #[] 1537 4 #[] #[])
  fields := #[]
  methods := #[]
  instanceTypes := #[]
  staticTypes := #[]
  resolved := Array.replicate 8 none
  statics := none }

/-- the primitive byte -/
def k6 : Class := { plain "byte" none with kind := .primitive 'B', accessFlags := 0x411 }
/-- [B -/
def k7 : Class := { plain "[B" (some 0) with kind := .array 6 .byte, interfaces := #[4, 5], accessFlags := 1041 }

/-- the primitive int -/
def k8 : Class := { plain "int" none with kind := .primitive 'I', accessFlags := 0x411 }
/-- [I -/
def k9 : Class := { plain "[I" (some 0) with kind := .array 8 .int, interfaces := #[4, 5], accessFlags := 1041 }

/-- the primitive long -/
def k10 : Class := { plain "long" none with kind := .primitive 'J', accessFlags := 0x411 }
/-- [J -/
def k11 : Class := { plain "[J" (some 0) with kind := .array 10 .long, interfaces := #[4, 5], accessFlags := 1041 }

def heap : Heap := #[]
def classes : Array Class := #[k0, k1, k2, k3, k4, k5, k6, k7, k8, k9, k10, k11]
def interned : List (Array UInt16 × Addr) := []
def slotsUsed : Nat := 0
def theMethod : MethodId := ⟨1, 1⟩
def args0 : Array Value := #[.int 5, .long 6, .long 7]
def aboutOver (below : List Frame) : State where
  vm := { classes := classes, interned := interned.toArray }
  heap := heap
  slotsUsed := slotsUsed
  threads := #[{ frames := .invoking theMethod args0 :: below }]
def below0 : List Frame := [.native { method := ⟨0, 0⟩, args := #[] }]
def about1 : State := aboutOver below0
def p0 : Program := .bare "" "" ""
def e0 : Env := launch0.env 0 0 0
theorem w_frames : about1.frames = Frame.invoking theMethod args0 :: below0 := rfl
set_option maxRecDepth 65536 in
theorem w_args : argsFit about1.vm theMethod args0 = true := by decide +kernel
set_option maxRecDepth 65536 in
theorem w_heap : heapFits about1 = true := by decide +kernel
set_option maxRecDepth 65536 in
theorem w_runnable : about1.curStatus? = some .runnable := by decide +kernel
set_option maxRecDepth 65536 in
theorem w_alone : about1.alone = true := by decide +kernel
set_option maxRecDepth 65536 in
theorem w_named : about1.methodNamed? x = some theMethod := by decide +kernel
set_option maxRecDepth 65536 in
theorem w_hears : about1.hears theMethod below0 = true := by decide +kernel
set_option maxRecDepth 65536 in
theorem w_ripe : about1.ripe theMethod args0 below0 = true := by decide +kernel
theorem w_running : about1.status = .running := rfl
set_option maxRecDepth 65536 in
theorem w_room : about1.hasRoom e0.platform room_1 = true :=
  launch0.hasRoom_least _ room_1 (by decide +kernel) (by decide +kernel) (by decide +kernel) (by decide +kernel) (by decide +kernel) (by decide +kernel)
theorem allAtoms_all (ts : List Jvm.Cond) (a : Array Jvm.Value) (st : Jvm.State) : (allAtoms ts).before a st = ts.all (fun c => c.before a st) := by
  induction ts with
  | nil => rfl
  | cons c t ih =>
    show (Jvm.Cond.and c (allAtoms t)).before a st = _
    rw [Jvm.Cond.before_and, ih, List.all_cons]
def words1 : List Jvm.Cond := Jvm.Cond.code x code maxLocals ret :: tables_1
/-- a 'code' word, met by the world's own term for the bytes: nothing is compared byte by byte -/
theorem code_word {y : MethodName} {bytes : ByteArray} {mx : Nat} {rt : Option FieldType} {a : Array Value} {s : State} {m : MethodId} {meth : Method} {c : Code} (h1 : s.methodNamed? y = some m) (h2 : s.vm.method? m = some meth) (h3 : meth.code = some c) (h4 : c.code = bytes)
    (h5 : (c.maxLocals == mx && c.exceptionTable.isEmpty && decide (c.maxStack ≤ mostOperands) && decide (meth.sig.returnType = rt) && !meth.locks && decide (parseMethodDescriptor y.desc = some meth.sig)) = true) : (Jvm.Cond.code y bytes mx rt).before a s = true := by
  simp only [Bool.and_eq_true, beq_iff_eq, Bool.not_eq_true', decide_eq_true_eq] at h5
  obtain ⟨⟨⟨⟨⟨g1, g2⟩, g3⟩, g4⟩, g5⟩, g6⟩ := h5
  simp [Cond.before, Cond.holds, Cond.value, h1, h2, h3, h4, g1, g2, g3, g4, g5, g6]
def isCode : Jvm.Cond → Bool
  | .code _ _ _ _ => true
  | _ => false
theorem all_split {L : List Jvm.Cond} {P : Jvm.Cond → Bool} (h1 : L.all (fun c => isCode c || P c) = true) (h2 : ∀ c ∈ L.filter isCode, P c = true) : L.all P = true := by
  refine List.all_eq_true.mpr fun c hc => ?_
  have h := List.all_eq_true.mp h1 c hc
  rcases Bool.eq_false_or_eq_true (isCode c) with hi | hi
  · exact h2 c (List.mem_filter.mpr ⟨hc, hi⟩)
  · simpa [hi] using h
set_option maxRecDepth 65536 in
theorem w_c0 : (Jvm.Cond.code x code maxLocals ret).before args0 about1 = true := code_word (m := ⟨1, 1⟩) (meth := k1m1) (c := k1c1) (by decide +kernel) rfl rfl rfl (by decide +kernel)
set_option maxRecDepth 65536 in
theorem w_c1 : (Jvm.Cond.code ({ cls := "com/example/honeybee/honeybee/calculus/ClauseIsUnitPinLaw", name := "arr", desc := "(IJ)[J" } : Jvm.MethodName) method_3_code (4 : Nat) (Option.some (Jvm.ClassFile.FieldType.array Jvm.ClassFile.FieldType.long))).before args0 about1 = true := code_word (m := ⟨1, 2⟩) (meth := k1m2) (c := k1c2) (by decide +kernel) rfl rfl rfl (by decide +kernel)
set_option maxRecDepth 65536 in
theorem w_c2 : (Jvm.Cond.code ({ cls := "java/lang/Math", name := "min", desc := "(II)I" } : Jvm.MethodName) jdk_29_method_69_code (2 : Nat) (Option.some Jvm.ClassFile.FieldType.int)).before args0 about1 = true := code_word (m := ⟨2, 1⟩) (meth := k2m1) (c := k2c1) (by decide +kernel) rfl rfl rfl (by decide +kernel)
set_option maxRecDepth 65536 in
theorem w_c3 : (Jvm.Cond.code ({ cls := "com/example/honeybee/honeybee/calculus/Clause", name := "<init>", desc := "([J[J[J[J)V" } : Jvm.MethodName) prog_3_method_2_code (5 : Nat) (Option.none : Option Jvm.ClassFile.FieldType)).before args0 about1 = true := code_word (m := ⟨3, 0⟩) (meth := k3m0) (c := k3c0) (by decide +kernel) rfl rfl rfl (by decide +kernel)
set_option maxRecDepth 65536 in
theorem w_c4 : (Jvm.Cond.code ({ cls := "java/lang/Object", name := "<init>", desc := "()V" } : Jvm.MethodName) object_method_1_code (1 : Nat) (Option.none : Option Jvm.ClassFile.FieldType)).before args0 about1 = true := code_word (m := ⟨0, 0⟩) (meth := k0m0) (c := k0c0) (by decide +kernel) rfl rfl rfl (by decide +kernel)
set_option maxRecDepth 65536 in
theorem w_c5 : (Jvm.Cond.code ({ cls := "com/example/honeybee/honeybee/calculus/Clause", name := "isUnit", desc := "()Z" } : Jvm.MethodName) prog_3_method_6_code (1 : Nat) (Option.some Jvm.ClassFile.FieldType.boolean)).before args0 about1 = true := code_word (m := ⟨3, 1⟩) (meth := k3m1) (c := k3c1) (by decide +kernel) rfl rfl rfl (by decide +kernel)
set_option maxRecDepth 65536 in
theorem w_c6 : (Jvm.Cond.code ({ cls := "com/example/honeybee/honeybee/calculus/Clause", name := "isEmpty", desc := "()Z" } : Jvm.MethodName) prog_3_method_7_code (1 : Nat) (Option.some Jvm.ClassFile.FieldType.boolean)).before args0 about1 = true := code_word (m := ⟨3, 2⟩) (meth := k3m2) (c := k3c2) (by decide +kernel) rfl rfl rfl (by decide +kernel)
def codes1 : List Jvm.Cond := [Jvm.Cond.code x code maxLocals ret, Jvm.Cond.code ({ cls := "com/example/honeybee/honeybee/calculus/ClauseIsUnitPinLaw", name := "arr", desc := "(IJ)[J" } : Jvm.MethodName) method_3_code (4 : Nat) (Option.some (Jvm.ClassFile.FieldType.array Jvm.ClassFile.FieldType.long)), Jvm.Cond.code ({ cls := "java/lang/Math", name := "min", desc := "(II)I" } : Jvm.MethodName) jdk_29_method_69_code (2 : Nat) (Option.some Jvm.ClassFile.FieldType.int), Jvm.Cond.code ({ cls := "com/example/honeybee/honeybee/calculus/Clause", name := "<init>", desc := "([J[J[J[J)V" } : Jvm.MethodName) prog_3_method_2_code (5 : Nat) (Option.none : Option Jvm.ClassFile.FieldType), Jvm.Cond.code ({ cls := "java/lang/Object", name := "<init>", desc := "()V" } : Jvm.MethodName) object_method_1_code (1 : Nat) (Option.none : Option Jvm.ClassFile.FieldType), Jvm.Cond.code ({ cls := "com/example/honeybee/honeybee/calculus/Clause", name := "isUnit", desc := "()Z" } : Jvm.MethodName) prog_3_method_6_code (1 : Nat) (Option.some Jvm.ClassFile.FieldType.boolean), Jvm.Cond.code ({ cls := "com/example/honeybee/honeybee/calculus/Clause", name := "isEmpty", desc := "()Z" } : Jvm.MethodName) prog_3_method_7_code (1 : Nat) (Option.some Jvm.ClassFile.FieldType.boolean)]
set_option maxRecDepth 65536 in
theorem codes_eq : words1.filter isCode = codes1 := rfl
theorem w_codes : ∀ c ∈ words1.filter isCode, c.before args0 about1 = true := by
  rw [codes_eq]
  intro c hc
  simp only [codes1, List.mem_cons, List.not_mem_nil, or_false] at hc
  rcases hc with rfl | rfl | rfl | rfl | rfl | rfl | rfl
  · exact w_c0
  · exact w_c1
  · exact w_c2
  · exact w_c3
  · exact w_c4
  · exact w_c5
  · exact w_c6
set_option maxRecDepth 65536 in
theorem w_t1 : (words1.take 24).all (fun c => isCode c || c.before args0 about1) = true := by decide +kernel
set_option maxRecDepth 65536 in
theorem w_t2 : (words1.drop 24).all (fun c => isCode c || c.before args0 about1) = true := by decide +kernel
theorem w_tables : (allAtoms (Jvm.Cond.code x code maxLocals ret :: tables_1)).before args0 about1 = true := by
  rw [allAtoms_all]
  show words1.all (fun c => c.before args0 about1) = true
  refine all_split ?_ w_codes
  rw [← List.take_append_drop 24 words1, List.all_append, w_t1, w_t2]
  rfl
set_option maxRecDepth 65536 in
theorem w_case : (Jvm.Cond.and given_1 narrow_1).before args0 about1 = true := by decide +kernel
theorem w_applies : (headSpec (Jvm.Cond.code x code maxLocals ret :: tables_1) room_1).applies x e0.platform about1 = true :=
  (Spec.applies_iff w_frames).mpr ⟨w_running, w_runnable, w_alone, w_named, w_hears, w_ripe, w_room, w_tables⟩
theorem atStart : AtStart classFile x code maxLocals ret World_1 tables_1 room_1 Calls_1 rest_1 Pre_1 launch0 p0 e0 about1 theMethod args0 below0 :=
  ⟨lists_1, trivial, launch0.admits_env _ _ _, launch0.least_env, fairChoices_fair.cas, fairChoices_fair.clock, w_frames, w_args, w_heap, w_applies, trivial, trivial, w_case⟩
end start1
theorem witness_1 : WitnessClaimed_1 := ⟨start1.p0, start1.e0, start1.about1, start1.theMethod, start1.args0, start1.below0, start1.atStart⟩
end Jvm.Pilot.@@N@@
