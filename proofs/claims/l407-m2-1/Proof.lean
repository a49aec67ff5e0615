import JvmDerived
import JvmDerived.Pilot.@@N@@Statement
import JvmDerived.Pilot.@@N@@Code
set_option linter.unusedVariables false
set_option linter.unusedSimpArgs false
namespace Jvm.Pilot.@@N@@
open Jvm Jvm.ClassFile Sem Op Lib Jvm.Free Jvm.Stand Jvm.LawKit Jvm.RoadKit Bundle Jvm.Pilot.@@N@@.Jvm.D

def AI (Z : State) (h : Heap) (a : Addr) (ty : FieldType) (z : Int32) (f : Nat → Int32) : Prop := ∃ c : Cell, Arr Z h a c ty ∧ c.slots.size = z.toNatClampNeg ∧ ¬ z < 0 ∧ ∀ i, i < c.slots.size → c.slots[i]? = some (.int (f i))
def AL (Z : State) (h : Heap) (a : Addr) (z : Int32) (f : Nat → Int64) : Prop := ∃ c : Cell, Arr Z h a c .long ∧ c.slots.size = z.toNatClampNeg ∧ ¬ z < 0 ∧ ∀ i, i < c.slots.size → c.slots[i]? = some (.long (f i))
section Own
variable {Z : State} {h h' : Heap} {a b : Addr} {k : ClassId} {ty : FieldType} {z : Int32} {f : Nat → Int32} {fl : Nat → Int64} {sl : Nat} {v : Value} {ws : List Addr}
theorem AI.lt (F : AI Z h a ty z f) : a < h.size := by obtain ⟨c, A, -⟩ := F; exact A.lt
theorem AL.lt (F : AL Z h a z fl) : a < h.size := by obtain ⟨c, A, -⟩ := F; exact A.lt
theorem AI.ext (F : AI Z h a ty z f) (E : Ext h h') : AI Z h' a ty z f := by obtain ⟨c, A, r⟩ := F; exact ⟨c, A.ext E, r⟩
theorem AL.ext (F : AL Z h a z fl) (E : Ext h h') : AL Z h' a z fl := by obtain ⟨c, A, r⟩ := F; exact ⟨c, A.ext E, r⟩
theorem AI.other (F : AI Z h b ty z f) (W : Wr h h' a sl v) (q : b ≠ a) : AI Z h' b ty z f := by obtain ⟨c, A, r⟩ := F; exact ⟨c, A.other W q, r⟩
theorem AL.other (F : AL Z h b z fl) (W : Wr h h' a sl v) (q : b ≠ a) : AL Z h' b z fl := by obtain ⟨c, A, r⟩ := F; exact ⟨c, A.other W q, r⟩
theorem AI.keep (F : AI Z h a ty z f) (K : Keep h h' ws) (q : a ∉ ws) : AI Z h' a ty z f := by obtain ⟨c, A, r⟩ := F; exact ⟨c, ⟨K.2.1 a c A.1 q, A.2⟩, r⟩
theorem AL.keep (F : AL Z h a z fl) (K : Keep h h' ws) (q : a ∉ ws) : AL Z h' a z fl := by obtain ⟨c, A, r⟩ := F; exact ⟨c, ⟨K.2.1 a c A.1 q, A.2⟩, r⟩
theorem AI.new (hd : defaultValue ty = .int 0) (A : Arr Z h a (newA k ty z) ty) (q : ¬ z < 0) : AI Z h a ty z (fun _ => (0 : Int32)) := ⟨_, A, by simp [newA], q, fun i hi => by
  have hi' : i < z.toNatClampNeg := by simpa [newA] using hi
  simp [newA, hi', hd]⟩
theorem AL.new (A : Arr Z h a (newA k .long z) .long) (q : ¬ z < 0) : AL Z h a z (fun _ => (0 : Int64)) := ⟨_, A, by simp [newA], q, fun i hi => by
  have hi' : i < z.toNatClampNeg := by simpa [newA] using hi
  simp [newA, hi', defaultValue]⟩
theorem AI.set {j : Nat} {x : Int32} (F : AI Z h a ty z f) (W : Wr h h' a j (.int x)) : AI Z h' a ty z (fun i => if i = j then x else f i) := by
  obtain ⟨c, A, S, q, H⟩ := F
  refine ⟨_, A.same W, by simpa [Cell.setSlot] using S, q, fun i hi => ?_⟩
  have hi' : i < c.slots.size := by simpa [Cell.setSlot] using hi
  by_cases e : i = j
  · subst e; simp [Cell.setSlot, hi']
  · have e' : ¬ j = i := fun q => e q.symm
    simp only [Cell.setSlot, if_neg e]; rw [Array.getElem?_setIfInBounds_ne e']; exact H i hi'
theorem AL.set {j : Nat} {x : Int64} (F : AL Z h a z fl) (W : Wr h h' a j (.long x)) : AL Z h' a z (fun i => if i = j then x else fl i) := by
  obtain ⟨c, A, S, q, H⟩ := F
  refine ⟨_, A.same W, by simpa [Cell.setSlot] using S, q, fun i hi => ?_⟩
  have hi' : i < c.slots.size := by simpa [Cell.setSlot] using hi
  by_cases e : i = j
  · subst e; simp [Cell.setSlot, hi']
  · have e' : ¬ j = i := fun q => e q.symm
    simp only [Cell.setSlot, if_neg e]; rw [Array.getElem?_setIfInBounds_ne e']; exact H i hi'
end Own
theorem own_sta_keep {Z : State} {h h' : Heap} {C n d : String} {v : Value} {ws : List Addr} (S : Sta Z h C n d v) (K : Keep h h' ws) (q : ∀ a ∈ ws, ∀ c : Cell, h[a]? = some c → c.vm.isStatics = false) : Sta Z h' C n d v := by
  obtain ⟨cf, i, k, f, st, cell, h1, h2, h3, h4, h5, h6, h7⟩ := S
  exact ⟨cf, i, k, f, st, cell, h1, h2, h3, h4, K.2.1 st cell h5 (fun hm => by have := q st hm cell h5; rw [this] at h6; cases h6), h6, h7⟩
theorem own_ns {Z : State} {h : Heap} {a : Addr} {C : String} (E : Exa Z h a C) : ∀ c : Cell, h[a]? = some c → c.vm.isStatics = false := by
  obtain ⟨cell, k, h1, -, -, h4, -⟩ := E
  intro c hc
  cases h1.symm.trans hc
  exact h4
theorem own_bit {q : Prop} [Decidable q] {w : Int32} (h : w = (if q then (0 : Int32) else (1 : Int32))) : w = (0 : Int32) ∨ w = (1 : Int32) := by
  by_cases hq : q
  · exact Or.inl (by rw [h, if_pos hq])
  · exact Or.inr (by rw [h, if_neg hq])
theorem own_nb {x : Int32} (h : x = (0 : Int32) ∨ x = (1 : Int32)) : nar .boolean x = x := by rcases h with rfl | rfl <;> decide
theorem own_1024 {x : Int32} (h : ¬ x < (0 : Int32) ∧ x < (1024 : Int32)) : ¬ x = (1024 : Int32) := fun e => by rw [e] at h; exact absurd h.2 (by decide)
def own_same (a b : Int32) (q r s t : Int64) : Int32 := if a = b then (if q = r then (if s = t then 1 else 0) else 0) else 0
theorem d6_0 : decode jdk_22_method_1_code 0 = .ok (.aload_n 0, 1) := by decide +kernel
theorem d6_1 : decode jdk_22_method_1_code 1 = .ok (.invokespecial 1, 3) := by decide +kernel
theorem d6_4 : decode jdk_22_method_1_code 4 = .ok (.return_, 1) := by decide +kernel
theorem pn_6 : plainName "java/util/AbstractCollection" = true := by first | (simp [plainName, overriddenIn]; done) | decide +kernel
theorem ef_6 (m : MethodId) (r0 : Addr) : entryFrame m #[(.ref r0)] 1 = mkF m 0 #[.val (.ref r0)] [] := by first | (simp [entryFrame, mkF, argsToLocals, Value.category]; done) | rfl
def Q6 (Z : State) (r0 : Addr) (h0 : Heap) (n0 : Nat) (v : Option Value) (h : Heap) (L : List Loc) : Prop := v = none ∧ Fr n0 L ∧ h = h0
set_option maxRecDepth 65536 in
set_option maxHeartbeats 40000000 in
theorem rm6 (l : Launch) (Z : State) (a0 : Array Value) (hw : ∀ d ∈ tables_1, d.before a0 Z = true) (ws : List Jvm.Cond) (r0 : Addr) (h0 : Heap) (n0 : Nat) (Z0 : n0 ≤ h0.size)  :
    MetFree l (⟨"java/util/AbstractCollection", "<init>", "()V"⟩ : MethodName) (head1 (Jvm.Cond.code (⟨"java/util/AbstractCollection", "<init>", "()V"⟩ : MethodName) jdk_22_method_1_code 1 none :: ws) ({ frames := 1, cells := 0, slots := 0, locals := 12 } : Room)) (fun a U => a = #[(.ref r0)] ∧ Z.Warmed39 U.vm ∧ U.heap = h0) (fun _ _ _ _ _ => True) (fun _ U o U' => ∃ v L, o = .returned v ∧ Q6 Z r0 h0 n0 v U'.heap L ∧ FrameEnd U o U' L ({ frames := 1, cells := 0, slots := 0, locals := 12 } : Room).cells ({ frames := 1, cells := 0, slots := 0, locals := 12 } : Room).slots) := by
  refine MetFree.of_bodySF (plainFor_of_name pn_6) hisR ?_
  intro p e s m args below meth c s₁ Bd hml0 hP hK
  obtain ⟨rfl, hZ, hh⟩ := hP
  have hx := Bd.exec
  have hby := Bd.bytes
  have hml : c.maxLocals = 1 := hml0
  have hown : s.vm.findClass "java/util/AbstractCollection" = some m.cls := findClass_of_methodNamed Bd.named
  have hnm := (name_of_methodNamed Bd.named Bd.method).1
  have X0 : Stand p l e ({ frames := 1, cells := 0, slots := 0, locals := 12 } : Room) s m #[(.ref r0)] below meth c s₁ [] 0 0 := Stand.of_body Bd
  have e0 : s₁.heap = h0 := by rw [← hh, Bd.state]; rfl
  have N0 := Fr.nil n0
  have pre0 : ∀ t, Steps p.tables e below (s₁.setTop (mkF m 0 #[.val (.ref r0)] [])) t → Steps p.tables e below (s₁.setTop (entryFrame m #[(.ref r0)] 1)) t := fun t k => castTop (ef_6 m r0) k
  obtain ⟨T11, X11, e11, st11⟩ := initO X0 hx hZ hown (hw _ (List.mem_of_getElem? (i := 33) rfl)) (hw _ (List.mem_of_getElem? (i := 13) rfl)) (hw _ (List.mem_of_getElem? (i := 14) rfl)) e0 (g := (mkF m 1 #[.val (.ref r0)] [(.ref r0)])) rfl (by rw [hml]; rfl) rfl (hb hby d6_1) (by decide) (W := 0) (by show 2 * 0 + _ ≤ _; exact Nat.le_of_eq rfl) (by decide)
  obtain ⟨fs, hr, hrun, hended, hW, hsame⟩ := X11.leave (v := none) (fun _ => rfl)
  refine ⟨_, _, pre0 _ ?_, hrun, hended, _, _, rfl, ?_, ⟨_, rfl⟩, hW, hsame.mono (by decide) (by decide)⟩
  · refine XS.aloadN X0.here hx rfl (hb hby d6_0) rfl rfl ?_
    show Steps p.tables e below (s₁.setTop (mkF m 1 #[.val (.ref r0)] [(.ref r0)])) _
    refine st11 _ ?_
    show Steps p.tables e below (T11.setTop (mkF m 4 #[.val (.ref r0)] [])) _
    exact X11.returnOut hx Bd.returns (hb hby d6_4) hr
  · show Q6 Z r0 h0 n0 _ T11.heap _
    rw [e11]
    exact ⟨rfl, N0, rfl⟩
theorem d5_0 : decode jdk_39_method_1_code 0 = .ok (.aload_n 0, 1) := by decide +kernel
theorem d5_1 : decode jdk_39_method_1_code 1 = .ok (.invokespecial 1, 3) := by decide +kernel
theorem d5_4 : decode jdk_39_method_1_code 4 = .ok (.aload_n 0, 1) := by decide +kernel
theorem d5_5 : decode jdk_39_method_1_code 5 = .ok (.iconst 0, 1) := by decide +kernel
theorem d5_6 : decode jdk_39_method_1_code 6 = .ok (.putfield 7, 3) := by decide +kernel
theorem d5_9 : decode jdk_39_method_1_code 9 = .ok (.return_, 1) := by decide +kernel
theorem pn_5 : plainName "java/util/AbstractList" = true := by first | (simp [plainName, overriddenIn]; done) | decide +kernel
theorem ef_5 (m : MethodId) (r0 : Addr) : entryFrame m #[(.ref r0)] 1 = mkF m 0 #[.val (.ref r0)] [] := by first | (simp [entryFrame, mkF, argsToLocals, Value.category]; done) | rfl
theorem pd_0 : parseMethodDescriptor "()V" = some ⟨[], none⟩ := by decide +kernel
theorem sn_java_util_ArrayListelementData_java_util_AbstractListmodCount {Z : State} {a0 : Array Value} (hw : ∀ d ∈ tables_1, d.before a0 Z = true) : Jvm.RoadKit.slotOf Z "java/util/ArrayList" "elementData" "[Ljava/lang/Object;" ≠ Jvm.RoadKit.slotOf Z "java/util/AbstractList" "modCount" "I" := slot_ne (Or.inl (hw _ (List.mem_of_getElem? (i := 38) rfl))) (Or.inl (hw _ (List.mem_of_getElem? (i := 35) rfl))) (by decide) (t := (.array (.object "java/lang/Object"))) (t' := .int) (by decide) (by decide)
theorem sn_java_util_ArrayListsize_java_util_AbstractListmodCount {Z : State} {a0 : Array Value} (hw : ∀ d ∈ tables_1, d.before a0 Z = true) : Jvm.RoadKit.slotOf Z "java/util/ArrayList" "size" "I" ≠ Jvm.RoadKit.slotOf Z "java/util/AbstractList" "modCount" "I" := slot_ne (Or.inl (hw _ (List.mem_of_getElem? (i := 108) rfl))) (Or.inl (hw _ (List.mem_of_getElem? (i := 35) rfl))) (by decide) (t := .int) (t' := .int) (by decide) (by decide)
def Q5 (Z : State) (r0 : Addr) (h0 : Heap) (n0 : Nat) (v : Option Value) (h : Heap) (L : List Loc) : Prop := v = none ∧ Fr n0 L ∧ Keep h0 h [r0] ∧ Exa Z h r0 "java/util/ArrayList" ∧ Fld Z h r0 "java/util/ArrayList" "elementData" "[Ljava/lang/Object;" .null ∧ Fld Z h r0 "java/util/ArrayList" "size" "I" (.int (0 : Int32))
set_option maxRecDepth 65536 in
set_option maxHeartbeats 40000000 in
theorem rm5 (l : Launch) (Z : State) (a0 : Array Value) (hw : ∀ d ∈ tables_1, d.before a0 Z = true) (ws : List Jvm.Cond) (r0 : Addr) (h0 : Heap) (n0 : Nat) (Z0 : n0 ≤ h0.size) (hp0 : Exa Z h0 r0 "java/util/ArrayList") (hp1 : Fld Z h0 r0 "java/util/AbstractList" "modCount" "I" (.int (0 : Int32))) (hp2 : n0 ≤ r0) (hp3 : Fld Z h0 r0 "java/util/ArrayList" "elementData" "[Ljava/lang/Object;" .null) (hp4 : Fld Z h0 r0 "java/util/ArrayList" "size" "I" (.int (0 : Int32))) :
    MetFree l (⟨"java/util/AbstractList", "<init>", "()V"⟩ : MethodName) (head1 (Jvm.Cond.code (⟨"java/util/AbstractList", "<init>", "()V"⟩ : MethodName) jdk_39_method_1_code 1 none :: ws) ({ frames := 2, cells := 0, slots := 0, locals := 24 } : Room)) (fun a U => a = #[(.ref r0)] ∧ Z.Warmed39 U.vm ∧ U.heap = h0) (fun _ _ _ _ _ => True) (fun _ U o U' => ∃ v L, o = .returned v ∧ Q5 Z r0 h0 n0 v U'.heap L ∧ FrameEnd U o U' L ({ frames := 2, cells := 0, slots := 0, locals := 24 } : Room).cells ({ frames := 2, cells := 0, slots := 0, locals := 24 } : Room).slots) := by
  refine MetFree.of_bodySF (plainFor_of_name pn_5) hisR ?_
  intro p e s m args below meth c s₁ Bd hml0 hP hK
  obtain ⟨rfl, hZ, hh⟩ := hP
  have hx := Bd.exec
  have hby := Bd.bytes
  have hml : c.maxLocals = 1 := hml0
  have hown : s.vm.findClass "java/util/AbstractList" = some m.cls := findClass_of_methodNamed Bd.named
  have hnm := (name_of_methodNamed Bd.named Bd.method).1
  have X0 : Stand p l e ({ frames := 2, cells := 0, slots := 0, locals := 24 } : Room) s m #[(.ref r0)] below meth c s₁ [] 0 0 := Stand.of_body Bd
  have e0 : s₁.heap = h0 := by rw [← hh, Bd.state]; rfl
  have N0 := Fr.nil n0
  have pre0 : ∀ t, Steps p.tables e below (s₁.setTop (mkF m 0 #[.val (.ref r0)] [])) t → Steps p.tables e below (s₁.setTop (entryFrame m #[(.ref r0)] 1)) t := fun t k => castTop (ef_5 m r0) k
  obtain ⟨_, _, ⟨T11, L11, k11, n11⟩, -, X11, ⟨Lc11, hQ11, l11, y11, z11⟩, st11⟩ := X0.specialBack hx (y := (⟨"java/util/AbstractCollection", "<init>", "()V"⟩ : MethodName)) rfl hown (mvT hZ (hw _ (List.mem_of_getElem? (i := 27) rfl))) (mvT hZ (hw _ (List.mem_of_getElem? (i := 28) rfl))) (mvT hZ (hw _ (List.mem_of_getElem? (i := 32) rfl))) (by decide) (backOf (W := 0) (rm6 l Z a0 hw [] r0  h0 n0 Z0 ) hZ (hw _ (List.mem_of_getElem? (i := 32) rfl)) (hw _ (List.mem_of_getElem? (i := 31) rfl)) (by decide) (by decide)) (g := (mkF m 1 #[.val (.ref r0)] [(.ref r0)])) rfl (by rw [hml]; rfl) (Steps.refl _) (a := r0) (argsL := []) (rest := []) (lenOf pd_0 rfl) rfl (by show 2 * 0 + _ ≤ _; exact Nat.le_of_eq rfl) (hb hby d5_1) (fun _ _ => ⟨rfl, e0, (by decide : 0 + 0 ≤ _), (by decide : 0 + 0 ≤ _)⟩)
  dsimp only [Pt.U, Pt.locs, Pt.cells, Pt.slots] at X11 l11 y11 z11 st11 hQ11
  subst l11 y11 z11
  obtain ⟨rfl, Nq11, u11_0⟩ := hQ11
  have N11 := Fr.app N0 Nq11
  obtain ⟨T12, h12, X12, e12, W12, st12⟩ := putF X11 hx hZ hown (host := "") (Or.inl (hw _ (List.mem_of_getElem? (i := 34) rfl))) Via.refl u11_0 hp1 hp0 (Or.inl (hw _ (List.mem_of_getElem? (i := 35) rfl))) (hw _ (List.mem_of_getElem? (i := 16) rfl)) (ty := .int) (by decide) rfl rfl (g := (mkF m 6 #[.val (.ref r0)] [(.int (0 : Int32)), (.ref r0)])) rfl rfl (hb hby d5_6)
  have F12 : Fld Z h12 r0 "java/util/AbstractList" "modCount" "I" (.int (0 : Int32)) := hp1.same W12
  have Z13 : n0 ≤ h12.size := Nat.le_trans Z0 (Keep.of_wr W12).1
  have K14 : Keep h0 h12 [r0] := (Keep.refl h0 [r0]).wr W12 (Or.inl (List.mem_of_getElem? (i := 0) rfl))
  have N12 := Fr.snoc X12 N11 hp2
  have E15 : Exa Z h12 r0 "java/util/ArrayList" := (hp0.wr W12)
  have F16 : Fld Z h12 r0 "java/util/ArrayList" "elementData" "[Ljava/lang/Object;" .null := (hp3.other W12 (Or.inr (sn_java_util_ArrayListelementData_java_util_AbstractListmodCount hw)))
  have F17 : Fld Z h12 r0 "java/util/ArrayList" "size" "I" (.int (0 : Int32)) := (hp4.other W12 (Or.inr (sn_java_util_ArrayListsize_java_util_AbstractListmodCount hw)))
  obtain ⟨fs, hr, hrun, hended, hW, hsame⟩ := X12.leave (v := none) (fun _ => rfl)
  refine ⟨_, _, pre0 _ ?_, hrun, hended, _, _, rfl, ?_, ⟨_, rfl⟩, hW, hsame.mono (by decide) (by decide)⟩
  · refine XS.aloadN X0.here hx rfl (hb hby d5_0) rfl rfl ?_
    show Steps p.tables e below (s₁.setTop (mkF m 1 #[.val (.ref r0)] [(.ref r0)])) _
    refine st11.trans ?_
    show Steps p.tables e below (T11.setTop (mkF m 4 #[.val (.ref r0)] [])) _
    refine XS.aloadN X11.here hx rfl (hb hby d5_4) rfl rfl ?_
    show Steps p.tables e below (T11.setTop (mkF m 5 #[.val (.ref r0)] [(.ref r0)])) _
    refine XS.iconst X11.here hx rfl (hb hby d5_5) ?_
    show Steps p.tables e below (T11.setTop (mkF m 6 #[.val (.ref r0)] [(.int (0 : Int32)), (.ref r0)])) _
    refine st12 _ ?_
    show Steps p.tables e below (T12.setTop (mkF m 9 #[.val (.ref r0)] [])) _
    exact X12.returnOut hx Bd.returns (hb hby d5_9) hr
  · show Q5 Z r0 h0 n0 _ T12.heap _
    rw [e12]
    exact ⟨rfl, N12, K14, E15, F16, F17⟩
theorem d4_0 : decode jdk_38_method_2_code 0 = .ok (.aload_n 0, 1) := by decide +kernel
theorem d4_1 : decode jdk_38_method_2_code 1 = .ok (.invokespecial 1, 3) := by decide +kernel
theorem d4_4 : decode jdk_38_method_2_code 4 = .ok (.aload_n 0, 1) := by decide +kernel
theorem d4_5 : decode jdk_38_method_2_code 5 = .ok (.getstatic 39, 3) := by decide +kernel
theorem d4_8 : decode jdk_38_method_2_code 8 = .ok (.putfield 9, 3) := by decide +kernel
theorem d4_11 : decode jdk_38_method_2_code 11 = .ok (.return_, 1) := by decide +kernel
theorem pn_4 : plainName "java/util/ArrayList" = true := by first | (simp [plainName, overriddenIn]; done) | decide +kernel
theorem ef_4 (m : MethodId) (r0 : Addr) : entryFrame m #[(.ref r0)] 1 = mkF m 0 #[.val (.ref r0)] [] := by first | (simp [entryFrame, mkF, argsToLocals, Value.category]; done) | rfl
theorem sn_java_util_ArrayListsize_java_util_ArrayListelementData {Z : State} {a0 : Array Value} (hw : ∀ d ∈ tables_1, d.before a0 Z = true) : Jvm.RoadKit.slotOf Z "java/util/ArrayList" "size" "I" ≠ Jvm.RoadKit.slotOf Z "java/util/ArrayList" "elementData" "[Ljava/lang/Object;" := slot_ne (Or.inl (hw _ (List.mem_of_getElem? (i := 108) rfl))) (Or.inl (hw _ (List.mem_of_getElem? (i := 38) rfl))) (by decide) (t := .int) (t' := (.array (.object "java/lang/Object"))) (by decide) (by decide)
def Q4 (Z : State) (r0 : Addr) (sd : Addr) (h0 : Heap) (n0 : Nat) (v : Option Value) (h : Heap) (L : List Loc) : Prop := v = none ∧ Fr n0 L ∧ Keep h0 h [r0] ∧ Exa Z h r0 "java/util/ArrayList" ∧ Fld Z h r0 "java/util/ArrayList" "size" "I" (.int (0 : Int32))
set_option maxRecDepth 65536 in
set_option maxHeartbeats 40000000 in
theorem rm4 (l : Launch) (Z : State) (a0 : Array Value) (hw : ∀ d ∈ tables_1, d.before a0 Z = true) (ws : List Jvm.Cond) (r0 : Addr) (sd : Addr) (h0 : Heap) (n0 : Nat) (Z0 : n0 ≤ h0.size) (hp0 : Exa Z h0 r0 "java/util/ArrayList") (hp1 : Fld Z h0 r0 "java/util/AbstractList" "modCount" "I" (.int (0 : Int32))) (hp2 : n0 ≤ r0) (hp3 : Fld Z h0 r0 "java/util/ArrayList" "elementData" "[Ljava/lang/Object;" .null) (hp4 : Fld Z h0 r0 "java/util/ArrayList" "size" "I" (.int (0 : Int32))) (hp5 : Sta Z h0 "java/util/ArrayList" "DEFAULTCAPACITY_EMPTY_ELEMENTDATA" "[Ljava/lang/Object;" (.ref sd)) :
    MetFree l (⟨"java/util/ArrayList", "<init>", "()V"⟩ : MethodName) (head1 (Jvm.Cond.code (⟨"java/util/ArrayList", "<init>", "()V"⟩ : MethodName) jdk_38_method_2_code 1 none :: ws) ({ frames := 3, cells := 0, slots := 0, locals := 36 } : Room)) (fun a U => a = #[(.ref r0)] ∧ Z.Warmed39 U.vm ∧ U.heap = h0) (fun _ _ _ _ _ => True) (fun _ U o U' => ∃ v L, o = .returned v ∧ Q4 Z r0 sd h0 n0 v U'.heap L ∧ FrameEnd U o U' L ({ frames := 3, cells := 0, slots := 0, locals := 36 } : Room).cells ({ frames := 3, cells := 0, slots := 0, locals := 36 } : Room).slots) := by
  refine MetFree.of_bodySF (plainFor_of_name pn_4) hisR ?_
  intro p e s m args below meth c s₁ Bd hml0 hP hK
  obtain ⟨rfl, hZ, hh⟩ := hP
  have hx := Bd.exec
  have hby := Bd.bytes
  have hml : c.maxLocals = 1 := hml0
  have hown : s.vm.findClass "java/util/ArrayList" = some m.cls := findClass_of_methodNamed Bd.named
  have hnm := (name_of_methodNamed Bd.named Bd.method).1
  have X0 : Stand p l e ({ frames := 3, cells := 0, slots := 0, locals := 36 } : Room) s m #[(.ref r0)] below meth c s₁ [] 0 0 := Stand.of_body Bd
  have e0 : s₁.heap = h0 := by rw [← hh, Bd.state]; rfl
  have N0 := Fr.nil n0
  have pre0 : ∀ t, Steps p.tables e below (s₁.setTop (mkF m 0 #[.val (.ref r0)] [])) t → Steps p.tables e below (s₁.setTop (entryFrame m #[(.ref r0)] 1)) t := fun t k => castTop (ef_4 m r0) k
  obtain ⟨_, _, ⟨T11, L11, k11, n11⟩, -, X11, ⟨Lc11, hQ11, l11, y11, z11⟩, st11⟩ := X0.specialBack hx (y := (⟨"java/util/AbstractList", "<init>", "()V"⟩ : MethodName)) rfl hown (mvT hZ (hw _ (List.mem_of_getElem? (i := 21) rfl))) (mvT hZ (hw _ (List.mem_of_getElem? (i := 22) rfl))) (mvT hZ (hw _ (List.mem_of_getElem? (i := 26) rfl))) (by decide) (backOf (W := 0) (rm5 l Z a0 hw [] r0  h0 n0 Z0 hp0 hp1 hp2 hp3 hp4) hZ (hw _ (List.mem_of_getElem? (i := 26) rfl)) (hw _ (List.mem_of_getElem? (i := 25) rfl)) (by decide) (by decide)) (g := (mkF m 1 #[.val (.ref r0)] [(.ref r0)])) rfl (by rw [hml]; rfl) (Steps.refl _) (a := r0) (argsL := []) (rest := []) (lenOf pd_0 rfl) rfl (by show 2 * 0 + _ ≤ _; exact Nat.le_of_eq rfl) (hb hby d4_1) (fun _ _ => ⟨rfl, e0, (by decide : 0 + 0 ≤ _), (by decide : 0 + 0 ≤ _)⟩)
  dsimp only [Pt.U, Pt.locs, Pt.cells, Pt.slots] at X11 l11 y11 z11 st11 hQ11
  subst l11 y11 z11
  obtain ⟨rfl, Nq11, u11_0, u11_1, u11_2, u11_3⟩ := hQ11
  have N11 := Fr.app N0 Nq11
  have Z12 : n0 ≤ T11.heap.size := Nat.le_trans Z0 u11_0.1
  have K13 : Keep h0 T11.heap [r0] := (Keep.refl h0 [r0]).trans u11_0 (allS (Or.inl (List.mem_of_getElem? (i := 0) rfl)) all0)
  have S14 : Sta Z T11.heap "java/util/ArrayList" "DEFAULTCAPACITY_EMPTY_ELEMENTDATA" "[Ljava/lang/Object;" (.ref sd) := (own_sta_keep hp5 u11_0 (allS (own_ns hp0) all0))
  obtain ⟨T15, X15, e15, st15⟩ := getS2 X11 hx hZ hown (host := "") (Or.inl (hw _ (List.mem_of_getElem? (i := 36) rfl))) Via.refl rfl S14 (g := (mkF m 5 #[.val (.ref r0)] [(.ref r0)])) rfl (hb hby d4_5)
  obtain ⟨T16, h16, X16, e16, W16, st16⟩ := putF X15 hx hZ hown (host := "") (Or.inl (hw _ (List.mem_of_getElem? (i := 37) rfl))) Via.refl e15 u11_2 u11_1 (Or.inl (hw _ (List.mem_of_getElem? (i := 38) rfl))) (hw _ (List.mem_of_getElem? (i := 16) rfl)) (ty := (.array (.object "java/lang/Object"))) (by decide) rfl rfl (g := (mkF m 8 #[.val (.ref r0)] [(.ref sd), (.ref r0)])) rfl rfl (hb hby d4_8)
  have F16 : Fld Z h16 r0 "java/util/ArrayList" "elementData" "[Ljava/lang/Object;" (.ref sd) := u11_2.same W16
  have Z17 : n0 ≤ h16.size := Nat.le_trans Z12 (Keep.of_wr W16).1
  have K18 : Keep h0 h16 [r0] := K13.wr W16 (Or.inl (List.mem_of_getElem? (i := 0) rfl))
  have N16 := Fr.snoc X16 N11 hp2
  have E19 : Exa Z h16 r0 "java/util/ArrayList" := (u11_1.wr W16)
  have F20 : Fld Z h16 r0 "java/util/ArrayList" "size" "I" (.int (0 : Int32)) := (u11_3.other W16 (Or.inr (sn_java_util_ArrayListsize_java_util_ArrayListelementData hw)))
  obtain ⟨fs, hr, hrun, hended, hW, hsame⟩ := X16.leave (v := none) (fun _ => rfl)
  refine ⟨_, _, pre0 _ ?_, hrun, hended, _, _, rfl, ?_, ⟨_, rfl⟩, hW, hsame.mono (by decide) (by decide)⟩
  · refine XS.aloadN X0.here hx rfl (hb hby d4_0) rfl rfl ?_
    show Steps p.tables e below (s₁.setTop (mkF m 1 #[.val (.ref r0)] [(.ref r0)])) _
    refine st11.trans ?_
    show Steps p.tables e below (T11.setTop (mkF m 4 #[.val (.ref r0)] [])) _
    refine XS.aloadN X11.here hx rfl (hb hby d4_4) rfl rfl ?_
    show Steps p.tables e below (T11.setTop (mkF m 5 #[.val (.ref r0)] [(.ref r0)])) _
    refine st15 _ ?_
    show Steps p.tables e below (T15.setTop (mkF m 8 #[.val (.ref r0)] [(.ref sd), (.ref r0)])) _
    refine st16 _ ?_
    show Steps p.tables e below (T16.setTop (mkF m 11 #[.val (.ref r0)] [])) _
    exact X16.returnOut hx Bd.returns (hb hby d4_11) hr
  · show Q4 Z r0 sd h0 n0 _ T16.heap _
    rw [e16]
    exact ⟨rfl, N16, K18, E19, F20⟩
theorem d2_0 : decode prog_48_method_1_code 0 = .ok (.aload_n 0, 1) := by decide +kernel
theorem d2_1 : decode prog_48_method_1_code 1 = .ok (.invokespecial 1, 3) := by decide +kernel
theorem d2_4 : decode prog_48_method_1_code 4 = .ok (.aload_n 0, 1) := by decide +kernel
theorem d2_5 : decode prog_48_method_1_code 5 = .ok (.new 7, 3) := by decide +kernel
theorem d2_8 : decode prog_48_method_1_code 8 = .ok (.dup, 1) := by decide +kernel
theorem d2_9 : decode prog_48_method_1_code 9 = .ok (.invokespecial 9, 3) := by decide +kernel
theorem d2_12 : decode prog_48_method_1_code 12 = .ok (.putfield 10, 3) := by decide +kernel
theorem d2_15 : decode prog_48_method_1_code 15 = .ok (.aload_n 0, 1) := by decide +kernel
theorem d2_16 : decode prog_48_method_1_code 16 = .ok (.sipush 1024, 3) := by decide +kernel
theorem d2_19 : decode prog_48_method_1_code 19 = .ok (.newarray .int, 2) := by decide +kernel
theorem d2_21 : decode prog_48_method_1_code 21 = .ok (.putfield 16, 3) := by decide +kernel
theorem d2_24 : decode prog_48_method_1_code 24 = .ok (.aload_n 0, 1) := by decide +kernel
theorem d2_25 : decode prog_48_method_1_code 25 = .ok (.sipush 1024, 3) := by decide +kernel
theorem d2_28 : decode prog_48_method_1_code 28 = .ok (.newarray .int, 2) := by decide +kernel
theorem d2_30 : decode prog_48_method_1_code 30 = .ok (.putfield 20, 3) := by decide +kernel
theorem d2_33 : decode prog_48_method_1_code 33 = .ok (.aload_n 0, 1) := by decide +kernel
theorem d2_34 : decode prog_48_method_1_code 34 = .ok (.sipush 1024, 3) := by decide +kernel
theorem d2_37 : decode prog_48_method_1_code 37 = .ok (.newarray .int, 2) := by decide +kernel
theorem d2_39 : decode prog_48_method_1_code 39 = .ok (.putfield 23, 3) := by decide +kernel
theorem d2_42 : decode prog_48_method_1_code 42 = .ok (.return_, 1) := by decide +kernel
theorem pn_2 : plainName "com/example/conceptary/conceptary/SnapshotRows" = true := by first | (simp [plainName, overriddenIn]; done) | decide +kernel
theorem ef_2 (m : MethodId) (r0 : Addr) : entryFrame m #[(.ref r0)] 1 = mkF m 0 #[.val (.ref r0)] [] := by first | (simp [entryFrame, mkF, argsToLocals, Value.category]; done) | rfl
theorem sn_ary_SnapshotRowseffectiveTimes_y_conceptary_SnapshotRowsfiles {Z : State} {a0 : Array Value} (hw : ∀ d ∈ tables_1, d.before a0 Z = true) : Jvm.RoadKit.slotOf Z "com/example/conceptary/conceptary/SnapshotRows" "effectiveTimes" "[I" ≠ Jvm.RoadKit.slotOf Z "com/example/conceptary/conceptary/SnapshotRows" "files" "Ljava/util/List;" := slot_ne (Or.inl (hw _ (List.mem_of_getElem? (i := 43) rfl))) (Or.inr (hw _ (List.mem_of_getElem? (i := 40) rfl))) (by decide) (t := (.array .int)) (t' := (.object "java/util/List")) (by decide) (by decide)
theorem sn_eptary_SnapshotRowsfileIndexes_y_conceptary_SnapshotRowsfiles {Z : State} {a0 : Array Value} (hw : ∀ d ∈ tables_1, d.before a0 Z = true) : Jvm.RoadKit.slotOf Z "com/example/conceptary/conceptary/SnapshotRows" "fileIndexes" "[I" ≠ Jvm.RoadKit.slotOf Z "com/example/conceptary/conceptary/SnapshotRows" "files" "Ljava/util/List;" := slot_ne (Or.inl (hw _ (List.mem_of_getElem? (i := 45) rfl))) (Or.inr (hw _ (List.mem_of_getElem? (i := 40) rfl))) (by decide) (t := (.array .int)) (t' := (.object "java/util/List")) (by decide) (by decide)
theorem sn_eptary_SnapshotRowsfileIndexes_ary_SnapshotRowseffectiveTimes {Z : State} {a0 : Array Value} (hw : ∀ d ∈ tables_1, d.before a0 Z = true) : Jvm.RoadKit.slotOf Z "com/example/conceptary/conceptary/SnapshotRows" "fileIndexes" "[I" ≠ Jvm.RoadKit.slotOf Z "com/example/conceptary/conceptary/SnapshotRows" "effectiveTimes" "[I" := slot_ne (Or.inl (hw _ (List.mem_of_getElem? (i := 45) rfl))) (Or.inl (hw _ (List.mem_of_getElem? (i := 43) rfl))) (by decide) (t := (.array .int)) (t' := (.array .int)) (by decide) (by decide)
theorem sn_y_conceptary_SnapshotRowslines_y_conceptary_SnapshotRowsfiles {Z : State} {a0 : Array Value} (hw : ∀ d ∈ tables_1, d.before a0 Z = true) : Jvm.RoadKit.slotOf Z "com/example/conceptary/conceptary/SnapshotRows" "lines" "[I" ≠ Jvm.RoadKit.slotOf Z "com/example/conceptary/conceptary/SnapshotRows" "files" "Ljava/util/List;" := slot_ne (Or.inl (hw _ (List.mem_of_getElem? (i := 47) rfl))) (Or.inr (hw _ (List.mem_of_getElem? (i := 40) rfl))) (by decide) (t := (.array .int)) (t' := (.object "java/util/List")) (by decide) (by decide)
theorem sn_y_conceptary_SnapshotRowslines_ary_SnapshotRowseffectiveTimes {Z : State} {a0 : Array Value} (hw : ∀ d ∈ tables_1, d.before a0 Z = true) : Jvm.RoadKit.slotOf Z "com/example/conceptary/conceptary/SnapshotRows" "lines" "[I" ≠ Jvm.RoadKit.slotOf Z "com/example/conceptary/conceptary/SnapshotRows" "effectiveTimes" "[I" := slot_ne (Or.inl (hw _ (List.mem_of_getElem? (i := 47) rfl))) (Or.inl (hw _ (List.mem_of_getElem? (i := 43) rfl))) (by decide) (t := (.array .int)) (t' := (.array .int)) (by decide) (by decide)
theorem sn_y_conceptary_SnapshotRowslines_eptary_SnapshotRowsfileIndexes {Z : State} {a0 : Array Value} (hw : ∀ d ∈ tables_1, d.before a0 Z = true) : Jvm.RoadKit.slotOf Z "com/example/conceptary/conceptary/SnapshotRows" "lines" "[I" ≠ Jvm.RoadKit.slotOf Z "com/example/conceptary/conceptary/SnapshotRows" "fileIndexes" "[I" := slot_ne (Or.inl (hw _ (List.mem_of_getElem? (i := 47) rfl))) (Or.inl (hw _ (List.mem_of_getElem? (i := 45) rfl))) (by decide) (t := (.array .int)) (t' := (.array .int)) (by decide) (by decide)
theorem sn_y_conceptary_SnapshotRowsfiles_ary_SnapshotRowseffectiveTimes {Z : State} {a0 : Array Value} (hw : ∀ d ∈ tables_1, d.before a0 Z = true) : Jvm.RoadKit.slotOf Z "com/example/conceptary/conceptary/SnapshotRows" "files" "Ljava/util/List;" ≠ Jvm.RoadKit.slotOf Z "com/example/conceptary/conceptary/SnapshotRows" "effectiveTimes" "[I" := slot_ne (Or.inr (hw _ (List.mem_of_getElem? (i := 40) rfl))) (Or.inl (hw _ (List.mem_of_getElem? (i := 43) rfl))) (by decide) (t := (.object "java/util/List")) (t' := (.array .int)) (by decide) (by decide)
theorem sn_y_conceptary_SnapshotRowsfiles_eptary_SnapshotRowsfileIndexes {Z : State} {a0 : Array Value} (hw : ∀ d ∈ tables_1, d.before a0 Z = true) : Jvm.RoadKit.slotOf Z "com/example/conceptary/conceptary/SnapshotRows" "files" "Ljava/util/List;" ≠ Jvm.RoadKit.slotOf Z "com/example/conceptary/conceptary/SnapshotRows" "fileIndexes" "[I" := slot_ne (Or.inr (hw _ (List.mem_of_getElem? (i := 40) rfl))) (Or.inl (hw _ (List.mem_of_getElem? (i := 45) rfl))) (by decide) (t := (.object "java/util/List")) (t' := (.array .int)) (by decide) (by decide)
theorem sn_y_conceptary_SnapshotRowsfiles_y_conceptary_SnapshotRowslines {Z : State} {a0 : Array Value} (hw : ∀ d ∈ tables_1, d.before a0 Z = true) : Jvm.RoadKit.slotOf Z "com/example/conceptary/conceptary/SnapshotRows" "files" "Ljava/util/List;" ≠ Jvm.RoadKit.slotOf Z "com/example/conceptary/conceptary/SnapshotRows" "lines" "[I" := slot_ne (Or.inr (hw _ (List.mem_of_getElem? (i := 40) rfl))) (Or.inl (hw _ (List.mem_of_getElem? (i := 47) rfl))) (by decide) (t := (.object "java/util/List")) (t' := (.array .int)) (by decide) (by decide)
theorem sn_ary_SnapshotRowseffectiveTimes_eptary_SnapshotRowsfileIndexes {Z : State} {a0 : Array Value} (hw : ∀ d ∈ tables_1, d.before a0 Z = true) : Jvm.RoadKit.slotOf Z "com/example/conceptary/conceptary/SnapshotRows" "effectiveTimes" "[I" ≠ Jvm.RoadKit.slotOf Z "com/example/conceptary/conceptary/SnapshotRows" "fileIndexes" "[I" := slot_ne (Or.inl (hw _ (List.mem_of_getElem? (i := 43) rfl))) (Or.inl (hw _ (List.mem_of_getElem? (i := 45) rfl))) (by decide) (t := (.array .int)) (t' := (.array .int)) (by decide) (by decide)
theorem sn_ary_SnapshotRowseffectiveTimes_y_conceptary_SnapshotRowslines {Z : State} {a0 : Array Value} (hw : ∀ d ∈ tables_1, d.before a0 Z = true) : Jvm.RoadKit.slotOf Z "com/example/conceptary/conceptary/SnapshotRows" "effectiveTimes" "[I" ≠ Jvm.RoadKit.slotOf Z "com/example/conceptary/conceptary/SnapshotRows" "lines" "[I" := slot_ne (Or.inl (hw _ (List.mem_of_getElem? (i := 43) rfl))) (Or.inl (hw _ (List.mem_of_getElem? (i := 47) rfl))) (by decide) (t := (.array .int)) (t' := (.array .int)) (by decide) (by decide)
theorem sn_eptary_SnapshotRowsfileIndexes_y_conceptary_SnapshotRowslines {Z : State} {a0 : Array Value} (hw : ∀ d ∈ tables_1, d.before a0 Z = true) : Jvm.RoadKit.slotOf Z "com/example/conceptary/conceptary/SnapshotRows" "fileIndexes" "[I" ≠ Jvm.RoadKit.slotOf Z "com/example/conceptary/conceptary/SnapshotRows" "lines" "[I" := slot_ne (Or.inl (hw _ (List.mem_of_getElem? (i := 45) rfl))) (Or.inl (hw _ (List.mem_of_getElem? (i := 47) rfl))) (by decide) (t := (.array .int)) (t' := (.array .int)) (by decide) (by decide)
theorem sn_ry_conceptary_SnapshotRowssize_y_conceptary_SnapshotRowsfiles {Z : State} {a0 : Array Value} (hw : ∀ d ∈ tables_1, d.before a0 Z = true) : Jvm.RoadKit.slotOf Z "com/example/conceptary/conceptary/SnapshotRows" "size" "I" ≠ Jvm.RoadKit.slotOf Z "com/example/conceptary/conceptary/SnapshotRows" "files" "Ljava/util/List;" := slot_ne (Or.inl (hw _ (List.mem_of_getElem? (i := 97) rfl))) (Or.inr (hw _ (List.mem_of_getElem? (i := 40) rfl))) (by decide) (t := .int) (t' := (.object "java/util/List")) (by decide) (by decide)
theorem sn_ry_conceptary_SnapshotRowssize_ary_SnapshotRowseffectiveTimes {Z : State} {a0 : Array Value} (hw : ∀ d ∈ tables_1, d.before a0 Z = true) : Jvm.RoadKit.slotOf Z "com/example/conceptary/conceptary/SnapshotRows" "size" "I" ≠ Jvm.RoadKit.slotOf Z "com/example/conceptary/conceptary/SnapshotRows" "effectiveTimes" "[I" := slot_ne (Or.inl (hw _ (List.mem_of_getElem? (i := 97) rfl))) (Or.inl (hw _ (List.mem_of_getElem? (i := 43) rfl))) (by decide) (t := .int) (t' := (.array .int)) (by decide) (by decide)
theorem sn_ry_conceptary_SnapshotRowssize_eptary_SnapshotRowsfileIndexes {Z : State} {a0 : Array Value} (hw : ∀ d ∈ tables_1, d.before a0 Z = true) : Jvm.RoadKit.slotOf Z "com/example/conceptary/conceptary/SnapshotRows" "size" "I" ≠ Jvm.RoadKit.slotOf Z "com/example/conceptary/conceptary/SnapshotRows" "fileIndexes" "[I" := slot_ne (Or.inl (hw _ (List.mem_of_getElem? (i := 97) rfl))) (Or.inl (hw _ (List.mem_of_getElem? (i := 45) rfl))) (by decide) (t := .int) (t' := (.array .int)) (by decide) (by decide)
theorem sn_ry_conceptary_SnapshotRowssize_y_conceptary_SnapshotRowslines {Z : State} {a0 : Array Value} (hw : ∀ d ∈ tables_1, d.before a0 Z = true) : Jvm.RoadKit.slotOf Z "com/example/conceptary/conceptary/SnapshotRows" "size" "I" ≠ Jvm.RoadKit.slotOf Z "com/example/conceptary/conceptary/SnapshotRows" "lines" "[I" := slot_ne (Or.inl (hw _ (List.mem_of_getElem? (i := 97) rfl))) (Or.inl (hw _ (List.mem_of_getElem? (i := 47) rfl))) (by decide) (t := .int) (t' := (.array .int)) (by decide) (by decide)
theorem sn_eptary_ConceptTable_Builderids_y_conceptary_SnapshotRowsfiles {Z : State} {a0 : Array Value} (hw : ∀ d ∈ tables_1, d.before a0 Z = true) : Jvm.RoadKit.slotOf Z "com/example/conceptary/conceptary/ConceptTable$Builder" "ids" "[J" ≠ Jvm.RoadKit.slotOf Z "com/example/conceptary/conceptary/SnapshotRows" "files" "Ljava/util/List;" := slot_ne (Or.inl (hw _ (List.mem_of_getElem? (i := 50) rfl))) (Or.inr (hw _ (List.mem_of_getElem? (i := 40) rfl))) (by decide) (t := (.array .long)) (t' := (.object "java/util/List")) (by decide) (by decide)
theorem sn_eptary_ConceptTable_Builderids_ary_SnapshotRowseffectiveTimes {Z : State} {a0 : Array Value} (hw : ∀ d ∈ tables_1, d.before a0 Z = true) : Jvm.RoadKit.slotOf Z "com/example/conceptary/conceptary/ConceptTable$Builder" "ids" "[J" ≠ Jvm.RoadKit.slotOf Z "com/example/conceptary/conceptary/SnapshotRows" "effectiveTimes" "[I" := slot_ne (Or.inl (hw _ (List.mem_of_getElem? (i := 50) rfl))) (Or.inl (hw _ (List.mem_of_getElem? (i := 43) rfl))) (by decide) (t := (.array .long)) (t' := (.array .int)) (by decide) (by decide)
theorem sn_eptary_ConceptTable_Builderids_eptary_SnapshotRowsfileIndexes {Z : State} {a0 : Array Value} (hw : ∀ d ∈ tables_1, d.before a0 Z = true) : Jvm.RoadKit.slotOf Z "com/example/conceptary/conceptary/ConceptTable$Builder" "ids" "[J" ≠ Jvm.RoadKit.slotOf Z "com/example/conceptary/conceptary/SnapshotRows" "fileIndexes" "[I" := slot_ne (Or.inl (hw _ (List.mem_of_getElem? (i := 50) rfl))) (Or.inl (hw _ (List.mem_of_getElem? (i := 45) rfl))) (by decide) (t := (.array .long)) (t' := (.array .int)) (by decide) (by decide)
theorem sn_eptary_ConceptTable_Builderids_y_conceptary_SnapshotRowslines {Z : State} {a0 : Array Value} (hw : ∀ d ∈ tables_1, d.before a0 Z = true) : Jvm.RoadKit.slotOf Z "com/example/conceptary/conceptary/ConceptTable$Builder" "ids" "[J" ≠ Jvm.RoadKit.slotOf Z "com/example/conceptary/conceptary/SnapshotRows" "lines" "[I" := slot_ne (Or.inl (hw _ (List.mem_of_getElem? (i := 50) rfl))) (Or.inl (hw _ (List.mem_of_getElem? (i := 47) rfl))) (by decide) (t := (.array .long)) (t' := (.array .int)) (by decide) (by decide)
theorem sn_ry_ConceptTable_Builderactives_y_conceptary_SnapshotRowsfiles {Z : State} {a0 : Array Value} (hw : ∀ d ∈ tables_1, d.before a0 Z = true) : Jvm.RoadKit.slotOf Z "com/example/conceptary/conceptary/ConceptTable$Builder" "actives" "[Z" ≠ Jvm.RoadKit.slotOf Z "com/example/conceptary/conceptary/SnapshotRows" "files" "Ljava/util/List;" := slot_ne (Or.inl (hw _ (List.mem_of_getElem? (i := 53) rfl))) (Or.inr (hw _ (List.mem_of_getElem? (i := 40) rfl))) (by decide) (t := (.array .boolean)) (t' := (.object "java/util/List")) (by decide) (by decide)
theorem sn_ry_ConceptTable_Builderactives_ary_SnapshotRowseffectiveTimes {Z : State} {a0 : Array Value} (hw : ∀ d ∈ tables_1, d.before a0 Z = true) : Jvm.RoadKit.slotOf Z "com/example/conceptary/conceptary/ConceptTable$Builder" "actives" "[Z" ≠ Jvm.RoadKit.slotOf Z "com/example/conceptary/conceptary/SnapshotRows" "effectiveTimes" "[I" := slot_ne (Or.inl (hw _ (List.mem_of_getElem? (i := 53) rfl))) (Or.inl (hw _ (List.mem_of_getElem? (i := 43) rfl))) (by decide) (t := (.array .boolean)) (t' := (.array .int)) (by decide) (by decide)
theorem sn_ry_ConceptTable_Builderactives_eptary_SnapshotRowsfileIndexes {Z : State} {a0 : Array Value} (hw : ∀ d ∈ tables_1, d.before a0 Z = true) : Jvm.RoadKit.slotOf Z "com/example/conceptary/conceptary/ConceptTable$Builder" "actives" "[Z" ≠ Jvm.RoadKit.slotOf Z "com/example/conceptary/conceptary/SnapshotRows" "fileIndexes" "[I" := slot_ne (Or.inl (hw _ (List.mem_of_getElem? (i := 53) rfl))) (Or.inl (hw _ (List.mem_of_getElem? (i := 45) rfl))) (by decide) (t := (.array .boolean)) (t' := (.array .int)) (by decide) (by decide)
theorem sn_ry_ConceptTable_Builderactives_y_conceptary_SnapshotRowslines {Z : State} {a0 : Array Value} (hw : ∀ d ∈ tables_1, d.before a0 Z = true) : Jvm.RoadKit.slotOf Z "com/example/conceptary/conceptary/ConceptTable$Builder" "actives" "[Z" ≠ Jvm.RoadKit.slotOf Z "com/example/conceptary/conceptary/SnapshotRows" "lines" "[I" := slot_ne (Or.inl (hw _ (List.mem_of_getElem? (i := 53) rfl))) (Or.inl (hw _ (List.mem_of_getElem? (i := 47) rfl))) (by decide) (t := (.array .boolean)) (t' := (.array .int)) (by decide) (by decide)
theorem sn__ConceptTable_BuildermoduleIds_y_conceptary_SnapshotRowsfiles {Z : State} {a0 : Array Value} (hw : ∀ d ∈ tables_1, d.before a0 Z = true) : Jvm.RoadKit.slotOf Z "com/example/conceptary/conceptary/ConceptTable$Builder" "moduleIds" "[J" ≠ Jvm.RoadKit.slotOf Z "com/example/conceptary/conceptary/SnapshotRows" "files" "Ljava/util/List;" := slot_ne (Or.inl (hw _ (List.mem_of_getElem? (i := 55) rfl))) (Or.inr (hw _ (List.mem_of_getElem? (i := 40) rfl))) (by decide) (t := (.array .long)) (t' := (.object "java/util/List")) (by decide) (by decide)
theorem sn__ConceptTable_BuildermoduleIds_ary_SnapshotRowseffectiveTimes {Z : State} {a0 : Array Value} (hw : ∀ d ∈ tables_1, d.before a0 Z = true) : Jvm.RoadKit.slotOf Z "com/example/conceptary/conceptary/ConceptTable$Builder" "moduleIds" "[J" ≠ Jvm.RoadKit.slotOf Z "com/example/conceptary/conceptary/SnapshotRows" "effectiveTimes" "[I" := slot_ne (Or.inl (hw _ (List.mem_of_getElem? (i := 55) rfl))) (Or.inl (hw _ (List.mem_of_getElem? (i := 43) rfl))) (by decide) (t := (.array .long)) (t' := (.array .int)) (by decide) (by decide)
theorem sn__ConceptTable_BuildermoduleIds_eptary_SnapshotRowsfileIndexes {Z : State} {a0 : Array Value} (hw : ∀ d ∈ tables_1, d.before a0 Z = true) : Jvm.RoadKit.slotOf Z "com/example/conceptary/conceptary/ConceptTable$Builder" "moduleIds" "[J" ≠ Jvm.RoadKit.slotOf Z "com/example/conceptary/conceptary/SnapshotRows" "fileIndexes" "[I" := slot_ne (Or.inl (hw _ (List.mem_of_getElem? (i := 55) rfl))) (Or.inl (hw _ (List.mem_of_getElem? (i := 45) rfl))) (by decide) (t := (.array .long)) (t' := (.array .int)) (by decide) (by decide)
theorem sn__ConceptTable_BuildermoduleIds_y_conceptary_SnapshotRowslines {Z : State} {a0 : Array Value} (hw : ∀ d ∈ tables_1, d.before a0 Z = true) : Jvm.RoadKit.slotOf Z "com/example/conceptary/conceptary/ConceptTable$Builder" "moduleIds" "[J" ≠ Jvm.RoadKit.slotOf Z "com/example/conceptary/conceptary/SnapshotRows" "lines" "[I" := slot_ne (Or.inl (hw _ (List.mem_of_getElem? (i := 55) rfl))) (Or.inl (hw _ (List.mem_of_getElem? (i := 47) rfl))) (by decide) (t := (.array .long)) (t' := (.array .int)) (by decide) (by decide)
theorem sn_ble_BuilderdefinitionStatusIds_y_conceptary_SnapshotRowsfiles {Z : State} {a0 : Array Value} (hw : ∀ d ∈ tables_1, d.before a0 Z = true) : Jvm.RoadKit.slotOf Z "com/example/conceptary/conceptary/ConceptTable$Builder" "definitionStatusIds" "[J" ≠ Jvm.RoadKit.slotOf Z "com/example/conceptary/conceptary/SnapshotRows" "files" "Ljava/util/List;" := slot_ne (Or.inl (hw _ (List.mem_of_getElem? (i := 57) rfl))) (Or.inr (hw _ (List.mem_of_getElem? (i := 40) rfl))) (by decide) (t := (.array .long)) (t' := (.object "java/util/List")) (by decide) (by decide)
theorem sn_ble_BuilderdefinitionStatusIds_ary_SnapshotRowseffectiveTimes {Z : State} {a0 : Array Value} (hw : ∀ d ∈ tables_1, d.before a0 Z = true) : Jvm.RoadKit.slotOf Z "com/example/conceptary/conceptary/ConceptTable$Builder" "definitionStatusIds" "[J" ≠ Jvm.RoadKit.slotOf Z "com/example/conceptary/conceptary/SnapshotRows" "effectiveTimes" "[I" := slot_ne (Or.inl (hw _ (List.mem_of_getElem? (i := 57) rfl))) (Or.inl (hw _ (List.mem_of_getElem? (i := 43) rfl))) (by decide) (t := (.array .long)) (t' := (.array .int)) (by decide) (by decide)
theorem sn_ble_BuilderdefinitionStatusIds_eptary_SnapshotRowsfileIndexes {Z : State} {a0 : Array Value} (hw : ∀ d ∈ tables_1, d.before a0 Z = true) : Jvm.RoadKit.slotOf Z "com/example/conceptary/conceptary/ConceptTable$Builder" "definitionStatusIds" "[J" ≠ Jvm.RoadKit.slotOf Z "com/example/conceptary/conceptary/SnapshotRows" "fileIndexes" "[I" := slot_ne (Or.inl (hw _ (List.mem_of_getElem? (i := 57) rfl))) (Or.inl (hw _ (List.mem_of_getElem? (i := 45) rfl))) (by decide) (t := (.array .long)) (t' := (.array .int)) (by decide) (by decide)
theorem sn_ble_BuilderdefinitionStatusIds_y_conceptary_SnapshotRowslines {Z : State} {a0 : Array Value} (hw : ∀ d ∈ tables_1, d.before a0 Z = true) : Jvm.RoadKit.slotOf Z "com/example/conceptary/conceptary/ConceptTable$Builder" "definitionStatusIds" "[J" ≠ Jvm.RoadKit.slotOf Z "com/example/conceptary/conceptary/SnapshotRows" "lines" "[I" := slot_ne (Or.inl (hw _ (List.mem_of_getElem? (i := 57) rfl))) (Or.inl (hw _ (List.mem_of_getElem? (i := 47) rfl))) (by decide) (t := (.array .long)) (t' := (.array .int)) (by decide) (by decide)
def Q2 (Z : State) (r0 : Addr) (sd : Addr) (h0 : Heap) (n0 : Nat) (v : Option Value) (h : Heap) (L : List Loc) : Prop := ∃ fb : Addr, ∃ e1 : Addr, ∃ e2 : Addr, ∃ e3 : Addr, v = none ∧ Fr n0 L ∧ Keep h0 h [r0] ∧ Exa Z h r0 "com/example/conceptary/conceptary/ConceptTable$Builder" ∧ Fld Z h r0 "com/example/conceptary/conceptary/SnapshotRows" "files" "Ljava/util/List;" (.ref fb) ∧ Fld Z h r0 "com/example/conceptary/conceptary/SnapshotRows" "effectiveTimes" "[I" (.ref e1) ∧ Fld Z h r0 "com/example/conceptary/conceptary/SnapshotRows" "fileIndexes" "[I" (.ref e2) ∧ Fld Z h r0 "com/example/conceptary/conceptary/SnapshotRows" "lines" "[I" (.ref e3) ∧ Fld Z h r0 "com/example/conceptary/conceptary/SnapshotRows" "size" "I" (.int (0 : Int32)) ∧ Fld Z h r0 "com/example/conceptary/conceptary/ConceptTable$Builder" "ids" "[J" .null ∧ Fld Z h r0 "com/example/conceptary/conceptary/ConceptTable$Builder" "actives" "[Z" .null ∧ Fld Z h r0 "com/example/conceptary/conceptary/ConceptTable$Builder" "moduleIds" "[J" .null ∧ Fld Z h r0 "com/example/conceptary/conceptary/ConceptTable$Builder" "definitionStatusIds" "[J" .null ∧ Exa Z h fb "java/util/ArrayList" ∧ Fld Z h fb "java/util/ArrayList" "size" "I" (.int (0 : Int32)) ∧ AI Z h e1 .int (1024 : Int32) (fun _ => (0 : Int32)) ∧ AI Z h e2 .int (1024 : Int32) (fun _ => (0 : Int32)) ∧ AI Z h e3 .int (1024 : Int32) (fun _ => (0 : Int32)) ∧ h0.size ≤ fb ∧ h0.size ≤ e1 ∧ h0.size ≤ e2 ∧ h0.size ≤ e3 ∧ fb ≠ e1 ∧ fb ≠ e2 ∧ fb ≠ e3 ∧ e1 ≠ e2 ∧ e1 ≠ e3 ∧ e2 ≠ e3
set_option maxRecDepth 65536 in
set_option maxHeartbeats 40000000 in
theorem rm2 (l : Launch) (Z : State) (a0 : Array Value) (hw : ∀ d ∈ tables_1, d.before a0 Z = true) (ws : List Jvm.Cond) (r0 : Addr) (sd : Addr) (h0 : Heap) (n0 : Nat) (Z0 : n0 ≤ h0.size) (hp0 : Exa Z h0 r0 "com/example/conceptary/conceptary/ConceptTable$Builder") (hp1 : Fld Z h0 r0 "com/example/conceptary/conceptary/SnapshotRows" "files" "Ljava/util/List;" .null) (hp2 : Fld Z h0 r0 "com/example/conceptary/conceptary/SnapshotRows" "effectiveTimes" "[I" .null) (hp3 : Fld Z h0 r0 "com/example/conceptary/conceptary/SnapshotRows" "fileIndexes" "[I" .null) (hp4 : Fld Z h0 r0 "com/example/conceptary/conceptary/SnapshotRows" "lines" "[I" .null) (hp5 : Fld Z h0 r0 "com/example/conceptary/conceptary/SnapshotRows" "size" "I" (.int (0 : Int32))) (hp6 : Fld Z h0 r0 "com/example/conceptary/conceptary/ConceptTable$Builder" "ids" "[J" .null) (hp7 : Fld Z h0 r0 "com/example/conceptary/conceptary/ConceptTable$Builder" "actives" "[Z" .null) (hp8 : Fld Z h0 r0 "com/example/conceptary/conceptary/ConceptTable$Builder" "moduleIds" "[J" .null) (hp9 : Fld Z h0 r0 "com/example/conceptary/conceptary/ConceptTable$Builder" "definitionStatusIds" "[J" .null) (hp10 : n0 ≤ r0) (hp11 : Sta Z h0 "java/util/ArrayList" "DEFAULTCAPACITY_EMPTY_ELEMENTDATA" "[Ljava/lang/Object;" (.ref sd)) :
    MetFree l (⟨"com/example/conceptary/conceptary/SnapshotRows", "<init>", "()V"⟩ : MethodName) (head1 (Jvm.Cond.code (⟨"com/example/conceptary/conceptary/SnapshotRows", "<init>", "()V"⟩ : MethodName) prog_48_method_1_code 1 none :: ws) ({ frames := 4, cells := 4, slots := 3075, locals := 50 } : Room)) (fun a U => a = #[(.ref r0)] ∧ Z.Warmed39 U.vm ∧ U.heap = h0) (fun _ _ _ _ _ => True) (fun _ U o U' => ∃ v L, o = .returned v ∧ Q2 Z r0 sd h0 n0 v U'.heap L ∧ FrameEnd U o U' L ({ frames := 4, cells := 4, slots := 3075, locals := 50 } : Room).cells ({ frames := 4, cells := 4, slots := 3075, locals := 50 } : Room).slots) := by
  refine MetFree.of_bodySF (plainFor_of_name pn_2) hisR ?_
  intro p e s m args below meth c s₁ Bd hml0 hP hK
  obtain ⟨rfl, hZ, hh⟩ := hP
  have hx := Bd.exec
  have hby := Bd.bytes
  have hml : c.maxLocals = 1 := hml0
  have hown : s.vm.findClass "com/example/conceptary/conceptary/SnapshotRows" = some m.cls := findClass_of_methodNamed Bd.named
  have hnm := (name_of_methodNamed Bd.named Bd.method).1
  have X0 : Stand p l e ({ frames := 4, cells := 4, slots := 3075, locals := 50 } : Room) s m #[(.ref r0)] below meth c s₁ [] 0 0 := Stand.of_body Bd
  have e0 : s₁.heap = h0 := by rw [← hh, Bd.state]; rfl
  have N0 := Fr.nil n0
  have pre0 : ∀ t, Steps p.tables e below (s₁.setTop (mkF m 0 #[.val (.ref r0)] [])) t → Steps p.tables e below (s₁.setTop (entryFrame m #[(.ref r0)] 1)) t := fun t k => castTop (ef_2 m r0) k
  obtain ⟨T11, X11, e11, st11⟩ := initO X0 hx hZ hown (hw _ (List.mem_of_getElem? (i := 12) rfl)) (hw _ (List.mem_of_getElem? (i := 13) rfl)) (hw _ (List.mem_of_getElem? (i := 14) rfl)) e0 (g := (mkF m 1 #[.val (.ref r0)] [(.ref r0)])) rfl (by rw [hml]; rfl) rfl (hb hby d2_1) (by decide) (W := 0) (by show 2 * 0 + _ ≤ _; exact Nat.le_of_eq rfl) (by decide)
  obtain ⟨T12, h12, X12, e12, E12, A12, D12, -, st12⟩ := newO X11 hx hZ hown (hw _ (List.mem_of_getElem? (i := 15) rfl)) (hw _ (List.mem_of_getElem? (i := 16) rfl)) (hw _ (List.mem_of_getElem? (i := 17) rfl)) e11 (g := (mkF m 5 #[.val (.ref r0)] [(.ref r0)])) rfl (hb hby d2_5) (by decide) (by decide)
  obtain ⟨b12, gb12⟩ : ∃ z, z = h0.size := ⟨_, rfl⟩
  rw [← gb12] at A12 D12 st12
  have ne13 : r0 ≠ b12 := Nat.ne_of_lt (Nat.lt_of_lt_of_le hp0.lt (Nat.le_of_eq gb12.symm))
  have g14 : n0 ≤ b12 := Nat.le_trans Z0 (Nat.le_of_eq gb12.symm)
  have z15 : h0.size ≤ b12 := Nat.le_trans (Keep.refl h0 [r0]).1 (Nat.le_of_eq gb12.symm)
  have Z16 : n0 ≤ h12.size := Nat.le_trans Z0 E12.1
  have K17 : Keep h0 h12 [r0] := (Keep.refl h0 [r0]).ext E12
  have F12_modCount : Fld Z h12 b12 "java/util/AbstractList" "modCount" "I" (.int (0 : Int32)) := D12 (Or.inl (hw _ (List.mem_of_getElem? (i := 35) rfl))) (ty := .int) (by decide)
  have F12_elementData : Fld Z h12 b12 "java/util/ArrayList" "elementData" "[Ljava/lang/Object;" .null := D12 (Or.inl (hw _ (List.mem_of_getElem? (i := 38) rfl))) (ty := (.array (.object "java/lang/Object"))) (by decide)
  have F12_size : Fld Z h12 b12 "java/util/ArrayList" "size" "I" (.int (0 : Int32)) := D12 (Or.inl (hw _ (List.mem_of_getElem? (i := 108) rfl))) (ty := .int) (by decide)
  have S19 : Sta Z h12 "java/util/ArrayList" "DEFAULTCAPACITY_EMPTY_ELEMENTDATA" "[Ljava/lang/Object;" (.ref sd) := (hp11.ext E12)
  obtain ⟨_, _, ⟨T18, L18, k18, n18⟩, -, X18, ⟨Lc18, hQ18, l18, y18, z18⟩, st18⟩ := X12.specialBack hx (y := (⟨"java/util/ArrayList", "<init>", "()V"⟩ : MethodName)) rfl hown (mvT hZ (hw _ (List.mem_of_getElem? (i := 18) rfl))) (mvT hZ (hw _ (List.mem_of_getElem? (i := 19) rfl))) (mvT hZ (hw _ (List.mem_of_getElem? (i := 20) rfl))) (by decide) (backOf (W := 2) (rm4 l Z a0 hw [] b12 sd h12 n0 Z16 A12 F12_modCount g14 F12_elementData F12_size S19) hZ (hw _ (List.mem_of_getElem? (i := 20) rfl)) (hw _ (List.mem_of_getElem? (i := 17) rfl)) (by decide) (by decide)) (g := (mkF m 9 #[.val (.ref r0)] [(.ref b12), (.ref b12), (.ref r0)])) rfl (by rw [hml]; rfl) (Steps.refl _) (a := b12) (argsL := []) (rest := [(.ref b12), (.ref r0)]) (lenOf pd_0 rfl) rfl (by show 2 * 0 + _ ≤ _; exact Nat.le_of_eq rfl) (hb hby d2_9) (fun _ _ => ⟨rfl, e12, (by decide : 1 + 0 ≤ _), (by decide : 3 + 0 ≤ _)⟩)
  dsimp only [Pt.U, Pt.locs, Pt.cells, Pt.slots] at X18 l18 y18 z18 st18 hQ18
  subst l18 y18 z18
  obtain ⟨rfl, Nq18, u18_0, u18_1, u18_2⟩ := hQ18
  have N18 := Fr.app N0 Nq18
  have Z20 : n0 ≤ T18.heap.size := Nat.le_trans Z16 u18_0.1
  have K21 : Keep h0 T18.heap [r0] := K17.trans u18_0 (allS (Or.inr z15) all0)
  have E22 : Exa Z T18.heap r0 "com/example/conceptary/conceptary/ConceptTable$Builder" := ((hp0.ext E12).keep u18_0)
  have F23 : Fld Z T18.heap r0 "com/example/conceptary/conceptary/SnapshotRows" "files" "Ljava/util/List;" .null := ((hp1.ext E12).keep u18_0 (ninS ne13 nin0))
  obtain ⟨T24, h24, X24, e24, W24, st24⟩ := putF X18 hx hZ hown (host := "") (Or.inl (hw _ (List.mem_of_getElem? (i := 39) rfl))) Via.refl rfl F23 E22 (Or.inr ⟨(hw _ (List.mem_of_getElem? (i := 40) rfl)), rfl, hnm⟩) (hw _ (List.mem_of_getElem? (i := 2) rfl)) (ty := (.object "java/util/List")) (by decide) rfl rfl (g := (mkF m 12 #[.val (.ref r0)] [(.ref b12), (.ref r0)])) rfl rfl (hb hby d2_12)
  have F24 : Fld Z h24 r0 "com/example/conceptary/conceptary/SnapshotRows" "files" "Ljava/util/List;" (.ref b12) := F23.same W24
  have Z25 : n0 ≤ h24.size := Nat.le_trans Z20 (Keep.of_wr W24).1
  have K26 : Keep h0 h24 [r0] := K21.wr W24 (Or.inl (List.mem_of_getElem? (i := 0) rfl))
  have N24 := Fr.snoc X24 N18 hp10
  obtain ⟨T27, h27, k27, X27, e27, E27, A27, st27⟩ := newP X24 hx hZ (hw _ (List.mem_of_getElem? (i := 41) rfl)) e24 (g := (mkF m 19 #[.val (.ref r0)] [(.int (1024 : Int32)), (.ref r0)])) rfl (hb hby d2_19) rfl (by decide) (cap := 1024) (by decide) (by decide) (by decide) (by decide)
  obtain ⟨b27, gb27⟩ : ∃ z, z = h24.size := ⟨_, rfl⟩
  rw [← gb27] at A27 st27
  have E29 : Exa Z h24 r0 "com/example/conceptary/conceptary/ConceptTable$Builder" := (E22.wr W24)
  have ne28 : r0 ≠ b27 := Nat.ne_of_lt (Nat.lt_of_lt_of_le E29.lt (Nat.le_of_eq gb27.symm))
  have E31 : Exa Z h24 b12 "java/util/ArrayList" := (u18_1.wr W24)
  have ne30 : b12 ≠ b27 := Nat.ne_of_lt (Nat.lt_of_lt_of_le E31.lt (Nat.le_of_eq gb27.symm))
  have g32 : n0 ≤ b27 := Nat.le_trans Z25 (Nat.le_of_eq gb27.symm)
  have z33 : h0.size ≤ b27 := Nat.le_trans K26.1 (Nat.le_of_eq gb27.symm)
  have Z34 : n0 ≤ h27.size := Nat.le_trans Z25 E27.1
  have K35 : Keep h0 h27 [r0] := K26.ext E27
  have V27 : AI Z h27 b27 .int (1024 : Int32) (fun _ => (0 : Int32)) := AI.new rfl A27 (by decide)
  have E36 : Exa Z h27 r0 "com/example/conceptary/conceptary/ConceptTable$Builder" := (E29.ext E27)
  have F37 : Fld Z h27 r0 "com/example/conceptary/conceptary/SnapshotRows" "effectiveTimes" "[I" .null := ((((hp2.ext E12).keep u18_0 (ninS ne13 nin0)).other W24 (Or.inr (sn_ary_SnapshotRowseffectiveTimes_y_conceptary_SnapshotRowsfiles hw))).ext E27)
  obtain ⟨T38, h38, X38, e38, W38, st38⟩ := putF X27 hx hZ hown (host := "") (Or.inl (hw _ (List.mem_of_getElem? (i := 42) rfl))) Via.refl e27 F37 E36 (Or.inl (hw _ (List.mem_of_getElem? (i := 43) rfl))) (hw _ (List.mem_of_getElem? (i := 2) rfl)) (ty := (.array .int)) (by decide) rfl rfl (g := (mkF m 21 #[.val (.ref r0)] [(.ref b27), (.ref r0)])) rfl rfl (hb hby d2_21)
  have F38 : Fld Z h38 r0 "com/example/conceptary/conceptary/SnapshotRows" "effectiveTimes" "[I" (.ref b27) := F37.same W38
  have Z39 : n0 ≤ h38.size := Nat.le_trans Z34 (Keep.of_wr W38).1
  have K40 : Keep h0 h38 [r0] := K35.wr W38 (Or.inl (List.mem_of_getElem? (i := 0) rfl))
  have N38 := Fr.snoc X38 N24 hp10
  obtain ⟨T41, h41, k41, X41, e41, E41, A41, st41⟩ := newP X38 hx hZ (hw _ (List.mem_of_getElem? (i := 41) rfl)) e38 (g := (mkF m 28 #[.val (.ref r0)] [(.int (1024 : Int32)), (.ref r0)])) rfl (hb hby d2_28) rfl (by decide) (cap := 1024) (by decide) (by decide) (by decide) (by decide)
  obtain ⟨b41, gb41⟩ : ∃ z, z = h38.size := ⟨_, rfl⟩
  rw [← gb41] at A41 st41
  have E43 : Exa Z h38 r0 "com/example/conceptary/conceptary/ConceptTable$Builder" := (E36.wr W38)
  have ne42 : r0 ≠ b41 := Nat.ne_of_lt (Nat.lt_of_lt_of_le E43.lt (Nat.le_of_eq gb41.symm))
  have E45 : Exa Z h38 b12 "java/util/ArrayList" := ((E31.ext E27).wr W38)
  have ne44 : b12 ≠ b41 := Nat.ne_of_lt (Nat.lt_of_lt_of_le E45.lt (Nat.le_of_eq gb41.symm))
  have V47 : AI Z h38 b27 .int (1024 : Int32) (fun _ => (0 : Int32)) := (V27.other W38 (Ne.symm ne28))
  have ne46 : b27 ≠ b41 := Nat.ne_of_lt (Nat.lt_of_lt_of_le V47.lt (Nat.le_of_eq gb41.symm))
  have g48 : n0 ≤ b41 := Nat.le_trans Z39 (Nat.le_of_eq gb41.symm)
  have z49 : h0.size ≤ b41 := Nat.le_trans K40.1 (Nat.le_of_eq gb41.symm)
  have Z50 : n0 ≤ h41.size := Nat.le_trans Z39 E41.1
  have K51 : Keep h0 h41 [r0] := K40.ext E41
  have V41 : AI Z h41 b41 .int (1024 : Int32) (fun _ => (0 : Int32)) := AI.new rfl A41 (by decide)
  have E52 : Exa Z h41 r0 "com/example/conceptary/conceptary/ConceptTable$Builder" := (E43.ext E41)
  have F53 : Fld Z h41 r0 "com/example/conceptary/conceptary/SnapshotRows" "fileIndexes" "[I" .null := ((((((hp3.ext E12).keep u18_0 (ninS ne13 nin0)).other W24 (Or.inr (sn_eptary_SnapshotRowsfileIndexes_y_conceptary_SnapshotRowsfiles hw))).ext E27).other W38 (Or.inr (sn_eptary_SnapshotRowsfileIndexes_ary_SnapshotRowseffectiveTimes hw))).ext E41)
  obtain ⟨T54, h54, X54, e54, W54, st54⟩ := putF X41 hx hZ hown (host := "") (Or.inl (hw _ (List.mem_of_getElem? (i := 44) rfl))) Via.refl e41 F53 E52 (Or.inl (hw _ (List.mem_of_getElem? (i := 45) rfl))) (hw _ (List.mem_of_getElem? (i := 2) rfl)) (ty := (.array .int)) (by decide) rfl rfl (g := (mkF m 30 #[.val (.ref r0)] [(.ref b41), (.ref r0)])) rfl rfl (hb hby d2_30)
  have F54 : Fld Z h54 r0 "com/example/conceptary/conceptary/SnapshotRows" "fileIndexes" "[I" (.ref b41) := F53.same W54
  have Z55 : n0 ≤ h54.size := Nat.le_trans Z50 (Keep.of_wr W54).1
  have K56 : Keep h0 h54 [r0] := K51.wr W54 (Or.inl (List.mem_of_getElem? (i := 0) rfl))
  have N54 := Fr.snoc X54 N38 hp10
  obtain ⟨T57, h57, k57, X57, e57, E57, A57, st57⟩ := newP X54 hx hZ (hw _ (List.mem_of_getElem? (i := 41) rfl)) e54 (g := (mkF m 37 #[.val (.ref r0)] [(.int (1024 : Int32)), (.ref r0)])) rfl (hb hby d2_37) rfl (by decide) (cap := 1024) (by decide) (by decide) (by decide) (by decide)
  obtain ⟨b57, gb57⟩ : ∃ z, z = h54.size := ⟨_, rfl⟩
  rw [← gb57] at A57 st57
  have E59 : Exa Z h54 r0 "com/example/conceptary/conceptary/ConceptTable$Builder" := (E52.wr W54)
  have ne58 : r0 ≠ b57 := Nat.ne_of_lt (Nat.lt_of_lt_of_le E59.lt (Nat.le_of_eq gb57.symm))
  have E61 : Exa Z h54 b12 "java/util/ArrayList" := ((E45.ext E41).wr W54)
  have ne60 : b12 ≠ b57 := Nat.ne_of_lt (Nat.lt_of_lt_of_le E61.lt (Nat.le_of_eq gb57.symm))
  have V63 : AI Z h54 b27 .int (1024 : Int32) (fun _ => (0 : Int32)) := ((V47.ext E41).other W54 (Ne.symm ne28))
  have ne62 : b27 ≠ b57 := Nat.ne_of_lt (Nat.lt_of_lt_of_le V63.lt (Nat.le_of_eq gb57.symm))
  have V65 : AI Z h54 b41 .int (1024 : Int32) (fun _ => (0 : Int32)) := (V41.other W54 (Ne.symm ne42))
  have ne64 : b41 ≠ b57 := Nat.ne_of_lt (Nat.lt_of_lt_of_le V65.lt (Nat.le_of_eq gb57.symm))
  have g66 : n0 ≤ b57 := Nat.le_trans Z55 (Nat.le_of_eq gb57.symm)
  have z67 : h0.size ≤ b57 := Nat.le_trans K56.1 (Nat.le_of_eq gb57.symm)
  have Z68 : n0 ≤ h57.size := Nat.le_trans Z55 E57.1
  have K69 : Keep h0 h57 [r0] := K56.ext E57
  have V57 : AI Z h57 b57 .int (1024 : Int32) (fun _ => (0 : Int32)) := AI.new rfl A57 (by decide)
  have E70 : Exa Z h57 r0 "com/example/conceptary/conceptary/ConceptTable$Builder" := (E59.ext E57)
  have F71 : Fld Z h57 r0 "com/example/conceptary/conceptary/SnapshotRows" "lines" "[I" .null := ((((((((hp4.ext E12).keep u18_0 (ninS ne13 nin0)).other W24 (Or.inr (sn_y_conceptary_SnapshotRowslines_y_conceptary_SnapshotRowsfiles hw))).ext E27).other W38 (Or.inr (sn_y_conceptary_SnapshotRowslines_ary_SnapshotRowseffectiveTimes hw))).ext E41).other W54 (Or.inr (sn_y_conceptary_SnapshotRowslines_eptary_SnapshotRowsfileIndexes hw))).ext E57)
  obtain ⟨T72, h72, X72, e72, W72, st72⟩ := putF X57 hx hZ hown (host := "") (Or.inl (hw _ (List.mem_of_getElem? (i := 46) rfl))) Via.refl e57 F71 E70 (Or.inl (hw _ (List.mem_of_getElem? (i := 47) rfl))) (hw _ (List.mem_of_getElem? (i := 2) rfl)) (ty := (.array .int)) (by decide) rfl rfl (g := (mkF m 39 #[.val (.ref r0)] [(.ref b57), (.ref r0)])) rfl rfl (hb hby d2_39)
  have F72 : Fld Z h72 r0 "com/example/conceptary/conceptary/SnapshotRows" "lines" "[I" (.ref b57) := F71.same W72
  have Z73 : n0 ≤ h72.size := Nat.le_trans Z68 (Keep.of_wr W72).1
  have K74 : Keep h0 h72 [r0] := K69.wr W72 (Or.inl (List.mem_of_getElem? (i := 0) rfl))
  have N72 := Fr.snoc X72 N54 hp10
  have E75 : Exa Z h72 r0 "com/example/conceptary/conceptary/ConceptTable$Builder" := (E70.wr W72)
  have F76 : Fld Z h72 r0 "com/example/conceptary/conceptary/SnapshotRows" "files" "Ljava/util/List;" (.ref b12) := ((((((F24.ext E27).other W38 (Or.inr (sn_y_conceptary_SnapshotRowsfiles_ary_SnapshotRowseffectiveTimes hw))).ext E41).other W54 (Or.inr (sn_y_conceptary_SnapshotRowsfiles_eptary_SnapshotRowsfileIndexes hw))).ext E57).other W72 (Or.inr (sn_y_conceptary_SnapshotRowsfiles_y_conceptary_SnapshotRowslines hw)))
  have F77 : Fld Z h72 r0 "com/example/conceptary/conceptary/SnapshotRows" "effectiveTimes" "[I" (.ref b27) := ((((F38.ext E41).other W54 (Or.inr (sn_ary_SnapshotRowseffectiveTimes_eptary_SnapshotRowsfileIndexes hw))).ext E57).other W72 (Or.inr (sn_ary_SnapshotRowseffectiveTimes_y_conceptary_SnapshotRowslines hw)))
  have F78 : Fld Z h72 r0 "com/example/conceptary/conceptary/SnapshotRows" "fileIndexes" "[I" (.ref b41) := ((F54.ext E57).other W72 (Or.inr (sn_eptary_SnapshotRowsfileIndexes_y_conceptary_SnapshotRowslines hw)))
  have F79 : Fld Z h72 r0 "com/example/conceptary/conceptary/SnapshotRows" "size" "I" (.int (0 : Int32)) := (((((((((hp5.ext E12).keep u18_0 (ninS ne13 nin0)).other W24 (Or.inr (sn_ry_conceptary_SnapshotRowssize_y_conceptary_SnapshotRowsfiles hw))).ext E27).other W38 (Or.inr (sn_ry_conceptary_SnapshotRowssize_ary_SnapshotRowseffectiveTimes hw))).ext E41).other W54 (Or.inr (sn_ry_conceptary_SnapshotRowssize_eptary_SnapshotRowsfileIndexes hw))).ext E57).other W72 (Or.inr (sn_ry_conceptary_SnapshotRowssize_y_conceptary_SnapshotRowslines hw)))
  have F80 : Fld Z h72 r0 "com/example/conceptary/conceptary/ConceptTable$Builder" "ids" "[J" .null := (((((((((hp6.ext E12).keep u18_0 (ninS ne13 nin0)).other W24 (Or.inr (sn_eptary_ConceptTable_Builderids_y_conceptary_SnapshotRowsfiles hw))).ext E27).other W38 (Or.inr (sn_eptary_ConceptTable_Builderids_ary_SnapshotRowseffectiveTimes hw))).ext E41).other W54 (Or.inr (sn_eptary_ConceptTable_Builderids_eptary_SnapshotRowsfileIndexes hw))).ext E57).other W72 (Or.inr (sn_eptary_ConceptTable_Builderids_y_conceptary_SnapshotRowslines hw)))
  have F81 : Fld Z h72 r0 "com/example/conceptary/conceptary/ConceptTable$Builder" "actives" "[Z" .null := (((((((((hp7.ext E12).keep u18_0 (ninS ne13 nin0)).other W24 (Or.inr (sn_ry_ConceptTable_Builderactives_y_conceptary_SnapshotRowsfiles hw))).ext E27).other W38 (Or.inr (sn_ry_ConceptTable_Builderactives_ary_SnapshotRowseffectiveTimes hw))).ext E41).other W54 (Or.inr (sn_ry_ConceptTable_Builderactives_eptary_SnapshotRowsfileIndexes hw))).ext E57).other W72 (Or.inr (sn_ry_ConceptTable_Builderactives_y_conceptary_SnapshotRowslines hw)))
  have F82 : Fld Z h72 r0 "com/example/conceptary/conceptary/ConceptTable$Builder" "moduleIds" "[J" .null := (((((((((hp8.ext E12).keep u18_0 (ninS ne13 nin0)).other W24 (Or.inr (sn__ConceptTable_BuildermoduleIds_y_conceptary_SnapshotRowsfiles hw))).ext E27).other W38 (Or.inr (sn__ConceptTable_BuildermoduleIds_ary_SnapshotRowseffectiveTimes hw))).ext E41).other W54 (Or.inr (sn__ConceptTable_BuildermoduleIds_eptary_SnapshotRowsfileIndexes hw))).ext E57).other W72 (Or.inr (sn__ConceptTable_BuildermoduleIds_y_conceptary_SnapshotRowslines hw)))
  have F83 : Fld Z h72 r0 "com/example/conceptary/conceptary/ConceptTable$Builder" "definitionStatusIds" "[J" .null := (((((((((hp9.ext E12).keep u18_0 (ninS ne13 nin0)).other W24 (Or.inr (sn_ble_BuilderdefinitionStatusIds_y_conceptary_SnapshotRowsfiles hw))).ext E27).other W38 (Or.inr (sn_ble_BuilderdefinitionStatusIds_ary_SnapshotRowseffectiveTimes hw))).ext E41).other W54 (Or.inr (sn_ble_BuilderdefinitionStatusIds_eptary_SnapshotRowsfileIndexes hw))).ext E57).other W72 (Or.inr (sn_ble_BuilderdefinitionStatusIds_y_conceptary_SnapshotRowslines hw)))
  have E84 : Exa Z h72 b12 "java/util/ArrayList" := ((E61.ext E57).wr W72)
  have F85 : Fld Z h72 b12 "java/util/ArrayList" "size" "I" (.int (0 : Int32)) := (((((((u18_2.other W24 (Or.inl (Ne.symm ne13))).ext E27).other W38 (Or.inl (Ne.symm ne13))).ext E41).other W54 (Or.inl (Ne.symm ne13))).ext E57).other W72 (Or.inl (Ne.symm ne13)))
  have V86 : AI Z h72 b27 .int (1024 : Int32) (fun _ => (0 : Int32)) := ((V63.ext E57).other W72 (Ne.symm ne28))
  have V87 : AI Z h72 b41 .int (1024 : Int32) (fun _ => (0 : Int32)) := ((V65.ext E57).other W72 (Ne.symm ne42))
  have V88 : AI Z h72 b57 .int (1024 : Int32) (fun _ => (0 : Int32)) := (V57.other W72 (Ne.symm ne58))
  obtain ⟨fs, hr, hrun, hended, hW, hsame⟩ := X72.leave (v := none) (fun _ => rfl)
  refine ⟨_, _, pre0 _ ?_, hrun, hended, _, _, rfl, ?_, ⟨_, rfl⟩, hW, hsame.mono (by decide) (by decide)⟩
  · refine XS.aloadN X0.here hx rfl (hb hby d2_0) rfl rfl ?_
    show Steps p.tables e below (s₁.setTop (mkF m 1 #[.val (.ref r0)] [(.ref r0)])) _
    refine st11 _ ?_
    show Steps p.tables e below (T11.setTop (mkF m 4 #[.val (.ref r0)] [])) _
    refine XS.aloadN X11.here hx rfl (hb hby d2_4) rfl rfl ?_
    show Steps p.tables e below (T11.setTop (mkF m 5 #[.val (.ref r0)] [(.ref r0)])) _
    refine st12 _ ?_
    show Steps p.tables e below (T12.setTop (mkF m 8 #[.val (.ref r0)] [(.ref b12), (.ref r0)])) _
    refine XS.dup X12.here hx rfl (hb hby d2_8) rfl rfl ?_
    show Steps p.tables e below (T12.setTop (mkF m 9 #[.val (.ref r0)] [(.ref b12), (.ref b12), (.ref r0)])) _
    refine st18.trans ?_
    show Steps p.tables e below (T18.setTop (mkF m 12 #[.val (.ref r0)] [(.ref b12), (.ref r0)])) _
    refine st24 _ ?_
    show Steps p.tables e below (T24.setTop (mkF m 15 #[.val (.ref r0)] [])) _
    refine XS.aloadN X24.here hx rfl (hb hby d2_15) rfl rfl ?_
    show Steps p.tables e below (T24.setTop (mkF m 16 #[.val (.ref r0)] [(.ref r0)])) _
    refine XS.sipush X24.here hx rfl (hb hby d2_16) ?_
    show Steps p.tables e below (T24.setTop (mkF m 19 #[.val (.ref r0)] [(.int (1024 : Int32)), (.ref r0)])) _
    refine st27 _ ?_
    show Steps p.tables e below (T27.setTop (mkF m 21 #[.val (.ref r0)] [(.ref b27), (.ref r0)])) _
    refine st38 _ ?_
    show Steps p.tables e below (T38.setTop (mkF m 24 #[.val (.ref r0)] [])) _
    refine XS.aloadN X38.here hx rfl (hb hby d2_24) rfl rfl ?_
    show Steps p.tables e below (T38.setTop (mkF m 25 #[.val (.ref r0)] [(.ref r0)])) _
    refine XS.sipush X38.here hx rfl (hb hby d2_25) ?_
    show Steps p.tables e below (T38.setTop (mkF m 28 #[.val (.ref r0)] [(.int (1024 : Int32)), (.ref r0)])) _
    refine st41 _ ?_
    show Steps p.tables e below (T41.setTop (mkF m 30 #[.val (.ref r0)] [(.ref b41), (.ref r0)])) _
    refine st54 _ ?_
    show Steps p.tables e below (T54.setTop (mkF m 33 #[.val (.ref r0)] [])) _
    refine XS.aloadN X54.here hx rfl (hb hby d2_33) rfl rfl ?_
    show Steps p.tables e below (T54.setTop (mkF m 34 #[.val (.ref r0)] [(.ref r0)])) _
    refine XS.sipush X54.here hx rfl (hb hby d2_34) ?_
    show Steps p.tables e below (T54.setTop (mkF m 37 #[.val (.ref r0)] [(.int (1024 : Int32)), (.ref r0)])) _
    refine st57 _ ?_
    show Steps p.tables e below (T57.setTop (mkF m 39 #[.val (.ref r0)] [(.ref b57), (.ref r0)])) _
    refine st72 _ ?_
    show Steps p.tables e below (T72.setTop (mkF m 42 #[.val (.ref r0)] [])) _
    exact X72.returnOut hx Bd.returns (hb hby d2_42) hr
  · show Q2 Z r0 sd h0 n0 _ T72.heap _
    rw [e72]
    exact ⟨b12, b27, b41, b57, rfl, N72, K74, E75, F76, F77, F78, F72, F79, F80, F81, F82, F83, E84, F85, V86, V87, V88, z15, z33, z49, z67, ne30, ne44, ne60, ne46, ne62, ne64⟩
theorem d1_0 : decode prog_9_method_1_code 0 = .ok (.aload_n 0, 1) := by decide +kernel
theorem d1_1 : decode prog_9_method_1_code 1 = .ok (.invokespecial 1, 3) := by decide +kernel
theorem d1_4 : decode prog_9_method_1_code 4 = .ok (.aload_n 0, 1) := by decide +kernel
theorem d1_5 : decode prog_9_method_1_code 5 = .ok (.sipush 1024, 3) := by decide +kernel
theorem d1_8 : decode prog_9_method_1_code 8 = .ok (.newarray .long, 2) := by decide +kernel
theorem d1_10 : decode prog_9_method_1_code 10 = .ok (.putfield 7, 3) := by decide +kernel
theorem d1_13 : decode prog_9_method_1_code 13 = .ok (.aload_n 0, 1) := by decide +kernel
theorem d1_14 : decode prog_9_method_1_code 14 = .ok (.sipush 1024, 3) := by decide +kernel
theorem d1_17 : decode prog_9_method_1_code 17 = .ok (.newarray .boolean, 2) := by decide +kernel
theorem d1_19 : decode prog_9_method_1_code 19 = .ok (.putfield 13, 3) := by decide +kernel
theorem d1_22 : decode prog_9_method_1_code 22 = .ok (.aload_n 0, 1) := by decide +kernel
theorem d1_23 : decode prog_9_method_1_code 23 = .ok (.sipush 1024, 3) := by decide +kernel
theorem d1_26 : decode prog_9_method_1_code 26 = .ok (.newarray .long, 2) := by decide +kernel
theorem d1_28 : decode prog_9_method_1_code 28 = .ok (.putfield 17, 3) := by decide +kernel
theorem d1_31 : decode prog_9_method_1_code 31 = .ok (.aload_n 0, 1) := by decide +kernel
theorem d1_32 : decode prog_9_method_1_code 32 = .ok (.sipush 1024, 3) := by decide +kernel
theorem d1_35 : decode prog_9_method_1_code 35 = .ok (.newarray .long, 2) := by decide +kernel
theorem d1_37 : decode prog_9_method_1_code 37 = .ok (.putfield 20, 3) := by decide +kernel
theorem d1_40 : decode prog_9_method_1_code 40 = .ok (.return_, 1) := by decide +kernel
theorem pn_1 : plainName "com/example/conceptary/conceptary/ConceptTable$Builder" = true := by first | (simp [plainName, overriddenIn]; done) | decide +kernel
theorem ef_1 (m : MethodId) (r0 : Addr) : entryFrame m #[(.ref r0)] 1 = mkF m 0 #[.val (.ref r0)] [] := by first | (simp [entryFrame, mkF, argsToLocals, Value.category]; done) | rfl
theorem sn_ry_ConceptTable_Builderactives_eptary_ConceptTable_Builderids {Z : State} {a0 : Array Value} (hw : ∀ d ∈ tables_1, d.before a0 Z = true) : Jvm.RoadKit.slotOf Z "com/example/conceptary/conceptary/ConceptTable$Builder" "actives" "[Z" ≠ Jvm.RoadKit.slotOf Z "com/example/conceptary/conceptary/ConceptTable$Builder" "ids" "[J" := slot_ne (Or.inl (hw _ (List.mem_of_getElem? (i := 53) rfl))) (Or.inl (hw _ (List.mem_of_getElem? (i := 50) rfl))) (by decide) (t := (.array .boolean)) (t' := (.array .long)) (by decide) (by decide)
theorem sn__ConceptTable_BuildermoduleIds_eptary_ConceptTable_Builderids {Z : State} {a0 : Array Value} (hw : ∀ d ∈ tables_1, d.before a0 Z = true) : Jvm.RoadKit.slotOf Z "com/example/conceptary/conceptary/ConceptTable$Builder" "moduleIds" "[J" ≠ Jvm.RoadKit.slotOf Z "com/example/conceptary/conceptary/ConceptTable$Builder" "ids" "[J" := slot_ne (Or.inl (hw _ (List.mem_of_getElem? (i := 55) rfl))) (Or.inl (hw _ (List.mem_of_getElem? (i := 50) rfl))) (by decide) (t := (.array .long)) (t' := (.array .long)) (by decide) (by decide)
theorem sn__ConceptTable_BuildermoduleIds_ry_ConceptTable_Builderactives {Z : State} {a0 : Array Value} (hw : ∀ d ∈ tables_1, d.before a0 Z = true) : Jvm.RoadKit.slotOf Z "com/example/conceptary/conceptary/ConceptTable$Builder" "moduleIds" "[J" ≠ Jvm.RoadKit.slotOf Z "com/example/conceptary/conceptary/ConceptTable$Builder" "actives" "[Z" := slot_ne (Or.inl (hw _ (List.mem_of_getElem? (i := 55) rfl))) (Or.inl (hw _ (List.mem_of_getElem? (i := 53) rfl))) (by decide) (t := (.array .long)) (t' := (.array .boolean)) (by decide) (by decide)
theorem sn_ble_BuilderdefinitionStatusIds_eptary_ConceptTable_Builderids {Z : State} {a0 : Array Value} (hw : ∀ d ∈ tables_1, d.before a0 Z = true) : Jvm.RoadKit.slotOf Z "com/example/conceptary/conceptary/ConceptTable$Builder" "definitionStatusIds" "[J" ≠ Jvm.RoadKit.slotOf Z "com/example/conceptary/conceptary/ConceptTable$Builder" "ids" "[J" := slot_ne (Or.inl (hw _ (List.mem_of_getElem? (i := 57) rfl))) (Or.inl (hw _ (List.mem_of_getElem? (i := 50) rfl))) (by decide) (t := (.array .long)) (t' := (.array .long)) (by decide) (by decide)
theorem sn_ble_BuilderdefinitionStatusIds_ry_ConceptTable_Builderactives {Z : State} {a0 : Array Value} (hw : ∀ d ∈ tables_1, d.before a0 Z = true) : Jvm.RoadKit.slotOf Z "com/example/conceptary/conceptary/ConceptTable$Builder" "definitionStatusIds" "[J" ≠ Jvm.RoadKit.slotOf Z "com/example/conceptary/conceptary/ConceptTable$Builder" "actives" "[Z" := slot_ne (Or.inl (hw _ (List.mem_of_getElem? (i := 57) rfl))) (Or.inl (hw _ (List.mem_of_getElem? (i := 53) rfl))) (by decide) (t := (.array .long)) (t' := (.array .boolean)) (by decide) (by decide)
theorem sn_ble_BuilderdefinitionStatusIds__ConceptTable_BuildermoduleIds {Z : State} {a0 : Array Value} (hw : ∀ d ∈ tables_1, d.before a0 Z = true) : Jvm.RoadKit.slotOf Z "com/example/conceptary/conceptary/ConceptTable$Builder" "definitionStatusIds" "[J" ≠ Jvm.RoadKit.slotOf Z "com/example/conceptary/conceptary/ConceptTable$Builder" "moduleIds" "[J" := slot_ne (Or.inl (hw _ (List.mem_of_getElem? (i := 57) rfl))) (Or.inl (hw _ (List.mem_of_getElem? (i := 55) rfl))) (by decide) (t := (.array .long)) (t' := (.array .long)) (by decide) (by decide)
theorem sn_y_conceptary_SnapshotRowsfiles_eptary_ConceptTable_Builderids {Z : State} {a0 : Array Value} (hw : ∀ d ∈ tables_1, d.before a0 Z = true) : Jvm.RoadKit.slotOf Z "com/example/conceptary/conceptary/SnapshotRows" "files" "Ljava/util/List;" ≠ Jvm.RoadKit.slotOf Z "com/example/conceptary/conceptary/ConceptTable$Builder" "ids" "[J" := slot_ne (Or.inr (hw _ (List.mem_of_getElem? (i := 40) rfl))) (Or.inl (hw _ (List.mem_of_getElem? (i := 50) rfl))) (by decide) (t := (.object "java/util/List")) (t' := (.array .long)) (by decide) (by decide)
theorem sn_y_conceptary_SnapshotRowsfiles_ry_ConceptTable_Builderactives {Z : State} {a0 : Array Value} (hw : ∀ d ∈ tables_1, d.before a0 Z = true) : Jvm.RoadKit.slotOf Z "com/example/conceptary/conceptary/SnapshotRows" "files" "Ljava/util/List;" ≠ Jvm.RoadKit.slotOf Z "com/example/conceptary/conceptary/ConceptTable$Builder" "actives" "[Z" := slot_ne (Or.inr (hw _ (List.mem_of_getElem? (i := 40) rfl))) (Or.inl (hw _ (List.mem_of_getElem? (i := 53) rfl))) (by decide) (t := (.object "java/util/List")) (t' := (.array .boolean)) (by decide) (by decide)
theorem sn_y_conceptary_SnapshotRowsfiles__ConceptTable_BuildermoduleIds {Z : State} {a0 : Array Value} (hw : ∀ d ∈ tables_1, d.before a0 Z = true) : Jvm.RoadKit.slotOf Z "com/example/conceptary/conceptary/SnapshotRows" "files" "Ljava/util/List;" ≠ Jvm.RoadKit.slotOf Z "com/example/conceptary/conceptary/ConceptTable$Builder" "moduleIds" "[J" := slot_ne (Or.inr (hw _ (List.mem_of_getElem? (i := 40) rfl))) (Or.inl (hw _ (List.mem_of_getElem? (i := 55) rfl))) (by decide) (t := (.object "java/util/List")) (t' := (.array .long)) (by decide) (by decide)
theorem sn_y_conceptary_SnapshotRowsfiles_ble_BuilderdefinitionStatusIds {Z : State} {a0 : Array Value} (hw : ∀ d ∈ tables_1, d.before a0 Z = true) : Jvm.RoadKit.slotOf Z "com/example/conceptary/conceptary/SnapshotRows" "files" "Ljava/util/List;" ≠ Jvm.RoadKit.slotOf Z "com/example/conceptary/conceptary/ConceptTable$Builder" "definitionStatusIds" "[J" := slot_ne (Or.inr (hw _ (List.mem_of_getElem? (i := 40) rfl))) (Or.inl (hw _ (List.mem_of_getElem? (i := 57) rfl))) (by decide) (t := (.object "java/util/List")) (t' := (.array .long)) (by decide) (by decide)
theorem sn_ary_SnapshotRowseffectiveTimes_eptary_ConceptTable_Builderids {Z : State} {a0 : Array Value} (hw : ∀ d ∈ tables_1, d.before a0 Z = true) : Jvm.RoadKit.slotOf Z "com/example/conceptary/conceptary/SnapshotRows" "effectiveTimes" "[I" ≠ Jvm.RoadKit.slotOf Z "com/example/conceptary/conceptary/ConceptTable$Builder" "ids" "[J" := slot_ne (Or.inl (hw _ (List.mem_of_getElem? (i := 43) rfl))) (Or.inl (hw _ (List.mem_of_getElem? (i := 50) rfl))) (by decide) (t := (.array .int)) (t' := (.array .long)) (by decide) (by decide)
theorem sn_ary_SnapshotRowseffectiveTimes_ry_ConceptTable_Builderactives {Z : State} {a0 : Array Value} (hw : ∀ d ∈ tables_1, d.before a0 Z = true) : Jvm.RoadKit.slotOf Z "com/example/conceptary/conceptary/SnapshotRows" "effectiveTimes" "[I" ≠ Jvm.RoadKit.slotOf Z "com/example/conceptary/conceptary/ConceptTable$Builder" "actives" "[Z" := slot_ne (Or.inl (hw _ (List.mem_of_getElem? (i := 43) rfl))) (Or.inl (hw _ (List.mem_of_getElem? (i := 53) rfl))) (by decide) (t := (.array .int)) (t' := (.array .boolean)) (by decide) (by decide)
theorem sn_ary_SnapshotRowseffectiveTimes__ConceptTable_BuildermoduleIds {Z : State} {a0 : Array Value} (hw : ∀ d ∈ tables_1, d.before a0 Z = true) : Jvm.RoadKit.slotOf Z "com/example/conceptary/conceptary/SnapshotRows" "effectiveTimes" "[I" ≠ Jvm.RoadKit.slotOf Z "com/example/conceptary/conceptary/ConceptTable$Builder" "moduleIds" "[J" := slot_ne (Or.inl (hw _ (List.mem_of_getElem? (i := 43) rfl))) (Or.inl (hw _ (List.mem_of_getElem? (i := 55) rfl))) (by decide) (t := (.array .int)) (t' := (.array .long)) (by decide) (by decide)
theorem sn_ary_SnapshotRowseffectiveTimes_ble_BuilderdefinitionStatusIds {Z : State} {a0 : Array Value} (hw : ∀ d ∈ tables_1, d.before a0 Z = true) : Jvm.RoadKit.slotOf Z "com/example/conceptary/conceptary/SnapshotRows" "effectiveTimes" "[I" ≠ Jvm.RoadKit.slotOf Z "com/example/conceptary/conceptary/ConceptTable$Builder" "definitionStatusIds" "[J" := slot_ne (Or.inl (hw _ (List.mem_of_getElem? (i := 43) rfl))) (Or.inl (hw _ (List.mem_of_getElem? (i := 57) rfl))) (by decide) (t := (.array .int)) (t' := (.array .long)) (by decide) (by decide)
theorem sn_eptary_SnapshotRowsfileIndexes_eptary_ConceptTable_Builderids {Z : State} {a0 : Array Value} (hw : ∀ d ∈ tables_1, d.before a0 Z = true) : Jvm.RoadKit.slotOf Z "com/example/conceptary/conceptary/SnapshotRows" "fileIndexes" "[I" ≠ Jvm.RoadKit.slotOf Z "com/example/conceptary/conceptary/ConceptTable$Builder" "ids" "[J" := slot_ne (Or.inl (hw _ (List.mem_of_getElem? (i := 45) rfl))) (Or.inl (hw _ (List.mem_of_getElem? (i := 50) rfl))) (by decide) (t := (.array .int)) (t' := (.array .long)) (by decide) (by decide)
theorem sn_eptary_SnapshotRowsfileIndexes_ry_ConceptTable_Builderactives {Z : State} {a0 : Array Value} (hw : ∀ d ∈ tables_1, d.before a0 Z = true) : Jvm.RoadKit.slotOf Z "com/example/conceptary/conceptary/SnapshotRows" "fileIndexes" "[I" ≠ Jvm.RoadKit.slotOf Z "com/example/conceptary/conceptary/ConceptTable$Builder" "actives" "[Z" := slot_ne (Or.inl (hw _ (List.mem_of_getElem? (i := 45) rfl))) (Or.inl (hw _ (List.mem_of_getElem? (i := 53) rfl))) (by decide) (t := (.array .int)) (t' := (.array .boolean)) (by decide) (by decide)
theorem sn_eptary_SnapshotRowsfileIndexes__ConceptTable_BuildermoduleIds {Z : State} {a0 : Array Value} (hw : ∀ d ∈ tables_1, d.before a0 Z = true) : Jvm.RoadKit.slotOf Z "com/example/conceptary/conceptary/SnapshotRows" "fileIndexes" "[I" ≠ Jvm.RoadKit.slotOf Z "com/example/conceptary/conceptary/ConceptTable$Builder" "moduleIds" "[J" := slot_ne (Or.inl (hw _ (List.mem_of_getElem? (i := 45) rfl))) (Or.inl (hw _ (List.mem_of_getElem? (i := 55) rfl))) (by decide) (t := (.array .int)) (t' := (.array .long)) (by decide) (by decide)
theorem sn_eptary_SnapshotRowsfileIndexes_ble_BuilderdefinitionStatusIds {Z : State} {a0 : Array Value} (hw : ∀ d ∈ tables_1, d.before a0 Z = true) : Jvm.RoadKit.slotOf Z "com/example/conceptary/conceptary/SnapshotRows" "fileIndexes" "[I" ≠ Jvm.RoadKit.slotOf Z "com/example/conceptary/conceptary/ConceptTable$Builder" "definitionStatusIds" "[J" := slot_ne (Or.inl (hw _ (List.mem_of_getElem? (i := 45) rfl))) (Or.inl (hw _ (List.mem_of_getElem? (i := 57) rfl))) (by decide) (t := (.array .int)) (t' := (.array .long)) (by decide) (by decide)
theorem sn_y_conceptary_SnapshotRowslines_eptary_ConceptTable_Builderids {Z : State} {a0 : Array Value} (hw : ∀ d ∈ tables_1, d.before a0 Z = true) : Jvm.RoadKit.slotOf Z "com/example/conceptary/conceptary/SnapshotRows" "lines" "[I" ≠ Jvm.RoadKit.slotOf Z "com/example/conceptary/conceptary/ConceptTable$Builder" "ids" "[J" := slot_ne (Or.inl (hw _ (List.mem_of_getElem? (i := 47) rfl))) (Or.inl (hw _ (List.mem_of_getElem? (i := 50) rfl))) (by decide) (t := (.array .int)) (t' := (.array .long)) (by decide) (by decide)
theorem sn_y_conceptary_SnapshotRowslines_ry_ConceptTable_Builderactives {Z : State} {a0 : Array Value} (hw : ∀ d ∈ tables_1, d.before a0 Z = true) : Jvm.RoadKit.slotOf Z "com/example/conceptary/conceptary/SnapshotRows" "lines" "[I" ≠ Jvm.RoadKit.slotOf Z "com/example/conceptary/conceptary/ConceptTable$Builder" "actives" "[Z" := slot_ne (Or.inl (hw _ (List.mem_of_getElem? (i := 47) rfl))) (Or.inl (hw _ (List.mem_of_getElem? (i := 53) rfl))) (by decide) (t := (.array .int)) (t' := (.array .boolean)) (by decide) (by decide)
theorem sn_y_conceptary_SnapshotRowslines__ConceptTable_BuildermoduleIds {Z : State} {a0 : Array Value} (hw : ∀ d ∈ tables_1, d.before a0 Z = true) : Jvm.RoadKit.slotOf Z "com/example/conceptary/conceptary/SnapshotRows" "lines" "[I" ≠ Jvm.RoadKit.slotOf Z "com/example/conceptary/conceptary/ConceptTable$Builder" "moduleIds" "[J" := slot_ne (Or.inl (hw _ (List.mem_of_getElem? (i := 47) rfl))) (Or.inl (hw _ (List.mem_of_getElem? (i := 55) rfl))) (by decide) (t := (.array .int)) (t' := (.array .long)) (by decide) (by decide)
theorem sn_y_conceptary_SnapshotRowslines_ble_BuilderdefinitionStatusIds {Z : State} {a0 : Array Value} (hw : ∀ d ∈ tables_1, d.before a0 Z = true) : Jvm.RoadKit.slotOf Z "com/example/conceptary/conceptary/SnapshotRows" "lines" "[I" ≠ Jvm.RoadKit.slotOf Z "com/example/conceptary/conceptary/ConceptTable$Builder" "definitionStatusIds" "[J" := slot_ne (Or.inl (hw _ (List.mem_of_getElem? (i := 47) rfl))) (Or.inl (hw _ (List.mem_of_getElem? (i := 57) rfl))) (by decide) (t := (.array .int)) (t' := (.array .long)) (by decide) (by decide)
theorem sn_ry_conceptary_SnapshotRowssize_eptary_ConceptTable_Builderids {Z : State} {a0 : Array Value} (hw : ∀ d ∈ tables_1, d.before a0 Z = true) : Jvm.RoadKit.slotOf Z "com/example/conceptary/conceptary/SnapshotRows" "size" "I" ≠ Jvm.RoadKit.slotOf Z "com/example/conceptary/conceptary/ConceptTable$Builder" "ids" "[J" := slot_ne (Or.inl (hw _ (List.mem_of_getElem? (i := 97) rfl))) (Or.inl (hw _ (List.mem_of_getElem? (i := 50) rfl))) (by decide) (t := .int) (t' := (.array .long)) (by decide) (by decide)
theorem sn_ry_conceptary_SnapshotRowssize_ry_ConceptTable_Builderactives {Z : State} {a0 : Array Value} (hw : ∀ d ∈ tables_1, d.before a0 Z = true) : Jvm.RoadKit.slotOf Z "com/example/conceptary/conceptary/SnapshotRows" "size" "I" ≠ Jvm.RoadKit.slotOf Z "com/example/conceptary/conceptary/ConceptTable$Builder" "actives" "[Z" := slot_ne (Or.inl (hw _ (List.mem_of_getElem? (i := 97) rfl))) (Or.inl (hw _ (List.mem_of_getElem? (i := 53) rfl))) (by decide) (t := .int) (t' := (.array .boolean)) (by decide) (by decide)
theorem sn_ry_conceptary_SnapshotRowssize__ConceptTable_BuildermoduleIds {Z : State} {a0 : Array Value} (hw : ∀ d ∈ tables_1, d.before a0 Z = true) : Jvm.RoadKit.slotOf Z "com/example/conceptary/conceptary/SnapshotRows" "size" "I" ≠ Jvm.RoadKit.slotOf Z "com/example/conceptary/conceptary/ConceptTable$Builder" "moduleIds" "[J" := slot_ne (Or.inl (hw _ (List.mem_of_getElem? (i := 97) rfl))) (Or.inl (hw _ (List.mem_of_getElem? (i := 55) rfl))) (by decide) (t := .int) (t' := (.array .long)) (by decide) (by decide)
theorem sn_ry_conceptary_SnapshotRowssize_ble_BuilderdefinitionStatusIds {Z : State} {a0 : Array Value} (hw : ∀ d ∈ tables_1, d.before a0 Z = true) : Jvm.RoadKit.slotOf Z "com/example/conceptary/conceptary/SnapshotRows" "size" "I" ≠ Jvm.RoadKit.slotOf Z "com/example/conceptary/conceptary/ConceptTable$Builder" "definitionStatusIds" "[J" := slot_ne (Or.inl (hw _ (List.mem_of_getElem? (i := 97) rfl))) (Or.inl (hw _ (List.mem_of_getElem? (i := 57) rfl))) (by decide) (t := .int) (t' := (.array .long)) (by decide) (by decide)
theorem sn_eptary_ConceptTable_Builderids_ry_ConceptTable_Builderactives {Z : State} {a0 : Array Value} (hw : ∀ d ∈ tables_1, d.before a0 Z = true) : Jvm.RoadKit.slotOf Z "com/example/conceptary/conceptary/ConceptTable$Builder" "ids" "[J" ≠ Jvm.RoadKit.slotOf Z "com/example/conceptary/conceptary/ConceptTable$Builder" "actives" "[Z" := slot_ne (Or.inl (hw _ (List.mem_of_getElem? (i := 50) rfl))) (Or.inl (hw _ (List.mem_of_getElem? (i := 53) rfl))) (by decide) (t := (.array .long)) (t' := (.array .boolean)) (by decide) (by decide)
theorem sn_eptary_ConceptTable_Builderids__ConceptTable_BuildermoduleIds {Z : State} {a0 : Array Value} (hw : ∀ d ∈ tables_1, d.before a0 Z = true) : Jvm.RoadKit.slotOf Z "com/example/conceptary/conceptary/ConceptTable$Builder" "ids" "[J" ≠ Jvm.RoadKit.slotOf Z "com/example/conceptary/conceptary/ConceptTable$Builder" "moduleIds" "[J" := slot_ne (Or.inl (hw _ (List.mem_of_getElem? (i := 50) rfl))) (Or.inl (hw _ (List.mem_of_getElem? (i := 55) rfl))) (by decide) (t := (.array .long)) (t' := (.array .long)) (by decide) (by decide)
theorem sn_eptary_ConceptTable_Builderids_ble_BuilderdefinitionStatusIds {Z : State} {a0 : Array Value} (hw : ∀ d ∈ tables_1, d.before a0 Z = true) : Jvm.RoadKit.slotOf Z "com/example/conceptary/conceptary/ConceptTable$Builder" "ids" "[J" ≠ Jvm.RoadKit.slotOf Z "com/example/conceptary/conceptary/ConceptTable$Builder" "definitionStatusIds" "[J" := slot_ne (Or.inl (hw _ (List.mem_of_getElem? (i := 50) rfl))) (Or.inl (hw _ (List.mem_of_getElem? (i := 57) rfl))) (by decide) (t := (.array .long)) (t' := (.array .long)) (by decide) (by decide)
theorem sn_ry_ConceptTable_Builderactives__ConceptTable_BuildermoduleIds {Z : State} {a0 : Array Value} (hw : ∀ d ∈ tables_1, d.before a0 Z = true) : Jvm.RoadKit.slotOf Z "com/example/conceptary/conceptary/ConceptTable$Builder" "actives" "[Z" ≠ Jvm.RoadKit.slotOf Z "com/example/conceptary/conceptary/ConceptTable$Builder" "moduleIds" "[J" := slot_ne (Or.inl (hw _ (List.mem_of_getElem? (i := 53) rfl))) (Or.inl (hw _ (List.mem_of_getElem? (i := 55) rfl))) (by decide) (t := (.array .boolean)) (t' := (.array .long)) (by decide) (by decide)
theorem sn_ry_ConceptTable_Builderactives_ble_BuilderdefinitionStatusIds {Z : State} {a0 : Array Value} (hw : ∀ d ∈ tables_1, d.before a0 Z = true) : Jvm.RoadKit.slotOf Z "com/example/conceptary/conceptary/ConceptTable$Builder" "actives" "[Z" ≠ Jvm.RoadKit.slotOf Z "com/example/conceptary/conceptary/ConceptTable$Builder" "definitionStatusIds" "[J" := slot_ne (Or.inl (hw _ (List.mem_of_getElem? (i := 53) rfl))) (Or.inl (hw _ (List.mem_of_getElem? (i := 57) rfl))) (by decide) (t := (.array .boolean)) (t' := (.array .long)) (by decide) (by decide)
theorem sn__ConceptTable_BuildermoduleIds_ble_BuilderdefinitionStatusIds {Z : State} {a0 : Array Value} (hw : ∀ d ∈ tables_1, d.before a0 Z = true) : Jvm.RoadKit.slotOf Z "com/example/conceptary/conceptary/ConceptTable$Builder" "moduleIds" "[J" ≠ Jvm.RoadKit.slotOf Z "com/example/conceptary/conceptary/ConceptTable$Builder" "definitionStatusIds" "[J" := slot_ne (Or.inl (hw _ (List.mem_of_getElem? (i := 55) rfl))) (Or.inl (hw _ (List.mem_of_getElem? (i := 57) rfl))) (by decide) (t := (.array .long)) (t' := (.array .long)) (by decide) (by decide)
def Q1 (Z : State) (r0 : Addr) (sd : Addr) (h0 : Heap) (n0 : Nat) (v : Option Value) (h : Heap) (L : List Loc) : Prop := ∃ fb : Addr, ∃ e1 : Addr, ∃ e2 : Addr, ∃ e3 : Addr, ∃ i1 : Addr, ∃ ac : Addr, ∃ mo : Addr, ∃ de : Addr, v = none ∧ Fr n0 L ∧ Keep h0 h [r0] ∧ Exa Z h r0 "com/example/conceptary/conceptary/ConceptTable$Builder" ∧ Fld Z h r0 "com/example/conceptary/conceptary/SnapshotRows" "files" "Ljava/util/List;" (.ref fb) ∧ Fld Z h r0 "com/example/conceptary/conceptary/SnapshotRows" "effectiveTimes" "[I" (.ref e1) ∧ Fld Z h r0 "com/example/conceptary/conceptary/SnapshotRows" "fileIndexes" "[I" (.ref e2) ∧ Fld Z h r0 "com/example/conceptary/conceptary/SnapshotRows" "lines" "[I" (.ref e3) ∧ Fld Z h r0 "com/example/conceptary/conceptary/SnapshotRows" "size" "I" (.int (0 : Int32)) ∧ Fld Z h r0 "com/example/conceptary/conceptary/ConceptTable$Builder" "ids" "[J" (.ref i1) ∧ Fld Z h r0 "com/example/conceptary/conceptary/ConceptTable$Builder" "actives" "[Z" (.ref ac) ∧ Fld Z h r0 "com/example/conceptary/conceptary/ConceptTable$Builder" "moduleIds" "[J" (.ref mo) ∧ Fld Z h r0 "com/example/conceptary/conceptary/ConceptTable$Builder" "definitionStatusIds" "[J" (.ref de) ∧ Exa Z h fb "java/util/ArrayList" ∧ Fld Z h fb "java/util/ArrayList" "size" "I" (.int (0 : Int32)) ∧ AI Z h e1 .int (1024 : Int32) (fun _ => (0 : Int32)) ∧ AI Z h e2 .int (1024 : Int32) (fun _ => (0 : Int32)) ∧ AI Z h e3 .int (1024 : Int32) (fun _ => (0 : Int32)) ∧ AL Z h i1 (1024 : Int32) (fun _ => (0 : Int64)) ∧ AI Z h ac .boolean (1024 : Int32) (fun _ => (0 : Int32)) ∧ AL Z h mo (1024 : Int32) (fun _ => (0 : Int64)) ∧ AL Z h de (1024 : Int32) (fun _ => (0 : Int64)) ∧ h0.size ≤ fb ∧ h0.size ≤ e1 ∧ h0.size ≤ e2 ∧ h0.size ≤ e3 ∧ h0.size ≤ i1 ∧ h0.size ≤ ac ∧ h0.size ≤ mo ∧ h0.size ≤ de ∧ fb ≠ e1 ∧ fb ≠ e2 ∧ fb ≠ e3 ∧ fb ≠ i1 ∧ fb ≠ ac ∧ fb ≠ mo ∧ fb ≠ de ∧ e1 ≠ e2 ∧ e1 ≠ e3 ∧ e1 ≠ i1 ∧ e1 ≠ ac ∧ e1 ≠ mo ∧ e1 ≠ de ∧ e2 ≠ e3 ∧ e2 ≠ i1 ∧ e2 ≠ ac ∧ e2 ≠ mo ∧ e2 ≠ de ∧ e3 ≠ i1 ∧ e3 ≠ ac ∧ e3 ≠ mo ∧ e3 ≠ de ∧ i1 ≠ ac ∧ i1 ≠ mo ∧ i1 ≠ de ∧ ac ≠ mo ∧ ac ≠ de ∧ mo ≠ de
set_option maxRecDepth 65536 in
set_option maxHeartbeats 40000000 in
theorem rm1 (l : Launch) (Z : State) (a0 : Array Value) (hw : ∀ d ∈ tables_1, d.before a0 Z = true) (ws : List Jvm.Cond) (r0 : Addr) (sd : Addr) (h0 : Heap) (n0 : Nat) (Z0 : n0 ≤ h0.size) (hp0 : Exa Z h0 r0 "com/example/conceptary/conceptary/ConceptTable$Builder") (hp1 : Fld Z h0 r0 "com/example/conceptary/conceptary/SnapshotRows" "files" "Ljava/util/List;" .null) (hp2 : Fld Z h0 r0 "com/example/conceptary/conceptary/SnapshotRows" "effectiveTimes" "[I" .null) (hp3 : Fld Z h0 r0 "com/example/conceptary/conceptary/SnapshotRows" "fileIndexes" "[I" .null) (hp4 : Fld Z h0 r0 "com/example/conceptary/conceptary/SnapshotRows" "lines" "[I" .null) (hp5 : Fld Z h0 r0 "com/example/conceptary/conceptary/SnapshotRows" "size" "I" (.int (0 : Int32))) (hp6 : Fld Z h0 r0 "com/example/conceptary/conceptary/ConceptTable$Builder" "ids" "[J" .null) (hp7 : Fld Z h0 r0 "com/example/conceptary/conceptary/ConceptTable$Builder" "actives" "[Z" .null) (hp8 : Fld Z h0 r0 "com/example/conceptary/conceptary/ConceptTable$Builder" "moduleIds" "[J" .null) (hp9 : Fld Z h0 r0 "com/example/conceptary/conceptary/ConceptTable$Builder" "definitionStatusIds" "[J" .null) (hp10 : n0 ≤ r0) (hp11 : Sta Z h0 "java/util/ArrayList" "DEFAULTCAPACITY_EMPTY_ELEMENTDATA" "[Ljava/lang/Object;" (.ref sd)) :
    MetFree l (⟨"com/example/conceptary/conceptary/ConceptTable$Builder", "<init>", "()V"⟩ : MethodName) (head1 (Jvm.Cond.code (⟨"com/example/conceptary/conceptary/ConceptTable$Builder", "<init>", "()V"⟩ : MethodName) prog_9_method_1_code 1 none :: ws) ({ frames := 5, cells := 8, slots := 7171, locals := 62 } : Room)) (fun a U => a = #[(.ref r0)] ∧ Z.Warmed39 U.vm ∧ U.heap = h0) (fun _ _ _ _ _ => True) (fun _ U o U' => ∃ v L, o = .returned v ∧ Q1 Z r0 sd h0 n0 v U'.heap L ∧ FrameEnd U o U' L ({ frames := 5, cells := 8, slots := 7171, locals := 62 } : Room).cells ({ frames := 5, cells := 8, slots := 7171, locals := 62 } : Room).slots) := by
  refine MetFree.of_bodySF (plainFor_of_name pn_1) hisR ?_
  intro p e s m args below meth c s₁ Bd hml0 hP hK
  obtain ⟨rfl, hZ, hh⟩ := hP
  have hx := Bd.exec
  have hby := Bd.bytes
  have hml : c.maxLocals = 1 := hml0
  have hown : s.vm.findClass "com/example/conceptary/conceptary/ConceptTable$Builder" = some m.cls := findClass_of_methodNamed Bd.named
  have hnm := (name_of_methodNamed Bd.named Bd.method).1
  have X0 : Stand p l e ({ frames := 5, cells := 8, slots := 7171, locals := 62 } : Room) s m #[(.ref r0)] below meth c s₁ [] 0 0 := Stand.of_body Bd
  have e0 : s₁.heap = h0 := by rw [← hh, Bd.state]; rfl
  have N0 := Fr.nil n0
  have pre0 : ∀ t, Steps p.tables e below (s₁.setTop (mkF m 0 #[.val (.ref r0)] [])) t → Steps p.tables e below (s₁.setTop (entryFrame m #[(.ref r0)] 1)) t := fun t k => castTop (ef_1 m r0) k
  obtain ⟨_, _, ⟨T11, L11, k11, n11⟩, -, X11, ⟨Lc11, hQ11, l11, y11, z11⟩, st11⟩ := X0.specialBack hx (y := (⟨"com/example/conceptary/conceptary/SnapshotRows", "<init>", "()V"⟩ : MethodName)) rfl hown (mvT hZ (hw _ (List.mem_of_getElem? (i := 7) rfl))) (mvT hZ (hw _ (List.mem_of_getElem? (i := 8) rfl))) (mvT hZ (hw _ (List.mem_of_getElem? (i := 11) rfl))) (by decide) (backOf (W := 0) (rm2 l Z a0 hw [] r0 sd h0 n0 Z0 hp0 hp1 hp2 hp3 hp4 hp5 hp6 hp7 hp8 hp9 hp10 hp11) hZ (hw _ (List.mem_of_getElem? (i := 11) rfl)) (hw _ (List.mem_of_getElem? (i := 10) rfl)) (by decide) (by decide)) (g := (mkF m 1 #[.val (.ref r0)] [(.ref r0)])) rfl (by rw [hml]; rfl) (Steps.refl _) (a := r0) (argsL := []) (rest := []) (lenOf pd_0 rfl) rfl (by show 2 * 0 + _ ≤ _; exact Nat.le_of_eq rfl) (hb hby d1_1) (fun _ _ => ⟨rfl, e0, (by decide : 0 + 4 ≤ _), (by decide : 0 + 3075 ≤ _)⟩)
  dsimp only [Pt.U, Pt.locs, Pt.cells, Pt.slots] at X11 l11 y11 z11 st11 hQ11
  subst l11 y11 z11
  obtain ⟨fb_11, e1_11, e2_11, e3_11, rfl, Nq11, u11_0, u11_1, u11_2, u11_3, u11_4, u11_5, u11_6, u11_7, u11_8, u11_9, u11_10, u11_11, u11_12, u11_13, u11_14, u11_15, u11_16, u11_17, u11_18, u11_19, u11_20, u11_21, u11_22, u11_23, u11_24, u11_25⟩ := hQ11
  have N11 := Fr.app N0 Nq11
  have ne12 : r0 ≠ fb_11 := Nat.ne_of_lt (Nat.lt_of_lt_of_le hp0.lt u11_16)
  have g13 : n0 ≤ fb_11 := Nat.le_trans Z0 u11_16
  have z14 : h0.size ≤ fb_11 := Nat.le_trans (Keep.refl h0 [r0]).1 u11_16
  have ne15 : r0 ≠ e1_11 := Nat.ne_of_lt (Nat.lt_of_lt_of_le hp0.lt u11_17)
  have g16 : n0 ≤ e1_11 := Nat.le_trans Z0 u11_17
  have z17 : h0.size ≤ e1_11 := Nat.le_trans (Keep.refl h0 [r0]).1 u11_17
  have ne18 : r0 ≠ e2_11 := Nat.ne_of_lt (Nat.lt_of_lt_of_le hp0.lt u11_18)
  have g19 : n0 ≤ e2_11 := Nat.le_trans Z0 u11_18
  have z20 : h0.size ≤ e2_11 := Nat.le_trans (Keep.refl h0 [r0]).1 u11_18
  have ne21 : r0 ≠ e3_11 := Nat.ne_of_lt (Nat.lt_of_lt_of_le hp0.lt u11_19)
  have g22 : n0 ≤ e3_11 := Nat.le_trans Z0 u11_19
  have z23 : h0.size ≤ e3_11 := Nat.le_trans (Keep.refl h0 [r0]).1 u11_19
  have Z24 : n0 ≤ T11.heap.size := Nat.le_trans Z0 u11_0.1
  have K25 : Keep h0 T11.heap [r0] := (Keep.refl h0 [r0]).trans u11_0 (allS (Or.inl (List.mem_of_getElem? (i := 0) rfl)) all0)
  obtain ⟨T26, h26, k26, X26, e26, E26, A26, st26⟩ := newP X11 hx hZ (hw _ (List.mem_of_getElem? (i := 48) rfl)) rfl (g := (mkF m 8 #[.val (.ref r0)] [(.int (1024 : Int32)), (.ref r0)])) rfl (hb hby d1_8) rfl (by decide) (cap := 1024) (by decide) (by decide) (by decide) (by decide)
  obtain ⟨b26, gb26⟩ : ∃ z, z = T11.heap.size := ⟨_, rfl⟩
  rw [← gb26] at A26 st26
  have ne27 : r0 ≠ b26 := Nat.ne_of_lt (Nat.lt_of_lt_of_le u11_1.lt (Nat.le_of_eq gb26.symm))
  have ne28 : fb_11 ≠ b26 := Nat.ne_of_lt (Nat.lt_of_lt_of_le u11_11.lt (Nat.le_of_eq gb26.symm))
  have ne29 : e1_11 ≠ b26 := Nat.ne_of_lt (Nat.lt_of_lt_of_le u11_13.lt (Nat.le_of_eq gb26.symm))
  have ne30 : e2_11 ≠ b26 := Nat.ne_of_lt (Nat.lt_of_lt_of_le u11_14.lt (Nat.le_of_eq gb26.symm))
  have ne31 : e3_11 ≠ b26 := Nat.ne_of_lt (Nat.lt_of_lt_of_le u11_15.lt (Nat.le_of_eq gb26.symm))
  have g32 : n0 ≤ b26 := Nat.le_trans Z24 (Nat.le_of_eq gb26.symm)
  have z33 : h0.size ≤ b26 := Nat.le_trans K25.1 (Nat.le_of_eq gb26.symm)
  have Z34 : n0 ≤ h26.size := Nat.le_trans Z24 E26.1
  have K35 : Keep h0 h26 [r0] := K25.ext E26
  have V26 : AL Z h26 b26 (1024 : Int32) (fun _ => (0 : Int64)) := AL.new A26 (by decide)
  have E36 : Exa Z h26 r0 "com/example/conceptary/conceptary/ConceptTable$Builder" := (u11_1.ext E26)
  have F37 : Fld Z h26 r0 "com/example/conceptary/conceptary/ConceptTable$Builder" "ids" "[J" .null := (u11_7.ext E26)
  obtain ⟨T38, h38, X38, e38, W38, st38⟩ := putF X26 hx hZ hown (host := "") (Or.inl (hw _ (List.mem_of_getElem? (i := 49) rfl))) Via.refl e26 F37 E36 (Or.inl (hw _ (List.mem_of_getElem? (i := 50) rfl))) (hw _ (List.mem_of_getElem? (i := 2) rfl)) (ty := (.array .long)) (by decide) rfl rfl (g := (mkF m 10 #[.val (.ref r0)] [(.ref b26), (.ref r0)])) rfl rfl (hb hby d1_10)
  have F38 : Fld Z h38 r0 "com/example/conceptary/conceptary/ConceptTable$Builder" "ids" "[J" (.ref b26) := F37.same W38
  have Z39 : n0 ≤ h38.size := Nat.le_trans Z34 (Keep.of_wr W38).1
  have K40 : Keep h0 h38 [r0] := K35.wr W38 (Or.inl (List.mem_of_getElem? (i := 0) rfl))
  have N38 := Fr.snoc X38 N11 hp10
  obtain ⟨T41, h41, k41, X41, e41, E41, A41, st41⟩ := newP X38 hx hZ (hw _ (List.mem_of_getElem? (i := 51) rfl)) e38 (g := (mkF m 17 #[.val (.ref r0)] [(.int (1024 : Int32)), (.ref r0)])) rfl (hb hby d1_17) rfl (by decide) (cap := 1024) (by decide) (by decide) (by decide) (by decide)
  obtain ⟨b41, gb41⟩ : ∃ z, z = h38.size := ⟨_, rfl⟩
  rw [← gb41] at A41 st41
  have E43 : Exa Z h38 r0 "com/example/conceptary/conceptary/ConceptTable$Builder" := (E36.wr W38)
  have ne42 : r0 ≠ b41 := Nat.ne_of_lt (Nat.lt_of_lt_of_le E43.lt (Nat.le_of_eq gb41.symm))
  have E45 : Exa Z h38 fb_11 "java/util/ArrayList" := ((u11_11.ext E26).wr W38)
  have ne44 : fb_11 ≠ b41 := Nat.ne_of_lt (Nat.lt_of_lt_of_le E45.lt (Nat.le_of_eq gb41.symm))
  have V47 : AI Z h38 e1_11 .int (1024 : Int32) (fun _ => (0 : Int32)) := ((u11_13.ext E26).other W38 (Ne.symm ne15))
  have ne46 : e1_11 ≠ b41 := Nat.ne_of_lt (Nat.lt_of_lt_of_le V47.lt (Nat.le_of_eq gb41.symm))
  have V49 : AI Z h38 e2_11 .int (1024 : Int32) (fun _ => (0 : Int32)) := ((u11_14.ext E26).other W38 (Ne.symm ne18))
  have ne48 : e2_11 ≠ b41 := Nat.ne_of_lt (Nat.lt_of_lt_of_le V49.lt (Nat.le_of_eq gb41.symm))
  have V51 : AI Z h38 e3_11 .int (1024 : Int32) (fun _ => (0 : Int32)) := ((u11_15.ext E26).other W38 (Ne.symm ne21))
  have ne50 : e3_11 ≠ b41 := Nat.ne_of_lt (Nat.lt_of_lt_of_le V51.lt (Nat.le_of_eq gb41.symm))
  have V53 : AL Z h38 b26 (1024 : Int32) (fun _ => (0 : Int64)) := (V26.other W38 (Ne.symm ne27))
  have ne52 : b26 ≠ b41 := Nat.ne_of_lt (Nat.lt_of_lt_of_le V53.lt (Nat.le_of_eq gb41.symm))
  have g54 : n0 ≤ b41 := Nat.le_trans Z39 (Nat.le_of_eq gb41.symm)
  have z55 : h0.size ≤ b41 := Nat.le_trans K40.1 (Nat.le_of_eq gb41.symm)
  have Z56 : n0 ≤ h41.size := Nat.le_trans Z39 E41.1
  have K57 : Keep h0 h41 [r0] := K40.ext E41
  have V41 : AI Z h41 b41 .boolean (1024 : Int32) (fun _ => (0 : Int32)) := AI.new rfl A41 (by decide)
  have E58 : Exa Z h41 r0 "com/example/conceptary/conceptary/ConceptTable$Builder" := (E43.ext E41)
  have F59 : Fld Z h41 r0 "com/example/conceptary/conceptary/ConceptTable$Builder" "actives" "[Z" .null := (((u11_8.ext E26).other W38 (Or.inr (sn_ry_ConceptTable_Builderactives_eptary_ConceptTable_Builderids hw))).ext E41)
  obtain ⟨T60, h60, X60, e60, W60, st60⟩ := putF X41 hx hZ hown (host := "") (Or.inl (hw _ (List.mem_of_getElem? (i := 52) rfl))) Via.refl e41 F59 E58 (Or.inl (hw _ (List.mem_of_getElem? (i := 53) rfl))) (hw _ (List.mem_of_getElem? (i := 2) rfl)) (ty := (.array .boolean)) (by decide) rfl rfl (g := (mkF m 19 #[.val (.ref r0)] [(.ref b41), (.ref r0)])) rfl rfl (hb hby d1_19)
  have F60 : Fld Z h60 r0 "com/example/conceptary/conceptary/ConceptTable$Builder" "actives" "[Z" (.ref b41) := F59.same W60
  have Z61 : n0 ≤ h60.size := Nat.le_trans Z56 (Keep.of_wr W60).1
  have K62 : Keep h0 h60 [r0] := K57.wr W60 (Or.inl (List.mem_of_getElem? (i := 0) rfl))
  have N60 := Fr.snoc X60 N38 hp10
  obtain ⟨T63, h63, k63, X63, e63, E63, A63, st63⟩ := newP X60 hx hZ (hw _ (List.mem_of_getElem? (i := 48) rfl)) e60 (g := (mkF m 26 #[.val (.ref r0)] [(.int (1024 : Int32)), (.ref r0)])) rfl (hb hby d1_26) rfl (by decide) (cap := 1024) (by decide) (by decide) (by decide) (by decide)
  obtain ⟨b63, gb63⟩ : ∃ z, z = h60.size := ⟨_, rfl⟩
  rw [← gb63] at A63 st63
  have E65 : Exa Z h60 r0 "com/example/conceptary/conceptary/ConceptTable$Builder" := (E58.wr W60)
  have ne64 : r0 ≠ b63 := Nat.ne_of_lt (Nat.lt_of_lt_of_le E65.lt (Nat.le_of_eq gb63.symm))
  have E67 : Exa Z h60 fb_11 "java/util/ArrayList" := ((E45.ext E41).wr W60)
  have ne66 : fb_11 ≠ b63 := Nat.ne_of_lt (Nat.lt_of_lt_of_le E67.lt (Nat.le_of_eq gb63.symm))
  have V69 : AI Z h60 e1_11 .int (1024 : Int32) (fun _ => (0 : Int32)) := ((V47.ext E41).other W60 (Ne.symm ne15))
  have ne68 : e1_11 ≠ b63 := Nat.ne_of_lt (Nat.lt_of_lt_of_le V69.lt (Nat.le_of_eq gb63.symm))
  have V71 : AI Z h60 e2_11 .int (1024 : Int32) (fun _ => (0 : Int32)) := ((V49.ext E41).other W60 (Ne.symm ne18))
  have ne70 : e2_11 ≠ b63 := Nat.ne_of_lt (Nat.lt_of_lt_of_le V71.lt (Nat.le_of_eq gb63.symm))
  have V73 : AI Z h60 e3_11 .int (1024 : Int32) (fun _ => (0 : Int32)) := ((V51.ext E41).other W60 (Ne.symm ne21))
  have ne72 : e3_11 ≠ b63 := Nat.ne_of_lt (Nat.lt_of_lt_of_le V73.lt (Nat.le_of_eq gb63.symm))
  have V75 : AL Z h60 b26 (1024 : Int32) (fun _ => (0 : Int64)) := ((V53.ext E41).other W60 (Ne.symm ne27))
  have ne74 : b26 ≠ b63 := Nat.ne_of_lt (Nat.lt_of_lt_of_le V75.lt (Nat.le_of_eq gb63.symm))
  have V77 : AI Z h60 b41 .boolean (1024 : Int32) (fun _ => (0 : Int32)) := (V41.other W60 (Ne.symm ne42))
  have ne76 : b41 ≠ b63 := Nat.ne_of_lt (Nat.lt_of_lt_of_le V77.lt (Nat.le_of_eq gb63.symm))
  have g78 : n0 ≤ b63 := Nat.le_trans Z61 (Nat.le_of_eq gb63.symm)
  have z79 : h0.size ≤ b63 := Nat.le_trans K62.1 (Nat.le_of_eq gb63.symm)
  have Z80 : n0 ≤ h63.size := Nat.le_trans Z61 E63.1
  have K81 : Keep h0 h63 [r0] := K62.ext E63
  have V63 : AL Z h63 b63 (1024 : Int32) (fun _ => (0 : Int64)) := AL.new A63 (by decide)
  have E82 : Exa Z h63 r0 "com/example/conceptary/conceptary/ConceptTable$Builder" := (E65.ext E63)
  have F83 : Fld Z h63 r0 "com/example/conceptary/conceptary/ConceptTable$Builder" "moduleIds" "[J" .null := (((((u11_9.ext E26).other W38 (Or.inr (sn__ConceptTable_BuildermoduleIds_eptary_ConceptTable_Builderids hw))).ext E41).other W60 (Or.inr (sn__ConceptTable_BuildermoduleIds_ry_ConceptTable_Builderactives hw))).ext E63)
  obtain ⟨T84, h84, X84, e84, W84, st84⟩ := putF X63 hx hZ hown (host := "") (Or.inl (hw _ (List.mem_of_getElem? (i := 54) rfl))) Via.refl e63 F83 E82 (Or.inl (hw _ (List.mem_of_getElem? (i := 55) rfl))) (hw _ (List.mem_of_getElem? (i := 2) rfl)) (ty := (.array .long)) (by decide) rfl rfl (g := (mkF m 28 #[.val (.ref r0)] [(.ref b63), (.ref r0)])) rfl rfl (hb hby d1_28)
  have F84 : Fld Z h84 r0 "com/example/conceptary/conceptary/ConceptTable$Builder" "moduleIds" "[J" (.ref b63) := F83.same W84
  have Z85 : n0 ≤ h84.size := Nat.le_trans Z80 (Keep.of_wr W84).1
  have K86 : Keep h0 h84 [r0] := K81.wr W84 (Or.inl (List.mem_of_getElem? (i := 0) rfl))
  have N84 := Fr.snoc X84 N60 hp10
  obtain ⟨T87, h87, k87, X87, e87, E87, A87, st87⟩ := newP X84 hx hZ (hw _ (List.mem_of_getElem? (i := 48) rfl)) e84 (g := (mkF m 35 #[.val (.ref r0)] [(.int (1024 : Int32)), (.ref r0)])) rfl (hb hby d1_35) rfl (by decide) (cap := 1024) (by decide) (by decide) (by decide) (by decide)
  obtain ⟨b87, gb87⟩ : ∃ z, z = h84.size := ⟨_, rfl⟩
  rw [← gb87] at A87 st87
  have E89 : Exa Z h84 r0 "com/example/conceptary/conceptary/ConceptTable$Builder" := (E82.wr W84)
  have ne88 : r0 ≠ b87 := Nat.ne_of_lt (Nat.lt_of_lt_of_le E89.lt (Nat.le_of_eq gb87.symm))
  have E91 : Exa Z h84 fb_11 "java/util/ArrayList" := ((E67.ext E63).wr W84)
  have ne90 : fb_11 ≠ b87 := Nat.ne_of_lt (Nat.lt_of_lt_of_le E91.lt (Nat.le_of_eq gb87.symm))
  have V93 : AI Z h84 e1_11 .int (1024 : Int32) (fun _ => (0 : Int32)) := ((V69.ext E63).other W84 (Ne.symm ne15))
  have ne92 : e1_11 ≠ b87 := Nat.ne_of_lt (Nat.lt_of_lt_of_le V93.lt (Nat.le_of_eq gb87.symm))
  have V95 : AI Z h84 e2_11 .int (1024 : Int32) (fun _ => (0 : Int32)) := ((V71.ext E63).other W84 (Ne.symm ne18))
  have ne94 : e2_11 ≠ b87 := Nat.ne_of_lt (Nat.lt_of_lt_of_le V95.lt (Nat.le_of_eq gb87.symm))
  have V97 : AI Z h84 e3_11 .int (1024 : Int32) (fun _ => (0 : Int32)) := ((V73.ext E63).other W84 (Ne.symm ne21))
  have ne96 : e3_11 ≠ b87 := Nat.ne_of_lt (Nat.lt_of_lt_of_le V97.lt (Nat.le_of_eq gb87.symm))
  have V99 : AL Z h84 b26 (1024 : Int32) (fun _ => (0 : Int64)) := ((V75.ext E63).other W84 (Ne.symm ne27))
  have ne98 : b26 ≠ b87 := Nat.ne_of_lt (Nat.lt_of_lt_of_le V99.lt (Nat.le_of_eq gb87.symm))
  have V101 : AI Z h84 b41 .boolean (1024 : Int32) (fun _ => (0 : Int32)) := ((V77.ext E63).other W84 (Ne.symm ne42))
  have ne100 : b41 ≠ b87 := Nat.ne_of_lt (Nat.lt_of_lt_of_le V101.lt (Nat.le_of_eq gb87.symm))
  have V103 : AL Z h84 b63 (1024 : Int32) (fun _ => (0 : Int64)) := (V63.other W84 (Ne.symm ne64))
  have ne102 : b63 ≠ b87 := Nat.ne_of_lt (Nat.lt_of_lt_of_le V103.lt (Nat.le_of_eq gb87.symm))
  have g104 : n0 ≤ b87 := Nat.le_trans Z85 (Nat.le_of_eq gb87.symm)
  have z105 : h0.size ≤ b87 := Nat.le_trans K86.1 (Nat.le_of_eq gb87.symm)
  have Z106 : n0 ≤ h87.size := Nat.le_trans Z85 E87.1
  have K107 : Keep h0 h87 [r0] := K86.ext E87
  have V87 : AL Z h87 b87 (1024 : Int32) (fun _ => (0 : Int64)) := AL.new A87 (by decide)
  have E108 : Exa Z h87 r0 "com/example/conceptary/conceptary/ConceptTable$Builder" := (E89.ext E87)
  have F109 : Fld Z h87 r0 "com/example/conceptary/conceptary/ConceptTable$Builder" "definitionStatusIds" "[J" .null := (((((((u11_10.ext E26).other W38 (Or.inr (sn_ble_BuilderdefinitionStatusIds_eptary_ConceptTable_Builderids hw))).ext E41).other W60 (Or.inr (sn_ble_BuilderdefinitionStatusIds_ry_ConceptTable_Builderactives hw))).ext E63).other W84 (Or.inr (sn_ble_BuilderdefinitionStatusIds__ConceptTable_BuildermoduleIds hw))).ext E87)
  obtain ⟨T110, h110, X110, e110, W110, st110⟩ := putF X87 hx hZ hown (host := "") (Or.inl (hw _ (List.mem_of_getElem? (i := 56) rfl))) Via.refl e87 F109 E108 (Or.inl (hw _ (List.mem_of_getElem? (i := 57) rfl))) (hw _ (List.mem_of_getElem? (i := 2) rfl)) (ty := (.array .long)) (by decide) rfl rfl (g := (mkF m 37 #[.val (.ref r0)] [(.ref b87), (.ref r0)])) rfl rfl (hb hby d1_37)
  have F110 : Fld Z h110 r0 "com/example/conceptary/conceptary/ConceptTable$Builder" "definitionStatusIds" "[J" (.ref b87) := F109.same W110
  have Z111 : n0 ≤ h110.size := Nat.le_trans Z106 (Keep.of_wr W110).1
  have K112 : Keep h0 h110 [r0] := K107.wr W110 (Or.inl (List.mem_of_getElem? (i := 0) rfl))
  have N110 := Fr.snoc X110 N84 hp10
  have E113 : Exa Z h110 r0 "com/example/conceptary/conceptary/ConceptTable$Builder" := (E108.wr W110)
  have F114 : Fld Z h110 r0 "com/example/conceptary/conceptary/SnapshotRows" "files" "Ljava/util/List;" (.ref fb_11) := ((((((((u11_2.ext E26).other W38 (Or.inr (sn_y_conceptary_SnapshotRowsfiles_eptary_ConceptTable_Builderids hw))).ext E41).other W60 (Or.inr (sn_y_conceptary_SnapshotRowsfiles_ry_ConceptTable_Builderactives hw))).ext E63).other W84 (Or.inr (sn_y_conceptary_SnapshotRowsfiles__ConceptTable_BuildermoduleIds hw))).ext E87).other W110 (Or.inr (sn_y_conceptary_SnapshotRowsfiles_ble_BuilderdefinitionStatusIds hw)))
  have F115 : Fld Z h110 r0 "com/example/conceptary/conceptary/SnapshotRows" "effectiveTimes" "[I" (.ref e1_11) := ((((((((u11_3.ext E26).other W38 (Or.inr (sn_ary_SnapshotRowseffectiveTimes_eptary_ConceptTable_Builderids hw))).ext E41).other W60 (Or.inr (sn_ary_SnapshotRowseffectiveTimes_ry_ConceptTable_Builderactives hw))).ext E63).other W84 (Or.inr (sn_ary_SnapshotRowseffectiveTimes__ConceptTable_BuildermoduleIds hw))).ext E87).other W110 (Or.inr (sn_ary_SnapshotRowseffectiveTimes_ble_BuilderdefinitionStatusIds hw)))
  have F116 : Fld Z h110 r0 "com/example/conceptary/conceptary/SnapshotRows" "fileIndexes" "[I" (.ref e2_11) := ((((((((u11_4.ext E26).other W38 (Or.inr (sn_eptary_SnapshotRowsfileIndexes_eptary_ConceptTable_Builderids hw))).ext E41).other W60 (Or.inr (sn_eptary_SnapshotRowsfileIndexes_ry_ConceptTable_Builderactives hw))).ext E63).other W84 (Or.inr (sn_eptary_SnapshotRowsfileIndexes__ConceptTable_BuildermoduleIds hw))).ext E87).other W110 (Or.inr (sn_eptary_SnapshotRowsfileIndexes_ble_BuilderdefinitionStatusIds hw)))
  have F117 : Fld Z h110 r0 "com/example/conceptary/conceptary/SnapshotRows" "lines" "[I" (.ref e3_11) := ((((((((u11_5.ext E26).other W38 (Or.inr (sn_y_conceptary_SnapshotRowslines_eptary_ConceptTable_Builderids hw))).ext E41).other W60 (Or.inr (sn_y_conceptary_SnapshotRowslines_ry_ConceptTable_Builderactives hw))).ext E63).other W84 (Or.inr (sn_y_conceptary_SnapshotRowslines__ConceptTable_BuildermoduleIds hw))).ext E87).other W110 (Or.inr (sn_y_conceptary_SnapshotRowslines_ble_BuilderdefinitionStatusIds hw)))
  have F118 : Fld Z h110 r0 "com/example/conceptary/conceptary/SnapshotRows" "size" "I" (.int (0 : Int32)) := ((((((((u11_6.ext E26).other W38 (Or.inr (sn_ry_conceptary_SnapshotRowssize_eptary_ConceptTable_Builderids hw))).ext E41).other W60 (Or.inr (sn_ry_conceptary_SnapshotRowssize_ry_ConceptTable_Builderactives hw))).ext E63).other W84 (Or.inr (sn_ry_conceptary_SnapshotRowssize__ConceptTable_BuildermoduleIds hw))).ext E87).other W110 (Or.inr (sn_ry_conceptary_SnapshotRowssize_ble_BuilderdefinitionStatusIds hw)))
  have F119 : Fld Z h110 r0 "com/example/conceptary/conceptary/ConceptTable$Builder" "ids" "[J" (.ref b26) := ((((((F38.ext E41).other W60 (Or.inr (sn_eptary_ConceptTable_Builderids_ry_ConceptTable_Builderactives hw))).ext E63).other W84 (Or.inr (sn_eptary_ConceptTable_Builderids__ConceptTable_BuildermoduleIds hw))).ext E87).other W110 (Or.inr (sn_eptary_ConceptTable_Builderids_ble_BuilderdefinitionStatusIds hw)))
  have F120 : Fld Z h110 r0 "com/example/conceptary/conceptary/ConceptTable$Builder" "actives" "[Z" (.ref b41) := ((((F60.ext E63).other W84 (Or.inr (sn_ry_ConceptTable_Builderactives__ConceptTable_BuildermoduleIds hw))).ext E87).other W110 (Or.inr (sn_ry_ConceptTable_Builderactives_ble_BuilderdefinitionStatusIds hw)))
  have F121 : Fld Z h110 r0 "com/example/conceptary/conceptary/ConceptTable$Builder" "moduleIds" "[J" (.ref b63) := ((F84.ext E87).other W110 (Or.inr (sn__ConceptTable_BuildermoduleIds_ble_BuilderdefinitionStatusIds hw)))
  have E122 : Exa Z h110 fb_11 "java/util/ArrayList" := ((E91.ext E87).wr W110)
  have F123 : Fld Z h110 fb_11 "java/util/ArrayList" "size" "I" (.int (0 : Int32)) := ((((((((u11_12.ext E26).other W38 (Or.inl (Ne.symm ne12))).ext E41).other W60 (Or.inl (Ne.symm ne12))).ext E63).other W84 (Or.inl (Ne.symm ne12))).ext E87).other W110 (Or.inl (Ne.symm ne12)))
  have V124 : AI Z h110 e1_11 .int (1024 : Int32) (fun _ => (0 : Int32)) := ((V93.ext E87).other W110 (Ne.symm ne15))
  have V125 : AI Z h110 e2_11 .int (1024 : Int32) (fun _ => (0 : Int32)) := ((V95.ext E87).other W110 (Ne.symm ne18))
  have V126 : AI Z h110 e3_11 .int (1024 : Int32) (fun _ => (0 : Int32)) := ((V97.ext E87).other W110 (Ne.symm ne21))
  have V127 : AL Z h110 b26 (1024 : Int32) (fun _ => (0 : Int64)) := ((V99.ext E87).other W110 (Ne.symm ne27))
  have V128 : AI Z h110 b41 .boolean (1024 : Int32) (fun _ => (0 : Int32)) := ((V101.ext E87).other W110 (Ne.symm ne42))
  have V129 : AL Z h110 b63 (1024 : Int32) (fun _ => (0 : Int64)) := ((V103.ext E87).other W110 (Ne.symm ne64))
  have V130 : AL Z h110 b87 (1024 : Int32) (fun _ => (0 : Int64)) := (V87.other W110 (Ne.symm ne88))
  obtain ⟨fs, hr, hrun, hended, hW, hsame⟩ := X110.leave (v := none) (fun _ => rfl)
  refine ⟨_, _, pre0 _ ?_, hrun, hended, _, _, rfl, ?_, ⟨_, rfl⟩, hW, hsame.mono (by decide) (by decide)⟩
  · refine XS.aloadN X0.here hx rfl (hb hby d1_0) rfl rfl ?_
    show Steps p.tables e below (s₁.setTop (mkF m 1 #[.val (.ref r0)] [(.ref r0)])) _
    refine st11.trans ?_
    show Steps p.tables e below (T11.setTop (mkF m 4 #[.val (.ref r0)] [])) _
    refine XS.aloadN X11.here hx rfl (hb hby d1_4) rfl rfl ?_
    show Steps p.tables e below (T11.setTop (mkF m 5 #[.val (.ref r0)] [(.ref r0)])) _
    refine XS.sipush X11.here hx rfl (hb hby d1_5) ?_
    show Steps p.tables e below (T11.setTop (mkF m 8 #[.val (.ref r0)] [(.int (1024 : Int32)), (.ref r0)])) _
    refine st26 _ ?_
    show Steps p.tables e below (T26.setTop (mkF m 10 #[.val (.ref r0)] [(.ref b26), (.ref r0)])) _
    refine st38 _ ?_
    show Steps p.tables e below (T38.setTop (mkF m 13 #[.val (.ref r0)] [])) _
    refine XS.aloadN X38.here hx rfl (hb hby d1_13) rfl rfl ?_
    show Steps p.tables e below (T38.setTop (mkF m 14 #[.val (.ref r0)] [(.ref r0)])) _
    refine XS.sipush X38.here hx rfl (hb hby d1_14) ?_
    show Steps p.tables e below (T38.setTop (mkF m 17 #[.val (.ref r0)] [(.int (1024 : Int32)), (.ref r0)])) _
    refine st41 _ ?_
    show Steps p.tables e below (T41.setTop (mkF m 19 #[.val (.ref r0)] [(.ref b41), (.ref r0)])) _
    refine st60 _ ?_
    show Steps p.tables e below (T60.setTop (mkF m 22 #[.val (.ref r0)] [])) _
    refine XS.aloadN X60.here hx rfl (hb hby d1_22) rfl rfl ?_
    show Steps p.tables e below (T60.setTop (mkF m 23 #[.val (.ref r0)] [(.ref r0)])) _
    refine XS.sipush X60.here hx rfl (hb hby d1_23) ?_
    show Steps p.tables e below (T60.setTop (mkF m 26 #[.val (.ref r0)] [(.int (1024 : Int32)), (.ref r0)])) _
    refine st63 _ ?_
    show Steps p.tables e below (T63.setTop (mkF m 28 #[.val (.ref r0)] [(.ref b63), (.ref r0)])) _
    refine st84 _ ?_
    show Steps p.tables e below (T84.setTop (mkF m 31 #[.val (.ref r0)] [])) _
    refine XS.aloadN X84.here hx rfl (hb hby d1_31) rfl rfl ?_
    show Steps p.tables e below (T84.setTop (mkF m 32 #[.val (.ref r0)] [(.ref r0)])) _
    refine XS.sipush X84.here hx rfl (hb hby d1_32) ?_
    show Steps p.tables e below (T84.setTop (mkF m 35 #[.val (.ref r0)] [(.int (1024 : Int32)), (.ref r0)])) _
    refine st87 _ ?_
    show Steps p.tables e below (T87.setTop (mkF m 37 #[.val (.ref r0)] [(.ref b87), (.ref r0)])) _
    refine st110 _ ?_
    show Steps p.tables e below (T110.setTop (mkF m 40 #[.val (.ref r0)] [])) _
    exact X110.returnOut hx Bd.returns (hb hby d1_40) hr
  · show Q1 Z r0 sd h0 n0 _ T110.heap _
    rw [e110]
    exact ⟨fb_11, e1_11, e2_11, e3_11, b26, b41, b63, b87, rfl, N110, K112, E113, F114, F115, F116, F117, F118, F119, F120, F121, F110, E122, F123, V124, V125, V126, V127, V128, V129, V130, z14, z17, z20, z23, z33, z55, z79, z105, u11_20, u11_21, u11_22, ne28, ne44, ne66, ne90, u11_23, u11_24, ne29, ne46, ne68, ne92, u11_25, ne30, ne48, ne70, ne94, ne31, ne50, ne72, ne96, ne52, ne74, ne98, ne76, ne100, ne102⟩
theorem d8_0 : decode jdk_30_method_1_code 0 = .ok (.aload_n 0, 1) := by decide +kernel
theorem d8_1 : decode jdk_30_method_1_code 1 = .ok (.invokespecial 1, 3) := by decide +kernel
theorem d8_4 : decode jdk_30_method_1_code 4 = .ok (.return_, 1) := by decide +kernel
theorem pn_8 : plainName "java/lang/Record" = true := by first | (simp [plainName, overriddenIn]; done) | decide +kernel
theorem ef_8 (m : MethodId) (r0 : Addr) : entryFrame m #[(.ref r0)] 1 = mkF m 0 #[.val (.ref r0)] [] := by first | (simp [entryFrame, mkF, argsToLocals, Value.category]; done) | rfl
def Q8 (Z : State) (r0 : Addr) (h0 : Heap) (n0 : Nat) (v : Option Value) (h : Heap) (L : List Loc) : Prop := v = none ∧ Fr n0 L ∧ h = h0
set_option maxRecDepth 65536 in
set_option maxHeartbeats 40000000 in
theorem rm8 (l : Launch) (Z : State) (a0 : Array Value) (hw : ∀ d ∈ tables_1, d.before a0 Z = true) (ws : List Jvm.Cond) (r0 : Addr) (h0 : Heap) (n0 : Nat) (Z0 : n0 ≤ h0.size)  :
    MetFree l (⟨"java/lang/Record", "<init>", "()V"⟩ : MethodName) (head1 (Jvm.Cond.code (⟨"java/lang/Record", "<init>", "()V"⟩ : MethodName) jdk_30_method_1_code 1 none :: ws) ({ frames := 1, cells := 0, slots := 0, locals := 12 } : Room)) (fun a U => a = #[(.ref r0)] ∧ Z.Warmed39 U.vm ∧ U.heap = h0) (fun _ _ _ _ _ => True) (fun _ U o U' => ∃ v L, o = .returned v ∧ Q8 Z r0 h0 n0 v U'.heap L ∧ FrameEnd U o U' L ({ frames := 1, cells := 0, slots := 0, locals := 12 } : Room).cells ({ frames := 1, cells := 0, slots := 0, locals := 12 } : Room).slots) := by
  refine MetFree.of_bodySF (plainFor_of_name pn_8) hisR ?_
  intro p e s m args below meth c s₁ Bd hml0 hP hK
  obtain ⟨rfl, hZ, hh⟩ := hP
  have hx := Bd.exec
  have hby := Bd.bytes
  have hml : c.maxLocals = 1 := hml0
  have hown : s.vm.findClass "java/lang/Record" = some m.cls := findClass_of_methodNamed Bd.named
  have hnm := (name_of_methodNamed Bd.named Bd.method).1
  have X0 : Stand p l e ({ frames := 1, cells := 0, slots := 0, locals := 12 } : Room) s m #[(.ref r0)] below meth c s₁ [] 0 0 := Stand.of_body Bd
  have e0 : s₁.heap = h0 := by rw [← hh, Bd.state]; rfl
  have N0 := Fr.nil n0
  have pre0 : ∀ t, Steps p.tables e below (s₁.setTop (mkF m 0 #[.val (.ref r0)] [])) t → Steps p.tables e below (s₁.setTop (entryFrame m #[(.ref r0)] 1)) t := fun t k => castTop (ef_8 m r0) k
  obtain ⟨T11, X11, e11, st11⟩ := initO X0 hx hZ hown (hw _ (List.mem_of_getElem? (i := 69) rfl)) (hw _ (List.mem_of_getElem? (i := 13) rfl)) (hw _ (List.mem_of_getElem? (i := 14) rfl)) e0 (g := (mkF m 1 #[.val (.ref r0)] [(.ref r0)])) rfl (by rw [hml]; rfl) rfl (hb hby d8_1) (by decide) (W := 0) (by show 2 * 0 + _ ≤ _; exact Nat.le_of_eq rfl) (by decide)
  obtain ⟨fs, hr, hrun, hended, hW, hsame⟩ := X11.leave (v := none) (fun _ => rfl)
  refine ⟨_, _, pre0 _ ?_, hrun, hended, _, _, rfl, ?_, ⟨_, rfl⟩, hW, hsame.mono (by decide) (by decide)⟩
  · refine XS.aloadN X0.here hx rfl (hb hby d8_0) rfl rfl ?_
    show Steps p.tables e below (s₁.setTop (mkF m 1 #[.val (.ref r0)] [(.ref r0)])) _
    refine st11 _ ?_
    show Steps p.tables e below (T11.setTop (mkF m 4 #[.val (.ref r0)] [])) _
    exact X11.returnOut hx Bd.returns (hb hby d8_4) hr
  · show Q8 Z r0 h0 n0 _ T11.heap _
    rw [e11]
    exact ⟨rfl, N0, rfl⟩
theorem d7_0 : decode prog_7_method_1_code 0 = .ok (.aload_n 0, 1) := by decide +kernel
theorem d7_1 : decode prog_7_method_1_code 1 = .ok (.invokespecial 1, 3) := by decide +kernel
theorem d7_4 : decode prog_7_method_1_code 4 = .ok (.aload_n 0, 1) := by decide +kernel
theorem d7_5 : decode prog_7_method_1_code 5 = .ok (.lload_n 1, 1) := by decide +kernel
theorem d7_6 : decode prog_7_method_1_code 6 = .ok (.putfield 7, 3) := by decide +kernel
theorem d7_9 : decode prog_7_method_1_code 9 = .ok (.aload_n 0, 1) := by decide +kernel
theorem d7_10 : decode prog_7_method_1_code 10 = .ok (.iload_n 3, 1) := by decide +kernel
theorem d7_11 : decode prog_7_method_1_code 11 = .ok (.putfield 13, 3) := by decide +kernel
theorem d7_14 : decode prog_7_method_1_code 14 = .ok (.aload_n 0, 1) := by decide +kernel
theorem d7_15 : decode prog_7_method_1_code 15 = .ok (.iload 4, 2) := by decide +kernel
theorem d7_17 : decode prog_7_method_1_code 17 = .ok (.putfield 17, 3) := by decide +kernel
theorem d7_20 : decode prog_7_method_1_code 20 = .ok (.aload_n 0, 1) := by decide +kernel
theorem d7_21 : decode prog_7_method_1_code 21 = .ok (.lload 5, 2) := by decide +kernel
theorem d7_23 : decode prog_7_method_1_code 23 = .ok (.putfield 21, 3) := by decide +kernel
theorem d7_26 : decode prog_7_method_1_code 26 = .ok (.aload_n 0, 1) := by decide +kernel
theorem d7_27 : decode prog_7_method_1_code 27 = .ok (.lload 7, 2) := by decide +kernel
theorem d7_29 : decode prog_7_method_1_code 29 = .ok (.putfield 24, 3) := by decide +kernel
theorem d7_32 : decode prog_7_method_1_code 32 = .ok (.return_, 1) := by decide +kernel
theorem pn_7 : plainName "com/example/conceptary/conceptary/Concept" = true := by first | (simp [plainName, overriddenIn]; done) | decide +kernel
theorem ef_7 (m : MethodId) (r0 : Addr) (q1 : Int64) (p2 : Int32) (p3 : Int32) (q4 : Int64) (q5 : Int64) : entryFrame m #[(.ref r0), (.long q1), (.int p2), (.int p3), (.long q4), (.long q5)] 9 = mkF m 0 #[.val (.ref r0), .val (.long q1), .second, .val (.int p2), .val (.int p3), .val (.long q4), .second, .val (.long q5), .second] [] := by first | (simp [entryFrame, mkF, argsToLocals, Value.category]; done) | rfl
theorem sn_onceptary_ConcepteffectiveTime_onceptary_conceptary_Conceptid {Z : State} {a0 : Array Value} (hw : ∀ d ∈ tables_1, d.before a0 Z = true) : Jvm.RoadKit.slotOf Z "com/example/conceptary/conceptary/Concept" "effectiveTime" "I" ≠ Jvm.RoadKit.slotOf Z "com/example/conceptary/conceptary/Concept" "id" "J" := slot_ne (Or.inr (hw _ (List.mem_of_getElem? (i := 73) rfl))) (Or.inr (hw _ (List.mem_of_getElem? (i := 71) rfl))) (by decide) (t := .int) (t' := .long) (by decide) (by decide)
theorem sn_ptary_conceptary_Conceptactive_onceptary_conceptary_Conceptid {Z : State} {a0 : Array Value} (hw : ∀ d ∈ tables_1, d.before a0 Z = true) : Jvm.RoadKit.slotOf Z "com/example/conceptary/conceptary/Concept" "active" "Z" ≠ Jvm.RoadKit.slotOf Z "com/example/conceptary/conceptary/Concept" "id" "J" := slot_ne (Or.inr (hw _ (List.mem_of_getElem? (i := 75) rfl))) (Or.inr (hw _ (List.mem_of_getElem? (i := 71) rfl))) (by decide) (t := .boolean) (t' := .long) (by decide) (by decide)
theorem sn_ptary_conceptary_Conceptactive_onceptary_ConcepteffectiveTime {Z : State} {a0 : Array Value} (hw : ∀ d ∈ tables_1, d.before a0 Z = true) : Jvm.RoadKit.slotOf Z "com/example/conceptary/conceptary/Concept" "active" "Z" ≠ Jvm.RoadKit.slotOf Z "com/example/conceptary/conceptary/Concept" "effectiveTime" "I" := slot_ne (Or.inr (hw _ (List.mem_of_getElem? (i := 75) rfl))) (Or.inr (hw _ (List.mem_of_getElem? (i := 73) rfl))) (by decide) (t := .boolean) (t' := .int) (by decide) (by decide)
theorem sn_ary_conceptary_ConceptmoduleId_onceptary_conceptary_Conceptid {Z : State} {a0 : Array Value} (hw : ∀ d ∈ tables_1, d.before a0 Z = true) : Jvm.RoadKit.slotOf Z "com/example/conceptary/conceptary/Concept" "moduleId" "J" ≠ Jvm.RoadKit.slotOf Z "com/example/conceptary/conceptary/Concept" "id" "J" := slot_ne (Or.inr (hw _ (List.mem_of_getElem? (i := 77) rfl))) (Or.inr (hw _ (List.mem_of_getElem? (i := 71) rfl))) (by decide) (t := .long) (t' := .long) (by decide) (by decide)
theorem sn_ary_conceptary_ConceptmoduleId_onceptary_ConcepteffectiveTime {Z : State} {a0 : Array Value} (hw : ∀ d ∈ tables_1, d.before a0 Z = true) : Jvm.RoadKit.slotOf Z "com/example/conceptary/conceptary/Concept" "moduleId" "J" ≠ Jvm.RoadKit.slotOf Z "com/example/conceptary/conceptary/Concept" "effectiveTime" "I" := slot_ne (Or.inr (hw _ (List.mem_of_getElem? (i := 77) rfl))) (Or.inr (hw _ (List.mem_of_getElem? (i := 73) rfl))) (by decide) (t := .long) (t' := .int) (by decide) (by decide)
theorem sn_ary_conceptary_ConceptmoduleId_ptary_conceptary_Conceptactive {Z : State} {a0 : Array Value} (hw : ∀ d ∈ tables_1, d.before a0 Z = true) : Jvm.RoadKit.slotOf Z "com/example/conceptary/conceptary/Concept" "moduleId" "J" ≠ Jvm.RoadKit.slotOf Z "com/example/conceptary/conceptary/Concept" "active" "Z" := slot_ne (Or.inr (hw _ (List.mem_of_getElem? (i := 77) rfl))) (Or.inr (hw _ (List.mem_of_getElem? (i := 75) rfl))) (by decide) (t := .long) (t' := .boolean) (by decide) (by decide)
theorem sn_tary_ConceptdefinitionStatusId_onceptary_conceptary_Conceptid {Z : State} {a0 : Array Value} (hw : ∀ d ∈ tables_1, d.before a0 Z = true) : Jvm.RoadKit.slotOf Z "com/example/conceptary/conceptary/Concept" "definitionStatusId" "J" ≠ Jvm.RoadKit.slotOf Z "com/example/conceptary/conceptary/Concept" "id" "J" := slot_ne (Or.inr (hw _ (List.mem_of_getElem? (i := 79) rfl))) (Or.inr (hw _ (List.mem_of_getElem? (i := 71) rfl))) (by decide) (t := .long) (t' := .long) (by decide) (by decide)
theorem sn_tary_ConceptdefinitionStatusId_onceptary_ConcepteffectiveTime {Z : State} {a0 : Array Value} (hw : ∀ d ∈ tables_1, d.before a0 Z = true) : Jvm.RoadKit.slotOf Z "com/example/conceptary/conceptary/Concept" "definitionStatusId" "J" ≠ Jvm.RoadKit.slotOf Z "com/example/conceptary/conceptary/Concept" "effectiveTime" "I" := slot_ne (Or.inr (hw _ (List.mem_of_getElem? (i := 79) rfl))) (Or.inr (hw _ (List.mem_of_getElem? (i := 73) rfl))) (by decide) (t := .long) (t' := .int) (by decide) (by decide)
theorem sn_tary_ConceptdefinitionStatusId_ptary_conceptary_Conceptactive {Z : State} {a0 : Array Value} (hw : ∀ d ∈ tables_1, d.before a0 Z = true) : Jvm.RoadKit.slotOf Z "com/example/conceptary/conceptary/Concept" "definitionStatusId" "J" ≠ Jvm.RoadKit.slotOf Z "com/example/conceptary/conceptary/Concept" "active" "Z" := slot_ne (Or.inr (hw _ (List.mem_of_getElem? (i := 79) rfl))) (Or.inr (hw _ (List.mem_of_getElem? (i := 75) rfl))) (by decide) (t := .long) (t' := .boolean) (by decide) (by decide)
theorem sn_tary_ConceptdefinitionStatusId_ary_conceptary_ConceptmoduleId {Z : State} {a0 : Array Value} (hw : ∀ d ∈ tables_1, d.before a0 Z = true) : Jvm.RoadKit.slotOf Z "com/example/conceptary/conceptary/Concept" "definitionStatusId" "J" ≠ Jvm.RoadKit.slotOf Z "com/example/conceptary/conceptary/Concept" "moduleId" "J" := slot_ne (Or.inr (hw _ (List.mem_of_getElem? (i := 79) rfl))) (Or.inr (hw _ (List.mem_of_getElem? (i := 77) rfl))) (by decide) (t := .long) (t' := .long) (by decide) (by decide)
theorem sn_onceptary_conceptary_Conceptid_onceptary_ConcepteffectiveTime {Z : State} {a0 : Array Value} (hw : ∀ d ∈ tables_1, d.before a0 Z = true) : Jvm.RoadKit.slotOf Z "com/example/conceptary/conceptary/Concept" "id" "J" ≠ Jvm.RoadKit.slotOf Z "com/example/conceptary/conceptary/Concept" "effectiveTime" "I" := slot_ne (Or.inr (hw _ (List.mem_of_getElem? (i := 71) rfl))) (Or.inr (hw _ (List.mem_of_getElem? (i := 73) rfl))) (by decide) (t := .long) (t' := .int) (by decide) (by decide)
theorem sn_onceptary_conceptary_Conceptid_ptary_conceptary_Conceptactive {Z : State} {a0 : Array Value} (hw : ∀ d ∈ tables_1, d.before a0 Z = true) : Jvm.RoadKit.slotOf Z "com/example/conceptary/conceptary/Concept" "id" "J" ≠ Jvm.RoadKit.slotOf Z "com/example/conceptary/conceptary/Concept" "active" "Z" := slot_ne (Or.inr (hw _ (List.mem_of_getElem? (i := 71) rfl))) (Or.inr (hw _ (List.mem_of_getElem? (i := 75) rfl))) (by decide) (t := .long) (t' := .boolean) (by decide) (by decide)
theorem sn_onceptary_conceptary_Conceptid_ary_conceptary_ConceptmoduleId {Z : State} {a0 : Array Value} (hw : ∀ d ∈ tables_1, d.before a0 Z = true) : Jvm.RoadKit.slotOf Z "com/example/conceptary/conceptary/Concept" "id" "J" ≠ Jvm.RoadKit.slotOf Z "com/example/conceptary/conceptary/Concept" "moduleId" "J" := slot_ne (Or.inr (hw _ (List.mem_of_getElem? (i := 71) rfl))) (Or.inr (hw _ (List.mem_of_getElem? (i := 77) rfl))) (by decide) (t := .long) (t' := .long) (by decide) (by decide)
theorem sn_onceptary_conceptary_Conceptid_tary_ConceptdefinitionStatusId {Z : State} {a0 : Array Value} (hw : ∀ d ∈ tables_1, d.before a0 Z = true) : Jvm.RoadKit.slotOf Z "com/example/conceptary/conceptary/Concept" "id" "J" ≠ Jvm.RoadKit.slotOf Z "com/example/conceptary/conceptary/Concept" "definitionStatusId" "J" := slot_ne (Or.inr (hw _ (List.mem_of_getElem? (i := 71) rfl))) (Or.inr (hw _ (List.mem_of_getElem? (i := 79) rfl))) (by decide) (t := .long) (t' := .long) (by decide) (by decide)
theorem sn_onceptary_ConcepteffectiveTime_ptary_conceptary_Conceptactive {Z : State} {a0 : Array Value} (hw : ∀ d ∈ tables_1, d.before a0 Z = true) : Jvm.RoadKit.slotOf Z "com/example/conceptary/conceptary/Concept" "effectiveTime" "I" ≠ Jvm.RoadKit.slotOf Z "com/example/conceptary/conceptary/Concept" "active" "Z" := slot_ne (Or.inr (hw _ (List.mem_of_getElem? (i := 73) rfl))) (Or.inr (hw _ (List.mem_of_getElem? (i := 75) rfl))) (by decide) (t := .int) (t' := .boolean) (by decide) (by decide)
theorem sn_onceptary_ConcepteffectiveTime_ary_conceptary_ConceptmoduleId {Z : State} {a0 : Array Value} (hw : ∀ d ∈ tables_1, d.before a0 Z = true) : Jvm.RoadKit.slotOf Z "com/example/conceptary/conceptary/Concept" "effectiveTime" "I" ≠ Jvm.RoadKit.slotOf Z "com/example/conceptary/conceptary/Concept" "moduleId" "J" := slot_ne (Or.inr (hw _ (List.mem_of_getElem? (i := 73) rfl))) (Or.inr (hw _ (List.mem_of_getElem? (i := 77) rfl))) (by decide) (t := .int) (t' := .long) (by decide) (by decide)
theorem sn_onceptary_ConcepteffectiveTime_tary_ConceptdefinitionStatusId {Z : State} {a0 : Array Value} (hw : ∀ d ∈ tables_1, d.before a0 Z = true) : Jvm.RoadKit.slotOf Z "com/example/conceptary/conceptary/Concept" "effectiveTime" "I" ≠ Jvm.RoadKit.slotOf Z "com/example/conceptary/conceptary/Concept" "definitionStatusId" "J" := slot_ne (Or.inr (hw _ (List.mem_of_getElem? (i := 73) rfl))) (Or.inr (hw _ (List.mem_of_getElem? (i := 79) rfl))) (by decide) (t := .int) (t' := .long) (by decide) (by decide)
theorem sn_ptary_conceptary_Conceptactive_ary_conceptary_ConceptmoduleId {Z : State} {a0 : Array Value} (hw : ∀ d ∈ tables_1, d.before a0 Z = true) : Jvm.RoadKit.slotOf Z "com/example/conceptary/conceptary/Concept" "active" "Z" ≠ Jvm.RoadKit.slotOf Z "com/example/conceptary/conceptary/Concept" "moduleId" "J" := slot_ne (Or.inr (hw _ (List.mem_of_getElem? (i := 75) rfl))) (Or.inr (hw _ (List.mem_of_getElem? (i := 77) rfl))) (by decide) (t := .boolean) (t' := .long) (by decide) (by decide)
theorem sn_ptary_conceptary_Conceptactive_tary_ConceptdefinitionStatusId {Z : State} {a0 : Array Value} (hw : ∀ d ∈ tables_1, d.before a0 Z = true) : Jvm.RoadKit.slotOf Z "com/example/conceptary/conceptary/Concept" "active" "Z" ≠ Jvm.RoadKit.slotOf Z "com/example/conceptary/conceptary/Concept" "definitionStatusId" "J" := slot_ne (Or.inr (hw _ (List.mem_of_getElem? (i := 75) rfl))) (Or.inr (hw _ (List.mem_of_getElem? (i := 79) rfl))) (by decide) (t := .boolean) (t' := .long) (by decide) (by decide)
theorem sn_ary_conceptary_ConceptmoduleId_tary_ConceptdefinitionStatusId {Z : State} {a0 : Array Value} (hw : ∀ d ∈ tables_1, d.before a0 Z = true) : Jvm.RoadKit.slotOf Z "com/example/conceptary/conceptary/Concept" "moduleId" "J" ≠ Jvm.RoadKit.slotOf Z "com/example/conceptary/conceptary/Concept" "definitionStatusId" "J" := slot_ne (Or.inr (hw _ (List.mem_of_getElem? (i := 77) rfl))) (Or.inr (hw _ (List.mem_of_getElem? (i := 79) rfl))) (by decide) (t := .long) (t' := .long) (by decide) (by decide)
def Q7 (Z : State) (r0 : Addr) (q1 : Int64) (p2 : Int32) (p3 : Int32) (q4 : Int64) (q5 : Int64) (h0 : Heap) (n0 : Nat) (v : Option Value) (h : Heap) (L : List Loc) : Prop := v = none ∧ Fr n0 L ∧ Keep h0 h [r0] ∧ Exa Z h r0 "com/example/conceptary/conceptary/Concept" ∧ Fld Z h r0 "com/example/conceptary/conceptary/Concept" "id" "J" (.long q1) ∧ Fld Z h r0 "com/example/conceptary/conceptary/Concept" "effectiveTime" "I" (.int p2) ∧ Fld Z h r0 "com/example/conceptary/conceptary/Concept" "active" "Z" (.int p3) ∧ Fld Z h r0 "com/example/conceptary/conceptary/Concept" "moduleId" "J" (.long q4) ∧ Fld Z h r0 "com/example/conceptary/conceptary/Concept" "definitionStatusId" "J" (.long q5)
set_option maxRecDepth 65536 in
set_option maxHeartbeats 40000000 in
theorem rm7 (l : Launch) (Z : State) (a0 : Array Value) (hw : ∀ d ∈ tables_1, d.before a0 Z = true) (ws : List Jvm.Cond) (r0 : Addr) (q1 : Int64) (p2 : Int32) (p3 : Int32) (q4 : Int64) (q5 : Int64) (h0 : Heap) (n0 : Nat) (Z0 : n0 ≤ h0.size) (hp0 : Exa Z h0 r0 "com/example/conceptary/conceptary/Concept") (hp1 : Fld Z h0 r0 "com/example/conceptary/conceptary/Concept" "id" "J" (.long (0 : Int64))) (hp2 : Fld Z h0 r0 "com/example/conceptary/conceptary/Concept" "effectiveTime" "I" (.int (0 : Int32))) (hp3 : Fld Z h0 r0 "com/example/conceptary/conceptary/Concept" "active" "Z" (.int (0 : Int32))) (hp4 : Fld Z h0 r0 "com/example/conceptary/conceptary/Concept" "moduleId" "J" (.long (0 : Int64))) (hp5 : Fld Z h0 r0 "com/example/conceptary/conceptary/Concept" "definitionStatusId" "J" (.long (0 : Int64))) (hp6 : n0 ≤ r0) (hb1 : p3 = (0 : Int32) ∨ p3 = (1 : Int32)) :
    MetFree l (⟨"com/example/conceptary/conceptary/Concept", "<init>", "(JIZJJ)V"⟩ : MethodName) (head1 (Jvm.Cond.code (⟨"com/example/conceptary/conceptary/Concept", "<init>", "(JIZJJ)V"⟩ : MethodName) prog_7_method_1_code 9 none :: ws) ({ frames := 2, cells := 0, slots := 0, locals := 24 } : Room)) (fun a U => a = #[(.ref r0), (.long q1), (.int p2), (.int p3), (.long q4), (.long q5)] ∧ Z.Warmed39 U.vm ∧ U.heap = h0) (fun _ _ _ _ _ => True) (fun _ U o U' => ∃ v L, o = .returned v ∧ Q7 Z r0 q1 p2 p3 q4 q5 h0 n0 v U'.heap L ∧ FrameEnd U o U' L ({ frames := 2, cells := 0, slots := 0, locals := 24 } : Room).cells ({ frames := 2, cells := 0, slots := 0, locals := 24 } : Room).slots) := by
  refine MetFree.of_bodySF (plainFor_of_name pn_7) hisR ?_
  intro p e s m args below meth c s₁ Bd hml0 hP hK
  obtain ⟨rfl, hZ, hh⟩ := hP
  have hx := Bd.exec
  have hby := Bd.bytes
  have hml : c.maxLocals = 9 := hml0
  have hown : s.vm.findClass "com/example/conceptary/conceptary/Concept" = some m.cls := findClass_of_methodNamed Bd.named
  have hnm := (name_of_methodNamed Bd.named Bd.method).1
  have X0 : Stand p l e ({ frames := 2, cells := 0, slots := 0, locals := 24 } : Room) s m #[(.ref r0), (.long q1), (.int p2), (.int p3), (.long q4), (.long q5)] below meth c s₁ [] 0 0 := Stand.of_body Bd
  have e0 : s₁.heap = h0 := by rw [← hh, Bd.state]; rfl
  have N0 := Fr.nil n0
  have pre0 : ∀ t, Steps p.tables e below (s₁.setTop (mkF m 0 #[.val (.ref r0), .val (.long q1), .second, .val (.int p2), .val (.int p3), .val (.long q4), .second, .val (.long q5), .second] [])) t → Steps p.tables e below (s₁.setTop (entryFrame m #[(.ref r0), (.long q1), (.int p2), (.int p3), (.long q4), (.long q5)] 9)) t := fun t k => castTop (ef_7 m r0 q1 p2 p3 q4 q5) k
  obtain ⟨_, _, ⟨T11, L11, k11, n11⟩, -, X11, ⟨Lc11, hQ11, l11, y11, z11⟩, st11⟩ := X0.specialBack hx (y := (⟨"java/lang/Record", "<init>", "()V"⟩ : MethodName)) rfl hown (mvT hZ (hw _ (List.mem_of_getElem? (i := 64) rfl))) (mvT hZ (hw _ (List.mem_of_getElem? (i := 65) rfl))) (mvT hZ (hw _ (List.mem_of_getElem? (i := 68) rfl))) (by decide) (backOf (W := 0) (rm8 l Z a0 hw [] r0  h0 n0 Z0 ) hZ (hw _ (List.mem_of_getElem? (i := 68) rfl)) (hw _ (List.mem_of_getElem? (i := 67) rfl)) (by decide) (by decide)) (g := (mkF m 1 #[.val (.ref r0), .val (.long q1), .second, .val (.int p2), .val (.int p3), .val (.long q4), .second, .val (.long q5), .second] [(.ref r0)])) rfl (by rw [hml]; rfl) (Steps.refl _) (a := r0) (argsL := []) (rest := []) (lenOf pd_0 rfl) rfl (by show 2 * 0 + _ ≤ _; exact Nat.le_of_eq rfl) (hb hby d7_1) (fun _ _ => ⟨rfl, e0, (by decide : 0 + 0 ≤ _), (by decide : 0 + 0 ≤ _)⟩)
  dsimp only [Pt.U, Pt.locs, Pt.cells, Pt.slots] at X11 l11 y11 z11 st11 hQ11
  subst l11 y11 z11
  obtain ⟨rfl, Nq11, u11_0⟩ := hQ11
  have N11 := Fr.app N0 Nq11
  obtain ⟨T12, h12, X12, e12, W12, st12⟩ := putF X11 hx hZ hown (host := "") (Or.inl (hw _ (List.mem_of_getElem? (i := 70) rfl))) Via.refl u11_0 hp1 hp0 (Or.inr ⟨(hw _ (List.mem_of_getElem? (i := 71) rfl)), rfl, hnm⟩) (hw _ (List.mem_of_getElem? (i := 59) rfl)) (ty := .long) (by decide) rfl rfl (g := (mkF m 6 #[.val (.ref r0), .val (.long q1), .second, .val (.int p2), .val (.int p3), .val (.long q4), .second, .val (.long q5), .second] [(.long q1), (.ref r0)])) rfl rfl (hb hby d7_6)
  have F12 : Fld Z h12 r0 "com/example/conceptary/conceptary/Concept" "id" "J" (.long q1) := hp1.same W12
  have Z13 : n0 ≤ h12.size := Nat.le_trans Z0 (Keep.of_wr W12).1
  have K14 : Keep h0 h12 [r0] := (Keep.refl h0 [r0]).wr W12 (Or.inl (List.mem_of_getElem? (i := 0) rfl))
  have N12 := Fr.snoc X12 N11 hp6
  have E15 : Exa Z h12 r0 "com/example/conceptary/conceptary/Concept" := (hp0.wr W12)
  have F16 : Fld Z h12 r0 "com/example/conceptary/conceptary/Concept" "effectiveTime" "I" (.int (0 : Int32)) := (hp2.other W12 (Or.inr (sn_onceptary_ConcepteffectiveTime_onceptary_conceptary_Conceptid hw)))
  obtain ⟨T17, h17, X17, e17, W17, st17⟩ := putF X12 hx hZ hown (host := "") (Or.inl (hw _ (List.mem_of_getElem? (i := 72) rfl))) Via.refl e12 F16 E15 (Or.inr ⟨(hw _ (List.mem_of_getElem? (i := 73) rfl)), rfl, hnm⟩) (hw _ (List.mem_of_getElem? (i := 59) rfl)) (ty := .int) (by decide) rfl rfl (g := (mkF m 11 #[.val (.ref r0), .val (.long q1), .second, .val (.int p2), .val (.int p3), .val (.long q4), .second, .val (.long q5), .second] [(.int p2), (.ref r0)])) rfl rfl (hb hby d7_11)
  have F17 : Fld Z h17 r0 "com/example/conceptary/conceptary/Concept" "effectiveTime" "I" (.int p2) := F16.same W17
  have Z18 : n0 ≤ h17.size := Nat.le_trans Z13 (Keep.of_wr W17).1
  have K19 : Keep h0 h17 [r0] := K14.wr W17 (Or.inl (List.mem_of_getElem? (i := 0) rfl))
  have N17 := Fr.snoc X17 N12 hp6
  have E20 : Exa Z h17 r0 "com/example/conceptary/conceptary/Concept" := (E15.wr W17)
  have F21 : Fld Z h17 r0 "com/example/conceptary/conceptary/Concept" "active" "Z" (.int (0 : Int32)) := ((hp3.other W12 (Or.inr (sn_ptary_conceptary_Conceptactive_onceptary_conceptary_Conceptid hw))).other W17 (Or.inr (sn_ptary_conceptary_Conceptactive_onceptary_ConcepteffectiveTime hw)))
  obtain ⟨T22, h22, X22, e22, W22, st22⟩ := putFN X17 hx hZ hown (hw _ (List.mem_of_getElem? (i := 74) rfl)) Via.refl e17 F21 E20 (Or.inr ⟨(hw _ (List.mem_of_getElem? (i := 75) rfl)), rfl, hnm⟩) (hw _ (List.mem_of_getElem? (i := 59) rfl)) (ty := .boolean) (v' := (.int (nar .boolean p3))) (by decide) rfl (fits_nar_bool _) (g := (mkF m 17 #[.val (.ref r0), .val (.long q1), .second, .val (.int p2), .val (.int p3), .val (.long q4), .second, .val (.long q5), .second] [(.int p3), (.ref r0)])) rfl rfl (hb hby d7_17)
  have F22 : Fld Z h22 r0 "com/example/conceptary/conceptary/Concept" "active" "Z" (.int (nar .boolean p3)) := F21.same W22
  have Z23 : n0 ≤ h22.size := Nat.le_trans Z18 (Keep.of_wr W22).1
  have K24 : Keep h0 h22 [r0] := K19.wr W22 (Or.inl (List.mem_of_getElem? (i := 0) rfl))
  have N22 := Fr.snoc X22 N17 hp6
  rw [show nar .boolean p3 = p3 from (own_nb hb1)] at F22
  have E25 : Exa Z h22 r0 "com/example/conceptary/conceptary/Concept" := (E20.wr W22)
  have F26 : Fld Z h22 r0 "com/example/conceptary/conceptary/Concept" "moduleId" "J" (.long (0 : Int64)) := (((hp4.other W12 (Or.inr (sn_ary_conceptary_ConceptmoduleId_onceptary_conceptary_Conceptid hw))).other W17 (Or.inr (sn_ary_conceptary_ConceptmoduleId_onceptary_ConcepteffectiveTime hw))).other W22 (Or.inr (sn_ary_conceptary_ConceptmoduleId_ptary_conceptary_Conceptactive hw)))
  obtain ⟨T27, h27, X27, e27, W27, st27⟩ := putF X22 hx hZ hown (host := "") (Or.inl (hw _ (List.mem_of_getElem? (i := 76) rfl))) Via.refl e22 F26 E25 (Or.inr ⟨(hw _ (List.mem_of_getElem? (i := 77) rfl)), rfl, hnm⟩) (hw _ (List.mem_of_getElem? (i := 59) rfl)) (ty := .long) (by decide) rfl rfl (g := (mkF m 23 #[.val (.ref r0), .val (.long q1), .second, .val (.int p2), .val (.int p3), .val (.long q4), .second, .val (.long q5), .second] [(.long q4), (.ref r0)])) rfl rfl (hb hby d7_23)
  have F27 : Fld Z h27 r0 "com/example/conceptary/conceptary/Concept" "moduleId" "J" (.long q4) := F26.same W27
  have Z28 : n0 ≤ h27.size := Nat.le_trans Z23 (Keep.of_wr W27).1
  have K29 : Keep h0 h27 [r0] := K24.wr W27 (Or.inl (List.mem_of_getElem? (i := 0) rfl))
  have N27 := Fr.snoc X27 N22 hp6
  have E30 : Exa Z h27 r0 "com/example/conceptary/conceptary/Concept" := (E25.wr W27)
  have F31 : Fld Z h27 r0 "com/example/conceptary/conceptary/Concept" "definitionStatusId" "J" (.long (0 : Int64)) := ((((hp5.other W12 (Or.inr (sn_tary_ConceptdefinitionStatusId_onceptary_conceptary_Conceptid hw))).other W17 (Or.inr (sn_tary_ConceptdefinitionStatusId_onceptary_ConcepteffectiveTime hw))).other W22 (Or.inr (sn_tary_ConceptdefinitionStatusId_ptary_conceptary_Conceptactive hw))).other W27 (Or.inr (sn_tary_ConceptdefinitionStatusId_ary_conceptary_ConceptmoduleId hw)))
  obtain ⟨T32, h32, X32, e32, W32, st32⟩ := putF X27 hx hZ hown (host := "") (Or.inl (hw _ (List.mem_of_getElem? (i := 78) rfl))) Via.refl e27 F31 E30 (Or.inr ⟨(hw _ (List.mem_of_getElem? (i := 79) rfl)), rfl, hnm⟩) (hw _ (List.mem_of_getElem? (i := 59) rfl)) (ty := .long) (by decide) rfl rfl (g := (mkF m 29 #[.val (.ref r0), .val (.long q1), .second, .val (.int p2), .val (.int p3), .val (.long q4), .second, .val (.long q5), .second] [(.long q5), (.ref r0)])) rfl rfl (hb hby d7_29)
  have F32 : Fld Z h32 r0 "com/example/conceptary/conceptary/Concept" "definitionStatusId" "J" (.long q5) := F31.same W32
  have Z33 : n0 ≤ h32.size := Nat.le_trans Z28 (Keep.of_wr W32).1
  have K34 : Keep h0 h32 [r0] := K29.wr W32 (Or.inl (List.mem_of_getElem? (i := 0) rfl))
  have N32 := Fr.snoc X32 N27 hp6
  have E35 : Exa Z h32 r0 "com/example/conceptary/conceptary/Concept" := (E30.wr W32)
  have F36 : Fld Z h32 r0 "com/example/conceptary/conceptary/Concept" "id" "J" (.long q1) := ((((F12.other W17 (Or.inr (sn_onceptary_conceptary_Conceptid_onceptary_ConcepteffectiveTime hw))).other W22 (Or.inr (sn_onceptary_conceptary_Conceptid_ptary_conceptary_Conceptactive hw))).other W27 (Or.inr (sn_onceptary_conceptary_Conceptid_ary_conceptary_ConceptmoduleId hw))).other W32 (Or.inr (sn_onceptary_conceptary_Conceptid_tary_ConceptdefinitionStatusId hw)))
  have F37 : Fld Z h32 r0 "com/example/conceptary/conceptary/Concept" "effectiveTime" "I" (.int p2) := (((F17.other W22 (Or.inr (sn_onceptary_ConcepteffectiveTime_ptary_conceptary_Conceptactive hw))).other W27 (Or.inr (sn_onceptary_ConcepteffectiveTime_ary_conceptary_ConceptmoduleId hw))).other W32 (Or.inr (sn_onceptary_ConcepteffectiveTime_tary_ConceptdefinitionStatusId hw)))
  have F38 : Fld Z h32 r0 "com/example/conceptary/conceptary/Concept" "active" "Z" (.int p3) := ((F22.other W27 (Or.inr (sn_ptary_conceptary_Conceptactive_ary_conceptary_ConceptmoduleId hw))).other W32 (Or.inr (sn_ptary_conceptary_Conceptactive_tary_ConceptdefinitionStatusId hw)))
  have F39 : Fld Z h32 r0 "com/example/conceptary/conceptary/Concept" "moduleId" "J" (.long q4) := (F27.other W32 (Or.inr (sn_ary_conceptary_ConceptmoduleId_tary_ConceptdefinitionStatusId hw)))
  obtain ⟨fs, hr, hrun, hended, hW, hsame⟩ := X32.leave (v := none) (fun _ => rfl)
  refine ⟨_, _, pre0 _ ?_, hrun, hended, _, _, rfl, ?_, ⟨_, rfl⟩, hW, hsame.mono (by decide) (by decide)⟩
  · refine XS.aloadN X0.here hx rfl (hb hby d7_0) rfl rfl ?_
    show Steps p.tables e below (s₁.setTop (mkF m 1 #[.val (.ref r0), .val (.long q1), .second, .val (.int p2), .val (.int p3), .val (.long q4), .second, .val (.long q5), .second] [(.ref r0)])) _
    refine st11.trans ?_
    show Steps p.tables e below (T11.setTop (mkF m 4 #[.val (.ref r0), .val (.long q1), .second, .val (.int p2), .val (.int p3), .val (.long q4), .second, .val (.long q5), .second] [])) _
    refine XS.aloadN X11.here hx rfl (hb hby d7_4) rfl rfl ?_
    show Steps p.tables e below (T11.setTop (mkF m 5 #[.val (.ref r0), .val (.long q1), .second, .val (.int p2), .val (.int p3), .val (.long q4), .second, .val (.long q5), .second] [(.ref r0)])) _
    refine XS.lloadN X11.here hx rfl (hb hby d7_5) rfl ?_
    show Steps p.tables e below (T11.setTop (mkF m 6 #[.val (.ref r0), .val (.long q1), .second, .val (.int p2), .val (.int p3), .val (.long q4), .second, .val (.long q5), .second] [(.long q1), (.ref r0)])) _
    refine st12 _ ?_
    show Steps p.tables e below (T12.setTop (mkF m 9 #[.val (.ref r0), .val (.long q1), .second, .val (.int p2), .val (.int p3), .val (.long q4), .second, .val (.long q5), .second] [])) _
    refine XS.aloadN X12.here hx rfl (hb hby d7_9) rfl rfl ?_
    show Steps p.tables e below (T12.setTop (mkF m 10 #[.val (.ref r0), .val (.long q1), .second, .val (.int p2), .val (.int p3), .val (.long q4), .second, .val (.long q5), .second] [(.ref r0)])) _
    refine XS.iloadN X12.here hx rfl (hb hby d7_10) rfl ?_
    show Steps p.tables e below (T12.setTop (mkF m 11 #[.val (.ref r0), .val (.long q1), .second, .val (.int p2), .val (.int p3), .val (.long q4), .second, .val (.long q5), .second] [(.int p2), (.ref r0)])) _
    refine st17 _ ?_
    show Steps p.tables e below (T17.setTop (mkF m 14 #[.val (.ref r0), .val (.long q1), .second, .val (.int p2), .val (.int p3), .val (.long q4), .second, .val (.long q5), .second] [])) _
    refine XS.aloadN X17.here hx rfl (hb hby d7_14) rfl rfl ?_
    show Steps p.tables e below (T17.setTop (mkF m 15 #[.val (.ref r0), .val (.long q1), .second, .val (.int p2), .val (.int p3), .val (.long q4), .second, .val (.long q5), .second] [(.ref r0)])) _
    refine XS.iload X17.here hx rfl (hb hby d7_15) rfl ?_
    show Steps p.tables e below (T17.setTop (mkF m 17 #[.val (.ref r0), .val (.long q1), .second, .val (.int p2), .val (.int p3), .val (.long q4), .second, .val (.long q5), .second] [(.int p3), (.ref r0)])) _
    refine st22 _ ?_
    show Steps p.tables e below (T22.setTop (mkF m 20 #[.val (.ref r0), .val (.long q1), .second, .val (.int p2), .val (.int p3), .val (.long q4), .second, .val (.long q5), .second] [])) _
    refine XS.aloadN X22.here hx rfl (hb hby d7_20) rfl rfl ?_
    show Steps p.tables e below (T22.setTop (mkF m 21 #[.val (.ref r0), .val (.long q1), .second, .val (.int p2), .val (.int p3), .val (.long q4), .second, .val (.long q5), .second] [(.ref r0)])) _
    refine XS.lload X22.here hx rfl (hb hby d7_21) rfl ?_
    show Steps p.tables e below (T22.setTop (mkF m 23 #[.val (.ref r0), .val (.long q1), .second, .val (.int p2), .val (.int p3), .val (.long q4), .second, .val (.long q5), .second] [(.long q4), (.ref r0)])) _
    refine st27 _ ?_
    show Steps p.tables e below (T27.setTop (mkF m 26 #[.val (.ref r0), .val (.long q1), .second, .val (.int p2), .val (.int p3), .val (.long q4), .second, .val (.long q5), .second] [])) _
    refine XS.aloadN X27.here hx rfl (hb hby d7_26) rfl rfl ?_
    show Steps p.tables e below (T27.setTop (mkF m 27 #[.val (.ref r0), .val (.long q1), .second, .val (.int p2), .val (.int p3), .val (.long q4), .second, .val (.long q5), .second] [(.ref r0)])) _
    refine XS.lload X27.here hx rfl (hb hby d7_27) rfl ?_
    show Steps p.tables e below (T27.setTop (mkF m 29 #[.val (.ref r0), .val (.long q1), .second, .val (.int p2), .val (.int p3), .val (.long q4), .second, .val (.long q5), .second] [(.long q5), (.ref r0)])) _
    refine st32 _ ?_
    show Steps p.tables e below (T32.setTop (mkF m 32 #[.val (.ref r0), .val (.long q1), .second, .val (.int p2), .val (.int p3), .val (.long q4), .second, .val (.long q5), .second] [])) _
    exact X32.returnOut hx Bd.returns (hb hby d7_32) hr
  · show Q7 Z r0 q1 p2 p3 q4 q5 h0 n0 _ T32.heap _
    rw [e32]
    exact ⟨rfl, N32, K34, E35, F36, F37, F38, F39, F32⟩
theorem d10_0 : decode prog_7_method_6_code 0 = .ok (.aload_n 0, 1) := by decide +kernel
theorem d10_1 : decode prog_7_method_6_code 1 = .ok (.getfield 13, 3) := by decide +kernel
theorem d10_4 : decode prog_7_method_6_code 4 = .ok (.ireturn, 1) := by decide +kernel
theorem pn_10 : plainName "com/example/conceptary/conceptary/Concept" = true := by first | (simp [plainName, overriddenIn]; done) | decide +kernel
theorem ef_10 (m : MethodId) (r0 : Addr) : entryFrame m #[(.ref r0)] 1 = mkF m 0 #[.val (.ref r0)] [] := by first | (simp [entryFrame, mkF, argsToLocals, Value.category]; done) | rfl
def Q10 (Z : State) (r0 : Addr) (w0 : Int32) (h0 : Heap) (n0 : Nat) (v : Option Value) (h : Heap) (L : List Loc) : Prop := v = some (.int w0) ∧ Fr n0 L ∧ h = h0
set_option maxRecDepth 65536 in
set_option maxHeartbeats 40000000 in
theorem rm10 (l : Launch) (Z : State) (a0 : Array Value) (hw : ∀ d ∈ tables_1, d.before a0 Z = true) (ws : List Jvm.Cond) (r0 : Addr) (w0 : Int32) (h0 : Heap) (n0 : Nat) (Z0 : n0 ≤ h0.size) (hp0 : Fld Z h0 r0 "com/example/conceptary/conceptary/Concept" "effectiveTime" "I" (.int w0)) :
    MetFree l (⟨"com/example/conceptary/conceptary/Concept", "effectiveTime", "()I"⟩ : MethodName) (head1 (Jvm.Cond.code (⟨"com/example/conceptary/conceptary/Concept", "effectiveTime", "()I"⟩ : MethodName) prog_7_method_6_code 1 (some .int) :: ws) ({ frames := 0, cells := 0, slots := 0, locals := 0 } : Room)) (fun a U => a = #[(.ref r0)] ∧ Z.Warmed39 U.vm ∧ U.heap = h0) (fun _ _ _ _ _ => True) (fun _ U o U' => ∃ v L, o = .returned v ∧ Q10 Z r0 w0 h0 n0 v U'.heap L ∧ FrameEnd U o U' L ({ frames := 0, cells := 0, slots := 0, locals := 0 } : Room).cells ({ frames := 0, cells := 0, slots := 0, locals := 0 } : Room).slots) := by
  refine MetFree.of_bodySF (plainFor_of_name pn_10) hisR ?_
  intro p e s m args below meth c s₁ Bd hml0 hP hK
  obtain ⟨rfl, hZ, hh⟩ := hP
  have hx := Bd.exec
  have hby := Bd.bytes
  have hml : c.maxLocals = 1 := hml0
  have hown : s.vm.findClass "com/example/conceptary/conceptary/Concept" = some m.cls := findClass_of_methodNamed Bd.named
  have hnm := (name_of_methodNamed Bd.named Bd.method).1
  have X0 : Stand p l e ({ frames := 0, cells := 0, slots := 0, locals := 0 } : Room) s m #[(.ref r0)] below meth c s₁ [] 0 0 := Stand.of_body Bd
  have e0 : s₁.heap = h0 := by rw [← hh, Bd.state]; rfl
  have N0 := Fr.nil n0
  have pre0 : ∀ t, Steps p.tables e below (s₁.setTop (mkF m 0 #[.val (.ref r0)] [])) t → Steps p.tables e below (s₁.setTop (entryFrame m #[(.ref r0)] 1)) t := fun t k => castTop (ef_10 m r0) k
  obtain ⟨T11, X11, e11, st11⟩ := getF X0 hx hZ hown (host := "") (Or.inl (hw _ (List.mem_of_getElem? (i := 72) rfl))) Via.refl e0 hp0 (g := (mkF m 1 #[.val (.ref r0)] [(.ref r0)])) rfl rfl (hb hby d10_1)
  obtain ⟨fs, hr, hrun, hended, hW, hsame⟩ := X11.leave (v := some (.int w0)) (fun h => by rw [Bd.returns] at h; cases h)
  refine ⟨_, _, pre0 _ ?_, hrun, hended, _, _, rfl, ?_, ⟨_, rfl⟩, hW, hsame.mono (by decide) (by decide)⟩
  · refine XS.aloadN X0.here hx rfl (hb hby d10_0) rfl rfl ?_
    show Steps p.tables e below (s₁.setTop (mkF m 1 #[.val (.ref r0)] [(.ref r0)])) _
    refine st11 _ ?_
    show Steps p.tables e below (T11.setTop (mkF m 4 #[.val (.ref r0)] [(.int w0)])) _
    exact retOut X11 hx Bd.returns rfl (Or.inl ⟨rfl, Or.inl rfl, _, rfl⟩) (hb hby d10_4) hr
  · show Q10 Z r0 w0 h0 n0 _ T11.heap _
    rw [e11]
    exact ⟨rfl, N0, rfl⟩
theorem d13_0 : decode prog_7_method_5_code 0 = .ok (.aload_n 0, 1) := by decide +kernel
theorem d13_1 : decode prog_7_method_5_code 1 = .ok (.getfield 7, 3) := by decide +kernel
theorem d13_4 : decode prog_7_method_5_code 4 = .ok (.lreturn, 1) := by decide +kernel
theorem pn_13 : plainName "com/example/conceptary/conceptary/Concept" = true := by first | (simp [plainName, overriddenIn]; done) | decide +kernel
theorem ef_13 (m : MethodId) (r0 : Addr) : entryFrame m #[(.ref r0)] 1 = mkF m 0 #[.val (.ref r0)] [] := by first | (simp [entryFrame, mkF, argsToLocals, Value.category]; done) | rfl
def Q13 (Z : State) (r0 : Addr) (w0 : Int64) (h0 : Heap) (n0 : Nat) (v : Option Value) (h : Heap) (L : List Loc) : Prop := v = some (.long w0) ∧ Fr n0 L ∧ h = h0
set_option maxRecDepth 65536 in
set_option maxHeartbeats 40000000 in
theorem rm13 (l : Launch) (Z : State) (a0 : Array Value) (hw : ∀ d ∈ tables_1, d.before a0 Z = true) (ws : List Jvm.Cond) (r0 : Addr) (w0 : Int64) (h0 : Heap) (n0 : Nat) (Z0 : n0 ≤ h0.size) (hp0 : Fld Z h0 r0 "com/example/conceptary/conceptary/Concept" "id" "J" (.long w0)) :
    MetFree l (⟨"com/example/conceptary/conceptary/Concept", "id", "()J"⟩ : MethodName) (head1 (Jvm.Cond.code (⟨"com/example/conceptary/conceptary/Concept", "id", "()J"⟩ : MethodName) prog_7_method_5_code 1 (some .long) :: ws) ({ frames := 0, cells := 0, slots := 0, locals := 0 } : Room)) (fun a U => a = #[(.ref r0)] ∧ Z.Warmed39 U.vm ∧ U.heap = h0) (fun _ _ _ _ _ => True) (fun _ U o U' => ∃ v L, o = .returned v ∧ Q13 Z r0 w0 h0 n0 v U'.heap L ∧ FrameEnd U o U' L ({ frames := 0, cells := 0, slots := 0, locals := 0 } : Room).cells ({ frames := 0, cells := 0, slots := 0, locals := 0 } : Room).slots) := by
  refine MetFree.of_bodySF (plainFor_of_name pn_13) hisR ?_
  intro p e s m args below meth c s₁ Bd hml0 hP hK
  obtain ⟨rfl, hZ, hh⟩ := hP
  have hx := Bd.exec
  have hby := Bd.bytes
  have hml : c.maxLocals = 1 := hml0
  have hown : s.vm.findClass "com/example/conceptary/conceptary/Concept" = some m.cls := findClass_of_methodNamed Bd.named
  have hnm := (name_of_methodNamed Bd.named Bd.method).1
  have X0 : Stand p l e ({ frames := 0, cells := 0, slots := 0, locals := 0 } : Room) s m #[(.ref r0)] below meth c s₁ [] 0 0 := Stand.of_body Bd
  have e0 : s₁.heap = h0 := by rw [← hh, Bd.state]; rfl
  have N0 := Fr.nil n0
  have pre0 : ∀ t, Steps p.tables e below (s₁.setTop (mkF m 0 #[.val (.ref r0)] [])) t → Steps p.tables e below (s₁.setTop (entryFrame m #[(.ref r0)] 1)) t := fun t k => castTop (ef_13 m r0) k
  obtain ⟨T11, X11, e11, st11⟩ := getF X0 hx hZ hown (host := "") (Or.inl (hw _ (List.mem_of_getElem? (i := 70) rfl))) Via.refl e0 hp0 (g := (mkF m 1 #[.val (.ref r0)] [(.ref r0)])) rfl rfl (hb hby d13_1)
  obtain ⟨fs, hr, hrun, hended, hW, hsame⟩ := X11.leave (v := some (.long w0)) (fun h => by rw [Bd.returns] at h; cases h)
  refine ⟨_, _, pre0 _ ?_, hrun, hended, _, _, rfl, ?_, ⟨_, rfl⟩, hW, hsame.mono (by decide) (by decide)⟩
  · refine XS.aloadN X0.here hx rfl (hb hby d13_0) rfl rfl ?_
    show Steps p.tables e below (s₁.setTop (mkF m 1 #[.val (.ref r0)] [(.ref r0)])) _
    refine st11 _ ?_
    show Steps p.tables e below (T11.setTop (mkF m 4 #[.val (.ref r0)] [(.long w0)])) _
    exact retOut X11 hx Bd.returns rfl (Or.inr (Or.inl ⟨rfl, rfl, _, rfl⟩)) (hb hby d13_4) hr
  · show Q13 Z r0 w0 h0 n0 _ T11.heap _
    rw [e11]
    exact ⟨rfl, N0, rfl⟩
theorem d15_0 : decode prog_7_method_8_code 0 = .ok (.aload_n 0, 1) := by decide +kernel
theorem d15_1 : decode prog_7_method_8_code 1 = .ok (.getfield 21, 3) := by decide +kernel
theorem d15_4 : decode prog_7_method_8_code 4 = .ok (.lreturn, 1) := by decide +kernel
theorem pn_15 : plainName "com/example/conceptary/conceptary/Concept" = true := by first | (simp [plainName, overriddenIn]; done) | decide +kernel
theorem ef_15 (m : MethodId) (r0 : Addr) : entryFrame m #[(.ref r0)] 1 = mkF m 0 #[.val (.ref r0)] [] := by first | (simp [entryFrame, mkF, argsToLocals, Value.category]; done) | rfl
def Q15 (Z : State) (r0 : Addr) (w0 : Int64) (h0 : Heap) (n0 : Nat) (v : Option Value) (h : Heap) (L : List Loc) : Prop := v = some (.long w0) ∧ Fr n0 L ∧ h = h0
set_option maxRecDepth 65536 in
set_option maxHeartbeats 40000000 in
theorem rm15 (l : Launch) (Z : State) (a0 : Array Value) (hw : ∀ d ∈ tables_1, d.before a0 Z = true) (ws : List Jvm.Cond) (r0 : Addr) (w0 : Int64) (h0 : Heap) (n0 : Nat) (Z0 : n0 ≤ h0.size) (hp0 : Fld Z h0 r0 "com/example/conceptary/conceptary/Concept" "moduleId" "J" (.long w0)) :
    MetFree l (⟨"com/example/conceptary/conceptary/Concept", "moduleId", "()J"⟩ : MethodName) (head1 (Jvm.Cond.code (⟨"com/example/conceptary/conceptary/Concept", "moduleId", "()J"⟩ : MethodName) prog_7_method_8_code 1 (some .long) :: ws) ({ frames := 0, cells := 0, slots := 0, locals := 0 } : Room)) (fun a U => a = #[(.ref r0)] ∧ Z.Warmed39 U.vm ∧ U.heap = h0) (fun _ _ _ _ _ => True) (fun _ U o U' => ∃ v L, o = .returned v ∧ Q15 Z r0 w0 h0 n0 v U'.heap L ∧ FrameEnd U o U' L ({ frames := 0, cells := 0, slots := 0, locals := 0 } : Room).cells ({ frames := 0, cells := 0, slots := 0, locals := 0 } : Room).slots) := by
  refine MetFree.of_bodySF (plainFor_of_name pn_15) hisR ?_
  intro p e s m args below meth c s₁ Bd hml0 hP hK
  obtain ⟨rfl, hZ, hh⟩ := hP
  have hx := Bd.exec
  have hby := Bd.bytes
  have hml : c.maxLocals = 1 := hml0
  have hown : s.vm.findClass "com/example/conceptary/conceptary/Concept" = some m.cls := findClass_of_methodNamed Bd.named
  have hnm := (name_of_methodNamed Bd.named Bd.method).1
  have X0 : Stand p l e ({ frames := 0, cells := 0, slots := 0, locals := 0 } : Room) s m #[(.ref r0)] below meth c s₁ [] 0 0 := Stand.of_body Bd
  have e0 : s₁.heap = h0 := by rw [← hh, Bd.state]; rfl
  have N0 := Fr.nil n0
  have pre0 : ∀ t, Steps p.tables e below (s₁.setTop (mkF m 0 #[.val (.ref r0)] [])) t → Steps p.tables e below (s₁.setTop (entryFrame m #[(.ref r0)] 1)) t := fun t k => castTop (ef_15 m r0) k
  obtain ⟨T11, X11, e11, st11⟩ := getF X0 hx hZ hown (host := "") (Or.inl (hw _ (List.mem_of_getElem? (i := 76) rfl))) Via.refl e0 hp0 (g := (mkF m 1 #[.val (.ref r0)] [(.ref r0)])) rfl rfl (hb hby d15_1)
  obtain ⟨fs, hr, hrun, hended, hW, hsame⟩ := X11.leave (v := some (.long w0)) (fun h => by rw [Bd.returns] at h; cases h)
  refine ⟨_, _, pre0 _ ?_, hrun, hended, _, _, rfl, ?_, ⟨_, rfl⟩, hW, hsame.mono (by decide) (by decide)⟩
  · refine XS.aloadN X0.here hx rfl (hb hby d15_0) rfl rfl ?_
    show Steps p.tables e below (s₁.setTop (mkF m 1 #[.val (.ref r0)] [(.ref r0)])) _
    refine st11 _ ?_
    show Steps p.tables e below (T11.setTop (mkF m 4 #[.val (.ref r0)] [(.long w0)])) _
    exact retOut X11 hx Bd.returns rfl (Or.inr (Or.inl ⟨rfl, rfl, _, rfl⟩)) (hb hby d15_4) hr
  · show Q15 Z r0 w0 h0 n0 _ T11.heap _
    rw [e11]
    exact ⟨rfl, N0, rfl⟩
theorem d16_0 : decode prog_7_method_9_code 0 = .ok (.aload_n 0, 1) := by decide +kernel
theorem d16_1 : decode prog_7_method_9_code 1 = .ok (.getfield 24, 3) := by decide +kernel
theorem d16_4 : decode prog_7_method_9_code 4 = .ok (.lreturn, 1) := by decide +kernel
theorem pn_16 : plainName "com/example/conceptary/conceptary/Concept" = true := by first | (simp [plainName, overriddenIn]; done) | decide +kernel
theorem ef_16 (m : MethodId) (r0 : Addr) : entryFrame m #[(.ref r0)] 1 = mkF m 0 #[.val (.ref r0)] [] := by first | (simp [entryFrame, mkF, argsToLocals, Value.category]; done) | rfl
def Q16 (Z : State) (r0 : Addr) (w0 : Int64) (h0 : Heap) (n0 : Nat) (v : Option Value) (h : Heap) (L : List Loc) : Prop := v = some (.long w0) ∧ Fr n0 L ∧ h = h0
set_option maxRecDepth 65536 in
set_option maxHeartbeats 40000000 in
theorem rm16 (l : Launch) (Z : State) (a0 : Array Value) (hw : ∀ d ∈ tables_1, d.before a0 Z = true) (ws : List Jvm.Cond) (r0 : Addr) (w0 : Int64) (h0 : Heap) (n0 : Nat) (Z0 : n0 ≤ h0.size) (hp0 : Fld Z h0 r0 "com/example/conceptary/conceptary/Concept" "definitionStatusId" "J" (.long w0)) :
    MetFree l (⟨"com/example/conceptary/conceptary/Concept", "definitionStatusId", "()J"⟩ : MethodName) (head1 (Jvm.Cond.code (⟨"com/example/conceptary/conceptary/Concept", "definitionStatusId", "()J"⟩ : MethodName) prog_7_method_9_code 1 (some .long) :: ws) ({ frames := 0, cells := 0, slots := 0, locals := 0 } : Room)) (fun a U => a = #[(.ref r0)] ∧ Z.Warmed39 U.vm ∧ U.heap = h0) (fun _ _ _ _ _ => True) (fun _ U o U' => ∃ v L, o = .returned v ∧ Q16 Z r0 w0 h0 n0 v U'.heap L ∧ FrameEnd U o U' L ({ frames := 0, cells := 0, slots := 0, locals := 0 } : Room).cells ({ frames := 0, cells := 0, slots := 0, locals := 0 } : Room).slots) := by
  refine MetFree.of_bodySF (plainFor_of_name pn_16) hisR ?_
  intro p e s m args below meth c s₁ Bd hml0 hP hK
  obtain ⟨rfl, hZ, hh⟩ := hP
  have hx := Bd.exec
  have hby := Bd.bytes
  have hml : c.maxLocals = 1 := hml0
  have hown : s.vm.findClass "com/example/conceptary/conceptary/Concept" = some m.cls := findClass_of_methodNamed Bd.named
  have hnm := (name_of_methodNamed Bd.named Bd.method).1
  have X0 : Stand p l e ({ frames := 0, cells := 0, slots := 0, locals := 0 } : Room) s m #[(.ref r0)] below meth c s₁ [] 0 0 := Stand.of_body Bd
  have e0 : s₁.heap = h0 := by rw [← hh, Bd.state]; rfl
  have N0 := Fr.nil n0
  have pre0 : ∀ t, Steps p.tables e below (s₁.setTop (mkF m 0 #[.val (.ref r0)] [])) t → Steps p.tables e below (s₁.setTop (entryFrame m #[(.ref r0)] 1)) t := fun t k => castTop (ef_16 m r0) k
  obtain ⟨T11, X11, e11, st11⟩ := getF X0 hx hZ hown (host := "") (Or.inl (hw _ (List.mem_of_getElem? (i := 78) rfl))) Via.refl e0 hp0 (g := (mkF m 1 #[.val (.ref r0)] [(.ref r0)])) rfl rfl (hb hby d16_1)
  obtain ⟨fs, hr, hrun, hended, hW, hsame⟩ := X11.leave (v := some (.long w0)) (fun h => by rw [Bd.returns] at h; cases h)
  refine ⟨_, _, pre0 _ ?_, hrun, hended, _, _, rfl, ?_, ⟨_, rfl⟩, hW, hsame.mono (by decide) (by decide)⟩
  · refine XS.aloadN X0.here hx rfl (hb hby d16_0) rfl rfl ?_
    show Steps p.tables e below (s₁.setTop (mkF m 1 #[.val (.ref r0)] [(.ref r0)])) _
    refine st11 _ ?_
    show Steps p.tables e below (T11.setTop (mkF m 4 #[.val (.ref r0)] [(.long w0)])) _
    exact retOut X11 hx Bd.returns rfl (Or.inr (Or.inl ⟨rfl, rfl, _, rfl⟩)) (hb hby d16_4) hr
  · show Q16 Z r0 w0 h0 n0 _ T11.heap _
    rw [e11]
    exact ⟨rfl, N0, rfl⟩
theorem d14_0 : decode prog_7_method_7_code 0 = .ok (.aload_n 0, 1) := by decide +kernel
theorem d14_1 : decode prog_7_method_7_code 1 = .ok (.getfield 17, 3) := by decide +kernel
theorem d14_4 : decode prog_7_method_7_code 4 = .ok (.ireturn, 1) := by decide +kernel
theorem pn_14 : plainName "com/example/conceptary/conceptary/Concept" = true := by first | (simp [plainName, overriddenIn]; done) | decide +kernel
theorem ef_14 (m : MethodId) (r0 : Addr) : entryFrame m #[(.ref r0)] 1 = mkF m 0 #[.val (.ref r0)] [] := by first | (simp [entryFrame, mkF, argsToLocals, Value.category]; done) | rfl
def Q14 (Z : State) (r0 : Addr) (w0 : Int32) (h0 : Heap) (n0 : Nat) (v : Option Value) (h : Heap) (L : List Loc) : Prop := v = some (.int w0) ∧ Fr n0 L ∧ h = h0
set_option maxRecDepth 65536 in
set_option maxHeartbeats 40000000 in
theorem rm14 (l : Launch) (Z : State) (a0 : Array Value) (hw : ∀ d ∈ tables_1, d.before a0 Z = true) (ws : List Jvm.Cond) (r0 : Addr) (w0 : Int32) (h0 : Heap) (n0 : Nat) (Z0 : n0 ≤ h0.size) (hp0 : Fld Z h0 r0 "com/example/conceptary/conceptary/Concept" "active" "Z" (.int w0)) (hb1 : w0 = (0 : Int32) ∨ w0 = (1 : Int32)) :
    MetFree l (⟨"com/example/conceptary/conceptary/Concept", "active", "()Z"⟩ : MethodName) (head1 (Jvm.Cond.code (⟨"com/example/conceptary/conceptary/Concept", "active", "()Z"⟩ : MethodName) prog_7_method_7_code 1 (some .boolean) :: ws) ({ frames := 0, cells := 0, slots := 0, locals := 0 } : Room)) (fun a U => a = #[(.ref r0)] ∧ Z.Warmed39 U.vm ∧ U.heap = h0) (fun _ _ _ _ _ => True) (fun _ U o U' => ∃ v L, o = .returned v ∧ Q14 Z r0 w0 h0 n0 v U'.heap L ∧ FrameEnd U o U' L ({ frames := 0, cells := 0, slots := 0, locals := 0 } : Room).cells ({ frames := 0, cells := 0, slots := 0, locals := 0 } : Room).slots) := by
  refine MetFree.of_bodySF (plainFor_of_name pn_14) hisR ?_
  intro p e s m args below meth c s₁ Bd hml0 hP hK
  obtain ⟨rfl, hZ, hh⟩ := hP
  have hx := Bd.exec
  have hby := Bd.bytes
  have hml : c.maxLocals = 1 := hml0
  have hown : s.vm.findClass "com/example/conceptary/conceptary/Concept" = some m.cls := findClass_of_methodNamed Bd.named
  have hnm := (name_of_methodNamed Bd.named Bd.method).1
  have X0 : Stand p l e ({ frames := 0, cells := 0, slots := 0, locals := 0 } : Room) s m #[(.ref r0)] below meth c s₁ [] 0 0 := Stand.of_body Bd
  have e0 : s₁.heap = h0 := by rw [← hh, Bd.state]; rfl
  have N0 := Fr.nil n0
  have pre0 : ∀ t, Steps p.tables e below (s₁.setTop (mkF m 0 #[.val (.ref r0)] [])) t → Steps p.tables e below (s₁.setTop (entryFrame m #[(.ref r0)] 1)) t := fun t k => castTop (ef_14 m r0) k
  obtain ⟨T11, X11, e11, st11⟩ := getF X0 hx hZ hown (host := "") (Or.inl (hw _ (List.mem_of_getElem? (i := 74) rfl))) Via.refl e0 hp0 (g := (mkF m 1 #[.val (.ref r0)] [(.ref r0)])) rfl rfl (hb hby d14_1)
  obtain ⟨fs, hr, hrun, hended, hW, hsame⟩ := X11.leave (v := some (.int (nar .boolean w0))) (fun h => by rw [Bd.returns] at h; cases h)
  refine ⟨_, _, pre0 _ ?_, hrun, hended, _, _, rfl, ?_, ⟨_, rfl⟩, hW, hsame.mono (by decide) (by decide)⟩
  · refine XS.aloadN X0.here hx rfl (hb hby d14_0) rfl rfl ?_
    show Steps p.tables e below (s₁.setTop (mkF m 1 #[.val (.ref r0)] [(.ref r0)])) _
    refine st11 _ ?_
    show Steps p.tables e below (T11.setTop (mkF m 4 #[.val (.ref r0)] [(.int w0)])) _
    exact retN X11 hx (t := .boolean) Bd.returns (by simp) (hb hby d14_4) hr
  · show Q14 Z r0 w0 h0 n0 _ T11.heap _
    rw [e11]
    exact ⟨(by rw [own_nb hb1]), N0, rfl⟩
theorem d12_0 : decode jdk_38_method_8_code 0 = .ok (.aload_n 0, 1) := by decide +kernel
theorem d12_1 : decode jdk_38_method_8_code 1 = .ok (.getfield 48, 3) := by decide +kernel
theorem d12_4 : decode jdk_38_method_8_code 4 = .ok (.ireturn, 1) := by decide +kernel
theorem pn_12 : plainName "java/util/ArrayList" = true := by first | (simp [plainName, overriddenIn]; done) | decide +kernel
theorem ef_12 (m : MethodId) (r0 : Addr) : entryFrame m #[(.ref r0)] 1 = mkF m 0 #[.val (.ref r0)] [] := by first | (simp [entryFrame, mkF, argsToLocals, Value.category]; done) | rfl
def Q12 (Z : State) (r0 : Addr) (w0 : Int32) (h0 : Heap) (n0 : Nat) (v : Option Value) (h : Heap) (L : List Loc) : Prop := v = some (.int w0) ∧ Fr n0 L ∧ h = h0
set_option maxRecDepth 65536 in
set_option maxHeartbeats 40000000 in
theorem rm12 (l : Launch) (Z : State) (a0 : Array Value) (hw : ∀ d ∈ tables_1, d.before a0 Z = true) (ws : List Jvm.Cond) (r0 : Addr) (w0 : Int32) (h0 : Heap) (n0 : Nat) (Z0 : n0 ≤ h0.size) (hp0 : Fld Z h0 r0 "java/util/ArrayList" "size" "I" (.int w0)) :
    MetFree l (⟨"java/util/ArrayList", "size", "()I"⟩ : MethodName) (head1 (Jvm.Cond.code (⟨"java/util/ArrayList", "size", "()I"⟩ : MethodName) jdk_38_method_8_code 1 (some .int) :: ws) ({ frames := 0, cells := 0, slots := 0, locals := 0 } : Room)) (fun a U => a = #[(.ref r0)] ∧ Z.Warmed39 U.vm ∧ U.heap = h0) (fun _ _ _ _ _ => True) (fun _ U o U' => ∃ v L, o = .returned v ∧ Q12 Z r0 w0 h0 n0 v U'.heap L ∧ FrameEnd U o U' L ({ frames := 0, cells := 0, slots := 0, locals := 0 } : Room).cells ({ frames := 0, cells := 0, slots := 0, locals := 0 } : Room).slots) := by
  refine MetFree.of_bodySF (plainFor_of_name pn_12) hisR ?_
  intro p e s m args below meth c s₁ Bd hml0 hP hK
  obtain ⟨rfl, hZ, hh⟩ := hP
  have hx := Bd.exec
  have hby := Bd.bytes
  have hml : c.maxLocals = 1 := hml0
  have hown : s.vm.findClass "java/util/ArrayList" = some m.cls := findClass_of_methodNamed Bd.named
  have hnm := (name_of_methodNamed Bd.named Bd.method).1
  have X0 : Stand p l e ({ frames := 0, cells := 0, slots := 0, locals := 0 } : Room) s m #[(.ref r0)] below meth c s₁ [] 0 0 := Stand.of_body Bd
  have e0 : s₁.heap = h0 := by rw [← hh, Bd.state]; rfl
  have N0 := Fr.nil n0
  have pre0 : ∀ t, Steps p.tables e below (s₁.setTop (mkF m 0 #[.val (.ref r0)] [])) t → Steps p.tables e below (s₁.setTop (entryFrame m #[(.ref r0)] 1)) t := fun t k => castTop (ef_12 m r0) k
  obtain ⟨T11, X11, e11, st11⟩ := getF X0 hx hZ hown (host := "") (Or.inl (hw _ (List.mem_of_getElem? (i := 107) rfl))) Via.refl e0 hp0 (g := (mkF m 1 #[.val (.ref r0)] [(.ref r0)])) rfl rfl (hb hby d12_1)
  obtain ⟨fs, hr, hrun, hended, hW, hsame⟩ := X11.leave (v := some (.int w0)) (fun h => by rw [Bd.returns] at h; cases h)
  refine ⟨_, _, pre0 _ ?_, hrun, hended, _, _, rfl, ?_, ⟨_, rfl⟩, hW, hsame.mono (by decide) (by decide)⟩
  · refine XS.aloadN X0.here hx rfl (hb hby d12_0) rfl rfl ?_
    show Steps p.tables e below (s₁.setTop (mkF m 1 #[.val (.ref r0)] [(.ref r0)])) _
    refine st11 _ ?_
    show Steps p.tables e below (T11.setTop (mkF m 4 #[.val (.ref r0)] [(.int w0)])) _
    exact retOut X11 hx Bd.returns rfl (Or.inl ⟨rfl, Or.inl rfl, _, rfl⟩) (hb hby d12_4) hr
  · show Q12 Z r0 w0 h0 n0 _ T11.heap _
    rw [e11]
    exact ⟨rfl, N0, rfl⟩
theorem d11_0 : decode prog_48_method_3_code 0 = .ok (.aload_n 0, 1) := by decide +kernel
theorem d11_1 : decode prog_48_method_3_code 1 = .ok (.getfield 32, 3) := by decide +kernel
theorem d11_4 : decode prog_48_method_3_code 4 = .ok (.aload_n 0, 1) := by decide +kernel
theorem d11_5 : decode prog_48_method_3_code 5 = .ok (.getfield 16, 3) := by decide +kernel
theorem d11_8 : decode prog_48_method_3_code 8 = .ok (.arraylength, 1) := by decide +kernel
theorem d11_9 : decode prog_48_method_3_code 9 = .ok (.if_icmp .ne 51, 3) := by decide +kernel
theorem d11_60 : decode prog_48_method_3_code 60 = .ok (.aload_n 0, 1) := by decide +kernel
theorem d11_61 : decode prog_48_method_3_code 61 = .ok (.getfield 16, 3) := by decide +kernel
theorem d11_64 : decode prog_48_method_3_code 64 = .ok (.aload_n 0, 1) := by decide +kernel
theorem d11_65 : decode prog_48_method_3_code 65 = .ok (.getfield 32, 3) := by decide +kernel
theorem d11_68 : decode prog_48_method_3_code 68 = .ok (.iload_n 1, 1) := by decide +kernel
theorem d11_69 : decode prog_48_method_3_code 69 = .ok (.iastore, 1) := by decide +kernel
theorem d11_70 : decode prog_48_method_3_code 70 = .ok (.aload_n 0, 1) := by decide +kernel
theorem d11_71 : decode prog_48_method_3_code 71 = .ok (.getfield 20, 3) := by decide +kernel
theorem d11_74 : decode prog_48_method_3_code 74 = .ok (.aload_n 0, 1) := by decide +kernel
theorem d11_75 : decode prog_48_method_3_code 75 = .ok (.getfield 32, 3) := by decide +kernel
theorem d11_78 : decode prog_48_method_3_code 78 = .ok (.aload_n 0, 1) := by decide +kernel
theorem d11_79 : decode prog_48_method_3_code 79 = .ok (.getfield 10, 3) := by decide +kernel
theorem d11_82 : decode prog_48_method_3_code 82 = .ok (.invokeinterface 46 1, 5) := by decide +kernel
theorem d11_87 : decode prog_48_method_3_code 87 = .ok (.iconst 1, 1) := by decide +kernel
theorem d11_88 : decode prog_48_method_3_code 88 = .ok (.isub, 1) := by decide +kernel
theorem d11_89 : decode prog_48_method_3_code 89 = .ok (.iastore, 1) := by decide +kernel
theorem d11_90 : decode prog_48_method_3_code 90 = .ok (.aload_n 0, 1) := by decide +kernel
theorem d11_91 : decode prog_48_method_3_code 91 = .ok (.getfield 23, 3) := by decide +kernel
theorem d11_94 : decode prog_48_method_3_code 94 = .ok (.aload_n 0, 1) := by decide +kernel
theorem d11_95 : decode prog_48_method_3_code 95 = .ok (.getfield 32, 3) := by decide +kernel
theorem d11_98 : decode prog_48_method_3_code 98 = .ok (.iload_n 2, 1) := by decide +kernel
theorem d11_99 : decode prog_48_method_3_code 99 = .ok (.iastore, 1) := by decide +kernel
theorem d11_100 : decode prog_48_method_3_code 100 = .ok (.aload_n 0, 1) := by decide +kernel
theorem d11_101 : decode prog_48_method_3_code 101 = .ok (.dup, 1) := by decide +kernel
theorem d11_102 : decode prog_48_method_3_code 102 = .ok (.getfield 32, 3) := by decide +kernel
theorem d11_105 : decode prog_48_method_3_code 105 = .ok (.dup_x1, 1) := by decide +kernel
theorem d11_106 : decode prog_48_method_3_code 106 = .ok (.iconst 1, 1) := by decide +kernel
theorem d11_107 : decode prog_48_method_3_code 107 = .ok (.iadd, 1) := by decide +kernel
theorem d11_108 : decode prog_48_method_3_code 108 = .ok (.putfield 32, 3) := by decide +kernel
theorem d11_111 : decode prog_48_method_3_code 111 = .ok (.ireturn, 1) := by decide +kernel
theorem pn_11 : plainName "com/example/conceptary/conceptary/SnapshotRows" = true := by first | (simp [plainName, overriddenIn]; done) | decide +kernel
theorem ef_11 (m : MethodId) (r0 : Addr) (p1 : Int32) (p2 : Int32) : entryFrame m #[(.ref r0), (.int p1), (.int p2)] 4 = mkF m 0 #[.val (.ref r0), .val (.int p1), .val (.int p2), .unset] [] := by first | (simp [entryFrame, mkF, argsToLocals, Value.category]; done) | rfl
theorem pd_1 : parseMethodDescriptor "()I" = some ⟨[], some .int⟩ := by decide +kernel
theorem sn_y_conceptary_SnapshotRowsfiles_ry_conceptary_SnapshotRowssize {Z : State} {a0 : Array Value} (hw : ∀ d ∈ tables_1, d.before a0 Z = true) : Jvm.RoadKit.slotOf Z "com/example/conceptary/conceptary/SnapshotRows" "files" "Ljava/util/List;" ≠ Jvm.RoadKit.slotOf Z "com/example/conceptary/conceptary/SnapshotRows" "size" "I" := slot_ne (Or.inr (hw _ (List.mem_of_getElem? (i := 40) rfl))) (Or.inl (hw _ (List.mem_of_getElem? (i := 97) rfl))) (by decide) (t := (.object "java/util/List")) (t' := .int) (by decide) (by decide)
theorem sn_ary_SnapshotRowseffectiveTimes_ry_conceptary_SnapshotRowssize {Z : State} {a0 : Array Value} (hw : ∀ d ∈ tables_1, d.before a0 Z = true) : Jvm.RoadKit.slotOf Z "com/example/conceptary/conceptary/SnapshotRows" "effectiveTimes" "[I" ≠ Jvm.RoadKit.slotOf Z "com/example/conceptary/conceptary/SnapshotRows" "size" "I" := slot_ne (Or.inl (hw _ (List.mem_of_getElem? (i := 43) rfl))) (Or.inl (hw _ (List.mem_of_getElem? (i := 97) rfl))) (by decide) (t := (.array .int)) (t' := .int) (by decide) (by decide)
theorem sn_eptary_SnapshotRowsfileIndexes_ry_conceptary_SnapshotRowssize {Z : State} {a0 : Array Value} (hw : ∀ d ∈ tables_1, d.before a0 Z = true) : Jvm.RoadKit.slotOf Z "com/example/conceptary/conceptary/SnapshotRows" "fileIndexes" "[I" ≠ Jvm.RoadKit.slotOf Z "com/example/conceptary/conceptary/SnapshotRows" "size" "I" := slot_ne (Or.inl (hw _ (List.mem_of_getElem? (i := 45) rfl))) (Or.inl (hw _ (List.mem_of_getElem? (i := 97) rfl))) (by decide) (t := (.array .int)) (t' := .int) (by decide) (by decide)
theorem sn_y_conceptary_SnapshotRowslines_ry_conceptary_SnapshotRowssize {Z : State} {a0 : Array Value} (hw : ∀ d ∈ tables_1, d.before a0 Z = true) : Jvm.RoadKit.slotOf Z "com/example/conceptary/conceptary/SnapshotRows" "lines" "[I" ≠ Jvm.RoadKit.slotOf Z "com/example/conceptary/conceptary/SnapshotRows" "size" "I" := slot_ne (Or.inl (hw _ (List.mem_of_getElem? (i := 47) rfl))) (Or.inl (hw _ (List.mem_of_getElem? (i := 97) rfl))) (by decide) (t := (.array .int)) (t' := .int) (by decide) (by decide)
theorem sn_eptary_ConceptTable_Builderids_ry_conceptary_SnapshotRowssize {Z : State} {a0 : Array Value} (hw : ∀ d ∈ tables_1, d.before a0 Z = true) : Jvm.RoadKit.slotOf Z "com/example/conceptary/conceptary/ConceptTable$Builder" "ids" "[J" ≠ Jvm.RoadKit.slotOf Z "com/example/conceptary/conceptary/SnapshotRows" "size" "I" := slot_ne (Or.inl (hw _ (List.mem_of_getElem? (i := 50) rfl))) (Or.inl (hw _ (List.mem_of_getElem? (i := 97) rfl))) (by decide) (t := (.array .long)) (t' := .int) (by decide) (by decide)
theorem sn_ry_ConceptTable_Builderactives_ry_conceptary_SnapshotRowssize {Z : State} {a0 : Array Value} (hw : ∀ d ∈ tables_1, d.before a0 Z = true) : Jvm.RoadKit.slotOf Z "com/example/conceptary/conceptary/ConceptTable$Builder" "actives" "[Z" ≠ Jvm.RoadKit.slotOf Z "com/example/conceptary/conceptary/SnapshotRows" "size" "I" := slot_ne (Or.inl (hw _ (List.mem_of_getElem? (i := 53) rfl))) (Or.inl (hw _ (List.mem_of_getElem? (i := 97) rfl))) (by decide) (t := (.array .boolean)) (t' := .int) (by decide) (by decide)
theorem sn__ConceptTable_BuildermoduleIds_ry_conceptary_SnapshotRowssize {Z : State} {a0 : Array Value} (hw : ∀ d ∈ tables_1, d.before a0 Z = true) : Jvm.RoadKit.slotOf Z "com/example/conceptary/conceptary/ConceptTable$Builder" "moduleIds" "[J" ≠ Jvm.RoadKit.slotOf Z "com/example/conceptary/conceptary/SnapshotRows" "size" "I" := slot_ne (Or.inl (hw _ (List.mem_of_getElem? (i := 55) rfl))) (Or.inl (hw _ (List.mem_of_getElem? (i := 97) rfl))) (by decide) (t := (.array .long)) (t' := .int) (by decide) (by decide)
theorem sn_ble_BuilderdefinitionStatusIds_ry_conceptary_SnapshotRowssize {Z : State} {a0 : Array Value} (hw : ∀ d ∈ tables_1, d.before a0 Z = true) : Jvm.RoadKit.slotOf Z "com/example/conceptary/conceptary/ConceptTable$Builder" "definitionStatusIds" "[J" ≠ Jvm.RoadKit.slotOf Z "com/example/conceptary/conceptary/SnapshotRows" "size" "I" := slot_ne (Or.inl (hw _ (List.mem_of_getElem? (i := 57) rfl))) (Or.inl (hw _ (List.mem_of_getElem? (i := 97) rfl))) (by decide) (t := (.array .long)) (t' := .int) (by decide) (by decide)
def Q11 (Z : State) (r0 : Addr) (p1 : Int32) (p2 : Int32) (fb : Addr) (e1 : Addr) (e2 : Addr) (e3 : Addr) (i1 : Addr) (ac : Addr) (mo : Addr) (de : Addr) (sz : Int32) (g1 : Nat → Int32) (g2 : Nat → Int32) (g3 : Nat → Int32) (h0 : Heap) (n0 : Nat) (v : Option Value) (h : Heap) (L : List Loc) : Prop := ∃ k1 : Nat → Int32, ∃ k2 : Nat → Int32, ∃ k3 : Nat → Int32, v = some (.int sz) ∧ Fr n0 L ∧ Keep h0 h [r0, e1, e2, e3] ∧ Exa Z h r0 "com/example/conceptary/conceptary/ConceptTable$Builder" ∧ Fld Z h r0 "com/example/conceptary/conceptary/SnapshotRows" "files" "Ljava/util/List;" (.ref fb) ∧ Fld Z h r0 "com/example/conceptary/conceptary/SnapshotRows" "effectiveTimes" "[I" (.ref e1) ∧ Fld Z h r0 "com/example/conceptary/conceptary/SnapshotRows" "fileIndexes" "[I" (.ref e2) ∧ Fld Z h r0 "com/example/conceptary/conceptary/SnapshotRows" "lines" "[I" (.ref e3) ∧ Fld Z h r0 "com/example/conceptary/conceptary/SnapshotRows" "size" "I" (.int (sz + (1 : Int32))) ∧ Fld Z h r0 "com/example/conceptary/conceptary/ConceptTable$Builder" "ids" "[J" (.ref i1) ∧ Fld Z h r0 "com/example/conceptary/conceptary/ConceptTable$Builder" "actives" "[Z" (.ref ac) ∧ Fld Z h r0 "com/example/conceptary/conceptary/ConceptTable$Builder" "moduleIds" "[J" (.ref mo) ∧ Fld Z h r0 "com/example/conceptary/conceptary/ConceptTable$Builder" "definitionStatusIds" "[J" (.ref de) ∧ AI Z h e1 .int (1024 : Int32) k1 ∧ AI Z h e2 .int (1024 : Int32) k2 ∧ AI Z h e3 .int (1024 : Int32) k3
set_option maxRecDepth 65536 in
set_option maxHeartbeats 40000000 in
theorem rm11 (l : Launch) (Z : State) (a0 : Array Value) (hw : ∀ d ∈ tables_1, d.before a0 Z = true) (ws : List Jvm.Cond) (r0 : Addr) (p1 : Int32) (p2 : Int32) (fb : Addr) (e1 : Addr) (e2 : Addr) (e3 : Addr) (i1 : Addr) (ac : Addr) (mo : Addr) (de : Addr) (sz : Int32) (g1 : Nat → Int32) (g2 : Nat → Int32) (g3 : Nat → Int32) (h0 : Heap) (n0 : Nat) (Z0 : n0 ≤ h0.size) (hp0 : Exa Z h0 r0 "com/example/conceptary/conceptary/ConceptTable$Builder") (hp1 : Fld Z h0 r0 "com/example/conceptary/conceptary/SnapshotRows" "files" "Ljava/util/List;" (.ref fb)) (hp2 : Fld Z h0 r0 "com/example/conceptary/conceptary/SnapshotRows" "effectiveTimes" "[I" (.ref e1)) (hp3 : Fld Z h0 r0 "com/example/conceptary/conceptary/SnapshotRows" "fileIndexes" "[I" (.ref e2)) (hp4 : Fld Z h0 r0 "com/example/conceptary/conceptary/SnapshotRows" "lines" "[I" (.ref e3)) (hp5 : Fld Z h0 r0 "com/example/conceptary/conceptary/SnapshotRows" "size" "I" (.int sz)) (hp6 : Fld Z h0 r0 "com/example/conceptary/conceptary/ConceptTable$Builder" "ids" "[J" (.ref i1)) (hp7 : Fld Z h0 r0 "com/example/conceptary/conceptary/ConceptTable$Builder" "actives" "[Z" (.ref ac)) (hp8 : Fld Z h0 r0 "com/example/conceptary/conceptary/ConceptTable$Builder" "moduleIds" "[J" (.ref mo)) (hp9 : Fld Z h0 r0 "com/example/conceptary/conceptary/ConceptTable$Builder" "definitionStatusIds" "[J" (.ref de)) (hp10 : Exa Z h0 fb "java/util/ArrayList") (hp11 : Fld Z h0 fb "java/util/ArrayList" "size" "I" (.int (0 : Int32))) (hp12 : AI Z h0 e1 .int (1024 : Int32) g1) (hp13 : AI Z h0 e2 .int (1024 : Int32) g2) (hp14 : AI Z h0 e3 .int (1024 : Int32) g3) (hp15 : n0 ≤ r0) (hp16 : n0 ≤ e1) (hp17 : n0 ≤ e2) (hp18 : n0 ≤ e3) (hp19 : r0 ≠ fb) (hp20 : r0 ≠ e1) (hp21 : r0 ≠ e2) (hp22 : r0 ≠ e3) (hp23 : fb ≠ e1) (hp24 : fb ≠ e2) (hp25 : fb ≠ e3) (hp26 : e1 ≠ e2) (hp27 : e1 ≠ e3) (hp28 : e2 ≠ e3) (hsz : ¬ sz < (0 : Int32) ∧ sz < (1024 : Int32)) :
    MetFree l (⟨"com/example/conceptary/conceptary/SnapshotRows", "addRow", "(II)I"⟩ : MethodName) (head1 (Jvm.Cond.code (⟨"com/example/conceptary/conceptary/SnapshotRows", "addRow", "(II)I"⟩ : MethodName) prog_48_method_3_code 4 (some .int) :: ws) ({ frames := 1, cells := 0, slots := 0, locals := 14 } : Room)) (fun a U => a = #[(.ref r0), (.int p1), (.int p2)] ∧ Z.Warmed39 U.vm ∧ U.heap = h0) (fun _ _ _ _ _ => True) (fun _ U o U' => ∃ v L, o = .returned v ∧ Q11 Z r0 p1 p2 fb e1 e2 e3 i1 ac mo de sz g1 g2 g3 h0 n0 v U'.heap L ∧ FrameEnd U o U' L ({ frames := 1, cells := 0, slots := 0, locals := 14 } : Room).cells ({ frames := 1, cells := 0, slots := 0, locals := 14 } : Room).slots) := by
  refine MetFree.of_bodySF (plainFor_of_name pn_11) hisR ?_
  intro p e s m args below meth c s₁ Bd hml0 hP hK
  obtain ⟨rfl, hZ, hh⟩ := hP
  have hx := Bd.exec
  have hby := Bd.bytes
  have hml : c.maxLocals = 4 := hml0
  have hown : s.vm.findClass "com/example/conceptary/conceptary/SnapshotRows" = some m.cls := findClass_of_methodNamed Bd.named
  have hnm := (name_of_methodNamed Bd.named Bd.method).1
  have X0 : Stand p l e ({ frames := 1, cells := 0, slots := 0, locals := 14 } : Room) s m #[(.ref r0), (.int p1), (.int p2)] below meth c s₁ [] 0 0 := Stand.of_body Bd
  have e0 : s₁.heap = h0 := by rw [← hh, Bd.state]; rfl
  have N0 := Fr.nil n0
  have pre0 : ∀ t, Steps p.tables e below (s₁.setTop (mkF m 0 #[.val (.ref r0), .val (.int p1), .val (.int p2), .unset] [])) t → Steps p.tables e below (s₁.setTop (entryFrame m #[(.ref r0), (.int p1), (.int p2)] 4)) t := fun t k => castTop (ef_11 m r0 p1 p2) k
  obtain ⟨T11, X11, e11, st11⟩ := getF X0 hx hZ hown (host := "") (Or.inl (hw _ (List.mem_of_getElem? (i := 96) rfl))) Via.refl e0 hp5 (g := (mkF m 1 #[.val (.ref r0), .val (.int p1), .val (.int p2), .unset] [(.ref r0)])) rfl rfl (hb hby d11_1)
  obtain ⟨T12, X12, e12, st12⟩ := getF X11 hx hZ hown (host := "") (Or.inl (hw _ (List.mem_of_getElem? (i := 42) rfl))) Via.refl e11 hp2 (g := (mkF m 5 #[.val (.ref r0), .val (.int p1), .val (.int p2), .unset] [(.ref r0), (.int sz)])) rfl rfl (hb hby d11_5)
  obtain ⟨cl13, Ar13, S13, M13, I13⟩ := id hp12
  obtain ⟨T14, X14, e14, st14⟩ := getF X12 hx hZ hown (host := "") (Or.inl (hw _ (List.mem_of_getElem? (i := 42) rfl))) Via.refl e12 hp2 (g := (mkF m 61 #[.val (.ref r0), .val (.int p1), .val (.int p2), .unset] [(.ref r0)])) rfl rfl (hb hby d11_61)
  obtain ⟨T15, X15, e15, st15⟩ := getF X14 hx hZ hown (host := "") (Or.inl (hw _ (List.mem_of_getElem? (i := 96) rfl))) Via.refl e14 hp5 (g := (mkF m 65 #[.val (.ref r0), .val (.int p1), .val (.int p2), .unset] [(.ref r0), (.ref e1)])) rfl rfl (hb hby d11_65)
  obtain ⟨cl16, Ar16, S16, M16, I16⟩ := id hp12
  have hin16 : ¬ (sz < 0 ∨ cl16.slots.size ≤ (sz).toNatClampNeg) := inb_of S16 hsz
  obtain ⟨T17, h17, X17, e17, W17, st17⟩ := stI X15 hx hZ e15 Ar16 (j := sz) hin16 (g := (mkF m 69 #[.val (.ref r0), .val (.int p1), .val (.int p2), .unset] [(.int p1), (.int sz), (.ref e1)])) rfl rfl (hb hby d11_69)
  have V17 : AI Z h17 e1 .int (1024 : Int32) (fun i => if i = (sz).toNatClampNeg then p1 else g1 i) := AI.set hp12 W17
  have Z18 : n0 ≤ h17.size := Nat.le_trans Z0 (Keep.of_wr W17).1
  have K19 : Keep h0 h17 [r0, e1, e2, e3] := (Keep.refl h0 [r0, e1, e2, e3]).wr W17 (Or.inl (List.mem_of_getElem? (i := 1) rfl))
  have N17 := Fr.snoc X17 N0 hp16
  have F20 : Fld Z h17 r0 "com/example/conceptary/conceptary/SnapshotRows" "fileIndexes" "[I" (.ref e2) := (hp3.other W17 (Or.inl hp20))
  obtain ⟨T21, X21, e21, st21⟩ := getF X17 hx hZ hown (host := "") (Or.inl (hw _ (List.mem_of_getElem? (i := 44) rfl))) Via.refl e17 F20 (g := (mkF m 71 #[.val (.ref r0), .val (.int p1), .val (.int p2), .unset] [(.ref r0)])) rfl rfl (hb hby d11_71)
  have F22 : Fld Z h17 r0 "com/example/conceptary/conceptary/SnapshotRows" "size" "I" (.int sz) := (hp5.other W17 (Or.inl hp20))
  obtain ⟨T23, X23, e23, st23⟩ := getF X21 hx hZ hown (host := "") (Or.inl (hw _ (List.mem_of_getElem? (i := 96) rfl))) Via.refl e21 F22 (g := (mkF m 75 #[.val (.ref r0), .val (.int p1), .val (.int p2), .unset] [(.ref r0), (.ref e2)])) rfl rfl (hb hby d11_75)
  have F24 : Fld Z h17 r0 "com/example/conceptary/conceptary/SnapshotRows" "files" "Ljava/util/List;" (.ref fb) := (hp1.other W17 (Or.inl hp20))
  obtain ⟨T25, X25, e25, st25⟩ := getF X23 hx hZ hown (host := "") (Or.inl (hw _ (List.mem_of_getElem? (i := 39) rfl))) Via.refl e23 F24 (g := (mkF m 79 #[.val (.ref r0), .val (.int p1), .val (.int p2), .unset] [(.ref r0), (.int sz), (.ref e2)])) rfl rfl (hb hby d11_79)
  have F27 : Fld Z h17 fb "java/util/ArrayList" "size" "I" (.int (0 : Int32)) := (hp11.other W17 (Or.inl hp23))
  have E28 : Exa Z h17 fb "java/util/ArrayList" := (hp10.wr W17)
  obtain ⟨cq26, kq26, q26a, q26b, q26c⟩ := isOf hZ e25 E28
  obtain ⟨_, _, ⟨T26, L26, k26, n26⟩, -, X26, ⟨Lc26, hQ26, l26, y26, z26⟩, st26⟩ := X25.interfaceBack hx (xi := (⟨"java/util/List", "size", "()I"⟩ : MethodName)) (y := (⟨"java/util/ArrayList", "size", "()I"⟩ : MethodName)) hown (mvT hZ (hw _ (List.mem_of_getElem? (i := 98) rfl))) (mvT hZ (hw _ (List.mem_of_getElem? (i := 99) rfl))) (mvT hZ (hw _ (List.mem_of_getElem? (i := 100) rfl))) (mvT hZ (hw _ (List.mem_of_getElem? (i := 101) rfl))) (mvT hZ (hw _ (List.mem_of_getElem? (i := 102) rfl))) (mvT hZ (hw _ (List.mem_of_getElem? (i := 103) rfl))) (mvT hZ (hw _ (List.mem_of_getElem? (i := 104) rfl))) (mvT hZ (hw _ (List.mem_of_getElem? (i := 105) rfl))) (by decide) (backOf (W := 2) (rm12 l Z a0 hw [] fb (0 : Int32) h17 n0 Z18 F27) hZ (hw _ (List.mem_of_getElem? (i := 106) rfl)) (hw _ (List.mem_of_getElem? (i := 17) rfl)) (by decide) (by decide)) q26a q26b q26c (g := (mkF m 82 #[.val (.ref r0), .val (.int p1), .val (.int p2), .unset] [(.ref fb), (.int sz), (.ref e2)])) rfl (by rw [hml]; rfl) (Steps.refl _) (argsL := []) (rest := [(.int sz), (.ref e2)]) (lenOf pd_1 rfl) rfl (by show 2 * 0 + _ ≤ _; exact Nat.le_of_eq rfl) (hb hby d11_82) (fun _ _ => ⟨rfl, e25, (by decide : 0 + 0 ≤ _), (by decide : 0 + 0 ≤ _)⟩)
  dsimp only [Pt.U, Pt.locs, Pt.cells, Pt.slots] at X26 l26 y26 z26 st26 hQ26
  subst l26 y26 z26
  obtain ⟨rfl, Nq26, u26_0⟩ := hQ26
  have N26 := Fr.app N17 Nq26
  have V29 : AI Z h17 e2 .int (1024 : Int32) g2 := (hp13.other W17 (Ne.symm hp26))
  obtain ⟨cl30, Ar30, S30, M30, I30⟩ := id V29
  have hin30 : ¬ (sz < 0 ∨ cl30.slots.size ≤ (sz).toNatClampNeg) := inb_of S30 hsz
  obtain ⟨T31, h31, X31, e31, W31, st31⟩ := stI X26 hx hZ u26_0 Ar30 (j := sz) hin30 (g := (mkF m 89 #[.val (.ref r0), .val (.int p1), .val (.int p2), .unset] [(.int ((0 : Int32) - (1 : Int32))), (.int sz), (.ref e2)])) rfl rfl (hb hby d11_89)
  have V31 : AI Z h31 e2 .int (1024 : Int32) (fun i => if i = (sz).toNatClampNeg then ((0 : Int32) - (1 : Int32)) else g2 i) := AI.set V29 W31
  have Z32 : n0 ≤ h31.size := Nat.le_trans Z18 (Keep.of_wr W31).1
  have K33 : Keep h0 h31 [r0, e1, e2, e3] := K19.wr W31 (Or.inl (List.mem_of_getElem? (i := 2) rfl))
  have N31 := Fr.snoc X31 N26 hp17
  have F34 : Fld Z h31 r0 "com/example/conceptary/conceptary/SnapshotRows" "lines" "[I" (.ref e3) := ((hp4.other W17 (Or.inl hp20)).other W31 (Or.inl hp21))
  obtain ⟨T35, X35, e35, st35⟩ := getF X31 hx hZ hown (host := "") (Or.inl (hw _ (List.mem_of_getElem? (i := 46) rfl))) Via.refl e31 F34 (g := (mkF m 91 #[.val (.ref r0), .val (.int p1), .val (.int p2), .unset] [(.ref r0)])) rfl rfl (hb hby d11_91)
  have F36 : Fld Z h31 r0 "com/example/conceptary/conceptary/SnapshotRows" "size" "I" (.int sz) := (F22.other W31 (Or.inl hp21))
  obtain ⟨T37, X37, e37, st37⟩ := getF X35 hx hZ hown (host := "") (Or.inl (hw _ (List.mem_of_getElem? (i := 96) rfl))) Via.refl e35 F36 (g := (mkF m 95 #[.val (.ref r0), .val (.int p1), .val (.int p2), .unset] [(.ref r0), (.ref e3)])) rfl rfl (hb hby d11_95)
  have V38 : AI Z h31 e3 .int (1024 : Int32) g3 := ((hp14.other W17 (Ne.symm hp27)).other W31 (Ne.symm hp28))
  obtain ⟨cl39, Ar39, S39, M39, I39⟩ := id V38
  have hin39 : ¬ (sz < 0 ∨ cl39.slots.size ≤ (sz).toNatClampNeg) := inb_of S39 hsz
  obtain ⟨T40, h40, X40, e40, W40, st40⟩ := stI X37 hx hZ e37 Ar39 (j := sz) hin39 (g := (mkF m 99 #[.val (.ref r0), .val (.int p1), .val (.int p2), .unset] [(.int p2), (.int sz), (.ref e3)])) rfl rfl (hb hby d11_99)
  have V40 : AI Z h40 e3 .int (1024 : Int32) (fun i => if i = (sz).toNatClampNeg then p2 else g3 i) := AI.set V38 W40
  have Z41 : n0 ≤ h40.size := Nat.le_trans Z32 (Keep.of_wr W40).1
  have K42 : Keep h0 h40 [r0, e1, e2, e3] := K33.wr W40 (Or.inl (List.mem_of_getElem? (i := 3) rfl))
  have N40 := Fr.snoc X40 N31 hp18
  have F43 : Fld Z h40 r0 "com/example/conceptary/conceptary/SnapshotRows" "size" "I" (.int sz) := (F36.other W40 (Or.inl hp22))
  obtain ⟨T44, X44, e44, st44⟩ := getF X40 hx hZ hown (host := "") (Or.inl (hw _ (List.mem_of_getElem? (i := 96) rfl))) Via.refl e40 F43 (g := (mkF m 102 #[.val (.ref r0), .val (.int p1), .val (.int p2), .unset] [(.ref r0), (.ref r0)])) rfl rfl (hb hby d11_102)
  have E45 : Exa Z h40 r0 "com/example/conceptary/conceptary/ConceptTable$Builder" := (((hp0.wr W17).wr W31).wr W40)
  obtain ⟨T46, h46, X46, e46, W46, st46⟩ := putF X44 hx hZ hown (host := "") (Or.inl (hw _ (List.mem_of_getElem? (i := 96) rfl))) Via.refl e44 F43 E45 (Or.inl (hw _ (List.mem_of_getElem? (i := 97) rfl))) (hw _ (List.mem_of_getElem? (i := 2) rfl)) (ty := .int) (by decide) rfl rfl (g := (mkF m 108 #[.val (.ref r0), .val (.int p1), .val (.int p2), .unset] [(.int (sz + (1 : Int32))), (.ref r0), (.int sz)])) rfl rfl (hb hby d11_108)
  have F46 : Fld Z h46 r0 "com/example/conceptary/conceptary/SnapshotRows" "size" "I" (.int (sz + (1 : Int32))) := F43.same W46
  have Z47 : n0 ≤ h46.size := Nat.le_trans Z41 (Keep.of_wr W46).1
  have K48 : Keep h0 h46 [r0, e1, e2, e3] := K42.wr W46 (Or.inl (List.mem_of_getElem? (i := 0) rfl))
  have N46 := Fr.snoc X46 N40 hp15
  have E49 : Exa Z h46 r0 "com/example/conceptary/conceptary/ConceptTable$Builder" := (E45.wr W46)
  have F50 : Fld Z h46 r0 "com/example/conceptary/conceptary/SnapshotRows" "files" "Ljava/util/List;" (.ref fb) := (((F24.other W31 (Or.inl hp21)).other W40 (Or.inl hp22)).other W46 (Or.inr (sn_y_conceptary_SnapshotRowsfiles_ry_conceptary_SnapshotRowssize hw)))
  have F51 : Fld Z h46 r0 "com/example/conceptary/conceptary/SnapshotRows" "effectiveTimes" "[I" (.ref e1) := ((((hp2.other W17 (Or.inl hp20)).other W31 (Or.inl hp21)).other W40 (Or.inl hp22)).other W46 (Or.inr (sn_ary_SnapshotRowseffectiveTimes_ry_conceptary_SnapshotRowssize hw)))
  have F52 : Fld Z h46 r0 "com/example/conceptary/conceptary/SnapshotRows" "fileIndexes" "[I" (.ref e2) := (((F20.other W31 (Or.inl hp21)).other W40 (Or.inl hp22)).other W46 (Or.inr (sn_eptary_SnapshotRowsfileIndexes_ry_conceptary_SnapshotRowssize hw)))
  have F53 : Fld Z h46 r0 "com/example/conceptary/conceptary/SnapshotRows" "lines" "[I" (.ref e3) := ((F34.other W40 (Or.inl hp22)).other W46 (Or.inr (sn_y_conceptary_SnapshotRowslines_ry_conceptary_SnapshotRowssize hw)))
  have F54 : Fld Z h46 r0 "com/example/conceptary/conceptary/ConceptTable$Builder" "ids" "[J" (.ref i1) := ((((hp6.other W17 (Or.inl hp20)).other W31 (Or.inl hp21)).other W40 (Or.inl hp22)).other W46 (Or.inr (sn_eptary_ConceptTable_Builderids_ry_conceptary_SnapshotRowssize hw)))
  have F55 : Fld Z h46 r0 "com/example/conceptary/conceptary/ConceptTable$Builder" "actives" "[Z" (.ref ac) := ((((hp7.other W17 (Or.inl hp20)).other W31 (Or.inl hp21)).other W40 (Or.inl hp22)).other W46 (Or.inr (sn_ry_ConceptTable_Builderactives_ry_conceptary_SnapshotRowssize hw)))
  have F56 : Fld Z h46 r0 "com/example/conceptary/conceptary/ConceptTable$Builder" "moduleIds" "[J" (.ref mo) := ((((hp8.other W17 (Or.inl hp20)).other W31 (Or.inl hp21)).other W40 (Or.inl hp22)).other W46 (Or.inr (sn__ConceptTable_BuildermoduleIds_ry_conceptary_SnapshotRowssize hw)))
  have F57 : Fld Z h46 r0 "com/example/conceptary/conceptary/ConceptTable$Builder" "definitionStatusIds" "[J" (.ref de) := ((((hp9.other W17 (Or.inl hp20)).other W31 (Or.inl hp21)).other W40 (Or.inl hp22)).other W46 (Or.inr (sn_ble_BuilderdefinitionStatusIds_ry_conceptary_SnapshotRowssize hw)))
  have V58 : AI Z h46 e1 .int (1024 : Int32) (fun i => if i = (sz).toNatClampNeg then p1 else g1 i) := (((V17.other W31 hp26).other W40 hp27).other W46 (Ne.symm hp20))
  have V59 : AI Z h46 e2 .int (1024 : Int32) (fun i => if i = (sz).toNatClampNeg then ((0 : Int32) - (1 : Int32)) else g2 i) := ((V31.other W40 hp28).other W46 (Ne.symm hp21))
  have V60 : AI Z h46 e3 .int (1024 : Int32) (fun i => if i = (sz).toNatClampNeg then p2 else g3 i) := (V40.other W46 (Ne.symm hp22))
  obtain ⟨fs, hr, hrun, hended, hW, hsame⟩ := X46.leave (v := some (.int sz)) (fun h => by rw [Bd.returns] at h; cases h)
  refine ⟨_, _, pre0 _ ?_, hrun, hended, _, _, rfl, ?_, ⟨_, rfl⟩, hW, hsame.mono (by decide) (by decide)⟩
  · refine XS.aloadN X0.here hx rfl (hb hby d11_0) rfl rfl ?_
    show Steps p.tables e below (s₁.setTop (mkF m 1 #[.val (.ref r0), .val (.int p1), .val (.int p2), .unset] [(.ref r0)])) _
    refine st11 _ ?_
    show Steps p.tables e below (T11.setTop (mkF m 4 #[.val (.ref r0), .val (.int p1), .val (.int p2), .unset] [(.int sz)])) _
    refine XS.aloadN X11.here hx rfl (hb hby d11_4) rfl rfl ?_
    show Steps p.tables e below (T11.setTop (mkF m 5 #[.val (.ref r0), .val (.int p1), .val (.int p2), .unset] [(.ref r0), (.int sz)])) _
    refine st12 _ ?_
    show Steps p.tables e below (T12.setTop (mkF m 8 #[.val (.ref r0), .val (.int p1), .val (.int p2), .unset] [(.ref e1), (.int sz)])) _
    refine X12.arraylength hx (by rw [e12]; exact Ar13.1) (State.isArrayOf_alike hZ.alike Ar13.2.1) (g := (mkF m 8 #[.val (.ref r0), .val (.int p1), .val (.int p2), .unset] [(.ref e1), (.int sz)])) rfl rfl (hb hby d11_8) _ ?_
    rw [len_of S13 M13]
    show Steps p.tables e below (T12.setTop (mkF m 9 #[.val (.ref r0), .val (.int p1), .val (.int p2), .unset] [(.int (1024 : Int32)), (.int sz)])) _
    refine XS.icmpYes X12.here hx rfl (pc0 := 9) (pc' := 60) rfl (hb hby d11_9) rfl (feq (own_1024 hsz)).2 (by decide) (by decide) ?_
    show Steps p.tables e below (T12.setTop (mkF m 60 #[.val (.ref r0), .val (.int p1), .val (.int p2), .unset] [])) _
    refine XS.aloadN X12.here hx rfl (hb hby d11_60) rfl rfl ?_
    show Steps p.tables e below (T12.setTop (mkF m 61 #[.val (.ref r0), .val (.int p1), .val (.int p2), .unset] [(.ref r0)])) _
    refine st14 _ ?_
    show Steps p.tables e below (T14.setTop (mkF m 64 #[.val (.ref r0), .val (.int p1), .val (.int p2), .unset] [(.ref e1)])) _
    refine XS.aloadN X14.here hx rfl (hb hby d11_64) rfl rfl ?_
    show Steps p.tables e below (T14.setTop (mkF m 65 #[.val (.ref r0), .val (.int p1), .val (.int p2), .unset] [(.ref r0), (.ref e1)])) _
    refine st15 _ ?_
    show Steps p.tables e below (T15.setTop (mkF m 68 #[.val (.ref r0), .val (.int p1), .val (.int p2), .unset] [(.int sz), (.ref e1)])) _
    refine XS.iloadN X15.here hx rfl (hb hby d11_68) rfl ?_
    show Steps p.tables e below (T15.setTop (mkF m 69 #[.val (.ref r0), .val (.int p1), .val (.int p2), .unset] [(.int p1), (.int sz), (.ref e1)])) _
    refine st17 _ ?_
    show Steps p.tables e below (T17.setTop (mkF m 70 #[.val (.ref r0), .val (.int p1), .val (.int p2), .unset] [])) _
    refine XS.aloadN X17.here hx rfl (hb hby d11_70) rfl rfl ?_
    show Steps p.tables e below (T17.setTop (mkF m 71 #[.val (.ref r0), .val (.int p1), .val (.int p2), .unset] [(.ref r0)])) _
    refine st21 _ ?_
    show Steps p.tables e below (T21.setTop (mkF m 74 #[.val (.ref r0), .val (.int p1), .val (.int p2), .unset] [(.ref e2)])) _
    refine XS.aloadN X21.here hx rfl (hb hby d11_74) rfl rfl ?_
    show Steps p.tables e below (T21.setTop (mkF m 75 #[.val (.ref r0), .val (.int p1), .val (.int p2), .unset] [(.ref r0), (.ref e2)])) _
    refine st23 _ ?_
    show Steps p.tables e below (T23.setTop (mkF m 78 #[.val (.ref r0), .val (.int p1), .val (.int p2), .unset] [(.int sz), (.ref e2)])) _
    refine XS.aloadN X23.here hx rfl (hb hby d11_78) rfl rfl ?_
    show Steps p.tables e below (T23.setTop (mkF m 79 #[.val (.ref r0), .val (.int p1), .val (.int p2), .unset] [(.ref r0), (.int sz), (.ref e2)])) _
    refine st25 _ ?_
    show Steps p.tables e below (T25.setTop (mkF m 82 #[.val (.ref r0), .val (.int p1), .val (.int p2), .unset] [(.ref fb), (.int sz), (.ref e2)])) _
    refine st26.trans ?_
    show Steps p.tables e below (T26.setTop (mkF m 87 #[.val (.ref r0), .val (.int p1), .val (.int p2), .unset] [(.int (0 : Int32)), (.int sz), (.ref e2)])) _
    refine XS.iconst X26.here hx rfl (hb hby d11_87) ?_
    show Steps p.tables e below (T26.setTop (mkF m 88 #[.val (.ref r0), .val (.int p1), .val (.int p2), .unset] [(.int (1 : Int32)), (.int (0 : Int32)), (.int sz), (.ref e2)])) _
    refine XS.isub X26.here hx rfl (hb hby d11_88) rfl ?_
    show Steps p.tables e below (T26.setTop (mkF m 89 #[.val (.ref r0), .val (.int p1), .val (.int p2), .unset] [(.int ((0 : Int32) - (1 : Int32))), (.int sz), (.ref e2)])) _
    refine st31 _ ?_
    show Steps p.tables e below (T31.setTop (mkF m 90 #[.val (.ref r0), .val (.int p1), .val (.int p2), .unset] [])) _
    refine XS.aloadN X31.here hx rfl (hb hby d11_90) rfl rfl ?_
    show Steps p.tables e below (T31.setTop (mkF m 91 #[.val (.ref r0), .val (.int p1), .val (.int p2), .unset] [(.ref r0)])) _
    refine st35 _ ?_
    show Steps p.tables e below (T35.setTop (mkF m 94 #[.val (.ref r0), .val (.int p1), .val (.int p2), .unset] [(.ref e3)])) _
    refine XS.aloadN X35.here hx rfl (hb hby d11_94) rfl rfl ?_
    show Steps p.tables e below (T35.setTop (mkF m 95 #[.val (.ref r0), .val (.int p1), .val (.int p2), .unset] [(.ref r0), (.ref e3)])) _
    refine st37 _ ?_
    show Steps p.tables e below (T37.setTop (mkF m 98 #[.val (.ref r0), .val (.int p1), .val (.int p2), .unset] [(.int sz), (.ref e3)])) _
    refine XS.iloadN X37.here hx rfl (hb hby d11_98) rfl ?_
    show Steps p.tables e below (T37.setTop (mkF m 99 #[.val (.ref r0), .val (.int p1), .val (.int p2), .unset] [(.int p2), (.int sz), (.ref e3)])) _
    refine st40 _ ?_
    show Steps p.tables e below (T40.setTop (mkF m 100 #[.val (.ref r0), .val (.int p1), .val (.int p2), .unset] [])) _
    refine XS.aloadN X40.here hx rfl (hb hby d11_100) rfl rfl ?_
    show Steps p.tables e below (T40.setTop (mkF m 101 #[.val (.ref r0), .val (.int p1), .val (.int p2), .unset] [(.ref r0)])) _
    refine XS.dup X40.here hx rfl (hb hby d11_101) rfl rfl ?_
    show Steps p.tables e below (T40.setTop (mkF m 102 #[.val (.ref r0), .val (.int p1), .val (.int p2), .unset] [(.ref r0), (.ref r0)])) _
    refine st44 _ ?_
    show Steps p.tables e below (T44.setTop (mkF m 105 #[.val (.ref r0), .val (.int p1), .val (.int p2), .unset] [(.int sz), (.ref r0)])) _
    refine XS.dupX1 X44.here hx rfl (hb hby d11_105) rfl rfl rfl ?_
    show Steps p.tables e below (T44.setTop (mkF m 106 #[.val (.ref r0), .val (.int p1), .val (.int p2), .unset] [(.int sz), (.ref r0), (.int sz)])) _
    refine XS.iconst X44.here hx rfl (hb hby d11_106) ?_
    show Steps p.tables e below (T44.setTop (mkF m 107 #[.val (.ref r0), .val (.int p1), .val (.int p2), .unset] [(.int (1 : Int32)), (.int sz), (.ref r0), (.int sz)])) _
    refine XS.iadd X44.here hx rfl (hb hby d11_107) rfl ?_
    show Steps p.tables e below (T44.setTop (mkF m 108 #[.val (.ref r0), .val (.int p1), .val (.int p2), .unset] [(.int (sz + (1 : Int32))), (.ref r0), (.int sz)])) _
    refine st46 _ ?_
    show Steps p.tables e below (T46.setTop (mkF m 111 #[.val (.ref r0), .val (.int p1), .val (.int p2), .unset] [(.int sz)])) _
    exact retOut X46 hx Bd.returns rfl (Or.inl ⟨rfl, Or.inl rfl, _, rfl⟩) (hb hby d11_111) hr
  · show Q11 Z r0 p1 p2 fb e1 e2 e3 i1 ac mo de sz g1 g2 g3 h0 n0 _ T46.heap _
    rw [e46]
    exact ⟨(fun i => if i = (sz).toNatClampNeg then p1 else g1 i), (fun i => if i = (sz).toNatClampNeg then ((0 : Int32) - (1 : Int32)) else g2 i), (fun i => if i = (sz).toNatClampNeg then p2 else g3 i), rfl, N46, K48, E49, F50, F51, F52, F53, F46, F54, F55, F56, F57, V58, V59, V60⟩
theorem d9_0 : decode prog_9_method_2_code 0 = .ok (.aload_n 0, 1) := by decide +kernel
theorem d9_1 : decode prog_9_method_2_code 1 = .ok (.aload_n 1, 1) := by decide +kernel
theorem d9_2 : decode prog_9_method_2_code 2 = .ok (.invokevirtual 23, 3) := by decide +kernel
theorem d9_5 : decode prog_9_method_2_code 5 = .ok (.iload_n 2, 1) := by decide +kernel
theorem d9_6 : decode prog_9_method_2_code 6 = .ok (.invokevirtual 29, 3) := by decide +kernel
theorem d9_9 : decode prog_9_method_2_code 9 = .ok (.istore_n 3, 1) := by decide +kernel
theorem d9_10 : decode prog_9_method_2_code 10 = .ok (.aload_n 0, 1) := by decide +kernel
theorem d9_11 : decode prog_9_method_2_code 11 = .ok (.getfield 7, 3) := by decide +kernel
theorem d9_14 : decode prog_9_method_2_code 14 = .ok (.iload_n 3, 1) := by decide +kernel
theorem d9_15 : decode prog_9_method_2_code 15 = .ok (.aload_n 1, 1) := by decide +kernel
theorem d9_16 : decode prog_9_method_2_code 16 = .ok (.invokevirtual 33, 3) := by decide +kernel
theorem d9_19 : decode prog_9_method_2_code 19 = .ok (.lastore, 1) := by decide +kernel
theorem d9_20 : decode prog_9_method_2_code 20 = .ok (.aload_n 0, 1) := by decide +kernel
theorem d9_21 : decode prog_9_method_2_code 21 = .ok (.getfield 13, 3) := by decide +kernel
theorem d9_24 : decode prog_9_method_2_code 24 = .ok (.iload_n 3, 1) := by decide +kernel
theorem d9_25 : decode prog_9_method_2_code 25 = .ok (.aload_n 1, 1) := by decide +kernel
theorem d9_26 : decode prog_9_method_2_code 26 = .ok (.invokevirtual 37, 3) := by decide +kernel
theorem d9_29 : decode prog_9_method_2_code 29 = .ok (.bastore, 1) := by decide +kernel
theorem d9_30 : decode prog_9_method_2_code 30 = .ok (.aload_n 0, 1) := by decide +kernel
theorem d9_31 : decode prog_9_method_2_code 31 = .ok (.getfield 17, 3) := by decide +kernel
theorem d9_34 : decode prog_9_method_2_code 34 = .ok (.iload_n 3, 1) := by decide +kernel
theorem d9_35 : decode prog_9_method_2_code 35 = .ok (.aload_n 1, 1) := by decide +kernel
theorem d9_36 : decode prog_9_method_2_code 36 = .ok (.invokevirtual 41, 3) := by decide +kernel
theorem d9_39 : decode prog_9_method_2_code 39 = .ok (.lastore, 1) := by decide +kernel
theorem d9_40 : decode prog_9_method_2_code 40 = .ok (.aload_n 0, 1) := by decide +kernel
theorem d9_41 : decode prog_9_method_2_code 41 = .ok (.getfield 20, 3) := by decide +kernel
theorem d9_44 : decode prog_9_method_2_code 44 = .ok (.iload_n 3, 1) := by decide +kernel
theorem d9_45 : decode prog_9_method_2_code 45 = .ok (.aload_n 1, 1) := by decide +kernel
theorem d9_46 : decode prog_9_method_2_code 46 = .ok (.invokevirtual 44, 3) := by decide +kernel
theorem d9_49 : decode prog_9_method_2_code 49 = .ok (.lastore, 1) := by decide +kernel
theorem d9_50 : decode prog_9_method_2_code 50 = .ok (.return_, 1) := by decide +kernel
theorem pn_9 : plainName "com/example/conceptary/conceptary/ConceptTable$Builder" = true := by first | (simp [plainName, overriddenIn]; done) | decide +kernel
theorem ef_9 (m : MethodId) (r0 : Addr) (r1 : Addr) (p2 : Int32) : entryFrame m #[(.ref r0), (.ref r1), (.int p2)] 4 = mkF m 0 #[.val (.ref r0), .val (.ref r1), .val (.int p2), .unset] [] := by first | (simp [entryFrame, mkF, argsToLocals, Value.category]; done) | rfl
theorem pd_2 : parseMethodDescriptor "(II)I" = some ⟨[.int, .int], some .int⟩ := by decide +kernel
theorem pd_3 : parseMethodDescriptor "()J" = some ⟨[], some .long⟩ := by decide +kernel
theorem pd_4 : parseMethodDescriptor "()Z" = some ⟨[], some .boolean⟩ := by decide +kernel
def Q9 (Z : State) (r0 : Addr) (r1 : Addr) (p2 : Int32) (fb : Addr) (e1 : Addr) (e2 : Addr) (e3 : Addr) (i1 : Addr) (ac : Addr) (mo : Addr) (de : Addr) (sz : Int32) (ci : Int64) (ct : Int32) (ca : Int32) (cm : Int64) (cd : Int64) (g1 : Nat → Int32) (g2 : Nat → Int32) (g3 : Nat → Int32) (g4 : Nat → Int64) (g5 : Nat → Int32) (g6 : Nat → Int64) (g7 : Nat → Int64) (h0 : Heap) (n0 : Nat) (v : Option Value) (h : Heap) (L : List Loc) : Prop := ∃ k1 : Nat → Int32, ∃ k2 : Nat → Int32, ∃ k3 : Nat → Int32, ∃ k4 : Nat → Int64, v = none ∧ Fr n0 L ∧ Keep h0 h [r0, e1, e2, e3, i1, ac, mo, de] ∧ Exa Z h r0 "com/example/conceptary/conceptary/ConceptTable$Builder" ∧ Fld Z h r0 "com/example/conceptary/conceptary/SnapshotRows" "files" "Ljava/util/List;" (.ref fb) ∧ Fld Z h r0 "com/example/conceptary/conceptary/SnapshotRows" "effectiveTimes" "[I" (.ref e1) ∧ Fld Z h r0 "com/example/conceptary/conceptary/SnapshotRows" "fileIndexes" "[I" (.ref e2) ∧ Fld Z h r0 "com/example/conceptary/conceptary/SnapshotRows" "lines" "[I" (.ref e3) ∧ Fld Z h r0 "com/example/conceptary/conceptary/SnapshotRows" "size" "I" (.int (sz + (1 : Int32))) ∧ Fld Z h r0 "com/example/conceptary/conceptary/ConceptTable$Builder" "ids" "[J" (.ref i1) ∧ Fld Z h r0 "com/example/conceptary/conceptary/ConceptTable$Builder" "actives" "[Z" (.ref ac) ∧ Fld Z h r0 "com/example/conceptary/conceptary/ConceptTable$Builder" "moduleIds" "[J" (.ref mo) ∧ Fld Z h r0 "com/example/conceptary/conceptary/ConceptTable$Builder" "definitionStatusIds" "[J" (.ref de) ∧ AI Z h e1 .int (1024 : Int32) k1 ∧ AI Z h e2 .int (1024 : Int32) k2 ∧ AI Z h e3 .int (1024 : Int32) k3 ∧ AL Z h i1 (1024 : Int32) k4 ∧ AI Z h ac .boolean (1024 : Int32) (fun i => if i = (sz).toNatClampNeg then (nar .boolean ca) else g5 i) ∧ AL Z h mo (1024 : Int32) (fun i => if i = (sz).toNatClampNeg then cm else g6 i) ∧ AL Z h de (1024 : Int32) (fun i => if i = (sz).toNatClampNeg then cd else g7 i)
set_option maxRecDepth 65536 in
set_option maxHeartbeats 40000000 in
theorem rm9 (l : Launch) (Z : State) (a0 : Array Value) (hw : ∀ d ∈ tables_1, d.before a0 Z = true) (ws : List Jvm.Cond) (r0 : Addr) (r1 : Addr) (p2 : Int32) (fb : Addr) (e1 : Addr) (e2 : Addr) (e3 : Addr) (i1 : Addr) (ac : Addr) (mo : Addr) (de : Addr) (sz : Int32) (ci : Int64) (ct : Int32) (ca : Int32) (cm : Int64) (cd : Int64) (g1 : Nat → Int32) (g2 : Nat → Int32) (g3 : Nat → Int32) (g4 : Nat → Int64) (g5 : Nat → Int32) (g6 : Nat → Int64) (g7 : Nat → Int64) (h0 : Heap) (n0 : Nat) (Z0 : n0 ≤ h0.size) (hp0 : Exa Z h0 r0 "com/example/conceptary/conceptary/ConceptTable$Builder") (hp1 : Exa Z h0 r1 "com/example/conceptary/conceptary/Concept") (hp2 : Fld Z h0 r1 "com/example/conceptary/conceptary/Concept" "id" "J" (.long ci)) (hp3 : Fld Z h0 r1 "com/example/conceptary/conceptary/Concept" "effectiveTime" "I" (.int ct)) (hp4 : Fld Z h0 r1 "com/example/conceptary/conceptary/Concept" "active" "Z" (.int ca)) (hp5 : Fld Z h0 r1 "com/example/conceptary/conceptary/Concept" "moduleId" "J" (.long cm)) (hp6 : Fld Z h0 r1 "com/example/conceptary/conceptary/Concept" "definitionStatusId" "J" (.long cd)) (hp7 : Fld Z h0 r0 "com/example/conceptary/conceptary/SnapshotRows" "files" "Ljava/util/List;" (.ref fb)) (hp8 : Fld Z h0 r0 "com/example/conceptary/conceptary/SnapshotRows" "effectiveTimes" "[I" (.ref e1)) (hp9 : Fld Z h0 r0 "com/example/conceptary/conceptary/SnapshotRows" "fileIndexes" "[I" (.ref e2)) (hp10 : Fld Z h0 r0 "com/example/conceptary/conceptary/SnapshotRows" "lines" "[I" (.ref e3)) (hp11 : Fld Z h0 r0 "com/example/conceptary/conceptary/SnapshotRows" "size" "I" (.int sz)) (hp12 : Fld Z h0 r0 "com/example/conceptary/conceptary/ConceptTable$Builder" "ids" "[J" (.ref i1)) (hp13 : Fld Z h0 r0 "com/example/conceptary/conceptary/ConceptTable$Builder" "actives" "[Z" (.ref ac)) (hp14 : Fld Z h0 r0 "com/example/conceptary/conceptary/ConceptTable$Builder" "moduleIds" "[J" (.ref mo)) (hp15 : Fld Z h0 r0 "com/example/conceptary/conceptary/ConceptTable$Builder" "definitionStatusIds" "[J" (.ref de)) (hp16 : Exa Z h0 fb "java/util/ArrayList") (hp17 : Fld Z h0 fb "java/util/ArrayList" "size" "I" (.int (0 : Int32))) (hp18 : AI Z h0 e1 .int (1024 : Int32) g1) (hp19 : AI Z h0 e2 .int (1024 : Int32) g2) (hp20 : AI Z h0 e3 .int (1024 : Int32) g3) (hp21 : AL Z h0 i1 (1024 : Int32) g4) (hp22 : AI Z h0 ac .boolean (1024 : Int32) g5) (hp23 : AL Z h0 mo (1024 : Int32) g6) (hp24 : AL Z h0 de (1024 : Int32) g7) (hp25 : n0 ≤ r0) (hp26 : n0 ≤ e1) (hp27 : n0 ≤ e2) (hp28 : n0 ≤ e3) (hp29 : n0 ≤ i1) (hp30 : n0 ≤ ac) (hp31 : n0 ≤ mo) (hp32 : n0 ≤ de) (hp33 : r0 ≠ fb) (hp34 : r0 ≠ e1) (hp35 : r0 ≠ e2) (hp36 : r0 ≠ e3) (hp37 : r0 ≠ i1) (hp38 : r0 ≠ ac) (hp39 : r0 ≠ mo) (hp40 : r0 ≠ de) (hp41 : fb ≠ e1) (hp42 : fb ≠ e2) (hp43 : fb ≠ e3) (hp44 : fb ≠ i1) (hp45 : fb ≠ ac) (hp46 : fb ≠ mo) (hp47 : fb ≠ de) (hp48 : e1 ≠ e2) (hp49 : e1 ≠ e3) (hp50 : e1 ≠ i1) (hp51 : e1 ≠ ac) (hp52 : e1 ≠ mo) (hp53 : e1 ≠ de) (hp54 : e2 ≠ e3) (hp55 : e2 ≠ i1) (hp56 : e2 ≠ ac) (hp57 : e2 ≠ mo) (hp58 : e2 ≠ de) (hp59 : e3 ≠ i1) (hp60 : e3 ≠ ac) (hp61 : e3 ≠ mo) (hp62 : e3 ≠ de) (hp63 : i1 ≠ ac) (hp64 : i1 ≠ mo) (hp65 : i1 ≠ de) (hp66 : ac ≠ mo) (hp67 : ac ≠ de) (hp68 : mo ≠ de) (hp69 : r1 ≠ r0) (hp70 : r1 ≠ e1) (hp71 : r1 ≠ e2) (hp72 : r1 ≠ e3) (hp73 : r1 ≠ i1) (hp74 : r1 ≠ ac) (hp75 : r1 ≠ mo) (hp76 : r1 ≠ de) (hsz : ¬ sz < (0 : Int32) ∧ sz < (1024 : Int32)) (hb1 : ca = (0 : Int32) ∨ ca = (1 : Int32)) :
    MetFree l (⟨"com/example/conceptary/conceptary/ConceptTable$Builder", "add", "(Lcom/example/conceptary/conceptary/Concept;I)V"⟩ : MethodName) (head1 (Jvm.Cond.code (⟨"com/example/conceptary/conceptary/ConceptTable$Builder", "add", "(Lcom/example/conceptary/conceptary/Concept;I)V"⟩ : MethodName) prog_9_method_2_code 4 none :: ws) ({ frames := 2, cells := 0, slots := 0, locals := 29 } : Room)) (fun a U => a = #[(.ref r0), (.ref r1), (.int p2)] ∧ Z.Warmed39 U.vm ∧ U.heap = h0) (fun _ _ _ _ _ => True) (fun _ U o U' => ∃ v L, o = .returned v ∧ Q9 Z r0 r1 p2 fb e1 e2 e3 i1 ac mo de sz ci ct ca cm cd g1 g2 g3 g4 g5 g6 g7 h0 n0 v U'.heap L ∧ FrameEnd U o U' L ({ frames := 2, cells := 0, slots := 0, locals := 29 } : Room).cells ({ frames := 2, cells := 0, slots := 0, locals := 29 } : Room).slots) := by
  refine MetFree.of_bodySF (plainFor_of_name pn_9) hisR ?_
  intro p e s m args below meth c s₁ Bd hml0 hP hK
  obtain ⟨rfl, hZ, hh⟩ := hP
  have hx := Bd.exec
  have hby := Bd.bytes
  have hml : c.maxLocals = 4 := hml0
  have hown : s.vm.findClass "com/example/conceptary/conceptary/ConceptTable$Builder" = some m.cls := findClass_of_methodNamed Bd.named
  have hnm := (name_of_methodNamed Bd.named Bd.method).1
  have X0 : Stand p l e ({ frames := 2, cells := 0, slots := 0, locals := 29 } : Room) s m #[(.ref r0), (.ref r1), (.int p2)] below meth c s₁ [] 0 0 := Stand.of_body Bd
  have e0 : s₁.heap = h0 := by rw [← hh, Bd.state]; rfl
  have N0 := Fr.nil n0
  have pre0 : ∀ t, Steps p.tables e below (s₁.setTop (mkF m 0 #[.val (.ref r0), .val (.ref r1), .val (.int p2), .unset] [])) t → Steps p.tables e below (s₁.setTop (entryFrame m #[(.ref r0), (.ref r1), (.int p2)] 4)) t := fun t k => castTop (ef_9 m r0 r1 p2) k
  obtain ⟨cq11, kq11, q11a, q11b, q11c⟩ := isOf hZ e0 hp1
  obtain ⟨_, _, ⟨T11, L11, k11, n11⟩, -, X11, ⟨Lc11, hQ11, l11, y11, z11⟩, st11⟩ := X0.virtualBack hx (y := (⟨"com/example/conceptary/conceptary/Concept", "effectiveTime", "()I"⟩ : MethodName)) (z := (⟨"com/example/conceptary/conceptary/Concept", "effectiveTime", "()I"⟩ : MethodName)) hown (mvT hZ (hw _ (List.mem_of_getElem? (i := 85) rfl))) (mvT hZ (hw _ (List.mem_of_getElem? (i := 86) rfl))) (notFace_of_selects (args := #[]) (mvT hZ (hw _ (List.mem_of_getElem? (i := 88) rfl)))) (mvT hZ (hw _ (List.mem_of_getElem? (i := 88) rfl))) (mvT hZ (hw _ (List.mem_of_getElem? (i := 87) rfl))) (by decide) (backOf (W := 1) (rm10 l Z a0 hw [] r1 ct h0 n0 Z0 hp3) hZ (hw _ (List.mem_of_getElem? (i := 89) rfl)) (hw _ (List.mem_of_getElem? (i := 60) rfl)) (by decide) (by decide)) q11a q11c (g := (mkF m 2 #[.val (.ref r0), .val (.ref r1), .val (.int p2), .unset] [(.ref r1), (.ref r0)])) rfl (by rw [hml]; rfl) (Steps.refl _) (argsL := []) (rest := [(.ref r0)]) (lenOf pd_1 rfl) rfl (by show 2 * 0 + _ ≤ _; exact Nat.le_of_eq rfl) (hb hby d9_2) (fun _ _ => ⟨rfl, e0, (by decide : 0 + 0 ≤ _), (by decide : 0 + 0 ≤ _)⟩)
  dsimp only [Pt.U, Pt.locs, Pt.cells, Pt.slots] at X11 l11 y11 z11 st11 hQ11
  subst l11 y11 z11
  obtain ⟨rfl, Nq11, u11_0⟩ := hQ11
  have N11 := Fr.app N0 Nq11
  obtain ⟨cq12, kq12, q12a, q12b, q12c⟩ := isOf hZ u11_0 hp0
  obtain ⟨_, _, ⟨T12, L12, k12, n12⟩, -, X12, ⟨Lc12, hQ12, l12, y12, z12⟩, st12⟩ := X11.virtualBackUp hx (x := (⟨"com/example/conceptary/conceptary/ConceptTable$Builder", "addRow", "(II)I"⟩ : MethodName)) (y := (⟨"com/example/conceptary/conceptary/SnapshotRows", "addRow", "(II)I"⟩ : MethodName)) (owner := "com/example/conceptary/conceptary/SnapshotRows") hown (mvT hZ (hw _ (List.mem_of_getElem? (i := 90) rfl))) (mvT hZ (hw _ (List.mem_of_getElem? (i := 91) rfl))) (mvT hZ (hw _ (List.mem_of_getElem? (i := 92) rfl))) (by decide) (mvT hZ (hw _ (List.mem_of_getElem? (i := 94) rfl))) (mvT hZ (hw _ (List.mem_of_getElem? (i := 93) rfl))) (backOf (W := 0) (rm11 l Z a0 hw [] r0 ct p2 fb e1 e2 e3 i1 ac mo de sz g1 g2 g3 h0 n0 Z0 hp0 hp7 hp8 hp9 hp10 hp11 hp12 hp13 hp14 hp15 hp16 hp17 hp18 hp19 hp20 hp25 hp26 hp27 hp28 hp33 hp34 hp35 hp36 hp41 hp42 hp43 hp48 hp49 hp54 hsz) hZ (hw _ (List.mem_of_getElem? (i := 95) rfl)) (hw _ (List.mem_of_getElem? (i := 10) rfl)) (by decide) (by decide)) q12a q12c (g := (mkF m 6 #[.val (.ref r0), .val (.ref r1), .val (.int p2), .unset] [(.int p2), (.int ct), (.ref r0)])) rfl (by rw [hml]; rfl) (Steps.refl _) (argsL := [(.int ct), (.int p2)]) (rest := []) (lenOf pd_2 rfl) rfl (by show 2 * 0 + _ ≤ _; exact Nat.le_of_eq rfl) (hb hby d9_6) (fun _ _ => ⟨rfl, u11_0, (by decide : 0 + 0 ≤ _), (by decide : 0 + 0 ≤ _)⟩)
  dsimp only [Pt.U, Pt.locs, Pt.cells, Pt.slots] at X12 l12 y12 z12 st12 hQ12
  subst l12 y12 z12
  obtain ⟨k1_12, k2_12, k3_12, rfl, Nq12, u12_0, u12_1, u12_2, u12_3, u12_4, u12_5, u12_6, u12_7, u12_8, u12_9, u12_10, u12_11, u12_12, u12_13⟩ := hQ12
  have N12 := Fr.app N11 Nq12
  have Z13 : n0 ≤ T12.heap.size := Nat.le_trans Z0 u12_0.1
  have K14 : Keep h0 T12.heap [r0, e1, e2, e3, i1, ac, mo, de] := (Keep.refl h0 [r0, e1, e2, e3, i1, ac, mo, de]).trans u12_0 (allS (Or.inl (List.mem_of_getElem? (i := 0) rfl)) (allS (Or.inl (List.mem_of_getElem? (i := 1) rfl)) (allS (Or.inl (List.mem_of_getElem? (i := 2) rfl)) (allS (Or.inl (List.mem_of_getElem? (i := 3) rfl)) all0))))
  obtain ⟨T15, X15, e15, st15⟩ := getF X12 hx hZ hown (host := "") (Or.inl (hw _ (List.mem_of_getElem? (i := 49) rfl))) Via.refl rfl u12_7 (g := (mkF m 11 #[.val (.ref r0), .val (.ref r1), .val (.int p2), .val (.int sz)] [(.ref r0)])) rfl rfl (hb hby d9_11)
  have F17 : Fld Z T12.heap r1 "com/example/conceptary/conceptary/Concept" "id" "J" (.long ci) := (hp2.keep u12_0 (ninS hp69 (ninS hp70 (ninS hp71 (ninS hp72 nin0)))))
  have E18 : Exa Z T12.heap r1 "com/example/conceptary/conceptary/Concept" := (hp1.keep u12_0)
  obtain ⟨cq16, kq16, q16a, q16b, q16c⟩ := isOf hZ e15 E18
  obtain ⟨_, _, ⟨T16, L16, k16, n16⟩, -, X16, ⟨Lc16, hQ16, l16, y16, z16⟩, st16⟩ := X15.virtualBack hx (y := (⟨"com/example/conceptary/conceptary/Concept", "id", "()J"⟩ : MethodName)) (z := (⟨"com/example/conceptary/conceptary/Concept", "id", "()J"⟩ : MethodName)) hown (mvT hZ (hw _ (List.mem_of_getElem? (i := 109) rfl))) (mvT hZ (hw _ (List.mem_of_getElem? (i := 110) rfl))) (notFace_of_selects (args := #[]) (mvT hZ (hw _ (List.mem_of_getElem? (i := 112) rfl)))) (mvT hZ (hw _ (List.mem_of_getElem? (i := 112) rfl))) (mvT hZ (hw _ (List.mem_of_getElem? (i := 111) rfl))) (by decide) (backOf (W := 2) (rm13 l Z a0 hw [] r1 ci T12.heap n0 Z13 F17) hZ (hw _ (List.mem_of_getElem? (i := 113) rfl)) (hw _ (List.mem_of_getElem? (i := 60) rfl)) (by decide) (by decide)) q16a q16c (g := (mkF m 16 #[.val (.ref r0), .val (.ref r1), .val (.int p2), .val (.int sz)] [(.ref r1), (.int sz), (.ref i1)])) rfl (by rw [hml]; rfl) (Steps.refl _) (argsL := []) (rest := [(.int sz), (.ref i1)]) (lenOf pd_3 rfl) rfl (by show 2 * 0 + _ ≤ _; exact Nat.le_of_eq rfl) (hb hby d9_16) (fun _ _ => ⟨rfl, e15, (by decide : 0 + 0 ≤ _), (by decide : 0 + 0 ≤ _)⟩)
  dsimp only [Pt.U, Pt.locs, Pt.cells, Pt.slots] at X16 l16 y16 z16 st16 hQ16
  subst l16 y16 z16
  obtain ⟨rfl, Nq16, u16_0⟩ := hQ16
  have N16 := Fr.app N12 Nq16
  have V19 : AL Z T12.heap i1 (1024 : Int32) g4 := (hp21.keep u12_0 (ninS (Ne.symm hp37) (ninS (Ne.symm hp50) (ninS (Ne.symm hp55) (ninS (Ne.symm hp59) nin0)))))
  obtain ⟨cl20, Ar20, S20, M20, I20⟩ := id V19
  have hin20 : ¬ (sz < 0 ∨ cl20.slots.size ≤ (sz).toNatClampNeg) := inb_of S20 hsz
  obtain ⟨T21, h21, X21, e21, W21, st21⟩ := stJ X16 hx hZ u16_0 Ar20 (j := sz) hin20 (g := (mkF m 19 #[.val (.ref r0), .val (.ref r1), .val (.int p2), .val (.int sz)] [(.long ci), (.int sz), (.ref i1)])) rfl rfl (hb hby d9_19)
  have V21 : AL Z h21 i1 (1024 : Int32) (fun i => if i = (sz).toNatClampNeg then ci else g4 i) := AL.set V19 W21
  have Z22 : n0 ≤ h21.size := Nat.le_trans Z13 (Keep.of_wr W21).1
  have K23 : Keep h0 h21 [r0, e1, e2, e3, i1, ac, mo, de] := K14.wr W21 (Or.inl (List.mem_of_getElem? (i := 4) rfl))
  have N21 := Fr.snoc X21 N16 hp29
  have F24 : Fld Z h21 r0 "com/example/conceptary/conceptary/ConceptTable$Builder" "actives" "[Z" (.ref ac) := (u12_8.other W21 (Or.inl hp37))
  obtain ⟨T25, X25, e25, st25⟩ := getF X21 hx hZ hown (host := "") (Or.inl (hw _ (List.mem_of_getElem? (i := 52) rfl))) Via.refl e21 F24 (g := (mkF m 21 #[.val (.ref r0), .val (.ref r1), .val (.int p2), .val (.int sz)] [(.ref r0)])) rfl rfl (hb hby d9_21)
  have F27 : Fld Z h21 r1 "com/example/conceptary/conceptary/Concept" "active" "Z" (.int ca) := ((hp4.keep u12_0 (ninS hp69 (ninS hp70 (ninS hp71 (ninS hp72 nin0))))).other W21 (Or.inl hp73))
  have E28 : Exa Z h21 r1 "com/example/conceptary/conceptary/Concept" := (E18.wr W21)
  obtain ⟨cq26, kq26, q26a, q26b, q26c⟩ := isOf hZ e25 E28
  obtain ⟨_, _, ⟨T26, L26, k26, n26⟩, -, X26, ⟨Lc26, hQ26, l26, y26, z26⟩, st26⟩ := X25.virtualBack hx (y := (⟨"com/example/conceptary/conceptary/Concept", "active", "()Z"⟩ : MethodName)) (z := (⟨"com/example/conceptary/conceptary/Concept", "active", "()Z"⟩ : MethodName)) hown (mvT hZ (hw _ (List.mem_of_getElem? (i := 114) rfl))) (mvT hZ (hw _ (List.mem_of_getElem? (i := 115) rfl))) (notFace_of_selects (args := #[]) (mvT hZ (hw _ (List.mem_of_getElem? (i := 117) rfl)))) (mvT hZ (hw _ (List.mem_of_getElem? (i := 117) rfl))) (mvT hZ (hw _ (List.mem_of_getElem? (i := 116) rfl))) (by decide) (backOf (W := 2) (rm14 l Z a0 hw [] r1 ca h21 n0 Z22 F27 hb1) hZ (hw _ (List.mem_of_getElem? (i := 118) rfl)) (hw _ (List.mem_of_getElem? (i := 60) rfl)) (by decide) (by decide)) q26a q26c (g := (mkF m 26 #[.val (.ref r0), .val (.ref r1), .val (.int p2), .val (.int sz)] [(.ref r1), (.int sz), (.ref ac)])) rfl (by rw [hml]; rfl) (Steps.refl _) (argsL := []) (rest := [(.int sz), (.ref ac)]) (lenOf pd_4 rfl) rfl (by show 2 * 0 + _ ≤ _; exact Nat.le_of_eq rfl) (hb hby d9_26) (fun _ _ => ⟨rfl, e25, (by decide : 0 + 0 ≤ _), (by decide : 0 + 0 ≤ _)⟩)
  dsimp only [Pt.U, Pt.locs, Pt.cells, Pt.slots] at X26 l26 y26 z26 st26 hQ26
  subst l26 y26 z26
  obtain ⟨rfl, Nq26, u26_0⟩ := hQ26
  have N26 := Fr.app N21 Nq26
  have V29 : AI Z h21 ac .boolean (1024 : Int32) g5 := ((hp22.keep u12_0 (ninS (Ne.symm hp38) (ninS (Ne.symm hp51) (ninS (Ne.symm hp56) (ninS (Ne.symm hp60) nin0))))).other W21 (Ne.symm hp63))
  obtain ⟨cl30, Ar30, S30, M30, I30⟩ := id V29
  have hin30 : ¬ (sz < 0 ∨ cl30.slots.size ≤ (sz).toNatClampNeg) := inb_of S30 hsz
  obtain ⟨T31, h31, X31, e31, W31, st31⟩ := stZ X26 hx hZ u26_0 Ar30 (j := sz) hin30 (g := (mkF m 29 #[.val (.ref r0), .val (.ref r1), .val (.int p2), .val (.int sz)] [(.int ca), (.int sz), (.ref ac)])) rfl rfl (hb hby d9_29)
  have V31 : AI Z h31 ac .boolean (1024 : Int32) (fun i => if i = (sz).toNatClampNeg then (nar .boolean ca) else g5 i) := AI.set V29 W31
  have Z32 : n0 ≤ h31.size := Nat.le_trans Z22 (Keep.of_wr W31).1
  have K33 : Keep h0 h31 [r0, e1, e2, e3, i1, ac, mo, de] := K23.wr W31 (Or.inl (List.mem_of_getElem? (i := 5) rfl))
  have N31 := Fr.snoc X31 N26 hp30
  have F34 : Fld Z h31 r0 "com/example/conceptary/conceptary/ConceptTable$Builder" "moduleIds" "[J" (.ref mo) := ((u12_9.other W21 (Or.inl hp37)).other W31 (Or.inl hp38))
  obtain ⟨T35, X35, e35, st35⟩ := getF X31 hx hZ hown (host := "") (Or.inl (hw _ (List.mem_of_getElem? (i := 54) rfl))) Via.refl e31 F34 (g := (mkF m 31 #[.val (.ref r0), .val (.ref r1), .val (.int p2), .val (.int sz)] [(.ref r0)])) rfl rfl (hb hby d9_31)
  have F37 : Fld Z h31 r1 "com/example/conceptary/conceptary/Concept" "moduleId" "J" (.long cm) := (((hp5.keep u12_0 (ninS hp69 (ninS hp70 (ninS hp71 (ninS hp72 nin0))))).other W21 (Or.inl hp73)).other W31 (Or.inl hp74))
  have E38 : Exa Z h31 r1 "com/example/conceptary/conceptary/Concept" := (E28.wr W31)
  obtain ⟨cq36, kq36, q36a, q36b, q36c⟩ := isOf hZ e35 E38
  obtain ⟨_, _, ⟨T36, L36, k36, n36⟩, -, X36, ⟨Lc36, hQ36, l36, y36, z36⟩, st36⟩ := X35.virtualBack hx (y := (⟨"com/example/conceptary/conceptary/Concept", "moduleId", "()J"⟩ : MethodName)) (z := (⟨"com/example/conceptary/conceptary/Concept", "moduleId", "()J"⟩ : MethodName)) hown (mvT hZ (hw _ (List.mem_of_getElem? (i := 119) rfl))) (mvT hZ (hw _ (List.mem_of_getElem? (i := 120) rfl))) (notFace_of_selects (args := #[]) (mvT hZ (hw _ (List.mem_of_getElem? (i := 122) rfl)))) (mvT hZ (hw _ (List.mem_of_getElem? (i := 122) rfl))) (mvT hZ (hw _ (List.mem_of_getElem? (i := 121) rfl))) (by decide) (backOf (W := 2) (rm15 l Z a0 hw [] r1 cm h31 n0 Z32 F37) hZ (hw _ (List.mem_of_getElem? (i := 123) rfl)) (hw _ (List.mem_of_getElem? (i := 60) rfl)) (by decide) (by decide)) q36a q36c (g := (mkF m 36 #[.val (.ref r0), .val (.ref r1), .val (.int p2), .val (.int sz)] [(.ref r1), (.int sz), (.ref mo)])) rfl (by rw [hml]; rfl) (Steps.refl _) (argsL := []) (rest := [(.int sz), (.ref mo)]) (lenOf pd_3 rfl) rfl (by show 2 * 0 + _ ≤ _; exact Nat.le_of_eq rfl) (hb hby d9_36) (fun _ _ => ⟨rfl, e35, (by decide : 0 + 0 ≤ _), (by decide : 0 + 0 ≤ _)⟩)
  dsimp only [Pt.U, Pt.locs, Pt.cells, Pt.slots] at X36 l36 y36 z36 st36 hQ36
  subst l36 y36 z36
  obtain ⟨rfl, Nq36, u36_0⟩ := hQ36
  have N36 := Fr.app N31 Nq36
  have V39 : AL Z h31 mo (1024 : Int32) g6 := (((hp23.keep u12_0 (ninS (Ne.symm hp39) (ninS (Ne.symm hp52) (ninS (Ne.symm hp57) (ninS (Ne.symm hp61) nin0))))).other W21 (Ne.symm hp64)).other W31 (Ne.symm hp66))
  obtain ⟨cl40, Ar40, S40, M40, I40⟩ := id V39
  have hin40 : ¬ (sz < 0 ∨ cl40.slots.size ≤ (sz).toNatClampNeg) := inb_of S40 hsz
  obtain ⟨T41, h41, X41, e41, W41, st41⟩ := stJ X36 hx hZ u36_0 Ar40 (j := sz) hin40 (g := (mkF m 39 #[.val (.ref r0), .val (.ref r1), .val (.int p2), .val (.int sz)] [(.long cm), (.int sz), (.ref mo)])) rfl rfl (hb hby d9_39)
  have V41 : AL Z h41 mo (1024 : Int32) (fun i => if i = (sz).toNatClampNeg then cm else g6 i) := AL.set V39 W41
  have Z42 : n0 ≤ h41.size := Nat.le_trans Z32 (Keep.of_wr W41).1
  have K43 : Keep h0 h41 [r0, e1, e2, e3, i1, ac, mo, de] := K33.wr W41 (Or.inl (List.mem_of_getElem? (i := 6) rfl))
  have N41 := Fr.snoc X41 N36 hp31
  have F44 : Fld Z h41 r0 "com/example/conceptary/conceptary/ConceptTable$Builder" "definitionStatusIds" "[J" (.ref de) := (((u12_10.other W21 (Or.inl hp37)).other W31 (Or.inl hp38)).other W41 (Or.inl hp39))
  obtain ⟨T45, X45, e45, st45⟩ := getF X41 hx hZ hown (host := "") (Or.inl (hw _ (List.mem_of_getElem? (i := 56) rfl))) Via.refl e41 F44 (g := (mkF m 41 #[.val (.ref r0), .val (.ref r1), .val (.int p2), .val (.int sz)] [(.ref r0)])) rfl rfl (hb hby d9_41)
  have F47 : Fld Z h41 r1 "com/example/conceptary/conceptary/Concept" "definitionStatusId" "J" (.long cd) := ((((hp6.keep u12_0 (ninS hp69 (ninS hp70 (ninS hp71 (ninS hp72 nin0))))).other W21 (Or.inl hp73)).other W31 (Or.inl hp74)).other W41 (Or.inl hp75))
  have E48 : Exa Z h41 r1 "com/example/conceptary/conceptary/Concept" := (E38.wr W41)
  obtain ⟨cq46, kq46, q46a, q46b, q46c⟩ := isOf hZ e45 E48
  obtain ⟨_, _, ⟨T46, L46, k46, n46⟩, -, X46, ⟨Lc46, hQ46, l46, y46, z46⟩, st46⟩ := X45.virtualBack hx (y := (⟨"com/example/conceptary/conceptary/Concept", "definitionStatusId", "()J"⟩ : MethodName)) (z := (⟨"com/example/conceptary/conceptary/Concept", "definitionStatusId", "()J"⟩ : MethodName)) hown (mvT hZ (hw _ (List.mem_of_getElem? (i := 124) rfl))) (mvT hZ (hw _ (List.mem_of_getElem? (i := 125) rfl))) (notFace_of_selects (args := #[]) (mvT hZ (hw _ (List.mem_of_getElem? (i := 127) rfl)))) (mvT hZ (hw _ (List.mem_of_getElem? (i := 127) rfl))) (mvT hZ (hw _ (List.mem_of_getElem? (i := 126) rfl))) (by decide) (backOf (W := 2) (rm16 l Z a0 hw [] r1 cd h41 n0 Z42 F47) hZ (hw _ (List.mem_of_getElem? (i := 128) rfl)) (hw _ (List.mem_of_getElem? (i := 60) rfl)) (by decide) (by decide)) q46a q46c (g := (mkF m 46 #[.val (.ref r0), .val (.ref r1), .val (.int p2), .val (.int sz)] [(.ref r1), (.int sz), (.ref de)])) rfl (by rw [hml]; rfl) (Steps.refl _) (argsL := []) (rest := [(.int sz), (.ref de)]) (lenOf pd_3 rfl) rfl (by show 2 * 0 + _ ≤ _; exact Nat.le_of_eq rfl) (hb hby d9_46) (fun _ _ => ⟨rfl, e45, (by decide : 0 + 0 ≤ _), (by decide : 0 + 0 ≤ _)⟩)
  dsimp only [Pt.U, Pt.locs, Pt.cells, Pt.slots] at X46 l46 y46 z46 st46 hQ46
  subst l46 y46 z46
  obtain ⟨rfl, Nq46, u46_0⟩ := hQ46
  have N46 := Fr.app N41 Nq46
  have V49 : AL Z h41 de (1024 : Int32) g7 := ((((hp24.keep u12_0 (ninS (Ne.symm hp40) (ninS (Ne.symm hp53) (ninS (Ne.symm hp58) (ninS (Ne.symm hp62) nin0))))).other W21 (Ne.symm hp65)).other W31 (Ne.symm hp67)).other W41 (Ne.symm hp68))
  obtain ⟨cl50, Ar50, S50, M50, I50⟩ := id V49
  have hin50 : ¬ (sz < 0 ∨ cl50.slots.size ≤ (sz).toNatClampNeg) := inb_of S50 hsz
  obtain ⟨T51, h51, X51, e51, W51, st51⟩ := stJ X46 hx hZ u46_0 Ar50 (j := sz) hin50 (g := (mkF m 49 #[.val (.ref r0), .val (.ref r1), .val (.int p2), .val (.int sz)] [(.long cd), (.int sz), (.ref de)])) rfl rfl (hb hby d9_49)
  have V51 : AL Z h51 de (1024 : Int32) (fun i => if i = (sz).toNatClampNeg then cd else g7 i) := AL.set V49 W51
  have Z52 : n0 ≤ h51.size := Nat.le_trans Z42 (Keep.of_wr W51).1
  have K53 : Keep h0 h51 [r0, e1, e2, e3, i1, ac, mo, de] := K43.wr W51 (Or.inl (List.mem_of_getElem? (i := 7) rfl))
  have N51 := Fr.snoc X51 N46 hp32
  have E54 : Exa Z h51 r0 "com/example/conceptary/conceptary/ConceptTable$Builder" := ((((u12_1.wr W21).wr W31).wr W41).wr W51)
  have F55 : Fld Z h51 r0 "com/example/conceptary/conceptary/SnapshotRows" "files" "Ljava/util/List;" (.ref fb) := ((((u12_2.other W21 (Or.inl hp37)).other W31 (Or.inl hp38)).other W41 (Or.inl hp39)).other W51 (Or.inl hp40))
  have F56 : Fld Z h51 r0 "com/example/conceptary/conceptary/SnapshotRows" "effectiveTimes" "[I" (.ref e1) := ((((u12_3.other W21 (Or.inl hp37)).other W31 (Or.inl hp38)).other W41 (Or.inl hp39)).other W51 (Or.inl hp40))
  have F57 : Fld Z h51 r0 "com/example/conceptary/conceptary/SnapshotRows" "fileIndexes" "[I" (.ref e2) := ((((u12_4.other W21 (Or.inl hp37)).other W31 (Or.inl hp38)).other W41 (Or.inl hp39)).other W51 (Or.inl hp40))
  have F58 : Fld Z h51 r0 "com/example/conceptary/conceptary/SnapshotRows" "lines" "[I" (.ref e3) := ((((u12_5.other W21 (Or.inl hp37)).other W31 (Or.inl hp38)).other W41 (Or.inl hp39)).other W51 (Or.inl hp40))
  have F59 : Fld Z h51 r0 "com/example/conceptary/conceptary/SnapshotRows" "size" "I" (.int (sz + (1 : Int32))) := ((((u12_6.other W21 (Or.inl hp37)).other W31 (Or.inl hp38)).other W41 (Or.inl hp39)).other W51 (Or.inl hp40))
  have F60 : Fld Z h51 r0 "com/example/conceptary/conceptary/ConceptTable$Builder" "ids" "[J" (.ref i1) := ((((u12_7.other W21 (Or.inl hp37)).other W31 (Or.inl hp38)).other W41 (Or.inl hp39)).other W51 (Or.inl hp40))
  have F61 : Fld Z h51 r0 "com/example/conceptary/conceptary/ConceptTable$Builder" "actives" "[Z" (.ref ac) := (((F24.other W31 (Or.inl hp38)).other W41 (Or.inl hp39)).other W51 (Or.inl hp40))
  have F62 : Fld Z h51 r0 "com/example/conceptary/conceptary/ConceptTable$Builder" "moduleIds" "[J" (.ref mo) := ((F34.other W41 (Or.inl hp39)).other W51 (Or.inl hp40))
  have F63 : Fld Z h51 r0 "com/example/conceptary/conceptary/ConceptTable$Builder" "definitionStatusIds" "[J" (.ref de) := (F44.other W51 (Or.inl hp40))
  have V64 : AI Z h51 e1 .int (1024 : Int32) k1_12 := ((((u12_11.other W21 hp50).other W31 hp51).other W41 hp52).other W51 hp53)
  have V65 : AI Z h51 e2 .int (1024 : Int32) k2_12 := ((((u12_12.other W21 hp55).other W31 hp56).other W41 hp57).other W51 hp58)
  have V66 : AI Z h51 e3 .int (1024 : Int32) k3_12 := ((((u12_13.other W21 hp59).other W31 hp60).other W41 hp61).other W51 hp62)
  have V67 : AL Z h51 i1 (1024 : Int32) (fun i => if i = (sz).toNatClampNeg then ci else g4 i) := (((V21.other W31 hp63).other W41 hp64).other W51 hp65)
  have V68 : AI Z h51 ac .boolean (1024 : Int32) (fun i => if i = (sz).toNatClampNeg then (nar .boolean ca) else g5 i) := ((V31.other W41 hp66).other W51 hp67)
  have V69 : AL Z h51 mo (1024 : Int32) (fun i => if i = (sz).toNatClampNeg then cm else g6 i) := (V41.other W51 hp68)
  obtain ⟨fs, hr, hrun, hended, hW, hsame⟩ := X51.leave (v := none) (fun _ => rfl)
  refine ⟨_, _, pre0 _ ?_, hrun, hended, _, _, rfl, ?_, ⟨_, rfl⟩, hW, hsame.mono (by decide) (by decide)⟩
  · refine XS.aloadN X0.here hx rfl (hb hby d9_0) rfl rfl ?_
    show Steps p.tables e below (s₁.setTop (mkF m 1 #[.val (.ref r0), .val (.ref r1), .val (.int p2), .unset] [(.ref r0)])) _
    refine XS.aloadN X0.here hx rfl (hb hby d9_1) rfl rfl ?_
    show Steps p.tables e below (s₁.setTop (mkF m 2 #[.val (.ref r0), .val (.ref r1), .val (.int p2), .unset] [(.ref r1), (.ref r0)])) _
    refine st11.trans ?_
    show Steps p.tables e below (T11.setTop (mkF m 5 #[.val (.ref r0), .val (.ref r1), .val (.int p2), .unset] [(.int ct), (.ref r0)])) _
    refine XS.iloadN X11.here hx rfl (hb hby d9_5) rfl ?_
    show Steps p.tables e below (T11.setTop (mkF m 6 #[.val (.ref r0), .val (.ref r1), .val (.int p2), .unset] [(.int p2), (.int ct), (.ref r0)])) _
    refine st12.trans ?_
    show Steps p.tables e below (T12.setTop (mkF m 9 #[.val (.ref r0), .val (.ref r1), .val (.int p2), .unset] [(.int sz)])) _
    refine XS.istoreN X12.here hx rfl (hb hby d9_9) rfl (l' := #[.val (.ref r0), .val (.ref r1), .val (.int p2), .val (.int sz)]) rfl ?_
    show Steps p.tables e below (T12.setTop (mkF m 10 #[.val (.ref r0), .val (.ref r1), .val (.int p2), .val (.int sz)] [])) _
    refine XS.aloadN X12.here hx rfl (hb hby d9_10) rfl rfl ?_
    show Steps p.tables e below (T12.setTop (mkF m 11 #[.val (.ref r0), .val (.ref r1), .val (.int p2), .val (.int sz)] [(.ref r0)])) _
    refine st15 _ ?_
    show Steps p.tables e below (T15.setTop (mkF m 14 #[.val (.ref r0), .val (.ref r1), .val (.int p2), .val (.int sz)] [(.ref i1)])) _
    refine XS.iloadN X15.here hx rfl (hb hby d9_14) rfl ?_
    show Steps p.tables e below (T15.setTop (mkF m 15 #[.val (.ref r0), .val (.ref r1), .val (.int p2), .val (.int sz)] [(.int sz), (.ref i1)])) _
    refine XS.aloadN X15.here hx rfl (hb hby d9_15) rfl rfl ?_
    show Steps p.tables e below (T15.setTop (mkF m 16 #[.val (.ref r0), .val (.ref r1), .val (.int p2), .val (.int sz)] [(.ref r1), (.int sz), (.ref i1)])) _
    refine st16.trans ?_
    show Steps p.tables e below (T16.setTop (mkF m 19 #[.val (.ref r0), .val (.ref r1), .val (.int p2), .val (.int sz)] [(.long ci), (.int sz), (.ref i1)])) _
    refine st21 _ ?_
    show Steps p.tables e below (T21.setTop (mkF m 20 #[.val (.ref r0), .val (.ref r1), .val (.int p2), .val (.int sz)] [])) _
    refine XS.aloadN X21.here hx rfl (hb hby d9_20) rfl rfl ?_
    show Steps p.tables e below (T21.setTop (mkF m 21 #[.val (.ref r0), .val (.ref r1), .val (.int p2), .val (.int sz)] [(.ref r0)])) _
    refine st25 _ ?_
    show Steps p.tables e below (T25.setTop (mkF m 24 #[.val (.ref r0), .val (.ref r1), .val (.int p2), .val (.int sz)] [(.ref ac)])) _
    refine XS.iloadN X25.here hx rfl (hb hby d9_24) rfl ?_
    show Steps p.tables e below (T25.setTop (mkF m 25 #[.val (.ref r0), .val (.ref r1), .val (.int p2), .val (.int sz)] [(.int sz), (.ref ac)])) _
    refine XS.aloadN X25.here hx rfl (hb hby d9_25) rfl rfl ?_
    show Steps p.tables e below (T25.setTop (mkF m 26 #[.val (.ref r0), .val (.ref r1), .val (.int p2), .val (.int sz)] [(.ref r1), (.int sz), (.ref ac)])) _
    refine st26.trans ?_
    show Steps p.tables e below (T26.setTop (mkF m 29 #[.val (.ref r0), .val (.ref r1), .val (.int p2), .val (.int sz)] [(.int ca), (.int sz), (.ref ac)])) _
    refine st31 _ ?_
    show Steps p.tables e below (T31.setTop (mkF m 30 #[.val (.ref r0), .val (.ref r1), .val (.int p2), .val (.int sz)] [])) _
    refine XS.aloadN X31.here hx rfl (hb hby d9_30) rfl rfl ?_
    show Steps p.tables e below (T31.setTop (mkF m 31 #[.val (.ref r0), .val (.ref r1), .val (.int p2), .val (.int sz)] [(.ref r0)])) _
    refine st35 _ ?_
    show Steps p.tables e below (T35.setTop (mkF m 34 #[.val (.ref r0), .val (.ref r1), .val (.int p2), .val (.int sz)] [(.ref mo)])) _
    refine XS.iloadN X35.here hx rfl (hb hby d9_34) rfl ?_
    show Steps p.tables e below (T35.setTop (mkF m 35 #[.val (.ref r0), .val (.ref r1), .val (.int p2), .val (.int sz)] [(.int sz), (.ref mo)])) _
    refine XS.aloadN X35.here hx rfl (hb hby d9_35) rfl rfl ?_
    show Steps p.tables e below (T35.setTop (mkF m 36 #[.val (.ref r0), .val (.ref r1), .val (.int p2), .val (.int sz)] [(.ref r1), (.int sz), (.ref mo)])) _
    refine st36.trans ?_
    show Steps p.tables e below (T36.setTop (mkF m 39 #[.val (.ref r0), .val (.ref r1), .val (.int p2), .val (.int sz)] [(.long cm), (.int sz), (.ref mo)])) _
    refine st41 _ ?_
    show Steps p.tables e below (T41.setTop (mkF m 40 #[.val (.ref r0), .val (.ref r1), .val (.int p2), .val (.int sz)] [])) _
    refine XS.aloadN X41.here hx rfl (hb hby d9_40) rfl rfl ?_
    show Steps p.tables e below (T41.setTop (mkF m 41 #[.val (.ref r0), .val (.ref r1), .val (.int p2), .val (.int sz)] [(.ref r0)])) _
    refine st45 _ ?_
    show Steps p.tables e below (T45.setTop (mkF m 44 #[.val (.ref r0), .val (.ref r1), .val (.int p2), .val (.int sz)] [(.ref de)])) _
    refine XS.iloadN X45.here hx rfl (hb hby d9_44) rfl ?_
    show Steps p.tables e below (T45.setTop (mkF m 45 #[.val (.ref r0), .val (.ref r1), .val (.int p2), .val (.int sz)] [(.int sz), (.ref de)])) _
    refine XS.aloadN X45.here hx rfl (hb hby d9_45) rfl rfl ?_
    show Steps p.tables e below (T45.setTop (mkF m 46 #[.val (.ref r0), .val (.ref r1), .val (.int p2), .val (.int sz)] [(.ref r1), (.int sz), (.ref de)])) _
    refine st46.trans ?_
    show Steps p.tables e below (T46.setTop (mkF m 49 #[.val (.ref r0), .val (.ref r1), .val (.int p2), .val (.int sz)] [(.long cd), (.int sz), (.ref de)])) _
    refine st51 _ ?_
    show Steps p.tables e below (T51.setTop (mkF m 50 #[.val (.ref r0), .val (.ref r1), .val (.int p2), .val (.int sz)] [])) _
    exact X51.returnOut hx Bd.returns (hb hby d9_50) hr
  · show Q9 Z r0 r1 p2 fb e1 e2 e3 i1 ac mo de sz ci ct ca cm cd g1 g2 g3 g4 g5 g6 g7 h0 n0 _ T51.heap _
    rw [e51]
    exact ⟨k1_12, k2_12, k3_12, (fun i => if i = (sz).toNatClampNeg then ci else g4 i), rfl, N51, K53, E54, F55, F56, F57, F58, F59, F60, F61, F62, F63, V64, V65, V66, V67, V68, V69, V51⟩
theorem d17_0 : decode prog_9_method_6_code 0 = .ok (.aload_n 0, 1) := by decide +kernel
theorem d17_1 : decode prog_9_method_6_code 1 = .ok (.getfield 13, 3) := by decide +kernel
theorem d17_4 : decode prog_9_method_6_code 4 = .ok (.iload_n 1, 1) := by decide +kernel
theorem d17_5 : decode prog_9_method_6_code 5 = .ok (.baload, 1) := by decide +kernel
theorem d17_6 : decode prog_9_method_6_code 6 = .ok (.aload_n 0, 1) := by decide +kernel
theorem d17_7 : decode prog_9_method_6_code 7 = .ok (.getfield 13, 3) := by decide +kernel
theorem d17_10 : decode prog_9_method_6_code 10 = .ok (.iload_n 2, 1) := by decide +kernel
theorem d17_11 : decode prog_9_method_6_code 11 = .ok (.baload, 1) := by decide +kernel
theorem d17_12 : decode prog_9_method_6_code 12 = .ok (.if_icmp .ne 39, 3) := by decide +kernel
theorem d17_15 : decode prog_9_method_6_code 15 = .ok (.aload_n 0, 1) := by decide +kernel
theorem d17_16 : decode prog_9_method_6_code 16 = .ok (.getfield 17, 3) := by decide +kernel
theorem d17_19 : decode prog_9_method_6_code 19 = .ok (.iload_n 1, 1) := by decide +kernel
theorem d17_20 : decode prog_9_method_6_code 20 = .ok (.laload, 1) := by decide +kernel
theorem d17_21 : decode prog_9_method_6_code 21 = .ok (.aload_n 0, 1) := by decide +kernel
theorem d17_22 : decode prog_9_method_6_code 22 = .ok (.getfield 17, 3) := by decide +kernel
theorem d17_25 : decode prog_9_method_6_code 25 = .ok (.iload_n 2, 1) := by decide +kernel
theorem d17_26 : decode prog_9_method_6_code 26 = .ok (.laload, 1) := by decide +kernel
theorem d17_27 : decode prog_9_method_6_code 27 = .ok (.lcmp, 1) := by decide +kernel
theorem d17_28 : decode prog_9_method_6_code 28 = .ok (.ifCond .ne 23, 3) := by decide +kernel
theorem d17_31 : decode prog_9_method_6_code 31 = .ok (.aload_n 0, 1) := by decide +kernel
theorem d17_32 : decode prog_9_method_6_code 32 = .ok (.getfield 20, 3) := by decide +kernel
theorem d17_35 : decode prog_9_method_6_code 35 = .ok (.iload_n 1, 1) := by decide +kernel
theorem d17_36 : decode prog_9_method_6_code 36 = .ok (.laload, 1) := by decide +kernel
theorem d17_37 : decode prog_9_method_6_code 37 = .ok (.aload_n 0, 1) := by decide +kernel
theorem d17_38 : decode prog_9_method_6_code 38 = .ok (.getfield 20, 3) := by decide +kernel
theorem d17_41 : decode prog_9_method_6_code 41 = .ok (.iload_n 2, 1) := by decide +kernel
theorem d17_42 : decode prog_9_method_6_code 42 = .ok (.laload, 1) := by decide +kernel
theorem d17_43 : decode prog_9_method_6_code 43 = .ok (.lcmp, 1) := by decide +kernel
theorem d17_44 : decode prog_9_method_6_code 44 = .ok (.ifCond .ne 7, 3) := by decide +kernel
theorem d17_47 : decode prog_9_method_6_code 47 = .ok (.iconst 1, 1) := by decide +kernel
theorem d17_48 : decode prog_9_method_6_code 48 = .ok (.goto 4, 3) := by decide +kernel
theorem d17_51 : decode prog_9_method_6_code 51 = .ok (.iconst 0, 1) := by decide +kernel
theorem d17_52 : decode prog_9_method_6_code 52 = .ok (.ireturn, 1) := by decide +kernel
theorem pn_17 : plainName "com/example/conceptary/conceptary/ConceptTable$Builder" = true := by first | (simp [plainName, overriddenIn]; done) | decide +kernel
theorem ef_17 (m : MethodId) (r0 : Addr) (p1 : Int32) (p2 : Int32) : entryFrame m #[(.ref r0), (.int p1), (.int p2)] 3 = mkF m 0 #[.val (.ref r0), .val (.int p1), .val (.int p2)] [] := by first | (simp [entryFrame, mkF, argsToLocals, Value.category]; done) | rfl
def Q17 (Z : State) (r0 : Addr) (p1 : Int32) (p2 : Int32) (ac : Addr) (mo : Addr) (de : Addr) (fa : Nat → Int32) (fm : Nat → Int64) (fd : Nat → Int64) (h0 : Heap) (n0 : Nat) (v : Option Value) (h : Heap) (L : List Loc) : Prop := v = some (.int (own_same (fa (p1).toNatClampNeg) (fa (p2).toNatClampNeg) (fm (p1).toNatClampNeg) (fm (p2).toNatClampNeg) (fd (p1).toNatClampNeg) (fd (p2).toNatClampNeg))) ∧ Fr n0 L ∧ h = h0
set_option maxRecDepth 65536 in
set_option maxHeartbeats 40000000 in
theorem rm17 (l : Launch) (Z : State) (a0 : Array Value) (hw : ∀ d ∈ tables_1, d.before a0 Z = true) (ws : List Jvm.Cond) (r0 : Addr) (p1 : Int32) (p2 : Int32) (ac : Addr) (mo : Addr) (de : Addr) (fa : Nat → Int32) (fm : Nat → Int64) (fd : Nat → Int64) (h0 : Heap) (n0 : Nat) (Z0 : n0 ≤ h0.size) (hp0 : Fld Z h0 r0 "com/example/conceptary/conceptary/ConceptTable$Builder" "actives" "[Z" (.ref ac)) (hp1 : Fld Z h0 r0 "com/example/conceptary/conceptary/ConceptTable$Builder" "moduleIds" "[J" (.ref mo)) (hp2 : Fld Z h0 r0 "com/example/conceptary/conceptary/ConceptTable$Builder" "definitionStatusIds" "[J" (.ref de)) (hp3 : AI Z h0 ac .boolean (1024 : Int32) fa) (hp4 : AL Z h0 mo (1024 : Int32) fm) (hp5 : AL Z h0 de (1024 : Int32) fd) (hb1 : ¬ p1 < (0 : Int32) ∧ p1 < (1024 : Int32)) (hb2 : ¬ p2 < (0 : Int32) ∧ p2 < (1024 : Int32)) :
    MetFree l (⟨"com/example/conceptary/conceptary/ConceptTable$Builder", "sameValues", "(II)Z"⟩ : MethodName) (head1 (Jvm.Cond.code (⟨"com/example/conceptary/conceptary/ConceptTable$Builder", "sameValues", "(II)Z"⟩ : MethodName) prog_9_method_6_code 3 (some .boolean) :: ws) ({ frames := 0, cells := 0, slots := 0, locals := 0 } : Room)) (fun a U => a = #[(.ref r0), (.int p1), (.int p2)] ∧ Z.Warmed39 U.vm ∧ U.heap = h0) (fun _ _ _ _ _ => True) (fun _ U o U' => ∃ v L, o = .returned v ∧ Q17 Z r0 p1 p2 ac mo de fa fm fd h0 n0 v U'.heap L ∧ FrameEnd U o U' L ({ frames := 0, cells := 0, slots := 0, locals := 0 } : Room).cells ({ frames := 0, cells := 0, slots := 0, locals := 0 } : Room).slots) := by
  refine MetFree.of_bodySF (plainFor_of_name pn_17) hisR ?_
  intro p e s m args below meth c s₁ Bd hml0 hP hK
  obtain ⟨rfl, hZ, hh⟩ := hP
  have hx := Bd.exec
  have hby := Bd.bytes
  have hml : c.maxLocals = 3 := hml0
  have hown : s.vm.findClass "com/example/conceptary/conceptary/ConceptTable$Builder" = some m.cls := findClass_of_methodNamed Bd.named
  have hnm := (name_of_methodNamed Bd.named Bd.method).1
  have X0 : Stand p l e ({ frames := 0, cells := 0, slots := 0, locals := 0 } : Room) s m #[(.ref r0), (.int p1), (.int p2)] below meth c s₁ [] 0 0 := Stand.of_body Bd
  have e0 : s₁.heap = h0 := by rw [← hh, Bd.state]; rfl
  have N0 := Fr.nil n0
  have pre0 : ∀ t, Steps p.tables e below (s₁.setTop (mkF m 0 #[.val (.ref r0), .val (.int p1), .val (.int p2)] [])) t → Steps p.tables e below (s₁.setTop (entryFrame m #[(.ref r0), (.int p1), (.int p2)] 3)) t := fun t k => castTop (ef_17 m r0 p1 p2) k
  obtain ⟨T11, X11, e11, st11⟩ := getF X0 hx hZ hown (host := "") (Or.inl (hw _ (List.mem_of_getElem? (i := 52) rfl))) Via.refl e0 hp0 (g := (mkF m 1 #[.val (.ref r0), .val (.int p1), .val (.int p2)] [(.ref r0)])) rfl rfl (hb hby d17_1)
  obtain ⟨cl12, Ar12, S12, M12, I12⟩ := id hp3
  have hin12 : ¬ (p1 < 0 ∨ cl12.slots.size ≤ (p1).toNatClampNeg) := inb_of S12 hb1
  have hat12 : cl12.slots[(p1).toNatClampNeg]? = some (.int (fa (p1).toNatClampNeg)) := I12 _ (Nat.lt_of_not_le fun y => hin12 (Or.inr y))
  obtain ⟨T13, X13, e13, st13⟩ := getF X11 hx hZ hown (host := "") (Or.inl (hw _ (List.mem_of_getElem? (i := 52) rfl))) Via.refl e11 hp0 (g := (mkF m 7 #[.val (.ref r0), .val (.int p1), .val (.int p2)] [(.ref r0), (.int (fa (p1).toNatClampNeg))])) rfl rfl (hb hby d17_7)
  obtain ⟨cl14, Ar14, S14, M14, I14⟩ := id hp3
  have hin14 : ¬ (p2 < 0 ∨ cl14.slots.size ≤ (p2).toNatClampNeg) := inb_of S14 hb2
  have hat14 : cl14.slots[(p2).toNatClampNeg]? = some (.int (fa (p2).toNatClampNeg)) := I14 _ (Nat.lt_of_not_le fun y => hin14 (Or.inr y))
  have pre15 : ∀ t, Steps p.tables e below (T13.setTop (mkF m 12 #[.val (.ref r0), .val (.int p1), .val (.int p2)] [(.int (fa (p2).toNatClampNeg)), (.int (fa (p1).toNatClampNeg))])) t → Steps p.tables e below (s₁.setTop (entryFrame m #[(.ref r0), (.int p1), (.int p2)] 3)) t := fun t k => pre0 t (by
    refine XS.aloadN X0.here hx rfl (hb hby d17_0) rfl rfl ?_
    show Steps p.tables e below (s₁.setTop (mkF m 1 #[.val (.ref r0), .val (.int p1), .val (.int p2)] [(.ref r0)])) _
    refine st11 _ ?_
    show Steps p.tables e below (T11.setTop (mkF m 4 #[.val (.ref r0), .val (.int p1), .val (.int p2)] [(.ref ac)])) _
    refine XS.iloadN X11.here hx rfl (hb hby d17_4) rfl ?_
    show Steps p.tables e below (T11.setTop (mkF m 5 #[.val (.ref r0), .val (.int p1), .val (.int p2)] [(.int p1), (.ref ac)])) _
    refine X11.baloadBooleans hx (j := p1) (v := (.int (fa (p1).toNatClampNeg))) (by rw [e11]; exact Ar12.1) (State.isArrayOf_alike hZ.alike Ar12.2.1) Ar12.2.2 hin12 hat12 (g := (mkF m 5 #[.val (.ref r0), .val (.int p1), .val (.int p2)] [(.int p1), (.ref ac)])) rfl rfl (hb hby d17_5) _ ?_
    show Steps p.tables e below (T11.setTop (mkF m 6 #[.val (.ref r0), .val (.int p1), .val (.int p2)] [(.int (fa (p1).toNatClampNeg))])) _
    refine XS.aloadN X11.here hx rfl (hb hby d17_6) rfl rfl ?_
    show Steps p.tables e below (T11.setTop (mkF m 7 #[.val (.ref r0), .val (.int p1), .val (.int p2)] [(.ref r0), (.int (fa (p1).toNatClampNeg))])) _
    refine st13 _ ?_
    show Steps p.tables e below (T13.setTop (mkF m 10 #[.val (.ref r0), .val (.int p1), .val (.int p2)] [(.ref ac), (.int (fa (p1).toNatClampNeg))])) _
    refine XS.iloadN X13.here hx rfl (hb hby d17_10) rfl ?_
    show Steps p.tables e below (T13.setTop (mkF m 11 #[.val (.ref r0), .val (.int p1), .val (.int p2)] [(.int p2), (.ref ac), (.int (fa (p1).toNatClampNeg))])) _
    refine X13.baloadBooleans hx (j := p2) (v := (.int (fa (p2).toNatClampNeg))) (by rw [e13]; exact Ar14.1) (State.isArrayOf_alike hZ.alike Ar14.2.1) Ar14.2.2 hin14 hat14 (g := (mkF m 11 #[.val (.ref r0), .val (.int p1), .val (.int p2)] [(.int p2), (.ref ac), (.int (fa (p1).toNatClampNeg))])) rfl rfl (hb hby d17_11) _ ?_
    exact k)
  by_cases hc16 : (fa (p1).toNatClampNeg) = (fa (p2).toNatClampNeg)
  · obtain ⟨T17, X17, e17, st17⟩ := getF X13 hx hZ hown (host := "") (Or.inl (hw _ (List.mem_of_getElem? (i := 54) rfl))) Via.refl e13 hp1 (g := (mkF m 16 #[.val (.ref r0), .val (.int p1), .val (.int p2)] [(.ref r0)])) rfl rfl (hb hby d17_16)
    obtain ⟨cl18, Ar18, S18, M18, I18⟩ := id hp4
    have hin18 : ¬ (p1 < 0 ∨ cl18.slots.size ≤ (p1).toNatClampNeg) := inb_of S18 hb1
    have hat18 : cl18.slots[(p1).toNatClampNeg]? = some (.long (fm (p1).toNatClampNeg)) := I18 _ (Nat.lt_of_not_le fun y => hin18 (Or.inr y))
    obtain ⟨T19, X19, e19, st19⟩ := getF X17 hx hZ hown (host := "") (Or.inl (hw _ (List.mem_of_getElem? (i := 54) rfl))) Via.refl e17 hp1 (g := (mkF m 22 #[.val (.ref r0), .val (.int p1), .val (.int p2)] [(.ref r0), (.long (fm (p1).toNatClampNeg))])) rfl rfl (hb hby d17_22)
    obtain ⟨cl20, Ar20, S20, M20, I20⟩ := id hp4
    have hin20 : ¬ (p2 < 0 ∨ cl20.slots.size ≤ (p2).toNatClampNeg) := inb_of S20 hb2
    have hat20 : cl20.slots[(p2).toNatClampNeg]? = some (.long (fm (p2).toNatClampNeg)) := I20 _ (Nat.lt_of_not_le fun y => hin20 (Or.inr y))
    have pre21 : ∀ t, Steps p.tables e below (T19.setTop (mkF m 28 #[.val (.ref r0), .val (.int p1), .val (.int p2)] [(.int (lcmpW (fm (p1).toNatClampNeg) (fm (p2).toNatClampNeg)))])) t → Steps p.tables e below (s₁.setTop (entryFrame m #[(.ref r0), (.int p1), (.int p2)] 3)) t := fun t k => pre15 t (by
      refine XS.icmpNo X13.here hx rfl (hb hby d17_12) rfl (teq hc16).2 ?_
      show Steps p.tables e below (T13.setTop (mkF m 15 #[.val (.ref r0), .val (.int p1), .val (.int p2)] [])) _
      refine XS.aloadN X13.here hx rfl (hb hby d17_15) rfl rfl ?_
      show Steps p.tables e below (T13.setTop (mkF m 16 #[.val (.ref r0), .val (.int p1), .val (.int p2)] [(.ref r0)])) _
      refine st17 _ ?_
      show Steps p.tables e below (T17.setTop (mkF m 19 #[.val (.ref r0), .val (.int p1), .val (.int p2)] [(.ref mo)])) _
      refine XS.iloadN X17.here hx rfl (hb hby d17_19) rfl ?_
      show Steps p.tables e below (T17.setTop (mkF m 20 #[.val (.ref r0), .val (.int p1), .val (.int p2)] [(.int p1), (.ref mo)])) _
      refine X17.laload hx (j := p1) (v := (.long (fm (p1).toNatClampNeg))) (by rw [e17]; exact Ar18.1) (State.isArrayOf_alike hZ.alike Ar18.2.1) Ar18.2.2 hin18 hat18 (g := (mkF m 20 #[.val (.ref r0), .val (.int p1), .val (.int p2)] [(.int p1), (.ref mo)])) rfl rfl (hb hby d17_20) _ ?_
      show Steps p.tables e below (T17.setTop (mkF m 21 #[.val (.ref r0), .val (.int p1), .val (.int p2)] [(.long (fm (p1).toNatClampNeg))])) _
      refine XS.aloadN X17.here hx rfl (hb hby d17_21) rfl rfl ?_
      show Steps p.tables e below (T17.setTop (mkF m 22 #[.val (.ref r0), .val (.int p1), .val (.int p2)] [(.ref r0), (.long (fm (p1).toNatClampNeg))])) _
      refine st19 _ ?_
      show Steps p.tables e below (T19.setTop (mkF m 25 #[.val (.ref r0), .val (.int p1), .val (.int p2)] [(.ref mo), (.long (fm (p1).toNatClampNeg))])) _
      refine XS.iloadN X19.here hx rfl (hb hby d17_25) rfl ?_
      show Steps p.tables e below (T19.setTop (mkF m 26 #[.val (.ref r0), .val (.int p1), .val (.int p2)] [(.int p2), (.ref mo), (.long (fm (p1).toNatClampNeg))])) _
      refine X19.laload hx (j := p2) (v := (.long (fm (p2).toNatClampNeg))) (by rw [e19]; exact Ar20.1) (State.isArrayOf_alike hZ.alike Ar20.2.1) Ar20.2.2 hin20 hat20 (g := (mkF m 26 #[.val (.ref r0), .val (.int p1), .val (.int p2)] [(.int p2), (.ref mo), (.long (fm (p1).toNatClampNeg))])) rfl rfl (hb hby d17_26) _ ?_
      show Steps p.tables e below (T19.setTop (mkF m 27 #[.val (.ref r0), .val (.int p1), .val (.int p2)] [(.long (fm (p2).toNatClampNeg)), (.long (fm (p1).toNatClampNeg))])) _
      refine XS.lcmp X19.here hx rfl (hb hby d17_27) rfl ?_
      exact k)
    by_cases hc22 : (fm (p1).toNatClampNeg) = (fm (p2).toNatClampNeg)
    · obtain ⟨T23, X23, e23, st23⟩ := getF X19 hx hZ hown (host := "") (Or.inl (hw _ (List.mem_of_getElem? (i := 56) rfl))) Via.refl e19 hp2 (g := (mkF m 32 #[.val (.ref r0), .val (.int p1), .val (.int p2)] [(.ref r0)])) rfl rfl (hb hby d17_32)
      obtain ⟨cl24, Ar24, S24, M24, I24⟩ := id hp5
      have hin24 : ¬ (p1 < 0 ∨ cl24.slots.size ≤ (p1).toNatClampNeg) := inb_of S24 hb1
      have hat24 : cl24.slots[(p1).toNatClampNeg]? = some (.long (fd (p1).toNatClampNeg)) := I24 _ (Nat.lt_of_not_le fun y => hin24 (Or.inr y))
      obtain ⟨T25, X25, e25, st25⟩ := getF X23 hx hZ hown (host := "") (Or.inl (hw _ (List.mem_of_getElem? (i := 56) rfl))) Via.refl e23 hp2 (g := (mkF m 38 #[.val (.ref r0), .val (.int p1), .val (.int p2)] [(.ref r0), (.long (fd (p1).toNatClampNeg))])) rfl rfl (hb hby d17_38)
      obtain ⟨cl26, Ar26, S26, M26, I26⟩ := id hp5
      have hin26 : ¬ (p2 < 0 ∨ cl26.slots.size ≤ (p2).toNatClampNeg) := inb_of S26 hb2
      have hat26 : cl26.slots[(p2).toNatClampNeg]? = some (.long (fd (p2).toNatClampNeg)) := I26 _ (Nat.lt_of_not_le fun y => hin26 (Or.inr y))
      have pre27 : ∀ t, Steps p.tables e below (T25.setTop (mkF m 44 #[.val (.ref r0), .val (.int p1), .val (.int p2)] [(.int (lcmpW (fd (p1).toNatClampNeg) (fd (p2).toNatClampNeg)))])) t → Steps p.tables e below (s₁.setTop (entryFrame m #[(.ref r0), (.int p1), (.int p2)] 3)) t := fun t k => pre21 t (by
        refine XS.ifNo X19.here hx rfl (hb hby d17_28) rfl ((if0 _ _).trans (teq ((lw_eq (fm (p1).toNatClampNeg) (fm (p2).toNatClampNeg)).mpr hc22)).2) ?_
        show Steps p.tables e below (T19.setTop (mkF m 31 #[.val (.ref r0), .val (.int p1), .val (.int p2)] [])) _
        refine XS.aloadN X19.here hx rfl (hb hby d17_31) rfl rfl ?_
        show Steps p.tables e below (T19.setTop (mkF m 32 #[.val (.ref r0), .val (.int p1), .val (.int p2)] [(.ref r0)])) _
        refine st23 _ ?_
        show Steps p.tables e below (T23.setTop (mkF m 35 #[.val (.ref r0), .val (.int p1), .val (.int p2)] [(.ref de)])) _
        refine XS.iloadN X23.here hx rfl (hb hby d17_35) rfl ?_
        show Steps p.tables e below (T23.setTop (mkF m 36 #[.val (.ref r0), .val (.int p1), .val (.int p2)] [(.int p1), (.ref de)])) _
        refine X23.laload hx (j := p1) (v := (.long (fd (p1).toNatClampNeg))) (by rw [e23]; exact Ar24.1) (State.isArrayOf_alike hZ.alike Ar24.2.1) Ar24.2.2 hin24 hat24 (g := (mkF m 36 #[.val (.ref r0), .val (.int p1), .val (.int p2)] [(.int p1), (.ref de)])) rfl rfl (hb hby d17_36) _ ?_
        show Steps p.tables e below (T23.setTop (mkF m 37 #[.val (.ref r0), .val (.int p1), .val (.int p2)] [(.long (fd (p1).toNatClampNeg))])) _
        refine XS.aloadN X23.here hx rfl (hb hby d17_37) rfl rfl ?_
        show Steps p.tables e below (T23.setTop (mkF m 38 #[.val (.ref r0), .val (.int p1), .val (.int p2)] [(.ref r0), (.long (fd (p1).toNatClampNeg))])) _
        refine st25 _ ?_
        show Steps p.tables e below (T25.setTop (mkF m 41 #[.val (.ref r0), .val (.int p1), .val (.int p2)] [(.ref de), (.long (fd (p1).toNatClampNeg))])) _
        refine XS.iloadN X25.here hx rfl (hb hby d17_41) rfl ?_
        show Steps p.tables e below (T25.setTop (mkF m 42 #[.val (.ref r0), .val (.int p1), .val (.int p2)] [(.int p2), (.ref de), (.long (fd (p1).toNatClampNeg))])) _
        refine X25.laload hx (j := p2) (v := (.long (fd (p2).toNatClampNeg))) (by rw [e25]; exact Ar26.1) (State.isArrayOf_alike hZ.alike Ar26.2.1) Ar26.2.2 hin26 hat26 (g := (mkF m 42 #[.val (.ref r0), .val (.int p1), .val (.int p2)] [(.int p2), (.ref de), (.long (fd (p1).toNatClampNeg))])) rfl rfl (hb hby d17_42) _ ?_
        show Steps p.tables e below (T25.setTop (mkF m 43 #[.val (.ref r0), .val (.int p1), .val (.int p2)] [(.long (fd (p2).toNatClampNeg)), (.long (fd (p1).toNatClampNeg))])) _
        refine XS.lcmp X25.here hx rfl (hb hby d17_43) rfl ?_
        exact k)
      by_cases hc28 : (fd (p1).toNatClampNeg) = (fd (p2).toNatClampNeg)
      · obtain ⟨fs, hr, hrun, hended, hW, hsame⟩ := X25.leave (v := some (.int (1 : Int32))) (fun h => by rw [Bd.returns] at h; cases h)
        refine ⟨_, _, pre27 _ ?_, hrun, hended, _, _, rfl, ?_, ⟨_, rfl⟩, hW, hsame.mono (by decide) (by decide)⟩
        · refine XS.ifNo X25.here hx rfl (hb hby d17_44) rfl ((if0 _ _).trans (teq ((lw_eq (fd (p1).toNatClampNeg) (fd (p2).toNatClampNeg)).mpr hc28)).2) ?_
          show Steps p.tables e below (T25.setTop (mkF m 47 #[.val (.ref r0), .val (.int p1), .val (.int p2)] [])) _
          refine XS.iconst X25.here hx rfl (hb hby d17_47) ?_
          show Steps p.tables e below (T25.setTop (mkF m 48 #[.val (.ref r0), .val (.int p1), .val (.int p2)] [(.int (1 : Int32))])) _
          refine XS.goto X25.here hx rfl (pc0 := 48) (pc' := 52) rfl (hb hby d17_48) (by decide) (by decide) ?_
          show Steps p.tables e below (T25.setTop (mkF m 52 #[.val (.ref r0), .val (.int p1), .val (.int p2)] [(.int (1 : Int32))])) _
          exact retN X25 hx (t := .boolean) Bd.returns (by simp) (hb hby d17_52) hr
        · show Q17 Z r0 p1 p2 ac mo de fa fm fd h0 n0 _ T25.heap _
          rw [e25]
          exact ⟨(by rw [own_same, if_pos hc16, if_pos hc22, if_pos hc28]), N0, rfl⟩
      · obtain ⟨fs, hr, hrun, hended, hW, hsame⟩ := X25.leave (v := some (.int (0 : Int32))) (fun h => by rw [Bd.returns] at h; cases h)
        refine ⟨_, _, pre27 _ ?_, hrun, hended, _, _, rfl, ?_, ⟨_, rfl⟩, hW, hsame.mono (by decide) (by decide)⟩
        · refine XS.ifYes X25.here hx rfl (pc0 := 44) (pc' := 51) rfl (hb hby d17_44) rfl ((if0 _ _).trans (feq (fun q => hc28 ((lw_eq (fd (p1).toNatClampNeg) (fd (p2).toNatClampNeg)).mp q))).2) (by decide) (by decide) ?_
          show Steps p.tables e below (T25.setTop (mkF m 51 #[.val (.ref r0), .val (.int p1), .val (.int p2)] [])) _
          refine XS.iconst X25.here hx rfl (hb hby d17_51) ?_
          show Steps p.tables e below (T25.setTop (mkF m 52 #[.val (.ref r0), .val (.int p1), .val (.int p2)] [(.int (0 : Int32))])) _
          exact retN X25 hx (t := .boolean) Bd.returns (by simp) (hb hby d17_52) hr
        · show Q17 Z r0 p1 p2 ac mo de fa fm fd h0 n0 _ T25.heap _
          rw [e25]
          exact ⟨(by rw [own_same, if_pos hc16, if_pos hc22, if_neg hc28]), N0, rfl⟩
    · obtain ⟨fs, hr, hrun, hended, hW, hsame⟩ := X19.leave (v := some (.int (0 : Int32))) (fun h => by rw [Bd.returns] at h; cases h)
      refine ⟨_, _, pre21 _ ?_, hrun, hended, _, _, rfl, ?_, ⟨_, rfl⟩, hW, hsame.mono (by decide) (by decide)⟩
      · refine XS.ifYes X19.here hx rfl (pc0 := 28) (pc' := 51) rfl (hb hby d17_28) rfl ((if0 _ _).trans (feq (fun q => hc22 ((lw_eq (fm (p1).toNatClampNeg) (fm (p2).toNatClampNeg)).mp q))).2) (by decide) (by decide) ?_
        show Steps p.tables e below (T19.setTop (mkF m 51 #[.val (.ref r0), .val (.int p1), .val (.int p2)] [])) _
        refine XS.iconst X19.here hx rfl (hb hby d17_51) ?_
        show Steps p.tables e below (T19.setTop (mkF m 52 #[.val (.ref r0), .val (.int p1), .val (.int p2)] [(.int (0 : Int32))])) _
        exact retN X19 hx (t := .boolean) Bd.returns (by simp) (hb hby d17_52) hr
      · show Q17 Z r0 p1 p2 ac mo de fa fm fd h0 n0 _ T19.heap _
        rw [e19]
        exact ⟨(by rw [own_same, if_pos hc16, if_neg hc22]), N0, rfl⟩
  · obtain ⟨fs, hr, hrun, hended, hW, hsame⟩ := X13.leave (v := some (.int (0 : Int32))) (fun h => by rw [Bd.returns] at h; cases h)
    refine ⟨_, _, pre15 _ ?_, hrun, hended, _, _, rfl, ?_, ⟨_, rfl⟩, hW, hsame.mono (by decide) (by decide)⟩
    · refine XS.icmpYes X13.here hx rfl (pc0 := 12) (pc' := 51) rfl (hb hby d17_12) rfl (feq hc16).2 (by decide) (by decide) ?_
      show Steps p.tables e below (T13.setTop (mkF m 51 #[.val (.ref r0), .val (.int p1), .val (.int p2)] [])) _
      refine XS.iconst X13.here hx rfl (hb hby d17_51) ?_
      show Steps p.tables e below (T13.setTop (mkF m 52 #[.val (.ref r0), .val (.int p1), .val (.int p2)] [(.int (0 : Int32))])) _
      exact retN X13 hx (t := .boolean) Bd.returns (by simp) (hb hby d17_52) hr
    · show Q17 Z r0 p1 p2 ac mo de fa fm fd h0 n0 _ T13.heap _
      rw [e13]
      exact ⟨(by rw [own_same, if_neg hc16]), N0, rfl⟩
theorem own_r01 {xa xb xx : Int32} {m1 m2 d1 d2 : Int64} (ha : xa = (0 : Int32) ∨ xa = (1 : Int32)) (hb : xb = (0 : Int32) ∨ xb = (1 : Int32)) (hx : xx = (if xa = xb then (if m1 = m2 then (if d1 = d2 then (1 : Int32) else (0 : Int32)) else (0 : Int32)) else (0 : Int32))) {a b : Int32} {q r s t : Int64} (e1 : a = nar .boolean xa) (e2 : b = nar .boolean xb) (e3 : q = m1) (e4 : r = m2) (e5 : s = d1) (e6 : t = d2) : own_same a b q r s t = xx := by
  rw [e1, e2, e3, e4, e5, e6, own_nb ha, own_nb hb, hx, own_same]
theorem own_r10 {xa xb xx : Int32} {m1 m2 d1 d2 : Int64} (ha : xa = (0 : Int32) ∨ xa = (1 : Int32)) (hb : xb = (0 : Int32) ∨ xb = (1 : Int32)) (hx : xx = (if xa = xb then (if m1 = m2 then (if d1 = d2 then (1 : Int32) else (0 : Int32)) else (0 : Int32)) else (0 : Int32))) {a b : Int32} {q r s t : Int64} (e1 : a = nar .boolean xa) (e2 : b = nar .boolean xb) (e3 : q = m1) (e4 : r = m2) (e5 : s = d1) (e6 : t = d2) : own_same b a r q t s = xx := by
  rw [e1, e2, e3, e4, e5, e6, own_nb ha, own_nb hb, hx, own_same]
  simp only [eq_comm (a := xb), eq_comm (a := m2), eq_comm (a := d2)]
theorem own_r00 (a : Int32) (q s : Int64) : ¬ own_same a a q q s s = (0 : Int32) := by rw [own_same, if_pos rfl, if_pos rfl, if_pos rfl]; decide
theorem pn_0 : plainName "com/example/conceptary/conceptary/BuilderSameValuesPinLaw" = true := by first | (simp [plainName, overriddenIn]; done) | decide +kernel
theorem ef_0 (m : MethodId) (p0 : Int32) (q1 : Int64) (q2 : Int64) (q3 : Int64) (q4 : Int64) (q5 : Int64) : entryFrame m #[(.int p0), (.long q1), (.long q2), (.long q3), (.long q4), (.long q5)] maxLocals = mkF m 0 #[.val (.int p0), .val (.long q1), .second, .val (.long q2), .second, .val (.long q3), .second, .val (.long q4), .second, .val (.long q5), .second, .unset, .unset, .unset, .unset, .unset, .unset, .unset, .unset, .unset, .unset, .unset, .unset, .unset, .unset, .unset, .unset, .unset, .unset, .unset, .unset, .unset, .unset, .unset] [] := by first | (simp [entryFrame, mkF, argsToLocals, Value.category, maxLocals]; done) | rfl
theorem pd_5 : parseMethodDescriptor "(JIZJJ)V" = some ⟨[.long, .int, .boolean, .long, .long], none⟩ := by decide +kernel
theorem pd_6 : parseMethodDescriptor "(Lcom/example/conceptary/conceptary/Concept;I)V" = some ⟨[(.object "com/example/conceptary/conceptary/Concept"), .int], none⟩ := by decide +kernel
theorem pd_7 : parseMethodDescriptor "(II)Z" = some ⟨[.int, .int], some .boolean⟩ := by decide +kernel
def Q0 (Z : State) (p0 : Int32) (q1 : Int64) (q2 : Int64) (q3 : Int64) (q4 : Int64) (q5 : Int64) (sd : Addr) (h0 : Heap) (n0 : Nat) (v : Option Value) (h : Heap) (L : List Loc) : Prop := v = some (.int 1) ∧ Fr n0 L
set_option maxRecDepth 65536 in
set_option maxHeartbeats 40000000 in
theorem rm0 (l : Launch) (Z : State) (a0 : Array Value) (hw : ∀ d ∈ tables_1, d.before a0 Z = true) (ws : List Jvm.Cond) (p0 : Int32) (q1 : Int64) (q2 : Int64) (q3 : Int64) (q4 : Int64) (q5 : Int64) (sd : Addr) (h0 : Heap) (n0 : Nat) (Z0 : n0 ≤ h0.size) (hp0 : Sta Z h0 "java/util/ArrayList" "DEFAULTCAPACITY_EMPTY_ELEMENTDATA" "[Ljava/lang/Object;" (.ref sd)) :
    MetFree l x (head1 (Jvm.Cond.code x code maxLocals ret :: ws) room_1) (fun a U => a = #[(.int p0), (.long q1), (.long q2), (.long q3), (.long q4), (.long q5)] ∧ Z.Warmed39 U.vm ∧ U.heap = h0) (fun _ _ _ _ _ => True) (fun _ U o U' => ∃ v L, o = .returned v ∧ Q0 Z p0 q1 q2 q3 q4 q5 sd h0 n0 v U'.heap L ∧ FrameEnd U o U' L room_1.cells room_1.slots) := by
  refine MetFree.of_bodySF (plainFor_of_name pn_0) hisR ?_
  intro p e s m args below meth c s₁ Bd hml0 hP hK
  obtain ⟨rfl, hZ, hh⟩ := hP
  have hx := Bd.exec
  have hby := Bd.bytes
  have hml : c.maxLocals = 34 := hml0
  have hown : s.vm.findClass "com/example/conceptary/conceptary/BuilderSameValuesPinLaw" = some m.cls := findClass_of_methodNamed Bd.named
  have hnm := (name_of_methodNamed Bd.named Bd.method).1
  have X0 : Stand p l e room_1 s m #[(.int p0), (.long q1), (.long q2), (.long q3), (.long q4), (.long q5)] below meth c s₁ [] 0 0 := Stand.of_body Bd
  have e0 : s₁.heap = h0 := by rw [← hh, Bd.state]; rfl
  have N0 := Fr.nil n0
  have pre0 : ∀ t, Steps p.tables e below (s₁.setTop (mkF m 0 #[.val (.int p0), .val (.long q1), .second, .val (.long q2), .second, .val (.long q3), .second, .val (.long q4), .second, .val (.long q5), .second, .unset, .unset, .unset, .unset, .unset, .unset, .unset, .unset, .unset, .unset, .unset, .unset, .unset, .unset, .unset, .unset, .unset, .unset, .unset, .unset, .unset, .unset, .unset] [])) t → Steps p.tables e below (s₁.setTop (entryFrame m #[(.int p0), (.long q1), (.long q2), (.long q3), (.long q4), (.long q5)] maxLocals)) t := fun t k => castTop (ef_0 m p0 q1 q2 q3 q4 q5) k
  have pre11 : ∀ t, Steps p.tables e below (s₁.setTop (mkF m 3 #[.val (.int p0), .val (.long q1), .second, .val (.long q2), .second, .val (.long q3), .second, .val (.long q4), .second, .val (.long q5), .second, .unset, .unset, .unset, .unset, .unset, .unset, .unset, .unset, .unset, .unset, .unset, .unset, .unset, .unset, .unset, .unset, .unset, .unset, .unset, .unset, .unset, .unset, .unset] [(.int (p0 &&& (1 : Int32)))])) t → Steps p.tables e below (s₁.setTop (entryFrame m #[(.int p0), (.long q1), (.long q2), (.long q3), (.long q4), (.long q5)] maxLocals)) t := fun t k => pre0 t (by
    refine XS.iloadN X0.here hx rfl (hb hby at_0) rfl ?_
    show Steps p.tables e below (s₁.setTop (mkF m 1 #[.val (.int p0), .val (.long q1), .second, .val (.long q2), .second, .val (.long q3), .second, .val (.long q4), .second, .val (.long q5), .second, .unset, .unset, .unset, .unset, .unset, .unset, .unset, .unset, .unset, .unset, .unset, .unset, .unset, .unset, .unset, .unset, .unset, .unset, .unset, .unset, .unset, .unset, .unset] [(.int p0)])) _
    refine XS.iconst X0.here hx rfl (hb hby at_1) ?_
    show Steps p.tables e below (s₁.setTop (mkF m 2 #[.val (.int p0), .val (.long q1), .second, .val (.long q2), .second, .val (.long q3), .second, .val (.long q4), .second, .val (.long q5), .second, .unset, .unset, .unset, .unset, .unset, .unset, .unset, .unset, .unset, .unset, .unset, .unset, .unset, .unset, .unset, .unset, .unset, .unset, .unset, .unset, .unset, .unset, .unset] [(.int (1 : Int32)), (.int p0)])) _
    refine XS.iand X0.here hx rfl (hb hby at_2) rfl ?_
    exact k)
  obtain ⟨xa, hxa⟩ : ∃ z : Int32, z = (if (p0 &&& (1 : Int32)) = (0 : Int32) then (0 : Int32) else (1 : Int32)) := ⟨_, rfl⟩
  have pre13 : ∀ t, Steps p.tables e below (s₁.setTop (mkF m 11 #[.val (.int p0), .val (.long q1), .second, .val (.long q2), .second, .val (.long q3), .second, .val (.long q4), .second, .val (.long q5), .second, .unset, .unset, .unset, .unset, .unset, .unset, .unset, .unset, .unset, .unset, .unset, .unset, .unset, .unset, .unset, .unset, .unset, .unset, .unset, .unset, .unset, .unset, .unset] [(.int xa)])) t → Steps p.tables e below (s₁.setTop (entryFrame m #[(.int p0), (.long q1), (.long q2), (.long q3), (.long q4), (.long q5)] maxLocals)) t := fun t k => pre11 t (by
    by_cases hm12 : (p0 &&& (1 : Int32)) = (0 : Int32)
    · rw [show xa = (0 : Int32) from by rw [hxa, if_pos hm12]] at k
      refine XS.ifYes X0.here hx rfl (pc0 := 3) (pc' := 10) rfl (hb hby at_3) rfl ((if0 _ _).trans (teq hm12).1) (by decide) (by decide) ?_
      show Steps p.tables e below (s₁.setTop (mkF m 10 #[.val (.int p0), .val (.long q1), .second, .val (.long q2), .second, .val (.long q3), .second, .val (.long q4), .second, .val (.long q5), .second, .unset, .unset, .unset, .unset, .unset, .unset, .unset, .unset, .unset, .unset, .unset, .unset, .unset, .unset, .unset, .unset, .unset, .unset, .unset, .unset, .unset, .unset, .unset] [])) _
      refine XS.iconst X0.here hx rfl (hb hby at_10) ?_
      exact k
    · rw [show xa = (1 : Int32) from by rw [hxa, if_neg hm12]] at k
      refine XS.ifNo X0.here hx rfl (hb hby at_3) rfl ((if0 _ _).trans (feq hm12).1) ?_
      show Steps p.tables e below (s₁.setTop (mkF m 6 #[.val (.int p0), .val (.long q1), .second, .val (.long q2), .second, .val (.long q3), .second, .val (.long q4), .second, .val (.long q5), .second, .unset, .unset, .unset, .unset, .unset, .unset, .unset, .unset, .unset, .unset, .unset, .unset, .unset, .unset, .unset, .unset, .unset, .unset, .unset, .unset, .unset, .unset, .unset] [])) _
      refine XS.iconst X0.here hx rfl (hb hby at_6) ?_
      show Steps p.tables e below (s₁.setTop (mkF m 7 #[.val (.int p0), .val (.long q1), .second, .val (.long q2), .second, .val (.long q3), .second, .val (.long q4), .second, .val (.long q5), .second, .unset, .unset, .unset, .unset, .unset, .unset, .unset, .unset, .unset, .unset, .unset, .unset, .unset, .unset, .unset, .unset, .unset, .unset, .unset, .unset, .unset, .unset, .unset] [(.int (1 : Int32))])) _
      refine XS.goto X0.here hx rfl (pc0 := 7) (pc' := 11) rfl (hb hby at_7) (by decide) (by decide) ?_
      exact k)
  have Bxa := own_bit hxa
  have pre14 : ∀ t, Steps p.tables e below (s₁.setTop (mkF m 16 #[.val (.int p0), .val (.long q1), .second, .val (.long q2), .second, .val (.long q3), .second, .val (.long q4), .second, .val (.long q5), .second, .val (.int xa), .unset, .unset, .unset, .unset, .unset, .unset, .unset, .unset, .unset, .unset, .unset, .unset, .unset, .unset, .unset, .unset, .unset, .unset, .unset, .unset, .unset, .unset] [(.int (p0 &&& (4 : Int32)))])) t → Steps p.tables e below (s₁.setTop (entryFrame m #[(.int p0), (.long q1), (.long q2), (.long q3), (.long q4), (.long q5)] maxLocals)) t := fun t k => pre13 t (by
    refine XS.istore X0.here hx rfl (hb hby at_11) rfl (l' := #[.val (.int p0), .val (.long q1), .second, .val (.long q2), .second, .val (.long q3), .second, .val (.long q4), .second, .val (.long q5), .second, .val (.int xa), .unset, .unset, .unset, .unset, .unset, .unset, .unset, .unset, .unset, .unset, .unset, .unset, .unset, .unset, .unset, .unset, .unset, .unset, .unset, .unset, .unset, .unset]) rfl ?_
    show Steps p.tables e below (s₁.setTop (mkF m 13 #[.val (.int p0), .val (.long q1), .second, .val (.long q2), .second, .val (.long q3), .second, .val (.long q4), .second, .val (.long q5), .second, .val (.int xa), .unset, .unset, .unset, .unset, .unset, .unset, .unset, .unset, .unset, .unset, .unset, .unset, .unset, .unset, .unset, .unset, .unset, .unset, .unset, .unset, .unset, .unset] [])) _
    refine XS.iloadN X0.here hx rfl (hb hby at_13) rfl ?_
    show Steps p.tables e below (s₁.setTop (mkF m 14 #[.val (.int p0), .val (.long q1), .second, .val (.long q2), .second, .val (.long q3), .second, .val (.long q4), .second, .val (.long q5), .second, .val (.int xa), .unset, .unset, .unset, .unset, .unset, .unset, .unset, .unset, .unset, .unset, .unset, .unset, .unset, .unset, .unset, .unset, .unset, .unset, .unset, .unset, .unset, .unset] [(.int p0)])) _
    refine XS.iconst X0.here hx rfl (hb hby at_14) ?_
    show Steps p.tables e below (s₁.setTop (mkF m 15 #[.val (.int p0), .val (.long q1), .second, .val (.long q2), .second, .val (.long q3), .second, .val (.long q4), .second, .val (.long q5), .second, .val (.int xa), .unset, .unset, .unset, .unset, .unset, .unset, .unset, .unset, .unset, .unset, .unset, .unset, .unset, .unset, .unset, .unset, .unset, .unset, .unset, .unset, .unset, .unset] [(.int (4 : Int32)), (.int p0)])) _
    refine XS.iand X0.here hx rfl (hb hby at_15) rfl ?_
    exact k)
  obtain ⟨xb, hxb⟩ : ∃ z : Int32, z = (if (p0 &&& (4 : Int32)) = (0 : Int32) then (if (p0 &&& (2 : Int32)) = (0 : Int32) then (0 : Int32) else (1 : Int32)) else xa) := ⟨_, rfl⟩
  have pre17 : ∀ t, Steps p.tables e below (s₁.setTop (mkF m 35 #[.val (.int p0), .val (.long q1), .second, .val (.long q2), .second, .val (.long q3), .second, .val (.long q4), .second, .val (.long q5), .second, .val (.int xa), .unset, .unset, .unset, .unset, .unset, .unset, .unset, .unset, .unset, .unset, .unset, .unset, .unset, .unset, .unset, .unset, .unset, .unset, .unset, .unset, .unset, .unset] [(.int xb)])) t → Steps p.tables e below (s₁.setTop (entryFrame m #[(.int p0), (.long q1), (.long q2), (.long q3), (.long q4), (.long q5)] maxLocals)) t := fun t k => pre14 t (by
    by_cases hm15 : (p0 &&& (4 : Int32)) = (0 : Int32)
    · refine XS.ifYes X0.here hx rfl (pc0 := 16) (pc' := 24) rfl (hb hby at_16) rfl ((if0 _ _).trans (teq hm15).1) (by decide) (by decide) ?_
      show Steps p.tables e below (s₁.setTop (mkF m 24 #[.val (.int p0), .val (.long q1), .second, .val (.long q2), .second, .val (.long q3), .second, .val (.long q4), .second, .val (.long q5), .second, .val (.int xa), .unset, .unset, .unset, .unset, .unset, .unset, .unset, .unset, .unset, .unset, .unset, .unset, .unset, .unset, .unset, .unset, .unset, .unset, .unset, .unset, .unset, .unset] [])) _
      refine XS.iloadN X0.here hx rfl (hb hby at_24) rfl ?_
      show Steps p.tables e below (s₁.setTop (mkF m 25 #[.val (.int p0), .val (.long q1), .second, .val (.long q2), .second, .val (.long q3), .second, .val (.long q4), .second, .val (.long q5), .second, .val (.int xa), .unset, .unset, .unset, .unset, .unset, .unset, .unset, .unset, .unset, .unset, .unset, .unset, .unset, .unset, .unset, .unset, .unset, .unset, .unset, .unset, .unset, .unset] [(.int p0)])) _
      refine XS.iconst X0.here hx rfl (hb hby at_25) ?_
      show Steps p.tables e below (s₁.setTop (mkF m 26 #[.val (.int p0), .val (.long q1), .second, .val (.long q2), .second, .val (.long q3), .second, .val (.long q4), .second, .val (.long q5), .second, .val (.int xa), .unset, .unset, .unset, .unset, .unset, .unset, .unset, .unset, .unset, .unset, .unset, .unset, .unset, .unset, .unset, .unset, .unset, .unset, .unset, .unset, .unset, .unset] [(.int (2 : Int32)), (.int p0)])) _
      refine XS.iand X0.here hx rfl (hb hby at_26) rfl ?_
      show Steps p.tables e below (s₁.setTop (mkF m 27 #[.val (.int p0), .val (.long q1), .second, .val (.long q2), .second, .val (.long q3), .second, .val (.long q4), .second, .val (.long q5), .second, .val (.int xa), .unset, .unset, .unset, .unset, .unset, .unset, .unset, .unset, .unset, .unset, .unset, .unset, .unset, .unset, .unset, .unset, .unset, .unset, .unset, .unset, .unset, .unset] [(.int (p0 &&& (2 : Int32)))])) _
      by_cases hm16 : (p0 &&& (2 : Int32)) = (0 : Int32)
      · rw [show xb = (0 : Int32) from by rw [hxb, if_pos hm15, if_pos hm16]] at k
        refine XS.ifYes X0.here hx rfl (pc0 := 27) (pc' := 34) rfl (hb hby at_27) rfl ((if0 _ _).trans (teq hm16).1) (by decide) (by decide) ?_
        show Steps p.tables e below (s₁.setTop (mkF m 34 #[.val (.int p0), .val (.long q1), .second, .val (.long q2), .second, .val (.long q3), .second, .val (.long q4), .second, .val (.long q5), .second, .val (.int xa), .unset, .unset, .unset, .unset, .unset, .unset, .unset, .unset, .unset, .unset, .unset, .unset, .unset, .unset, .unset, .unset, .unset, .unset, .unset, .unset, .unset, .unset] [])) _
        refine XS.iconst X0.here hx rfl (hb hby at_34) ?_
        exact k
      · rw [show xb = (1 : Int32) from by rw [hxb, if_pos hm15, if_neg hm16]] at k
        refine XS.ifNo X0.here hx rfl (hb hby at_27) rfl ((if0 _ _).trans (feq hm16).1) ?_
        show Steps p.tables e below (s₁.setTop (mkF m 30 #[.val (.int p0), .val (.long q1), .second, .val (.long q2), .second, .val (.long q3), .second, .val (.long q4), .second, .val (.long q5), .second, .val (.int xa), .unset, .unset, .unset, .unset, .unset, .unset, .unset, .unset, .unset, .unset, .unset, .unset, .unset, .unset, .unset, .unset, .unset, .unset, .unset, .unset, .unset, .unset] [])) _
        refine XS.iconst X0.here hx rfl (hb hby at_30) ?_
        show Steps p.tables e below (s₁.setTop (mkF m 31 #[.val (.int p0), .val (.long q1), .second, .val (.long q2), .second, .val (.long q3), .second, .val (.long q4), .second, .val (.long q5), .second, .val (.int xa), .unset, .unset, .unset, .unset, .unset, .unset, .unset, .unset, .unset, .unset, .unset, .unset, .unset, .unset, .unset, .unset, .unset, .unset, .unset, .unset, .unset, .unset] [(.int (1 : Int32))])) _
        refine XS.goto X0.here hx rfl (pc0 := 31) (pc' := 35) rfl (hb hby at_31) (by decide) (by decide) ?_
        exact k
    · rw [show xb = xa from by rw [hxb, if_neg hm15]] at k
      refine XS.ifNo X0.here hx rfl (hb hby at_16) rfl ((if0 _ _).trans (feq hm15).1) ?_
      show Steps p.tables e below (s₁.setTop (mkF m 19 #[.val (.int p0), .val (.long q1), .second, .val (.long q2), .second, .val (.long q3), .second, .val (.long q4), .second, .val (.long q5), .second, .val (.int xa), .unset, .unset, .unset, .unset, .unset, .unset, .unset, .unset, .unset, .unset, .unset, .unset, .unset, .unset, .unset, .unset, .unset, .unset, .unset, .unset, .unset, .unset] [])) _
      refine XS.iload X0.here hx rfl (hb hby at_19) rfl ?_
      show Steps p.tables e below (s₁.setTop (mkF m 21 #[.val (.int p0), .val (.long q1), .second, .val (.long q2), .second, .val (.long q3), .second, .val (.long q4), .second, .val (.long q5), .second, .val (.int xa), .unset, .unset, .unset, .unset, .unset, .unset, .unset, .unset, .unset, .unset, .unset, .unset, .unset, .unset, .unset, .unset, .unset, .unset, .unset, .unset, .unset, .unset] [(.int xa)])) _
      refine XS.goto X0.here hx rfl (pc0 := 21) (pc' := 35) rfl (hb hby at_21) (by decide) (by decide) ?_
      exact k)
  have Bxb : xb = (0 : Int32) ∨ xb = (1 : Int32) := by
    rw [hxb]; split
    · split
      · exact Or.inl rfl
      · exact Or.inr rfl
    · exact Bxa
  have pre18 : ∀ t, Steps p.tables e below (s₁.setTop (mkF m 44 #[.val (.int p0), .val (.long q1), .second, .val (.long q2), .second, .val (.long q3), .second, .val (.long q4), .second, .val (.long q5), .second, .val (.int xa), .val (.int xb), .val (.long q1), .second, .unset, .unset, .unset, .unset, .unset, .unset, .unset, .unset, .unset, .unset, .unset, .unset, .unset, .unset, .unset, .unset, .unset, .unset, .unset] [(.int (p0 &&& (8 : Int32)))])) t → Steps p.tables e below (s₁.setTop (entryFrame m #[(.int p0), (.long q1), (.long q2), (.long q3), (.long q4), (.long q5)] maxLocals)) t := fun t k => pre17 t (by
    refine XS.istore X0.here hx rfl (hb hby at_35) rfl (l' := #[.val (.int p0), .val (.long q1), .second, .val (.long q2), .second, .val (.long q3), .second, .val (.long q4), .second, .val (.long q5), .second, .val (.int xa), .val (.int xb), .unset, .unset, .unset, .unset, .unset, .unset, .unset, .unset, .unset, .unset, .unset, .unset, .unset, .unset, .unset, .unset, .unset, .unset, .unset, .unset, .unset]) rfl ?_
    show Steps p.tables e below (s₁.setTop (mkF m 37 #[.val (.int p0), .val (.long q1), .second, .val (.long q2), .second, .val (.long q3), .second, .val (.long q4), .second, .val (.long q5), .second, .val (.int xa), .val (.int xb), .unset, .unset, .unset, .unset, .unset, .unset, .unset, .unset, .unset, .unset, .unset, .unset, .unset, .unset, .unset, .unset, .unset, .unset, .unset, .unset, .unset] [])) _
    refine XS.lloadN X0.here hx rfl (hb hby at_37) rfl ?_
    show Steps p.tables e below (s₁.setTop (mkF m 38 #[.val (.int p0), .val (.long q1), .second, .val (.long q2), .second, .val (.long q3), .second, .val (.long q4), .second, .val (.long q5), .second, .val (.int xa), .val (.int xb), .unset, .unset, .unset, .unset, .unset, .unset, .unset, .unset, .unset, .unset, .unset, .unset, .unset, .unset, .unset, .unset, .unset, .unset, .unset, .unset, .unset] [(.long q1)])) _
    refine XS.lstore X0.here hx rfl (hb hby at_38) rfl (l' := #[.val (.int p0), .val (.long q1), .second, .val (.long q2), .second, .val (.long q3), .second, .val (.long q4), .second, .val (.long q5), .second, .val (.int xa), .val (.int xb), .val (.long q1), .second, .unset, .unset, .unset, .unset, .unset, .unset, .unset, .unset, .unset, .unset, .unset, .unset, .unset, .unset, .unset, .unset, .unset, .unset, .unset]) rfl ?_
    show Steps p.tables e below (s₁.setTop (mkF m 40 #[.val (.int p0), .val (.long q1), .second, .val (.long q2), .second, .val (.long q3), .second, .val (.long q4), .second, .val (.long q5), .second, .val (.int xa), .val (.int xb), .val (.long q1), .second, .unset, .unset, .unset, .unset, .unset, .unset, .unset, .unset, .unset, .unset, .unset, .unset, .unset, .unset, .unset, .unset, .unset, .unset, .unset] [])) _
    refine XS.iloadN X0.here hx rfl (hb hby at_40) rfl ?_
    show Steps p.tables e below (s₁.setTop (mkF m 41 #[.val (.int p0), .val (.long q1), .second, .val (.long q2), .second, .val (.long q3), .second, .val (.long q4), .second, .val (.long q5), .second, .val (.int xa), .val (.int xb), .val (.long q1), .second, .unset, .unset, .unset, .unset, .unset, .unset, .unset, .unset, .unset, .unset, .unset, .unset, .unset, .unset, .unset, .unset, .unset, .unset, .unset] [(.int p0)])) _
    refine XS.bipush X0.here hx rfl (hb hby at_41) ?_
    show Steps p.tables e below (s₁.setTop (mkF m 43 #[.val (.int p0), .val (.long q1), .second, .val (.long q2), .second, .val (.long q3), .second, .val (.long q4), .second, .val (.long q5), .second, .val (.int xa), .val (.int xb), .val (.long q1), .second, .unset, .unset, .unset, .unset, .unset, .unset, .unset, .unset, .unset, .unset, .unset, .unset, .unset, .unset, .unset, .unset, .unset, .unset, .unset] [(.int (8 : Int32)), (.int p0)])) _
    refine XS.iand X0.here hx rfl (hb hby at_43) rfl ?_
    exact k)
  obtain ⟨xm, hxm⟩ : ∃ z : Int64, z = (if (p0 &&& (8 : Int32)) = (0 : Int32) then q2 else q1) := ⟨_, rfl⟩
  have pre20 : ∀ t, Steps p.tables e below (s₁.setTop (mkF m 52 #[.val (.int p0), .val (.long q1), .second, .val (.long q2), .second, .val (.long q3), .second, .val (.long q4), .second, .val (.long q5), .second, .val (.int xa), .val (.int xb), .val (.long q1), .second, .unset, .unset, .unset, .unset, .unset, .unset, .unset, .unset, .unset, .unset, .unset, .unset, .unset, .unset, .unset, .unset, .unset, .unset, .unset] [(.long xm)])) t → Steps p.tables e below (s₁.setTop (entryFrame m #[(.int p0), (.long q1), (.long q2), (.long q3), (.long q4), (.long q5)] maxLocals)) t := fun t k => pre18 t (by
    by_cases hm19 : (p0 &&& (8 : Int32)) = (0 : Int32)
    · rw [show xm = q2 from by rw [hxm, if_pos hm19]] at k
      refine XS.ifYes X0.here hx rfl (pc0 := 44) (pc' := 51) rfl (hb hby at_44) rfl ((if0 _ _).trans (teq hm19).1) (by decide) (by decide) ?_
      show Steps p.tables e below (s₁.setTop (mkF m 51 #[.val (.int p0), .val (.long q1), .second, .val (.long q2), .second, .val (.long q3), .second, .val (.long q4), .second, .val (.long q5), .second, .val (.int xa), .val (.int xb), .val (.long q1), .second, .unset, .unset, .unset, .unset, .unset, .unset, .unset, .unset, .unset, .unset, .unset, .unset, .unset, .unset, .unset, .unset, .unset, .unset, .unset] [])) _
      refine XS.lloadN X0.here hx rfl (hb hby at_51) rfl ?_
      exact k
    · rw [show xm = q1 from by rw [hxm, if_neg hm19]] at k
      refine XS.ifNo X0.here hx rfl (hb hby at_44) rfl ((if0 _ _).trans (feq hm19).1) ?_
      show Steps p.tables e below (s₁.setTop (mkF m 47 #[.val (.int p0), .val (.long q1), .second, .val (.long q2), .second, .val (.long q3), .second, .val (.long q4), .second, .val (.long q5), .second, .val (.int xa), .val (.int xb), .val (.long q1), .second, .unset, .unset, .unset, .unset, .unset, .unset, .unset, .unset, .unset, .unset, .unset, .unset, .unset, .unset, .unset, .unset, .unset, .unset, .unset] [])) _
      refine XS.lloadN X0.here hx rfl (hb hby at_47) rfl ?_
      show Steps p.tables e below (s₁.setTop (mkF m 48 #[.val (.int p0), .val (.long q1), .second, .val (.long q2), .second, .val (.long q3), .second, .val (.long q4), .second, .val (.long q5), .second, .val (.int xa), .val (.int xb), .val (.long q1), .second, .unset, .unset, .unset, .unset, .unset, .unset, .unset, .unset, .unset, .unset, .unset, .unset, .unset, .unset, .unset, .unset, .unset, .unset, .unset] [(.long q1)])) _
      refine XS.goto X0.here hx rfl (pc0 := 48) (pc' := 52) rfl (hb hby at_48) (by decide) (by decide) ?_
      exact k)
  have pre21 : ∀ t, Steps p.tables e below (s₁.setTop (mkF m 62 #[.val (.int p0), .val (.long q1), .second, .val (.long q2), .second, .val (.long q3), .second, .val (.long q4), .second, .val (.long q5), .second, .val (.int xa), .val (.int xb), .val (.long q1), .second, .val (.long xm), .second, .val (.long q3), .second, .unset, .unset, .unset, .unset, .unset, .unset, .unset, .unset, .unset, .unset, .unset, .unset, .unset, .unset, .unset] [(.int (p0 &&& (16 : Int32)))])) t → Steps p.tables e below (s₁.setTop (entryFrame m #[(.int p0), (.long q1), (.long q2), (.long q3), (.long q4), (.long q5)] maxLocals)) t := fun t k => pre20 t (by
    refine XS.lstore X0.here hx rfl (hb hby at_52) rfl (l' := #[.val (.int p0), .val (.long q1), .second, .val (.long q2), .second, .val (.long q3), .second, .val (.long q4), .second, .val (.long q5), .second, .val (.int xa), .val (.int xb), .val (.long q1), .second, .val (.long xm), .second, .unset, .unset, .unset, .unset, .unset, .unset, .unset, .unset, .unset, .unset, .unset, .unset, .unset, .unset, .unset, .unset, .unset]) rfl ?_
    show Steps p.tables e below (s₁.setTop (mkF m 54 #[.val (.int p0), .val (.long q1), .second, .val (.long q2), .second, .val (.long q3), .second, .val (.long q4), .second, .val (.long q5), .second, .val (.int xa), .val (.int xb), .val (.long q1), .second, .val (.long xm), .second, .unset, .unset, .unset, .unset, .unset, .unset, .unset, .unset, .unset, .unset, .unset, .unset, .unset, .unset, .unset, .unset, .unset] [])) _
    refine XS.lload X0.here hx rfl (hb hby at_54) rfl ?_
    show Steps p.tables e below (s₁.setTop (mkF m 56 #[.val (.int p0), .val (.long q1), .second, .val (.long q2), .second, .val (.long q3), .second, .val (.long q4), .second, .val (.long q5), .second, .val (.int xa), .val (.int xb), .val (.long q1), .second, .val (.long xm), .second, .unset, .unset, .unset, .unset, .unset, .unset, .unset, .unset, .unset, .unset, .unset, .unset, .unset, .unset, .unset, .unset, .unset] [(.long q3)])) _
    refine XS.lstore X0.here hx rfl (hb hby at_56) rfl (l' := #[.val (.int p0), .val (.long q1), .second, .val (.long q2), .second, .val (.long q3), .second, .val (.long q4), .second, .val (.long q5), .second, .val (.int xa), .val (.int xb), .val (.long q1), .second, .val (.long xm), .second, .val (.long q3), .second, .unset, .unset, .unset, .unset, .unset, .unset, .unset, .unset, .unset, .unset, .unset, .unset, .unset, .unset, .unset]) rfl ?_
    show Steps p.tables e below (s₁.setTop (mkF m 58 #[.val (.int p0), .val (.long q1), .second, .val (.long q2), .second, .val (.long q3), .second, .val (.long q4), .second, .val (.long q5), .second, .val (.int xa), .val (.int xb), .val (.long q1), .second, .val (.long xm), .second, .val (.long q3), .second, .unset, .unset, .unset, .unset, .unset, .unset, .unset, .unset, .unset, .unset, .unset, .unset, .unset, .unset, .unset] [])) _
    refine XS.iloadN X0.here hx rfl (hb hby at_58) rfl ?_
    show Steps p.tables e below (s₁.setTop (mkF m 59 #[.val (.int p0), .val (.long q1), .second, .val (.long q2), .second, .val (.long q3), .second, .val (.long q4), .second, .val (.long q5), .second, .val (.int xa), .val (.int xb), .val (.long q1), .second, .val (.long xm), .second, .val (.long q3), .second, .unset, .unset, .unset, .unset, .unset, .unset, .unset, .unset, .unset, .unset, .unset, .unset, .unset, .unset, .unset] [(.int p0)])) _
    refine XS.bipush X0.here hx rfl (hb hby at_59) ?_
    show Steps p.tables e below (s₁.setTop (mkF m 61 #[.val (.int p0), .val (.long q1), .second, .val (.long q2), .second, .val (.long q3), .second, .val (.long q4), .second, .val (.long q5), .second, .val (.int xa), .val (.int xb), .val (.long q1), .second, .val (.long xm), .second, .val (.long q3), .second, .unset, .unset, .unset, .unset, .unset, .unset, .unset, .unset, .unset, .unset, .unset, .unset, .unset, .unset, .unset] [(.int (16 : Int32)), (.int p0)])) _
    refine XS.iand X0.here hx rfl (hb hby at_61) rfl ?_
    exact k)
  obtain ⟨xd, hxd⟩ : ∃ z : Int64, z = (if (p0 &&& (16 : Int32)) = (0 : Int32) then q4 else q3) := ⟨_, rfl⟩
  have pre23 : ∀ t, Steps p.tables e below (s₁.setTop (mkF m 72 #[.val (.int p0), .val (.long q1), .second, .val (.long q2), .second, .val (.long q3), .second, .val (.long q4), .second, .val (.long q5), .second, .val (.int xa), .val (.int xb), .val (.long q1), .second, .val (.long xm), .second, .val (.long q3), .second, .unset, .unset, .unset, .unset, .unset, .unset, .unset, .unset, .unset, .unset, .unset, .unset, .unset, .unset, .unset] [(.long xd)])) t → Steps p.tables e below (s₁.setTop (entryFrame m #[(.int p0), (.long q1), (.long q2), (.long q3), (.long q4), (.long q5)] maxLocals)) t := fun t k => pre21 t (by
    by_cases hm22 : (p0 &&& (16 : Int32)) = (0 : Int32)
    · rw [show xd = q4 from by rw [hxd, if_pos hm22]] at k
      refine XS.ifYes X0.here hx rfl (pc0 := 62) (pc' := 70) rfl (hb hby at_62) rfl ((if0 _ _).trans (teq hm22).1) (by decide) (by decide) ?_
      show Steps p.tables e below (s₁.setTop (mkF m 70 #[.val (.int p0), .val (.long q1), .second, .val (.long q2), .second, .val (.long q3), .second, .val (.long q4), .second, .val (.long q5), .second, .val (.int xa), .val (.int xb), .val (.long q1), .second, .val (.long xm), .second, .val (.long q3), .second, .unset, .unset, .unset, .unset, .unset, .unset, .unset, .unset, .unset, .unset, .unset, .unset, .unset, .unset, .unset] [])) _
      refine XS.lload X0.here hx rfl (hb hby at_70) rfl ?_
      exact k
    · rw [show xd = q3 from by rw [hxd, if_neg hm22]] at k
      refine XS.ifNo X0.here hx rfl (hb hby at_62) rfl ((if0 _ _).trans (feq hm22).1) ?_
      show Steps p.tables e below (s₁.setTop (mkF m 65 #[.val (.int p0), .val (.long q1), .second, .val (.long q2), .second, .val (.long q3), .second, .val (.long q4), .second, .val (.long q5), .second, .val (.int xa), .val (.int xb), .val (.long q1), .second, .val (.long xm), .second, .val (.long q3), .second, .unset, .unset, .unset, .unset, .unset, .unset, .unset, .unset, .unset, .unset, .unset, .unset, .unset, .unset, .unset] [])) _
      refine XS.lload X0.here hx rfl (hb hby at_65) rfl ?_
      show Steps p.tables e below (s₁.setTop (mkF m 67 #[.val (.int p0), .val (.long q1), .second, .val (.long q2), .second, .val (.long q3), .second, .val (.long q4), .second, .val (.long q5), .second, .val (.int xa), .val (.int xb), .val (.long q1), .second, .val (.long xm), .second, .val (.long q3), .second, .unset, .unset, .unset, .unset, .unset, .unset, .unset, .unset, .unset, .unset, .unset, .unset, .unset, .unset, .unset] [(.long q3)])) _
      refine XS.goto X0.here hx rfl (pc0 := 67) (pc' := 72) rfl (hb hby at_67) (by decide) (by decide) ?_
      exact k)
  have pre24 : ∀ t, Steps p.tables e below (s₁.setTop (mkF m 82 #[.val (.int p0), .val (.long q1), .second, .val (.long q2), .second, .val (.long q3), .second, .val (.long q4), .second, .val (.long q5), .second, .val (.int xa), .val (.int xb), .val (.long q1), .second, .val (.long xm), .second, .val (.long q3), .second, .val (.long xd), .second, .val (.long q5), .second, .unset, .unset, .unset, .unset, .unset, .unset, .unset, .unset, .unset, .unset, .unset] [(.int (p0 &&& (32 : Int32)))])) t → Steps p.tables e below (s₁.setTop (entryFrame m #[(.int p0), (.long q1), (.long q2), (.long q3), (.long q4), (.long q5)] maxLocals)) t := fun t k => pre23 t (by
    refine XS.lstore X0.here hx rfl (hb hby at_72) rfl (l' := #[.val (.int p0), .val (.long q1), .second, .val (.long q2), .second, .val (.long q3), .second, .val (.long q4), .second, .val (.long q5), .second, .val (.int xa), .val (.int xb), .val (.long q1), .second, .val (.long xm), .second, .val (.long q3), .second, .val (.long xd), .second, .unset, .unset, .unset, .unset, .unset, .unset, .unset, .unset, .unset, .unset, .unset, .unset, .unset]) rfl ?_
    show Steps p.tables e below (s₁.setTop (mkF m 74 #[.val (.int p0), .val (.long q1), .second, .val (.long q2), .second, .val (.long q3), .second, .val (.long q4), .second, .val (.long q5), .second, .val (.int xa), .val (.int xb), .val (.long q1), .second, .val (.long xm), .second, .val (.long q3), .second, .val (.long xd), .second, .unset, .unset, .unset, .unset, .unset, .unset, .unset, .unset, .unset, .unset, .unset, .unset, .unset] [])) _
    refine XS.lload X0.here hx rfl (hb hby at_74) rfl ?_
    show Steps p.tables e below (s₁.setTop (mkF m 76 #[.val (.int p0), .val (.long q1), .second, .val (.long q2), .second, .val (.long q3), .second, .val (.long q4), .second, .val (.long q5), .second, .val (.int xa), .val (.int xb), .val (.long q1), .second, .val (.long xm), .second, .val (.long q3), .second, .val (.long xd), .second, .unset, .unset, .unset, .unset, .unset, .unset, .unset, .unset, .unset, .unset, .unset, .unset, .unset] [(.long q5)])) _
    refine XS.lstore X0.here hx rfl (hb hby at_76) rfl (l' := #[.val (.int p0), .val (.long q1), .second, .val (.long q2), .second, .val (.long q3), .second, .val (.long q4), .second, .val (.long q5), .second, .val (.int xa), .val (.int xb), .val (.long q1), .second, .val (.long xm), .second, .val (.long q3), .second, .val (.long xd), .second, .val (.long q5), .second, .unset, .unset, .unset, .unset, .unset, .unset, .unset, .unset, .unset, .unset, .unset]) rfl ?_
    show Steps p.tables e below (s₁.setTop (mkF m 78 #[.val (.int p0), .val (.long q1), .second, .val (.long q2), .second, .val (.long q3), .second, .val (.long q4), .second, .val (.long q5), .second, .val (.int xa), .val (.int xb), .val (.long q1), .second, .val (.long xm), .second, .val (.long q3), .second, .val (.long xd), .second, .val (.long q5), .second, .unset, .unset, .unset, .unset, .unset, .unset, .unset, .unset, .unset, .unset, .unset] [])) _
    refine XS.iloadN X0.here hx rfl (hb hby at_78) rfl ?_
    show Steps p.tables e below (s₁.setTop (mkF m 79 #[.val (.int p0), .val (.long q1), .second, .val (.long q2), .second, .val (.long q3), .second, .val (.long q4), .second, .val (.long q5), .second, .val (.int xa), .val (.int xb), .val (.long q1), .second, .val (.long xm), .second, .val (.long q3), .second, .val (.long xd), .second, .val (.long q5), .second, .unset, .unset, .unset, .unset, .unset, .unset, .unset, .unset, .unset, .unset, .unset] [(.int p0)])) _
    refine XS.bipush X0.here hx rfl (hb hby at_79) ?_
    show Steps p.tables e below (s₁.setTop (mkF m 81 #[.val (.int p0), .val (.long q1), .second, .val (.long q2), .second, .val (.long q3), .second, .val (.long q4), .second, .val (.long q5), .second, .val (.int xa), .val (.int xb), .val (.long q1), .second, .val (.long xm), .second, .val (.long q3), .second, .val (.long xd), .second, .val (.long q5), .second, .unset, .unset, .unset, .unset, .unset, .unset, .unset, .unset, .unset, .unset, .unset] [(.int (32 : Int32)), (.int p0)])) _
    refine XS.iand X0.here hx rfl (hb hby at_81) rfl ?_
    exact k)
  obtain ⟨xi, hxi⟩ : ∃ z : Int64, z = (if (p0 &&& (32 : Int32)) = (0 : Int32) then (q5 ^^^ (-1 : Int64)) else q5) := ⟨_, rfl⟩
  have pre26 : ∀ t, Steps p.tables e below (s₁.setTop (mkF m 96 #[.val (.int p0), .val (.long q1), .second, .val (.long q2), .second, .val (.long q3), .second, .val (.long q4), .second, .val (.long q5), .second, .val (.int xa), .val (.int xb), .val (.long q1), .second, .val (.long xm), .second, .val (.long q3), .second, .val (.long xd), .second, .val (.long q5), .second, .unset, .unset, .unset, .unset, .unset, .unset, .unset, .unset, .unset, .unset, .unset] [(.long xi)])) t → Steps p.tables e below (s₁.setTop (entryFrame m #[(.int p0), (.long q1), (.long q2), (.long q3), (.long q4), (.long q5)] maxLocals)) t := fun t k => pre24 t (by
    by_cases hm25 : (p0 &&& (32 : Int32)) = (0 : Int32)
    · rw [show xi = (q5 ^^^ (-1 : Int64)) from by rw [hxi, if_pos hm25]] at k
      refine XS.ifYes X0.here hx rfl (pc0 := 82) (pc' := 90) rfl (hb hby at_82) rfl ((if0 _ _).trans (teq hm25).1) (by decide) (by decide) ?_
      show Steps p.tables e below (s₁.setTop (mkF m 90 #[.val (.int p0), .val (.long q1), .second, .val (.long q2), .second, .val (.long q3), .second, .val (.long q4), .second, .val (.long q5), .second, .val (.int xa), .val (.int xb), .val (.long q1), .second, .val (.long xm), .second, .val (.long q3), .second, .val (.long xd), .second, .val (.long q5), .second, .unset, .unset, .unset, .unset, .unset, .unset, .unset, .unset, .unset, .unset, .unset] [])) _
      refine XS.lload X0.here hx rfl (hb hby at_90) rfl ?_
      show Steps p.tables e below (s₁.setTop (mkF m 92 #[.val (.int p0), .val (.long q1), .second, .val (.long q2), .second, .val (.long q3), .second, .val (.long q4), .second, .val (.long q5), .second, .val (.int xa), .val (.int xb), .val (.long q1), .second, .val (.long xm), .second, .val (.long q3), .second, .val (.long xd), .second, .val (.long q5), .second, .unset, .unset, .unset, .unset, .unset, .unset, .unset, .unset, .unset, .unset, .unset] [(.long q5)])) _
      refine X0.ldc2Long hx hown (mvT hZ (hw _ (List.mem_of_getElem? (i := 0) rfl))) (g := (mkF m 92 #[.val (.int p0), .val (.long q1), .second, .val (.long q2), .second, .val (.long q3), .second, .val (.long q4), .second, .val (.long q5), .second, .val (.int xa), .val (.int xb), .val (.long q1), .second, .val (.long xm), .second, .val (.long q3), .second, .val (.long xd), .second, .val (.long q5), .second, .unset, .unset, .unset, .unset, .unset, .unset, .unset, .unset, .unset, .unset, .unset] [(.long q5)])) rfl (hb hby at_92) _ ?_
      show Steps p.tables e below (s₁.setTop (mkF m 95 #[.val (.int p0), .val (.long q1), .second, .val (.long q2), .second, .val (.long q3), .second, .val (.long q4), .second, .val (.long q5), .second, .val (.int xa), .val (.int xb), .val (.long q1), .second, .val (.long xm), .second, .val (.long q3), .second, .val (.long xd), .second, .val (.long q5), .second, .unset, .unset, .unset, .unset, .unset, .unset, .unset, .unset, .unset, .unset, .unset] [(.long (-1 : Int64)), (.long q5)])) _
      refine XS.lxor X0.here hx rfl (hb hby at_95) rfl ?_
      exact k
    · rw [show xi = q5 from by rw [hxi, if_neg hm25]] at k
      refine XS.ifNo X0.here hx rfl (hb hby at_82) rfl ((if0 _ _).trans (feq hm25).1) ?_
      show Steps p.tables e below (s₁.setTop (mkF m 85 #[.val (.int p0), .val (.long q1), .second, .val (.long q2), .second, .val (.long q3), .second, .val (.long q4), .second, .val (.long q5), .second, .val (.int xa), .val (.int xb), .val (.long q1), .second, .val (.long xm), .second, .val (.long q3), .second, .val (.long xd), .second, .val (.long q5), .second, .unset, .unset, .unset, .unset, .unset, .unset, .unset, .unset, .unset, .unset, .unset] [])) _
      refine XS.lload X0.here hx rfl (hb hby at_85) rfl ?_
      show Steps p.tables e below (s₁.setTop (mkF m 87 #[.val (.int p0), .val (.long q1), .second, .val (.long q2), .second, .val (.long q3), .second, .val (.long q4), .second, .val (.long q5), .second, .val (.int xa), .val (.int xb), .val (.long q1), .second, .val (.long xm), .second, .val (.long q3), .second, .val (.long xd), .second, .val (.long q5), .second, .unset, .unset, .unset, .unset, .unset, .unset, .unset, .unset, .unset, .unset, .unset] [(.long q5)])) _
      refine XS.goto X0.here hx rfl (pc0 := 87) (pc' := 96) rfl (hb hby at_87) (by decide) (by decide) ?_
      exact k)
  have pre27 : ∀ t, Steps p.tables e below (s₁.setTop (mkF m 103 #[.val (.int p0), .val (.long q1), .second, .val (.long q2), .second, .val (.long q3), .second, .val (.long q4), .second, .val (.long q5), .second, .val (.int xa), .val (.int xb), .val (.long q1), .second, .val (.long xm), .second, .val (.long q3), .second, .val (.long xd), .second, .val (.long q5), .second, .val (.long xi), .second, .val (.int (q5.toInt32)), .unset, .unset, .unset, .unset, .unset, .unset, .unset, .unset] [])) t → Steps p.tables e below (s₁.setTop (entryFrame m #[(.int p0), (.long q1), (.long q2), (.long q3), (.long q4), (.long q5)] maxLocals)) t := fun t k => pre26 t (by
    refine XS.lstore X0.here hx rfl (hb hby at_96) rfl (l' := #[.val (.int p0), .val (.long q1), .second, .val (.long q2), .second, .val (.long q3), .second, .val (.long q4), .second, .val (.long q5), .second, .val (.int xa), .val (.int xb), .val (.long q1), .second, .val (.long xm), .second, .val (.long q3), .second, .val (.long xd), .second, .val (.long q5), .second, .val (.long xi), .second, .unset, .unset, .unset, .unset, .unset, .unset, .unset, .unset, .unset]) rfl ?_
    show Steps p.tables e below (s₁.setTop (mkF m 98 #[.val (.int p0), .val (.long q1), .second, .val (.long q2), .second, .val (.long q3), .second, .val (.long q4), .second, .val (.long q5), .second, .val (.int xa), .val (.int xb), .val (.long q1), .second, .val (.long xm), .second, .val (.long q3), .second, .val (.long xd), .second, .val (.long q5), .second, .val (.long xi), .second, .unset, .unset, .unset, .unset, .unset, .unset, .unset, .unset, .unset] [])) _
    refine XS.lload X0.here hx rfl (hb hby at_98) rfl ?_
    show Steps p.tables e below (s₁.setTop (mkF m 100 #[.val (.int p0), .val (.long q1), .second, .val (.long q2), .second, .val (.long q3), .second, .val (.long q4), .second, .val (.long q5), .second, .val (.int xa), .val (.int xb), .val (.long q1), .second, .val (.long xm), .second, .val (.long q3), .second, .val (.long xd), .second, .val (.long q5), .second, .val (.long xi), .second, .unset, .unset, .unset, .unset, .unset, .unset, .unset, .unset, .unset] [(.long q5)])) _
    refine XS.l2i X0.here hx rfl (hb hby at_100) rfl ?_
    show Steps p.tables e below (s₁.setTop (mkF m 101 #[.val (.int p0), .val (.long q1), .second, .val (.long q2), .second, .val (.long q3), .second, .val (.long q4), .second, .val (.long q5), .second, .val (.int xa), .val (.int xb), .val (.long q1), .second, .val (.long xm), .second, .val (.long q3), .second, .val (.long xd), .second, .val (.long q5), .second, .val (.long xi), .second, .unset, .unset, .unset, .unset, .unset, .unset, .unset, .unset, .unset] [(.int (q5.toInt32))])) _
    refine XS.istore X0.here hx rfl (hb hby at_101) rfl (l' := #[.val (.int p0), .val (.long q1), .second, .val (.long q2), .second, .val (.long q3), .second, .val (.long q4), .second, .val (.long q5), .second, .val (.int xa), .val (.int xb), .val (.long q1), .second, .val (.long xm), .second, .val (.long q3), .second, .val (.long xd), .second, .val (.long q5), .second, .val (.long xi), .second, .val (.int (q5.toInt32)), .unset, .unset, .unset, .unset, .unset, .unset, .unset, .unset]) rfl ?_
    exact k)
  obtain ⟨tt, htt⟩ : ∃ z, z = (q5.toInt32) := ⟨_, rfl⟩
  rw [← htt] at pre27
  have pre28 : ∀ t, Steps p.tables e below (s₁.setTop (mkF m 107 #[.val (.int p0), .val (.long q1), .second, .val (.long q2), .second, .val (.long q3), .second, .val (.long q4), .second, .val (.long q5), .second, .val (.int xa), .val (.int xb), .val (.long q1), .second, .val (.long xm), .second, .val (.long q3), .second, .val (.long xd), .second, .val (.long q5), .second, .val (.long xi), .second, .val (.int tt), .unset, .unset, .unset, .unset, .unset, .unset, .unset, .unset] [(.int (p0 &&& (64 : Int32)))])) t → Steps p.tables e below (s₁.setTop (entryFrame m #[(.int p0), (.long q1), (.long q2), (.long q3), (.long q4), (.long q5)] maxLocals)) t := fun t k => pre27 t (by
    refine XS.iloadN X0.here hx rfl (hb hby at_103) rfl ?_
    show Steps p.tables e below (s₁.setTop (mkF m 104 #[.val (.int p0), .val (.long q1), .second, .val (.long q2), .second, .val (.long q3), .second, .val (.long q4), .second, .val (.long q5), .second, .val (.int xa), .val (.int xb), .val (.long q1), .second, .val (.long xm), .second, .val (.long q3), .second, .val (.long xd), .second, .val (.long q5), .second, .val (.long xi), .second, .val (.int tt), .unset, .unset, .unset, .unset, .unset, .unset, .unset, .unset] [(.int p0)])) _
    refine XS.bipush X0.here hx rfl (hb hby at_104) ?_
    show Steps p.tables e below (s₁.setTop (mkF m 106 #[.val (.int p0), .val (.long q1), .second, .val (.long q2), .second, .val (.long q3), .second, .val (.long q4), .second, .val (.long q5), .second, .val (.int xa), .val (.int xb), .val (.long q1), .second, .val (.long xm), .second, .val (.long q3), .second, .val (.long xd), .second, .val (.long q5), .second, .val (.long xi), .second, .val (.int tt), .unset, .unset, .unset, .unset, .unset, .unset, .unset, .unset] [(.int (64 : Int32)), (.int p0)])) _
    refine XS.iand X0.here hx rfl (hb hby at_106) rfl ?_
    exact k)
  obtain ⟨xt, hxt⟩ : ∃ z : Int32, z = (if (p0 &&& (64 : Int32)) = (0 : Int32) then (((q5.toUInt64 >>> ((32 : Int32) &&& 0x3f).toInt64.toUInt64).toInt64).toInt32) else tt) := ⟨_, rfl⟩
  have pre30 : ∀ t, Steps p.tables e below (s₁.setTop (mkF m 121 #[.val (.int p0), .val (.long q1), .second, .val (.long q2), .second, .val (.long q3), .second, .val (.long q4), .second, .val (.long q5), .second, .val (.int xa), .val (.int xb), .val (.long q1), .second, .val (.long xm), .second, .val (.long q3), .second, .val (.long xd), .second, .val (.long q5), .second, .val (.long xi), .second, .val (.int tt), .unset, .unset, .unset, .unset, .unset, .unset, .unset, .unset] [(.int xt)])) t → Steps p.tables e below (s₁.setTop (entryFrame m #[(.int p0), (.long q1), (.long q2), (.long q3), (.long q4), (.long q5)] maxLocals)) t := fun t k => pre28 t (by
    by_cases hm29 : (p0 &&& (64 : Int32)) = (0 : Int32)
    · rw [show xt = (((q5.toUInt64 >>> ((32 : Int32) &&& 0x3f).toInt64.toUInt64).toInt64).toInt32) from by rw [hxt, if_pos hm29]] at k
      refine XS.ifYes X0.here hx rfl (pc0 := 107) (pc' := 115) rfl (hb hby at_107) rfl ((if0 _ _).trans (teq hm29).1) (by decide) (by decide) ?_
      show Steps p.tables e below (s₁.setTop (mkF m 115 #[.val (.int p0), .val (.long q1), .second, .val (.long q2), .second, .val (.long q3), .second, .val (.long q4), .second, .val (.long q5), .second, .val (.int xa), .val (.int xb), .val (.long q1), .second, .val (.long xm), .second, .val (.long q3), .second, .val (.long xd), .second, .val (.long q5), .second, .val (.long xi), .second, .val (.int tt), .unset, .unset, .unset, .unset, .unset, .unset, .unset, .unset] [])) _
      refine XS.lload X0.here hx rfl (hb hby at_115) rfl ?_
      show Steps p.tables e below (s₁.setTop (mkF m 117 #[.val (.int p0), .val (.long q1), .second, .val (.long q2), .second, .val (.long q3), .second, .val (.long q4), .second, .val (.long q5), .second, .val (.int xa), .val (.int xb), .val (.long q1), .second, .val (.long xm), .second, .val (.long q3), .second, .val (.long xd), .second, .val (.long q5), .second, .val (.long xi), .second, .val (.int tt), .unset, .unset, .unset, .unset, .unset, .unset, .unset, .unset] [(.long q5)])) _
      refine XS.bipush X0.here hx rfl (hb hby at_117) ?_
      show Steps p.tables e below (s₁.setTop (mkF m 119 #[.val (.int p0), .val (.long q1), .second, .val (.long q2), .second, .val (.long q3), .second, .val (.long q4), .second, .val (.long q5), .second, .val (.int xa), .val (.int xb), .val (.long q1), .second, .val (.long xm), .second, .val (.long q3), .second, .val (.long xd), .second, .val (.long q5), .second, .val (.long xi), .second, .val (.int tt), .unset, .unset, .unset, .unset, .unset, .unset, .unset, .unset] [(.int (32 : Int32)), (.long q5)])) _
      refine XS.lushr X0.here hx rfl (hb hby at_119) rfl ?_
      show Steps p.tables e below (s₁.setTop (mkF m 120 #[.val (.int p0), .val (.long q1), .second, .val (.long q2), .second, .val (.long q3), .second, .val (.long q4), .second, .val (.long q5), .second, .val (.int xa), .val (.int xb), .val (.long q1), .second, .val (.long xm), .second, .val (.long q3), .second, .val (.long xd), .second, .val (.long q5), .second, .val (.long xi), .second, .val (.int tt), .unset, .unset, .unset, .unset, .unset, .unset, .unset, .unset] [(.long ((q5.toUInt64 >>> ((32 : Int32) &&& 0x3f).toInt64.toUInt64).toInt64))])) _
      refine XS.l2i X0.here hx rfl (hb hby at_120) rfl ?_
      exact k
    · rw [show xt = tt from by rw [hxt, if_neg hm29]] at k
      refine XS.ifNo X0.here hx rfl (hb hby at_107) rfl ((if0 _ _).trans (feq hm29).1) ?_
      show Steps p.tables e below (s₁.setTop (mkF m 110 #[.val (.int p0), .val (.long q1), .second, .val (.long q2), .second, .val (.long q3), .second, .val (.long q4), .second, .val (.long q5), .second, .val (.int xa), .val (.int xb), .val (.long q1), .second, .val (.long xm), .second, .val (.long q3), .second, .val (.long xd), .second, .val (.long q5), .second, .val (.long xi), .second, .val (.int tt), .unset, .unset, .unset, .unset, .unset, .unset, .unset, .unset] [])) _
      refine XS.iload X0.here hx rfl (hb hby at_110) rfl ?_
      show Steps p.tables e below (s₁.setTop (mkF m 112 #[.val (.int p0), .val (.long q1), .second, .val (.long q2), .second, .val (.long q3), .second, .val (.long q4), .second, .val (.long q5), .second, .val (.int xa), .val (.int xb), .val (.long q1), .second, .val (.long xm), .second, .val (.long q3), .second, .val (.long xd), .second, .val (.long q5), .second, .val (.long xi), .second, .val (.int tt), .unset, .unset, .unset, .unset, .unset, .unset, .unset, .unset] [(.int tt)])) _
      refine XS.goto X0.here hx rfl (pc0 := 112) (pc' := 121) rfl (hb hby at_112) (by decide) (by decide) ?_
      exact k)
  obtain ⟨T31, h31, X31, e31, E31, A31, D31, -, st31⟩ := newO X0 hx hZ hown (hw _ (List.mem_of_getElem? (i := 1) rfl)) (hw _ (List.mem_of_getElem? (i := 2) rfl)) (hw _ (List.mem_of_getElem? (i := 3) rfl)) e0 (g := (mkF m 123 #[.val (.int p0), .val (.long q1), .second, .val (.long q2), .second, .val (.long q3), .second, .val (.long q4), .second, .val (.long q5), .second, .val (.int xa), .val (.int xb), .val (.long q1), .second, .val (.long xm), .second, .val (.long q3), .second, .val (.long xd), .second, .val (.long q5), .second, .val (.long xi), .second, .val (.int tt), .val (.int xt), .unset, .unset, .unset, .unset, .unset, .unset, .unset] [])) rfl (hb hby at_123) (by decide) (by decide)
  obtain ⟨b31, gb31⟩ : ∃ z, z = h0.size := ⟨_, rfl⟩
  rw [← gb31] at A31 D31 st31
  have g32 : n0 ≤ b31 := Nat.le_trans Z0 (Nat.le_of_eq gb31.symm)
  have Z33 : n0 ≤ h31.size := Nat.le_trans Z0 E31.1
  have F31_files : Fld Z h31 b31 "com/example/conceptary/conceptary/SnapshotRows" "files" "Ljava/util/List;" .null := D31 (Or.inr (hw _ (List.mem_of_getElem? (i := 40) rfl))) (ty := (.object "java/util/List")) (by decide)
  have F31_effectiveTimes : Fld Z h31 b31 "com/example/conceptary/conceptary/SnapshotRows" "effectiveTimes" "[I" .null := D31 (Or.inl (hw _ (List.mem_of_getElem? (i := 43) rfl))) (ty := (.array .int)) (by decide)
  have F31_fileIndexes : Fld Z h31 b31 "com/example/conceptary/conceptary/SnapshotRows" "fileIndexes" "[I" .null := D31 (Or.inl (hw _ (List.mem_of_getElem? (i := 45) rfl))) (ty := (.array .int)) (by decide)
  have F31_lines : Fld Z h31 b31 "com/example/conceptary/conceptary/SnapshotRows" "lines" "[I" .null := D31 (Or.inl (hw _ (List.mem_of_getElem? (i := 47) rfl))) (ty := (.array .int)) (by decide)
  have F31_ids : Fld Z h31 b31 "com/example/conceptary/conceptary/ConceptTable$Builder" "ids" "[J" .null := D31 (Or.inl (hw _ (List.mem_of_getElem? (i := 50) rfl))) (ty := (.array .long)) (by decide)
  have F31_actives : Fld Z h31 b31 "com/example/conceptary/conceptary/ConceptTable$Builder" "actives" "[Z" .null := D31 (Or.inl (hw _ (List.mem_of_getElem? (i := 53) rfl))) (ty := (.array .boolean)) (by decide)
  have F31_moduleIds : Fld Z h31 b31 "com/example/conceptary/conceptary/ConceptTable$Builder" "moduleIds" "[J" .null := D31 (Or.inl (hw _ (List.mem_of_getElem? (i := 55) rfl))) (ty := (.array .long)) (by decide)
  have F31_definitionStatusIds : Fld Z h31 b31 "com/example/conceptary/conceptary/ConceptTable$Builder" "definitionStatusIds" "[J" .null := D31 (Or.inl (hw _ (List.mem_of_getElem? (i := 57) rfl))) (ty := (.array .long)) (by decide)
  have F31_size : Fld Z h31 b31 "com/example/conceptary/conceptary/SnapshotRows" "size" "I" (.int (0 : Int32)) := D31 (Or.inl (hw _ (List.mem_of_getElem? (i := 97) rfl))) (ty := .int) (by decide)
  have S35 : Sta Z h31 "java/util/ArrayList" "DEFAULTCAPACITY_EMPTY_ELEMENTDATA" "[Ljava/lang/Object;" (.ref sd) := (hp0.ext E31)
  obtain ⟨_, _, ⟨T34, L34, k34, n34⟩, -, X34, ⟨Lc34, hQ34, l34, y34, z34⟩, st34⟩ := X31.specialBack hx (y := (⟨"com/example/conceptary/conceptary/ConceptTable$Builder", "<init>", "()V"⟩ : MethodName)) rfl hown (mvT hZ (hw _ (List.mem_of_getElem? (i := 4) rfl))) (mvT hZ (hw _ (List.mem_of_getElem? (i := 5) rfl))) (mvT hZ (hw _ (List.mem_of_getElem? (i := 6) rfl))) (by decide) (backOf (W := 1) (rm1 l Z a0 hw [] b31 sd h31 n0 Z33 A31 F31_files F31_effectiveTimes F31_fileIndexes F31_lines F31_size F31_ids F31_actives F31_moduleIds F31_definitionStatusIds g32 S35) hZ (hw _ (List.mem_of_getElem? (i := 6) rfl)) (hw _ (List.mem_of_getElem? (i := 3) rfl)) (by decide) (by decide)) (g := (mkF m 127 #[.val (.int p0), .val (.long q1), .second, .val (.long q2), .second, .val (.long q3), .second, .val (.long q4), .second, .val (.long q5), .second, .val (.int xa), .val (.int xb), .val (.long q1), .second, .val (.long xm), .second, .val (.long q3), .second, .val (.long xd), .second, .val (.long q5), .second, .val (.long xi), .second, .val (.int tt), .val (.int xt), .unset, .unset, .unset, .unset, .unset, .unset, .unset] [(.ref b31), (.ref b31)])) rfl (by rw [hml]; rfl) (Steps.refl _) (a := b31) (argsL := []) (rest := [(.ref b31)]) (lenOf pd_0 rfl) rfl (by show 2 * 0 + _ ≤ _; exact Nat.le_of_eq rfl) (hb hby at_127) (fun _ _ => ⟨rfl, e31, (by decide : 1 + 8 ≤ _), (by decide : 9 + 7171 ≤ _)⟩)
  dsimp only [Pt.U, Pt.locs, Pt.cells, Pt.slots] at X34 l34 y34 z34 st34 hQ34
  subst l34 y34 z34
  obtain ⟨fb_34, e1_34, e2_34, e3_34, i1_34, ac_34, mo_34, de_34, rfl, Nq34, u34_0, u34_1, u34_2, u34_3, u34_4, u34_5, u34_6, u34_7, u34_8, u34_9, u34_10, u34_11, u34_12, u34_13, u34_14, u34_15, u34_16, u34_17, u34_18, u34_19, u34_20, u34_21, u34_22, u34_23, u34_24, u34_25, u34_26, u34_27, u34_28, u34_29, u34_30, u34_31, u34_32, u34_33, u34_34, u34_35, u34_36, u34_37, u34_38, u34_39, u34_40, u34_41, u34_42, u34_43, u34_44, u34_45, u34_46, u34_47, u34_48, u34_49, u34_50, u34_51, u34_52, u34_53, u34_54, u34_55⟩ := hQ34
  have N34 := Fr.app N0 Nq34
  have ne36 : b31 ≠ fb_34 := Nat.ne_of_lt (Nat.lt_of_lt_of_le A31.lt u34_20)
  have g37 : n0 ≤ fb_34 := Nat.le_trans Z33 u34_20
  have ne38 : b31 ≠ e1_34 := Nat.ne_of_lt (Nat.lt_of_lt_of_le A31.lt u34_21)
  have g39 : n0 ≤ e1_34 := Nat.le_trans Z33 u34_21
  have ne40 : b31 ≠ e2_34 := Nat.ne_of_lt (Nat.lt_of_lt_of_le A31.lt u34_22)
  have g41 : n0 ≤ e2_34 := Nat.le_trans Z33 u34_22
  have ne42 : b31 ≠ e3_34 := Nat.ne_of_lt (Nat.lt_of_lt_of_le A31.lt u34_23)
  have g43 : n0 ≤ e3_34 := Nat.le_trans Z33 u34_23
  have ne44 : b31 ≠ i1_34 := Nat.ne_of_lt (Nat.lt_of_lt_of_le A31.lt u34_24)
  have g45 : n0 ≤ i1_34 := Nat.le_trans Z33 u34_24
  have ne46 : b31 ≠ ac_34 := Nat.ne_of_lt (Nat.lt_of_lt_of_le A31.lt u34_25)
  have g47 : n0 ≤ ac_34 := Nat.le_trans Z33 u34_25
  have ne48 : b31 ≠ mo_34 := Nat.ne_of_lt (Nat.lt_of_lt_of_le A31.lt u34_26)
  have g49 : n0 ≤ mo_34 := Nat.le_trans Z33 u34_26
  have ne50 : b31 ≠ de_34 := Nat.ne_of_lt (Nat.lt_of_lt_of_le A31.lt u34_27)
  have g51 : n0 ≤ de_34 := Nat.le_trans Z33 u34_27
  have Z52 : n0 ≤ T34.heap.size := Nat.le_trans Z33 u34_0.1
  obtain ⟨T53, h53, X53, e53, E53, A53, D53, -, st53⟩ := newO X34 hx hZ hown (hw _ (List.mem_of_getElem? (i := 58) rfl)) (hw _ (List.mem_of_getElem? (i := 59) rfl)) (hw _ (List.mem_of_getElem? (i := 60) rfl)) rfl (g := (mkF m 132 #[.val (.int p0), .val (.long q1), .second, .val (.long q2), .second, .val (.long q3), .second, .val (.long q4), .second, .val (.long q5), .second, .val (.int xa), .val (.int xb), .val (.long q1), .second, .val (.long xm), .second, .val (.long q3), .second, .val (.long xd), .second, .val (.long q5), .second, .val (.long xi), .second, .val (.int tt), .val (.int xt), .val (.ref b31), .unset, .unset, .unset, .unset, .unset, .unset] [])) rfl (hb hby at_132) (by decide) (by decide)
  obtain ⟨b53, gb53⟩ : ∃ z, z = T34.heap.size := ⟨_, rfl⟩
  rw [← gb53] at A53 D53 st53
  have ne54 : b31 ≠ b53 := Nat.ne_of_lt (Nat.lt_of_lt_of_le u34_1.lt (Nat.le_of_eq gb53.symm))
  have ne55 : fb_34 ≠ b53 := Nat.ne_of_lt (Nat.lt_of_lt_of_le u34_11.lt (Nat.le_of_eq gb53.symm))
  have ne56 : e1_34 ≠ b53 := Nat.ne_of_lt (Nat.lt_of_lt_of_le u34_13.lt (Nat.le_of_eq gb53.symm))
  have ne57 : e2_34 ≠ b53 := Nat.ne_of_lt (Nat.lt_of_lt_of_le u34_14.lt (Nat.le_of_eq gb53.symm))
  have ne58 : e3_34 ≠ b53 := Nat.ne_of_lt (Nat.lt_of_lt_of_le u34_15.lt (Nat.le_of_eq gb53.symm))
  have ne59 : i1_34 ≠ b53 := Nat.ne_of_lt (Nat.lt_of_lt_of_le u34_16.lt (Nat.le_of_eq gb53.symm))
  have ne60 : ac_34 ≠ b53 := Nat.ne_of_lt (Nat.lt_of_lt_of_le u34_17.lt (Nat.le_of_eq gb53.symm))
  have ne61 : mo_34 ≠ b53 := Nat.ne_of_lt (Nat.lt_of_lt_of_le u34_18.lt (Nat.le_of_eq gb53.symm))
  have ne62 : de_34 ≠ b53 := Nat.ne_of_lt (Nat.lt_of_lt_of_le u34_19.lt (Nat.le_of_eq gb53.symm))
  have g63 : n0 ≤ b53 := Nat.le_trans Z52 (Nat.le_of_eq gb53.symm)
  have Z64 : n0 ≤ h53.size := Nat.le_trans Z52 E53.1
  have F53_id : Fld Z h53 b53 "com/example/conceptary/conceptary/Concept" "id" "J" (.long (0 : Int64)) := D53 (Or.inr (hw _ (List.mem_of_getElem? (i := 71) rfl))) (ty := .long) (by decide)
  have F53_effectiveTime : Fld Z h53 b53 "com/example/conceptary/conceptary/Concept" "effectiveTime" "I" (.int (0 : Int32)) := D53 (Or.inr (hw _ (List.mem_of_getElem? (i := 73) rfl))) (ty := .int) (by decide)
  have F53_active : Fld Z h53 b53 "com/example/conceptary/conceptary/Concept" "active" "Z" (.int (0 : Int32)) := D53 (Or.inr (hw _ (List.mem_of_getElem? (i := 75) rfl))) (ty := .boolean) (by decide)
  have F53_moduleId : Fld Z h53 b53 "com/example/conceptary/conceptary/Concept" "moduleId" "J" (.long (0 : Int64)) := D53 (Or.inr (hw _ (List.mem_of_getElem? (i := 77) rfl))) (ty := .long) (by decide)
  have F53_definitionStatusId : Fld Z h53 b53 "com/example/conceptary/conceptary/Concept" "definitionStatusId" "J" (.long (0 : Int64)) := D53 (Or.inr (hw _ (List.mem_of_getElem? (i := 79) rfl))) (ty := .long) (by decide)
  obtain ⟨_, _, ⟨T65, L65, k65, n65⟩, -, X65, ⟨Lc65, hQ65, l65, y65, z65⟩, st65⟩ := X53.specialBack hx (y := (⟨"com/example/conceptary/conceptary/Concept", "<init>", "(JIZJJ)V"⟩ : MethodName)) rfl hown (mvT hZ (hw _ (List.mem_of_getElem? (i := 61) rfl))) (mvT hZ (hw _ (List.mem_of_getElem? (i := 62) rfl))) (mvT hZ (hw _ (List.mem_of_getElem? (i := 63) rfl))) (by decide) (backOf (W := 1) (rm7 l Z a0 hw [] b53 q5 tt xa q1 q3  h53 n0 Z64 A53 F53_id F53_effectiveTime F53_active F53_moduleId F53_definitionStatusId g63 Bxa) hZ (hw _ (List.mem_of_getElem? (i := 63) rfl)) (hw _ (List.mem_of_getElem? (i := 60) rfl)) (by decide) (by decide)) (g := (mkF m 146 #[.val (.int p0), .val (.long q1), .second, .val (.long q2), .second, .val (.long q3), .second, .val (.long q4), .second, .val (.long q5), .second, .val (.int xa), .val (.int xb), .val (.long q1), .second, .val (.long xm), .second, .val (.long q3), .second, .val (.long xd), .second, .val (.long q5), .second, .val (.long xi), .second, .val (.int tt), .val (.int xt), .val (.ref b31), .unset, .unset, .unset, .unset, .unset, .unset] [(.long q3), (.long q1), (.int xa), (.int tt), (.long q5), (.ref b53), (.ref b53)])) rfl (by rw [hml]; rfl) (Steps.refl _) (a := b53) (argsL := [(.long q5), (.int tt), (.int xa), (.long q1), (.long q3)]) (rest := [(.ref b53)]) (lenOf pd_5 rfl) rfl (by show 2 * 0 + _ ≤ _; exact Nat.le_of_eq rfl) (hb hby at_146) (fun _ _ => ⟨rfl, e53, (by decide : 10 + 0 ≤ _), (by decide : 7185 + 0 ≤ _)⟩)
  dsimp only [Pt.U, Pt.locs, Pt.cells, Pt.slots] at X65 l65 y65 z65 st65 hQ65
  subst l65 y65 z65
  obtain ⟨rfl, Nq65, u65_0, u65_1, u65_2, u65_3, u65_4, u65_5, u65_6⟩ := hQ65
  have N65 := Fr.app N34 Nq65
  have Z66 : n0 ≤ T65.heap.size := Nat.le_trans Z64 u65_0.1
  obtain ⟨T67, h67, X67, e67, E67, A67, D67, -, st67⟩ := newO X65 hx hZ hown (hw _ (List.mem_of_getElem? (i := 58) rfl)) (hw _ (List.mem_of_getElem? (i := 59) rfl)) (hw _ (List.mem_of_getElem? (i := 60) rfl)) rfl (g := (mkF m 151 #[.val (.int p0), .val (.long q1), .second, .val (.long q2), .second, .val (.long q3), .second, .val (.long q4), .second, .val (.long q5), .second, .val (.int xa), .val (.int xb), .val (.long q1), .second, .val (.long xm), .second, .val (.long q3), .second, .val (.long xd), .second, .val (.long q5), .second, .val (.long xi), .second, .val (.int tt), .val (.int xt), .val (.ref b31), .val (.ref b53), .unset, .unset, .unset, .unset, .unset] [])) rfl (hb hby at_151) (by decide) (by decide)
  obtain ⟨b67, gb67⟩ : ∃ z, z = T65.heap.size := ⟨_, rfl⟩
  rw [← gb67] at A67 D67 st67
  have E69 : Exa Z T65.heap b31 "com/example/conceptary/conceptary/ConceptTable$Builder" := ((u34_1.ext E53).keep u65_0)
  have ne68 : b31 ≠ b67 := Nat.ne_of_lt (Nat.lt_of_lt_of_le E69.lt (Nat.le_of_eq gb67.symm))
  have E71 : Exa Z T65.heap fb_34 "java/util/ArrayList" := ((u34_11.ext E53).keep u65_0)
  have ne70 : fb_34 ≠ b67 := Nat.ne_of_lt (Nat.lt_of_lt_of_le E71.lt (Nat.le_of_eq gb67.symm))
  have V73 : AI Z T65.heap e1_34 .int (1024 : Int32) (fun _ => (0 : Int32)) := ((u34_13.ext E53).keep u65_0 (ninS ne56 nin0))
  have ne72 : e1_34 ≠ b67 := Nat.ne_of_lt (Nat.lt_of_lt_of_le V73.lt (Nat.le_of_eq gb67.symm))
  have V75 : AI Z T65.heap e2_34 .int (1024 : Int32) (fun _ => (0 : Int32)) := ((u34_14.ext E53).keep u65_0 (ninS ne57 nin0))
  have ne74 : e2_34 ≠ b67 := Nat.ne_of_lt (Nat.lt_of_lt_of_le V75.lt (Nat.le_of_eq gb67.symm))
  have V77 : AI Z T65.heap e3_34 .int (1024 : Int32) (fun _ => (0 : Int32)) := ((u34_15.ext E53).keep u65_0 (ninS ne58 nin0))
  have ne76 : e3_34 ≠ b67 := Nat.ne_of_lt (Nat.lt_of_lt_of_le V77.lt (Nat.le_of_eq gb67.symm))
  have V79 : AL Z T65.heap i1_34 (1024 : Int32) (fun _ => (0 : Int64)) := ((u34_16.ext E53).keep u65_0 (ninS ne59 nin0))
  have ne78 : i1_34 ≠ b67 := Nat.ne_of_lt (Nat.lt_of_lt_of_le V79.lt (Nat.le_of_eq gb67.symm))
  have V81 : AI Z T65.heap ac_34 .boolean (1024 : Int32) (fun _ => (0 : Int32)) := ((u34_17.ext E53).keep u65_0 (ninS ne60 nin0))
  have ne80 : ac_34 ≠ b67 := Nat.ne_of_lt (Nat.lt_of_lt_of_le V81.lt (Nat.le_of_eq gb67.symm))
  have V83 : AL Z T65.heap mo_34 (1024 : Int32) (fun _ => (0 : Int64)) := ((u34_18.ext E53).keep u65_0 (ninS ne61 nin0))
  have ne82 : mo_34 ≠ b67 := Nat.ne_of_lt (Nat.lt_of_lt_of_le V83.lt (Nat.le_of_eq gb67.symm))
  have V85 : AL Z T65.heap de_34 (1024 : Int32) (fun _ => (0 : Int64)) := ((u34_19.ext E53).keep u65_0 (ninS ne62 nin0))
  have ne84 : de_34 ≠ b67 := Nat.ne_of_lt (Nat.lt_of_lt_of_le V85.lt (Nat.le_of_eq gb67.symm))
  have ne86 : b53 ≠ b67 := Nat.ne_of_lt (Nat.lt_of_lt_of_le u65_1.lt (Nat.le_of_eq gb67.symm))
  have g87 : n0 ≤ b67 := Nat.le_trans Z66 (Nat.le_of_eq gb67.symm)
  have Z88 : n0 ≤ h67.size := Nat.le_trans Z66 E67.1
  have F67_id : Fld Z h67 b67 "com/example/conceptary/conceptary/Concept" "id" "J" (.long (0 : Int64)) := D67 (Or.inr (hw _ (List.mem_of_getElem? (i := 71) rfl))) (ty := .long) (by decide)
  have F67_effectiveTime : Fld Z h67 b67 "com/example/conceptary/conceptary/Concept" "effectiveTime" "I" (.int (0 : Int32)) := D67 (Or.inr (hw _ (List.mem_of_getElem? (i := 73) rfl))) (ty := .int) (by decide)
  have F67_active : Fld Z h67 b67 "com/example/conceptary/conceptary/Concept" "active" "Z" (.int (0 : Int32)) := D67 (Or.inr (hw _ (List.mem_of_getElem? (i := 75) rfl))) (ty := .boolean) (by decide)
  have F67_moduleId : Fld Z h67 b67 "com/example/conceptary/conceptary/Concept" "moduleId" "J" (.long (0 : Int64)) := D67 (Or.inr (hw _ (List.mem_of_getElem? (i := 77) rfl))) (ty := .long) (by decide)
  have F67_definitionStatusId : Fld Z h67 b67 "com/example/conceptary/conceptary/Concept" "definitionStatusId" "J" (.long (0 : Int64)) := D67 (Or.inr (hw _ (List.mem_of_getElem? (i := 79) rfl))) (ty := .long) (by decide)
  obtain ⟨_, _, ⟨T89, L89, k89, n89⟩, -, X89, ⟨Lc89, hQ89, l89, y89, z89⟩, st89⟩ := X67.specialBack hx (y := (⟨"com/example/conceptary/conceptary/Concept", "<init>", "(JIZJJ)V"⟩ : MethodName)) rfl hown (mvT hZ (hw _ (List.mem_of_getElem? (i := 61) rfl))) (mvT hZ (hw _ (List.mem_of_getElem? (i := 62) rfl))) (mvT hZ (hw _ (List.mem_of_getElem? (i := 63) rfl))) (by decide) (backOf (W := 1) (rm7 l Z a0 hw [] b67 xi xt xb xm xd  h67 n0 Z88 A67 F67_id F67_effectiveTime F67_active F67_moduleId F67_definitionStatusId g87 Bxb) hZ (hw _ (List.mem_of_getElem? (i := 63) rfl)) (hw _ (List.mem_of_getElem? (i := 60) rfl)) (by decide) (by decide)) (g := (mkF m 165 #[.val (.int p0), .val (.long q1), .second, .val (.long q2), .second, .val (.long q3), .second, .val (.long q4), .second, .val (.long q5), .second, .val (.int xa), .val (.int xb), .val (.long q1), .second, .val (.long xm), .second, .val (.long q3), .second, .val (.long xd), .second, .val (.long q5), .second, .val (.long xi), .second, .val (.int tt), .val (.int xt), .val (.ref b31), .val (.ref b53), .unset, .unset, .unset, .unset, .unset] [(.long xd), (.long xm), (.int xb), (.int xt), (.long xi), (.ref b67), (.ref b67)])) rfl (by rw [hml]; rfl) (Steps.refl _) (a := b67) (argsL := [(.long xi), (.int xt), (.int xb), (.long xm), (.long xd)]) (rest := [(.ref b67)]) (lenOf pd_5 rfl) rfl (by show 2 * 0 + _ ≤ _; exact Nat.le_of_eq rfl) (hb hby at_165) (fun _ _ => ⟨rfl, e67, (by decide : 11 + 0 ≤ _), (by decide : 7190 + 0 ≤ _)⟩)
  dsimp only [Pt.U, Pt.locs, Pt.cells, Pt.slots] at X89 l89 y89 z89 st89 hQ89
  subst l89 y89 z89
  obtain ⟨rfl, Nq89, u89_0, u89_1, u89_2, u89_3, u89_4, u89_5, u89_6⟩ := hQ89
  have N89 := Fr.app N65 Nq89
  have Z90 : n0 ≤ T89.heap.size := Nat.le_trans Z88 u89_0.1
  have E92 : Exa Z T89.heap b31 "com/example/conceptary/conceptary/ConceptTable$Builder" := ((E69.ext E67).keep u89_0)
  have E93 : Exa Z T89.heap b53 "com/example/conceptary/conceptary/Concept" := ((u65_1.ext E67).keep u89_0)
  have F94 : Fld Z T89.heap b53 "com/example/conceptary/conceptary/Concept" "id" "J" (.long q5) := ((u65_2.ext E67).keep u89_0 (ninS ne86 nin0))
  have F95 : Fld Z T89.heap b53 "com/example/conceptary/conceptary/Concept" "effectiveTime" "I" (.int tt) := ((u65_3.ext E67).keep u89_0 (ninS ne86 nin0))
  have F96 : Fld Z T89.heap b53 "com/example/conceptary/conceptary/Concept" "active" "Z" (.int xa) := ((u65_4.ext E67).keep u89_0 (ninS ne86 nin0))
  have F97 : Fld Z T89.heap b53 "com/example/conceptary/conceptary/Concept" "moduleId" "J" (.long q1) := ((u65_5.ext E67).keep u89_0 (ninS ne86 nin0))
  have F98 : Fld Z T89.heap b53 "com/example/conceptary/conceptary/Concept" "definitionStatusId" "J" (.long q3) := ((u65_6.ext E67).keep u89_0 (ninS ne86 nin0))
  have F99 : Fld Z T89.heap b31 "com/example/conceptary/conceptary/SnapshotRows" "files" "Ljava/util/List;" (.ref fb_34) := ((((u34_2.ext E53).keep u65_0 (ninS ne54 nin0)).ext E67).keep u89_0 (ninS ne68 nin0))
  have F100 : Fld Z T89.heap b31 "com/example/conceptary/conceptary/SnapshotRows" "effectiveTimes" "[I" (.ref e1_34) := ((((u34_3.ext E53).keep u65_0 (ninS ne54 nin0)).ext E67).keep u89_0 (ninS ne68 nin0))
  have F101 : Fld Z T89.heap b31 "com/example/conceptary/conceptary/SnapshotRows" "fileIndexes" "[I" (.ref e2_34) := ((((u34_4.ext E53).keep u65_0 (ninS ne54 nin0)).ext E67).keep u89_0 (ninS ne68 nin0))
  have F102 : Fld Z T89.heap b31 "com/example/conceptary/conceptary/SnapshotRows" "lines" "[I" (.ref e3_34) := ((((u34_5.ext E53).keep u65_0 (ninS ne54 nin0)).ext E67).keep u89_0 (ninS ne68 nin0))
  have F103 : Fld Z T89.heap b31 "com/example/conceptary/conceptary/SnapshotRows" "size" "I" (.int (0 : Int32)) := ((((u34_6.ext E53).keep u65_0 (ninS ne54 nin0)).ext E67).keep u89_0 (ninS ne68 nin0))
  have F104 : Fld Z T89.heap b31 "com/example/conceptary/conceptary/ConceptTable$Builder" "ids" "[J" (.ref i1_34) := ((((u34_7.ext E53).keep u65_0 (ninS ne54 nin0)).ext E67).keep u89_0 (ninS ne68 nin0))
  have F105 : Fld Z T89.heap b31 "com/example/conceptary/conceptary/ConceptTable$Builder" "actives" "[Z" (.ref ac_34) := ((((u34_8.ext E53).keep u65_0 (ninS ne54 nin0)).ext E67).keep u89_0 (ninS ne68 nin0))
  have F106 : Fld Z T89.heap b31 "com/example/conceptary/conceptary/ConceptTable$Builder" "moduleIds" "[J" (.ref mo_34) := ((((u34_9.ext E53).keep u65_0 (ninS ne54 nin0)).ext E67).keep u89_0 (ninS ne68 nin0))
  have F107 : Fld Z T89.heap b31 "com/example/conceptary/conceptary/ConceptTable$Builder" "definitionStatusIds" "[J" (.ref de_34) := ((((u34_10.ext E53).keep u65_0 (ninS ne54 nin0)).ext E67).keep u89_0 (ninS ne68 nin0))
  have E108 : Exa Z T89.heap fb_34 "java/util/ArrayList" := ((E71.ext E67).keep u89_0)
  have F109 : Fld Z T89.heap fb_34 "java/util/ArrayList" "size" "I" (.int (0 : Int32)) := ((((u34_12.ext E53).keep u65_0 (ninS ne55 nin0)).ext E67).keep u89_0 (ninS ne70 nin0))
  have V110 : AI Z T89.heap e1_34 .int (1024 : Int32) (fun _ => (0 : Int32)) := ((V73.ext E67).keep u89_0 (ninS ne72 nin0))
  have V111 : AI Z T89.heap e2_34 .int (1024 : Int32) (fun _ => (0 : Int32)) := ((V75.ext E67).keep u89_0 (ninS ne74 nin0))
  have V112 : AI Z T89.heap e3_34 .int (1024 : Int32) (fun _ => (0 : Int32)) := ((V77.ext E67).keep u89_0 (ninS ne76 nin0))
  have V113 : AL Z T89.heap i1_34 (1024 : Int32) (fun _ => (0 : Int64)) := ((V79.ext E67).keep u89_0 (ninS ne78 nin0))
  have V114 : AI Z T89.heap ac_34 .boolean (1024 : Int32) (fun _ => (0 : Int32)) := ((V81.ext E67).keep u89_0 (ninS ne80 nin0))
  have V115 : AL Z T89.heap mo_34 (1024 : Int32) (fun _ => (0 : Int64)) := ((V83.ext E67).keep u89_0 (ninS ne82 nin0))
  have V116 : AL Z T89.heap de_34 (1024 : Int32) (fun _ => (0 : Int64)) := ((V85.ext E67).keep u89_0 (ninS ne84 nin0))
  obtain ⟨cq91, kq91, q91a, q91b, q91c⟩ := isOf hZ rfl E92
  obtain ⟨_, _, ⟨T91, L91, k91, n91⟩, -, X91, ⟨Lc91, hQ91, l91, y91, z91⟩, st91⟩ := X89.virtualBack hx (y := (⟨"com/example/conceptary/conceptary/ConceptTable$Builder", "add", "(Lcom/example/conceptary/conceptary/Concept;I)V"⟩ : MethodName)) (z := (⟨"com/example/conceptary/conceptary/ConceptTable$Builder", "add", "(Lcom/example/conceptary/conceptary/Concept;I)V"⟩ : MethodName)) hown (mvT hZ (hw _ (List.mem_of_getElem? (i := 80) rfl))) (mvT hZ (hw _ (List.mem_of_getElem? (i := 81) rfl))) (notFace_of_selects (args := #[]) (mvT hZ (hw _ (List.mem_of_getElem? (i := 83) rfl)))) (mvT hZ (hw _ (List.mem_of_getElem? (i := 83) rfl))) (mvT hZ (hw _ (List.mem_of_getElem? (i := 82) rfl))) (by decide) (backOf (W := 0) (rm9 l Z a0 hw [] b31 b53 p0 fb_34 e1_34 e2_34 e3_34 i1_34 ac_34 mo_34 de_34 (0 : Int32) q5 tt xa q1 q3 (fun _ => (0 : Int32)) (fun _ => (0 : Int32)) (fun _ => (0 : Int32)) (fun _ => (0 : Int64)) (fun _ => (0 : Int32)) (fun _ => (0 : Int64)) (fun _ => (0 : Int64)) T89.heap n0 Z90 E92 E93 F94 F95 F96 F97 F98 F99 F100 F101 F102 F103 F104 F105 F106 F107 E108 F109 V110 V111 V112 V113 V114 V115 V116 g32 g39 g41 g43 g45 g47 g49 g51 ne36 ne38 ne40 ne42 ne44 ne46 ne48 ne50 u34_28 u34_29 u34_30 u34_31 u34_32 u34_33 u34_34 u34_35 u34_36 u34_37 u34_38 u34_39 u34_40 u34_41 u34_42 u34_43 u34_44 u34_45 u34_46 u34_47 u34_48 u34_49 u34_50 u34_51 u34_52 u34_53 u34_54 u34_55 (Ne.symm ne54) (Ne.symm ne56) (Ne.symm ne57) (Ne.symm ne58) (Ne.symm ne59) (Ne.symm ne60) (Ne.symm ne61) (Ne.symm ne62) ⟨by decide, by decide⟩ Bxa) hZ (hw _ (List.mem_of_getElem? (i := 84) rfl)) (hw _ (List.mem_of_getElem? (i := 3) rfl)) (by decide) (by decide)) q91a q91c (g := (mkF m 175 #[.val (.int p0), .val (.long q1), .second, .val (.long q2), .second, .val (.long q3), .second, .val (.long q4), .second, .val (.long q5), .second, .val (.int xa), .val (.int xb), .val (.long q1), .second, .val (.long xm), .second, .val (.long q3), .second, .val (.long xd), .second, .val (.long q5), .second, .val (.long xi), .second, .val (.int tt), .val (.int xt), .val (.ref b31), .val (.ref b53), .val (.ref b67), .unset, .unset, .unset, .unset] [(.int p0), (.ref b53), (.ref b31)])) rfl (by rw [hml]; rfl) (Steps.refl _) (argsL := [(.ref b53), (.int p0)]) (rest := []) (lenOf pd_6 rfl) rfl (by show 2 * 0 + _ ≤ _; exact Nat.le_of_eq rfl) (hb hby at_175) (fun _ _ => ⟨rfl, rfl, (by decide : 11 + 0 ≤ _), (by decide : 7190 + 0 ≤ _)⟩)
  dsimp only [Pt.U, Pt.locs, Pt.cells, Pt.slots] at X91 l91 y91 z91 st91 hQ91
  subst l91 y91 z91
  obtain ⟨k1_91, k2_91, k3_91, k4_91, rfl, Nq91, u91_0, u91_1, u91_2, u91_3, u91_4, u91_5, u91_6, u91_7, u91_8, u91_9, u91_10, u91_11, u91_12, u91_13, u91_14, u91_15, u91_16, u91_17⟩ := hQ91
  have N91 := Fr.app N89 Nq91
  have Z117 : n0 ≤ T91.heap.size := Nat.le_trans Z90 u91_0.1
  have E119 : Exa Z T91.heap b67 "com/example/conceptary/conceptary/Concept" := (u89_1.keep u91_0)
  have F120 : Fld Z T91.heap b67 "com/example/conceptary/conceptary/Concept" "id" "J" (.long xi) := (u89_2.keep u91_0 (ninS (Ne.symm ne68) (ninS (Ne.symm ne72) (ninS (Ne.symm ne74) (ninS (Ne.symm ne76) (ninS (Ne.symm ne78) (ninS (Ne.symm ne80) (ninS (Ne.symm ne82) (ninS (Ne.symm ne84) nin0)))))))))
  have F121 : Fld Z T91.heap b67 "com/example/conceptary/conceptary/Concept" "effectiveTime" "I" (.int xt) := (u89_3.keep u91_0 (ninS (Ne.symm ne68) (ninS (Ne.symm ne72) (ninS (Ne.symm ne74) (ninS (Ne.symm ne76) (ninS (Ne.symm ne78) (ninS (Ne.symm ne80) (ninS (Ne.symm ne82) (ninS (Ne.symm ne84) nin0)))))))))
  have F122 : Fld Z T91.heap b67 "com/example/conceptary/conceptary/Concept" "active" "Z" (.int xb) := (u89_4.keep u91_0 (ninS (Ne.symm ne68) (ninS (Ne.symm ne72) (ninS (Ne.symm ne74) (ninS (Ne.symm ne76) (ninS (Ne.symm ne78) (ninS (Ne.symm ne80) (ninS (Ne.symm ne82) (ninS (Ne.symm ne84) nin0)))))))))
  have F123 : Fld Z T91.heap b67 "com/example/conceptary/conceptary/Concept" "moduleId" "J" (.long xm) := (u89_5.keep u91_0 (ninS (Ne.symm ne68) (ninS (Ne.symm ne72) (ninS (Ne.symm ne74) (ninS (Ne.symm ne76) (ninS (Ne.symm ne78) (ninS (Ne.symm ne80) (ninS (Ne.symm ne82) (ninS (Ne.symm ne84) nin0)))))))))
  have F124 : Fld Z T91.heap b67 "com/example/conceptary/conceptary/Concept" "definitionStatusId" "J" (.long xd) := (u89_6.keep u91_0 (ninS (Ne.symm ne68) (ninS (Ne.symm ne72) (ninS (Ne.symm ne74) (ninS (Ne.symm ne76) (ninS (Ne.symm ne78) (ninS (Ne.symm ne80) (ninS (Ne.symm ne82) (ninS (Ne.symm ne84) nin0)))))))))
  have E125 : Exa Z T91.heap fb_34 "java/util/ArrayList" := (E108.keep u91_0)
  have F126 : Fld Z T91.heap fb_34 "java/util/ArrayList" "size" "I" (.int (0 : Int32)) := (F109.keep u91_0 (ninS (Ne.symm ne36) (ninS u34_28 (ninS u34_29 (ninS u34_30 (ninS u34_31 (ninS u34_32 (ninS u34_33 (ninS u34_34 nin0)))))))))
  obtain ⟨cq118, kq118, q118a, q118b, q118c⟩ := isOf hZ rfl u91_1
  obtain ⟨_, _, ⟨T118, L118, k118, n118⟩, -, X118, ⟨Lc118, hQ118, l118, y118, z118⟩, st118⟩ := X91.virtualBack hx (y := (⟨"com/example/conceptary/conceptary/ConceptTable$Builder", "add", "(Lcom/example/conceptary/conceptary/Concept;I)V"⟩ : MethodName)) (z := (⟨"com/example/conceptary/conceptary/ConceptTable$Builder", "add", "(Lcom/example/conceptary/conceptary/Concept;I)V"⟩ : MethodName)) hown (mvT hZ (hw _ (List.mem_of_getElem? (i := 80) rfl))) (mvT hZ (hw _ (List.mem_of_getElem? (i := 81) rfl))) (notFace_of_selects (args := #[]) (mvT hZ (hw _ (List.mem_of_getElem? (i := 83) rfl)))) (mvT hZ (hw _ (List.mem_of_getElem? (i := 83) rfl))) (mvT hZ (hw _ (List.mem_of_getElem? (i := 82) rfl))) (by decide) (backOf (W := 0) (rm9 l Z a0 hw [] b31 b67 (p0 >>> ((7 : Int32) &&& 31)) fb_34 e1_34 e2_34 e3_34 i1_34 ac_34 mo_34 de_34 ((0 : Int32) + (1 : Int32)) xi xt xb xm xd k1_91 k2_91 k3_91 k4_91 (fun i => if i = ((0 : Int32)).toNatClampNeg then (nar .boolean xa) else (fun _ => (0 : Int32)) i) (fun i => if i = ((0 : Int32)).toNatClampNeg then q1 else (fun _ => (0 : Int64)) i) (fun i => if i = ((0 : Int32)).toNatClampNeg then q3 else (fun _ => (0 : Int64)) i) T91.heap n0 Z117 u91_1 E119 F120 F121 F122 F123 F124 u91_2 u91_3 u91_4 u91_5 u91_6 u91_7 u91_8 u91_9 u91_10 E125 F126 u91_11 u91_12 u91_13 u91_14 u91_15 u91_16 u91_17 g32 g39 g41 g43 g45 g47 g49 g51 ne36 ne38 ne40 ne42 ne44 ne46 ne48 ne50 u34_28 u34_29 u34_30 u34_31 u34_32 u34_33 u34_34 u34_35 u34_36 u34_37 u34_38 u34_39 u34_40 u34_41 u34_42 u34_43 u34_44 u34_45 u34_46 u34_47 u34_48 u34_49 u34_50 u34_51 u34_52 u34_53 u34_54 u34_55 (Ne.symm ne68) (Ne.symm ne72) (Ne.symm ne74) (Ne.symm ne76) (Ne.symm ne78) (Ne.symm ne80) (Ne.symm ne82) (Ne.symm ne84) ⟨by decide, by decide⟩ Bxb) hZ (hw _ (List.mem_of_getElem? (i := 84) rfl)) (hw _ (List.mem_of_getElem? (i := 3) rfl)) (by decide) (by decide)) q118a q118c (g := (mkF m 186 #[.val (.int p0), .val (.long q1), .second, .val (.long q2), .second, .val (.long q3), .second, .val (.long q4), .second, .val (.long q5), .second, .val (.int xa), .val (.int xb), .val (.long q1), .second, .val (.long xm), .second, .val (.long q3), .second, .val (.long xd), .second, .val (.long q5), .second, .val (.long xi), .second, .val (.int tt), .val (.int xt), .val (.ref b31), .val (.ref b53), .val (.ref b67), .unset, .unset, .unset, .unset] [(.int (p0 >>> ((7 : Int32) &&& 31))), (.ref b67), (.ref b31)])) rfl (by rw [hml]; rfl) (Steps.refl _) (argsL := [(.ref b67), (.int (p0 >>> ((7 : Int32) &&& 31)))]) (rest := []) (lenOf pd_6 rfl) rfl (by show 2 * 0 + _ ≤ _; exact Nat.le_of_eq rfl) (hb hby at_186) (fun _ _ => ⟨rfl, rfl, (by decide : 11 + 0 ≤ _), (by decide : 7190 + 0 ≤ _)⟩)
  dsimp only [Pt.U, Pt.locs, Pt.cells, Pt.slots] at X118 l118 y118 z118 st118 hQ118
  subst l118 y118 z118
  obtain ⟨k1_118, k2_118, k3_118, k4_118, rfl, Nq118, u118_0, u118_1, u118_2, u118_3, u118_4, u118_5, u118_6, u118_7, u118_8, u118_9, u118_10, u118_11, u118_12, u118_13, u118_14, u118_15, u118_16, u118_17⟩ := hQ118
  have N118 := Fr.app N91 Nq118
  have Z127 : n0 ≤ T118.heap.size := Nat.le_trans Z117 u118_0.1
  have pre128 : ∀ t, Steps p.tables e below (T118.setTop (mkF m 193 #[.val (.int p0), .val (.long q1), .second, .val (.long q2), .second, .val (.long q3), .second, .val (.long q4), .second, .val (.long q5), .second, .val (.int xa), .val (.int xb), .val (.long q1), .second, .val (.long xm), .second, .val (.long q3), .second, .val (.long xd), .second, .val (.long q5), .second, .val (.long xi), .second, .val (.int tt), .val (.int xt), .val (.ref b31), .val (.ref b53), .val (.ref b67), .unset, .unset, .unset, .unset] [(.int xb), (.int xa)])) t → Steps p.tables e below (s₁.setTop (entryFrame m #[(.int p0), (.long q1), (.long q2), (.long q3), (.long q4), (.long q5)] maxLocals)) t := fun t k => pre30 t (by
    refine XS.istore X0.here hx rfl (hb hby at_121) rfl (l' := #[.val (.int p0), .val (.long q1), .second, .val (.long q2), .second, .val (.long q3), .second, .val (.long q4), .second, .val (.long q5), .second, .val (.int xa), .val (.int xb), .val (.long q1), .second, .val (.long xm), .second, .val (.long q3), .second, .val (.long xd), .second, .val (.long q5), .second, .val (.long xi), .second, .val (.int tt), .val (.int xt), .unset, .unset, .unset, .unset, .unset, .unset, .unset]) rfl ?_
    show Steps p.tables e below (s₁.setTop (mkF m 123 #[.val (.int p0), .val (.long q1), .second, .val (.long q2), .second, .val (.long q3), .second, .val (.long q4), .second, .val (.long q5), .second, .val (.int xa), .val (.int xb), .val (.long q1), .second, .val (.long xm), .second, .val (.long q3), .second, .val (.long xd), .second, .val (.long q5), .second, .val (.long xi), .second, .val (.int tt), .val (.int xt), .unset, .unset, .unset, .unset, .unset, .unset, .unset] [])) _
    refine st31 _ ?_
    show Steps p.tables e below (T31.setTop (mkF m 126 #[.val (.int p0), .val (.long q1), .second, .val (.long q2), .second, .val (.long q3), .second, .val (.long q4), .second, .val (.long q5), .second, .val (.int xa), .val (.int xb), .val (.long q1), .second, .val (.long xm), .second, .val (.long q3), .second, .val (.long xd), .second, .val (.long q5), .second, .val (.long xi), .second, .val (.int tt), .val (.int xt), .unset, .unset, .unset, .unset, .unset, .unset, .unset] [(.ref b31)])) _
    refine XS.dup X31.here hx rfl (hb hby at_126) rfl rfl ?_
    show Steps p.tables e below (T31.setTop (mkF m 127 #[.val (.int p0), .val (.long q1), .second, .val (.long q2), .second, .val (.long q3), .second, .val (.long q4), .second, .val (.long q5), .second, .val (.int xa), .val (.int xb), .val (.long q1), .second, .val (.long xm), .second, .val (.long q3), .second, .val (.long xd), .second, .val (.long q5), .second, .val (.long xi), .second, .val (.int tt), .val (.int xt), .unset, .unset, .unset, .unset, .unset, .unset, .unset] [(.ref b31), (.ref b31)])) _
    refine st34.trans ?_
    show Steps p.tables e below (T34.setTop (mkF m 130 #[.val (.int p0), .val (.long q1), .second, .val (.long q2), .second, .val (.long q3), .second, .val (.long q4), .second, .val (.long q5), .second, .val (.int xa), .val (.int xb), .val (.long q1), .second, .val (.long xm), .second, .val (.long q3), .second, .val (.long xd), .second, .val (.long q5), .second, .val (.long xi), .second, .val (.int tt), .val (.int xt), .unset, .unset, .unset, .unset, .unset, .unset, .unset] [(.ref b31)])) _
    refine XS.astore X34.here hx rfl (hb hby at_130) rfl rfl (l' := #[.val (.int p0), .val (.long q1), .second, .val (.long q2), .second, .val (.long q3), .second, .val (.long q4), .second, .val (.long q5), .second, .val (.int xa), .val (.int xb), .val (.long q1), .second, .val (.long xm), .second, .val (.long q3), .second, .val (.long xd), .second, .val (.long q5), .second, .val (.long xi), .second, .val (.int tt), .val (.int xt), .val (.ref b31), .unset, .unset, .unset, .unset, .unset, .unset]) rfl ?_
    show Steps p.tables e below (T34.setTop (mkF m 132 #[.val (.int p0), .val (.long q1), .second, .val (.long q2), .second, .val (.long q3), .second, .val (.long q4), .second, .val (.long q5), .second, .val (.int xa), .val (.int xb), .val (.long q1), .second, .val (.long xm), .second, .val (.long q3), .second, .val (.long xd), .second, .val (.long q5), .second, .val (.long xi), .second, .val (.int tt), .val (.int xt), .val (.ref b31), .unset, .unset, .unset, .unset, .unset, .unset] [])) _
    refine st53 _ ?_
    show Steps p.tables e below (T53.setTop (mkF m 135 #[.val (.int p0), .val (.long q1), .second, .val (.long q2), .second, .val (.long q3), .second, .val (.long q4), .second, .val (.long q5), .second, .val (.int xa), .val (.int xb), .val (.long q1), .second, .val (.long xm), .second, .val (.long q3), .second, .val (.long xd), .second, .val (.long q5), .second, .val (.long xi), .second, .val (.int tt), .val (.int xt), .val (.ref b31), .unset, .unset, .unset, .unset, .unset, .unset] [(.ref b53)])) _
    refine XS.dup X53.here hx rfl (hb hby at_135) rfl rfl ?_
    show Steps p.tables e below (T53.setTop (mkF m 136 #[.val (.int p0), .val (.long q1), .second, .val (.long q2), .second, .val (.long q3), .second, .val (.long q4), .second, .val (.long q5), .second, .val (.int xa), .val (.int xb), .val (.long q1), .second, .val (.long xm), .second, .val (.long q3), .second, .val (.long xd), .second, .val (.long q5), .second, .val (.long xi), .second, .val (.int tt), .val (.int xt), .val (.ref b31), .unset, .unset, .unset, .unset, .unset, .unset] [(.ref b53), (.ref b53)])) _
    refine XS.lload X53.here hx rfl (hb hby at_136) rfl ?_
    show Steps p.tables e below (T53.setTop (mkF m 138 #[.val (.int p0), .val (.long q1), .second, .val (.long q2), .second, .val (.long q3), .second, .val (.long q4), .second, .val (.long q5), .second, .val (.int xa), .val (.int xb), .val (.long q1), .second, .val (.long xm), .second, .val (.long q3), .second, .val (.long xd), .second, .val (.long q5), .second, .val (.long xi), .second, .val (.int tt), .val (.int xt), .val (.ref b31), .unset, .unset, .unset, .unset, .unset, .unset] [(.long q5), (.ref b53), (.ref b53)])) _
    refine XS.iload X53.here hx rfl (hb hby at_138) rfl ?_
    show Steps p.tables e below (T53.setTop (mkF m 140 #[.val (.int p0), .val (.long q1), .second, .val (.long q2), .second, .val (.long q3), .second, .val (.long q4), .second, .val (.long q5), .second, .val (.int xa), .val (.int xb), .val (.long q1), .second, .val (.long xm), .second, .val (.long q3), .second, .val (.long xd), .second, .val (.long q5), .second, .val (.long xi), .second, .val (.int tt), .val (.int xt), .val (.ref b31), .unset, .unset, .unset, .unset, .unset, .unset] [(.int tt), (.long q5), (.ref b53), (.ref b53)])) _
    refine XS.iload X53.here hx rfl (hb hby at_140) rfl ?_
    show Steps p.tables e below (T53.setTop (mkF m 142 #[.val (.int p0), .val (.long q1), .second, .val (.long q2), .second, .val (.long q3), .second, .val (.long q4), .second, .val (.long q5), .second, .val (.int xa), .val (.int xb), .val (.long q1), .second, .val (.long xm), .second, .val (.long q3), .second, .val (.long xd), .second, .val (.long q5), .second, .val (.long xi), .second, .val (.int tt), .val (.int xt), .val (.ref b31), .unset, .unset, .unset, .unset, .unset, .unset] [(.int xa), (.int tt), (.long q5), (.ref b53), (.ref b53)])) _
    refine XS.lload X53.here hx rfl (hb hby at_142) rfl ?_
    show Steps p.tables e below (T53.setTop (mkF m 144 #[.val (.int p0), .val (.long q1), .second, .val (.long q2), .second, .val (.long q3), .second, .val (.long q4), .second, .val (.long q5), .second, .val (.int xa), .val (.int xb), .val (.long q1), .second, .val (.long xm), .second, .val (.long q3), .second, .val (.long xd), .second, .val (.long q5), .second, .val (.long xi), .second, .val (.int tt), .val (.int xt), .val (.ref b31), .unset, .unset, .unset, .unset, .unset, .unset] [(.long q1), (.int xa), (.int tt), (.long q5), (.ref b53), (.ref b53)])) _
    refine XS.lload X53.here hx rfl (hb hby at_144) rfl ?_
    show Steps p.tables e below (T53.setTop (mkF m 146 #[.val (.int p0), .val (.long q1), .second, .val (.long q2), .second, .val (.long q3), .second, .val (.long q4), .second, .val (.long q5), .second, .val (.int xa), .val (.int xb), .val (.long q1), .second, .val (.long xm), .second, .val (.long q3), .second, .val (.long xd), .second, .val (.long q5), .second, .val (.long xi), .second, .val (.int tt), .val (.int xt), .val (.ref b31), .unset, .unset, .unset, .unset, .unset, .unset] [(.long q3), (.long q1), (.int xa), (.int tt), (.long q5), (.ref b53), (.ref b53)])) _
    refine st65.trans ?_
    show Steps p.tables e below (T65.setTop (mkF m 149 #[.val (.int p0), .val (.long q1), .second, .val (.long q2), .second, .val (.long q3), .second, .val (.long q4), .second, .val (.long q5), .second, .val (.int xa), .val (.int xb), .val (.long q1), .second, .val (.long xm), .second, .val (.long q3), .second, .val (.long xd), .second, .val (.long q5), .second, .val (.long xi), .second, .val (.int tt), .val (.int xt), .val (.ref b31), .unset, .unset, .unset, .unset, .unset, .unset] [(.ref b53)])) _
    refine XS.astore X65.here hx rfl (hb hby at_149) rfl rfl (l' := #[.val (.int p0), .val (.long q1), .second, .val (.long q2), .second, .val (.long q3), .second, .val (.long q4), .second, .val (.long q5), .second, .val (.int xa), .val (.int xb), .val (.long q1), .second, .val (.long xm), .second, .val (.long q3), .second, .val (.long xd), .second, .val (.long q5), .second, .val (.long xi), .second, .val (.int tt), .val (.int xt), .val (.ref b31), .val (.ref b53), .unset, .unset, .unset, .unset, .unset]) rfl ?_
    show Steps p.tables e below (T65.setTop (mkF m 151 #[.val (.int p0), .val (.long q1), .second, .val (.long q2), .second, .val (.long q3), .second, .val (.long q4), .second, .val (.long q5), .second, .val (.int xa), .val (.int xb), .val (.long q1), .second, .val (.long xm), .second, .val (.long q3), .second, .val (.long xd), .second, .val (.long q5), .second, .val (.long xi), .second, .val (.int tt), .val (.int xt), .val (.ref b31), .val (.ref b53), .unset, .unset, .unset, .unset, .unset] [])) _
    refine st67 _ ?_
    show Steps p.tables e below (T67.setTop (mkF m 154 #[.val (.int p0), .val (.long q1), .second, .val (.long q2), .second, .val (.long q3), .second, .val (.long q4), .second, .val (.long q5), .second, .val (.int xa), .val (.int xb), .val (.long q1), .second, .val (.long xm), .second, .val (.long q3), .second, .val (.long xd), .second, .val (.long q5), .second, .val (.long xi), .second, .val (.int tt), .val (.int xt), .val (.ref b31), .val (.ref b53), .unset, .unset, .unset, .unset, .unset] [(.ref b67)])) _
    refine XS.dup X67.here hx rfl (hb hby at_154) rfl rfl ?_
    show Steps p.tables e below (T67.setTop (mkF m 155 #[.val (.int p0), .val (.long q1), .second, .val (.long q2), .second, .val (.long q3), .second, .val (.long q4), .second, .val (.long q5), .second, .val (.int xa), .val (.int xb), .val (.long q1), .second, .val (.long xm), .second, .val (.long q3), .second, .val (.long xd), .second, .val (.long q5), .second, .val (.long xi), .second, .val (.int tt), .val (.int xt), .val (.ref b31), .val (.ref b53), .unset, .unset, .unset, .unset, .unset] [(.ref b67), (.ref b67)])) _
    refine XS.lload X67.here hx rfl (hb hby at_155) rfl ?_
    show Steps p.tables e below (T67.setTop (mkF m 157 #[.val (.int p0), .val (.long q1), .second, .val (.long q2), .second, .val (.long q3), .second, .val (.long q4), .second, .val (.long q5), .second, .val (.int xa), .val (.int xb), .val (.long q1), .second, .val (.long xm), .second, .val (.long q3), .second, .val (.long xd), .second, .val (.long q5), .second, .val (.long xi), .second, .val (.int tt), .val (.int xt), .val (.ref b31), .val (.ref b53), .unset, .unset, .unset, .unset, .unset] [(.long xi), (.ref b67), (.ref b67)])) _
    refine XS.iload X67.here hx rfl (hb hby at_157) rfl ?_
    show Steps p.tables e below (T67.setTop (mkF m 159 #[.val (.int p0), .val (.long q1), .second, .val (.long q2), .second, .val (.long q3), .second, .val (.long q4), .second, .val (.long q5), .second, .val (.int xa), .val (.int xb), .val (.long q1), .second, .val (.long xm), .second, .val (.long q3), .second, .val (.long xd), .second, .val (.long q5), .second, .val (.long xi), .second, .val (.int tt), .val (.int xt), .val (.ref b31), .val (.ref b53), .unset, .unset, .unset, .unset, .unset] [(.int xt), (.long xi), (.ref b67), (.ref b67)])) _
    refine XS.iload X67.here hx rfl (hb hby at_159) rfl ?_
    show Steps p.tables e below (T67.setTop (mkF m 161 #[.val (.int p0), .val (.long q1), .second, .val (.long q2), .second, .val (.long q3), .second, .val (.long q4), .second, .val (.long q5), .second, .val (.int xa), .val (.int xb), .val (.long q1), .second, .val (.long xm), .second, .val (.long q3), .second, .val (.long xd), .second, .val (.long q5), .second, .val (.long xi), .second, .val (.int tt), .val (.int xt), .val (.ref b31), .val (.ref b53), .unset, .unset, .unset, .unset, .unset] [(.int xb), (.int xt), (.long xi), (.ref b67), (.ref b67)])) _
    refine XS.lload X67.here hx rfl (hb hby at_161) rfl ?_
    show Steps p.tables e below (T67.setTop (mkF m 163 #[.val (.int p0), .val (.long q1), .second, .val (.long q2), .second, .val (.long q3), .second, .val (.long q4), .second, .val (.long q5), .second, .val (.int xa), .val (.int xb), .val (.long q1), .second, .val (.long xm), .second, .val (.long q3), .second, .val (.long xd), .second, .val (.long q5), .second, .val (.long xi), .second, .val (.int tt), .val (.int xt), .val (.ref b31), .val (.ref b53), .unset, .unset, .unset, .unset, .unset] [(.long xm), (.int xb), (.int xt), (.long xi), (.ref b67), (.ref b67)])) _
    refine XS.lload X67.here hx rfl (hb hby at_163) rfl ?_
    show Steps p.tables e below (T67.setTop (mkF m 165 #[.val (.int p0), .val (.long q1), .second, .val (.long q2), .second, .val (.long q3), .second, .val (.long q4), .second, .val (.long q5), .second, .val (.int xa), .val (.int xb), .val (.long q1), .second, .val (.long xm), .second, .val (.long q3), .second, .val (.long xd), .second, .val (.long q5), .second, .val (.long xi), .second, .val (.int tt), .val (.int xt), .val (.ref b31), .val (.ref b53), .unset, .unset, .unset, .unset, .unset] [(.long xd), (.long xm), (.int xb), (.int xt), (.long xi), (.ref b67), (.ref b67)])) _
    refine st89.trans ?_
    show Steps p.tables e below (T89.setTop (mkF m 168 #[.val (.int p0), .val (.long q1), .second, .val (.long q2), .second, .val (.long q3), .second, .val (.long q4), .second, .val (.long q5), .second, .val (.int xa), .val (.int xb), .val (.long q1), .second, .val (.long xm), .second, .val (.long q3), .second, .val (.long xd), .second, .val (.long q5), .second, .val (.long xi), .second, .val (.int tt), .val (.int xt), .val (.ref b31), .val (.ref b53), .unset, .unset, .unset, .unset, .unset] [(.ref b67)])) _
    refine XS.astore X89.here hx rfl (hb hby at_168) rfl rfl (l' := #[.val (.int p0), .val (.long q1), .second, .val (.long q2), .second, .val (.long q3), .second, .val (.long q4), .second, .val (.long q5), .second, .val (.int xa), .val (.int xb), .val (.long q1), .second, .val (.long xm), .second, .val (.long q3), .second, .val (.long xd), .second, .val (.long q5), .second, .val (.long xi), .second, .val (.int tt), .val (.int xt), .val (.ref b31), .val (.ref b53), .val (.ref b67), .unset, .unset, .unset, .unset]) rfl ?_
    show Steps p.tables e below (T89.setTop (mkF m 170 #[.val (.int p0), .val (.long q1), .second, .val (.long q2), .second, .val (.long q3), .second, .val (.long q4), .second, .val (.long q5), .second, .val (.int xa), .val (.int xb), .val (.long q1), .second, .val (.long xm), .second, .val (.long q3), .second, .val (.long xd), .second, .val (.long q5), .second, .val (.long xi), .second, .val (.int tt), .val (.int xt), .val (.ref b31), .val (.ref b53), .val (.ref b67), .unset, .unset, .unset, .unset] [])) _
    refine XS.aload X89.here hx rfl (hb hby at_170) rfl rfl ?_
    show Steps p.tables e below (T89.setTop (mkF m 172 #[.val (.int p0), .val (.long q1), .second, .val (.long q2), .second, .val (.long q3), .second, .val (.long q4), .second, .val (.long q5), .second, .val (.int xa), .val (.int xb), .val (.long q1), .second, .val (.long xm), .second, .val (.long q3), .second, .val (.long xd), .second, .val (.long q5), .second, .val (.long xi), .second, .val (.int tt), .val (.int xt), .val (.ref b31), .val (.ref b53), .val (.ref b67), .unset, .unset, .unset, .unset] [(.ref b31)])) _
    refine XS.aload X89.here hx rfl (hb hby at_172) rfl rfl ?_
    show Steps p.tables e below (T89.setTop (mkF m 174 #[.val (.int p0), .val (.long q1), .second, .val (.long q2), .second, .val (.long q3), .second, .val (.long q4), .second, .val (.long q5), .second, .val (.int xa), .val (.int xb), .val (.long q1), .second, .val (.long xm), .second, .val (.long q3), .second, .val (.long xd), .second, .val (.long q5), .second, .val (.long xi), .second, .val (.int tt), .val (.int xt), .val (.ref b31), .val (.ref b53), .val (.ref b67), .unset, .unset, .unset, .unset] [(.ref b53), (.ref b31)])) _
    refine XS.iloadN X89.here hx rfl (hb hby at_174) rfl ?_
    show Steps p.tables e below (T89.setTop (mkF m 175 #[.val (.int p0), .val (.long q1), .second, .val (.long q2), .second, .val (.long q3), .second, .val (.long q4), .second, .val (.long q5), .second, .val (.int xa), .val (.int xb), .val (.long q1), .second, .val (.long xm), .second, .val (.long q3), .second, .val (.long xd), .second, .val (.long q5), .second, .val (.long xi), .second, .val (.int tt), .val (.int xt), .val (.ref b31), .val (.ref b53), .val (.ref b67), .unset, .unset, .unset, .unset] [(.int p0), (.ref b53), (.ref b31)])) _
    refine st91.trans ?_
    show Steps p.tables e below (T91.setTop (mkF m 178 #[.val (.int p0), .val (.long q1), .second, .val (.long q2), .second, .val (.long q3), .second, .val (.long q4), .second, .val (.long q5), .second, .val (.int xa), .val (.int xb), .val (.long q1), .second, .val (.long xm), .second, .val (.long q3), .second, .val (.long xd), .second, .val (.long q5), .second, .val (.long xi), .second, .val (.int tt), .val (.int xt), .val (.ref b31), .val (.ref b53), .val (.ref b67), .unset, .unset, .unset, .unset] [])) _
    refine XS.aload X91.here hx rfl (hb hby at_178) rfl rfl ?_
    show Steps p.tables e below (T91.setTop (mkF m 180 #[.val (.int p0), .val (.long q1), .second, .val (.long q2), .second, .val (.long q3), .second, .val (.long q4), .second, .val (.long q5), .second, .val (.int xa), .val (.int xb), .val (.long q1), .second, .val (.long xm), .second, .val (.long q3), .second, .val (.long xd), .second, .val (.long q5), .second, .val (.long xi), .second, .val (.int tt), .val (.int xt), .val (.ref b31), .val (.ref b53), .val (.ref b67), .unset, .unset, .unset, .unset] [(.ref b31)])) _
    refine XS.aload X91.here hx rfl (hb hby at_180) rfl rfl ?_
    show Steps p.tables e below (T91.setTop (mkF m 182 #[.val (.int p0), .val (.long q1), .second, .val (.long q2), .second, .val (.long q3), .second, .val (.long q4), .second, .val (.long q5), .second, .val (.int xa), .val (.int xb), .val (.long q1), .second, .val (.long xm), .second, .val (.long q3), .second, .val (.long xd), .second, .val (.long q5), .second, .val (.long xi), .second, .val (.int tt), .val (.int xt), .val (.ref b31), .val (.ref b53), .val (.ref b67), .unset, .unset, .unset, .unset] [(.ref b67), (.ref b31)])) _
    refine XS.iloadN X91.here hx rfl (hb hby at_182) rfl ?_
    show Steps p.tables e below (T91.setTop (mkF m 183 #[.val (.int p0), .val (.long q1), .second, .val (.long q2), .second, .val (.long q3), .second, .val (.long q4), .second, .val (.long q5), .second, .val (.int xa), .val (.int xb), .val (.long q1), .second, .val (.long xm), .second, .val (.long q3), .second, .val (.long xd), .second, .val (.long q5), .second, .val (.long xi), .second, .val (.int tt), .val (.int xt), .val (.ref b31), .val (.ref b53), .val (.ref b67), .unset, .unset, .unset, .unset] [(.int p0), (.ref b67), (.ref b31)])) _
    refine XS.bipush X91.here hx rfl (hb hby at_183) ?_
    show Steps p.tables e below (T91.setTop (mkF m 185 #[.val (.int p0), .val (.long q1), .second, .val (.long q2), .second, .val (.long q3), .second, .val (.long q4), .second, .val (.long q5), .second, .val (.int xa), .val (.int xb), .val (.long q1), .second, .val (.long xm), .second, .val (.long q3), .second, .val (.long xd), .second, .val (.long q5), .second, .val (.long xi), .second, .val (.int tt), .val (.int xt), .val (.ref b31), .val (.ref b53), .val (.ref b67), .unset, .unset, .unset, .unset] [(.int (7 : Int32)), (.int p0), (.ref b67), (.ref b31)])) _
    refine XS.ishr X91.here hx rfl (hb hby at_185) rfl ?_
    show Steps p.tables e below (T91.setTop (mkF m 186 #[.val (.int p0), .val (.long q1), .second, .val (.long q2), .second, .val (.long q3), .second, .val (.long q4), .second, .val (.long q5), .second, .val (.int xa), .val (.int xb), .val (.long q1), .second, .val (.long xm), .second, .val (.long q3), .second, .val (.long xd), .second, .val (.long q5), .second, .val (.long xi), .second, .val (.int tt), .val (.int xt), .val (.ref b31), .val (.ref b53), .val (.ref b67), .unset, .unset, .unset, .unset] [(.int (p0 >>> ((7 : Int32) &&& 31))), (.ref b67), (.ref b31)])) _
    refine st118.trans ?_
    show Steps p.tables e below (T118.setTop (mkF m 189 #[.val (.int p0), .val (.long q1), .second, .val (.long q2), .second, .val (.long q3), .second, .val (.long q4), .second, .val (.long q5), .second, .val (.int xa), .val (.int xb), .val (.long q1), .second, .val (.long xm), .second, .val (.long q3), .second, .val (.long xd), .second, .val (.long q5), .second, .val (.long xi), .second, .val (.int tt), .val (.int xt), .val (.ref b31), .val (.ref b53), .val (.ref b67), .unset, .unset, .unset, .unset] [])) _
    refine XS.iload X118.here hx rfl (hb hby at_189) rfl ?_
    show Steps p.tables e below (T118.setTop (mkF m 191 #[.val (.int p0), .val (.long q1), .second, .val (.long q2), .second, .val (.long q3), .second, .val (.long q4), .second, .val (.long q5), .second, .val (.int xa), .val (.int xb), .val (.long q1), .second, .val (.long xm), .second, .val (.long q3), .second, .val (.long xd), .second, .val (.long q5), .second, .val (.long xi), .second, .val (.int tt), .val (.int xt), .val (.ref b31), .val (.ref b53), .val (.ref b67), .unset, .unset, .unset, .unset] [(.int xa)])) _
    refine XS.iload X118.here hx rfl (hb hby at_191) rfl ?_
    exact k)
  obtain ⟨xx, hxx⟩ : ∃ z : Int32, z = (if xa = xb then (if q1 = xm then (if q3 = xd then (1 : Int32) else (0 : Int32)) else (0 : Int32)) else (0 : Int32)) := ⟨_, rfl⟩
  have pre132 : ∀ t, Steps p.tables e below (T118.setTop (mkF m 217 #[.val (.int p0), .val (.long q1), .second, .val (.long q2), .second, .val (.long q3), .second, .val (.long q4), .second, .val (.long q5), .second, .val (.int xa), .val (.int xb), .val (.long q1), .second, .val (.long xm), .second, .val (.long q3), .second, .val (.long xd), .second, .val (.long q5), .second, .val (.long xi), .second, .val (.int tt), .val (.int xt), .val (.ref b31), .val (.ref b53), .val (.ref b67), .unset, .unset, .unset, .unset] [(.int xx)])) t → Steps p.tables e below (s₁.setTop (entryFrame m #[(.int p0), (.long q1), (.long q2), (.long q3), (.long q4), (.long q5)] maxLocals)) t := fun t k => pre128 t (by
    by_cases hm129 : xa = xb
    · refine XS.icmpNo X118.here hx rfl (hb hby at_193) rfl (teq hm129).2 ?_
      show Steps p.tables e below (T118.setTop (mkF m 196 #[.val (.int p0), .val (.long q1), .second, .val (.long q2), .second, .val (.long q3), .second, .val (.long q4), .second, .val (.long q5), .second, .val (.int xa), .val (.int xb), .val (.long q1), .second, .val (.long xm), .second, .val (.long q3), .second, .val (.long xd), .second, .val (.long q5), .second, .val (.long xi), .second, .val (.int tt), .val (.int xt), .val (.ref b31), .val (.ref b53), .val (.ref b67), .unset, .unset, .unset, .unset] [])) _
      refine XS.lload X118.here hx rfl (hb hby at_196) rfl ?_
      show Steps p.tables e below (T118.setTop (mkF m 198 #[.val (.int p0), .val (.long q1), .second, .val (.long q2), .second, .val (.long q3), .second, .val (.long q4), .second, .val (.long q5), .second, .val (.int xa), .val (.int xb), .val (.long q1), .second, .val (.long xm), .second, .val (.long q3), .second, .val (.long xd), .second, .val (.long q5), .second, .val (.long xi), .second, .val (.int tt), .val (.int xt), .val (.ref b31), .val (.ref b53), .val (.ref b67), .unset, .unset, .unset, .unset] [(.long q1)])) _
      refine XS.lload X118.here hx rfl (hb hby at_198) rfl ?_
      show Steps p.tables e below (T118.setTop (mkF m 200 #[.val (.int p0), .val (.long q1), .second, .val (.long q2), .second, .val (.long q3), .second, .val (.long q4), .second, .val (.long q5), .second, .val (.int xa), .val (.int xb), .val (.long q1), .second, .val (.long xm), .second, .val (.long q3), .second, .val (.long xd), .second, .val (.long q5), .second, .val (.long xi), .second, .val (.int tt), .val (.int xt), .val (.ref b31), .val (.ref b53), .val (.ref b67), .unset, .unset, .unset, .unset] [(.long xm), (.long q1)])) _
      refine XS.lcmp X118.here hx rfl (hb hby at_200) rfl ?_
      show Steps p.tables e below (T118.setTop (mkF m 201 #[.val (.int p0), .val (.long q1), .second, .val (.long q2), .second, .val (.long q3), .second, .val (.long q4), .second, .val (.long q5), .second, .val (.int xa), .val (.int xb), .val (.long q1), .second, .val (.long xm), .second, .val (.long q3), .second, .val (.long xd), .second, .val (.long q5), .second, .val (.long xi), .second, .val (.int tt), .val (.int xt), .val (.ref b31), .val (.ref b53), .val (.ref b67), .unset, .unset, .unset, .unset] [(.int (lcmpW q1 xm))])) _
      by_cases hm130 : q1 = xm
      · refine XS.ifNo X118.here hx rfl (hb hby at_201) rfl ((if0 _ _).trans (teq ((lw_eq q1 xm).mpr hm130)).2) ?_
        show Steps p.tables e below (T118.setTop (mkF m 204 #[.val (.int p0), .val (.long q1), .second, .val (.long q2), .second, .val (.long q3), .second, .val (.long q4), .second, .val (.long q5), .second, .val (.int xa), .val (.int xb), .val (.long q1), .second, .val (.long xm), .second, .val (.long q3), .second, .val (.long xd), .second, .val (.long q5), .second, .val (.long xi), .second, .val (.int tt), .val (.int xt), .val (.ref b31), .val (.ref b53), .val (.ref b67), .unset, .unset, .unset, .unset] [])) _
        refine XS.lload X118.here hx rfl (hb hby at_204) rfl ?_
        show Steps p.tables e below (T118.setTop (mkF m 206 #[.val (.int p0), .val (.long q1), .second, .val (.long q2), .second, .val (.long q3), .second, .val (.long q4), .second, .val (.long q5), .second, .val (.int xa), .val (.int xb), .val (.long q1), .second, .val (.long xm), .second, .val (.long q3), .second, .val (.long xd), .second, .val (.long q5), .second, .val (.long xi), .second, .val (.int tt), .val (.int xt), .val (.ref b31), .val (.ref b53), .val (.ref b67), .unset, .unset, .unset, .unset] [(.long q3)])) _
        refine XS.lload X118.here hx rfl (hb hby at_206) rfl ?_
        show Steps p.tables e below (T118.setTop (mkF m 208 #[.val (.int p0), .val (.long q1), .second, .val (.long q2), .second, .val (.long q3), .second, .val (.long q4), .second, .val (.long q5), .second, .val (.int xa), .val (.int xb), .val (.long q1), .second, .val (.long xm), .second, .val (.long q3), .second, .val (.long xd), .second, .val (.long q5), .second, .val (.long xi), .second, .val (.int tt), .val (.int xt), .val (.ref b31), .val (.ref b53), .val (.ref b67), .unset, .unset, .unset, .unset] [(.long xd), (.long q3)])) _
        refine XS.lcmp X118.here hx rfl (hb hby at_208) rfl ?_
        show Steps p.tables e below (T118.setTop (mkF m 209 #[.val (.int p0), .val (.long q1), .second, .val (.long q2), .second, .val (.long q3), .second, .val (.long q4), .second, .val (.long q5), .second, .val (.int xa), .val (.int xb), .val (.long q1), .second, .val (.long xm), .second, .val (.long q3), .second, .val (.long xd), .second, .val (.long q5), .second, .val (.long xi), .second, .val (.int tt), .val (.int xt), .val (.ref b31), .val (.ref b53), .val (.ref b67), .unset, .unset, .unset, .unset] [(.int (lcmpW q3 xd))])) _
        by_cases hm131 : q3 = xd
        · rw [show xx = (1 : Int32) from by rw [hxx, if_pos hm129, if_pos hm130, if_pos hm131]] at k
          refine XS.ifNo X118.here hx rfl (hb hby at_209) rfl ((if0 _ _).trans (teq ((lw_eq q3 xd).mpr hm131)).2) ?_
          show Steps p.tables e below (T118.setTop (mkF m 212 #[.val (.int p0), .val (.long q1), .second, .val (.long q2), .second, .val (.long q3), .second, .val (.long q4), .second, .val (.long q5), .second, .val (.int xa), .val (.int xb), .val (.long q1), .second, .val (.long xm), .second, .val (.long q3), .second, .val (.long xd), .second, .val (.long q5), .second, .val (.long xi), .second, .val (.int tt), .val (.int xt), .val (.ref b31), .val (.ref b53), .val (.ref b67), .unset, .unset, .unset, .unset] [])) _
          refine XS.iconst X118.here hx rfl (hb hby at_212) ?_
          show Steps p.tables e below (T118.setTop (mkF m 213 #[.val (.int p0), .val (.long q1), .second, .val (.long q2), .second, .val (.long q3), .second, .val (.long q4), .second, .val (.long q5), .second, .val (.int xa), .val (.int xb), .val (.long q1), .second, .val (.long xm), .second, .val (.long q3), .second, .val (.long xd), .second, .val (.long q5), .second, .val (.long xi), .second, .val (.int tt), .val (.int xt), .val (.ref b31), .val (.ref b53), .val (.ref b67), .unset, .unset, .unset, .unset] [(.int (1 : Int32))])) _
          refine XS.goto X118.here hx rfl (pc0 := 213) (pc' := 217) rfl (hb hby at_213) (by decide) (by decide) ?_
          exact k
        · rw [show xx = (0 : Int32) from by rw [hxx, if_pos hm129, if_pos hm130, if_neg hm131]] at k
          refine XS.ifYes X118.here hx rfl (pc0 := 209) (pc' := 216) rfl (hb hby at_209) rfl ((if0 _ _).trans (feq (fun q => hm131 ((lw_eq q3 xd).mp q))).2) (by decide) (by decide) ?_
          show Steps p.tables e below (T118.setTop (mkF m 216 #[.val (.int p0), .val (.long q1), .second, .val (.long q2), .second, .val (.long q3), .second, .val (.long q4), .second, .val (.long q5), .second, .val (.int xa), .val (.int xb), .val (.long q1), .second, .val (.long xm), .second, .val (.long q3), .second, .val (.long xd), .second, .val (.long q5), .second, .val (.long xi), .second, .val (.int tt), .val (.int xt), .val (.ref b31), .val (.ref b53), .val (.ref b67), .unset, .unset, .unset, .unset] [])) _
          refine XS.iconst X118.here hx rfl (hb hby at_216) ?_
          exact k
      · rw [show xx = (0 : Int32) from by rw [hxx, if_pos hm129, if_neg hm130]] at k
        refine XS.ifYes X118.here hx rfl (pc0 := 201) (pc' := 216) rfl (hb hby at_201) rfl ((if0 _ _).trans (feq (fun q => hm130 ((lw_eq q1 xm).mp q))).2) (by decide) (by decide) ?_
        show Steps p.tables e below (T118.setTop (mkF m 216 #[.val (.int p0), .val (.long q1), .second, .val (.long q2), .second, .val (.long q3), .second, .val (.long q4), .second, .val (.long q5), .second, .val (.int xa), .val (.int xb), .val (.long q1), .second, .val (.long xm), .second, .val (.long q3), .second, .val (.long xd), .second, .val (.long q5), .second, .val (.long xi), .second, .val (.int tt), .val (.int xt), .val (.ref b31), .val (.ref b53), .val (.ref b67), .unset, .unset, .unset, .unset] [])) _
        refine XS.iconst X118.here hx rfl (hb hby at_216) ?_
        exact k
    · rw [show xx = (0 : Int32) from by rw [hxx, if_neg hm129]] at k
      refine XS.icmpYes X118.here hx rfl (pc0 := 193) (pc' := 216) rfl (hb hby at_193) rfl (feq hm129).2 (by decide) (by decide) ?_
      show Steps p.tables e below (T118.setTop (mkF m 216 #[.val (.int p0), .val (.long q1), .second, .val (.long q2), .second, .val (.long q3), .second, .val (.long q4), .second, .val (.long q5), .second, .val (.int xa), .val (.int xb), .val (.long q1), .second, .val (.long xm), .second, .val (.long q3), .second, .val (.long xd), .second, .val (.long q5), .second, .val (.long xi), .second, .val (.int tt), .val (.int xt), .val (.ref b31), .val (.ref b53), .val (.ref b67), .unset, .unset, .unset, .unset] [])) _
      refine XS.iconst X118.here hx rfl (hb hby at_216) ?_
      exact k)
  obtain ⟨cq133, kq133, q133a, q133b, q133c⟩ := isOf hZ rfl u118_1
  obtain ⟨_, _, ⟨T133, L133, k133, n133⟩, -, X133, ⟨Lc133, hQ133, l133, y133, z133⟩, st133⟩ := X118.virtualBack hx (y := (⟨"com/example/conceptary/conceptary/ConceptTable$Builder", "sameValues", "(II)Z"⟩ : MethodName)) (z := (⟨"com/example/conceptary/conceptary/ConceptTable$Builder", "sameValues", "(II)Z"⟩ : MethodName)) hown (mvT hZ (hw _ (List.mem_of_getElem? (i := 129) rfl))) (mvT hZ (hw _ (List.mem_of_getElem? (i := 130) rfl))) (notFace_of_selects (args := #[]) (mvT hZ (hw _ (List.mem_of_getElem? (i := 132) rfl)))) (mvT hZ (hw _ (List.mem_of_getElem? (i := 132) rfl))) (mvT hZ (hw _ (List.mem_of_getElem? (i := 131) rfl))) (by decide) (backOf (W := 0) (rm17 l Z a0 hw [] b31 (0 : Int32) (1 : Int32) ac_34 mo_34 de_34 (fun i => if i = (((0 : Int32) + (1 : Int32))).toNatClampNeg then (nar .boolean xb) else (fun i => if i = ((0 : Int32)).toNatClampNeg then (nar .boolean xa) else (fun _ => (0 : Int32)) i) i) (fun i => if i = (((0 : Int32) + (1 : Int32))).toNatClampNeg then xm else (fun i => if i = ((0 : Int32)).toNatClampNeg then q1 else (fun _ => (0 : Int64)) i) i) (fun i => if i = (((0 : Int32) + (1 : Int32))).toNatClampNeg then xd else (fun i => if i = ((0 : Int32)).toNatClampNeg then q3 else (fun _ => (0 : Int64)) i) i) T118.heap n0 Z127 u118_8 u118_9 u118_10 u118_15 u118_16 u118_17 ⟨by decide, by decide⟩ ⟨by decide, by decide⟩) hZ (hw _ (List.mem_of_getElem? (i := 133) rfl)) (hw _ (List.mem_of_getElem? (i := 3) rfl)) (by decide) (by decide)) q133a q133c (g := (mkF m 223 #[.val (.int p0), .val (.long q1), .second, .val (.long q2), .second, .val (.long q3), .second, .val (.long q4), .second, .val (.long q5), .second, .val (.int xa), .val (.int xb), .val (.long q1), .second, .val (.long xm), .second, .val (.long q3), .second, .val (.long xd), .second, .val (.long q5), .second, .val (.long xi), .second, .val (.int tt), .val (.int xt), .val (.ref b31), .val (.ref b53), .val (.ref b67), .val (.int xx), .unset, .unset, .unset] [(.int (1 : Int32)), (.int (0 : Int32)), (.ref b31)])) rfl (by rw [hml]; rfl) (Steps.refl _) (argsL := [(.int (0 : Int32)), (.int (1 : Int32))]) (rest := []) (lenOf pd_7 rfl) rfl (by show 2 * 0 + _ ≤ _; exact Nat.le_of_eq rfl) (hb hby at_223) (fun _ _ => ⟨rfl, rfl, (by decide : 11 + 0 ≤ _), (by decide : 7190 + 0 ≤ _)⟩)
  dsimp only [Pt.U, Pt.locs, Pt.cells, Pt.slots] at X133 l133 y133 z133 st133 hQ133
  subst l133 y133 z133
  obtain ⟨rfl, Nq133, u133_0⟩ := hQ133
  have N133 := Fr.app N118 Nq133
  obtain ⟨cq134, kq134, q134a, q134b, q134c⟩ := isOf hZ u133_0 u118_1
  obtain ⟨_, _, ⟨T134, L134, k134, n134⟩, -, X134, ⟨Lc134, hQ134, l134, y134, z134⟩, st134⟩ := X133.virtualBack hx (y := (⟨"com/example/conceptary/conceptary/ConceptTable$Builder", "sameValues", "(II)Z"⟩ : MethodName)) (z := (⟨"com/example/conceptary/conceptary/ConceptTable$Builder", "sameValues", "(II)Z"⟩ : MethodName)) hown (mvT hZ (hw _ (List.mem_of_getElem? (i := 129) rfl))) (mvT hZ (hw _ (List.mem_of_getElem? (i := 130) rfl))) (notFace_of_selects (args := #[]) (mvT hZ (hw _ (List.mem_of_getElem? (i := 132) rfl)))) (mvT hZ (hw _ (List.mem_of_getElem? (i := 132) rfl))) (mvT hZ (hw _ (List.mem_of_getElem? (i := 131) rfl))) (by decide) (backOf (W := 0) (rm17 l Z a0 hw [] b31 (1 : Int32) (0 : Int32) ac_34 mo_34 de_34 (fun i => if i = (((0 : Int32) + (1 : Int32))).toNatClampNeg then (nar .boolean xb) else (fun i => if i = ((0 : Int32)).toNatClampNeg then (nar .boolean xa) else (fun _ => (0 : Int32)) i) i) (fun i => if i = (((0 : Int32) + (1 : Int32))).toNatClampNeg then xm else (fun i => if i = ((0 : Int32)).toNatClampNeg then q1 else (fun _ => (0 : Int64)) i) i) (fun i => if i = (((0 : Int32) + (1 : Int32))).toNatClampNeg then xd else (fun i => if i = ((0 : Int32)).toNatClampNeg then q3 else (fun _ => (0 : Int64)) i) i) T118.heap n0 Z127 u118_8 u118_9 u118_10 u118_15 u118_16 u118_17 ⟨by decide, by decide⟩ ⟨by decide, by decide⟩) hZ (hw _ (List.mem_of_getElem? (i := 133) rfl)) (hw _ (List.mem_of_getElem? (i := 3) rfl)) (by decide) (by decide)) q134a q134c (g := (mkF m 232 #[.val (.int p0), .val (.long q1), .second, .val (.long q2), .second, .val (.long q3), .second, .val (.long q4), .second, .val (.long q5), .second, .val (.int xa), .val (.int xb), .val (.long q1), .second, .val (.long xm), .second, .val (.long q3), .second, .val (.long xd), .second, .val (.long q5), .second, .val (.long xi), .second, .val (.int tt), .val (.int xt), .val (.ref b31), .val (.ref b53), .val (.ref b67), .val (.int xx), .val (.int (own_same ((fun i => if i = (((0 : Int32) + (1 : Int32))).toNatClampNeg then (nar .boolean xb) else (fun i => if i = ((0 : Int32)).toNatClampNeg then (nar .boolean xa) else (fun _ => (0 : Int32)) i) i) ((0 : Int32)).toNatClampNeg) ((fun i => if i = (((0 : Int32) + (1 : Int32))).toNatClampNeg then (nar .boolean xb) else (fun i => if i = ((0 : Int32)).toNatClampNeg then (nar .boolean xa) else (fun _ => (0 : Int32)) i) i) ((1 : Int32)).toNatClampNeg) ((fun i => if i = (((0 : Int32) + (1 : Int32))).toNatClampNeg then xm else (fun i => if i = ((0 : Int32)).toNatClampNeg then q1 else (fun _ => (0 : Int64)) i) i) ((0 : Int32)).toNatClampNeg) ((fun i => if i = (((0 : Int32) + (1 : Int32))).toNatClampNeg then xm else (fun i => if i = ((0 : Int32)).toNatClampNeg then q1 else (fun _ => (0 : Int64)) i) i) ((1 : Int32)).toNatClampNeg) ((fun i => if i = (((0 : Int32) + (1 : Int32))).toNatClampNeg then xd else (fun i => if i = ((0 : Int32)).toNatClampNeg then q3 else (fun _ => (0 : Int64)) i) i) ((0 : Int32)).toNatClampNeg) ((fun i => if i = (((0 : Int32) + (1 : Int32))).toNatClampNeg then xd else (fun i => if i = ((0 : Int32)).toNatClampNeg then q3 else (fun _ => (0 : Int64)) i) i) ((1 : Int32)).toNatClampNeg))), .unset, .unset] [(.int (0 : Int32)), (.int (1 : Int32)), (.ref b31)])) rfl (by rw [hml]; rfl) (Steps.refl _) (argsL := [(.int (1 : Int32)), (.int (0 : Int32))]) (rest := []) (lenOf pd_7 rfl) rfl (by show 2 * 0 + _ ≤ _; exact Nat.le_of_eq rfl) (hb hby at_232) (fun _ _ => ⟨rfl, u133_0, (by decide : 11 + 0 ≤ _), (by decide : 7190 + 0 ≤ _)⟩)
  dsimp only [Pt.U, Pt.locs, Pt.cells, Pt.slots] at X134 l134 y134 z134 st134 hQ134
  subst l134 y134 z134
  obtain ⟨rfl, Nq134, u134_0⟩ := hQ134
  have N134 := Fr.app N133 Nq134
  obtain ⟨cq135, kq135, q135a, q135b, q135c⟩ := isOf hZ u134_0 u118_1
  obtain ⟨_, _, ⟨T135, L135, k135, n135⟩, -, X135, ⟨Lc135, hQ135, l135, y135, z135⟩, st135⟩ := X134.virtualBack hx (y := (⟨"com/example/conceptary/conceptary/ConceptTable$Builder", "sameValues", "(II)Z"⟩ : MethodName)) (z := (⟨"com/example/conceptary/conceptary/ConceptTable$Builder", "sameValues", "(II)Z"⟩ : MethodName)) hown (mvT hZ (hw _ (List.mem_of_getElem? (i := 129) rfl))) (mvT hZ (hw _ (List.mem_of_getElem? (i := 130) rfl))) (notFace_of_selects (args := #[]) (mvT hZ (hw _ (List.mem_of_getElem? (i := 132) rfl)))) (mvT hZ (hw _ (List.mem_of_getElem? (i := 132) rfl))) (mvT hZ (hw _ (List.mem_of_getElem? (i := 131) rfl))) (by decide) (backOf (W := 0) (rm17 l Z a0 hw [] b31 (0 : Int32) (0 : Int32) ac_34 mo_34 de_34 (fun i => if i = (((0 : Int32) + (1 : Int32))).toNatClampNeg then (nar .boolean xb) else (fun i => if i = ((0 : Int32)).toNatClampNeg then (nar .boolean xa) else (fun _ => (0 : Int32)) i) i) (fun i => if i = (((0 : Int32) + (1 : Int32))).toNatClampNeg then xm else (fun i => if i = ((0 : Int32)).toNatClampNeg then q1 else (fun _ => (0 : Int64)) i) i) (fun i => if i = (((0 : Int32) + (1 : Int32))).toNatClampNeg then xd else (fun i => if i = ((0 : Int32)).toNatClampNeg then q3 else (fun _ => (0 : Int64)) i) i) T118.heap n0 Z127 u118_8 u118_9 u118_10 u118_15 u118_16 u118_17 ⟨by decide, by decide⟩ ⟨by decide, by decide⟩) hZ (hw _ (List.mem_of_getElem? (i := 133) rfl)) (hw _ (List.mem_of_getElem? (i := 3) rfl)) (by decide) (by decide)) q135a q135c (g := (mkF m 241 #[.val (.int p0), .val (.long q1), .second, .val (.long q2), .second, .val (.long q3), .second, .val (.long q4), .second, .val (.long q5), .second, .val (.int xa), .val (.int xb), .val (.long q1), .second, .val (.long xm), .second, .val (.long q3), .second, .val (.long xd), .second, .val (.long q5), .second, .val (.long xi), .second, .val (.int tt), .val (.int xt), .val (.ref b31), .val (.ref b53), .val (.ref b67), .val (.int xx), .val (.int (own_same ((fun i => if i = (((0 : Int32) + (1 : Int32))).toNatClampNeg then (nar .boolean xb) else (fun i => if i = ((0 : Int32)).toNatClampNeg then (nar .boolean xa) else (fun _ => (0 : Int32)) i) i) ((0 : Int32)).toNatClampNeg) ((fun i => if i = (((0 : Int32) + (1 : Int32))).toNatClampNeg then (nar .boolean xb) else (fun i => if i = ((0 : Int32)).toNatClampNeg then (nar .boolean xa) else (fun _ => (0 : Int32)) i) i) ((1 : Int32)).toNatClampNeg) ((fun i => if i = (((0 : Int32) + (1 : Int32))).toNatClampNeg then xm else (fun i => if i = ((0 : Int32)).toNatClampNeg then q1 else (fun _ => (0 : Int64)) i) i) ((0 : Int32)).toNatClampNeg) ((fun i => if i = (((0 : Int32) + (1 : Int32))).toNatClampNeg then xm else (fun i => if i = ((0 : Int32)).toNatClampNeg then q1 else (fun _ => (0 : Int64)) i) i) ((1 : Int32)).toNatClampNeg) ((fun i => if i = (((0 : Int32) + (1 : Int32))).toNatClampNeg then xd else (fun i => if i = ((0 : Int32)).toNatClampNeg then q3 else (fun _ => (0 : Int64)) i) i) ((0 : Int32)).toNatClampNeg) ((fun i => if i = (((0 : Int32) + (1 : Int32))).toNatClampNeg then xd else (fun i => if i = ((0 : Int32)).toNatClampNeg then q3 else (fun _ => (0 : Int64)) i) i) ((1 : Int32)).toNatClampNeg))), .val (.int (own_same ((fun i => if i = (((0 : Int32) + (1 : Int32))).toNatClampNeg then (nar .boolean xb) else (fun i => if i = ((0 : Int32)).toNatClampNeg then (nar .boolean xa) else (fun _ => (0 : Int32)) i) i) ((1 : Int32)).toNatClampNeg) ((fun i => if i = (((0 : Int32) + (1 : Int32))).toNatClampNeg then (nar .boolean xb) else (fun i => if i = ((0 : Int32)).toNatClampNeg then (nar .boolean xa) else (fun _ => (0 : Int32)) i) i) ((0 : Int32)).toNatClampNeg) ((fun i => if i = (((0 : Int32) + (1 : Int32))).toNatClampNeg then xm else (fun i => if i = ((0 : Int32)).toNatClampNeg then q1 else (fun _ => (0 : Int64)) i) i) ((1 : Int32)).toNatClampNeg) ((fun i => if i = (((0 : Int32) + (1 : Int32))).toNatClampNeg then xm else (fun i => if i = ((0 : Int32)).toNatClampNeg then q1 else (fun _ => (0 : Int64)) i) i) ((0 : Int32)).toNatClampNeg) ((fun i => if i = (((0 : Int32) + (1 : Int32))).toNatClampNeg then xd else (fun i => if i = ((0 : Int32)).toNatClampNeg then q3 else (fun _ => (0 : Int64)) i) i) ((1 : Int32)).toNatClampNeg) ((fun i => if i = (((0 : Int32) + (1 : Int32))).toNatClampNeg then xd else (fun i => if i = ((0 : Int32)).toNatClampNeg then q3 else (fun _ => (0 : Int64)) i) i) ((0 : Int32)).toNatClampNeg))), .unset] [(.int (0 : Int32)), (.int (0 : Int32)), (.ref b31)])) rfl (by rw [hml]; rfl) (Steps.refl _) (argsL := [(.int (0 : Int32)), (.int (0 : Int32))]) (rest := []) (lenOf pd_7 rfl) rfl (by show 2 * 0 + _ ≤ _; exact Nat.le_of_eq rfl) (hb hby at_241) (fun _ _ => ⟨rfl, u134_0, (by decide : 11 + 0 ≤ _), (by decide : 7190 + 0 ≤ _)⟩)
  dsimp only [Pt.U, Pt.locs, Pt.cells, Pt.slots] at X135 l135 y135 z135 st135 hQ135
  subst l135 y135 z135
  obtain ⟨rfl, Nq135, u135_0⟩ := hQ135
  have N135 := Fr.app N134 Nq135
  obtain ⟨fs, hr, hrun, hended, hW, hsame⟩ := X135.leave (v := some (.int (1 : Int32))) (fun h => by rw [Bd.returns] at h; cases h)
  refine ⟨_, _, pre132 _ ?_, hrun, hended, _, _, rfl, ?_, ⟨_, rfl⟩, hW, hsame.mono (by decide) (by decide)⟩
  · refine XS.istore X118.here hx rfl (hb hby at_217) rfl (l' := #[.val (.int p0), .val (.long q1), .second, .val (.long q2), .second, .val (.long q3), .second, .val (.long q4), .second, .val (.long q5), .second, .val (.int xa), .val (.int xb), .val (.long q1), .second, .val (.long xm), .second, .val (.long q3), .second, .val (.long xd), .second, .val (.long q5), .second, .val (.long xi), .second, .val (.int tt), .val (.int xt), .val (.ref b31), .val (.ref b53), .val (.ref b67), .val (.int xx), .unset, .unset, .unset]) rfl ?_
    show Steps p.tables e below (T118.setTop (mkF m 219 #[.val (.int p0), .val (.long q1), .second, .val (.long q2), .second, .val (.long q3), .second, .val (.long q4), .second, .val (.long q5), .second, .val (.int xa), .val (.int xb), .val (.long q1), .second, .val (.long xm), .second, .val (.long q3), .second, .val (.long xd), .second, .val (.long q5), .second, .val (.long xi), .second, .val (.int tt), .val (.int xt), .val (.ref b31), .val (.ref b53), .val (.ref b67), .val (.int xx), .unset, .unset, .unset] [])) _
    refine XS.aload X118.here hx rfl (hb hby at_219) rfl rfl ?_
    show Steps p.tables e below (T118.setTop (mkF m 221 #[.val (.int p0), .val (.long q1), .second, .val (.long q2), .second, .val (.long q3), .second, .val (.long q4), .second, .val (.long q5), .second, .val (.int xa), .val (.int xb), .val (.long q1), .second, .val (.long xm), .second, .val (.long q3), .second, .val (.long xd), .second, .val (.long q5), .second, .val (.long xi), .second, .val (.int tt), .val (.int xt), .val (.ref b31), .val (.ref b53), .val (.ref b67), .val (.int xx), .unset, .unset, .unset] [(.ref b31)])) _
    refine XS.iconst X118.here hx rfl (hb hby at_221) ?_
    show Steps p.tables e below (T118.setTop (mkF m 222 #[.val (.int p0), .val (.long q1), .second, .val (.long q2), .second, .val (.long q3), .second, .val (.long q4), .second, .val (.long q5), .second, .val (.int xa), .val (.int xb), .val (.long q1), .second, .val (.long xm), .second, .val (.long q3), .second, .val (.long xd), .second, .val (.long q5), .second, .val (.long xi), .second, .val (.int tt), .val (.int xt), .val (.ref b31), .val (.ref b53), .val (.ref b67), .val (.int xx), .unset, .unset, .unset] [(.int (0 : Int32)), (.ref b31)])) _
    refine XS.iconst X118.here hx rfl (hb hby at_222) ?_
    show Steps p.tables e below (T118.setTop (mkF m 223 #[.val (.int p0), .val (.long q1), .second, .val (.long q2), .second, .val (.long q3), .second, .val (.long q4), .second, .val (.long q5), .second, .val (.int xa), .val (.int xb), .val (.long q1), .second, .val (.long xm), .second, .val (.long q3), .second, .val (.long xd), .second, .val (.long q5), .second, .val (.long xi), .second, .val (.int tt), .val (.int xt), .val (.ref b31), .val (.ref b53), .val (.ref b67), .val (.int xx), .unset, .unset, .unset] [(.int (1 : Int32)), (.int (0 : Int32)), (.ref b31)])) _
    refine st133.trans ?_
    show Steps p.tables e below (T133.setTop (mkF m 226 #[.val (.int p0), .val (.long q1), .second, .val (.long q2), .second, .val (.long q3), .second, .val (.long q4), .second, .val (.long q5), .second, .val (.int xa), .val (.int xb), .val (.long q1), .second, .val (.long xm), .second, .val (.long q3), .second, .val (.long xd), .second, .val (.long q5), .second, .val (.long xi), .second, .val (.int tt), .val (.int xt), .val (.ref b31), .val (.ref b53), .val (.ref b67), .val (.int xx), .unset, .unset, .unset] [(.int (own_same ((fun i => if i = (((0 : Int32) + (1 : Int32))).toNatClampNeg then (nar .boolean xb) else (fun i => if i = ((0 : Int32)).toNatClampNeg then (nar .boolean xa) else (fun _ => (0 : Int32)) i) i) ((0 : Int32)).toNatClampNeg) ((fun i => if i = (((0 : Int32) + (1 : Int32))).toNatClampNeg then (nar .boolean xb) else (fun i => if i = ((0 : Int32)).toNatClampNeg then (nar .boolean xa) else (fun _ => (0 : Int32)) i) i) ((1 : Int32)).toNatClampNeg) ((fun i => if i = (((0 : Int32) + (1 : Int32))).toNatClampNeg then xm else (fun i => if i = ((0 : Int32)).toNatClampNeg then q1 else (fun _ => (0 : Int64)) i) i) ((0 : Int32)).toNatClampNeg) ((fun i => if i = (((0 : Int32) + (1 : Int32))).toNatClampNeg then xm else (fun i => if i = ((0 : Int32)).toNatClampNeg then q1 else (fun _ => (0 : Int64)) i) i) ((1 : Int32)).toNatClampNeg) ((fun i => if i = (((0 : Int32) + (1 : Int32))).toNatClampNeg then xd else (fun i => if i = ((0 : Int32)).toNatClampNeg then q3 else (fun _ => (0 : Int64)) i) i) ((0 : Int32)).toNatClampNeg) ((fun i => if i = (((0 : Int32) + (1 : Int32))).toNatClampNeg then xd else (fun i => if i = ((0 : Int32)).toNatClampNeg then q3 else (fun _ => (0 : Int64)) i) i) ((1 : Int32)).toNatClampNeg)))])) _
    refine XS.istore X133.here hx rfl (hb hby at_226) rfl (l' := #[.val (.int p0), .val (.long q1), .second, .val (.long q2), .second, .val (.long q3), .second, .val (.long q4), .second, .val (.long q5), .second, .val (.int xa), .val (.int xb), .val (.long q1), .second, .val (.long xm), .second, .val (.long q3), .second, .val (.long xd), .second, .val (.long q5), .second, .val (.long xi), .second, .val (.int tt), .val (.int xt), .val (.ref b31), .val (.ref b53), .val (.ref b67), .val (.int xx), .val (.int (own_same ((fun i => if i = (((0 : Int32) + (1 : Int32))).toNatClampNeg then (nar .boolean xb) else (fun i => if i = ((0 : Int32)).toNatClampNeg then (nar .boolean xa) else (fun _ => (0 : Int32)) i) i) ((0 : Int32)).toNatClampNeg) ((fun i => if i = (((0 : Int32) + (1 : Int32))).toNatClampNeg then (nar .boolean xb) else (fun i => if i = ((0 : Int32)).toNatClampNeg then (nar .boolean xa) else (fun _ => (0 : Int32)) i) i) ((1 : Int32)).toNatClampNeg) ((fun i => if i = (((0 : Int32) + (1 : Int32))).toNatClampNeg then xm else (fun i => if i = ((0 : Int32)).toNatClampNeg then q1 else (fun _ => (0 : Int64)) i) i) ((0 : Int32)).toNatClampNeg) ((fun i => if i = (((0 : Int32) + (1 : Int32))).toNatClampNeg then xm else (fun i => if i = ((0 : Int32)).toNatClampNeg then q1 else (fun _ => (0 : Int64)) i) i) ((1 : Int32)).toNatClampNeg) ((fun i => if i = (((0 : Int32) + (1 : Int32))).toNatClampNeg then xd else (fun i => if i = ((0 : Int32)).toNatClampNeg then q3 else (fun _ => (0 : Int64)) i) i) ((0 : Int32)).toNatClampNeg) ((fun i => if i = (((0 : Int32) + (1 : Int32))).toNatClampNeg then xd else (fun i => if i = ((0 : Int32)).toNatClampNeg then q3 else (fun _ => (0 : Int64)) i) i) ((1 : Int32)).toNatClampNeg))), .unset, .unset]) rfl ?_
    show Steps p.tables e below (T133.setTop (mkF m 228 #[.val (.int p0), .val (.long q1), .second, .val (.long q2), .second, .val (.long q3), .second, .val (.long q4), .second, .val (.long q5), .second, .val (.int xa), .val (.int xb), .val (.long q1), .second, .val (.long xm), .second, .val (.long q3), .second, .val (.long xd), .second, .val (.long q5), .second, .val (.long xi), .second, .val (.int tt), .val (.int xt), .val (.ref b31), .val (.ref b53), .val (.ref b67), .val (.int xx), .val (.int (own_same ((fun i => if i = (((0 : Int32) + (1 : Int32))).toNatClampNeg then (nar .boolean xb) else (fun i => if i = ((0 : Int32)).toNatClampNeg then (nar .boolean xa) else (fun _ => (0 : Int32)) i) i) ((0 : Int32)).toNatClampNeg) ((fun i => if i = (((0 : Int32) + (1 : Int32))).toNatClampNeg then (nar .boolean xb) else (fun i => if i = ((0 : Int32)).toNatClampNeg then (nar .boolean xa) else (fun _ => (0 : Int32)) i) i) ((1 : Int32)).toNatClampNeg) ((fun i => if i = (((0 : Int32) + (1 : Int32))).toNatClampNeg then xm else (fun i => if i = ((0 : Int32)).toNatClampNeg then q1 else (fun _ => (0 : Int64)) i) i) ((0 : Int32)).toNatClampNeg) ((fun i => if i = (((0 : Int32) + (1 : Int32))).toNatClampNeg then xm else (fun i => if i = ((0 : Int32)).toNatClampNeg then q1 else (fun _ => (0 : Int64)) i) i) ((1 : Int32)).toNatClampNeg) ((fun i => if i = (((0 : Int32) + (1 : Int32))).toNatClampNeg then xd else (fun i => if i = ((0 : Int32)).toNatClampNeg then q3 else (fun _ => (0 : Int64)) i) i) ((0 : Int32)).toNatClampNeg) ((fun i => if i = (((0 : Int32) + (1 : Int32))).toNatClampNeg then xd else (fun i => if i = ((0 : Int32)).toNatClampNeg then q3 else (fun _ => (0 : Int64)) i) i) ((1 : Int32)).toNatClampNeg))), .unset, .unset] [])) _
    refine XS.aload X133.here hx rfl (hb hby at_228) rfl rfl ?_
    show Steps p.tables e below (T133.setTop (mkF m 230 #[.val (.int p0), .val (.long q1), .second, .val (.long q2), .second, .val (.long q3), .second, .val (.long q4), .second, .val (.long q5), .second, .val (.int xa), .val (.int xb), .val (.long q1), .second, .val (.long xm), .second, .val (.long q3), .second, .val (.long xd), .second, .val (.long q5), .second, .val (.long xi), .second, .val (.int tt), .val (.int xt), .val (.ref b31), .val (.ref b53), .val (.ref b67), .val (.int xx), .val (.int (own_same ((fun i => if i = (((0 : Int32) + (1 : Int32))).toNatClampNeg then (nar .boolean xb) else (fun i => if i = ((0 : Int32)).toNatClampNeg then (nar .boolean xa) else (fun _ => (0 : Int32)) i) i) ((0 : Int32)).toNatClampNeg) ((fun i => if i = (((0 : Int32) + (1 : Int32))).toNatClampNeg then (nar .boolean xb) else (fun i => if i = ((0 : Int32)).toNatClampNeg then (nar .boolean xa) else (fun _ => (0 : Int32)) i) i) ((1 : Int32)).toNatClampNeg) ((fun i => if i = (((0 : Int32) + (1 : Int32))).toNatClampNeg then xm else (fun i => if i = ((0 : Int32)).toNatClampNeg then q1 else (fun _ => (0 : Int64)) i) i) ((0 : Int32)).toNatClampNeg) ((fun i => if i = (((0 : Int32) + (1 : Int32))).toNatClampNeg then xm else (fun i => if i = ((0 : Int32)).toNatClampNeg then q1 else (fun _ => (0 : Int64)) i) i) ((1 : Int32)).toNatClampNeg) ((fun i => if i = (((0 : Int32) + (1 : Int32))).toNatClampNeg then xd else (fun i => if i = ((0 : Int32)).toNatClampNeg then q3 else (fun _ => (0 : Int64)) i) i) ((0 : Int32)).toNatClampNeg) ((fun i => if i = (((0 : Int32) + (1 : Int32))).toNatClampNeg then xd else (fun i => if i = ((0 : Int32)).toNatClampNeg then q3 else (fun _ => (0 : Int64)) i) i) ((1 : Int32)).toNatClampNeg))), .unset, .unset] [(.ref b31)])) _
    refine XS.iconst X133.here hx rfl (hb hby at_230) ?_
    show Steps p.tables e below (T133.setTop (mkF m 231 #[.val (.int p0), .val (.long q1), .second, .val (.long q2), .second, .val (.long q3), .second, .val (.long q4), .second, .val (.long q5), .second, .val (.int xa), .val (.int xb), .val (.long q1), .second, .val (.long xm), .second, .val (.long q3), .second, .val (.long xd), .second, .val (.long q5), .second, .val (.long xi), .second, .val (.int tt), .val (.int xt), .val (.ref b31), .val (.ref b53), .val (.ref b67), .val (.int xx), .val (.int (own_same ((fun i => if i = (((0 : Int32) + (1 : Int32))).toNatClampNeg then (nar .boolean xb) else (fun i => if i = ((0 : Int32)).toNatClampNeg then (nar .boolean xa) else (fun _ => (0 : Int32)) i) i) ((0 : Int32)).toNatClampNeg) ((fun i => if i = (((0 : Int32) + (1 : Int32))).toNatClampNeg then (nar .boolean xb) else (fun i => if i = ((0 : Int32)).toNatClampNeg then (nar .boolean xa) else (fun _ => (0 : Int32)) i) i) ((1 : Int32)).toNatClampNeg) ((fun i => if i = (((0 : Int32) + (1 : Int32))).toNatClampNeg then xm else (fun i => if i = ((0 : Int32)).toNatClampNeg then q1 else (fun _ => (0 : Int64)) i) i) ((0 : Int32)).toNatClampNeg) ((fun i => if i = (((0 : Int32) + (1 : Int32))).toNatClampNeg then xm else (fun i => if i = ((0 : Int32)).toNatClampNeg then q1 else (fun _ => (0 : Int64)) i) i) ((1 : Int32)).toNatClampNeg) ((fun i => if i = (((0 : Int32) + (1 : Int32))).toNatClampNeg then xd else (fun i => if i = ((0 : Int32)).toNatClampNeg then q3 else (fun _ => (0 : Int64)) i) i) ((0 : Int32)).toNatClampNeg) ((fun i => if i = (((0 : Int32) + (1 : Int32))).toNatClampNeg then xd else (fun i => if i = ((0 : Int32)).toNatClampNeg then q3 else (fun _ => (0 : Int64)) i) i) ((1 : Int32)).toNatClampNeg))), .unset, .unset] [(.int (1 : Int32)), (.ref b31)])) _
    refine XS.iconst X133.here hx rfl (hb hby at_231) ?_
    show Steps p.tables e below (T133.setTop (mkF m 232 #[.val (.int p0), .val (.long q1), .second, .val (.long q2), .second, .val (.long q3), .second, .val (.long q4), .second, .val (.long q5), .second, .val (.int xa), .val (.int xb), .val (.long q1), .second, .val (.long xm), .second, .val (.long q3), .second, .val (.long xd), .second, .val (.long q5), .second, .val (.long xi), .second, .val (.int tt), .val (.int xt), .val (.ref b31), .val (.ref b53), .val (.ref b67), .val (.int xx), .val (.int (own_same ((fun i => if i = (((0 : Int32) + (1 : Int32))).toNatClampNeg then (nar .boolean xb) else (fun i => if i = ((0 : Int32)).toNatClampNeg then (nar .boolean xa) else (fun _ => (0 : Int32)) i) i) ((0 : Int32)).toNatClampNeg) ((fun i => if i = (((0 : Int32) + (1 : Int32))).toNatClampNeg then (nar .boolean xb) else (fun i => if i = ((0 : Int32)).toNatClampNeg then (nar .boolean xa) else (fun _ => (0 : Int32)) i) i) ((1 : Int32)).toNatClampNeg) ((fun i => if i = (((0 : Int32) + (1 : Int32))).toNatClampNeg then xm else (fun i => if i = ((0 : Int32)).toNatClampNeg then q1 else (fun _ => (0 : Int64)) i) i) ((0 : Int32)).toNatClampNeg) ((fun i => if i = (((0 : Int32) + (1 : Int32))).toNatClampNeg then xm else (fun i => if i = ((0 : Int32)).toNatClampNeg then q1 else (fun _ => (0 : Int64)) i) i) ((1 : Int32)).toNatClampNeg) ((fun i => if i = (((0 : Int32) + (1 : Int32))).toNatClampNeg then xd else (fun i => if i = ((0 : Int32)).toNatClampNeg then q3 else (fun _ => (0 : Int64)) i) i) ((0 : Int32)).toNatClampNeg) ((fun i => if i = (((0 : Int32) + (1 : Int32))).toNatClampNeg then xd else (fun i => if i = ((0 : Int32)).toNatClampNeg then q3 else (fun _ => (0 : Int64)) i) i) ((1 : Int32)).toNatClampNeg))), .unset, .unset] [(.int (0 : Int32)), (.int (1 : Int32)), (.ref b31)])) _
    refine st134.trans ?_
    show Steps p.tables e below (T134.setTop (mkF m 235 #[.val (.int p0), .val (.long q1), .second, .val (.long q2), .second, .val (.long q3), .second, .val (.long q4), .second, .val (.long q5), .second, .val (.int xa), .val (.int xb), .val (.long q1), .second, .val (.long xm), .second, .val (.long q3), .second, .val (.long xd), .second, .val (.long q5), .second, .val (.long xi), .second, .val (.int tt), .val (.int xt), .val (.ref b31), .val (.ref b53), .val (.ref b67), .val (.int xx), .val (.int (own_same ((fun i => if i = (((0 : Int32) + (1 : Int32))).toNatClampNeg then (nar .boolean xb) else (fun i => if i = ((0 : Int32)).toNatClampNeg then (nar .boolean xa) else (fun _ => (0 : Int32)) i) i) ((0 : Int32)).toNatClampNeg) ((fun i => if i = (((0 : Int32) + (1 : Int32))).toNatClampNeg then (nar .boolean xb) else (fun i => if i = ((0 : Int32)).toNatClampNeg then (nar .boolean xa) else (fun _ => (0 : Int32)) i) i) ((1 : Int32)).toNatClampNeg) ((fun i => if i = (((0 : Int32) + (1 : Int32))).toNatClampNeg then xm else (fun i => if i = ((0 : Int32)).toNatClampNeg then q1 else (fun _ => (0 : Int64)) i) i) ((0 : Int32)).toNatClampNeg) ((fun i => if i = (((0 : Int32) + (1 : Int32))).toNatClampNeg then xm else (fun i => if i = ((0 : Int32)).toNatClampNeg then q1 else (fun _ => (0 : Int64)) i) i) ((1 : Int32)).toNatClampNeg) ((fun i => if i = (((0 : Int32) + (1 : Int32))).toNatClampNeg then xd else (fun i => if i = ((0 : Int32)).toNatClampNeg then q3 else (fun _ => (0 : Int64)) i) i) ((0 : Int32)).toNatClampNeg) ((fun i => if i = (((0 : Int32) + (1 : Int32))).toNatClampNeg then xd else (fun i => if i = ((0 : Int32)).toNatClampNeg then q3 else (fun _ => (0 : Int64)) i) i) ((1 : Int32)).toNatClampNeg))), .unset, .unset] [(.int (own_same ((fun i => if i = (((0 : Int32) + (1 : Int32))).toNatClampNeg then (nar .boolean xb) else (fun i => if i = ((0 : Int32)).toNatClampNeg then (nar .boolean xa) else (fun _ => (0 : Int32)) i) i) ((1 : Int32)).toNatClampNeg) ((fun i => if i = (((0 : Int32) + (1 : Int32))).toNatClampNeg then (nar .boolean xb) else (fun i => if i = ((0 : Int32)).toNatClampNeg then (nar .boolean xa) else (fun _ => (0 : Int32)) i) i) ((0 : Int32)).toNatClampNeg) ((fun i => if i = (((0 : Int32) + (1 : Int32))).toNatClampNeg then xm else (fun i => if i = ((0 : Int32)).toNatClampNeg then q1 else (fun _ => (0 : Int64)) i) i) ((1 : Int32)).toNatClampNeg) ((fun i => if i = (((0 : Int32) + (1 : Int32))).toNatClampNeg then xm else (fun i => if i = ((0 : Int32)).toNatClampNeg then q1 else (fun _ => (0 : Int64)) i) i) ((0 : Int32)).toNatClampNeg) ((fun i => if i = (((0 : Int32) + (1 : Int32))).toNatClampNeg then xd else (fun i => if i = ((0 : Int32)).toNatClampNeg then q3 else (fun _ => (0 : Int64)) i) i) ((1 : Int32)).toNatClampNeg) ((fun i => if i = (((0 : Int32) + (1 : Int32))).toNatClampNeg then xd else (fun i => if i = ((0 : Int32)).toNatClampNeg then q3 else (fun _ => (0 : Int64)) i) i) ((0 : Int32)).toNatClampNeg)))])) _
    refine XS.istore X134.here hx rfl (hb hby at_235) rfl (l' := #[.val (.int p0), .val (.long q1), .second, .val (.long q2), .second, .val (.long q3), .second, .val (.long q4), .second, .val (.long q5), .second, .val (.int xa), .val (.int xb), .val (.long q1), .second, .val (.long xm), .second, .val (.long q3), .second, .val (.long xd), .second, .val (.long q5), .second, .val (.long xi), .second, .val (.int tt), .val (.int xt), .val (.ref b31), .val (.ref b53), .val (.ref b67), .val (.int xx), .val (.int (own_same ((fun i => if i = (((0 : Int32) + (1 : Int32))).toNatClampNeg then (nar .boolean xb) else (fun i => if i = ((0 : Int32)).toNatClampNeg then (nar .boolean xa) else (fun _ => (0 : Int32)) i) i) ((0 : Int32)).toNatClampNeg) ((fun i => if i = (((0 : Int32) + (1 : Int32))).toNatClampNeg then (nar .boolean xb) else (fun i => if i = ((0 : Int32)).toNatClampNeg then (nar .boolean xa) else (fun _ => (0 : Int32)) i) i) ((1 : Int32)).toNatClampNeg) ((fun i => if i = (((0 : Int32) + (1 : Int32))).toNatClampNeg then xm else (fun i => if i = ((0 : Int32)).toNatClampNeg then q1 else (fun _ => (0 : Int64)) i) i) ((0 : Int32)).toNatClampNeg) ((fun i => if i = (((0 : Int32) + (1 : Int32))).toNatClampNeg then xm else (fun i => if i = ((0 : Int32)).toNatClampNeg then q1 else (fun _ => (0 : Int64)) i) i) ((1 : Int32)).toNatClampNeg) ((fun i => if i = (((0 : Int32) + (1 : Int32))).toNatClampNeg then xd else (fun i => if i = ((0 : Int32)).toNatClampNeg then q3 else (fun _ => (0 : Int64)) i) i) ((0 : Int32)).toNatClampNeg) ((fun i => if i = (((0 : Int32) + (1 : Int32))).toNatClampNeg then xd else (fun i => if i = ((0 : Int32)).toNatClampNeg then q3 else (fun _ => (0 : Int64)) i) i) ((1 : Int32)).toNatClampNeg))), .val (.int (own_same ((fun i => if i = (((0 : Int32) + (1 : Int32))).toNatClampNeg then (nar .boolean xb) else (fun i => if i = ((0 : Int32)).toNatClampNeg then (nar .boolean xa) else (fun _ => (0 : Int32)) i) i) ((1 : Int32)).toNatClampNeg) ((fun i => if i = (((0 : Int32) + (1 : Int32))).toNatClampNeg then (nar .boolean xb) else (fun i => if i = ((0 : Int32)).toNatClampNeg then (nar .boolean xa) else (fun _ => (0 : Int32)) i) i) ((0 : Int32)).toNatClampNeg) ((fun i => if i = (((0 : Int32) + (1 : Int32))).toNatClampNeg then xm else (fun i => if i = ((0 : Int32)).toNatClampNeg then q1 else (fun _ => (0 : Int64)) i) i) ((1 : Int32)).toNatClampNeg) ((fun i => if i = (((0 : Int32) + (1 : Int32))).toNatClampNeg then xm else (fun i => if i = ((0 : Int32)).toNatClampNeg then q1 else (fun _ => (0 : Int64)) i) i) ((0 : Int32)).toNatClampNeg) ((fun i => if i = (((0 : Int32) + (1 : Int32))).toNatClampNeg then xd else (fun i => if i = ((0 : Int32)).toNatClampNeg then q3 else (fun _ => (0 : Int64)) i) i) ((1 : Int32)).toNatClampNeg) ((fun i => if i = (((0 : Int32) + (1 : Int32))).toNatClampNeg then xd else (fun i => if i = ((0 : Int32)).toNatClampNeg then q3 else (fun _ => (0 : Int64)) i) i) ((0 : Int32)).toNatClampNeg))), .unset]) rfl ?_
    show Steps p.tables e below (T134.setTop (mkF m 237 #[.val (.int p0), .val (.long q1), .second, .val (.long q2), .second, .val (.long q3), .second, .val (.long q4), .second, .val (.long q5), .second, .val (.int xa), .val (.int xb), .val (.long q1), .second, .val (.long xm), .second, .val (.long q3), .second, .val (.long xd), .second, .val (.long q5), .second, .val (.long xi), .second, .val (.int tt), .val (.int xt), .val (.ref b31), .val (.ref b53), .val (.ref b67), .val (.int xx), .val (.int (own_same ((fun i => if i = (((0 : Int32) + (1 : Int32))).toNatClampNeg then (nar .boolean xb) else (fun i => if i = ((0 : Int32)).toNatClampNeg then (nar .boolean xa) else (fun _ => (0 : Int32)) i) i) ((0 : Int32)).toNatClampNeg) ((fun i => if i = (((0 : Int32) + (1 : Int32))).toNatClampNeg then (nar .boolean xb) else (fun i => if i = ((0 : Int32)).toNatClampNeg then (nar .boolean xa) else (fun _ => (0 : Int32)) i) i) ((1 : Int32)).toNatClampNeg) ((fun i => if i = (((0 : Int32) + (1 : Int32))).toNatClampNeg then xm else (fun i => if i = ((0 : Int32)).toNatClampNeg then q1 else (fun _ => (0 : Int64)) i) i) ((0 : Int32)).toNatClampNeg) ((fun i => if i = (((0 : Int32) + (1 : Int32))).toNatClampNeg then xm else (fun i => if i = ((0 : Int32)).toNatClampNeg then q1 else (fun _ => (0 : Int64)) i) i) ((1 : Int32)).toNatClampNeg) ((fun i => if i = (((0 : Int32) + (1 : Int32))).toNatClampNeg then xd else (fun i => if i = ((0 : Int32)).toNatClampNeg then q3 else (fun _ => (0 : Int64)) i) i) ((0 : Int32)).toNatClampNeg) ((fun i => if i = (((0 : Int32) + (1 : Int32))).toNatClampNeg then xd else (fun i => if i = ((0 : Int32)).toNatClampNeg then q3 else (fun _ => (0 : Int64)) i) i) ((1 : Int32)).toNatClampNeg))), .val (.int (own_same ((fun i => if i = (((0 : Int32) + (1 : Int32))).toNatClampNeg then (nar .boolean xb) else (fun i => if i = ((0 : Int32)).toNatClampNeg then (nar .boolean xa) else (fun _ => (0 : Int32)) i) i) ((1 : Int32)).toNatClampNeg) ((fun i => if i = (((0 : Int32) + (1 : Int32))).toNatClampNeg then (nar .boolean xb) else (fun i => if i = ((0 : Int32)).toNatClampNeg then (nar .boolean xa) else (fun _ => (0 : Int32)) i) i) ((0 : Int32)).toNatClampNeg) ((fun i => if i = (((0 : Int32) + (1 : Int32))).toNatClampNeg then xm else (fun i => if i = ((0 : Int32)).toNatClampNeg then q1 else (fun _ => (0 : Int64)) i) i) ((1 : Int32)).toNatClampNeg) ((fun i => if i = (((0 : Int32) + (1 : Int32))).toNatClampNeg then xm else (fun i => if i = ((0 : Int32)).toNatClampNeg then q1 else (fun _ => (0 : Int64)) i) i) ((0 : Int32)).toNatClampNeg) ((fun i => if i = (((0 : Int32) + (1 : Int32))).toNatClampNeg then xd else (fun i => if i = ((0 : Int32)).toNatClampNeg then q3 else (fun _ => (0 : Int64)) i) i) ((1 : Int32)).toNatClampNeg) ((fun i => if i = (((0 : Int32) + (1 : Int32))).toNatClampNeg then xd else (fun i => if i = ((0 : Int32)).toNatClampNeg then q3 else (fun _ => (0 : Int64)) i) i) ((0 : Int32)).toNatClampNeg))), .unset] [])) _
    refine XS.aload X134.here hx rfl (hb hby at_237) rfl rfl ?_
    show Steps p.tables e below (T134.setTop (mkF m 239 #[.val (.int p0), .val (.long q1), .second, .val (.long q2), .second, .val (.long q3), .second, .val (.long q4), .second, .val (.long q5), .second, .val (.int xa), .val (.int xb), .val (.long q1), .second, .val (.long xm), .second, .val (.long q3), .second, .val (.long xd), .second, .val (.long q5), .second, .val (.long xi), .second, .val (.int tt), .val (.int xt), .val (.ref b31), .val (.ref b53), .val (.ref b67), .val (.int xx), .val (.int (own_same ((fun i => if i = (((0 : Int32) + (1 : Int32))).toNatClampNeg then (nar .boolean xb) else (fun i => if i = ((0 : Int32)).toNatClampNeg then (nar .boolean xa) else (fun _ => (0 : Int32)) i) i) ((0 : Int32)).toNatClampNeg) ((fun i => if i = (((0 : Int32) + (1 : Int32))).toNatClampNeg then (nar .boolean xb) else (fun i => if i = ((0 : Int32)).toNatClampNeg then (nar .boolean xa) else (fun _ => (0 : Int32)) i) i) ((1 : Int32)).toNatClampNeg) ((fun i => if i = (((0 : Int32) + (1 : Int32))).toNatClampNeg then xm else (fun i => if i = ((0 : Int32)).toNatClampNeg then q1 else (fun _ => (0 : Int64)) i) i) ((0 : Int32)).toNatClampNeg) ((fun i => if i = (((0 : Int32) + (1 : Int32))).toNatClampNeg then xm else (fun i => if i = ((0 : Int32)).toNatClampNeg then q1 else (fun _ => (0 : Int64)) i) i) ((1 : Int32)).toNatClampNeg) ((fun i => if i = (((0 : Int32) + (1 : Int32))).toNatClampNeg then xd else (fun i => if i = ((0 : Int32)).toNatClampNeg then q3 else (fun _ => (0 : Int64)) i) i) ((0 : Int32)).toNatClampNeg) ((fun i => if i = (((0 : Int32) + (1 : Int32))).toNatClampNeg then xd else (fun i => if i = ((0 : Int32)).toNatClampNeg then q3 else (fun _ => (0 : Int64)) i) i) ((1 : Int32)).toNatClampNeg))), .val (.int (own_same ((fun i => if i = (((0 : Int32) + (1 : Int32))).toNatClampNeg then (nar .boolean xb) else (fun i => if i = ((0 : Int32)).toNatClampNeg then (nar .boolean xa) else (fun _ => (0 : Int32)) i) i) ((1 : Int32)).toNatClampNeg) ((fun i => if i = (((0 : Int32) + (1 : Int32))).toNatClampNeg then (nar .boolean xb) else (fun i => if i = ((0 : Int32)).toNatClampNeg then (nar .boolean xa) else (fun _ => (0 : Int32)) i) i) ((0 : Int32)).toNatClampNeg) ((fun i => if i = (((0 : Int32) + (1 : Int32))).toNatClampNeg then xm else (fun i => if i = ((0 : Int32)).toNatClampNeg then q1 else (fun _ => (0 : Int64)) i) i) ((1 : Int32)).toNatClampNeg) ((fun i => if i = (((0 : Int32) + (1 : Int32))).toNatClampNeg then xm else (fun i => if i = ((0 : Int32)).toNatClampNeg then q1 else (fun _ => (0 : Int64)) i) i) ((0 : Int32)).toNatClampNeg) ((fun i => if i = (((0 : Int32) + (1 : Int32))).toNatClampNeg then xd else (fun i => if i = ((0 : Int32)).toNatClampNeg then q3 else (fun _ => (0 : Int64)) i) i) ((1 : Int32)).toNatClampNeg) ((fun i => if i = (((0 : Int32) + (1 : Int32))).toNatClampNeg then xd else (fun i => if i = ((0 : Int32)).toNatClampNeg then q3 else (fun _ => (0 : Int64)) i) i) ((0 : Int32)).toNatClampNeg))), .unset] [(.ref b31)])) _
    refine XS.iconst X134.here hx rfl (hb hby at_239) ?_
    show Steps p.tables e below (T134.setTop (mkF m 240 #[.val (.int p0), .val (.long q1), .second, .val (.long q2), .second, .val (.long q3), .second, .val (.long q4), .second, .val (.long q5), .second, .val (.int xa), .val (.int xb), .val (.long q1), .second, .val (.long xm), .second, .val (.long q3), .second, .val (.long xd), .second, .val (.long q5), .second, .val (.long xi), .second, .val (.int tt), .val (.int xt), .val (.ref b31), .val (.ref b53), .val (.ref b67), .val (.int xx), .val (.int (own_same ((fun i => if i = (((0 : Int32) + (1 : Int32))).toNatClampNeg then (nar .boolean xb) else (fun i => if i = ((0 : Int32)).toNatClampNeg then (nar .boolean xa) else (fun _ => (0 : Int32)) i) i) ((0 : Int32)).toNatClampNeg) ((fun i => if i = (((0 : Int32) + (1 : Int32))).toNatClampNeg then (nar .boolean xb) else (fun i => if i = ((0 : Int32)).toNatClampNeg then (nar .boolean xa) else (fun _ => (0 : Int32)) i) i) ((1 : Int32)).toNatClampNeg) ((fun i => if i = (((0 : Int32) + (1 : Int32))).toNatClampNeg then xm else (fun i => if i = ((0 : Int32)).toNatClampNeg then q1 else (fun _ => (0 : Int64)) i) i) ((0 : Int32)).toNatClampNeg) ((fun i => if i = (((0 : Int32) + (1 : Int32))).toNatClampNeg then xm else (fun i => if i = ((0 : Int32)).toNatClampNeg then q1 else (fun _ => (0 : Int64)) i) i) ((1 : Int32)).toNatClampNeg) ((fun i => if i = (((0 : Int32) + (1 : Int32))).toNatClampNeg then xd else (fun i => if i = ((0 : Int32)).toNatClampNeg then q3 else (fun _ => (0 : Int64)) i) i) ((0 : Int32)).toNatClampNeg) ((fun i => if i = (((0 : Int32) + (1 : Int32))).toNatClampNeg then xd else (fun i => if i = ((0 : Int32)).toNatClampNeg then q3 else (fun _ => (0 : Int64)) i) i) ((1 : Int32)).toNatClampNeg))), .val (.int (own_same ((fun i => if i = (((0 : Int32) + (1 : Int32))).toNatClampNeg then (nar .boolean xb) else (fun i => if i = ((0 : Int32)).toNatClampNeg then (nar .boolean xa) else (fun _ => (0 : Int32)) i) i) ((1 : Int32)).toNatClampNeg) ((fun i => if i = (((0 : Int32) + (1 : Int32))).toNatClampNeg then (nar .boolean xb) else (fun i => if i = ((0 : Int32)).toNatClampNeg then (nar .boolean xa) else (fun _ => (0 : Int32)) i) i) ((0 : Int32)).toNatClampNeg) ((fun i => if i = (((0 : Int32) + (1 : Int32))).toNatClampNeg then xm else (fun i => if i = ((0 : Int32)).toNatClampNeg then q1 else (fun _ => (0 : Int64)) i) i) ((1 : Int32)).toNatClampNeg) ((fun i => if i = (((0 : Int32) + (1 : Int32))).toNatClampNeg then xm else (fun i => if i = ((0 : Int32)).toNatClampNeg then q1 else (fun _ => (0 : Int64)) i) i) ((0 : Int32)).toNatClampNeg) ((fun i => if i = (((0 : Int32) + (1 : Int32))).toNatClampNeg then xd else (fun i => if i = ((0 : Int32)).toNatClampNeg then q3 else (fun _ => (0 : Int64)) i) i) ((1 : Int32)).toNatClampNeg) ((fun i => if i = (((0 : Int32) + (1 : Int32))).toNatClampNeg then xd else (fun i => if i = ((0 : Int32)).toNatClampNeg then q3 else (fun _ => (0 : Int64)) i) i) ((0 : Int32)).toNatClampNeg))), .unset] [(.int (0 : Int32)), (.ref b31)])) _
    refine XS.iconst X134.here hx rfl (hb hby at_240) ?_
    show Steps p.tables e below (T134.setTop (mkF m 241 #[.val (.int p0), .val (.long q1), .second, .val (.long q2), .second, .val (.long q3), .second, .val (.long q4), .second, .val (.long q5), .second, .val (.int xa), .val (.int xb), .val (.long q1), .second, .val (.long xm), .second, .val (.long q3), .second, .val (.long xd), .second, .val (.long q5), .second, .val (.long xi), .second, .val (.int tt), .val (.int xt), .val (.ref b31), .val (.ref b53), .val (.ref b67), .val (.int xx), .val (.int (own_same ((fun i => if i = (((0 : Int32) + (1 : Int32))).toNatClampNeg then (nar .boolean xb) else (fun i => if i = ((0 : Int32)).toNatClampNeg then (nar .boolean xa) else (fun _ => (0 : Int32)) i) i) ((0 : Int32)).toNatClampNeg) ((fun i => if i = (((0 : Int32) + (1 : Int32))).toNatClampNeg then (nar .boolean xb) else (fun i => if i = ((0 : Int32)).toNatClampNeg then (nar .boolean xa) else (fun _ => (0 : Int32)) i) i) ((1 : Int32)).toNatClampNeg) ((fun i => if i = (((0 : Int32) + (1 : Int32))).toNatClampNeg then xm else (fun i => if i = ((0 : Int32)).toNatClampNeg then q1 else (fun _ => (0 : Int64)) i) i) ((0 : Int32)).toNatClampNeg) ((fun i => if i = (((0 : Int32) + (1 : Int32))).toNatClampNeg then xm else (fun i => if i = ((0 : Int32)).toNatClampNeg then q1 else (fun _ => (0 : Int64)) i) i) ((1 : Int32)).toNatClampNeg) ((fun i => if i = (((0 : Int32) + (1 : Int32))).toNatClampNeg then xd else (fun i => if i = ((0 : Int32)).toNatClampNeg then q3 else (fun _ => (0 : Int64)) i) i) ((0 : Int32)).toNatClampNeg) ((fun i => if i = (((0 : Int32) + (1 : Int32))).toNatClampNeg then xd else (fun i => if i = ((0 : Int32)).toNatClampNeg then q3 else (fun _ => (0 : Int64)) i) i) ((1 : Int32)).toNatClampNeg))), .val (.int (own_same ((fun i => if i = (((0 : Int32) + (1 : Int32))).toNatClampNeg then (nar .boolean xb) else (fun i => if i = ((0 : Int32)).toNatClampNeg then (nar .boolean xa) else (fun _ => (0 : Int32)) i) i) ((1 : Int32)).toNatClampNeg) ((fun i => if i = (((0 : Int32) + (1 : Int32))).toNatClampNeg then (nar .boolean xb) else (fun i => if i = ((0 : Int32)).toNatClampNeg then (nar .boolean xa) else (fun _ => (0 : Int32)) i) i) ((0 : Int32)).toNatClampNeg) ((fun i => if i = (((0 : Int32) + (1 : Int32))).toNatClampNeg then xm else (fun i => if i = ((0 : Int32)).toNatClampNeg then q1 else (fun _ => (0 : Int64)) i) i) ((1 : Int32)).toNatClampNeg) ((fun i => if i = (((0 : Int32) + (1 : Int32))).toNatClampNeg then xm else (fun i => if i = ((0 : Int32)).toNatClampNeg then q1 else (fun _ => (0 : Int64)) i) i) ((0 : Int32)).toNatClampNeg) ((fun i => if i = (((0 : Int32) + (1 : Int32))).toNatClampNeg then xd else (fun i => if i = ((0 : Int32)).toNatClampNeg then q3 else (fun _ => (0 : Int64)) i) i) ((1 : Int32)).toNatClampNeg) ((fun i => if i = (((0 : Int32) + (1 : Int32))).toNatClampNeg then xd else (fun i => if i = ((0 : Int32)).toNatClampNeg then q3 else (fun _ => (0 : Int64)) i) i) ((0 : Int32)).toNatClampNeg))), .unset] [(.int (0 : Int32)), (.int (0 : Int32)), (.ref b31)])) _
    refine st135.trans ?_
    show Steps p.tables e below (T135.setTop (mkF m 244 #[.val (.int p0), .val (.long q1), .second, .val (.long q2), .second, .val (.long q3), .second, .val (.long q4), .second, .val (.long q5), .second, .val (.int xa), .val (.int xb), .val (.long q1), .second, .val (.long xm), .second, .val (.long q3), .second, .val (.long xd), .second, .val (.long q5), .second, .val (.long xi), .second, .val (.int tt), .val (.int xt), .val (.ref b31), .val (.ref b53), .val (.ref b67), .val (.int xx), .val (.int (own_same ((fun i => if i = (((0 : Int32) + (1 : Int32))).toNatClampNeg then (nar .boolean xb) else (fun i => if i = ((0 : Int32)).toNatClampNeg then (nar .boolean xa) else (fun _ => (0 : Int32)) i) i) ((0 : Int32)).toNatClampNeg) ((fun i => if i = (((0 : Int32) + (1 : Int32))).toNatClampNeg then (nar .boolean xb) else (fun i => if i = ((0 : Int32)).toNatClampNeg then (nar .boolean xa) else (fun _ => (0 : Int32)) i) i) ((1 : Int32)).toNatClampNeg) ((fun i => if i = (((0 : Int32) + (1 : Int32))).toNatClampNeg then xm else (fun i => if i = ((0 : Int32)).toNatClampNeg then q1 else (fun _ => (0 : Int64)) i) i) ((0 : Int32)).toNatClampNeg) ((fun i => if i = (((0 : Int32) + (1 : Int32))).toNatClampNeg then xm else (fun i => if i = ((0 : Int32)).toNatClampNeg then q1 else (fun _ => (0 : Int64)) i) i) ((1 : Int32)).toNatClampNeg) ((fun i => if i = (((0 : Int32) + (1 : Int32))).toNatClampNeg then xd else (fun i => if i = ((0 : Int32)).toNatClampNeg then q3 else (fun _ => (0 : Int64)) i) i) ((0 : Int32)).toNatClampNeg) ((fun i => if i = (((0 : Int32) + (1 : Int32))).toNatClampNeg then xd else (fun i => if i = ((0 : Int32)).toNatClampNeg then q3 else (fun _ => (0 : Int64)) i) i) ((1 : Int32)).toNatClampNeg))), .val (.int (own_same ((fun i => if i = (((0 : Int32) + (1 : Int32))).toNatClampNeg then (nar .boolean xb) else (fun i => if i = ((0 : Int32)).toNatClampNeg then (nar .boolean xa) else (fun _ => (0 : Int32)) i) i) ((1 : Int32)).toNatClampNeg) ((fun i => if i = (((0 : Int32) + (1 : Int32))).toNatClampNeg then (nar .boolean xb) else (fun i => if i = ((0 : Int32)).toNatClampNeg then (nar .boolean xa) else (fun _ => (0 : Int32)) i) i) ((0 : Int32)).toNatClampNeg) ((fun i => if i = (((0 : Int32) + (1 : Int32))).toNatClampNeg then xm else (fun i => if i = ((0 : Int32)).toNatClampNeg then q1 else (fun _ => (0 : Int64)) i) i) ((1 : Int32)).toNatClampNeg) ((fun i => if i = (((0 : Int32) + (1 : Int32))).toNatClampNeg then xm else (fun i => if i = ((0 : Int32)).toNatClampNeg then q1 else (fun _ => (0 : Int64)) i) i) ((0 : Int32)).toNatClampNeg) ((fun i => if i = (((0 : Int32) + (1 : Int32))).toNatClampNeg then xd else (fun i => if i = ((0 : Int32)).toNatClampNeg then q3 else (fun _ => (0 : Int64)) i) i) ((1 : Int32)).toNatClampNeg) ((fun i => if i = (((0 : Int32) + (1 : Int32))).toNatClampNeg then xd else (fun i => if i = ((0 : Int32)).toNatClampNeg then q3 else (fun _ => (0 : Int64)) i) i) ((0 : Int32)).toNatClampNeg))), .unset] [(.int (own_same ((fun i => if i = (((0 : Int32) + (1 : Int32))).toNatClampNeg then (nar .boolean xb) else (fun i => if i = ((0 : Int32)).toNatClampNeg then (nar .boolean xa) else (fun _ => (0 : Int32)) i) i) ((0 : Int32)).toNatClampNeg) ((fun i => if i = (((0 : Int32) + (1 : Int32))).toNatClampNeg then (nar .boolean xb) else (fun i => if i = ((0 : Int32)).toNatClampNeg then (nar .boolean xa) else (fun _ => (0 : Int32)) i) i) ((0 : Int32)).toNatClampNeg) ((fun i => if i = (((0 : Int32) + (1 : Int32))).toNatClampNeg then xm else (fun i => if i = ((0 : Int32)).toNatClampNeg then q1 else (fun _ => (0 : Int64)) i) i) ((0 : Int32)).toNatClampNeg) ((fun i => if i = (((0 : Int32) + (1 : Int32))).toNatClampNeg then xm else (fun i => if i = ((0 : Int32)).toNatClampNeg then q1 else (fun _ => (0 : Int64)) i) i) ((0 : Int32)).toNatClampNeg) ((fun i => if i = (((0 : Int32) + (1 : Int32))).toNatClampNeg then xd else (fun i => if i = ((0 : Int32)).toNatClampNeg then q3 else (fun _ => (0 : Int64)) i) i) ((0 : Int32)).toNatClampNeg) ((fun i => if i = (((0 : Int32) + (1 : Int32))).toNatClampNeg then xd else (fun i => if i = ((0 : Int32)).toNatClampNeg then q3 else (fun _ => (0 : Int64)) i) i) ((0 : Int32)).toNatClampNeg)))])) _
    refine XS.istore X135.here hx rfl (hb hby at_244) rfl (l' := #[.val (.int p0), .val (.long q1), .second, .val (.long q2), .second, .val (.long q3), .second, .val (.long q4), .second, .val (.long q5), .second, .val (.int xa), .val (.int xb), .val (.long q1), .second, .val (.long xm), .second, .val (.long q3), .second, .val (.long xd), .second, .val (.long q5), .second, .val (.long xi), .second, .val (.int tt), .val (.int xt), .val (.ref b31), .val (.ref b53), .val (.ref b67), .val (.int xx), .val (.int (own_same ((fun i => if i = (((0 : Int32) + (1 : Int32))).toNatClampNeg then (nar .boolean xb) else (fun i => if i = ((0 : Int32)).toNatClampNeg then (nar .boolean xa) else (fun _ => (0 : Int32)) i) i) ((0 : Int32)).toNatClampNeg) ((fun i => if i = (((0 : Int32) + (1 : Int32))).toNatClampNeg then (nar .boolean xb) else (fun i => if i = ((0 : Int32)).toNatClampNeg then (nar .boolean xa) else (fun _ => (0 : Int32)) i) i) ((1 : Int32)).toNatClampNeg) ((fun i => if i = (((0 : Int32) + (1 : Int32))).toNatClampNeg then xm else (fun i => if i = ((0 : Int32)).toNatClampNeg then q1 else (fun _ => (0 : Int64)) i) i) ((0 : Int32)).toNatClampNeg) ((fun i => if i = (((0 : Int32) + (1 : Int32))).toNatClampNeg then xm else (fun i => if i = ((0 : Int32)).toNatClampNeg then q1 else (fun _ => (0 : Int64)) i) i) ((1 : Int32)).toNatClampNeg) ((fun i => if i = (((0 : Int32) + (1 : Int32))).toNatClampNeg then xd else (fun i => if i = ((0 : Int32)).toNatClampNeg then q3 else (fun _ => (0 : Int64)) i) i) ((0 : Int32)).toNatClampNeg) ((fun i => if i = (((0 : Int32) + (1 : Int32))).toNatClampNeg then xd else (fun i => if i = ((0 : Int32)).toNatClampNeg then q3 else (fun _ => (0 : Int64)) i) i) ((1 : Int32)).toNatClampNeg))), .val (.int (own_same ((fun i => if i = (((0 : Int32) + (1 : Int32))).toNatClampNeg then (nar .boolean xb) else (fun i => if i = ((0 : Int32)).toNatClampNeg then (nar .boolean xa) else (fun _ => (0 : Int32)) i) i) ((1 : Int32)).toNatClampNeg) ((fun i => if i = (((0 : Int32) + (1 : Int32))).toNatClampNeg then (nar .boolean xb) else (fun i => if i = ((0 : Int32)).toNatClampNeg then (nar .boolean xa) else (fun _ => (0 : Int32)) i) i) ((0 : Int32)).toNatClampNeg) ((fun i => if i = (((0 : Int32) + (1 : Int32))).toNatClampNeg then xm else (fun i => if i = ((0 : Int32)).toNatClampNeg then q1 else (fun _ => (0 : Int64)) i) i) ((1 : Int32)).toNatClampNeg) ((fun i => if i = (((0 : Int32) + (1 : Int32))).toNatClampNeg then xm else (fun i => if i = ((0 : Int32)).toNatClampNeg then q1 else (fun _ => (0 : Int64)) i) i) ((0 : Int32)).toNatClampNeg) ((fun i => if i = (((0 : Int32) + (1 : Int32))).toNatClampNeg then xd else (fun i => if i = ((0 : Int32)).toNatClampNeg then q3 else (fun _ => (0 : Int64)) i) i) ((1 : Int32)).toNatClampNeg) ((fun i => if i = (((0 : Int32) + (1 : Int32))).toNatClampNeg then xd else (fun i => if i = ((0 : Int32)).toNatClampNeg then q3 else (fun _ => (0 : Int64)) i) i) ((0 : Int32)).toNatClampNeg))), .val (.int (own_same ((fun i => if i = (((0 : Int32) + (1 : Int32))).toNatClampNeg then (nar .boolean xb) else (fun i => if i = ((0 : Int32)).toNatClampNeg then (nar .boolean xa) else (fun _ => (0 : Int32)) i) i) ((0 : Int32)).toNatClampNeg) ((fun i => if i = (((0 : Int32) + (1 : Int32))).toNatClampNeg then (nar .boolean xb) else (fun i => if i = ((0 : Int32)).toNatClampNeg then (nar .boolean xa) else (fun _ => (0 : Int32)) i) i) ((0 : Int32)).toNatClampNeg) ((fun i => if i = (((0 : Int32) + (1 : Int32))).toNatClampNeg then xm else (fun i => if i = ((0 : Int32)).toNatClampNeg then q1 else (fun _ => (0 : Int64)) i) i) ((0 : Int32)).toNatClampNeg) ((fun i => if i = (((0 : Int32) + (1 : Int32))).toNatClampNeg then xm else (fun i => if i = ((0 : Int32)).toNatClampNeg then q1 else (fun _ => (0 : Int64)) i) i) ((0 : Int32)).toNatClampNeg) ((fun i => if i = (((0 : Int32) + (1 : Int32))).toNatClampNeg then xd else (fun i => if i = ((0 : Int32)).toNatClampNeg then q3 else (fun _ => (0 : Int64)) i) i) ((0 : Int32)).toNatClampNeg) ((fun i => if i = (((0 : Int32) + (1 : Int32))).toNatClampNeg then xd else (fun i => if i = ((0 : Int32)).toNatClampNeg then q3 else (fun _ => (0 : Int64)) i) i) ((0 : Int32)).toNatClampNeg)))]) rfl ?_
    show Steps p.tables e below (T135.setTop (mkF m 246 #[.val (.int p0), .val (.long q1), .second, .val (.long q2), .second, .val (.long q3), .second, .val (.long q4), .second, .val (.long q5), .second, .val (.int xa), .val (.int xb), .val (.long q1), .second, .val (.long xm), .second, .val (.long q3), .second, .val (.long xd), .second, .val (.long q5), .second, .val (.long xi), .second, .val (.int tt), .val (.int xt), .val (.ref b31), .val (.ref b53), .val (.ref b67), .val (.int xx), .val (.int (own_same ((fun i => if i = (((0 : Int32) + (1 : Int32))).toNatClampNeg then (nar .boolean xb) else (fun i => if i = ((0 : Int32)).toNatClampNeg then (nar .boolean xa) else (fun _ => (0 : Int32)) i) i) ((0 : Int32)).toNatClampNeg) ((fun i => if i = (((0 : Int32) + (1 : Int32))).toNatClampNeg then (nar .boolean xb) else (fun i => if i = ((0 : Int32)).toNatClampNeg then (nar .boolean xa) else (fun _ => (0 : Int32)) i) i) ((1 : Int32)).toNatClampNeg) ((fun i => if i = (((0 : Int32) + (1 : Int32))).toNatClampNeg then xm else (fun i => if i = ((0 : Int32)).toNatClampNeg then q1 else (fun _ => (0 : Int64)) i) i) ((0 : Int32)).toNatClampNeg) ((fun i => if i = (((0 : Int32) + (1 : Int32))).toNatClampNeg then xm else (fun i => if i = ((0 : Int32)).toNatClampNeg then q1 else (fun _ => (0 : Int64)) i) i) ((1 : Int32)).toNatClampNeg) ((fun i => if i = (((0 : Int32) + (1 : Int32))).toNatClampNeg then xd else (fun i => if i = ((0 : Int32)).toNatClampNeg then q3 else (fun _ => (0 : Int64)) i) i) ((0 : Int32)).toNatClampNeg) ((fun i => if i = (((0 : Int32) + (1 : Int32))).toNatClampNeg then xd else (fun i => if i = ((0 : Int32)).toNatClampNeg then q3 else (fun _ => (0 : Int64)) i) i) ((1 : Int32)).toNatClampNeg))), .val (.int (own_same ((fun i => if i = (((0 : Int32) + (1 : Int32))).toNatClampNeg then (nar .boolean xb) else (fun i => if i = ((0 : Int32)).toNatClampNeg then (nar .boolean xa) else (fun _ => (0 : Int32)) i) i) ((1 : Int32)).toNatClampNeg) ((fun i => if i = (((0 : Int32) + (1 : Int32))).toNatClampNeg then (nar .boolean xb) else (fun i => if i = ((0 : Int32)).toNatClampNeg then (nar .boolean xa) else (fun _ => (0 : Int32)) i) i) ((0 : Int32)).toNatClampNeg) ((fun i => if i = (((0 : Int32) + (1 : Int32))).toNatClampNeg then xm else (fun i => if i = ((0 : Int32)).toNatClampNeg then q1 else (fun _ => (0 : Int64)) i) i) ((1 : Int32)).toNatClampNeg) ((fun i => if i = (((0 : Int32) + (1 : Int32))).toNatClampNeg then xm else (fun i => if i = ((0 : Int32)).toNatClampNeg then q1 else (fun _ => (0 : Int64)) i) i) ((0 : Int32)).toNatClampNeg) ((fun i => if i = (((0 : Int32) + (1 : Int32))).toNatClampNeg then xd else (fun i => if i = ((0 : Int32)).toNatClampNeg then q3 else (fun _ => (0 : Int64)) i) i) ((1 : Int32)).toNatClampNeg) ((fun i => if i = (((0 : Int32) + (1 : Int32))).toNatClampNeg then xd else (fun i => if i = ((0 : Int32)).toNatClampNeg then q3 else (fun _ => (0 : Int64)) i) i) ((0 : Int32)).toNatClampNeg))), .val (.int (own_same ((fun i => if i = (((0 : Int32) + (1 : Int32))).toNatClampNeg then (nar .boolean xb) else (fun i => if i = ((0 : Int32)).toNatClampNeg then (nar .boolean xa) else (fun _ => (0 : Int32)) i) i) ((0 : Int32)).toNatClampNeg) ((fun i => if i = (((0 : Int32) + (1 : Int32))).toNatClampNeg then (nar .boolean xb) else (fun i => if i = ((0 : Int32)).toNatClampNeg then (nar .boolean xa) else (fun _ => (0 : Int32)) i) i) ((0 : Int32)).toNatClampNeg) ((fun i => if i = (((0 : Int32) + (1 : Int32))).toNatClampNeg then xm else (fun i => if i = ((0 : Int32)).toNatClampNeg then q1 else (fun _ => (0 : Int64)) i) i) ((0 : Int32)).toNatClampNeg) ((fun i => if i = (((0 : Int32) + (1 : Int32))).toNatClampNeg then xm else (fun i => if i = ((0 : Int32)).toNatClampNeg then q1 else (fun _ => (0 : Int64)) i) i) ((0 : Int32)).toNatClampNeg) ((fun i => if i = (((0 : Int32) + (1 : Int32))).toNatClampNeg then xd else (fun i => if i = ((0 : Int32)).toNatClampNeg then q3 else (fun _ => (0 : Int64)) i) i) ((0 : Int32)).toNatClampNeg) ((fun i => if i = (((0 : Int32) + (1 : Int32))).toNatClampNeg then xd else (fun i => if i = ((0 : Int32)).toNatClampNeg then q3 else (fun _ => (0 : Int64)) i) i) ((0 : Int32)).toNatClampNeg)))] [])) _
    refine XS.iload X135.here hx rfl (hb hby at_246) rfl ?_
    show Steps p.tables e below (T135.setTop (mkF m 248 #[.val (.int p0), .val (.long q1), .second, .val (.long q2), .second, .val (.long q3), .second, .val (.long q4), .second, .val (.long q5), .second, .val (.int xa), .val (.int xb), .val (.long q1), .second, .val (.long xm), .second, .val (.long q3), .second, .val (.long xd), .second, .val (.long q5), .second, .val (.long xi), .second, .val (.int tt), .val (.int xt), .val (.ref b31), .val (.ref b53), .val (.ref b67), .val (.int xx), .val (.int (own_same ((fun i => if i = (((0 : Int32) + (1 : Int32))).toNatClampNeg then (nar .boolean xb) else (fun i => if i = ((0 : Int32)).toNatClampNeg then (nar .boolean xa) else (fun _ => (0 : Int32)) i) i) ((0 : Int32)).toNatClampNeg) ((fun i => if i = (((0 : Int32) + (1 : Int32))).toNatClampNeg then (nar .boolean xb) else (fun i => if i = ((0 : Int32)).toNatClampNeg then (nar .boolean xa) else (fun _ => (0 : Int32)) i) i) ((1 : Int32)).toNatClampNeg) ((fun i => if i = (((0 : Int32) + (1 : Int32))).toNatClampNeg then xm else (fun i => if i = ((0 : Int32)).toNatClampNeg then q1 else (fun _ => (0 : Int64)) i) i) ((0 : Int32)).toNatClampNeg) ((fun i => if i = (((0 : Int32) + (1 : Int32))).toNatClampNeg then xm else (fun i => if i = ((0 : Int32)).toNatClampNeg then q1 else (fun _ => (0 : Int64)) i) i) ((1 : Int32)).toNatClampNeg) ((fun i => if i = (((0 : Int32) + (1 : Int32))).toNatClampNeg then xd else (fun i => if i = ((0 : Int32)).toNatClampNeg then q3 else (fun _ => (0 : Int64)) i) i) ((0 : Int32)).toNatClampNeg) ((fun i => if i = (((0 : Int32) + (1 : Int32))).toNatClampNeg then xd else (fun i => if i = ((0 : Int32)).toNatClampNeg then q3 else (fun _ => (0 : Int64)) i) i) ((1 : Int32)).toNatClampNeg))), .val (.int (own_same ((fun i => if i = (((0 : Int32) + (1 : Int32))).toNatClampNeg then (nar .boolean xb) else (fun i => if i = ((0 : Int32)).toNatClampNeg then (nar .boolean xa) else (fun _ => (0 : Int32)) i) i) ((1 : Int32)).toNatClampNeg) ((fun i => if i = (((0 : Int32) + (1 : Int32))).toNatClampNeg then (nar .boolean xb) else (fun i => if i = ((0 : Int32)).toNatClampNeg then (nar .boolean xa) else (fun _ => (0 : Int32)) i) i) ((0 : Int32)).toNatClampNeg) ((fun i => if i = (((0 : Int32) + (1 : Int32))).toNatClampNeg then xm else (fun i => if i = ((0 : Int32)).toNatClampNeg then q1 else (fun _ => (0 : Int64)) i) i) ((1 : Int32)).toNatClampNeg) ((fun i => if i = (((0 : Int32) + (1 : Int32))).toNatClampNeg then xm else (fun i => if i = ((0 : Int32)).toNatClampNeg then q1 else (fun _ => (0 : Int64)) i) i) ((0 : Int32)).toNatClampNeg) ((fun i => if i = (((0 : Int32) + (1 : Int32))).toNatClampNeg then xd else (fun i => if i = ((0 : Int32)).toNatClampNeg then q3 else (fun _ => (0 : Int64)) i) i) ((1 : Int32)).toNatClampNeg) ((fun i => if i = (((0 : Int32) + (1 : Int32))).toNatClampNeg then xd else (fun i => if i = ((0 : Int32)).toNatClampNeg then q3 else (fun _ => (0 : Int64)) i) i) ((0 : Int32)).toNatClampNeg))), .val (.int (own_same ((fun i => if i = (((0 : Int32) + (1 : Int32))).toNatClampNeg then (nar .boolean xb) else (fun i => if i = ((0 : Int32)).toNatClampNeg then (nar .boolean xa) else (fun _ => (0 : Int32)) i) i) ((0 : Int32)).toNatClampNeg) ((fun i => if i = (((0 : Int32) + (1 : Int32))).toNatClampNeg then (nar .boolean xb) else (fun i => if i = ((0 : Int32)).toNatClampNeg then (nar .boolean xa) else (fun _ => (0 : Int32)) i) i) ((0 : Int32)).toNatClampNeg) ((fun i => if i = (((0 : Int32) + (1 : Int32))).toNatClampNeg then xm else (fun i => if i = ((0 : Int32)).toNatClampNeg then q1 else (fun _ => (0 : Int64)) i) i) ((0 : Int32)).toNatClampNeg) ((fun i => if i = (((0 : Int32) + (1 : Int32))).toNatClampNeg then xm else (fun i => if i = ((0 : Int32)).toNatClampNeg then q1 else (fun _ => (0 : Int64)) i) i) ((0 : Int32)).toNatClampNeg) ((fun i => if i = (((0 : Int32) + (1 : Int32))).toNatClampNeg then xd else (fun i => if i = ((0 : Int32)).toNatClampNeg then q3 else (fun _ => (0 : Int64)) i) i) ((0 : Int32)).toNatClampNeg) ((fun i => if i = (((0 : Int32) + (1 : Int32))).toNatClampNeg then xd else (fun i => if i = ((0 : Int32)).toNatClampNeg then q3 else (fun _ => (0 : Int64)) i) i) ((0 : Int32)).toNatClampNeg)))] [(.int (own_same ((fun i => if i = (((0 : Int32) + (1 : Int32))).toNatClampNeg then (nar .boolean xb) else (fun i => if i = ((0 : Int32)).toNatClampNeg then (nar .boolean xa) else (fun _ => (0 : Int32)) i) i) ((0 : Int32)).toNatClampNeg) ((fun i => if i = (((0 : Int32) + (1 : Int32))).toNatClampNeg then (nar .boolean xb) else (fun i => if i = ((0 : Int32)).toNatClampNeg then (nar .boolean xa) else (fun _ => (0 : Int32)) i) i) ((1 : Int32)).toNatClampNeg) ((fun i => if i = (((0 : Int32) + (1 : Int32))).toNatClampNeg then xm else (fun i => if i = ((0 : Int32)).toNatClampNeg then q1 else (fun _ => (0 : Int64)) i) i) ((0 : Int32)).toNatClampNeg) ((fun i => if i = (((0 : Int32) + (1 : Int32))).toNatClampNeg then xm else (fun i => if i = ((0 : Int32)).toNatClampNeg then q1 else (fun _ => (0 : Int64)) i) i) ((1 : Int32)).toNatClampNeg) ((fun i => if i = (((0 : Int32) + (1 : Int32))).toNatClampNeg then xd else (fun i => if i = ((0 : Int32)).toNatClampNeg then q3 else (fun _ => (0 : Int64)) i) i) ((0 : Int32)).toNatClampNeg) ((fun i => if i = (((0 : Int32) + (1 : Int32))).toNatClampNeg then xd else (fun i => if i = ((0 : Int32)).toNatClampNeg then q3 else (fun _ => (0 : Int64)) i) i) ((1 : Int32)).toNatClampNeg)))])) _
    refine XS.iload X135.here hx rfl (hb hby at_248) rfl ?_
    show Steps p.tables e below (T135.setTop (mkF m 250 #[.val (.int p0), .val (.long q1), .second, .val (.long q2), .second, .val (.long q3), .second, .val (.long q4), .second, .val (.long q5), .second, .val (.int xa), .val (.int xb), .val (.long q1), .second, .val (.long xm), .second, .val (.long q3), .second, .val (.long xd), .second, .val (.long q5), .second, .val (.long xi), .second, .val (.int tt), .val (.int xt), .val (.ref b31), .val (.ref b53), .val (.ref b67), .val (.int xx), .val (.int (own_same ((fun i => if i = (((0 : Int32) + (1 : Int32))).toNatClampNeg then (nar .boolean xb) else (fun i => if i = ((0 : Int32)).toNatClampNeg then (nar .boolean xa) else (fun _ => (0 : Int32)) i) i) ((0 : Int32)).toNatClampNeg) ((fun i => if i = (((0 : Int32) + (1 : Int32))).toNatClampNeg then (nar .boolean xb) else (fun i => if i = ((0 : Int32)).toNatClampNeg then (nar .boolean xa) else (fun _ => (0 : Int32)) i) i) ((1 : Int32)).toNatClampNeg) ((fun i => if i = (((0 : Int32) + (1 : Int32))).toNatClampNeg then xm else (fun i => if i = ((0 : Int32)).toNatClampNeg then q1 else (fun _ => (0 : Int64)) i) i) ((0 : Int32)).toNatClampNeg) ((fun i => if i = (((0 : Int32) + (1 : Int32))).toNatClampNeg then xm else (fun i => if i = ((0 : Int32)).toNatClampNeg then q1 else (fun _ => (0 : Int64)) i) i) ((1 : Int32)).toNatClampNeg) ((fun i => if i = (((0 : Int32) + (1 : Int32))).toNatClampNeg then xd else (fun i => if i = ((0 : Int32)).toNatClampNeg then q3 else (fun _ => (0 : Int64)) i) i) ((0 : Int32)).toNatClampNeg) ((fun i => if i = (((0 : Int32) + (1 : Int32))).toNatClampNeg then xd else (fun i => if i = ((0 : Int32)).toNatClampNeg then q3 else (fun _ => (0 : Int64)) i) i) ((1 : Int32)).toNatClampNeg))), .val (.int (own_same ((fun i => if i = (((0 : Int32) + (1 : Int32))).toNatClampNeg then (nar .boolean xb) else (fun i => if i = ((0 : Int32)).toNatClampNeg then (nar .boolean xa) else (fun _ => (0 : Int32)) i) i) ((1 : Int32)).toNatClampNeg) ((fun i => if i = (((0 : Int32) + (1 : Int32))).toNatClampNeg then (nar .boolean xb) else (fun i => if i = ((0 : Int32)).toNatClampNeg then (nar .boolean xa) else (fun _ => (0 : Int32)) i) i) ((0 : Int32)).toNatClampNeg) ((fun i => if i = (((0 : Int32) + (1 : Int32))).toNatClampNeg then xm else (fun i => if i = ((0 : Int32)).toNatClampNeg then q1 else (fun _ => (0 : Int64)) i) i) ((1 : Int32)).toNatClampNeg) ((fun i => if i = (((0 : Int32) + (1 : Int32))).toNatClampNeg then xm else (fun i => if i = ((0 : Int32)).toNatClampNeg then q1 else (fun _ => (0 : Int64)) i) i) ((0 : Int32)).toNatClampNeg) ((fun i => if i = (((0 : Int32) + (1 : Int32))).toNatClampNeg then xd else (fun i => if i = ((0 : Int32)).toNatClampNeg then q3 else (fun _ => (0 : Int64)) i) i) ((1 : Int32)).toNatClampNeg) ((fun i => if i = (((0 : Int32) + (1 : Int32))).toNatClampNeg then xd else (fun i => if i = ((0 : Int32)).toNatClampNeg then q3 else (fun _ => (0 : Int64)) i) i) ((0 : Int32)).toNatClampNeg))), .val (.int (own_same ((fun i => if i = (((0 : Int32) + (1 : Int32))).toNatClampNeg then (nar .boolean xb) else (fun i => if i = ((0 : Int32)).toNatClampNeg then (nar .boolean xa) else (fun _ => (0 : Int32)) i) i) ((0 : Int32)).toNatClampNeg) ((fun i => if i = (((0 : Int32) + (1 : Int32))).toNatClampNeg then (nar .boolean xb) else (fun i => if i = ((0 : Int32)).toNatClampNeg then (nar .boolean xa) else (fun _ => (0 : Int32)) i) i) ((0 : Int32)).toNatClampNeg) ((fun i => if i = (((0 : Int32) + (1 : Int32))).toNatClampNeg then xm else (fun i => if i = ((0 : Int32)).toNatClampNeg then q1 else (fun _ => (0 : Int64)) i) i) ((0 : Int32)).toNatClampNeg) ((fun i => if i = (((0 : Int32) + (1 : Int32))).toNatClampNeg then xm else (fun i => if i = ((0 : Int32)).toNatClampNeg then q1 else (fun _ => (0 : Int64)) i) i) ((0 : Int32)).toNatClampNeg) ((fun i => if i = (((0 : Int32) + (1 : Int32))).toNatClampNeg then xd else (fun i => if i = ((0 : Int32)).toNatClampNeg then q3 else (fun _ => (0 : Int64)) i) i) ((0 : Int32)).toNatClampNeg) ((fun i => if i = (((0 : Int32) + (1 : Int32))).toNatClampNeg then xd else (fun i => if i = ((0 : Int32)).toNatClampNeg then q3 else (fun _ => (0 : Int64)) i) i) ((0 : Int32)).toNatClampNeg)))] [(.int xx), (.int (own_same ((fun i => if i = (((0 : Int32) + (1 : Int32))).toNatClampNeg then (nar .boolean xb) else (fun i => if i = ((0 : Int32)).toNatClampNeg then (nar .boolean xa) else (fun _ => (0 : Int32)) i) i) ((0 : Int32)).toNatClampNeg) ((fun i => if i = (((0 : Int32) + (1 : Int32))).toNatClampNeg then (nar .boolean xb) else (fun i => if i = ((0 : Int32)).toNatClampNeg then (nar .boolean xa) else (fun _ => (0 : Int32)) i) i) ((1 : Int32)).toNatClampNeg) ((fun i => if i = (((0 : Int32) + (1 : Int32))).toNatClampNeg then xm else (fun i => if i = ((0 : Int32)).toNatClampNeg then q1 else (fun _ => (0 : Int64)) i) i) ((0 : Int32)).toNatClampNeg) ((fun i => if i = (((0 : Int32) + (1 : Int32))).toNatClampNeg then xm else (fun i => if i = ((0 : Int32)).toNatClampNeg then q1 else (fun _ => (0 : Int64)) i) i) ((1 : Int32)).toNatClampNeg) ((fun i => if i = (((0 : Int32) + (1 : Int32))).toNatClampNeg then xd else (fun i => if i = ((0 : Int32)).toNatClampNeg then q3 else (fun _ => (0 : Int64)) i) i) ((0 : Int32)).toNatClampNeg) ((fun i => if i = (((0 : Int32) + (1 : Int32))).toNatClampNeg then xd else (fun i => if i = ((0 : Int32)).toNatClampNeg then q3 else (fun _ => (0 : Int64)) i) i) ((1 : Int32)).toNatClampNeg)))])) _
    refine XS.icmpNo X135.here hx rfl (hb hby at_250) rfl (teq (own_r01 Bxa Bxb hxx rfl rfl rfl rfl rfl rfl)).2 ?_
    show Steps p.tables e below (T135.setTop (mkF m 253 #[.val (.int p0), .val (.long q1), .second, .val (.long q2), .second, .val (.long q3), .second, .val (.long q4), .second, .val (.long q5), .second, .val (.int xa), .val (.int xb), .val (.long q1), .second, .val (.long xm), .second, .val (.long q3), .second, .val (.long xd), .second, .val (.long q5), .second, .val (.long xi), .second, .val (.int tt), .val (.int xt), .val (.ref b31), .val (.ref b53), .val (.ref b67), .val (.int xx), .val (.int (own_same ((fun i => if i = (((0 : Int32) + (1 : Int32))).toNatClampNeg then (nar .boolean xb) else (fun i => if i = ((0 : Int32)).toNatClampNeg then (nar .boolean xa) else (fun _ => (0 : Int32)) i) i) ((0 : Int32)).toNatClampNeg) ((fun i => if i = (((0 : Int32) + (1 : Int32))).toNatClampNeg then (nar .boolean xb) else (fun i => if i = ((0 : Int32)).toNatClampNeg then (nar .boolean xa) else (fun _ => (0 : Int32)) i) i) ((1 : Int32)).toNatClampNeg) ((fun i => if i = (((0 : Int32) + (1 : Int32))).toNatClampNeg then xm else (fun i => if i = ((0 : Int32)).toNatClampNeg then q1 else (fun _ => (0 : Int64)) i) i) ((0 : Int32)).toNatClampNeg) ((fun i => if i = (((0 : Int32) + (1 : Int32))).toNatClampNeg then xm else (fun i => if i = ((0 : Int32)).toNatClampNeg then q1 else (fun _ => (0 : Int64)) i) i) ((1 : Int32)).toNatClampNeg) ((fun i => if i = (((0 : Int32) + (1 : Int32))).toNatClampNeg then xd else (fun i => if i = ((0 : Int32)).toNatClampNeg then q3 else (fun _ => (0 : Int64)) i) i) ((0 : Int32)).toNatClampNeg) ((fun i => if i = (((0 : Int32) + (1 : Int32))).toNatClampNeg then xd else (fun i => if i = ((0 : Int32)).toNatClampNeg then q3 else (fun _ => (0 : Int64)) i) i) ((1 : Int32)).toNatClampNeg))), .val (.int (own_same ((fun i => if i = (((0 : Int32) + (1 : Int32))).toNatClampNeg then (nar .boolean xb) else (fun i => if i = ((0 : Int32)).toNatClampNeg then (nar .boolean xa) else (fun _ => (0 : Int32)) i) i) ((1 : Int32)).toNatClampNeg) ((fun i => if i = (((0 : Int32) + (1 : Int32))).toNatClampNeg then (nar .boolean xb) else (fun i => if i = ((0 : Int32)).toNatClampNeg then (nar .boolean xa) else (fun _ => (0 : Int32)) i) i) ((0 : Int32)).toNatClampNeg) ((fun i => if i = (((0 : Int32) + (1 : Int32))).toNatClampNeg then xm else (fun i => if i = ((0 : Int32)).toNatClampNeg then q1 else (fun _ => (0 : Int64)) i) i) ((1 : Int32)).toNatClampNeg) ((fun i => if i = (((0 : Int32) + (1 : Int32))).toNatClampNeg then xm else (fun i => if i = ((0 : Int32)).toNatClampNeg then q1 else (fun _ => (0 : Int64)) i) i) ((0 : Int32)).toNatClampNeg) ((fun i => if i = (((0 : Int32) + (1 : Int32))).toNatClampNeg then xd else (fun i => if i = ((0 : Int32)).toNatClampNeg then q3 else (fun _ => (0 : Int64)) i) i) ((1 : Int32)).toNatClampNeg) ((fun i => if i = (((0 : Int32) + (1 : Int32))).toNatClampNeg then xd else (fun i => if i = ((0 : Int32)).toNatClampNeg then q3 else (fun _ => (0 : Int64)) i) i) ((0 : Int32)).toNatClampNeg))), .val (.int (own_same ((fun i => if i = (((0 : Int32) + (1 : Int32))).toNatClampNeg then (nar .boolean xb) else (fun i => if i = ((0 : Int32)).toNatClampNeg then (nar .boolean xa) else (fun _ => (0 : Int32)) i) i) ((0 : Int32)).toNatClampNeg) ((fun i => if i = (((0 : Int32) + (1 : Int32))).toNatClampNeg then (nar .boolean xb) else (fun i => if i = ((0 : Int32)).toNatClampNeg then (nar .boolean xa) else (fun _ => (0 : Int32)) i) i) ((0 : Int32)).toNatClampNeg) ((fun i => if i = (((0 : Int32) + (1 : Int32))).toNatClampNeg then xm else (fun i => if i = ((0 : Int32)).toNatClampNeg then q1 else (fun _ => (0 : Int64)) i) i) ((0 : Int32)).toNatClampNeg) ((fun i => if i = (((0 : Int32) + (1 : Int32))).toNatClampNeg then xm else (fun i => if i = ((0 : Int32)).toNatClampNeg then q1 else (fun _ => (0 : Int64)) i) i) ((0 : Int32)).toNatClampNeg) ((fun i => if i = (((0 : Int32) + (1 : Int32))).toNatClampNeg then xd else (fun i => if i = ((0 : Int32)).toNatClampNeg then q3 else (fun _ => (0 : Int64)) i) i) ((0 : Int32)).toNatClampNeg) ((fun i => if i = (((0 : Int32) + (1 : Int32))).toNatClampNeg then xd else (fun i => if i = ((0 : Int32)).toNatClampNeg then q3 else (fun _ => (0 : Int64)) i) i) ((0 : Int32)).toNatClampNeg)))] [])) _
    refine XS.iload X135.here hx rfl (hb hby at_253) rfl ?_
    show Steps p.tables e below (T135.setTop (mkF m 255 #[.val (.int p0), .val (.long q1), .second, .val (.long q2), .second, .val (.long q3), .second, .val (.long q4), .second, .val (.long q5), .second, .val (.int xa), .val (.int xb), .val (.long q1), .second, .val (.long xm), .second, .val (.long q3), .second, .val (.long xd), .second, .val (.long q5), .second, .val (.long xi), .second, .val (.int tt), .val (.int xt), .val (.ref b31), .val (.ref b53), .val (.ref b67), .val (.int xx), .val (.int (own_same ((fun i => if i = (((0 : Int32) + (1 : Int32))).toNatClampNeg then (nar .boolean xb) else (fun i => if i = ((0 : Int32)).toNatClampNeg then (nar .boolean xa) else (fun _ => (0 : Int32)) i) i) ((0 : Int32)).toNatClampNeg) ((fun i => if i = (((0 : Int32) + (1 : Int32))).toNatClampNeg then (nar .boolean xb) else (fun i => if i = ((0 : Int32)).toNatClampNeg then (nar .boolean xa) else (fun _ => (0 : Int32)) i) i) ((1 : Int32)).toNatClampNeg) ((fun i => if i = (((0 : Int32) + (1 : Int32))).toNatClampNeg then xm else (fun i => if i = ((0 : Int32)).toNatClampNeg then q1 else (fun _ => (0 : Int64)) i) i) ((0 : Int32)).toNatClampNeg) ((fun i => if i = (((0 : Int32) + (1 : Int32))).toNatClampNeg then xm else (fun i => if i = ((0 : Int32)).toNatClampNeg then q1 else (fun _ => (0 : Int64)) i) i) ((1 : Int32)).toNatClampNeg) ((fun i => if i = (((0 : Int32) + (1 : Int32))).toNatClampNeg then xd else (fun i => if i = ((0 : Int32)).toNatClampNeg then q3 else (fun _ => (0 : Int64)) i) i) ((0 : Int32)).toNatClampNeg) ((fun i => if i = (((0 : Int32) + (1 : Int32))).toNatClampNeg then xd else (fun i => if i = ((0 : Int32)).toNatClampNeg then q3 else (fun _ => (0 : Int64)) i) i) ((1 : Int32)).toNatClampNeg))), .val (.int (own_same ((fun i => if i = (((0 : Int32) + (1 : Int32))).toNatClampNeg then (nar .boolean xb) else (fun i => if i = ((0 : Int32)).toNatClampNeg then (nar .boolean xa) else (fun _ => (0 : Int32)) i) i) ((1 : Int32)).toNatClampNeg) ((fun i => if i = (((0 : Int32) + (1 : Int32))).toNatClampNeg then (nar .boolean xb) else (fun i => if i = ((0 : Int32)).toNatClampNeg then (nar .boolean xa) else (fun _ => (0 : Int32)) i) i) ((0 : Int32)).toNatClampNeg) ((fun i => if i = (((0 : Int32) + (1 : Int32))).toNatClampNeg then xm else (fun i => if i = ((0 : Int32)).toNatClampNeg then q1 else (fun _ => (0 : Int64)) i) i) ((1 : Int32)).toNatClampNeg) ((fun i => if i = (((0 : Int32) + (1 : Int32))).toNatClampNeg then xm else (fun i => if i = ((0 : Int32)).toNatClampNeg then q1 else (fun _ => (0 : Int64)) i) i) ((0 : Int32)).toNatClampNeg) ((fun i => if i = (((0 : Int32) + (1 : Int32))).toNatClampNeg then xd else (fun i => if i = ((0 : Int32)).toNatClampNeg then q3 else (fun _ => (0 : Int64)) i) i) ((1 : Int32)).toNatClampNeg) ((fun i => if i = (((0 : Int32) + (1 : Int32))).toNatClampNeg then xd else (fun i => if i = ((0 : Int32)).toNatClampNeg then q3 else (fun _ => (0 : Int64)) i) i) ((0 : Int32)).toNatClampNeg))), .val (.int (own_same ((fun i => if i = (((0 : Int32) + (1 : Int32))).toNatClampNeg then (nar .boolean xb) else (fun i => if i = ((0 : Int32)).toNatClampNeg then (nar .boolean xa) else (fun _ => (0 : Int32)) i) i) ((0 : Int32)).toNatClampNeg) ((fun i => if i = (((0 : Int32) + (1 : Int32))).toNatClampNeg then (nar .boolean xb) else (fun i => if i = ((0 : Int32)).toNatClampNeg then (nar .boolean xa) else (fun _ => (0 : Int32)) i) i) ((0 : Int32)).toNatClampNeg) ((fun i => if i = (((0 : Int32) + (1 : Int32))).toNatClampNeg then xm else (fun i => if i = ((0 : Int32)).toNatClampNeg then q1 else (fun _ => (0 : Int64)) i) i) ((0 : Int32)).toNatClampNeg) ((fun i => if i = (((0 : Int32) + (1 : Int32))).toNatClampNeg then xm else (fun i => if i = ((0 : Int32)).toNatClampNeg then q1 else (fun _ => (0 : Int64)) i) i) ((0 : Int32)).toNatClampNeg) ((fun i => if i = (((0 : Int32) + (1 : Int32))).toNatClampNeg then xd else (fun i => if i = ((0 : Int32)).toNatClampNeg then q3 else (fun _ => (0 : Int64)) i) i) ((0 : Int32)).toNatClampNeg) ((fun i => if i = (((0 : Int32) + (1 : Int32))).toNatClampNeg then xd else (fun i => if i = ((0 : Int32)).toNatClampNeg then q3 else (fun _ => (0 : Int64)) i) i) ((0 : Int32)).toNatClampNeg)))] [(.int (own_same ((fun i => if i = (((0 : Int32) + (1 : Int32))).toNatClampNeg then (nar .boolean xb) else (fun i => if i = ((0 : Int32)).toNatClampNeg then (nar .boolean xa) else (fun _ => (0 : Int32)) i) i) ((1 : Int32)).toNatClampNeg) ((fun i => if i = (((0 : Int32) + (1 : Int32))).toNatClampNeg then (nar .boolean xb) else (fun i => if i = ((0 : Int32)).toNatClampNeg then (nar .boolean xa) else (fun _ => (0 : Int32)) i) i) ((0 : Int32)).toNatClampNeg) ((fun i => if i = (((0 : Int32) + (1 : Int32))).toNatClampNeg then xm else (fun i => if i = ((0 : Int32)).toNatClampNeg then q1 else (fun _ => (0 : Int64)) i) i) ((1 : Int32)).toNatClampNeg) ((fun i => if i = (((0 : Int32) + (1 : Int32))).toNatClampNeg then xm else (fun i => if i = ((0 : Int32)).toNatClampNeg then q1 else (fun _ => (0 : Int64)) i) i) ((0 : Int32)).toNatClampNeg) ((fun i => if i = (((0 : Int32) + (1 : Int32))).toNatClampNeg then xd else (fun i => if i = ((0 : Int32)).toNatClampNeg then q3 else (fun _ => (0 : Int64)) i) i) ((1 : Int32)).toNatClampNeg) ((fun i => if i = (((0 : Int32) + (1 : Int32))).toNatClampNeg then xd else (fun i => if i = ((0 : Int32)).toNatClampNeg then q3 else (fun _ => (0 : Int64)) i) i) ((0 : Int32)).toNatClampNeg)))])) _
    refine XS.iload X135.here hx rfl (hb hby at_255) rfl ?_
    show Steps p.tables e below (T135.setTop (mkF m 257 #[.val (.int p0), .val (.long q1), .second, .val (.long q2), .second, .val (.long q3), .second, .val (.long q4), .second, .val (.long q5), .second, .val (.int xa), .val (.int xb), .val (.long q1), .second, .val (.long xm), .second, .val (.long q3), .second, .val (.long xd), .second, .val (.long q5), .second, .val (.long xi), .second, .val (.int tt), .val (.int xt), .val (.ref b31), .val (.ref b53), .val (.ref b67), .val (.int xx), .val (.int (own_same ((fun i => if i = (((0 : Int32) + (1 : Int32))).toNatClampNeg then (nar .boolean xb) else (fun i => if i = ((0 : Int32)).toNatClampNeg then (nar .boolean xa) else (fun _ => (0 : Int32)) i) i) ((0 : Int32)).toNatClampNeg) ((fun i => if i = (((0 : Int32) + (1 : Int32))).toNatClampNeg then (nar .boolean xb) else (fun i => if i = ((0 : Int32)).toNatClampNeg then (nar .boolean xa) else (fun _ => (0 : Int32)) i) i) ((1 : Int32)).toNatClampNeg) ((fun i => if i = (((0 : Int32) + (1 : Int32))).toNatClampNeg then xm else (fun i => if i = ((0 : Int32)).toNatClampNeg then q1 else (fun _ => (0 : Int64)) i) i) ((0 : Int32)).toNatClampNeg) ((fun i => if i = (((0 : Int32) + (1 : Int32))).toNatClampNeg then xm else (fun i => if i = ((0 : Int32)).toNatClampNeg then q1 else (fun _ => (0 : Int64)) i) i) ((1 : Int32)).toNatClampNeg) ((fun i => if i = (((0 : Int32) + (1 : Int32))).toNatClampNeg then xd else (fun i => if i = ((0 : Int32)).toNatClampNeg then q3 else (fun _ => (0 : Int64)) i) i) ((0 : Int32)).toNatClampNeg) ((fun i => if i = (((0 : Int32) + (1 : Int32))).toNatClampNeg then xd else (fun i => if i = ((0 : Int32)).toNatClampNeg then q3 else (fun _ => (0 : Int64)) i) i) ((1 : Int32)).toNatClampNeg))), .val (.int (own_same ((fun i => if i = (((0 : Int32) + (1 : Int32))).toNatClampNeg then (nar .boolean xb) else (fun i => if i = ((0 : Int32)).toNatClampNeg then (nar .boolean xa) else (fun _ => (0 : Int32)) i) i) ((1 : Int32)).toNatClampNeg) ((fun i => if i = (((0 : Int32) + (1 : Int32))).toNatClampNeg then (nar .boolean xb) else (fun i => if i = ((0 : Int32)).toNatClampNeg then (nar .boolean xa) else (fun _ => (0 : Int32)) i) i) ((0 : Int32)).toNatClampNeg) ((fun i => if i = (((0 : Int32) + (1 : Int32))).toNatClampNeg then xm else (fun i => if i = ((0 : Int32)).toNatClampNeg then q1 else (fun _ => (0 : Int64)) i) i) ((1 : Int32)).toNatClampNeg) ((fun i => if i = (((0 : Int32) + (1 : Int32))).toNatClampNeg then xm else (fun i => if i = ((0 : Int32)).toNatClampNeg then q1 else (fun _ => (0 : Int64)) i) i) ((0 : Int32)).toNatClampNeg) ((fun i => if i = (((0 : Int32) + (1 : Int32))).toNatClampNeg then xd else (fun i => if i = ((0 : Int32)).toNatClampNeg then q3 else (fun _ => (0 : Int64)) i) i) ((1 : Int32)).toNatClampNeg) ((fun i => if i = (((0 : Int32) + (1 : Int32))).toNatClampNeg then xd else (fun i => if i = ((0 : Int32)).toNatClampNeg then q3 else (fun _ => (0 : Int64)) i) i) ((0 : Int32)).toNatClampNeg))), .val (.int (own_same ((fun i => if i = (((0 : Int32) + (1 : Int32))).toNatClampNeg then (nar .boolean xb) else (fun i => if i = ((0 : Int32)).toNatClampNeg then (nar .boolean xa) else (fun _ => (0 : Int32)) i) i) ((0 : Int32)).toNatClampNeg) ((fun i => if i = (((0 : Int32) + (1 : Int32))).toNatClampNeg then (nar .boolean xb) else (fun i => if i = ((0 : Int32)).toNatClampNeg then (nar .boolean xa) else (fun _ => (0 : Int32)) i) i) ((0 : Int32)).toNatClampNeg) ((fun i => if i = (((0 : Int32) + (1 : Int32))).toNatClampNeg then xm else (fun i => if i = ((0 : Int32)).toNatClampNeg then q1 else (fun _ => (0 : Int64)) i) i) ((0 : Int32)).toNatClampNeg) ((fun i => if i = (((0 : Int32) + (1 : Int32))).toNatClampNeg then xm else (fun i => if i = ((0 : Int32)).toNatClampNeg then q1 else (fun _ => (0 : Int64)) i) i) ((0 : Int32)).toNatClampNeg) ((fun i => if i = (((0 : Int32) + (1 : Int32))).toNatClampNeg then xd else (fun i => if i = ((0 : Int32)).toNatClampNeg then q3 else (fun _ => (0 : Int64)) i) i) ((0 : Int32)).toNatClampNeg) ((fun i => if i = (((0 : Int32) + (1 : Int32))).toNatClampNeg then xd else (fun i => if i = ((0 : Int32)).toNatClampNeg then q3 else (fun _ => (0 : Int64)) i) i) ((0 : Int32)).toNatClampNeg)))] [(.int xx), (.int (own_same ((fun i => if i = (((0 : Int32) + (1 : Int32))).toNatClampNeg then (nar .boolean xb) else (fun i => if i = ((0 : Int32)).toNatClampNeg then (nar .boolean xa) else (fun _ => (0 : Int32)) i) i) ((1 : Int32)).toNatClampNeg) ((fun i => if i = (((0 : Int32) + (1 : Int32))).toNatClampNeg then (nar .boolean xb) else (fun i => if i = ((0 : Int32)).toNatClampNeg then (nar .boolean xa) else (fun _ => (0 : Int32)) i) i) ((0 : Int32)).toNatClampNeg) ((fun i => if i = (((0 : Int32) + (1 : Int32))).toNatClampNeg then xm else (fun i => if i = ((0 : Int32)).toNatClampNeg then q1 else (fun _ => (0 : Int64)) i) i) ((1 : Int32)).toNatClampNeg) ((fun i => if i = (((0 : Int32) + (1 : Int32))).toNatClampNeg then xm else (fun i => if i = ((0 : Int32)).toNatClampNeg then q1 else (fun _ => (0 : Int64)) i) i) ((0 : Int32)).toNatClampNeg) ((fun i => if i = (((0 : Int32) + (1 : Int32))).toNatClampNeg then xd else (fun i => if i = ((0 : Int32)).toNatClampNeg then q3 else (fun _ => (0 : Int64)) i) i) ((1 : Int32)).toNatClampNeg) ((fun i => if i = (((0 : Int32) + (1 : Int32))).toNatClampNeg then xd else (fun i => if i = ((0 : Int32)).toNatClampNeg then q3 else (fun _ => (0 : Int64)) i) i) ((0 : Int32)).toNatClampNeg)))])) _
    refine XS.icmpNo X135.here hx rfl (hb hby at_257) rfl (teq (own_r10 Bxa Bxb hxx rfl rfl rfl rfl rfl rfl)).2 ?_
    show Steps p.tables e below (T135.setTop (mkF m 260 #[.val (.int p0), .val (.long q1), .second, .val (.long q2), .second, .val (.long q3), .second, .val (.long q4), .second, .val (.long q5), .second, .val (.int xa), .val (.int xb), .val (.long q1), .second, .val (.long xm), .second, .val (.long q3), .second, .val (.long xd), .second, .val (.long q5), .second, .val (.long xi), .second, .val (.int tt), .val (.int xt), .val (.ref b31), .val (.ref b53), .val (.ref b67), .val (.int xx), .val (.int (own_same ((fun i => if i = (((0 : Int32) + (1 : Int32))).toNatClampNeg then (nar .boolean xb) else (fun i => if i = ((0 : Int32)).toNatClampNeg then (nar .boolean xa) else (fun _ => (0 : Int32)) i) i) ((0 : Int32)).toNatClampNeg) ((fun i => if i = (((0 : Int32) + (1 : Int32))).toNatClampNeg then (nar .boolean xb) else (fun i => if i = ((0 : Int32)).toNatClampNeg then (nar .boolean xa) else (fun _ => (0 : Int32)) i) i) ((1 : Int32)).toNatClampNeg) ((fun i => if i = (((0 : Int32) + (1 : Int32))).toNatClampNeg then xm else (fun i => if i = ((0 : Int32)).toNatClampNeg then q1 else (fun _ => (0 : Int64)) i) i) ((0 : Int32)).toNatClampNeg) ((fun i => if i = (((0 : Int32) + (1 : Int32))).toNatClampNeg then xm else (fun i => if i = ((0 : Int32)).toNatClampNeg then q1 else (fun _ => (0 : Int64)) i) i) ((1 : Int32)).toNatClampNeg) ((fun i => if i = (((0 : Int32) + (1 : Int32))).toNatClampNeg then xd else (fun i => if i = ((0 : Int32)).toNatClampNeg then q3 else (fun _ => (0 : Int64)) i) i) ((0 : Int32)).toNatClampNeg) ((fun i => if i = (((0 : Int32) + (1 : Int32))).toNatClampNeg then xd else (fun i => if i = ((0 : Int32)).toNatClampNeg then q3 else (fun _ => (0 : Int64)) i) i) ((1 : Int32)).toNatClampNeg))), .val (.int (own_same ((fun i => if i = (((0 : Int32) + (1 : Int32))).toNatClampNeg then (nar .boolean xb) else (fun i => if i = ((0 : Int32)).toNatClampNeg then (nar .boolean xa) else (fun _ => (0 : Int32)) i) i) ((1 : Int32)).toNatClampNeg) ((fun i => if i = (((0 : Int32) + (1 : Int32))).toNatClampNeg then (nar .boolean xb) else (fun i => if i = ((0 : Int32)).toNatClampNeg then (nar .boolean xa) else (fun _ => (0 : Int32)) i) i) ((0 : Int32)).toNatClampNeg) ((fun i => if i = (((0 : Int32) + (1 : Int32))).toNatClampNeg then xm else (fun i => if i = ((0 : Int32)).toNatClampNeg then q1 else (fun _ => (0 : Int64)) i) i) ((1 : Int32)).toNatClampNeg) ((fun i => if i = (((0 : Int32) + (1 : Int32))).toNatClampNeg then xm else (fun i => if i = ((0 : Int32)).toNatClampNeg then q1 else (fun _ => (0 : Int64)) i) i) ((0 : Int32)).toNatClampNeg) ((fun i => if i = (((0 : Int32) + (1 : Int32))).toNatClampNeg then xd else (fun i => if i = ((0 : Int32)).toNatClampNeg then q3 else (fun _ => (0 : Int64)) i) i) ((1 : Int32)).toNatClampNeg) ((fun i => if i = (((0 : Int32) + (1 : Int32))).toNatClampNeg then xd else (fun i => if i = ((0 : Int32)).toNatClampNeg then q3 else (fun _ => (0 : Int64)) i) i) ((0 : Int32)).toNatClampNeg))), .val (.int (own_same ((fun i => if i = (((0 : Int32) + (1 : Int32))).toNatClampNeg then (nar .boolean xb) else (fun i => if i = ((0 : Int32)).toNatClampNeg then (nar .boolean xa) else (fun _ => (0 : Int32)) i) i) ((0 : Int32)).toNatClampNeg) ((fun i => if i = (((0 : Int32) + (1 : Int32))).toNatClampNeg then (nar .boolean xb) else (fun i => if i = ((0 : Int32)).toNatClampNeg then (nar .boolean xa) else (fun _ => (0 : Int32)) i) i) ((0 : Int32)).toNatClampNeg) ((fun i => if i = (((0 : Int32) + (1 : Int32))).toNatClampNeg then xm else (fun i => if i = ((0 : Int32)).toNatClampNeg then q1 else (fun _ => (0 : Int64)) i) i) ((0 : Int32)).toNatClampNeg) ((fun i => if i = (((0 : Int32) + (1 : Int32))).toNatClampNeg then xm else (fun i => if i = ((0 : Int32)).toNatClampNeg then q1 else (fun _ => (0 : Int64)) i) i) ((0 : Int32)).toNatClampNeg) ((fun i => if i = (((0 : Int32) + (1 : Int32))).toNatClampNeg then xd else (fun i => if i = ((0 : Int32)).toNatClampNeg then q3 else (fun _ => (0 : Int64)) i) i) ((0 : Int32)).toNatClampNeg) ((fun i => if i = (((0 : Int32) + (1 : Int32))).toNatClampNeg then xd else (fun i => if i = ((0 : Int32)).toNatClampNeg then q3 else (fun _ => (0 : Int64)) i) i) ((0 : Int32)).toNatClampNeg)))] [])) _
    refine XS.iload X135.here hx rfl (hb hby at_260) rfl ?_
    show Steps p.tables e below (T135.setTop (mkF m 262 #[.val (.int p0), .val (.long q1), .second, .val (.long q2), .second, .val (.long q3), .second, .val (.long q4), .second, .val (.long q5), .second, .val (.int xa), .val (.int xb), .val (.long q1), .second, .val (.long xm), .second, .val (.long q3), .second, .val (.long xd), .second, .val (.long q5), .second, .val (.long xi), .second, .val (.int tt), .val (.int xt), .val (.ref b31), .val (.ref b53), .val (.ref b67), .val (.int xx), .val (.int (own_same ((fun i => if i = (((0 : Int32) + (1 : Int32))).toNatClampNeg then (nar .boolean xb) else (fun i => if i = ((0 : Int32)).toNatClampNeg then (nar .boolean xa) else (fun _ => (0 : Int32)) i) i) ((0 : Int32)).toNatClampNeg) ((fun i => if i = (((0 : Int32) + (1 : Int32))).toNatClampNeg then (nar .boolean xb) else (fun i => if i = ((0 : Int32)).toNatClampNeg then (nar .boolean xa) else (fun _ => (0 : Int32)) i) i) ((1 : Int32)).toNatClampNeg) ((fun i => if i = (((0 : Int32) + (1 : Int32))).toNatClampNeg then xm else (fun i => if i = ((0 : Int32)).toNatClampNeg then q1 else (fun _ => (0 : Int64)) i) i) ((0 : Int32)).toNatClampNeg) ((fun i => if i = (((0 : Int32) + (1 : Int32))).toNatClampNeg then xm else (fun i => if i = ((0 : Int32)).toNatClampNeg then q1 else (fun _ => (0 : Int64)) i) i) ((1 : Int32)).toNatClampNeg) ((fun i => if i = (((0 : Int32) + (1 : Int32))).toNatClampNeg then xd else (fun i => if i = ((0 : Int32)).toNatClampNeg then q3 else (fun _ => (0 : Int64)) i) i) ((0 : Int32)).toNatClampNeg) ((fun i => if i = (((0 : Int32) + (1 : Int32))).toNatClampNeg then xd else (fun i => if i = ((0 : Int32)).toNatClampNeg then q3 else (fun _ => (0 : Int64)) i) i) ((1 : Int32)).toNatClampNeg))), .val (.int (own_same ((fun i => if i = (((0 : Int32) + (1 : Int32))).toNatClampNeg then (nar .boolean xb) else (fun i => if i = ((0 : Int32)).toNatClampNeg then (nar .boolean xa) else (fun _ => (0 : Int32)) i) i) ((1 : Int32)).toNatClampNeg) ((fun i => if i = (((0 : Int32) + (1 : Int32))).toNatClampNeg then (nar .boolean xb) else (fun i => if i = ((0 : Int32)).toNatClampNeg then (nar .boolean xa) else (fun _ => (0 : Int32)) i) i) ((0 : Int32)).toNatClampNeg) ((fun i => if i = (((0 : Int32) + (1 : Int32))).toNatClampNeg then xm else (fun i => if i = ((0 : Int32)).toNatClampNeg then q1 else (fun _ => (0 : Int64)) i) i) ((1 : Int32)).toNatClampNeg) ((fun i => if i = (((0 : Int32) + (1 : Int32))).toNatClampNeg then xm else (fun i => if i = ((0 : Int32)).toNatClampNeg then q1 else (fun _ => (0 : Int64)) i) i) ((0 : Int32)).toNatClampNeg) ((fun i => if i = (((0 : Int32) + (1 : Int32))).toNatClampNeg then xd else (fun i => if i = ((0 : Int32)).toNatClampNeg then q3 else (fun _ => (0 : Int64)) i) i) ((1 : Int32)).toNatClampNeg) ((fun i => if i = (((0 : Int32) + (1 : Int32))).toNatClampNeg then xd else (fun i => if i = ((0 : Int32)).toNatClampNeg then q3 else (fun _ => (0 : Int64)) i) i) ((0 : Int32)).toNatClampNeg))), .val (.int (own_same ((fun i => if i = (((0 : Int32) + (1 : Int32))).toNatClampNeg then (nar .boolean xb) else (fun i => if i = ((0 : Int32)).toNatClampNeg then (nar .boolean xa) else (fun _ => (0 : Int32)) i) i) ((0 : Int32)).toNatClampNeg) ((fun i => if i = (((0 : Int32) + (1 : Int32))).toNatClampNeg then (nar .boolean xb) else (fun i => if i = ((0 : Int32)).toNatClampNeg then (nar .boolean xa) else (fun _ => (0 : Int32)) i) i) ((0 : Int32)).toNatClampNeg) ((fun i => if i = (((0 : Int32) + (1 : Int32))).toNatClampNeg then xm else (fun i => if i = ((0 : Int32)).toNatClampNeg then q1 else (fun _ => (0 : Int64)) i) i) ((0 : Int32)).toNatClampNeg) ((fun i => if i = (((0 : Int32) + (1 : Int32))).toNatClampNeg then xm else (fun i => if i = ((0 : Int32)).toNatClampNeg then q1 else (fun _ => (0 : Int64)) i) i) ((0 : Int32)).toNatClampNeg) ((fun i => if i = (((0 : Int32) + (1 : Int32))).toNatClampNeg then xd else (fun i => if i = ((0 : Int32)).toNatClampNeg then q3 else (fun _ => (0 : Int64)) i) i) ((0 : Int32)).toNatClampNeg) ((fun i => if i = (((0 : Int32) + (1 : Int32))).toNatClampNeg then xd else (fun i => if i = ((0 : Int32)).toNatClampNeg then q3 else (fun _ => (0 : Int64)) i) i) ((0 : Int32)).toNatClampNeg)))] [(.int (own_same ((fun i => if i = (((0 : Int32) + (1 : Int32))).toNatClampNeg then (nar .boolean xb) else (fun i => if i = ((0 : Int32)).toNatClampNeg then (nar .boolean xa) else (fun _ => (0 : Int32)) i) i) ((0 : Int32)).toNatClampNeg) ((fun i => if i = (((0 : Int32) + (1 : Int32))).toNatClampNeg then (nar .boolean xb) else (fun i => if i = ((0 : Int32)).toNatClampNeg then (nar .boolean xa) else (fun _ => (0 : Int32)) i) i) ((0 : Int32)).toNatClampNeg) ((fun i => if i = (((0 : Int32) + (1 : Int32))).toNatClampNeg then xm else (fun i => if i = ((0 : Int32)).toNatClampNeg then q1 else (fun _ => (0 : Int64)) i) i) ((0 : Int32)).toNatClampNeg) ((fun i => if i = (((0 : Int32) + (1 : Int32))).toNatClampNeg then xm else (fun i => if i = ((0 : Int32)).toNatClampNeg then q1 else (fun _ => (0 : Int64)) i) i) ((0 : Int32)).toNatClampNeg) ((fun i => if i = (((0 : Int32) + (1 : Int32))).toNatClampNeg then xd else (fun i => if i = ((0 : Int32)).toNatClampNeg then q3 else (fun _ => (0 : Int64)) i) i) ((0 : Int32)).toNatClampNeg) ((fun i => if i = (((0 : Int32) + (1 : Int32))).toNatClampNeg then xd else (fun i => if i = ((0 : Int32)).toNatClampNeg then q3 else (fun _ => (0 : Int64)) i) i) ((0 : Int32)).toNatClampNeg)))])) _
    refine XS.ifNo X135.here hx rfl (hb hby at_262) rfl ((if0 _ _).trans (feq (own_r00 _ _ _)).1) ?_
    show Steps p.tables e below (T135.setTop (mkF m 265 #[.val (.int p0), .val (.long q1), .second, .val (.long q2), .second, .val (.long q3), .second, .val (.long q4), .second, .val (.long q5), .second, .val (.int xa), .val (.int xb), .val (.long q1), .second, .val (.long xm), .second, .val (.long q3), .second, .val (.long xd), .second, .val (.long q5), .second, .val (.long xi), .second, .val (.int tt), .val (.int xt), .val (.ref b31), .val (.ref b53), .val (.ref b67), .val (.int xx), .val (.int (own_same ((fun i => if i = (((0 : Int32) + (1 : Int32))).toNatClampNeg then (nar .boolean xb) else (fun i => if i = ((0 : Int32)).toNatClampNeg then (nar .boolean xa) else (fun _ => (0 : Int32)) i) i) ((0 : Int32)).toNatClampNeg) ((fun i => if i = (((0 : Int32) + (1 : Int32))).toNatClampNeg then (nar .boolean xb) else (fun i => if i = ((0 : Int32)).toNatClampNeg then (nar .boolean xa) else (fun _ => (0 : Int32)) i) i) ((1 : Int32)).toNatClampNeg) ((fun i => if i = (((0 : Int32) + (1 : Int32))).toNatClampNeg then xm else (fun i => if i = ((0 : Int32)).toNatClampNeg then q1 else (fun _ => (0 : Int64)) i) i) ((0 : Int32)).toNatClampNeg) ((fun i => if i = (((0 : Int32) + (1 : Int32))).toNatClampNeg then xm else (fun i => if i = ((0 : Int32)).toNatClampNeg then q1 else (fun _ => (0 : Int64)) i) i) ((1 : Int32)).toNatClampNeg) ((fun i => if i = (((0 : Int32) + (1 : Int32))).toNatClampNeg then xd else (fun i => if i = ((0 : Int32)).toNatClampNeg then q3 else (fun _ => (0 : Int64)) i) i) ((0 : Int32)).toNatClampNeg) ((fun i => if i = (((0 : Int32) + (1 : Int32))).toNatClampNeg then xd else (fun i => if i = ((0 : Int32)).toNatClampNeg then q3 else (fun _ => (0 : Int64)) i) i) ((1 : Int32)).toNatClampNeg))), .val (.int (own_same ((fun i => if i = (((0 : Int32) + (1 : Int32))).toNatClampNeg then (nar .boolean xb) else (fun i => if i = ((0 : Int32)).toNatClampNeg then (nar .boolean xa) else (fun _ => (0 : Int32)) i) i) ((1 : Int32)).toNatClampNeg) ((fun i => if i = (((0 : Int32) + (1 : Int32))).toNatClampNeg then (nar .boolean xb) else (fun i => if i = ((0 : Int32)).toNatClampNeg then (nar .boolean xa) else (fun _ => (0 : Int32)) i) i) ((0 : Int32)).toNatClampNeg) ((fun i => if i = (((0 : Int32) + (1 : Int32))).toNatClampNeg then xm else (fun i => if i = ((0 : Int32)).toNatClampNeg then q1 else (fun _ => (0 : Int64)) i) i) ((1 : Int32)).toNatClampNeg) ((fun i => if i = (((0 : Int32) + (1 : Int32))).toNatClampNeg then xm else (fun i => if i = ((0 : Int32)).toNatClampNeg then q1 else (fun _ => (0 : Int64)) i) i) ((0 : Int32)).toNatClampNeg) ((fun i => if i = (((0 : Int32) + (1 : Int32))).toNatClampNeg then xd else (fun i => if i = ((0 : Int32)).toNatClampNeg then q3 else (fun _ => (0 : Int64)) i) i) ((1 : Int32)).toNatClampNeg) ((fun i => if i = (((0 : Int32) + (1 : Int32))).toNatClampNeg then xd else (fun i => if i = ((0 : Int32)).toNatClampNeg then q3 else (fun _ => (0 : Int64)) i) i) ((0 : Int32)).toNatClampNeg))), .val (.int (own_same ((fun i => if i = (((0 : Int32) + (1 : Int32))).toNatClampNeg then (nar .boolean xb) else (fun i => if i = ((0 : Int32)).toNatClampNeg then (nar .boolean xa) else (fun _ => (0 : Int32)) i) i) ((0 : Int32)).toNatClampNeg) ((fun i => if i = (((0 : Int32) + (1 : Int32))).toNatClampNeg then (nar .boolean xb) else (fun i => if i = ((0 : Int32)).toNatClampNeg then (nar .boolean xa) else (fun _ => (0 : Int32)) i) i) ((0 : Int32)).toNatClampNeg) ((fun i => if i = (((0 : Int32) + (1 : Int32))).toNatClampNeg then xm else (fun i => if i = ((0 : Int32)).toNatClampNeg then q1 else (fun _ => (0 : Int64)) i) i) ((0 : Int32)).toNatClampNeg) ((fun i => if i = (((0 : Int32) + (1 : Int32))).toNatClampNeg then xm else (fun i => if i = ((0 : Int32)).toNatClampNeg then q1 else (fun _ => (0 : Int64)) i) i) ((0 : Int32)).toNatClampNeg) ((fun i => if i = (((0 : Int32) + (1 : Int32))).toNatClampNeg then xd else (fun i => if i = ((0 : Int32)).toNatClampNeg then q3 else (fun _ => (0 : Int64)) i) i) ((0 : Int32)).toNatClampNeg) ((fun i => if i = (((0 : Int32) + (1 : Int32))).toNatClampNeg then xd else (fun i => if i = ((0 : Int32)).toNatClampNeg then q3 else (fun _ => (0 : Int64)) i) i) ((0 : Int32)).toNatClampNeg)))] [])) _
    refine XS.iconst X135.here hx rfl (hb hby at_265) ?_
    show Steps p.tables e below (T135.setTop (mkF m 266 #[.val (.int p0), .val (.long q1), .second, .val (.long q2), .second, .val (.long q3), .second, .val (.long q4), .second, .val (.long q5), .second, .val (.int xa), .val (.int xb), .val (.long q1), .second, .val (.long xm), .second, .val (.long q3), .second, .val (.long xd), .second, .val (.long q5), .second, .val (.long xi), .second, .val (.int tt), .val (.int xt), .val (.ref b31), .val (.ref b53), .val (.ref b67), .val (.int xx), .val (.int (own_same ((fun i => if i = (((0 : Int32) + (1 : Int32))).toNatClampNeg then (nar .boolean xb) else (fun i => if i = ((0 : Int32)).toNatClampNeg then (nar .boolean xa) else (fun _ => (0 : Int32)) i) i) ((0 : Int32)).toNatClampNeg) ((fun i => if i = (((0 : Int32) + (1 : Int32))).toNatClampNeg then (nar .boolean xb) else (fun i => if i = ((0 : Int32)).toNatClampNeg then (nar .boolean xa) else (fun _ => (0 : Int32)) i) i) ((1 : Int32)).toNatClampNeg) ((fun i => if i = (((0 : Int32) + (1 : Int32))).toNatClampNeg then xm else (fun i => if i = ((0 : Int32)).toNatClampNeg then q1 else (fun _ => (0 : Int64)) i) i) ((0 : Int32)).toNatClampNeg) ((fun i => if i = (((0 : Int32) + (1 : Int32))).toNatClampNeg then xm else (fun i => if i = ((0 : Int32)).toNatClampNeg then q1 else (fun _ => (0 : Int64)) i) i) ((1 : Int32)).toNatClampNeg) ((fun i => if i = (((0 : Int32) + (1 : Int32))).toNatClampNeg then xd else (fun i => if i = ((0 : Int32)).toNatClampNeg then q3 else (fun _ => (0 : Int64)) i) i) ((0 : Int32)).toNatClampNeg) ((fun i => if i = (((0 : Int32) + (1 : Int32))).toNatClampNeg then xd else (fun i => if i = ((0 : Int32)).toNatClampNeg then q3 else (fun _ => (0 : Int64)) i) i) ((1 : Int32)).toNatClampNeg))), .val (.int (own_same ((fun i => if i = (((0 : Int32) + (1 : Int32))).toNatClampNeg then (nar .boolean xb) else (fun i => if i = ((0 : Int32)).toNatClampNeg then (nar .boolean xa) else (fun _ => (0 : Int32)) i) i) ((1 : Int32)).toNatClampNeg) ((fun i => if i = (((0 : Int32) + (1 : Int32))).toNatClampNeg then (nar .boolean xb) else (fun i => if i = ((0 : Int32)).toNatClampNeg then (nar .boolean xa) else (fun _ => (0 : Int32)) i) i) ((0 : Int32)).toNatClampNeg) ((fun i => if i = (((0 : Int32) + (1 : Int32))).toNatClampNeg then xm else (fun i => if i = ((0 : Int32)).toNatClampNeg then q1 else (fun _ => (0 : Int64)) i) i) ((1 : Int32)).toNatClampNeg) ((fun i => if i = (((0 : Int32) + (1 : Int32))).toNatClampNeg then xm else (fun i => if i = ((0 : Int32)).toNatClampNeg then q1 else (fun _ => (0 : Int64)) i) i) ((0 : Int32)).toNatClampNeg) ((fun i => if i = (((0 : Int32) + (1 : Int32))).toNatClampNeg then xd else (fun i => if i = ((0 : Int32)).toNatClampNeg then q3 else (fun _ => (0 : Int64)) i) i) ((1 : Int32)).toNatClampNeg) ((fun i => if i = (((0 : Int32) + (1 : Int32))).toNatClampNeg then xd else (fun i => if i = ((0 : Int32)).toNatClampNeg then q3 else (fun _ => (0 : Int64)) i) i) ((0 : Int32)).toNatClampNeg))), .val (.int (own_same ((fun i => if i = (((0 : Int32) + (1 : Int32))).toNatClampNeg then (nar .boolean xb) else (fun i => if i = ((0 : Int32)).toNatClampNeg then (nar .boolean xa) else (fun _ => (0 : Int32)) i) i) ((0 : Int32)).toNatClampNeg) ((fun i => if i = (((0 : Int32) + (1 : Int32))).toNatClampNeg then (nar .boolean xb) else (fun i => if i = ((0 : Int32)).toNatClampNeg then (nar .boolean xa) else (fun _ => (0 : Int32)) i) i) ((0 : Int32)).toNatClampNeg) ((fun i => if i = (((0 : Int32) + (1 : Int32))).toNatClampNeg then xm else (fun i => if i = ((0 : Int32)).toNatClampNeg then q1 else (fun _ => (0 : Int64)) i) i) ((0 : Int32)).toNatClampNeg) ((fun i => if i = (((0 : Int32) + (1 : Int32))).toNatClampNeg then xm else (fun i => if i = ((0 : Int32)).toNatClampNeg then q1 else (fun _ => (0 : Int64)) i) i) ((0 : Int32)).toNatClampNeg) ((fun i => if i = (((0 : Int32) + (1 : Int32))).toNatClampNeg then xd else (fun i => if i = ((0 : Int32)).toNatClampNeg then q3 else (fun _ => (0 : Int64)) i) i) ((0 : Int32)).toNatClampNeg) ((fun i => if i = (((0 : Int32) + (1 : Int32))).toNatClampNeg then xd else (fun i => if i = ((0 : Int32)).toNatClampNeg then q3 else (fun _ => (0 : Int64)) i) i) ((0 : Int32)).toNatClampNeg)))] [(.int (1 : Int32))])) _
    refine XS.goto X135.here hx rfl (pc0 := 266) (pc' := 270) rfl (hb hby at_266) (by decide) (by decide) ?_
    show Steps p.tables e below (T135.setTop (mkF m 270 #[.val (.int p0), .val (.long q1), .second, .val (.long q2), .second, .val (.long q3), .second, .val (.long q4), .second, .val (.long q5), .second, .val (.int xa), .val (.int xb), .val (.long q1), .second, .val (.long xm), .second, .val (.long q3), .second, .val (.long xd), .second, .val (.long q5), .second, .val (.long xi), .second, .val (.int tt), .val (.int xt), .val (.ref b31), .val (.ref b53), .val (.ref b67), .val (.int xx), .val (.int (own_same ((fun i => if i = (((0 : Int32) + (1 : Int32))).toNatClampNeg then (nar .boolean xb) else (fun i => if i = ((0 : Int32)).toNatClampNeg then (nar .boolean xa) else (fun _ => (0 : Int32)) i) i) ((0 : Int32)).toNatClampNeg) ((fun i => if i = (((0 : Int32) + (1 : Int32))).toNatClampNeg then (nar .boolean xb) else (fun i => if i = ((0 : Int32)).toNatClampNeg then (nar .boolean xa) else (fun _ => (0 : Int32)) i) i) ((1 : Int32)).toNatClampNeg) ((fun i => if i = (((0 : Int32) + (1 : Int32))).toNatClampNeg then xm else (fun i => if i = ((0 : Int32)).toNatClampNeg then q1 else (fun _ => (0 : Int64)) i) i) ((0 : Int32)).toNatClampNeg) ((fun i => if i = (((0 : Int32) + (1 : Int32))).toNatClampNeg then xm else (fun i => if i = ((0 : Int32)).toNatClampNeg then q1 else (fun _ => (0 : Int64)) i) i) ((1 : Int32)).toNatClampNeg) ((fun i => if i = (((0 : Int32) + (1 : Int32))).toNatClampNeg then xd else (fun i => if i = ((0 : Int32)).toNatClampNeg then q3 else (fun _ => (0 : Int64)) i) i) ((0 : Int32)).toNatClampNeg) ((fun i => if i = (((0 : Int32) + (1 : Int32))).toNatClampNeg then xd else (fun i => if i = ((0 : Int32)).toNatClampNeg then q3 else (fun _ => (0 : Int64)) i) i) ((1 : Int32)).toNatClampNeg))), .val (.int (own_same ((fun i => if i = (((0 : Int32) + (1 : Int32))).toNatClampNeg then (nar .boolean xb) else (fun i => if i = ((0 : Int32)).toNatClampNeg then (nar .boolean xa) else (fun _ => (0 : Int32)) i) i) ((1 : Int32)).toNatClampNeg) ((fun i => if i = (((0 : Int32) + (1 : Int32))).toNatClampNeg then (nar .boolean xb) else (fun i => if i = ((0 : Int32)).toNatClampNeg then (nar .boolean xa) else (fun _ => (0 : Int32)) i) i) ((0 : Int32)).toNatClampNeg) ((fun i => if i = (((0 : Int32) + (1 : Int32))).toNatClampNeg then xm else (fun i => if i = ((0 : Int32)).toNatClampNeg then q1 else (fun _ => (0 : Int64)) i) i) ((1 : Int32)).toNatClampNeg) ((fun i => if i = (((0 : Int32) + (1 : Int32))).toNatClampNeg then xm else (fun i => if i = ((0 : Int32)).toNatClampNeg then q1 else (fun _ => (0 : Int64)) i) i) ((0 : Int32)).toNatClampNeg) ((fun i => if i = (((0 : Int32) + (1 : Int32))).toNatClampNeg then xd else (fun i => if i = ((0 : Int32)).toNatClampNeg then q3 else (fun _ => (0 : Int64)) i) i) ((1 : Int32)).toNatClampNeg) ((fun i => if i = (((0 : Int32) + (1 : Int32))).toNatClampNeg then xd else (fun i => if i = ((0 : Int32)).toNatClampNeg then q3 else (fun _ => (0 : Int64)) i) i) ((0 : Int32)).toNatClampNeg))), .val (.int (own_same ((fun i => if i = (((0 : Int32) + (1 : Int32))).toNatClampNeg then (nar .boolean xb) else (fun i => if i = ((0 : Int32)).toNatClampNeg then (nar .boolean xa) else (fun _ => (0 : Int32)) i) i) ((0 : Int32)).toNatClampNeg) ((fun i => if i = (((0 : Int32) + (1 : Int32))).toNatClampNeg then (nar .boolean xb) else (fun i => if i = ((0 : Int32)).toNatClampNeg then (nar .boolean xa) else (fun _ => (0 : Int32)) i) i) ((0 : Int32)).toNatClampNeg) ((fun i => if i = (((0 : Int32) + (1 : Int32))).toNatClampNeg then xm else (fun i => if i = ((0 : Int32)).toNatClampNeg then q1 else (fun _ => (0 : Int64)) i) i) ((0 : Int32)).toNatClampNeg) ((fun i => if i = (((0 : Int32) + (1 : Int32))).toNatClampNeg then xm else (fun i => if i = ((0 : Int32)).toNatClampNeg then q1 else (fun _ => (0 : Int64)) i) i) ((0 : Int32)).toNatClampNeg) ((fun i => if i = (((0 : Int32) + (1 : Int32))).toNatClampNeg then xd else (fun i => if i = ((0 : Int32)).toNatClampNeg then q3 else (fun _ => (0 : Int64)) i) i) ((0 : Int32)).toNatClampNeg) ((fun i => if i = (((0 : Int32) + (1 : Int32))).toNatClampNeg then xd else (fun i => if i = ((0 : Int32)).toNatClampNeg then q3 else (fun _ => (0 : Int64)) i) i) ((0 : Int32)).toNatClampNeg)))] [(.int (1 : Int32))])) _
    exact retN X135 hx (t := .boolean) Bd.returns (by simp) (hb hby at_270) hr
  · show Q0 Z p0 q1 q2 q3 q4 q5 sd h0 n0 _ T135.heap _
    rw [u135_0]
    exact ⟨rfl, N135⟩
set_option maxRecDepth 65536 in
set_option maxHeartbeats 40000000 in
theorem comes_1 {Post : Tables → Env → Array Value → State → Outcome → State → Prop} (hpost : ∀ tb e args s v u, (limb_1_1.after args s (.returned v) u = true ∧ limb_1_2.after args s (.returned v) u = true ∧ True) → FrameEnd s (.returned v) u (Jvm.fieldLocs frame_1_writes args s ++ Jvm.arrayLocs frame_1_arrays args s ++ Jvm.staticLocs frame_1_statics s) 32 14464 → Post tb e args s (.returned v) u) :
    ArmFor flags0 classFile x code maxLocals ret World_1 tables_1 room_1 Calls_1 rest_1 Pre_1 Post := by
  intro l hfl _ _ p e ha hc hk s m args below hf hA hF happ hP
  obtain ⟨hcalls, hrest, hpre⟩ := hP
  obtain ⟨-, -, -, hnamed, -, -, -, hat⟩ := (Spec.applies_iff hf).mp happ
  obtain ⟨hg, hn⟩ := and_e (Cond.before_iff.mp (show (Jvm.Cond.and given_1 narrow_1).before args s = true from hpre))
  obtain ⟨g1, g2⟩ := and_e hg
  obtain ⟨g3, g4⟩ := and_e g2
  obtain ⟨g5, g6⟩ := and_e g4
  obtain ⟨g7, g8⟩ := and_e g6
  obtain ⟨g9, g10⟩ := and_e g8
  obtain ⟨g11, g12⟩ := and_e g10
  obtain ⟨w0, w1, w2, w3, w4, w5, rfl⟩ : ∃ w0 w1 w2 w3 w4 w5 : Value, args = #[w0, w1, w2, w3, w4, w5] := by
    have hs : args.size = 6 := by simpa [Cond.value, given_1] using g1
    obtain ⟨L⟩ := args
    match L, hs with
    | [w0, w1, w2, w3, w4, w5], _ => exact ⟨w0, w1, w2, w3, w4, w5, rfl⟩
  have hw := fun d (hd : d ∈ tables_1) => atoms_spec (ws := Jvm.Cond.code x code maxLocals ret :: tables_1) hat d (List.mem_cons_of_mem _ hd)
  obtain ⟨hsets, hown0⟩ := atoms_of _ (rest_1_c_eq ▸ (show rest_1_c.before _ s = true from hrest))
  have hr0 := Cond.before_iff.mp hown0
  obtain ⟨i0, ei0⟩ := is_v g3
  obtain rfl : w0 = (.int i0) := Option.some.inj ei0
  obtain ⟨i1, ei1⟩ := isL_v g5
  obtain rfl : w1 = (.long i1) := Option.some.inj ei1
  obtain ⟨i2, ei2⟩ := isL_v g7
  obtain rfl : w2 = (.long i2) := Option.some.inj ei2
  obtain ⟨i3, ei3⟩ := isL_v g9
  obtain rfl : w3 = (.long i3) := Option.some.inj ei3
  obtain ⟨i4, ei4⟩ := isL_v g11
  obtain rfl : w4 = (.long i4) := Option.some.inj ei4
  obtain ⟨i5, ei5⟩ := isL_v g12
  obtain rfl : w5 = (.long i5) := Option.some.inj ei5
  obtain ⟨sdA, sdE⟩ := arr_v (Cond.before_iff.mp (hsets _ (List.mem_of_getElem? (i := 6) rfl)))
  have SD := Sta.start sdE (Or.inr ⟨hw _ (List.mem_of_getElem? (i := 17) rfl), hsets _ (List.mem_of_getElem? (i := 2) rfl)⟩)
  obtain ⟨n, o, h1, h2, h3, _, L, rfl, ⟨rfl, N⟩, hq⟩ := rm0 l s _ hw tables_1 i0 i1 i2 i3 i4 i5 sdA s.heap s.heap.size (Nat.le_refl _) SD p e ha hc hk s m _ below hf ((Spec.applies_iff_loose hf).mp happ).1 ⟨rfl, State.Warmed39.refl s, rfl⟩ trivial
  refine ⟨n, _, h1, h2, h3, hpost _ _ _ _ _ _ ⟨Cond.after_iff.mpr rfl, Cond.after_iff.mpr (eq_i res_at (Term.int_eval (1)) rfl), trivial⟩ ⟨hq.1, hq.2.1, (hq.2.2.sift fun y hy => Or.inr (N y hy)).mono (by decide) (by decide)⟩⟩
theorem main_1_1 : Claimed_1_1 := comes_1 fun _ _ _ _ _ _ h hF => ⟨h.1, hF⟩
theorem main_1_2 : Claimed_1_2 := comes_1 fun _ _ _ _ _ _ h hF => ⟨h.2.1, hF⟩
end Jvm.Pilot.@@N@@
namespace Jvm.Pilot.@@N@@
open Jvm Jvm.ClassFile Sem Op Lib Jvm.Free Jvm.Stand Jvm.Pilot.@@N@@.Jvm.D
/-! MADE BY PROGRAM (witnessworld.py) out of the Statement's table words and the real class files: 25 classes; the members and pool entries that the words name. The judged class is class 1, her method 1. -/
namespace start1
open Jvm.ClassFile
def u (s : String) : CpInfo := .utf8 (stringToUtf16 s)
/-- a pool by its gaps: so many unusable entries, then the entry; so many at the end -/
def gap : Nat → List CpInfo → List CpInfo
  | 0, r => r
  | n + 1, r => .unusable :: gap n r
def poolList (es : List (Nat × CpInfo)) (last : Nat) : List CpInfo := es.foldr (fun e r => gap e.1 (e.2 :: r)) (gap last [])
def pool (es : List (Nat × CpInfo)) (last : Nat) : Array CpInfo := ⟨poolList es last⟩
def fileOf (pool : Array CpInfo) (this : Nat) (attrs : Array Attribute := #[]) (ms : Array MethodInfo := #[]) (fl : Nat := 33) (sup : Nat := 0) (ifs : Array Nat := #[]) (fds : Array FieldInfo := #[]) : ClassFile where
  minorVersion := 0
  majorVersion := 65
  constantPool := pool
  accessFlags := fl
  thisClass := this
  superClass := sup
  interfaces := ifs
  fields := fds
  methods := ms
  attributes := attrs
def plain (name : String) (sup : Option ClassId) : Class where
  name := name
  kind := .ordinary
  loader := none
  accessFlags := 33
  super := sup
  interfaces := #[]
  cf := none
  fields := #[]
  methods := #[]
  instanceTypes := #[]
  staticTypes := #[]
  resolved := #[]
  callSites := []
  init := .initialized
  statics := none
  mirror := none

def pool0 : Array CpInfo := pool [(5, u "<init>"), (0, u "()V"), (1, .class_ 10), (1, u "java/lang/Object")] 113

def k0c0 : Code := { maxStack := 0, maxLocals := 1, code := object_method_1_code, exceptionTable := #[], attributes := #[] }
def k0m0 : Method := { name := "<init>", desc := "()V", sig := { parameters := [], returnType := none }, accessFlags := 1, code := some k0c0 }
/-- java/lang/Object -/
def k0 : Class := { plain "java/lang/Object" none with
  accessFlags := 33
  interfaces := #[]
  cf := some (fileOf pool0 8 #[] #[{ accessFlags := 1, nameIndex := 5, descriptorIndex := 6, attributes := #[] }] 33 0 #[] #[])
  fields := #[]
  methods := #[k0m0]
  instanceTypes := #[]
  staticTypes := #[]
  resolved := Array.replicate 124 none
  statics := none }

def pool1 : Array CpInfo := pool [(2, .class_ 4), (0, .nameAndType 5 6), (0, u "java/lang/Object"), (0, u "<init>"), (0, u "()V"), (0, .long 18446744073709551615), (1, .class_ 10), (0, u "com/example/conceptary/conceptary/ConceptTable$Builder"), (0, .methodref 9 3), (0, .class_ 13), (0, u "com/example/conceptary/conceptary/Concept"), (0, .methodref 12 15), (0, .nameAndType 5 16), (0, u "(JIZJJ)V"), (0, .methodref 9 18), (0, .nameAndType 19 20), (0, u "add"), (0, u "(Lcom/example/conceptary/conceptary/Concept;I)V"), (0, .methodref 9 22), (0, .nameAndType 23 24), (0, u "sameValues"), (0, u "(II)Z"), (0, .class_ 26), (0, u "com/example/conceptary/conceptary/BuilderSameValuesPinLaw"), (2, u "law"), (0, u "(IJJJJJ)Z")] 7

def k1m0 : Method := { name := "<init>", desc := "()V", sig := { parameters := [], returnType := none }, accessFlags := 2, code := none }
def k1c1 : Code := { maxStack := 10, maxLocals := 34, code := code, exceptionTable := #[], attributes := #[] }
def k1m1 : Method := { name := "law", desc := "(IJJJJJ)Z", sig := { parameters := [.int, .long, .long, .long, .long, .long], returnType := some .boolean }, accessFlags := 9, code := some k1c1 }
/-- com/example/conceptary/conceptary/BuilderSameValuesPinLaw -/
def k1 : Class := { plain "com/example/conceptary/conceptary/BuilderSameValuesPinLaw" (some 0) with
  accessFlags := 49
  interfaces := #[]
  cf := some (fileOf pool1 25 #[] #[{ accessFlags := 2, nameIndex := 5, descriptorIndex := 6, attributes := #[] }, { accessFlags := 9, nameIndex := 29, descriptorIndex := 30, attributes := #[] }] 49 2 #[] #[])
  fields := #[]
  methods := #[k1m0, k1m1]
  instanceTypes := #[]
  staticTypes := #[]
  resolved := Array.replicate 38 none
  statics := none }

def pool2 : Array CpInfo := pool [(1, .methodref 2 3), (0, .class_ 4), (0, .nameAndType 5 6), (0, u "java/lang/Object"), (0, u "<init>"), (0, u "()V"), (0, .class_ 8), (0, u "java/util/ArrayList"), (0, .methodref 7 3), (0, .fieldref 11 12), (0, .class_ 13), (0, .nameAndType 14 15), (0, u "com/example/conceptary/conceptary/SnapshotRows"), (0, u "files"), (0, u "Ljava/util/List;"), (0, .fieldref 11 17), (0, .nameAndType 18 19), (0, u "effectiveTimes"), (0, u "[I"), (0, .fieldref 11 21), (0, .nameAndType 22 19), (0, u "fileIndexes"), (0, .fieldref 11 24), (0, .nameAndType 25 19), (0, u "lines"), (1, .class_ 29), (1, u "java/util/List"), (2, .fieldref 11 33), (0, .nameAndType 34 35), (0, u "size"), (0, u "I"), (10, .interfaceMethodref 27 47), (0, .nameAndType 34 48), (0, u "()I"), (29, u "(II)I"), (42, u "INITIAL_CAPACITY"), (8, u "addRow")] 41

def k2c0 : Code := { maxStack := 3, maxLocals := 1, code := prog_48_method_1_code, exceptionTable := #[], attributes := #[] }
def k2m0 : Method := { name := "<init>", desc := "()V", sig := { parameters := [], returnType := none }, accessFlags := 0, code := some k2c0 }
def k2c1 : Code := { maxStack := 4, maxLocals := 4, code := prog_48_method_3_code, exceptionTable := #[], attributes := #[] }
def k2m1 : Method := { name := "addRow", desc := "(II)I", sig := { parameters := [.int, .int], returnType := some .int }, accessFlags := 16, code := some k2c1 }
/-- com/example/conceptary/conceptary/SnapshotRows -/
def k2 : Class := { plain "com/example/conceptary/conceptary/SnapshotRows" (some 0) with
  accessFlags := 1056
  interfaces := #[]
  cf := some (fileOf pool2 11 #[] #[{ accessFlags := 0, nameIndex := 5, descriptorIndex := 6, attributes := #[] }, { accessFlags := 16, nameIndex := 130, descriptorIndex := 78, attributes := #[] }] 1056 2 #[] #[{ accessFlags := 24, nameIndex := 121, descriptorIndex := 35, attributes := #[] }, { accessFlags := 18, nameIndex := 14, descriptorIndex := 15, attributes := #[] }, { accessFlags := 2, nameIndex := 34, descriptorIndex := 35, attributes := #[] }, { accessFlags := 2, nameIndex := 18, descriptorIndex := 19, attributes := #[] }, { accessFlags := 2, nameIndex := 22, descriptorIndex := 19, attributes := #[] }, { accessFlags := 2, nameIndex := 25, descriptorIndex := 19, attributes := #[] }])
  fields := #[{ name := "INITIAL_CAPACITY", type := .int, accessFlags := 24, slot := 0, constantValue := 0 }, { name := "files", type := (.object "java/util/List"), accessFlags := 18, slot := 0, constantValue := 0 }, { name := "size", type := .int, accessFlags := 2, slot := 1, constantValue := 0 }, { name := "effectiveTimes", type := (.array .int), accessFlags := 2, slot := 2, constantValue := 0 }, { name := "fileIndexes", type := (.array .int), accessFlags := 2, slot := 3, constantValue := 0 }, { name := "lines", type := (.array .int), accessFlags := 2, slot := 4, constantValue := 0 }]
  methods := #[k2m0, k2m1]
  instanceTypes := #[(.object "java/util/List"), .int, (.array .int), (.array .int), (.array .int)]
  staticTypes := #[.int]
  resolved := Array.replicate 172 none
  statics := none }

def pool3 : Array CpInfo := pool [(1, .methodref 2 3), (0, .class_ 4), (0, .nameAndType 5 6), (0, u "com/example/conceptary/conceptary/SnapshotRows"), (0, u "<init>"), (0, u "()V"), (0, .fieldref 8 9), (0, .class_ 10), (0, .nameAndType 11 12), (0, u "com/example/conceptary/conceptary/ConceptTable$Builder"), (0, u "ids"), (0, u "[J"), (0, .fieldref 8 14), (0, .nameAndType 15 16), (0, u "actives"), (0, u "[Z"), (0, .fieldref 8 18), (0, .nameAndType 19 12), (0, u "moduleIds"), (0, .fieldref 8 21), (0, .nameAndType 22 12), (0, u "definitionStatusIds"), (0, .methodref 24 25), (0, .class_ 26), (0, .nameAndType 27 28), (0, u "com/example/conceptary/conceptary/Concept"), (0, u "effectiveTime"), (0, u "()I"), (0, .methodref 8 30), (0, .nameAndType 31 32), (0, u "addRow"), (0, u "(II)I"), (0, .methodref 24 34), (0, .nameAndType 35 36), (0, u "id"), (0, u "()J"), (0, .methodref 24 38), (0, .nameAndType 39 40), (0, u "active"), (0, u "()Z"), (0, .methodref 24 42), (0, .nameAndType 43 36), (0, u "moduleId"), (0, .methodref 24 45), (0, .nameAndType 46 36), (0, u "definitionStatusId"), (7, .class_ 55), (0, u "com/example/conceptary/conceptary/ConceptTable"), (24, u "add"), (0, u "(Lcom/example/conceptary/conceptary/Concept;I)V"), (13, u "sameValues"), (0, u "(II)Z")] 21

def k3c0 : Code := { maxStack := 2, maxLocals := 1, code := prog_9_method_1_code, exceptionTable := #[], attributes := #[] }
def k3m0 : Method := { name := "<init>", desc := "()V", sig := { parameters := [], returnType := none }, accessFlags := 0, code := some k3c0 }
def k3c1 : Code := { maxStack := 4, maxLocals := 4, code := prog_9_method_2_code, exceptionTable := #[], attributes := #[] }
def k3m1 : Method := { name := "add", desc := "(Lcom/example/conceptary/conceptary/Concept;I)V", sig := { parameters := [(.object "com/example/conceptary/conceptary/Concept"), .int], returnType := none }, accessFlags := 0, code := some k3c1 }
def k3c2 : Code := { maxStack := 4, maxLocals := 3, code := prog_9_method_6_code, exceptionTable := #[], attributes := #[] }
def k3m2 : Method := { name := "sameValues", desc := "(II)Z", sig := { parameters := [.int, .int], returnType := some .boolean }, accessFlags := 0, code := some k3c2 }
/-- com/example/conceptary/conceptary/ConceptTable$Builder -/
def k3 : Class := { plain "com/example/conceptary/conceptary/ConceptTable$Builder" (some 2) with
  accessFlags := 48
  interfaces := #[]
  cf := some (fileOf pool3 8 #[.nestHost 54] #[{ accessFlags := 0, nameIndex := 5, descriptorIndex := 6, attributes := #[] }, { accessFlags := 0, nameIndex := 80, descriptorIndex := 81, attributes := #[] }, { accessFlags := 0, nameIndex := 95, descriptorIndex := 96, attributes := #[] }] 48 2 #[] #[{ accessFlags := 2, nameIndex := 11, descriptorIndex := 12, attributes := #[] }, { accessFlags := 2, nameIndex := 15, descriptorIndex := 16, attributes := #[] }, { accessFlags := 2, nameIndex := 19, descriptorIndex := 12, attributes := #[] }, { accessFlags := 2, nameIndex := 22, descriptorIndex := 12, attributes := #[] }])
  fields := #[{ name := "ids", type := (.array .long), accessFlags := 2, slot := 5, constantValue := 0 }, { name := "actives", type := (.array .boolean), accessFlags := 2, slot := 6, constantValue := 0 }, { name := "moduleIds", type := (.array .long), accessFlags := 2, slot := 7, constantValue := 0 }, { name := "definitionStatusIds", type := (.array .long), accessFlags := 2, slot := 8, constantValue := 0 }]
  methods := #[k3m0, k3m1, k3m2]
  instanceTypes := #[(.object "java/util/List"), .int, (.array .int), (.array .int), (.array .int), (.array .long), (.array .boolean), (.array .long), (.array .long)]
  staticTypes := #[]
  resolved := Array.replicate 118 none
  statics := none }

def pool4 : Array CpInfo := pool [(8, .class_ 10), (1, u "java/lang/Iterable"), (24, .class_ 36), (0, u "java/lang/Object")] 25

/-- java/lang/Iterable -/
def k4 : Class := { plain "java/lang/Iterable" (some 0) with
  accessFlags := 1537
  interfaces := #[]
  cf := some (fileOf pool4 8 #[] #[] 1537 35 #[] #[])
  fields := #[]
  methods := #[]
  instanceTypes := #[]
  staticTypes := #[]
  resolved := Array.replicate 62 none
  statics := none }

def pool5 : Array CpInfo := pool [(10, .class_ 12), (1, u "java/util/Collection"), (47, .class_ 61), (0, u "java/lang/Object"), (0, .class_ 63), (0, u "java/lang/Iterable")] 51

/-- java/util/Collection -/
def k5 : Class := { plain "java/util/Collection" (some 0) with
  accessFlags := 1537
  interfaces := #[4]
  cf := some (fileOf pool5 10 #[] #[] 1537 60 #[62] #[])
  fields := #[]
  methods := #[]
  instanceTypes := #[]
  staticTypes := #[]
  resolved := Array.replicate 115 none
  statics := none }

def pool6 : Array CpInfo := pool [(1, .methodref 2 3), (0, .class_ 4), (0, .nameAndType 5 6), (0, u "java/lang/Object"), (0, u "<init>"), (0, u "()V"), (1, .class_ 10), (1, u "java/util/AbstractCollection"), (66, .class_ 78), (0, u "java/util/Collection")] 81

def k6c0 : Code := { maxStack := 1, maxLocals := 1, code := jdk_22_method_1_code, exceptionTable := #[], attributes := #[] }
def k6m0 : Method := { name := "<init>", desc := "()V", sig := { parameters := [], returnType := none }, accessFlags := 4, code := some k6c0 }
/-- java/util/AbstractCollection -/
def k6 : Class := { plain "java/util/AbstractCollection" (some 0) with
  accessFlags := 1057
  interfaces := #[5]
  cf := some (fileOf pool6 8 #[] #[{ accessFlags := 4, nameIndex := 5, descriptorIndex := 6, attributes := #[] }] 1057 2 #[77] #[])
  fields := #[]
  methods := #[k6m0]
  instanceTypes := #[]
  staticTypes := #[]
  resolved := Array.replicate 160 none
  statics := none }

def pool7 : Array CpInfo := pool [(8, .class_ 10), (1, u "java/util/SequencedCollection"), (15, .class_ 27), (0, u "java/lang/Object"), (0, .class_ 29), (0, u "java/util/Collection")] 27

/-- java/util/SequencedCollection -/
def k7 : Class := { plain "java/util/SequencedCollection" (some 0) with
  accessFlags := 1537
  interfaces := #[5]
  cf := some (fileOf pool7 8 #[] #[] 1537 26 #[28] #[])
  fields := #[]
  methods := #[]
  instanceTypes := #[]
  staticTypes := #[]
  resolved := Array.replicate 57 none
  statics := none }

def pool8 : Array CpInfo := pool [(8, .class_ 10), (1, u "java/util/List"), (68, u "size"), (0, u "()I"), (22, .class_ 104), (0, u "java/lang/Object"), (15, .class_ 121), (0, u "java/util/SequencedCollection")] 129

def k8m0 : Method := { name := "size", desc := "()I", sig := { parameters := [], returnType := some .int }, accessFlags := 1025, code := none }
/-- java/util/List -/
def k8 : Class := { plain "java/util/List" (some 0) with
  accessFlags := 1537
  interfaces := #[7]
  cf := some (fileOf pool8 8 #[] #[{ accessFlags := 1025, nameIndex := 79, descriptorIndex := 80, attributes := #[] }] 1537 103 #[120] #[])
  fields := #[]
  methods := #[k8m0]
  instanceTypes := #[]
  staticTypes := #[]
  resolved := Array.replicate 251 none
  statics := none }

def pool9 : Array CpInfo := pool [(1, .methodref 2 3), (0, .class_ 4), (0, .nameAndType 5 6), (0, u "java/util/AbstractCollection"), (0, u "<init>"), (0, u "()V"), (0, .fieldref 8 9), (0, .class_ 10), (0, .nameAndType 11 12), (0, u "java/util/AbstractList"), (0, u "modCount"), (0, u "I"), (64, .class_ 78), (0, u "java/util/AbstractList$Itr"), (3, .class_ 83), (0, u "java/util/AbstractList$ListItr"), (9, .class_ 94), (0, u "java/util/AbstractList$RandomAccessSubList"), (3, .class_ 99), (0, u "java/util/AbstractList$SubList"), (33, .class_ 134), (0, u "java/util/List"), (73, .class_ 209), (0, u "java/util/AbstractList$SubList$1"), (0, .class_ 211), (0, u "java/util/AbstractList$RandomAccessSpliterator")] 6

def k9c0 : Code := { maxStack := 2, maxLocals := 1, code := jdk_39_method_1_code, exceptionTable := #[], attributes := #[] }
def k9m0 : Method := { name := "<init>", desc := "()V", sig := { parameters := [], returnType := none }, accessFlags := 4, code := some k9c0 }
/-- java/util/AbstractList -/
def k9 : Class := { plain "java/util/AbstractList" (some 6) with
  accessFlags := 1057
  interfaces := #[8]
  cf := some (fileOf pool9 8 #[.nestMembers #[93, 98, 208, 210, 82, 77]] #[{ accessFlags := 4, nameIndex := 5, descriptorIndex := 6, attributes := #[] }] 1057 2 #[133] #[{ accessFlags := 132, nameIndex := 11, descriptorIndex := 12, attributes := #[] }])
  fields := #[{ name := "modCount", type := .int, accessFlags := 132, slot := 0, constantValue := 0 }]
  methods := #[k9m0]
  instanceTypes := #[.int]
  staticTypes := #[]
  resolved := Array.replicate 218 none
  statics := none }

def pool10 : Array CpInfo := pool [(1, .class_ 2), (0, u "java/util/RandomAccess"), (0, .class_ 4), (0, u "java/lang/Object")] 2

/-- java/util/RandomAccess -/
def k10 : Class := { plain "java/util/RandomAccess" (some 0) with
  accessFlags := 1537
  interfaces := #[]
  cf := some (fileOf pool10 1 #[] #[] 1537 3 #[] #[])
  fields := #[]
  methods := #[]
  instanceTypes := #[]
  staticTypes := #[]
  resolved := Array.replicate 7 none
  statics := none }

def pool11 : Array CpInfo := pool [(1, .class_ 2), (0, u "java/lang/Cloneable"), (0, .class_ 4), (0, u "java/lang/Object")] 2

/-- java/lang/Cloneable -/
def k11 : Class := { plain "java/lang/Cloneable" (some 0) with
  accessFlags := 1537
  interfaces := #[]
  cf := some (fileOf pool11 1 #[] #[] 1537 3 #[] #[])
  fields := #[]
  methods := #[]
  instanceTypes := #[]
  staticTypes := #[]
  resolved := Array.replicate 7 none
  statics := none }

def pool12 : Array CpInfo := pool [(1, .class_ 2), (0, u "java/io/Serializable"), (0, .class_ 4), (0, u "java/lang/Object")] 2

/-- java/io/Serializable -/
def k12 : Class := { plain "java/io/Serializable" (some 0) with
  accessFlags := 1537
  interfaces := #[]
  cf := some (fileOf pool12 1 #[] #[] 1537 3 #[] #[])
  fields := #[]
  methods := #[]
  instanceTypes := #[]
  staticTypes := #[]
  resolved := Array.replicate 7 none
  statics := none }

def pool13 : Array CpInfo := pool [(1, .methodref 2 3), (0, .class_ 4), (0, .nameAndType 5 6), (0, u "java/util/AbstractList"), (0, u "<init>"), (0, u "()V"), (2, .fieldref 10 11), (0, .class_ 12), (0, .nameAndType 13 14), (0, u "java/util/ArrayList"), (0, u "elementData"), (0, u "[Ljava/lang/Object;"), (2, u "EMPTY_ELEMENTDATA"), (21, .fieldref 10 40), (0, .nameAndType 41 14), (0, u "DEFAULTCAPACITY_EMPTY_ELEMENTDATA"), (6, .fieldref 10 49), (0, .nameAndType 50 51), (0, u "size"), (0, u "I"), (96, .class_ 149), (0, u "java/util/List"), (36, u "()I"), (75, .class_ 263), (0, u "java/util/ArrayList$ListItr"), (3, .class_ 268), (0, u "java/util/ArrayList$Itr"), (7, .class_ 277), (0, u "java/util/ArrayList$SubList"), (12, .class_ 291), (0, u "java/util/ArrayList$ArrayListSpliterator"), (37, .class_ 330), (0, u "java/util/RandomAccess"), (0, .class_ 332), (0, u "java/lang/Cloneable"), (0, .class_ 334), (0, u "java/io/Serializable"), (0, u "serialVersionUID"), (0, u "J"), (3, u "DEFAULT_CAPACITY"), (159, .class_ 501), (0, u "java/util/ArrayList$SubList$2"), (0, .class_ 503), (0, u "java/util/ArrayList$SubList$1")] 5

def k13c0 : Code := { maxStack := 2, maxLocals := 1, code := jdk_38_method_2_code, exceptionTable := #[], attributes := #[] }
def k13m0 : Method := { name := "<init>", desc := "()V", sig := { parameters := [], returnType := none }, accessFlags := 1, code := some k13c0 }
def k13c1 : Code := { maxStack := 1, maxLocals := 1, code := jdk_38_method_8_code, exceptionTable := #[], attributes := #[] }
def k13m1 : Method := { name := "size", desc := "()I", sig := { parameters := [], returnType := some .int }, accessFlags := 1, code := some k13c1 }
/-- java/util/ArrayList -/
def k13 : Class := { plain "java/util/ArrayList" (some 9) with
  accessFlags := 33
  interfaces := #[8, 10, 11, 12]
  cf := some (fileOf pool13 10 #[.nestMembers #[290, 276, 500, 502, 262, 267]] #[{ accessFlags := 1, nameIndex := 5, descriptorIndex := 6, attributes := #[] }, { accessFlags := 1, nameIndex := 50, descriptorIndex := 186, attributes := #[] }] 33 2 #[148, 329, 331, 333] #[{ accessFlags := 26, nameIndex := 335, descriptorIndex := 336, attributes := #[] }, { accessFlags := 26, nameIndex := 340, descriptorIndex := 51, attributes := #[] }, { accessFlags := 26, nameIndex := 17, descriptorIndex := 14, attributes := #[] }, { accessFlags := 26, nameIndex := 41, descriptorIndex := 14, attributes := #[] }, { accessFlags := 128, nameIndex := 13, descriptorIndex := 14, attributes := #[] }, { accessFlags := 2, nameIndex := 50, descriptorIndex := 51, attributes := #[] }])
  fields := #[{ name := "serialVersionUID", type := .long, accessFlags := 26, slot := 0, constantValue := 0 }, { name := "DEFAULT_CAPACITY", type := .int, accessFlags := 26, slot := 1, constantValue := 0 }, { name := "EMPTY_ELEMENTDATA", type := (.array (.object "java/lang/Object")), accessFlags := 26, slot := 2, constantValue := 0 }, { name := "DEFAULTCAPACITY_EMPTY_ELEMENTDATA", type := (.array (.object "java/lang/Object")), accessFlags := 26, slot := 3, constantValue := 0 }, { name := "elementData", type := (.array (.object "java/lang/Object")), accessFlags := 128, slot := 1, constantValue := 0 }, { name := "size", type := .int, accessFlags := 2, slot := 2, constantValue := 0 }]
  methods := #[k13m0, k13m1]
  instanceTypes := #[.int, (.array (.object "java/lang/Object")), .int]
  staticTypes := #[.long, .int, (.array (.object "java/lang/Object")), (.array (.object "java/lang/Object"))]
  resolved := Array.replicate 509 none
  statics := some 0 }

def pool14 : Array CpInfo := pool [(1, .methodref 2 3), (0, .class_ 4), (0, .nameAndType 5 6), (0, u "java/lang/Object"), (0, u "<init>"), (0, u "()V"), (0, .class_ 8), (0, u "java/lang/Record")] 13

def k14c0 : Code := { maxStack := 1, maxLocals := 1, code := jdk_30_method_1_code, exceptionTable := #[], attributes := #[] }
def k14m0 : Method := { name := "<init>", desc := "()V", sig := { parameters := [], returnType := none }, accessFlags := 4, code := some k14c0 }
/-- java/lang/Record -/
def k14 : Class := { plain "java/lang/Record" (some 0) with
  accessFlags := 1057
  interfaces := #[]
  cf := some (fileOf pool14 7 #[] #[{ accessFlags := 4, nameIndex := 5, descriptorIndex := 6, attributes := #[] }] 1057 2 #[] #[])
  fields := #[]
  methods := #[k14m0]
  instanceTypes := #[]
  staticTypes := #[]
  resolved := Array.replicate 22 none
  statics := none }

def pool15 : Array CpInfo := pool [(1, .methodref 2 3), (0, .class_ 4), (0, .nameAndType 5 6), (0, u "java/lang/Record"), (0, u "<init>"), (0, u "()V"), (0, .fieldref 8 9), (0, .class_ 10), (0, .nameAndType 11 12), (0, u "com/example/conceptary/conceptary/Concept"), (0, u "id"), (0, u "J"), (0, .fieldref 8 14), (0, .nameAndType 15 16), (0, u "effectiveTime"), (0, u "I"), (0, .fieldref 8 18), (0, .nameAndType 19 20), (0, u "active"), (0, u "Z"), (0, .fieldref 8 22), (0, .nameAndType 23 12), (0, u "moduleId"), (0, .fieldref 8 25), (0, .nameAndType 26 12), (0, u "definitionStatusId"), (12, u "DEFINED"), (3, u "(JIZJJ)V"), (4, u "()I"), (1, u "()J"), (0, u "()Z")] 24

def k15c0 : Code := { maxStack := 3, maxLocals := 9, code := prog_7_method_1_code, exceptionTable := #[], attributes := #[] }
def k15m0 : Method := { name := "<init>", desc := "(JIZJJ)V", sig := { parameters := [.long, .int, .boolean, .long, .long], returnType := none }, accessFlags := 0, code := some k15c0 }
def k15c1 : Code := { maxStack := 2, maxLocals := 1, code := prog_7_method_5_code, exceptionTable := #[], attributes := #[] }
def k15m1 : Method := { name := "id", desc := "()J", sig := { parameters := [], returnType := some .long }, accessFlags := 1, code := some k15c1 }
def k15c2 : Code := { maxStack := 1, maxLocals := 1, code := prog_7_method_6_code, exceptionTable := #[], attributes := #[] }
def k15m2 : Method := { name := "effectiveTime", desc := "()I", sig := { parameters := [], returnType := some .int }, accessFlags := 1, code := some k15c2 }
def k15c3 : Code := { maxStack := 1, maxLocals := 1, code := prog_7_method_7_code, exceptionTable := #[], attributes := #[] }
def k15m3 : Method := { name := "active", desc := "()Z", sig := { parameters := [], returnType := some .boolean }, accessFlags := 1, code := some k15c3 }
def k15c4 : Code := { maxStack := 2, maxLocals := 1, code := prog_7_method_8_code, exceptionTable := #[], attributes := #[] }
def k15m4 : Method := { name := "moduleId", desc := "()J", sig := { parameters := [], returnType := some .long }, accessFlags := 1, code := some k15c4 }
def k15c5 : Code := { maxStack := 2, maxLocals := 1, code := prog_7_method_9_code, exceptionTable := #[], attributes := #[] }
def k15m5 : Method := { name := "definitionStatusId", desc := "()J", sig := { parameters := [], returnType := some .long }, accessFlags := 1, code := some k15c5 }
/-- com/example/conceptary/conceptary/Concept -/
def k15 : Class := { plain "com/example/conceptary/conceptary/Concept" (some 14) with
  accessFlags := 48
  interfaces := #[]
  cf := some (fileOf pool15 8 #[] #[{ accessFlags := 0, nameIndex := 5, descriptorIndex := 43, attributes := #[] }, { accessFlags := 1, nameIndex := 11, descriptorIndex := 50, attributes := #[] }, { accessFlags := 1, nameIndex := 15, descriptorIndex := 48, attributes := #[] }, { accessFlags := 1, nameIndex := 19, descriptorIndex := 51, attributes := #[] }, { accessFlags := 1, nameIndex := 23, descriptorIndex := 50, attributes := #[] }, { accessFlags := 1, nameIndex := 26, descriptorIndex := 50, attributes := #[] }] 48 2 #[] #[{ accessFlags := 18, nameIndex := 11, descriptorIndex := 12, attributes := #[] }, { accessFlags := 18, nameIndex := 15, descriptorIndex := 16, attributes := #[] }, { accessFlags := 18, nameIndex := 19, descriptorIndex := 20, attributes := #[] }, { accessFlags := 18, nameIndex := 23, descriptorIndex := 12, attributes := #[] }, { accessFlags := 18, nameIndex := 26, descriptorIndex := 12, attributes := #[] }, { accessFlags := 24, nameIndex := 39, descriptorIndex := 12, attributes := #[] }])
  fields := #[{ name := "id", type := .long, accessFlags := 18, slot := 0, constantValue := 0 }, { name := "effectiveTime", type := .int, accessFlags := 18, slot := 1, constantValue := 0 }, { name := "active", type := .boolean, accessFlags := 18, slot := 2, constantValue := 0 }, { name := "moduleId", type := .long, accessFlags := 18, slot := 3, constantValue := 0 }, { name := "definitionStatusId", type := .long, accessFlags := 18, slot := 4, constantValue := 0 }, { name := "DEFINED", type := .long, accessFlags := 24, slot := 0, constantValue := 0 }]
  methods := #[k15m0, k15m1, k15m2, k15m3, k15m4, k15m5]
  instanceTypes := #[.long, .int, .boolean, .long, .long]
  staticTypes := #[.long]
  resolved := Array.replicate 76 none
  statics := none }

/-- the primitive boolean -/
def k16 : Class := { plain "boolean" none with kind := .primitive 'Z', accessFlags := 0x411 }
/-- [Z -/
def k17 : Class := { plain "[Z" (some 0) with kind := .array 16 .boolean, interfaces := #[11, 12], accessFlags := 1041 }

/-- the primitive byte -/
def k18 : Class := { plain "byte" none with kind := .primitive 'B', accessFlags := 0x411 }
/-- [B -/
def k19 : Class := { plain "[B" (some 0) with kind := .array 18 .byte, interfaces := #[11, 12], accessFlags := 1041 }

/-- the primitive int -/
def k20 : Class := { plain "int" none with kind := .primitive 'I', accessFlags := 0x411 }
/-- [I -/
def k21 : Class := { plain "[I" (some 0) with kind := .array 20 .int, interfaces := #[11, 12], accessFlags := 1041 }

/-- the primitive long -/
def k22 : Class := { plain "long" none with kind := .primitive 'J', accessFlags := 0x411 }
/-- [J -/
def k23 : Class := { plain "[J" (some 0) with kind := .array 22 .long, interfaces := #[11, 12], accessFlags := 1041 }

/-- [Ljava/lang/Object; -/
def k24 : Class := { plain "[Ljava/lang/Object;" (some 0) with kind := .array 0 (.object "java/lang/Object"), interfaces := #[11, 12], accessFlags := 1041 }

def heap : Heap := #[{ cls := 13, slots := #[.long 0, .int 0, .ref 1, .ref 2], vm := .statics 13 },
  { cls := 24, slots := #[], vm := .none },
  { cls := 24, slots := #[], vm := .none }]
def classes : Array Class := #[k0, k1, k2, k3, k4, k5, k6, k7, k8, k9, k10, k11, k12, k13, k14, k15, k16, k17, k18, k19, k20, k21, k22, k23, k24]
def interned : List (Array UInt16 × Addr) := []
def slotsUsed : Nat := 4
def theMethod : MethodId := ⟨1, 1⟩
def args0 : Array Value := #[.int 5, .long 6, .long 7, .long 8, .long 9, .long 10]
def aboutOver (below : List Frame) : State where
  vm := { classes := classes, interned := interned.toArray }
  heap := heap
  slotsUsed := slotsUsed
  threads := #[{ frames := .invoking theMethod args0 :: below }]
def below0 : List Frame := [.native { method := ⟨0, 0⟩, args := #[] }]
def about1 : State := aboutOver below0
def p0 : Program := .bare "" "" ""
def e0 : Env := launch0.env 0 0 0
theorem w_frames : about1.frames = Frame.invoking theMethod args0 :: below0 := rfl
set_option maxRecDepth 65536 in
theorem w_args : argsFit about1.vm theMethod args0 = true := by decide +kernel
set_option maxRecDepth 65536 in
theorem w_heap : heapFits about1 = true := by decide +kernel
set_option maxRecDepth 65536 in
theorem w_runnable : about1.curStatus? = some .runnable := by decide +kernel
set_option maxRecDepth 65536 in
theorem w_alone : about1.alone = true := by decide +kernel
set_option maxRecDepth 65536 in
theorem w_named : about1.methodNamed? x = some theMethod := by decide +kernel
set_option maxRecDepth 65536 in
theorem w_hears : about1.hears theMethod below0 = true := by decide +kernel
set_option maxRecDepth 65536 in
theorem w_ripe : about1.ripe theMethod args0 below0 = true := by decide +kernel
theorem w_running : about1.status = .running := rfl
set_option maxRecDepth 65536 in
theorem w_room : about1.hasRoom e0.platform room_1 = true :=
  launch0.hasRoom_least _ room_1 (by decide +kernel) (by decide +kernel) (by decide +kernel) (by decide +kernel) (by decide +kernel) (by decide +kernel)
theorem allAtoms_all (ts : List Jvm.Cond) (a : Array Jvm.Value) (st : Jvm.State) : (allAtoms ts).before a st = ts.all (fun c => c.before a st) := by
  induction ts with
  | nil => rfl
  | cons c t ih =>
    show (Jvm.Cond.and c (allAtoms t)).before a st = _
    rw [Jvm.Cond.before_and, ih, List.all_cons]
def words1 : List Jvm.Cond := Jvm.Cond.code x code maxLocals ret :: tables_1
/-- a 'code' word, met by the world's own term for the bytes: nothing is compared byte by byte -/
theorem code_word {y : MethodName} {bytes : ByteArray} {mx : Nat} {rt : Option FieldType} {a : Array Value} {s : State} {m : MethodId} {meth : Method} {c : Code} (h1 : s.methodNamed? y = some m) (h2 : s.vm.method? m = some meth) (h3 : meth.code = some c) (h4 : c.code = bytes)
    (h5 : (c.maxLocals == mx && c.exceptionTable.isEmpty && decide (c.maxStack ≤ mostOperands) && decide (meth.sig.returnType = rt) && !meth.locks && decide (parseMethodDescriptor y.desc = some meth.sig)) = true) : (Jvm.Cond.code y bytes mx rt).before a s = true := by
  simp only [Bool.and_eq_true, beq_iff_eq, Bool.not_eq_true', decide_eq_true_eq] at h5
  obtain ⟨⟨⟨⟨⟨g1, g2⟩, g3⟩, g4⟩, g5⟩, g6⟩ := h5
  simp [Cond.before, Cond.holds, Cond.value, h1, h2, h3, h4, g1, g2, g3, g4, g5, g6]
def isCode : Jvm.Cond → Bool
  | .code _ _ _ _ => true
  | _ => false
theorem all_split {L : List Jvm.Cond} {P : Jvm.Cond → Bool} (h1 : L.all (fun c => isCode c || P c) = true) (h2 : ∀ c ∈ L.filter isCode, P c = true) : L.all P = true := by
  refine List.all_eq_true.mpr fun c hc => ?_
  have h := List.all_eq_true.mp h1 c hc
  rcases Bool.eq_false_or_eq_true (isCode c) with hi | hi
  · exact h2 c (List.mem_filter.mpr ⟨hc, hi⟩)
  · simpa [hi] using h
set_option maxRecDepth 65536 in
theorem w_c0 : (Jvm.Cond.code x code maxLocals ret).before args0 about1 = true := code_word (m := ⟨1, 1⟩) (meth := k1m1) (c := k1c1) (by decide +kernel) rfl rfl rfl (by decide +kernel)
set_option maxRecDepth 65536 in
theorem w_c1 : (Jvm.Cond.code ({ cls := "com/example/conceptary/conceptary/ConceptTable$Builder", name := "<init>", desc := "()V" } : Jvm.MethodName) prog_9_method_1_code (1 : Nat) (Option.none : Option Jvm.ClassFile.FieldType)).before args0 about1 = true := code_word (m := ⟨3, 0⟩) (meth := k3m0) (c := k3c0) (by decide +kernel) rfl rfl rfl (by decide +kernel)
set_option maxRecDepth 65536 in
theorem w_c2 : (Jvm.Cond.code ({ cls := "com/example/conceptary/conceptary/SnapshotRows", name := "<init>", desc := "()V" } : Jvm.MethodName) prog_48_method_1_code (1 : Nat) (Option.none : Option Jvm.ClassFile.FieldType)).before args0 about1 = true := code_word (m := ⟨2, 0⟩) (meth := k2m0) (c := k2c0) (by decide +kernel) rfl rfl rfl (by decide +kernel)
set_option maxRecDepth 65536 in
theorem w_c3 : (Jvm.Cond.code ({ cls := "java/lang/Object", name := "<init>", desc := "()V" } : Jvm.MethodName) object_method_1_code (1 : Nat) (Option.none : Option Jvm.ClassFile.FieldType)).before args0 about1 = true := code_word (m := ⟨0, 0⟩) (meth := k0m0) (c := k0c0) (by decide +kernel) rfl rfl rfl (by decide +kernel)
set_option maxRecDepth 65536 in
theorem w_c4 : (Jvm.Cond.code ({ cls := "java/util/ArrayList", name := "<init>", desc := "()V" } : Jvm.MethodName) jdk_38_method_2_code (1 : Nat) (Option.none : Option Jvm.ClassFile.FieldType)).before args0 about1 = true := code_word (m := ⟨13, 0⟩) (meth := k13m0) (c := k13c0) (by decide +kernel) rfl rfl rfl (by decide +kernel)
set_option maxRecDepth 65536 in
theorem w_c5 : (Jvm.Cond.code ({ cls := "java/util/AbstractList", name := "<init>", desc := "()V" } : Jvm.MethodName) jdk_39_method_1_code (1 : Nat) (Option.none : Option Jvm.ClassFile.FieldType)).before args0 about1 = true := code_word (m := ⟨9, 0⟩) (meth := k9m0) (c := k9c0) (by decide +kernel) rfl rfl rfl (by decide +kernel)
set_option maxRecDepth 65536 in
theorem w_c6 : (Jvm.Cond.code ({ cls := "java/util/AbstractCollection", name := "<init>", desc := "()V" } : Jvm.MethodName) jdk_22_method_1_code (1 : Nat) (Option.none : Option Jvm.ClassFile.FieldType)).before args0 about1 = true := code_word (m := ⟨6, 0⟩) (meth := k6m0) (c := k6c0) (by decide +kernel) rfl rfl rfl (by decide +kernel)
set_option maxRecDepth 65536 in
theorem w_c7 : (Jvm.Cond.code ({ cls := "com/example/conceptary/conceptary/Concept", name := "<init>", desc := "(JIZJJ)V" } : Jvm.MethodName) prog_7_method_1_code (9 : Nat) (Option.none : Option Jvm.ClassFile.FieldType)).before args0 about1 = true := code_word (m := ⟨15, 0⟩) (meth := k15m0) (c := k15c0) (by decide +kernel) rfl rfl rfl (by decide +kernel)
set_option maxRecDepth 65536 in
theorem w_c8 : (Jvm.Cond.code ({ cls := "java/lang/Record", name := "<init>", desc := "()V" } : Jvm.MethodName) jdk_30_method_1_code (1 : Nat) (Option.none : Option Jvm.ClassFile.FieldType)).before args0 about1 = true := code_word (m := ⟨14, 0⟩) (meth := k14m0) (c := k14c0) (by decide +kernel) rfl rfl rfl (by decide +kernel)
set_option maxRecDepth 65536 in
theorem w_c9 : (Jvm.Cond.code ({ cls := "com/example/conceptary/conceptary/ConceptTable$Builder", name := "add", desc := "(Lcom/example/conceptary/conceptary/Concept;I)V" } : Jvm.MethodName) prog_9_method_2_code (4 : Nat) (Option.none : Option Jvm.ClassFile.FieldType)).before args0 about1 = true := code_word (m := ⟨3, 1⟩) (meth := k3m1) (c := k3c1) (by decide +kernel) rfl rfl rfl (by decide +kernel)
set_option maxRecDepth 65536 in
theorem w_c10 : (Jvm.Cond.code ({ cls := "com/example/conceptary/conceptary/Concept", name := "effectiveTime", desc := "()I" } : Jvm.MethodName) prog_7_method_6_code (1 : Nat) (Option.some Jvm.ClassFile.FieldType.int)).before args0 about1 = true := code_word (m := ⟨15, 2⟩) (meth := k15m2) (c := k15c2) (by decide +kernel) rfl rfl rfl (by decide +kernel)
set_option maxRecDepth 65536 in
theorem w_c11 : (Jvm.Cond.code ({ cls := "com/example/conceptary/conceptary/SnapshotRows", name := "addRow", desc := "(II)I" } : Jvm.MethodName) prog_48_method_3_code (4 : Nat) (Option.some Jvm.ClassFile.FieldType.int)).before args0 about1 = true := code_word (m := ⟨2, 1⟩) (meth := k2m1) (c := k2c1) (by decide +kernel) rfl rfl rfl (by decide +kernel)
set_option maxRecDepth 65536 in
theorem w_c12 : (Jvm.Cond.code ({ cls := "java/util/ArrayList", name := "size", desc := "()I" } : Jvm.MethodName) jdk_38_method_8_code (1 : Nat) (Option.some Jvm.ClassFile.FieldType.int)).before args0 about1 = true := code_word (m := ⟨13, 1⟩) (meth := k13m1) (c := k13c1) (by decide +kernel) rfl rfl rfl (by decide +kernel)
set_option maxRecDepth 65536 in
theorem w_c13 : (Jvm.Cond.code ({ cls := "com/example/conceptary/conceptary/Concept", name := "id", desc := "()J" } : Jvm.MethodName) prog_7_method_5_code (1 : Nat) (Option.some Jvm.ClassFile.FieldType.long)).before args0 about1 = true := code_word (m := ⟨15, 1⟩) (meth := k15m1) (c := k15c1) (by decide +kernel) rfl rfl rfl (by decide +kernel)
set_option maxRecDepth 65536 in
theorem w_c14 : (Jvm.Cond.code ({ cls := "com/example/conceptary/conceptary/Concept", name := "active", desc := "()Z" } : Jvm.MethodName) prog_7_method_7_code (1 : Nat) (Option.some Jvm.ClassFile.FieldType.boolean)).before args0 about1 = true := code_word (m := ⟨15, 3⟩) (meth := k15m3) (c := k15c3) (by decide +kernel) rfl rfl rfl (by decide +kernel)
set_option maxRecDepth 65536 in
theorem w_c15 : (Jvm.Cond.code ({ cls := "com/example/conceptary/conceptary/Concept", name := "moduleId", desc := "()J" } : Jvm.MethodName) prog_7_method_8_code (1 : Nat) (Option.some Jvm.ClassFile.FieldType.long)).before args0 about1 = true := code_word (m := ⟨15, 4⟩) (meth := k15m4) (c := k15c4) (by decide +kernel) rfl rfl rfl (by decide +kernel)
set_option maxRecDepth 65536 in
theorem w_c16 : (Jvm.Cond.code ({ cls := "com/example/conceptary/conceptary/Concept", name := "definitionStatusId", desc := "()J" } : Jvm.MethodName) prog_7_method_9_code (1 : Nat) (Option.some Jvm.ClassFile.FieldType.long)).before args0 about1 = true := code_word (m := ⟨15, 5⟩) (meth := k15m5) (c := k15c5) (by decide +kernel) rfl rfl rfl (by decide +kernel)
set_option maxRecDepth 65536 in
theorem w_c17 : (Jvm.Cond.code ({ cls := "com/example/conceptary/conceptary/ConceptTable$Builder", name := "sameValues", desc := "(II)Z" } : Jvm.MethodName) prog_9_method_6_code (3 : Nat) (Option.some Jvm.ClassFile.FieldType.boolean)).before args0 about1 = true := code_word (m := ⟨3, 2⟩) (meth := k3m2) (c := k3c2) (by decide +kernel) rfl rfl rfl (by decide +kernel)
def codes1 : List Jvm.Cond := [Jvm.Cond.code x code maxLocals ret, Jvm.Cond.code ({ cls := "com/example/conceptary/conceptary/ConceptTable$Builder", name := "<init>", desc := "()V" } : Jvm.MethodName) prog_9_method_1_code (1 : Nat) (Option.none : Option Jvm.ClassFile.FieldType), Jvm.Cond.code ({ cls := "com/example/conceptary/conceptary/SnapshotRows", name := "<init>", desc := "()V" } : Jvm.MethodName) prog_48_method_1_code (1 : Nat) (Option.none : Option Jvm.ClassFile.FieldType), Jvm.Cond.code ({ cls := "java/lang/Object", name := "<init>", desc := "()V" } : Jvm.MethodName) object_method_1_code (1 : Nat) (Option.none : Option Jvm.ClassFile.FieldType), Jvm.Cond.code ({ cls := "java/util/ArrayList", name := "<init>", desc := "()V" } : Jvm.MethodName) jdk_38_method_2_code (1 : Nat) (Option.none : Option Jvm.ClassFile.FieldType), Jvm.Cond.code ({ cls := "java/util/AbstractList", name := "<init>", desc := "()V" } : Jvm.MethodName) jdk_39_method_1_code (1 : Nat) (Option.none : Option Jvm.ClassFile.FieldType), Jvm.Cond.code ({ cls := "java/util/AbstractCollection", name := "<init>", desc := "()V" } : Jvm.MethodName) jdk_22_method_1_code (1 : Nat) (Option.none : Option Jvm.ClassFile.FieldType), Jvm.Cond.code ({ cls := "com/example/conceptary/conceptary/Concept", name := "<init>", desc := "(JIZJJ)V" } : Jvm.MethodName) prog_7_method_1_code (9 : Nat) (Option.none : Option Jvm.ClassFile.FieldType), Jvm.Cond.code ({ cls := "java/lang/Record", name := "<init>", desc := "()V" } : Jvm.MethodName) jdk_30_method_1_code (1 : Nat) (Option.none : Option Jvm.ClassFile.FieldType), Jvm.Cond.code ({ cls := "com/example/conceptary/conceptary/ConceptTable$Builder", name := "add", desc := "(Lcom/example/conceptary/conceptary/Concept;I)V" } : Jvm.MethodName) prog_9_method_2_code (4 : Nat) (Option.none : Option Jvm.ClassFile.FieldType), Jvm.Cond.code ({ cls := "com/example/conceptary/conceptary/Concept", name := "effectiveTime", desc := "()I" } : Jvm.MethodName) prog_7_method_6_code (1 : Nat) (Option.some Jvm.ClassFile.FieldType.int), Jvm.Cond.code ({ cls := "com/example/conceptary/conceptary/SnapshotRows", name := "addRow", desc := "(II)I" } : Jvm.MethodName) prog_48_method_3_code (4 : Nat) (Option.some Jvm.ClassFile.FieldType.int), Jvm.Cond.code ({ cls := "java/util/ArrayList", name := "size", desc := "()I" } : Jvm.MethodName) jdk_38_method_8_code (1 : Nat) (Option.some Jvm.ClassFile.FieldType.int), Jvm.Cond.code ({ cls := "com/example/conceptary/conceptary/Concept", name := "id", desc := "()J" } : Jvm.MethodName) prog_7_method_5_code (1 : Nat) (Option.some Jvm.ClassFile.FieldType.long), Jvm.Cond.code ({ cls := "com/example/conceptary/conceptary/Concept", name := "active", desc := "()Z" } : Jvm.MethodName) prog_7_method_7_code (1 : Nat) (Option.some Jvm.ClassFile.FieldType.boolean), Jvm.Cond.code ({ cls := "com/example/conceptary/conceptary/Concept", name := "moduleId", desc := "()J" } : Jvm.MethodName) prog_7_method_8_code (1 : Nat) (Option.some Jvm.ClassFile.FieldType.long), Jvm.Cond.code ({ cls := "com/example/conceptary/conceptary/Concept", name := "definitionStatusId", desc := "()J" } : Jvm.MethodName) prog_7_method_9_code (1 : Nat) (Option.some Jvm.ClassFile.FieldType.long), Jvm.Cond.code ({ cls := "com/example/conceptary/conceptary/ConceptTable$Builder", name := "sameValues", desc := "(II)Z" } : Jvm.MethodName) prog_9_method_6_code (3 : Nat) (Option.some Jvm.ClassFile.FieldType.boolean)]
set_option maxRecDepth 65536 in
theorem codes_eq : words1.filter isCode = codes1 := rfl
theorem w_codes : ∀ c ∈ words1.filter isCode, c.before args0 about1 = true := by
  rw [codes_eq]
  intro c hc
  simp only [codes1, List.mem_cons, List.not_mem_nil, or_false] at hc
  rcases hc with rfl | rfl | rfl | rfl | rfl | rfl | rfl | rfl | rfl | rfl | rfl | rfl | rfl | rfl | rfl | rfl | rfl | rfl
  · exact w_c0
  · exact w_c1
  · exact w_c2
  · exact w_c3
  · exact w_c4
  · exact w_c5
  · exact w_c6
  · exact w_c7
  · exact w_c8
  · exact w_c9
  · exact w_c10
  · exact w_c11
  · exact w_c12
  · exact w_c13
  · exact w_c14
  · exact w_c15
  · exact w_c16
  · exact w_c17
set_option maxRecDepth 65536 in
theorem w_t1 : (words1.take 24).all (fun c => isCode c || c.before args0 about1) = true := by decide +kernel
set_option maxRecDepth 65536 in
theorem w_t2 : ((words1.drop 24).take 24).all (fun c => isCode c || c.before args0 about1) = true := by decide +kernel
set_option maxRecDepth 65536 in
theorem w_t3 : (((words1.drop 24).drop 24).take 24).all (fun c => isCode c || c.before args0 about1) = true := by decide +kernel
set_option maxRecDepth 65536 in
theorem w_t4 : ((((words1.drop 24).drop 24).drop 24).take 24).all (fun c => isCode c || c.before args0 about1) = true := by decide +kernel
set_option maxRecDepth 65536 in
theorem w_t5 : (((((words1.drop 24).drop 24).drop 24).drop 24).take 24).all (fun c => isCode c || c.before args0 about1) = true := by decide +kernel
set_option maxRecDepth 65536 in
theorem w_t6 : (((((words1.drop 24).drop 24).drop 24).drop 24).drop 24).all (fun c => isCode c || c.before args0 about1) = true := by decide +kernel
theorem w_tables : (allAtoms (Jvm.Cond.code x code maxLocals ret :: tables_1)).before args0 about1 = true := by
  rw [allAtoms_all]
  show words1.all (fun c => c.before args0 about1) = true
  refine all_split ?_ w_codes
  rw [← List.take_append_drop 24 words1, List.all_append, w_t1, ← List.take_append_drop 24 (words1.drop 24), List.all_append, w_t2, ← List.take_append_drop 24 ((words1.drop 24).drop 24), List.all_append, w_t3, ← List.take_append_drop 24 (((words1.drop 24).drop 24).drop 24), List.all_append, w_t4, ← List.take_append_drop 24 ((((words1.drop 24).drop 24).drop 24).drop 24), List.all_append, w_t5, w_t6]
  rfl
set_option maxRecDepth 65536 in
theorem w_rest : rest_1_c.before args0 about1 = true := by decide +kernel
set_option maxRecDepth 65536 in
theorem w_case : (Jvm.Cond.and given_1 narrow_1).before args0 about1 = true := by decide +kernel
theorem w_applies : (headSpec (Jvm.Cond.code x code maxLocals ret :: tables_1) room_1).applies x e0.platform about1 = true :=
  (Spec.applies_iff w_frames).mpr ⟨w_running, w_runnable, w_alone, w_named, w_hears, w_ripe, w_room, w_tables⟩
theorem atStart : AtStart classFile x code maxLocals ret World_1 tables_1 room_1 Calls_1 rest_1 Pre_1 launch0 p0 e0 about1 theMethod args0 below0 :=
  ⟨lists_1, trivial, launch0.admits_env _ _ _, launch0.least_env, fairChoices_fair.cas, fairChoices_fair.clock, w_frames, w_args, w_heap, w_applies, trivial, w_rest, w_case⟩
end start1
theorem witness_1 : WitnessClaimed_1 := ⟨start1.p0, start1.e0, start1.about1, start1.theMethod, start1.args0, start1.below0, start1.atStart⟩
end Jvm.Pilot.@@N@@
