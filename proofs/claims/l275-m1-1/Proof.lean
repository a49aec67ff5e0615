import JvmDerived
import JvmDerived.Pilot.@@N@@Statement
import JvmDerived.Pilot.@@N@@Code
set_option linter.unusedVariables false
set_option linter.unusedSimpArgs false
namespace Jvm.Pilot.@@N@@
open Jvm Jvm.ClassFile Sem Op Lib Jvm.Free Jvm.Stand Jvm.LawKit Jvm.RoadKit Bundle Jvm.Pilot.@@N@@.Jvm.D

def AI (Z : State) (h : Heap) (a : Addr) (ty : FieldType) (z : Int32) (f : Nat → Int32) : Prop := ∃ c : Cell, Arr Z h a c ty ∧ c.slots.size = z.toNatClampNeg ∧ ¬ z < 0 ∧ ∀ i, i < c.slots.size → c.slots[i]? = some (.int (f i))
def AL (Z : State) (h : Heap) (a : Addr) (z : Int32) (f : Nat → Int64) : Prop := ∃ c : Cell, Arr Z h a c .long ∧ c.slots.size = z.toNatClampNeg ∧ ¬ z < 0 ∧ ∀ i, i < c.slots.size → c.slots[i]? = some (.long (f i))
section Own
variable {Z : State} {h h' : Heap} {a b : Addr} {k : ClassId} {ty : FieldType} {z : Int32} {f : Nat → Int32} {fl : Nat → Int64} {sl : Nat} {v : Value} {ws : List Addr}
theorem AI.lt (F : AI Z h a ty z f) : a < h.size := by obtain ⟨c, A, -⟩ := F; exact A.lt
theorem AL.lt (F : AL Z h a z fl) : a < h.size := by obtain ⟨c, A, -⟩ := F; exact A.lt
theorem AI.ext (F : AI Z h a ty z f) (E : Ext h h') : AI Z h' a ty z f := by obtain ⟨c, A, r⟩ := F; exact ⟨c, A.ext E, r⟩
theorem AL.ext (F : AL Z h a z fl) (E : Ext h h') : AL Z h' a z fl := by obtain ⟨c, A, r⟩ := F; exact ⟨c, A.ext E, r⟩
theorem AI.other (F : AI Z h b ty z f) (W : Wr h h' a sl v) (q : b ≠ a) : AI Z h' b ty z f := by obtain ⟨c, A, r⟩ := F; exact ⟨c, A.other W q, r⟩
theorem AL.other (F : AL Z h b z fl) (W : Wr h h' a sl v) (q : b ≠ a) : AL Z h' b z fl := by obtain ⟨c, A, r⟩ := F; exact ⟨c, A.other W q, r⟩
theorem AI.keep (F : AI Z h a ty z f) (K : Keep h h' ws) (q : a ∉ ws) : AI Z h' a ty z f := by obtain ⟨c, A, r⟩ := F; exact ⟨c, ⟨K.2.1 a c A.1 q, A.2⟩, r⟩
theorem AL.keep (F : AL Z h a z fl) (K : Keep h h' ws) (q : a ∉ ws) : AL Z h' a z fl := by obtain ⟨c, A, r⟩ := F; exact ⟨c, ⟨K.2.1 a c A.1 q, A.2⟩, r⟩
theorem AI.new (hd : defaultValue ty = .int 0) (A : Arr Z h a (newA k ty z) ty) (q : ¬ z < 0) : AI Z h a ty z (fun _ => (0 : Int32)) := ⟨_, A, by simp [newA], q, fun i hi => by
  have hi' : i < z.toNatClampNeg := by simpa [newA] using hi
  simp [newA, hi', hd]⟩
theorem AL.new (A : Arr Z h a (newA k .long z) .long) (q : ¬ z < 0) : AL Z h a z (fun _ => (0 : Int64)) := ⟨_, A, by simp [newA], q, fun i hi => by
  have hi' : i < z.toNatClampNeg := by simpa [newA] using hi
  simp [newA, hi', defaultValue]⟩
theorem AI.set {j : Nat} {x : Int32} (F : AI Z h a ty z f) (W : Wr h h' a j (.int x)) : AI Z h' a ty z (fun i => if i = j then x else f i) := by
  obtain ⟨c, A, S, q, H⟩ := F
  refine ⟨_, A.same W, by simpa [Cell.setSlot] using S, q, fun i hi => ?_⟩
  have hi' : i < c.slots.size := by simpa [Cell.setSlot] using hi
  by_cases e : i = j
  · subst e; simp [Cell.setSlot, hi']
  · have e' : ¬ j = i := fun q => e q.symm
    simp only [Cell.setSlot, if_neg e]; rw [Array.getElem?_setIfInBounds_ne e']; exact H i hi'
theorem AL.set {j : Nat} {x : Int64} (F : AL Z h a z fl) (W : Wr h h' a j (.long x)) : AL Z h' a z (fun i => if i = j then x else fl i) := by
  obtain ⟨c, A, S, q, H⟩ := F
  refine ⟨_, A.same W, by simpa [Cell.setSlot] using S, q, fun i hi => ?_⟩
  have hi' : i < c.slots.size := by simpa [Cell.setSlot] using hi
  by_cases e : i = j
  · subst e; simp [Cell.setSlot, hi']
  · have e' : ¬ j = i := fun q => e q.symm
    simp only [Cell.setSlot, if_neg e]; rw [Array.getElem?_setIfInBounds_ne e']; exact H i hi'
end Own
def own_cs (f : Nat → Int64) (i j : Nat) : Nat → Int64 := if f j < f i then (fun k => if k = j then f i else (fun k => if k = i then f j else f k) k) else f
def own_bits (x : Int32) : List Nat := (if (x &&& (1 : Int32)) = (0 : Int32) then [] else [0]) ++ ((if (x &&& (2 : Int32)) = (0 : Int32) then [] else [1]) ++ ((if (x &&& (4 : Int32)) = (0 : Int32) then [] else [2]) ++ (if (x &&& (8 : Int32)) = (0 : Int32) then [] else [3])))
theorem own_16 {x : Int32} (h : ¬ x < (0 : Int32) ∧ ¬ (15 : Int32) < x) : x = (0 : Int32) ∨ x = (1 : Int32) ∨ x = (2 : Int32) ∨ x = (3 : Int32) ∨ x = (4 : Int32) ∨ x = (5 : Int32) ∨ x = (6 : Int32) ∨ x = (7 : Int32) ∨ x = (8 : Int32) ∨ x = (9 : Int32) ∨ x = (10 : Int32) ∨ x = (11 : Int32) ∨ x = (12 : Int32) ∨ x = (13 : Int32) ∨ x = (14 : Int32) ∨ x = (15 : Int32) := by
  have h0 := h.1
  have h1 := h.2
  rw [Int32.lt_iff_toInt_lt] at h0 h1
  have e0 : (0 : Int32).toInt = 0 := by decide
  have e15 : (15 : Int32).toInt = 15 := by decide
  have hn : ∀ n : Fin 16, (Int32.ofNat n.1 = (0 : Int32) ∨ Int32.ofNat n.1 = (1 : Int32) ∨ Int32.ofNat n.1 = (2 : Int32) ∨ Int32.ofNat n.1 = (3 : Int32) ∨ Int32.ofNat n.1 = (4 : Int32) ∨ Int32.ofNat n.1 = (5 : Int32) ∨ Int32.ofNat n.1 = (6 : Int32) ∨ Int32.ofNat n.1 = (7 : Int32) ∨ Int32.ofNat n.1 = (8 : Int32) ∨ Int32.ofNat n.1 = (9 : Int32) ∨ Int32.ofNat n.1 = (10 : Int32) ∨ Int32.ofNat n.1 = (11 : Int32) ∨ Int32.ofNat n.1 = (12 : Int32) ∨ Int32.ofNat n.1 = (13 : Int32) ∨ Int32.ofNat n.1 = (14 : Int32) ∨ Int32.ofNat n.1 = (15 : Int32)) := by decide +kernel
  have e : Int32.ofNat x.toInt.toNat = x := Int32.toInt_inj.mp (by rw [Int32.toInt_ofNat_of_lt (by omega)]; omega)
  have q := hn ⟨x.toInt.toNat, by omega⟩
  simp only [e] at q
  exact q
theorem own_m15 (x : Int32) : ¬ (x &&& (15 : Int32)) < (0 : Int32) ∧ ¬ (15 : Int32) < (x &&& (15 : Int32)) := by
  have a := c_mask x 15 4 (by decide) (by decide)
  have e0 : (0 : Int32).toInt = 0 := by decide
  have e3 : (15 : Int32).toInt = 15 := by decide
  rw [Int32.lt_iff_toInt_lt, Int32.lt_iff_toInt_lt]
  omega
theorem own_ix {x : Int32} {j : Nat} (h : x.toInt = (j : Int)) : x.toNatClampNeg = j := by
  have q : (x.toNatClampNeg : Int) = x.toInt := by rw [← Int32.toNat_toInt]; omega
  omega
theorem d1_0 : decode method_3_code 0 = .ok (.aload_n 0, 1) := by decide +kernel
theorem d1_1 : decode method_3_code 1 = .ok (.iload_n 1, 1) := by decide +kernel
theorem d1_2 : decode method_3_code 2 = .ok (.laload, 1) := by decide +kernel
theorem d1_3 : decode method_3_code 3 = .ok (.aload_n 0, 1) := by decide +kernel
theorem d1_4 : decode method_3_code 4 = .ok (.iload_n 2, 1) := by decide +kernel
theorem d1_5 : decode method_3_code 5 = .ok (.laload, 1) := by decide +kernel
theorem d1_6 : decode method_3_code 6 = .ok (.lcmp, 1) := by decide +kernel
theorem d1_7 : decode method_3_code 7 = .ok (.ifCond .le 17, 3) := by decide +kernel
theorem d1_10 : decode method_3_code 10 = .ok (.aload_n 0, 1) := by decide +kernel
theorem d1_11 : decode method_3_code 11 = .ok (.iload_n 1, 1) := by decide +kernel
theorem d1_12 : decode method_3_code 12 = .ok (.laload, 1) := by decide +kernel
theorem d1_13 : decode method_3_code 13 = .ok (.lstore_n 3, 1) := by decide +kernel
theorem d1_14 : decode method_3_code 14 = .ok (.aload_n 0, 1) := by decide +kernel
theorem d1_15 : decode method_3_code 15 = .ok (.iload_n 1, 1) := by decide +kernel
theorem d1_16 : decode method_3_code 16 = .ok (.aload_n 0, 1) := by decide +kernel
theorem d1_17 : decode method_3_code 17 = .ok (.iload_n 2, 1) := by decide +kernel
theorem d1_18 : decode method_3_code 18 = .ok (.laload, 1) := by decide +kernel
theorem d1_19 : decode method_3_code 19 = .ok (.lastore, 1) := by decide +kernel
theorem d1_20 : decode method_3_code 20 = .ok (.aload_n 0, 1) := by decide +kernel
theorem d1_21 : decode method_3_code 21 = .ok (.iload_n 2, 1) := by decide +kernel
theorem d1_22 : decode method_3_code 22 = .ok (.lload_n 3, 1) := by decide +kernel
theorem d1_23 : decode method_3_code 23 = .ok (.lastore, 1) := by decide +kernel
theorem d1_24 : decode method_3_code 24 = .ok (.return_, 1) := by decide +kernel
theorem pn_1 : plainName "com/example/honeybee/honeybee/calculus/ClauseIsSubsetPinLaw" = true := by first | (simp [plainName, overriddenIn]; done) | decide +kernel
theorem ef_1 (m : MethodId) (r0 : Addr) (p1 : Int32) (p2 : Int32) : entryFrame m #[(.ref r0), (.int p1), (.int p2)] 5 = mkF m 0 #[.val (.ref r0), .val (.int p1), .val (.int p2), .unset, .unset] [] := by first | (simp [entryFrame, mkF, argsToLocals, Value.category]; done) | rfl
def Q1 (Z : State) (r0 : Addr) (p1 : Int32) (p2 : Int32) (f : Nat → Int64) (h0 : Heap) (n0 : Nat) (v : Option Value) (h : Heap) (L : List Loc) : Prop := ∃ g : Nat → Int64, v = none ∧ Fr n0 L ∧ Keep h0 h [r0] ∧ AL Z h r0 (4 : Int32) g ∧ g = own_cs f (p1).toNatClampNeg (p2).toNatClampNeg
set_option maxRecDepth 65536 in
set_option maxHeartbeats 40000000 in
theorem rm1 (l : Launch) (Z : State) (a0 : Array Value) (hw : ∀ d ∈ tables_1, d.before a0 Z = true) (ws : List Jvm.Cond) (r0 : Addr) (p1 : Int32) (p2 : Int32) (f : Nat → Int64) (h0 : Heap) (n0 : Nat) (Z0 : n0 ≤ h0.size) (hp0 : AL Z h0 r0 (4 : Int32) f) (hp1 : n0 ≤ r0) (hbd : (¬ p1 < (0 : Int32) ∧ p1 < (4 : Int32)) ∧ (¬ p2 < (0 : Int32) ∧ p2 < (4 : Int32))) :
    MetFree l (⟨"com/example/honeybee/honeybee/calculus/ClauseIsSubsetPinLaw", "cs", "([JII)V"⟩ : MethodName) (head1 (Jvm.Cond.code (⟨"com/example/honeybee/honeybee/calculus/ClauseIsSubsetPinLaw", "cs", "([JII)V"⟩ : MethodName) method_3_code 5 none :: ws) ({ frames := 0, cells := 0, slots := 0, locals := 0 } : Room)) (fun a U => a = #[(.ref r0), (.int p1), (.int p2)] ∧ Z.Warmed39 U.vm ∧ U.heap = h0) (fun _ _ _ _ _ => True) (fun _ U o U' => ∃ v L, o = .returned v ∧ Q1 Z r0 p1 p2 f h0 n0 v U'.heap L ∧ FrameEnd U o U' L ({ frames := 0, cells := 0, slots := 0, locals := 0 } : Room).cells ({ frames := 0, cells := 0, slots := 0, locals := 0 } : Room).slots) := by
  refine MetFree.of_bodySF (plainFor_of_name pn_1) hisR ?_
  intro p e s m args below meth c s₁ Bd hml0 hP hK
  obtain ⟨rfl, hZ, hh⟩ := hP
  have hx := Bd.exec
  have hby := Bd.bytes
  have hml : c.maxLocals = 5 := hml0
  have hown : s.vm.findClass "com/example/honeybee/honeybee/calculus/ClauseIsSubsetPinLaw" = some m.cls := findClass_of_methodNamed Bd.named
  have hnm := (name_of_methodNamed Bd.named Bd.method).1
  have X0 : Stand p l e ({ frames := 0, cells := 0, slots := 0, locals := 0 } : Room) s m #[(.ref r0), (.int p1), (.int p2)] below meth c s₁ [] 0 0 := Stand.of_body Bd
  have e0 : s₁.heap = h0 := by rw [← hh, Bd.state]; rfl
  have N0 := Fr.nil n0
  have pre0 : ∀ t, Steps p.tables e below (s₁.setTop (mkF m 0 #[.val (.ref r0), .val (.int p1), .val (.int p2), .unset, .unset] [])) t → Steps p.tables e below (s₁.setTop (entryFrame m #[(.ref r0), (.int p1), (.int p2)] 5)) t := fun t k => castTop (ef_1 m r0 p1 p2) k
  obtain ⟨cl11, Ar11, S11, M11, I11⟩ := id hp0
  have hin11 : ¬ (p1 < 0 ∨ cl11.slots.size ≤ (p1).toNatClampNeg) := inb_of S11 hbd.1
  have hat11 : cl11.slots[(p1).toNatClampNeg]? = some (.long (f (p1).toNatClampNeg)) := I11 _ (Nat.lt_of_not_le fun y => hin11 (Or.inr y))
  obtain ⟨cl12, Ar12, S12, M12, I12⟩ := id hp0
  have hin12 : ¬ (p2 < 0 ∨ cl12.slots.size ≤ (p2).toNatClampNeg) := inb_of S12 hbd.2
  have hat12 : cl12.slots[(p2).toNatClampNeg]? = some (.long (f (p2).toNatClampNeg)) := I12 _ (Nat.lt_of_not_le fun y => hin12 (Or.inr y))
  have pre13 : ∀ t, Steps p.tables e below (s₁.setTop (mkF m 7 #[.val (.ref r0), .val (.int p1), .val (.int p2), .unset, .unset] [(.int (lcmpW (f (p1).toNatClampNeg) (f (p2).toNatClampNeg)))])) t → Steps p.tables e below (s₁.setTop (entryFrame m #[(.ref r0), (.int p1), (.int p2)] 5)) t := fun t k => pre0 t (by
    refine XS.aloadN X0.here hx rfl (hb hby d1_0) rfl rfl ?_
    show Steps p.tables e below (s₁.setTop (mkF m 1 #[.val (.ref r0), .val (.int p1), .val (.int p2), .unset, .unset] [(.ref r0)])) _
    refine XS.iloadN X0.here hx rfl (hb hby d1_1) rfl ?_
    show Steps p.tables e below (s₁.setTop (mkF m 2 #[.val (.ref r0), .val (.int p1), .val (.int p2), .unset, .unset] [(.int p1), (.ref r0)])) _
    refine X0.laload hx (j := p1) (v := (.long (f (p1).toNatClampNeg))) (by rw [e0]; exact Ar11.1) (State.isArrayOf_alike hZ.alike Ar11.2.1) Ar11.2.2 hin11 hat11 (g := (mkF m 2 #[.val (.ref r0), .val (.int p1), .val (.int p2), .unset, .unset] [(.int p1), (.ref r0)])) rfl rfl (hb hby d1_2) _ ?_
    show Steps p.tables e below (s₁.setTop (mkF m 3 #[.val (.ref r0), .val (.int p1), .val (.int p2), .unset, .unset] [(.long (f (p1).toNatClampNeg))])) _
    refine XS.aloadN X0.here hx rfl (hb hby d1_3) rfl rfl ?_
    show Steps p.tables e below (s₁.setTop (mkF m 4 #[.val (.ref r0), .val (.int p1), .val (.int p2), .unset, .unset] [(.ref r0), (.long (f (p1).toNatClampNeg))])) _
    refine XS.iloadN X0.here hx rfl (hb hby d1_4) rfl ?_
    show Steps p.tables e below (s₁.setTop (mkF m 5 #[.val (.ref r0), .val (.int p1), .val (.int p2), .unset, .unset] [(.int p2), (.ref r0), (.long (f (p1).toNatClampNeg))])) _
    refine X0.laload hx (j := p2) (v := (.long (f (p2).toNatClampNeg))) (by rw [e0]; exact Ar12.1) (State.isArrayOf_alike hZ.alike Ar12.2.1) Ar12.2.2 hin12 hat12 (g := (mkF m 5 #[.val (.ref r0), .val (.int p1), .val (.int p2), .unset, .unset] [(.int p2), (.ref r0), (.long (f (p1).toNatClampNeg))])) rfl rfl (hb hby d1_5) _ ?_
    show Steps p.tables e below (s₁.setTop (mkF m 6 #[.val (.ref r0), .val (.int p1), .val (.int p2), .unset, .unset] [(.long (f (p2).toNatClampNeg)), (.long (f (p1).toNatClampNeg))])) _
    refine XS.lcmp X0.here hx rfl (hb hby d1_6) rfl ?_
    exact k)
  by_cases hc14 : (f (p2).toNatClampNeg) < (f (p1).toNatClampNeg)
  · obtain ⟨cl15, Ar15, S15, M15, I15⟩ := id hp0
    have hin15 : ¬ (p1 < 0 ∨ cl15.slots.size ≤ (p1).toNatClampNeg) := inb_of S15 hbd.1
    have hat15 : cl15.slots[(p1).toNatClampNeg]? = some (.long (f (p1).toNatClampNeg)) := I15 _ (Nat.lt_of_not_le fun y => hin15 (Or.inr y))
    obtain ⟨cl16, Ar16, S16, M16, I16⟩ := id hp0
    have hin16 : ¬ (p2 < 0 ∨ cl16.slots.size ≤ (p2).toNatClampNeg) := inb_of S16 hbd.2
    have hat16 : cl16.slots[(p2).toNatClampNeg]? = some (.long (f (p2).toNatClampNeg)) := I16 _ (Nat.lt_of_not_le fun y => hin16 (Or.inr y))
    obtain ⟨cl17, Ar17, S17, M17, I17⟩ := id hp0
    have hin17 : ¬ (p1 < 0 ∨ cl17.slots.size ≤ (p1).toNatClampNeg) := inb_of S17 hbd.1
    obtain ⟨T18, h18, X18, e18, W18, st18⟩ := stJ X0 hx hZ e0 Ar17 (j := p1) hin17 (g := (mkF m 19 #[.val (.ref r0), .val (.int p1), .val (.int p2), .val (.long (f (p1).toNatClampNeg)), .second] [(.long (f (p2).toNatClampNeg)), (.int p1), (.ref r0)])) rfl rfl (hb hby d1_19)
    have V18 : AL Z h18 r0 (4 : Int32) (fun i => if i = (p1).toNatClampNeg then (f (p2).toNatClampNeg) else f i) := AL.set hp0 W18
    have Z19 : n0 ≤ h18.size := Nat.le_trans Z0 (Keep.of_wr W18).1
    have K20 : Keep h0 h18 [r0] := (Keep.refl h0 [r0]).wr W18 (Or.inl (List.mem_of_getElem? (i := 0) rfl))
    have N18 := Fr.snoc X18 N0 hp1
    obtain ⟨cl21, Ar21, S21, M21, I21⟩ := id V18
    have hin21 : ¬ (p2 < 0 ∨ cl21.slots.size ≤ (p2).toNatClampNeg) := inb_of S21 hbd.2
    obtain ⟨T22, h22, X22, e22, W22, st22⟩ := stJ X18 hx hZ e18 Ar21 (j := p2) hin21 (g := (mkF m 23 #[.val (.ref r0), .val (.int p1), .val (.int p2), .val (.long (f (p1).toNatClampNeg)), .second] [(.long (f (p1).toNatClampNeg)), (.int p2), (.ref r0)])) rfl rfl (hb hby d1_23)
    have V22 : AL Z h22 r0 (4 : Int32) (fun i => if i = (p2).toNatClampNeg then (f (p1).toNatClampNeg) else (fun i => if i = (p1).toNatClampNeg then (f (p2).toNatClampNeg) else f i) i) := AL.set V18 W22
    have Z23 : n0 ≤ h22.size := Nat.le_trans Z19 (Keep.of_wr W22).1
    have K24 : Keep h0 h22 [r0] := K20.wr W22 (Or.inl (List.mem_of_getElem? (i := 0) rfl))
    have N22 := Fr.snoc X22 N18 hp1
    obtain ⟨fs, hr, hrun, hended, hW, hsame⟩ := X22.leave (v := none) (fun _ => rfl)
    refine ⟨_, _, pre13 _ ?_, hrun, hended, _, _, rfl, ?_, ⟨_, rfl⟩, hW, hsame.mono (by decide) (by decide)⟩
    · refine XS.ifNo X0.here hx rfl (hb hby d1_7) rfl ((if0 _ _).trans (tlt ((lw_gt (f (p1).toNatClampNeg) (f (p2).toNatClampNeg)).mpr hc14)).2.2.2) ?_
      show Steps p.tables e below (s₁.setTop (mkF m 10 #[.val (.ref r0), .val (.int p1), .val (.int p2), .unset, .unset] [])) _
      refine XS.aloadN X0.here hx rfl (hb hby d1_10) rfl rfl ?_
      show Steps p.tables e below (s₁.setTop (mkF m 11 #[.val (.ref r0), .val (.int p1), .val (.int p2), .unset, .unset] [(.ref r0)])) _
      refine XS.iloadN X0.here hx rfl (hb hby d1_11) rfl ?_
      show Steps p.tables e below (s₁.setTop (mkF m 12 #[.val (.ref r0), .val (.int p1), .val (.int p2), .unset, .unset] [(.int p1), (.ref r0)])) _
      refine X0.laload hx (j := p1) (v := (.long (f (p1).toNatClampNeg))) (by rw [e0]; exact Ar15.1) (State.isArrayOf_alike hZ.alike Ar15.2.1) Ar15.2.2 hin15 hat15 (g := (mkF m 12 #[.val (.ref r0), .val (.int p1), .val (.int p2), .unset, .unset] [(.int p1), (.ref r0)])) rfl rfl (hb hby d1_12) _ ?_
      show Steps p.tables e below (s₁.setTop (mkF m 13 #[.val (.ref r0), .val (.int p1), .val (.int p2), .unset, .unset] [(.long (f (p1).toNatClampNeg))])) _
      refine XS.lstoreN X0.here hx rfl (hb hby d1_13) rfl (l' := #[.val (.ref r0), .val (.int p1), .val (.int p2), .val (.long (f (p1).toNatClampNeg)), .second]) rfl ?_
      show Steps p.tables e below (s₁.setTop (mkF m 14 #[.val (.ref r0), .val (.int p1), .val (.int p2), .val (.long (f (p1).toNatClampNeg)), .second] [])) _
      refine XS.aloadN X0.here hx rfl (hb hby d1_14) rfl rfl ?_
      show Steps p.tables e below (s₁.setTop (mkF m 15 #[.val (.ref r0), .val (.int p1), .val (.int p2), .val (.long (f (p1).toNatClampNeg)), .second] [(.ref r0)])) _
      refine XS.iloadN X0.here hx rfl (hb hby d1_15) rfl ?_
      show Steps p.tables e below (s₁.setTop (mkF m 16 #[.val (.ref r0), .val (.int p1), .val (.int p2), .val (.long (f (p1).toNatClampNeg)), .second] [(.int p1), (.ref r0)])) _
      refine XS.aloadN X0.here hx rfl (hb hby d1_16) rfl rfl ?_
      show Steps p.tables e below (s₁.setTop (mkF m 17 #[.val (.ref r0), .val (.int p1), .val (.int p2), .val (.long (f (p1).toNatClampNeg)), .second] [(.ref r0), (.int p1), (.ref r0)])) _
      refine XS.iloadN X0.here hx rfl (hb hby d1_17) rfl ?_
      show Steps p.tables e below (s₁.setTop (mkF m 18 #[.val (.ref r0), .val (.int p1), .val (.int p2), .val (.long (f (p1).toNatClampNeg)), .second] [(.int p2), (.ref r0), (.int p1), (.ref r0)])) _
      refine X0.laload hx (j := p2) (v := (.long (f (p2).toNatClampNeg))) (by rw [e0]; exact Ar16.1) (State.isArrayOf_alike hZ.alike Ar16.2.1) Ar16.2.2 hin16 hat16 (g := (mkF m 18 #[.val (.ref r0), .val (.int p1), .val (.int p2), .val (.long (f (p1).toNatClampNeg)), .second] [(.int p2), (.ref r0), (.int p1), (.ref r0)])) rfl rfl (hb hby d1_18) _ ?_
      show Steps p.tables e below (s₁.setTop (mkF m 19 #[.val (.ref r0), .val (.int p1), .val (.int p2), .val (.long (f (p1).toNatClampNeg)), .second] [(.long (f (p2).toNatClampNeg)), (.int p1), (.ref r0)])) _
      refine st18 _ ?_
      show Steps p.tables e below (T18.setTop (mkF m 20 #[.val (.ref r0), .val (.int p1), .val (.int p2), .val (.long (f (p1).toNatClampNeg)), .second] [])) _
      refine XS.aloadN X18.here hx rfl (hb hby d1_20) rfl rfl ?_
      show Steps p.tables e below (T18.setTop (mkF m 21 #[.val (.ref r0), .val (.int p1), .val (.int p2), .val (.long (f (p1).toNatClampNeg)), .second] [(.ref r0)])) _
      refine XS.iloadN X18.here hx rfl (hb hby d1_21) rfl ?_
      show Steps p.tables e below (T18.setTop (mkF m 22 #[.val (.ref r0), .val (.int p1), .val (.int p2), .val (.long (f (p1).toNatClampNeg)), .second] [(.int p2), (.ref r0)])) _
      refine XS.lloadN X18.here hx rfl (hb hby d1_22) rfl ?_
      show Steps p.tables e below (T18.setTop (mkF m 23 #[.val (.ref r0), .val (.int p1), .val (.int p2), .val (.long (f (p1).toNatClampNeg)), .second] [(.long (f (p1).toNatClampNeg)), (.int p2), (.ref r0)])) _
      refine st22 _ ?_
      show Steps p.tables e below (T22.setTop (mkF m 24 #[.val (.ref r0), .val (.int p1), .val (.int p2), .val (.long (f (p1).toNatClampNeg)), .second] [])) _
      exact X22.returnOut hx Bd.returns (hb hby d1_24) hr
    · show Q1 Z r0 p1 p2 f h0 n0 _ T22.heap _
      rw [e22]
      refine ⟨(fun i => if i = (p2).toNatClampNeg then (f (p1).toNatClampNeg) else (fun i => if i = (p1).toNatClampNeg then (f (p2).toNatClampNeg) else f i) i), rfl, N22, K24, V22, ?_⟩
      rw [own_cs, if_pos hc14]
  · obtain ⟨fs, hr, hrun, hended, hW, hsame⟩ := X0.leave (v := none) (fun _ => rfl)
    refine ⟨_, _, pre13 _ ?_, hrun, hended, _, _, rfl, ?_, ⟨_, rfl⟩, hW, hsame.mono (by decide) (by decide)⟩
    · refine XS.ifYes X0.here hx rfl (pc0 := 7) (pc' := 24) rfl (hb hby d1_7) rfl ((if0 _ _).trans (flt (fun q => hc14 ((lw_gt (f (p1).toNatClampNeg) (f (p2).toNatClampNeg)).mp q))).2.2.2) (by decide) (by decide) ?_
      show Steps p.tables e below (s₁.setTop (mkF m 24 #[.val (.ref r0), .val (.int p1), .val (.int p2), .unset, .unset] [])) _
      exact X0.returnOut hx Bd.returns (hb hby d1_24) hr
    · show Q1 Z r0 p1 p2 f h0 n0 _ s₁.heap _
      rw [e0]
      refine ⟨f, rfl, N0, (Keep.refl h0 [r0]), hp0, ?_⟩
      rw [own_cs, if_neg hc14]
theorem d2_0 : decode method_4_code 0 = .ok (.iload_n 1, 1) := by decide +kernel
theorem d2_1 : decode method_4_code 1 = .ok (.iconst 1, 1) := by decide +kernel
theorem d2_2 : decode method_4_code 2 = .ok (.iand, 1) := by decide +kernel
theorem d2_3 : decode method_4_code 3 = .ok (.iload_n 1, 1) := by decide +kernel
theorem d2_4 : decode method_4_code 4 = .ok (.iconst 1, 1) := by decide +kernel
theorem d2_5 : decode method_4_code 5 = .ok (.ishr, 1) := by decide +kernel
theorem d2_6 : decode method_4_code 6 = .ok (.iconst 1, 1) := by decide +kernel
theorem d2_7 : decode method_4_code 7 = .ok (.iand, 1) := by decide +kernel
theorem d2_8 : decode method_4_code 8 = .ok (.iadd, 1) := by decide +kernel
theorem d2_9 : decode method_4_code 9 = .ok (.iload_n 1, 1) := by decide +kernel
theorem d2_10 : decode method_4_code 10 = .ok (.iconst 2, 1) := by decide +kernel
theorem d2_11 : decode method_4_code 11 = .ok (.ishr, 1) := by decide +kernel
theorem d2_12 : decode method_4_code 12 = .ok (.iconst 1, 1) := by decide +kernel
theorem d2_13 : decode method_4_code 13 = .ok (.iand, 1) := by decide +kernel
theorem d2_14 : decode method_4_code 14 = .ok (.iadd, 1) := by decide +kernel
theorem d2_15 : decode method_4_code 15 = .ok (.iload_n 1, 1) := by decide +kernel
theorem d2_16 : decode method_4_code 16 = .ok (.iconst 3, 1) := by decide +kernel
theorem d2_17 : decode method_4_code 17 = .ok (.ishr, 1) := by decide +kernel
theorem d2_18 : decode method_4_code 18 = .ok (.iconst 1, 1) := by decide +kernel
theorem d2_19 : decode method_4_code 19 = .ok (.iand, 1) := by decide +kernel
theorem d2_20 : decode method_4_code 20 = .ok (.iadd, 1) := by decide +kernel
theorem d2_21 : decode method_4_code 21 = .ok (.istore_n 2, 1) := by decide +kernel
theorem d2_22 : decode method_4_code 22 = .ok (.iload_n 2, 1) := by decide +kernel
theorem d2_23 : decode method_4_code 23 = .ok (.newarray .long, 2) := by decide +kernel
theorem d2_25 : decode method_4_code 25 = .ok (.astore_n 3, 1) := by decide +kernel
theorem d2_26 : decode method_4_code 26 = .ok (.iconst 0, 1) := by decide +kernel
theorem d2_27 : decode method_4_code 27 = .ok (.istore 4, 2) := by decide +kernel
theorem d2_29 : decode method_4_code 29 = .ok (.iload_n 1, 1) := by decide +kernel
theorem d2_30 : decode method_4_code 30 = .ok (.iconst 1, 1) := by decide +kernel
theorem d2_31 : decode method_4_code 31 = .ok (.iand, 1) := by decide +kernel
theorem d2_32 : decode method_4_code 32 = .ok (.ifCond .eq 13, 3) := by decide +kernel
theorem d2_35 : decode method_4_code 35 = .ok (.aload_n 3, 1) := by decide +kernel
theorem d2_36 : decode method_4_code 36 = .ok (.iload 4, 2) := by decide +kernel
theorem d2_38 : decode method_4_code 38 = .ok (.aload_n 0, 1) := by decide +kernel
theorem d2_39 : decode method_4_code 39 = .ok (.iconst 0, 1) := by decide +kernel
theorem d2_40 : decode method_4_code 40 = .ok (.laload, 1) := by decide +kernel
theorem d2_41 : decode method_4_code 41 = .ok (.lastore, 1) := by decide +kernel
theorem d2_42 : decode method_4_code 42 = .ok (.iinc 4 1, 3) := by decide +kernel
theorem d2_45 : decode method_4_code 45 = .ok (.iload_n 1, 1) := by decide +kernel
theorem d2_46 : decode method_4_code 46 = .ok (.iconst 2, 1) := by decide +kernel
theorem d2_47 : decode method_4_code 47 = .ok (.iand, 1) := by decide +kernel
theorem d2_48 : decode method_4_code 48 = .ok (.ifCond .eq 13, 3) := by decide +kernel
theorem d2_51 : decode method_4_code 51 = .ok (.aload_n 3, 1) := by decide +kernel
theorem d2_52 : decode method_4_code 52 = .ok (.iload 4, 2) := by decide +kernel
theorem d2_54 : decode method_4_code 54 = .ok (.aload_n 0, 1) := by decide +kernel
theorem d2_55 : decode method_4_code 55 = .ok (.iconst 1, 1) := by decide +kernel
theorem d2_56 : decode method_4_code 56 = .ok (.laload, 1) := by decide +kernel
theorem d2_57 : decode method_4_code 57 = .ok (.lastore, 1) := by decide +kernel
theorem d2_58 : decode method_4_code 58 = .ok (.iinc 4 1, 3) := by decide +kernel
theorem d2_61 : decode method_4_code 61 = .ok (.iload_n 1, 1) := by decide +kernel
theorem d2_62 : decode method_4_code 62 = .ok (.iconst 4, 1) := by decide +kernel
theorem d2_63 : decode method_4_code 63 = .ok (.iand, 1) := by decide +kernel
theorem d2_64 : decode method_4_code 64 = .ok (.ifCond .eq 13, 3) := by decide +kernel
theorem d2_67 : decode method_4_code 67 = .ok (.aload_n 3, 1) := by decide +kernel
theorem d2_68 : decode method_4_code 68 = .ok (.iload 4, 2) := by decide +kernel
theorem d2_70 : decode method_4_code 70 = .ok (.aload_n 0, 1) := by decide +kernel
theorem d2_71 : decode method_4_code 71 = .ok (.iconst 2, 1) := by decide +kernel
theorem d2_72 : decode method_4_code 72 = .ok (.laload, 1) := by decide +kernel
theorem d2_73 : decode method_4_code 73 = .ok (.lastore, 1) := by decide +kernel
theorem d2_74 : decode method_4_code 74 = .ok (.iinc 4 1, 3) := by decide +kernel
theorem d2_77 : decode method_4_code 77 = .ok (.iload_n 1, 1) := by decide +kernel
theorem d2_78 : decode method_4_code 78 = .ok (.bipush 8, 2) := by decide +kernel
theorem d2_80 : decode method_4_code 80 = .ok (.iand, 1) := by decide +kernel
theorem d2_81 : decode method_4_code 81 = .ok (.ifCond .eq 13, 3) := by decide +kernel
theorem d2_84 : decode method_4_code 84 = .ok (.aload_n 3, 1) := by decide +kernel
theorem d2_85 : decode method_4_code 85 = .ok (.iload 4, 2) := by decide +kernel
theorem d2_87 : decode method_4_code 87 = .ok (.aload_n 0, 1) := by decide +kernel
theorem d2_88 : decode method_4_code 88 = .ok (.iconst 3, 1) := by decide +kernel
theorem d2_89 : decode method_4_code 89 = .ok (.laload, 1) := by decide +kernel
theorem d2_90 : decode method_4_code 90 = .ok (.lastore, 1) := by decide +kernel
theorem d2_91 : decode method_4_code 91 = .ok (.iinc 4 1, 3) := by decide +kernel
theorem d2_94 : decode method_4_code 94 = .ok (.aload_n 3, 1) := by decide +kernel
theorem d2_95 : decode method_4_code 95 = .ok (.areturn, 1) := by decide +kernel
theorem pn_2 : plainName "com/example/honeybee/honeybee/calculus/ClauseIsSubsetPinLaw" = true := by first | (simp [plainName, overriddenIn]; done) | decide +kernel
theorem ef_2 (m : MethodId) (r0 : Addr) (p1 : Int32) : entryFrame m #[(.ref r0), (.int p1)] 5 = mkF m 0 #[.val (.ref r0), .val (.int p1), .unset, .unset, .unset] [] := by first | (simp [entryFrame, mkF, argsToLocals, Value.category]; done) | rfl
def Q2 (Z : State) (r0 : Addr) (p1 : Int32) (f : Nat → Int64) (h0 : Heap) (n0 : Nat) (v : Option Value) (h : Heap) (L : List Loc) : Prop := ∃ b : Addr, ∃ z : Int32, ∃ g : Nat → Int64, v = some (.ref b) ∧ Fr n0 L ∧ h0.size ≤ b ∧ Keep h0 h [] ∧ AL Z h b z g ∧ (List.range z.toNatClampNeg).map g = (own_bits p1).map f
set_option maxRecDepth 65536 in
set_option maxHeartbeats 40000000 in
theorem rm2 (l : Launch) (Z : State) (a0 : Array Value) (hw : ∀ d ∈ tables_1, d.before a0 Z = true) (ws : List Jvm.Cond) (r0 : Addr) (p1 : Int32) (f : Nat → Int64) (h0 : Heap) (n0 : Nat) (Z0 : n0 ≤ h0.size) (hp0 : AL Z h0 r0 (4 : Int32) f) (hbd : ¬ p1 < (0 : Int32) ∧ ¬ (15 : Int32) < p1) :
    MetFree l (⟨"com/example/honeybee/honeybee/calculus/ClauseIsSubsetPinLaw", "pick", "([JI)[J"⟩ : MethodName) (head1 (Jvm.Cond.code (⟨"com/example/honeybee/honeybee/calculus/ClauseIsSubsetPinLaw", "pick", "([JI)[J"⟩ : MethodName) method_4_code 5 (some (.array .long)) :: ws) ({ frames := 0, cells := 1, slots := 4, locals := 0 } : Room)) (fun a U => a = #[(.ref r0), (.int p1)] ∧ Z.Warmed39 U.vm ∧ U.heap = h0) (fun _ _ _ _ _ => True) (fun _ U o U' => ∃ v L, o = .returned v ∧ Q2 Z r0 p1 f h0 n0 v U'.heap L ∧ FrameEnd U o U' L ({ frames := 0, cells := 1, slots := 4, locals := 0 } : Room).cells ({ frames := 0, cells := 1, slots := 4, locals := 0 } : Room).slots) := by
  refine MetFree.of_bodySF (plainFor_of_name pn_2) hisR ?_
  intro p e s m args below meth c s₁ Bd hml0 hP hK
  obtain ⟨rfl, hZ, hh⟩ := hP
  have hx := Bd.exec
  have hby := Bd.bytes
  have hml : c.maxLocals = 5 := hml0
  have hown : s.vm.findClass "com/example/honeybee/honeybee/calculus/ClauseIsSubsetPinLaw" = some m.cls := findClass_of_methodNamed Bd.named
  have hnm := (name_of_methodNamed Bd.named Bd.method).1
  have X0 : Stand p l e ({ frames := 0, cells := 1, slots := 4, locals := 0 } : Room) s m #[(.ref r0), (.int p1)] below meth c s₁ [] 0 0 := Stand.of_body Bd
  have e0 : s₁.heap = h0 := by rw [← hh, Bd.state]; rfl
  have N0 := Fr.nil n0
  have pre0 : ∀ t, Steps p.tables e below (s₁.setTop (mkF m 0 #[.val (.ref r0), .val (.int p1), .unset, .unset, .unset] [])) t → Steps p.tables e below (s₁.setTop (entryFrame m #[(.ref r0), (.int p1)] 5)) t := fun t k => castTop (ef_2 m r0 p1) k
  rcases own_16 hbd with rfl | rfl | rfl | rfl | rfl | rfl | rfl | rfl | rfl | rfl | rfl | rfl | rfl | rfl | rfl | rfl
  · obtain ⟨T11, h11, k11, X11, e11, E11, A11, st11⟩ := newP X0 hx hZ (hw _ (List.mem_of_getElem? (i := 0) rfl)) e0 (g := (mkF m 23 #[.val (.ref r0), .val (.int (0 : Int32)), .val (.int (0 : Int32)), .unset, .unset] [(.int (0 : Int32))])) rfl (hb hby d2_23) rfl (by decide) (cap := 0) (by decide) (by decide) (by decide) (by decide)
    obtain ⟨b11, gb11⟩ : ∃ z, z = h0.size := ⟨_, rfl⟩
    rw [← gb11] at A11 st11
    have ne12 : r0 ≠ b11 := Nat.ne_of_lt (Nat.lt_of_lt_of_le hp0.lt (Nat.le_of_eq gb11.symm))
    have g13 : n0 ≤ b11 := Nat.le_trans Z0 (Nat.le_of_eq gb11.symm)
    have z14 : h0.size ≤ b11 := Nat.le_trans (Keep.refl h0 []).1 (Nat.le_of_eq gb11.symm)
    have Z15 : n0 ≤ h11.size := Nat.le_trans Z0 E11.1
    have K16 : Keep h0 h11 [] := (Keep.refl h0 []).ext E11
    have V11 : AL Z h11 b11 (0 : Int32) (fun _ => (0 : Int64)) := AL.new A11 (by decide)
    obtain ⟨fs, hr, hrun, hended, hW, hsame⟩ := X11.leave (v := some (.ref b11)) (fun h => by rw [Bd.returns] at h; cases h)
    refine ⟨_, _, pre0 _ ?_, hrun, hended, _, _, rfl, ?_, ⟨_, rfl⟩, hW, hsame.mono (by decide) (by decide)⟩
    · refine XS.iloadN X0.here hx rfl (hb hby d2_0) rfl ?_
      show Steps p.tables e below (s₁.setTop (mkF m 1 #[.val (.ref r0), .val (.int (0 : Int32)), .unset, .unset, .unset] [(.int (0 : Int32))])) _
      refine XS.iconst X0.here hx rfl (hb hby d2_1) ?_
      show Steps p.tables e below (s₁.setTop (mkF m 2 #[.val (.ref r0), .val (.int (0 : Int32)), .unset, .unset, .unset] [(.int (1 : Int32)), (.int (0 : Int32))])) _
      refine XS.iand X0.here hx rfl (hb hby d2_2) rfl ?_
      show Steps p.tables e below (s₁.setTop (mkF m 3 #[.val (.ref r0), .val (.int (0 : Int32)), .unset, .unset, .unset] [(.int (0 : Int32))])) _
      refine XS.iloadN X0.here hx rfl (hb hby d2_3) rfl ?_
      show Steps p.tables e below (s₁.setTop (mkF m 4 #[.val (.ref r0), .val (.int (0 : Int32)), .unset, .unset, .unset] [(.int (0 : Int32)), (.int (0 : Int32))])) _
      refine XS.iconst X0.here hx rfl (hb hby d2_4) ?_
      show Steps p.tables e below (s₁.setTop (mkF m 5 #[.val (.ref r0), .val (.int (0 : Int32)), .unset, .unset, .unset] [(.int (1 : Int32)), (.int (0 : Int32)), (.int (0 : Int32))])) _
      refine XS.ishr X0.here hx rfl (hb hby d2_5) rfl ?_
      show Steps p.tables e below (s₁.setTop (mkF m 6 #[.val (.ref r0), .val (.int (0 : Int32)), .unset, .unset, .unset] [(.int (0 : Int32)), (.int (0 : Int32))])) _
      refine XS.iconst X0.here hx rfl (hb hby d2_6) ?_
      show Steps p.tables e below (s₁.setTop (mkF m 7 #[.val (.ref r0), .val (.int (0 : Int32)), .unset, .unset, .unset] [(.int (1 : Int32)), (.int (0 : Int32)), (.int (0 : Int32))])) _
      refine XS.iand X0.here hx rfl (hb hby d2_7) rfl ?_
      show Steps p.tables e below (s₁.setTop (mkF m 8 #[.val (.ref r0), .val (.int (0 : Int32)), .unset, .unset, .unset] [(.int (0 : Int32)), (.int (0 : Int32))])) _
      refine XS.iadd X0.here hx rfl (hb hby d2_8) rfl ?_
      show Steps p.tables e below (s₁.setTop (mkF m 9 #[.val (.ref r0), .val (.int (0 : Int32)), .unset, .unset, .unset] [(.int (0 : Int32))])) _
      refine XS.iloadN X0.here hx rfl (hb hby d2_9) rfl ?_
      show Steps p.tables e below (s₁.setTop (mkF m 10 #[.val (.ref r0), .val (.int (0 : Int32)), .unset, .unset, .unset] [(.int (0 : Int32)), (.int (0 : Int32))])) _
      refine XS.iconst X0.here hx rfl (hb hby d2_10) ?_
      show Steps p.tables e below (s₁.setTop (mkF m 11 #[.val (.ref r0), .val (.int (0 : Int32)), .unset, .unset, .unset] [(.int (2 : Int32)), (.int (0 : Int32)), (.int (0 : Int32))])) _
      refine XS.ishr X0.here hx rfl (hb hby d2_11) rfl ?_
      show Steps p.tables e below (s₁.setTop (mkF m 12 #[.val (.ref r0), .val (.int (0 : Int32)), .unset, .unset, .unset] [(.int (0 : Int32)), (.int (0 : Int32))])) _
      refine XS.iconst X0.here hx rfl (hb hby d2_12) ?_
      show Steps p.tables e below (s₁.setTop (mkF m 13 #[.val (.ref r0), .val (.int (0 : Int32)), .unset, .unset, .unset] [(.int (1 : Int32)), (.int (0 : Int32)), (.int (0 : Int32))])) _
      refine XS.iand X0.here hx rfl (hb hby d2_13) rfl ?_
      show Steps p.tables e below (s₁.setTop (mkF m 14 #[.val (.ref r0), .val (.int (0 : Int32)), .unset, .unset, .unset] [(.int (0 : Int32)), (.int (0 : Int32))])) _
      refine XS.iadd X0.here hx rfl (hb hby d2_14) rfl ?_
      show Steps p.tables e below (s₁.setTop (mkF m 15 #[.val (.ref r0), .val (.int (0 : Int32)), .unset, .unset, .unset] [(.int (0 : Int32))])) _
      refine XS.iloadN X0.here hx rfl (hb hby d2_15) rfl ?_
      show Steps p.tables e below (s₁.setTop (mkF m 16 #[.val (.ref r0), .val (.int (0 : Int32)), .unset, .unset, .unset] [(.int (0 : Int32)), (.int (0 : Int32))])) _
      refine XS.iconst X0.here hx rfl (hb hby d2_16) ?_
      show Steps p.tables e below (s₁.setTop (mkF m 17 #[.val (.ref r0), .val (.int (0 : Int32)), .unset, .unset, .unset] [(.int (3 : Int32)), (.int (0 : Int32)), (.int (0 : Int32))])) _
      refine XS.ishr X0.here hx rfl (hb hby d2_17) rfl ?_
      show Steps p.tables e below (s₁.setTop (mkF m 18 #[.val (.ref r0), .val (.int (0 : Int32)), .unset, .unset, .unset] [(.int (0 : Int32)), (.int (0 : Int32))])) _
      refine XS.iconst X0.here hx rfl (hb hby d2_18) ?_
      show Steps p.tables e below (s₁.setTop (mkF m 19 #[.val (.ref r0), .val (.int (0 : Int32)), .unset, .unset, .unset] [(.int (1 : Int32)), (.int (0 : Int32)), (.int (0 : Int32))])) _
      refine XS.iand X0.here hx rfl (hb hby d2_19) rfl ?_
      show Steps p.tables e below (s₁.setTop (mkF m 20 #[.val (.ref r0), .val (.int (0 : Int32)), .unset, .unset, .unset] [(.int (0 : Int32)), (.int (0 : Int32))])) _
      refine XS.iadd X0.here hx rfl (hb hby d2_20) rfl ?_
      show Steps p.tables e below (s₁.setTop (mkF m 21 #[.val (.ref r0), .val (.int (0 : Int32)), .unset, .unset, .unset] [(.int (0 : Int32))])) _
      refine XS.istoreN X0.here hx rfl (hb hby d2_21) rfl (l' := #[.val (.ref r0), .val (.int (0 : Int32)), .val (.int (0 : Int32)), .unset, .unset]) rfl ?_
      show Steps p.tables e below (s₁.setTop (mkF m 22 #[.val (.ref r0), .val (.int (0 : Int32)), .val (.int (0 : Int32)), .unset, .unset] [])) _
      refine XS.iloadN X0.here hx rfl (hb hby d2_22) rfl ?_
      show Steps p.tables e below (s₁.setTop (mkF m 23 #[.val (.ref r0), .val (.int (0 : Int32)), .val (.int (0 : Int32)), .unset, .unset] [(.int (0 : Int32))])) _
      refine st11 _ ?_
      show Steps p.tables e below (T11.setTop (mkF m 25 #[.val (.ref r0), .val (.int (0 : Int32)), .val (.int (0 : Int32)), .unset, .unset] [(.ref b11)])) _
      refine XS.astoreN X11.here hx rfl (hb hby d2_25) rfl rfl (l' := #[.val (.ref r0), .val (.int (0 : Int32)), .val (.int (0 : Int32)), .val (.ref b11), .unset]) rfl ?_
      show Steps p.tables e below (T11.setTop (mkF m 26 #[.val (.ref r0), .val (.int (0 : Int32)), .val (.int (0 : Int32)), .val (.ref b11), .unset] [])) _
      refine XS.iconst X11.here hx rfl (hb hby d2_26) ?_
      show Steps p.tables e below (T11.setTop (mkF m 27 #[.val (.ref r0), .val (.int (0 : Int32)), .val (.int (0 : Int32)), .val (.ref b11), .unset] [(.int (0 : Int32))])) _
      refine XS.istore X11.here hx rfl (hb hby d2_27) rfl (l' := #[.val (.ref r0), .val (.int (0 : Int32)), .val (.int (0 : Int32)), .val (.ref b11), .val (.int (0 : Int32))]) rfl ?_
      show Steps p.tables e below (T11.setTop (mkF m 29 #[.val (.ref r0), .val (.int (0 : Int32)), .val (.int (0 : Int32)), .val (.ref b11), .val (.int (0 : Int32))] [])) _
      refine XS.iloadN X11.here hx rfl (hb hby d2_29) rfl ?_
      show Steps p.tables e below (T11.setTop (mkF m 30 #[.val (.ref r0), .val (.int (0 : Int32)), .val (.int (0 : Int32)), .val (.ref b11), .val (.int (0 : Int32))] [(.int (0 : Int32))])) _
      refine XS.iconst X11.here hx rfl (hb hby d2_30) ?_
      show Steps p.tables e below (T11.setTop (mkF m 31 #[.val (.ref r0), .val (.int (0 : Int32)), .val (.int (0 : Int32)), .val (.ref b11), .val (.int (0 : Int32))] [(.int (1 : Int32)), (.int (0 : Int32))])) _
      refine XS.iand X11.here hx rfl (hb hby d2_31) rfl ?_
      show Steps p.tables e below (T11.setTop (mkF m 32 #[.val (.ref r0), .val (.int (0 : Int32)), .val (.int (0 : Int32)), .val (.ref b11), .val (.int (0 : Int32))] [(.int (0 : Int32))])) _
      refine XS.ifYes X11.here hx rfl (pc0 := 32) (pc' := 45) rfl (hb hby d2_32) rfl ((if0 _ _).trans (teq (by decide : (0 : Int32) = (0 : Int32))).1) (by decide) (by decide) ?_
      show Steps p.tables e below (T11.setTop (mkF m 45 #[.val (.ref r0), .val (.int (0 : Int32)), .val (.int (0 : Int32)), .val (.ref b11), .val (.int (0 : Int32))] [])) _
      refine XS.iloadN X11.here hx rfl (hb hby d2_45) rfl ?_
      show Steps p.tables e below (T11.setTop (mkF m 46 #[.val (.ref r0), .val (.int (0 : Int32)), .val (.int (0 : Int32)), .val (.ref b11), .val (.int (0 : Int32))] [(.int (0 : Int32))])) _
      refine XS.iconst X11.here hx rfl (hb hby d2_46) ?_
      show Steps p.tables e below (T11.setTop (mkF m 47 #[.val (.ref r0), .val (.int (0 : Int32)), .val (.int (0 : Int32)), .val (.ref b11), .val (.int (0 : Int32))] [(.int (2 : Int32)), (.int (0 : Int32))])) _
      refine XS.iand X11.here hx rfl (hb hby d2_47) rfl ?_
      show Steps p.tables e below (T11.setTop (mkF m 48 #[.val (.ref r0), .val (.int (0 : Int32)), .val (.int (0 : Int32)), .val (.ref b11), .val (.int (0 : Int32))] [(.int (0 : Int32))])) _
      refine XS.ifYes X11.here hx rfl (pc0 := 48) (pc' := 61) rfl (hb hby d2_48) rfl ((if0 _ _).trans (teq (by decide : (0 : Int32) = (0 : Int32))).1) (by decide) (by decide) ?_
      show Steps p.tables e below (T11.setTop (mkF m 61 #[.val (.ref r0), .val (.int (0 : Int32)), .val (.int (0 : Int32)), .val (.ref b11), .val (.int (0 : Int32))] [])) _
      refine XS.iloadN X11.here hx rfl (hb hby d2_61) rfl ?_
      show Steps p.tables e below (T11.setTop (mkF m 62 #[.val (.ref r0), .val (.int (0 : Int32)), .val (.int (0 : Int32)), .val (.ref b11), .val (.int (0 : Int32))] [(.int (0 : Int32))])) _
      refine XS.iconst X11.here hx rfl (hb hby d2_62) ?_
      show Steps p.tables e below (T11.setTop (mkF m 63 #[.val (.ref r0), .val (.int (0 : Int32)), .val (.int (0 : Int32)), .val (.ref b11), .val (.int (0 : Int32))] [(.int (4 : Int32)), (.int (0 : Int32))])) _
      refine XS.iand X11.here hx rfl (hb hby d2_63) rfl ?_
      show Steps p.tables e below (T11.setTop (mkF m 64 #[.val (.ref r0), .val (.int (0 : Int32)), .val (.int (0 : Int32)), .val (.ref b11), .val (.int (0 : Int32))] [(.int (0 : Int32))])) _
      refine XS.ifYes X11.here hx rfl (pc0 := 64) (pc' := 77) rfl (hb hby d2_64) rfl ((if0 _ _).trans (teq (by decide : (0 : Int32) = (0 : Int32))).1) (by decide) (by decide) ?_
      show Steps p.tables e below (T11.setTop (mkF m 77 #[.val (.ref r0), .val (.int (0 : Int32)), .val (.int (0 : Int32)), .val (.ref b11), .val (.int (0 : Int32))] [])) _
      refine XS.iloadN X11.here hx rfl (hb hby d2_77) rfl ?_
      show Steps p.tables e below (T11.setTop (mkF m 78 #[.val (.ref r0), .val (.int (0 : Int32)), .val (.int (0 : Int32)), .val (.ref b11), .val (.int (0 : Int32))] [(.int (0 : Int32))])) _
      refine XS.bipush X11.here hx rfl (hb hby d2_78) ?_
      show Steps p.tables e below (T11.setTop (mkF m 80 #[.val (.ref r0), .val (.int (0 : Int32)), .val (.int (0 : Int32)), .val (.ref b11), .val (.int (0 : Int32))] [(.int (8 : Int32)), (.int (0 : Int32))])) _
      refine XS.iand X11.here hx rfl (hb hby d2_80) rfl ?_
      show Steps p.tables e below (T11.setTop (mkF m 81 #[.val (.ref r0), .val (.int (0 : Int32)), .val (.int (0 : Int32)), .val (.ref b11), .val (.int (0 : Int32))] [(.int (0 : Int32))])) _
      refine XS.ifYes X11.here hx rfl (pc0 := 81) (pc' := 94) rfl (hb hby d2_81) rfl ((if0 _ _).trans (teq (by decide : (0 : Int32) = (0 : Int32))).1) (by decide) (by decide) ?_
      show Steps p.tables e below (T11.setTop (mkF m 94 #[.val (.ref r0), .val (.int (0 : Int32)), .val (.int (0 : Int32)), .val (.ref b11), .val (.int (0 : Int32))] [])) _
      refine XS.aloadN X11.here hx rfl (hb hby d2_94) rfl rfl ?_
      show Steps p.tables e below (T11.setTop (mkF m 95 #[.val (.ref r0), .val (.int (0 : Int32)), .val (.int (0 : Int32)), .val (.ref b11), .val (.int (0 : Int32))] [(.ref b11)])) _
      exact retOut X11 hx Bd.returns rfl (Or.inr (Or.inr (Or.inr (Or.inr ⟨rfl, rfl, rfl⟩)))) (hb hby d2_95) hr
    · show Q2 Z r0 (0 : Int32) f h0 n0 _ T11.heap _
      rw [e11]
      exact ⟨b11, (0 : Int32), (fun _ => (0 : Int64)), rfl, N0, z14, K16, V11, rfl⟩
  · obtain ⟨T17, h17, k17, X17, e17, E17, A17, st17⟩ := newP X0 hx hZ (hw _ (List.mem_of_getElem? (i := 0) rfl)) e0 (g := (mkF m 23 #[.val (.ref r0), .val (.int (1 : Int32)), .val (.int (1 : Int32)), .unset, .unset] [(.int (1 : Int32))])) rfl (hb hby d2_23) rfl (by decide) (cap := 1) (by decide) (by decide) (by decide) (by decide)
    obtain ⟨b17, gb17⟩ : ∃ z, z = h0.size := ⟨_, rfl⟩
    rw [← gb17] at A17 st17
    have ne18 : r0 ≠ b17 := Nat.ne_of_lt (Nat.lt_of_lt_of_le hp0.lt (Nat.le_of_eq gb17.symm))
    have g19 : n0 ≤ b17 := Nat.le_trans Z0 (Nat.le_of_eq gb17.symm)
    have z20 : h0.size ≤ b17 := Nat.le_trans (Keep.refl h0 []).1 (Nat.le_of_eq gb17.symm)
    have Z21 : n0 ≤ h17.size := Nat.le_trans Z0 E17.1
    have K22 : Keep h0 h17 [] := (Keep.refl h0 []).ext E17
    have V17 : AL Z h17 b17 (1 : Int32) (fun _ => (0 : Int64)) := AL.new A17 (by decide)
    have V23 : AL Z h17 r0 (4 : Int32) f := (hp0.ext E17)
    obtain ⟨cl24, Ar24, S24, M24, I24⟩ := id V23
    have hin24 : ¬ ((0 : Int32) < 0 ∨ cl24.slots.size ≤ ((0 : Int32)).toNatClampNeg) := inb_of S24 ⟨by decide, by decide⟩
    have hat24 : cl24.slots[((0 : Int32)).toNatClampNeg]? = some (.long (f ((0 : Int32)).toNatClampNeg)) := I24 _ (Nat.lt_of_not_le fun y => hin24 (Or.inr y))
    obtain ⟨cl25, Ar25, S25, M25, I25⟩ := id V17
    have hin25 : ¬ ((0 : Int32) < 0 ∨ cl25.slots.size ≤ ((0 : Int32)).toNatClampNeg) := inb_of S25 ⟨by decide, by decide⟩
    obtain ⟨T26, h26, X26, e26, W26, st26⟩ := stJ X17 hx hZ e17 Ar25 (j := (0 : Int32)) hin25 (g := (mkF m 41 #[.val (.ref r0), .val (.int (1 : Int32)), .val (.int (1 : Int32)), .val (.ref b17), .val (.int (0 : Int32))] [(.long (f ((0 : Int32)).toNatClampNeg)), (.int (0 : Int32)), (.ref b17)])) rfl rfl (hb hby d2_41)
    have V26 : AL Z h26 b17 (1 : Int32) (fun i => if i = ((0 : Int32)).toNatClampNeg then (f ((0 : Int32)).toNatClampNeg) else (fun _ => (0 : Int64)) i) := AL.set V17 W26
    have Z27 : n0 ≤ h26.size := Nat.le_trans Z21 (Keep.of_wr W26).1
    have K28 : Keep h0 h26 [] := K22.wr W26 (Or.inr z20)
    have N26 := Fr.snoc X26 N0 g19
    obtain ⟨fs, hr, hrun, hended, hW, hsame⟩ := X26.leave (v := some (.ref b17)) (fun h => by rw [Bd.returns] at h; cases h)
    refine ⟨_, _, pre0 _ ?_, hrun, hended, _, _, rfl, ?_, ⟨_, rfl⟩, hW, hsame.mono (by decide) (by decide)⟩
    · refine XS.iloadN X0.here hx rfl (hb hby d2_0) rfl ?_
      show Steps p.tables e below (s₁.setTop (mkF m 1 #[.val (.ref r0), .val (.int (1 : Int32)), .unset, .unset, .unset] [(.int (1 : Int32))])) _
      refine XS.iconst X0.here hx rfl (hb hby d2_1) ?_
      show Steps p.tables e below (s₁.setTop (mkF m 2 #[.val (.ref r0), .val (.int (1 : Int32)), .unset, .unset, .unset] [(.int (1 : Int32)), (.int (1 : Int32))])) _
      refine XS.iand X0.here hx rfl (hb hby d2_2) rfl ?_
      show Steps p.tables e below (s₁.setTop (mkF m 3 #[.val (.ref r0), .val (.int (1 : Int32)), .unset, .unset, .unset] [(.int (1 : Int32))])) _
      refine XS.iloadN X0.here hx rfl (hb hby d2_3) rfl ?_
      show Steps p.tables e below (s₁.setTop (mkF m 4 #[.val (.ref r0), .val (.int (1 : Int32)), .unset, .unset, .unset] [(.int (1 : Int32)), (.int (1 : Int32))])) _
      refine XS.iconst X0.here hx rfl (hb hby d2_4) ?_
      show Steps p.tables e below (s₁.setTop (mkF m 5 #[.val (.ref r0), .val (.int (1 : Int32)), .unset, .unset, .unset] [(.int (1 : Int32)), (.int (1 : Int32)), (.int (1 : Int32))])) _
      refine XS.ishr X0.here hx rfl (hb hby d2_5) rfl ?_
      show Steps p.tables e below (s₁.setTop (mkF m 6 #[.val (.ref r0), .val (.int (1 : Int32)), .unset, .unset, .unset] [(.int (0 : Int32)), (.int (1 : Int32))])) _
      refine XS.iconst X0.here hx rfl (hb hby d2_6) ?_
      show Steps p.tables e below (s₁.setTop (mkF m 7 #[.val (.ref r0), .val (.int (1 : Int32)), .unset, .unset, .unset] [(.int (1 : Int32)), (.int (0 : Int32)), (.int (1 : Int32))])) _
      refine XS.iand X0.here hx rfl (hb hby d2_7) rfl ?_
      show Steps p.tables e below (s₁.setTop (mkF m 8 #[.val (.ref r0), .val (.int (1 : Int32)), .unset, .unset, .unset] [(.int (0 : Int32)), (.int (1 : Int32))])) _
      refine XS.iadd X0.here hx rfl (hb hby d2_8) rfl ?_
      show Steps p.tables e below (s₁.setTop (mkF m 9 #[.val (.ref r0), .val (.int (1 : Int32)), .unset, .unset, .unset] [(.int (1 : Int32))])) _
      refine XS.iloadN X0.here hx rfl (hb hby d2_9) rfl ?_
      show Steps p.tables e below (s₁.setTop (mkF m 10 #[.val (.ref r0), .val (.int (1 : Int32)), .unset, .unset, .unset] [(.int (1 : Int32)), (.int (1 : Int32))])) _
      refine XS.iconst X0.here hx rfl (hb hby d2_10) ?_
      show Steps p.tables e below (s₁.setTop (mkF m 11 #[.val (.ref r0), .val (.int (1 : Int32)), .unset, .unset, .unset] [(.int (2 : Int32)), (.int (1 : Int32)), (.int (1 : Int32))])) _
      refine XS.ishr X0.here hx rfl (hb hby d2_11) rfl ?_
      show Steps p.tables e below (s₁.setTop (mkF m 12 #[.val (.ref r0), .val (.int (1 : Int32)), .unset, .unset, .unset] [(.int (0 : Int32)), (.int (1 : Int32))])) _
      refine XS.iconst X0.here hx rfl (hb hby d2_12) ?_
      show Steps p.tables e below (s₁.setTop (mkF m 13 #[.val (.ref r0), .val (.int (1 : Int32)), .unset, .unset, .unset] [(.int (1 : Int32)), (.int (0 : Int32)), (.int (1 : Int32))])) _
      refine XS.iand X0.here hx rfl (hb hby d2_13) rfl ?_
      show Steps p.tables e below (s₁.setTop (mkF m 14 #[.val (.ref r0), .val (.int (1 : Int32)), .unset, .unset, .unset] [(.int (0 : Int32)), (.int (1 : Int32))])) _
      refine XS.iadd X0.here hx rfl (hb hby d2_14) rfl ?_
      show Steps p.tables e below (s₁.setTop (mkF m 15 #[.val (.ref r0), .val (.int (1 : Int32)), .unset, .unset, .unset] [(.int (1 : Int32))])) _
      refine XS.iloadN X0.here hx rfl (hb hby d2_15) rfl ?_
      show Steps p.tables e below (s₁.setTop (mkF m 16 #[.val (.ref r0), .val (.int (1 : Int32)), .unset, .unset, .unset] [(.int (1 : Int32)), (.int (1 : Int32))])) _
      refine XS.iconst X0.here hx rfl (hb hby d2_16) ?_
      show Steps p.tables e below (s₁.setTop (mkF m 17 #[.val (.ref r0), .val (.int (1 : Int32)), .unset, .unset, .unset] [(.int (3 : Int32)), (.int (1 : Int32)), (.int (1 : Int32))])) _
      refine XS.ishr X0.here hx rfl (hb hby d2_17) rfl ?_
      show Steps p.tables e below (s₁.setTop (mkF m 18 #[.val (.ref r0), .val (.int (1 : Int32)), .unset, .unset, .unset] [(.int (0 : Int32)), (.int (1 : Int32))])) _
      refine XS.iconst X0.here hx rfl (hb hby d2_18) ?_
      show Steps p.tables e below (s₁.setTop (mkF m 19 #[.val (.ref r0), .val (.int (1 : Int32)), .unset, .unset, .unset] [(.int (1 : Int32)), (.int (0 : Int32)), (.int (1 : Int32))])) _
      refine XS.iand X0.here hx rfl (hb hby d2_19) rfl ?_
      show Steps p.tables e below (s₁.setTop (mkF m 20 #[.val (.ref r0), .val (.int (1 : Int32)), .unset, .unset, .unset] [(.int (0 : Int32)), (.int (1 : Int32))])) _
      refine XS.iadd X0.here hx rfl (hb hby d2_20) rfl ?_
      show Steps p.tables e below (s₁.setTop (mkF m 21 #[.val (.ref r0), .val (.int (1 : Int32)), .unset, .unset, .unset] [(.int (1 : Int32))])) _
      refine XS.istoreN X0.here hx rfl (hb hby d2_21) rfl (l' := #[.val (.ref r0), .val (.int (1 : Int32)), .val (.int (1 : Int32)), .unset, .unset]) rfl ?_
      show Steps p.tables e below (s₁.setTop (mkF m 22 #[.val (.ref r0), .val (.int (1 : Int32)), .val (.int (1 : Int32)), .unset, .unset] [])) _
      refine XS.iloadN X0.here hx rfl (hb hby d2_22) rfl ?_
      show Steps p.tables e below (s₁.setTop (mkF m 23 #[.val (.ref r0), .val (.int (1 : Int32)), .val (.int (1 : Int32)), .unset, .unset] [(.int (1 : Int32))])) _
      refine st17 _ ?_
      show Steps p.tables e below (T17.setTop (mkF m 25 #[.val (.ref r0), .val (.int (1 : Int32)), .val (.int (1 : Int32)), .unset, .unset] [(.ref b17)])) _
      refine XS.astoreN X17.here hx rfl (hb hby d2_25) rfl rfl (l' := #[.val (.ref r0), .val (.int (1 : Int32)), .val (.int (1 : Int32)), .val (.ref b17), .unset]) rfl ?_
      show Steps p.tables e below (T17.setTop (mkF m 26 #[.val (.ref r0), .val (.int (1 : Int32)), .val (.int (1 : Int32)), .val (.ref b17), .unset] [])) _
      refine XS.iconst X17.here hx rfl (hb hby d2_26) ?_
      show Steps p.tables e below (T17.setTop (mkF m 27 #[.val (.ref r0), .val (.int (1 : Int32)), .val (.int (1 : Int32)), .val (.ref b17), .unset] [(.int (0 : Int32))])) _
      refine XS.istore X17.here hx rfl (hb hby d2_27) rfl (l' := #[.val (.ref r0), .val (.int (1 : Int32)), .val (.int (1 : Int32)), .val (.ref b17), .val (.int (0 : Int32))]) rfl ?_
      show Steps p.tables e below (T17.setTop (mkF m 29 #[.val (.ref r0), .val (.int (1 : Int32)), .val (.int (1 : Int32)), .val (.ref b17), .val (.int (0 : Int32))] [])) _
      refine XS.iloadN X17.here hx rfl (hb hby d2_29) rfl ?_
      show Steps p.tables e below (T17.setTop (mkF m 30 #[.val (.ref r0), .val (.int (1 : Int32)), .val (.int (1 : Int32)), .val (.ref b17), .val (.int (0 : Int32))] [(.int (1 : Int32))])) _
      refine XS.iconst X17.here hx rfl (hb hby d2_30) ?_
      show Steps p.tables e below (T17.setTop (mkF m 31 #[.val (.ref r0), .val (.int (1 : Int32)), .val (.int (1 : Int32)), .val (.ref b17), .val (.int (0 : Int32))] [(.int (1 : Int32)), (.int (1 : Int32))])) _
      refine XS.iand X17.here hx rfl (hb hby d2_31) rfl ?_
      show Steps p.tables e below (T17.setTop (mkF m 32 #[.val (.ref r0), .val (.int (1 : Int32)), .val (.int (1 : Int32)), .val (.ref b17), .val (.int (0 : Int32))] [(.int (1 : Int32))])) _
      refine XS.ifNo X17.here hx rfl (hb hby d2_32) rfl ((if0 _ _).trans (feq (by decide : ¬ ((1 : Int32) = (0 : Int32)))).1) ?_
      show Steps p.tables e below (T17.setTop (mkF m 35 #[.val (.ref r0), .val (.int (1 : Int32)), .val (.int (1 : Int32)), .val (.ref b17), .val (.int (0 : Int32))] [])) _
      refine XS.aloadN X17.here hx rfl (hb hby d2_35) rfl rfl ?_
      show Steps p.tables e below (T17.setTop (mkF m 36 #[.val (.ref r0), .val (.int (1 : Int32)), .val (.int (1 : Int32)), .val (.ref b17), .val (.int (0 : Int32))] [(.ref b17)])) _
      refine XS.iload X17.here hx rfl (hb hby d2_36) rfl ?_
      show Steps p.tables e below (T17.setTop (mkF m 38 #[.val (.ref r0), .val (.int (1 : Int32)), .val (.int (1 : Int32)), .val (.ref b17), .val (.int (0 : Int32))] [(.int (0 : Int32)), (.ref b17)])) _
      refine XS.aloadN X17.here hx rfl (hb hby d2_38) rfl rfl ?_
      show Steps p.tables e below (T17.setTop (mkF m 39 #[.val (.ref r0), .val (.int (1 : Int32)), .val (.int (1 : Int32)), .val (.ref b17), .val (.int (0 : Int32))] [(.ref r0), (.int (0 : Int32)), (.ref b17)])) _
      refine XS.iconst X17.here hx rfl (hb hby d2_39) ?_
      show Steps p.tables e below (T17.setTop (mkF m 40 #[.val (.ref r0), .val (.int (1 : Int32)), .val (.int (1 : Int32)), .val (.ref b17), .val (.int (0 : Int32))] [(.int (0 : Int32)), (.ref r0), (.int (0 : Int32)), (.ref b17)])) _
      refine X17.laload hx (j := (0 : Int32)) (v := (.long (f ((0 : Int32)).toNatClampNeg))) (by rw [e17]; exact Ar24.1) (State.isArrayOf_alike hZ.alike Ar24.2.1) Ar24.2.2 hin24 hat24 (g := (mkF m 40 #[.val (.ref r0), .val (.int (1 : Int32)), .val (.int (1 : Int32)), .val (.ref b17), .val (.int (0 : Int32))] [(.int (0 : Int32)), (.ref r0), (.int (0 : Int32)), (.ref b17)])) rfl rfl (hb hby d2_40) _ ?_
      show Steps p.tables e below (T17.setTop (mkF m 41 #[.val (.ref r0), .val (.int (1 : Int32)), .val (.int (1 : Int32)), .val (.ref b17), .val (.int (0 : Int32))] [(.long (f ((0 : Int32)).toNatClampNeg)), (.int (0 : Int32)), (.ref b17)])) _
      refine st26 _ ?_
      show Steps p.tables e below (T26.setTop (mkF m 42 #[.val (.ref r0), .val (.int (1 : Int32)), .val (.int (1 : Int32)), .val (.ref b17), .val (.int (0 : Int32))] [])) _
      refine XS.iinc X26.here hx rfl (hb hby d2_42) rfl (l' := #[.val (.ref r0), .val (.int (1 : Int32)), .val (.int (1 : Int32)), .val (.ref b17), .val (.int (1 : Int32))]) rfl ?_
      show Steps p.tables e below (T26.setTop (mkF m 45 #[.val (.ref r0), .val (.int (1 : Int32)), .val (.int (1 : Int32)), .val (.ref b17), .val (.int (1 : Int32))] [])) _
      refine XS.iloadN X26.here hx rfl (hb hby d2_45) rfl ?_
      show Steps p.tables e below (T26.setTop (mkF m 46 #[.val (.ref r0), .val (.int (1 : Int32)), .val (.int (1 : Int32)), .val (.ref b17), .val (.int (1 : Int32))] [(.int (1 : Int32))])) _
      refine XS.iconst X26.here hx rfl (hb hby d2_46) ?_
      show Steps p.tables e below (T26.setTop (mkF m 47 #[.val (.ref r0), .val (.int (1 : Int32)), .val (.int (1 : Int32)), .val (.ref b17), .val (.int (1 : Int32))] [(.int (2 : Int32)), (.int (1 : Int32))])) _
      refine XS.iand X26.here hx rfl (hb hby d2_47) rfl ?_
      show Steps p.tables e below (T26.setTop (mkF m 48 #[.val (.ref r0), .val (.int (1 : Int32)), .val (.int (1 : Int32)), .val (.ref b17), .val (.int (1 : Int32))] [(.int (0 : Int32))])) _
      refine XS.ifYes X26.here hx rfl (pc0 := 48) (pc' := 61) rfl (hb hby d2_48) rfl ((if0 _ _).trans (teq (by decide : (0 : Int32) = (0 : Int32))).1) (by decide) (by decide) ?_
      show Steps p.tables e below (T26.setTop (mkF m 61 #[.val (.ref r0), .val (.int (1 : Int32)), .val (.int (1 : Int32)), .val (.ref b17), .val (.int (1 : Int32))] [])) _
      refine XS.iloadN X26.here hx rfl (hb hby d2_61) rfl ?_
      show Steps p.tables e below (T26.setTop (mkF m 62 #[.val (.ref r0), .val (.int (1 : Int32)), .val (.int (1 : Int32)), .val (.ref b17), .val (.int (1 : Int32))] [(.int (1 : Int32))])) _
      refine XS.iconst X26.here hx rfl (hb hby d2_62) ?_
      show Steps p.tables e below (T26.setTop (mkF m 63 #[.val (.ref r0), .val (.int (1 : Int32)), .val (.int (1 : Int32)), .val (.ref b17), .val (.int (1 : Int32))] [(.int (4 : Int32)), (.int (1 : Int32))])) _
      refine XS.iand X26.here hx rfl (hb hby d2_63) rfl ?_
      show Steps p.tables e below (T26.setTop (mkF m 64 #[.val (.ref r0), .val (.int (1 : Int32)), .val (.int (1 : Int32)), .val (.ref b17), .val (.int (1 : Int32))] [(.int (0 : Int32))])) _
      refine XS.ifYes X26.here hx rfl (pc0 := 64) (pc' := 77) rfl (hb hby d2_64) rfl ((if0 _ _).trans (teq (by decide : (0 : Int32) = (0 : Int32))).1) (by decide) (by decide) ?_
      show Steps p.tables e below (T26.setTop (mkF m 77 #[.val (.ref r0), .val (.int (1 : Int32)), .val (.int (1 : Int32)), .val (.ref b17), .val (.int (1 : Int32))] [])) _
      refine XS.iloadN X26.here hx rfl (hb hby d2_77) rfl ?_
      show Steps p.tables e below (T26.setTop (mkF m 78 #[.val (.ref r0), .val (.int (1 : Int32)), .val (.int (1 : Int32)), .val (.ref b17), .val (.int (1 : Int32))] [(.int (1 : Int32))])) _
      refine XS.bipush X26.here hx rfl (hb hby d2_78) ?_
      show Steps p.tables e below (T26.setTop (mkF m 80 #[.val (.ref r0), .val (.int (1 : Int32)), .val (.int (1 : Int32)), .val (.ref b17), .val (.int (1 : Int32))] [(.int (8 : Int32)), (.int (1 : Int32))])) _
      refine XS.iand X26.here hx rfl (hb hby d2_80) rfl ?_
      show Steps p.tables e below (T26.setTop (mkF m 81 #[.val (.ref r0), .val (.int (1 : Int32)), .val (.int (1 : Int32)), .val (.ref b17), .val (.int (1 : Int32))] [(.int (0 : Int32))])) _
      refine XS.ifYes X26.here hx rfl (pc0 := 81) (pc' := 94) rfl (hb hby d2_81) rfl ((if0 _ _).trans (teq (by decide : (0 : Int32) = (0 : Int32))).1) (by decide) (by decide) ?_
      show Steps p.tables e below (T26.setTop (mkF m 94 #[.val (.ref r0), .val (.int (1 : Int32)), .val (.int (1 : Int32)), .val (.ref b17), .val (.int (1 : Int32))] [])) _
      refine XS.aloadN X26.here hx rfl (hb hby d2_94) rfl rfl ?_
      show Steps p.tables e below (T26.setTop (mkF m 95 #[.val (.ref r0), .val (.int (1 : Int32)), .val (.int (1 : Int32)), .val (.ref b17), .val (.int (1 : Int32))] [(.ref b17)])) _
      exact retOut X26 hx Bd.returns rfl (Or.inr (Or.inr (Or.inr (Or.inr ⟨rfl, rfl, rfl⟩)))) (hb hby d2_95) hr
    · show Q2 Z r0 (1 : Int32) f h0 n0 _ T26.heap _
      rw [e26]
      exact ⟨b17, (1 : Int32), (fun i => if i = ((0 : Int32)).toNatClampNeg then (f ((0 : Int32)).toNatClampNeg) else (fun _ => (0 : Int64)) i), rfl, N26, z20, K28, V26, rfl⟩
  · obtain ⟨T29, h29, k29, X29, e29, E29, A29, st29⟩ := newP X0 hx hZ (hw _ (List.mem_of_getElem? (i := 0) rfl)) e0 (g := (mkF m 23 #[.val (.ref r0), .val (.int (2 : Int32)), .val (.int (1 : Int32)), .unset, .unset] [(.int (1 : Int32))])) rfl (hb hby d2_23) rfl (by decide) (cap := 1) (by decide) (by decide) (by decide) (by decide)
    obtain ⟨b29, gb29⟩ : ∃ z, z = h0.size := ⟨_, rfl⟩
    rw [← gb29] at A29 st29
    have ne30 : r0 ≠ b29 := Nat.ne_of_lt (Nat.lt_of_lt_of_le hp0.lt (Nat.le_of_eq gb29.symm))
    have g31 : n0 ≤ b29 := Nat.le_trans Z0 (Nat.le_of_eq gb29.symm)
    have z32 : h0.size ≤ b29 := Nat.le_trans (Keep.refl h0 []).1 (Nat.le_of_eq gb29.symm)
    have Z33 : n0 ≤ h29.size := Nat.le_trans Z0 E29.1
    have K34 : Keep h0 h29 [] := (Keep.refl h0 []).ext E29
    have V29 : AL Z h29 b29 (1 : Int32) (fun _ => (0 : Int64)) := AL.new A29 (by decide)
    have V35 : AL Z h29 r0 (4 : Int32) f := (hp0.ext E29)
    obtain ⟨cl36, Ar36, S36, M36, I36⟩ := id V35
    have hin36 : ¬ ((1 : Int32) < 0 ∨ cl36.slots.size ≤ ((1 : Int32)).toNatClampNeg) := inb_of S36 ⟨by decide, by decide⟩
    have hat36 : cl36.slots[((1 : Int32)).toNatClampNeg]? = some (.long (f ((1 : Int32)).toNatClampNeg)) := I36 _ (Nat.lt_of_not_le fun y => hin36 (Or.inr y))
    obtain ⟨cl37, Ar37, S37, M37, I37⟩ := id V29
    have hin37 : ¬ ((0 : Int32) < 0 ∨ cl37.slots.size ≤ ((0 : Int32)).toNatClampNeg) := inb_of S37 ⟨by decide, by decide⟩
    obtain ⟨T38, h38, X38, e38, W38, st38⟩ := stJ X29 hx hZ e29 Ar37 (j := (0 : Int32)) hin37 (g := (mkF m 57 #[.val (.ref r0), .val (.int (2 : Int32)), .val (.int (1 : Int32)), .val (.ref b29), .val (.int (0 : Int32))] [(.long (f ((1 : Int32)).toNatClampNeg)), (.int (0 : Int32)), (.ref b29)])) rfl rfl (hb hby d2_57)
    have V38 : AL Z h38 b29 (1 : Int32) (fun i => if i = ((0 : Int32)).toNatClampNeg then (f ((1 : Int32)).toNatClampNeg) else (fun _ => (0 : Int64)) i) := AL.set V29 W38
    have Z39 : n0 ≤ h38.size := Nat.le_trans Z33 (Keep.of_wr W38).1
    have K40 : Keep h0 h38 [] := K34.wr W38 (Or.inr z32)
    have N38 := Fr.snoc X38 N0 g31
    obtain ⟨fs, hr, hrun, hended, hW, hsame⟩ := X38.leave (v := some (.ref b29)) (fun h => by rw [Bd.returns] at h; cases h)
    refine ⟨_, _, pre0 _ ?_, hrun, hended, _, _, rfl, ?_, ⟨_, rfl⟩, hW, hsame.mono (by decide) (by decide)⟩
    · refine XS.iloadN X0.here hx rfl (hb hby d2_0) rfl ?_
      show Steps p.tables e below (s₁.setTop (mkF m 1 #[.val (.ref r0), .val (.int (2 : Int32)), .unset, .unset, .unset] [(.int (2 : Int32))])) _
      refine XS.iconst X0.here hx rfl (hb hby d2_1) ?_
      show Steps p.tables e below (s₁.setTop (mkF m 2 #[.val (.ref r0), .val (.int (2 : Int32)), .unset, .unset, .unset] [(.int (1 : Int32)), (.int (2 : Int32))])) _
      refine XS.iand X0.here hx rfl (hb hby d2_2) rfl ?_
      show Steps p.tables e below (s₁.setTop (mkF m 3 #[.val (.ref r0), .val (.int (2 : Int32)), .unset, .unset, .unset] [(.int (0 : Int32))])) _
      refine XS.iloadN X0.here hx rfl (hb hby d2_3) rfl ?_
      show Steps p.tables e below (s₁.setTop (mkF m 4 #[.val (.ref r0), .val (.int (2 : Int32)), .unset, .unset, .unset] [(.int (2 : Int32)), (.int (0 : Int32))])) _
      refine XS.iconst X0.here hx rfl (hb hby d2_4) ?_
      show Steps p.tables e below (s₁.setTop (mkF m 5 #[.val (.ref r0), .val (.int (2 : Int32)), .unset, .unset, .unset] [(.int (1 : Int32)), (.int (2 : Int32)), (.int (0 : Int32))])) _
      refine XS.ishr X0.here hx rfl (hb hby d2_5) rfl ?_
      show Steps p.tables e below (s₁.setTop (mkF m 6 #[.val (.ref r0), .val (.int (2 : Int32)), .unset, .unset, .unset] [(.int (1 : Int32)), (.int (0 : Int32))])) _
      refine XS.iconst X0.here hx rfl (hb hby d2_6) ?_
      show Steps p.tables e below (s₁.setTop (mkF m 7 #[.val (.ref r0), .val (.int (2 : Int32)), .unset, .unset, .unset] [(.int (1 : Int32)), (.int (1 : Int32)), (.int (0 : Int32))])) _
      refine XS.iand X0.here hx rfl (hb hby d2_7) rfl ?_
      show Steps p.tables e below (s₁.setTop (mkF m 8 #[.val (.ref r0), .val (.int (2 : Int32)), .unset, .unset, .unset] [(.int (1 : Int32)), (.int (0 : Int32))])) _
      refine XS.iadd X0.here hx rfl (hb hby d2_8) rfl ?_
      show Steps p.tables e below (s₁.setTop (mkF m 9 #[.val (.ref r0), .val (.int (2 : Int32)), .unset, .unset, .unset] [(.int (1 : Int32))])) _
      refine XS.iloadN X0.here hx rfl (hb hby d2_9) rfl ?_
      show Steps p.tables e below (s₁.setTop (mkF m 10 #[.val (.ref r0), .val (.int (2 : Int32)), .unset, .unset, .unset] [(.int (2 : Int32)), (.int (1 : Int32))])) _
      refine XS.iconst X0.here hx rfl (hb hby d2_10) ?_
      show Steps p.tables e below (s₁.setTop (mkF m 11 #[.val (.ref r0), .val (.int (2 : Int32)), .unset, .unset, .unset] [(.int (2 : Int32)), (.int (2 : Int32)), (.int (1 : Int32))])) _
      refine XS.ishr X0.here hx rfl (hb hby d2_11) rfl ?_
      show Steps p.tables e below (s₁.setTop (mkF m 12 #[.val (.ref r0), .val (.int (2 : Int32)), .unset, .unset, .unset] [(.int (0 : Int32)), (.int (1 : Int32))])) _
      refine XS.iconst X0.here hx rfl (hb hby d2_12) ?_
      show Steps p.tables e below (s₁.setTop (mkF m 13 #[.val (.ref r0), .val (.int (2 : Int32)), .unset, .unset, .unset] [(.int (1 : Int32)), (.int (0 : Int32)), (.int (1 : Int32))])) _
      refine XS.iand X0.here hx rfl (hb hby d2_13) rfl ?_
      show Steps p.tables e below (s₁.setTop (mkF m 14 #[.val (.ref r0), .val (.int (2 : Int32)), .unset, .unset, .unset] [(.int (0 : Int32)), (.int (1 : Int32))])) _
      refine XS.iadd X0.here hx rfl (hb hby d2_14) rfl ?_
      show Steps p.tables e below (s₁.setTop (mkF m 15 #[.val (.ref r0), .val (.int (2 : Int32)), .unset, .unset, .unset] [(.int (1 : Int32))])) _
      refine XS.iloadN X0.here hx rfl (hb hby d2_15) rfl ?_
      show Steps p.tables e below (s₁.setTop (mkF m 16 #[.val (.ref r0), .val (.int (2 : Int32)), .unset, .unset, .unset] [(.int (2 : Int32)), (.int (1 : Int32))])) _
      refine XS.iconst X0.here hx rfl (hb hby d2_16) ?_
      show Steps p.tables e below (s₁.setTop (mkF m 17 #[.val (.ref r0), .val (.int (2 : Int32)), .unset, .unset, .unset] [(.int (3 : Int32)), (.int (2 : Int32)), (.int (1 : Int32))])) _
      refine XS.ishr X0.here hx rfl (hb hby d2_17) rfl ?_
      show Steps p.tables e below (s₁.setTop (mkF m 18 #[.val (.ref r0), .val (.int (2 : Int32)), .unset, .unset, .unset] [(.int (0 : Int32)), (.int (1 : Int32))])) _
      refine XS.iconst X0.here hx rfl (hb hby d2_18) ?_
      show Steps p.tables e below (s₁.setTop (mkF m 19 #[.val (.ref r0), .val (.int (2 : Int32)), .unset, .unset, .unset] [(.int (1 : Int32)), (.int (0 : Int32)), (.int (1 : Int32))])) _
      refine XS.iand X0.here hx rfl (hb hby d2_19) rfl ?_
      show Steps p.tables e below (s₁.setTop (mkF m 20 #[.val (.ref r0), .val (.int (2 : Int32)), .unset, .unset, .unset] [(.int (0 : Int32)), (.int (1 : Int32))])) _
      refine XS.iadd X0.here hx rfl (hb hby d2_20) rfl ?_
      show Steps p.tables e below (s₁.setTop (mkF m 21 #[.val (.ref r0), .val (.int (2 : Int32)), .unset, .unset, .unset] [(.int (1 : Int32))])) _
      refine XS.istoreN X0.here hx rfl (hb hby d2_21) rfl (l' := #[.val (.ref r0), .val (.int (2 : Int32)), .val (.int (1 : Int32)), .unset, .unset]) rfl ?_
      show Steps p.tables e below (s₁.setTop (mkF m 22 #[.val (.ref r0), .val (.int (2 : Int32)), .val (.int (1 : Int32)), .unset, .unset] [])) _
      refine XS.iloadN X0.here hx rfl (hb hby d2_22) rfl ?_
      show Steps p.tables e below (s₁.setTop (mkF m 23 #[.val (.ref r0), .val (.int (2 : Int32)), .val (.int (1 : Int32)), .unset, .unset] [(.int (1 : Int32))])) _
      refine st29 _ ?_
      show Steps p.tables e below (T29.setTop (mkF m 25 #[.val (.ref r0), .val (.int (2 : Int32)), .val (.int (1 : Int32)), .unset, .unset] [(.ref b29)])) _
      refine XS.astoreN X29.here hx rfl (hb hby d2_25) rfl rfl (l' := #[.val (.ref r0), .val (.int (2 : Int32)), .val (.int (1 : Int32)), .val (.ref b29), .unset]) rfl ?_
      show Steps p.tables e below (T29.setTop (mkF m 26 #[.val (.ref r0), .val (.int (2 : Int32)), .val (.int (1 : Int32)), .val (.ref b29), .unset] [])) _
      refine XS.iconst X29.here hx rfl (hb hby d2_26) ?_
      show Steps p.tables e below (T29.setTop (mkF m 27 #[.val (.ref r0), .val (.int (2 : Int32)), .val (.int (1 : Int32)), .val (.ref b29), .unset] [(.int (0 : Int32))])) _
      refine XS.istore X29.here hx rfl (hb hby d2_27) rfl (l' := #[.val (.ref r0), .val (.int (2 : Int32)), .val (.int (1 : Int32)), .val (.ref b29), .val (.int (0 : Int32))]) rfl ?_
      show Steps p.tables e below (T29.setTop (mkF m 29 #[.val (.ref r0), .val (.int (2 : Int32)), .val (.int (1 : Int32)), .val (.ref b29), .val (.int (0 : Int32))] [])) _
      refine XS.iloadN X29.here hx rfl (hb hby d2_29) rfl ?_
      show Steps p.tables e below (T29.setTop (mkF m 30 #[.val (.ref r0), .val (.int (2 : Int32)), .val (.int (1 : Int32)), .val (.ref b29), .val (.int (0 : Int32))] [(.int (2 : Int32))])) _
      refine XS.iconst X29.here hx rfl (hb hby d2_30) ?_
      show Steps p.tables e below (T29.setTop (mkF m 31 #[.val (.ref r0), .val (.int (2 : Int32)), .val (.int (1 : Int32)), .val (.ref b29), .val (.int (0 : Int32))] [(.int (1 : Int32)), (.int (2 : Int32))])) _
      refine XS.iand X29.here hx rfl (hb hby d2_31) rfl ?_
      show Steps p.tables e below (T29.setTop (mkF m 32 #[.val (.ref r0), .val (.int (2 : Int32)), .val (.int (1 : Int32)), .val (.ref b29), .val (.int (0 : Int32))] [(.int (0 : Int32))])) _
      refine XS.ifYes X29.here hx rfl (pc0 := 32) (pc' := 45) rfl (hb hby d2_32) rfl ((if0 _ _).trans (teq (by decide : (0 : Int32) = (0 : Int32))).1) (by decide) (by decide) ?_
      show Steps p.tables e below (T29.setTop (mkF m 45 #[.val (.ref r0), .val (.int (2 : Int32)), .val (.int (1 : Int32)), .val (.ref b29), .val (.int (0 : Int32))] [])) _
      refine XS.iloadN X29.here hx rfl (hb hby d2_45) rfl ?_
      show Steps p.tables e below (T29.setTop (mkF m 46 #[.val (.ref r0), .val (.int (2 : Int32)), .val (.int (1 : Int32)), .val (.ref b29), .val (.int (0 : Int32))] [(.int (2 : Int32))])) _
      refine XS.iconst X29.here hx rfl (hb hby d2_46) ?_
      show Steps p.tables e below (T29.setTop (mkF m 47 #[.val (.ref r0), .val (.int (2 : Int32)), .val (.int (1 : Int32)), .val (.ref b29), .val (.int (0 : Int32))] [(.int (2 : Int32)), (.int (2 : Int32))])) _
      refine XS.iand X29.here hx rfl (hb hby d2_47) rfl ?_
      show Steps p.tables e below (T29.setTop (mkF m 48 #[.val (.ref r0), .val (.int (2 : Int32)), .val (.int (1 : Int32)), .val (.ref b29), .val (.int (0 : Int32))] [(.int (2 : Int32))])) _
      refine XS.ifNo X29.here hx rfl (hb hby d2_48) rfl ((if0 _ _).trans (feq (by decide : ¬ ((2 : Int32) = (0 : Int32)))).1) ?_
      show Steps p.tables e below (T29.setTop (mkF m 51 #[.val (.ref r0), .val (.int (2 : Int32)), .val (.int (1 : Int32)), .val (.ref b29), .val (.int (0 : Int32))] [])) _
      refine XS.aloadN X29.here hx rfl (hb hby d2_51) rfl rfl ?_
      show Steps p.tables e below (T29.setTop (mkF m 52 #[.val (.ref r0), .val (.int (2 : Int32)), .val (.int (1 : Int32)), .val (.ref b29), .val (.int (0 : Int32))] [(.ref b29)])) _
      refine XS.iload X29.here hx rfl (hb hby d2_52) rfl ?_
      show Steps p.tables e below (T29.setTop (mkF m 54 #[.val (.ref r0), .val (.int (2 : Int32)), .val (.int (1 : Int32)), .val (.ref b29), .val (.int (0 : Int32))] [(.int (0 : Int32)), (.ref b29)])) _
      refine XS.aloadN X29.here hx rfl (hb hby d2_54) rfl rfl ?_
      show Steps p.tables e below (T29.setTop (mkF m 55 #[.val (.ref r0), .val (.int (2 : Int32)), .val (.int (1 : Int32)), .val (.ref b29), .val (.int (0 : Int32))] [(.ref r0), (.int (0 : Int32)), (.ref b29)])) _
      refine XS.iconst X29.here hx rfl (hb hby d2_55) ?_
      show Steps p.tables e below (T29.setTop (mkF m 56 #[.val (.ref r0), .val (.int (2 : Int32)), .val (.int (1 : Int32)), .val (.ref b29), .val (.int (0 : Int32))] [(.int (1 : Int32)), (.ref r0), (.int (0 : Int32)), (.ref b29)])) _
      refine X29.laload hx (j := (1 : Int32)) (v := (.long (f ((1 : Int32)).toNatClampNeg))) (by rw [e29]; exact Ar36.1) (State.isArrayOf_alike hZ.alike Ar36.2.1) Ar36.2.2 hin36 hat36 (g := (mkF m 56 #[.val (.ref r0), .val (.int (2 : Int32)), .val (.int (1 : Int32)), .val (.ref b29), .val (.int (0 : Int32))] [(.int (1 : Int32)), (.ref r0), (.int (0 : Int32)), (.ref b29)])) rfl rfl (hb hby d2_56) _ ?_
      show Steps p.tables e below (T29.setTop (mkF m 57 #[.val (.ref r0), .val (.int (2 : Int32)), .val (.int (1 : Int32)), .val (.ref b29), .val (.int (0 : Int32))] [(.long (f ((1 : Int32)).toNatClampNeg)), (.int (0 : Int32)), (.ref b29)])) _
      refine st38 _ ?_
      show Steps p.tables e below (T38.setTop (mkF m 58 #[.val (.ref r0), .val (.int (2 : Int32)), .val (.int (1 : Int32)), .val (.ref b29), .val (.int (0 : Int32))] [])) _
      refine XS.iinc X38.here hx rfl (hb hby d2_58) rfl (l' := #[.val (.ref r0), .val (.int (2 : Int32)), .val (.int (1 : Int32)), .val (.ref b29), .val (.int (1 : Int32))]) rfl ?_
      show Steps p.tables e below (T38.setTop (mkF m 61 #[.val (.ref r0), .val (.int (2 : Int32)), .val (.int (1 : Int32)), .val (.ref b29), .val (.int (1 : Int32))] [])) _
      refine XS.iloadN X38.here hx rfl (hb hby d2_61) rfl ?_
      show Steps p.tables e below (T38.setTop (mkF m 62 #[.val (.ref r0), .val (.int (2 : Int32)), .val (.int (1 : Int32)), .val (.ref b29), .val (.int (1 : Int32))] [(.int (2 : Int32))])) _
      refine XS.iconst X38.here hx rfl (hb hby d2_62) ?_
      show Steps p.tables e below (T38.setTop (mkF m 63 #[.val (.ref r0), .val (.int (2 : Int32)), .val (.int (1 : Int32)), .val (.ref b29), .val (.int (1 : Int32))] [(.int (4 : Int32)), (.int (2 : Int32))])) _
      refine XS.iand X38.here hx rfl (hb hby d2_63) rfl ?_
      show Steps p.tables e below (T38.setTop (mkF m 64 #[.val (.ref r0), .val (.int (2 : Int32)), .val (.int (1 : Int32)), .val (.ref b29), .val (.int (1 : Int32))] [(.int (0 : Int32))])) _
      refine XS.ifYes X38.here hx rfl (pc0 := 64) (pc' := 77) rfl (hb hby d2_64) rfl ((if0 _ _).trans (teq (by decide : (0 : Int32) = (0 : Int32))).1) (by decide) (by decide) ?_
      show Steps p.tables e below (T38.setTop (mkF m 77 #[.val (.ref r0), .val (.int (2 : Int32)), .val (.int (1 : Int32)), .val (.ref b29), .val (.int (1 : Int32))] [])) _
      refine XS.iloadN X38.here hx rfl (hb hby d2_77) rfl ?_
      show Steps p.tables e below (T38.setTop (mkF m 78 #[.val (.ref r0), .val (.int (2 : Int32)), .val (.int (1 : Int32)), .val (.ref b29), .val (.int (1 : Int32))] [(.int (2 : Int32))])) _
      refine XS.bipush X38.here hx rfl (hb hby d2_78) ?_
      show Steps p.tables e below (T38.setTop (mkF m 80 #[.val (.ref r0), .val (.int (2 : Int32)), .val (.int (1 : Int32)), .val (.ref b29), .val (.int (1 : Int32))] [(.int (8 : Int32)), (.int (2 : Int32))])) _
      refine XS.iand X38.here hx rfl (hb hby d2_80) rfl ?_
      show Steps p.tables e below (T38.setTop (mkF m 81 #[.val (.ref r0), .val (.int (2 : Int32)), .val (.int (1 : Int32)), .val (.ref b29), .val (.int (1 : Int32))] [(.int (0 : Int32))])) _
      refine XS.ifYes X38.here hx rfl (pc0 := 81) (pc' := 94) rfl (hb hby d2_81) rfl ((if0 _ _).trans (teq (by decide : (0 : Int32) = (0 : Int32))).1) (by decide) (by decide) ?_
      show Steps p.tables e below (T38.setTop (mkF m 94 #[.val (.ref r0), .val (.int (2 : Int32)), .val (.int (1 : Int32)), .val (.ref b29), .val (.int (1 : Int32))] [])) _
      refine XS.aloadN X38.here hx rfl (hb hby d2_94) rfl rfl ?_
      show Steps p.tables e below (T38.setTop (mkF m 95 #[.val (.ref r0), .val (.int (2 : Int32)), .val (.int (1 : Int32)), .val (.ref b29), .val (.int (1 : Int32))] [(.ref b29)])) _
      exact retOut X38 hx Bd.returns rfl (Or.inr (Or.inr (Or.inr (Or.inr ⟨rfl, rfl, rfl⟩)))) (hb hby d2_95) hr
    · show Q2 Z r0 (2 : Int32) f h0 n0 _ T38.heap _
      rw [e38]
      exact ⟨b29, (1 : Int32), (fun i => if i = ((0 : Int32)).toNatClampNeg then (f ((1 : Int32)).toNatClampNeg) else (fun _ => (0 : Int64)) i), rfl, N38, z32, K40, V38, rfl⟩
  · obtain ⟨T41, h41, k41, X41, e41, E41, A41, st41⟩ := newP X0 hx hZ (hw _ (List.mem_of_getElem? (i := 0) rfl)) e0 (g := (mkF m 23 #[.val (.ref r0), .val (.int (3 : Int32)), .val (.int (2 : Int32)), .unset, .unset] [(.int (2 : Int32))])) rfl (hb hby d2_23) rfl (by decide) (cap := 2) (by decide) (by decide) (by decide) (by decide)
    obtain ⟨b41, gb41⟩ : ∃ z, z = h0.size := ⟨_, rfl⟩
    rw [← gb41] at A41 st41
    have ne42 : r0 ≠ b41 := Nat.ne_of_lt (Nat.lt_of_lt_of_le hp0.lt (Nat.le_of_eq gb41.symm))
    have g43 : n0 ≤ b41 := Nat.le_trans Z0 (Nat.le_of_eq gb41.symm)
    have z44 : h0.size ≤ b41 := Nat.le_trans (Keep.refl h0 []).1 (Nat.le_of_eq gb41.symm)
    have Z45 : n0 ≤ h41.size := Nat.le_trans Z0 E41.1
    have K46 : Keep h0 h41 [] := (Keep.refl h0 []).ext E41
    have V41 : AL Z h41 b41 (2 : Int32) (fun _ => (0 : Int64)) := AL.new A41 (by decide)
    have V47 : AL Z h41 r0 (4 : Int32) f := (hp0.ext E41)
    obtain ⟨cl48, Ar48, S48, M48, I48⟩ := id V47
    have hin48 : ¬ ((0 : Int32) < 0 ∨ cl48.slots.size ≤ ((0 : Int32)).toNatClampNeg) := inb_of S48 ⟨by decide, by decide⟩
    have hat48 : cl48.slots[((0 : Int32)).toNatClampNeg]? = some (.long (f ((0 : Int32)).toNatClampNeg)) := I48 _ (Nat.lt_of_not_le fun y => hin48 (Or.inr y))
    obtain ⟨cl49, Ar49, S49, M49, I49⟩ := id V41
    have hin49 : ¬ ((0 : Int32) < 0 ∨ cl49.slots.size ≤ ((0 : Int32)).toNatClampNeg) := inb_of S49 ⟨by decide, by decide⟩
    obtain ⟨T50, h50, X50, e50, W50, st50⟩ := stJ X41 hx hZ e41 Ar49 (j := (0 : Int32)) hin49 (g := (mkF m 41 #[.val (.ref r0), .val (.int (3 : Int32)), .val (.int (2 : Int32)), .val (.ref b41), .val (.int (0 : Int32))] [(.long (f ((0 : Int32)).toNatClampNeg)), (.int (0 : Int32)), (.ref b41)])) rfl rfl (hb hby d2_41)
    have V50 : AL Z h50 b41 (2 : Int32) (fun i => if i = ((0 : Int32)).toNatClampNeg then (f ((0 : Int32)).toNatClampNeg) else (fun _ => (0 : Int64)) i) := AL.set V41 W50
    have Z51 : n0 ≤ h50.size := Nat.le_trans Z45 (Keep.of_wr W50).1
    have K52 : Keep h0 h50 [] := K46.wr W50 (Or.inr z44)
    have N50 := Fr.snoc X50 N0 g43
    have V53 : AL Z h50 r0 (4 : Int32) f := (V47.other W50 ne42)
    obtain ⟨cl54, Ar54, S54, M54, I54⟩ := id V53
    have hin54 : ¬ ((1 : Int32) < 0 ∨ cl54.slots.size ≤ ((1 : Int32)).toNatClampNeg) := inb_of S54 ⟨by decide, by decide⟩
    have hat54 : cl54.slots[((1 : Int32)).toNatClampNeg]? = some (.long (f ((1 : Int32)).toNatClampNeg)) := I54 _ (Nat.lt_of_not_le fun y => hin54 (Or.inr y))
    obtain ⟨cl55, Ar55, S55, M55, I55⟩ := id V50
    have hin55 : ¬ ((1 : Int32) < 0 ∨ cl55.slots.size ≤ ((1 : Int32)).toNatClampNeg) := inb_of S55 ⟨by decide, by decide⟩
    obtain ⟨T56, h56, X56, e56, W56, st56⟩ := stJ X50 hx hZ e50 Ar55 (j := (1 : Int32)) hin55 (g := (mkF m 57 #[.val (.ref r0), .val (.int (3 : Int32)), .val (.int (2 : Int32)), .val (.ref b41), .val (.int (1 : Int32))] [(.long (f ((1 : Int32)).toNatClampNeg)), (.int (1 : Int32)), (.ref b41)])) rfl rfl (hb hby d2_57)
    have V56 : AL Z h56 b41 (2 : Int32) (fun i => if i = ((1 : Int32)).toNatClampNeg then (f ((1 : Int32)).toNatClampNeg) else (fun i => if i = ((0 : Int32)).toNatClampNeg then (f ((0 : Int32)).toNatClampNeg) else (fun _ => (0 : Int64)) i) i) := AL.set V50 W56
    have Z57 : n0 ≤ h56.size := Nat.le_trans Z51 (Keep.of_wr W56).1
    have K58 : Keep h0 h56 [] := K52.wr W56 (Or.inr z44)
    have N56 := Fr.snoc X56 N50 g43
    obtain ⟨fs, hr, hrun, hended, hW, hsame⟩ := X56.leave (v := some (.ref b41)) (fun h => by rw [Bd.returns] at h; cases h)
    refine ⟨_, _, pre0 _ ?_, hrun, hended, _, _, rfl, ?_, ⟨_, rfl⟩, hW, hsame.mono (by decide) (by decide)⟩
    · refine XS.iloadN X0.here hx rfl (hb hby d2_0) rfl ?_
      show Steps p.tables e below (s₁.setTop (mkF m 1 #[.val (.ref r0), .val (.int (3 : Int32)), .unset, .unset, .unset] [(.int (3 : Int32))])) _
      refine XS.iconst X0.here hx rfl (hb hby d2_1) ?_
      show Steps p.tables e below (s₁.setTop (mkF m 2 #[.val (.ref r0), .val (.int (3 : Int32)), .unset, .unset, .unset] [(.int (1 : Int32)), (.int (3 : Int32))])) _
      refine XS.iand X0.here hx rfl (hb hby d2_2) rfl ?_
      show Steps p.tables e below (s₁.setTop (mkF m 3 #[.val (.ref r0), .val (.int (3 : Int32)), .unset, .unset, .unset] [(.int (1 : Int32))])) _
      refine XS.iloadN X0.here hx rfl (hb hby d2_3) rfl ?_
      show Steps p.tables e below (s₁.setTop (mkF m 4 #[.val (.ref r0), .val (.int (3 : Int32)), .unset, .unset, .unset] [(.int (3 : Int32)), (.int (1 : Int32))])) _
      refine XS.iconst X0.here hx rfl (hb hby d2_4) ?_
      show Steps p.tables e below (s₁.setTop (mkF m 5 #[.val (.ref r0), .val (.int (3 : Int32)), .unset, .unset, .unset] [(.int (1 : Int32)), (.int (3 : Int32)), (.int (1 : Int32))])) _
      refine XS.ishr X0.here hx rfl (hb hby d2_5) rfl ?_
      show Steps p.tables e below (s₁.setTop (mkF m 6 #[.val (.ref r0), .val (.int (3 : Int32)), .unset, .unset, .unset] [(.int (1 : Int32)), (.int (1 : Int32))])) _
      refine XS.iconst X0.here hx rfl (hb hby d2_6) ?_
      show Steps p.tables e below (s₁.setTop (mkF m 7 #[.val (.ref r0), .val (.int (3 : Int32)), .unset, .unset, .unset] [(.int (1 : Int32)), (.int (1 : Int32)), (.int (1 : Int32))])) _
      refine XS.iand X0.here hx rfl (hb hby d2_7) rfl ?_
      show Steps p.tables e below (s₁.setTop (mkF m 8 #[.val (.ref r0), .val (.int (3 : Int32)), .unset, .unset, .unset] [(.int (1 : Int32)), (.int (1 : Int32))])) _
      refine XS.iadd X0.here hx rfl (hb hby d2_8) rfl ?_
      show Steps p.tables e below (s₁.setTop (mkF m 9 #[.val (.ref r0), .val (.int (3 : Int32)), .unset, .unset, .unset] [(.int (2 : Int32))])) _
      refine XS.iloadN X0.here hx rfl (hb hby d2_9) rfl ?_
      show Steps p.tables e below (s₁.setTop (mkF m 10 #[.val (.ref r0), .val (.int (3 : Int32)), .unset, .unset, .unset] [(.int (3 : Int32)), (.int (2 : Int32))])) _
      refine XS.iconst X0.here hx rfl (hb hby d2_10) ?_
      show Steps p.tables e below (s₁.setTop (mkF m 11 #[.val (.ref r0), .val (.int (3 : Int32)), .unset, .unset, .unset] [(.int (2 : Int32)), (.int (3 : Int32)), (.int (2 : Int32))])) _
      refine XS.ishr X0.here hx rfl (hb hby d2_11) rfl ?_
      show Steps p.tables e below (s₁.setTop (mkF m 12 #[.val (.ref r0), .val (.int (3 : Int32)), .unset, .unset, .unset] [(.int (0 : Int32)), (.int (2 : Int32))])) _
      refine XS.iconst X0.here hx rfl (hb hby d2_12) ?_
      show Steps p.tables e below (s₁.setTop (mkF m 13 #[.val (.ref r0), .val (.int (3 : Int32)), .unset, .unset, .unset] [(.int (1 : Int32)), (.int (0 : Int32)), (.int (2 : Int32))])) _
      refine XS.iand X0.here hx rfl (hb hby d2_13) rfl ?_
      show Steps p.tables e below (s₁.setTop (mkF m 14 #[.val (.ref r0), .val (.int (3 : Int32)), .unset, .unset, .unset] [(.int (0 : Int32)), (.int (2 : Int32))])) _
      refine XS.iadd X0.here hx rfl (hb hby d2_14) rfl ?_
      show Steps p.tables e below (s₁.setTop (mkF m 15 #[.val (.ref r0), .val (.int (3 : Int32)), .unset, .unset, .unset] [(.int (2 : Int32))])) _
      refine XS.iloadN X0.here hx rfl (hb hby d2_15) rfl ?_
      show Steps p.tables e below (s₁.setTop (mkF m 16 #[.val (.ref r0), .val (.int (3 : Int32)), .unset, .unset, .unset] [(.int (3 : Int32)), (.int (2 : Int32))])) _
      refine XS.iconst X0.here hx rfl (hb hby d2_16) ?_
      show Steps p.tables e below (s₁.setTop (mkF m 17 #[.val (.ref r0), .val (.int (3 : Int32)), .unset, .unset, .unset] [(.int (3 : Int32)), (.int (3 : Int32)), (.int (2 : Int32))])) _
      refine XS.ishr X0.here hx rfl (hb hby d2_17) rfl ?_
      show Steps p.tables e below (s₁.setTop (mkF m 18 #[.val (.ref r0), .val (.int (3 : Int32)), .unset, .unset, .unset] [(.int (0 : Int32)), (.int (2 : Int32))])) _
      refine XS.iconst X0.here hx rfl (hb hby d2_18) ?_
      show Steps p.tables e below (s₁.setTop (mkF m 19 #[.val (.ref r0), .val (.int (3 : Int32)), .unset, .unset, .unset] [(.int (1 : Int32)), (.int (0 : Int32)), (.int (2 : Int32))])) _
      refine XS.iand X0.here hx rfl (hb hby d2_19) rfl ?_
      show Steps p.tables e below (s₁.setTop (mkF m 20 #[.val (.ref r0), .val (.int (3 : Int32)), .unset, .unset, .unset] [(.int (0 : Int32)), (.int (2 : Int32))])) _
      refine XS.iadd X0.here hx rfl (hb hby d2_20) rfl ?_
      show Steps p.tables e below (s₁.setTop (mkF m 21 #[.val (.ref r0), .val (.int (3 : Int32)), .unset, .unset, .unset] [(.int (2 : Int32))])) _
      refine XS.istoreN X0.here hx rfl (hb hby d2_21) rfl (l' := #[.val (.ref r0), .val (.int (3 : Int32)), .val (.int (2 : Int32)), .unset, .unset]) rfl ?_
      show Steps p.tables e below (s₁.setTop (mkF m 22 #[.val (.ref r0), .val (.int (3 : Int32)), .val (.int (2 : Int32)), .unset, .unset] [])) _
      refine XS.iloadN X0.here hx rfl (hb hby d2_22) rfl ?_
      show Steps p.tables e below (s₁.setTop (mkF m 23 #[.val (.ref r0), .val (.int (3 : Int32)), .val (.int (2 : Int32)), .unset, .unset] [(.int (2 : Int32))])) _
      refine st41 _ ?_
      show Steps p.tables e below (T41.setTop (mkF m 25 #[.val (.ref r0), .val (.int (3 : Int32)), .val (.int (2 : Int32)), .unset, .unset] [(.ref b41)])) _
      refine XS.astoreN X41.here hx rfl (hb hby d2_25) rfl rfl (l' := #[.val (.ref r0), .val (.int (3 : Int32)), .val (.int (2 : Int32)), .val (.ref b41), .unset]) rfl ?_
      show Steps p.tables e below (T41.setTop (mkF m 26 #[.val (.ref r0), .val (.int (3 : Int32)), .val (.int (2 : Int32)), .val (.ref b41), .unset] [])) _
      refine XS.iconst X41.here hx rfl (hb hby d2_26) ?_
      show Steps p.tables e below (T41.setTop (mkF m 27 #[.val (.ref r0), .val (.int (3 : Int32)), .val (.int (2 : Int32)), .val (.ref b41), .unset] [(.int (0 : Int32))])) _
      refine XS.istore X41.here hx rfl (hb hby d2_27) rfl (l' := #[.val (.ref r0), .val (.int (3 : Int32)), .val (.int (2 : Int32)), .val (.ref b41), .val (.int (0 : Int32))]) rfl ?_
      show Steps p.tables e below (T41.setTop (mkF m 29 #[.val (.ref r0), .val (.int (3 : Int32)), .val (.int (2 : Int32)), .val (.ref b41), .val (.int (0 : Int32))] [])) _
      refine XS.iloadN X41.here hx rfl (hb hby d2_29) rfl ?_
      show Steps p.tables e below (T41.setTop (mkF m 30 #[.val (.ref r0), .val (.int (3 : Int32)), .val (.int (2 : Int32)), .val (.ref b41), .val (.int (0 : Int32))] [(.int (3 : Int32))])) _
      refine XS.iconst X41.here hx rfl (hb hby d2_30) ?_
      show Steps p.tables e below (T41.setTop (mkF m 31 #[.val (.ref r0), .val (.int (3 : Int32)), .val (.int (2 : Int32)), .val (.ref b41), .val (.int (0 : Int32))] [(.int (1 : Int32)), (.int (3 : Int32))])) _
      refine XS.iand X41.here hx rfl (hb hby d2_31) rfl ?_
      show Steps p.tables e below (T41.setTop (mkF m 32 #[.val (.ref r0), .val (.int (3 : Int32)), .val (.int (2 : Int32)), .val (.ref b41), .val (.int (0 : Int32))] [(.int (1 : Int32))])) _
      refine XS.ifNo X41.here hx rfl (hb hby d2_32) rfl ((if0 _ _).trans (feq (by decide : ¬ ((1 : Int32) = (0 : Int32)))).1) ?_
      show Steps p.tables e below (T41.setTop (mkF m 35 #[.val (.ref r0), .val (.int (3 : Int32)), .val (.int (2 : Int32)), .val (.ref b41), .val (.int (0 : Int32))] [])) _
      refine XS.aloadN X41.here hx rfl (hb hby d2_35) rfl rfl ?_
      show Steps p.tables e below (T41.setTop (mkF m 36 #[.val (.ref r0), .val (.int (3 : Int32)), .val (.int (2 : Int32)), .val (.ref b41), .val (.int (0 : Int32))] [(.ref b41)])) _
      refine XS.iload X41.here hx rfl (hb hby d2_36) rfl ?_
      show Steps p.tables e below (T41.setTop (mkF m 38 #[.val (.ref r0), .val (.int (3 : Int32)), .val (.int (2 : Int32)), .val (.ref b41), .val (.int (0 : Int32))] [(.int (0 : Int32)), (.ref b41)])) _
      refine XS.aloadN X41.here hx rfl (hb hby d2_38) rfl rfl ?_
      show Steps p.tables e below (T41.setTop (mkF m 39 #[.val (.ref r0), .val (.int (3 : Int32)), .val (.int (2 : Int32)), .val (.ref b41), .val (.int (0 : Int32))] [(.ref r0), (.int (0 : Int32)), (.ref b41)])) _
      refine XS.iconst X41.here hx rfl (hb hby d2_39) ?_
      show Steps p.tables e below (T41.setTop (mkF m 40 #[.val (.ref r0), .val (.int (3 : Int32)), .val (.int (2 : Int32)), .val (.ref b41), .val (.int (0 : Int32))] [(.int (0 : Int32)), (.ref r0), (.int (0 : Int32)), (.ref b41)])) _
      refine X41.laload hx (j := (0 : Int32)) (v := (.long (f ((0 : Int32)).toNatClampNeg))) (by rw [e41]; exact Ar48.1) (State.isArrayOf_alike hZ.alike Ar48.2.1) Ar48.2.2 hin48 hat48 (g := (mkF m 40 #[.val (.ref r0), .val (.int (3 : Int32)), .val (.int (2 : Int32)), .val (.ref b41), .val (.int (0 : Int32))] [(.int (0 : Int32)), (.ref r0), (.int (0 : Int32)), (.ref b41)])) rfl rfl (hb hby d2_40) _ ?_
      show Steps p.tables e below (T41.setTop (mkF m 41 #[.val (.ref r0), .val (.int (3 : Int32)), .val (.int (2 : Int32)), .val (.ref b41), .val (.int (0 : Int32))] [(.long (f ((0 : Int32)).toNatClampNeg)), (.int (0 : Int32)), (.ref b41)])) _
      refine st50 _ ?_
      show Steps p.tables e below (T50.setTop (mkF m 42 #[.val (.ref r0), .val (.int (3 : Int32)), .val (.int (2 : Int32)), .val (.ref b41), .val (.int (0 : Int32))] [])) _
      refine XS.iinc X50.here hx rfl (hb hby d2_42) rfl (l' := #[.val (.ref r0), .val (.int (3 : Int32)), .val (.int (2 : Int32)), .val (.ref b41), .val (.int (1 : Int32))]) rfl ?_
      show Steps p.tables e below (T50.setTop (mkF m 45 #[.val (.ref r0), .val (.int (3 : Int32)), .val (.int (2 : Int32)), .val (.ref b41), .val (.int (1 : Int32))] [])) _
      refine XS.iloadN X50.here hx rfl (hb hby d2_45) rfl ?_
      show Steps p.tables e below (T50.setTop (mkF m 46 #[.val (.ref r0), .val (.int (3 : Int32)), .val (.int (2 : Int32)), .val (.ref b41), .val (.int (1 : Int32))] [(.int (3 : Int32))])) _
      refine XS.iconst X50.here hx rfl (hb hby d2_46) ?_
      show Steps p.tables e below (T50.setTop (mkF m 47 #[.val (.ref r0), .val (.int (3 : Int32)), .val (.int (2 : Int32)), .val (.ref b41), .val (.int (1 : Int32))] [(.int (2 : Int32)), (.int (3 : Int32))])) _
      refine XS.iand X50.here hx rfl (hb hby d2_47) rfl ?_
      show Steps p.tables e below (T50.setTop (mkF m 48 #[.val (.ref r0), .val (.int (3 : Int32)), .val (.int (2 : Int32)), .val (.ref b41), .val (.int (1 : Int32))] [(.int (2 : Int32))])) _
      refine XS.ifNo X50.here hx rfl (hb hby d2_48) rfl ((if0 _ _).trans (feq (by decide : ¬ ((2 : Int32) = (0 : Int32)))).1) ?_
      show Steps p.tables e below (T50.setTop (mkF m 51 #[.val (.ref r0), .val (.int (3 : Int32)), .val (.int (2 : Int32)), .val (.ref b41), .val (.int (1 : Int32))] [])) _
      refine XS.aloadN X50.here hx rfl (hb hby d2_51) rfl rfl ?_
      show Steps p.tables e below (T50.setTop (mkF m 52 #[.val (.ref r0), .val (.int (3 : Int32)), .val (.int (2 : Int32)), .val (.ref b41), .val (.int (1 : Int32))] [(.ref b41)])) _
      refine XS.iload X50.here hx rfl (hb hby d2_52) rfl ?_
      show Steps p.tables e below (T50.setTop (mkF m 54 #[.val (.ref r0), .val (.int (3 : Int32)), .val (.int (2 : Int32)), .val (.ref b41), .val (.int (1 : Int32))] [(.int (1 : Int32)), (.ref b41)])) _
      refine XS.aloadN X50.here hx rfl (hb hby d2_54) rfl rfl ?_
      show Steps p.tables e below (T50.setTop (mkF m 55 #[.val (.ref r0), .val (.int (3 : Int32)), .val (.int (2 : Int32)), .val (.ref b41), .val (.int (1 : Int32))] [(.ref r0), (.int (1 : Int32)), (.ref b41)])) _
      refine XS.iconst X50.here hx rfl (hb hby d2_55) ?_
      show Steps p.tables e below (T50.setTop (mkF m 56 #[.val (.ref r0), .val (.int (3 : Int32)), .val (.int (2 : Int32)), .val (.ref b41), .val (.int (1 : Int32))] [(.int (1 : Int32)), (.ref r0), (.int (1 : Int32)), (.ref b41)])) _
      refine X50.laload hx (j := (1 : Int32)) (v := (.long (f ((1 : Int32)).toNatClampNeg))) (by rw [e50]; exact Ar54.1) (State.isArrayOf_alike hZ.alike Ar54.2.1) Ar54.2.2 hin54 hat54 (g := (mkF m 56 #[.val (.ref r0), .val (.int (3 : Int32)), .val (.int (2 : Int32)), .val (.ref b41), .val (.int (1 : Int32))] [(.int (1 : Int32)), (.ref r0), (.int (1 : Int32)), (.ref b41)])) rfl rfl (hb hby d2_56) _ ?_
      show Steps p.tables e below (T50.setTop (mkF m 57 #[.val (.ref r0), .val (.int (3 : Int32)), .val (.int (2 : Int32)), .val (.ref b41), .val (.int (1 : Int32))] [(.long (f ((1 : Int32)).toNatClampNeg)), (.int (1 : Int32)), (.ref b41)])) _
      refine st56 _ ?_
      show Steps p.tables e below (T56.setTop (mkF m 58 #[.val (.ref r0), .val (.int (3 : Int32)), .val (.int (2 : Int32)), .val (.ref b41), .val (.int (1 : Int32))] [])) _
      refine XS.iinc X56.here hx rfl (hb hby d2_58) rfl (l' := #[.val (.ref r0), .val (.int (3 : Int32)), .val (.int (2 : Int32)), .val (.ref b41), .val (.int (2 : Int32))]) rfl ?_
      show Steps p.tables e below (T56.setTop (mkF m 61 #[.val (.ref r0), .val (.int (3 : Int32)), .val (.int (2 : Int32)), .val (.ref b41), .val (.int (2 : Int32))] [])) _
      refine XS.iloadN X56.here hx rfl (hb hby d2_61) rfl ?_
      show Steps p.tables e below (T56.setTop (mkF m 62 #[.val (.ref r0), .val (.int (3 : Int32)), .val (.int (2 : Int32)), .val (.ref b41), .val (.int (2 : Int32))] [(.int (3 : Int32))])) _
      refine XS.iconst X56.here hx rfl (hb hby d2_62) ?_
      show Steps p.tables e below (T56.setTop (mkF m 63 #[.val (.ref r0), .val (.int (3 : Int32)), .val (.int (2 : Int32)), .val (.ref b41), .val (.int (2 : Int32))] [(.int (4 : Int32)), (.int (3 : Int32))])) _
      refine XS.iand X56.here hx rfl (hb hby d2_63) rfl ?_
      show Steps p.tables e below (T56.setTop (mkF m 64 #[.val (.ref r0), .val (.int (3 : Int32)), .val (.int (2 : Int32)), .val (.ref b41), .val (.int (2 : Int32))] [(.int (0 : Int32))])) _
      refine XS.ifYes X56.here hx rfl (pc0 := 64) (pc' := 77) rfl (hb hby d2_64) rfl ((if0 _ _).trans (teq (by decide : (0 : Int32) = (0 : Int32))).1) (by decide) (by decide) ?_
      show Steps p.tables e below (T56.setTop (mkF m 77 #[.val (.ref r0), .val (.int (3 : Int32)), .val (.int (2 : Int32)), .val (.ref b41), .val (.int (2 : Int32))] [])) _
      refine XS.iloadN X56.here hx rfl (hb hby d2_77) rfl ?_
      show Steps p.tables e below (T56.setTop (mkF m 78 #[.val (.ref r0), .val (.int (3 : Int32)), .val (.int (2 : Int32)), .val (.ref b41), .val (.int (2 : Int32))] [(.int (3 : Int32))])) _
      refine XS.bipush X56.here hx rfl (hb hby d2_78) ?_
      show Steps p.tables e below (T56.setTop (mkF m 80 #[.val (.ref r0), .val (.int (3 : Int32)), .val (.int (2 : Int32)), .val (.ref b41), .val (.int (2 : Int32))] [(.int (8 : Int32)), (.int (3 : Int32))])) _
      refine XS.iand X56.here hx rfl (hb hby d2_80) rfl ?_
      show Steps p.tables e below (T56.setTop (mkF m 81 #[.val (.ref r0), .val (.int (3 : Int32)), .val (.int (2 : Int32)), .val (.ref b41), .val (.int (2 : Int32))] [(.int (0 : Int32))])) _
      refine XS.ifYes X56.here hx rfl (pc0 := 81) (pc' := 94) rfl (hb hby d2_81) rfl ((if0 _ _).trans (teq (by decide : (0 : Int32) = (0 : Int32))).1) (by decide) (by decide) ?_
      show Steps p.tables e below (T56.setTop (mkF m 94 #[.val (.ref r0), .val (.int (3 : Int32)), .val (.int (2 : Int32)), .val (.ref b41), .val (.int (2 : Int32))] [])) _
      refine XS.aloadN X56.here hx rfl (hb hby d2_94) rfl rfl ?_
      show Steps p.tables e below (T56.setTop (mkF m 95 #[.val (.ref r0), .val (.int (3 : Int32)), .val (.int (2 : Int32)), .val (.ref b41), .val (.int (2 : Int32))] [(.ref b41)])) _
      exact retOut X56 hx Bd.returns rfl (Or.inr (Or.inr (Or.inr (Or.inr ⟨rfl, rfl, rfl⟩)))) (hb hby d2_95) hr
    · show Q2 Z r0 (3 : Int32) f h0 n0 _ T56.heap _
      rw [e56]
      exact ⟨b41, (2 : Int32), (fun i => if i = ((1 : Int32)).toNatClampNeg then (f ((1 : Int32)).toNatClampNeg) else (fun i => if i = ((0 : Int32)).toNatClampNeg then (f ((0 : Int32)).toNatClampNeg) else (fun _ => (0 : Int64)) i) i), rfl, N56, z44, K58, V56, rfl⟩
  · obtain ⟨T59, h59, k59, X59, e59, E59, A59, st59⟩ := newP X0 hx hZ (hw _ (List.mem_of_getElem? (i := 0) rfl)) e0 (g := (mkF m 23 #[.val (.ref r0), .val (.int (4 : Int32)), .val (.int (1 : Int32)), .unset, .unset] [(.int (1 : Int32))])) rfl (hb hby d2_23) rfl (by decide) (cap := 1) (by decide) (by decide) (by decide) (by decide)
    obtain ⟨b59, gb59⟩ : ∃ z, z = h0.size := ⟨_, rfl⟩
    rw [← gb59] at A59 st59
    have ne60 : r0 ≠ b59 := Nat.ne_of_lt (Nat.lt_of_lt_of_le hp0.lt (Nat.le_of_eq gb59.symm))
    have g61 : n0 ≤ b59 := Nat.le_trans Z0 (Nat.le_of_eq gb59.symm)
    have z62 : h0.size ≤ b59 := Nat.le_trans (Keep.refl h0 []).1 (Nat.le_of_eq gb59.symm)
    have Z63 : n0 ≤ h59.size := Nat.le_trans Z0 E59.1
    have K64 : Keep h0 h59 [] := (Keep.refl h0 []).ext E59
    have V59 : AL Z h59 b59 (1 : Int32) (fun _ => (0 : Int64)) := AL.new A59 (by decide)
    have V65 : AL Z h59 r0 (4 : Int32) f := (hp0.ext E59)
    obtain ⟨cl66, Ar66, S66, M66, I66⟩ := id V65
    have hin66 : ¬ ((2 : Int32) < 0 ∨ cl66.slots.size ≤ ((2 : Int32)).toNatClampNeg) := inb_of S66 ⟨by decide, by decide⟩
    have hat66 : cl66.slots[((2 : Int32)).toNatClampNeg]? = some (.long (f ((2 : Int32)).toNatClampNeg)) := I66 _ (Nat.lt_of_not_le fun y => hin66 (Or.inr y))
    obtain ⟨cl67, Ar67, S67, M67, I67⟩ := id V59
    have hin67 : ¬ ((0 : Int32) < 0 ∨ cl67.slots.size ≤ ((0 : Int32)).toNatClampNeg) := inb_of S67 ⟨by decide, by decide⟩
    obtain ⟨T68, h68, X68, e68, W68, st68⟩ := stJ X59 hx hZ e59 Ar67 (j := (0 : Int32)) hin67 (g := (mkF m 73 #[.val (.ref r0), .val (.int (4 : Int32)), .val (.int (1 : Int32)), .val (.ref b59), .val (.int (0 : Int32))] [(.long (f ((2 : Int32)).toNatClampNeg)), (.int (0 : Int32)), (.ref b59)])) rfl rfl (hb hby d2_73)
    have V68 : AL Z h68 b59 (1 : Int32) (fun i => if i = ((0 : Int32)).toNatClampNeg then (f ((2 : Int32)).toNatClampNeg) else (fun _ => (0 : Int64)) i) := AL.set V59 W68
    have Z69 : n0 ≤ h68.size := Nat.le_trans Z63 (Keep.of_wr W68).1
    have K70 : Keep h0 h68 [] := K64.wr W68 (Or.inr z62)
    have N68 := Fr.snoc X68 N0 g61
    obtain ⟨fs, hr, hrun, hended, hW, hsame⟩ := X68.leave (v := some (.ref b59)) (fun h => by rw [Bd.returns] at h; cases h)
    refine ⟨_, _, pre0 _ ?_, hrun, hended, _, _, rfl, ?_, ⟨_, rfl⟩, hW, hsame.mono (by decide) (by decide)⟩
    · refine XS.iloadN X0.here hx rfl (hb hby d2_0) rfl ?_
      show Steps p.tables e below (s₁.setTop (mkF m 1 #[.val (.ref r0), .val (.int (4 : Int32)), .unset, .unset, .unset] [(.int (4 : Int32))])) _
      refine XS.iconst X0.here hx rfl (hb hby d2_1) ?_
      show Steps p.tables e below (s₁.setTop (mkF m 2 #[.val (.ref r0), .val (.int (4 : Int32)), .unset, .unset, .unset] [(.int (1 : Int32)), (.int (4 : Int32))])) _
      refine XS.iand X0.here hx rfl (hb hby d2_2) rfl ?_
      show Steps p.tables e below (s₁.setTop (mkF m 3 #[.val (.ref r0), .val (.int (4 : Int32)), .unset, .unset, .unset] [(.int (0 : Int32))])) _
      refine XS.iloadN X0.here hx rfl (hb hby d2_3) rfl ?_
      show Steps p.tables e below (s₁.setTop (mkF m 4 #[.val (.ref r0), .val (.int (4 : Int32)), .unset, .unset, .unset] [(.int (4 : Int32)), (.int (0 : Int32))])) _
      refine XS.iconst X0.here hx rfl (hb hby d2_4) ?_
      show Steps p.tables e below (s₁.setTop (mkF m 5 #[.val (.ref r0), .val (.int (4 : Int32)), .unset, .unset, .unset] [(.int (1 : Int32)), (.int (4 : Int32)), (.int (0 : Int32))])) _
      refine XS.ishr X0.here hx rfl (hb hby d2_5) rfl ?_
      show Steps p.tables e below (s₁.setTop (mkF m 6 #[.val (.ref r0), .val (.int (4 : Int32)), .unset, .unset, .unset] [(.int (2 : Int32)), (.int (0 : Int32))])) _
      refine XS.iconst X0.here hx rfl (hb hby d2_6) ?_
      show Steps p.tables e below (s₁.setTop (mkF m 7 #[.val (.ref r0), .val (.int (4 : Int32)), .unset, .unset, .unset] [(.int (1 : Int32)), (.int (2 : Int32)), (.int (0 : Int32))])) _
      refine XS.iand X0.here hx rfl (hb hby d2_7) rfl ?_
      show Steps p.tables e below (s₁.setTop (mkF m 8 #[.val (.ref r0), .val (.int (4 : Int32)), .unset, .unset, .unset] [(.int (0 : Int32)), (.int (0 : Int32))])) _
      refine XS.iadd X0.here hx rfl (hb hby d2_8) rfl ?_
      show Steps p.tables e below (s₁.setTop (mkF m 9 #[.val (.ref r0), .val (.int (4 : Int32)), .unset, .unset, .unset] [(.int (0 : Int32))])) _
      refine XS.iloadN X0.here hx rfl (hb hby d2_9) rfl ?_
      show Steps p.tables e below (s₁.setTop (mkF m 10 #[.val (.ref r0), .val (.int (4 : Int32)), .unset, .unset, .unset] [(.int (4 : Int32)), (.int (0 : Int32))])) _
      refine XS.iconst X0.here hx rfl (hb hby d2_10) ?_
      show Steps p.tables e below (s₁.setTop (mkF m 11 #[.val (.ref r0), .val (.int (4 : Int32)), .unset, .unset, .unset] [(.int (2 : Int32)), (.int (4 : Int32)), (.int (0 : Int32))])) _
      refine XS.ishr X0.here hx rfl (hb hby d2_11) rfl ?_
      show Steps p.tables e below (s₁.setTop (mkF m 12 #[.val (.ref r0), .val (.int (4 : Int32)), .unset, .unset, .unset] [(.int (1 : Int32)), (.int (0 : Int32))])) _
      refine XS.iconst X0.here hx rfl (hb hby d2_12) ?_
      show Steps p.tables e below (s₁.setTop (mkF m 13 #[.val (.ref r0), .val (.int (4 : Int32)), .unset, .unset, .unset] [(.int (1 : Int32)), (.int (1 : Int32)), (.int (0 : Int32))])) _
      refine XS.iand X0.here hx rfl (hb hby d2_13) rfl ?_
      show Steps p.tables e below (s₁.setTop (mkF m 14 #[.val (.ref r0), .val (.int (4 : Int32)), .unset, .unset, .unset] [(.int (1 : Int32)), (.int (0 : Int32))])) _
      refine XS.iadd X0.here hx rfl (hb hby d2_14) rfl ?_
      show Steps p.tables e below (s₁.setTop (mkF m 15 #[.val (.ref r0), .val (.int (4 : Int32)), .unset, .unset, .unset] [(.int (1 : Int32))])) _
      refine XS.iloadN X0.here hx rfl (hb hby d2_15) rfl ?_
      show Steps p.tables e below (s₁.setTop (mkF m 16 #[.val (.ref r0), .val (.int (4 : Int32)), .unset, .unset, .unset] [(.int (4 : Int32)), (.int (1 : Int32))])) _
      refine XS.iconst X0.here hx rfl (hb hby d2_16) ?_
      show Steps p.tables e below (s₁.setTop (mkF m 17 #[.val (.ref r0), .val (.int (4 : Int32)), .unset, .unset, .unset] [(.int (3 : Int32)), (.int (4 : Int32)), (.int (1 : Int32))])) _
      refine XS.ishr X0.here hx rfl (hb hby d2_17) rfl ?_
      show Steps p.tables e below (s₁.setTop (mkF m 18 #[.val (.ref r0), .val (.int (4 : Int32)), .unset, .unset, .unset] [(.int (0 : Int32)), (.int (1 : Int32))])) _
      refine XS.iconst X0.here hx rfl (hb hby d2_18) ?_
      show Steps p.tables e below (s₁.setTop (mkF m 19 #[.val (.ref r0), .val (.int (4 : Int32)), .unset, .unset, .unset] [(.int (1 : Int32)), (.int (0 : Int32)), (.int (1 : Int32))])) _
      refine XS.iand X0.here hx rfl (hb hby d2_19) rfl ?_
      show Steps p.tables e below (s₁.setTop (mkF m 20 #[.val (.ref r0), .val (.int (4 : Int32)), .unset, .unset, .unset] [(.int (0 : Int32)), (.int (1 : Int32))])) _
      refine XS.iadd X0.here hx rfl (hb hby d2_20) rfl ?_
      show Steps p.tables e below (s₁.setTop (mkF m 21 #[.val (.ref r0), .val (.int (4 : Int32)), .unset, .unset, .unset] [(.int (1 : Int32))])) _
      refine XS.istoreN X0.here hx rfl (hb hby d2_21) rfl (l' := #[.val (.ref r0), .val (.int (4 : Int32)), .val (.int (1 : Int32)), .unset, .unset]) rfl ?_
      show Steps p.tables e below (s₁.setTop (mkF m 22 #[.val (.ref r0), .val (.int (4 : Int32)), .val (.int (1 : Int32)), .unset, .unset] [])) _
      refine XS.iloadN X0.here hx rfl (hb hby d2_22) rfl ?_
      show Steps p.tables e below (s₁.setTop (mkF m 23 #[.val (.ref r0), .val (.int (4 : Int32)), .val (.int (1 : Int32)), .unset, .unset] [(.int (1 : Int32))])) _
      refine st59 _ ?_
      show Steps p.tables e below (T59.setTop (mkF m 25 #[.val (.ref r0), .val (.int (4 : Int32)), .val (.int (1 : Int32)), .unset, .unset] [(.ref b59)])) _
      refine XS.astoreN X59.here hx rfl (hb hby d2_25) rfl rfl (l' := #[.val (.ref r0), .val (.int (4 : Int32)), .val (.int (1 : Int32)), .val (.ref b59), .unset]) rfl ?_
      show Steps p.tables e below (T59.setTop (mkF m 26 #[.val (.ref r0), .val (.int (4 : Int32)), .val (.int (1 : Int32)), .val (.ref b59), .unset] [])) _
      refine XS.iconst X59.here hx rfl (hb hby d2_26) ?_
      show Steps p.tables e below (T59.setTop (mkF m 27 #[.val (.ref r0), .val (.int (4 : Int32)), .val (.int (1 : Int32)), .val (.ref b59), .unset] [(.int (0 : Int32))])) _
      refine XS.istore X59.here hx rfl (hb hby d2_27) rfl (l' := #[.val (.ref r0), .val (.int (4 : Int32)), .val (.int (1 : Int32)), .val (.ref b59), .val (.int (0 : Int32))]) rfl ?_
      show Steps p.tables e below (T59.setTop (mkF m 29 #[.val (.ref r0), .val (.int (4 : Int32)), .val (.int (1 : Int32)), .val (.ref b59), .val (.int (0 : Int32))] [])) _
      refine XS.iloadN X59.here hx rfl (hb hby d2_29) rfl ?_
      show Steps p.tables e below (T59.setTop (mkF m 30 #[.val (.ref r0), .val (.int (4 : Int32)), .val (.int (1 : Int32)), .val (.ref b59), .val (.int (0 : Int32))] [(.int (4 : Int32))])) _
      refine XS.iconst X59.here hx rfl (hb hby d2_30) ?_
      show Steps p.tables e below (T59.setTop (mkF m 31 #[.val (.ref r0), .val (.int (4 : Int32)), .val (.int (1 : Int32)), .val (.ref b59), .val (.int (0 : Int32))] [(.int (1 : Int32)), (.int (4 : Int32))])) _
      refine XS.iand X59.here hx rfl (hb hby d2_31) rfl ?_
      show Steps p.tables e below (T59.setTop (mkF m 32 #[.val (.ref r0), .val (.int (4 : Int32)), .val (.int (1 : Int32)), .val (.ref b59), .val (.int (0 : Int32))] [(.int (0 : Int32))])) _
      refine XS.ifYes X59.here hx rfl (pc0 := 32) (pc' := 45) rfl (hb hby d2_32) rfl ((if0 _ _).trans (teq (by decide : (0 : Int32) = (0 : Int32))).1) (by decide) (by decide) ?_
      show Steps p.tables e below (T59.setTop (mkF m 45 #[.val (.ref r0), .val (.int (4 : Int32)), .val (.int (1 : Int32)), .val (.ref b59), .val (.int (0 : Int32))] [])) _
      refine XS.iloadN X59.here hx rfl (hb hby d2_45) rfl ?_
      show Steps p.tables e below (T59.setTop (mkF m 46 #[.val (.ref r0), .val (.int (4 : Int32)), .val (.int (1 : Int32)), .val (.ref b59), .val (.int (0 : Int32))] [(.int (4 : Int32))])) _
      refine XS.iconst X59.here hx rfl (hb hby d2_46) ?_
      show Steps p.tables e below (T59.setTop (mkF m 47 #[.val (.ref r0), .val (.int (4 : Int32)), .val (.int (1 : Int32)), .val (.ref b59), .val (.int (0 : Int32))] [(.int (2 : Int32)), (.int (4 : Int32))])) _
      refine XS.iand X59.here hx rfl (hb hby d2_47) rfl ?_
      show Steps p.tables e below (T59.setTop (mkF m 48 #[.val (.ref r0), .val (.int (4 : Int32)), .val (.int (1 : Int32)), .val (.ref b59), .val (.int (0 : Int32))] [(.int (0 : Int32))])) _
      refine XS.ifYes X59.here hx rfl (pc0 := 48) (pc' := 61) rfl (hb hby d2_48) rfl ((if0 _ _).trans (teq (by decide : (0 : Int32) = (0 : Int32))).1) (by decide) (by decide) ?_
      show Steps p.tables e below (T59.setTop (mkF m 61 #[.val (.ref r0), .val (.int (4 : Int32)), .val (.int (1 : Int32)), .val (.ref b59), .val (.int (0 : Int32))] [])) _
      refine XS.iloadN X59.here hx rfl (hb hby d2_61) rfl ?_
      show Steps p.tables e below (T59.setTop (mkF m 62 #[.val (.ref r0), .val (.int (4 : Int32)), .val (.int (1 : Int32)), .val (.ref b59), .val (.int (0 : Int32))] [(.int (4 : Int32))])) _
      refine XS.iconst X59.here hx rfl (hb hby d2_62) ?_
      show Steps p.tables e below (T59.setTop (mkF m 63 #[.val (.ref r0), .val (.int (4 : Int32)), .val (.int (1 : Int32)), .val (.ref b59), .val (.int (0 : Int32))] [(.int (4 : Int32)), (.int (4 : Int32))])) _
      refine XS.iand X59.here hx rfl (hb hby d2_63) rfl ?_
      show Steps p.tables e below (T59.setTop (mkF m 64 #[.val (.ref r0), .val (.int (4 : Int32)), .val (.int (1 : Int32)), .val (.ref b59), .val (.int (0 : Int32))] [(.int (4 : Int32))])) _
      refine XS.ifNo X59.here hx rfl (hb hby d2_64) rfl ((if0 _ _).trans (feq (by decide : ¬ ((4 : Int32) = (0 : Int32)))).1) ?_
      show Steps p.tables e below (T59.setTop (mkF m 67 #[.val (.ref r0), .val (.int (4 : Int32)), .val (.int (1 : Int32)), .val (.ref b59), .val (.int (0 : Int32))] [])) _
      refine XS.aloadN X59.here hx rfl (hb hby d2_67) rfl rfl ?_
      show Steps p.tables e below (T59.setTop (mkF m 68 #[.val (.ref r0), .val (.int (4 : Int32)), .val (.int (1 : Int32)), .val (.ref b59), .val (.int (0 : Int32))] [(.ref b59)])) _
      refine XS.iload X59.here hx rfl (hb hby d2_68) rfl ?_
      show Steps p.tables e below (T59.setTop (mkF m 70 #[.val (.ref r0), .val (.int (4 : Int32)), .val (.int (1 : Int32)), .val (.ref b59), .val (.int (0 : Int32))] [(.int (0 : Int32)), (.ref b59)])) _
      refine XS.aloadN X59.here hx rfl (hb hby d2_70) rfl rfl ?_
      show Steps p.tables e below (T59.setTop (mkF m 71 #[.val (.ref r0), .val (.int (4 : Int32)), .val (.int (1 : Int32)), .val (.ref b59), .val (.int (0 : Int32))] [(.ref r0), (.int (0 : Int32)), (.ref b59)])) _
      refine XS.iconst X59.here hx rfl (hb hby d2_71) ?_
      show Steps p.tables e below (T59.setTop (mkF m 72 #[.val (.ref r0), .val (.int (4 : Int32)), .val (.int (1 : Int32)), .val (.ref b59), .val (.int (0 : Int32))] [(.int (2 : Int32)), (.ref r0), (.int (0 : Int32)), (.ref b59)])) _
      refine X59.laload hx (j := (2 : Int32)) (v := (.long (f ((2 : Int32)).toNatClampNeg))) (by rw [e59]; exact Ar66.1) (State.isArrayOf_alike hZ.alike Ar66.2.1) Ar66.2.2 hin66 hat66 (g := (mkF m 72 #[.val (.ref r0), .val (.int (4 : Int32)), .val (.int (1 : Int32)), .val (.ref b59), .val (.int (0 : Int32))] [(.int (2 : Int32)), (.ref r0), (.int (0 : Int32)), (.ref b59)])) rfl rfl (hb hby d2_72) _ ?_
      show Steps p.tables e below (T59.setTop (mkF m 73 #[.val (.ref r0), .val (.int (4 : Int32)), .val (.int (1 : Int32)), .val (.ref b59), .val (.int (0 : Int32))] [(.long (f ((2 : Int32)).toNatClampNeg)), (.int (0 : Int32)), (.ref b59)])) _
      refine st68 _ ?_
      show Steps p.tables e below (T68.setTop (mkF m 74 #[.val (.ref r0), .val (.int (4 : Int32)), .val (.int (1 : Int32)), .val (.ref b59), .val (.int (0 : Int32))] [])) _
      refine XS.iinc X68.here hx rfl (hb hby d2_74) rfl (l' := #[.val (.ref r0), .val (.int (4 : Int32)), .val (.int (1 : Int32)), .val (.ref b59), .val (.int (1 : Int32))]) rfl ?_
      show Steps p.tables e below (T68.setTop (mkF m 77 #[.val (.ref r0), .val (.int (4 : Int32)), .val (.int (1 : Int32)), .val (.ref b59), .val (.int (1 : Int32))] [])) _
      refine XS.iloadN X68.here hx rfl (hb hby d2_77) rfl ?_
      show Steps p.tables e below (T68.setTop (mkF m 78 #[.val (.ref r0), .val (.int (4 : Int32)), .val (.int (1 : Int32)), .val (.ref b59), .val (.int (1 : Int32))] [(.int (4 : Int32))])) _
      refine XS.bipush X68.here hx rfl (hb hby d2_78) ?_
      show Steps p.tables e below (T68.setTop (mkF m 80 #[.val (.ref r0), .val (.int (4 : Int32)), .val (.int (1 : Int32)), .val (.ref b59), .val (.int (1 : Int32))] [(.int (8 : Int32)), (.int (4 : Int32))])) _
      refine XS.iand X68.here hx rfl (hb hby d2_80) rfl ?_
      show Steps p.tables e below (T68.setTop (mkF m 81 #[.val (.ref r0), .val (.int (4 : Int32)), .val (.int (1 : Int32)), .val (.ref b59), .val (.int (1 : Int32))] [(.int (0 : Int32))])) _
      refine XS.ifYes X68.here hx rfl (pc0 := 81) (pc' := 94) rfl (hb hby d2_81) rfl ((if0 _ _).trans (teq (by decide : (0 : Int32) = (0 : Int32))).1) (by decide) (by decide) ?_
      show Steps p.tables e below (T68.setTop (mkF m 94 #[.val (.ref r0), .val (.int (4 : Int32)), .val (.int (1 : Int32)), .val (.ref b59), .val (.int (1 : Int32))] [])) _
      refine XS.aloadN X68.here hx rfl (hb hby d2_94) rfl rfl ?_
      show Steps p.tables e below (T68.setTop (mkF m 95 #[.val (.ref r0), .val (.int (4 : Int32)), .val (.int (1 : Int32)), .val (.ref b59), .val (.int (1 : Int32))] [(.ref b59)])) _
      exact retOut X68 hx Bd.returns rfl (Or.inr (Or.inr (Or.inr (Or.inr ⟨rfl, rfl, rfl⟩)))) (hb hby d2_95) hr
    · show Q2 Z r0 (4 : Int32) f h0 n0 _ T68.heap _
      rw [e68]
      exact ⟨b59, (1 : Int32), (fun i => if i = ((0 : Int32)).toNatClampNeg then (f ((2 : Int32)).toNatClampNeg) else (fun _ => (0 : Int64)) i), rfl, N68, z62, K70, V68, rfl⟩
  · obtain ⟨T71, h71, k71, X71, e71, E71, A71, st71⟩ := newP X0 hx hZ (hw _ (List.mem_of_getElem? (i := 0) rfl)) e0 (g := (mkF m 23 #[.val (.ref r0), .val (.int (5 : Int32)), .val (.int (2 : Int32)), .unset, .unset] [(.int (2 : Int32))])) rfl (hb hby d2_23) rfl (by decide) (cap := 2) (by decide) (by decide) (by decide) (by decide)
    obtain ⟨b71, gb71⟩ : ∃ z, z = h0.size := ⟨_, rfl⟩
    rw [← gb71] at A71 st71
    have ne72 : r0 ≠ b71 := Nat.ne_of_lt (Nat.lt_of_lt_of_le hp0.lt (Nat.le_of_eq gb71.symm))
    have g73 : n0 ≤ b71 := Nat.le_trans Z0 (Nat.le_of_eq gb71.symm)
    have z74 : h0.size ≤ b71 := Nat.le_trans (Keep.refl h0 []).1 (Nat.le_of_eq gb71.symm)
    have Z75 : n0 ≤ h71.size := Nat.le_trans Z0 E71.1
    have K76 : Keep h0 h71 [] := (Keep.refl h0 []).ext E71
    have V71 : AL Z h71 b71 (2 : Int32) (fun _ => (0 : Int64)) := AL.new A71 (by decide)
    have V77 : AL Z h71 r0 (4 : Int32) f := (hp0.ext E71)
    obtain ⟨cl78, Ar78, S78, M78, I78⟩ := id V77
    have hin78 : ¬ ((0 : Int32) < 0 ∨ cl78.slots.size ≤ ((0 : Int32)).toNatClampNeg) := inb_of S78 ⟨by decide, by decide⟩
    have hat78 : cl78.slots[((0 : Int32)).toNatClampNeg]? = some (.long (f ((0 : Int32)).toNatClampNeg)) := I78 _ (Nat.lt_of_not_le fun y => hin78 (Or.inr y))
    obtain ⟨cl79, Ar79, S79, M79, I79⟩ := id V71
    have hin79 : ¬ ((0 : Int32) < 0 ∨ cl79.slots.size ≤ ((0 : Int32)).toNatClampNeg) := inb_of S79 ⟨by decide, by decide⟩
    obtain ⟨T80, h80, X80, e80, W80, st80⟩ := stJ X71 hx hZ e71 Ar79 (j := (0 : Int32)) hin79 (g := (mkF m 41 #[.val (.ref r0), .val (.int (5 : Int32)), .val (.int (2 : Int32)), .val (.ref b71), .val (.int (0 : Int32))] [(.long (f ((0 : Int32)).toNatClampNeg)), (.int (0 : Int32)), (.ref b71)])) rfl rfl (hb hby d2_41)
    have V80 : AL Z h80 b71 (2 : Int32) (fun i => if i = ((0 : Int32)).toNatClampNeg then (f ((0 : Int32)).toNatClampNeg) else (fun _ => (0 : Int64)) i) := AL.set V71 W80
    have Z81 : n0 ≤ h80.size := Nat.le_trans Z75 (Keep.of_wr W80).1
    have K82 : Keep h0 h80 [] := K76.wr W80 (Or.inr z74)
    have N80 := Fr.snoc X80 N0 g73
    have V83 : AL Z h80 r0 (4 : Int32) f := (V77.other W80 ne72)
    obtain ⟨cl84, Ar84, S84, M84, I84⟩ := id V83
    have hin84 : ¬ ((2 : Int32) < 0 ∨ cl84.slots.size ≤ ((2 : Int32)).toNatClampNeg) := inb_of S84 ⟨by decide, by decide⟩
    have hat84 : cl84.slots[((2 : Int32)).toNatClampNeg]? = some (.long (f ((2 : Int32)).toNatClampNeg)) := I84 _ (Nat.lt_of_not_le fun y => hin84 (Or.inr y))
    obtain ⟨cl85, Ar85, S85, M85, I85⟩ := id V80
    have hin85 : ¬ ((1 : Int32) < 0 ∨ cl85.slots.size ≤ ((1 : Int32)).toNatClampNeg) := inb_of S85 ⟨by decide, by decide⟩
    obtain ⟨T86, h86, X86, e86, W86, st86⟩ := stJ X80 hx hZ e80 Ar85 (j := (1 : Int32)) hin85 (g := (mkF m 73 #[.val (.ref r0), .val (.int (5 : Int32)), .val (.int (2 : Int32)), .val (.ref b71), .val (.int (1 : Int32))] [(.long (f ((2 : Int32)).toNatClampNeg)), (.int (1 : Int32)), (.ref b71)])) rfl rfl (hb hby d2_73)
    have V86 : AL Z h86 b71 (2 : Int32) (fun i => if i = ((1 : Int32)).toNatClampNeg then (f ((2 : Int32)).toNatClampNeg) else (fun i => if i = ((0 : Int32)).toNatClampNeg then (f ((0 : Int32)).toNatClampNeg) else (fun _ => (0 : Int64)) i) i) := AL.set V80 W86
    have Z87 : n0 ≤ h86.size := Nat.le_trans Z81 (Keep.of_wr W86).1
    have K88 : Keep h0 h86 [] := K82.wr W86 (Or.inr z74)
    have N86 := Fr.snoc X86 N80 g73
    obtain ⟨fs, hr, hrun, hended, hW, hsame⟩ := X86.leave (v := some (.ref b71)) (fun h => by rw [Bd.returns] at h; cases h)
    refine ⟨_, _, pre0 _ ?_, hrun, hended, _, _, rfl, ?_, ⟨_, rfl⟩, hW, hsame.mono (by decide) (by decide)⟩
    · refine XS.iloadN X0.here hx rfl (hb hby d2_0) rfl ?_
      show Steps p.tables e below (s₁.setTop (mkF m 1 #[.val (.ref r0), .val (.int (5 : Int32)), .unset, .unset, .unset] [(.int (5 : Int32))])) _
      refine XS.iconst X0.here hx rfl (hb hby d2_1) ?_
      show Steps p.tables e below (s₁.setTop (mkF m 2 #[.val (.ref r0), .val (.int (5 : Int32)), .unset, .unset, .unset] [(.int (1 : Int32)), (.int (5 : Int32))])) _
      refine XS.iand X0.here hx rfl (hb hby d2_2) rfl ?_
      show Steps p.tables e below (s₁.setTop (mkF m 3 #[.val (.ref r0), .val (.int (5 : Int32)), .unset, .unset, .unset] [(.int (1 : Int32))])) _
      refine XS.iloadN X0.here hx rfl (hb hby d2_3) rfl ?_
      show Steps p.tables e below (s₁.setTop (mkF m 4 #[.val (.ref r0), .val (.int (5 : Int32)), .unset, .unset, .unset] [(.int (5 : Int32)), (.int (1 : Int32))])) _
      refine XS.iconst X0.here hx rfl (hb hby d2_4) ?_
      show Steps p.tables e below (s₁.setTop (mkF m 5 #[.val (.ref r0), .val (.int (5 : Int32)), .unset, .unset, .unset] [(.int (1 : Int32)), (.int (5 : Int32)), (.int (1 : Int32))])) _
      refine XS.ishr X0.here hx rfl (hb hby d2_5) rfl ?_
      show Steps p.tables e below (s₁.setTop (mkF m 6 #[.val (.ref r0), .val (.int (5 : Int32)), .unset, .unset, .unset] [(.int (2 : Int32)), (.int (1 : Int32))])) _
      refine XS.iconst X0.here hx rfl (hb hby d2_6) ?_
      show Steps p.tables e below (s₁.setTop (mkF m 7 #[.val (.ref r0), .val (.int (5 : Int32)), .unset, .unset, .unset] [(.int (1 : Int32)), (.int (2 : Int32)), (.int (1 : Int32))])) _
      refine XS.iand X0.here hx rfl (hb hby d2_7) rfl ?_
      show Steps p.tables e below (s₁.setTop (mkF m 8 #[.val (.ref r0), .val (.int (5 : Int32)), .unset, .unset, .unset] [(.int (0 : Int32)), (.int (1 : Int32))])) _
      refine XS.iadd X0.here hx rfl (hb hby d2_8) rfl ?_
      show Steps p.tables e below (s₁.setTop (mkF m 9 #[.val (.ref r0), .val (.int (5 : Int32)), .unset, .unset, .unset] [(.int (1 : Int32))])) _
      refine XS.iloadN X0.here hx rfl (hb hby d2_9) rfl ?_
      show Steps p.tables e below (s₁.setTop (mkF m 10 #[.val (.ref r0), .val (.int (5 : Int32)), .unset, .unset, .unset] [(.int (5 : Int32)), (.int (1 : Int32))])) _
      refine XS.iconst X0.here hx rfl (hb hby d2_10) ?_
      show Steps p.tables e below (s₁.setTop (mkF m 11 #[.val (.ref r0), .val (.int (5 : Int32)), .unset, .unset, .unset] [(.int (2 : Int32)), (.int (5 : Int32)), (.int (1 : Int32))])) _
      refine XS.ishr X0.here hx rfl (hb hby d2_11) rfl ?_
      show Steps p.tables e below (s₁.setTop (mkF m 12 #[.val (.ref r0), .val (.int (5 : Int32)), .unset, .unset, .unset] [(.int (1 : Int32)), (.int (1 : Int32))])) _
      refine XS.iconst X0.here hx rfl (hb hby d2_12) ?_
      show Steps p.tables e below (s₁.setTop (mkF m 13 #[.val (.ref r0), .val (.int (5 : Int32)), .unset, .unset, .unset] [(.int (1 : Int32)), (.int (1 : Int32)), (.int (1 : Int32))])) _
      refine XS.iand X0.here hx rfl (hb hby d2_13) rfl ?_
      show Steps p.tables e below (s₁.setTop (mkF m 14 #[.val (.ref r0), .val (.int (5 : Int32)), .unset, .unset, .unset] [(.int (1 : Int32)), (.int (1 : Int32))])) _
      refine XS.iadd X0.here hx rfl (hb hby d2_14) rfl ?_
      show Steps p.tables e below (s₁.setTop (mkF m 15 #[.val (.ref r0), .val (.int (5 : Int32)), .unset, .unset, .unset] [(.int (2 : Int32))])) _
      refine XS.iloadN X0.here hx rfl (hb hby d2_15) rfl ?_
      show Steps p.tables e below (s₁.setTop (mkF m 16 #[.val (.ref r0), .val (.int (5 : Int32)), .unset, .unset, .unset] [(.int (5 : Int32)), (.int (2 : Int32))])) _
      refine XS.iconst X0.here hx rfl (hb hby d2_16) ?_
      show Steps p.tables e below (s₁.setTop (mkF m 17 #[.val (.ref r0), .val (.int (5 : Int32)), .unset, .unset, .unset] [(.int (3 : Int32)), (.int (5 : Int32)), (.int (2 : Int32))])) _
      refine XS.ishr X0.here hx rfl (hb hby d2_17) rfl ?_
      show Steps p.tables e below (s₁.setTop (mkF m 18 #[.val (.ref r0), .val (.int (5 : Int32)), .unset, .unset, .unset] [(.int (0 : Int32)), (.int (2 : Int32))])) _
      refine XS.iconst X0.here hx rfl (hb hby d2_18) ?_
      show Steps p.tables e below (s₁.setTop (mkF m 19 #[.val (.ref r0), .val (.int (5 : Int32)), .unset, .unset, .unset] [(.int (1 : Int32)), (.int (0 : Int32)), (.int (2 : Int32))])) _
      refine XS.iand X0.here hx rfl (hb hby d2_19) rfl ?_
      show Steps p.tables e below (s₁.setTop (mkF m 20 #[.val (.ref r0), .val (.int (5 : Int32)), .unset, .unset, .unset] [(.int (0 : Int32)), (.int (2 : Int32))])) _
      refine XS.iadd X0.here hx rfl (hb hby d2_20) rfl ?_
      show Steps p.tables e below (s₁.setTop (mkF m 21 #[.val (.ref r0), .val (.int (5 : Int32)), .unset, .unset, .unset] [(.int (2 : Int32))])) _
      refine XS.istoreN X0.here hx rfl (hb hby d2_21) rfl (l' := #[.val (.ref r0), .val (.int (5 : Int32)), .val (.int (2 : Int32)), .unset, .unset]) rfl ?_
      show Steps p.tables e below (s₁.setTop (mkF m 22 #[.val (.ref r0), .val (.int (5 : Int32)), .val (.int (2 : Int32)), .unset, .unset] [])) _
      refine XS.iloadN X0.here hx rfl (hb hby d2_22) rfl ?_
      show Steps p.tables e below (s₁.setTop (mkF m 23 #[.val (.ref r0), .val (.int (5 : Int32)), .val (.int (2 : Int32)), .unset, .unset] [(.int (2 : Int32))])) _
      refine st71 _ ?_
      show Steps p.tables e below (T71.setTop (mkF m 25 #[.val (.ref r0), .val (.int (5 : Int32)), .val (.int (2 : Int32)), .unset, .unset] [(.ref b71)])) _
      refine XS.astoreN X71.here hx rfl (hb hby d2_25) rfl rfl (l' := #[.val (.ref r0), .val (.int (5 : Int32)), .val (.int (2 : Int32)), .val (.ref b71), .unset]) rfl ?_
      show Steps p.tables e below (T71.setTop (mkF m 26 #[.val (.ref r0), .val (.int (5 : Int32)), .val (.int (2 : Int32)), .val (.ref b71), .unset] [])) _
      refine XS.iconst X71.here hx rfl (hb hby d2_26) ?_
      show Steps p.tables e below (T71.setTop (mkF m 27 #[.val (.ref r0), .val (.int (5 : Int32)), .val (.int (2 : Int32)), .val (.ref b71), .unset] [(.int (0 : Int32))])) _
      refine XS.istore X71.here hx rfl (hb hby d2_27) rfl (l' := #[.val (.ref r0), .val (.int (5 : Int32)), .val (.int (2 : Int32)), .val (.ref b71), .val (.int (0 : Int32))]) rfl ?_
      show Steps p.tables e below (T71.setTop (mkF m 29 #[.val (.ref r0), .val (.int (5 : Int32)), .val (.int (2 : Int32)), .val (.ref b71), .val (.int (0 : Int32))] [])) _
      refine XS.iloadN X71.here hx rfl (hb hby d2_29) rfl ?_
      show Steps p.tables e below (T71.setTop (mkF m 30 #[.val (.ref r0), .val (.int (5 : Int32)), .val (.int (2 : Int32)), .val (.ref b71), .val (.int (0 : Int32))] [(.int (5 : Int32))])) _
      refine XS.iconst X71.here hx rfl (hb hby d2_30) ?_
      show Steps p.tables e below (T71.setTop (mkF m 31 #[.val (.ref r0), .val (.int (5 : Int32)), .val (.int (2 : Int32)), .val (.ref b71), .val (.int (0 : Int32))] [(.int (1 : Int32)), (.int (5 : Int32))])) _
      refine XS.iand X71.here hx rfl (hb hby d2_31) rfl ?_
      show Steps p.tables e below (T71.setTop (mkF m 32 #[.val (.ref r0), .val (.int (5 : Int32)), .val (.int (2 : Int32)), .val (.ref b71), .val (.int (0 : Int32))] [(.int (1 : Int32))])) _
      refine XS.ifNo X71.here hx rfl (hb hby d2_32) rfl ((if0 _ _).trans (feq (by decide : ¬ ((1 : Int32) = (0 : Int32)))).1) ?_
      show Steps p.tables e below (T71.setTop (mkF m 35 #[.val (.ref r0), .val (.int (5 : Int32)), .val (.int (2 : Int32)), .val (.ref b71), .val (.int (0 : Int32))] [])) _
      refine XS.aloadN X71.here hx rfl (hb hby d2_35) rfl rfl ?_
      show Steps p.tables e below (T71.setTop (mkF m 36 #[.val (.ref r0), .val (.int (5 : Int32)), .val (.int (2 : Int32)), .val (.ref b71), .val (.int (0 : Int32))] [(.ref b71)])) _
      refine XS.iload X71.here hx rfl (hb hby d2_36) rfl ?_
      show Steps p.tables e below (T71.setTop (mkF m 38 #[.val (.ref r0), .val (.int (5 : Int32)), .val (.int (2 : Int32)), .val (.ref b71), .val (.int (0 : Int32))] [(.int (0 : Int32)), (.ref b71)])) _
      refine XS.aloadN X71.here hx rfl (hb hby d2_38) rfl rfl ?_
      show Steps p.tables e below (T71.setTop (mkF m 39 #[.val (.ref r0), .val (.int (5 : Int32)), .val (.int (2 : Int32)), .val (.ref b71), .val (.int (0 : Int32))] [(.ref r0), (.int (0 : Int32)), (.ref b71)])) _
      refine XS.iconst X71.here hx rfl (hb hby d2_39) ?_
      show Steps p.tables e below (T71.setTop (mkF m 40 #[.val (.ref r0), .val (.int (5 : Int32)), .val (.int (2 : Int32)), .val (.ref b71), .val (.int (0 : Int32))] [(.int (0 : Int32)), (.ref r0), (.int (0 : Int32)), (.ref b71)])) _
      refine X71.laload hx (j := (0 : Int32)) (v := (.long (f ((0 : Int32)).toNatClampNeg))) (by rw [e71]; exact Ar78.1) (State.isArrayOf_alike hZ.alike Ar78.2.1) Ar78.2.2 hin78 hat78 (g := (mkF m 40 #[.val (.ref r0), .val (.int (5 : Int32)), .val (.int (2 : Int32)), .val (.ref b71), .val (.int (0 : Int32))] [(.int (0 : Int32)), (.ref r0), (.int (0 : Int32)), (.ref b71)])) rfl rfl (hb hby d2_40) _ ?_
      show Steps p.tables e below (T71.setTop (mkF m 41 #[.val (.ref r0), .val (.int (5 : Int32)), .val (.int (2 : Int32)), .val (.ref b71), .val (.int (0 : Int32))] [(.long (f ((0 : Int32)).toNatClampNeg)), (.int (0 : Int32)), (.ref b71)])) _
      refine st80 _ ?_
      show Steps p.tables e below (T80.setTop (mkF m 42 #[.val (.ref r0), .val (.int (5 : Int32)), .val (.int (2 : Int32)), .val (.ref b71), .val (.int (0 : Int32))] [])) _
      refine XS.iinc X80.here hx rfl (hb hby d2_42) rfl (l' := #[.val (.ref r0), .val (.int (5 : Int32)), .val (.int (2 : Int32)), .val (.ref b71), .val (.int (1 : Int32))]) rfl ?_
      show Steps p.tables e below (T80.setTop (mkF m 45 #[.val (.ref r0), .val (.int (5 : Int32)), .val (.int (2 : Int32)), .val (.ref b71), .val (.int (1 : Int32))] [])) _
      refine XS.iloadN X80.here hx rfl (hb hby d2_45) rfl ?_
      show Steps p.tables e below (T80.setTop (mkF m 46 #[.val (.ref r0), .val (.int (5 : Int32)), .val (.int (2 : Int32)), .val (.ref b71), .val (.int (1 : Int32))] [(.int (5 : Int32))])) _
      refine XS.iconst X80.here hx rfl (hb hby d2_46) ?_
      show Steps p.tables e below (T80.setTop (mkF m 47 #[.val (.ref r0), .val (.int (5 : Int32)), .val (.int (2 : Int32)), .val (.ref b71), .val (.int (1 : Int32))] [(.int (2 : Int32)), (.int (5 : Int32))])) _
      refine XS.iand X80.here hx rfl (hb hby d2_47) rfl ?_
      show Steps p.tables e below (T80.setTop (mkF m 48 #[.val (.ref r0), .val (.int (5 : Int32)), .val (.int (2 : Int32)), .val (.ref b71), .val (.int (1 : Int32))] [(.int (0 : Int32))])) _
      refine XS.ifYes X80.here hx rfl (pc0 := 48) (pc' := 61) rfl (hb hby d2_48) rfl ((if0 _ _).trans (teq (by decide : (0 : Int32) = (0 : Int32))).1) (by decide) (by decide) ?_
      show Steps p.tables e below (T80.setTop (mkF m 61 #[.val (.ref r0), .val (.int (5 : Int32)), .val (.int (2 : Int32)), .val (.ref b71), .val (.int (1 : Int32))] [])) _
      refine XS.iloadN X80.here hx rfl (hb hby d2_61) rfl ?_
      show Steps p.tables e below (T80.setTop (mkF m 62 #[.val (.ref r0), .val (.int (5 : Int32)), .val (.int (2 : Int32)), .val (.ref b71), .val (.int (1 : Int32))] [(.int (5 : Int32))])) _
      refine XS.iconst X80.here hx rfl (hb hby d2_62) ?_
      show Steps p.tables e below (T80.setTop (mkF m 63 #[.val (.ref r0), .val (.int (5 : Int32)), .val (.int (2 : Int32)), .val (.ref b71), .val (.int (1 : Int32))] [(.int (4 : Int32)), (.int (5 : Int32))])) _
      refine XS.iand X80.here hx rfl (hb hby d2_63) rfl ?_
      show Steps p.tables e below (T80.setTop (mkF m 64 #[.val (.ref r0), .val (.int (5 : Int32)), .val (.int (2 : Int32)), .val (.ref b71), .val (.int (1 : Int32))] [(.int (4 : Int32))])) _
      refine XS.ifNo X80.here hx rfl (hb hby d2_64) rfl ((if0 _ _).trans (feq (by decide : ¬ ((4 : Int32) = (0 : Int32)))).1) ?_
      show Steps p.tables e below (T80.setTop (mkF m 67 #[.val (.ref r0), .val (.int (5 : Int32)), .val (.int (2 : Int32)), .val (.ref b71), .val (.int (1 : Int32))] [])) _
      refine XS.aloadN X80.here hx rfl (hb hby d2_67) rfl rfl ?_
      show Steps p.tables e below (T80.setTop (mkF m 68 #[.val (.ref r0), .val (.int (5 : Int32)), .val (.int (2 : Int32)), .val (.ref b71), .val (.int (1 : Int32))] [(.ref b71)])) _
      refine XS.iload X80.here hx rfl (hb hby d2_68) rfl ?_
      show Steps p.tables e below (T80.setTop (mkF m 70 #[.val (.ref r0), .val (.int (5 : Int32)), .val (.int (2 : Int32)), .val (.ref b71), .val (.int (1 : Int32))] [(.int (1 : Int32)), (.ref b71)])) _
      refine XS.aloadN X80.here hx rfl (hb hby d2_70) rfl rfl ?_
      show Steps p.tables e below (T80.setTop (mkF m 71 #[.val (.ref r0), .val (.int (5 : Int32)), .val (.int (2 : Int32)), .val (.ref b71), .val (.int (1 : Int32))] [(.ref r0), (.int (1 : Int32)), (.ref b71)])) _
      refine XS.iconst X80.here hx rfl (hb hby d2_71) ?_
      show Steps p.tables e below (T80.setTop (mkF m 72 #[.val (.ref r0), .val (.int (5 : Int32)), .val (.int (2 : Int32)), .val (.ref b71), .val (.int (1 : Int32))] [(.int (2 : Int32)), (.ref r0), (.int (1 : Int32)), (.ref b71)])) _
      refine X80.laload hx (j := (2 : Int32)) (v := (.long (f ((2 : Int32)).toNatClampNeg))) (by rw [e80]; exact Ar84.1) (State.isArrayOf_alike hZ.alike Ar84.2.1) Ar84.2.2 hin84 hat84 (g := (mkF m 72 #[.val (.ref r0), .val (.int (5 : Int32)), .val (.int (2 : Int32)), .val (.ref b71), .val (.int (1 : Int32))] [(.int (2 : Int32)), (.ref r0), (.int (1 : Int32)), (.ref b71)])) rfl rfl (hb hby d2_72) _ ?_
      show Steps p.tables e below (T80.setTop (mkF m 73 #[.val (.ref r0), .val (.int (5 : Int32)), .val (.int (2 : Int32)), .val (.ref b71), .val (.int (1 : Int32))] [(.long (f ((2 : Int32)).toNatClampNeg)), (.int (1 : Int32)), (.ref b71)])) _
      refine st86 _ ?_
      show Steps p.tables e below (T86.setTop (mkF m 74 #[.val (.ref r0), .val (.int (5 : Int32)), .val (.int (2 : Int32)), .val (.ref b71), .val (.int (1 : Int32))] [])) _
      refine XS.iinc X86.here hx rfl (hb hby d2_74) rfl (l' := #[.val (.ref r0), .val (.int (5 : Int32)), .val (.int (2 : Int32)), .val (.ref b71), .val (.int (2 : Int32))]) rfl ?_
      show Steps p.tables e below (T86.setTop (mkF m 77 #[.val (.ref r0), .val (.int (5 : Int32)), .val (.int (2 : Int32)), .val (.ref b71), .val (.int (2 : Int32))] [])) _
      refine XS.iloadN X86.here hx rfl (hb hby d2_77) rfl ?_
      show Steps p.tables e below (T86.setTop (mkF m 78 #[.val (.ref r0), .val (.int (5 : Int32)), .val (.int (2 : Int32)), .val (.ref b71), .val (.int (2 : Int32))] [(.int (5 : Int32))])) _
      refine XS.bipush X86.here hx rfl (hb hby d2_78) ?_
      show Steps p.tables e below (T86.setTop (mkF m 80 #[.val (.ref r0), .val (.int (5 : Int32)), .val (.int (2 : Int32)), .val (.ref b71), .val (.int (2 : Int32))] [(.int (8 : Int32)), (.int (5 : Int32))])) _
      refine XS.iand X86.here hx rfl (hb hby d2_80) rfl ?_
      show Steps p.tables e below (T86.setTop (mkF m 81 #[.val (.ref r0), .val (.int (5 : Int32)), .val (.int (2 : Int32)), .val (.ref b71), .val (.int (2 : Int32))] [(.int (0 : Int32))])) _
      refine XS.ifYes X86.here hx rfl (pc0 := 81) (pc' := 94) rfl (hb hby d2_81) rfl ((if0 _ _).trans (teq (by decide : (0 : Int32) = (0 : Int32))).1) (by decide) (by decide) ?_
      show Steps p.tables e below (T86.setTop (mkF m 94 #[.val (.ref r0), .val (.int (5 : Int32)), .val (.int (2 : Int32)), .val (.ref b71), .val (.int (2 : Int32))] [])) _
      refine XS.aloadN X86.here hx rfl (hb hby d2_94) rfl rfl ?_
      show Steps p.tables e below (T86.setTop (mkF m 95 #[.val (.ref r0), .val (.int (5 : Int32)), .val (.int (2 : Int32)), .val (.ref b71), .val (.int (2 : Int32))] [(.ref b71)])) _
      exact retOut X86 hx Bd.returns rfl (Or.inr (Or.inr (Or.inr (Or.inr ⟨rfl, rfl, rfl⟩)))) (hb hby d2_95) hr
    · show Q2 Z r0 (5 : Int32) f h0 n0 _ T86.heap _
      rw [e86]
      exact ⟨b71, (2 : Int32), (fun i => if i = ((1 : Int32)).toNatClampNeg then (f ((2 : Int32)).toNatClampNeg) else (fun i => if i = ((0 : Int32)).toNatClampNeg then (f ((0 : Int32)).toNatClampNeg) else (fun _ => (0 : Int64)) i) i), rfl, N86, z74, K88, V86, rfl⟩
  · obtain ⟨T89, h89, k89, X89, e89, E89, A89, st89⟩ := newP X0 hx hZ (hw _ (List.mem_of_getElem? (i := 0) rfl)) e0 (g := (mkF m 23 #[.val (.ref r0), .val (.int (6 : Int32)), .val (.int (2 : Int32)), .unset, .unset] [(.int (2 : Int32))])) rfl (hb hby d2_23) rfl (by decide) (cap := 2) (by decide) (by decide) (by decide) (by decide)
    obtain ⟨b89, gb89⟩ : ∃ z, z = h0.size := ⟨_, rfl⟩
    rw [← gb89] at A89 st89
    have ne90 : r0 ≠ b89 := Nat.ne_of_lt (Nat.lt_of_lt_of_le hp0.lt (Nat.le_of_eq gb89.symm))
    have g91 : n0 ≤ b89 := Nat.le_trans Z0 (Nat.le_of_eq gb89.symm)
    have z92 : h0.size ≤ b89 := Nat.le_trans (Keep.refl h0 []).1 (Nat.le_of_eq gb89.symm)
    have Z93 : n0 ≤ h89.size := Nat.le_trans Z0 E89.1
    have K94 : Keep h0 h89 [] := (Keep.refl h0 []).ext E89
    have V89 : AL Z h89 b89 (2 : Int32) (fun _ => (0 : Int64)) := AL.new A89 (by decide)
    have V95 : AL Z h89 r0 (4 : Int32) f := (hp0.ext E89)
    obtain ⟨cl96, Ar96, S96, M96, I96⟩ := id V95
    have hin96 : ¬ ((1 : Int32) < 0 ∨ cl96.slots.size ≤ ((1 : Int32)).toNatClampNeg) := inb_of S96 ⟨by decide, by decide⟩
    have hat96 : cl96.slots[((1 : Int32)).toNatClampNeg]? = some (.long (f ((1 : Int32)).toNatClampNeg)) := I96 _ (Nat.lt_of_not_le fun y => hin96 (Or.inr y))
    obtain ⟨cl97, Ar97, S97, M97, I97⟩ := id V89
    have hin97 : ¬ ((0 : Int32) < 0 ∨ cl97.slots.size ≤ ((0 : Int32)).toNatClampNeg) := inb_of S97 ⟨by decide, by decide⟩
    obtain ⟨T98, h98, X98, e98, W98, st98⟩ := stJ X89 hx hZ e89 Ar97 (j := (0 : Int32)) hin97 (g := (mkF m 57 #[.val (.ref r0), .val (.int (6 : Int32)), .val (.int (2 : Int32)), .val (.ref b89), .val (.int (0 : Int32))] [(.long (f ((1 : Int32)).toNatClampNeg)), (.int (0 : Int32)), (.ref b89)])) rfl rfl (hb hby d2_57)
    have V98 : AL Z h98 b89 (2 : Int32) (fun i => if i = ((0 : Int32)).toNatClampNeg then (f ((1 : Int32)).toNatClampNeg) else (fun _ => (0 : Int64)) i) := AL.set V89 W98
    have Z99 : n0 ≤ h98.size := Nat.le_trans Z93 (Keep.of_wr W98).1
    have K100 : Keep h0 h98 [] := K94.wr W98 (Or.inr z92)
    have N98 := Fr.snoc X98 N0 g91
    have V101 : AL Z h98 r0 (4 : Int32) f := (V95.other W98 ne90)
    obtain ⟨cl102, Ar102, S102, M102, I102⟩ := id V101
    have hin102 : ¬ ((2 : Int32) < 0 ∨ cl102.slots.size ≤ ((2 : Int32)).toNatClampNeg) := inb_of S102 ⟨by decide, by decide⟩
    have hat102 : cl102.slots[((2 : Int32)).toNatClampNeg]? = some (.long (f ((2 : Int32)).toNatClampNeg)) := I102 _ (Nat.lt_of_not_le fun y => hin102 (Or.inr y))
    obtain ⟨cl103, Ar103, S103, M103, I103⟩ := id V98
    have hin103 : ¬ ((1 : Int32) < 0 ∨ cl103.slots.size ≤ ((1 : Int32)).toNatClampNeg) := inb_of S103 ⟨by decide, by decide⟩
    obtain ⟨T104, h104, X104, e104, W104, st104⟩ := stJ X98 hx hZ e98 Ar103 (j := (1 : Int32)) hin103 (g := (mkF m 73 #[.val (.ref r0), .val (.int (6 : Int32)), .val (.int (2 : Int32)), .val (.ref b89), .val (.int (1 : Int32))] [(.long (f ((2 : Int32)).toNatClampNeg)), (.int (1 : Int32)), (.ref b89)])) rfl rfl (hb hby d2_73)
    have V104 : AL Z h104 b89 (2 : Int32) (fun i => if i = ((1 : Int32)).toNatClampNeg then (f ((2 : Int32)).toNatClampNeg) else (fun i => if i = ((0 : Int32)).toNatClampNeg then (f ((1 : Int32)).toNatClampNeg) else (fun _ => (0 : Int64)) i) i) := AL.set V98 W104
    have Z105 : n0 ≤ h104.size := Nat.le_trans Z99 (Keep.of_wr W104).1
    have K106 : Keep h0 h104 [] := K100.wr W104 (Or.inr z92)
    have N104 := Fr.snoc X104 N98 g91
    obtain ⟨fs, hr, hrun, hended, hW, hsame⟩ := X104.leave (v := some (.ref b89)) (fun h => by rw [Bd.returns] at h; cases h)
    refine ⟨_, _, pre0 _ ?_, hrun, hended, _, _, rfl, ?_, ⟨_, rfl⟩, hW, hsame.mono (by decide) (by decide)⟩
    · refine XS.iloadN X0.here hx rfl (hb hby d2_0) rfl ?_
      show Steps p.tables e below (s₁.setTop (mkF m 1 #[.val (.ref r0), .val (.int (6 : Int32)), .unset, .unset, .unset] [(.int (6 : Int32))])) _
      refine XS.iconst X0.here hx rfl (hb hby d2_1) ?_
      show Steps p.tables e below (s₁.setTop (mkF m 2 #[.val (.ref r0), .val (.int (6 : Int32)), .unset, .unset, .unset] [(.int (1 : Int32)), (.int (6 : Int32))])) _
      refine XS.iand X0.here hx rfl (hb hby d2_2) rfl ?_
      show Steps p.tables e below (s₁.setTop (mkF m 3 #[.val (.ref r0), .val (.int (6 : Int32)), .unset, .unset, .unset] [(.int (0 : Int32))])) _
      refine XS.iloadN X0.here hx rfl (hb hby d2_3) rfl ?_
      show Steps p.tables e below (s₁.setTop (mkF m 4 #[.val (.ref r0), .val (.int (6 : Int32)), .unset, .unset, .unset] [(.int (6 : Int32)), (.int (0 : Int32))])) _
      refine XS.iconst X0.here hx rfl (hb hby d2_4) ?_
      show Steps p.tables e below (s₁.setTop (mkF m 5 #[.val (.ref r0), .val (.int (6 : Int32)), .unset, .unset, .unset] [(.int (1 : Int32)), (.int (6 : Int32)), (.int (0 : Int32))])) _
      refine XS.ishr X0.here hx rfl (hb hby d2_5) rfl ?_
      show Steps p.tables e below (s₁.setTop (mkF m 6 #[.val (.ref r0), .val (.int (6 : Int32)), .unset, .unset, .unset] [(.int (3 : Int32)), (.int (0 : Int32))])) _
      refine XS.iconst X0.here hx rfl (hb hby d2_6) ?_
      show Steps p.tables e below (s₁.setTop (mkF m 7 #[.val (.ref r0), .val (.int (6 : Int32)), .unset, .unset, .unset] [(.int (1 : Int32)), (.int (3 : Int32)), (.int (0 : Int32))])) _
      refine XS.iand X0.here hx rfl (hb hby d2_7) rfl ?_
      show Steps p.tables e below (s₁.setTop (mkF m 8 #[.val (.ref r0), .val (.int (6 : Int32)), .unset, .unset, .unset] [(.int (1 : Int32)), (.int (0 : Int32))])) _
      refine XS.iadd X0.here hx rfl (hb hby d2_8) rfl ?_
      show Steps p.tables e below (s₁.setTop (mkF m 9 #[.val (.ref r0), .val (.int (6 : Int32)), .unset, .unset, .unset] [(.int (1 : Int32))])) _
      refine XS.iloadN X0.here hx rfl (hb hby d2_9) rfl ?_
      show Steps p.tables e below (s₁.setTop (mkF m 10 #[.val (.ref r0), .val (.int (6 : Int32)), .unset, .unset, .unset] [(.int (6 : Int32)), (.int (1 : Int32))])) _
      refine XS.iconst X0.here hx rfl (hb hby d2_10) ?_
      show Steps p.tables e below (s₁.setTop (mkF m 11 #[.val (.ref r0), .val (.int (6 : Int32)), .unset, .unset, .unset] [(.int (2 : Int32)), (.int (6 : Int32)), (.int (1 : Int32))])) _
      refine XS.ishr X0.here hx rfl (hb hby d2_11) rfl ?_
      show Steps p.tables e below (s₁.setTop (mkF m 12 #[.val (.ref r0), .val (.int (6 : Int32)), .unset, .unset, .unset] [(.int (1 : Int32)), (.int (1 : Int32))])) _
      refine XS.iconst X0.here hx rfl (hb hby d2_12) ?_
      show Steps p.tables e below (s₁.setTop (mkF m 13 #[.val (.ref r0), .val (.int (6 : Int32)), .unset, .unset, .unset] [(.int (1 : Int32)), (.int (1 : Int32)), (.int (1 : Int32))])) _
      refine XS.iand X0.here hx rfl (hb hby d2_13) rfl ?_
      show Steps p.tables e below (s₁.setTop (mkF m 14 #[.val (.ref r0), .val (.int (6 : Int32)), .unset, .unset, .unset] [(.int (1 : Int32)), (.int (1 : Int32))])) _
      refine XS.iadd X0.here hx rfl (hb hby d2_14) rfl ?_
      show Steps p.tables e below (s₁.setTop (mkF m 15 #[.val (.ref r0), .val (.int (6 : Int32)), .unset, .unset, .unset] [(.int (2 : Int32))])) _
      refine XS.iloadN X0.here hx rfl (hb hby d2_15) rfl ?_
      show Steps p.tables e below (s₁.setTop (mkF m 16 #[.val (.ref r0), .val (.int (6 : Int32)), .unset, .unset, .unset] [(.int (6 : Int32)), (.int (2 : Int32))])) _
      refine XS.iconst X0.here hx rfl (hb hby d2_16) ?_
      show Steps p.tables e below (s₁.setTop (mkF m 17 #[.val (.ref r0), .val (.int (6 : Int32)), .unset, .unset, .unset] [(.int (3 : Int32)), (.int (6 : Int32)), (.int (2 : Int32))])) _
      refine XS.ishr X0.here hx rfl (hb hby d2_17) rfl ?_
      show Steps p.tables e below (s₁.setTop (mkF m 18 #[.val (.ref r0), .val (.int (6 : Int32)), .unset, .unset, .unset] [(.int (0 : Int32)), (.int (2 : Int32))])) _
      refine XS.iconst X0.here hx rfl (hb hby d2_18) ?_
      show Steps p.tables e below (s₁.setTop (mkF m 19 #[.val (.ref r0), .val (.int (6 : Int32)), .unset, .unset, .unset] [(.int (1 : Int32)), (.int (0 : Int32)), (.int (2 : Int32))])) _
      refine XS.iand X0.here hx rfl (hb hby d2_19) rfl ?_
      show Steps p.tables e below (s₁.setTop (mkF m 20 #[.val (.ref r0), .val (.int (6 : Int32)), .unset, .unset, .unset] [(.int (0 : Int32)), (.int (2 : Int32))])) _
      refine XS.iadd X0.here hx rfl (hb hby d2_20) rfl ?_
      show Steps p.tables e below (s₁.setTop (mkF m 21 #[.val (.ref r0), .val (.int (6 : Int32)), .unset, .unset, .unset] [(.int (2 : Int32))])) _
      refine XS.istoreN X0.here hx rfl (hb hby d2_21) rfl (l' := #[.val (.ref r0), .val (.int (6 : Int32)), .val (.int (2 : Int32)), .unset, .unset]) rfl ?_
      show Steps p.tables e below (s₁.setTop (mkF m 22 #[.val (.ref r0), .val (.int (6 : Int32)), .val (.int (2 : Int32)), .unset, .unset] [])) _
      refine XS.iloadN X0.here hx rfl (hb hby d2_22) rfl ?_
      show Steps p.tables e below (s₁.setTop (mkF m 23 #[.val (.ref r0), .val (.int (6 : Int32)), .val (.int (2 : Int32)), .unset, .unset] [(.int (2 : Int32))])) _
      refine st89 _ ?_
      show Steps p.tables e below (T89.setTop (mkF m 25 #[.val (.ref r0), .val (.int (6 : Int32)), .val (.int (2 : Int32)), .unset, .unset] [(.ref b89)])) _
      refine XS.astoreN X89.here hx rfl (hb hby d2_25) rfl rfl (l' := #[.val (.ref r0), .val (.int (6 : Int32)), .val (.int (2 : Int32)), .val (.ref b89), .unset]) rfl ?_
      show Steps p.tables e below (T89.setTop (mkF m 26 #[.val (.ref r0), .val (.int (6 : Int32)), .val (.int (2 : Int32)), .val (.ref b89), .unset] [])) _
      refine XS.iconst X89.here hx rfl (hb hby d2_26) ?_
      show Steps p.tables e below (T89.setTop (mkF m 27 #[.val (.ref r0), .val (.int (6 : Int32)), .val (.int (2 : Int32)), .val (.ref b89), .unset] [(.int (0 : Int32))])) _
      refine XS.istore X89.here hx rfl (hb hby d2_27) rfl (l' := #[.val (.ref r0), .val (.int (6 : Int32)), .val (.int (2 : Int32)), .val (.ref b89), .val (.int (0 : Int32))]) rfl ?_
      show Steps p.tables e below (T89.setTop (mkF m 29 #[.val (.ref r0), .val (.int (6 : Int32)), .val (.int (2 : Int32)), .val (.ref b89), .val (.int (0 : Int32))] [])) _
      refine XS.iloadN X89.here hx rfl (hb hby d2_29) rfl ?_
      show Steps p.tables e below (T89.setTop (mkF m 30 #[.val (.ref r0), .val (.int (6 : Int32)), .val (.int (2 : Int32)), .val (.ref b89), .val (.int (0 : Int32))] [(.int (6 : Int32))])) _
      refine XS.iconst X89.here hx rfl (hb hby d2_30) ?_
      show Steps p.tables e below (T89.setTop (mkF m 31 #[.val (.ref r0), .val (.int (6 : Int32)), .val (.int (2 : Int32)), .val (.ref b89), .val (.int (0 : Int32))] [(.int (1 : Int32)), (.int (6 : Int32))])) _
      refine XS.iand X89.here hx rfl (hb hby d2_31) rfl ?_
      show Steps p.tables e below (T89.setTop (mkF m 32 #[.val (.ref r0), .val (.int (6 : Int32)), .val (.int (2 : Int32)), .val (.ref b89), .val (.int (0 : Int32))] [(.int (0 : Int32))])) _
      refine XS.ifYes X89.here hx rfl (pc0 := 32) (pc' := 45) rfl (hb hby d2_32) rfl ((if0 _ _).trans (teq (by decide : (0 : Int32) = (0 : Int32))).1) (by decide) (by decide) ?_
      show Steps p.tables e below (T89.setTop (mkF m 45 #[.val (.ref r0), .val (.int (6 : Int32)), .val (.int (2 : Int32)), .val (.ref b89), .val (.int (0 : Int32))] [])) _
      refine XS.iloadN X89.here hx rfl (hb hby d2_45) rfl ?_
      show Steps p.tables e below (T89.setTop (mkF m 46 #[.val (.ref r0), .val (.int (6 : Int32)), .val (.int (2 : Int32)), .val (.ref b89), .val (.int (0 : Int32))] [(.int (6 : Int32))])) _
      refine XS.iconst X89.here hx rfl (hb hby d2_46) ?_
      show Steps p.tables e below (T89.setTop (mkF m 47 #[.val (.ref r0), .val (.int (6 : Int32)), .val (.int (2 : Int32)), .val (.ref b89), .val (.int (0 : Int32))] [(.int (2 : Int32)), (.int (6 : Int32))])) _
      refine XS.iand X89.here hx rfl (hb hby d2_47) rfl ?_
      show Steps p.tables e below (T89.setTop (mkF m 48 #[.val (.ref r0), .val (.int (6 : Int32)), .val (.int (2 : Int32)), .val (.ref b89), .val (.int (0 : Int32))] [(.int (2 : Int32))])) _
      refine XS.ifNo X89.here hx rfl (hb hby d2_48) rfl ((if0 _ _).trans (feq (by decide : ¬ ((2 : Int32) = (0 : Int32)))).1) ?_
      show Steps p.tables e below (T89.setTop (mkF m 51 #[.val (.ref r0), .val (.int (6 : Int32)), .val (.int (2 : Int32)), .val (.ref b89), .val (.int (0 : Int32))] [])) _
      refine XS.aloadN X89.here hx rfl (hb hby d2_51) rfl rfl ?_
      show Steps p.tables e below (T89.setTop (mkF m 52 #[.val (.ref r0), .val (.int (6 : Int32)), .val (.int (2 : Int32)), .val (.ref b89), .val (.int (0 : Int32))] [(.ref b89)])) _
      refine XS.iload X89.here hx rfl (hb hby d2_52) rfl ?_
      show Steps p.tables e below (T89.setTop (mkF m 54 #[.val (.ref r0), .val (.int (6 : Int32)), .val (.int (2 : Int32)), .val (.ref b89), .val (.int (0 : Int32))] [(.int (0 : Int32)), (.ref b89)])) _
      refine XS.aloadN X89.here hx rfl (hb hby d2_54) rfl rfl ?_
      show Steps p.tables e below (T89.setTop (mkF m 55 #[.val (.ref r0), .val (.int (6 : Int32)), .val (.int (2 : Int32)), .val (.ref b89), .val (.int (0 : Int32))] [(.ref r0), (.int (0 : Int32)), (.ref b89)])) _
      refine XS.iconst X89.here hx rfl (hb hby d2_55) ?_
      show Steps p.tables e below (T89.setTop (mkF m 56 #[.val (.ref r0), .val (.int (6 : Int32)), .val (.int (2 : Int32)), .val (.ref b89), .val (.int (0 : Int32))] [(.int (1 : Int32)), (.ref r0), (.int (0 : Int32)), (.ref b89)])) _
      refine X89.laload hx (j := (1 : Int32)) (v := (.long (f ((1 : Int32)).toNatClampNeg))) (by rw [e89]; exact Ar96.1) (State.isArrayOf_alike hZ.alike Ar96.2.1) Ar96.2.2 hin96 hat96 (g := (mkF m 56 #[.val (.ref r0), .val (.int (6 : Int32)), .val (.int (2 : Int32)), .val (.ref b89), .val (.int (0 : Int32))] [(.int (1 : Int32)), (.ref r0), (.int (0 : Int32)), (.ref b89)])) rfl rfl (hb hby d2_56) _ ?_
      show Steps p.tables e below (T89.setTop (mkF m 57 #[.val (.ref r0), .val (.int (6 : Int32)), .val (.int (2 : Int32)), .val (.ref b89), .val (.int (0 : Int32))] [(.long (f ((1 : Int32)).toNatClampNeg)), (.int (0 : Int32)), (.ref b89)])) _
      refine st98 _ ?_
      show Steps p.tables e below (T98.setTop (mkF m 58 #[.val (.ref r0), .val (.int (6 : Int32)), .val (.int (2 : Int32)), .val (.ref b89), .val (.int (0 : Int32))] [])) _
      refine XS.iinc X98.here hx rfl (hb hby d2_58) rfl (l' := #[.val (.ref r0), .val (.int (6 : Int32)), .val (.int (2 : Int32)), .val (.ref b89), .val (.int (1 : Int32))]) rfl ?_
      show Steps p.tables e below (T98.setTop (mkF m 61 #[.val (.ref r0), .val (.int (6 : Int32)), .val (.int (2 : Int32)), .val (.ref b89), .val (.int (1 : Int32))] [])) _
      refine XS.iloadN X98.here hx rfl (hb hby d2_61) rfl ?_
      show Steps p.tables e below (T98.setTop (mkF m 62 #[.val (.ref r0), .val (.int (6 : Int32)), .val (.int (2 : Int32)), .val (.ref b89), .val (.int (1 : Int32))] [(.int (6 : Int32))])) _
      refine XS.iconst X98.here hx rfl (hb hby d2_62) ?_
      show Steps p.tables e below (T98.setTop (mkF m 63 #[.val (.ref r0), .val (.int (6 : Int32)), .val (.int (2 : Int32)), .val (.ref b89), .val (.int (1 : Int32))] [(.int (4 : Int32)), (.int (6 : Int32))])) _
      refine XS.iand X98.here hx rfl (hb hby d2_63) rfl ?_
      show Steps p.tables e below (T98.setTop (mkF m 64 #[.val (.ref r0), .val (.int (6 : Int32)), .val (.int (2 : Int32)), .val (.ref b89), .val (.int (1 : Int32))] [(.int (4 : Int32))])) _
      refine XS.ifNo X98.here hx rfl (hb hby d2_64) rfl ((if0 _ _).trans (feq (by decide : ¬ ((4 : Int32) = (0 : Int32)))).1) ?_
      show Steps p.tables e below (T98.setTop (mkF m 67 #[.val (.ref r0), .val (.int (6 : Int32)), .val (.int (2 : Int32)), .val (.ref b89), .val (.int (1 : Int32))] [])) _
      refine XS.aloadN X98.here hx rfl (hb hby d2_67) rfl rfl ?_
      show Steps p.tables e below (T98.setTop (mkF m 68 #[.val (.ref r0), .val (.int (6 : Int32)), .val (.int (2 : Int32)), .val (.ref b89), .val (.int (1 : Int32))] [(.ref b89)])) _
      refine XS.iload X98.here hx rfl (hb hby d2_68) rfl ?_
      show Steps p.tables e below (T98.setTop (mkF m 70 #[.val (.ref r0), .val (.int (6 : Int32)), .val (.int (2 : Int32)), .val (.ref b89), .val (.int (1 : Int32))] [(.int (1 : Int32)), (.ref b89)])) _
      refine XS.aloadN X98.here hx rfl (hb hby d2_70) rfl rfl ?_
      show Steps p.tables e below (T98.setTop (mkF m 71 #[.val (.ref r0), .val (.int (6 : Int32)), .val (.int (2 : Int32)), .val (.ref b89), .val (.int (1 : Int32))] [(.ref r0), (.int (1 : Int32)), (.ref b89)])) _
      refine XS.iconst X98.here hx rfl (hb hby d2_71) ?_
      show Steps p.tables e below (T98.setTop (mkF m 72 #[.val (.ref r0), .val (.int (6 : Int32)), .val (.int (2 : Int32)), .val (.ref b89), .val (.int (1 : Int32))] [(.int (2 : Int32)), (.ref r0), (.int (1 : Int32)), (.ref b89)])) _
      refine X98.laload hx (j := (2 : Int32)) (v := (.long (f ((2 : Int32)).toNatClampNeg))) (by rw [e98]; exact Ar102.1) (State.isArrayOf_alike hZ.alike Ar102.2.1) Ar102.2.2 hin102 hat102 (g := (mkF m 72 #[.val (.ref r0), .val (.int (6 : Int32)), .val (.int (2 : Int32)), .val (.ref b89), .val (.int (1 : Int32))] [(.int (2 : Int32)), (.ref r0), (.int (1 : Int32)), (.ref b89)])) rfl rfl (hb hby d2_72) _ ?_
      show Steps p.tables e below (T98.setTop (mkF m 73 #[.val (.ref r0), .val (.int (6 : Int32)), .val (.int (2 : Int32)), .val (.ref b89), .val (.int (1 : Int32))] [(.long (f ((2 : Int32)).toNatClampNeg)), (.int (1 : Int32)), (.ref b89)])) _
      refine st104 _ ?_
      show Steps p.tables e below (T104.setTop (mkF m 74 #[.val (.ref r0), .val (.int (6 : Int32)), .val (.int (2 : Int32)), .val (.ref b89), .val (.int (1 : Int32))] [])) _
      refine XS.iinc X104.here hx rfl (hb hby d2_74) rfl (l' := #[.val (.ref r0), .val (.int (6 : Int32)), .val (.int (2 : Int32)), .val (.ref b89), .val (.int (2 : Int32))]) rfl ?_
      show Steps p.tables e below (T104.setTop (mkF m 77 #[.val (.ref r0), .val (.int (6 : Int32)), .val (.int (2 : Int32)), .val (.ref b89), .val (.int (2 : Int32))] [])) _
      refine XS.iloadN X104.here hx rfl (hb hby d2_77) rfl ?_
      show Steps p.tables e below (T104.setTop (mkF m 78 #[.val (.ref r0), .val (.int (6 : Int32)), .val (.int (2 : Int32)), .val (.ref b89), .val (.int (2 : Int32))] [(.int (6 : Int32))])) _
      refine XS.bipush X104.here hx rfl (hb hby d2_78) ?_
      show Steps p.tables e below (T104.setTop (mkF m 80 #[.val (.ref r0), .val (.int (6 : Int32)), .val (.int (2 : Int32)), .val (.ref b89), .val (.int (2 : Int32))] [(.int (8 : Int32)), (.int (6 : Int32))])) _
      refine XS.iand X104.here hx rfl (hb hby d2_80) rfl ?_
      show Steps p.tables e below (T104.setTop (mkF m 81 #[.val (.ref r0), .val (.int (6 : Int32)), .val (.int (2 : Int32)), .val (.ref b89), .val (.int (2 : Int32))] [(.int (0 : Int32))])) _
      refine XS.ifYes X104.here hx rfl (pc0 := 81) (pc' := 94) rfl (hb hby d2_81) rfl ((if0 _ _).trans (teq (by decide : (0 : Int32) = (0 : Int32))).1) (by decide) (by decide) ?_
      show Steps p.tables e below (T104.setTop (mkF m 94 #[.val (.ref r0), .val (.int (6 : Int32)), .val (.int (2 : Int32)), .val (.ref b89), .val (.int (2 : Int32))] [])) _
      refine XS.aloadN X104.here hx rfl (hb hby d2_94) rfl rfl ?_
      show Steps p.tables e below (T104.setTop (mkF m 95 #[.val (.ref r0), .val (.int (6 : Int32)), .val (.int (2 : Int32)), .val (.ref b89), .val (.int (2 : Int32))] [(.ref b89)])) _
      exact retOut X104 hx Bd.returns rfl (Or.inr (Or.inr (Or.inr (Or.inr ⟨rfl, rfl, rfl⟩)))) (hb hby d2_95) hr
    · show Q2 Z r0 (6 : Int32) f h0 n0 _ T104.heap _
      rw [e104]
      exact ⟨b89, (2 : Int32), (fun i => if i = ((1 : Int32)).toNatClampNeg then (f ((2 : Int32)).toNatClampNeg) else (fun i => if i = ((0 : Int32)).toNatClampNeg then (f ((1 : Int32)).toNatClampNeg) else (fun _ => (0 : Int64)) i) i), rfl, N104, z92, K106, V104, rfl⟩
  · obtain ⟨T107, h107, k107, X107, e107, E107, A107, st107⟩ := newP X0 hx hZ (hw _ (List.mem_of_getElem? (i := 0) rfl)) e0 (g := (mkF m 23 #[.val (.ref r0), .val (.int (7 : Int32)), .val (.int (3 : Int32)), .unset, .unset] [(.int (3 : Int32))])) rfl (hb hby d2_23) rfl (by decide) (cap := 3) (by decide) (by decide) (by decide) (by decide)
    obtain ⟨b107, gb107⟩ : ∃ z, z = h0.size := ⟨_, rfl⟩
    rw [← gb107] at A107 st107
    have ne108 : r0 ≠ b107 := Nat.ne_of_lt (Nat.lt_of_lt_of_le hp0.lt (Nat.le_of_eq gb107.symm))
    have g109 : n0 ≤ b107 := Nat.le_trans Z0 (Nat.le_of_eq gb107.symm)
    have z110 : h0.size ≤ b107 := Nat.le_trans (Keep.refl h0 []).1 (Nat.le_of_eq gb107.symm)
    have Z111 : n0 ≤ h107.size := Nat.le_trans Z0 E107.1
    have K112 : Keep h0 h107 [] := (Keep.refl h0 []).ext E107
    have V107 : AL Z h107 b107 (3 : Int32) (fun _ => (0 : Int64)) := AL.new A107 (by decide)
    have V113 : AL Z h107 r0 (4 : Int32) f := (hp0.ext E107)
    obtain ⟨cl114, Ar114, S114, M114, I114⟩ := id V113
    have hin114 : ¬ ((0 : Int32) < 0 ∨ cl114.slots.size ≤ ((0 : Int32)).toNatClampNeg) := inb_of S114 ⟨by decide, by decide⟩
    have hat114 : cl114.slots[((0 : Int32)).toNatClampNeg]? = some (.long (f ((0 : Int32)).toNatClampNeg)) := I114 _ (Nat.lt_of_not_le fun y => hin114 (Or.inr y))
    obtain ⟨cl115, Ar115, S115, M115, I115⟩ := id V107
    have hin115 : ¬ ((0 : Int32) < 0 ∨ cl115.slots.size ≤ ((0 : Int32)).toNatClampNeg) := inb_of S115 ⟨by decide, by decide⟩
    obtain ⟨T116, h116, X116, e116, W116, st116⟩ := stJ X107 hx hZ e107 Ar115 (j := (0 : Int32)) hin115 (g := (mkF m 41 #[.val (.ref r0), .val (.int (7 : Int32)), .val (.int (3 : Int32)), .val (.ref b107), .val (.int (0 : Int32))] [(.long (f ((0 : Int32)).toNatClampNeg)), (.int (0 : Int32)), (.ref b107)])) rfl rfl (hb hby d2_41)
    have V116 : AL Z h116 b107 (3 : Int32) (fun i => if i = ((0 : Int32)).toNatClampNeg then (f ((0 : Int32)).toNatClampNeg) else (fun _ => (0 : Int64)) i) := AL.set V107 W116
    have Z117 : n0 ≤ h116.size := Nat.le_trans Z111 (Keep.of_wr W116).1
    have K118 : Keep h0 h116 [] := K112.wr W116 (Or.inr z110)
    have N116 := Fr.snoc X116 N0 g109
    have V119 : AL Z h116 r0 (4 : Int32) f := (V113.other W116 ne108)
    obtain ⟨cl120, Ar120, S120, M120, I120⟩ := id V119
    have hin120 : ¬ ((1 : Int32) < 0 ∨ cl120.slots.size ≤ ((1 : Int32)).toNatClampNeg) := inb_of S120 ⟨by decide, by decide⟩
    have hat120 : cl120.slots[((1 : Int32)).toNatClampNeg]? = some (.long (f ((1 : Int32)).toNatClampNeg)) := I120 _ (Nat.lt_of_not_le fun y => hin120 (Or.inr y))
    obtain ⟨cl121, Ar121, S121, M121, I121⟩ := id V116
    have hin121 : ¬ ((1 : Int32) < 0 ∨ cl121.slots.size ≤ ((1 : Int32)).toNatClampNeg) := inb_of S121 ⟨by decide, by decide⟩
    obtain ⟨T122, h122, X122, e122, W122, st122⟩ := stJ X116 hx hZ e116 Ar121 (j := (1 : Int32)) hin121 (g := (mkF m 57 #[.val (.ref r0), .val (.int (7 : Int32)), .val (.int (3 : Int32)), .val (.ref b107), .val (.int (1 : Int32))] [(.long (f ((1 : Int32)).toNatClampNeg)), (.int (1 : Int32)), (.ref b107)])) rfl rfl (hb hby d2_57)
    have V122 : AL Z h122 b107 (3 : Int32) (fun i => if i = ((1 : Int32)).toNatClampNeg then (f ((1 : Int32)).toNatClampNeg) else (fun i => if i = ((0 : Int32)).toNatClampNeg then (f ((0 : Int32)).toNatClampNeg) else (fun _ => (0 : Int64)) i) i) := AL.set V116 W122
    have Z123 : n0 ≤ h122.size := Nat.le_trans Z117 (Keep.of_wr W122).1
    have K124 : Keep h0 h122 [] := K118.wr W122 (Or.inr z110)
    have N122 := Fr.snoc X122 N116 g109
    have V125 : AL Z h122 r0 (4 : Int32) f := (V119.other W122 ne108)
    obtain ⟨cl126, Ar126, S126, M126, I126⟩ := id V125
    have hin126 : ¬ ((2 : Int32) < 0 ∨ cl126.slots.size ≤ ((2 : Int32)).toNatClampNeg) := inb_of S126 ⟨by decide, by decide⟩
    have hat126 : cl126.slots[((2 : Int32)).toNatClampNeg]? = some (.long (f ((2 : Int32)).toNatClampNeg)) := I126 _ (Nat.lt_of_not_le fun y => hin126 (Or.inr y))
    obtain ⟨cl127, Ar127, S127, M127, I127⟩ := id V122
    have hin127 : ¬ ((2 : Int32) < 0 ∨ cl127.slots.size ≤ ((2 : Int32)).toNatClampNeg) := inb_of S127 ⟨by decide, by decide⟩
    obtain ⟨T128, h128, X128, e128, W128, st128⟩ := stJ X122 hx hZ e122 Ar127 (j := (2 : Int32)) hin127 (g := (mkF m 73 #[.val (.ref r0), .val (.int (7 : Int32)), .val (.int (3 : Int32)), .val (.ref b107), .val (.int (2 : Int32))] [(.long (f ((2 : Int32)).toNatClampNeg)), (.int (2 : Int32)), (.ref b107)])) rfl rfl (hb hby d2_73)
    have V128 : AL Z h128 b107 (3 : Int32) (fun i => if i = ((2 : Int32)).toNatClampNeg then (f ((2 : Int32)).toNatClampNeg) else (fun i => if i = ((1 : Int32)).toNatClampNeg then (f ((1 : Int32)).toNatClampNeg) else (fun i => if i = ((0 : Int32)).toNatClampNeg then (f ((0 : Int32)).toNatClampNeg) else (fun _ => (0 : Int64)) i) i) i) := AL.set V122 W128
    have Z129 : n0 ≤ h128.size := Nat.le_trans Z123 (Keep.of_wr W128).1
    have K130 : Keep h0 h128 [] := K124.wr W128 (Or.inr z110)
    have N128 := Fr.snoc X128 N122 g109
    obtain ⟨fs, hr, hrun, hended, hW, hsame⟩ := X128.leave (v := some (.ref b107)) (fun h => by rw [Bd.returns] at h; cases h)
    refine ⟨_, _, pre0 _ ?_, hrun, hended, _, _, rfl, ?_, ⟨_, rfl⟩, hW, hsame.mono (by decide) (by decide)⟩
    · refine XS.iloadN X0.here hx rfl (hb hby d2_0) rfl ?_
      show Steps p.tables e below (s₁.setTop (mkF m 1 #[.val (.ref r0), .val (.int (7 : Int32)), .unset, .unset, .unset] [(.int (7 : Int32))])) _
      refine XS.iconst X0.here hx rfl (hb hby d2_1) ?_
      show Steps p.tables e below (s₁.setTop (mkF m 2 #[.val (.ref r0), .val (.int (7 : Int32)), .unset, .unset, .unset] [(.int (1 : Int32)), (.int (7 : Int32))])) _
      refine XS.iand X0.here hx rfl (hb hby d2_2) rfl ?_
      show Steps p.tables e below (s₁.setTop (mkF m 3 #[.val (.ref r0), .val (.int (7 : Int32)), .unset, .unset, .unset] [(.int (1 : Int32))])) _
      refine XS.iloadN X0.here hx rfl (hb hby d2_3) rfl ?_
      show Steps p.tables e below (s₁.setTop (mkF m 4 #[.val (.ref r0), .val (.int (7 : Int32)), .unset, .unset, .unset] [(.int (7 : Int32)), (.int (1 : Int32))])) _
      refine XS.iconst X0.here hx rfl (hb hby d2_4) ?_
      show Steps p.tables e below (s₁.setTop (mkF m 5 #[.val (.ref r0), .val (.int (7 : Int32)), .unset, .unset, .unset] [(.int (1 : Int32)), (.int (7 : Int32)), (.int (1 : Int32))])) _
      refine XS.ishr X0.here hx rfl (hb hby d2_5) rfl ?_
      show Steps p.tables e below (s₁.setTop (mkF m 6 #[.val (.ref r0), .val (.int (7 : Int32)), .unset, .unset, .unset] [(.int (3 : Int32)), (.int (1 : Int32))])) _
      refine XS.iconst X0.here hx rfl (hb hby d2_6) ?_
      show Steps p.tables e below (s₁.setTop (mkF m 7 #[.val (.ref r0), .val (.int (7 : Int32)), .unset, .unset, .unset] [(.int (1 : Int32)), (.int (3 : Int32)), (.int (1 : Int32))])) _
      refine XS.iand X0.here hx rfl (hb hby d2_7) rfl ?_
      show Steps p.tables e below (s₁.setTop (mkF m 8 #[.val (.ref r0), .val (.int (7 : Int32)), .unset, .unset, .unset] [(.int (1 : Int32)), (.int (1 : Int32))])) _
      refine XS.iadd X0.here hx rfl (hb hby d2_8) rfl ?_
      show Steps p.tables e below (s₁.setTop (mkF m 9 #[.val (.ref r0), .val (.int (7 : Int32)), .unset, .unset, .unset] [(.int (2 : Int32))])) _
      refine XS.iloadN X0.here hx rfl (hb hby d2_9) rfl ?_
      show Steps p.tables e below (s₁.setTop (mkF m 10 #[.val (.ref r0), .val (.int (7 : Int32)), .unset, .unset, .unset] [(.int (7 : Int32)), (.int (2 : Int32))])) _
      refine XS.iconst X0.here hx rfl (hb hby d2_10) ?_
      show Steps p.tables e below (s₁.setTop (mkF m 11 #[.val (.ref r0), .val (.int (7 : Int32)), .unset, .unset, .unset] [(.int (2 : Int32)), (.int (7 : Int32)), (.int (2 : Int32))])) _
      refine XS.ishr X0.here hx rfl (hb hby d2_11) rfl ?_
      show Steps p.tables e below (s₁.setTop (mkF m 12 #[.val (.ref r0), .val (.int (7 : Int32)), .unset, .unset, .unset] [(.int (1 : Int32)), (.int (2 : Int32))])) _
      refine XS.iconst X0.here hx rfl (hb hby d2_12) ?_
      show Steps p.tables e below (s₁.setTop (mkF m 13 #[.val (.ref r0), .val (.int (7 : Int32)), .unset, .unset, .unset] [(.int (1 : Int32)), (.int (1 : Int32)), (.int (2 : Int32))])) _
      refine XS.iand X0.here hx rfl (hb hby d2_13) rfl ?_
      show Steps p.tables e below (s₁.setTop (mkF m 14 #[.val (.ref r0), .val (.int (7 : Int32)), .unset, .unset, .unset] [(.int (1 : Int32)), (.int (2 : Int32))])) _
      refine XS.iadd X0.here hx rfl (hb hby d2_14) rfl ?_
      show Steps p.tables e below (s₁.setTop (mkF m 15 #[.val (.ref r0), .val (.int (7 : Int32)), .unset, .unset, .unset] [(.int (3 : Int32))])) _
      refine XS.iloadN X0.here hx rfl (hb hby d2_15) rfl ?_
      show Steps p.tables e below (s₁.setTop (mkF m 16 #[.val (.ref r0), .val (.int (7 : Int32)), .unset, .unset, .unset] [(.int (7 : Int32)), (.int (3 : Int32))])) _
      refine XS.iconst X0.here hx rfl (hb hby d2_16) ?_
      show Steps p.tables e below (s₁.setTop (mkF m 17 #[.val (.ref r0), .val (.int (7 : Int32)), .unset, .unset, .unset] [(.int (3 : Int32)), (.int (7 : Int32)), (.int (3 : Int32))])) _
      refine XS.ishr X0.here hx rfl (hb hby d2_17) rfl ?_
      show Steps p.tables e below (s₁.setTop (mkF m 18 #[.val (.ref r0), .val (.int (7 : Int32)), .unset, .unset, .unset] [(.int (0 : Int32)), (.int (3 : Int32))])) _
      refine XS.iconst X0.here hx rfl (hb hby d2_18) ?_
      show Steps p.tables e below (s₁.setTop (mkF m 19 #[.val (.ref r0), .val (.int (7 : Int32)), .unset, .unset, .unset] [(.int (1 : Int32)), (.int (0 : Int32)), (.int (3 : Int32))])) _
      refine XS.iand X0.here hx rfl (hb hby d2_19) rfl ?_
      show Steps p.tables e below (s₁.setTop (mkF m 20 #[.val (.ref r0), .val (.int (7 : Int32)), .unset, .unset, .unset] [(.int (0 : Int32)), (.int (3 : Int32))])) _
      refine XS.iadd X0.here hx rfl (hb hby d2_20) rfl ?_
      show Steps p.tables e below (s₁.setTop (mkF m 21 #[.val (.ref r0), .val (.int (7 : Int32)), .unset, .unset, .unset] [(.int (3 : Int32))])) _
      refine XS.istoreN X0.here hx rfl (hb hby d2_21) rfl (l' := #[.val (.ref r0), .val (.int (7 : Int32)), .val (.int (3 : Int32)), .unset, .unset]) rfl ?_
      show Steps p.tables e below (s₁.setTop (mkF m 22 #[.val (.ref r0), .val (.int (7 : Int32)), .val (.int (3 : Int32)), .unset, .unset] [])) _
      refine XS.iloadN X0.here hx rfl (hb hby d2_22) rfl ?_
      show Steps p.tables e below (s₁.setTop (mkF m 23 #[.val (.ref r0), .val (.int (7 : Int32)), .val (.int (3 : Int32)), .unset, .unset] [(.int (3 : Int32))])) _
      refine st107 _ ?_
      show Steps p.tables e below (T107.setTop (mkF m 25 #[.val (.ref r0), .val (.int (7 : Int32)), .val (.int (3 : Int32)), .unset, .unset] [(.ref b107)])) _
      refine XS.astoreN X107.here hx rfl (hb hby d2_25) rfl rfl (l' := #[.val (.ref r0), .val (.int (7 : Int32)), .val (.int (3 : Int32)), .val (.ref b107), .unset]) rfl ?_
      show Steps p.tables e below (T107.setTop (mkF m 26 #[.val (.ref r0), .val (.int (7 : Int32)), .val (.int (3 : Int32)), .val (.ref b107), .unset] [])) _
      refine XS.iconst X107.here hx rfl (hb hby d2_26) ?_
      show Steps p.tables e below (T107.setTop (mkF m 27 #[.val (.ref r0), .val (.int (7 : Int32)), .val (.int (3 : Int32)), .val (.ref b107), .unset] [(.int (0 : Int32))])) _
      refine XS.istore X107.here hx rfl (hb hby d2_27) rfl (l' := #[.val (.ref r0), .val (.int (7 : Int32)), .val (.int (3 : Int32)), .val (.ref b107), .val (.int (0 : Int32))]) rfl ?_
      show Steps p.tables e below (T107.setTop (mkF m 29 #[.val (.ref r0), .val (.int (7 : Int32)), .val (.int (3 : Int32)), .val (.ref b107), .val (.int (0 : Int32))] [])) _
      refine XS.iloadN X107.here hx rfl (hb hby d2_29) rfl ?_
      show Steps p.tables e below (T107.setTop (mkF m 30 #[.val (.ref r0), .val (.int (7 : Int32)), .val (.int (3 : Int32)), .val (.ref b107), .val (.int (0 : Int32))] [(.int (7 : Int32))])) _
      refine XS.iconst X107.here hx rfl (hb hby d2_30) ?_
      show Steps p.tables e below (T107.setTop (mkF m 31 #[.val (.ref r0), .val (.int (7 : Int32)), .val (.int (3 : Int32)), .val (.ref b107), .val (.int (0 : Int32))] [(.int (1 : Int32)), (.int (7 : Int32))])) _
      refine XS.iand X107.here hx rfl (hb hby d2_31) rfl ?_
      show Steps p.tables e below (T107.setTop (mkF m 32 #[.val (.ref r0), .val (.int (7 : Int32)), .val (.int (3 : Int32)), .val (.ref b107), .val (.int (0 : Int32))] [(.int (1 : Int32))])) _
      refine XS.ifNo X107.here hx rfl (hb hby d2_32) rfl ((if0 _ _).trans (feq (by decide : ¬ ((1 : Int32) = (0 : Int32)))).1) ?_
      show Steps p.tables e below (T107.setTop (mkF m 35 #[.val (.ref r0), .val (.int (7 : Int32)), .val (.int (3 : Int32)), .val (.ref b107), .val (.int (0 : Int32))] [])) _
      refine XS.aloadN X107.here hx rfl (hb hby d2_35) rfl rfl ?_
      show Steps p.tables e below (T107.setTop (mkF m 36 #[.val (.ref r0), .val (.int (7 : Int32)), .val (.int (3 : Int32)), .val (.ref b107), .val (.int (0 : Int32))] [(.ref b107)])) _
      refine XS.iload X107.here hx rfl (hb hby d2_36) rfl ?_
      show Steps p.tables e below (T107.setTop (mkF m 38 #[.val (.ref r0), .val (.int (7 : Int32)), .val (.int (3 : Int32)), .val (.ref b107), .val (.int (0 : Int32))] [(.int (0 : Int32)), (.ref b107)])) _
      refine XS.aloadN X107.here hx rfl (hb hby d2_38) rfl rfl ?_
      show Steps p.tables e below (T107.setTop (mkF m 39 #[.val (.ref r0), .val (.int (7 : Int32)), .val (.int (3 : Int32)), .val (.ref b107), .val (.int (0 : Int32))] [(.ref r0), (.int (0 : Int32)), (.ref b107)])) _
      refine XS.iconst X107.here hx rfl (hb hby d2_39) ?_
      show Steps p.tables e below (T107.setTop (mkF m 40 #[.val (.ref r0), .val (.int (7 : Int32)), .val (.int (3 : Int32)), .val (.ref b107), .val (.int (0 : Int32))] [(.int (0 : Int32)), (.ref r0), (.int (0 : Int32)), (.ref b107)])) _
      refine X107.laload hx (j := (0 : Int32)) (v := (.long (f ((0 : Int32)).toNatClampNeg))) (by rw [e107]; exact Ar114.1) (State.isArrayOf_alike hZ.alike Ar114.2.1) Ar114.2.2 hin114 hat114 (g := (mkF m 40 #[.val (.ref r0), .val (.int (7 : Int32)), .val (.int (3 : Int32)), .val (.ref b107), .val (.int (0 : Int32))] [(.int (0 : Int32)), (.ref r0), (.int (0 : Int32)), (.ref b107)])) rfl rfl (hb hby d2_40) _ ?_
      show Steps p.tables e below (T107.setTop (mkF m 41 #[.val (.ref r0), .val (.int (7 : Int32)), .val (.int (3 : Int32)), .val (.ref b107), .val (.int (0 : Int32))] [(.long (f ((0 : Int32)).toNatClampNeg)), (.int (0 : Int32)), (.ref b107)])) _
      refine st116 _ ?_
      show Steps p.tables e below (T116.setTop (mkF m 42 #[.val (.ref r0), .val (.int (7 : Int32)), .val (.int (3 : Int32)), .val (.ref b107), .val (.int (0 : Int32))] [])) _
      refine XS.iinc X116.here hx rfl (hb hby d2_42) rfl (l' := #[.val (.ref r0), .val (.int (7 : Int32)), .val (.int (3 : Int32)), .val (.ref b107), .val (.int (1 : Int32))]) rfl ?_
      show Steps p.tables e below (T116.setTop (mkF m 45 #[.val (.ref r0), .val (.int (7 : Int32)), .val (.int (3 : Int32)), .val (.ref b107), .val (.int (1 : Int32))] [])) _
      refine XS.iloadN X116.here hx rfl (hb hby d2_45) rfl ?_
      show Steps p.tables e below (T116.setTop (mkF m 46 #[.val (.ref r0), .val (.int (7 : Int32)), .val (.int (3 : Int32)), .val (.ref b107), .val (.int (1 : Int32))] [(.int (7 : Int32))])) _
      refine XS.iconst X116.here hx rfl (hb hby d2_46) ?_
      show Steps p.tables e below (T116.setTop (mkF m 47 #[.val (.ref r0), .val (.int (7 : Int32)), .val (.int (3 : Int32)), .val (.ref b107), .val (.int (1 : Int32))] [(.int (2 : Int32)), (.int (7 : Int32))])) _
      refine XS.iand X116.here hx rfl (hb hby d2_47) rfl ?_
      show Steps p.tables e below (T116.setTop (mkF m 48 #[.val (.ref r0), .val (.int (7 : Int32)), .val (.int (3 : Int32)), .val (.ref b107), .val (.int (1 : Int32))] [(.int (2 : Int32))])) _
      refine XS.ifNo X116.here hx rfl (hb hby d2_48) rfl ((if0 _ _).trans (feq (by decide : ¬ ((2 : Int32) = (0 : Int32)))).1) ?_
      show Steps p.tables e below (T116.setTop (mkF m 51 #[.val (.ref r0), .val (.int (7 : Int32)), .val (.int (3 : Int32)), .val (.ref b107), .val (.int (1 : Int32))] [])) _
      refine XS.aloadN X116.here hx rfl (hb hby d2_51) rfl rfl ?_
      show Steps p.tables e below (T116.setTop (mkF m 52 #[.val (.ref r0), .val (.int (7 : Int32)), .val (.int (3 : Int32)), .val (.ref b107), .val (.int (1 : Int32))] [(.ref b107)])) _
      refine XS.iload X116.here hx rfl (hb hby d2_52) rfl ?_
      show Steps p.tables e below (T116.setTop (mkF m 54 #[.val (.ref r0), .val (.int (7 : Int32)), .val (.int (3 : Int32)), .val (.ref b107), .val (.int (1 : Int32))] [(.int (1 : Int32)), (.ref b107)])) _
      refine XS.aloadN X116.here hx rfl (hb hby d2_54) rfl rfl ?_
      show Steps p.tables e below (T116.setTop (mkF m 55 #[.val (.ref r0), .val (.int (7 : Int32)), .val (.int (3 : Int32)), .val (.ref b107), .val (.int (1 : Int32))] [(.ref r0), (.int (1 : Int32)), (.ref b107)])) _
      refine XS.iconst X116.here hx rfl (hb hby d2_55) ?_
      show Steps p.tables e below (T116.setTop (mkF m 56 #[.val (.ref r0), .val (.int (7 : Int32)), .val (.int (3 : Int32)), .val (.ref b107), .val (.int (1 : Int32))] [(.int (1 : Int32)), (.ref r0), (.int (1 : Int32)), (.ref b107)])) _
      refine X116.laload hx (j := (1 : Int32)) (v := (.long (f ((1 : Int32)).toNatClampNeg))) (by rw [e116]; exact Ar120.1) (State.isArrayOf_alike hZ.alike Ar120.2.1) Ar120.2.2 hin120 hat120 (g := (mkF m 56 #[.val (.ref r0), .val (.int (7 : Int32)), .val (.int (3 : Int32)), .val (.ref b107), .val (.int (1 : Int32))] [(.int (1 : Int32)), (.ref r0), (.int (1 : Int32)), (.ref b107)])) rfl rfl (hb hby d2_56) _ ?_
      show Steps p.tables e below (T116.setTop (mkF m 57 #[.val (.ref r0), .val (.int (7 : Int32)), .val (.int (3 : Int32)), .val (.ref b107), .val (.int (1 : Int32))] [(.long (f ((1 : Int32)).toNatClampNeg)), (.int (1 : Int32)), (.ref b107)])) _
      refine st122 _ ?_
      show Steps p.tables e below (T122.setTop (mkF m 58 #[.val (.ref r0), .val (.int (7 : Int32)), .val (.int (3 : Int32)), .val (.ref b107), .val (.int (1 : Int32))] [])) _
      refine XS.iinc X122.here hx rfl (hb hby d2_58) rfl (l' := #[.val (.ref r0), .val (.int (7 : Int32)), .val (.int (3 : Int32)), .val (.ref b107), .val (.int (2 : Int32))]) rfl ?_
      show Steps p.tables e below (T122.setTop (mkF m 61 #[.val (.ref r0), .val (.int (7 : Int32)), .val (.int (3 : Int32)), .val (.ref b107), .val (.int (2 : Int32))] [])) _
      refine XS.iloadN X122.here hx rfl (hb hby d2_61) rfl ?_
      show Steps p.tables e below (T122.setTop (mkF m 62 #[.val (.ref r0), .val (.int (7 : Int32)), .val (.int (3 : Int32)), .val (.ref b107), .val (.int (2 : Int32))] [(.int (7 : Int32))])) _
      refine XS.iconst X122.here hx rfl (hb hby d2_62) ?_
      show Steps p.tables e below (T122.setTop (mkF m 63 #[.val (.ref r0), .val (.int (7 : Int32)), .val (.int (3 : Int32)), .val (.ref b107), .val (.int (2 : Int32))] [(.int (4 : Int32)), (.int (7 : Int32))])) _
      refine XS.iand X122.here hx rfl (hb hby d2_63) rfl ?_
      show Steps p.tables e below (T122.setTop (mkF m 64 #[.val (.ref r0), .val (.int (7 : Int32)), .val (.int (3 : Int32)), .val (.ref b107), .val (.int (2 : Int32))] [(.int (4 : Int32))])) _
      refine XS.ifNo X122.here hx rfl (hb hby d2_64) rfl ((if0 _ _).trans (feq (by decide : ¬ ((4 : Int32) = (0 : Int32)))).1) ?_
      show Steps p.tables e below (T122.setTop (mkF m 67 #[.val (.ref r0), .val (.int (7 : Int32)), .val (.int (3 : Int32)), .val (.ref b107), .val (.int (2 : Int32))] [])) _
      refine XS.aloadN X122.here hx rfl (hb hby d2_67) rfl rfl ?_
      show Steps p.tables e below (T122.setTop (mkF m 68 #[.val (.ref r0), .val (.int (7 : Int32)), .val (.int (3 : Int32)), .val (.ref b107), .val (.int (2 : Int32))] [(.ref b107)])) _
      refine XS.iload X122.here hx rfl (hb hby d2_68) rfl ?_
      show Steps p.tables e below (T122.setTop (mkF m 70 #[.val (.ref r0), .val (.int (7 : Int32)), .val (.int (3 : Int32)), .val (.ref b107), .val (.int (2 : Int32))] [(.int (2 : Int32)), (.ref b107)])) _
      refine XS.aloadN X122.here hx rfl (hb hby d2_70) rfl rfl ?_
      show Steps p.tables e below (T122.setTop (mkF m 71 #[.val (.ref r0), .val (.int (7 : Int32)), .val (.int (3 : Int32)), .val (.ref b107), .val (.int (2 : Int32))] [(.ref r0), (.int (2 : Int32)), (.ref b107)])) _
      refine XS.iconst X122.here hx rfl (hb hby d2_71) ?_
      show Steps p.tables e below (T122.setTop (mkF m 72 #[.val (.ref r0), .val (.int (7 : Int32)), .val (.int (3 : Int32)), .val (.ref b107), .val (.int (2 : Int32))] [(.int (2 : Int32)), (.ref r0), (.int (2 : Int32)), (.ref b107)])) _
      refine X122.laload hx (j := (2 : Int32)) (v := (.long (f ((2 : Int32)).toNatClampNeg))) (by rw [e122]; exact Ar126.1) (State.isArrayOf_alike hZ.alike Ar126.2.1) Ar126.2.2 hin126 hat126 (g := (mkF m 72 #[.val (.ref r0), .val (.int (7 : Int32)), .val (.int (3 : Int32)), .val (.ref b107), .val (.int (2 : Int32))] [(.int (2 : Int32)), (.ref r0), (.int (2 : Int32)), (.ref b107)])) rfl rfl (hb hby d2_72) _ ?_
      show Steps p.tables e below (T122.setTop (mkF m 73 #[.val (.ref r0), .val (.int (7 : Int32)), .val (.int (3 : Int32)), .val (.ref b107), .val (.int (2 : Int32))] [(.long (f ((2 : Int32)).toNatClampNeg)), (.int (2 : Int32)), (.ref b107)])) _
      refine st128 _ ?_
      show Steps p.tables e below (T128.setTop (mkF m 74 #[.val (.ref r0), .val (.int (7 : Int32)), .val (.int (3 : Int32)), .val (.ref b107), .val (.int (2 : Int32))] [])) _
      refine XS.iinc X128.here hx rfl (hb hby d2_74) rfl (l' := #[.val (.ref r0), .val (.int (7 : Int32)), .val (.int (3 : Int32)), .val (.ref b107), .val (.int (3 : Int32))]) rfl ?_
      show Steps p.tables e below (T128.setTop (mkF m 77 #[.val (.ref r0), .val (.int (7 : Int32)), .val (.int (3 : Int32)), .val (.ref b107), .val (.int (3 : Int32))] [])) _
      refine XS.iloadN X128.here hx rfl (hb hby d2_77) rfl ?_
      show Steps p.tables e below (T128.setTop (mkF m 78 #[.val (.ref r0), .val (.int (7 : Int32)), .val (.int (3 : Int32)), .val (.ref b107), .val (.int (3 : Int32))] [(.int (7 : Int32))])) _
      refine XS.bipush X128.here hx rfl (hb hby d2_78) ?_
      show Steps p.tables e below (T128.setTop (mkF m 80 #[.val (.ref r0), .val (.int (7 : Int32)), .val (.int (3 : Int32)), .val (.ref b107), .val (.int (3 : Int32))] [(.int (8 : Int32)), (.int (7 : Int32))])) _
      refine XS.iand X128.here hx rfl (hb hby d2_80) rfl ?_
      show Steps p.tables e below (T128.setTop (mkF m 81 #[.val (.ref r0), .val (.int (7 : Int32)), .val (.int (3 : Int32)), .val (.ref b107), .val (.int (3 : Int32))] [(.int (0 : Int32))])) _
      refine XS.ifYes X128.here hx rfl (pc0 := 81) (pc' := 94) rfl (hb hby d2_81) rfl ((if0 _ _).trans (teq (by decide : (0 : Int32) = (0 : Int32))).1) (by decide) (by decide) ?_
      show Steps p.tables e below (T128.setTop (mkF m 94 #[.val (.ref r0), .val (.int (7 : Int32)), .val (.int (3 : Int32)), .val (.ref b107), .val (.int (3 : Int32))] [])) _
      refine XS.aloadN X128.here hx rfl (hb hby d2_94) rfl rfl ?_
      show Steps p.tables e below (T128.setTop (mkF m 95 #[.val (.ref r0), .val (.int (7 : Int32)), .val (.int (3 : Int32)), .val (.ref b107), .val (.int (3 : Int32))] [(.ref b107)])) _
      exact retOut X128 hx Bd.returns rfl (Or.inr (Or.inr (Or.inr (Or.inr ⟨rfl, rfl, rfl⟩)))) (hb hby d2_95) hr
    · show Q2 Z r0 (7 : Int32) f h0 n0 _ T128.heap _
      rw [e128]
      exact ⟨b107, (3 : Int32), (fun i => if i = ((2 : Int32)).toNatClampNeg then (f ((2 : Int32)).toNatClampNeg) else (fun i => if i = ((1 : Int32)).toNatClampNeg then (f ((1 : Int32)).toNatClampNeg) else (fun i => if i = ((0 : Int32)).toNatClampNeg then (f ((0 : Int32)).toNatClampNeg) else (fun _ => (0 : Int64)) i) i) i), rfl, N128, z110, K130, V128, rfl⟩
  · obtain ⟨T131, h131, k131, X131, e131, E131, A131, st131⟩ := newP X0 hx hZ (hw _ (List.mem_of_getElem? (i := 0) rfl)) e0 (g := (mkF m 23 #[.val (.ref r0), .val (.int (8 : Int32)), .val (.int (1 : Int32)), .unset, .unset] [(.int (1 : Int32))])) rfl (hb hby d2_23) rfl (by decide) (cap := 1) (by decide) (by decide) (by decide) (by decide)
    obtain ⟨b131, gb131⟩ : ∃ z, z = h0.size := ⟨_, rfl⟩
    rw [← gb131] at A131 st131
    have ne132 : r0 ≠ b131 := Nat.ne_of_lt (Nat.lt_of_lt_of_le hp0.lt (Nat.le_of_eq gb131.symm))
    have g133 : n0 ≤ b131 := Nat.le_trans Z0 (Nat.le_of_eq gb131.symm)
    have z134 : h0.size ≤ b131 := Nat.le_trans (Keep.refl h0 []).1 (Nat.le_of_eq gb131.symm)
    have Z135 : n0 ≤ h131.size := Nat.le_trans Z0 E131.1
    have K136 : Keep h0 h131 [] := (Keep.refl h0 []).ext E131
    have V131 : AL Z h131 b131 (1 : Int32) (fun _ => (0 : Int64)) := AL.new A131 (by decide)
    have V137 : AL Z h131 r0 (4 : Int32) f := (hp0.ext E131)
    obtain ⟨cl138, Ar138, S138, M138, I138⟩ := id V137
    have hin138 : ¬ ((3 : Int32) < 0 ∨ cl138.slots.size ≤ ((3 : Int32)).toNatClampNeg) := inb_of S138 ⟨by decide, by decide⟩
    have hat138 : cl138.slots[((3 : Int32)).toNatClampNeg]? = some (.long (f ((3 : Int32)).toNatClampNeg)) := I138 _ (Nat.lt_of_not_le fun y => hin138 (Or.inr y))
    obtain ⟨cl139, Ar139, S139, M139, I139⟩ := id V131
    have hin139 : ¬ ((0 : Int32) < 0 ∨ cl139.slots.size ≤ ((0 : Int32)).toNatClampNeg) := inb_of S139 ⟨by decide, by decide⟩
    obtain ⟨T140, h140, X140, e140, W140, st140⟩ := stJ X131 hx hZ e131 Ar139 (j := (0 : Int32)) hin139 (g := (mkF m 90 #[.val (.ref r0), .val (.int (8 : Int32)), .val (.int (1 : Int32)), .val (.ref b131), .val (.int (0 : Int32))] [(.long (f ((3 : Int32)).toNatClampNeg)), (.int (0 : Int32)), (.ref b131)])) rfl rfl (hb hby d2_90)
    have V140 : AL Z h140 b131 (1 : Int32) (fun i => if i = ((0 : Int32)).toNatClampNeg then (f ((3 : Int32)).toNatClampNeg) else (fun _ => (0 : Int64)) i) := AL.set V131 W140
    have Z141 : n0 ≤ h140.size := Nat.le_trans Z135 (Keep.of_wr W140).1
    have K142 : Keep h0 h140 [] := K136.wr W140 (Or.inr z134)
    have N140 := Fr.snoc X140 N0 g133
    obtain ⟨fs, hr, hrun, hended, hW, hsame⟩ := X140.leave (v := some (.ref b131)) (fun h => by rw [Bd.returns] at h; cases h)
    refine ⟨_, _, pre0 _ ?_, hrun, hended, _, _, rfl, ?_, ⟨_, rfl⟩, hW, hsame.mono (by decide) (by decide)⟩
    · refine XS.iloadN X0.here hx rfl (hb hby d2_0) rfl ?_
      show Steps p.tables e below (s₁.setTop (mkF m 1 #[.val (.ref r0), .val (.int (8 : Int32)), .unset, .unset, .unset] [(.int (8 : Int32))])) _
      refine XS.iconst X0.here hx rfl (hb hby d2_1) ?_
      show Steps p.tables e below (s₁.setTop (mkF m 2 #[.val (.ref r0), .val (.int (8 : Int32)), .unset, .unset, .unset] [(.int (1 : Int32)), (.int (8 : Int32))])) _
      refine XS.iand X0.here hx rfl (hb hby d2_2) rfl ?_
      show Steps p.tables e below (s₁.setTop (mkF m 3 #[.val (.ref r0), .val (.int (8 : Int32)), .unset, .unset, .unset] [(.int (0 : Int32))])) _
      refine XS.iloadN X0.here hx rfl (hb hby d2_3) rfl ?_
      show Steps p.tables e below (s₁.setTop (mkF m 4 #[.val (.ref r0), .val (.int (8 : Int32)), .unset, .unset, .unset] [(.int (8 : Int32)), (.int (0 : Int32))])) _
      refine XS.iconst X0.here hx rfl (hb hby d2_4) ?_
      show Steps p.tables e below (s₁.setTop (mkF m 5 #[.val (.ref r0), .val (.int (8 : Int32)), .unset, .unset, .unset] [(.int (1 : Int32)), (.int (8 : Int32)), (.int (0 : Int32))])) _
      refine XS.ishr X0.here hx rfl (hb hby d2_5) rfl ?_
      show Steps p.tables e below (s₁.setTop (mkF m 6 #[.val (.ref r0), .val (.int (8 : Int32)), .unset, .unset, .unset] [(.int (4 : Int32)), (.int (0 : Int32))])) _
      refine XS.iconst X0.here hx rfl (hb hby d2_6) ?_
      show Steps p.tables e below (s₁.setTop (mkF m 7 #[.val (.ref r0), .val (.int (8 : Int32)), .unset, .unset, .unset] [(.int (1 : Int32)), (.int (4 : Int32)), (.int (0 : Int32))])) _
      refine XS.iand X0.here hx rfl (hb hby d2_7) rfl ?_
      show Steps p.tables e below (s₁.setTop (mkF m 8 #[.val (.ref r0), .val (.int (8 : Int32)), .unset, .unset, .unset] [(.int (0 : Int32)), (.int (0 : Int32))])) _
      refine XS.iadd X0.here hx rfl (hb hby d2_8) rfl ?_
      show Steps p.tables e below (s₁.setTop (mkF m 9 #[.val (.ref r0), .val (.int (8 : Int32)), .unset, .unset, .unset] [(.int (0 : Int32))])) _
      refine XS.iloadN X0.here hx rfl (hb hby d2_9) rfl ?_
      show Steps p.tables e below (s₁.setTop (mkF m 10 #[.val (.ref r0), .val (.int (8 : Int32)), .unset, .unset, .unset] [(.int (8 : Int32)), (.int (0 : Int32))])) _
      refine XS.iconst X0.here hx rfl (hb hby d2_10) ?_
      show Steps p.tables e below (s₁.setTop (mkF m 11 #[.val (.ref r0), .val (.int (8 : Int32)), .unset, .unset, .unset] [(.int (2 : Int32)), (.int (8 : Int32)), (.int (0 : Int32))])) _
      refine XS.ishr X0.here hx rfl (hb hby d2_11) rfl ?_
      show Steps p.tables e below (s₁.setTop (mkF m 12 #[.val (.ref r0), .val (.int (8 : Int32)), .unset, .unset, .unset] [(.int (2 : Int32)), (.int (0 : Int32))])) _
      refine XS.iconst X0.here hx rfl (hb hby d2_12) ?_
      show Steps p.tables e below (s₁.setTop (mkF m 13 #[.val (.ref r0), .val (.int (8 : Int32)), .unset, .unset, .unset] [(.int (1 : Int32)), (.int (2 : Int32)), (.int (0 : Int32))])) _
      refine XS.iand X0.here hx rfl (hb hby d2_13) rfl ?_
      show Steps p.tables e below (s₁.setTop (mkF m 14 #[.val (.ref r0), .val (.int (8 : Int32)), .unset, .unset, .unset] [(.int (0 : Int32)), (.int (0 : Int32))])) _
      refine XS.iadd X0.here hx rfl (hb hby d2_14) rfl ?_
      show Steps p.tables e below (s₁.setTop (mkF m 15 #[.val (.ref r0), .val (.int (8 : Int32)), .unset, .unset, .unset] [(.int (0 : Int32))])) _
      refine XS.iloadN X0.here hx rfl (hb hby d2_15) rfl ?_
      show Steps p.tables e below (s₁.setTop (mkF m 16 #[.val (.ref r0), .val (.int (8 : Int32)), .unset, .unset, .unset] [(.int (8 : Int32)), (.int (0 : Int32))])) _
      refine XS.iconst X0.here hx rfl (hb hby d2_16) ?_
      show Steps p.tables e below (s₁.setTop (mkF m 17 #[.val (.ref r0), .val (.int (8 : Int32)), .unset, .unset, .unset] [(.int (3 : Int32)), (.int (8 : Int32)), (.int (0 : Int32))])) _
      refine XS.ishr X0.here hx rfl (hb hby d2_17) rfl ?_
      show Steps p.tables e below (s₁.setTop (mkF m 18 #[.val (.ref r0), .val (.int (8 : Int32)), .unset, .unset, .unset] [(.int (1 : Int32)), (.int (0 : Int32))])) _
      refine XS.iconst X0.here hx rfl (hb hby d2_18) ?_
      show Steps p.tables e below (s₁.setTop (mkF m 19 #[.val (.ref r0), .val (.int (8 : Int32)), .unset, .unset, .unset] [(.int (1 : Int32)), (.int (1 : Int32)), (.int (0 : Int32))])) _
      refine XS.iand X0.here hx rfl (hb hby d2_19) rfl ?_
      show Steps p.tables e below (s₁.setTop (mkF m 20 #[.val (.ref r0), .val (.int (8 : Int32)), .unset, .unset, .unset] [(.int (1 : Int32)), (.int (0 : Int32))])) _
      refine XS.iadd X0.here hx rfl (hb hby d2_20) rfl ?_
      show Steps p.tables e below (s₁.setTop (mkF m 21 #[.val (.ref r0), .val (.int (8 : Int32)), .unset, .unset, .unset] [(.int (1 : Int32))])) _
      refine XS.istoreN X0.here hx rfl (hb hby d2_21) rfl (l' := #[.val (.ref r0), .val (.int (8 : Int32)), .val (.int (1 : Int32)), .unset, .unset]) rfl ?_
      show Steps p.tables e below (s₁.setTop (mkF m 22 #[.val (.ref r0), .val (.int (8 : Int32)), .val (.int (1 : Int32)), .unset, .unset] [])) _
      refine XS.iloadN X0.here hx rfl (hb hby d2_22) rfl ?_
      show Steps p.tables e below (s₁.setTop (mkF m 23 #[.val (.ref r0), .val (.int (8 : Int32)), .val (.int (1 : Int32)), .unset, .unset] [(.int (1 : Int32))])) _
      refine st131 _ ?_
      show Steps p.tables e below (T131.setTop (mkF m 25 #[.val (.ref r0), .val (.int (8 : Int32)), .val (.int (1 : Int32)), .unset, .unset] [(.ref b131)])) _
      refine XS.astoreN X131.here hx rfl (hb hby d2_25) rfl rfl (l' := #[.val (.ref r0), .val (.int (8 : Int32)), .val (.int (1 : Int32)), .val (.ref b131), .unset]) rfl ?_
      show Steps p.tables e below (T131.setTop (mkF m 26 #[.val (.ref r0), .val (.int (8 : Int32)), .val (.int (1 : Int32)), .val (.ref b131), .unset] [])) _
      refine XS.iconst X131.here hx rfl (hb hby d2_26) ?_
      show Steps p.tables e below (T131.setTop (mkF m 27 #[.val (.ref r0), .val (.int (8 : Int32)), .val (.int (1 : Int32)), .val (.ref b131), .unset] [(.int (0 : Int32))])) _
      refine XS.istore X131.here hx rfl (hb hby d2_27) rfl (l' := #[.val (.ref r0), .val (.int (8 : Int32)), .val (.int (1 : Int32)), .val (.ref b131), .val (.int (0 : Int32))]) rfl ?_
      show Steps p.tables e below (T131.setTop (mkF m 29 #[.val (.ref r0), .val (.int (8 : Int32)), .val (.int (1 : Int32)), .val (.ref b131), .val (.int (0 : Int32))] [])) _
      refine XS.iloadN X131.here hx rfl (hb hby d2_29) rfl ?_
      show Steps p.tables e below (T131.setTop (mkF m 30 #[.val (.ref r0), .val (.int (8 : Int32)), .val (.int (1 : Int32)), .val (.ref b131), .val (.int (0 : Int32))] [(.int (8 : Int32))])) _
      refine XS.iconst X131.here hx rfl (hb hby d2_30) ?_
      show Steps p.tables e below (T131.setTop (mkF m 31 #[.val (.ref r0), .val (.int (8 : Int32)), .val (.int (1 : Int32)), .val (.ref b131), .val (.int (0 : Int32))] [(.int (1 : Int32)), (.int (8 : Int32))])) _
      refine XS.iand X131.here hx rfl (hb hby d2_31) rfl ?_
      show Steps p.tables e below (T131.setTop (mkF m 32 #[.val (.ref r0), .val (.int (8 : Int32)), .val (.int (1 : Int32)), .val (.ref b131), .val (.int (0 : Int32))] [(.int (0 : Int32))])) _
      refine XS.ifYes X131.here hx rfl (pc0 := 32) (pc' := 45) rfl (hb hby d2_32) rfl ((if0 _ _).trans (teq (by decide : (0 : Int32) = (0 : Int32))).1) (by decide) (by decide) ?_
      show Steps p.tables e below (T131.setTop (mkF m 45 #[.val (.ref r0), .val (.int (8 : Int32)), .val (.int (1 : Int32)), .val (.ref b131), .val (.int (0 : Int32))] [])) _
      refine XS.iloadN X131.here hx rfl (hb hby d2_45) rfl ?_
      show Steps p.tables e below (T131.setTop (mkF m 46 #[.val (.ref r0), .val (.int (8 : Int32)), .val (.int (1 : Int32)), .val (.ref b131), .val (.int (0 : Int32))] [(.int (8 : Int32))])) _
      refine XS.iconst X131.here hx rfl (hb hby d2_46) ?_
      show Steps p.tables e below (T131.setTop (mkF m 47 #[.val (.ref r0), .val (.int (8 : Int32)), .val (.int (1 : Int32)), .val (.ref b131), .val (.int (0 : Int32))] [(.int (2 : Int32)), (.int (8 : Int32))])) _
      refine XS.iand X131.here hx rfl (hb hby d2_47) rfl ?_
      show Steps p.tables e below (T131.setTop (mkF m 48 #[.val (.ref r0), .val (.int (8 : Int32)), .val (.int (1 : Int32)), .val (.ref b131), .val (.int (0 : Int32))] [(.int (0 : Int32))])) _
      refine XS.ifYes X131.here hx rfl (pc0 := 48) (pc' := 61) rfl (hb hby d2_48) rfl ((if0 _ _).trans (teq (by decide : (0 : Int32) = (0 : Int32))).1) (by decide) (by decide) ?_
      show Steps p.tables e below (T131.setTop (mkF m 61 #[.val (.ref r0), .val (.int (8 : Int32)), .val (.int (1 : Int32)), .val (.ref b131), .val (.int (0 : Int32))] [])) _
      refine XS.iloadN X131.here hx rfl (hb hby d2_61) rfl ?_
      show Steps p.tables e below (T131.setTop (mkF m 62 #[.val (.ref r0), .val (.int (8 : Int32)), .val (.int (1 : Int32)), .val (.ref b131), .val (.int (0 : Int32))] [(.int (8 : Int32))])) _
      refine XS.iconst X131.here hx rfl (hb hby d2_62) ?_
      show Steps p.tables e below (T131.setTop (mkF m 63 #[.val (.ref r0), .val (.int (8 : Int32)), .val (.int (1 : Int32)), .val (.ref b131), .val (.int (0 : Int32))] [(.int (4 : Int32)), (.int (8 : Int32))])) _
      refine XS.iand X131.here hx rfl (hb hby d2_63) rfl ?_
      show Steps p.tables e below (T131.setTop (mkF m 64 #[.val (.ref r0), .val (.int (8 : Int32)), .val (.int (1 : Int32)), .val (.ref b131), .val (.int (0 : Int32))] [(.int (0 : Int32))])) _
      refine XS.ifYes X131.here hx rfl (pc0 := 64) (pc' := 77) rfl (hb hby d2_64) rfl ((if0 _ _).trans (teq (by decide : (0 : Int32) = (0 : Int32))).1) (by decide) (by decide) ?_
      show Steps p.tables e below (T131.setTop (mkF m 77 #[.val (.ref r0), .val (.int (8 : Int32)), .val (.int (1 : Int32)), .val (.ref b131), .val (.int (0 : Int32))] [])) _
      refine XS.iloadN X131.here hx rfl (hb hby d2_77) rfl ?_
      show Steps p.tables e below (T131.setTop (mkF m 78 #[.val (.ref r0), .val (.int (8 : Int32)), .val (.int (1 : Int32)), .val (.ref b131), .val (.int (0 : Int32))] [(.int (8 : Int32))])) _
      refine XS.bipush X131.here hx rfl (hb hby d2_78) ?_
      show Steps p.tables e below (T131.setTop (mkF m 80 #[.val (.ref r0), .val (.int (8 : Int32)), .val (.int (1 : Int32)), .val (.ref b131), .val (.int (0 : Int32))] [(.int (8 : Int32)), (.int (8 : Int32))])) _
      refine XS.iand X131.here hx rfl (hb hby d2_80) rfl ?_
      show Steps p.tables e below (T131.setTop (mkF m 81 #[.val (.ref r0), .val (.int (8 : Int32)), .val (.int (1 : Int32)), .val (.ref b131), .val (.int (0 : Int32))] [(.int (8 : Int32))])) _
      refine XS.ifNo X131.here hx rfl (hb hby d2_81) rfl ((if0 _ _).trans (feq (by decide : ¬ ((8 : Int32) = (0 : Int32)))).1) ?_
      show Steps p.tables e below (T131.setTop (mkF m 84 #[.val (.ref r0), .val (.int (8 : Int32)), .val (.int (1 : Int32)), .val (.ref b131), .val (.int (0 : Int32))] [])) _
      refine XS.aloadN X131.here hx rfl (hb hby d2_84) rfl rfl ?_
      show Steps p.tables e below (T131.setTop (mkF m 85 #[.val (.ref r0), .val (.int (8 : Int32)), .val (.int (1 : Int32)), .val (.ref b131), .val (.int (0 : Int32))] [(.ref b131)])) _
      refine XS.iload X131.here hx rfl (hb hby d2_85) rfl ?_
      show Steps p.tables e below (T131.setTop (mkF m 87 #[.val (.ref r0), .val (.int (8 : Int32)), .val (.int (1 : Int32)), .val (.ref b131), .val (.int (0 : Int32))] [(.int (0 : Int32)), (.ref b131)])) _
      refine XS.aloadN X131.here hx rfl (hb hby d2_87) rfl rfl ?_
      show Steps p.tables e below (T131.setTop (mkF m 88 #[.val (.ref r0), .val (.int (8 : Int32)), .val (.int (1 : Int32)), .val (.ref b131), .val (.int (0 : Int32))] [(.ref r0), (.int (0 : Int32)), (.ref b131)])) _
      refine XS.iconst X131.here hx rfl (hb hby d2_88) ?_
      show Steps p.tables e below (T131.setTop (mkF m 89 #[.val (.ref r0), .val (.int (8 : Int32)), .val (.int (1 : Int32)), .val (.ref b131), .val (.int (0 : Int32))] [(.int (3 : Int32)), (.ref r0), (.int (0 : Int32)), (.ref b131)])) _
      refine X131.laload hx (j := (3 : Int32)) (v := (.long (f ((3 : Int32)).toNatClampNeg))) (by rw [e131]; exact Ar138.1) (State.isArrayOf_alike hZ.alike Ar138.2.1) Ar138.2.2 hin138 hat138 (g := (mkF m 89 #[.val (.ref r0), .val (.int (8 : Int32)), .val (.int (1 : Int32)), .val (.ref b131), .val (.int (0 : Int32))] [(.int (3 : Int32)), (.ref r0), (.int (0 : Int32)), (.ref b131)])) rfl rfl (hb hby d2_89) _ ?_
      show Steps p.tables e below (T131.setTop (mkF m 90 #[.val (.ref r0), .val (.int (8 : Int32)), .val (.int (1 : Int32)), .val (.ref b131), .val (.int (0 : Int32))] [(.long (f ((3 : Int32)).toNatClampNeg)), (.int (0 : Int32)), (.ref b131)])) _
      refine st140 _ ?_
      show Steps p.tables e below (T140.setTop (mkF m 91 #[.val (.ref r0), .val (.int (8 : Int32)), .val (.int (1 : Int32)), .val (.ref b131), .val (.int (0 : Int32))] [])) _
      refine XS.iinc X140.here hx rfl (hb hby d2_91) rfl (l' := #[.val (.ref r0), .val (.int (8 : Int32)), .val (.int (1 : Int32)), .val (.ref b131), .val (.int (1 : Int32))]) rfl ?_
      show Steps p.tables e below (T140.setTop (mkF m 94 #[.val (.ref r0), .val (.int (8 : Int32)), .val (.int (1 : Int32)), .val (.ref b131), .val (.int (1 : Int32))] [])) _
      refine XS.aloadN X140.here hx rfl (hb hby d2_94) rfl rfl ?_
      show Steps p.tables e below (T140.setTop (mkF m 95 #[.val (.ref r0), .val (.int (8 : Int32)), .val (.int (1 : Int32)), .val (.ref b131), .val (.int (1 : Int32))] [(.ref b131)])) _
      exact retOut X140 hx Bd.returns rfl (Or.inr (Or.inr (Or.inr (Or.inr ⟨rfl, rfl, rfl⟩)))) (hb hby d2_95) hr
    · show Q2 Z r0 (8 : Int32) f h0 n0 _ T140.heap _
      rw [e140]
      exact ⟨b131, (1 : Int32), (fun i => if i = ((0 : Int32)).toNatClampNeg then (f ((3 : Int32)).toNatClampNeg) else (fun _ => (0 : Int64)) i), rfl, N140, z134, K142, V140, rfl⟩
  · obtain ⟨T143, h143, k143, X143, e143, E143, A143, st143⟩ := newP X0 hx hZ (hw _ (List.mem_of_getElem? (i := 0) rfl)) e0 (g := (mkF m 23 #[.val (.ref r0), .val (.int (9 : Int32)), .val (.int (2 : Int32)), .unset, .unset] [(.int (2 : Int32))])) rfl (hb hby d2_23) rfl (by decide) (cap := 2) (by decide) (by decide) (by decide) (by decide)
    obtain ⟨b143, gb143⟩ : ∃ z, z = h0.size := ⟨_, rfl⟩
    rw [← gb143] at A143 st143
    have ne144 : r0 ≠ b143 := Nat.ne_of_lt (Nat.lt_of_lt_of_le hp0.lt (Nat.le_of_eq gb143.symm))
    have g145 : n0 ≤ b143 := Nat.le_trans Z0 (Nat.le_of_eq gb143.symm)
    have z146 : h0.size ≤ b143 := Nat.le_trans (Keep.refl h0 []).1 (Nat.le_of_eq gb143.symm)
    have Z147 : n0 ≤ h143.size := Nat.le_trans Z0 E143.1
    have K148 : Keep h0 h143 [] := (Keep.refl h0 []).ext E143
    have V143 : AL Z h143 b143 (2 : Int32) (fun _ => (0 : Int64)) := AL.new A143 (by decide)
    have V149 : AL Z h143 r0 (4 : Int32) f := (hp0.ext E143)
    obtain ⟨cl150, Ar150, S150, M150, I150⟩ := id V149
    have hin150 : ¬ ((0 : Int32) < 0 ∨ cl150.slots.size ≤ ((0 : Int32)).toNatClampNeg) := inb_of S150 ⟨by decide, by decide⟩
    have hat150 : cl150.slots[((0 : Int32)).toNatClampNeg]? = some (.long (f ((0 : Int32)).toNatClampNeg)) := I150 _ (Nat.lt_of_not_le fun y => hin150 (Or.inr y))
    obtain ⟨cl151, Ar151, S151, M151, I151⟩ := id V143
    have hin151 : ¬ ((0 : Int32) < 0 ∨ cl151.slots.size ≤ ((0 : Int32)).toNatClampNeg) := inb_of S151 ⟨by decide, by decide⟩
    obtain ⟨T152, h152, X152, e152, W152, st152⟩ := stJ X143 hx hZ e143 Ar151 (j := (0 : Int32)) hin151 (g := (mkF m 41 #[.val (.ref r0), .val (.int (9 : Int32)), .val (.int (2 : Int32)), .val (.ref b143), .val (.int (0 : Int32))] [(.long (f ((0 : Int32)).toNatClampNeg)), (.int (0 : Int32)), (.ref b143)])) rfl rfl (hb hby d2_41)
    have V152 : AL Z h152 b143 (2 : Int32) (fun i => if i = ((0 : Int32)).toNatClampNeg then (f ((0 : Int32)).toNatClampNeg) else (fun _ => (0 : Int64)) i) := AL.set V143 W152
    have Z153 : n0 ≤ h152.size := Nat.le_trans Z147 (Keep.of_wr W152).1
    have K154 : Keep h0 h152 [] := K148.wr W152 (Or.inr z146)
    have N152 := Fr.snoc X152 N0 g145
    have V155 : AL Z h152 r0 (4 : Int32) f := (V149.other W152 ne144)
    obtain ⟨cl156, Ar156, S156, M156, I156⟩ := id V155
    have hin156 : ¬ ((3 : Int32) < 0 ∨ cl156.slots.size ≤ ((3 : Int32)).toNatClampNeg) := inb_of S156 ⟨by decide, by decide⟩
    have hat156 : cl156.slots[((3 : Int32)).toNatClampNeg]? = some (.long (f ((3 : Int32)).toNatClampNeg)) := I156 _ (Nat.lt_of_not_le fun y => hin156 (Or.inr y))
    obtain ⟨cl157, Ar157, S157, M157, I157⟩ := id V152
    have hin157 : ¬ ((1 : Int32) < 0 ∨ cl157.slots.size ≤ ((1 : Int32)).toNatClampNeg) := inb_of S157 ⟨by decide, by decide⟩
    obtain ⟨T158, h158, X158, e158, W158, st158⟩ := stJ X152 hx hZ e152 Ar157 (j := (1 : Int32)) hin157 (g := (mkF m 90 #[.val (.ref r0), .val (.int (9 : Int32)), .val (.int (2 : Int32)), .val (.ref b143), .val (.int (1 : Int32))] [(.long (f ((3 : Int32)).toNatClampNeg)), (.int (1 : Int32)), (.ref b143)])) rfl rfl (hb hby d2_90)
    have V158 : AL Z h158 b143 (2 : Int32) (fun i => if i = ((1 : Int32)).toNatClampNeg then (f ((3 : Int32)).toNatClampNeg) else (fun i => if i = ((0 : Int32)).toNatClampNeg then (f ((0 : Int32)).toNatClampNeg) else (fun _ => (0 : Int64)) i) i) := AL.set V152 W158
    have Z159 : n0 ≤ h158.size := Nat.le_trans Z153 (Keep.of_wr W158).1
    have K160 : Keep h0 h158 [] := K154.wr W158 (Or.inr z146)
    have N158 := Fr.snoc X158 N152 g145
    obtain ⟨fs, hr, hrun, hended, hW, hsame⟩ := X158.leave (v := some (.ref b143)) (fun h => by rw [Bd.returns] at h; cases h)
    refine ⟨_, _, pre0 _ ?_, hrun, hended, _, _, rfl, ?_, ⟨_, rfl⟩, hW, hsame.mono (by decide) (by decide)⟩
    · refine XS.iloadN X0.here hx rfl (hb hby d2_0) rfl ?_
      show Steps p.tables e below (s₁.setTop (mkF m 1 #[.val (.ref r0), .val (.int (9 : Int32)), .unset, .unset, .unset] [(.int (9 : Int32))])) _
      refine XS.iconst X0.here hx rfl (hb hby d2_1) ?_
      show Steps p.tables e below (s₁.setTop (mkF m 2 #[.val (.ref r0), .val (.int (9 : Int32)), .unset, .unset, .unset] [(.int (1 : Int32)), (.int (9 : Int32))])) _
      refine XS.iand X0.here hx rfl (hb hby d2_2) rfl ?_
      show Steps p.tables e below (s₁.setTop (mkF m 3 #[.val (.ref r0), .val (.int (9 : Int32)), .unset, .unset, .unset] [(.int (1 : Int32))])) _
      refine XS.iloadN X0.here hx rfl (hb hby d2_3) rfl ?_
      show Steps p.tables e below (s₁.setTop (mkF m 4 #[.val (.ref r0), .val (.int (9 : Int32)), .unset, .unset, .unset] [(.int (9 : Int32)), (.int (1 : Int32))])) _
      refine XS.iconst X0.here hx rfl (hb hby d2_4) ?_
      show Steps p.tables e below (s₁.setTop (mkF m 5 #[.val (.ref r0), .val (.int (9 : Int32)), .unset, .unset, .unset] [(.int (1 : Int32)), (.int (9 : Int32)), (.int (1 : Int32))])) _
      refine XS.ishr X0.here hx rfl (hb hby d2_5) rfl ?_
      show Steps p.tables e below (s₁.setTop (mkF m 6 #[.val (.ref r0), .val (.int (9 : Int32)), .unset, .unset, .unset] [(.int (4 : Int32)), (.int (1 : Int32))])) _
      refine XS.iconst X0.here hx rfl (hb hby d2_6) ?_
      show Steps p.tables e below (s₁.setTop (mkF m 7 #[.val (.ref r0), .val (.int (9 : Int32)), .unset, .unset, .unset] [(.int (1 : Int32)), (.int (4 : Int32)), (.int (1 : Int32))])) _
      refine XS.iand X0.here hx rfl (hb hby d2_7) rfl ?_
      show Steps p.tables e below (s₁.setTop (mkF m 8 #[.val (.ref r0), .val (.int (9 : Int32)), .unset, .unset, .unset] [(.int (0 : Int32)), (.int (1 : Int32))])) _
      refine XS.iadd X0.here hx rfl (hb hby d2_8) rfl ?_
      show Steps p.tables e below (s₁.setTop (mkF m 9 #[.val (.ref r0), .val (.int (9 : Int32)), .unset, .unset, .unset] [(.int (1 : Int32))])) _
      refine XS.iloadN X0.here hx rfl (hb hby d2_9) rfl ?_
      show Steps p.tables e below (s₁.setTop (mkF m 10 #[.val (.ref r0), .val (.int (9 : Int32)), .unset, .unset, .unset] [(.int (9 : Int32)), (.int (1 : Int32))])) _
      refine XS.iconst X0.here hx rfl (hb hby d2_10) ?_
      show Steps p.tables e below (s₁.setTop (mkF m 11 #[.val (.ref r0), .val (.int (9 : Int32)), .unset, .unset, .unset] [(.int (2 : Int32)), (.int (9 : Int32)), (.int (1 : Int32))])) _
      refine XS.ishr X0.here hx rfl (hb hby d2_11) rfl ?_
      show Steps p.tables e below (s₁.setTop (mkF m 12 #[.val (.ref r0), .val (.int (9 : Int32)), .unset, .unset, .unset] [(.int (2 : Int32)), (.int (1 : Int32))])) _
      refine XS.iconst X0.here hx rfl (hb hby d2_12) ?_
      show Steps p.tables e below (s₁.setTop (mkF m 13 #[.val (.ref r0), .val (.int (9 : Int32)), .unset, .unset, .unset] [(.int (1 : Int32)), (.int (2 : Int32)), (.int (1 : Int32))])) _
      refine XS.iand X0.here hx rfl (hb hby d2_13) rfl ?_
      show Steps p.tables e below (s₁.setTop (mkF m 14 #[.val (.ref r0), .val (.int (9 : Int32)), .unset, .unset, .unset] [(.int (0 : Int32)), (.int (1 : Int32))])) _
      refine XS.iadd X0.here hx rfl (hb hby d2_14) rfl ?_
      show Steps p.tables e below (s₁.setTop (mkF m 15 #[.val (.ref r0), .val (.int (9 : Int32)), .unset, .unset, .unset] [(.int (1 : Int32))])) _
      refine XS.iloadN X0.here hx rfl (hb hby d2_15) rfl ?_
      show Steps p.tables e below (s₁.setTop (mkF m 16 #[.val (.ref r0), .val (.int (9 : Int32)), .unset, .unset, .unset] [(.int (9 : Int32)), (.int (1 : Int32))])) _
      refine XS.iconst X0.here hx rfl (hb hby d2_16) ?_
      show Steps p.tables e below (s₁.setTop (mkF m 17 #[.val (.ref r0), .val (.int (9 : Int32)), .unset, .unset, .unset] [(.int (3 : Int32)), (.int (9 : Int32)), (.int (1 : Int32))])) _
      refine XS.ishr X0.here hx rfl (hb hby d2_17) rfl ?_
      show Steps p.tables e below (s₁.setTop (mkF m 18 #[.val (.ref r0), .val (.int (9 : Int32)), .unset, .unset, .unset] [(.int (1 : Int32)), (.int (1 : Int32))])) _
      refine XS.iconst X0.here hx rfl (hb hby d2_18) ?_
      show Steps p.tables e below (s₁.setTop (mkF m 19 #[.val (.ref r0), .val (.int (9 : Int32)), .unset, .unset, .unset] [(.int (1 : Int32)), (.int (1 : Int32)), (.int (1 : Int32))])) _
      refine XS.iand X0.here hx rfl (hb hby d2_19) rfl ?_
      show Steps p.tables e below (s₁.setTop (mkF m 20 #[.val (.ref r0), .val (.int (9 : Int32)), .unset, .unset, .unset] [(.int (1 : Int32)), (.int (1 : Int32))])) _
      refine XS.iadd X0.here hx rfl (hb hby d2_20) rfl ?_
      show Steps p.tables e below (s₁.setTop (mkF m 21 #[.val (.ref r0), .val (.int (9 : Int32)), .unset, .unset, .unset] [(.int (2 : Int32))])) _
      refine XS.istoreN X0.here hx rfl (hb hby d2_21) rfl (l' := #[.val (.ref r0), .val (.int (9 : Int32)), .val (.int (2 : Int32)), .unset, .unset]) rfl ?_
      show Steps p.tables e below (s₁.setTop (mkF m 22 #[.val (.ref r0), .val (.int (9 : Int32)), .val (.int (2 : Int32)), .unset, .unset] [])) _
      refine XS.iloadN X0.here hx rfl (hb hby d2_22) rfl ?_
      show Steps p.tables e below (s₁.setTop (mkF m 23 #[.val (.ref r0), .val (.int (9 : Int32)), .val (.int (2 : Int32)), .unset, .unset] [(.int (2 : Int32))])) _
      refine st143 _ ?_
      show Steps p.tables e below (T143.setTop (mkF m 25 #[.val (.ref r0), .val (.int (9 : Int32)), .val (.int (2 : Int32)), .unset, .unset] [(.ref b143)])) _
      refine XS.astoreN X143.here hx rfl (hb hby d2_25) rfl rfl (l' := #[.val (.ref r0), .val (.int (9 : Int32)), .val (.int (2 : Int32)), .val (.ref b143), .unset]) rfl ?_
      show Steps p.tables e below (T143.setTop (mkF m 26 #[.val (.ref r0), .val (.int (9 : Int32)), .val (.int (2 : Int32)), .val (.ref b143), .unset] [])) _
      refine XS.iconst X143.here hx rfl (hb hby d2_26) ?_
      show Steps p.tables e below (T143.setTop (mkF m 27 #[.val (.ref r0), .val (.int (9 : Int32)), .val (.int (2 : Int32)), .val (.ref b143), .unset] [(.int (0 : Int32))])) _
      refine XS.istore X143.here hx rfl (hb hby d2_27) rfl (l' := #[.val (.ref r0), .val (.int (9 : Int32)), .val (.int (2 : Int32)), .val (.ref b143), .val (.int (0 : Int32))]) rfl ?_
      show Steps p.tables e below (T143.setTop (mkF m 29 #[.val (.ref r0), .val (.int (9 : Int32)), .val (.int (2 : Int32)), .val (.ref b143), .val (.int (0 : Int32))] [])) _
      refine XS.iloadN X143.here hx rfl (hb hby d2_29) rfl ?_
      show Steps p.tables e below (T143.setTop (mkF m 30 #[.val (.ref r0), .val (.int (9 : Int32)), .val (.int (2 : Int32)), .val (.ref b143), .val (.int (0 : Int32))] [(.int (9 : Int32))])) _
      refine XS.iconst X143.here hx rfl (hb hby d2_30) ?_
      show Steps p.tables e below (T143.setTop (mkF m 31 #[.val (.ref r0), .val (.int (9 : Int32)), .val (.int (2 : Int32)), .val (.ref b143), .val (.int (0 : Int32))] [(.int (1 : Int32)), (.int (9 : Int32))])) _
      refine XS.iand X143.here hx rfl (hb hby d2_31) rfl ?_
      show Steps p.tables e below (T143.setTop (mkF m 32 #[.val (.ref r0), .val (.int (9 : Int32)), .val (.int (2 : Int32)), .val (.ref b143), .val (.int (0 : Int32))] [(.int (1 : Int32))])) _
      refine XS.ifNo X143.here hx rfl (hb hby d2_32) rfl ((if0 _ _).trans (feq (by decide : ¬ ((1 : Int32) = (0 : Int32)))).1) ?_
      show Steps p.tables e below (T143.setTop (mkF m 35 #[.val (.ref r0), .val (.int (9 : Int32)), .val (.int (2 : Int32)), .val (.ref b143), .val (.int (0 : Int32))] [])) _
      refine XS.aloadN X143.here hx rfl (hb hby d2_35) rfl rfl ?_
      show Steps p.tables e below (T143.setTop (mkF m 36 #[.val (.ref r0), .val (.int (9 : Int32)), .val (.int (2 : Int32)), .val (.ref b143), .val (.int (0 : Int32))] [(.ref b143)])) _
      refine XS.iload X143.here hx rfl (hb hby d2_36) rfl ?_
      show Steps p.tables e below (T143.setTop (mkF m 38 #[.val (.ref r0), .val (.int (9 : Int32)), .val (.int (2 : Int32)), .val (.ref b143), .val (.int (0 : Int32))] [(.int (0 : Int32)), (.ref b143)])) _
      refine XS.aloadN X143.here hx rfl (hb hby d2_38) rfl rfl ?_
      show Steps p.tables e below (T143.setTop (mkF m 39 #[.val (.ref r0), .val (.int (9 : Int32)), .val (.int (2 : Int32)), .val (.ref b143), .val (.int (0 : Int32))] [(.ref r0), (.int (0 : Int32)), (.ref b143)])) _
      refine XS.iconst X143.here hx rfl (hb hby d2_39) ?_
      show Steps p.tables e below (T143.setTop (mkF m 40 #[.val (.ref r0), .val (.int (9 : Int32)), .val (.int (2 : Int32)), .val (.ref b143), .val (.int (0 : Int32))] [(.int (0 : Int32)), (.ref r0), (.int (0 : Int32)), (.ref b143)])) _
      refine X143.laload hx (j := (0 : Int32)) (v := (.long (f ((0 : Int32)).toNatClampNeg))) (by rw [e143]; exact Ar150.1) (State.isArrayOf_alike hZ.alike Ar150.2.1) Ar150.2.2 hin150 hat150 (g := (mkF m 40 #[.val (.ref r0), .val (.int (9 : Int32)), .val (.int (2 : Int32)), .val (.ref b143), .val (.int (0 : Int32))] [(.int (0 : Int32)), (.ref r0), (.int (0 : Int32)), (.ref b143)])) rfl rfl (hb hby d2_40) _ ?_
      show Steps p.tables e below (T143.setTop (mkF m 41 #[.val (.ref r0), .val (.int (9 : Int32)), .val (.int (2 : Int32)), .val (.ref b143), .val (.int (0 : Int32))] [(.long (f ((0 : Int32)).toNatClampNeg)), (.int (0 : Int32)), (.ref b143)])) _
      refine st152 _ ?_
      show Steps p.tables e below (T152.setTop (mkF m 42 #[.val (.ref r0), .val (.int (9 : Int32)), .val (.int (2 : Int32)), .val (.ref b143), .val (.int (0 : Int32))] [])) _
      refine XS.iinc X152.here hx rfl (hb hby d2_42) rfl (l' := #[.val (.ref r0), .val (.int (9 : Int32)), .val (.int (2 : Int32)), .val (.ref b143), .val (.int (1 : Int32))]) rfl ?_
      show Steps p.tables e below (T152.setTop (mkF m 45 #[.val (.ref r0), .val (.int (9 : Int32)), .val (.int (2 : Int32)), .val (.ref b143), .val (.int (1 : Int32))] [])) _
      refine XS.iloadN X152.here hx rfl (hb hby d2_45) rfl ?_
      show Steps p.tables e below (T152.setTop (mkF m 46 #[.val (.ref r0), .val (.int (9 : Int32)), .val (.int (2 : Int32)), .val (.ref b143), .val (.int (1 : Int32))] [(.int (9 : Int32))])) _
      refine XS.iconst X152.here hx rfl (hb hby d2_46) ?_
      show Steps p.tables e below (T152.setTop (mkF m 47 #[.val (.ref r0), .val (.int (9 : Int32)), .val (.int (2 : Int32)), .val (.ref b143), .val (.int (1 : Int32))] [(.int (2 : Int32)), (.int (9 : Int32))])) _
      refine XS.iand X152.here hx rfl (hb hby d2_47) rfl ?_
      show Steps p.tables e below (T152.setTop (mkF m 48 #[.val (.ref r0), .val (.int (9 : Int32)), .val (.int (2 : Int32)), .val (.ref b143), .val (.int (1 : Int32))] [(.int (0 : Int32))])) _
      refine XS.ifYes X152.here hx rfl (pc0 := 48) (pc' := 61) rfl (hb hby d2_48) rfl ((if0 _ _).trans (teq (by decide : (0 : Int32) = (0 : Int32))).1) (by decide) (by decide) ?_
      show Steps p.tables e below (T152.setTop (mkF m 61 #[.val (.ref r0), .val (.int (9 : Int32)), .val (.int (2 : Int32)), .val (.ref b143), .val (.int (1 : Int32))] [])) _
      refine XS.iloadN X152.here hx rfl (hb hby d2_61) rfl ?_
      show Steps p.tables e below (T152.setTop (mkF m 62 #[.val (.ref r0), .val (.int (9 : Int32)), .val (.int (2 : Int32)), .val (.ref b143), .val (.int (1 : Int32))] [(.int (9 : Int32))])) _
      refine XS.iconst X152.here hx rfl (hb hby d2_62) ?_
      show Steps p.tables e below (T152.setTop (mkF m 63 #[.val (.ref r0), .val (.int (9 : Int32)), .val (.int (2 : Int32)), .val (.ref b143), .val (.int (1 : Int32))] [(.int (4 : Int32)), (.int (9 : Int32))])) _
      refine XS.iand X152.here hx rfl (hb hby d2_63) rfl ?_
      show Steps p.tables e below (T152.setTop (mkF m 64 #[.val (.ref r0), .val (.int (9 : Int32)), .val (.int (2 : Int32)), .val (.ref b143), .val (.int (1 : Int32))] [(.int (0 : Int32))])) _
      refine XS.ifYes X152.here hx rfl (pc0 := 64) (pc' := 77) rfl (hb hby d2_64) rfl ((if0 _ _).trans (teq (by decide : (0 : Int32) = (0 : Int32))).1) (by decide) (by decide) ?_
      show Steps p.tables e below (T152.setTop (mkF m 77 #[.val (.ref r0), .val (.int (9 : Int32)), .val (.int (2 : Int32)), .val (.ref b143), .val (.int (1 : Int32))] [])) _
      refine XS.iloadN X152.here hx rfl (hb hby d2_77) rfl ?_
      show Steps p.tables e below (T152.setTop (mkF m 78 #[.val (.ref r0), .val (.int (9 : Int32)), .val (.int (2 : Int32)), .val (.ref b143), .val (.int (1 : Int32))] [(.int (9 : Int32))])) _
      refine XS.bipush X152.here hx rfl (hb hby d2_78) ?_
      show Steps p.tables e below (T152.setTop (mkF m 80 #[.val (.ref r0), .val (.int (9 : Int32)), .val (.int (2 : Int32)), .val (.ref b143), .val (.int (1 : Int32))] [(.int (8 : Int32)), (.int (9 : Int32))])) _
      refine XS.iand X152.here hx rfl (hb hby d2_80) rfl ?_
      show Steps p.tables e below (T152.setTop (mkF m 81 #[.val (.ref r0), .val (.int (9 : Int32)), .val (.int (2 : Int32)), .val (.ref b143), .val (.int (1 : Int32))] [(.int (8 : Int32))])) _
      refine XS.ifNo X152.here hx rfl (hb hby d2_81) rfl ((if0 _ _).trans (feq (by decide : ¬ ((8 : Int32) = (0 : Int32)))).1) ?_
      show Steps p.tables e below (T152.setTop (mkF m 84 #[.val (.ref r0), .val (.int (9 : Int32)), .val (.int (2 : Int32)), .val (.ref b143), .val (.int (1 : Int32))] [])) _
      refine XS.aloadN X152.here hx rfl (hb hby d2_84) rfl rfl ?_
      show Steps p.tables e below (T152.setTop (mkF m 85 #[.val (.ref r0), .val (.int (9 : Int32)), .val (.int (2 : Int32)), .val (.ref b143), .val (.int (1 : Int32))] [(.ref b143)])) _
      refine XS.iload X152.here hx rfl (hb hby d2_85) rfl ?_
      show Steps p.tables e below (T152.setTop (mkF m 87 #[.val (.ref r0), .val (.int (9 : Int32)), .val (.int (2 : Int32)), .val (.ref b143), .val (.int (1 : Int32))] [(.int (1 : Int32)), (.ref b143)])) _
      refine XS.aloadN X152.here hx rfl (hb hby d2_87) rfl rfl ?_
      show Steps p.tables e below (T152.setTop (mkF m 88 #[.val (.ref r0), .val (.int (9 : Int32)), .val (.int (2 : Int32)), .val (.ref b143), .val (.int (1 : Int32))] [(.ref r0), (.int (1 : Int32)), (.ref b143)])) _
      refine XS.iconst X152.here hx rfl (hb hby d2_88) ?_
      show Steps p.tables e below (T152.setTop (mkF m 89 #[.val (.ref r0), .val (.int (9 : Int32)), .val (.int (2 : Int32)), .val (.ref b143), .val (.int (1 : Int32))] [(.int (3 : Int32)), (.ref r0), (.int (1 : Int32)), (.ref b143)])) _
      refine X152.laload hx (j := (3 : Int32)) (v := (.long (f ((3 : Int32)).toNatClampNeg))) (by rw [e152]; exact Ar156.1) (State.isArrayOf_alike hZ.alike Ar156.2.1) Ar156.2.2 hin156 hat156 (g := (mkF m 89 #[.val (.ref r0), .val (.int (9 : Int32)), .val (.int (2 : Int32)), .val (.ref b143), .val (.int (1 : Int32))] [(.int (3 : Int32)), (.ref r0), (.int (1 : Int32)), (.ref b143)])) rfl rfl (hb hby d2_89) _ ?_
      show Steps p.tables e below (T152.setTop (mkF m 90 #[.val (.ref r0), .val (.int (9 : Int32)), .val (.int (2 : Int32)), .val (.ref b143), .val (.int (1 : Int32))] [(.long (f ((3 : Int32)).toNatClampNeg)), (.int (1 : Int32)), (.ref b143)])) _
      refine st158 _ ?_
      show Steps p.tables e below (T158.setTop (mkF m 91 #[.val (.ref r0), .val (.int (9 : Int32)), .val (.int (2 : Int32)), .val (.ref b143), .val (.int (1 : Int32))] [])) _
      refine XS.iinc X158.here hx rfl (hb hby d2_91) rfl (l' := #[.val (.ref r0), .val (.int (9 : Int32)), .val (.int (2 : Int32)), .val (.ref b143), .val (.int (2 : Int32))]) rfl ?_
      show Steps p.tables e below (T158.setTop (mkF m 94 #[.val (.ref r0), .val (.int (9 : Int32)), .val (.int (2 : Int32)), .val (.ref b143), .val (.int (2 : Int32))] [])) _
      refine XS.aloadN X158.here hx rfl (hb hby d2_94) rfl rfl ?_
      show Steps p.tables e below (T158.setTop (mkF m 95 #[.val (.ref r0), .val (.int (9 : Int32)), .val (.int (2 : Int32)), .val (.ref b143), .val (.int (2 : Int32))] [(.ref b143)])) _
      exact retOut X158 hx Bd.returns rfl (Or.inr (Or.inr (Or.inr (Or.inr ⟨rfl, rfl, rfl⟩)))) (hb hby d2_95) hr
    · show Q2 Z r0 (9 : Int32) f h0 n0 _ T158.heap _
      rw [e158]
      exact ⟨b143, (2 : Int32), (fun i => if i = ((1 : Int32)).toNatClampNeg then (f ((3 : Int32)).toNatClampNeg) else (fun i => if i = ((0 : Int32)).toNatClampNeg then (f ((0 : Int32)).toNatClampNeg) else (fun _ => (0 : Int64)) i) i), rfl, N158, z146, K160, V158, rfl⟩
  · obtain ⟨T161, h161, k161, X161, e161, E161, A161, st161⟩ := newP X0 hx hZ (hw _ (List.mem_of_getElem? (i := 0) rfl)) e0 (g := (mkF m 23 #[.val (.ref r0), .val (.int (10 : Int32)), .val (.int (2 : Int32)), .unset, .unset] [(.int (2 : Int32))])) rfl (hb hby d2_23) rfl (by decide) (cap := 2) (by decide) (by decide) (by decide) (by decide)
    obtain ⟨b161, gb161⟩ : ∃ z, z = h0.size := ⟨_, rfl⟩
    rw [← gb161] at A161 st161
    have ne162 : r0 ≠ b161 := Nat.ne_of_lt (Nat.lt_of_lt_of_le hp0.lt (Nat.le_of_eq gb161.symm))
    have g163 : n0 ≤ b161 := Nat.le_trans Z0 (Nat.le_of_eq gb161.symm)
    have z164 : h0.size ≤ b161 := Nat.le_trans (Keep.refl h0 []).1 (Nat.le_of_eq gb161.symm)
    have Z165 : n0 ≤ h161.size := Nat.le_trans Z0 E161.1
    have K166 : Keep h0 h161 [] := (Keep.refl h0 []).ext E161
    have V161 : AL Z h161 b161 (2 : Int32) (fun _ => (0 : Int64)) := AL.new A161 (by decide)
    have V167 : AL Z h161 r0 (4 : Int32) f := (hp0.ext E161)
    obtain ⟨cl168, Ar168, S168, M168, I168⟩ := id V167
    have hin168 : ¬ ((1 : Int32) < 0 ∨ cl168.slots.size ≤ ((1 : Int32)).toNatClampNeg) := inb_of S168 ⟨by decide, by decide⟩
    have hat168 : cl168.slots[((1 : Int32)).toNatClampNeg]? = some (.long (f ((1 : Int32)).toNatClampNeg)) := I168 _ (Nat.lt_of_not_le fun y => hin168 (Or.inr y))
    obtain ⟨cl169, Ar169, S169, M169, I169⟩ := id V161
    have hin169 : ¬ ((0 : Int32) < 0 ∨ cl169.slots.size ≤ ((0 : Int32)).toNatClampNeg) := inb_of S169 ⟨by decide, by decide⟩
    obtain ⟨T170, h170, X170, e170, W170, st170⟩ := stJ X161 hx hZ e161 Ar169 (j := (0 : Int32)) hin169 (g := (mkF m 57 #[.val (.ref r0), .val (.int (10 : Int32)), .val (.int (2 : Int32)), .val (.ref b161), .val (.int (0 : Int32))] [(.long (f ((1 : Int32)).toNatClampNeg)), (.int (0 : Int32)), (.ref b161)])) rfl rfl (hb hby d2_57)
    have V170 : AL Z h170 b161 (2 : Int32) (fun i => if i = ((0 : Int32)).toNatClampNeg then (f ((1 : Int32)).toNatClampNeg) else (fun _ => (0 : Int64)) i) := AL.set V161 W170
    have Z171 : n0 ≤ h170.size := Nat.le_trans Z165 (Keep.of_wr W170).1
    have K172 : Keep h0 h170 [] := K166.wr W170 (Or.inr z164)
    have N170 := Fr.snoc X170 N0 g163
    have V173 : AL Z h170 r0 (4 : Int32) f := (V167.other W170 ne162)
    obtain ⟨cl174, Ar174, S174, M174, I174⟩ := id V173
    have hin174 : ¬ ((3 : Int32) < 0 ∨ cl174.slots.size ≤ ((3 : Int32)).toNatClampNeg) := inb_of S174 ⟨by decide, by decide⟩
    have hat174 : cl174.slots[((3 : Int32)).toNatClampNeg]? = some (.long (f ((3 : Int32)).toNatClampNeg)) := I174 _ (Nat.lt_of_not_le fun y => hin174 (Or.inr y))
    obtain ⟨cl175, Ar175, S175, M175, I175⟩ := id V170
    have hin175 : ¬ ((1 : Int32) < 0 ∨ cl175.slots.size ≤ ((1 : Int32)).toNatClampNeg) := inb_of S175 ⟨by decide, by decide⟩
    obtain ⟨T176, h176, X176, e176, W176, st176⟩ := stJ X170 hx hZ e170 Ar175 (j := (1 : Int32)) hin175 (g := (mkF m 90 #[.val (.ref r0), .val (.int (10 : Int32)), .val (.int (2 : Int32)), .val (.ref b161), .val (.int (1 : Int32))] [(.long (f ((3 : Int32)).toNatClampNeg)), (.int (1 : Int32)), (.ref b161)])) rfl rfl (hb hby d2_90)
    have V176 : AL Z h176 b161 (2 : Int32) (fun i => if i = ((1 : Int32)).toNatClampNeg then (f ((3 : Int32)).toNatClampNeg) else (fun i => if i = ((0 : Int32)).toNatClampNeg then (f ((1 : Int32)).toNatClampNeg) else (fun _ => (0 : Int64)) i) i) := AL.set V170 W176
    have Z177 : n0 ≤ h176.size := Nat.le_trans Z171 (Keep.of_wr W176).1
    have K178 : Keep h0 h176 [] := K172.wr W176 (Or.inr z164)
    have N176 := Fr.snoc X176 N170 g163
    obtain ⟨fs, hr, hrun, hended, hW, hsame⟩ := X176.leave (v := some (.ref b161)) (fun h => by rw [Bd.returns] at h; cases h)
    refine ⟨_, _, pre0 _ ?_, hrun, hended, _, _, rfl, ?_, ⟨_, rfl⟩, hW, hsame.mono (by decide) (by decide)⟩
    · refine XS.iloadN X0.here hx rfl (hb hby d2_0) rfl ?_
      show Steps p.tables e below (s₁.setTop (mkF m 1 #[.val (.ref r0), .val (.int (10 : Int32)), .unset, .unset, .unset] [(.int (10 : Int32))])) _
      refine XS.iconst X0.here hx rfl (hb hby d2_1) ?_
      show Steps p.tables e below (s₁.setTop (mkF m 2 #[.val (.ref r0), .val (.int (10 : Int32)), .unset, .unset, .unset] [(.int (1 : Int32)), (.int (10 : Int32))])) _
      refine XS.iand X0.here hx rfl (hb hby d2_2) rfl ?_
      show Steps p.tables e below (s₁.setTop (mkF m 3 #[.val (.ref r0), .val (.int (10 : Int32)), .unset, .unset, .unset] [(.int (0 : Int32))])) _
      refine XS.iloadN X0.here hx rfl (hb hby d2_3) rfl ?_
      show Steps p.tables e below (s₁.setTop (mkF m 4 #[.val (.ref r0), .val (.int (10 : Int32)), .unset, .unset, .unset] [(.int (10 : Int32)), (.int (0 : Int32))])) _
      refine XS.iconst X0.here hx rfl (hb hby d2_4) ?_
      show Steps p.tables e below (s₁.setTop (mkF m 5 #[.val (.ref r0), .val (.int (10 : Int32)), .unset, .unset, .unset] [(.int (1 : Int32)), (.int (10 : Int32)), (.int (0 : Int32))])) _
      refine XS.ishr X0.here hx rfl (hb hby d2_5) rfl ?_
      show Steps p.tables e below (s₁.setTop (mkF m 6 #[.val (.ref r0), .val (.int (10 : Int32)), .unset, .unset, .unset] [(.int (5 : Int32)), (.int (0 : Int32))])) _
      refine XS.iconst X0.here hx rfl (hb hby d2_6) ?_
      show Steps p.tables e below (s₁.setTop (mkF m 7 #[.val (.ref r0), .val (.int (10 : Int32)), .unset, .unset, .unset] [(.int (1 : Int32)), (.int (5 : Int32)), (.int (0 : Int32))])) _
      refine XS.iand X0.here hx rfl (hb hby d2_7) rfl ?_
      show Steps p.tables e below (s₁.setTop (mkF m 8 #[.val (.ref r0), .val (.int (10 : Int32)), .unset, .unset, .unset] [(.int (1 : Int32)), (.int (0 : Int32))])) _
      refine XS.iadd X0.here hx rfl (hb hby d2_8) rfl ?_
      show Steps p.tables e below (s₁.setTop (mkF m 9 #[.val (.ref r0), .val (.int (10 : Int32)), .unset, .unset, .unset] [(.int (1 : Int32))])) _
      refine XS.iloadN X0.here hx rfl (hb hby d2_9) rfl ?_
      show Steps p.tables e below (s₁.setTop (mkF m 10 #[.val (.ref r0), .val (.int (10 : Int32)), .unset, .unset, .unset] [(.int (10 : Int32)), (.int (1 : Int32))])) _
      refine XS.iconst X0.here hx rfl (hb hby d2_10) ?_
      show Steps p.tables e below (s₁.setTop (mkF m 11 #[.val (.ref r0), .val (.int (10 : Int32)), .unset, .unset, .unset] [(.int (2 : Int32)), (.int (10 : Int32)), (.int (1 : Int32))])) _
      refine XS.ishr X0.here hx rfl (hb hby d2_11) rfl ?_
      show Steps p.tables e below (s₁.setTop (mkF m 12 #[.val (.ref r0), .val (.int (10 : Int32)), .unset, .unset, .unset] [(.int (2 : Int32)), (.int (1 : Int32))])) _
      refine XS.iconst X0.here hx rfl (hb hby d2_12) ?_
      show Steps p.tables e below (s₁.setTop (mkF m 13 #[.val (.ref r0), .val (.int (10 : Int32)), .unset, .unset, .unset] [(.int (1 : Int32)), (.int (2 : Int32)), (.int (1 : Int32))])) _
      refine XS.iand X0.here hx rfl (hb hby d2_13) rfl ?_
      show Steps p.tables e below (s₁.setTop (mkF m 14 #[.val (.ref r0), .val (.int (10 : Int32)), .unset, .unset, .unset] [(.int (0 : Int32)), (.int (1 : Int32))])) _
      refine XS.iadd X0.here hx rfl (hb hby d2_14) rfl ?_
      show Steps p.tables e below (s₁.setTop (mkF m 15 #[.val (.ref r0), .val (.int (10 : Int32)), .unset, .unset, .unset] [(.int (1 : Int32))])) _
      refine XS.iloadN X0.here hx rfl (hb hby d2_15) rfl ?_
      show Steps p.tables e below (s₁.setTop (mkF m 16 #[.val (.ref r0), .val (.int (10 : Int32)), .unset, .unset, .unset] [(.int (10 : Int32)), (.int (1 : Int32))])) _
      refine XS.iconst X0.here hx rfl (hb hby d2_16) ?_
      show Steps p.tables e below (s₁.setTop (mkF m 17 #[.val (.ref r0), .val (.int (10 : Int32)), .unset, .unset, .unset] [(.int (3 : Int32)), (.int (10 : Int32)), (.int (1 : Int32))])) _
      refine XS.ishr X0.here hx rfl (hb hby d2_17) rfl ?_
      show Steps p.tables e below (s₁.setTop (mkF m 18 #[.val (.ref r0), .val (.int (10 : Int32)), .unset, .unset, .unset] [(.int (1 : Int32)), (.int (1 : Int32))])) _
      refine XS.iconst X0.here hx rfl (hb hby d2_18) ?_
      show Steps p.tables e below (s₁.setTop (mkF m 19 #[.val (.ref r0), .val (.int (10 : Int32)), .unset, .unset, .unset] [(.int (1 : Int32)), (.int (1 : Int32)), (.int (1 : Int32))])) _
      refine XS.iand X0.here hx rfl (hb hby d2_19) rfl ?_
      show Steps p.tables e below (s₁.setTop (mkF m 20 #[.val (.ref r0), .val (.int (10 : Int32)), .unset, .unset, .unset] [(.int (1 : Int32)), (.int (1 : Int32))])) _
      refine XS.iadd X0.here hx rfl (hb hby d2_20) rfl ?_
      show Steps p.tables e below (s₁.setTop (mkF m 21 #[.val (.ref r0), .val (.int (10 : Int32)), .unset, .unset, .unset] [(.int (2 : Int32))])) _
      refine XS.istoreN X0.here hx rfl (hb hby d2_21) rfl (l' := #[.val (.ref r0), .val (.int (10 : Int32)), .val (.int (2 : Int32)), .unset, .unset]) rfl ?_
      show Steps p.tables e below (s₁.setTop (mkF m 22 #[.val (.ref r0), .val (.int (10 : Int32)), .val (.int (2 : Int32)), .unset, .unset] [])) _
      refine XS.iloadN X0.here hx rfl (hb hby d2_22) rfl ?_
      show Steps p.tables e below (s₁.setTop (mkF m 23 #[.val (.ref r0), .val (.int (10 : Int32)), .val (.int (2 : Int32)), .unset, .unset] [(.int (2 : Int32))])) _
      refine st161 _ ?_
      show Steps p.tables e below (T161.setTop (mkF m 25 #[.val (.ref r0), .val (.int (10 : Int32)), .val (.int (2 : Int32)), .unset, .unset] [(.ref b161)])) _
      refine XS.astoreN X161.here hx rfl (hb hby d2_25) rfl rfl (l' := #[.val (.ref r0), .val (.int (10 : Int32)), .val (.int (2 : Int32)), .val (.ref b161), .unset]) rfl ?_
      show Steps p.tables e below (T161.setTop (mkF m 26 #[.val (.ref r0), .val (.int (10 : Int32)), .val (.int (2 : Int32)), .val (.ref b161), .unset] [])) _
      refine XS.iconst X161.here hx rfl (hb hby d2_26) ?_
      show Steps p.tables e below (T161.setTop (mkF m 27 #[.val (.ref r0), .val (.int (10 : Int32)), .val (.int (2 : Int32)), .val (.ref b161), .unset] [(.int (0 : Int32))])) _
      refine XS.istore X161.here hx rfl (hb hby d2_27) rfl (l' := #[.val (.ref r0), .val (.int (10 : Int32)), .val (.int (2 : Int32)), .val (.ref b161), .val (.int (0 : Int32))]) rfl ?_
      show Steps p.tables e below (T161.setTop (mkF m 29 #[.val (.ref r0), .val (.int (10 : Int32)), .val (.int (2 : Int32)), .val (.ref b161), .val (.int (0 : Int32))] [])) _
      refine XS.iloadN X161.here hx rfl (hb hby d2_29) rfl ?_
      show Steps p.tables e below (T161.setTop (mkF m 30 #[.val (.ref r0), .val (.int (10 : Int32)), .val (.int (2 : Int32)), .val (.ref b161), .val (.int (0 : Int32))] [(.int (10 : Int32))])) _
      refine XS.iconst X161.here hx rfl (hb hby d2_30) ?_
      show Steps p.tables e below (T161.setTop (mkF m 31 #[.val (.ref r0), .val (.int (10 : Int32)), .val (.int (2 : Int32)), .val (.ref b161), .val (.int (0 : Int32))] [(.int (1 : Int32)), (.int (10 : Int32))])) _
      refine XS.iand X161.here hx rfl (hb hby d2_31) rfl ?_
      show Steps p.tables e below (T161.setTop (mkF m 32 #[.val (.ref r0), .val (.int (10 : Int32)), .val (.int (2 : Int32)), .val (.ref b161), .val (.int (0 : Int32))] [(.int (0 : Int32))])) _
      refine XS.ifYes X161.here hx rfl (pc0 := 32) (pc' := 45) rfl (hb hby d2_32) rfl ((if0 _ _).trans (teq (by decide : (0 : Int32) = (0 : Int32))).1) (by decide) (by decide) ?_
      show Steps p.tables e below (T161.setTop (mkF m 45 #[.val (.ref r0), .val (.int (10 : Int32)), .val (.int (2 : Int32)), .val (.ref b161), .val (.int (0 : Int32))] [])) _
      refine XS.iloadN X161.here hx rfl (hb hby d2_45) rfl ?_
      show Steps p.tables e below (T161.setTop (mkF m 46 #[.val (.ref r0), .val (.int (10 : Int32)), .val (.int (2 : Int32)), .val (.ref b161), .val (.int (0 : Int32))] [(.int (10 : Int32))])) _
      refine XS.iconst X161.here hx rfl (hb hby d2_46) ?_
      show Steps p.tables e below (T161.setTop (mkF m 47 #[.val (.ref r0), .val (.int (10 : Int32)), .val (.int (2 : Int32)), .val (.ref b161), .val (.int (0 : Int32))] [(.int (2 : Int32)), (.int (10 : Int32))])) _
      refine XS.iand X161.here hx rfl (hb hby d2_47) rfl ?_
      show Steps p.tables e below (T161.setTop (mkF m 48 #[.val (.ref r0), .val (.int (10 : Int32)), .val (.int (2 : Int32)), .val (.ref b161), .val (.int (0 : Int32))] [(.int (2 : Int32))])) _
      refine XS.ifNo X161.here hx rfl (hb hby d2_48) rfl ((if0 _ _).trans (feq (by decide : ¬ ((2 : Int32) = (0 : Int32)))).1) ?_
      show Steps p.tables e below (T161.setTop (mkF m 51 #[.val (.ref r0), .val (.int (10 : Int32)), .val (.int (2 : Int32)), .val (.ref b161), .val (.int (0 : Int32))] [])) _
      refine XS.aloadN X161.here hx rfl (hb hby d2_51) rfl rfl ?_
      show Steps p.tables e below (T161.setTop (mkF m 52 #[.val (.ref r0), .val (.int (10 : Int32)), .val (.int (2 : Int32)), .val (.ref b161), .val (.int (0 : Int32))] [(.ref b161)])) _
      refine XS.iload X161.here hx rfl (hb hby d2_52) rfl ?_
      show Steps p.tables e below (T161.setTop (mkF m 54 #[.val (.ref r0), .val (.int (10 : Int32)), .val (.int (2 : Int32)), .val (.ref b161), .val (.int (0 : Int32))] [(.int (0 : Int32)), (.ref b161)])) _
      refine XS.aloadN X161.here hx rfl (hb hby d2_54) rfl rfl ?_
      show Steps p.tables e below (T161.setTop (mkF m 55 #[.val (.ref r0), .val (.int (10 : Int32)), .val (.int (2 : Int32)), .val (.ref b161), .val (.int (0 : Int32))] [(.ref r0), (.int (0 : Int32)), (.ref b161)])) _
      refine XS.iconst X161.here hx rfl (hb hby d2_55) ?_
      show Steps p.tables e below (T161.setTop (mkF m 56 #[.val (.ref r0), .val (.int (10 : Int32)), .val (.int (2 : Int32)), .val (.ref b161), .val (.int (0 : Int32))] [(.int (1 : Int32)), (.ref r0), (.int (0 : Int32)), (.ref b161)])) _
      refine X161.laload hx (j := (1 : Int32)) (v := (.long (f ((1 : Int32)).toNatClampNeg))) (by rw [e161]; exact Ar168.1) (State.isArrayOf_alike hZ.alike Ar168.2.1) Ar168.2.2 hin168 hat168 (g := (mkF m 56 #[.val (.ref r0), .val (.int (10 : Int32)), .val (.int (2 : Int32)), .val (.ref b161), .val (.int (0 : Int32))] [(.int (1 : Int32)), (.ref r0), (.int (0 : Int32)), (.ref b161)])) rfl rfl (hb hby d2_56) _ ?_
      show Steps p.tables e below (T161.setTop (mkF m 57 #[.val (.ref r0), .val (.int (10 : Int32)), .val (.int (2 : Int32)), .val (.ref b161), .val (.int (0 : Int32))] [(.long (f ((1 : Int32)).toNatClampNeg)), (.int (0 : Int32)), (.ref b161)])) _
      refine st170 _ ?_
      show Steps p.tables e below (T170.setTop (mkF m 58 #[.val (.ref r0), .val (.int (10 : Int32)), .val (.int (2 : Int32)), .val (.ref b161), .val (.int (0 : Int32))] [])) _
      refine XS.iinc X170.here hx rfl (hb hby d2_58) rfl (l' := #[.val (.ref r0), .val (.int (10 : Int32)), .val (.int (2 : Int32)), .val (.ref b161), .val (.int (1 : Int32))]) rfl ?_
      show Steps p.tables e below (T170.setTop (mkF m 61 #[.val (.ref r0), .val (.int (10 : Int32)), .val (.int (2 : Int32)), .val (.ref b161), .val (.int (1 : Int32))] [])) _
      refine XS.iloadN X170.here hx rfl (hb hby d2_61) rfl ?_
      show Steps p.tables e below (T170.setTop (mkF m 62 #[.val (.ref r0), .val (.int (10 : Int32)), .val (.int (2 : Int32)), .val (.ref b161), .val (.int (1 : Int32))] [(.int (10 : Int32))])) _
      refine XS.iconst X170.here hx rfl (hb hby d2_62) ?_
      show Steps p.tables e below (T170.setTop (mkF m 63 #[.val (.ref r0), .val (.int (10 : Int32)), .val (.int (2 : Int32)), .val (.ref b161), .val (.int (1 : Int32))] [(.int (4 : Int32)), (.int (10 : Int32))])) _
      refine XS.iand X170.here hx rfl (hb hby d2_63) rfl ?_
      show Steps p.tables e below (T170.setTop (mkF m 64 #[.val (.ref r0), .val (.int (10 : Int32)), .val (.int (2 : Int32)), .val (.ref b161), .val (.int (1 : Int32))] [(.int (0 : Int32))])) _
      refine XS.ifYes X170.here hx rfl (pc0 := 64) (pc' := 77) rfl (hb hby d2_64) rfl ((if0 _ _).trans (teq (by decide : (0 : Int32) = (0 : Int32))).1) (by decide) (by decide) ?_
      show Steps p.tables e below (T170.setTop (mkF m 77 #[.val (.ref r0), .val (.int (10 : Int32)), .val (.int (2 : Int32)), .val (.ref b161), .val (.int (1 : Int32))] [])) _
      refine XS.iloadN X170.here hx rfl (hb hby d2_77) rfl ?_
      show Steps p.tables e below (T170.setTop (mkF m 78 #[.val (.ref r0), .val (.int (10 : Int32)), .val (.int (2 : Int32)), .val (.ref b161), .val (.int (1 : Int32))] [(.int (10 : Int32))])) _
      refine XS.bipush X170.here hx rfl (hb hby d2_78) ?_
      show Steps p.tables e below (T170.setTop (mkF m 80 #[.val (.ref r0), .val (.int (10 : Int32)), .val (.int (2 : Int32)), .val (.ref b161), .val (.int (1 : Int32))] [(.int (8 : Int32)), (.int (10 : Int32))])) _
      refine XS.iand X170.here hx rfl (hb hby d2_80) rfl ?_
      show Steps p.tables e below (T170.setTop (mkF m 81 #[.val (.ref r0), .val (.int (10 : Int32)), .val (.int (2 : Int32)), .val (.ref b161), .val (.int (1 : Int32))] [(.int (8 : Int32))])) _
      refine XS.ifNo X170.here hx rfl (hb hby d2_81) rfl ((if0 _ _).trans (feq (by decide : ¬ ((8 : Int32) = (0 : Int32)))).1) ?_
      show Steps p.tables e below (T170.setTop (mkF m 84 #[.val (.ref r0), .val (.int (10 : Int32)), .val (.int (2 : Int32)), .val (.ref b161), .val (.int (1 : Int32))] [])) _
      refine XS.aloadN X170.here hx rfl (hb hby d2_84) rfl rfl ?_
      show Steps p.tables e below (T170.setTop (mkF m 85 #[.val (.ref r0), .val (.int (10 : Int32)), .val (.int (2 : Int32)), .val (.ref b161), .val (.int (1 : Int32))] [(.ref b161)])) _
      refine XS.iload X170.here hx rfl (hb hby d2_85) rfl ?_
      show Steps p.tables e below (T170.setTop (mkF m 87 #[.val (.ref r0), .val (.int (10 : Int32)), .val (.int (2 : Int32)), .val (.ref b161), .val (.int (1 : Int32))] [(.int (1 : Int32)), (.ref b161)])) _
      refine XS.aloadN X170.here hx rfl (hb hby d2_87) rfl rfl ?_
      show Steps p.tables e below (T170.setTop (mkF m 88 #[.val (.ref r0), .val (.int (10 : Int32)), .val (.int (2 : Int32)), .val (.ref b161), .val (.int (1 : Int32))] [(.ref r0), (.int (1 : Int32)), (.ref b161)])) _
      refine XS.iconst X170.here hx rfl (hb hby d2_88) ?_
      show Steps p.tables e below (T170.setTop (mkF m 89 #[.val (.ref r0), .val (.int (10 : Int32)), .val (.int (2 : Int32)), .val (.ref b161), .val (.int (1 : Int32))] [(.int (3 : Int32)), (.ref r0), (.int (1 : Int32)), (.ref b161)])) _
      refine X170.laload hx (j := (3 : Int32)) (v := (.long (f ((3 : Int32)).toNatClampNeg))) (by rw [e170]; exact Ar174.1) (State.isArrayOf_alike hZ.alike Ar174.2.1) Ar174.2.2 hin174 hat174 (g := (mkF m 89 #[.val (.ref r0), .val (.int (10 : Int32)), .val (.int (2 : Int32)), .val (.ref b161), .val (.int (1 : Int32))] [(.int (3 : Int32)), (.ref r0), (.int (1 : Int32)), (.ref b161)])) rfl rfl (hb hby d2_89) _ ?_
      show Steps p.tables e below (T170.setTop (mkF m 90 #[.val (.ref r0), .val (.int (10 : Int32)), .val (.int (2 : Int32)), .val (.ref b161), .val (.int (1 : Int32))] [(.long (f ((3 : Int32)).toNatClampNeg)), (.int (1 : Int32)), (.ref b161)])) _
      refine st176 _ ?_
      show Steps p.tables e below (T176.setTop (mkF m 91 #[.val (.ref r0), .val (.int (10 : Int32)), .val (.int (2 : Int32)), .val (.ref b161), .val (.int (1 : Int32))] [])) _
      refine XS.iinc X176.here hx rfl (hb hby d2_91) rfl (l' := #[.val (.ref r0), .val (.int (10 : Int32)), .val (.int (2 : Int32)), .val (.ref b161), .val (.int (2 : Int32))]) rfl ?_
      show Steps p.tables e below (T176.setTop (mkF m 94 #[.val (.ref r0), .val (.int (10 : Int32)), .val (.int (2 : Int32)), .val (.ref b161), .val (.int (2 : Int32))] [])) _
      refine XS.aloadN X176.here hx rfl (hb hby d2_94) rfl rfl ?_
      show Steps p.tables e below (T176.setTop (mkF m 95 #[.val (.ref r0), .val (.int (10 : Int32)), .val (.int (2 : Int32)), .val (.ref b161), .val (.int (2 : Int32))] [(.ref b161)])) _
      exact retOut X176 hx Bd.returns rfl (Or.inr (Or.inr (Or.inr (Or.inr ⟨rfl, rfl, rfl⟩)))) (hb hby d2_95) hr
    · show Q2 Z r0 (10 : Int32) f h0 n0 _ T176.heap _
      rw [e176]
      exact ⟨b161, (2 : Int32), (fun i => if i = ((1 : Int32)).toNatClampNeg then (f ((3 : Int32)).toNatClampNeg) else (fun i => if i = ((0 : Int32)).toNatClampNeg then (f ((1 : Int32)).toNatClampNeg) else (fun _ => (0 : Int64)) i) i), rfl, N176, z164, K178, V176, rfl⟩
  · obtain ⟨T179, h179, k179, X179, e179, E179, A179, st179⟩ := newP X0 hx hZ (hw _ (List.mem_of_getElem? (i := 0) rfl)) e0 (g := (mkF m 23 #[.val (.ref r0), .val (.int (11 : Int32)), .val (.int (3 : Int32)), .unset, .unset] [(.int (3 : Int32))])) rfl (hb hby d2_23) rfl (by decide) (cap := 3) (by decide) (by decide) (by decide) (by decide)
    obtain ⟨b179, gb179⟩ : ∃ z, z = h0.size := ⟨_, rfl⟩
    rw [← gb179] at A179 st179
    have ne180 : r0 ≠ b179 := Nat.ne_of_lt (Nat.lt_of_lt_of_le hp0.lt (Nat.le_of_eq gb179.symm))
    have g181 : n0 ≤ b179 := Nat.le_trans Z0 (Nat.le_of_eq gb179.symm)
    have z182 : h0.size ≤ b179 := Nat.le_trans (Keep.refl h0 []).1 (Nat.le_of_eq gb179.symm)
    have Z183 : n0 ≤ h179.size := Nat.le_trans Z0 E179.1
    have K184 : Keep h0 h179 [] := (Keep.refl h0 []).ext E179
    have V179 : AL Z h179 b179 (3 : Int32) (fun _ => (0 : Int64)) := AL.new A179 (by decide)
    have V185 : AL Z h179 r0 (4 : Int32) f := (hp0.ext E179)
    obtain ⟨cl186, Ar186, S186, M186, I186⟩ := id V185
    have hin186 : ¬ ((0 : Int32) < 0 ∨ cl186.slots.size ≤ ((0 : Int32)).toNatClampNeg) := inb_of S186 ⟨by decide, by decide⟩
    have hat186 : cl186.slots[((0 : Int32)).toNatClampNeg]? = some (.long (f ((0 : Int32)).toNatClampNeg)) := I186 _ (Nat.lt_of_not_le fun y => hin186 (Or.inr y))
    obtain ⟨cl187, Ar187, S187, M187, I187⟩ := id V179
    have hin187 : ¬ ((0 : Int32) < 0 ∨ cl187.slots.size ≤ ((0 : Int32)).toNatClampNeg) := inb_of S187 ⟨by decide, by decide⟩
    obtain ⟨T188, h188, X188, e188, W188, st188⟩ := stJ X179 hx hZ e179 Ar187 (j := (0 : Int32)) hin187 (g := (mkF m 41 #[.val (.ref r0), .val (.int (11 : Int32)), .val (.int (3 : Int32)), .val (.ref b179), .val (.int (0 : Int32))] [(.long (f ((0 : Int32)).toNatClampNeg)), (.int (0 : Int32)), (.ref b179)])) rfl rfl (hb hby d2_41)
    have V188 : AL Z h188 b179 (3 : Int32) (fun i => if i = ((0 : Int32)).toNatClampNeg then (f ((0 : Int32)).toNatClampNeg) else (fun _ => (0 : Int64)) i) := AL.set V179 W188
    have Z189 : n0 ≤ h188.size := Nat.le_trans Z183 (Keep.of_wr W188).1
    have K190 : Keep h0 h188 [] := K184.wr W188 (Or.inr z182)
    have N188 := Fr.snoc X188 N0 g181
    have V191 : AL Z h188 r0 (4 : Int32) f := (V185.other W188 ne180)
    obtain ⟨cl192, Ar192, S192, M192, I192⟩ := id V191
    have hin192 : ¬ ((1 : Int32) < 0 ∨ cl192.slots.size ≤ ((1 : Int32)).toNatClampNeg) := inb_of S192 ⟨by decide, by decide⟩
    have hat192 : cl192.slots[((1 : Int32)).toNatClampNeg]? = some (.long (f ((1 : Int32)).toNatClampNeg)) := I192 _ (Nat.lt_of_not_le fun y => hin192 (Or.inr y))
    obtain ⟨cl193, Ar193, S193, M193, I193⟩ := id V188
    have hin193 : ¬ ((1 : Int32) < 0 ∨ cl193.slots.size ≤ ((1 : Int32)).toNatClampNeg) := inb_of S193 ⟨by decide, by decide⟩
    obtain ⟨T194, h194, X194, e194, W194, st194⟩ := stJ X188 hx hZ e188 Ar193 (j := (1 : Int32)) hin193 (g := (mkF m 57 #[.val (.ref r0), .val (.int (11 : Int32)), .val (.int (3 : Int32)), .val (.ref b179), .val (.int (1 : Int32))] [(.long (f ((1 : Int32)).toNatClampNeg)), (.int (1 : Int32)), (.ref b179)])) rfl rfl (hb hby d2_57)
    have V194 : AL Z h194 b179 (3 : Int32) (fun i => if i = ((1 : Int32)).toNatClampNeg then (f ((1 : Int32)).toNatClampNeg) else (fun i => if i = ((0 : Int32)).toNatClampNeg then (f ((0 : Int32)).toNatClampNeg) else (fun _ => (0 : Int64)) i) i) := AL.set V188 W194
    have Z195 : n0 ≤ h194.size := Nat.le_trans Z189 (Keep.of_wr W194).1
    have K196 : Keep h0 h194 [] := K190.wr W194 (Or.inr z182)
    have N194 := Fr.snoc X194 N188 g181
    have V197 : AL Z h194 r0 (4 : Int32) f := (V191.other W194 ne180)
    obtain ⟨cl198, Ar198, S198, M198, I198⟩ := id V197
    have hin198 : ¬ ((3 : Int32) < 0 ∨ cl198.slots.size ≤ ((3 : Int32)).toNatClampNeg) := inb_of S198 ⟨by decide, by decide⟩
    have hat198 : cl198.slots[((3 : Int32)).toNatClampNeg]? = some (.long (f ((3 : Int32)).toNatClampNeg)) := I198 _ (Nat.lt_of_not_le fun y => hin198 (Or.inr y))
    obtain ⟨cl199, Ar199, S199, M199, I199⟩ := id V194
    have hin199 : ¬ ((2 : Int32) < 0 ∨ cl199.slots.size ≤ ((2 : Int32)).toNatClampNeg) := inb_of S199 ⟨by decide, by decide⟩
    obtain ⟨T200, h200, X200, e200, W200, st200⟩ := stJ X194 hx hZ e194 Ar199 (j := (2 : Int32)) hin199 (g := (mkF m 90 #[.val (.ref r0), .val (.int (11 : Int32)), .val (.int (3 : Int32)), .val (.ref b179), .val (.int (2 : Int32))] [(.long (f ((3 : Int32)).toNatClampNeg)), (.int (2 : Int32)), (.ref b179)])) rfl rfl (hb hby d2_90)
    have V200 : AL Z h200 b179 (3 : Int32) (fun i => if i = ((2 : Int32)).toNatClampNeg then (f ((3 : Int32)).toNatClampNeg) else (fun i => if i = ((1 : Int32)).toNatClampNeg then (f ((1 : Int32)).toNatClampNeg) else (fun i => if i = ((0 : Int32)).toNatClampNeg then (f ((0 : Int32)).toNatClampNeg) else (fun _ => (0 : Int64)) i) i) i) := AL.set V194 W200
    have Z201 : n0 ≤ h200.size := Nat.le_trans Z195 (Keep.of_wr W200).1
    have K202 : Keep h0 h200 [] := K196.wr W200 (Or.inr z182)
    have N200 := Fr.snoc X200 N194 g181
    obtain ⟨fs, hr, hrun, hended, hW, hsame⟩ := X200.leave (v := some (.ref b179)) (fun h => by rw [Bd.returns] at h; cases h)
    refine ⟨_, _, pre0 _ ?_, hrun, hended, _, _, rfl, ?_, ⟨_, rfl⟩, hW, hsame.mono (by decide) (by decide)⟩
    · refine XS.iloadN X0.here hx rfl (hb hby d2_0) rfl ?_
      show Steps p.tables e below (s₁.setTop (mkF m 1 #[.val (.ref r0), .val (.int (11 : Int32)), .unset, .unset, .unset] [(.int (11 : Int32))])) _
      refine XS.iconst X0.here hx rfl (hb hby d2_1) ?_
      show Steps p.tables e below (s₁.setTop (mkF m 2 #[.val (.ref r0), .val (.int (11 : Int32)), .unset, .unset, .unset] [(.int (1 : Int32)), (.int (11 : Int32))])) _
      refine XS.iand X0.here hx rfl (hb hby d2_2) rfl ?_
      show Steps p.tables e below (s₁.setTop (mkF m 3 #[.val (.ref r0), .val (.int (11 : Int32)), .unset, .unset, .unset] [(.int (1 : Int32))])) _
      refine XS.iloadN X0.here hx rfl (hb hby d2_3) rfl ?_
      show Steps p.tables e below (s₁.setTop (mkF m 4 #[.val (.ref r0), .val (.int (11 : Int32)), .unset, .unset, .unset] [(.int (11 : Int32)), (.int (1 : Int32))])) _
      refine XS.iconst X0.here hx rfl (hb hby d2_4) ?_
      show Steps p.tables e below (s₁.setTop (mkF m 5 #[.val (.ref r0), .val (.int (11 : Int32)), .unset, .unset, .unset] [(.int (1 : Int32)), (.int (11 : Int32)), (.int (1 : Int32))])) _
      refine XS.ishr X0.here hx rfl (hb hby d2_5) rfl ?_
      show Steps p.tables e below (s₁.setTop (mkF m 6 #[.val (.ref r0), .val (.int (11 : Int32)), .unset, .unset, .unset] [(.int (5 : Int32)), (.int (1 : Int32))])) _
      refine XS.iconst X0.here hx rfl (hb hby d2_6) ?_
      show Steps p.tables e below (s₁.setTop (mkF m 7 #[.val (.ref r0), .val (.int (11 : Int32)), .unset, .unset, .unset] [(.int (1 : Int32)), (.int (5 : Int32)), (.int (1 : Int32))])) _
      refine XS.iand X0.here hx rfl (hb hby d2_7) rfl ?_
      show Steps p.tables e below (s₁.setTop (mkF m 8 #[.val (.ref r0), .val (.int (11 : Int32)), .unset, .unset, .unset] [(.int (1 : Int32)), (.int (1 : Int32))])) _
      refine XS.iadd X0.here hx rfl (hb hby d2_8) rfl ?_
      show Steps p.tables e below (s₁.setTop (mkF m 9 #[.val (.ref r0), .val (.int (11 : Int32)), .unset, .unset, .unset] [(.int (2 : Int32))])) _
      refine XS.iloadN X0.here hx rfl (hb hby d2_9) rfl ?_
      show Steps p.tables e below (s₁.setTop (mkF m 10 #[.val (.ref r0), .val (.int (11 : Int32)), .unset, .unset, .unset] [(.int (11 : Int32)), (.int (2 : Int32))])) _
      refine XS.iconst X0.here hx rfl (hb hby d2_10) ?_
      show Steps p.tables e below (s₁.setTop (mkF m 11 #[.val (.ref r0), .val (.int (11 : Int32)), .unset, .unset, .unset] [(.int (2 : Int32)), (.int (11 : Int32)), (.int (2 : Int32))])) _
      refine XS.ishr X0.here hx rfl (hb hby d2_11) rfl ?_
      show Steps p.tables e below (s₁.setTop (mkF m 12 #[.val (.ref r0), .val (.int (11 : Int32)), .unset, .unset, .unset] [(.int (2 : Int32)), (.int (2 : Int32))])) _
      refine XS.iconst X0.here hx rfl (hb hby d2_12) ?_
      show Steps p.tables e below (s₁.setTop (mkF m 13 #[.val (.ref r0), .val (.int (11 : Int32)), .unset, .unset, .unset] [(.int (1 : Int32)), (.int (2 : Int32)), (.int (2 : Int32))])) _
      refine XS.iand X0.here hx rfl (hb hby d2_13) rfl ?_
      show Steps p.tables e below (s₁.setTop (mkF m 14 #[.val (.ref r0), .val (.int (11 : Int32)), .unset, .unset, .unset] [(.int (0 : Int32)), (.int (2 : Int32))])) _
      refine XS.iadd X0.here hx rfl (hb hby d2_14) rfl ?_
      show Steps p.tables e below (s₁.setTop (mkF m 15 #[.val (.ref r0), .val (.int (11 : Int32)), .unset, .unset, .unset] [(.int (2 : Int32))])) _
      refine XS.iloadN X0.here hx rfl (hb hby d2_15) rfl ?_
      show Steps p.tables e below (s₁.setTop (mkF m 16 #[.val (.ref r0), .val (.int (11 : Int32)), .unset, .unset, .unset] [(.int (11 : Int32)), (.int (2 : Int32))])) _
      refine XS.iconst X0.here hx rfl (hb hby d2_16) ?_
      show Steps p.tables e below (s₁.setTop (mkF m 17 #[.val (.ref r0), .val (.int (11 : Int32)), .unset, .unset, .unset] [(.int (3 : Int32)), (.int (11 : Int32)), (.int (2 : Int32))])) _
      refine XS.ishr X0.here hx rfl (hb hby d2_17) rfl ?_
      show Steps p.tables e below (s₁.setTop (mkF m 18 #[.val (.ref r0), .val (.int (11 : Int32)), .unset, .unset, .unset] [(.int (1 : Int32)), (.int (2 : Int32))])) _
      refine XS.iconst X0.here hx rfl (hb hby d2_18) ?_
      show Steps p.tables e below (s₁.setTop (mkF m 19 #[.val (.ref r0), .val (.int (11 : Int32)), .unset, .unset, .unset] [(.int (1 : Int32)), (.int (1 : Int32)), (.int (2 : Int32))])) _
      refine XS.iand X0.here hx rfl (hb hby d2_19) rfl ?_
      show Steps p.tables e below (s₁.setTop (mkF m 20 #[.val (.ref r0), .val (.int (11 : Int32)), .unset, .unset, .unset] [(.int (1 : Int32)), (.int (2 : Int32))])) _
      refine XS.iadd X0.here hx rfl (hb hby d2_20) rfl ?_
      show Steps p.tables e below (s₁.setTop (mkF m 21 #[.val (.ref r0), .val (.int (11 : Int32)), .unset, .unset, .unset] [(.int (3 : Int32))])) _
      refine XS.istoreN X0.here hx rfl (hb hby d2_21) rfl (l' := #[.val (.ref r0), .val (.int (11 : Int32)), .val (.int (3 : Int32)), .unset, .unset]) rfl ?_
      show Steps p.tables e below (s₁.setTop (mkF m 22 #[.val (.ref r0), .val (.int (11 : Int32)), .val (.int (3 : Int32)), .unset, .unset] [])) _
      refine XS.iloadN X0.here hx rfl (hb hby d2_22) rfl ?_
      show Steps p.tables e below (s₁.setTop (mkF m 23 #[.val (.ref r0), .val (.int (11 : Int32)), .val (.int (3 : Int32)), .unset, .unset] [(.int (3 : Int32))])) _
      refine st179 _ ?_
      show Steps p.tables e below (T179.setTop (mkF m 25 #[.val (.ref r0), .val (.int (11 : Int32)), .val (.int (3 : Int32)), .unset, .unset] [(.ref b179)])) _
      refine XS.astoreN X179.here hx rfl (hb hby d2_25) rfl rfl (l' := #[.val (.ref r0), .val (.int (11 : Int32)), .val (.int (3 : Int32)), .val (.ref b179), .unset]) rfl ?_
      show Steps p.tables e below (T179.setTop (mkF m 26 #[.val (.ref r0), .val (.int (11 : Int32)), .val (.int (3 : Int32)), .val (.ref b179), .unset] [])) _
      refine XS.iconst X179.here hx rfl (hb hby d2_26) ?_
      show Steps p.tables e below (T179.setTop (mkF m 27 #[.val (.ref r0), .val (.int (11 : Int32)), .val (.int (3 : Int32)), .val (.ref b179), .unset] [(.int (0 : Int32))])) _
      refine XS.istore X179.here hx rfl (hb hby d2_27) rfl (l' := #[.val (.ref r0), .val (.int (11 : Int32)), .val (.int (3 : Int32)), .val (.ref b179), .val (.int (0 : Int32))]) rfl ?_
      show Steps p.tables e below (T179.setTop (mkF m 29 #[.val (.ref r0), .val (.int (11 : Int32)), .val (.int (3 : Int32)), .val (.ref b179), .val (.int (0 : Int32))] [])) _
      refine XS.iloadN X179.here hx rfl (hb hby d2_29) rfl ?_
      show Steps p.tables e below (T179.setTop (mkF m 30 #[.val (.ref r0), .val (.int (11 : Int32)), .val (.int (3 : Int32)), .val (.ref b179), .val (.int (0 : Int32))] [(.int (11 : Int32))])) _
      refine XS.iconst X179.here hx rfl (hb hby d2_30) ?_
      show Steps p.tables e below (T179.setTop (mkF m 31 #[.val (.ref r0), .val (.int (11 : Int32)), .val (.int (3 : Int32)), .val (.ref b179), .val (.int (0 : Int32))] [(.int (1 : Int32)), (.int (11 : Int32))])) _
      refine XS.iand X179.here hx rfl (hb hby d2_31) rfl ?_
      show Steps p.tables e below (T179.setTop (mkF m 32 #[.val (.ref r0), .val (.int (11 : Int32)), .val (.int (3 : Int32)), .val (.ref b179), .val (.int (0 : Int32))] [(.int (1 : Int32))])) _
      refine XS.ifNo X179.here hx rfl (hb hby d2_32) rfl ((if0 _ _).trans (feq (by decide : ¬ ((1 : Int32) = (0 : Int32)))).1) ?_
      show Steps p.tables e below (T179.setTop (mkF m 35 #[.val (.ref r0), .val (.int (11 : Int32)), .val (.int (3 : Int32)), .val (.ref b179), .val (.int (0 : Int32))] [])) _
      refine XS.aloadN X179.here hx rfl (hb hby d2_35) rfl rfl ?_
      show Steps p.tables e below (T179.setTop (mkF m 36 #[.val (.ref r0), .val (.int (11 : Int32)), .val (.int (3 : Int32)), .val (.ref b179), .val (.int (0 : Int32))] [(.ref b179)])) _
      refine XS.iload X179.here hx rfl (hb hby d2_36) rfl ?_
      show Steps p.tables e below (T179.setTop (mkF m 38 #[.val (.ref r0), .val (.int (11 : Int32)), .val (.int (3 : Int32)), .val (.ref b179), .val (.int (0 : Int32))] [(.int (0 : Int32)), (.ref b179)])) _
      refine XS.aloadN X179.here hx rfl (hb hby d2_38) rfl rfl ?_
      show Steps p.tables e below (T179.setTop (mkF m 39 #[.val (.ref r0), .val (.int (11 : Int32)), .val (.int (3 : Int32)), .val (.ref b179), .val (.int (0 : Int32))] [(.ref r0), (.int (0 : Int32)), (.ref b179)])) _
      refine XS.iconst X179.here hx rfl (hb hby d2_39) ?_
      show Steps p.tables e below (T179.setTop (mkF m 40 #[.val (.ref r0), .val (.int (11 : Int32)), .val (.int (3 : Int32)), .val (.ref b179), .val (.int (0 : Int32))] [(.int (0 : Int32)), (.ref r0), (.int (0 : Int32)), (.ref b179)])) _
      refine X179.laload hx (j := (0 : Int32)) (v := (.long (f ((0 : Int32)).toNatClampNeg))) (by rw [e179]; exact Ar186.1) (State.isArrayOf_alike hZ.alike Ar186.2.1) Ar186.2.2 hin186 hat186 (g := (mkF m 40 #[.val (.ref r0), .val (.int (11 : Int32)), .val (.int (3 : Int32)), .val (.ref b179), .val (.int (0 : Int32))] [(.int (0 : Int32)), (.ref r0), (.int (0 : Int32)), (.ref b179)])) rfl rfl (hb hby d2_40) _ ?_
      show Steps p.tables e below (T179.setTop (mkF m 41 #[.val (.ref r0), .val (.int (11 : Int32)), .val (.int (3 : Int32)), .val (.ref b179), .val (.int (0 : Int32))] [(.long (f ((0 : Int32)).toNatClampNeg)), (.int (0 : Int32)), (.ref b179)])) _
      refine st188 _ ?_
      show Steps p.tables e below (T188.setTop (mkF m 42 #[.val (.ref r0), .val (.int (11 : Int32)), .val (.int (3 : Int32)), .val (.ref b179), .val (.int (0 : Int32))] [])) _
      refine XS.iinc X188.here hx rfl (hb hby d2_42) rfl (l' := #[.val (.ref r0), .val (.int (11 : Int32)), .val (.int (3 : Int32)), .val (.ref b179), .val (.int (1 : Int32))]) rfl ?_
      show Steps p.tables e below (T188.setTop (mkF m 45 #[.val (.ref r0), .val (.int (11 : Int32)), .val (.int (3 : Int32)), .val (.ref b179), .val (.int (1 : Int32))] [])) _
      refine XS.iloadN X188.here hx rfl (hb hby d2_45) rfl ?_
      show Steps p.tables e below (T188.setTop (mkF m 46 #[.val (.ref r0), .val (.int (11 : Int32)), .val (.int (3 : Int32)), .val (.ref b179), .val (.int (1 : Int32))] [(.int (11 : Int32))])) _
      refine XS.iconst X188.here hx rfl (hb hby d2_46) ?_
      show Steps p.tables e below (T188.setTop (mkF m 47 #[.val (.ref r0), .val (.int (11 : Int32)), .val (.int (3 : Int32)), .val (.ref b179), .val (.int (1 : Int32))] [(.int (2 : Int32)), (.int (11 : Int32))])) _
      refine XS.iand X188.here hx rfl (hb hby d2_47) rfl ?_
      show Steps p.tables e below (T188.setTop (mkF m 48 #[.val (.ref r0), .val (.int (11 : Int32)), .val (.int (3 : Int32)), .val (.ref b179), .val (.int (1 : Int32))] [(.int (2 : Int32))])) _
      refine XS.ifNo X188.here hx rfl (hb hby d2_48) rfl ((if0 _ _).trans (feq (by decide : ¬ ((2 : Int32) = (0 : Int32)))).1) ?_
      show Steps p.tables e below (T188.setTop (mkF m 51 #[.val (.ref r0), .val (.int (11 : Int32)), .val (.int (3 : Int32)), .val (.ref b179), .val (.int (1 : Int32))] [])) _
      refine XS.aloadN X188.here hx rfl (hb hby d2_51) rfl rfl ?_
      show Steps p.tables e below (T188.setTop (mkF m 52 #[.val (.ref r0), .val (.int (11 : Int32)), .val (.int (3 : Int32)), .val (.ref b179), .val (.int (1 : Int32))] [(.ref b179)])) _
      refine XS.iload X188.here hx rfl (hb hby d2_52) rfl ?_
      show Steps p.tables e below (T188.setTop (mkF m 54 #[.val (.ref r0), .val (.int (11 : Int32)), .val (.int (3 : Int32)), .val (.ref b179), .val (.int (1 : Int32))] [(.int (1 : Int32)), (.ref b179)])) _
      refine XS.aloadN X188.here hx rfl (hb hby d2_54) rfl rfl ?_
      show Steps p.tables e below (T188.setTop (mkF m 55 #[.val (.ref r0), .val (.int (11 : Int32)), .val (.int (3 : Int32)), .val (.ref b179), .val (.int (1 : Int32))] [(.ref r0), (.int (1 : Int32)), (.ref b179)])) _
      refine XS.iconst X188.here hx rfl (hb hby d2_55) ?_
      show Steps p.tables e below (T188.setTop (mkF m 56 #[.val (.ref r0), .val (.int (11 : Int32)), .val (.int (3 : Int32)), .val (.ref b179), .val (.int (1 : Int32))] [(.int (1 : Int32)), (.ref r0), (.int (1 : Int32)), (.ref b179)])) _
      refine X188.laload hx (j := (1 : Int32)) (v := (.long (f ((1 : Int32)).toNatClampNeg))) (by rw [e188]; exact Ar192.1) (State.isArrayOf_alike hZ.alike Ar192.2.1) Ar192.2.2 hin192 hat192 (g := (mkF m 56 #[.val (.ref r0), .val (.int (11 : Int32)), .val (.int (3 : Int32)), .val (.ref b179), .val (.int (1 : Int32))] [(.int (1 : Int32)), (.ref r0), (.int (1 : Int32)), (.ref b179)])) rfl rfl (hb hby d2_56) _ ?_
      show Steps p.tables e below (T188.setTop (mkF m 57 #[.val (.ref r0), .val (.int (11 : Int32)), .val (.int (3 : Int32)), .val (.ref b179), .val (.int (1 : Int32))] [(.long (f ((1 : Int32)).toNatClampNeg)), (.int (1 : Int32)), (.ref b179)])) _
      refine st194 _ ?_
      show Steps p.tables e below (T194.setTop (mkF m 58 #[.val (.ref r0), .val (.int (11 : Int32)), .val (.int (3 : Int32)), .val (.ref b179), .val (.int (1 : Int32))] [])) _
      refine XS.iinc X194.here hx rfl (hb hby d2_58) rfl (l' := #[.val (.ref r0), .val (.int (11 : Int32)), .val (.int (3 : Int32)), .val (.ref b179), .val (.int (2 : Int32))]) rfl ?_
      show Steps p.tables e below (T194.setTop (mkF m 61 #[.val (.ref r0), .val (.int (11 : Int32)), .val (.int (3 : Int32)), .val (.ref b179), .val (.int (2 : Int32))] [])) _
      refine XS.iloadN X194.here hx rfl (hb hby d2_61) rfl ?_
      show Steps p.tables e below (T194.setTop (mkF m 62 #[.val (.ref r0), .val (.int (11 : Int32)), .val (.int (3 : Int32)), .val (.ref b179), .val (.int (2 : Int32))] [(.int (11 : Int32))])) _
      refine XS.iconst X194.here hx rfl (hb hby d2_62) ?_
      show Steps p.tables e below (T194.setTop (mkF m 63 #[.val (.ref r0), .val (.int (11 : Int32)), .val (.int (3 : Int32)), .val (.ref b179), .val (.int (2 : Int32))] [(.int (4 : Int32)), (.int (11 : Int32))])) _
      refine XS.iand X194.here hx rfl (hb hby d2_63) rfl ?_
      show Steps p.tables e below (T194.setTop (mkF m 64 #[.val (.ref r0), .val (.int (11 : Int32)), .val (.int (3 : Int32)), .val (.ref b179), .val (.int (2 : Int32))] [(.int (0 : Int32))])) _
      refine XS.ifYes X194.here hx rfl (pc0 := 64) (pc' := 77) rfl (hb hby d2_64) rfl ((if0 _ _).trans (teq (by decide : (0 : Int32) = (0 : Int32))).1) (by decide) (by decide) ?_
      show Steps p.tables e below (T194.setTop (mkF m 77 #[.val (.ref r0), .val (.int (11 : Int32)), .val (.int (3 : Int32)), .val (.ref b179), .val (.int (2 : Int32))] [])) _
      refine XS.iloadN X194.here hx rfl (hb hby d2_77) rfl ?_
      show Steps p.tables e below (T194.setTop (mkF m 78 #[.val (.ref r0), .val (.int (11 : Int32)), .val (.int (3 : Int32)), .val (.ref b179), .val (.int (2 : Int32))] [(.int (11 : Int32))])) _
      refine XS.bipush X194.here hx rfl (hb hby d2_78) ?_
      show Steps p.tables e below (T194.setTop (mkF m 80 #[.val (.ref r0), .val (.int (11 : Int32)), .val (.int (3 : Int32)), .val (.ref b179), .val (.int (2 : Int32))] [(.int (8 : Int32)), (.int (11 : Int32))])) _
      refine XS.iand X194.here hx rfl (hb hby d2_80) rfl ?_
      show Steps p.tables e below (T194.setTop (mkF m 81 #[.val (.ref r0), .val (.int (11 : Int32)), .val (.int (3 : Int32)), .val (.ref b179), .val (.int (2 : Int32))] [(.int (8 : Int32))])) _
      refine XS.ifNo X194.here hx rfl (hb hby d2_81) rfl ((if0 _ _).trans (feq (by decide : ¬ ((8 : Int32) = (0 : Int32)))).1) ?_
      show Steps p.tables e below (T194.setTop (mkF m 84 #[.val (.ref r0), .val (.int (11 : Int32)), .val (.int (3 : Int32)), .val (.ref b179), .val (.int (2 : Int32))] [])) _
      refine XS.aloadN X194.here hx rfl (hb hby d2_84) rfl rfl ?_
      show Steps p.tables e below (T194.setTop (mkF m 85 #[.val (.ref r0), .val (.int (11 : Int32)), .val (.int (3 : Int32)), .val (.ref b179), .val (.int (2 : Int32))] [(.ref b179)])) _
      refine XS.iload X194.here hx rfl (hb hby d2_85) rfl ?_
      show Steps p.tables e below (T194.setTop (mkF m 87 #[.val (.ref r0), .val (.int (11 : Int32)), .val (.int (3 : Int32)), .val (.ref b179), .val (.int (2 : Int32))] [(.int (2 : Int32)), (.ref b179)])) _
      refine XS.aloadN X194.here hx rfl (hb hby d2_87) rfl rfl ?_
      show Steps p.tables e below (T194.setTop (mkF m 88 #[.val (.ref r0), .val (.int (11 : Int32)), .val (.int (3 : Int32)), .val (.ref b179), .val (.int (2 : Int32))] [(.ref r0), (.int (2 : Int32)), (.ref b179)])) _
      refine XS.iconst X194.here hx rfl (hb hby d2_88) ?_
      show Steps p.tables e below (T194.setTop (mkF m 89 #[.val (.ref r0), .val (.int (11 : Int32)), .val (.int (3 : Int32)), .val (.ref b179), .val (.int (2 : Int32))] [(.int (3 : Int32)), (.ref r0), (.int (2 : Int32)), (.ref b179)])) _
      refine X194.laload hx (j := (3 : Int32)) (v := (.long (f ((3 : Int32)).toNatClampNeg))) (by rw [e194]; exact Ar198.1) (State.isArrayOf_alike hZ.alike Ar198.2.1) Ar198.2.2 hin198 hat198 (g := (mkF m 89 #[.val (.ref r0), .val (.int (11 : Int32)), .val (.int (3 : Int32)), .val (.ref b179), .val (.int (2 : Int32))] [(.int (3 : Int32)), (.ref r0), (.int (2 : Int32)), (.ref b179)])) rfl rfl (hb hby d2_89) _ ?_
      show Steps p.tables e below (T194.setTop (mkF m 90 #[.val (.ref r0), .val (.int (11 : Int32)), .val (.int (3 : Int32)), .val (.ref b179), .val (.int (2 : Int32))] [(.long (f ((3 : Int32)).toNatClampNeg)), (.int (2 : Int32)), (.ref b179)])) _
      refine st200 _ ?_
      show Steps p.tables e below (T200.setTop (mkF m 91 #[.val (.ref r0), .val (.int (11 : Int32)), .val (.int (3 : Int32)), .val (.ref b179), .val (.int (2 : Int32))] [])) _
      refine XS.iinc X200.here hx rfl (hb hby d2_91) rfl (l' := #[.val (.ref r0), .val (.int (11 : Int32)), .val (.int (3 : Int32)), .val (.ref b179), .val (.int (3 : Int32))]) rfl ?_
      show Steps p.tables e below (T200.setTop (mkF m 94 #[.val (.ref r0), .val (.int (11 : Int32)), .val (.int (3 : Int32)), .val (.ref b179), .val (.int (3 : Int32))] [])) _
      refine XS.aloadN X200.here hx rfl (hb hby d2_94) rfl rfl ?_
      show Steps p.tables e below (T200.setTop (mkF m 95 #[.val (.ref r0), .val (.int (11 : Int32)), .val (.int (3 : Int32)), .val (.ref b179), .val (.int (3 : Int32))] [(.ref b179)])) _
      exact retOut X200 hx Bd.returns rfl (Or.inr (Or.inr (Or.inr (Or.inr ⟨rfl, rfl, rfl⟩)))) (hb hby d2_95) hr
    · show Q2 Z r0 (11 : Int32) f h0 n0 _ T200.heap _
      rw [e200]
      exact ⟨b179, (3 : Int32), (fun i => if i = ((2 : Int32)).toNatClampNeg then (f ((3 : Int32)).toNatClampNeg) else (fun i => if i = ((1 : Int32)).toNatClampNeg then (f ((1 : Int32)).toNatClampNeg) else (fun i => if i = ((0 : Int32)).toNatClampNeg then (f ((0 : Int32)).toNatClampNeg) else (fun _ => (0 : Int64)) i) i) i), rfl, N200, z182, K202, V200, rfl⟩
  · obtain ⟨T203, h203, k203, X203, e203, E203, A203, st203⟩ := newP X0 hx hZ (hw _ (List.mem_of_getElem? (i := 0) rfl)) e0 (g := (mkF m 23 #[.val (.ref r0), .val (.int (12 : Int32)), .val (.int (2 : Int32)), .unset, .unset] [(.int (2 : Int32))])) rfl (hb hby d2_23) rfl (by decide) (cap := 2) (by decide) (by decide) (by decide) (by decide)
    obtain ⟨b203, gb203⟩ : ∃ z, z = h0.size := ⟨_, rfl⟩
    rw [← gb203] at A203 st203
    have ne204 : r0 ≠ b203 := Nat.ne_of_lt (Nat.lt_of_lt_of_le hp0.lt (Nat.le_of_eq gb203.symm))
    have g205 : n0 ≤ b203 := Nat.le_trans Z0 (Nat.le_of_eq gb203.symm)
    have z206 : h0.size ≤ b203 := Nat.le_trans (Keep.refl h0 []).1 (Nat.le_of_eq gb203.symm)
    have Z207 : n0 ≤ h203.size := Nat.le_trans Z0 E203.1
    have K208 : Keep h0 h203 [] := (Keep.refl h0 []).ext E203
    have V203 : AL Z h203 b203 (2 : Int32) (fun _ => (0 : Int64)) := AL.new A203 (by decide)
    have V209 : AL Z h203 r0 (4 : Int32) f := (hp0.ext E203)
    obtain ⟨cl210, Ar210, S210, M210, I210⟩ := id V209
    have hin210 : ¬ ((2 : Int32) < 0 ∨ cl210.slots.size ≤ ((2 : Int32)).toNatClampNeg) := inb_of S210 ⟨by decide, by decide⟩
    have hat210 : cl210.slots[((2 : Int32)).toNatClampNeg]? = some (.long (f ((2 : Int32)).toNatClampNeg)) := I210 _ (Nat.lt_of_not_le fun y => hin210 (Or.inr y))
    obtain ⟨cl211, Ar211, S211, M211, I211⟩ := id V203
    have hin211 : ¬ ((0 : Int32) < 0 ∨ cl211.slots.size ≤ ((0 : Int32)).toNatClampNeg) := inb_of S211 ⟨by decide, by decide⟩
    obtain ⟨T212, h212, X212, e212, W212, st212⟩ := stJ X203 hx hZ e203 Ar211 (j := (0 : Int32)) hin211 (g := (mkF m 73 #[.val (.ref r0), .val (.int (12 : Int32)), .val (.int (2 : Int32)), .val (.ref b203), .val (.int (0 : Int32))] [(.long (f ((2 : Int32)).toNatClampNeg)), (.int (0 : Int32)), (.ref b203)])) rfl rfl (hb hby d2_73)
    have V212 : AL Z h212 b203 (2 : Int32) (fun i => if i = ((0 : Int32)).toNatClampNeg then (f ((2 : Int32)).toNatClampNeg) else (fun _ => (0 : Int64)) i) := AL.set V203 W212
    have Z213 : n0 ≤ h212.size := Nat.le_trans Z207 (Keep.of_wr W212).1
    have K214 : Keep h0 h212 [] := K208.wr W212 (Or.inr z206)
    have N212 := Fr.snoc X212 N0 g205
    have V215 : AL Z h212 r0 (4 : Int32) f := (V209.other W212 ne204)
    obtain ⟨cl216, Ar216, S216, M216, I216⟩ := id V215
    have hin216 : ¬ ((3 : Int32) < 0 ∨ cl216.slots.size ≤ ((3 : Int32)).toNatClampNeg) := inb_of S216 ⟨by decide, by decide⟩
    have hat216 : cl216.slots[((3 : Int32)).toNatClampNeg]? = some (.long (f ((3 : Int32)).toNatClampNeg)) := I216 _ (Nat.lt_of_not_le fun y => hin216 (Or.inr y))
    obtain ⟨cl217, Ar217, S217, M217, I217⟩ := id V212
    have hin217 : ¬ ((1 : Int32) < 0 ∨ cl217.slots.size ≤ ((1 : Int32)).toNatClampNeg) := inb_of S217 ⟨by decide, by decide⟩
    obtain ⟨T218, h218, X218, e218, W218, st218⟩ := stJ X212 hx hZ e212 Ar217 (j := (1 : Int32)) hin217 (g := (mkF m 90 #[.val (.ref r0), .val (.int (12 : Int32)), .val (.int (2 : Int32)), .val (.ref b203), .val (.int (1 : Int32))] [(.long (f ((3 : Int32)).toNatClampNeg)), (.int (1 : Int32)), (.ref b203)])) rfl rfl (hb hby d2_90)
    have V218 : AL Z h218 b203 (2 : Int32) (fun i => if i = ((1 : Int32)).toNatClampNeg then (f ((3 : Int32)).toNatClampNeg) else (fun i => if i = ((0 : Int32)).toNatClampNeg then (f ((2 : Int32)).toNatClampNeg) else (fun _ => (0 : Int64)) i) i) := AL.set V212 W218
    have Z219 : n0 ≤ h218.size := Nat.le_trans Z213 (Keep.of_wr W218).1
    have K220 : Keep h0 h218 [] := K214.wr W218 (Or.inr z206)
    have N218 := Fr.snoc X218 N212 g205
    obtain ⟨fs, hr, hrun, hended, hW, hsame⟩ := X218.leave (v := some (.ref b203)) (fun h => by rw [Bd.returns] at h; cases h)
    refine ⟨_, _, pre0 _ ?_, hrun, hended, _, _, rfl, ?_, ⟨_, rfl⟩, hW, hsame.mono (by decide) (by decide)⟩
    · refine XS.iloadN X0.here hx rfl (hb hby d2_0) rfl ?_
      show Steps p.tables e below (s₁.setTop (mkF m 1 #[.val (.ref r0), .val (.int (12 : Int32)), .unset, .unset, .unset] [(.int (12 : Int32))])) _
      refine XS.iconst X0.here hx rfl (hb hby d2_1) ?_
      show Steps p.tables e below (s₁.setTop (mkF m 2 #[.val (.ref r0), .val (.int (12 : Int32)), .unset, .unset, .unset] [(.int (1 : Int32)), (.int (12 : Int32))])) _
      refine XS.iand X0.here hx rfl (hb hby d2_2) rfl ?_
      show Steps p.tables e below (s₁.setTop (mkF m 3 #[.val (.ref r0), .val (.int (12 : Int32)), .unset, .unset, .unset] [(.int (0 : Int32))])) _
      refine XS.iloadN X0.here hx rfl (hb hby d2_3) rfl ?_
      show Steps p.tables e below (s₁.setTop (mkF m 4 #[.val (.ref r0), .val (.int (12 : Int32)), .unset, .unset, .unset] [(.int (12 : Int32)), (.int (0 : Int32))])) _
      refine XS.iconst X0.here hx rfl (hb hby d2_4) ?_
      show Steps p.tables e below (s₁.setTop (mkF m 5 #[.val (.ref r0), .val (.int (12 : Int32)), .unset, .unset, .unset] [(.int (1 : Int32)), (.int (12 : Int32)), (.int (0 : Int32))])) _
      refine XS.ishr X0.here hx rfl (hb hby d2_5) rfl ?_
      show Steps p.tables e below (s₁.setTop (mkF m 6 #[.val (.ref r0), .val (.int (12 : Int32)), .unset, .unset, .unset] [(.int (6 : Int32)), (.int (0 : Int32))])) _
      refine XS.iconst X0.here hx rfl (hb hby d2_6) ?_
      show Steps p.tables e below (s₁.setTop (mkF m 7 #[.val (.ref r0), .val (.int (12 : Int32)), .unset, .unset, .unset] [(.int (1 : Int32)), (.int (6 : Int32)), (.int (0 : Int32))])) _
      refine XS.iand X0.here hx rfl (hb hby d2_7) rfl ?_
      show Steps p.tables e below (s₁.setTop (mkF m 8 #[.val (.ref r0), .val (.int (12 : Int32)), .unset, .unset, .unset] [(.int (0 : Int32)), (.int (0 : Int32))])) _
      refine XS.iadd X0.here hx rfl (hb hby d2_8) rfl ?_
      show Steps p.tables e below (s₁.setTop (mkF m 9 #[.val (.ref r0), .val (.int (12 : Int32)), .unset, .unset, .unset] [(.int (0 : Int32))])) _
      refine XS.iloadN X0.here hx rfl (hb hby d2_9) rfl ?_
      show Steps p.tables e below (s₁.setTop (mkF m 10 #[.val (.ref r0), .val (.int (12 : Int32)), .unset, .unset, .unset] [(.int (12 : Int32)), (.int (0 : Int32))])) _
      refine XS.iconst X0.here hx rfl (hb hby d2_10) ?_
      show Steps p.tables e below (s₁.setTop (mkF m 11 #[.val (.ref r0), .val (.int (12 : Int32)), .unset, .unset, .unset] [(.int (2 : Int32)), (.int (12 : Int32)), (.int (0 : Int32))])) _
      refine XS.ishr X0.here hx rfl (hb hby d2_11) rfl ?_
      show Steps p.tables e below (s₁.setTop (mkF m 12 #[.val (.ref r0), .val (.int (12 : Int32)), .unset, .unset, .unset] [(.int (3 : Int32)), (.int (0 : Int32))])) _
      refine XS.iconst X0.here hx rfl (hb hby d2_12) ?_
      show Steps p.tables e below (s₁.setTop (mkF m 13 #[.val (.ref r0), .val (.int (12 : Int32)), .unset, .unset, .unset] [(.int (1 : Int32)), (.int (3 : Int32)), (.int (0 : Int32))])) _
      refine XS.iand X0.here hx rfl (hb hby d2_13) rfl ?_
      show Steps p.tables e below (s₁.setTop (mkF m 14 #[.val (.ref r0), .val (.int (12 : Int32)), .unset, .unset, .unset] [(.int (1 : Int32)), (.int (0 : Int32))])) _
      refine XS.iadd X0.here hx rfl (hb hby d2_14) rfl ?_
      show Steps p.tables e below (s₁.setTop (mkF m 15 #[.val (.ref r0), .val (.int (12 : Int32)), .unset, .unset, .unset] [(.int (1 : Int32))])) _
      refine XS.iloadN X0.here hx rfl (hb hby d2_15) rfl ?_
      show Steps p.tables e below (s₁.setTop (mkF m 16 #[.val (.ref r0), .val (.int (12 : Int32)), .unset, .unset, .unset] [(.int (12 : Int32)), (.int (1 : Int32))])) _
      refine XS.iconst X0.here hx rfl (hb hby d2_16) ?_
      show Steps p.tables e below (s₁.setTop (mkF m 17 #[.val (.ref r0), .val (.int (12 : Int32)), .unset, .unset, .unset] [(.int (3 : Int32)), (.int (12 : Int32)), (.int (1 : Int32))])) _
      refine XS.ishr X0.here hx rfl (hb hby d2_17) rfl ?_
      show Steps p.tables e below (s₁.setTop (mkF m 18 #[.val (.ref r0), .val (.int (12 : Int32)), .unset, .unset, .unset] [(.int (1 : Int32)), (.int (1 : Int32))])) _
      refine XS.iconst X0.here hx rfl (hb hby d2_18) ?_
      show Steps p.tables e below (s₁.setTop (mkF m 19 #[.val (.ref r0), .val (.int (12 : Int32)), .unset, .unset, .unset] [(.int (1 : Int32)), (.int (1 : Int32)), (.int (1 : Int32))])) _
      refine XS.iand X0.here hx rfl (hb hby d2_19) rfl ?_
      show Steps p.tables e below (s₁.setTop (mkF m 20 #[.val (.ref r0), .val (.int (12 : Int32)), .unset, .unset, .unset] [(.int (1 : Int32)), (.int (1 : Int32))])) _
      refine XS.iadd X0.here hx rfl (hb hby d2_20) rfl ?_
      show Steps p.tables e below (s₁.setTop (mkF m 21 #[.val (.ref r0), .val (.int (12 : Int32)), .unset, .unset, .unset] [(.int (2 : Int32))])) _
      refine XS.istoreN X0.here hx rfl (hb hby d2_21) rfl (l' := #[.val (.ref r0), .val (.int (12 : Int32)), .val (.int (2 : Int32)), .unset, .unset]) rfl ?_
      show Steps p.tables e below (s₁.setTop (mkF m 22 #[.val (.ref r0), .val (.int (12 : Int32)), .val (.int (2 : Int32)), .unset, .unset] [])) _
      refine XS.iloadN X0.here hx rfl (hb hby d2_22) rfl ?_
      show Steps p.tables e below (s₁.setTop (mkF m 23 #[.val (.ref r0), .val (.int (12 : Int32)), .val (.int (2 : Int32)), .unset, .unset] [(.int (2 : Int32))])) _
      refine st203 _ ?_
      show Steps p.tables e below (T203.setTop (mkF m 25 #[.val (.ref r0), .val (.int (12 : Int32)), .val (.int (2 : Int32)), .unset, .unset] [(.ref b203)])) _
      refine XS.astoreN X203.here hx rfl (hb hby d2_25) rfl rfl (l' := #[.val (.ref r0), .val (.int (12 : Int32)), .val (.int (2 : Int32)), .val (.ref b203), .unset]) rfl ?_
      show Steps p.tables e below (T203.setTop (mkF m 26 #[.val (.ref r0), .val (.int (12 : Int32)), .val (.int (2 : Int32)), .val (.ref b203), .unset] [])) _
      refine XS.iconst X203.here hx rfl (hb hby d2_26) ?_
      show Steps p.tables e below (T203.setTop (mkF m 27 #[.val (.ref r0), .val (.int (12 : Int32)), .val (.int (2 : Int32)), .val (.ref b203), .unset] [(.int (0 : Int32))])) _
      refine XS.istore X203.here hx rfl (hb hby d2_27) rfl (l' := #[.val (.ref r0), .val (.int (12 : Int32)), .val (.int (2 : Int32)), .val (.ref b203), .val (.int (0 : Int32))]) rfl ?_
      show Steps p.tables e below (T203.setTop (mkF m 29 #[.val (.ref r0), .val (.int (12 : Int32)), .val (.int (2 : Int32)), .val (.ref b203), .val (.int (0 : Int32))] [])) _
      refine XS.iloadN X203.here hx rfl (hb hby d2_29) rfl ?_
      show Steps p.tables e below (T203.setTop (mkF m 30 #[.val (.ref r0), .val (.int (12 : Int32)), .val (.int (2 : Int32)), .val (.ref b203), .val (.int (0 : Int32))] [(.int (12 : Int32))])) _
      refine XS.iconst X203.here hx rfl (hb hby d2_30) ?_
      show Steps p.tables e below (T203.setTop (mkF m 31 #[.val (.ref r0), .val (.int (12 : Int32)), .val (.int (2 : Int32)), .val (.ref b203), .val (.int (0 : Int32))] [(.int (1 : Int32)), (.int (12 : Int32))])) _
      refine XS.iand X203.here hx rfl (hb hby d2_31) rfl ?_
      show Steps p.tables e below (T203.setTop (mkF m 32 #[.val (.ref r0), .val (.int (12 : Int32)), .val (.int (2 : Int32)), .val (.ref b203), .val (.int (0 : Int32))] [(.int (0 : Int32))])) _
      refine XS.ifYes X203.here hx rfl (pc0 := 32) (pc' := 45) rfl (hb hby d2_32) rfl ((if0 _ _).trans (teq (by decide : (0 : Int32) = (0 : Int32))).1) (by decide) (by decide) ?_
      show Steps p.tables e below (T203.setTop (mkF m 45 #[.val (.ref r0), .val (.int (12 : Int32)), .val (.int (2 : Int32)), .val (.ref b203), .val (.int (0 : Int32))] [])) _
      refine XS.iloadN X203.here hx rfl (hb hby d2_45) rfl ?_
      show Steps p.tables e below (T203.setTop (mkF m 46 #[.val (.ref r0), .val (.int (12 : Int32)), .val (.int (2 : Int32)), .val (.ref b203), .val (.int (0 : Int32))] [(.int (12 : Int32))])) _
      refine XS.iconst X203.here hx rfl (hb hby d2_46) ?_
      show Steps p.tables e below (T203.setTop (mkF m 47 #[.val (.ref r0), .val (.int (12 : Int32)), .val (.int (2 : Int32)), .val (.ref b203), .val (.int (0 : Int32))] [(.int (2 : Int32)), (.int (12 : Int32))])) _
      refine XS.iand X203.here hx rfl (hb hby d2_47) rfl ?_
      show Steps p.tables e below (T203.setTop (mkF m 48 #[.val (.ref r0), .val (.int (12 : Int32)), .val (.int (2 : Int32)), .val (.ref b203), .val (.int (0 : Int32))] [(.int (0 : Int32))])) _
      refine XS.ifYes X203.here hx rfl (pc0 := 48) (pc' := 61) rfl (hb hby d2_48) rfl ((if0 _ _).trans (teq (by decide : (0 : Int32) = (0 : Int32))).1) (by decide) (by decide) ?_
      show Steps p.tables e below (T203.setTop (mkF m 61 #[.val (.ref r0), .val (.int (12 : Int32)), .val (.int (2 : Int32)), .val (.ref b203), .val (.int (0 : Int32))] [])) _
      refine XS.iloadN X203.here hx rfl (hb hby d2_61) rfl ?_
      show Steps p.tables e below (T203.setTop (mkF m 62 #[.val (.ref r0), .val (.int (12 : Int32)), .val (.int (2 : Int32)), .val (.ref b203), .val (.int (0 : Int32))] [(.int (12 : Int32))])) _
      refine XS.iconst X203.here hx rfl (hb hby d2_62) ?_
      show Steps p.tables e below (T203.setTop (mkF m 63 #[.val (.ref r0), .val (.int (12 : Int32)), .val (.int (2 : Int32)), .val (.ref b203), .val (.int (0 : Int32))] [(.int (4 : Int32)), (.int (12 : Int32))])) _
      refine XS.iand X203.here hx rfl (hb hby d2_63) rfl ?_
      show Steps p.tables e below (T203.setTop (mkF m 64 #[.val (.ref r0), .val (.int (12 : Int32)), .val (.int (2 : Int32)), .val (.ref b203), .val (.int (0 : Int32))] [(.int (4 : Int32))])) _
      refine XS.ifNo X203.here hx rfl (hb hby d2_64) rfl ((if0 _ _).trans (feq (by decide : ¬ ((4 : Int32) = (0 : Int32)))).1) ?_
      show Steps p.tables e below (T203.setTop (mkF m 67 #[.val (.ref r0), .val (.int (12 : Int32)), .val (.int (2 : Int32)), .val (.ref b203), .val (.int (0 : Int32))] [])) _
      refine XS.aloadN X203.here hx rfl (hb hby d2_67) rfl rfl ?_
      show Steps p.tables e below (T203.setTop (mkF m 68 #[.val (.ref r0), .val (.int (12 : Int32)), .val (.int (2 : Int32)), .val (.ref b203), .val (.int (0 : Int32))] [(.ref b203)])) _
      refine XS.iload X203.here hx rfl (hb hby d2_68) rfl ?_
      show Steps p.tables e below (T203.setTop (mkF m 70 #[.val (.ref r0), .val (.int (12 : Int32)), .val (.int (2 : Int32)), .val (.ref b203), .val (.int (0 : Int32))] [(.int (0 : Int32)), (.ref b203)])) _
      refine XS.aloadN X203.here hx rfl (hb hby d2_70) rfl rfl ?_
      show Steps p.tables e below (T203.setTop (mkF m 71 #[.val (.ref r0), .val (.int (12 : Int32)), .val (.int (2 : Int32)), .val (.ref b203), .val (.int (0 : Int32))] [(.ref r0), (.int (0 : Int32)), (.ref b203)])) _
      refine XS.iconst X203.here hx rfl (hb hby d2_71) ?_
      show Steps p.tables e below (T203.setTop (mkF m 72 #[.val (.ref r0), .val (.int (12 : Int32)), .val (.int (2 : Int32)), .val (.ref b203), .val (.int (0 : Int32))] [(.int (2 : Int32)), (.ref r0), (.int (0 : Int32)), (.ref b203)])) _
      refine X203.laload hx (j := (2 : Int32)) (v := (.long (f ((2 : Int32)).toNatClampNeg))) (by rw [e203]; exact Ar210.1) (State.isArrayOf_alike hZ.alike Ar210.2.1) Ar210.2.2 hin210 hat210 (g := (mkF m 72 #[.val (.ref r0), .val (.int (12 : Int32)), .val (.int (2 : Int32)), .val (.ref b203), .val (.int (0 : Int32))] [(.int (2 : Int32)), (.ref r0), (.int (0 : Int32)), (.ref b203)])) rfl rfl (hb hby d2_72) _ ?_
      show Steps p.tables e below (T203.setTop (mkF m 73 #[.val (.ref r0), .val (.int (12 : Int32)), .val (.int (2 : Int32)), .val (.ref b203), .val (.int (0 : Int32))] [(.long (f ((2 : Int32)).toNatClampNeg)), (.int (0 : Int32)), (.ref b203)])) _
      refine st212 _ ?_
      show Steps p.tables e below (T212.setTop (mkF m 74 #[.val (.ref r0), .val (.int (12 : Int32)), .val (.int (2 : Int32)), .val (.ref b203), .val (.int (0 : Int32))] [])) _
      refine XS.iinc X212.here hx rfl (hb hby d2_74) rfl (l' := #[.val (.ref r0), .val (.int (12 : Int32)), .val (.int (2 : Int32)), .val (.ref b203), .val (.int (1 : Int32))]) rfl ?_
      show Steps p.tables e below (T212.setTop (mkF m 77 #[.val (.ref r0), .val (.int (12 : Int32)), .val (.int (2 : Int32)), .val (.ref b203), .val (.int (1 : Int32))] [])) _
      refine XS.iloadN X212.here hx rfl (hb hby d2_77) rfl ?_
      show Steps p.tables e below (T212.setTop (mkF m 78 #[.val (.ref r0), .val (.int (12 : Int32)), .val (.int (2 : Int32)), .val (.ref b203), .val (.int (1 : Int32))] [(.int (12 : Int32))])) _
      refine XS.bipush X212.here hx rfl (hb hby d2_78) ?_
      show Steps p.tables e below (T212.setTop (mkF m 80 #[.val (.ref r0), .val (.int (12 : Int32)), .val (.int (2 : Int32)), .val (.ref b203), .val (.int (1 : Int32))] [(.int (8 : Int32)), (.int (12 : Int32))])) _
      refine XS.iand X212.here hx rfl (hb hby d2_80) rfl ?_
      show Steps p.tables e below (T212.setTop (mkF m 81 #[.val (.ref r0), .val (.int (12 : Int32)), .val (.int (2 : Int32)), .val (.ref b203), .val (.int (1 : Int32))] [(.int (8 : Int32))])) _
      refine XS.ifNo X212.here hx rfl (hb hby d2_81) rfl ((if0 _ _).trans (feq (by decide : ¬ ((8 : Int32) = (0 : Int32)))).1) ?_
      show Steps p.tables e below (T212.setTop (mkF m 84 #[.val (.ref r0), .val (.int (12 : Int32)), .val (.int (2 : Int32)), .val (.ref b203), .val (.int (1 : Int32))] [])) _
      refine XS.aloadN X212.here hx rfl (hb hby d2_84) rfl rfl ?_
      show Steps p.tables e below (T212.setTop (mkF m 85 #[.val (.ref r0), .val (.int (12 : Int32)), .val (.int (2 : Int32)), .val (.ref b203), .val (.int (1 : Int32))] [(.ref b203)])) _
      refine XS.iload X212.here hx rfl (hb hby d2_85) rfl ?_
      show Steps p.tables e below (T212.setTop (mkF m 87 #[.val (.ref r0), .val (.int (12 : Int32)), .val (.int (2 : Int32)), .val (.ref b203), .val (.int (1 : Int32))] [(.int (1 : Int32)), (.ref b203)])) _
      refine XS.aloadN X212.here hx rfl (hb hby d2_87) rfl rfl ?_
      show Steps p.tables e below (T212.setTop (mkF m 88 #[.val (.ref r0), .val (.int (12 : Int32)), .val (.int (2 : Int32)), .val (.ref b203), .val (.int (1 : Int32))] [(.ref r0), (.int (1 : Int32)), (.ref b203)])) _
      refine XS.iconst X212.here hx rfl (hb hby d2_88) ?_
      show Steps p.tables e below (T212.setTop (mkF m 89 #[.val (.ref r0), .val (.int (12 : Int32)), .val (.int (2 : Int32)), .val (.ref b203), .val (.int (1 : Int32))] [(.int (3 : Int32)), (.ref r0), (.int (1 : Int32)), (.ref b203)])) _
      refine X212.laload hx (j := (3 : Int32)) (v := (.long (f ((3 : Int32)).toNatClampNeg))) (by rw [e212]; exact Ar216.1) (State.isArrayOf_alike hZ.alike Ar216.2.1) Ar216.2.2 hin216 hat216 (g := (mkF m 89 #[.val (.ref r0), .val (.int (12 : Int32)), .val (.int (2 : Int32)), .val (.ref b203), .val (.int (1 : Int32))] [(.int (3 : Int32)), (.ref r0), (.int (1 : Int32)), (.ref b203)])) rfl rfl (hb hby d2_89) _ ?_
      show Steps p.tables e below (T212.setTop (mkF m 90 #[.val (.ref r0), .val (.int (12 : Int32)), .val (.int (2 : Int32)), .val (.ref b203), .val (.int (1 : Int32))] [(.long (f ((3 : Int32)).toNatClampNeg)), (.int (1 : Int32)), (.ref b203)])) _
      refine st218 _ ?_
      show Steps p.tables e below (T218.setTop (mkF m 91 #[.val (.ref r0), .val (.int (12 : Int32)), .val (.int (2 : Int32)), .val (.ref b203), .val (.int (1 : Int32))] [])) _
      refine XS.iinc X218.here hx rfl (hb hby d2_91) rfl (l' := #[.val (.ref r0), .val (.int (12 : Int32)), .val (.int (2 : Int32)), .val (.ref b203), .val (.int (2 : Int32))]) rfl ?_
      show Steps p.tables e below (T218.setTop (mkF m 94 #[.val (.ref r0), .val (.int (12 : Int32)), .val (.int (2 : Int32)), .val (.ref b203), .val (.int (2 : Int32))] [])) _
      refine XS.aloadN X218.here hx rfl (hb hby d2_94) rfl rfl ?_
      show Steps p.tables e below (T218.setTop (mkF m 95 #[.val (.ref r0), .val (.int (12 : Int32)), .val (.int (2 : Int32)), .val (.ref b203), .val (.int (2 : Int32))] [(.ref b203)])) _
      exact retOut X218 hx Bd.returns rfl (Or.inr (Or.inr (Or.inr (Or.inr ⟨rfl, rfl, rfl⟩)))) (hb hby d2_95) hr
    · show Q2 Z r0 (12 : Int32) f h0 n0 _ T218.heap _
      rw [e218]
      exact ⟨b203, (2 : Int32), (fun i => if i = ((1 : Int32)).toNatClampNeg then (f ((3 : Int32)).toNatClampNeg) else (fun i => if i = ((0 : Int32)).toNatClampNeg then (f ((2 : Int32)).toNatClampNeg) else (fun _ => (0 : Int64)) i) i), rfl, N218, z206, K220, V218, rfl⟩
  · obtain ⟨T221, h221, k221, X221, e221, E221, A221, st221⟩ := newP X0 hx hZ (hw _ (List.mem_of_getElem? (i := 0) rfl)) e0 (g := (mkF m 23 #[.val (.ref r0), .val (.int (13 : Int32)), .val (.int (3 : Int32)), .unset, .unset] [(.int (3 : Int32))])) rfl (hb hby d2_23) rfl (by decide) (cap := 3) (by decide) (by decide) (by decide) (by decide)
    obtain ⟨b221, gb221⟩ : ∃ z, z = h0.size := ⟨_, rfl⟩
    rw [← gb221] at A221 st221
    have ne222 : r0 ≠ b221 := Nat.ne_of_lt (Nat.lt_of_lt_of_le hp0.lt (Nat.le_of_eq gb221.symm))
    have g223 : n0 ≤ b221 := Nat.le_trans Z0 (Nat.le_of_eq gb221.symm)
    have z224 : h0.size ≤ b221 := Nat.le_trans (Keep.refl h0 []).1 (Nat.le_of_eq gb221.symm)
    have Z225 : n0 ≤ h221.size := Nat.le_trans Z0 E221.1
    have K226 : Keep h0 h221 [] := (Keep.refl h0 []).ext E221
    have V221 : AL Z h221 b221 (3 : Int32) (fun _ => (0 : Int64)) := AL.new A221 (by decide)
    have V227 : AL Z h221 r0 (4 : Int32) f := (hp0.ext E221)
    obtain ⟨cl228, Ar228, S228, M228, I228⟩ := id V227
    have hin228 : ¬ ((0 : Int32) < 0 ∨ cl228.slots.size ≤ ((0 : Int32)).toNatClampNeg) := inb_of S228 ⟨by decide, by decide⟩
    have hat228 : cl228.slots[((0 : Int32)).toNatClampNeg]? = some (.long (f ((0 : Int32)).toNatClampNeg)) := I228 _ (Nat.lt_of_not_le fun y => hin228 (Or.inr y))
    obtain ⟨cl229, Ar229, S229, M229, I229⟩ := id V221
    have hin229 : ¬ ((0 : Int32) < 0 ∨ cl229.slots.size ≤ ((0 : Int32)).toNatClampNeg) := inb_of S229 ⟨by decide, by decide⟩
    obtain ⟨T230, h230, X230, e230, W230, st230⟩ := stJ X221 hx hZ e221 Ar229 (j := (0 : Int32)) hin229 (g := (mkF m 41 #[.val (.ref r0), .val (.int (13 : Int32)), .val (.int (3 : Int32)), .val (.ref b221), .val (.int (0 : Int32))] [(.long (f ((0 : Int32)).toNatClampNeg)), (.int (0 : Int32)), (.ref b221)])) rfl rfl (hb hby d2_41)
    have V230 : AL Z h230 b221 (3 : Int32) (fun i => if i = ((0 : Int32)).toNatClampNeg then (f ((0 : Int32)).toNatClampNeg) else (fun _ => (0 : Int64)) i) := AL.set V221 W230
    have Z231 : n0 ≤ h230.size := Nat.le_trans Z225 (Keep.of_wr W230).1
    have K232 : Keep h0 h230 [] := K226.wr W230 (Or.inr z224)
    have N230 := Fr.snoc X230 N0 g223
    have V233 : AL Z h230 r0 (4 : Int32) f := (V227.other W230 ne222)
    obtain ⟨cl234, Ar234, S234, M234, I234⟩ := id V233
    have hin234 : ¬ ((2 : Int32) < 0 ∨ cl234.slots.size ≤ ((2 : Int32)).toNatClampNeg) := inb_of S234 ⟨by decide, by decide⟩
    have hat234 : cl234.slots[((2 : Int32)).toNatClampNeg]? = some (.long (f ((2 : Int32)).toNatClampNeg)) := I234 _ (Nat.lt_of_not_le fun y => hin234 (Or.inr y))
    obtain ⟨cl235, Ar235, S235, M235, I235⟩ := id V230
    have hin235 : ¬ ((1 : Int32) < 0 ∨ cl235.slots.size ≤ ((1 : Int32)).toNatClampNeg) := inb_of S235 ⟨by decide, by decide⟩
    obtain ⟨T236, h236, X236, e236, W236, st236⟩ := stJ X230 hx hZ e230 Ar235 (j := (1 : Int32)) hin235 (g := (mkF m 73 #[.val (.ref r0), .val (.int (13 : Int32)), .val (.int (3 : Int32)), .val (.ref b221), .val (.int (1 : Int32))] [(.long (f ((2 : Int32)).toNatClampNeg)), (.int (1 : Int32)), (.ref b221)])) rfl rfl (hb hby d2_73)
    have V236 : AL Z h236 b221 (3 : Int32) (fun i => if i = ((1 : Int32)).toNatClampNeg then (f ((2 : Int32)).toNatClampNeg) else (fun i => if i = ((0 : Int32)).toNatClampNeg then (f ((0 : Int32)).toNatClampNeg) else (fun _ => (0 : Int64)) i) i) := AL.set V230 W236
    have Z237 : n0 ≤ h236.size := Nat.le_trans Z231 (Keep.of_wr W236).1
    have K238 : Keep h0 h236 [] := K232.wr W236 (Or.inr z224)
    have N236 := Fr.snoc X236 N230 g223
    have V239 : AL Z h236 r0 (4 : Int32) f := (V233.other W236 ne222)
    obtain ⟨cl240, Ar240, S240, M240, I240⟩ := id V239
    have hin240 : ¬ ((3 : Int32) < 0 ∨ cl240.slots.size ≤ ((3 : Int32)).toNatClampNeg) := inb_of S240 ⟨by decide, by decide⟩
    have hat240 : cl240.slots[((3 : Int32)).toNatClampNeg]? = some (.long (f ((3 : Int32)).toNatClampNeg)) := I240 _ (Nat.lt_of_not_le fun y => hin240 (Or.inr y))
    obtain ⟨cl241, Ar241, S241, M241, I241⟩ := id V236
    have hin241 : ¬ ((2 : Int32) < 0 ∨ cl241.slots.size ≤ ((2 : Int32)).toNatClampNeg) := inb_of S241 ⟨by decide, by decide⟩
    obtain ⟨T242, h242, X242, e242, W242, st242⟩ := stJ X236 hx hZ e236 Ar241 (j := (2 : Int32)) hin241 (g := (mkF m 90 #[.val (.ref r0), .val (.int (13 : Int32)), .val (.int (3 : Int32)), .val (.ref b221), .val (.int (2 : Int32))] [(.long (f ((3 : Int32)).toNatClampNeg)), (.int (2 : Int32)), (.ref b221)])) rfl rfl (hb hby d2_90)
    have V242 : AL Z h242 b221 (3 : Int32) (fun i => if i = ((2 : Int32)).toNatClampNeg then (f ((3 : Int32)).toNatClampNeg) else (fun i => if i = ((1 : Int32)).toNatClampNeg then (f ((2 : Int32)).toNatClampNeg) else (fun i => if i = ((0 : Int32)).toNatClampNeg then (f ((0 : Int32)).toNatClampNeg) else (fun _ => (0 : Int64)) i) i) i) := AL.set V236 W242
    have Z243 : n0 ≤ h242.size := Nat.le_trans Z237 (Keep.of_wr W242).1
    have K244 : Keep h0 h242 [] := K238.wr W242 (Or.inr z224)
    have N242 := Fr.snoc X242 N236 g223
    obtain ⟨fs, hr, hrun, hended, hW, hsame⟩ := X242.leave (v := some (.ref b221)) (fun h => by rw [Bd.returns] at h; cases h)
    refine ⟨_, _, pre0 _ ?_, hrun, hended, _, _, rfl, ?_, ⟨_, rfl⟩, hW, hsame.mono (by decide) (by decide)⟩
    · refine XS.iloadN X0.here hx rfl (hb hby d2_0) rfl ?_
      show Steps p.tables e below (s₁.setTop (mkF m 1 #[.val (.ref r0), .val (.int (13 : Int32)), .unset, .unset, .unset] [(.int (13 : Int32))])) _
      refine XS.iconst X0.here hx rfl (hb hby d2_1) ?_
      show Steps p.tables e below (s₁.setTop (mkF m 2 #[.val (.ref r0), .val (.int (13 : Int32)), .unset, .unset, .unset] [(.int (1 : Int32)), (.int (13 : Int32))])) _
      refine XS.iand X0.here hx rfl (hb hby d2_2) rfl ?_
      show Steps p.tables e below (s₁.setTop (mkF m 3 #[.val (.ref r0), .val (.int (13 : Int32)), .unset, .unset, .unset] [(.int (1 : Int32))])) _
      refine XS.iloadN X0.here hx rfl (hb hby d2_3) rfl ?_
      show Steps p.tables e below (s₁.setTop (mkF m 4 #[.val (.ref r0), .val (.int (13 : Int32)), .unset, .unset, .unset] [(.int (13 : Int32)), (.int (1 : Int32))])) _
      refine XS.iconst X0.here hx rfl (hb hby d2_4) ?_
      show Steps p.tables e below (s₁.setTop (mkF m 5 #[.val (.ref r0), .val (.int (13 : Int32)), .unset, .unset, .unset] [(.int (1 : Int32)), (.int (13 : Int32)), (.int (1 : Int32))])) _
      refine XS.ishr X0.here hx rfl (hb hby d2_5) rfl ?_
      show Steps p.tables e below (s₁.setTop (mkF m 6 #[.val (.ref r0), .val (.int (13 : Int32)), .unset, .unset, .unset] [(.int (6 : Int32)), (.int (1 : Int32))])) _
      refine XS.iconst X0.here hx rfl (hb hby d2_6) ?_
      show Steps p.tables e below (s₁.setTop (mkF m 7 #[.val (.ref r0), .val (.int (13 : Int32)), .unset, .unset, .unset] [(.int (1 : Int32)), (.int (6 : Int32)), (.int (1 : Int32))])) _
      refine XS.iand X0.here hx rfl (hb hby d2_7) rfl ?_
      show Steps p.tables e below (s₁.setTop (mkF m 8 #[.val (.ref r0), .val (.int (13 : Int32)), .unset, .unset, .unset] [(.int (0 : Int32)), (.int (1 : Int32))])) _
      refine XS.iadd X0.here hx rfl (hb hby d2_8) rfl ?_
      show Steps p.tables e below (s₁.setTop (mkF m 9 #[.val (.ref r0), .val (.int (13 : Int32)), .unset, .unset, .unset] [(.int (1 : Int32))])) _
      refine XS.iloadN X0.here hx rfl (hb hby d2_9) rfl ?_
      show Steps p.tables e below (s₁.setTop (mkF m 10 #[.val (.ref r0), .val (.int (13 : Int32)), .unset, .unset, .unset] [(.int (13 : Int32)), (.int (1 : Int32))])) _
      refine XS.iconst X0.here hx rfl (hb hby d2_10) ?_
      show Steps p.tables e below (s₁.setTop (mkF m 11 #[.val (.ref r0), .val (.int (13 : Int32)), .unset, .unset, .unset] [(.int (2 : Int32)), (.int (13 : Int32)), (.int (1 : Int32))])) _
      refine XS.ishr X0.here hx rfl (hb hby d2_11) rfl ?_
      show Steps p.tables e below (s₁.setTop (mkF m 12 #[.val (.ref r0), .val (.int (13 : Int32)), .unset, .unset, .unset] [(.int (3 : Int32)), (.int (1 : Int32))])) _
      refine XS.iconst X0.here hx rfl (hb hby d2_12) ?_
      show Steps p.tables e below (s₁.setTop (mkF m 13 #[.val (.ref r0), .val (.int (13 : Int32)), .unset, .unset, .unset] [(.int (1 : Int32)), (.int (3 : Int32)), (.int (1 : Int32))])) _
      refine XS.iand X0.here hx rfl (hb hby d2_13) rfl ?_
      show Steps p.tables e below (s₁.setTop (mkF m 14 #[.val (.ref r0), .val (.int (13 : Int32)), .unset, .unset, .unset] [(.int (1 : Int32)), (.int (1 : Int32))])) _
      refine XS.iadd X0.here hx rfl (hb hby d2_14) rfl ?_
      show Steps p.tables e below (s₁.setTop (mkF m 15 #[.val (.ref r0), .val (.int (13 : Int32)), .unset, .unset, .unset] [(.int (2 : Int32))])) _
      refine XS.iloadN X0.here hx rfl (hb hby d2_15) rfl ?_
      show Steps p.tables e below (s₁.setTop (mkF m 16 #[.val (.ref r0), .val (.int (13 : Int32)), .unset, .unset, .unset] [(.int (13 : Int32)), (.int (2 : Int32))])) _
      refine XS.iconst X0.here hx rfl (hb hby d2_16) ?_
      show Steps p.tables e below (s₁.setTop (mkF m 17 #[.val (.ref r0), .val (.int (13 : Int32)), .unset, .unset, .unset] [(.int (3 : Int32)), (.int (13 : Int32)), (.int (2 : Int32))])) _
      refine XS.ishr X0.here hx rfl (hb hby d2_17) rfl ?_
      show Steps p.tables e below (s₁.setTop (mkF m 18 #[.val (.ref r0), .val (.int (13 : Int32)), .unset, .unset, .unset] [(.int (1 : Int32)), (.int (2 : Int32))])) _
      refine XS.iconst X0.here hx rfl (hb hby d2_18) ?_
      show Steps p.tables e below (s₁.setTop (mkF m 19 #[.val (.ref r0), .val (.int (13 : Int32)), .unset, .unset, .unset] [(.int (1 : Int32)), (.int (1 : Int32)), (.int (2 : Int32))])) _
      refine XS.iand X0.here hx rfl (hb hby d2_19) rfl ?_
      show Steps p.tables e below (s₁.setTop (mkF m 20 #[.val (.ref r0), .val (.int (13 : Int32)), .unset, .unset, .unset] [(.int (1 : Int32)), (.int (2 : Int32))])) _
      refine XS.iadd X0.here hx rfl (hb hby d2_20) rfl ?_
      show Steps p.tables e below (s₁.setTop (mkF m 21 #[.val (.ref r0), .val (.int (13 : Int32)), .unset, .unset, .unset] [(.int (3 : Int32))])) _
      refine XS.istoreN X0.here hx rfl (hb hby d2_21) rfl (l' := #[.val (.ref r0), .val (.int (13 : Int32)), .val (.int (3 : Int32)), .unset, .unset]) rfl ?_
      show Steps p.tables e below (s₁.setTop (mkF m 22 #[.val (.ref r0), .val (.int (13 : Int32)), .val (.int (3 : Int32)), .unset, .unset] [])) _
      refine XS.iloadN X0.here hx rfl (hb hby d2_22) rfl ?_
      show Steps p.tables e below (s₁.setTop (mkF m 23 #[.val (.ref r0), .val (.int (13 : Int32)), .val (.int (3 : Int32)), .unset, .unset] [(.int (3 : Int32))])) _
      refine st221 _ ?_
      show Steps p.tables e below (T221.setTop (mkF m 25 #[.val (.ref r0), .val (.int (13 : Int32)), .val (.int (3 : Int32)), .unset, .unset] [(.ref b221)])) _
      refine XS.astoreN X221.here hx rfl (hb hby d2_25) rfl rfl (l' := #[.val (.ref r0), .val (.int (13 : Int32)), .val (.int (3 : Int32)), .val (.ref b221), .unset]) rfl ?_
      show Steps p.tables e below (T221.setTop (mkF m 26 #[.val (.ref r0), .val (.int (13 : Int32)), .val (.int (3 : Int32)), .val (.ref b221), .unset] [])) _
      refine XS.iconst X221.here hx rfl (hb hby d2_26) ?_
      show Steps p.tables e below (T221.setTop (mkF m 27 #[.val (.ref r0), .val (.int (13 : Int32)), .val (.int (3 : Int32)), .val (.ref b221), .unset] [(.int (0 : Int32))])) _
      refine XS.istore X221.here hx rfl (hb hby d2_27) rfl (l' := #[.val (.ref r0), .val (.int (13 : Int32)), .val (.int (3 : Int32)), .val (.ref b221), .val (.int (0 : Int32))]) rfl ?_
      show Steps p.tables e below (T221.setTop (mkF m 29 #[.val (.ref r0), .val (.int (13 : Int32)), .val (.int (3 : Int32)), .val (.ref b221), .val (.int (0 : Int32))] [])) _
      refine XS.iloadN X221.here hx rfl (hb hby d2_29) rfl ?_
      show Steps p.tables e below (T221.setTop (mkF m 30 #[.val (.ref r0), .val (.int (13 : Int32)), .val (.int (3 : Int32)), .val (.ref b221), .val (.int (0 : Int32))] [(.int (13 : Int32))])) _
      refine XS.iconst X221.here hx rfl (hb hby d2_30) ?_
      show Steps p.tables e below (T221.setTop (mkF m 31 #[.val (.ref r0), .val (.int (13 : Int32)), .val (.int (3 : Int32)), .val (.ref b221), .val (.int (0 : Int32))] [(.int (1 : Int32)), (.int (13 : Int32))])) _
      refine XS.iand X221.here hx rfl (hb hby d2_31) rfl ?_
      show Steps p.tables e below (T221.setTop (mkF m 32 #[.val (.ref r0), .val (.int (13 : Int32)), .val (.int (3 : Int32)), .val (.ref b221), .val (.int (0 : Int32))] [(.int (1 : Int32))])) _
      refine XS.ifNo X221.here hx rfl (hb hby d2_32) rfl ((if0 _ _).trans (feq (by decide : ¬ ((1 : Int32) = (0 : Int32)))).1) ?_
      show Steps p.tables e below (T221.setTop (mkF m 35 #[.val (.ref r0), .val (.int (13 : Int32)), .val (.int (3 : Int32)), .val (.ref b221), .val (.int (0 : Int32))] [])) _
      refine XS.aloadN X221.here hx rfl (hb hby d2_35) rfl rfl ?_
      show Steps p.tables e below (T221.setTop (mkF m 36 #[.val (.ref r0), .val (.int (13 : Int32)), .val (.int (3 : Int32)), .val (.ref b221), .val (.int (0 : Int32))] [(.ref b221)])) _
      refine XS.iload X221.here hx rfl (hb hby d2_36) rfl ?_
      show Steps p.tables e below (T221.setTop (mkF m 38 #[.val (.ref r0), .val (.int (13 : Int32)), .val (.int (3 : Int32)), .val (.ref b221), .val (.int (0 : Int32))] [(.int (0 : Int32)), (.ref b221)])) _
      refine XS.aloadN X221.here hx rfl (hb hby d2_38) rfl rfl ?_
      show Steps p.tables e below (T221.setTop (mkF m 39 #[.val (.ref r0), .val (.int (13 : Int32)), .val (.int (3 : Int32)), .val (.ref b221), .val (.int (0 : Int32))] [(.ref r0), (.int (0 : Int32)), (.ref b221)])) _
      refine XS.iconst X221.here hx rfl (hb hby d2_39) ?_
      show Steps p.tables e below (T221.setTop (mkF m 40 #[.val (.ref r0), .val (.int (13 : Int32)), .val (.int (3 : Int32)), .val (.ref b221), .val (.int (0 : Int32))] [(.int (0 : Int32)), (.ref r0), (.int (0 : Int32)), (.ref b221)])) _
      refine X221.laload hx (j := (0 : Int32)) (v := (.long (f ((0 : Int32)).toNatClampNeg))) (by rw [e221]; exact Ar228.1) (State.isArrayOf_alike hZ.alike Ar228.2.1) Ar228.2.2 hin228 hat228 (g := (mkF m 40 #[.val (.ref r0), .val (.int (13 : Int32)), .val (.int (3 : Int32)), .val (.ref b221), .val (.int (0 : Int32))] [(.int (0 : Int32)), (.ref r0), (.int (0 : Int32)), (.ref b221)])) rfl rfl (hb hby d2_40) _ ?_
      show Steps p.tables e below (T221.setTop (mkF m 41 #[.val (.ref r0), .val (.int (13 : Int32)), .val (.int (3 : Int32)), .val (.ref b221), .val (.int (0 : Int32))] [(.long (f ((0 : Int32)).toNatClampNeg)), (.int (0 : Int32)), (.ref b221)])) _
      refine st230 _ ?_
      show Steps p.tables e below (T230.setTop (mkF m 42 #[.val (.ref r0), .val (.int (13 : Int32)), .val (.int (3 : Int32)), .val (.ref b221), .val (.int (0 : Int32))] [])) _
      refine XS.iinc X230.here hx rfl (hb hby d2_42) rfl (l' := #[.val (.ref r0), .val (.int (13 : Int32)), .val (.int (3 : Int32)), .val (.ref b221), .val (.int (1 : Int32))]) rfl ?_
      show Steps p.tables e below (T230.setTop (mkF m 45 #[.val (.ref r0), .val (.int (13 : Int32)), .val (.int (3 : Int32)), .val (.ref b221), .val (.int (1 : Int32))] [])) _
      refine XS.iloadN X230.here hx rfl (hb hby d2_45) rfl ?_
      show Steps p.tables e below (T230.setTop (mkF m 46 #[.val (.ref r0), .val (.int (13 : Int32)), .val (.int (3 : Int32)), .val (.ref b221), .val (.int (1 : Int32))] [(.int (13 : Int32))])) _
      refine XS.iconst X230.here hx rfl (hb hby d2_46) ?_
      show Steps p.tables e below (T230.setTop (mkF m 47 #[.val (.ref r0), .val (.int (13 : Int32)), .val (.int (3 : Int32)), .val (.ref b221), .val (.int (1 : Int32))] [(.int (2 : Int32)), (.int (13 : Int32))])) _
      refine XS.iand X230.here hx rfl (hb hby d2_47) rfl ?_
      show Steps p.tables e below (T230.setTop (mkF m 48 #[.val (.ref r0), .val (.int (13 : Int32)), .val (.int (3 : Int32)), .val (.ref b221), .val (.int (1 : Int32))] [(.int (0 : Int32))])) _
      refine XS.ifYes X230.here hx rfl (pc0 := 48) (pc' := 61) rfl (hb hby d2_48) rfl ((if0 _ _).trans (teq (by decide : (0 : Int32) = (0 : Int32))).1) (by decide) (by decide) ?_
      show Steps p.tables e below (T230.setTop (mkF m 61 #[.val (.ref r0), .val (.int (13 : Int32)), .val (.int (3 : Int32)), .val (.ref b221), .val (.int (1 : Int32))] [])) _
      refine XS.iloadN X230.here hx rfl (hb hby d2_61) rfl ?_
      show Steps p.tables e below (T230.setTop (mkF m 62 #[.val (.ref r0), .val (.int (13 : Int32)), .val (.int (3 : Int32)), .val (.ref b221), .val (.int (1 : Int32))] [(.int (13 : Int32))])) _
      refine XS.iconst X230.here hx rfl (hb hby d2_62) ?_
      show Steps p.tables e below (T230.setTop (mkF m 63 #[.val (.ref r0), .val (.int (13 : Int32)), .val (.int (3 : Int32)), .val (.ref b221), .val (.int (1 : Int32))] [(.int (4 : Int32)), (.int (13 : Int32))])) _
      refine XS.iand X230.here hx rfl (hb hby d2_63) rfl ?_
      show Steps p.tables e below (T230.setTop (mkF m 64 #[.val (.ref r0), .val (.int (13 : Int32)), .val (.int (3 : Int32)), .val (.ref b221), .val (.int (1 : Int32))] [(.int (4 : Int32))])) _
      refine XS.ifNo X230.here hx rfl (hb hby d2_64) rfl ((if0 _ _).trans (feq (by decide : ¬ ((4 : Int32) = (0 : Int32)))).1) ?_
      show Steps p.tables e below (T230.setTop (mkF m 67 #[.val (.ref r0), .val (.int (13 : Int32)), .val (.int (3 : Int32)), .val (.ref b221), .val (.int (1 : Int32))] [])) _
      refine XS.aloadN X230.here hx rfl (hb hby d2_67) rfl rfl ?_
      show Steps p.tables e below (T230.setTop (mkF m 68 #[.val (.ref r0), .val (.int (13 : Int32)), .val (.int (3 : Int32)), .val (.ref b221), .val (.int (1 : Int32))] [(.ref b221)])) _
      refine XS.iload X230.here hx rfl (hb hby d2_68) rfl ?_
      show Steps p.tables e below (T230.setTop (mkF m 70 #[.val (.ref r0), .val (.int (13 : Int32)), .val (.int (3 : Int32)), .val (.ref b221), .val (.int (1 : Int32))] [(.int (1 : Int32)), (.ref b221)])) _
      refine XS.aloadN X230.here hx rfl (hb hby d2_70) rfl rfl ?_
      show Steps p.tables e below (T230.setTop (mkF m 71 #[.val (.ref r0), .val (.int (13 : Int32)), .val (.int (3 : Int32)), .val (.ref b221), .val (.int (1 : Int32))] [(.ref r0), (.int (1 : Int32)), (.ref b221)])) _
      refine XS.iconst X230.here hx rfl (hb hby d2_71) ?_
      show Steps p.tables e below (T230.setTop (mkF m 72 #[.val (.ref r0), .val (.int (13 : Int32)), .val (.int (3 : Int32)), .val (.ref b221), .val (.int (1 : Int32))] [(.int (2 : Int32)), (.ref r0), (.int (1 : Int32)), (.ref b221)])) _
      refine X230.laload hx (j := (2 : Int32)) (v := (.long (f ((2 : Int32)).toNatClampNeg))) (by rw [e230]; exact Ar234.1) (State.isArrayOf_alike hZ.alike Ar234.2.1) Ar234.2.2 hin234 hat234 (g := (mkF m 72 #[.val (.ref r0), .val (.int (13 : Int32)), .val (.int (3 : Int32)), .val (.ref b221), .val (.int (1 : Int32))] [(.int (2 : Int32)), (.ref r0), (.int (1 : Int32)), (.ref b221)])) rfl rfl (hb hby d2_72) _ ?_
      show Steps p.tables e below (T230.setTop (mkF m 73 #[.val (.ref r0), .val (.int (13 : Int32)), .val (.int (3 : Int32)), .val (.ref b221), .val (.int (1 : Int32))] [(.long (f ((2 : Int32)).toNatClampNeg)), (.int (1 : Int32)), (.ref b221)])) _
      refine st236 _ ?_
      show Steps p.tables e below (T236.setTop (mkF m 74 #[.val (.ref r0), .val (.int (13 : Int32)), .val (.int (3 : Int32)), .val (.ref b221), .val (.int (1 : Int32))] [])) _
      refine XS.iinc X236.here hx rfl (hb hby d2_74) rfl (l' := #[.val (.ref r0), .val (.int (13 : Int32)), .val (.int (3 : Int32)), .val (.ref b221), .val (.int (2 : Int32))]) rfl ?_
      show Steps p.tables e below (T236.setTop (mkF m 77 #[.val (.ref r0), .val (.int (13 : Int32)), .val (.int (3 : Int32)), .val (.ref b221), .val (.int (2 : Int32))] [])) _
      refine XS.iloadN X236.here hx rfl (hb hby d2_77) rfl ?_
      show Steps p.tables e below (T236.setTop (mkF m 78 #[.val (.ref r0), .val (.int (13 : Int32)), .val (.int (3 : Int32)), .val (.ref b221), .val (.int (2 : Int32))] [(.int (13 : Int32))])) _
      refine XS.bipush X236.here hx rfl (hb hby d2_78) ?_
      show Steps p.tables e below (T236.setTop (mkF m 80 #[.val (.ref r0), .val (.int (13 : Int32)), .val (.int (3 : Int32)), .val (.ref b221), .val (.int (2 : Int32))] [(.int (8 : Int32)), (.int (13 : Int32))])) _
      refine XS.iand X236.here hx rfl (hb hby d2_80) rfl ?_
      show Steps p.tables e below (T236.setTop (mkF m 81 #[.val (.ref r0), .val (.int (13 : Int32)), .val (.int (3 : Int32)), .val (.ref b221), .val (.int (2 : Int32))] [(.int (8 : Int32))])) _
      refine XS.ifNo X236.here hx rfl (hb hby d2_81) rfl ((if0 _ _).trans (feq (by decide : ¬ ((8 : Int32) = (0 : Int32)))).1) ?_
      show Steps p.tables e below (T236.setTop (mkF m 84 #[.val (.ref r0), .val (.int (13 : Int32)), .val (.int (3 : Int32)), .val (.ref b221), .val (.int (2 : Int32))] [])) _
      refine XS.aloadN X236.here hx rfl (hb hby d2_84) rfl rfl ?_
      show Steps p.tables e below (T236.setTop (mkF m 85 #[.val (.ref r0), .val (.int (13 : Int32)), .val (.int (3 : Int32)), .val (.ref b221), .val (.int (2 : Int32))] [(.ref b221)])) _
      refine XS.iload X236.here hx rfl (hb hby d2_85) rfl ?_
      show Steps p.tables e below (T236.setTop (mkF m 87 #[.val (.ref r0), .val (.int (13 : Int32)), .val (.int (3 : Int32)), .val (.ref b221), .val (.int (2 : Int32))] [(.int (2 : Int32)), (.ref b221)])) _
      refine XS.aloadN X236.here hx rfl (hb hby d2_87) rfl rfl ?_
      show Steps p.tables e below (T236.setTop (mkF m 88 #[.val (.ref r0), .val (.int (13 : Int32)), .val (.int (3 : Int32)), .val (.ref b221), .val (.int (2 : Int32))] [(.ref r0), (.int (2 : Int32)), (.ref b221)])) _
      refine XS.iconst X236.here hx rfl (hb hby d2_88) ?_
      show Steps p.tables e below (T236.setTop (mkF m 89 #[.val (.ref r0), .val (.int (13 : Int32)), .val (.int (3 : Int32)), .val (.ref b221), .val (.int (2 : Int32))] [(.int (3 : Int32)), (.ref r0), (.int (2 : Int32)), (.ref b221)])) _
      refine X236.laload hx (j := (3 : Int32)) (v := (.long (f ((3 : Int32)).toNatClampNeg))) (by rw [e236]; exact Ar240.1) (State.isArrayOf_alike hZ.alike Ar240.2.1) Ar240.2.2 hin240 hat240 (g := (mkF m 89 #[.val (.ref r0), .val (.int (13 : Int32)), .val (.int (3 : Int32)), .val (.ref b221), .val (.int (2 : Int32))] [(.int (3 : Int32)), (.ref r0), (.int (2 : Int32)), (.ref b221)])) rfl rfl (hb hby d2_89) _ ?_
      show Steps p.tables e below (T236.setTop (mkF m 90 #[.val (.ref r0), .val (.int (13 : Int32)), .val (.int (3 : Int32)), .val (.ref b221), .val (.int (2 : Int32))] [(.long (f ((3 : Int32)).toNatClampNeg)), (.int (2 : Int32)), (.ref b221)])) _
      refine st242 _ ?_
      show Steps p.tables e below (T242.setTop (mkF m 91 #[.val (.ref r0), .val (.int (13 : Int32)), .val (.int (3 : Int32)), .val (.ref b221), .val (.int (2 : Int32))] [])) _
      refine XS.iinc X242.here hx rfl (hb hby d2_91) rfl (l' := #[.val (.ref r0), .val (.int (13 : Int32)), .val (.int (3 : Int32)), .val (.ref b221), .val (.int (3 : Int32))]) rfl ?_
      show Steps p.tables e below (T242.setTop (mkF m 94 #[.val (.ref r0), .val (.int (13 : Int32)), .val (.int (3 : Int32)), .val (.ref b221), .val (.int (3 : Int32))] [])) _
      refine XS.aloadN X242.here hx rfl (hb hby d2_94) rfl rfl ?_
      show Steps p.tables e below (T242.setTop (mkF m 95 #[.val (.ref r0), .val (.int (13 : Int32)), .val (.int (3 : Int32)), .val (.ref b221), .val (.int (3 : Int32))] [(.ref b221)])) _
      exact retOut X242 hx Bd.returns rfl (Or.inr (Or.inr (Or.inr (Or.inr ⟨rfl, rfl, rfl⟩)))) (hb hby d2_95) hr
    · show Q2 Z r0 (13 : Int32) f h0 n0 _ T242.heap _
      rw [e242]
      exact ⟨b221, (3 : Int32), (fun i => if i = ((2 : Int32)).toNatClampNeg then (f ((3 : Int32)).toNatClampNeg) else (fun i => if i = ((1 : Int32)).toNatClampNeg then (f ((2 : Int32)).toNatClampNeg) else (fun i => if i = ((0 : Int32)).toNatClampNeg then (f ((0 : Int32)).toNatClampNeg) else (fun _ => (0 : Int64)) i) i) i), rfl, N242, z224, K244, V242, rfl⟩
  · obtain ⟨T245, h245, k245, X245, e245, E245, A245, st245⟩ := newP X0 hx hZ (hw _ (List.mem_of_getElem? (i := 0) rfl)) e0 (g := (mkF m 23 #[.val (.ref r0), .val (.int (14 : Int32)), .val (.int (3 : Int32)), .unset, .unset] [(.int (3 : Int32))])) rfl (hb hby d2_23) rfl (by decide) (cap := 3) (by decide) (by decide) (by decide) (by decide)
    obtain ⟨b245, gb245⟩ : ∃ z, z = h0.size := ⟨_, rfl⟩
    rw [← gb245] at A245 st245
    have ne246 : r0 ≠ b245 := Nat.ne_of_lt (Nat.lt_of_lt_of_le hp0.lt (Nat.le_of_eq gb245.symm))
    have g247 : n0 ≤ b245 := Nat.le_trans Z0 (Nat.le_of_eq gb245.symm)
    have z248 : h0.size ≤ b245 := Nat.le_trans (Keep.refl h0 []).1 (Nat.le_of_eq gb245.symm)
    have Z249 : n0 ≤ h245.size := Nat.le_trans Z0 E245.1
    have K250 : Keep h0 h245 [] := (Keep.refl h0 []).ext E245
    have V245 : AL Z h245 b245 (3 : Int32) (fun _ => (0 : Int64)) := AL.new A245 (by decide)
    have V251 : AL Z h245 r0 (4 : Int32) f := (hp0.ext E245)
    obtain ⟨cl252, Ar252, S252, M252, I252⟩ := id V251
    have hin252 : ¬ ((1 : Int32) < 0 ∨ cl252.slots.size ≤ ((1 : Int32)).toNatClampNeg) := inb_of S252 ⟨by decide, by decide⟩
    have hat252 : cl252.slots[((1 : Int32)).toNatClampNeg]? = some (.long (f ((1 : Int32)).toNatClampNeg)) := I252 _ (Nat.lt_of_not_le fun y => hin252 (Or.inr y))
    obtain ⟨cl253, Ar253, S253, M253, I253⟩ := id V245
    have hin253 : ¬ ((0 : Int32) < 0 ∨ cl253.slots.size ≤ ((0 : Int32)).toNatClampNeg) := inb_of S253 ⟨by decide, by decide⟩
    obtain ⟨T254, h254, X254, e254, W254, st254⟩ := stJ X245 hx hZ e245 Ar253 (j := (0 : Int32)) hin253 (g := (mkF m 57 #[.val (.ref r0), .val (.int (14 : Int32)), .val (.int (3 : Int32)), .val (.ref b245), .val (.int (0 : Int32))] [(.long (f ((1 : Int32)).toNatClampNeg)), (.int (0 : Int32)), (.ref b245)])) rfl rfl (hb hby d2_57)
    have V254 : AL Z h254 b245 (3 : Int32) (fun i => if i = ((0 : Int32)).toNatClampNeg then (f ((1 : Int32)).toNatClampNeg) else (fun _ => (0 : Int64)) i) := AL.set V245 W254
    have Z255 : n0 ≤ h254.size := Nat.le_trans Z249 (Keep.of_wr W254).1
    have K256 : Keep h0 h254 [] := K250.wr W254 (Or.inr z248)
    have N254 := Fr.snoc X254 N0 g247
    have V257 : AL Z h254 r0 (4 : Int32) f := (V251.other W254 ne246)
    obtain ⟨cl258, Ar258, S258, M258, I258⟩ := id V257
    have hin258 : ¬ ((2 : Int32) < 0 ∨ cl258.slots.size ≤ ((2 : Int32)).toNatClampNeg) := inb_of S258 ⟨by decide, by decide⟩
    have hat258 : cl258.slots[((2 : Int32)).toNatClampNeg]? = some (.long (f ((2 : Int32)).toNatClampNeg)) := I258 _ (Nat.lt_of_not_le fun y => hin258 (Or.inr y))
    obtain ⟨cl259, Ar259, S259, M259, I259⟩ := id V254
    have hin259 : ¬ ((1 : Int32) < 0 ∨ cl259.slots.size ≤ ((1 : Int32)).toNatClampNeg) := inb_of S259 ⟨by decide, by decide⟩
    obtain ⟨T260, h260, X260, e260, W260, st260⟩ := stJ X254 hx hZ e254 Ar259 (j := (1 : Int32)) hin259 (g := (mkF m 73 #[.val (.ref r0), .val (.int (14 : Int32)), .val (.int (3 : Int32)), .val (.ref b245), .val (.int (1 : Int32))] [(.long (f ((2 : Int32)).toNatClampNeg)), (.int (1 : Int32)), (.ref b245)])) rfl rfl (hb hby d2_73)
    have V260 : AL Z h260 b245 (3 : Int32) (fun i => if i = ((1 : Int32)).toNatClampNeg then (f ((2 : Int32)).toNatClampNeg) else (fun i => if i = ((0 : Int32)).toNatClampNeg then (f ((1 : Int32)).toNatClampNeg) else (fun _ => (0 : Int64)) i) i) := AL.set V254 W260
    have Z261 : n0 ≤ h260.size := Nat.le_trans Z255 (Keep.of_wr W260).1
    have K262 : Keep h0 h260 [] := K256.wr W260 (Or.inr z248)
    have N260 := Fr.snoc X260 N254 g247
    have V263 : AL Z h260 r0 (4 : Int32) f := (V257.other W260 ne246)
    obtain ⟨cl264, Ar264, S264, M264, I264⟩ := id V263
    have hin264 : ¬ ((3 : Int32) < 0 ∨ cl264.slots.size ≤ ((3 : Int32)).toNatClampNeg) := inb_of S264 ⟨by decide, by decide⟩
    have hat264 : cl264.slots[((3 : Int32)).toNatClampNeg]? = some (.long (f ((3 : Int32)).toNatClampNeg)) := I264 _ (Nat.lt_of_not_le fun y => hin264 (Or.inr y))
    obtain ⟨cl265, Ar265, S265, M265, I265⟩ := id V260
    have hin265 : ¬ ((2 : Int32) < 0 ∨ cl265.slots.size ≤ ((2 : Int32)).toNatClampNeg) := inb_of S265 ⟨by decide, by decide⟩
    obtain ⟨T266, h266, X266, e266, W266, st266⟩ := stJ X260 hx hZ e260 Ar265 (j := (2 : Int32)) hin265 (g := (mkF m 90 #[.val (.ref r0), .val (.int (14 : Int32)), .val (.int (3 : Int32)), .val (.ref b245), .val (.int (2 : Int32))] [(.long (f ((3 : Int32)).toNatClampNeg)), (.int (2 : Int32)), (.ref b245)])) rfl rfl (hb hby d2_90)
    have V266 : AL Z h266 b245 (3 : Int32) (fun i => if i = ((2 : Int32)).toNatClampNeg then (f ((3 : Int32)).toNatClampNeg) else (fun i => if i = ((1 : Int32)).toNatClampNeg then (f ((2 : Int32)).toNatClampNeg) else (fun i => if i = ((0 : Int32)).toNatClampNeg then (f ((1 : Int32)).toNatClampNeg) else (fun _ => (0 : Int64)) i) i) i) := AL.set V260 W266
    have Z267 : n0 ≤ h266.size := Nat.le_trans Z261 (Keep.of_wr W266).1
    have K268 : Keep h0 h266 [] := K262.wr W266 (Or.inr z248)
    have N266 := Fr.snoc X266 N260 g247
    obtain ⟨fs, hr, hrun, hended, hW, hsame⟩ := X266.leave (v := some (.ref b245)) (fun h => by rw [Bd.returns] at h; cases h)
    refine ⟨_, _, pre0 _ ?_, hrun, hended, _, _, rfl, ?_, ⟨_, rfl⟩, hW, hsame.mono (by decide) (by decide)⟩
    · refine XS.iloadN X0.here hx rfl (hb hby d2_0) rfl ?_
      show Steps p.tables e below (s₁.setTop (mkF m 1 #[.val (.ref r0), .val (.int (14 : Int32)), .unset, .unset, .unset] [(.int (14 : Int32))])) _
      refine XS.iconst X0.here hx rfl (hb hby d2_1) ?_
      show Steps p.tables e below (s₁.setTop (mkF m 2 #[.val (.ref r0), .val (.int (14 : Int32)), .unset, .unset, .unset] [(.int (1 : Int32)), (.int (14 : Int32))])) _
      refine XS.iand X0.here hx rfl (hb hby d2_2) rfl ?_
      show Steps p.tables e below (s₁.setTop (mkF m 3 #[.val (.ref r0), .val (.int (14 : Int32)), .unset, .unset, .unset] [(.int (0 : Int32))])) _
      refine XS.iloadN X0.here hx rfl (hb hby d2_3) rfl ?_
      show Steps p.tables e below (s₁.setTop (mkF m 4 #[.val (.ref r0), .val (.int (14 : Int32)), .unset, .unset, .unset] [(.int (14 : Int32)), (.int (0 : Int32))])) _
      refine XS.iconst X0.here hx rfl (hb hby d2_4) ?_
      show Steps p.tables e below (s₁.setTop (mkF m 5 #[.val (.ref r0), .val (.int (14 : Int32)), .unset, .unset, .unset] [(.int (1 : Int32)), (.int (14 : Int32)), (.int (0 : Int32))])) _
      refine XS.ishr X0.here hx rfl (hb hby d2_5) rfl ?_
      show Steps p.tables e below (s₁.setTop (mkF m 6 #[.val (.ref r0), .val (.int (14 : Int32)), .unset, .unset, .unset] [(.int (7 : Int32)), (.int (0 : Int32))])) _
      refine XS.iconst X0.here hx rfl (hb hby d2_6) ?_
      show Steps p.tables e below (s₁.setTop (mkF m 7 #[.val (.ref r0), .val (.int (14 : Int32)), .unset, .unset, .unset] [(.int (1 : Int32)), (.int (7 : Int32)), (.int (0 : Int32))])) _
      refine XS.iand X0.here hx rfl (hb hby d2_7) rfl ?_
      show Steps p.tables e below (s₁.setTop (mkF m 8 #[.val (.ref r0), .val (.int (14 : Int32)), .unset, .unset, .unset] [(.int (1 : Int32)), (.int (0 : Int32))])) _
      refine XS.iadd X0.here hx rfl (hb hby d2_8) rfl ?_
      show Steps p.tables e below (s₁.setTop (mkF m 9 #[.val (.ref r0), .val (.int (14 : Int32)), .unset, .unset, .unset] [(.int (1 : Int32))])) _
      refine XS.iloadN X0.here hx rfl (hb hby d2_9) rfl ?_
      show Steps p.tables e below (s₁.setTop (mkF m 10 #[.val (.ref r0), .val (.int (14 : Int32)), .unset, .unset, .unset] [(.int (14 : Int32)), (.int (1 : Int32))])) _
      refine XS.iconst X0.here hx rfl (hb hby d2_10) ?_
      show Steps p.tables e below (s₁.setTop (mkF m 11 #[.val (.ref r0), .val (.int (14 : Int32)), .unset, .unset, .unset] [(.int (2 : Int32)), (.int (14 : Int32)), (.int (1 : Int32))])) _
      refine XS.ishr X0.here hx rfl (hb hby d2_11) rfl ?_
      show Steps p.tables e below (s₁.setTop (mkF m 12 #[.val (.ref r0), .val (.int (14 : Int32)), .unset, .unset, .unset] [(.int (3 : Int32)), (.int (1 : Int32))])) _
      refine XS.iconst X0.here hx rfl (hb hby d2_12) ?_
      show Steps p.tables e below (s₁.setTop (mkF m 13 #[.val (.ref r0), .val (.int (14 : Int32)), .unset, .unset, .unset] [(.int (1 : Int32)), (.int (3 : Int32)), (.int (1 : Int32))])) _
      refine XS.iand X0.here hx rfl (hb hby d2_13) rfl ?_
      show Steps p.tables e below (s₁.setTop (mkF m 14 #[.val (.ref r0), .val (.int (14 : Int32)), .unset, .unset, .unset] [(.int (1 : Int32)), (.int (1 : Int32))])) _
      refine XS.iadd X0.here hx rfl (hb hby d2_14) rfl ?_
      show Steps p.tables e below (s₁.setTop (mkF m 15 #[.val (.ref r0), .val (.int (14 : Int32)), .unset, .unset, .unset] [(.int (2 : Int32))])) _
      refine XS.iloadN X0.here hx rfl (hb hby d2_15) rfl ?_
      show Steps p.tables e below (s₁.setTop (mkF m 16 #[.val (.ref r0), .val (.int (14 : Int32)), .unset, .unset, .unset] [(.int (14 : Int32)), (.int (2 : Int32))])) _
      refine XS.iconst X0.here hx rfl (hb hby d2_16) ?_
      show Steps p.tables e below (s₁.setTop (mkF m 17 #[.val (.ref r0), .val (.int (14 : Int32)), .unset, .unset, .unset] [(.int (3 : Int32)), (.int (14 : Int32)), (.int (2 : Int32))])) _
      refine XS.ishr X0.here hx rfl (hb hby d2_17) rfl ?_
      show Steps p.tables e below (s₁.setTop (mkF m 18 #[.val (.ref r0), .val (.int (14 : Int32)), .unset, .unset, .unset] [(.int (1 : Int32)), (.int (2 : Int32))])) _
      refine XS.iconst X0.here hx rfl (hb hby d2_18) ?_
      show Steps p.tables e below (s₁.setTop (mkF m 19 #[.val (.ref r0), .val (.int (14 : Int32)), .unset, .unset, .unset] [(.int (1 : Int32)), (.int (1 : Int32)), (.int (2 : Int32))])) _
      refine XS.iand X0.here hx rfl (hb hby d2_19) rfl ?_
      show Steps p.tables e below (s₁.setTop (mkF m 20 #[.val (.ref r0), .val (.int (14 : Int32)), .unset, .unset, .unset] [(.int (1 : Int32)), (.int (2 : Int32))])) _
      refine XS.iadd X0.here hx rfl (hb hby d2_20) rfl ?_
      show Steps p.tables e below (s₁.setTop (mkF m 21 #[.val (.ref r0), .val (.int (14 : Int32)), .unset, .unset, .unset] [(.int (3 : Int32))])) _
      refine XS.istoreN X0.here hx rfl (hb hby d2_21) rfl (l' := #[.val (.ref r0), .val (.int (14 : Int32)), .val (.int (3 : Int32)), .unset, .unset]) rfl ?_
      show Steps p.tables e below (s₁.setTop (mkF m 22 #[.val (.ref r0), .val (.int (14 : Int32)), .val (.int (3 : Int32)), .unset, .unset] [])) _
      refine XS.iloadN X0.here hx rfl (hb hby d2_22) rfl ?_
      show Steps p.tables e below (s₁.setTop (mkF m 23 #[.val (.ref r0), .val (.int (14 : Int32)), .val (.int (3 : Int32)), .unset, .unset] [(.int (3 : Int32))])) _
      refine st245 _ ?_
      show Steps p.tables e below (T245.setTop (mkF m 25 #[.val (.ref r0), .val (.int (14 : Int32)), .val (.int (3 : Int32)), .unset, .unset] [(.ref b245)])) _
      refine XS.astoreN X245.here hx rfl (hb hby d2_25) rfl rfl (l' := #[.val (.ref r0), .val (.int (14 : Int32)), .val (.int (3 : Int32)), .val (.ref b245), .unset]) rfl ?_
      show Steps p.tables e below (T245.setTop (mkF m 26 #[.val (.ref r0), .val (.int (14 : Int32)), .val (.int (3 : Int32)), .val (.ref b245), .unset] [])) _
      refine XS.iconst X245.here hx rfl (hb hby d2_26) ?_
      show Steps p.tables e below (T245.setTop (mkF m 27 #[.val (.ref r0), .val (.int (14 : Int32)), .val (.int (3 : Int32)), .val (.ref b245), .unset] [(.int (0 : Int32))])) _
      refine XS.istore X245.here hx rfl (hb hby d2_27) rfl (l' := #[.val (.ref r0), .val (.int (14 : Int32)), .val (.int (3 : Int32)), .val (.ref b245), .val (.int (0 : Int32))]) rfl ?_
      show Steps p.tables e below (T245.setTop (mkF m 29 #[.val (.ref r0), .val (.int (14 : Int32)), .val (.int (3 : Int32)), .val (.ref b245), .val (.int (0 : Int32))] [])) _
      refine XS.iloadN X245.here hx rfl (hb hby d2_29) rfl ?_
      show Steps p.tables e below (T245.setTop (mkF m 30 #[.val (.ref r0), .val (.int (14 : Int32)), .val (.int (3 : Int32)), .val (.ref b245), .val (.int (0 : Int32))] [(.int (14 : Int32))])) _
      refine XS.iconst X245.here hx rfl (hb hby d2_30) ?_
      show Steps p.tables e below (T245.setTop (mkF m 31 #[.val (.ref r0), .val (.int (14 : Int32)), .val (.int (3 : Int32)), .val (.ref b245), .val (.int (0 : Int32))] [(.int (1 : Int32)), (.int (14 : Int32))])) _
      refine XS.iand X245.here hx rfl (hb hby d2_31) rfl ?_
      show Steps p.tables e below (T245.setTop (mkF m 32 #[.val (.ref r0), .val (.int (14 : Int32)), .val (.int (3 : Int32)), .val (.ref b245), .val (.int (0 : Int32))] [(.int (0 : Int32))])) _
      refine XS.ifYes X245.here hx rfl (pc0 := 32) (pc' := 45) rfl (hb hby d2_32) rfl ((if0 _ _).trans (teq (by decide : (0 : Int32) = (0 : Int32))).1) (by decide) (by decide) ?_
      show Steps p.tables e below (T245.setTop (mkF m 45 #[.val (.ref r0), .val (.int (14 : Int32)), .val (.int (3 : Int32)), .val (.ref b245), .val (.int (0 : Int32))] [])) _
      refine XS.iloadN X245.here hx rfl (hb hby d2_45) rfl ?_
      show Steps p.tables e below (T245.setTop (mkF m 46 #[.val (.ref r0), .val (.int (14 : Int32)), .val (.int (3 : Int32)), .val (.ref b245), .val (.int (0 : Int32))] [(.int (14 : Int32))])) _
      refine XS.iconst X245.here hx rfl (hb hby d2_46) ?_
      show Steps p.tables e below (T245.setTop (mkF m 47 #[.val (.ref r0), .val (.int (14 : Int32)), .val (.int (3 : Int32)), .val (.ref b245), .val (.int (0 : Int32))] [(.int (2 : Int32)), (.int (14 : Int32))])) _
      refine XS.iand X245.here hx rfl (hb hby d2_47) rfl ?_
      show Steps p.tables e below (T245.setTop (mkF m 48 #[.val (.ref r0), .val (.int (14 : Int32)), .val (.int (3 : Int32)), .val (.ref b245), .val (.int (0 : Int32))] [(.int (2 : Int32))])) _
      refine XS.ifNo X245.here hx rfl (hb hby d2_48) rfl ((if0 _ _).trans (feq (by decide : ¬ ((2 : Int32) = (0 : Int32)))).1) ?_
      show Steps p.tables e below (T245.setTop (mkF m 51 #[.val (.ref r0), .val (.int (14 : Int32)), .val (.int (3 : Int32)), .val (.ref b245), .val (.int (0 : Int32))] [])) _
      refine XS.aloadN X245.here hx rfl (hb hby d2_51) rfl rfl ?_
      show Steps p.tables e below (T245.setTop (mkF m 52 #[.val (.ref r0), .val (.int (14 : Int32)), .val (.int (3 : Int32)), .val (.ref b245), .val (.int (0 : Int32))] [(.ref b245)])) _
      refine XS.iload X245.here hx rfl (hb hby d2_52) rfl ?_
      show Steps p.tables e below (T245.setTop (mkF m 54 #[.val (.ref r0), .val (.int (14 : Int32)), .val (.int (3 : Int32)), .val (.ref b245), .val (.int (0 : Int32))] [(.int (0 : Int32)), (.ref b245)])) _
      refine XS.aloadN X245.here hx rfl (hb hby d2_54) rfl rfl ?_
      show Steps p.tables e below (T245.setTop (mkF m 55 #[.val (.ref r0), .val (.int (14 : Int32)), .val (.int (3 : Int32)), .val (.ref b245), .val (.int (0 : Int32))] [(.ref r0), (.int (0 : Int32)), (.ref b245)])) _
      refine XS.iconst X245.here hx rfl (hb hby d2_55) ?_
      show Steps p.tables e below (T245.setTop (mkF m 56 #[.val (.ref r0), .val (.int (14 : Int32)), .val (.int (3 : Int32)), .val (.ref b245), .val (.int (0 : Int32))] [(.int (1 : Int32)), (.ref r0), (.int (0 : Int32)), (.ref b245)])) _
      refine X245.laload hx (j := (1 : Int32)) (v := (.long (f ((1 : Int32)).toNatClampNeg))) (by rw [e245]; exact Ar252.1) (State.isArrayOf_alike hZ.alike Ar252.2.1) Ar252.2.2 hin252 hat252 (g := (mkF m 56 #[.val (.ref r0), .val (.int (14 : Int32)), .val (.int (3 : Int32)), .val (.ref b245), .val (.int (0 : Int32))] [(.int (1 : Int32)), (.ref r0), (.int (0 : Int32)), (.ref b245)])) rfl rfl (hb hby d2_56) _ ?_
      show Steps p.tables e below (T245.setTop (mkF m 57 #[.val (.ref r0), .val (.int (14 : Int32)), .val (.int (3 : Int32)), .val (.ref b245), .val (.int (0 : Int32))] [(.long (f ((1 : Int32)).toNatClampNeg)), (.int (0 : Int32)), (.ref b245)])) _
      refine st254 _ ?_
      show Steps p.tables e below (T254.setTop (mkF m 58 #[.val (.ref r0), .val (.int (14 : Int32)), .val (.int (3 : Int32)), .val (.ref b245), .val (.int (0 : Int32))] [])) _
      refine XS.iinc X254.here hx rfl (hb hby d2_58) rfl (l' := #[.val (.ref r0), .val (.int (14 : Int32)), .val (.int (3 : Int32)), .val (.ref b245), .val (.int (1 : Int32))]) rfl ?_
      show Steps p.tables e below (T254.setTop (mkF m 61 #[.val (.ref r0), .val (.int (14 : Int32)), .val (.int (3 : Int32)), .val (.ref b245), .val (.int (1 : Int32))] [])) _
      refine XS.iloadN X254.here hx rfl (hb hby d2_61) rfl ?_
      show Steps p.tables e below (T254.setTop (mkF m 62 #[.val (.ref r0), .val (.int (14 : Int32)), .val (.int (3 : Int32)), .val (.ref b245), .val (.int (1 : Int32))] [(.int (14 : Int32))])) _
      refine XS.iconst X254.here hx rfl (hb hby d2_62) ?_
      show Steps p.tables e below (T254.setTop (mkF m 63 #[.val (.ref r0), .val (.int (14 : Int32)), .val (.int (3 : Int32)), .val (.ref b245), .val (.int (1 : Int32))] [(.int (4 : Int32)), (.int (14 : Int32))])) _
      refine XS.iand X254.here hx rfl (hb hby d2_63) rfl ?_
      show Steps p.tables e below (T254.setTop (mkF m 64 #[.val (.ref r0), .val (.int (14 : Int32)), .val (.int (3 : Int32)), .val (.ref b245), .val (.int (1 : Int32))] [(.int (4 : Int32))])) _
      refine XS.ifNo X254.here hx rfl (hb hby d2_64) rfl ((if0 _ _).trans (feq (by decide : ¬ ((4 : Int32) = (0 : Int32)))).1) ?_
      show Steps p.tables e below (T254.setTop (mkF m 67 #[.val (.ref r0), .val (.int (14 : Int32)), .val (.int (3 : Int32)), .val (.ref b245), .val (.int (1 : Int32))] [])) _
      refine XS.aloadN X254.here hx rfl (hb hby d2_67) rfl rfl ?_
      show Steps p.tables e below (T254.setTop (mkF m 68 #[.val (.ref r0), .val (.int (14 : Int32)), .val (.int (3 : Int32)), .val (.ref b245), .val (.int (1 : Int32))] [(.ref b245)])) _
      refine XS.iload X254.here hx rfl (hb hby d2_68) rfl ?_
      show Steps p.tables e below (T254.setTop (mkF m 70 #[.val (.ref r0), .val (.int (14 : Int32)), .val (.int (3 : Int32)), .val (.ref b245), .val (.int (1 : Int32))] [(.int (1 : Int32)), (.ref b245)])) _
      refine XS.aloadN X254.here hx rfl (hb hby d2_70) rfl rfl ?_
      show Steps p.tables e below (T254.setTop (mkF m 71 #[.val (.ref r0), .val (.int (14 : Int32)), .val (.int (3 : Int32)), .val (.ref b245), .val (.int (1 : Int32))] [(.ref r0), (.int (1 : Int32)), (.ref b245)])) _
      refine XS.iconst X254.here hx rfl (hb hby d2_71) ?_
      show Steps p.tables e below (T254.setTop (mkF m 72 #[.val (.ref r0), .val (.int (14 : Int32)), .val (.int (3 : Int32)), .val (.ref b245), .val (.int (1 : Int32))] [(.int (2 : Int32)), (.ref r0), (.int (1 : Int32)), (.ref b245)])) _
      refine X254.laload hx (j := (2 : Int32)) (v := (.long (f ((2 : Int32)).toNatClampNeg))) (by rw [e254]; exact Ar258.1) (State.isArrayOf_alike hZ.alike Ar258.2.1) Ar258.2.2 hin258 hat258 (g := (mkF m 72 #[.val (.ref r0), .val (.int (14 : Int32)), .val (.int (3 : Int32)), .val (.ref b245), .val (.int (1 : Int32))] [(.int (2 : Int32)), (.ref r0), (.int (1 : Int32)), (.ref b245)])) rfl rfl (hb hby d2_72) _ ?_
      show Steps p.tables e below (T254.setTop (mkF m 73 #[.val (.ref r0), .val (.int (14 : Int32)), .val (.int (3 : Int32)), .val (.ref b245), .val (.int (1 : Int32))] [(.long (f ((2 : Int32)).toNatClampNeg)), (.int (1 : Int32)), (.ref b245)])) _
      refine st260 _ ?_
      show Steps p.tables e below (T260.setTop (mkF m 74 #[.val (.ref r0), .val (.int (14 : Int32)), .val (.int (3 : Int32)), .val (.ref b245), .val (.int (1 : Int32))] [])) _
      refine XS.iinc X260.here hx rfl (hb hby d2_74) rfl (l' := #[.val (.ref r0), .val (.int (14 : Int32)), .val (.int (3 : Int32)), .val (.ref b245), .val (.int (2 : Int32))]) rfl ?_
      show Steps p.tables e below (T260.setTop (mkF m 77 #[.val (.ref r0), .val (.int (14 : Int32)), .val (.int (3 : Int32)), .val (.ref b245), .val (.int (2 : Int32))] [])) _
      refine XS.iloadN X260.here hx rfl (hb hby d2_77) rfl ?_
      show Steps p.tables e below (T260.setTop (mkF m 78 #[.val (.ref r0), .val (.int (14 : Int32)), .val (.int (3 : Int32)), .val (.ref b245), .val (.int (2 : Int32))] [(.int (14 : Int32))])) _
      refine XS.bipush X260.here hx rfl (hb hby d2_78) ?_
      show Steps p.tables e below (T260.setTop (mkF m 80 #[.val (.ref r0), .val (.int (14 : Int32)), .val (.int (3 : Int32)), .val (.ref b245), .val (.int (2 : Int32))] [(.int (8 : Int32)), (.int (14 : Int32))])) _
      refine XS.iand X260.here hx rfl (hb hby d2_80) rfl ?_
      show Steps p.tables e below (T260.setTop (mkF m 81 #[.val (.ref r0), .val (.int (14 : Int32)), .val (.int (3 : Int32)), .val (.ref b245), .val (.int (2 : Int32))] [(.int (8 : Int32))])) _
      refine XS.ifNo X260.here hx rfl (hb hby d2_81) rfl ((if0 _ _).trans (feq (by decide : ¬ ((8 : Int32) = (0 : Int32)))).1) ?_
      show Steps p.tables e below (T260.setTop (mkF m 84 #[.val (.ref r0), .val (.int (14 : Int32)), .val (.int (3 : Int32)), .val (.ref b245), .val (.int (2 : Int32))] [])) _
      refine XS.aloadN X260.here hx rfl (hb hby d2_84) rfl rfl ?_
      show Steps p.tables e below (T260.setTop (mkF m 85 #[.val (.ref r0), .val (.int (14 : Int32)), .val (.int (3 : Int32)), .val (.ref b245), .val (.int (2 : Int32))] [(.ref b245)])) _
      refine XS.iload X260.here hx rfl (hb hby d2_85) rfl ?_
      show Steps p.tables e below (T260.setTop (mkF m 87 #[.val (.ref r0), .val (.int (14 : Int32)), .val (.int (3 : Int32)), .val (.ref b245), .val (.int (2 : Int32))] [(.int (2 : Int32)), (.ref b245)])) _
      refine XS.aloadN X260.here hx rfl (hb hby d2_87) rfl rfl ?_
      show Steps p.tables e below (T260.setTop (mkF m 88 #[.val (.ref r0), .val (.int (14 : Int32)), .val (.int (3 : Int32)), .val (.ref b245), .val (.int (2 : Int32))] [(.ref r0), (.int (2 : Int32)), (.ref b245)])) _
      refine XS.iconst X260.here hx rfl (hb hby d2_88) ?_
      show Steps p.tables e below (T260.setTop (mkF m 89 #[.val (.ref r0), .val (.int (14 : Int32)), .val (.int (3 : Int32)), .val (.ref b245), .val (.int (2 : Int32))] [(.int (3 : Int32)), (.ref r0), (.int (2 : Int32)), (.ref b245)])) _
      refine X260.laload hx (j := (3 : Int32)) (v := (.long (f ((3 : Int32)).toNatClampNeg))) (by rw [e260]; exact Ar264.1) (State.isArrayOf_alike hZ.alike Ar264.2.1) Ar264.2.2 hin264 hat264 (g := (mkF m 89 #[.val (.ref r0), .val (.int (14 : Int32)), .val (.int (3 : Int32)), .val (.ref b245), .val (.int (2 : Int32))] [(.int (3 : Int32)), (.ref r0), (.int (2 : Int32)), (.ref b245)])) rfl rfl (hb hby d2_89) _ ?_
      show Steps p.tables e below (T260.setTop (mkF m 90 #[.val (.ref r0), .val (.int (14 : Int32)), .val (.int (3 : Int32)), .val (.ref b245), .val (.int (2 : Int32))] [(.long (f ((3 : Int32)).toNatClampNeg)), (.int (2 : Int32)), (.ref b245)])) _
      refine st266 _ ?_
      show Steps p.tables e below (T266.setTop (mkF m 91 #[.val (.ref r0), .val (.int (14 : Int32)), .val (.int (3 : Int32)), .val (.ref b245), .val (.int (2 : Int32))] [])) _
      refine XS.iinc X266.here hx rfl (hb hby d2_91) rfl (l' := #[.val (.ref r0), .val (.int (14 : Int32)), .val (.int (3 : Int32)), .val (.ref b245), .val (.int (3 : Int32))]) rfl ?_
      show Steps p.tables e below (T266.setTop (mkF m 94 #[.val (.ref r0), .val (.int (14 : Int32)), .val (.int (3 : Int32)), .val (.ref b245), .val (.int (3 : Int32))] [])) _
      refine XS.aloadN X266.here hx rfl (hb hby d2_94) rfl rfl ?_
      show Steps p.tables e below (T266.setTop (mkF m 95 #[.val (.ref r0), .val (.int (14 : Int32)), .val (.int (3 : Int32)), .val (.ref b245), .val (.int (3 : Int32))] [(.ref b245)])) _
      exact retOut X266 hx Bd.returns rfl (Or.inr (Or.inr (Or.inr (Or.inr ⟨rfl, rfl, rfl⟩)))) (hb hby d2_95) hr
    · show Q2 Z r0 (14 : Int32) f h0 n0 _ T266.heap _
      rw [e266]
      exact ⟨b245, (3 : Int32), (fun i => if i = ((2 : Int32)).toNatClampNeg then (f ((3 : Int32)).toNatClampNeg) else (fun i => if i = ((1 : Int32)).toNatClampNeg then (f ((2 : Int32)).toNatClampNeg) else (fun i => if i = ((0 : Int32)).toNatClampNeg then (f ((1 : Int32)).toNatClampNeg) else (fun _ => (0 : Int64)) i) i) i), rfl, N266, z248, K268, V266, rfl⟩
  · obtain ⟨T269, h269, k269, X269, e269, E269, A269, st269⟩ := newP X0 hx hZ (hw _ (List.mem_of_getElem? (i := 0) rfl)) e0 (g := (mkF m 23 #[.val (.ref r0), .val (.int (15 : Int32)), .val (.int (4 : Int32)), .unset, .unset] [(.int (4 : Int32))])) rfl (hb hby d2_23) rfl (by decide) (cap := 4) (by decide) (by decide) (by decide) (by decide)
    obtain ⟨b269, gb269⟩ : ∃ z, z = h0.size := ⟨_, rfl⟩
    rw [← gb269] at A269 st269
    have ne270 : r0 ≠ b269 := Nat.ne_of_lt (Nat.lt_of_lt_of_le hp0.lt (Nat.le_of_eq gb269.symm))
    have g271 : n0 ≤ b269 := Nat.le_trans Z0 (Nat.le_of_eq gb269.symm)
    have z272 : h0.size ≤ b269 := Nat.le_trans (Keep.refl h0 []).1 (Nat.le_of_eq gb269.symm)
    have Z273 : n0 ≤ h269.size := Nat.le_trans Z0 E269.1
    have K274 : Keep h0 h269 [] := (Keep.refl h0 []).ext E269
    have V269 : AL Z h269 b269 (4 : Int32) (fun _ => (0 : Int64)) := AL.new A269 (by decide)
    have V275 : AL Z h269 r0 (4 : Int32) f := (hp0.ext E269)
    obtain ⟨cl276, Ar276, S276, M276, I276⟩ := id V275
    have hin276 : ¬ ((0 : Int32) < 0 ∨ cl276.slots.size ≤ ((0 : Int32)).toNatClampNeg) := inb_of S276 ⟨by decide, by decide⟩
    have hat276 : cl276.slots[((0 : Int32)).toNatClampNeg]? = some (.long (f ((0 : Int32)).toNatClampNeg)) := I276 _ (Nat.lt_of_not_le fun y => hin276 (Or.inr y))
    obtain ⟨cl277, Ar277, S277, M277, I277⟩ := id V269
    have hin277 : ¬ ((0 : Int32) < 0 ∨ cl277.slots.size ≤ ((0 : Int32)).toNatClampNeg) := inb_of S277 ⟨by decide, by decide⟩
    obtain ⟨T278, h278, X278, e278, W278, st278⟩ := stJ X269 hx hZ e269 Ar277 (j := (0 : Int32)) hin277 (g := (mkF m 41 #[.val (.ref r0), .val (.int (15 : Int32)), .val (.int (4 : Int32)), .val (.ref b269), .val (.int (0 : Int32))] [(.long (f ((0 : Int32)).toNatClampNeg)), (.int (0 : Int32)), (.ref b269)])) rfl rfl (hb hby d2_41)
    have V278 : AL Z h278 b269 (4 : Int32) (fun i => if i = ((0 : Int32)).toNatClampNeg then (f ((0 : Int32)).toNatClampNeg) else (fun _ => (0 : Int64)) i) := AL.set V269 W278
    have Z279 : n0 ≤ h278.size := Nat.le_trans Z273 (Keep.of_wr W278).1
    have K280 : Keep h0 h278 [] := K274.wr W278 (Or.inr z272)
    have N278 := Fr.snoc X278 N0 g271
    have V281 : AL Z h278 r0 (4 : Int32) f := (V275.other W278 ne270)
    obtain ⟨cl282, Ar282, S282, M282, I282⟩ := id V281
    have hin282 : ¬ ((1 : Int32) < 0 ∨ cl282.slots.size ≤ ((1 : Int32)).toNatClampNeg) := inb_of S282 ⟨by decide, by decide⟩
    have hat282 : cl282.slots[((1 : Int32)).toNatClampNeg]? = some (.long (f ((1 : Int32)).toNatClampNeg)) := I282 _ (Nat.lt_of_not_le fun y => hin282 (Or.inr y))
    obtain ⟨cl283, Ar283, S283, M283, I283⟩ := id V278
    have hin283 : ¬ ((1 : Int32) < 0 ∨ cl283.slots.size ≤ ((1 : Int32)).toNatClampNeg) := inb_of S283 ⟨by decide, by decide⟩
    obtain ⟨T284, h284, X284, e284, W284, st284⟩ := stJ X278 hx hZ e278 Ar283 (j := (1 : Int32)) hin283 (g := (mkF m 57 #[.val (.ref r0), .val (.int (15 : Int32)), .val (.int (4 : Int32)), .val (.ref b269), .val (.int (1 : Int32))] [(.long (f ((1 : Int32)).toNatClampNeg)), (.int (1 : Int32)), (.ref b269)])) rfl rfl (hb hby d2_57)
    have V284 : AL Z h284 b269 (4 : Int32) (fun i => if i = ((1 : Int32)).toNatClampNeg then (f ((1 : Int32)).toNatClampNeg) else (fun i => if i = ((0 : Int32)).toNatClampNeg then (f ((0 : Int32)).toNatClampNeg) else (fun _ => (0 : Int64)) i) i) := AL.set V278 W284
    have Z285 : n0 ≤ h284.size := Nat.le_trans Z279 (Keep.of_wr W284).1
    have K286 : Keep h0 h284 [] := K280.wr W284 (Or.inr z272)
    have N284 := Fr.snoc X284 N278 g271
    have V287 : AL Z h284 r0 (4 : Int32) f := (V281.other W284 ne270)
    obtain ⟨cl288, Ar288, S288, M288, I288⟩ := id V287
    have hin288 : ¬ ((2 : Int32) < 0 ∨ cl288.slots.size ≤ ((2 : Int32)).toNatClampNeg) := inb_of S288 ⟨by decide, by decide⟩
    have hat288 : cl288.slots[((2 : Int32)).toNatClampNeg]? = some (.long (f ((2 : Int32)).toNatClampNeg)) := I288 _ (Nat.lt_of_not_le fun y => hin288 (Or.inr y))
    obtain ⟨cl289, Ar289, S289, M289, I289⟩ := id V284
    have hin289 : ¬ ((2 : Int32) < 0 ∨ cl289.slots.size ≤ ((2 : Int32)).toNatClampNeg) := inb_of S289 ⟨by decide, by decide⟩
    obtain ⟨T290, h290, X290, e290, W290, st290⟩ := stJ X284 hx hZ e284 Ar289 (j := (2 : Int32)) hin289 (g := (mkF m 73 #[.val (.ref r0), .val (.int (15 : Int32)), .val (.int (4 : Int32)), .val (.ref b269), .val (.int (2 : Int32))] [(.long (f ((2 : Int32)).toNatClampNeg)), (.int (2 : Int32)), (.ref b269)])) rfl rfl (hb hby d2_73)
    have V290 : AL Z h290 b269 (4 : Int32) (fun i => if i = ((2 : Int32)).toNatClampNeg then (f ((2 : Int32)).toNatClampNeg) else (fun i => if i = ((1 : Int32)).toNatClampNeg then (f ((1 : Int32)).toNatClampNeg) else (fun i => if i = ((0 : Int32)).toNatClampNeg then (f ((0 : Int32)).toNatClampNeg) else (fun _ => (0 : Int64)) i) i) i) := AL.set V284 W290
    have Z291 : n0 ≤ h290.size := Nat.le_trans Z285 (Keep.of_wr W290).1
    have K292 : Keep h0 h290 [] := K286.wr W290 (Or.inr z272)
    have N290 := Fr.snoc X290 N284 g271
    have V293 : AL Z h290 r0 (4 : Int32) f := (V287.other W290 ne270)
    obtain ⟨cl294, Ar294, S294, M294, I294⟩ := id V293
    have hin294 : ¬ ((3 : Int32) < 0 ∨ cl294.slots.size ≤ ((3 : Int32)).toNatClampNeg) := inb_of S294 ⟨by decide, by decide⟩
    have hat294 : cl294.slots[((3 : Int32)).toNatClampNeg]? = some (.long (f ((3 : Int32)).toNatClampNeg)) := I294 _ (Nat.lt_of_not_le fun y => hin294 (Or.inr y))
    obtain ⟨cl295, Ar295, S295, M295, I295⟩ := id V290
    have hin295 : ¬ ((3 : Int32) < 0 ∨ cl295.slots.size ≤ ((3 : Int32)).toNatClampNeg) := inb_of S295 ⟨by decide, by decide⟩
    obtain ⟨T296, h296, X296, e296, W296, st296⟩ := stJ X290 hx hZ e290 Ar295 (j := (3 : Int32)) hin295 (g := (mkF m 90 #[.val (.ref r0), .val (.int (15 : Int32)), .val (.int (4 : Int32)), .val (.ref b269), .val (.int (3 : Int32))] [(.long (f ((3 : Int32)).toNatClampNeg)), (.int (3 : Int32)), (.ref b269)])) rfl rfl (hb hby d2_90)
    have V296 : AL Z h296 b269 (4 : Int32) (fun i => if i = ((3 : Int32)).toNatClampNeg then (f ((3 : Int32)).toNatClampNeg) else (fun i => if i = ((2 : Int32)).toNatClampNeg then (f ((2 : Int32)).toNatClampNeg) else (fun i => if i = ((1 : Int32)).toNatClampNeg then (f ((1 : Int32)).toNatClampNeg) else (fun i => if i = ((0 : Int32)).toNatClampNeg then (f ((0 : Int32)).toNatClampNeg) else (fun _ => (0 : Int64)) i) i) i) i) := AL.set V290 W296
    have Z297 : n0 ≤ h296.size := Nat.le_trans Z291 (Keep.of_wr W296).1
    have K298 : Keep h0 h296 [] := K292.wr W296 (Or.inr z272)
    have N296 := Fr.snoc X296 N290 g271
    obtain ⟨fs, hr, hrun, hended, hW, hsame⟩ := X296.leave (v := some (.ref b269)) (fun h => by rw [Bd.returns] at h; cases h)
    refine ⟨_, _, pre0 _ ?_, hrun, hended, _, _, rfl, ?_, ⟨_, rfl⟩, hW, hsame.mono (by decide) (by decide)⟩
    · refine XS.iloadN X0.here hx rfl (hb hby d2_0) rfl ?_
      show Steps p.tables e below (s₁.setTop (mkF m 1 #[.val (.ref r0), .val (.int (15 : Int32)), .unset, .unset, .unset] [(.int (15 : Int32))])) _
      refine XS.iconst X0.here hx rfl (hb hby d2_1) ?_
      show Steps p.tables e below (s₁.setTop (mkF m 2 #[.val (.ref r0), .val (.int (15 : Int32)), .unset, .unset, .unset] [(.int (1 : Int32)), (.int (15 : Int32))])) _
      refine XS.iand X0.here hx rfl (hb hby d2_2) rfl ?_
      show Steps p.tables e below (s₁.setTop (mkF m 3 #[.val (.ref r0), .val (.int (15 : Int32)), .unset, .unset, .unset] [(.int (1 : Int32))])) _
      refine XS.iloadN X0.here hx rfl (hb hby d2_3) rfl ?_
      show Steps p.tables e below (s₁.setTop (mkF m 4 #[.val (.ref r0), .val (.int (15 : Int32)), .unset, .unset, .unset] [(.int (15 : Int32)), (.int (1 : Int32))])) _
      refine XS.iconst X0.here hx rfl (hb hby d2_4) ?_
      show Steps p.tables e below (s₁.setTop (mkF m 5 #[.val (.ref r0), .val (.int (15 : Int32)), .unset, .unset, .unset] [(.int (1 : Int32)), (.int (15 : Int32)), (.int (1 : Int32))])) _
      refine XS.ishr X0.here hx rfl (hb hby d2_5) rfl ?_
      show Steps p.tables e below (s₁.setTop (mkF m 6 #[.val (.ref r0), .val (.int (15 : Int32)), .unset, .unset, .unset] [(.int (7 : Int32)), (.int (1 : Int32))])) _
      refine XS.iconst X0.here hx rfl (hb hby d2_6) ?_
      show Steps p.tables e below (s₁.setTop (mkF m 7 #[.val (.ref r0), .val (.int (15 : Int32)), .unset, .unset, .unset] [(.int (1 : Int32)), (.int (7 : Int32)), (.int (1 : Int32))])) _
      refine XS.iand X0.here hx rfl (hb hby d2_7) rfl ?_
      show Steps p.tables e below (s₁.setTop (mkF m 8 #[.val (.ref r0), .val (.int (15 : Int32)), .unset, .unset, .unset] [(.int (1 : Int32)), (.int (1 : Int32))])) _
      refine XS.iadd X0.here hx rfl (hb hby d2_8) rfl ?_
      show Steps p.tables e below (s₁.setTop (mkF m 9 #[.val (.ref r0), .val (.int (15 : Int32)), .unset, .unset, .unset] [(.int (2 : Int32))])) _
      refine XS.iloadN X0.here hx rfl (hb hby d2_9) rfl ?_
      show Steps p.tables e below (s₁.setTop (mkF m 10 #[.val (.ref r0), .val (.int (15 : Int32)), .unset, .unset, .unset] [(.int (15 : Int32)), (.int (2 : Int32))])) _
      refine XS.iconst X0.here hx rfl (hb hby d2_10) ?_
      show Steps p.tables e below (s₁.setTop (mkF m 11 #[.val (.ref r0), .val (.int (15 : Int32)), .unset, .unset, .unset] [(.int (2 : Int32)), (.int (15 : Int32)), (.int (2 : Int32))])) _
      refine XS.ishr X0.here hx rfl (hb hby d2_11) rfl ?_
      show Steps p.tables e below (s₁.setTop (mkF m 12 #[.val (.ref r0), .val (.int (15 : Int32)), .unset, .unset, .unset] [(.int (3 : Int32)), (.int (2 : Int32))])) _
      refine XS.iconst X0.here hx rfl (hb hby d2_12) ?_
      show Steps p.tables e below (s₁.setTop (mkF m 13 #[.val (.ref r0), .val (.int (15 : Int32)), .unset, .unset, .unset] [(.int (1 : Int32)), (.int (3 : Int32)), (.int (2 : Int32))])) _
      refine XS.iand X0.here hx rfl (hb hby d2_13) rfl ?_
      show Steps p.tables e below (s₁.setTop (mkF m 14 #[.val (.ref r0), .val (.int (15 : Int32)), .unset, .unset, .unset] [(.int (1 : Int32)), (.int (2 : Int32))])) _
      refine XS.iadd X0.here hx rfl (hb hby d2_14) rfl ?_
      show Steps p.tables e below (s₁.setTop (mkF m 15 #[.val (.ref r0), .val (.int (15 : Int32)), .unset, .unset, .unset] [(.int (3 : Int32))])) _
      refine XS.iloadN X0.here hx rfl (hb hby d2_15) rfl ?_
      show Steps p.tables e below (s₁.setTop (mkF m 16 #[.val (.ref r0), .val (.int (15 : Int32)), .unset, .unset, .unset] [(.int (15 : Int32)), (.int (3 : Int32))])) _
      refine XS.iconst X0.here hx rfl (hb hby d2_16) ?_
      show Steps p.tables e below (s₁.setTop (mkF m 17 #[.val (.ref r0), .val (.int (15 : Int32)), .unset, .unset, .unset] [(.int (3 : Int32)), (.int (15 : Int32)), (.int (3 : Int32))])) _
      refine XS.ishr X0.here hx rfl (hb hby d2_17) rfl ?_
      show Steps p.tables e below (s₁.setTop (mkF m 18 #[.val (.ref r0), .val (.int (15 : Int32)), .unset, .unset, .unset] [(.int (1 : Int32)), (.int (3 : Int32))])) _
      refine XS.iconst X0.here hx rfl (hb hby d2_18) ?_
      show Steps p.tables e below (s₁.setTop (mkF m 19 #[.val (.ref r0), .val (.int (15 : Int32)), .unset, .unset, .unset] [(.int (1 : Int32)), (.int (1 : Int32)), (.int (3 : Int32))])) _
      refine XS.iand X0.here hx rfl (hb hby d2_19) rfl ?_
      show Steps p.tables e below (s₁.setTop (mkF m 20 #[.val (.ref r0), .val (.int (15 : Int32)), .unset, .unset, .unset] [(.int (1 : Int32)), (.int (3 : Int32))])) _
      refine XS.iadd X0.here hx rfl (hb hby d2_20) rfl ?_
      show Steps p.tables e below (s₁.setTop (mkF m 21 #[.val (.ref r0), .val (.int (15 : Int32)), .unset, .unset, .unset] [(.int (4 : Int32))])) _
      refine XS.istoreN X0.here hx rfl (hb hby d2_21) rfl (l' := #[.val (.ref r0), .val (.int (15 : Int32)), .val (.int (4 : Int32)), .unset, .unset]) rfl ?_
      show Steps p.tables e below (s₁.setTop (mkF m 22 #[.val (.ref r0), .val (.int (15 : Int32)), .val (.int (4 : Int32)), .unset, .unset] [])) _
      refine XS.iloadN X0.here hx rfl (hb hby d2_22) rfl ?_
      show Steps p.tables e below (s₁.setTop (mkF m 23 #[.val (.ref r0), .val (.int (15 : Int32)), .val (.int (4 : Int32)), .unset, .unset] [(.int (4 : Int32))])) _
      refine st269 _ ?_
      show Steps p.tables e below (T269.setTop (mkF m 25 #[.val (.ref r0), .val (.int (15 : Int32)), .val (.int (4 : Int32)), .unset, .unset] [(.ref b269)])) _
      refine XS.astoreN X269.here hx rfl (hb hby d2_25) rfl rfl (l' := #[.val (.ref r0), .val (.int (15 : Int32)), .val (.int (4 : Int32)), .val (.ref b269), .unset]) rfl ?_
      show Steps p.tables e below (T269.setTop (mkF m 26 #[.val (.ref r0), .val (.int (15 : Int32)), .val (.int (4 : Int32)), .val (.ref b269), .unset] [])) _
      refine XS.iconst X269.here hx rfl (hb hby d2_26) ?_
      show Steps p.tables e below (T269.setTop (mkF m 27 #[.val (.ref r0), .val (.int (15 : Int32)), .val (.int (4 : Int32)), .val (.ref b269), .unset] [(.int (0 : Int32))])) _
      refine XS.istore X269.here hx rfl (hb hby d2_27) rfl (l' := #[.val (.ref r0), .val (.int (15 : Int32)), .val (.int (4 : Int32)), .val (.ref b269), .val (.int (0 : Int32))]) rfl ?_
      show Steps p.tables e below (T269.setTop (mkF m 29 #[.val (.ref r0), .val (.int (15 : Int32)), .val (.int (4 : Int32)), .val (.ref b269), .val (.int (0 : Int32))] [])) _
      refine XS.iloadN X269.here hx rfl (hb hby d2_29) rfl ?_
      show Steps p.tables e below (T269.setTop (mkF m 30 #[.val (.ref r0), .val (.int (15 : Int32)), .val (.int (4 : Int32)), .val (.ref b269), .val (.int (0 : Int32))] [(.int (15 : Int32))])) _
      refine XS.iconst X269.here hx rfl (hb hby d2_30) ?_
      show Steps p.tables e below (T269.setTop (mkF m 31 #[.val (.ref r0), .val (.int (15 : Int32)), .val (.int (4 : Int32)), .val (.ref b269), .val (.int (0 : Int32))] [(.int (1 : Int32)), (.int (15 : Int32))])) _
      refine XS.iand X269.here hx rfl (hb hby d2_31) rfl ?_
      show Steps p.tables e below (T269.setTop (mkF m 32 #[.val (.ref r0), .val (.int (15 : Int32)), .val (.int (4 : Int32)), .val (.ref b269), .val (.int (0 : Int32))] [(.int (1 : Int32))])) _
      refine XS.ifNo X269.here hx rfl (hb hby d2_32) rfl ((if0 _ _).trans (feq (by decide : ¬ ((1 : Int32) = (0 : Int32)))).1) ?_
      show Steps p.tables e below (T269.setTop (mkF m 35 #[.val (.ref r0), .val (.int (15 : Int32)), .val (.int (4 : Int32)), .val (.ref b269), .val (.int (0 : Int32))] [])) _
      refine XS.aloadN X269.here hx rfl (hb hby d2_35) rfl rfl ?_
      show Steps p.tables e below (T269.setTop (mkF m 36 #[.val (.ref r0), .val (.int (15 : Int32)), .val (.int (4 : Int32)), .val (.ref b269), .val (.int (0 : Int32))] [(.ref b269)])) _
      refine XS.iload X269.here hx rfl (hb hby d2_36) rfl ?_
      show Steps p.tables e below (T269.setTop (mkF m 38 #[.val (.ref r0), .val (.int (15 : Int32)), .val (.int (4 : Int32)), .val (.ref b269), .val (.int (0 : Int32))] [(.int (0 : Int32)), (.ref b269)])) _
      refine XS.aloadN X269.here hx rfl (hb hby d2_38) rfl rfl ?_
      show Steps p.tables e below (T269.setTop (mkF m 39 #[.val (.ref r0), .val (.int (15 : Int32)), .val (.int (4 : Int32)), .val (.ref b269), .val (.int (0 : Int32))] [(.ref r0), (.int (0 : Int32)), (.ref b269)])) _
      refine XS.iconst X269.here hx rfl (hb hby d2_39) ?_
      show Steps p.tables e below (T269.setTop (mkF m 40 #[.val (.ref r0), .val (.int (15 : Int32)), .val (.int (4 : Int32)), .val (.ref b269), .val (.int (0 : Int32))] [(.int (0 : Int32)), (.ref r0), (.int (0 : Int32)), (.ref b269)])) _
      refine X269.laload hx (j := (0 : Int32)) (v := (.long (f ((0 : Int32)).toNatClampNeg))) (by rw [e269]; exact Ar276.1) (State.isArrayOf_alike hZ.alike Ar276.2.1) Ar276.2.2 hin276 hat276 (g := (mkF m 40 #[.val (.ref r0), .val (.int (15 : Int32)), .val (.int (4 : Int32)), .val (.ref b269), .val (.int (0 : Int32))] [(.int (0 : Int32)), (.ref r0), (.int (0 : Int32)), (.ref b269)])) rfl rfl (hb hby d2_40) _ ?_
      show Steps p.tables e below (T269.setTop (mkF m 41 #[.val (.ref r0), .val (.int (15 : Int32)), .val (.int (4 : Int32)), .val (.ref b269), .val (.int (0 : Int32))] [(.long (f ((0 : Int32)).toNatClampNeg)), (.int (0 : Int32)), (.ref b269)])) _
      refine st278 _ ?_
      show Steps p.tables e below (T278.setTop (mkF m 42 #[.val (.ref r0), .val (.int (15 : Int32)), .val (.int (4 : Int32)), .val (.ref b269), .val (.int (0 : Int32))] [])) _
      refine XS.iinc X278.here hx rfl (hb hby d2_42) rfl (l' := #[.val (.ref r0), .val (.int (15 : Int32)), .val (.int (4 : Int32)), .val (.ref b269), .val (.int (1 : Int32))]) rfl ?_
      show Steps p.tables e below (T278.setTop (mkF m 45 #[.val (.ref r0), .val (.int (15 : Int32)), .val (.int (4 : Int32)), .val (.ref b269), .val (.int (1 : Int32))] [])) _
      refine XS.iloadN X278.here hx rfl (hb hby d2_45) rfl ?_
      show Steps p.tables e below (T278.setTop (mkF m 46 #[.val (.ref r0), .val (.int (15 : Int32)), .val (.int (4 : Int32)), .val (.ref b269), .val (.int (1 : Int32))] [(.int (15 : Int32))])) _
      refine XS.iconst X278.here hx rfl (hb hby d2_46) ?_
      show Steps p.tables e below (T278.setTop (mkF m 47 #[.val (.ref r0), .val (.int (15 : Int32)), .val (.int (4 : Int32)), .val (.ref b269), .val (.int (1 : Int32))] [(.int (2 : Int32)), (.int (15 : Int32))])) _
      refine XS.iand X278.here hx rfl (hb hby d2_47) rfl ?_
      show Steps p.tables e below (T278.setTop (mkF m 48 #[.val (.ref r0), .val (.int (15 : Int32)), .val (.int (4 : Int32)), .val (.ref b269), .val (.int (1 : Int32))] [(.int (2 : Int32))])) _
      refine XS.ifNo X278.here hx rfl (hb hby d2_48) rfl ((if0 _ _).trans (feq (by decide : ¬ ((2 : Int32) = (0 : Int32)))).1) ?_
      show Steps p.tables e below (T278.setTop (mkF m 51 #[.val (.ref r0), .val (.int (15 : Int32)), .val (.int (4 : Int32)), .val (.ref b269), .val (.int (1 : Int32))] [])) _
      refine XS.aloadN X278.here hx rfl (hb hby d2_51) rfl rfl ?_
      show Steps p.tables e below (T278.setTop (mkF m 52 #[.val (.ref r0), .val (.int (15 : Int32)), .val (.int (4 : Int32)), .val (.ref b269), .val (.int (1 : Int32))] [(.ref b269)])) _
      refine XS.iload X278.here hx rfl (hb hby d2_52) rfl ?_
      show Steps p.tables e below (T278.setTop (mkF m 54 #[.val (.ref r0), .val (.int (15 : Int32)), .val (.int (4 : Int32)), .val (.ref b269), .val (.int (1 : Int32))] [(.int (1 : Int32)), (.ref b269)])) _
      refine XS.aloadN X278.here hx rfl (hb hby d2_54) rfl rfl ?_
      show Steps p.tables e below (T278.setTop (mkF m 55 #[.val (.ref r0), .val (.int (15 : Int32)), .val (.int (4 : Int32)), .val (.ref b269), .val (.int (1 : Int32))] [(.ref r0), (.int (1 : Int32)), (.ref b269)])) _
      refine XS.iconst X278.here hx rfl (hb hby d2_55) ?_
      show Steps p.tables e below (T278.setTop (mkF m 56 #[.val (.ref r0), .val (.int (15 : Int32)), .val (.int (4 : Int32)), .val (.ref b269), .val (.int (1 : Int32))] [(.int (1 : Int32)), (.ref r0), (.int (1 : Int32)), (.ref b269)])) _
      refine X278.laload hx (j := (1 : Int32)) (v := (.long (f ((1 : Int32)).toNatClampNeg))) (by rw [e278]; exact Ar282.1) (State.isArrayOf_alike hZ.alike Ar282.2.1) Ar282.2.2 hin282 hat282 (g := (mkF m 56 #[.val (.ref r0), .val (.int (15 : Int32)), .val (.int (4 : Int32)), .val (.ref b269), .val (.int (1 : Int32))] [(.int (1 : Int32)), (.ref r0), (.int (1 : Int32)), (.ref b269)])) rfl rfl (hb hby d2_56) _ ?_
      show Steps p.tables e below (T278.setTop (mkF m 57 #[.val (.ref r0), .val (.int (15 : Int32)), .val (.int (4 : Int32)), .val (.ref b269), .val (.int (1 : Int32))] [(.long (f ((1 : Int32)).toNatClampNeg)), (.int (1 : Int32)), (.ref b269)])) _
      refine st284 _ ?_
      show Steps p.tables e below (T284.setTop (mkF m 58 #[.val (.ref r0), .val (.int (15 : Int32)), .val (.int (4 : Int32)), .val (.ref b269), .val (.int (1 : Int32))] [])) _
      refine XS.iinc X284.here hx rfl (hb hby d2_58) rfl (l' := #[.val (.ref r0), .val (.int (15 : Int32)), .val (.int (4 : Int32)), .val (.ref b269), .val (.int (2 : Int32))]) rfl ?_
      show Steps p.tables e below (T284.setTop (mkF m 61 #[.val (.ref r0), .val (.int (15 : Int32)), .val (.int (4 : Int32)), .val (.ref b269), .val (.int (2 : Int32))] [])) _
      refine XS.iloadN X284.here hx rfl (hb hby d2_61) rfl ?_
      show Steps p.tables e below (T284.setTop (mkF m 62 #[.val (.ref r0), .val (.int (15 : Int32)), .val (.int (4 : Int32)), .val (.ref b269), .val (.int (2 : Int32))] [(.int (15 : Int32))])) _
      refine XS.iconst X284.here hx rfl (hb hby d2_62) ?_
      show Steps p.tables e below (T284.setTop (mkF m 63 #[.val (.ref r0), .val (.int (15 : Int32)), .val (.int (4 : Int32)), .val (.ref b269), .val (.int (2 : Int32))] [(.int (4 : Int32)), (.int (15 : Int32))])) _
      refine XS.iand X284.here hx rfl (hb hby d2_63) rfl ?_
      show Steps p.tables e below (T284.setTop (mkF m 64 #[.val (.ref r0), .val (.int (15 : Int32)), .val (.int (4 : Int32)), .val (.ref b269), .val (.int (2 : Int32))] [(.int (4 : Int32))])) _
      refine XS.ifNo X284.here hx rfl (hb hby d2_64) rfl ((if0 _ _).trans (feq (by decide : ¬ ((4 : Int32) = (0 : Int32)))).1) ?_
      show Steps p.tables e below (T284.setTop (mkF m 67 #[.val (.ref r0), .val (.int (15 : Int32)), .val (.int (4 : Int32)), .val (.ref b269), .val (.int (2 : Int32))] [])) _
      refine XS.aloadN X284.here hx rfl (hb hby d2_67) rfl rfl ?_
      show Steps p.tables e below (T284.setTop (mkF m 68 #[.val (.ref r0), .val (.int (15 : Int32)), .val (.int (4 : Int32)), .val (.ref b269), .val (.int (2 : Int32))] [(.ref b269)])) _
      refine XS.iload X284.here hx rfl (hb hby d2_68) rfl ?_
      show Steps p.tables e below (T284.setTop (mkF m 70 #[.val (.ref r0), .val (.int (15 : Int32)), .val (.int (4 : Int32)), .val (.ref b269), .val (.int (2 : Int32))] [(.int (2 : Int32)), (.ref b269)])) _
      refine XS.aloadN X284.here hx rfl (hb hby d2_70) rfl rfl ?_
      show Steps p.tables e below (T284.setTop (mkF m 71 #[.val (.ref r0), .val (.int (15 : Int32)), .val (.int (4 : Int32)), .val (.ref b269), .val (.int (2 : Int32))] [(.ref r0), (.int (2 : Int32)), (.ref b269)])) _
      refine XS.iconst X284.here hx rfl (hb hby d2_71) ?_
      show Steps p.tables e below (T284.setTop (mkF m 72 #[.val (.ref r0), .val (.int (15 : Int32)), .val (.int (4 : Int32)), .val (.ref b269), .val (.int (2 : Int32))] [(.int (2 : Int32)), (.ref r0), (.int (2 : Int32)), (.ref b269)])) _
      refine X284.laload hx (j := (2 : Int32)) (v := (.long (f ((2 : Int32)).toNatClampNeg))) (by rw [e284]; exact Ar288.1) (State.isArrayOf_alike hZ.alike Ar288.2.1) Ar288.2.2 hin288 hat288 (g := (mkF m 72 #[.val (.ref r0), .val (.int (15 : Int32)), .val (.int (4 : Int32)), .val (.ref b269), .val (.int (2 : Int32))] [(.int (2 : Int32)), (.ref r0), (.int (2 : Int32)), (.ref b269)])) rfl rfl (hb hby d2_72) _ ?_
      show Steps p.tables e below (T284.setTop (mkF m 73 #[.val (.ref r0), .val (.int (15 : Int32)), .val (.int (4 : Int32)), .val (.ref b269), .val (.int (2 : Int32))] [(.long (f ((2 : Int32)).toNatClampNeg)), (.int (2 : Int32)), (.ref b269)])) _
      refine st290 _ ?_
      show Steps p.tables e below (T290.setTop (mkF m 74 #[.val (.ref r0), .val (.int (15 : Int32)), .val (.int (4 : Int32)), .val (.ref b269), .val (.int (2 : Int32))] [])) _
      refine XS.iinc X290.here hx rfl (hb hby d2_74) rfl (l' := #[.val (.ref r0), .val (.int (15 : Int32)), .val (.int (4 : Int32)), .val (.ref b269), .val (.int (3 : Int32))]) rfl ?_
      show Steps p.tables e below (T290.setTop (mkF m 77 #[.val (.ref r0), .val (.int (15 : Int32)), .val (.int (4 : Int32)), .val (.ref b269), .val (.int (3 : Int32))] [])) _
      refine XS.iloadN X290.here hx rfl (hb hby d2_77) rfl ?_
      show Steps p.tables e below (T290.setTop (mkF m 78 #[.val (.ref r0), .val (.int (15 : Int32)), .val (.int (4 : Int32)), .val (.ref b269), .val (.int (3 : Int32))] [(.int (15 : Int32))])) _
      refine XS.bipush X290.here hx rfl (hb hby d2_78) ?_
      show Steps p.tables e below (T290.setTop (mkF m 80 #[.val (.ref r0), .val (.int (15 : Int32)), .val (.int (4 : Int32)), .val (.ref b269), .val (.int (3 : Int32))] [(.int (8 : Int32)), (.int (15 : Int32))])) _
      refine XS.iand X290.here hx rfl (hb hby d2_80) rfl ?_
      show Steps p.tables e below (T290.setTop (mkF m 81 #[.val (.ref r0), .val (.int (15 : Int32)), .val (.int (4 : Int32)), .val (.ref b269), .val (.int (3 : Int32))] [(.int (8 : Int32))])) _
      refine XS.ifNo X290.here hx rfl (hb hby d2_81) rfl ((if0 _ _).trans (feq (by decide : ¬ ((8 : Int32) = (0 : Int32)))).1) ?_
      show Steps p.tables e below (T290.setTop (mkF m 84 #[.val (.ref r0), .val (.int (15 : Int32)), .val (.int (4 : Int32)), .val (.ref b269), .val (.int (3 : Int32))] [])) _
      refine XS.aloadN X290.here hx rfl (hb hby d2_84) rfl rfl ?_
      show Steps p.tables e below (T290.setTop (mkF m 85 #[.val (.ref r0), .val (.int (15 : Int32)), .val (.int (4 : Int32)), .val (.ref b269), .val (.int (3 : Int32))] [(.ref b269)])) _
      refine XS.iload X290.here hx rfl (hb hby d2_85) rfl ?_
      show Steps p.tables e below (T290.setTop (mkF m 87 #[.val (.ref r0), .val (.int (15 : Int32)), .val (.int (4 : Int32)), .val (.ref b269), .val (.int (3 : Int32))] [(.int (3 : Int32)), (.ref b269)])) _
      refine XS.aloadN X290.here hx rfl (hb hby d2_87) rfl rfl ?_
      show Steps p.tables e below (T290.setTop (mkF m 88 #[.val (.ref r0), .val (.int (15 : Int32)), .val (.int (4 : Int32)), .val (.ref b269), .val (.int (3 : Int32))] [(.ref r0), (.int (3 : Int32)), (.ref b269)])) _
      refine XS.iconst X290.here hx rfl (hb hby d2_88) ?_
      show Steps p.tables e below (T290.setTop (mkF m 89 #[.val (.ref r0), .val (.int (15 : Int32)), .val (.int (4 : Int32)), .val (.ref b269), .val (.int (3 : Int32))] [(.int (3 : Int32)), (.ref r0), (.int (3 : Int32)), (.ref b269)])) _
      refine X290.laload hx (j := (3 : Int32)) (v := (.long (f ((3 : Int32)).toNatClampNeg))) (by rw [e290]; exact Ar294.1) (State.isArrayOf_alike hZ.alike Ar294.2.1) Ar294.2.2 hin294 hat294 (g := (mkF m 89 #[.val (.ref r0), .val (.int (15 : Int32)), .val (.int (4 : Int32)), .val (.ref b269), .val (.int (3 : Int32))] [(.int (3 : Int32)), (.ref r0), (.int (3 : Int32)), (.ref b269)])) rfl rfl (hb hby d2_89) _ ?_
      show Steps p.tables e below (T290.setTop (mkF m 90 #[.val (.ref r0), .val (.int (15 : Int32)), .val (.int (4 : Int32)), .val (.ref b269), .val (.int (3 : Int32))] [(.long (f ((3 : Int32)).toNatClampNeg)), (.int (3 : Int32)), (.ref b269)])) _
      refine st296 _ ?_
      show Steps p.tables e below (T296.setTop (mkF m 91 #[.val (.ref r0), .val (.int (15 : Int32)), .val (.int (4 : Int32)), .val (.ref b269), .val (.int (3 : Int32))] [])) _
      refine XS.iinc X296.here hx rfl (hb hby d2_91) rfl (l' := #[.val (.ref r0), .val (.int (15 : Int32)), .val (.int (4 : Int32)), .val (.ref b269), .val (.int (4 : Int32))]) rfl ?_
      show Steps p.tables e below (T296.setTop (mkF m 94 #[.val (.ref r0), .val (.int (15 : Int32)), .val (.int (4 : Int32)), .val (.ref b269), .val (.int (4 : Int32))] [])) _
      refine XS.aloadN X296.here hx rfl (hb hby d2_94) rfl rfl ?_
      show Steps p.tables e below (T296.setTop (mkF m 95 #[.val (.ref r0), .val (.int (15 : Int32)), .val (.int (4 : Int32)), .val (.ref b269), .val (.int (4 : Int32))] [(.ref b269)])) _
      exact retOut X296 hx Bd.returns rfl (Or.inr (Or.inr (Or.inr (Or.inr ⟨rfl, rfl, rfl⟩)))) (hb hby d2_95) hr
    · show Q2 Z r0 (15 : Int32) f h0 n0 _ T296.heap _
      rw [e296]
      exact ⟨b269, (4 : Int32), (fun i => if i = ((3 : Int32)).toNatClampNeg then (f ((3 : Int32)).toNatClampNeg) else (fun i => if i = ((2 : Int32)).toNatClampNeg then (f ((2 : Int32)).toNatClampNeg) else (fun i => if i = ((1 : Int32)).toNatClampNeg then (f ((1 : Int32)).toNatClampNeg) else (fun i => if i = ((0 : Int32)).toNatClampNeg then (f ((0 : Int32)).toNatClampNeg) else (fun _ => (0 : Int64)) i) i) i) i), rfl, N296, z272, K298, V296, rfl⟩
theorem d3_33 : decode prog_3_method_11_code 33 = .ok (.iload_n 2, 1) := by decide +kernel
theorem d3_34 : decode prog_3_method_11_code 34 = .ok (.aload_n 1, 1) := by decide +kernel
theorem d3_35 : decode prog_3_method_11_code 35 = .ok (.arraylength, 1) := by decide +kernel
theorem d3_36 : decode prog_3_method_11_code 36 = .ok (.if_icmp .ge 18, 3) := by decide +kernel
theorem d3_39 : decode prog_3_method_11_code 39 = .ok (.aload_n 1, 1) := by decide +kernel
theorem d3_40 : decode prog_3_method_11_code 40 = .ok (.iload_n 2, 1) := by decide +kernel
theorem d3_41 : decode prog_3_method_11_code 41 = .ok (.laload, 1) := by decide +kernel
theorem d3_42 : decode prog_3_method_11_code 42 = .ok (.lload 6, 2) := by decide +kernel
theorem d3_44 : decode prog_3_method_11_code 44 = .ok (.lcmp, 1) := by decide +kernel
theorem d3_45 : decode prog_3_method_11_code 45 = .ok (.ifCond .ge 9, 3) := by decide +kernel
theorem d3_48 : decode prog_3_method_11_code 48 = .ok (.iinc 2 1, 3) := by decide +kernel
theorem d3_51 : decode prog_3_method_11_code 51 = .ok (.goto (-18), 3) := by decide +kernel
theorem pn_3 : plainName "com/example/honeybee/honeybee/calculus/Clause" = true := by first | (simp [plainName, overriddenIn]; done) | decide +kernel
theorem ef_3 (m : MethodId) (r0 : Addr) (r1 : Addr) : entryFrame m #[(.ref r0), (.ref r1)] 8 = mkF m 0 #[.val (.ref r0), .val (.ref r1), .unset, .unset, .unset, .unset, .unset, .unset] [] := by first | (simp [entryFrame, mkF, argsToLocals, Value.category]; done) | rfl
set_option maxRecDepth 65536 in
set_option maxHeartbeats 40000000 in
theorem tI1 {p : Program} {l : Launch} {e : Env} {s : State} {m : MethodId} {args : Array Value} {below : List Frame} {meth : Method} {c : Code} {T0 : State} {locs0 : List Loc} {Z : State} {a0 : Array Value} (r0 : Addr) (r1 : Addr) (i2 : Int32) (z1 : Int32) (z2 : Int32) (i5 : Int32) (x : Int64) (f1 : Nat → Int64) (f2 : Nat → Int64) (h0 : Heap) (n0 : Nat) (X0 : Stand p l e ({ frames := 0, cells := 0, slots := 0, locals := 0 } : Room) s m args below meth c T0 locs0 0 0) (hx : p.tables.exec = Jvm.exec) (hZ : Z.Warmed39 s.vm) (hw : ∀ d ∈ tables_1, d.before a0 Z = true) (hby : c.code = prog_3_method_11_code) (hml : c.maxLocals = 8) (hown : s.vm.findClass "com/example/honeybee/honeybee/calculus/Clause" = some m.cls) (e0 : T0.heap = h0) (Z0 : n0 ≤ h0.size) (N0 : Fr n0 locs0) (hp0 : AL Z h0 r0 z1 f1) (hp1 : AL Z h0 r1 z2 f2) (hz : ¬ i2 < (0 : Int32)) (hlt : i2 < z2) (hv : (f2 (i2).toNatClampNeg) < x) :
    ∀ t, Steps p.tables e below (T0.setTop (mkF m 33 #[.val (.ref r0), .val (.ref r1), .val (.int (i2 + (1 : Int32))), .val (.ref r0), .val (.int z1), .val (.int i5), .val (.long x), .second] [])) t → Steps p.tables e below (T0.setTop (mkF m 33 #[.val (.ref r0), .val (.ref r1), .val (.int i2), .val (.ref r0), .val (.int z1), .val (.int i5), .val (.long x), .second] [])) t := by
  have pre0 : ∀ t, Steps p.tables e below (T0.setTop (mkF m 33 #[.val (.ref r0), .val (.ref r1), .val (.int i2), .val (.ref r0), .val (.int z1), .val (.int i5), .val (.long x), .second] [])) t → Steps p.tables e below (T0.setTop (mkF m 33 #[.val (.ref r0), .val (.ref r1), .val (.int i2), .val (.ref r0), .val (.int z1), .val (.int i5), .val (.long x), .second] [])) t := fun t k => k
  obtain ⟨cl11, Ar11, S11, M11, I11⟩ := id hp1
  obtain ⟨cl12, Ar12, S12, M12, I12⟩ := id hp1
  have hin12 : ¬ (i2 < 0 ∨ cl12.slots.size ≤ (i2).toNatClampNeg) := inb_of S12 ⟨hz, hlt⟩
  have hat12 : cl12.slots[(i2).toNatClampNeg]? = some (.long (f2 (i2).toNatClampNeg)) := I12 _ (Nat.lt_of_not_le fun y => hin12 (Or.inr y))
  have pre13 : ∀ t, Steps p.tables e below (T0.setTop (mkF m 33 #[.val (.ref r0), .val (.ref r1), .val (.int (i2 + (1 : Int32))), .val (.ref r0), .val (.int z1), .val (.int i5), .val (.long x), .second] [])) t → Steps p.tables e below (T0.setTop (mkF m 33 #[.val (.ref r0), .val (.ref r1), .val (.int i2), .val (.ref r0), .val (.int z1), .val (.int i5), .val (.long x), .second] [])) t := fun t k => pre0 t (by
    refine XS.iloadN X0.here hx rfl (hb hby d3_33) rfl ?_
    show Steps p.tables e below (T0.setTop (mkF m 34 #[.val (.ref r0), .val (.ref r1), .val (.int i2), .val (.ref r0), .val (.int z1), .val (.int i5), .val (.long x), .second] [(.int i2)])) _
    refine XS.aloadN X0.here hx rfl (hb hby d3_34) rfl rfl ?_
    show Steps p.tables e below (T0.setTop (mkF m 35 #[.val (.ref r0), .val (.ref r1), .val (.int i2), .val (.ref r0), .val (.int z1), .val (.int i5), .val (.long x), .second] [(.ref r1), (.int i2)])) _
    refine X0.arraylength hx (by rw [e0]; exact Ar11.1) (State.isArrayOf_alike hZ.alike Ar11.2.1) (g := (mkF m 35 #[.val (.ref r0), .val (.ref r1), .val (.int i2), .val (.ref r0), .val (.int z1), .val (.int i5), .val (.long x), .second] [(.ref r1), (.int i2)])) rfl rfl (hb hby d3_35) _ ?_
    rw [len_of S11 M11]
    show Steps p.tables e below (T0.setTop (mkF m 36 #[.val (.ref r0), .val (.ref r1), .val (.int i2), .val (.ref r0), .val (.int z1), .val (.int i5), .val (.long x), .second] [(.int z2), (.int i2)])) _
    refine XS.icmpNo X0.here hx rfl (hb hby d3_36) rfl (tlt hlt).2.1 ?_
    show Steps p.tables e below (T0.setTop (mkF m 39 #[.val (.ref r0), .val (.ref r1), .val (.int i2), .val (.ref r0), .val (.int z1), .val (.int i5), .val (.long x), .second] [])) _
    refine XS.aloadN X0.here hx rfl (hb hby d3_39) rfl rfl ?_
    show Steps p.tables e below (T0.setTop (mkF m 40 #[.val (.ref r0), .val (.ref r1), .val (.int i2), .val (.ref r0), .val (.int z1), .val (.int i5), .val (.long x), .second] [(.ref r1)])) _
    refine XS.iloadN X0.here hx rfl (hb hby d3_40) rfl ?_
    show Steps p.tables e below (T0.setTop (mkF m 41 #[.val (.ref r0), .val (.ref r1), .val (.int i2), .val (.ref r0), .val (.int z1), .val (.int i5), .val (.long x), .second] [(.int i2), (.ref r1)])) _
    refine X0.laload hx (j := i2) (v := (.long (f2 (i2).toNatClampNeg))) (by rw [e0]; exact Ar12.1) (State.isArrayOf_alike hZ.alike Ar12.2.1) Ar12.2.2 hin12 hat12 (g := (mkF m 41 #[.val (.ref r0), .val (.ref r1), .val (.int i2), .val (.ref r0), .val (.int z1), .val (.int i5), .val (.long x), .second] [(.int i2), (.ref r1)])) rfl rfl (hb hby d3_41) _ ?_
    show Steps p.tables e below (T0.setTop (mkF m 42 #[.val (.ref r0), .val (.ref r1), .val (.int i2), .val (.ref r0), .val (.int z1), .val (.int i5), .val (.long x), .second] [(.long (f2 (i2).toNatClampNeg))])) _
    refine XS.lload X0.here hx rfl (hb hby d3_42) rfl ?_
    show Steps p.tables e below (T0.setTop (mkF m 44 #[.val (.ref r0), .val (.ref r1), .val (.int i2), .val (.ref r0), .val (.int z1), .val (.int i5), .val (.long x), .second] [(.long x), (.long (f2 (i2).toNatClampNeg))])) _
    refine XS.lcmp X0.here hx rfl (hb hby d3_44) rfl ?_
    show Steps p.tables e below (T0.setTop (mkF m 45 #[.val (.ref r0), .val (.ref r1), .val (.int i2), .val (.ref r0), .val (.int z1), .val (.int i5), .val (.long x), .second] [(.int (lcmpW (f2 (i2).toNatClampNeg) x))])) _
    refine XS.ifNo X0.here hx rfl (hb hby d3_45) rfl ((if0 _ _).trans (tlt ((lw_lt (f2 (i2).toNatClampNeg) x).mpr hv)).2.1) ?_
    show Steps p.tables e below (T0.setTop (mkF m 48 #[.val (.ref r0), .val (.ref r1), .val (.int i2), .val (.ref r0), .val (.int z1), .val (.int i5), .val (.long x), .second] [])) _
    refine XS.iinc X0.here hx rfl (hb hby d3_48) rfl (l' := #[.val (.ref r0), .val (.ref r1), .val (.int (i2 + (1 : Int32))), .val (.ref r0), .val (.int z1), .val (.int i5), .val (.long x), .second]) rfl ?_
    show Steps p.tables e below (T0.setTop (mkF m 51 #[.val (.ref r0), .val (.ref r1), .val (.int (i2 + (1 : Int32))), .val (.ref r0), .val (.int z1), .val (.int i5), .val (.long x), .second] [])) _
    refine XS.goto X0.here hx rfl (pc0 := 51) (pc' := 33) rfl (hb hby d3_51) (by decide) (by decide) ?_
    exact k)
  exact pre13
set_option maxRecDepth 65536 in
set_option maxHeartbeats 40000000 in
theorem tI2 {p : Program} {l : Launch} {e : Env} {s : State} {m : MethodId} {args : Array Value} {below : List Frame} {meth : Method} {c : Code} {T0 : State} {locs0 : List Loc} {Z : State} {a0 : Array Value} (r0 : Addr) (r1 : Addr) (i2 : Int32) (z1 : Int32) (z2 : Int32) (i5 : Int32) (x : Int64) (f1 : Nat → Int64) (f2 : Nat → Int64) (h0 : Heap) (n0 : Nat) (X0 : Stand p l e ({ frames := 0, cells := 0, slots := 0, locals := 0 } : Room) s m args below meth c T0 locs0 0 0) (hx : p.tables.exec = Jvm.exec) (hZ : Z.Warmed39 s.vm) (hw : ∀ d ∈ tables_1, d.before a0 Z = true) (hby : c.code = prog_3_method_11_code) (hml : c.maxLocals = 8) (hown : s.vm.findClass "com/example/honeybee/honeybee/calculus/Clause" = some m.cls) (e0 : T0.heap = h0) (Z0 : n0 ≤ h0.size) (N0 : Fr n0 locs0) (hp0 : AL Z h0 r0 z1 f1) (hp1 : AL Z h0 r1 z2 f2) (hlt : ¬ i2 < z2) :
    ∀ t, Steps p.tables e below (T0.setTop (mkF m 54 #[.val (.ref r0), .val (.ref r1), .val (.int i2), .val (.ref r0), .val (.int z1), .val (.int i5), .val (.long x), .second] [])) t → Steps p.tables e below (T0.setTop (mkF m 33 #[.val (.ref r0), .val (.ref r1), .val (.int i2), .val (.ref r0), .val (.int z1), .val (.int i5), .val (.long x), .second] [])) t := by
  have pre0 : ∀ t, Steps p.tables e below (T0.setTop (mkF m 33 #[.val (.ref r0), .val (.ref r1), .val (.int i2), .val (.ref r0), .val (.int z1), .val (.int i5), .val (.long x), .second] [])) t → Steps p.tables e below (T0.setTop (mkF m 33 #[.val (.ref r0), .val (.ref r1), .val (.int i2), .val (.ref r0), .val (.int z1), .val (.int i5), .val (.long x), .second] [])) t := fun t k => k
  obtain ⟨cl11, Ar11, S11, M11, I11⟩ := id hp1
  have pre12 : ∀ t, Steps p.tables e below (T0.setTop (mkF m 54 #[.val (.ref r0), .val (.ref r1), .val (.int i2), .val (.ref r0), .val (.int z1), .val (.int i5), .val (.long x), .second] [])) t → Steps p.tables e below (T0.setTop (mkF m 33 #[.val (.ref r0), .val (.ref r1), .val (.int i2), .val (.ref r0), .val (.int z1), .val (.int i5), .val (.long x), .second] [])) t := fun t k => pre0 t (by
    refine XS.iloadN X0.here hx rfl (hb hby d3_33) rfl ?_
    show Steps p.tables e below (T0.setTop (mkF m 34 #[.val (.ref r0), .val (.ref r1), .val (.int i2), .val (.ref r0), .val (.int z1), .val (.int i5), .val (.long x), .second] [(.int i2)])) _
    refine XS.aloadN X0.here hx rfl (hb hby d3_34) rfl rfl ?_
    show Steps p.tables e below (T0.setTop (mkF m 35 #[.val (.ref r0), .val (.ref r1), .val (.int i2), .val (.ref r0), .val (.int z1), .val (.int i5), .val (.long x), .second] [(.ref r1), (.int i2)])) _
    refine X0.arraylength hx (by rw [e0]; exact Ar11.1) (State.isArrayOf_alike hZ.alike Ar11.2.1) (g := (mkF m 35 #[.val (.ref r0), .val (.ref r1), .val (.int i2), .val (.ref r0), .val (.int z1), .val (.int i5), .val (.long x), .second] [(.ref r1), (.int i2)])) rfl rfl (hb hby d3_35) _ ?_
    rw [len_of S11 M11]
    show Steps p.tables e below (T0.setTop (mkF m 36 #[.val (.ref r0), .val (.ref r1), .val (.int i2), .val (.ref r0), .val (.int z1), .val (.int i5), .val (.long x), .second] [(.int z2), (.int i2)])) _
    refine XS.icmpYes X0.here hx rfl (pc0 := 36) (pc' := 54) rfl (hb hby d3_36) rfl (flt hlt).2.1 (by decide) (by decide) ?_
    exact k)
  exact pre12
set_option maxRecDepth 65536 in
set_option maxHeartbeats 40000000 in
theorem tI3 {p : Program} {l : Launch} {e : Env} {s : State} {m : MethodId} {args : Array Value} {below : List Frame} {meth : Method} {c : Code} {T0 : State} {locs0 : List Loc} {Z : State} {a0 : Array Value} (r0 : Addr) (r1 : Addr) (i2 : Int32) (z1 : Int32) (z2 : Int32) (i5 : Int32) (x : Int64) (f1 : Nat → Int64) (f2 : Nat → Int64) (h0 : Heap) (n0 : Nat) (X0 : Stand p l e ({ frames := 0, cells := 0, slots := 0, locals := 0 } : Room) s m args below meth c T0 locs0 0 0) (hx : p.tables.exec = Jvm.exec) (hZ : Z.Warmed39 s.vm) (hw : ∀ d ∈ tables_1, d.before a0 Z = true) (hby : c.code = prog_3_method_11_code) (hml : c.maxLocals = 8) (hown : s.vm.findClass "com/example/honeybee/honeybee/calculus/Clause" = some m.cls) (e0 : T0.heap = h0) (Z0 : n0 ≤ h0.size) (N0 : Fr n0 locs0) (hp0 : AL Z h0 r0 z1 f1) (hp1 : AL Z h0 r1 z2 f2) (hz : ¬ i2 < (0 : Int32)) (hlt : i2 < z2) (hv : ¬ (f2 (i2).toNatClampNeg) < x) :
    ∀ t, Steps p.tables e below (T0.setTop (mkF m 54 #[.val (.ref r0), .val (.ref r1), .val (.int i2), .val (.ref r0), .val (.int z1), .val (.int i5), .val (.long x), .second] [])) t → Steps p.tables e below (T0.setTop (mkF m 33 #[.val (.ref r0), .val (.ref r1), .val (.int i2), .val (.ref r0), .val (.int z1), .val (.int i5), .val (.long x), .second] [])) t := by
  have pre0 : ∀ t, Steps p.tables e below (T0.setTop (mkF m 33 #[.val (.ref r0), .val (.ref r1), .val (.int i2), .val (.ref r0), .val (.int z1), .val (.int i5), .val (.long x), .second] [])) t → Steps p.tables e below (T0.setTop (mkF m 33 #[.val (.ref r0), .val (.ref r1), .val (.int i2), .val (.ref r0), .val (.int z1), .val (.int i5), .val (.long x), .second] [])) t := fun t k => k
  obtain ⟨cl11, Ar11, S11, M11, I11⟩ := id hp1
  obtain ⟨cl12, Ar12, S12, M12, I12⟩ := id hp1
  have hin12 : ¬ (i2 < 0 ∨ cl12.slots.size ≤ (i2).toNatClampNeg) := inb_of S12 ⟨hz, hlt⟩
  have hat12 : cl12.slots[(i2).toNatClampNeg]? = some (.long (f2 (i2).toNatClampNeg)) := I12 _ (Nat.lt_of_not_le fun y => hin12 (Or.inr y))
  have pre13 : ∀ t, Steps p.tables e below (T0.setTop (mkF m 54 #[.val (.ref r0), .val (.ref r1), .val (.int i2), .val (.ref r0), .val (.int z1), .val (.int i5), .val (.long x), .second] [])) t → Steps p.tables e below (T0.setTop (mkF m 33 #[.val (.ref r0), .val (.ref r1), .val (.int i2), .val (.ref r0), .val (.int z1), .val (.int i5), .val (.long x), .second] [])) t := fun t k => pre0 t (by
    refine XS.iloadN X0.here hx rfl (hb hby d3_33) rfl ?_
    show Steps p.tables e below (T0.setTop (mkF m 34 #[.val (.ref r0), .val (.ref r1), .val (.int i2), .val (.ref r0), .val (.int z1), .val (.int i5), .val (.long x), .second] [(.int i2)])) _
    refine XS.aloadN X0.here hx rfl (hb hby d3_34) rfl rfl ?_
    show Steps p.tables e below (T0.setTop (mkF m 35 #[.val (.ref r0), .val (.ref r1), .val (.int i2), .val (.ref r0), .val (.int z1), .val (.int i5), .val (.long x), .second] [(.ref r1), (.int i2)])) _
    refine X0.arraylength hx (by rw [e0]; exact Ar11.1) (State.isArrayOf_alike hZ.alike Ar11.2.1) (g := (mkF m 35 #[.val (.ref r0), .val (.ref r1), .val (.int i2), .val (.ref r0), .val (.int z1), .val (.int i5), .val (.long x), .second] [(.ref r1), (.int i2)])) rfl rfl (hb hby d3_35) _ ?_
    rw [len_of S11 M11]
    show Steps p.tables e below (T0.setTop (mkF m 36 #[.val (.ref r0), .val (.ref r1), .val (.int i2), .val (.ref r0), .val (.int z1), .val (.int i5), .val (.long x), .second] [(.int z2), (.int i2)])) _
    refine XS.icmpNo X0.here hx rfl (hb hby d3_36) rfl (tlt hlt).2.1 ?_
    show Steps p.tables e below (T0.setTop (mkF m 39 #[.val (.ref r0), .val (.ref r1), .val (.int i2), .val (.ref r0), .val (.int z1), .val (.int i5), .val (.long x), .second] [])) _
    refine XS.aloadN X0.here hx rfl (hb hby d3_39) rfl rfl ?_
    show Steps p.tables e below (T0.setTop (mkF m 40 #[.val (.ref r0), .val (.ref r1), .val (.int i2), .val (.ref r0), .val (.int z1), .val (.int i5), .val (.long x), .second] [(.ref r1)])) _
    refine XS.iloadN X0.here hx rfl (hb hby d3_40) rfl ?_
    show Steps p.tables e below (T0.setTop (mkF m 41 #[.val (.ref r0), .val (.ref r1), .val (.int i2), .val (.ref r0), .val (.int z1), .val (.int i5), .val (.long x), .second] [(.int i2), (.ref r1)])) _
    refine X0.laload hx (j := i2) (v := (.long (f2 (i2).toNatClampNeg))) (by rw [e0]; exact Ar12.1) (State.isArrayOf_alike hZ.alike Ar12.2.1) Ar12.2.2 hin12 hat12 (g := (mkF m 41 #[.val (.ref r0), .val (.ref r1), .val (.int i2), .val (.ref r0), .val (.int z1), .val (.int i5), .val (.long x), .second] [(.int i2), (.ref r1)])) rfl rfl (hb hby d3_41) _ ?_
    show Steps p.tables e below (T0.setTop (mkF m 42 #[.val (.ref r0), .val (.ref r1), .val (.int i2), .val (.ref r0), .val (.int z1), .val (.int i5), .val (.long x), .second] [(.long (f2 (i2).toNatClampNeg))])) _
    refine XS.lload X0.here hx rfl (hb hby d3_42) rfl ?_
    show Steps p.tables e below (T0.setTop (mkF m 44 #[.val (.ref r0), .val (.ref r1), .val (.int i2), .val (.ref r0), .val (.int z1), .val (.int i5), .val (.long x), .second] [(.long x), (.long (f2 (i2).toNatClampNeg))])) _
    refine XS.lcmp X0.here hx rfl (hb hby d3_44) rfl ?_
    show Steps p.tables e below (T0.setTop (mkF m 45 #[.val (.ref r0), .val (.ref r1), .val (.int i2), .val (.ref r0), .val (.int z1), .val (.int i5), .val (.long x), .second] [(.int (lcmpW (f2 (i2).toNatClampNeg) x))])) _
    refine XS.ifYes X0.here hx rfl (pc0 := 45) (pc' := 54) rfl (hb hby d3_45) rfl ((if0 _ _).trans (flt (fun q => hv ((lw_lt (f2 (i2).toNatClampNeg) x).mp q))).2.1) (by decide) (by decide) ?_
    exact k)
  exact pre13
theorem d3_54 : decode prog_3_method_11_code 54 = .ok (.iload_n 2, 1) := by decide +kernel
theorem d3_55 : decode prog_3_method_11_code 55 = .ok (.aload_n 1, 1) := by decide +kernel
theorem d3_56 : decode prog_3_method_11_code 56 = .ok (.arraylength, 1) := by decide +kernel
theorem d3_57 : decode prog_3_method_11_code 57 = .ok (.if_icmp .eq 12, 3) := by decide +kernel
set_option maxRecDepth 65536 in
set_option maxHeartbeats 40000000 in
theorem tA1 {p : Program} {l : Launch} {e : Env} {s : State} {m : MethodId} {args : Array Value} {below : List Frame} {meth : Method} {c : Code} {T0 : State} {locs0 : List Loc} {Z : State} {a0 : Array Value} (r0 : Addr) (r1 : Addr) (i2 : Int32) (z1 : Int32) (z2 : Int32) (i5 : Int32) (x : Int64) (f1 : Nat → Int64) (f2 : Nat → Int64) (h0 : Heap) (n0 : Nat) (X0 : Stand p l e ({ frames := 0, cells := 0, slots := 0, locals := 0 } : Room) s m args below meth c T0 locs0 0 0) (hx : p.tables.exec = Jvm.exec) (hZ : Z.Warmed39 s.vm) (hw : ∀ d ∈ tables_1, d.before a0 Z = true) (hby : c.code = prog_3_method_11_code) (hml : c.maxLocals = 8) (hown : s.vm.findClass "com/example/honeybee/honeybee/calculus/Clause" = some m.cls) (e0 : T0.heap = h0) (Z0 : n0 ≤ h0.size) (N0 : Fr n0 locs0) (hp0 : AL Z h0 r0 z1 f1) (hp1 : AL Z h0 r1 z2 f2) (hq : i2 = z2) :
    ∀ t, Steps p.tables e below (T0.setTop (mkF m 69 #[.val (.ref r0), .val (.ref r1), .val (.int i2), .val (.ref r0), .val (.int z1), .val (.int i5), .val (.long x), .second] [])) t → Steps p.tables e below (T0.setTop (mkF m 54 #[.val (.ref r0), .val (.ref r1), .val (.int i2), .val (.ref r0), .val (.int z1), .val (.int i5), .val (.long x), .second] [])) t := by
  have pre0 : ∀ t, Steps p.tables e below (T0.setTop (mkF m 54 #[.val (.ref r0), .val (.ref r1), .val (.int i2), .val (.ref r0), .val (.int z1), .val (.int i5), .val (.long x), .second] [])) t → Steps p.tables e below (T0.setTop (mkF m 54 #[.val (.ref r0), .val (.ref r1), .val (.int i2), .val (.ref r0), .val (.int z1), .val (.int i5), .val (.long x), .second] [])) t := fun t k => k
  obtain ⟨cl11, Ar11, S11, M11, I11⟩ := id hp1
  have pre12 : ∀ t, Steps p.tables e below (T0.setTop (mkF m 69 #[.val (.ref r0), .val (.ref r1), .val (.int i2), .val (.ref r0), .val (.int z1), .val (.int i5), .val (.long x), .second] [])) t → Steps p.tables e below (T0.setTop (mkF m 54 #[.val (.ref r0), .val (.ref r1), .val (.int i2), .val (.ref r0), .val (.int z1), .val (.int i5), .val (.long x), .second] [])) t := fun t k => pre0 t (by
    refine XS.iloadN X0.here hx rfl (hb hby d3_54) rfl ?_
    show Steps p.tables e below (T0.setTop (mkF m 55 #[.val (.ref r0), .val (.ref r1), .val (.int i2), .val (.ref r0), .val (.int z1), .val (.int i5), .val (.long x), .second] [(.int i2)])) _
    refine XS.aloadN X0.here hx rfl (hb hby d3_55) rfl rfl ?_
    show Steps p.tables e below (T0.setTop (mkF m 56 #[.val (.ref r0), .val (.ref r1), .val (.int i2), .val (.ref r0), .val (.int z1), .val (.int i5), .val (.long x), .second] [(.ref r1), (.int i2)])) _
    refine X0.arraylength hx (by rw [e0]; exact Ar11.1) (State.isArrayOf_alike hZ.alike Ar11.2.1) (g := (mkF m 56 #[.val (.ref r0), .val (.ref r1), .val (.int i2), .val (.ref r0), .val (.int z1), .val (.int i5), .val (.long x), .second] [(.ref r1), (.int i2)])) rfl rfl (hb hby d3_56) _ ?_
    rw [len_of S11 M11]
    show Steps p.tables e below (T0.setTop (mkF m 57 #[.val (.ref r0), .val (.ref r1), .val (.int i2), .val (.ref r0), .val (.int z1), .val (.int i5), .val (.long x), .second] [(.int z2), (.int i2)])) _
    refine XS.icmpYes X0.here hx rfl (pc0 := 57) (pc' := 69) rfl (hb hby d3_57) rfl (teq hq).1 (by decide) (by decide) ?_
    exact k)
  exact pre12
theorem d3_60 : decode prog_3_method_11_code 60 = .ok (.aload_n 1, 1) := by decide +kernel
theorem d3_61 : decode prog_3_method_11_code 61 = .ok (.iload_n 2, 1) := by decide +kernel
theorem d3_62 : decode prog_3_method_11_code 62 = .ok (.laload, 1) := by decide +kernel
theorem d3_63 : decode prog_3_method_11_code 63 = .ok (.lload 6, 2) := by decide +kernel
theorem d3_65 : decode prog_3_method_11_code 65 = .ok (.lcmp, 1) := by decide +kernel
theorem d3_66 : decode prog_3_method_11_code 66 = .ok (.ifCond .eq 5, 3) := by decide +kernel
set_option maxRecDepth 65536 in
set_option maxHeartbeats 40000000 in
theorem tA2 {p : Program} {l : Launch} {e : Env} {s : State} {m : MethodId} {args : Array Value} {below : List Frame} {meth : Method} {c : Code} {T0 : State} {locs0 : List Loc} {Z : State} {a0 : Array Value} (r0 : Addr) (r1 : Addr) (i2 : Int32) (z1 : Int32) (z2 : Int32) (i5 : Int32) (x : Int64) (f1 : Nat → Int64) (f2 : Nat → Int64) (h0 : Heap) (n0 : Nat) (X0 : Stand p l e ({ frames := 0, cells := 0, slots := 0, locals := 0 } : Room) s m args below meth c T0 locs0 0 0) (hx : p.tables.exec = Jvm.exec) (hZ : Z.Warmed39 s.vm) (hw : ∀ d ∈ tables_1, d.before a0 Z = true) (hby : c.code = prog_3_method_11_code) (hml : c.maxLocals = 8) (hown : s.vm.findClass "com/example/honeybee/honeybee/calculus/Clause" = some m.cls) (e0 : T0.heap = h0) (Z0 : n0 ≤ h0.size) (N0 : Fr n0 locs0) (hp0 : AL Z h0 r0 z1 f1) (hp1 : AL Z h0 r1 z2 f2) (hq : ¬ i2 = z2) (hz : ¬ i2 < (0 : Int32)) (hlt : i2 < z2) (hv : ¬ (f2 (i2).toNatClampNeg) = x) :
    ∀ t, Steps p.tables e below (T0.setTop (mkF m 69 #[.val (.ref r0), .val (.ref r1), .val (.int i2), .val (.ref r0), .val (.int z1), .val (.int i5), .val (.long x), .second] [])) t → Steps p.tables e below (T0.setTop (mkF m 54 #[.val (.ref r0), .val (.ref r1), .val (.int i2), .val (.ref r0), .val (.int z1), .val (.int i5), .val (.long x), .second] [])) t := by
  have pre0 : ∀ t, Steps p.tables e below (T0.setTop (mkF m 54 #[.val (.ref r0), .val (.ref r1), .val (.int i2), .val (.ref r0), .val (.int z1), .val (.int i5), .val (.long x), .second] [])) t → Steps p.tables e below (T0.setTop (mkF m 54 #[.val (.ref r0), .val (.ref r1), .val (.int i2), .val (.ref r0), .val (.int z1), .val (.int i5), .val (.long x), .second] [])) t := fun t k => k
  obtain ⟨cl11, Ar11, S11, M11, I11⟩ := id hp1
  obtain ⟨cl12, Ar12, S12, M12, I12⟩ := id hp1
  have hin12 : ¬ (i2 < 0 ∨ cl12.slots.size ≤ (i2).toNatClampNeg) := inb_of S12 ⟨hz, hlt⟩
  have hat12 : cl12.slots[(i2).toNatClampNeg]? = some (.long (f2 (i2).toNatClampNeg)) := I12 _ (Nat.lt_of_not_le fun y => hin12 (Or.inr y))
  have pre13 : ∀ t, Steps p.tables e below (T0.setTop (mkF m 69 #[.val (.ref r0), .val (.ref r1), .val (.int i2), .val (.ref r0), .val (.int z1), .val (.int i5), .val (.long x), .second] [])) t → Steps p.tables e below (T0.setTop (mkF m 54 #[.val (.ref r0), .val (.ref r1), .val (.int i2), .val (.ref r0), .val (.int z1), .val (.int i5), .val (.long x), .second] [])) t := fun t k => pre0 t (by
    refine XS.iloadN X0.here hx rfl (hb hby d3_54) rfl ?_
    show Steps p.tables e below (T0.setTop (mkF m 55 #[.val (.ref r0), .val (.ref r1), .val (.int i2), .val (.ref r0), .val (.int z1), .val (.int i5), .val (.long x), .second] [(.int i2)])) _
    refine XS.aloadN X0.here hx rfl (hb hby d3_55) rfl rfl ?_
    show Steps p.tables e below (T0.setTop (mkF m 56 #[.val (.ref r0), .val (.ref r1), .val (.int i2), .val (.ref r0), .val (.int z1), .val (.int i5), .val (.long x), .second] [(.ref r1), (.int i2)])) _
    refine X0.arraylength hx (by rw [e0]; exact Ar11.1) (State.isArrayOf_alike hZ.alike Ar11.2.1) (g := (mkF m 56 #[.val (.ref r0), .val (.ref r1), .val (.int i2), .val (.ref r0), .val (.int z1), .val (.int i5), .val (.long x), .second] [(.ref r1), (.int i2)])) rfl rfl (hb hby d3_56) _ ?_
    rw [len_of S11 M11]
    show Steps p.tables e below (T0.setTop (mkF m 57 #[.val (.ref r0), .val (.ref r1), .val (.int i2), .val (.ref r0), .val (.int z1), .val (.int i5), .val (.long x), .second] [(.int z2), (.int i2)])) _
    refine XS.icmpNo X0.here hx rfl (hb hby d3_57) rfl (feq hq).1 ?_
    show Steps p.tables e below (T0.setTop (mkF m 60 #[.val (.ref r0), .val (.ref r1), .val (.int i2), .val (.ref r0), .val (.int z1), .val (.int i5), .val (.long x), .second] [])) _
    refine XS.aloadN X0.here hx rfl (hb hby d3_60) rfl rfl ?_
    show Steps p.tables e below (T0.setTop (mkF m 61 #[.val (.ref r0), .val (.ref r1), .val (.int i2), .val (.ref r0), .val (.int z1), .val (.int i5), .val (.long x), .second] [(.ref r1)])) _
    refine XS.iloadN X0.here hx rfl (hb hby d3_61) rfl ?_
    show Steps p.tables e below (T0.setTop (mkF m 62 #[.val (.ref r0), .val (.ref r1), .val (.int i2), .val (.ref r0), .val (.int z1), .val (.int i5), .val (.long x), .second] [(.int i2), (.ref r1)])) _
    refine X0.laload hx (j := i2) (v := (.long (f2 (i2).toNatClampNeg))) (by rw [e0]; exact Ar12.1) (State.isArrayOf_alike hZ.alike Ar12.2.1) Ar12.2.2 hin12 hat12 (g := (mkF m 62 #[.val (.ref r0), .val (.ref r1), .val (.int i2), .val (.ref r0), .val (.int z1), .val (.int i5), .val (.long x), .second] [(.int i2), (.ref r1)])) rfl rfl (hb hby d3_62) _ ?_
    show Steps p.tables e below (T0.setTop (mkF m 63 #[.val (.ref r0), .val (.ref r1), .val (.int i2), .val (.ref r0), .val (.int z1), .val (.int i5), .val (.long x), .second] [(.long (f2 (i2).toNatClampNeg))])) _
    refine XS.lload X0.here hx rfl (hb hby d3_63) rfl ?_
    show Steps p.tables e below (T0.setTop (mkF m 65 #[.val (.ref r0), .val (.ref r1), .val (.int i2), .val (.ref r0), .val (.int z1), .val (.int i5), .val (.long x), .second] [(.long x), (.long (f2 (i2).toNatClampNeg))])) _
    refine XS.lcmp X0.here hx rfl (hb hby d3_65) rfl ?_
    show Steps p.tables e below (T0.setTop (mkF m 66 #[.val (.ref r0), .val (.ref r1), .val (.int i2), .val (.ref r0), .val (.int z1), .val (.int i5), .val (.long x), .second] [(.int (lcmpW (f2 (i2).toNatClampNeg) x))])) _
    refine XS.ifNo X0.here hx rfl (hb hby d3_66) rfl ((if0 _ _).trans (feq (fun q => hv ((lw_eq (f2 (i2).toNatClampNeg) x).mp q))).1) ?_
    exact k)
  exact pre13
theorem d3_71 : decode prog_3_method_11_code 71 = .ok (.iinc 2 1, 3) := by decide +kernel
theorem d3_74 : decode prog_3_method_11_code 74 = .ok (.iinc 5 1, 3) := by decide +kernel
theorem d3_77 : decode prog_3_method_11_code 77 = .ok (.goto (-57), 3) := by decide +kernel
set_option maxRecDepth 65536 in
set_option maxHeartbeats 40000000 in
theorem tA3 {p : Program} {l : Launch} {e : Env} {s : State} {m : MethodId} {args : Array Value} {below : List Frame} {meth : Method} {c : Code} {T0 : State} {locs0 : List Loc} {Z : State} {a0 : Array Value} (r0 : Addr) (r1 : Addr) (i2 : Int32) (z1 : Int32) (z2 : Int32) (i5 : Int32) (x : Int64) (f1 : Nat → Int64) (f2 : Nat → Int64) (h0 : Heap) (n0 : Nat) (X0 : Stand p l e ({ frames := 0, cells := 0, slots := 0, locals := 0 } : Room) s m args below meth c T0 locs0 0 0) (hx : p.tables.exec = Jvm.exec) (hZ : Z.Warmed39 s.vm) (hw : ∀ d ∈ tables_1, d.before a0 Z = true) (hby : c.code = prog_3_method_11_code) (hml : c.maxLocals = 8) (hown : s.vm.findClass "com/example/honeybee/honeybee/calculus/Clause" = some m.cls) (e0 : T0.heap = h0) (Z0 : n0 ≤ h0.size) (N0 : Fr n0 locs0) (hp0 : AL Z h0 r0 z1 f1) (hp1 : AL Z h0 r1 z2 f2) (hq : ¬ i2 = z2) (hz : ¬ i2 < (0 : Int32)) (hlt : i2 < z2) (hv : (f2 (i2).toNatClampNeg) = x) :
    ∀ t, Steps p.tables e below (T0.setTop (mkF m 20 #[.val (.ref r0), .val (.ref r1), .val (.int (i2 + (1 : Int32))), .val (.ref r0), .val (.int z1), .val (.int (i5 + (1 : Int32))), .val (.long x), .second] [])) t → Steps p.tables e below (T0.setTop (mkF m 54 #[.val (.ref r0), .val (.ref r1), .val (.int i2), .val (.ref r0), .val (.int z1), .val (.int i5), .val (.long x), .second] [])) t := by
  have pre0 : ∀ t, Steps p.tables e below (T0.setTop (mkF m 54 #[.val (.ref r0), .val (.ref r1), .val (.int i2), .val (.ref r0), .val (.int z1), .val (.int i5), .val (.long x), .second] [])) t → Steps p.tables e below (T0.setTop (mkF m 54 #[.val (.ref r0), .val (.ref r1), .val (.int i2), .val (.ref r0), .val (.int z1), .val (.int i5), .val (.long x), .second] [])) t := fun t k => k
  obtain ⟨cl11, Ar11, S11, M11, I11⟩ := id hp1
  obtain ⟨cl12, Ar12, S12, M12, I12⟩ := id hp1
  have hin12 : ¬ (i2 < 0 ∨ cl12.slots.size ≤ (i2).toNatClampNeg) := inb_of S12 ⟨hz, hlt⟩
  have hat12 : cl12.slots[(i2).toNatClampNeg]? = some (.long (f2 (i2).toNatClampNeg)) := I12 _ (Nat.lt_of_not_le fun y => hin12 (Or.inr y))
  have pre13 : ∀ t, Steps p.tables e below (T0.setTop (mkF m 20 #[.val (.ref r0), .val (.ref r1), .val (.int (i2 + (1 : Int32))), .val (.ref r0), .val (.int z1), .val (.int (i5 + (1 : Int32))), .val (.long x), .second] [])) t → Steps p.tables e below (T0.setTop (mkF m 54 #[.val (.ref r0), .val (.ref r1), .val (.int i2), .val (.ref r0), .val (.int z1), .val (.int i5), .val (.long x), .second] [])) t := fun t k => pre0 t (by
    refine XS.iloadN X0.here hx rfl (hb hby d3_54) rfl ?_
    show Steps p.tables e below (T0.setTop (mkF m 55 #[.val (.ref r0), .val (.ref r1), .val (.int i2), .val (.ref r0), .val (.int z1), .val (.int i5), .val (.long x), .second] [(.int i2)])) _
    refine XS.aloadN X0.here hx rfl (hb hby d3_55) rfl rfl ?_
    show Steps p.tables e below (T0.setTop (mkF m 56 #[.val (.ref r0), .val (.ref r1), .val (.int i2), .val (.ref r0), .val (.int z1), .val (.int i5), .val (.long x), .second] [(.ref r1), (.int i2)])) _
    refine X0.arraylength hx (by rw [e0]; exact Ar11.1) (State.isArrayOf_alike hZ.alike Ar11.2.1) (g := (mkF m 56 #[.val (.ref r0), .val (.ref r1), .val (.int i2), .val (.ref r0), .val (.int z1), .val (.int i5), .val (.long x), .second] [(.ref r1), (.int i2)])) rfl rfl (hb hby d3_56) _ ?_
    rw [len_of S11 M11]
    show Steps p.tables e below (T0.setTop (mkF m 57 #[.val (.ref r0), .val (.ref r1), .val (.int i2), .val (.ref r0), .val (.int z1), .val (.int i5), .val (.long x), .second] [(.int z2), (.int i2)])) _
    refine XS.icmpNo X0.here hx rfl (hb hby d3_57) rfl (feq hq).1 ?_
    show Steps p.tables e below (T0.setTop (mkF m 60 #[.val (.ref r0), .val (.ref r1), .val (.int i2), .val (.ref r0), .val (.int z1), .val (.int i5), .val (.long x), .second] [])) _
    refine XS.aloadN X0.here hx rfl (hb hby d3_60) rfl rfl ?_
    show Steps p.tables e below (T0.setTop (mkF m 61 #[.val (.ref r0), .val (.ref r1), .val (.int i2), .val (.ref r0), .val (.int z1), .val (.int i5), .val (.long x), .second] [(.ref r1)])) _
    refine XS.iloadN X0.here hx rfl (hb hby d3_61) rfl ?_
    show Steps p.tables e below (T0.setTop (mkF m 62 #[.val (.ref r0), .val (.ref r1), .val (.int i2), .val (.ref r0), .val (.int z1), .val (.int i5), .val (.long x), .second] [(.int i2), (.ref r1)])) _
    refine X0.laload hx (j := i2) (v := (.long (f2 (i2).toNatClampNeg))) (by rw [e0]; exact Ar12.1) (State.isArrayOf_alike hZ.alike Ar12.2.1) Ar12.2.2 hin12 hat12 (g := (mkF m 62 #[.val (.ref r0), .val (.ref r1), .val (.int i2), .val (.ref r0), .val (.int z1), .val (.int i5), .val (.long x), .second] [(.int i2), (.ref r1)])) rfl rfl (hb hby d3_62) _ ?_
    show Steps p.tables e below (T0.setTop (mkF m 63 #[.val (.ref r0), .val (.ref r1), .val (.int i2), .val (.ref r0), .val (.int z1), .val (.int i5), .val (.long x), .second] [(.long (f2 (i2).toNatClampNeg))])) _
    refine XS.lload X0.here hx rfl (hb hby d3_63) rfl ?_
    show Steps p.tables e below (T0.setTop (mkF m 65 #[.val (.ref r0), .val (.ref r1), .val (.int i2), .val (.ref r0), .val (.int z1), .val (.int i5), .val (.long x), .second] [(.long x), (.long (f2 (i2).toNatClampNeg))])) _
    refine XS.lcmp X0.here hx rfl (hb hby d3_65) rfl ?_
    show Steps p.tables e below (T0.setTop (mkF m 66 #[.val (.ref r0), .val (.ref r1), .val (.int i2), .val (.ref r0), .val (.int z1), .val (.int i5), .val (.long x), .second] [(.int (lcmpW (f2 (i2).toNatClampNeg) x))])) _
    refine XS.ifYes X0.here hx rfl (pc0 := 66) (pc' := 71) rfl (hb hby d3_66) rfl ((if0 _ _).trans (teq ((lw_eq (f2 (i2).toNatClampNeg) x).mpr hv)).1) (by decide) (by decide) ?_
    show Steps p.tables e below (T0.setTop (mkF m 71 #[.val (.ref r0), .val (.ref r1), .val (.int i2), .val (.ref r0), .val (.int z1), .val (.int i5), .val (.long x), .second] [])) _
    refine XS.iinc X0.here hx rfl (hb hby d3_71) rfl (l' := #[.val (.ref r0), .val (.ref r1), .val (.int (i2 + (1 : Int32))), .val (.ref r0), .val (.int z1), .val (.int i5), .val (.long x), .second]) rfl ?_
    show Steps p.tables e below (T0.setTop (mkF m 74 #[.val (.ref r0), .val (.ref r1), .val (.int (i2 + (1 : Int32))), .val (.ref r0), .val (.int z1), .val (.int i5), .val (.long x), .second] [])) _
    refine XS.iinc X0.here hx rfl (hb hby d3_74) rfl (l' := #[.val (.ref r0), .val (.ref r1), .val (.int (i2 + (1 : Int32))), .val (.ref r0), .val (.int z1), .val (.int (i5 + (1 : Int32))), .val (.long x), .second]) rfl ?_
    show Steps p.tables e below (T0.setTop (mkF m 77 #[.val (.ref r0), .val (.ref r1), .val (.int (i2 + (1 : Int32))), .val (.ref r0), .val (.int z1), .val (.int (i5 + (1 : Int32))), .val (.long x), .second] [])) _
    refine XS.goto X0.here hx rfl (pc0 := 77) (pc' := 20) rfl (hb hby d3_77) (by decide) (by decide) ?_
    exact k)
  exact pre13
theorem d3_20 : decode prog_3_method_11_code 20 = .ok (.iload 5, 2) := by decide +kernel
theorem d3_22 : decode prog_3_method_11_code 22 = .ok (.iload 4, 2) := by decide +kernel
theorem d3_24 : decode prog_3_method_11_code 24 = .ok (.if_icmp .ge 56, 3) := by decide +kernel
theorem d3_27 : decode prog_3_method_11_code 27 = .ok (.aload_n 3, 1) := by decide +kernel
theorem d3_28 : decode prog_3_method_11_code 28 = .ok (.iload 5, 2) := by decide +kernel
theorem d3_30 : decode prog_3_method_11_code 30 = .ok (.laload, 1) := by decide +kernel
theorem d3_31 : decode prog_3_method_11_code 31 = .ok (.lstore 6, 2) := by decide +kernel
set_option maxRecDepth 65536 in
set_option maxHeartbeats 40000000 in
theorem tO1J {p : Program} {l : Launch} {e : Env} {s : State} {m : MethodId} {args : Array Value} {below : List Frame} {meth : Method} {c : Code} {T0 : State} {locs0 : List Loc} {Z : State} {a0 : Array Value} (r0 : Addr) (r1 : Addr) (i2 : Int32) (z1 : Int32) (z2 : Int32) (i5 : Int32) (x : Int64) (f1 : Nat → Int64) (f2 : Nat → Int64) (h0 : Heap) (n0 : Nat) (X0 : Stand p l e ({ frames := 0, cells := 0, slots := 0, locals := 0 } : Room) s m args below meth c T0 locs0 0 0) (hx : p.tables.exec = Jvm.exec) (hZ : Z.Warmed39 s.vm) (hw : ∀ d ∈ tables_1, d.before a0 Z = true) (hby : c.code = prog_3_method_11_code) (hml : c.maxLocals = 8) (hown : s.vm.findClass "com/example/honeybee/honeybee/calculus/Clause" = some m.cls) (e0 : T0.heap = h0) (Z0 : n0 ≤ h0.size) (N0 : Fr n0 locs0) (hp0 : AL Z h0 r0 z1 f1) (hp1 : AL Z h0 r1 z2 f2) (hz5 : ¬ i5 < (0 : Int32)) (hl5 : i5 < z1) :
    ∀ t, Steps p.tables e below (T0.setTop (mkF m 33 #[.val (.ref r0), .val (.ref r1), .val (.int i2), .val (.ref r0), .val (.int z1), .val (.int i5), .val (.long (f1 (i5).toNatClampNeg)), .second] [])) t → Steps p.tables e below (T0.setTop (mkF m 20 #[.val (.ref r0), .val (.ref r1), .val (.int i2), .val (.ref r0), .val (.int z1), .val (.int i5), .val (.long x), .second] [])) t := by
  have pre0 : ∀ t, Steps p.tables e below (T0.setTop (mkF m 20 #[.val (.ref r0), .val (.ref r1), .val (.int i2), .val (.ref r0), .val (.int z1), .val (.int i5), .val (.long x), .second] [])) t → Steps p.tables e below (T0.setTop (mkF m 20 #[.val (.ref r0), .val (.ref r1), .val (.int i2), .val (.ref r0), .val (.int z1), .val (.int i5), .val (.long x), .second] [])) t := fun t k => k
  obtain ⟨cl11, Ar11, S11, M11, I11⟩ := id hp0
  have hin11 : ¬ (i5 < 0 ∨ cl11.slots.size ≤ (i5).toNatClampNeg) := inb_of S11 ⟨hz5, hl5⟩
  have hat11 : cl11.slots[(i5).toNatClampNeg]? = some (.long (f1 (i5).toNatClampNeg)) := I11 _ (Nat.lt_of_not_le fun y => hin11 (Or.inr y))
  have pre12 : ∀ t, Steps p.tables e below (T0.setTop (mkF m 33 #[.val (.ref r0), .val (.ref r1), .val (.int i2), .val (.ref r0), .val (.int z1), .val (.int i5), .val (.long (f1 (i5).toNatClampNeg)), .second] [])) t → Steps p.tables e below (T0.setTop (mkF m 20 #[.val (.ref r0), .val (.ref r1), .val (.int i2), .val (.ref r0), .val (.int z1), .val (.int i5), .val (.long x), .second] [])) t := fun t k => pre0 t (by
    refine XS.iload X0.here hx rfl (hb hby d3_20) rfl ?_
    show Steps p.tables e below (T0.setTop (mkF m 22 #[.val (.ref r0), .val (.ref r1), .val (.int i2), .val (.ref r0), .val (.int z1), .val (.int i5), .val (.long x), .second] [(.int i5)])) _
    refine XS.iload X0.here hx rfl (hb hby d3_22) rfl ?_
    show Steps p.tables e below (T0.setTop (mkF m 24 #[.val (.ref r0), .val (.ref r1), .val (.int i2), .val (.ref r0), .val (.int z1), .val (.int i5), .val (.long x), .second] [(.int z1), (.int i5)])) _
    refine XS.icmpNo X0.here hx rfl (hb hby d3_24) rfl (tlt hl5).2.1 ?_
    show Steps p.tables e below (T0.setTop (mkF m 27 #[.val (.ref r0), .val (.ref r1), .val (.int i2), .val (.ref r0), .val (.int z1), .val (.int i5), .val (.long x), .second] [])) _
    refine XS.aloadN X0.here hx rfl (hb hby d3_27) rfl rfl ?_
    show Steps p.tables e below (T0.setTop (mkF m 28 #[.val (.ref r0), .val (.ref r1), .val (.int i2), .val (.ref r0), .val (.int z1), .val (.int i5), .val (.long x), .second] [(.ref r0)])) _
    refine XS.iload X0.here hx rfl (hb hby d3_28) rfl ?_
    show Steps p.tables e below (T0.setTop (mkF m 30 #[.val (.ref r0), .val (.ref r1), .val (.int i2), .val (.ref r0), .val (.int z1), .val (.int i5), .val (.long x), .second] [(.int i5), (.ref r0)])) _
    refine X0.laload hx (j := i5) (v := (.long (f1 (i5).toNatClampNeg))) (by rw [e0]; exact Ar11.1) (State.isArrayOf_alike hZ.alike Ar11.2.1) Ar11.2.2 hin11 hat11 (g := (mkF m 30 #[.val (.ref r0), .val (.ref r1), .val (.int i2), .val (.ref r0), .val (.int z1), .val (.int i5), .val (.long x), .second] [(.int i5), (.ref r0)])) rfl rfl (hb hby d3_30) _ ?_
    show Steps p.tables e below (T0.setTop (mkF m 31 #[.val (.ref r0), .val (.ref r1), .val (.int i2), .val (.ref r0), .val (.int z1), .val (.int i5), .val (.long x), .second] [(.long (f1 (i5).toNatClampNeg))])) _
    refine XS.lstore X0.here hx rfl (hb hby d3_31) rfl (l' := #[.val (.ref r0), .val (.ref r1), .val (.int i2), .val (.ref r0), .val (.int z1), .val (.int i5), .val (.long (f1 (i5).toNatClampNeg)), .second]) rfl ?_
    exact k)
  exact pre12
set_option maxRecDepth 65536 in
set_option maxHeartbeats 40000000 in
theorem tO0J {p : Program} {l : Launch} {e : Env} {s : State} {m : MethodId} {args : Array Value} {below : List Frame} {meth : Method} {c : Code} {T0 : State} {locs0 : List Loc} {Z : State} {a0 : Array Value} (r0 : Addr) (r1 : Addr) (i2 : Int32) (z1 : Int32) (z2 : Int32) (i5 : Int32) (x : Int64) (f1 : Nat → Int64) (f2 : Nat → Int64) (h0 : Heap) (n0 : Nat) (X0 : Stand p l e ({ frames := 0, cells := 0, slots := 0, locals := 0 } : Room) s m args below meth c T0 locs0 0 0) (hx : p.tables.exec = Jvm.exec) (hZ : Z.Warmed39 s.vm) (hw : ∀ d ∈ tables_1, d.before a0 Z = true) (hby : c.code = prog_3_method_11_code) (hml : c.maxLocals = 8) (hown : s.vm.findClass "com/example/honeybee/honeybee/calculus/Clause" = some m.cls) (e0 : T0.heap = h0) (Z0 : n0 ≤ h0.size) (N0 : Fr n0 locs0) (hp0 : AL Z h0 r0 z1 f1) (hp1 : AL Z h0 r1 z2 f2) (hl5 : ¬ i5 < z1) :
    ∀ t, Steps p.tables e below (T0.setTop (mkF m 80 #[.val (.ref r0), .val (.ref r1), .val (.int i2), .val (.ref r0), .val (.int z1), .val (.int i5), .val (.long x), .second] [])) t → Steps p.tables e below (T0.setTop (mkF m 20 #[.val (.ref r0), .val (.ref r1), .val (.int i2), .val (.ref r0), .val (.int z1), .val (.int i5), .val (.long x), .second] [])) t := by
  have pre0 : ∀ t, Steps p.tables e below (T0.setTop (mkF m 20 #[.val (.ref r0), .val (.ref r1), .val (.int i2), .val (.ref r0), .val (.int z1), .val (.int i5), .val (.long x), .second] [])) t → Steps p.tables e below (T0.setTop (mkF m 20 #[.val (.ref r0), .val (.ref r1), .val (.int i2), .val (.ref r0), .val (.int z1), .val (.int i5), .val (.long x), .second] [])) t := fun t k => k
  have pre11 : ∀ t, Steps p.tables e below (T0.setTop (mkF m 80 #[.val (.ref r0), .val (.ref r1), .val (.int i2), .val (.ref r0), .val (.int z1), .val (.int i5), .val (.long x), .second] [])) t → Steps p.tables e below (T0.setTop (mkF m 20 #[.val (.ref r0), .val (.ref r1), .val (.int i2), .val (.ref r0), .val (.int z1), .val (.int i5), .val (.long x), .second] [])) t := fun t k => pre0 t (by
    refine XS.iload X0.here hx rfl (hb hby d3_20) rfl ?_
    show Steps p.tables e below (T0.setTop (mkF m 22 #[.val (.ref r0), .val (.ref r1), .val (.int i2), .val (.ref r0), .val (.int z1), .val (.int i5), .val (.long x), .second] [(.int i5)])) _
    refine XS.iload X0.here hx rfl (hb hby d3_22) rfl ?_
    show Steps p.tables e below (T0.setTop (mkF m 24 #[.val (.ref r0), .val (.ref r1), .val (.int i2), .val (.ref r0), .val (.int z1), .val (.int i5), .val (.long x), .second] [(.int z1), (.int i5)])) _
    refine XS.icmpYes X0.here hx rfl (pc0 := 24) (pc' := 80) rfl (hb hby d3_24) rfl (flt hl5).2.1 (by decide) (by decide) ?_
    exact k)
  exact pre11
set_option maxRecDepth 65536 in
set_option maxHeartbeats 40000000 in
theorem tO1U {p : Program} {l : Launch} {e : Env} {s : State} {m : MethodId} {args : Array Value} {below : List Frame} {meth : Method} {c : Code} {T0 : State} {locs0 : List Loc} {Z : State} {a0 : Array Value} (r0 : Addr) (r1 : Addr) (i2 : Int32) (z1 : Int32) (z2 : Int32) (i5 : Int32) (x : Int64) (f1 : Nat → Int64) (f2 : Nat → Int64) (h0 : Heap) (n0 : Nat) (X0 : Stand p l e ({ frames := 0, cells := 0, slots := 0, locals := 0 } : Room) s m args below meth c T0 locs0 0 0) (hx : p.tables.exec = Jvm.exec) (hZ : Z.Warmed39 s.vm) (hw : ∀ d ∈ tables_1, d.before a0 Z = true) (hby : c.code = prog_3_method_11_code) (hml : c.maxLocals = 8) (hown : s.vm.findClass "com/example/honeybee/honeybee/calculus/Clause" = some m.cls) (e0 : T0.heap = h0) (Z0 : n0 ≤ h0.size) (N0 : Fr n0 locs0) (hp0 : AL Z h0 r0 z1 f1) (hp1 : AL Z h0 r1 z2 f2) (hz5 : ¬ i5 < (0 : Int32)) (hl5 : i5 < z1) :
    ∀ t, Steps p.tables e below (T0.setTop (mkF m 33 #[.val (.ref r0), .val (.ref r1), .val (.int i2), .val (.ref r0), .val (.int z1), .val (.int i5), .val (.long (f1 (i5).toNatClampNeg)), .second] [])) t → Steps p.tables e below (T0.setTop (mkF m 20 #[.val (.ref r0), .val (.ref r1), .val (.int i2), .val (.ref r0), .val (.int z1), .val (.int i5), .unset, .unset] [])) t := by
  have pre0 : ∀ t, Steps p.tables e below (T0.setTop (mkF m 20 #[.val (.ref r0), .val (.ref r1), .val (.int i2), .val (.ref r0), .val (.int z1), .val (.int i5), .unset, .unset] [])) t → Steps p.tables e below (T0.setTop (mkF m 20 #[.val (.ref r0), .val (.ref r1), .val (.int i2), .val (.ref r0), .val (.int z1), .val (.int i5), .unset, .unset] [])) t := fun t k => k
  obtain ⟨cl11, Ar11, S11, M11, I11⟩ := id hp0
  have hin11 : ¬ (i5 < 0 ∨ cl11.slots.size ≤ (i5).toNatClampNeg) := inb_of S11 ⟨hz5, hl5⟩
  have hat11 : cl11.slots[(i5).toNatClampNeg]? = some (.long (f1 (i5).toNatClampNeg)) := I11 _ (Nat.lt_of_not_le fun y => hin11 (Or.inr y))
  have pre12 : ∀ t, Steps p.tables e below (T0.setTop (mkF m 33 #[.val (.ref r0), .val (.ref r1), .val (.int i2), .val (.ref r0), .val (.int z1), .val (.int i5), .val (.long (f1 (i5).toNatClampNeg)), .second] [])) t → Steps p.tables e below (T0.setTop (mkF m 20 #[.val (.ref r0), .val (.ref r1), .val (.int i2), .val (.ref r0), .val (.int z1), .val (.int i5), .unset, .unset] [])) t := fun t k => pre0 t (by
    refine XS.iload X0.here hx rfl (hb hby d3_20) rfl ?_
    show Steps p.tables e below (T0.setTop (mkF m 22 #[.val (.ref r0), .val (.ref r1), .val (.int i2), .val (.ref r0), .val (.int z1), .val (.int i5), .unset, .unset] [(.int i5)])) _
    refine XS.iload X0.here hx rfl (hb hby d3_22) rfl ?_
    show Steps p.tables e below (T0.setTop (mkF m 24 #[.val (.ref r0), .val (.ref r1), .val (.int i2), .val (.ref r0), .val (.int z1), .val (.int i5), .unset, .unset] [(.int z1), (.int i5)])) _
    refine XS.icmpNo X0.here hx rfl (hb hby d3_24) rfl (tlt hl5).2.1 ?_
    show Steps p.tables e below (T0.setTop (mkF m 27 #[.val (.ref r0), .val (.ref r1), .val (.int i2), .val (.ref r0), .val (.int z1), .val (.int i5), .unset, .unset] [])) _
    refine XS.aloadN X0.here hx rfl (hb hby d3_27) rfl rfl ?_
    show Steps p.tables e below (T0.setTop (mkF m 28 #[.val (.ref r0), .val (.ref r1), .val (.int i2), .val (.ref r0), .val (.int z1), .val (.int i5), .unset, .unset] [(.ref r0)])) _
    refine XS.iload X0.here hx rfl (hb hby d3_28) rfl ?_
    show Steps p.tables e below (T0.setTop (mkF m 30 #[.val (.ref r0), .val (.ref r1), .val (.int i2), .val (.ref r0), .val (.int z1), .val (.int i5), .unset, .unset] [(.int i5), (.ref r0)])) _
    refine X0.laload hx (j := i5) (v := (.long (f1 (i5).toNatClampNeg))) (by rw [e0]; exact Ar11.1) (State.isArrayOf_alike hZ.alike Ar11.2.1) Ar11.2.2 hin11 hat11 (g := (mkF m 30 #[.val (.ref r0), .val (.ref r1), .val (.int i2), .val (.ref r0), .val (.int z1), .val (.int i5), .unset, .unset] [(.int i5), (.ref r0)])) rfl rfl (hb hby d3_30) _ ?_
    show Steps p.tables e below (T0.setTop (mkF m 31 #[.val (.ref r0), .val (.ref r1), .val (.int i2), .val (.ref r0), .val (.int z1), .val (.int i5), .unset, .unset] [(.long (f1 (i5).toNatClampNeg))])) _
    refine XS.lstore X0.here hx rfl (hb hby d3_31) rfl (l' := #[.val (.ref r0), .val (.ref r1), .val (.int i2), .val (.ref r0), .val (.int z1), .val (.int i5), .val (.long (f1 (i5).toNatClampNeg)), .second]) rfl ?_
    exact k)
  exact pre12
set_option maxRecDepth 65536 in
set_option maxHeartbeats 40000000 in
theorem tO0U {p : Program} {l : Launch} {e : Env} {s : State} {m : MethodId} {args : Array Value} {below : List Frame} {meth : Method} {c : Code} {T0 : State} {locs0 : List Loc} {Z : State} {a0 : Array Value} (r0 : Addr) (r1 : Addr) (i2 : Int32) (z1 : Int32) (z2 : Int32) (i5 : Int32) (x : Int64) (f1 : Nat → Int64) (f2 : Nat → Int64) (h0 : Heap) (n0 : Nat) (X0 : Stand p l e ({ frames := 0, cells := 0, slots := 0, locals := 0 } : Room) s m args below meth c T0 locs0 0 0) (hx : p.tables.exec = Jvm.exec) (hZ : Z.Warmed39 s.vm) (hw : ∀ d ∈ tables_1, d.before a0 Z = true) (hby : c.code = prog_3_method_11_code) (hml : c.maxLocals = 8) (hown : s.vm.findClass "com/example/honeybee/honeybee/calculus/Clause" = some m.cls) (e0 : T0.heap = h0) (Z0 : n0 ≤ h0.size) (N0 : Fr n0 locs0) (hp0 : AL Z h0 r0 z1 f1) (hp1 : AL Z h0 r1 z2 f2) (hl5 : ¬ i5 < z1) :
    ∀ t, Steps p.tables e below (T0.setTop (mkF m 80 #[.val (.ref r0), .val (.ref r1), .val (.int i2), .val (.ref r0), .val (.int z1), .val (.int i5), .unset, .unset] [])) t → Steps p.tables e below (T0.setTop (mkF m 20 #[.val (.ref r0), .val (.ref r1), .val (.int i2), .val (.ref r0), .val (.int z1), .val (.int i5), .unset, .unset] [])) t := by
  have pre0 : ∀ t, Steps p.tables e below (T0.setTop (mkF m 20 #[.val (.ref r0), .val (.ref r1), .val (.int i2), .val (.ref r0), .val (.int z1), .val (.int i5), .unset, .unset] [])) t → Steps p.tables e below (T0.setTop (mkF m 20 #[.val (.ref r0), .val (.ref r1), .val (.int i2), .val (.ref r0), .val (.int z1), .val (.int i5), .unset, .unset] [])) t := fun t k => k
  have pre11 : ∀ t, Steps p.tables e below (T0.setTop (mkF m 80 #[.val (.ref r0), .val (.ref r1), .val (.int i2), .val (.ref r0), .val (.int z1), .val (.int i5), .unset, .unset] [])) t → Steps p.tables e below (T0.setTop (mkF m 20 #[.val (.ref r0), .val (.ref r1), .val (.int i2), .val (.ref r0), .val (.int z1), .val (.int i5), .unset, .unset] [])) t := fun t k => pre0 t (by
    refine XS.iload X0.here hx rfl (hb hby d3_20) rfl ?_
    show Steps p.tables e below (T0.setTop (mkF m 22 #[.val (.ref r0), .val (.ref r1), .val (.int i2), .val (.ref r0), .val (.int z1), .val (.int i5), .unset, .unset] [(.int i5)])) _
    refine XS.iload X0.here hx rfl (hb hby d3_22) rfl ?_
    show Steps p.tables e below (T0.setTop (mkF m 24 #[.val (.ref r0), .val (.ref r1), .val (.int i2), .val (.ref r0), .val (.int z1), .val (.int i5), .unset, .unset] [(.int z1), (.int i5)])) _
    refine XS.icmpYes X0.here hx rfl (pc0 := 24) (pc' := 80) rfl (hb hby d3_24) rfl (flt hl5).2.1 (by decide) (by decide) ?_
    exact k)
  exact pre11
def own_adv (f : Nat → Int64) (x : Int64) : Nat → Nat → Nat
  | 0, j => j
  | k + 1, j => if f j < x then own_adv f x k (j + 1) else j
def own_out (f1 f2 : Nat → Int64) (n2 : Nat) : Nat → Nat → Nat → Int32
  | 0, _, _ => 1
  | k + 1, i, j => if own_adv f2 (f1 i) (n2 - j) j = n2 then 0 else if f2 (own_adv f2 (f1 i) (n2 - j) j) = f1 i then own_out f1 f2 n2 k (i + 1) (own_adv f2 (f1 i) (n2 - j) j + 1) else 0
theorem own_adv_le (f : Nat → Int64) (x : Int64) : ∀ k j, j ≤ own_adv f x k j ∧ own_adv f x k j ≤ j + k
  | 0, j => ⟨Nat.le_refl _, Nat.le_refl _⟩
  | k + 1, j => by
    have ih := own_adv_le f x k (j + 1)
    rw [own_adv]; split
    · omega
    · omega
theorem own_p1 {a b : Int32} (h : a < b) : (a + (1 : Int32)).toInt = a.toInt + 1 := by
  have q := c_iadd a (1 : Int32)
  have r1 := rng32 a
  have r2 := rng32 b
  have r3 := rng32 (a + (1 : Int32))
  have e1 : (1 : Int32).toInt = 1 := by decide
  rw [Int32.lt_iff_toInt_lt] at h
  omega
set_option maxHeartbeats 4000000 in
theorem inI {p : Program} {l : Launch} {e : Env} {s : State} {m : MethodId} {args : Array Value} {below : List Frame} {meth : Method} {c : Code} {T0 : State} {locs0 : List Loc} {Z : State} {a0 : Array Value} (r0 r1 : Addr) (z1 z2 : Int32) (f1 f2 : Nat → Int64) (h0 : Heap) (n0 : Nat) (X0 : Stand p l e ({ frames := 0, cells := 0, slots := 0, locals := 0 } : Room) s m args below meth c T0 locs0 0 0) (hx : p.tables.exec = Jvm.exec) (hZ : Z.Warmed39 s.vm) (hw : ∀ d ∈ tables_1, d.before a0 Z = true) (hby : c.code = prog_3_method_11_code) (hml : c.maxLocals = 8) (hown : s.vm.findClass "com/example/honeybee/honeybee/calculus/Clause" = some m.cls) (e0 : T0.heap = h0) (Z0 : n0 ≤ h0.size) (N0 : Fr n0 locs0) (A1 : AL Z h0 r0 z1 f1) (A2 : AL Z h0 r1 z2 f2) (n1 n2 : Nat) (hn1 : z1.toInt = (n1 : Int)) (hn2 : z2.toInt = (n2 : Int)) (i5 : Int32) (x : Int64) (k : Nat) : ∀ (i2 : Int32) (j : Nat), i2.toInt = (j : Int) → j + k = n2 → ∃ jj : Int32, jj.toInt = ((own_adv f2 x k j : Nat) : Int) ∧ ∀ t, Steps p.tables e below (T0.setTop (mkF m 54 #[.val (.ref r0), .val (.ref r1), .val (.int jj), .val (.ref r0), .val (.int z1), .val (.int i5), .val (.long x), .second] [])) t → Steps p.tables e below (T0.setTop (mkF m 33 #[.val (.ref r0), .val (.ref r1), .val (.int i2), .val (.ref r0), .val (.int z1), .val (.int i5), .val (.long x), .second] [])) t := by
  induction k with
  | zero =>
    intro i2 j hj hk
    exact ⟨i2, by rw [own_adv]; exact hj, tI2 r0 r1 i2 z1 z2 i5 x f1 f2 h0 n0 X0 hx hZ hw hby hml hown e0 Z0 N0 A1 A2 (by rw [Int32.lt_iff_toInt_lt]; omega)⟩
  | succ k ih =>
    intro i2 j hj hk
    have e0' : (0 : Int32).toInt = 0 := by decide
    have hlt : i2 < z2 := by rw [Int32.lt_iff_toInt_lt]; omega
    have hz : ¬ i2 < (0 : Int32) := by rw [Int32.lt_iff_toInt_lt]; omega
    have ix := own_ix hj
    by_cases hv : f2 (i2).toNatClampNeg < x
    · obtain ⟨jj, h1, h2⟩ := ih (i2 + (1 : Int32)) (j + 1) (by rw [own_p1 hlt]; omega) (by omega)
      refine ⟨jj, ?_, fun t q => tI1 r0 r1 i2 z1 z2 i5 x f1 f2 h0 n0 X0 hx hZ hw hby hml hown e0 Z0 N0 A1 A2 hz hlt hv t (h2 t q)⟩
      rw [ix] at hv
      rw [own_adv, if_pos hv]; exact h1
    · refine ⟨i2, ?_, tI3 r0 r1 i2 z1 z2 i5 x f1 f2 h0 n0 X0 hx hZ hw hby hml hown e0 Z0 N0 A1 A2 hz hlt hv⟩
      rw [ix] at hv
      rw [own_adv, if_neg hv]; exact hj
set_option maxHeartbeats 4000000 in
theorem inO {p : Program} {l : Launch} {e : Env} {s : State} {m : MethodId} {args : Array Value} {below : List Frame} {meth : Method} {c : Code} {T0 : State} {locs0 : List Loc} {Z : State} {a0 : Array Value} (r0 r1 : Addr) (z1 z2 : Int32) (f1 f2 : Nat → Int64) (h0 : Heap) (n0 : Nat) (X0 : Stand p l e ({ frames := 0, cells := 0, slots := 0, locals := 0 } : Room) s m args below meth c T0 locs0 0 0) (hx : p.tables.exec = Jvm.exec) (hZ : Z.Warmed39 s.vm) (hw : ∀ d ∈ tables_1, d.before a0 Z = true) (hby : c.code = prog_3_method_11_code) (hml : c.maxLocals = 8) (hown : s.vm.findClass "com/example/honeybee/honeybee/calculus/Clause" = some m.cls) (e0 : T0.heap = h0) (Z0 : n0 ≤ h0.size) (N0 : Fr n0 locs0) (A1 : AL Z h0 r0 z1 f1) (A2 : AL Z h0 r1 z2 f2) (n1 n2 : Nat) (hn1 : z1.toInt = (n1 : Int)) (hn2 : z2.toInt = (n2 : Int)) (k : Nat) : ∀ (i5 i2 : Int32) (i j : Nat) (s6 s7 : Slot), ((s6 = .unset ∧ s7 = .unset) ∨ ∃ y : Int64, s6 = .val (.long y) ∧ s7 = .second) → i5.toInt = (i : Int) → i + k = n1 → i2.toInt = (j : Int) → j ≤ n2 →
    (own_out f1 f2 n2 k i j = 1 ∧ ∃ L8 : Array Slot, ∀ t, Steps p.tables e below (T0.setTop (mkF m 80 L8 [])) t → Steps p.tables e below (T0.setTop (mkF m 20 #[.val (.ref r0), .val (.ref r1), .val (.int i2), .val (.ref r0), .val (.int z1), .val (.int i5), s6, s7] [])) t) ∨ (own_out f1 f2 n2 k i j = 0 ∧ ∃ L6 : Array Slot, ∀ t, Steps p.tables e below (T0.setTop (mkF m 69 L6 [])) t → Steps p.tables e below (T0.setTop (mkF m 20 #[.val (.ref r0), .val (.ref r1), .val (.int i2), .val (.ref r0), .val (.int z1), .val (.int i5), s6, s7] [])) t) := by
  induction k with
  | zero =>
    intro i5 i2 i j s6 s7 hs hi hk hj hjn
    have hl5 : ¬ i5 < z1 := by rw [Int32.lt_iff_toInt_lt]; omega
    rcases hs with ⟨rfl, rfl⟩ | ⟨y, rfl, rfl⟩
    · exact Or.inl ⟨rfl, _, tO0U r0 r1 i2 z1 z2 i5 (0 : Int64) f1 f2 h0 n0 X0 hx hZ hw hby hml hown e0 Z0 N0 A1 A2 hl5⟩
    · exact Or.inl ⟨rfl, _, tO0J r0 r1 i2 z1 z2 i5 y f1 f2 h0 n0 X0 hx hZ hw hby hml hown e0 Z0 N0 A1 A2 hl5⟩
  | succ k ih =>
    intro i5 i2 i j s6 s7 hs hi hk hj hjn
    have e0' : (0 : Int32).toInt = 0 := by decide
    have hl5 : i5 < z1 := by rw [Int32.lt_iff_toInt_lt]; omega
    have hz5 : ¬ i5 < (0 : Int32) := by rw [Int32.lt_iff_toInt_lt]; omega
    have ix5 := own_ix hi
    obtain ⟨jj, hjj, stI⟩ := inI r0 r1 z1 z2 f1 f2 h0 n0 X0 hx hZ hw hby hml hown e0 Z0 N0 A1 A2 n1 n2 hn1 hn2 i5 (f1 (i5).toNatClampNeg) (n2 - j) i2 j hj (by omega)
    have st0 : ∀ t, Steps p.tables e below (T0.setTop (mkF m 54 #[.val (.ref r0), .val (.ref r1), .val (.int jj), .val (.ref r0), .val (.int z1), .val (.int i5), .val (.long (f1 (i5).toNatClampNeg)), .second] [])) t → Steps p.tables e below (T0.setTop (mkF m 20 #[.val (.ref r0), .val (.ref r1), .val (.int i2), .val (.ref r0), .val (.int z1), .val (.int i5), s6, s7] [])) t := by
      intro t q
      have q2 := stI t q
      rcases hs with ⟨rfl, rfl⟩ | ⟨y, rfl, rfl⟩
      · exact tO1U r0 r1 i2 z1 z2 i5 (0 : Int64) f1 f2 h0 n0 X0 hx hZ hw hby hml hown e0 Z0 N0 A1 A2 hz5 hl5 t q2
      · exact tO1J r0 r1 i2 z1 z2 i5 y f1 f2 h0 n0 X0 hx hZ hw hby hml hown e0 Z0 N0 A1 A2 hz5 hl5 t q2
    rw [ix5] at hjj st0
    have le := own_adv_le f2 (f1 i) (n2 - j) j
    have ixj := own_ix hjj
    by_cases hq : own_adv f2 (f1 i) (n2 - j) j = n2
    · refine Or.inr ⟨by rw [own_out, if_pos hq], _, fun t q => st0 t (tA1 r0 r1 jj z1 z2 i5 (f1 i) f1 f2 h0 n0 X0 hx hZ hw hby hml hown e0 Z0 N0 A1 A2 (Int32.toInt_inj.mp (by omega)) t q)⟩
    · have hqz : ¬ jj = z2 := fun e' => hq (by rw [e', hn2] at hjj; omega)
      have hlt : jj < z2 := by rw [Int32.lt_iff_toInt_lt]; omega
      have hz : ¬ jj < (0 : Int32) := by rw [Int32.lt_iff_toInt_lt]; omega
      by_cases hv : f2 (own_adv f2 (f1 i) (n2 - j) j) = f1 i
      · have hv' : f2 (jj).toNatClampNeg = f1 i := by rw [ixj]; exact hv
        have IH := ih (i5 + (1 : Int32)) (jj + (1 : Int32)) (i + 1) (own_adv f2 (f1 i) (n2 - j) j + 1) (.val (.long (f1 i))) .second (Or.inr ⟨_, rfl, rfl⟩) (by rw [own_p1 hl5]; omega) (by omega) (by rw [own_p1 hlt]; omega) (by omega)
        rw [own_out, if_neg hq, if_pos hv]
        rcases IH with ⟨ho, L8, st⟩ | ⟨ho, L6, st⟩
        · exact Or.inl ⟨ho, L8, fun t q => st0 t (tA3 r0 r1 jj z1 z2 i5 (f1 i) f1 f2 h0 n0 X0 hx hZ hw hby hml hown e0 Z0 N0 A1 A2 hqz hz hlt hv' t (st t q))⟩
        · exact Or.inr ⟨ho, L6, fun t q => st0 t (tA3 r0 r1 jj z1 z2 i5 (f1 i) f1 f2 h0 n0 X0 hx hZ hw hby hml hown e0 Z0 N0 A1 A2 hqz hz hlt hv' t (st t q))⟩
      · have hv' : ¬ f2 (jj).toNatClampNeg = f1 i := by rw [ixj]; exact hv
        refine Or.inr ⟨by rw [own_out, if_neg hq, if_neg hv], _, fun t q => st0 t (tA2 r0 r1 jj z1 z2 i5 (f1 i) f1 f2 h0 n0 X0 hx hZ hw hby hml hown e0 Z0 N0 A1 A2 hqz hz hlt hv' t q)⟩
def own_sub (f1 f2 : Nat → Int64) (n1 n2 : Nat) : Int32 := if n2 < n1 then 0 else own_out f1 f2 n2 n1 0 0
theorem own_nn {z : Int32} (h : ¬ z < (0 : Int32)) : z.toInt = (z.toNatClampNeg : Int) := by
  have e0 : (0 : Int32).toInt = 0 := by decide
  rw [Int32.lt_iff_toInt_lt] at h
  rw [← Int32.toNat_toInt]; omega
theorem d3_0 : decode prog_3_method_11_code 0 = .ok (.aload_n 0, 1) := by decide +kernel
theorem d3_1 : decode prog_3_method_11_code 1 = .ok (.arraylength, 1) := by decide +kernel
theorem d3_2 : decode prog_3_method_11_code 2 = .ok (.aload_n 1, 1) := by decide +kernel
theorem d3_3 : decode prog_3_method_11_code 3 = .ok (.arraylength, 1) := by decide +kernel
theorem d3_4 : decode prog_3_method_11_code 4 = .ok (.if_icmp .le 5, 3) := by decide +kernel
theorem d3_7 : decode prog_3_method_11_code 7 = .ok (.iconst 0, 1) := by decide +kernel
theorem d3_8 : decode prog_3_method_11_code 8 = .ok (.ireturn, 1) := by decide +kernel
theorem d3_9 : decode prog_3_method_11_code 9 = .ok (.iconst 0, 1) := by decide +kernel
theorem d3_10 : decode prog_3_method_11_code 10 = .ok (.istore_n 2, 1) := by decide +kernel
theorem d3_11 : decode prog_3_method_11_code 11 = .ok (.aload_n 0, 1) := by decide +kernel
theorem d3_12 : decode prog_3_method_11_code 12 = .ok (.astore_n 3, 1) := by decide +kernel
theorem d3_13 : decode prog_3_method_11_code 13 = .ok (.aload_n 3, 1) := by decide +kernel
theorem d3_14 : decode prog_3_method_11_code 14 = .ok (.arraylength, 1) := by decide +kernel
theorem d3_15 : decode prog_3_method_11_code 15 = .ok (.istore 4, 2) := by decide +kernel
theorem d3_17 : decode prog_3_method_11_code 17 = .ok (.iconst 0, 1) := by decide +kernel
theorem d3_18 : decode prog_3_method_11_code 18 = .ok (.istore 5, 2) := by decide +kernel
theorem d3_69 : decode prog_3_method_11_code 69 = .ok (.iconst 0, 1) := by decide +kernel
theorem d3_70 : decode prog_3_method_11_code 70 = .ok (.ireturn, 1) := by decide +kernel
theorem d3_80 : decode prog_3_method_11_code 80 = .ok (.iconst 1, 1) := by decide +kernel
theorem d3_81 : decode prog_3_method_11_code 81 = .ok (.ireturn, 1) := by decide +kernel
def Q3 (Z : State) (r0 : Addr) (r1 : Addr) (z1 : Int32) (z2 : Int32) (f1 : Nat → Int64) (f2 : Nat → Int64) (h0 : Heap) (n0 : Nat) (v : Option Value) (h : Heap) (L : List Loc) : Prop := v = some (.int (own_sub f1 f2 z1.toNatClampNeg z2.toNatClampNeg)) ∧ Fr n0 L ∧ h = h0
set_option maxRecDepth 65536 in
set_option maxHeartbeats 40000000 in
theorem rm3 (l : Launch) (Z : State) (a0 : Array Value) (hw : ∀ d ∈ tables_1, d.before a0 Z = true) (ws : List Jvm.Cond) (r0 : Addr) (r1 : Addr) (z1 : Int32) (z2 : Int32) (f1 : Nat → Int64) (f2 : Nat → Int64) (h0 : Heap) (n0 : Nat) (Z0 : n0 ≤ h0.size) (hp0 : AL Z h0 r0 z1 f1) (hp1 : AL Z h0 r1 z2 f2) :
    MetFree l (⟨"com/example/honeybee/honeybee/calculus/Clause", "isSubset", "([J[J)Z"⟩ : MethodName) (head1 (Jvm.Cond.code (⟨"com/example/honeybee/honeybee/calculus/Clause", "isSubset", "([J[J)Z"⟩ : MethodName) prog_3_method_11_code 8 (some .boolean) :: ws) ({ frames := 0, cells := 0, slots := 0, locals := 0 } : Room)) (fun a U => a = #[(.ref r0), (.ref r1)] ∧ Z.Warmed39 U.vm ∧ U.heap = h0) (fun _ _ _ _ _ => True) (fun _ U o U' => ∃ v L, o = .returned v ∧ Q3 Z r0 r1 z1 z2 f1 f2 h0 n0 v U'.heap L ∧ FrameEnd U o U' L ({ frames := 0, cells := 0, slots := 0, locals := 0 } : Room).cells ({ frames := 0, cells := 0, slots := 0, locals := 0 } : Room).slots) := by
  refine MetFree.of_bodySF (plainFor_of_name pn_3) hisR ?_
  intro p e s m args below meth c s₁ Bd hml0 hP hK
  obtain ⟨rfl, hZ, hh⟩ := hP
  have hx := Bd.exec
  have hby := Bd.bytes
  have hml : c.maxLocals = 8 := hml0
  have hown : s.vm.findClass "com/example/honeybee/honeybee/calculus/Clause" = some m.cls := findClass_of_methodNamed Bd.named
  have hnm := (name_of_methodNamed Bd.named Bd.method).1
  have X0 : Stand p l e ({ frames := 0, cells := 0, slots := 0, locals := 0 } : Room) s m #[(.ref r0), (.ref r1)] below meth c s₁ [] 0 0 := Stand.of_body Bd
  have e0 : s₁.heap = h0 := by rw [← hh, Bd.state]; rfl
  have N0 := Fr.nil n0
  have pre0 : ∀ t, Steps p.tables e below (s₁.setTop (mkF m 0 #[.val (.ref r0), .val (.ref r1), .unset, .unset, .unset, .unset, .unset, .unset] [])) t → Steps p.tables e below (s₁.setTop (entryFrame m #[(.ref r0), (.ref r1)] 8)) t := fun t k => castTop (ef_3 m r0 r1) k
  obtain ⟨cl11, Ar11, S11, M11, I11⟩ := id hp0
  obtain ⟨cl12, Ar12, S12, M12, I12⟩ := id hp1
  have pre13 : ∀ t, Steps p.tables e below (s₁.setTop (mkF m 4 #[.val (.ref r0), .val (.ref r1), .unset, .unset, .unset, .unset, .unset, .unset] [(.int z2), (.int z1)])) t → Steps p.tables e below (s₁.setTop (entryFrame m #[(.ref r0), (.ref r1)] 8)) t := fun t k => pre0 t (by
    refine XS.aloadN X0.here hx rfl (hb hby d3_0) rfl rfl ?_
    show Steps p.tables e below (s₁.setTop (mkF m 1 #[.val (.ref r0), .val (.ref r1), .unset, .unset, .unset, .unset, .unset, .unset] [(.ref r0)])) _
    refine X0.arraylength hx (by rw [e0]; exact Ar11.1) (State.isArrayOf_alike hZ.alike Ar11.2.1) (g := (mkF m 1 #[.val (.ref r0), .val (.ref r1), .unset, .unset, .unset, .unset, .unset, .unset] [(.ref r0)])) rfl rfl (hb hby d3_1) _ ?_
    rw [len_of S11 M11]
    show Steps p.tables e below (s₁.setTop (mkF m 2 #[.val (.ref r0), .val (.ref r1), .unset, .unset, .unset, .unset, .unset, .unset] [(.int z1)])) _
    refine XS.aloadN X0.here hx rfl (hb hby d3_2) rfl rfl ?_
    show Steps p.tables e below (s₁.setTop (mkF m 3 #[.val (.ref r0), .val (.ref r1), .unset, .unset, .unset, .unset, .unset, .unset] [(.ref r1), (.int z1)])) _
    refine X0.arraylength hx (by rw [e0]; exact Ar12.1) (State.isArrayOf_alike hZ.alike Ar12.2.1) (g := (mkF m 3 #[.val (.ref r0), .val (.ref r1), .unset, .unset, .unset, .unset, .unset, .unset] [(.ref r1), (.int z1)])) rfl rfl (hb hby d3_3) _ ?_
    rw [len_of S12 M12]
    exact k)
  by_cases hc14 : z2 < z1
  · obtain ⟨fs, hr, hrun, hended, hW, hsame⟩ := X0.leave (v := some (.int (0 : Int32))) (fun h => by rw [Bd.returns] at h; cases h)
    refine ⟨_, _, pre13 _ ?_, hrun, hended, _, _, rfl, ?_, ⟨_, rfl⟩, hW, hsame.mono (by decide) (by decide)⟩
    · refine XS.icmpNo X0.here hx rfl (hb hby d3_4) rfl (tlt hc14).2.2.2 ?_
      show Steps p.tables e below (s₁.setTop (mkF m 7 #[.val (.ref r0), .val (.ref r1), .unset, .unset, .unset, .unset, .unset, .unset] [])) _
      refine XS.iconst X0.here hx rfl (hb hby d3_7) ?_
      show Steps p.tables e below (s₁.setTop (mkF m 8 #[.val (.ref r0), .val (.ref r1), .unset, .unset, .unset, .unset, .unset, .unset] [(.int (0 : Int32))])) _
      exact retN X0 hx (t := .boolean) Bd.returns (by simp) (hb hby d3_8) hr
    · show Q3 Z r0 r1 z1 z2 f1 f2 h0 n0 _ s₁.heap _
      rw [e0]
      exact ⟨(by obtain ⟨cA, ArA, SA, MA, IA⟩ := id hp0; obtain ⟨cB, ArB, SB, MB, IB⟩ := id hp1; have q1 := own_nn MA; have q2 := own_nn MB; rw [Int32.lt_iff_toInt_lt] at hc14; rw [own_sub, if_pos (by omega)]), N0, rfl⟩
  · obtain ⟨cl15, Ar15, S15, M15, I15⟩ := id hp0
    have pre16 : ∀ t, Steps p.tables e below (s₁.setTop (mkF m 20 #[.val (.ref r0), .val (.ref r1), .val (.int (0 : Int32)), .val (.ref r0), .val (.int z1), .val (.int (0 : Int32)), .unset, .unset] [])) t → Steps p.tables e below (s₁.setTop (entryFrame m #[(.ref r0), (.ref r1)] 8)) t := fun t k => pre13 t (by
      refine XS.icmpYes X0.here hx rfl (pc0 := 4) (pc' := 9) rfl (hb hby d3_4) rfl (flt hc14).2.2.2 (by decide) (by decide) ?_
      show Steps p.tables e below (s₁.setTop (mkF m 9 #[.val (.ref r0), .val (.ref r1), .unset, .unset, .unset, .unset, .unset, .unset] [])) _
      refine XS.iconst X0.here hx rfl (hb hby d3_9) ?_
      show Steps p.tables e below (s₁.setTop (mkF m 10 #[.val (.ref r0), .val (.ref r1), .unset, .unset, .unset, .unset, .unset, .unset] [(.int (0 : Int32))])) _
      refine XS.istoreN X0.here hx rfl (hb hby d3_10) rfl (l' := #[.val (.ref r0), .val (.ref r1), .val (.int (0 : Int32)), .unset, .unset, .unset, .unset, .unset]) rfl ?_
      show Steps p.tables e below (s₁.setTop (mkF m 11 #[.val (.ref r0), .val (.ref r1), .val (.int (0 : Int32)), .unset, .unset, .unset, .unset, .unset] [])) _
      refine XS.aloadN X0.here hx rfl (hb hby d3_11) rfl rfl ?_
      show Steps p.tables e below (s₁.setTop (mkF m 12 #[.val (.ref r0), .val (.ref r1), .val (.int (0 : Int32)), .unset, .unset, .unset, .unset, .unset] [(.ref r0)])) _
      refine XS.astoreN X0.here hx rfl (hb hby d3_12) rfl rfl (l' := #[.val (.ref r0), .val (.ref r1), .val (.int (0 : Int32)), .val (.ref r0), .unset, .unset, .unset, .unset]) rfl ?_
      show Steps p.tables e below (s₁.setTop (mkF m 13 #[.val (.ref r0), .val (.ref r1), .val (.int (0 : Int32)), .val (.ref r0), .unset, .unset, .unset, .unset] [])) _
      refine XS.aloadN X0.here hx rfl (hb hby d3_13) rfl rfl ?_
      show Steps p.tables e below (s₁.setTop (mkF m 14 #[.val (.ref r0), .val (.ref r1), .val (.int (0 : Int32)), .val (.ref r0), .unset, .unset, .unset, .unset] [(.ref r0)])) _
      refine X0.arraylength hx (by rw [e0]; exact Ar15.1) (State.isArrayOf_alike hZ.alike Ar15.2.1) (g := (mkF m 14 #[.val (.ref r0), .val (.ref r1), .val (.int (0 : Int32)), .val (.ref r0), .unset, .unset, .unset, .unset] [(.ref r0)])) rfl rfl (hb hby d3_14) _ ?_
      rw [len_of S15 M15]
      show Steps p.tables e below (s₁.setTop (mkF m 15 #[.val (.ref r0), .val (.ref r1), .val (.int (0 : Int32)), .val (.ref r0), .unset, .unset, .unset, .unset] [(.int z1)])) _
      refine XS.istore X0.here hx rfl (hb hby d3_15) rfl (l' := #[.val (.ref r0), .val (.ref r1), .val (.int (0 : Int32)), .val (.ref r0), .val (.int z1), .unset, .unset, .unset]) rfl ?_
      show Steps p.tables e below (s₁.setTop (mkF m 17 #[.val (.ref r0), .val (.ref r1), .val (.int (0 : Int32)), .val (.ref r0), .val (.int z1), .unset, .unset, .unset] [])) _
      refine XS.iconst X0.here hx rfl (hb hby d3_17) ?_
      show Steps p.tables e below (s₁.setTop (mkF m 18 #[.val (.ref r0), .val (.ref r1), .val (.int (0 : Int32)), .val (.ref r0), .val (.int z1), .unset, .unset, .unset] [(.int (0 : Int32))])) _
      refine XS.istore X0.here hx rfl (hb hby d3_18) rfl (l' := #[.val (.ref r0), .val (.ref r1), .val (.int (0 : Int32)), .val (.ref r0), .val (.int z1), .val (.int (0 : Int32)), .unset, .unset]) rfl ?_
      exact k)
    obtain ⟨cA, ArA, SA, MA, IA⟩ := id hp0
    obtain ⟨cB, ArB, SB, MB, IB⟩ := id hp1
    have hnn : ¬ z2.toNatClampNeg < z1.toNatClampNeg := by have q1 := own_nn MA; have q2 := own_nn MB; rw [Int32.lt_iff_toInt_lt] at hc14; omega
    rcases inO r0 r1 z1 z2 f1 f2 h0 n0 X0 hx hZ hw hby hml hown e0 Z0 N0 hp0 hp1 z1.toNatClampNeg z2.toNatClampNeg (own_nn MA) (own_nn MB) z1.toNatClampNeg (0 : Int32) (0 : Int32) 0 0 .unset .unset (Or.inl ⟨rfl, rfl⟩) rfl (by omega) rfl (by omega) with ⟨ho, L8, st⟩ | ⟨ho, L6, st⟩
    · obtain ⟨fs, hr, hrun, hended, hW, hsame⟩ := X0.leave (v := some (.int (1 : Int32))) (fun h => by rw [Bd.returns] at h; cases h)
      refine ⟨_, _, pre16 _ ?_, hrun, hended, _, _, rfl, ?_, ⟨_, rfl⟩, hW, hsame.mono (by decide) (by decide)⟩
      · refine st _ ?_
        show Steps p.tables e below (s₁.setTop (mkF m 80 L8 [])) _
        refine XS.iconst X0.here hx rfl (hb hby d3_80) ?_
        show Steps p.tables e below (s₁.setTop (mkF m 81 L8 [(.int (1 : Int32))])) _
        exact retN X0 hx (t := .boolean) Bd.returns (by simp) (hb hby d3_81) hr
      · show Q3 Z r0 r1 z1 z2 f1 f2 h0 n0 _ s₁.heap _
        rw [e0]
        exact ⟨(by rw [own_sub, if_neg hnn, ho]), N0, rfl⟩
    · obtain ⟨fs, hr, hrun, hended, hW, hsame⟩ := X0.leave (v := some (.int (0 : Int32))) (fun h => by rw [Bd.returns] at h; cases h)
      refine ⟨_, _, pre16 _ ?_, hrun, hended, _, _, rfl, ?_, ⟨_, rfl⟩, hW, hsame.mono (by decide) (by decide)⟩
      · refine st _ ?_
        show Steps p.tables e below (s₁.setTop (mkF m 69 L6 [])) _
        refine XS.iconst X0.here hx rfl (hb hby d3_69) ?_
        show Steps p.tables e below (s₁.setTop (mkF m 70 L6 [(.int (0 : Int32))])) _
        exact retN X0 hx (t := .boolean) Bd.returns (by simp) (hb hby d3_70) hr
      · show Q3 Z r0 r1 z1 z2 f1 f2 h0 n0 _ s₁.heap _
        rw [e0]
        exact ⟨(by rw [own_sub, if_neg hnn, ho]), N0, rfl⟩
def own_subL : List Int64 → List Int64 → Int32
  | [], _ => 1
  | x :: xs, ys => match ys.dropWhile (fun y => decide (y < x)) with
    | [] => 0
    | y :: ys' => if y = x then own_subL xs ys' else 0
def own_subN : List Nat → List Nat → Int32
  | [], _ => 1
  | x :: xs, ys => match ys.dropWhile (fun y => decide (y < x)) with
    | [] => 0
    | y :: ys' => if y = x then own_subN xs ys' else 0
theorem own_drop (f : Nat → Int64) (x : Int64) : ∀ k j, ((List.range' j k).map f).dropWhile (fun y => decide (y < x)) = (List.range' (own_adv f x k j) (j + k - own_adv f x k j)).map f
  | 0, j => by simp [own_adv]
  | k + 1, j => by
    rw [List.range'_succ, List.map_cons, List.dropWhile_cons, own_adv]
    by_cases h : f j < x
    · rw [if_pos (by simpa using h), if_pos h, own_drop f x k (j + 1)]
      congr 2; omega
    · rw [if_neg (by simpa using h), if_neg h, show j + (k + 1) - j = k + 1 by omega, List.range'_succ, List.map_cons]
theorem own_outL (f1 f2 : Nat → Int64) (n2 : Nat) : ∀ k i j, j ≤ n2 → own_out f1 f2 n2 k i j = own_subL ((List.range' i k).map f1) ((List.range' j (n2 - j)).map f2)
  | 0, i, j, _ => rfl
  | k + 1, i, j, hj => by
    have le := own_adv_le f2 (f1 i) (n2 - j) j
    rw [List.range'_succ, List.map_cons, own_out, own_subL, own_drop]
    by_cases h : own_adv f2 (f1 i) (n2 - j) j = n2
    · rw [if_pos h, h, show j + (n2 - j) - n2 = 0 by omega]; rfl
    · rw [if_neg h, show j + (n2 - j) - own_adv f2 (f1 i) (n2 - j) j = (n2 - (own_adv f2 (f1 i) (n2 - j) j + 1)) + 1 by omega, List.range'_succ, List.map_cons]
      dsimp only
      by_cases h2 : f2 (own_adv f2 (f1 i) (n2 - j) j) = f1 i
      · rw [if_pos h2, if_pos h2, own_outL f1 f2 n2 k (i + 1) _ (by omega)]
      · rw [if_neg h2, if_neg h2]
theorem own_len0 {xs ys : List Int64} : ys.length < xs.length → own_subL xs ys = 0 := by
  induction xs generalizing ys with
  | nil => intro h; exact absurd h (by simp)
  | cons x xs ih =>
    intro h
    rw [own_subL]
    have hl : (ys.dropWhile (fun y => decide (y < x))).length ≤ ys.length := (List.dropWhile_sublist _).length_le
    split
    · rfl
    · rename_i y ys' e
      rw [e] at hl
      split
      · exact ih (by simp at hl h; omega)
      · rfl
theorem own_subLs (f1 f2 : Nat → Int64) (n1 n2 : Nat) : own_sub f1 f2 n1 n2 = own_subL ((List.range n1).map f1) ((List.range n2).map f2) := by
  rw [own_sub]
  split
  · rename_i h; exact (own_len0 (by simpa using h)).symm
  · rw [own_outL _ _ _ _ _ _ (Nat.zero_le _), List.range_eq_range', List.range_eq_range']; rfl
theorem own_mono (f : Nat → Int64) (hf : ∀ i j, i < 4 → j < 4 → (f i < f j ↔ i < j)) (he : ∀ i j, i < 4 → j < 4 → (f i = f j ↔ i = j)) : ∀ (xs ys : List Nat), (∀ x ∈ xs, x < 4) → (∀ y ∈ ys, y < 4) → own_subL (xs.map f) (ys.map f) = own_subN xs ys
  | [], ys, _, _ => by rw [List.map_nil, own_subL, own_subN]
  | x :: xs, ys, hx, hy => by
    have hx0 : x < 4 := hx x (by simp)
    have hd : ∀ ys : List Nat, (∀ y ∈ ys, y < 4) → (ys.map f).dropWhile (fun y => decide (y < f x)) = (ys.dropWhile (fun y => decide (y < x))).map f := by
      intro ys
      induction ys with
      | nil => intro _; rfl
      | cons y ys ih =>
        intro hy
        have q := hf y x (hy y (by simp)) hx0
        rw [List.map_cons, List.dropWhile_cons, List.dropWhile_cons]
        by_cases h : y < x
        · rw [if_pos (by simpa using q.mpr h), if_pos (by simpa using h)]; exact ih fun z hz => hy z (by simp [hz])
        · rw [if_neg (by simpa using fun r => h (q.mp r)), if_neg (by simpa using h), List.map_cons]
    rw [List.map_cons, own_subL, own_subN, hd ys hy]
    cases e : ys.dropWhile (fun y => decide (y < x)) with
    | nil => rfl
    | cons y ys' =>
      rw [List.map_cons]
      dsimp only
      have hsub : ∀ z ∈ y :: ys', z < 4 := fun z hz => hy z ((List.dropWhile_sublist _).subset (e ▸ hz))
      have q := he y x (hsub y (by simp)) hx0
      by_cases h : y = x
      · rw [if_pos (q.mpr h), if_pos h]; exact own_mono f hf he xs ys' (fun z hz => hx z (by simp [hz])) (fun z hz => hsub z (by simp [hz]))
      · rw [if_neg (fun r => h (q.mp r)), if_neg h]
theorem own_table : ∀ a b : Fin 16, own_subN (own_bits (Int32.ofNat a.1)) (own_bits (Int32.ofNat b.1)) = (if (Int32.ofNat a.1 &&& (Int32.ofNat b.1 ^^^ (-1 : Int32))) = (0 : Int32) then (1 : Int32) else (0 : Int32)) := by decide +kernel
theorem own_b4 (x : Int32) : ∀ i ∈ own_bits x, i < 4 := by
  intro i hi
  simp only [own_bits, List.mem_append] at hi
  rcases hi with h | h | h | h <;> split at h <;> simp at h <;> omega
theorem own_tab {x y : Int32} (hx : ¬ x < (0 : Int32) ∧ ¬ (15 : Int32) < x) (hy : ¬ y < (0 : Int32) ∧ ¬ (15 : Int32) < y) : own_subN (own_bits x) (own_bits y) = (if (x &&& (y ^^^ (-1 : Int32))) = (0 : Int32) then (1 : Int32) else (0 : Int32)) := by
  have e0 : (0 : Int32).toInt = 0 := by decide
  have e15 : (15 : Int32).toInt = 15 := by decide
  have hx0 := hx.1
  have hx1 := hx.2
  have hy0 := hy.1
  have hy1 := hy.2
  rw [Int32.lt_iff_toInt_lt] at hx0 hx1 hy0 hy1
  have ex : Int32.ofNat x.toInt.toNat = x := Int32.toInt_inj.mp (by rw [Int32.toInt_ofNat_of_lt (by omega)]; omega)
  have ey : Int32.ofNat y.toInt.toNat = y := Int32.toInt_inj.mp (by rw [Int32.toInt_ofNat_of_lt (by omega)]; omega)
  have q := own_table ⟨x.toInt.toNat, by omega⟩ ⟨y.toInt.toNat, by omega⟩
  simp only [ex, ey] at q
  exact q
theorem own_csT (f : Nat → Int64) (i j : Nat) (h : f j < f i) (k : Nat) : own_cs f i j k = if k = j then f i else if k = i then f j else f k := by rw [own_cs, if_pos h]
theorem own_csF (f : Nat → Int64) (i j : Nat) (h : ¬ f j < f i) (k : Nat) : own_cs f i j k = f k := by rw [own_cs, if_neg h]
theorem own_csv (f : Nat → Int64) (i j : Nat) (hij : i ≠ j) : (∀ k, k ≠ i → k ≠ j → own_cs f i j k = f k) ∧ (own_cs f i j i).toInt = min (f i).toInt (f j).toInt ∧ (own_cs f i j j).toInt = max (f i).toInt (f j).toInt := by
  by_cases h : f j < f i
  · refine ⟨fun k h1 h2 => by rw [own_csT f i j h, if_neg h2, if_neg h1], ?_, ?_⟩
    · rw [own_csT f i j h, if_neg hij, if_pos rfl]; rw [Int64.lt_iff_toInt_lt] at h; omega
    · rw [own_csT f i j h, if_pos rfl]; rw [Int64.lt_iff_toInt_lt] at h; omega
  · refine ⟨fun k h1 h2 => own_csF f i j h k, ?_, ?_⟩
    · rw [own_csF f i j h]; rw [Int64.lt_iff_toInt_lt] at h; omega
    · rw [own_csF f i j h]; rw [Int64.lt_iff_toInt_lt] at h; omega
theorem own_sorted {f g1 g2 g3 g4 g5 : Nat → Int64} (e1 : g1 = own_cs f 0 1) (e2 : g2 = own_cs g1 2 3) (e3 : g3 = own_cs g2 0 2) (e4 : g4 = own_cs g3 1 3) (e5 : g5 = own_cs g4 1 2) : (g5 0).toInt ≤ (g5 1).toInt ∧ (g5 1).toInt ≤ (g5 2).toInt ∧ (g5 2).toInt ≤ (g5 3).toInt := by
  obtain ⟨a1, b1, c1⟩ := own_csv f 0 1 (by decide)
  obtain ⟨a2, b2, c2⟩ := own_csv g1 2 3 (by decide)
  obtain ⟨a3, b3, c3⟩ := own_csv g2 0 2 (by decide)
  obtain ⟨a4, b4, c4⟩ := own_csv g3 1 3 (by decide)
  obtain ⟨a5, b5, c5⟩ := own_csv g4 1 2 (by decide)
  rw [← e1] at a1 b1 c1
  rw [← e2] at a2 b2 c2
  rw [← e3] at a3 b3 c3
  rw [← e4] at a4 b4 c4
  rw [← e5] at a5 b5 c5
  have q1 := a1 2 (by decide) (by decide)
  have q2 := a1 3 (by decide) (by decide)
  have q3 := a2 0 (by decide) (by decide)
  have q4 := a2 1 (by decide) (by decide)
  have q5 := a3 1 (by decide) (by decide)
  have q6 := a3 3 (by decide) (by decide)
  have q7 := a4 0 (by decide) (by decide)
  have q8 := a4 2 (by decide) (by decide)
  have q9 := a5 0 (by decide) (by decide)
  have q10 := a5 3 (by decide) (by decide)
  have r1 := congrArg Int64.toInt q1
  have r2 := congrArg Int64.toInt q2
  have r3 := congrArg Int64.toInt q3
  have r4 := congrArg Int64.toInt q4
  have r5 := congrArg Int64.toInt q5
  have r6 := congrArg Int64.toInt q6
  have r7 := congrArg Int64.toInt q7
  have r8 := congrArg Int64.toInt q8
  have r9 := congrArg Int64.toInt q9
  have r10 := congrArg Int64.toInt q10
  clear a1 a2 a3 a4 a5 q1 q2 q3 q4 q5 q6 q7 q8 q9 q10 e1 e2 e3 e4 e5
  omega
theorem own_all {f : Nat → Int64} (h : (f 0).toInt ≤ (f 1).toInt ∧ (f 1).toInt ≤ (f 2).toInt ∧ (f 2).toInt ≤ (f 3).toInt) (n0 : ¬ f 0 = f 1) (n1 : ¬ f 1 = f 2) (n2 : ¬ f 2 = f 3) : (∀ i j, i < 4 → j < 4 → (f i < f j ↔ i < j)) ∧ (∀ i j, i < 4 → j < 4 → (f i = f j ↔ i = j)) := by
  have m0 : ¬ (f 0).toInt = (f 1).toInt := fun e => n0 (Int64.toInt_inj.mp e)
  have m1 : ¬ (f 1).toInt = (f 2).toInt := fun e => n1 (Int64.toInt_inj.mp e)
  have m2 : ¬ (f 2).toInt = (f 3).toInt := fun e => n2 (Int64.toInt_inj.mp e)
  have cs : ∀ i, i < 4 → i = 0 ∨ i = 1 ∨ i = 2 ∨ i = 3 := by omega
  constructor
  · intro i j hi hj
    rw [Int64.lt_iff_toInt_lt]
    rcases cs i hi with rfl | rfl | rfl | rfl <;> rcases cs j hj with rfl | rfl | rfl | rfl <;> omega
  · intro i j hi hj
    rw [← Int64.toInt_inj]
    rcases cs i hi with rfl | rfl | rfl | rfl <;> rcases cs j hj with rfl | rfl | rfl | rfl <;> omega
theorem own_end {f g1 g2 g3 g4 g5 k1 k2 : Nat → Int64} {x y z1 z2 w : Int32} (e1 : g1 = own_cs f 0 1) (e2 : g2 = own_cs g1 2 3) (e3 : g3 = own_cs g2 0 2) (e4 : g4 = own_cs g3 1 3) (e5 : g5 = own_cs g4 1 2) (n0 : ¬ g5 0 = g5 1) (n1 : ¬ g5 1 = g5 2) (n2 : ¬ g5 2 = g5 3)
    (hx : ¬ x < (0 : Int32) ∧ ¬ (15 : Int32) < x) (hy : ¬ y < (0 : Int32) ∧ ¬ (15 : Int32) < y) (hk1 : (List.range z1.toNatClampNeg).map k1 = (own_bits x).map g5) (hk2 : (List.range z2.toNatClampNeg).map k2 = (own_bits y).map g5) (hw : w = (if (x &&& (y ^^^ (-1 : Int32))) = (0 : Int32) then (1 : Int32) else (0 : Int32))) : own_sub k1 k2 z1.toNatClampNeg z2.toNatClampNeg = w := by
  obtain ⟨m1, m2⟩ := own_all (own_sorted e1 e2 e3 e4 e5) n0 n1 n2
  rw [own_subLs, hk1, hk2, own_mono g5 m1 m2 _ _ (own_b4 x) (own_b4 y), own_tab hx hy, hw]
theorem pn_0 : plainName "com/example/honeybee/honeybee/calculus/ClauseIsSubsetPinLaw" = true := by first | (simp [plainName, overriddenIn]; done) | decide +kernel
theorem ef_0 (m : MethodId) (q0 : Int64) (q1 : Int64) (q2 : Int64) (q3 : Int64) (p4 : Int32) : entryFrame m #[(.long q0), (.long q1), (.long q2), (.long q3), (.int p4)] maxLocals = mkF m 0 #[.val (.long q0), .second, .val (.long q1), .second, .val (.long q2), .second, .val (.long q3), .second, .val (.int p4), .unset, .unset, .unset, .unset, .unset, .unset] [] := by first | (simp [entryFrame, mkF, argsToLocals, Value.category, maxLocals]; done) | rfl
theorem pd_0 : parseMethodDescriptor "([JII)V" = some ⟨[(.array .long), .int, .int], none⟩ := by decide +kernel
theorem pd_1 : parseMethodDescriptor "([JI)[J" = some ⟨[(.array .long), .int], some (.array .long)⟩ := by decide +kernel
theorem pd_2 : parseMethodDescriptor "([J[J)Z" = some ⟨[(.array .long), (.array .long)], some .boolean⟩ := by decide +kernel
def Q0 (Z : State) (q0 : Int64) (q1 : Int64) (q2 : Int64) (q3 : Int64) (p4 : Int32) (h0 : Heap) (n0 : Nat) (v : Option Value) (h : Heap) (L : List Loc) : Prop := v = some (.int 1) ∧ Fr n0 L
set_option maxRecDepth 65536 in
set_option maxHeartbeats 40000000 in
theorem rm0 (l : Launch) (Z : State) (a0 : Array Value) (hw : ∀ d ∈ tables_1, d.before a0 Z = true) (ws : List Jvm.Cond) (q0 : Int64) (q1 : Int64) (q2 : Int64) (q3 : Int64) (p4 : Int32) (h0 : Heap) (n0 : Nat) (Z0 : n0 ≤ h0.size)  :
    MetFree l x (head1 (Jvm.Cond.code x code maxLocals ret :: ws) room_1) (fun a U => a = #[(.long q0), (.long q1), (.long q2), (.long q3), (.int p4)] ∧ Z.Warmed39 U.vm ∧ U.heap = h0) (fun _ _ _ _ _ => True) (fun _ U o U' => ∃ v L, o = .returned v ∧ Q0 Z q0 q1 q2 q3 p4 h0 n0 v U'.heap L ∧ FrameEnd U o U' L room_1.cells room_1.slots) := by
  refine MetFree.of_bodySF (plainFor_of_name pn_0) hisR ?_
  intro p e s m args below meth c s₁ Bd hml0 hP hK
  obtain ⟨rfl, hZ, hh⟩ := hP
  have hx := Bd.exec
  have hby := Bd.bytes
  have hml : c.maxLocals = 15 := hml0
  have hown : s.vm.findClass "com/example/honeybee/honeybee/calculus/ClauseIsSubsetPinLaw" = some m.cls := findClass_of_methodNamed Bd.named
  have hnm := (name_of_methodNamed Bd.named Bd.method).1
  have X0 : Stand p l e room_1 s m #[(.long q0), (.long q1), (.long q2), (.long q3), (.int p4)] below meth c s₁ [] 0 0 := Stand.of_body Bd
  have e0 : s₁.heap = h0 := by rw [← hh, Bd.state]; rfl
  have N0 := Fr.nil n0
  have pre0 : ∀ t, Steps p.tables e below (s₁.setTop (mkF m 0 #[.val (.long q0), .second, .val (.long q1), .second, .val (.long q2), .second, .val (.long q3), .second, .val (.int p4), .unset, .unset, .unset, .unset, .unset, .unset] [])) t → Steps p.tables e below (s₁.setTop (entryFrame m #[(.long q0), (.long q1), (.long q2), (.long q3), (.int p4)] maxLocals)) t := fun t k => castTop (ef_0 m q0 q1 q2 q3 p4) k
  obtain ⟨T11, h11, k11, X11, e11, E11, A11, st11⟩ := newP X0 hx hZ (hw _ (List.mem_of_getElem? (i := 0) rfl)) e0 (g := (mkF m 1 #[.val (.long q0), .second, .val (.long q1), .second, .val (.long q2), .second, .val (.long q3), .second, .val (.int p4), .unset, .unset, .unset, .unset, .unset, .unset] [(.int (4 : Int32))])) rfl (hb hby at_1) rfl (by decide) (cap := 4) (by decide) (by decide) (by decide) (by decide)
  obtain ⟨b11, gb11⟩ : ∃ z, z = h0.size := ⟨_, rfl⟩
  rw [← gb11] at A11 st11
  have g12 : n0 ≤ b11 := Nat.le_trans Z0 (Nat.le_of_eq gb11.symm)
  have Z13 : n0 ≤ h11.size := Nat.le_trans Z0 E11.1
  have V11 : AL Z h11 b11 (4 : Int32) (fun _ => (0 : Int64)) := AL.new A11 (by decide)
  obtain ⟨cl14, Ar14, S14, M14, I14⟩ := id V11
  have hin14 : ¬ ((0 : Int32) < 0 ∨ cl14.slots.size ≤ ((0 : Int32)).toNatClampNeg) := inb_of S14 ⟨by decide, by decide⟩
  obtain ⟨T15, h15, X15, e15, W15, st15⟩ := stJ X11 hx hZ e11 Ar14 (j := (0 : Int32)) hin14 (g := (mkF m 6 #[.val (.long q0), .second, .val (.long q1), .second, .val (.long q2), .second, .val (.long q3), .second, .val (.int p4), .unset, .unset, .unset, .unset, .unset, .unset] [(.long q0), (.int (0 : Int32)), (.ref b11), (.ref b11)])) rfl rfl (hb hby at_6)
  have V15 : AL Z h15 b11 (4 : Int32) (fun i => if i = ((0 : Int32)).toNatClampNeg then q0 else (fun _ => (0 : Int64)) i) := AL.set V11 W15
  obtain ⟨fa, hfa⟩ : ∃ z, z = (fun i => if i = ((0 : Int32)).toNatClampNeg then q0 else (fun _ => (0 : Int64)) i) := ⟨_, rfl⟩
  rw [← hfa] at V15
  have Z16 : n0 ≤ h15.size := Nat.le_trans Z13 (Keep.of_wr W15).1
  have N15 := Fr.snoc X15 N0 g12
  obtain ⟨cl17, Ar17, S17, M17, I17⟩ := id V15
  have hin17 : ¬ ((1 : Int32) < 0 ∨ cl17.slots.size ≤ ((1 : Int32)).toNatClampNeg) := inb_of S17 ⟨by decide, by decide⟩
  obtain ⟨T18, h18, X18, e18, W18, st18⟩ := stJ X15 hx hZ e15 Ar17 (j := (1 : Int32)) hin17 (g := (mkF m 10 #[.val (.long q0), .second, .val (.long q1), .second, .val (.long q2), .second, .val (.long q3), .second, .val (.int p4), .unset, .unset, .unset, .unset, .unset, .unset] [(.long q1), (.int (1 : Int32)), (.ref b11), (.ref b11)])) rfl rfl (hb hby at_10)
  have V18 : AL Z h18 b11 (4 : Int32) (fun i => if i = ((1 : Int32)).toNatClampNeg then q1 else fa i) := AL.set V15 W18
  obtain ⟨fb, hfb⟩ : ∃ z, z = (fun i => if i = ((1 : Int32)).toNatClampNeg then q1 else fa i) := ⟨_, rfl⟩
  rw [← hfb] at V18
  have Z19 : n0 ≤ h18.size := Nat.le_trans Z16 (Keep.of_wr W18).1
  have N18 := Fr.snoc X18 N15 g12
  obtain ⟨cl20, Ar20, S20, M20, I20⟩ := id V18
  have hin20 : ¬ ((2 : Int32) < 0 ∨ cl20.slots.size ≤ ((2 : Int32)).toNatClampNeg) := inb_of S20 ⟨by decide, by decide⟩
  obtain ⟨T21, h21, X21, e21, W21, st21⟩ := stJ X18 hx hZ e18 Ar20 (j := (2 : Int32)) hin20 (g := (mkF m 15 #[.val (.long q0), .second, .val (.long q1), .second, .val (.long q2), .second, .val (.long q3), .second, .val (.int p4), .unset, .unset, .unset, .unset, .unset, .unset] [(.long q2), (.int (2 : Int32)), (.ref b11), (.ref b11)])) rfl rfl (hb hby at_15)
  have V21 : AL Z h21 b11 (4 : Int32) (fun i => if i = ((2 : Int32)).toNatClampNeg then q2 else fb i) := AL.set V18 W21
  obtain ⟨fc, hfc⟩ : ∃ z, z = (fun i => if i = ((2 : Int32)).toNatClampNeg then q2 else fb i) := ⟨_, rfl⟩
  rw [← hfc] at V21
  have Z22 : n0 ≤ h21.size := Nat.le_trans Z19 (Keep.of_wr W21).1
  have N21 := Fr.snoc X21 N18 g12
  obtain ⟨cl23, Ar23, S23, M23, I23⟩ := id V21
  have hin23 : ¬ ((3 : Int32) < 0 ∨ cl23.slots.size ≤ ((3 : Int32)).toNatClampNeg) := inb_of S23 ⟨by decide, by decide⟩
  obtain ⟨T24, h24, X24, e24, W24, st24⟩ := stJ X21 hx hZ e21 Ar23 (j := (3 : Int32)) hin23 (g := (mkF m 20 #[.val (.long q0), .second, .val (.long q1), .second, .val (.long q2), .second, .val (.long q3), .second, .val (.int p4), .unset, .unset, .unset, .unset, .unset, .unset] [(.long q3), (.int (3 : Int32)), (.ref b11), (.ref b11)])) rfl rfl (hb hby at_20)
  have V24 : AL Z h24 b11 (4 : Int32) (fun i => if i = ((3 : Int32)).toNatClampNeg then q3 else fc i) := AL.set V21 W24
  obtain ⟨fd, hfd⟩ : ∃ z, z = (fun i => if i = ((3 : Int32)).toNatClampNeg then q3 else fc i) := ⟨_, rfl⟩
  rw [← hfd] at V24
  have Z25 : n0 ≤ h24.size := Nat.le_trans Z22 (Keep.of_wr W24).1
  have N24 := Fr.snoc X24 N21 g12
  obtain ⟨_, _, ⟨T26, L26, k26, n26⟩, -, X26, ⟨Lc26, hQ26, l26, y26, z26⟩, st26⟩ := Jvm.LawKit.callS X24 hx (y := (⟨"com/example/honeybee/honeybee/calculus/ClauseIsSubsetPinLaw", "cs", "([JII)V"⟩ : MethodName)) hown (mvT hZ (hw _ (List.mem_of_getElem? (i := 1) rfl))) (mvT hZ (hw _ (List.mem_of_getElem? (i := 2) rfl))) (mvT hZ (hw _ (List.mem_of_getElem? (i := 3) rfl))) (mvT hZ (hw _ (List.mem_of_getElem? (i := 4) rfl))) (by decide) (backOf (W := 0) (rm1 l Z a0 hw [] b11 (0 : Int32) (1 : Int32) fd h24 n0 Z25 V24 g12 ⟨⟨by decide, by decide⟩, ⟨by decide, by decide⟩⟩) hZ (hw _ (List.mem_of_getElem? (i := 4) rfl)) (hw _ (List.mem_of_getElem? (i := 3) rfl)) (by decide) (by decide)) (g := (mkF m 27 #[.val (.long q0), .second, .val (.long q1), .second, .val (.long q2), .second, .val (.long q3), .second, .val (.int p4), .val (.ref b11), .unset, .unset, .unset, .unset, .unset] [(.int (1 : Int32)), (.int (0 : Int32)), (.ref b11)])) rfl (by rw [hml]; rfl) (argsL := [(.ref b11), (.int (0 : Int32)), (.int (1 : Int32))]) (rest := []) (lenOf pd_0 rfl) rfl (by show 2 * 0 + _ ≤ _; exact Nat.le_of_eq rfl) (hb hby at_27) (fun _ _ => ⟨rfl, e24, (by decide : 1 + 0 ≤ _), (by decide : 4 + 0 ≤ _)⟩)
  dsimp only [Pt.U, Pt.locs, Pt.cells, Pt.slots] at X26 l26 y26 z26 st26 hQ26
  subst l26 y26 z26
  obtain ⟨g_26, rfl, Nq26, u26_0, u26_1, u26_2⟩ := hQ26
  have N26 := Fr.app N24 Nq26
  have Z27 : n0 ≤ T26.heap.size := Nat.le_trans Z25 u26_0.1
  obtain ⟨_, _, ⟨T28, L28, k28, n28⟩, -, X28, ⟨Lc28, hQ28, l28, y28, z28⟩, st28⟩ := Jvm.LawKit.callS X26 hx (y := (⟨"com/example/honeybee/honeybee/calculus/ClauseIsSubsetPinLaw", "cs", "([JII)V"⟩ : MethodName)) hown (mvT hZ (hw _ (List.mem_of_getElem? (i := 1) rfl))) (mvT hZ (hw _ (List.mem_of_getElem? (i := 2) rfl))) (mvT hZ (hw _ (List.mem_of_getElem? (i := 3) rfl))) (mvT hZ (hw _ (List.mem_of_getElem? (i := 4) rfl))) (by decide) (backOf (W := 0) (rm1 l Z a0 hw [] b11 (2 : Int32) (3 : Int32) g_26 T26.heap n0 Z27 u26_1 g12 ⟨⟨by decide, by decide⟩, ⟨by decide, by decide⟩⟩) hZ (hw _ (List.mem_of_getElem? (i := 4) rfl)) (hw _ (List.mem_of_getElem? (i := 3) rfl)) (by decide) (by decide)) (g := (mkF m 34 #[.val (.long q0), .second, .val (.long q1), .second, .val (.long q2), .second, .val (.long q3), .second, .val (.int p4), .val (.ref b11), .unset, .unset, .unset, .unset, .unset] [(.int (3 : Int32)), (.int (2 : Int32)), (.ref b11)])) rfl (by rw [hml]; rfl) (argsL := [(.ref b11), (.int (2 : Int32)), (.int (3 : Int32))]) (rest := []) (lenOf pd_0 rfl) rfl (by show 2 * 0 + _ ≤ _; exact Nat.le_of_eq rfl) (hb hby at_34) (fun _ _ => ⟨rfl, rfl, (by decide : 1 + 0 ≤ _), (by decide : 4 + 0 ≤ _)⟩)
  dsimp only [Pt.U, Pt.locs, Pt.cells, Pt.slots] at X28 l28 y28 z28 st28 hQ28
  subst l28 y28 z28
  obtain ⟨g_28, rfl, Nq28, u28_0, u28_1, u28_2⟩ := hQ28
  have N28 := Fr.app N26 Nq28
  have Z29 : n0 ≤ T28.heap.size := Nat.le_trans Z27 u28_0.1
  obtain ⟨_, _, ⟨T30, L30, k30, n30⟩, -, X30, ⟨Lc30, hQ30, l30, y30, z30⟩, st30⟩ := Jvm.LawKit.callS X28 hx (y := (⟨"com/example/honeybee/honeybee/calculus/ClauseIsSubsetPinLaw", "cs", "([JII)V"⟩ : MethodName)) hown (mvT hZ (hw _ (List.mem_of_getElem? (i := 1) rfl))) (mvT hZ (hw _ (List.mem_of_getElem? (i := 2) rfl))) (mvT hZ (hw _ (List.mem_of_getElem? (i := 3) rfl))) (mvT hZ (hw _ (List.mem_of_getElem? (i := 4) rfl))) (by decide) (backOf (W := 0) (rm1 l Z a0 hw [] b11 (0 : Int32) (2 : Int32) g_28 T28.heap n0 Z29 u28_1 g12 ⟨⟨by decide, by decide⟩, ⟨by decide, by decide⟩⟩) hZ (hw _ (List.mem_of_getElem? (i := 4) rfl)) (hw _ (List.mem_of_getElem? (i := 3) rfl)) (by decide) (by decide)) (g := (mkF m 41 #[.val (.long q0), .second, .val (.long q1), .second, .val (.long q2), .second, .val (.long q3), .second, .val (.int p4), .val (.ref b11), .unset, .unset, .unset, .unset, .unset] [(.int (2 : Int32)), (.int (0 : Int32)), (.ref b11)])) rfl (by rw [hml]; rfl) (argsL := [(.ref b11), (.int (0 : Int32)), (.int (2 : Int32))]) (rest := []) (lenOf pd_0 rfl) rfl (by show 2 * 0 + _ ≤ _; exact Nat.le_of_eq rfl) (hb hby at_41) (fun _ _ => ⟨rfl, rfl, (by decide : 1 + 0 ≤ _), (by decide : 4 + 0 ≤ _)⟩)
  dsimp only [Pt.U, Pt.locs, Pt.cells, Pt.slots] at X30 l30 y30 z30 st30 hQ30
  subst l30 y30 z30
  obtain ⟨g_30, rfl, Nq30, u30_0, u30_1, u30_2⟩ := hQ30
  have N30 := Fr.app N28 Nq30
  have Z31 : n0 ≤ T30.heap.size := Nat.le_trans Z29 u30_0.1
  obtain ⟨_, _, ⟨T32, L32, k32, n32⟩, -, X32, ⟨Lc32, hQ32, l32, y32, z32⟩, st32⟩ := Jvm.LawKit.callS X30 hx (y := (⟨"com/example/honeybee/honeybee/calculus/ClauseIsSubsetPinLaw", "cs", "([JII)V"⟩ : MethodName)) hown (mvT hZ (hw _ (List.mem_of_getElem? (i := 1) rfl))) (mvT hZ (hw _ (List.mem_of_getElem? (i := 2) rfl))) (mvT hZ (hw _ (List.mem_of_getElem? (i := 3) rfl))) (mvT hZ (hw _ (List.mem_of_getElem? (i := 4) rfl))) (by decide) (backOf (W := 0) (rm1 l Z a0 hw [] b11 (1 : Int32) (3 : Int32) g_30 T30.heap n0 Z31 u30_1 g12 ⟨⟨by decide, by decide⟩, ⟨by decide, by decide⟩⟩) hZ (hw _ (List.mem_of_getElem? (i := 4) rfl)) (hw _ (List.mem_of_getElem? (i := 3) rfl)) (by decide) (by decide)) (g := (mkF m 48 #[.val (.long q0), .second, .val (.long q1), .second, .val (.long q2), .second, .val (.long q3), .second, .val (.int p4), .val (.ref b11), .unset, .unset, .unset, .unset, .unset] [(.int (3 : Int32)), (.int (1 : Int32)), (.ref b11)])) rfl (by rw [hml]; rfl) (argsL := [(.ref b11), (.int (1 : Int32)), (.int (3 : Int32))]) (rest := []) (lenOf pd_0 rfl) rfl (by show 2 * 0 + _ ≤ _; exact Nat.le_of_eq rfl) (hb hby at_48) (fun _ _ => ⟨rfl, rfl, (by decide : 1 + 0 ≤ _), (by decide : 4 + 0 ≤ _)⟩)
  dsimp only [Pt.U, Pt.locs, Pt.cells, Pt.slots] at X32 l32 y32 z32 st32 hQ32
  subst l32 y32 z32
  obtain ⟨g_32, rfl, Nq32, u32_0, u32_1, u32_2⟩ := hQ32
  have N32 := Fr.app N30 Nq32
  have Z33 : n0 ≤ T32.heap.size := Nat.le_trans Z31 u32_0.1
  obtain ⟨_, _, ⟨T34, L34, k34, n34⟩, -, X34, ⟨Lc34, hQ34, l34, y34, z34⟩, st34⟩ := Jvm.LawKit.callS X32 hx (y := (⟨"com/example/honeybee/honeybee/calculus/ClauseIsSubsetPinLaw", "cs", "([JII)V"⟩ : MethodName)) hown (mvT hZ (hw _ (List.mem_of_getElem? (i := 1) rfl))) (mvT hZ (hw _ (List.mem_of_getElem? (i := 2) rfl))) (mvT hZ (hw _ (List.mem_of_getElem? (i := 3) rfl))) (mvT hZ (hw _ (List.mem_of_getElem? (i := 4) rfl))) (by decide) (backOf (W := 0) (rm1 l Z a0 hw [] b11 (1 : Int32) (2 : Int32) g_32 T32.heap n0 Z33 u32_1 g12 ⟨⟨by decide, by decide⟩, ⟨by decide, by decide⟩⟩) hZ (hw _ (List.mem_of_getElem? (i := 4) rfl)) (hw _ (List.mem_of_getElem? (i := 3) rfl)) (by decide) (by decide)) (g := (mkF m 55 #[.val (.long q0), .second, .val (.long q1), .second, .val (.long q2), .second, .val (.long q3), .second, .val (.int p4), .val (.ref b11), .unset, .unset, .unset, .unset, .unset] [(.int (2 : Int32)), (.int (1 : Int32)), (.ref b11)])) rfl (by rw [hml]; rfl) (argsL := [(.ref b11), (.int (1 : Int32)), (.int (2 : Int32))]) (rest := []) (lenOf pd_0 rfl) rfl (by show 2 * 0 + _ ≤ _; exact Nat.le_of_eq rfl) (hb hby at_55) (fun _ _ => ⟨rfl, rfl, (by decide : 1 + 0 ≤ _), (by decide : 4 + 0 ≤ _)⟩)
  dsimp only [Pt.U, Pt.locs, Pt.cells, Pt.slots] at X34 l34 y34 z34 st34 hQ34
  subst l34 y34 z34
  obtain ⟨g_34, rfl, Nq34, u34_0, u34_1, u34_2⟩ := hQ34
  have N34 := Fr.app N32 Nq34
  have Z35 : n0 ≤ T34.heap.size := Nat.le_trans Z33 u34_0.1
  obtain ⟨cl36, Ar36, S36, M36, I36⟩ := id u34_1
  have hin36 : ¬ ((0 : Int32) < 0 ∨ cl36.slots.size ≤ ((0 : Int32)).toNatClampNeg) := inb_of S36 ⟨by decide, by decide⟩
  have hat36 : cl36.slots[((0 : Int32)).toNatClampNeg]? = some (.long (g_34 ((0 : Int32)).toNatClampNeg)) := I36 _ (Nat.lt_of_not_le fun y => hin36 (Or.inr y))
  obtain ⟨cl37, Ar37, S37, M37, I37⟩ := id u34_1
  have hin37 : ¬ ((1 : Int32) < 0 ∨ cl37.slots.size ≤ ((1 : Int32)).toNatClampNeg) := inb_of S37 ⟨by decide, by decide⟩
  have hat37 : cl37.slots[((1 : Int32)).toNatClampNeg]? = some (.long (g_34 ((1 : Int32)).toNatClampNeg)) := I37 _ (Nat.lt_of_not_le fun y => hin37 (Or.inr y))
  have pre38 : ∀ t, Steps p.tables e below (T34.setTop (mkF m 67 #[.val (.long q0), .second, .val (.long q1), .second, .val (.long q2), .second, .val (.long q3), .second, .val (.int p4), .val (.ref b11), .unset, .unset, .unset, .unset, .unset] [(.int (lcmpW (g_34 ((0 : Int32)).toNatClampNeg) (g_34 ((1 : Int32)).toNatClampNeg)))])) t → Steps p.tables e below (s₁.setTop (entryFrame m #[(.long q0), (.long q1), (.long q2), (.long q3), (.int p4)] maxLocals)) t := fun t k => pre0 t (by
    refine XS.iconst X0.here hx rfl (hb hby at_0) ?_
    show Steps p.tables e below (s₁.setTop (mkF m 1 #[.val (.long q0), .second, .val (.long q1), .second, .val (.long q2), .second, .val (.long q3), .second, .val (.int p4), .unset, .unset, .unset, .unset, .unset, .unset] [(.int (4 : Int32))])) _
    refine st11 _ ?_
    show Steps p.tables e below (T11.setTop (mkF m 3 #[.val (.long q0), .second, .val (.long q1), .second, .val (.long q2), .second, .val (.long q3), .second, .val (.int p4), .unset, .unset, .unset, .unset, .unset, .unset] [(.ref b11)])) _
    refine XS.dup X11.here hx rfl (hb hby at_3) rfl rfl ?_
    show Steps p.tables e below (T11.setTop (mkF m 4 #[.val (.long q0), .second, .val (.long q1), .second, .val (.long q2), .second, .val (.long q3), .second, .val (.int p4), .unset, .unset, .unset, .unset, .unset, .unset] [(.ref b11), (.ref b11)])) _
    refine XS.iconst X11.here hx rfl (hb hby at_4) ?_
    show Steps p.tables e below (T11.setTop (mkF m 5 #[.val (.long q0), .second, .val (.long q1), .second, .val (.long q2), .second, .val (.long q3), .second, .val (.int p4), .unset, .unset, .unset, .unset, .unset, .unset] [(.int (0 : Int32)), (.ref b11), (.ref b11)])) _
    refine XS.lloadN X11.here hx rfl (hb hby at_5) rfl ?_
    show Steps p.tables e below (T11.setTop (mkF m 6 #[.val (.long q0), .second, .val (.long q1), .second, .val (.long q2), .second, .val (.long q3), .second, .val (.int p4), .unset, .unset, .unset, .unset, .unset, .unset] [(.long q0), (.int (0 : Int32)), (.ref b11), (.ref b11)])) _
    refine st15 _ ?_
    show Steps p.tables e below (T15.setTop (mkF m 7 #[.val (.long q0), .second, .val (.long q1), .second, .val (.long q2), .second, .val (.long q3), .second, .val (.int p4), .unset, .unset, .unset, .unset, .unset, .unset] [(.ref b11)])) _
    refine XS.dup X15.here hx rfl (hb hby at_7) rfl rfl ?_
    show Steps p.tables e below (T15.setTop (mkF m 8 #[.val (.long q0), .second, .val (.long q1), .second, .val (.long q2), .second, .val (.long q3), .second, .val (.int p4), .unset, .unset, .unset, .unset, .unset, .unset] [(.ref b11), (.ref b11)])) _
    refine XS.iconst X15.here hx rfl (hb hby at_8) ?_
    show Steps p.tables e below (T15.setTop (mkF m 9 #[.val (.long q0), .second, .val (.long q1), .second, .val (.long q2), .second, .val (.long q3), .second, .val (.int p4), .unset, .unset, .unset, .unset, .unset, .unset] [(.int (1 : Int32)), (.ref b11), (.ref b11)])) _
    refine XS.lloadN X15.here hx rfl (hb hby at_9) rfl ?_
    show Steps p.tables e below (T15.setTop (mkF m 10 #[.val (.long q0), .second, .val (.long q1), .second, .val (.long q2), .second, .val (.long q3), .second, .val (.int p4), .unset, .unset, .unset, .unset, .unset, .unset] [(.long q1), (.int (1 : Int32)), (.ref b11), (.ref b11)])) _
    refine st18 _ ?_
    show Steps p.tables e below (T18.setTop (mkF m 11 #[.val (.long q0), .second, .val (.long q1), .second, .val (.long q2), .second, .val (.long q3), .second, .val (.int p4), .unset, .unset, .unset, .unset, .unset, .unset] [(.ref b11)])) _
    refine XS.dup X18.here hx rfl (hb hby at_11) rfl rfl ?_
    show Steps p.tables e below (T18.setTop (mkF m 12 #[.val (.long q0), .second, .val (.long q1), .second, .val (.long q2), .second, .val (.long q3), .second, .val (.int p4), .unset, .unset, .unset, .unset, .unset, .unset] [(.ref b11), (.ref b11)])) _
    refine XS.iconst X18.here hx rfl (hb hby at_12) ?_
    show Steps p.tables e below (T18.setTop (mkF m 13 #[.val (.long q0), .second, .val (.long q1), .second, .val (.long q2), .second, .val (.long q3), .second, .val (.int p4), .unset, .unset, .unset, .unset, .unset, .unset] [(.int (2 : Int32)), (.ref b11), (.ref b11)])) _
    refine XS.lload X18.here hx rfl (hb hby at_13) rfl ?_
    show Steps p.tables e below (T18.setTop (mkF m 15 #[.val (.long q0), .second, .val (.long q1), .second, .val (.long q2), .second, .val (.long q3), .second, .val (.int p4), .unset, .unset, .unset, .unset, .unset, .unset] [(.long q2), (.int (2 : Int32)), (.ref b11), (.ref b11)])) _
    refine st21 _ ?_
    show Steps p.tables e below (T21.setTop (mkF m 16 #[.val (.long q0), .second, .val (.long q1), .second, .val (.long q2), .second, .val (.long q3), .second, .val (.int p4), .unset, .unset, .unset, .unset, .unset, .unset] [(.ref b11)])) _
    refine XS.dup X21.here hx rfl (hb hby at_16) rfl rfl ?_
    show Steps p.tables e below (T21.setTop (mkF m 17 #[.val (.long q0), .second, .val (.long q1), .second, .val (.long q2), .second, .val (.long q3), .second, .val (.int p4), .unset, .unset, .unset, .unset, .unset, .unset] [(.ref b11), (.ref b11)])) _
    refine XS.iconst X21.here hx rfl (hb hby at_17) ?_
    show Steps p.tables e below (T21.setTop (mkF m 18 #[.val (.long q0), .second, .val (.long q1), .second, .val (.long q2), .second, .val (.long q3), .second, .val (.int p4), .unset, .unset, .unset, .unset, .unset, .unset] [(.int (3 : Int32)), (.ref b11), (.ref b11)])) _
    refine XS.lload X21.here hx rfl (hb hby at_18) rfl ?_
    show Steps p.tables e below (T21.setTop (mkF m 20 #[.val (.long q0), .second, .val (.long q1), .second, .val (.long q2), .second, .val (.long q3), .second, .val (.int p4), .unset, .unset, .unset, .unset, .unset, .unset] [(.long q3), (.int (3 : Int32)), (.ref b11), (.ref b11)])) _
    refine st24 _ ?_
    show Steps p.tables e below (T24.setTop (mkF m 21 #[.val (.long q0), .second, .val (.long q1), .second, .val (.long q2), .second, .val (.long q3), .second, .val (.int p4), .unset, .unset, .unset, .unset, .unset, .unset] [(.ref b11)])) _
    refine XS.astore X24.here hx rfl (hb hby at_21) rfl rfl (l' := #[.val (.long q0), .second, .val (.long q1), .second, .val (.long q2), .second, .val (.long q3), .second, .val (.int p4), .val (.ref b11), .unset, .unset, .unset, .unset, .unset]) rfl ?_
    show Steps p.tables e below (T24.setTop (mkF m 23 #[.val (.long q0), .second, .val (.long q1), .second, .val (.long q2), .second, .val (.long q3), .second, .val (.int p4), .val (.ref b11), .unset, .unset, .unset, .unset, .unset] [])) _
    refine XS.aload X24.here hx rfl (hb hby at_23) rfl rfl ?_
    show Steps p.tables e below (T24.setTop (mkF m 25 #[.val (.long q0), .second, .val (.long q1), .second, .val (.long q2), .second, .val (.long q3), .second, .val (.int p4), .val (.ref b11), .unset, .unset, .unset, .unset, .unset] [(.ref b11)])) _
    refine XS.iconst X24.here hx rfl (hb hby at_25) ?_
    show Steps p.tables e below (T24.setTop (mkF m 26 #[.val (.long q0), .second, .val (.long q1), .second, .val (.long q2), .second, .val (.long q3), .second, .val (.int p4), .val (.ref b11), .unset, .unset, .unset, .unset, .unset] [(.int (0 : Int32)), (.ref b11)])) _
    refine XS.iconst X24.here hx rfl (hb hby at_26) ?_
    show Steps p.tables e below (T24.setTop (mkF m 27 #[.val (.long q0), .second, .val (.long q1), .second, .val (.long q2), .second, .val (.long q3), .second, .val (.int p4), .val (.ref b11), .unset, .unset, .unset, .unset, .unset] [(.int (1 : Int32)), (.int (0 : Int32)), (.ref b11)])) _
    refine st26 _ ?_
    show Steps p.tables e below (T26.setTop (mkF m 30 #[.val (.long q0), .second, .val (.long q1), .second, .val (.long q2), .second, .val (.long q3), .second, .val (.int p4), .val (.ref b11), .unset, .unset, .unset, .unset, .unset] [])) _
    refine XS.aload X26.here hx rfl (hb hby at_30) rfl rfl ?_
    show Steps p.tables e below (T26.setTop (mkF m 32 #[.val (.long q0), .second, .val (.long q1), .second, .val (.long q2), .second, .val (.long q3), .second, .val (.int p4), .val (.ref b11), .unset, .unset, .unset, .unset, .unset] [(.ref b11)])) _
    refine XS.iconst X26.here hx rfl (hb hby at_32) ?_
    show Steps p.tables e below (T26.setTop (mkF m 33 #[.val (.long q0), .second, .val (.long q1), .second, .val (.long q2), .second, .val (.long q3), .second, .val (.int p4), .val (.ref b11), .unset, .unset, .unset, .unset, .unset] [(.int (2 : Int32)), (.ref b11)])) _
    refine XS.iconst X26.here hx rfl (hb hby at_33) ?_
    show Steps p.tables e below (T26.setTop (mkF m 34 #[.val (.long q0), .second, .val (.long q1), .second, .val (.long q2), .second, .val (.long q3), .second, .val (.int p4), .val (.ref b11), .unset, .unset, .unset, .unset, .unset] [(.int (3 : Int32)), (.int (2 : Int32)), (.ref b11)])) _
    refine st28 _ ?_
    show Steps p.tables e below (T28.setTop (mkF m 37 #[.val (.long q0), .second, .val (.long q1), .second, .val (.long q2), .second, .val (.long q3), .second, .val (.int p4), .val (.ref b11), .unset, .unset, .unset, .unset, .unset] [])) _
    refine XS.aload X28.here hx rfl (hb hby at_37) rfl rfl ?_
    show Steps p.tables e below (T28.setTop (mkF m 39 #[.val (.long q0), .second, .val (.long q1), .second, .val (.long q2), .second, .val (.long q3), .second, .val (.int p4), .val (.ref b11), .unset, .unset, .unset, .unset, .unset] [(.ref b11)])) _
    refine XS.iconst X28.here hx rfl (hb hby at_39) ?_
    show Steps p.tables e below (T28.setTop (mkF m 40 #[.val (.long q0), .second, .val (.long q1), .second, .val (.long q2), .second, .val (.long q3), .second, .val (.int p4), .val (.ref b11), .unset, .unset, .unset, .unset, .unset] [(.int (0 : Int32)), (.ref b11)])) _
    refine XS.iconst X28.here hx rfl (hb hby at_40) ?_
    show Steps p.tables e below (T28.setTop (mkF m 41 #[.val (.long q0), .second, .val (.long q1), .second, .val (.long q2), .second, .val (.long q3), .second, .val (.int p4), .val (.ref b11), .unset, .unset, .unset, .unset, .unset] [(.int (2 : Int32)), (.int (0 : Int32)), (.ref b11)])) _
    refine st30 _ ?_
    show Steps p.tables e below (T30.setTop (mkF m 44 #[.val (.long q0), .second, .val (.long q1), .second, .val (.long q2), .second, .val (.long q3), .second, .val (.int p4), .val (.ref b11), .unset, .unset, .unset, .unset, .unset] [])) _
    refine XS.aload X30.here hx rfl (hb hby at_44) rfl rfl ?_
    show Steps p.tables e below (T30.setTop (mkF m 46 #[.val (.long q0), .second, .val (.long q1), .second, .val (.long q2), .second, .val (.long q3), .second, .val (.int p4), .val (.ref b11), .unset, .unset, .unset, .unset, .unset] [(.ref b11)])) _
    refine XS.iconst X30.here hx rfl (hb hby at_46) ?_
    show Steps p.tables e below (T30.setTop (mkF m 47 #[.val (.long q0), .second, .val (.long q1), .second, .val (.long q2), .second, .val (.long q3), .second, .val (.int p4), .val (.ref b11), .unset, .unset, .unset, .unset, .unset] [(.int (1 : Int32)), (.ref b11)])) _
    refine XS.iconst X30.here hx rfl (hb hby at_47) ?_
    show Steps p.tables e below (T30.setTop (mkF m 48 #[.val (.long q0), .second, .val (.long q1), .second, .val (.long q2), .second, .val (.long q3), .second, .val (.int p4), .val (.ref b11), .unset, .unset, .unset, .unset, .unset] [(.int (3 : Int32)), (.int (1 : Int32)), (.ref b11)])) _
    refine st32 _ ?_
    show Steps p.tables e below (T32.setTop (mkF m 51 #[.val (.long q0), .second, .val (.long q1), .second, .val (.long q2), .second, .val (.long q3), .second, .val (.int p4), .val (.ref b11), .unset, .unset, .unset, .unset, .unset] [])) _
    refine XS.aload X32.here hx rfl (hb hby at_51) rfl rfl ?_
    show Steps p.tables e below (T32.setTop (mkF m 53 #[.val (.long q0), .second, .val (.long q1), .second, .val (.long q2), .second, .val (.long q3), .second, .val (.int p4), .val (.ref b11), .unset, .unset, .unset, .unset, .unset] [(.ref b11)])) _
    refine XS.iconst X32.here hx rfl (hb hby at_53) ?_
    show Steps p.tables e below (T32.setTop (mkF m 54 #[.val (.long q0), .second, .val (.long q1), .second, .val (.long q2), .second, .val (.long q3), .second, .val (.int p4), .val (.ref b11), .unset, .unset, .unset, .unset, .unset] [(.int (1 : Int32)), (.ref b11)])) _
    refine XS.iconst X32.here hx rfl (hb hby at_54) ?_
    show Steps p.tables e below (T32.setTop (mkF m 55 #[.val (.long q0), .second, .val (.long q1), .second, .val (.long q2), .second, .val (.long q3), .second, .val (.int p4), .val (.ref b11), .unset, .unset, .unset, .unset, .unset] [(.int (2 : Int32)), (.int (1 : Int32)), (.ref b11)])) _
    refine st34 _ ?_
    show Steps p.tables e below (T34.setTop (mkF m 58 #[.val (.long q0), .second, .val (.long q1), .second, .val (.long q2), .second, .val (.long q3), .second, .val (.int p4), .val (.ref b11), .unset, .unset, .unset, .unset, .unset] [])) _
    refine XS.aload X34.here hx rfl (hb hby at_58) rfl rfl ?_
    show Steps p.tables e below (T34.setTop (mkF m 60 #[.val (.long q0), .second, .val (.long q1), .second, .val (.long q2), .second, .val (.long q3), .second, .val (.int p4), .val (.ref b11), .unset, .unset, .unset, .unset, .unset] [(.ref b11)])) _
    refine XS.iconst X34.here hx rfl (hb hby at_60) ?_
    show Steps p.tables e below (T34.setTop (mkF m 61 #[.val (.long q0), .second, .val (.long q1), .second, .val (.long q2), .second, .val (.long q3), .second, .val (.int p4), .val (.ref b11), .unset, .unset, .unset, .unset, .unset] [(.int (0 : Int32)), (.ref b11)])) _
    refine X34.laload hx (j := (0 : Int32)) (v := (.long (g_34 ((0 : Int32)).toNatClampNeg))) (id Ar36.1) (State.isArrayOf_alike hZ.alike Ar36.2.1) Ar36.2.2 hin36 hat36 (g := (mkF m 61 #[.val (.long q0), .second, .val (.long q1), .second, .val (.long q2), .second, .val (.long q3), .second, .val (.int p4), .val (.ref b11), .unset, .unset, .unset, .unset, .unset] [(.int (0 : Int32)), (.ref b11)])) rfl rfl (hb hby at_61) _ ?_
    show Steps p.tables e below (T34.setTop (mkF m 62 #[.val (.long q0), .second, .val (.long q1), .second, .val (.long q2), .second, .val (.long q3), .second, .val (.int p4), .val (.ref b11), .unset, .unset, .unset, .unset, .unset] [(.long (g_34 ((0 : Int32)).toNatClampNeg))])) _
    refine XS.aload X34.here hx rfl (hb hby at_62) rfl rfl ?_
    show Steps p.tables e below (T34.setTop (mkF m 64 #[.val (.long q0), .second, .val (.long q1), .second, .val (.long q2), .second, .val (.long q3), .second, .val (.int p4), .val (.ref b11), .unset, .unset, .unset, .unset, .unset] [(.ref b11), (.long (g_34 ((0 : Int32)).toNatClampNeg))])) _
    refine XS.iconst X34.here hx rfl (hb hby at_64) ?_
    show Steps p.tables e below (T34.setTop (mkF m 65 #[.val (.long q0), .second, .val (.long q1), .second, .val (.long q2), .second, .val (.long q3), .second, .val (.int p4), .val (.ref b11), .unset, .unset, .unset, .unset, .unset] [(.int (1 : Int32)), (.ref b11), (.long (g_34 ((0 : Int32)).toNatClampNeg))])) _
    refine X34.laload hx (j := (1 : Int32)) (v := (.long (g_34 ((1 : Int32)).toNatClampNeg))) (id Ar37.1) (State.isArrayOf_alike hZ.alike Ar37.2.1) Ar37.2.2 hin37 hat37 (g := (mkF m 65 #[.val (.long q0), .second, .val (.long q1), .second, .val (.long q2), .second, .val (.long q3), .second, .val (.int p4), .val (.ref b11), .unset, .unset, .unset, .unset, .unset] [(.int (1 : Int32)), (.ref b11), (.long (g_34 ((0 : Int32)).toNatClampNeg))])) rfl rfl (hb hby at_65) _ ?_
    show Steps p.tables e below (T34.setTop (mkF m 66 #[.val (.long q0), .second, .val (.long q1), .second, .val (.long q2), .second, .val (.long q3), .second, .val (.int p4), .val (.ref b11), .unset, .unset, .unset, .unset, .unset] [(.long (g_34 ((1 : Int32)).toNatClampNeg)), (.long (g_34 ((0 : Int32)).toNatClampNeg))])) _
    refine XS.lcmp X34.here hx rfl (hb hby at_66) rfl ?_
    exact k)
  by_cases hc39 : (g_34 ((0 : Int32)).toNatClampNeg) = (g_34 ((1 : Int32)).toNatClampNeg)
  · obtain ⟨fs, hr, hrun, hended, hW, hsame⟩ := X34.leave (v := some (.int (1 : Int32))) (fun h => by rw [Bd.returns] at h; cases h)
    refine ⟨_, _, pre38 _ ?_, hrun, hended, _, _, rfl, ?_, ⟨_, rfl⟩, hW, hsame.mono (by decide) (by decide)⟩
    · refine XS.ifYes X34.here hx rfl (pc0 := 67) (pc' := 94) rfl (hb hby at_67) rfl ((if0 _ _).trans (teq ((lw_eq (g_34 ((0 : Int32)).toNatClampNeg) (g_34 ((1 : Int32)).toNatClampNeg)).mpr hc39)).1) (by decide) (by decide) ?_
      show Steps p.tables e below (T34.setTop (mkF m 94 #[.val (.long q0), .second, .val (.long q1), .second, .val (.long q2), .second, .val (.long q3), .second, .val (.int p4), .val (.ref b11), .unset, .unset, .unset, .unset, .unset] [])) _
      refine XS.iconst X34.here hx rfl (hb hby at_94) ?_
      show Steps p.tables e below (T34.setTop (mkF m 95 #[.val (.long q0), .second, .val (.long q1), .second, .val (.long q2), .second, .val (.long q3), .second, .val (.int p4), .val (.ref b11), .unset, .unset, .unset, .unset, .unset] [(.int (1 : Int32))])) _
      exact retN X34 hx (t := .boolean) Bd.returns (by simp) (hb hby at_95) hr
    · show Q0 Z q0 q1 q2 q3 p4 h0 n0 _ T34.heap _
      exact ⟨rfl, N34⟩
  · obtain ⟨cl40, Ar40, S40, M40, I40⟩ := id u34_1
    have hin40 : ¬ ((1 : Int32) < 0 ∨ cl40.slots.size ≤ ((1 : Int32)).toNatClampNeg) := inb_of S40 ⟨by decide, by decide⟩
    have hat40 : cl40.slots[((1 : Int32)).toNatClampNeg]? = some (.long (g_34 ((1 : Int32)).toNatClampNeg)) := I40 _ (Nat.lt_of_not_le fun y => hin40 (Or.inr y))
    obtain ⟨cl41, Ar41, S41, M41, I41⟩ := id u34_1
    have hin41 : ¬ ((2 : Int32) < 0 ∨ cl41.slots.size ≤ ((2 : Int32)).toNatClampNeg) := inb_of S41 ⟨by decide, by decide⟩
    have hat41 : cl41.slots[((2 : Int32)).toNatClampNeg]? = some (.long (g_34 ((2 : Int32)).toNatClampNeg)) := I41 _ (Nat.lt_of_not_le fun y => hin41 (Or.inr y))
    have pre42 : ∀ t, Steps p.tables e below (T34.setTop (mkF m 79 #[.val (.long q0), .second, .val (.long q1), .second, .val (.long q2), .second, .val (.long q3), .second, .val (.int p4), .val (.ref b11), .unset, .unset, .unset, .unset, .unset] [(.int (lcmpW (g_34 ((1 : Int32)).toNatClampNeg) (g_34 ((2 : Int32)).toNatClampNeg)))])) t → Steps p.tables e below (s₁.setTop (entryFrame m #[(.long q0), (.long q1), (.long q2), (.long q3), (.int p4)] maxLocals)) t := fun t k => pre38 t (by
      refine XS.ifNo X34.here hx rfl (hb hby at_67) rfl ((if0 _ _).trans (feq (fun q => hc39 ((lw_eq (g_34 ((0 : Int32)).toNatClampNeg) (g_34 ((1 : Int32)).toNatClampNeg)).mp q))).1) ?_
      show Steps p.tables e below (T34.setTop (mkF m 70 #[.val (.long q0), .second, .val (.long q1), .second, .val (.long q2), .second, .val (.long q3), .second, .val (.int p4), .val (.ref b11), .unset, .unset, .unset, .unset, .unset] [])) _
      refine XS.aload X34.here hx rfl (hb hby at_70) rfl rfl ?_
      show Steps p.tables e below (T34.setTop (mkF m 72 #[.val (.long q0), .second, .val (.long q1), .second, .val (.long q2), .second, .val (.long q3), .second, .val (.int p4), .val (.ref b11), .unset, .unset, .unset, .unset, .unset] [(.ref b11)])) _
      refine XS.iconst X34.here hx rfl (hb hby at_72) ?_
      show Steps p.tables e below (T34.setTop (mkF m 73 #[.val (.long q0), .second, .val (.long q1), .second, .val (.long q2), .second, .val (.long q3), .second, .val (.int p4), .val (.ref b11), .unset, .unset, .unset, .unset, .unset] [(.int (1 : Int32)), (.ref b11)])) _
      refine X34.laload hx (j := (1 : Int32)) (v := (.long (g_34 ((1 : Int32)).toNatClampNeg))) (id Ar40.1) (State.isArrayOf_alike hZ.alike Ar40.2.1) Ar40.2.2 hin40 hat40 (g := (mkF m 73 #[.val (.long q0), .second, .val (.long q1), .second, .val (.long q2), .second, .val (.long q3), .second, .val (.int p4), .val (.ref b11), .unset, .unset, .unset, .unset, .unset] [(.int (1 : Int32)), (.ref b11)])) rfl rfl (hb hby at_73) _ ?_
      show Steps p.tables e below (T34.setTop (mkF m 74 #[.val (.long q0), .second, .val (.long q1), .second, .val (.long q2), .second, .val (.long q3), .second, .val (.int p4), .val (.ref b11), .unset, .unset, .unset, .unset, .unset] [(.long (g_34 ((1 : Int32)).toNatClampNeg))])) _
      refine XS.aload X34.here hx rfl (hb hby at_74) rfl rfl ?_
      show Steps p.tables e below (T34.setTop (mkF m 76 #[.val (.long q0), .second, .val (.long q1), .second, .val (.long q2), .second, .val (.long q3), .second, .val (.int p4), .val (.ref b11), .unset, .unset, .unset, .unset, .unset] [(.ref b11), (.long (g_34 ((1 : Int32)).toNatClampNeg))])) _
      refine XS.iconst X34.here hx rfl (hb hby at_76) ?_
      show Steps p.tables e below (T34.setTop (mkF m 77 #[.val (.long q0), .second, .val (.long q1), .second, .val (.long q2), .second, .val (.long q3), .second, .val (.int p4), .val (.ref b11), .unset, .unset, .unset, .unset, .unset] [(.int (2 : Int32)), (.ref b11), (.long (g_34 ((1 : Int32)).toNatClampNeg))])) _
      refine X34.laload hx (j := (2 : Int32)) (v := (.long (g_34 ((2 : Int32)).toNatClampNeg))) (id Ar41.1) (State.isArrayOf_alike hZ.alike Ar41.2.1) Ar41.2.2 hin41 hat41 (g := (mkF m 77 #[.val (.long q0), .second, .val (.long q1), .second, .val (.long q2), .second, .val (.long q3), .second, .val (.int p4), .val (.ref b11), .unset, .unset, .unset, .unset, .unset] [(.int (2 : Int32)), (.ref b11), (.long (g_34 ((1 : Int32)).toNatClampNeg))])) rfl rfl (hb hby at_77) _ ?_
      show Steps p.tables e below (T34.setTop (mkF m 78 #[.val (.long q0), .second, .val (.long q1), .second, .val (.long q2), .second, .val (.long q3), .second, .val (.int p4), .val (.ref b11), .unset, .unset, .unset, .unset, .unset] [(.long (g_34 ((2 : Int32)).toNatClampNeg)), (.long (g_34 ((1 : Int32)).toNatClampNeg))])) _
      refine XS.lcmp X34.here hx rfl (hb hby at_78) rfl ?_
      exact k)
    by_cases hc43 : (g_34 ((1 : Int32)).toNatClampNeg) = (g_34 ((2 : Int32)).toNatClampNeg)
    · obtain ⟨fs, hr, hrun, hended, hW, hsame⟩ := X34.leave (v := some (.int (1 : Int32))) (fun h => by rw [Bd.returns] at h; cases h)
      refine ⟨_, _, pre42 _ ?_, hrun, hended, _, _, rfl, ?_, ⟨_, rfl⟩, hW, hsame.mono (by decide) (by decide)⟩
      · refine XS.ifYes X34.here hx rfl (pc0 := 79) (pc' := 94) rfl (hb hby at_79) rfl ((if0 _ _).trans (teq ((lw_eq (g_34 ((1 : Int32)).toNatClampNeg) (g_34 ((2 : Int32)).toNatClampNeg)).mpr hc43)).1) (by decide) (by decide) ?_
        show Steps p.tables e below (T34.setTop (mkF m 94 #[.val (.long q0), .second, .val (.long q1), .second, .val (.long q2), .second, .val (.long q3), .second, .val (.int p4), .val (.ref b11), .unset, .unset, .unset, .unset, .unset] [])) _
        refine XS.iconst X34.here hx rfl (hb hby at_94) ?_
        show Steps p.tables e below (T34.setTop (mkF m 95 #[.val (.long q0), .second, .val (.long q1), .second, .val (.long q2), .second, .val (.long q3), .second, .val (.int p4), .val (.ref b11), .unset, .unset, .unset, .unset, .unset] [(.int (1 : Int32))])) _
        exact retN X34 hx (t := .boolean) Bd.returns (by simp) (hb hby at_95) hr
      · show Q0 Z q0 q1 q2 q3 p4 h0 n0 _ T34.heap _
        exact ⟨rfl, N34⟩
    · obtain ⟨cl44, Ar44, S44, M44, I44⟩ := id u34_1
      have hin44 : ¬ ((2 : Int32) < 0 ∨ cl44.slots.size ≤ ((2 : Int32)).toNatClampNeg) := inb_of S44 ⟨by decide, by decide⟩
      have hat44 : cl44.slots[((2 : Int32)).toNatClampNeg]? = some (.long (g_34 ((2 : Int32)).toNatClampNeg)) := I44 _ (Nat.lt_of_not_le fun y => hin44 (Or.inr y))
      obtain ⟨cl45, Ar45, S45, M45, I45⟩ := id u34_1
      have hin45 : ¬ ((3 : Int32) < 0 ∨ cl45.slots.size ≤ ((3 : Int32)).toNatClampNeg) := inb_of S45 ⟨by decide, by decide⟩
      have hat45 : cl45.slots[((3 : Int32)).toNatClampNeg]? = some (.long (g_34 ((3 : Int32)).toNatClampNeg)) := I45 _ (Nat.lt_of_not_le fun y => hin45 (Or.inr y))
      have pre46 : ∀ t, Steps p.tables e below (T34.setTop (mkF m 91 #[.val (.long q0), .second, .val (.long q1), .second, .val (.long q2), .second, .val (.long q3), .second, .val (.int p4), .val (.ref b11), .unset, .unset, .unset, .unset, .unset] [(.int (lcmpW (g_34 ((2 : Int32)).toNatClampNeg) (g_34 ((3 : Int32)).toNatClampNeg)))])) t → Steps p.tables e below (s₁.setTop (entryFrame m #[(.long q0), (.long q1), (.long q2), (.long q3), (.int p4)] maxLocals)) t := fun t k => pre42 t (by
        refine XS.ifNo X34.here hx rfl (hb hby at_79) rfl ((if0 _ _).trans (feq (fun q => hc43 ((lw_eq (g_34 ((1 : Int32)).toNatClampNeg) (g_34 ((2 : Int32)).toNatClampNeg)).mp q))).1) ?_
        show Steps p.tables e below (T34.setTop (mkF m 82 #[.val (.long q0), .second, .val (.long q1), .second, .val (.long q2), .second, .val (.long q3), .second, .val (.int p4), .val (.ref b11), .unset, .unset, .unset, .unset, .unset] [])) _
        refine XS.aload X34.here hx rfl (hb hby at_82) rfl rfl ?_
        show Steps p.tables e below (T34.setTop (mkF m 84 #[.val (.long q0), .second, .val (.long q1), .second, .val (.long q2), .second, .val (.long q3), .second, .val (.int p4), .val (.ref b11), .unset, .unset, .unset, .unset, .unset] [(.ref b11)])) _
        refine XS.iconst X34.here hx rfl (hb hby at_84) ?_
        show Steps p.tables e below (T34.setTop (mkF m 85 #[.val (.long q0), .second, .val (.long q1), .second, .val (.long q2), .second, .val (.long q3), .second, .val (.int p4), .val (.ref b11), .unset, .unset, .unset, .unset, .unset] [(.int (2 : Int32)), (.ref b11)])) _
        refine X34.laload hx (j := (2 : Int32)) (v := (.long (g_34 ((2 : Int32)).toNatClampNeg))) (id Ar44.1) (State.isArrayOf_alike hZ.alike Ar44.2.1) Ar44.2.2 hin44 hat44 (g := (mkF m 85 #[.val (.long q0), .second, .val (.long q1), .second, .val (.long q2), .second, .val (.long q3), .second, .val (.int p4), .val (.ref b11), .unset, .unset, .unset, .unset, .unset] [(.int (2 : Int32)), (.ref b11)])) rfl rfl (hb hby at_85) _ ?_
        show Steps p.tables e below (T34.setTop (mkF m 86 #[.val (.long q0), .second, .val (.long q1), .second, .val (.long q2), .second, .val (.long q3), .second, .val (.int p4), .val (.ref b11), .unset, .unset, .unset, .unset, .unset] [(.long (g_34 ((2 : Int32)).toNatClampNeg))])) _
        refine XS.aload X34.here hx rfl (hb hby at_86) rfl rfl ?_
        show Steps p.tables e below (T34.setTop (mkF m 88 #[.val (.long q0), .second, .val (.long q1), .second, .val (.long q2), .second, .val (.long q3), .second, .val (.int p4), .val (.ref b11), .unset, .unset, .unset, .unset, .unset] [(.ref b11), (.long (g_34 ((2 : Int32)).toNatClampNeg))])) _
        refine XS.iconst X34.here hx rfl (hb hby at_88) ?_
        show Steps p.tables e below (T34.setTop (mkF m 89 #[.val (.long q0), .second, .val (.long q1), .second, .val (.long q2), .second, .val (.long q3), .second, .val (.int p4), .val (.ref b11), .unset, .unset, .unset, .unset, .unset] [(.int (3 : Int32)), (.ref b11), (.long (g_34 ((2 : Int32)).toNatClampNeg))])) _
        refine X34.laload hx (j := (3 : Int32)) (v := (.long (g_34 ((3 : Int32)).toNatClampNeg))) (id Ar45.1) (State.isArrayOf_alike hZ.alike Ar45.2.1) Ar45.2.2 hin45 hat45 (g := (mkF m 89 #[.val (.long q0), .second, .val (.long q1), .second, .val (.long q2), .second, .val (.long q3), .second, .val (.int p4), .val (.ref b11), .unset, .unset, .unset, .unset, .unset] [(.int (3 : Int32)), (.ref b11), (.long (g_34 ((2 : Int32)).toNatClampNeg))])) rfl rfl (hb hby at_89) _ ?_
        show Steps p.tables e below (T34.setTop (mkF m 90 #[.val (.long q0), .second, .val (.long q1), .second, .val (.long q2), .second, .val (.long q3), .second, .val (.int p4), .val (.ref b11), .unset, .unset, .unset, .unset, .unset] [(.long (g_34 ((3 : Int32)).toNatClampNeg)), (.long (g_34 ((2 : Int32)).toNatClampNeg))])) _
        refine XS.lcmp X34.here hx rfl (hb hby at_90) rfl ?_
        exact k)
      by_cases hc47 : (g_34 ((2 : Int32)).toNatClampNeg) = (g_34 ((3 : Int32)).toNatClampNeg)
      · obtain ⟨fs, hr, hrun, hended, hW, hsame⟩ := X34.leave (v := some (.int (1 : Int32))) (fun h => by rw [Bd.returns] at h; cases h)
        refine ⟨_, _, pre46 _ ?_, hrun, hended, _, _, rfl, ?_, ⟨_, rfl⟩, hW, hsame.mono (by decide) (by decide)⟩
        · refine XS.ifNo X34.here hx rfl (hb hby at_91) rfl ((if0 _ _).trans (teq ((lw_eq (g_34 ((2 : Int32)).toNatClampNeg) (g_34 ((3 : Int32)).toNatClampNeg)).mpr hc47)).2) ?_
          show Steps p.tables e below (T34.setTop (mkF m 94 #[.val (.long q0), .second, .val (.long q1), .second, .val (.long q2), .second, .val (.long q3), .second, .val (.int p4), .val (.ref b11), .unset, .unset, .unset, .unset, .unset] [])) _
          refine XS.iconst X34.here hx rfl (hb hby at_94) ?_
          show Steps p.tables e below (T34.setTop (mkF m 95 #[.val (.long q0), .second, .val (.long q1), .second, .val (.long q2), .second, .val (.long q3), .second, .val (.int p4), .val (.ref b11), .unset, .unset, .unset, .unset, .unset] [(.int (1 : Int32))])) _
          exact retN X34 hx (t := .boolean) Bd.returns (by simp) (hb hby at_95) hr
        · show Q0 Z q0 q1 q2 q3 p4 h0 n0 _ T34.heap _
          exact ⟨rfl, N34⟩
      · have pre48 : ∀ t, Steps p.tables e below (T34.setTop (mkF m 112 #[.val (.long q0), .second, .val (.long q1), .second, .val (.long q2), .second, .val (.long q3), .second, .val (.int p4), .val (.ref b11), .val (.int (p4 &&& (15 : Int32))), .val (.int (((p4.toUInt32 >>> ((4 : Int32) &&& 31).toUInt32).toInt32) &&& (15 : Int32))), .unset, .unset, .unset] [])) t → Steps p.tables e below (s₁.setTop (entryFrame m #[(.long q0), (.long q1), (.long q2), (.long q3), (.int p4)] maxLocals)) t := fun t k => pre46 t (by
          refine XS.ifYes X34.here hx rfl (pc0 := 91) (pc' := 96) rfl (hb hby at_91) rfl ((if0 _ _).trans (feq (fun q => hc47 ((lw_eq (g_34 ((2 : Int32)).toNatClampNeg) (g_34 ((3 : Int32)).toNatClampNeg)).mp q))).2) (by decide) (by decide) ?_
          show Steps p.tables e below (T34.setTop (mkF m 96 #[.val (.long q0), .second, .val (.long q1), .second, .val (.long q2), .second, .val (.long q3), .second, .val (.int p4), .val (.ref b11), .unset, .unset, .unset, .unset, .unset] [])) _
          refine XS.iload X34.here hx rfl (hb hby at_96) rfl ?_
          show Steps p.tables e below (T34.setTop (mkF m 98 #[.val (.long q0), .second, .val (.long q1), .second, .val (.long q2), .second, .val (.long q3), .second, .val (.int p4), .val (.ref b11), .unset, .unset, .unset, .unset, .unset] [(.int p4)])) _
          refine XS.bipush X34.here hx rfl (hb hby at_98) ?_
          show Steps p.tables e below (T34.setTop (mkF m 100 #[.val (.long q0), .second, .val (.long q1), .second, .val (.long q2), .second, .val (.long q3), .second, .val (.int p4), .val (.ref b11), .unset, .unset, .unset, .unset, .unset] [(.int (15 : Int32)), (.int p4)])) _
          refine XS.iand X34.here hx rfl (hb hby at_100) rfl ?_
          show Steps p.tables e below (T34.setTop (mkF m 101 #[.val (.long q0), .second, .val (.long q1), .second, .val (.long q2), .second, .val (.long q3), .second, .val (.int p4), .val (.ref b11), .unset, .unset, .unset, .unset, .unset] [(.int (p4 &&& (15 : Int32)))])) _
          refine XS.istore X34.here hx rfl (hb hby at_101) rfl (l' := #[.val (.long q0), .second, .val (.long q1), .second, .val (.long q2), .second, .val (.long q3), .second, .val (.int p4), .val (.ref b11), .val (.int (p4 &&& (15 : Int32))), .unset, .unset, .unset, .unset]) rfl ?_
          show Steps p.tables e below (T34.setTop (mkF m 103 #[.val (.long q0), .second, .val (.long q1), .second, .val (.long q2), .second, .val (.long q3), .second, .val (.int p4), .val (.ref b11), .val (.int (p4 &&& (15 : Int32))), .unset, .unset, .unset, .unset] [])) _
          refine XS.iload X34.here hx rfl (hb hby at_103) rfl ?_
          show Steps p.tables e below (T34.setTop (mkF m 105 #[.val (.long q0), .second, .val (.long q1), .second, .val (.long q2), .second, .val (.long q3), .second, .val (.int p4), .val (.ref b11), .val (.int (p4 &&& (15 : Int32))), .unset, .unset, .unset, .unset] [(.int p4)])) _
          refine XS.iconst X34.here hx rfl (hb hby at_105) ?_
          show Steps p.tables e below (T34.setTop (mkF m 106 #[.val (.long q0), .second, .val (.long q1), .second, .val (.long q2), .second, .val (.long q3), .second, .val (.int p4), .val (.ref b11), .val (.int (p4 &&& (15 : Int32))), .unset, .unset, .unset, .unset] [(.int (4 : Int32)), (.int p4)])) _
          refine XS.iushr X34.here hx rfl (hb hby at_106) rfl ?_
          show Steps p.tables e below (T34.setTop (mkF m 107 #[.val (.long q0), .second, .val (.long q1), .second, .val (.long q2), .second, .val (.long q3), .second, .val (.int p4), .val (.ref b11), .val (.int (p4 &&& (15 : Int32))), .unset, .unset, .unset, .unset] [(.int ((p4.toUInt32 >>> ((4 : Int32) &&& 31).toUInt32).toInt32))])) _
          refine XS.bipush X34.here hx rfl (hb hby at_107) ?_
          show Steps p.tables e below (T34.setTop (mkF m 109 #[.val (.long q0), .second, .val (.long q1), .second, .val (.long q2), .second, .val (.long q3), .second, .val (.int p4), .val (.ref b11), .val (.int (p4 &&& (15 : Int32))), .unset, .unset, .unset, .unset] [(.int (15 : Int32)), (.int ((p4.toUInt32 >>> ((4 : Int32) &&& 31).toUInt32).toInt32))])) _
          refine XS.iand X34.here hx rfl (hb hby at_109) rfl ?_
          show Steps p.tables e below (T34.setTop (mkF m 110 #[.val (.long q0), .second, .val (.long q1), .second, .val (.long q2), .second, .val (.long q3), .second, .val (.int p4), .val (.ref b11), .val (.int (p4 &&& (15 : Int32))), .unset, .unset, .unset, .unset] [(.int (((p4.toUInt32 >>> ((4 : Int32) &&& 31).toUInt32).toInt32) &&& (15 : Int32)))])) _
          refine XS.istore X34.here hx rfl (hb hby at_110) rfl (l' := #[.val (.long q0), .second, .val (.long q1), .second, .val (.long q2), .second, .val (.long q3), .second, .val (.int p4), .val (.ref b11), .val (.int (p4 &&& (15 : Int32))), .val (.int (((p4.toUInt32 >>> ((4 : Int32) &&& 31).toUInt32).toInt32) &&& (15 : Int32))), .unset, .unset, .unset]) rfl ?_
          exact k)
        obtain ⟨sm, hsm⟩ : ∃ z, z = (p4 &&& (15 : Int32)) := ⟨_, rfl⟩
        rw [← hsm] at pre48
        obtain ⟨tm, htm⟩ : ∃ z, z = (((p4.toUInt32 >>> ((4 : Int32) &&& 31).toUInt32).toInt32) &&& (15 : Int32)) := ⟨_, rfl⟩
        rw [← htm] at pre48
        have pre49 : ∀ t, Steps p.tables e below (T34.setTop (mkF m 114 #[.val (.long q0), .second, .val (.long q1), .second, .val (.long q2), .second, .val (.long q3), .second, .val (.int p4), .val (.ref b11), .val (.int sm), .val (.int tm), .unset, .unset, .unset] [(.ref b11)])) t → Steps p.tables e below (s₁.setTop (entryFrame m #[(.long q0), (.long q1), (.long q2), (.long q3), (.int p4)] maxLocals)) t := fun t k => pre48 t (by
          refine XS.aload X34.here hx rfl (hb hby at_112) rfl rfl ?_
          exact k)
        have Bsm : ¬ sm < (0 : Int32) ∧ ¬ (15 : Int32) < sm := by rw [hsm]; exact own_m15 _
        have Btm : ¬ tm < (0 : Int32) ∧ ¬ (15 : Int32) < tm := by rw [htm]; exact own_m15 _
        obtain ⟨_, _, ⟨T50, L50, k50, n50⟩, -, X50, ⟨Lc50, hQ50, l50, y50, z50⟩, st50⟩ := Jvm.LawKit.callS X34 hx (y := (⟨"com/example/honeybee/honeybee/calculus/ClauseIsSubsetPinLaw", "pick", "([JI)[J"⟩ : MethodName)) hown (mvT hZ (hw _ (List.mem_of_getElem? (i := 5) rfl))) (mvT hZ (hw _ (List.mem_of_getElem? (i := 6) rfl))) (mvT hZ (hw _ (List.mem_of_getElem? (i := 3) rfl))) (mvT hZ (hw _ (List.mem_of_getElem? (i := 7) rfl))) (by decide) (backOf (W := 0) (rm2 l Z a0 hw [] b11 sm g_34 T34.heap n0 Z35 u34_1 Bsm) hZ (hw _ (List.mem_of_getElem? (i := 7) rfl)) (hw _ (List.mem_of_getElem? (i := 3) rfl)) (by decide) (by decide)) (g := (mkF m 116 #[.val (.long q0), .second, .val (.long q1), .second, .val (.long q2), .second, .val (.long q3), .second, .val (.int p4), .val (.ref b11), .val (.int sm), .val (.int tm), .unset, .unset, .unset] [(.int sm), (.ref b11)])) rfl (by rw [hml]; rfl) (argsL := [(.ref b11), (.int sm)]) (rest := []) (lenOf pd_1 rfl) rfl (by show 2 * 0 + _ ≤ _; exact Nat.le_of_eq rfl) (hb hby at_116) (fun _ _ => ⟨rfl, rfl, (by decide : 1 + 1 ≤ _), (by decide : 4 + 4 ≤ _)⟩)
        dsimp only [Pt.U, Pt.locs, Pt.cells, Pt.slots] at X50 l50 y50 z50 st50 hQ50
        subst l50 y50 z50
        obtain ⟨b_50, z_50, g_50, rfl, Nq50, u50_0, u50_1, u50_2, u50_3⟩ := hQ50
        have N50 := Fr.app N34 Nq50
        have ne51 : b11 ≠ b_50 := Nat.ne_of_lt (Nat.lt_of_lt_of_le u34_1.lt u50_0)
        have g52 : n0 ≤ b_50 := Nat.le_trans Z35 u50_0
        have Z53 : n0 ≤ T50.heap.size := Nat.le_trans Z35 u50_1.1
        have V55 : AL Z T50.heap b11 (4 : Int32) g_34 := (u34_1.keep u50_1 nin0)
        obtain ⟨_, _, ⟨T54, L54, k54, n54⟩, -, X54, ⟨Lc54, hQ54, l54, y54, z54⟩, st54⟩ := Jvm.LawKit.callS X50 hx (y := (⟨"com/example/honeybee/honeybee/calculus/ClauseIsSubsetPinLaw", "pick", "([JI)[J"⟩ : MethodName)) hown (mvT hZ (hw _ (List.mem_of_getElem? (i := 5) rfl))) (mvT hZ (hw _ (List.mem_of_getElem? (i := 6) rfl))) (mvT hZ (hw _ (List.mem_of_getElem? (i := 3) rfl))) (mvT hZ (hw _ (List.mem_of_getElem? (i := 7) rfl))) (by decide) (backOf (W := 0) (rm2 l Z a0 hw [] b11 tm g_34 T50.heap n0 Z53 V55 Btm) hZ (hw _ (List.mem_of_getElem? (i := 7) rfl)) (hw _ (List.mem_of_getElem? (i := 3) rfl)) (by decide) (by decide)) (g := (mkF m 125 #[.val (.long q0), .second, .val (.long q1), .second, .val (.long q2), .second, .val (.long q3), .second, .val (.int p4), .val (.ref b11), .val (.int sm), .val (.int tm), .val (.ref b_50), .unset, .unset] [(.int tm), (.ref b11)])) rfl (by rw [hml]; rfl) (argsL := [(.ref b11), (.int tm)]) (rest := []) (lenOf pd_1 rfl) rfl (by show 2 * 0 + _ ≤ _; exact Nat.le_of_eq rfl) (hb hby at_125) (fun _ _ => ⟨rfl, rfl, (by decide : 2 + 1 ≤ _), (by decide : 8 + 4 ≤ _)⟩)
        dsimp only [Pt.U, Pt.locs, Pt.cells, Pt.slots] at X54 l54 y54 z54 st54 hQ54
        subst l54 y54 z54
        obtain ⟨b_54, z_54, g_54, rfl, Nq54, u54_0, u54_1, u54_2, u54_3⟩ := hQ54
        have N54 := Fr.app N50 Nq54
        have ne56 : b11 ≠ b_54 := Nat.ne_of_lt (Nat.lt_of_lt_of_le V55.lt u54_0)
        have ne57 : b_50 ≠ b_54 := Nat.ne_of_lt (Nat.lt_of_lt_of_le u50_2.lt u54_0)
        have g58 : n0 ≤ b_54 := Nat.le_trans Z53 u54_0
        have Z59 : n0 ≤ T54.heap.size := Nat.le_trans Z53 u54_1.1
        have pre60 : ∀ t, Steps p.tables e below (T54.setTop (mkF m 137 #[.val (.long q0), .second, .val (.long q1), .second, .val (.long q2), .second, .val (.long q3), .second, .val (.int p4), .val (.ref b11), .val (.int sm), .val (.int tm), .val (.ref b_50), .val (.ref b_54), .unset] [(.int (sm &&& (tm ^^^ (-1 : Int32))))])) t → Steps p.tables e below (s₁.setTop (entryFrame m #[(.long q0), (.long q1), (.long q2), (.long q3), (.int p4)] maxLocals)) t := fun t k => pre49 t (by
          refine XS.iload X34.here hx rfl (hb hby at_114) rfl ?_
          show Steps p.tables e below (T34.setTop (mkF m 116 #[.val (.long q0), .second, .val (.long q1), .second, .val (.long q2), .second, .val (.long q3), .second, .val (.int p4), .val (.ref b11), .val (.int sm), .val (.int tm), .unset, .unset, .unset] [(.int sm), (.ref b11)])) _
          refine st50 _ ?_
          show Steps p.tables e below (T50.setTop (mkF m 119 #[.val (.long q0), .second, .val (.long q1), .second, .val (.long q2), .second, .val (.long q3), .second, .val (.int p4), .val (.ref b11), .val (.int sm), .val (.int tm), .unset, .unset, .unset] [(.ref b_50)])) _
          refine XS.astore X50.here hx rfl (hb hby at_119) rfl rfl (l' := #[.val (.long q0), .second, .val (.long q1), .second, .val (.long q2), .second, .val (.long q3), .second, .val (.int p4), .val (.ref b11), .val (.int sm), .val (.int tm), .val (.ref b_50), .unset, .unset]) rfl ?_
          show Steps p.tables e below (T50.setTop (mkF m 121 #[.val (.long q0), .second, .val (.long q1), .second, .val (.long q2), .second, .val (.long q3), .second, .val (.int p4), .val (.ref b11), .val (.int sm), .val (.int tm), .val (.ref b_50), .unset, .unset] [])) _
          refine XS.aload X50.here hx rfl (hb hby at_121) rfl rfl ?_
          show Steps p.tables e below (T50.setTop (mkF m 123 #[.val (.long q0), .second, .val (.long q1), .second, .val (.long q2), .second, .val (.long q3), .second, .val (.int p4), .val (.ref b11), .val (.int sm), .val (.int tm), .val (.ref b_50), .unset, .unset] [(.ref b11)])) _
          refine XS.iload X50.here hx rfl (hb hby at_123) rfl ?_
          show Steps p.tables e below (T50.setTop (mkF m 125 #[.val (.long q0), .second, .val (.long q1), .second, .val (.long q2), .second, .val (.long q3), .second, .val (.int p4), .val (.ref b11), .val (.int sm), .val (.int tm), .val (.ref b_50), .unset, .unset] [(.int tm), (.ref b11)])) _
          refine st54 _ ?_
          show Steps p.tables e below (T54.setTop (mkF m 128 #[.val (.long q0), .second, .val (.long q1), .second, .val (.long q2), .second, .val (.long q3), .second, .val (.int p4), .val (.ref b11), .val (.int sm), .val (.int tm), .val (.ref b_50), .unset, .unset] [(.ref b_54)])) _
          refine XS.astore X54.here hx rfl (hb hby at_128) rfl rfl (l' := #[.val (.long q0), .second, .val (.long q1), .second, .val (.long q2), .second, .val (.long q3), .second, .val (.int p4), .val (.ref b11), .val (.int sm), .val (.int tm), .val (.ref b_50), .val (.ref b_54), .unset]) rfl ?_
          show Steps p.tables e below (T54.setTop (mkF m 130 #[.val (.long q0), .second, .val (.long q1), .second, .val (.long q2), .second, .val (.long q3), .second, .val (.int p4), .val (.ref b11), .val (.int sm), .val (.int tm), .val (.ref b_50), .val (.ref b_54), .unset] [])) _
          refine XS.iload X54.here hx rfl (hb hby at_130) rfl ?_
          show Steps p.tables e below (T54.setTop (mkF m 132 #[.val (.long q0), .second, .val (.long q1), .second, .val (.long q2), .second, .val (.long q3), .second, .val (.int p4), .val (.ref b11), .val (.int sm), .val (.int tm), .val (.ref b_50), .val (.ref b_54), .unset] [(.int sm)])) _
          refine XS.iload X54.here hx rfl (hb hby at_132) rfl ?_
          show Steps p.tables e below (T54.setTop (mkF m 134 #[.val (.long q0), .second, .val (.long q1), .second, .val (.long q2), .second, .val (.long q3), .second, .val (.int p4), .val (.ref b11), .val (.int sm), .val (.int tm), .val (.ref b_50), .val (.ref b_54), .unset] [(.int tm), (.int sm)])) _
          refine XS.iconst X54.here hx rfl (hb hby at_134) ?_
          show Steps p.tables e below (T54.setTop (mkF m 135 #[.val (.long q0), .second, .val (.long q1), .second, .val (.long q2), .second, .val (.long q3), .second, .val (.int p4), .val (.ref b11), .val (.int sm), .val (.int tm), .val (.ref b_50), .val (.ref b_54), .unset] [(.int (-1 : Int32)), (.int tm), (.int sm)])) _
          refine XS.ixor X54.here hx rfl (hb hby at_135) rfl ?_
          show Steps p.tables e below (T54.setTop (mkF m 136 #[.val (.long q0), .second, .val (.long q1), .second, .val (.long q2), .second, .val (.long q3), .second, .val (.int p4), .val (.ref b11), .val (.int sm), .val (.int tm), .val (.ref b_50), .val (.ref b_54), .unset] [(.int (tm ^^^ (-1 : Int32))), (.int sm)])) _
          refine XS.iand X54.here hx rfl (hb hby at_136) rfl ?_
          exact k)
        obtain ⟨xx, hxx⟩ : ∃ z : Int32, z = (if (sm &&& (tm ^^^ (-1 : Int32))) = (0 : Int32) then (1 : Int32) else (0 : Int32)) := ⟨_, rfl⟩
        have pre62 : ∀ t, Steps p.tables e below (T54.setTop (mkF m 145 #[.val (.long q0), .second, .val (.long q1), .second, .val (.long q2), .second, .val (.long q3), .second, .val (.int p4), .val (.ref b11), .val (.int sm), .val (.int tm), .val (.ref b_50), .val (.ref b_54), .unset] [(.int xx)])) t → Steps p.tables e below (s₁.setTop (entryFrame m #[(.long q0), (.long q1), (.long q2), (.long q3), (.int p4)] maxLocals)) t := fun t k => pre60 t (by
          by_cases hm61 : (sm &&& (tm ^^^ (-1 : Int32))) = (0 : Int32)
          · rw [show xx = (1 : Int32) from by rw [hxx, if_pos hm61]] at k
            refine XS.ifNo X54.here hx rfl (hb hby at_137) rfl ((if0 _ _).trans (teq hm61).2) ?_
            show Steps p.tables e below (T54.setTop (mkF m 140 #[.val (.long q0), .second, .val (.long q1), .second, .val (.long q2), .second, .val (.long q3), .second, .val (.int p4), .val (.ref b11), .val (.int sm), .val (.int tm), .val (.ref b_50), .val (.ref b_54), .unset] [])) _
            refine XS.iconst X54.here hx rfl (hb hby at_140) ?_
            show Steps p.tables e below (T54.setTop (mkF m 141 #[.val (.long q0), .second, .val (.long q1), .second, .val (.long q2), .second, .val (.long q3), .second, .val (.int p4), .val (.ref b11), .val (.int sm), .val (.int tm), .val (.ref b_50), .val (.ref b_54), .unset] [(.int (1 : Int32))])) _
            refine XS.goto X54.here hx rfl (pc0 := 141) (pc' := 145) rfl (hb hby at_141) (by decide) (by decide) ?_
            exact k
          · rw [show xx = (0 : Int32) from by rw [hxx, if_neg hm61]] at k
            refine XS.ifYes X54.here hx rfl (pc0 := 137) (pc' := 144) rfl (hb hby at_137) rfl ((if0 _ _).trans (feq hm61).2) (by decide) (by decide) ?_
            show Steps p.tables e below (T54.setTop (mkF m 144 #[.val (.long q0), .second, .val (.long q1), .second, .val (.long q2), .second, .val (.long q3), .second, .val (.int p4), .val (.ref b11), .val (.int sm), .val (.int tm), .val (.ref b_50), .val (.ref b_54), .unset] [])) _
            refine XS.iconst X54.here hx rfl (hb hby at_144) ?_
            exact k)
        have V64 : AL Z T54.heap b_50 z_50 g_50 := (u50_2.keep u54_1 nin0)
        obtain ⟨_, _, ⟨T63, L63, k63, n63⟩, -, X63, ⟨Lc63, hQ63, l63, y63, z63⟩, st63⟩ := Jvm.LawKit.callS X54 hx (y := (⟨"com/example/honeybee/honeybee/calculus/Clause", "isSubset", "([J[J)Z"⟩ : MethodName)) hown (mvT hZ (hw _ (List.mem_of_getElem? (i := 8) rfl))) (mvT hZ (hw _ (List.mem_of_getElem? (i := 9) rfl))) (mvT hZ (hw _ (List.mem_of_getElem? (i := 10) rfl))) (mvT hZ (hw _ (List.mem_of_getElem? (i := 11) rfl))) (by decide) (backOf (W := 0) (rm3 l Z a0 hw [] b_50 b_54 z_50 z_54 g_50 g_54 T54.heap n0 Z59 V64 u54_2) hZ (hw _ (List.mem_of_getElem? (i := 11) rfl)) (hw _ (List.mem_of_getElem? (i := 10) rfl)) (by decide) (by decide)) (g := (mkF m 151 #[.val (.long q0), .second, .val (.long q1), .second, .val (.long q2), .second, .val (.long q3), .second, .val (.int p4), .val (.ref b11), .val (.int sm), .val (.int tm), .val (.ref b_50), .val (.ref b_54), .val (.int xx)] [(.ref b_54), (.ref b_50)])) rfl (by rw [hml]; rfl) (argsL := [(.ref b_50), (.ref b_54)]) (rest := []) (lenOf pd_2 rfl) rfl (by show 2 * 0 + _ ≤ _; exact Nat.le_of_eq rfl) (hb hby at_151) (fun _ _ => ⟨rfl, rfl, (by decide : 3 + 0 ≤ _), (by decide : 12 + 0 ≤ _)⟩)
        dsimp only [Pt.U, Pt.locs, Pt.cells, Pt.slots] at X63 l63 y63 z63 st63 hQ63
        subst l63 y63 z63
        obtain ⟨rfl, Nq63, u63_0⟩ := hQ63
        have N63 := Fr.app N54 Nq63
        obtain ⟨fs, hr, hrun, hended, hW, hsame⟩ := X63.leave (v := some (.int (1 : Int32))) (fun h => by rw [Bd.returns] at h; cases h)
        refine ⟨_, _, pre62 _ ?_, hrun, hended, _, _, rfl, ?_, ⟨_, rfl⟩, hW, hsame.mono (by decide) (by decide)⟩
        · refine XS.istore X54.here hx rfl (hb hby at_145) rfl (l' := #[.val (.long q0), .second, .val (.long q1), .second, .val (.long q2), .second, .val (.long q3), .second, .val (.int p4), .val (.ref b11), .val (.int sm), .val (.int tm), .val (.ref b_50), .val (.ref b_54), .val (.int xx)]) rfl ?_
          show Steps p.tables e below (T54.setTop (mkF m 147 #[.val (.long q0), .second, .val (.long q1), .second, .val (.long q2), .second, .val (.long q3), .second, .val (.int p4), .val (.ref b11), .val (.int sm), .val (.int tm), .val (.ref b_50), .val (.ref b_54), .val (.int xx)] [])) _
          refine XS.aload X54.here hx rfl (hb hby at_147) rfl rfl ?_
          show Steps p.tables e below (T54.setTop (mkF m 149 #[.val (.long q0), .second, .val (.long q1), .second, .val (.long q2), .second, .val (.long q3), .second, .val (.int p4), .val (.ref b11), .val (.int sm), .val (.int tm), .val (.ref b_50), .val (.ref b_54), .val (.int xx)] [(.ref b_50)])) _
          refine XS.aload X54.here hx rfl (hb hby at_149) rfl rfl ?_
          show Steps p.tables e below (T54.setTop (mkF m 151 #[.val (.long q0), .second, .val (.long q1), .second, .val (.long q2), .second, .val (.long q3), .second, .val (.int p4), .val (.ref b11), .val (.int sm), .val (.int tm), .val (.ref b_50), .val (.ref b_54), .val (.int xx)] [(.ref b_54), (.ref b_50)])) _
          refine st63 _ ?_
          show Steps p.tables e below (T63.setTop (mkF m 154 #[.val (.long q0), .second, .val (.long q1), .second, .val (.long q2), .second, .val (.long q3), .second, .val (.int p4), .val (.ref b11), .val (.int sm), .val (.int tm), .val (.ref b_50), .val (.ref b_54), .val (.int xx)] [(.int (own_sub g_50 g_54 z_50.toNatClampNeg z_54.toNatClampNeg))])) _
          refine XS.iload X63.here hx rfl (hb hby at_154) rfl ?_
          show Steps p.tables e below (T63.setTop (mkF m 156 #[.val (.long q0), .second, .val (.long q1), .second, .val (.long q2), .second, .val (.long q3), .second, .val (.int p4), .val (.ref b11), .val (.int sm), .val (.int tm), .val (.ref b_50), .val (.ref b_54), .val (.int xx)] [(.int xx), (.int (own_sub g_50 g_54 z_50.toNatClampNeg z_54.toNatClampNeg))])) _
          refine XS.icmpNo X63.here hx rfl (hb hby at_156) rfl (teq (own_end u26_2 u28_2 u30_2 u32_2 u34_2 hc39 hc43 hc47 Bsm Btm u50_3 u54_3 hxx)).2 ?_
          show Steps p.tables e below (T63.setTop (mkF m 159 #[.val (.long q0), .second, .val (.long q1), .second, .val (.long q2), .second, .val (.long q3), .second, .val (.int p4), .val (.ref b11), .val (.int sm), .val (.int tm), .val (.ref b_50), .val (.ref b_54), .val (.int xx)] [])) _
          refine XS.iconst X63.here hx rfl (hb hby at_159) ?_
          show Steps p.tables e below (T63.setTop (mkF m 160 #[.val (.long q0), .second, .val (.long q1), .second, .val (.long q2), .second, .val (.long q3), .second, .val (.int p4), .val (.ref b11), .val (.int sm), .val (.int tm), .val (.ref b_50), .val (.ref b_54), .val (.int xx)] [(.int (1 : Int32))])) _
          refine XS.goto X63.here hx rfl (pc0 := 160) (pc' := 164) rfl (hb hby at_160) (by decide) (by decide) ?_
          show Steps p.tables e below (T63.setTop (mkF m 164 #[.val (.long q0), .second, .val (.long q1), .second, .val (.long q2), .second, .val (.long q3), .second, .val (.int p4), .val (.ref b11), .val (.int sm), .val (.int tm), .val (.ref b_50), .val (.ref b_54), .val (.int xx)] [(.int (1 : Int32))])) _
          exact retN X63 hx (t := .boolean) Bd.returns (by simp) (hb hby at_164) hr
        · show Q0 Z q0 q1 q2 q3 p4 h0 n0 _ T63.heap _
          rw [u63_0]
          exact ⟨rfl, N63⟩
set_option maxRecDepth 65536 in
set_option maxHeartbeats 40000000 in
theorem comes_1 {Post : Tables → Env → Array Value → State → Outcome → State → Prop} (hpost : ∀ tb e args s v u, (limb_1_1.after args s (.returned v) u = true ∧ limb_1_2.after args s (.returned v) u = true ∧ True) → FrameEnd s (.returned v) u (Jvm.fieldLocs frame_1_writes args s ++ Jvm.arrayLocs frame_1_arrays args s ++ Jvm.staticLocs frame_1_statics s) 16 128 → Post tb e args s (.returned v) u) :
    ArmFor flags0 classFile x code maxLocals ret World_1 tables_1 room_1 Calls_1 rest_1 Pre_1 Post := by
  intro l hfl _ _ p e ha hc hk s m args below hf hA hF happ hP
  obtain ⟨hcalls, hrest, hpre⟩ := hP
  obtain ⟨-, -, -, hnamed, -, -, -, hat⟩ := (Spec.applies_iff hf).mp happ
  obtain ⟨hg, hn⟩ := and_e (Cond.before_iff.mp (show (Jvm.Cond.and given_1 narrow_1).before args s = true from hpre))
  obtain ⟨g1, g2⟩ := and_e hg
  obtain ⟨g3, g4⟩ := and_e g2
  obtain ⟨g5, g6⟩ := and_e g4
  obtain ⟨g7, g8⟩ := and_e g6
  obtain ⟨g9, g10⟩ := and_e g8
  obtain ⟨w0, w1, w2, w3, w4, rfl⟩ : ∃ w0 w1 w2 w3 w4 : Value, args = #[w0, w1, w2, w3, w4] := by
    have hs : args.size = 5 := by simpa [Cond.value, given_1] using g1
    obtain ⟨L⟩ := args
    match L, hs with
    | [w0, w1, w2, w3, w4], _ => exact ⟨w0, w1, w2, w3, w4, rfl⟩
  have hw := fun d (hd : d ∈ tables_1) => atoms_spec (ws := Jvm.Cond.code x code maxLocals ret :: tables_1) hat d (List.mem_cons_of_mem _ hd)
  obtain ⟨i0, ei0⟩ := isL_v g3
  obtain rfl : w0 = (.long i0) := Option.some.inj ei0
  obtain ⟨i1, ei1⟩ := isL_v g5
  obtain rfl : w1 = (.long i1) := Option.some.inj ei1
  obtain ⟨i2, ei2⟩ := isL_v g7
  obtain rfl : w2 = (.long i2) := Option.some.inj ei2
  obtain ⟨i3, ei3⟩ := isL_v g9
  obtain rfl : w3 = (.long i3) := Option.some.inj ei3
  obtain ⟨i4, ei4⟩ := is_v g10
  obtain rfl : w4 = (.int i4) := Option.some.inj ei4
  obtain ⟨n, o, h1, h2, h3, _, L, rfl, ⟨rfl, N⟩, hq⟩ := rm0 l s _ hw tables_1 i0 i1 i2 i3 i4 s.heap s.heap.size (Nat.le_refl _) p e ha hc hk s m _ below hf ((Spec.applies_iff_loose hf).mp happ).1 ⟨rfl, State.Warmed39.refl s, rfl⟩ trivial
  refine ⟨n, _, h1, h2, h3, hpost _ _ _ _ _ _ ⟨Cond.after_iff.mpr rfl, Cond.after_iff.mpr (eq_i res_at (Term.int_eval (1)) rfl), trivial⟩ ⟨hq.1, hq.2.1, (hq.2.2.sift fun y hy => Or.inr (N y hy)).mono (by decide) (by decide)⟩⟩
theorem main_1_1 : Claimed_1_1 := comes_1 fun _ _ _ _ _ _ h hF => ⟨h.1, hF⟩
theorem main_1_2 : Claimed_1_2 := comes_1 fun _ _ _ _ _ _ h hF => ⟨h.2.1, hF⟩
end Jvm.Pilot.@@N@@
namespace Jvm.Pilot.@@N@@
open Jvm Jvm.ClassFile Sem Op Lib Jvm.Free Jvm.Stand Jvm.Pilot.@@N@@.Jvm.D
/-! MADE BY PROGRAM (witnessworld.py) out of the Statement's table words and the real class files: 11 classes; the members and pool entries that the words name. The judged class is class 1, her method 1. -/
namespace start1
open Jvm.ClassFile
def u (s : String) : CpInfo := .utf8 (stringToUtf16 s)
/-- a pool by its gaps: so many unusable entries, then the entry; so many at the end -/
def gap : Nat → List CpInfo → List CpInfo
  | 0, r => r
  | n + 1, r => .unusable :: gap n r
def poolList (es : List (Nat × CpInfo)) (last : Nat) : List CpInfo := es.foldr (fun e r => gap e.1 (e.2 :: r)) (gap last [])
def pool (es : List (Nat × CpInfo)) (last : Nat) : Array CpInfo := ⟨poolList es last⟩
def fileOf (pool : Array CpInfo) (this : Nat) (attrs : Array Attribute := #[]) (ms : Array MethodInfo := #[]) (fl : Nat := 33) (sup : Nat := 0) (ifs : Array Nat := #[]) (fds : Array FieldInfo := #[]) : ClassFile where
  minorVersion := 0
  majorVersion := 65
  constantPool := pool
  accessFlags := fl
  thisClass := this
  superClass := sup
  interfaces := ifs
  fields := fds
  methods := ms
  attributes := attrs
def plain (name : String) (sup : Option ClassId) : Class where
  name := name
  kind := .ordinary
  loader := none
  accessFlags := 33
  super := sup
  interfaces := #[]
  cf := none
  fields := #[]
  methods := #[]
  instanceTypes := #[]
  staticTypes := #[]
  resolved := #[]
  callSites := []
  init := .initialized
  statics := none
  mirror := none

def pool0 : Array CpInfo := pool [(5, u "<init>"), (0, u "()V"), (1, .class_ 10), (1, u "java/lang/Object")] 113

def k0m0 : Method := { name := "<init>", desc := "()V", sig := { parameters := [], returnType := none }, accessFlags := 1, code := none }
/-- java/lang/Object -/
def k0 : Class := { plain "java/lang/Object" none with
  accessFlags := 33
  interfaces := #[]
  cf := some (fileOf pool0 8 #[] #[{ accessFlags := 1, nameIndex := 5, descriptorIndex := 6, attributes := #[] }] 33 0 #[] #[])
  fields := #[]
  methods := #[k0m0]
  instanceTypes := #[]
  staticTypes := #[]
  resolved := Array.replicate 124 none
  statics := none }

def pool1 : Array CpInfo := pool [(2, .class_ 4), (1, u "java/lang/Object"), (0, u "<init>"), (0, u "()V"), (0, .methodref 8 9), (0, .class_ 10), (0, .nameAndType 11 12), (0, u "com/example/honeybee/honeybee/calculus/ClauseIsSubsetPinLaw"), (0, u "cs"), (0, u "([JII)V"), (0, .methodref 8 14), (0, .nameAndType 15 16), (0, u "pick"), (0, u "([JI)[J"), (0, .methodref 18 19), (0, .class_ 20), (0, .nameAndType 21 22), (0, u "com/example/honeybee/honeybee/calculus/Clause"), (0, u "isSubset"), (0, u "([J[J)Z"), (2, u "law"), (0, u "(JJJJI)Z")] 5

def k1m0 : Method := { name := "<init>", desc := "()V", sig := { parameters := [], returnType := none }, accessFlags := 1, code := none }
def k1c1 : Code := { maxStack := 5, maxLocals := 15, code := code, exceptionTable := #[], attributes := #[] }
def k1m1 : Method := { name := "law", desc := "(JJJJI)Z", sig := { parameters := [.long, .long, .long, .long, .int], returnType := some .boolean }, accessFlags := 9, code := some k1c1 }
def k1c2 : Code := { maxStack := 4, maxLocals := 5, code := method_3_code, exceptionTable := #[], attributes := #[] }
def k1m2 : Method := { name := "cs", desc := "([JII)V", sig := { parameters := [(.array .long), .int, .int], returnType := none }, accessFlags := 10, code := some k1c2 }
def k1c3 : Code := { maxStack := 4, maxLocals := 5, code := method_4_code, exceptionTable := #[], attributes := #[] }
def k1m3 : Method := { name := "pick", desc := "([JI)[J", sig := { parameters := [(.array .long), .int], returnType := some (.array .long) }, accessFlags := 10, code := some k1c3 }
/-- com/example/honeybee/honeybee/calculus/ClauseIsSubsetPinLaw -/
def k1 : Class := { plain "com/example/honeybee/honeybee/calculus/ClauseIsSubsetPinLaw" (some 0) with
  accessFlags := 49
  interfaces := #[]
  cf := some (fileOf pool1 8 #[] #[{ accessFlags := 1, nameIndex := 5, descriptorIndex := 6, attributes := #[] }, { accessFlags := 9, nameIndex := 25, descriptorIndex := 26, attributes := #[] }, { accessFlags := 10, nameIndex := 11, descriptorIndex := 12, attributes := #[] }, { accessFlags := 10, nameIndex := 15, descriptorIndex := 16, attributes := #[] }] 49 2 #[] #[])
  fields := #[]
  methods := #[k1m0, k1m1, k1m2, k1m3]
  instanceTypes := #[]
  staticTypes := #[]
  resolved := Array.replicate 32 none
  statics := none }

def pool2 : Array CpInfo := pool [(2, .class_ 4), (1, u "com/example/honeybee/honeybee/calculus/Clause"), (0, u "NONE"), (0, u "[J"), (5, .class_ 14), (1, u "java/lang/Object"), (3, u "body"), (2, u "head"), (2, u "maximal"), (2, u "fromRoot"), (2, u "deleted"), (0, u "Z"), (10, u "isSubset"), (0, u "([J[J)Z")] 4

def k2c0 : Code := { maxStack := 4, maxLocals := 8, code := prog_3_method_11_code, exceptionTable := #[], attributes := #[] }
def k2m0 : Method := { name := "isSubset", desc := "([J[J)Z", sig := { parameters := [(.array .long), (.array .long)], returnType := some .boolean }, accessFlags := 8, code := some k2c0 }
/-- com/example/honeybee/honeybee/calculus/Clause -/
def k2 : Class := { plain "com/example/honeybee/honeybee/calculus/Clause" (some 0) with
  accessFlags := 48
  interfaces := #[]
  cf := some (fileOf pool2 2 #[] #[{ accessFlags := 8, nameIndex := 42, descriptorIndex := 43, attributes := #[] }] 48 12 #[] #[{ accessFlags := 26, nameIndex := 5, descriptorIndex := 6, attributes := #[] }, { accessFlags := 18, nameIndex := 18, descriptorIndex := 6, attributes := #[] }, { accessFlags := 18, nameIndex := 21, descriptorIndex := 6, attributes := #[] }, { accessFlags := 18, nameIndex := 24, descriptorIndex := 6, attributes := #[] }, { accessFlags := 18, nameIndex := 27, descriptorIndex := 6, attributes := #[] }, { accessFlags := 2, nameIndex := 30, descriptorIndex := 31, attributes := #[] }])
  fields := #[{ name := "NONE", type := (.array .long), accessFlags := 26, slot := 0, constantValue := 0 }, { name := "body", type := (.array .long), accessFlags := 18, slot := 0, constantValue := 0 }, { name := "head", type := (.array .long), accessFlags := 18, slot := 1, constantValue := 0 }, { name := "maximal", type := (.array .long), accessFlags := 18, slot := 2, constantValue := 0 }, { name := "fromRoot", type := (.array .long), accessFlags := 18, slot := 3, constantValue := 0 }, { name := "deleted", type := .boolean, accessFlags := 2, slot := 4, constantValue := 0 }]
  methods := #[k2m0]
  instanceTypes := #[(.array .long), (.array .long), (.array .long), (.array .long), .boolean]
  staticTypes := #[(.array .long)]
  resolved := Array.replicate 48 none
  statics := none }

def pool3 : Array CpInfo := pool [(1, u "java/lang/Cloneable"), (0, .class_ 1), (0, u "java/lang/Object"), (0, .class_ 3)] 3

/-- java/lang/Cloneable -/
def k3 : Class := { plain "java/lang/Cloneable" (some 0) with
  accessFlags := 1537
  interfaces := #[]
  cf := some (fileOf pool3 2 #[] #[] 1537 4 #[] #[])
  fields := #[]
  methods := #[]
  instanceTypes := #[]
  staticTypes := #[]
  resolved := Array.replicate 8 none
  statics := none }

def pool4 : Array CpInfo := pool [(1, u "java/io/Serializable"), (0, .class_ 1), (0, u "java/lang/Object"), (0, .class_ 3)] 3

/-- java/io/Serializable -/
def k4 : Class := { plain "java/io/Serializable" (some 0) with
  accessFlags := 1537
  interfaces := #[]
  cf := some (fileOf pool4 2 #[] #[] 1537 4 #[] #[])
  fields := #[]
  methods := #[]
  instanceTypes := #[]
  staticTypes := #[]
  resolved := Array.replicate 8 none
  statics := none }

/-- the primitive byte -/
def k5 : Class := { plain "byte" none with kind := .primitive 'B', accessFlags := 0x411 }
/-- [B -/
def k6 : Class := { plain "[B" (some 0) with kind := .array 5 .byte, interfaces := #[3, 4], accessFlags := 1041 }

/-- the primitive int -/
def k7 : Class := { plain "int" none with kind := .primitive 'I', accessFlags := 0x411 }
/-- [I -/
def k8 : Class := { plain "[I" (some 0) with kind := .array 7 .int, interfaces := #[3, 4], accessFlags := 1041 }

/-- the primitive long -/
def k9 : Class := { plain "long" none with kind := .primitive 'J', accessFlags := 0x411 }
/-- [J -/
def k10 : Class := { plain "[J" (some 0) with kind := .array 9 .long, interfaces := #[3, 4], accessFlags := 1041 }

def heap : Heap := #[]
def classes : Array Class := #[k0, k1, k2, k3, k4, k5, k6, k7, k8, k9, k10]
def interned : List (Array UInt16 × Addr) := []
def slotsUsed : Nat := 0
def theMethod : MethodId := ⟨1, 1⟩
def args0 : Array Value := #[.long 5, .long 6, .long 7, .long 8, .int 9]
def aboutOver (below : List Frame) : State where
  vm := { classes := classes, interned := interned.toArray }
  heap := heap
  slotsUsed := slotsUsed
  threads := #[{ frames := .invoking theMethod args0 :: below }]
def below0 : List Frame := [.native { method := ⟨0, 0⟩, args := #[] }]
def about1 : State := aboutOver below0
def p0 : Program := .bare "" "" ""
def e0 : Env := launch0.env 0 0 0
theorem w_frames : about1.frames = Frame.invoking theMethod args0 :: below0 := rfl
set_option maxRecDepth 65536 in
theorem w_args : argsFit about1.vm theMethod args0 = true := by decide +kernel
set_option maxRecDepth 65536 in
theorem w_heap : heapFits about1 = true := by decide +kernel
set_option maxRecDepth 65536 in
theorem w_runnable : about1.curStatus? = some .runnable := by decide +kernel
set_option maxRecDepth 65536 in
theorem w_alone : about1.alone = true := by decide +kernel
set_option maxRecDepth 65536 in
theorem w_named : about1.methodNamed? x = some theMethod := by decide +kernel
set_option maxRecDepth 65536 in
theorem w_hears : about1.hears theMethod below0 = true := by decide +kernel
set_option maxRecDepth 65536 in
theorem w_ripe : about1.ripe theMethod args0 below0 = true := by decide +kernel
theorem w_running : about1.status = .running := rfl
set_option maxRecDepth 65536 in
theorem w_room : about1.hasRoom e0.platform room_1 = true :=
  launch0.hasRoom_least _ room_1 (by decide +kernel) (by decide +kernel) (by decide +kernel) (by decide +kernel) (by decide +kernel) (by decide +kernel)
theorem allAtoms_all (ts : List Jvm.Cond) (a : Array Jvm.Value) (st : Jvm.State) : (allAtoms ts).before a st = ts.all (fun c => c.before a st) := by
  induction ts with
  | nil => rfl
  | cons c t ih =>
    show (Jvm.Cond.and c (allAtoms t)).before a st = _
    rw [Jvm.Cond.before_and, ih, List.all_cons]
def words1 : List Jvm.Cond := Jvm.Cond.code x code maxLocals ret :: tables_1
/-- a 'code' word, met by the world's own term for the bytes: nothing is compared byte by byte -/
theorem code_word {y : MethodName} {bytes : ByteArray} {mx : Nat} {rt : Option FieldType} {a : Array Value} {s : State} {m : MethodId} {meth : Method} {c : Code} (h1 : s.methodNamed? y = some m) (h2 : s.vm.method? m = some meth) (h3 : meth.code = some c) (h4 : c.code = bytes)
    (h5 : (c.maxLocals == mx && c.exceptionTable.isEmpty && decide (c.maxStack ≤ mostOperands) && decide (meth.sig.returnType = rt) && !meth.locks && decide (parseMethodDescriptor y.desc = some meth.sig)) = true) : (Jvm.Cond.code y bytes mx rt).before a s = true := by
  simp only [Bool.and_eq_true, beq_iff_eq, Bool.not_eq_true', decide_eq_true_eq] at h5
  obtain ⟨⟨⟨⟨⟨g1, g2⟩, g3⟩, g4⟩, g5⟩, g6⟩ := h5
  simp [Cond.before, Cond.holds, Cond.value, h1, h2, h3, h4, g1, g2, g3, g4, g5, g6]
def isCode : Jvm.Cond → Bool
  | .code _ _ _ _ => true
  | _ => false
theorem all_split {L : List Jvm.Cond} {P : Jvm.Cond → Bool} (h1 : L.all (fun c => isCode c || P c) = true) (h2 : ∀ c ∈ L.filter isCode, P c = true) : L.all P = true := by
  refine List.all_eq_true.mpr fun c hc => ?_
  have h := List.all_eq_true.mp h1 c hc
  rcases Bool.eq_false_or_eq_true (isCode c) with hi | hi
  · exact h2 c (List.mem_filter.mpr ⟨hc, hi⟩)
  · simpa [hi] using h
set_option maxRecDepth 65536 in
theorem w_c0 : (Jvm.Cond.code x code maxLocals ret).before args0 about1 = true := code_word (m := ⟨1, 1⟩) (meth := k1m1) (c := k1c1) (by decide +kernel) rfl rfl rfl (by decide +kernel)
set_option maxRecDepth 65536 in
theorem w_c1 : (Jvm.Cond.code ({ cls := "com/example/honeybee/honeybee/calculus/ClauseIsSubsetPinLaw", name := "cs", desc := "([JII)V" } : Jvm.MethodName) method_3_code (5 : Nat) (Option.none : Option Jvm.ClassFile.FieldType)).before args0 about1 = true := code_word (m := ⟨1, 2⟩) (meth := k1m2) (c := k1c2) (by decide +kernel) rfl rfl rfl (by decide +kernel)
set_option maxRecDepth 65536 in
theorem w_c2 : (Jvm.Cond.code ({ cls := "com/example/honeybee/honeybee/calculus/ClauseIsSubsetPinLaw", name := "pick", desc := "([JI)[J" } : Jvm.MethodName) method_4_code (5 : Nat) (Option.some (Jvm.ClassFile.FieldType.array Jvm.ClassFile.FieldType.long))).before args0 about1 = true := code_word (m := ⟨1, 3⟩) (meth := k1m3) (c := k1c3) (by decide +kernel) rfl rfl rfl (by decide +kernel)
set_option maxRecDepth 65536 in
theorem w_c3 : (Jvm.Cond.code ({ cls := "com/example/honeybee/honeybee/calculus/Clause", name := "isSubset", desc := "([J[J)Z" } : Jvm.MethodName) prog_3_method_11_code (8 : Nat) (Option.some Jvm.ClassFile.FieldType.boolean)).before args0 about1 = true := code_word (m := ⟨2, 0⟩) (meth := k2m0) (c := k2c0) (by decide +kernel) rfl rfl rfl (by decide +kernel)
def codes1 : List Jvm.Cond := [Jvm.Cond.code x code maxLocals ret, Jvm.Cond.code ({ cls := "com/example/honeybee/honeybee/calculus/ClauseIsSubsetPinLaw", name := "cs", desc := "([JII)V" } : Jvm.MethodName) method_3_code (5 : Nat) (Option.none : Option Jvm.ClassFile.FieldType), Jvm.Cond.code ({ cls := "com/example/honeybee/honeybee/calculus/ClauseIsSubsetPinLaw", name := "pick", desc := "([JI)[J" } : Jvm.MethodName) method_4_code (5 : Nat) (Option.some (Jvm.ClassFile.FieldType.array Jvm.ClassFile.FieldType.long)), Jvm.Cond.code ({ cls := "com/example/honeybee/honeybee/calculus/Clause", name := "isSubset", desc := "([J[J)Z" } : Jvm.MethodName) prog_3_method_11_code (8 : Nat) (Option.some Jvm.ClassFile.FieldType.boolean)]
set_option maxRecDepth 65536 in
theorem codes_eq : words1.filter isCode = codes1 := rfl
theorem w_codes : ∀ c ∈ words1.filter isCode, c.before args0 about1 = true := by
  rw [codes_eq]
  intro c hc
  simp only [codes1, List.mem_cons, List.not_mem_nil, or_false] at hc
  rcases hc with rfl | rfl | rfl | rfl
  · exact w_c0
  · exact w_c1
  · exact w_c2
  · exact w_c3
set_option maxRecDepth 65536 in
theorem w_t1 : words1.all (fun c => isCode c || c.before args0 about1) = true := by decide +kernel
theorem w_tables : (allAtoms (Jvm.Cond.code x code maxLocals ret :: tables_1)).before args0 about1 = true := by
  rw [allAtoms_all]
  show words1.all (fun c => c.before args0 about1) = true
  refine all_split ?_ w_codes
  rw [w_t1]
set_option maxRecDepth 65536 in
theorem w_case : (Jvm.Cond.and given_1 narrow_1).before args0 about1 = true := by decide +kernel
theorem w_applies : (headSpec (Jvm.Cond.code x code maxLocals ret :: tables_1) room_1).applies x e0.platform about1 = true :=
  (Spec.applies_iff w_frames).mpr ⟨w_running, w_runnable, w_alone, w_named, w_hears, w_ripe, w_room, w_tables⟩
theorem atStart : AtStart classFile x code maxLocals ret World_1 tables_1 room_1 Calls_1 rest_1 Pre_1 launch0 p0 e0 about1 theMethod args0 below0 :=
  ⟨lists_1, trivial, launch0.admits_env _ _ _, launch0.least_env, fairChoices_fair.cas, fairChoices_fair.clock, w_frames, w_args, w_heap, w_applies, trivial, trivial, w_case⟩
end start1
theorem witness_1 : WitnessClaimed_1 := ⟨start1.p0, start1.e0, start1.about1, start1.theMethod, start1.args0, start1.below0, start1.atStart⟩
end Jvm.Pilot.@@N@@
