import JvmDerived
import JvmDerived.Pilot.@@N@@Statement
import JvmDerived.Pilot.@@N@@Code
set_option linter.unusedVariables false
set_option linter.unusedSimpArgs false
namespace Jvm.Pilot.@@N@@
open Jvm Jvm.ClassFile Sem Op Lib Jvm.Free Jvm.Stand Jvm.LawKit Jvm.RoadKit Bundle Jvm.Pilot.@@N@@.Jvm.D

def AI (Z : State) (h : Heap) (a : Addr) (ty : FieldType) (z : Int32) (f : Nat → Int32) : Prop := ∃ c : Cell, Arr Z h a c ty ∧ c.slots.size = z.toNatClampNeg ∧ ¬ z < 0 ∧ ∀ i, i < c.slots.size → c.slots[i]? = some (.int (f i))
def AL (Z : State) (h : Heap) (a : Addr) (z : Int32) (f : Nat → Int64) : Prop := ∃ c : Cell, Arr Z h a c .long ∧ c.slots.size = z.toNatClampNeg ∧ ¬ z < 0 ∧ ∀ i, i < c.slots.size → c.slots[i]? = some (.long (f i))
section Own
variable {Z : State} {h h' : Heap} {a b : Addr} {k : ClassId} {ty : FieldType} {z : Int32} {f : Nat → Int32} {fl : Nat → Int64} {sl : Nat} {v : Value} {ws : List Addr}
theorem AI.lt (F : AI Z h a ty z f) : a < h.size := by obtain ⟨c, A, -⟩ := F; exact A.lt
theorem AL.lt (F : AL Z h a z fl) : a < h.size := by obtain ⟨c, A, -⟩ := F; exact A.lt
theorem AI.ext (F : AI Z h a ty z f) (E : Ext h h') : AI Z h' a ty z f := by obtain ⟨c, A, r⟩ := F; exact ⟨c, A.ext E, r⟩
theorem AL.ext (F : AL Z h a z fl) (E : Ext h h') : AL Z h' a z fl := by obtain ⟨c, A, r⟩ := F; exact ⟨c, A.ext E, r⟩
theorem AI.other (F : AI Z h b ty z f) (W : Wr h h' a sl v) (q : b ≠ a) : AI Z h' b ty z f := by obtain ⟨c, A, r⟩ := F; exact ⟨c, A.other W q, r⟩
theorem AL.other (F : AL Z h b z fl) (W : Wr h h' a sl v) (q : b ≠ a) : AL Z h' b z fl := by obtain ⟨c, A, r⟩ := F; exact ⟨c, A.other W q, r⟩
theorem AI.keep (F : AI Z h a ty z f) (K : Keep h h' ws) (q : a ∉ ws) : AI Z h' a ty z f := by obtain ⟨c, A, r⟩ := F; exact ⟨c, ⟨K.2.1 a c A.1 q, A.2⟩, r⟩
theorem AL.keep (F : AL Z h a z fl) (K : Keep h h' ws) (q : a ∉ ws) : AL Z h' a z fl := by obtain ⟨c, A, r⟩ := F; exact ⟨c, ⟨K.2.1 a c A.1 q, A.2⟩, r⟩
theorem AI.new (hd : defaultValue ty = .int 0) (A : Arr Z h a (newA k ty z) ty) (q : ¬ z < 0) : AI Z h a ty z (fun _ => (0 : Int32)) := ⟨_, A, by simp [newA], q, fun i hi => by
  have hi' : i < z.toNatClampNeg := by simpa [newA] using hi
  simp [newA, hi', hd]⟩
theorem AL.new (A : Arr Z h a (newA k .long z) .long) (q : ¬ z < 0) : AL Z h a z (fun _ => (0 : Int64)) := ⟨_, A, by simp [newA], q, fun i hi => by
  have hi' : i < z.toNatClampNeg := by simpa [newA] using hi
  simp [newA, hi', defaultValue]⟩
theorem AI.set {j : Nat} {x : Int32} (F : AI Z h a ty z f) (W : Wr h h' a j (.int x)) : AI Z h' a ty z (fun i => if i = j then x else f i) := by
  obtain ⟨c, A, S, q, H⟩ := F
  refine ⟨_, A.same W, by simpa [Cell.setSlot] using S, q, fun i hi => ?_⟩
  have hi' : i < c.slots.size := by simpa [Cell.setSlot] using hi
  by_cases e : i = j
  · subst e; simp [Cell.setSlot, hi']
  · have e' : ¬ j = i := fun q => e q.symm
    simp only [Cell.setSlot, if_neg e]; rw [Array.getElem?_setIfInBounds_ne e']; exact H i hi'
theorem AL.set {j : Nat} {x : Int64} (F : AL Z h a z fl) (W : Wr h h' a j (.long x)) : AL Z h' a z (fun i => if i = j then x else fl i) := by
  obtain ⟨c, A, S, q, H⟩ := F
  refine ⟨_, A.same W, by simpa [Cell.setSlot] using S, q, fun i hi => ?_⟩
  have hi' : i < c.slots.size := by simpa [Cell.setSlot] using hi
  by_cases e : i = j
  · subst e; simp [Cell.setSlot, hi']
  · have e' : ¬ j = i := fun q => e q.symm
    simp only [Cell.setSlot, if_neg e]; rw [Array.getElem?_setIfInBounds_ne e']; exact H i hi'
end Own
theorem own_ite01 {q : Prop} [Decidable q] {X Y : Int32} (hX : X = 0 ∨ X = 1) (hY : Y = 0 ∨ Y = 1) : (if q then X else Y) = 0 ∨ (if q then X else Y) = 1 := by
  by_cases h : q
  · rw [if_pos h]; exact hX
  · rw [if_neg h]; exact hY
theorem own_0 : ((0 : Int32) = 1) ↔ False := by decide
theorem own_rng {c lo hi X : Int32} : ((if c < lo then X else (if hi < c then X else (1 : Int32))) = 1) ↔ ((lo.toInt ≤ c.toInt ∧ c.toInt ≤ hi.toInt) ∨ X = 1) := by
  by_cases h : c < lo
  · rw [if_pos h]; rw [Int32.lt_iff_toInt_lt] at h; exact ⟨Or.inr, fun q => q.elim (fun r => by omega) id⟩
  · rw [if_neg h]
    by_cases h2 : hi < c
    · rw [if_pos h2]; rw [Int32.lt_iff_toInt_lt] at h2; exact ⟨Or.inr, fun q => q.elim (fun r => by omega) id⟩
    · rw [if_neg h2]; rw [Int32.lt_iff_toInt_lt] at h h2; exact ⟨fun _ => Or.inl ⟨by omega, by omega⟩, fun _ => rfl⟩
theorem own_gap {c lo hi X : Int32} : ((if lo < c then (if c < hi then (1 : Int32) else X) else X) = 1) ↔ ((lo.toInt < c.toInt ∧ c.toInt < hi.toInt) ∨ X = 1) := by
  by_cases h : lo < c
  · rw [if_pos h]
    by_cases h2 : c < hi
    · rw [if_pos h2]; rw [Int32.lt_iff_toInt_lt] at h h2; exact ⟨fun _ => Or.inl ⟨h, h2⟩, fun _ => rfl⟩
    · rw [if_neg h2]; rw [Int32.lt_iff_toInt_lt] at h2; exact ⟨Or.inr, fun q => q.elim (fun r => by omega) id⟩
  · rw [if_neg h]; rw [Int32.lt_iff_toInt_lt] at h; exact ⟨Or.inr, fun q => q.elim (fun r => by omega) id⟩
theorem own_e1 {c a X : Int32} : ((if c = a then (1 : Int32) else X) = 1) ↔ (c.toInt = a.toInt ∨ X = 1) := by
  by_cases h : c = a
  · rw [if_pos h]; exact ⟨fun _ => Or.inl (by rw [h]), fun _ => rfl⟩
  · rw [if_neg h]; exact ⟨Or.inr, fun q => q.elim (fun r => absurd (Int32.toInt_inj.mp r) h) id⟩
theorem own_l1 {c a X : Int32} : ((if c < a then (1 : Int32) else X) = 1) ↔ (c.toInt < a.toInt ∨ X = 1) := by
  by_cases h : c < a
  · rw [if_pos h]; exact ⟨fun _ => Or.inl (Int32.lt_iff_toInt_lt.mp h), fun _ => rfl⟩
  · rw [if_neg h]; exact ⟨Or.inr, fun q => q.elim (fun r => absurd (Int32.lt_iff_toInt_lt.mpr r) h) id⟩
theorem own_g1 {c a X : Int32} : ((if a < c then (1 : Int32) else X) = 1) ↔ (a.toInt < c.toInt ∨ X = 1) := by
  by_cases h : a < c
  · rw [if_pos h]; exact ⟨fun _ => Or.inl (Int32.lt_iff_toInt_lt.mp h), fun _ => rfl⟩
  · rw [if_neg h]; exact ⟨Or.inr, fun q => q.elim (fun r => absurd (Int32.lt_iff_toInt_lt.mpr r) h) id⟩
theorem d1_0 : decode method_2_code 0 = .ok (.iload_n 0, 1) := by decide +kernel
theorem d1_1 : decode method_2_code 1 = .ok (.ifCond .ge 5, 3) := by decide +kernel
theorem d1_4 : decode method_2_code 4 = .ok (.iconst 1, 1) := by decide +kernel
theorem d1_5 : decode method_2_code 5 = .ok (.ireturn, 1) := by decide +kernel
theorem d1_6 : decode method_2_code 6 = .ok (.iload_n 0, 1) := by decide +kernel
theorem d1_7 : decode method_2_code 7 = .ok (.ldc 7, 2) := by decide +kernel
theorem d1_9 : decode method_2_code 9 = .ok (.if_icmp .le 5, 3) := by decide +kernel
theorem d1_12 : decode method_2_code 12 = .ok (.iconst 1, 1) := by decide +kernel
theorem d1_13 : decode method_2_code 13 = .ok (.ireturn, 1) := by decide +kernel
theorem d1_14 : decode method_2_code 14 = .ok (.iload_n 0, 1) := by decide +kernel
theorem d1_15 : decode method_2_code 15 = .ok (.bipush 32, 2) := by decide +kernel
theorem d1_17 : decode method_2_code 17 = .ok (.if_icmp .ge 27, 3) := by decide +kernel
theorem d1_20 : decode method_2_code 20 = .ok (.iload_n 0, 1) := by decide +kernel
theorem d1_21 : decode method_2_code 21 = .ok (.bipush 9, 2) := by decide +kernel
theorem d1_23 : decode method_2_code 23 = .ok (.if_icmp .eq 19, 3) := by decide +kernel
theorem d1_26 : decode method_2_code 26 = .ok (.iload_n 0, 1) := by decide +kernel
theorem d1_27 : decode method_2_code 27 = .ok (.bipush 10, 2) := by decide +kernel
theorem d1_29 : decode method_2_code 29 = .ok (.if_icmp .eq 13, 3) := by decide +kernel
theorem d1_32 : decode method_2_code 32 = .ok (.iload_n 0, 1) := by decide +kernel
theorem d1_33 : decode method_2_code 33 = .ok (.bipush 13, 2) := by decide +kernel
theorem d1_35 : decode method_2_code 35 = .ok (.if_icmp .eq 7, 3) := by decide +kernel
theorem d1_38 : decode method_2_code 38 = .ok (.iconst 1, 1) := by decide +kernel
theorem d1_39 : decode method_2_code 39 = .ok (.goto 4, 3) := by decide +kernel
theorem d1_42 : decode method_2_code 42 = .ok (.iconst 0, 1) := by decide +kernel
theorem d1_43 : decode method_2_code 43 = .ok (.ireturn, 1) := by decide +kernel
theorem d1_44 : decode method_2_code 44 = .ok (.iload_n 0, 1) := by decide +kernel
theorem d1_45 : decode method_2_code 45 = .ok (.ldc 8, 2) := by decide +kernel
theorem d1_47 : decode method_2_code 47 = .ok (.if_icmp .lt 11, 3) := by decide +kernel
theorem d1_50 : decode method_2_code 50 = .ok (.iload_n 0, 1) := by decide +kernel
theorem d1_51 : decode method_2_code 51 = .ok (.ldc 9, 2) := by decide +kernel
theorem d1_53 : decode method_2_code 53 = .ok (.if_icmp .gt 5, 3) := by decide +kernel
theorem d1_56 : decode method_2_code 56 = .ok (.iconst 1, 1) := by decide +kernel
theorem d1_57 : decode method_2_code 57 = .ok (.ireturn, 1) := by decide +kernel
theorem d1_58 : decode method_2_code 58 = .ok (.iload_n 0, 1) := by decide +kernel
theorem d1_59 : decode method_2_code 59 = .ok (.ldc 10, 2) := by decide +kernel
theorem d1_61 : decode method_2_code 61 = .ok (.if_icmp .eq 9, 3) := by decide +kernel
theorem d1_64 : decode method_2_code 64 = .ok (.iload_n 0, 1) := by decide +kernel
theorem d1_65 : decode method_2_code 65 = .ok (.ldc 11, 2) := by decide +kernel
theorem d1_67 : decode method_2_code 67 = .ok (.if_icmp .ne 5, 3) := by decide +kernel
theorem d1_70 : decode method_2_code 70 = .ok (.iconst 1, 1) := by decide +kernel
theorem d1_71 : decode method_2_code 71 = .ok (.ireturn, 1) := by decide +kernel
theorem d1_72 : decode method_2_code 72 = .ok (.iconst 0, 1) := by decide +kernel
theorem d1_73 : decode method_2_code 73 = .ok (.ireturn, 1) := by decide +kernel
theorem pn_1 : plainName "com/example/nodetest/nodetest/xdm/LexicalIsXmlCharPinLaw" = true := by first | (simp [plainName, overriddenIn]; done) | decide +kernel
theorem ef_1 (m : MethodId) (p0 : Int32) : entryFrame m #[(.int p0)] 1 = mkF m 0 #[.val (.int p0)] [] := by first | (simp [entryFrame, mkF, argsToLocals, Value.category]; done) | rfl
def b1_58 (i0 : Int32) : Int32 := (if i0 = (65534 : Int32) then (1 : Int32) else (if i0 = (65535 : Int32) then (1 : Int32) else (0 : Int32)))
set_option maxRecDepth 65536 in
set_option maxHeartbeats 40000000 in
theorem bl1_58 {p : Program} {l : Launch} {e : Env} {R : Room} {s : State} {m : MethodId} {args : Array Value} {below : List Frame} {meth : Method} {c : Code} {T : State} {locs : List Loc} {cells slots : Nat} {Z : State} {a0 : Array Value} (i0 : Int32) (X0 : Stand p l e R s m args below meth c T locs cells slots) (hx : p.tables.exec = Jvm.exec) (hZ : Z.Warmed39 s.vm) (hw : ∀ d ∈ tables_1, d.before a0 Z = true) (hby : c.code = method_2_code) (hown : s.vm.findClass "com/example/nodetest/nodetest/xdm/LexicalIsXmlCharPinLaw" = some m.cls) (hrt : meth.sig.returnType = some .boolean) {fs : List Frame} (hr : ∀ (f : JFrame) (acts : List Action), f.method = m → f.locked = none → f.entered = [] → (doReturn e (T.setTop f) acts (some (.int (b1_58 i0)))).1 = T.setFrames fs) :
    Steps p.tables e below (T.setTop (mkF m 58 #[.val (.int i0)] [])) (T.setFrames fs) := by
  refine XS.iloadN X0.here hx rfl (hb hby d1_58) rfl ?_
  show Steps p.tables e below (T.setTop (mkF m 59 #[.val (.int i0)] [(.int i0)])) _
  refine X0.ldcInt hx hown (mvT hZ (hw _ (List.mem_of_getElem? (i := 6) rfl))) (g := (mkF m 59 #[.val (.int i0)] [(.int i0)])) rfl (hb hby d1_59) _ ?_
  show Steps p.tables e below (T.setTop (mkF m 61 #[.val (.int i0)] [(.int (65534 : Int32)), (.int i0)])) _
  by_cases hc0 : i0 = (65534 : Int32)
  · rw [show b1_58 i0 = (1 : Int32) from by rw [b1_58, if_pos hc0]] at hr
    refine XS.icmpYes X0.here hx rfl (pc0 := 61) (pc' := 70) rfl (hb hby d1_61) rfl (teq hc0).1 (by decide) (by decide) ?_
    show Steps p.tables e below (T.setTop (mkF m 70 #[.val (.int i0)] [])) _
    refine XS.iconst X0.here hx rfl (hb hby d1_70) ?_
    show Steps p.tables e below (T.setTop (mkF m 71 #[.val (.int i0)] [(.int (1 : Int32))])) _
    exact retN X0 hx (t := .boolean) hrt (by simp) (hb hby d1_71) hr
  · refine XS.icmpNo X0.here hx rfl (hb hby d1_61) rfl (feq hc0).1 ?_
    show Steps p.tables e below (T.setTop (mkF m 64 #[.val (.int i0)] [])) _
    refine XS.iloadN X0.here hx rfl (hb hby d1_64) rfl ?_
    show Steps p.tables e below (T.setTop (mkF m 65 #[.val (.int i0)] [(.int i0)])) _
    refine X0.ldcInt hx hown (mvT hZ (hw _ (List.mem_of_getElem? (i := 23) rfl))) (g := (mkF m 65 #[.val (.int i0)] [(.int i0)])) rfl (hb hby d1_65) _ ?_
    show Steps p.tables e below (T.setTop (mkF m 67 #[.val (.int i0)] [(.int (65535 : Int32)), (.int i0)])) _
    by_cases hc1 : i0 = (65535 : Int32)
    · rw [show b1_58 i0 = (1 : Int32) from by rw [b1_58, if_neg hc0, if_pos hc1]] at hr
      refine XS.icmpNo X0.here hx rfl (hb hby d1_67) rfl (teq hc1).2 ?_
      show Steps p.tables e below (T.setTop (mkF m 70 #[.val (.int i0)] [])) _
      refine XS.iconst X0.here hx rfl (hb hby d1_70) ?_
      show Steps p.tables e below (T.setTop (mkF m 71 #[.val (.int i0)] [(.int (1 : Int32))])) _
      exact retN X0 hx (t := .boolean) hrt (by simp) (hb hby d1_71) hr
    · rw [show b1_58 i0 = (0 : Int32) from by rw [b1_58, if_neg hc0, if_neg hc1]] at hr
      refine XS.icmpYes X0.here hx rfl (pc0 := 67) (pc' := 72) rfl (hb hby d1_67) rfl (feq hc1).2 (by decide) (by decide) ?_
      show Steps p.tables e below (T.setTop (mkF m 72 #[.val (.int i0)] [])) _
      refine XS.iconst X0.here hx rfl (hb hby d1_72) ?_
      show Steps p.tables e below (T.setTop (mkF m 73 #[.val (.int i0)] [(.int (0 : Int32))])) _
      exact retN X0 hx (t := .boolean) hrt (by simp) (hb hby d1_73) hr
def b1_0 (p0 : Int32) : Int32 := (if p0 < (0 : Int32) then (1 : Int32) else (if (1114111 : Int32) < p0 then (1 : Int32) else (if p0 < (32 : Int32) then (if p0 = (9 : Int32) then (0 : Int32) else (if p0 = (10 : Int32) then (0 : Int32) else (if p0 = (13 : Int32) then (0 : Int32) else (1 : Int32)))) else (if p0 < (55296 : Int32) then (b1_58 p0) else (if (57343 : Int32) < p0 then (b1_58 p0) else (1 : Int32))))))
set_option maxRecDepth 65536 in
set_option maxHeartbeats 40000000 in
theorem bl1_0 {p : Program} {l : Launch} {e : Env} {R : Room} {s : State} {m : MethodId} {args : Array Value} {below : List Frame} {meth : Method} {c : Code} {T : State} {locs : List Loc} {cells slots : Nat} {Z : State} {a0 : Array Value} (p0 : Int32) (X0 : Stand p l e R s m args below meth c T locs cells slots) (hx : p.tables.exec = Jvm.exec) (hZ : Z.Warmed39 s.vm) (hw : ∀ d ∈ tables_1, d.before a0 Z = true) (hby : c.code = method_2_code) (hown : s.vm.findClass "com/example/nodetest/nodetest/xdm/LexicalIsXmlCharPinLaw" = some m.cls) (hrt : meth.sig.returnType = some .boolean) {fs : List Frame} (hr : ∀ (f : JFrame) (acts : List Action), f.method = m → f.locked = none → f.entered = [] → (doReturn e (T.setTop f) acts (some (.int (b1_0 p0)))).1 = T.setFrames fs) :
    Steps p.tables e below (T.setTop (mkF m 0 #[.val (.int p0)] [])) (T.setFrames fs) := by
  refine XS.iloadN X0.here hx rfl (hb hby d1_0) rfl ?_
  show Steps p.tables e below (T.setTop (mkF m 1 #[.val (.int p0)] [(.int p0)])) _
  by_cases hc0 : p0 < (0 : Int32)
  · rw [show b1_0 p0 = (1 : Int32) from by rw [b1_0, if_pos hc0]] at hr
    refine XS.ifNo X0.here hx rfl (hb hby d1_1) rfl ((if0 _ _).trans (tlt hc0).2.1) ?_
    show Steps p.tables e below (T.setTop (mkF m 4 #[.val (.int p0)] [])) _
    refine XS.iconst X0.here hx rfl (hb hby d1_4) ?_
    show Steps p.tables e below (T.setTop (mkF m 5 #[.val (.int p0)] [(.int (1 : Int32))])) _
    exact retN X0 hx (t := .boolean) hrt (by simp) (hb hby d1_5) hr
  · refine XS.ifYes X0.here hx rfl (pc0 := 1) (pc' := 6) rfl (hb hby d1_1) rfl ((if0 _ _).trans (flt hc0).2.1) (by decide) (by decide) ?_
    show Steps p.tables e below (T.setTop (mkF m 6 #[.val (.int p0)] [])) _
    refine XS.iloadN X0.here hx rfl (hb hby d1_6) rfl ?_
    show Steps p.tables e below (T.setTop (mkF m 7 #[.val (.int p0)] [(.int p0)])) _
    refine X0.ldcInt hx hown (mvT hZ (hw _ (List.mem_of_getElem? (i := 8) rfl))) (g := (mkF m 7 #[.val (.int p0)] [(.int p0)])) rfl (hb hby d1_7) _ ?_
    show Steps p.tables e below (T.setTop (mkF m 9 #[.val (.int p0)] [(.int (1114111 : Int32)), (.int p0)])) _
    by_cases hc1 : (1114111 : Int32) < p0
    · rw [show b1_0 p0 = (1 : Int32) from by rw [b1_0, if_neg hc0, if_pos hc1]] at hr
      refine XS.icmpNo X0.here hx rfl (hb hby d1_9) rfl (tlt hc1).2.2.2 ?_
      show Steps p.tables e below (T.setTop (mkF m 12 #[.val (.int p0)] [])) _
      refine XS.iconst X0.here hx rfl (hb hby d1_12) ?_
      show Steps p.tables e below (T.setTop (mkF m 13 #[.val (.int p0)] [(.int (1 : Int32))])) _
      exact retN X0 hx (t := .boolean) hrt (by simp) (hb hby d1_13) hr
    · refine XS.icmpYes X0.here hx rfl (pc0 := 9) (pc' := 14) rfl (hb hby d1_9) rfl (flt hc1).2.2.2 (by decide) (by decide) ?_
      show Steps p.tables e below (T.setTop (mkF m 14 #[.val (.int p0)] [])) _
      refine XS.iloadN X0.here hx rfl (hb hby d1_14) rfl ?_
      show Steps p.tables e below (T.setTop (mkF m 15 #[.val (.int p0)] [(.int p0)])) _
      refine XS.bipush X0.here hx rfl (hb hby d1_15) ?_
      show Steps p.tables e below (T.setTop (mkF m 17 #[.val (.int p0)] [(.int (32 : Int32)), (.int p0)])) _
      by_cases hc2 : p0 < (32 : Int32)
      · refine XS.icmpNo X0.here hx rfl (hb hby d1_17) rfl (tlt hc2).2.1 ?_
        show Steps p.tables e below (T.setTop (mkF m 20 #[.val (.int p0)] [])) _
        refine XS.iloadN X0.here hx rfl (hb hby d1_20) rfl ?_
        show Steps p.tables e below (T.setTop (mkF m 21 #[.val (.int p0)] [(.int p0)])) _
        refine XS.bipush X0.here hx rfl (hb hby d1_21) ?_
        show Steps p.tables e below (T.setTop (mkF m 23 #[.val (.int p0)] [(.int (9 : Int32)), (.int p0)])) _
        by_cases hc3 : p0 = (9 : Int32)
        · rw [show b1_0 p0 = (0 : Int32) from by rw [b1_0, if_neg hc0, if_neg hc1, if_pos hc2, if_pos hc3]] at hr
          refine XS.icmpYes X0.here hx rfl (pc0 := 23) (pc' := 42) rfl (hb hby d1_23) rfl (teq hc3).1 (by decide) (by decide) ?_
          show Steps p.tables e below (T.setTop (mkF m 42 #[.val (.int p0)] [])) _
          refine XS.iconst X0.here hx rfl (hb hby d1_42) ?_
          show Steps p.tables e below (T.setTop (mkF m 43 #[.val (.int p0)] [(.int (0 : Int32))])) _
          exact retN X0 hx (t := .boolean) hrt (by simp) (hb hby d1_43) hr
        · refine XS.icmpNo X0.here hx rfl (hb hby d1_23) rfl (feq hc3).1 ?_
          show Steps p.tables e below (T.setTop (mkF m 26 #[.val (.int p0)] [])) _
          refine XS.iloadN X0.here hx rfl (hb hby d1_26) rfl ?_
          show Steps p.tables e below (T.setTop (mkF m 27 #[.val (.int p0)] [(.int p0)])) _
          refine XS.bipush X0.here hx rfl (hb hby d1_27) ?_
          show Steps p.tables e below (T.setTop (mkF m 29 #[.val (.int p0)] [(.int (10 : Int32)), (.int p0)])) _
          by_cases hc4 : p0 = (10 : Int32)
          · rw [show b1_0 p0 = (0 : Int32) from by rw [b1_0, if_neg hc0, if_neg hc1, if_pos hc2, if_neg hc3, if_pos hc4]] at hr
            refine XS.icmpYes X0.here hx rfl (pc0 := 29) (pc' := 42) rfl (hb hby d1_29) rfl (teq hc4).1 (by decide) (by decide) ?_
            show Steps p.tables e below (T.setTop (mkF m 42 #[.val (.int p0)] [])) _
            refine XS.iconst X0.here hx rfl (hb hby d1_42) ?_
            show Steps p.tables e below (T.setTop (mkF m 43 #[.val (.int p0)] [(.int (0 : Int32))])) _
            exact retN X0 hx (t := .boolean) hrt (by simp) (hb hby d1_43) hr
          · refine XS.icmpNo X0.here hx rfl (hb hby d1_29) rfl (feq hc4).1 ?_
            show Steps p.tables e below (T.setTop (mkF m 32 #[.val (.int p0)] [])) _
            refine XS.iloadN X0.here hx rfl (hb hby d1_32) rfl ?_
            show Steps p.tables e below (T.setTop (mkF m 33 #[.val (.int p0)] [(.int p0)])) _
            refine XS.bipush X0.here hx rfl (hb hby d1_33) ?_
            show Steps p.tables e below (T.setTop (mkF m 35 #[.val (.int p0)] [(.int (13 : Int32)), (.int p0)])) _
            by_cases hc5 : p0 = (13 : Int32)
            · rw [show b1_0 p0 = (0 : Int32) from by rw [b1_0, if_neg hc0, if_neg hc1, if_pos hc2, if_neg hc3, if_neg hc4, if_pos hc5]] at hr
              refine XS.icmpYes X0.here hx rfl (pc0 := 35) (pc' := 42) rfl (hb hby d1_35) rfl (teq hc5).1 (by decide) (by decide) ?_
              show Steps p.tables e below (T.setTop (mkF m 42 #[.val (.int p0)] [])) _
              refine XS.iconst X0.here hx rfl (hb hby d1_42) ?_
              show Steps p.tables e below (T.setTop (mkF m 43 #[.val (.int p0)] [(.int (0 : Int32))])) _
              exact retN X0 hx (t := .boolean) hrt (by simp) (hb hby d1_43) hr
            · rw [show b1_0 p0 = (1 : Int32) from by rw [b1_0, if_neg hc0, if_neg hc1, if_pos hc2, if_neg hc3, if_neg hc4, if_neg hc5]] at hr
              refine XS.icmpNo X0.here hx rfl (hb hby d1_35) rfl (feq hc5).1 ?_
              show Steps p.tables e below (T.setTop (mkF m 38 #[.val (.int p0)] [])) _
              refine XS.iconst X0.here hx rfl (hb hby d1_38) ?_
              show Steps p.tables e below (T.setTop (mkF m 39 #[.val (.int p0)] [(.int (1 : Int32))])) _
              refine XS.goto X0.here hx rfl (pc0 := 39) (pc' := 43) rfl (hb hby d1_39) (by decide) (by decide) ?_
              show Steps p.tables e below (T.setTop (mkF m 43 #[.val (.int p0)] [(.int (1 : Int32))])) _
              exact retN X0 hx (t := .boolean) hrt (by simp) (hb hby d1_43) hr
      · refine XS.icmpYes X0.here hx rfl (pc0 := 17) (pc' := 44) rfl (hb hby d1_17) rfl (flt hc2).2.1 (by decide) (by decide) ?_
        show Steps p.tables e below (T.setTop (mkF m 44 #[.val (.int p0)] [])) _
        refine XS.iloadN X0.here hx rfl (hb hby d1_44) rfl ?_
        show Steps p.tables e below (T.setTop (mkF m 45 #[.val (.int p0)] [(.int p0)])) _
        refine X0.ldcInt hx hown (mvT hZ (hw _ (List.mem_of_getElem? (i := 2) rfl))) (g := (mkF m 45 #[.val (.int p0)] [(.int p0)])) rfl (hb hby d1_45) _ ?_
        show Steps p.tables e below (T.setTop (mkF m 47 #[.val (.int p0)] [(.int (55296 : Int32)), (.int p0)])) _
        by_cases hc6 : p0 < (55296 : Int32)
        · rw [show b1_0 p0 = b1_58 p0 from by rw [b1_0, if_neg hc0, if_neg hc1, if_neg hc2, if_pos hc6]] at hr
          refine XS.icmpYes X0.here hx rfl (pc0 := 47) (pc' := 58) rfl (hb hby d1_47) rfl (tlt hc6).1 (by decide) (by decide) ?_
          exact bl1_58 p0 X0 hx hZ hw hby hown hrt hr
        · refine XS.icmpNo X0.here hx rfl (hb hby d1_47) rfl (flt hc6).1 ?_
          show Steps p.tables e below (T.setTop (mkF m 50 #[.val (.int p0)] [])) _
          refine XS.iloadN X0.here hx rfl (hb hby d1_50) rfl ?_
          show Steps p.tables e below (T.setTop (mkF m 51 #[.val (.int p0)] [(.int p0)])) _
          refine X0.ldcInt hx hown (mvT hZ (hw _ (List.mem_of_getElem? (i := 3) rfl))) (g := (mkF m 51 #[.val (.int p0)] [(.int p0)])) rfl (hb hby d1_51) _ ?_
          show Steps p.tables e below (T.setTop (mkF m 53 #[.val (.int p0)] [(.int (57343 : Int32)), (.int p0)])) _
          by_cases hc7 : (57343 : Int32) < p0
          · rw [show b1_0 p0 = b1_58 p0 from by rw [b1_0, if_neg hc0, if_neg hc1, if_neg hc2, if_neg hc6, if_pos hc7]] at hr
            refine XS.icmpYes X0.here hx rfl (pc0 := 53) (pc' := 58) rfl (hb hby d1_53) rfl (tlt hc7).2.2.1 (by decide) (by decide) ?_
            exact bl1_58 p0 X0 hx hZ hw hby hown hrt hr
          · rw [show b1_0 p0 = (1 : Int32) from by rw [b1_0, if_neg hc0, if_neg hc1, if_neg hc2, if_neg hc6, if_neg hc7]] at hr
            refine XS.icmpNo X0.here hx rfl (hb hby d1_53) rfl (flt hc7).2.2.1 ?_
            show Steps p.tables e below (T.setTop (mkF m 56 #[.val (.int p0)] [])) _
            refine XS.iconst X0.here hx rfl (hb hby d1_56) ?_
            show Steps p.tables e below (T.setTop (mkF m 57 #[.val (.int p0)] [(.int (1 : Int32))])) _
            exact retN X0 hx (t := .boolean) hrt (by simp) (hb hby d1_57) hr
def Q1 (Z : State) (p0 : Int32) (h0 : Heap) (n0 : Nat) (v : Option Value) (h : Heap) (L : List Loc) : Prop := v = some (.int (b1_0 p0)) ∧ Fr n0 L ∧ h = h0
set_option maxRecDepth 65536 in
set_option maxHeartbeats 40000000 in
theorem rm1 (l : Launch) (Z : State) (a0 : Array Value) (hw : ∀ d ∈ tables_1, d.before a0 Z = true) (ws : List Jvm.Cond) (p0 : Int32) (h0 : Heap) (n0 : Nat) (Z0 : n0 ≤ h0.size) :
    MetFree l (⟨"com/example/nodetest/nodetest/xdm/LexicalIsXmlCharPinLaw", "excluded", "(I)Z"⟩ : MethodName) (head1 (Jvm.Cond.code (⟨"com/example/nodetest/nodetest/xdm/LexicalIsXmlCharPinLaw", "excluded", "(I)Z"⟩ : MethodName) method_2_code 1 (some .boolean) :: ws) ({ frames := 0, cells := 0, slots := 0, locals := 0 } : Room)) (fun a U => a = #[(.int p0)] ∧ Z.Warmed39 U.vm ∧ U.heap = h0) (fun _ _ _ _ _ => True) (fun _ U o U' => ∃ v L, o = .returned v ∧ Q1 Z p0 h0 n0 v U'.heap L ∧ FrameEnd U o U' L ({ frames := 0, cells := 0, slots := 0, locals := 0 } : Room).cells ({ frames := 0, cells := 0, slots := 0, locals := 0 } : Room).slots) := by
  refine MetFree.of_bodySF (plainFor_of_name pn_1) hisR ?_
  intro p e s m args below meth c s₁ Bd hml0 hP hK
  obtain ⟨rfl, hZ, hh⟩ := hP
  have hx := Bd.exec
  have hby := Bd.bytes
  have hml : c.maxLocals = 1 := hml0
  have hown : s.vm.findClass "com/example/nodetest/nodetest/xdm/LexicalIsXmlCharPinLaw" = some m.cls := findClass_of_methodNamed Bd.named
  have hnm := (name_of_methodNamed Bd.named Bd.method).1
  have X0 : Stand p l e ({ frames := 0, cells := 0, slots := 0, locals := 0 } : Room) s m #[(.int p0)] below meth c s₁ [] 0 0 := Stand.of_body Bd
  have e0 : s₁.heap = h0 := by rw [← hh, Bd.state]; rfl
  have N0 := Fr.nil n0
  have pre0 : ∀ t, Steps p.tables e below (s₁.setTop (mkF m 0 #[.val (.int p0)] [])) t → Steps p.tables e below (s₁.setTop (entryFrame m #[(.int p0)] 1)) t := fun t k => castTop (ef_1 m p0) k
  obtain ⟨fs, hr, hrun, hended, hW, hsame⟩ := X0.leave (v := some (.int (b1_0 p0))) (fun h => by rw [Bd.returns] at h; cases h)
  refine ⟨_, _, pre0 _ ?_, hrun, hended, _, _, rfl, ?_, ⟨_, rfl⟩, hW, hsame.mono (by decide) (by decide)⟩
  · exact bl1_0 p0 X0 hx hZ hw hby hown Bd.returns hr
  · show Q1 Z p0 h0 n0 _ s₁.heap _
    rw [e0]
    exact ⟨rfl, N0, rfl⟩
theorem d2_0 : decode prog_70_method_8_code 0 = .ok (.iload_n 0, 1) := by decide +kernel
theorem d2_1 : decode prog_70_method_8_code 1 = .ok (.bipush 9, 2) := by decide +kernel
theorem d2_3 : decode prog_70_method_8_code 3 = .ok (.if_icmp .eq 51, 3) := by decide +kernel
theorem d2_6 : decode prog_70_method_8_code 6 = .ok (.iload_n 0, 1) := by decide +kernel
theorem d2_7 : decode prog_70_method_8_code 7 = .ok (.bipush 10, 2) := by decide +kernel
theorem d2_9 : decode prog_70_method_8_code 9 = .ok (.if_icmp .eq 45, 3) := by decide +kernel
theorem d2_12 : decode prog_70_method_8_code 12 = .ok (.iload_n 0, 1) := by decide +kernel
theorem d2_13 : decode prog_70_method_8_code 13 = .ok (.bipush 13, 2) := by decide +kernel
theorem d2_15 : decode prog_70_method_8_code 15 = .ok (.if_icmp .eq 39, 3) := by decide +kernel
theorem d2_18 : decode prog_70_method_8_code 18 = .ok (.iload_n 0, 1) := by decide +kernel
theorem d2_19 : decode prog_70_method_8_code 19 = .ok (.bipush 32, 2) := by decide +kernel
theorem d2_21 : decode prog_70_method_8_code 21 = .ok (.if_icmp .lt 9, 3) := by decide +kernel
theorem d2_24 : decode prog_70_method_8_code 24 = .ok (.iload_n 0, 1) := by decide +kernel
theorem d2_25 : decode prog_70_method_8_code 25 = .ok (.ldc 75, 2) := by decide +kernel
theorem d2_27 : decode prog_70_method_8_code 27 = .ok (.if_icmp .le 27, 3) := by decide +kernel
theorem d2_30 : decode prog_70_method_8_code 30 = .ok (.iload_n 0, 1) := by decide +kernel
theorem d2_31 : decode prog_70_method_8_code 31 = .ok (.ldc 76, 2) := by decide +kernel
theorem d2_33 : decode prog_70_method_8_code 33 = .ok (.if_icmp .lt 9, 3) := by decide +kernel
theorem d2_36 : decode prog_70_method_8_code 36 = .ok (.iload_n 0, 1) := by decide +kernel
theorem d2_37 : decode prog_70_method_8_code 37 = .ok (.ldc 77, 2) := by decide +kernel
theorem d2_39 : decode prog_70_method_8_code 39 = .ok (.if_icmp .le 15, 3) := by decide +kernel
theorem d2_42 : decode prog_70_method_8_code 42 = .ok (.iload_n 0, 1) := by decide +kernel
theorem d2_43 : decode prog_70_method_8_code 43 = .ok (.ldc 78, 2) := by decide +kernel
theorem d2_45 : decode prog_70_method_8_code 45 = .ok (.if_icmp .lt 13, 3) := by decide +kernel
theorem d2_48 : decode prog_70_method_8_code 48 = .ok (.iload_n 0, 1) := by decide +kernel
theorem d2_49 : decode prog_70_method_8_code 49 = .ok (.ldc 79, 2) := by decide +kernel
theorem d2_51 : decode prog_70_method_8_code 51 = .ok (.if_icmp .gt 7, 3) := by decide +kernel
theorem d2_54 : decode prog_70_method_8_code 54 = .ok (.iconst 1, 1) := by decide +kernel
theorem d2_55 : decode prog_70_method_8_code 55 = .ok (.goto 4, 3) := by decide +kernel
theorem d2_58 : decode prog_70_method_8_code 58 = .ok (.iconst 0, 1) := by decide +kernel
theorem d2_59 : decode prog_70_method_8_code 59 = .ok (.ireturn, 1) := by decide +kernel
theorem pn_2 : plainName "com/example/nodetest/nodetest/xdm/Lexical" = true := by first | (simp [plainName, overriddenIn]; done) | decide +kernel
theorem ef_2 (m : MethodId) (p0 : Int32) : entryFrame m #[(.int p0)] 1 = mkF m 0 #[.val (.int p0)] [] := by first | (simp [entryFrame, mkF, argsToLocals, Value.category]; done) | rfl
def b2_42 (i0 : Int32) : Int32 := (if i0 < (65536 : Int32) then (0 : Int32) else (if (1114111 : Int32) < i0 then (0 : Int32) else (1 : Int32)))
set_option maxRecDepth 65536 in
set_option maxHeartbeats 40000000 in
theorem bl2_42 {p : Program} {l : Launch} {e : Env} {R : Room} {s : State} {m : MethodId} {args : Array Value} {below : List Frame} {meth : Method} {c : Code} {T : State} {locs : List Loc} {cells slots : Nat} {Z : State} {a0 : Array Value} (i0 : Int32) (X0 : Stand p l e R s m args below meth c T locs cells slots) (hx : p.tables.exec = Jvm.exec) (hZ : Z.Warmed39 s.vm) (hw : ∀ d ∈ tables_1, d.before a0 Z = true) (hby : c.code = prog_70_method_8_code) (hown : s.vm.findClass "com/example/nodetest/nodetest/xdm/Lexical" = some m.cls) (hrt : meth.sig.returnType = some .boolean) {fs : List Frame} (hr : ∀ (f : JFrame) (acts : List Action), f.method = m → f.locked = none → f.entered = [] → (doReturn e (T.setTop f) acts (some (.int (b2_42 i0)))).1 = T.setFrames fs) :
    Steps p.tables e below (T.setTop (mkF m 42 #[.val (.int i0)] [])) (T.setFrames fs) := by
  refine XS.iloadN X0.here hx rfl (hb hby d2_42) rfl ?_
  show Steps p.tables e below (T.setTop (mkF m 43 #[.val (.int i0)] [(.int i0)])) _
  refine X0.ldcInt hx hown (mvT hZ (hw _ (List.mem_of_getElem? (i := 21) rfl))) (g := (mkF m 43 #[.val (.int i0)] [(.int i0)])) rfl (hb hby d2_43) _ ?_
  show Steps p.tables e below (T.setTop (mkF m 45 #[.val (.int i0)] [(.int (65536 : Int32)), (.int i0)])) _
  by_cases hc0 : i0 < (65536 : Int32)
  · rw [show b2_42 i0 = (0 : Int32) from by rw [b2_42, if_pos hc0]] at hr
    refine XS.icmpYes X0.here hx rfl (pc0 := 45) (pc' := 58) rfl (hb hby d2_45) rfl (tlt hc0).1 (by decide) (by decide) ?_
    show Steps p.tables e below (T.setTop (mkF m 58 #[.val (.int i0)] [])) _
    refine XS.iconst X0.here hx rfl (hb hby d2_58) ?_
    show Steps p.tables e below (T.setTop (mkF m 59 #[.val (.int i0)] [(.int (0 : Int32))])) _
    exact retN X0 hx (t := .boolean) hrt (by simp) (hb hby d2_59) hr
  · refine XS.icmpNo X0.here hx rfl (hb hby d2_45) rfl (flt hc0).1 ?_
    show Steps p.tables e below (T.setTop (mkF m 48 #[.val (.int i0)] [])) _
    refine XS.iloadN X0.here hx rfl (hb hby d2_48) rfl ?_
    show Steps p.tables e below (T.setTop (mkF m 49 #[.val (.int i0)] [(.int i0)])) _
    refine X0.ldcInt hx hown (mvT hZ (hw _ (List.mem_of_getElem? (i := 25) rfl))) (g := (mkF m 49 #[.val (.int i0)] [(.int i0)])) rfl (hb hby d2_49) _ ?_
    show Steps p.tables e below (T.setTop (mkF m 51 #[.val (.int i0)] [(.int (1114111 : Int32)), (.int i0)])) _
    by_cases hc1 : (1114111 : Int32) < i0
    · rw [show b2_42 i0 = (0 : Int32) from by rw [b2_42, if_neg hc0, if_pos hc1]] at hr
      refine XS.icmpYes X0.here hx rfl (pc0 := 51) (pc' := 58) rfl (hb hby d2_51) rfl (tlt hc1).2.2.1 (by decide) (by decide) ?_
      show Steps p.tables e below (T.setTop (mkF m 58 #[.val (.int i0)] [])) _
      refine XS.iconst X0.here hx rfl (hb hby d2_58) ?_
      show Steps p.tables e below (T.setTop (mkF m 59 #[.val (.int i0)] [(.int (0 : Int32))])) _
      exact retN X0 hx (t := .boolean) hrt (by simp) (hb hby d2_59) hr
    · rw [show b2_42 i0 = (1 : Int32) from by rw [b2_42, if_neg hc0, if_neg hc1]] at hr
      refine XS.icmpNo X0.here hx rfl (hb hby d2_51) rfl (flt hc1).2.2.1 ?_
      show Steps p.tables e below (T.setTop (mkF m 54 #[.val (.int i0)] [])) _
      refine XS.iconst X0.here hx rfl (hb hby d2_54) ?_
      show Steps p.tables e below (T.setTop (mkF m 55 #[.val (.int i0)] [(.int (1 : Int32))])) _
      refine XS.goto X0.here hx rfl (pc0 := 55) (pc' := 59) rfl (hb hby d2_55) (by decide) (by decide) ?_
      show Steps p.tables e below (T.setTop (mkF m 59 #[.val (.int i0)] [(.int (1 : Int32))])) _
      exact retN X0 hx (t := .boolean) hrt (by simp) (hb hby d2_59) hr
def b2_30 (i0 : Int32) : Int32 := (if i0 < (57344 : Int32) then (b2_42 i0) else (if (65533 : Int32) < i0 then (b2_42 i0) else (1 : Int32)))
set_option maxRecDepth 65536 in
set_option maxHeartbeats 40000000 in
theorem bl2_30 {p : Program} {l : Launch} {e : Env} {R : Room} {s : State} {m : MethodId} {args : Array Value} {below : List Frame} {meth : Method} {c : Code} {T : State} {locs : List Loc} {cells slots : Nat} {Z : State} {a0 : Array Value} (i0 : Int32) (X0 : Stand p l e R s m args below meth c T locs cells slots) (hx : p.tables.exec = Jvm.exec) (hZ : Z.Warmed39 s.vm) (hw : ∀ d ∈ tables_1, d.before a0 Z = true) (hby : c.code = prog_70_method_8_code) (hown : s.vm.findClass "com/example/nodetest/nodetest/xdm/Lexical" = some m.cls) (hrt : meth.sig.returnType = some .boolean) {fs : List Frame} (hr : ∀ (f : JFrame) (acts : List Action), f.method = m → f.locked = none → f.entered = [] → (doReturn e (T.setTop f) acts (some (.int (b2_30 i0)))).1 = T.setFrames fs) :
    Steps p.tables e below (T.setTop (mkF m 30 #[.val (.int i0)] [])) (T.setFrames fs) := by
  refine XS.iloadN X0.here hx rfl (hb hby d2_30) rfl ?_
  show Steps p.tables e below (T.setTop (mkF m 31 #[.val (.int i0)] [(.int i0)])) _
  refine X0.ldcInt hx hown (mvT hZ (hw _ (List.mem_of_getElem? (i := 20) rfl))) (g := (mkF m 31 #[.val (.int i0)] [(.int i0)])) rfl (hb hby d2_31) _ ?_
  show Steps p.tables e below (T.setTop (mkF m 33 #[.val (.int i0)] [(.int (57344 : Int32)), (.int i0)])) _
  by_cases hc0 : i0 < (57344 : Int32)
  · rw [show b2_30 i0 = b2_42 i0 from by rw [b2_30, if_pos hc0]] at hr
    refine XS.icmpYes X0.here hx rfl (pc0 := 33) (pc' := 42) rfl (hb hby d2_33) rfl (tlt hc0).1 (by decide) (by decide) ?_
    exact bl2_42 i0 X0 hx hZ hw hby hown hrt hr
  · refine XS.icmpNo X0.here hx rfl (hb hby d2_33) rfl (flt hc0).1 ?_
    show Steps p.tables e below (T.setTop (mkF m 36 #[.val (.int i0)] [])) _
    refine XS.iloadN X0.here hx rfl (hb hby d2_36) rfl ?_
    show Steps p.tables e below (T.setTop (mkF m 37 #[.val (.int i0)] [(.int i0)])) _
    refine X0.ldcInt hx hown (mvT hZ (hw _ (List.mem_of_getElem? (i := 24) rfl))) (g := (mkF m 37 #[.val (.int i0)] [(.int i0)])) rfl (hb hby d2_37) _ ?_
    show Steps p.tables e below (T.setTop (mkF m 39 #[.val (.int i0)] [(.int (65533 : Int32)), (.int i0)])) _
    by_cases hc1 : (65533 : Int32) < i0
    · rw [show b2_30 i0 = b2_42 i0 from by rw [b2_30, if_neg hc0, if_pos hc1]] at hr
      refine XS.icmpNo X0.here hx rfl (hb hby d2_39) rfl (tlt hc1).2.2.2 ?_
      exact bl2_42 i0 X0 hx hZ hw hby hown hrt hr
    · rw [show b2_30 i0 = (1 : Int32) from by rw [b2_30, if_neg hc0, if_neg hc1]] at hr
      refine XS.icmpYes X0.here hx rfl (pc0 := 39) (pc' := 54) rfl (hb hby d2_39) rfl (flt hc1).2.2.2 (by decide) (by decide) ?_
      show Steps p.tables e below (T.setTop (mkF m 54 #[.val (.int i0)] [])) _
      refine XS.iconst X0.here hx rfl (hb hby d2_54) ?_
      show Steps p.tables e below (T.setTop (mkF m 55 #[.val (.int i0)] [(.int (1 : Int32))])) _
      refine XS.goto X0.here hx rfl (pc0 := 55) (pc' := 59) rfl (hb hby d2_55) (by decide) (by decide) ?_
      show Steps p.tables e below (T.setTop (mkF m 59 #[.val (.int i0)] [(.int (1 : Int32))])) _
      exact retN X0 hx (t := .boolean) hrt (by simp) (hb hby d2_59) hr
def b2_0 (p0 : Int32) : Int32 := (if p0 = (9 : Int32) then (1 : Int32) else (if p0 = (10 : Int32) then (1 : Int32) else (if p0 = (13 : Int32) then (1 : Int32) else (if p0 < (32 : Int32) then (b2_30 p0) else (if (55295 : Int32) < p0 then (b2_30 p0) else (1 : Int32))))))
set_option maxRecDepth 65536 in
set_option maxHeartbeats 40000000 in
theorem bl2_0 {p : Program} {l : Launch} {e : Env} {R : Room} {s : State} {m : MethodId} {args : Array Value} {below : List Frame} {meth : Method} {c : Code} {T : State} {locs : List Loc} {cells slots : Nat} {Z : State} {a0 : Array Value} (p0 : Int32) (X0 : Stand p l e R s m args below meth c T locs cells slots) (hx : p.tables.exec = Jvm.exec) (hZ : Z.Warmed39 s.vm) (hw : ∀ d ∈ tables_1, d.before a0 Z = true) (hby : c.code = prog_70_method_8_code) (hown : s.vm.findClass "com/example/nodetest/nodetest/xdm/Lexical" = some m.cls) (hrt : meth.sig.returnType = some .boolean) {fs : List Frame} (hr : ∀ (f : JFrame) (acts : List Action), f.method = m → f.locked = none → f.entered = [] → (doReturn e (T.setTop f) acts (some (.int (b2_0 p0)))).1 = T.setFrames fs) :
    Steps p.tables e below (T.setTop (mkF m 0 #[.val (.int p0)] [])) (T.setFrames fs) := by
  refine XS.iloadN X0.here hx rfl (hb hby d2_0) rfl ?_
  show Steps p.tables e below (T.setTop (mkF m 1 #[.val (.int p0)] [(.int p0)])) _
  refine XS.bipush X0.here hx rfl (hb hby d2_1) ?_
  show Steps p.tables e below (T.setTop (mkF m 3 #[.val (.int p0)] [(.int (9 : Int32)), (.int p0)])) _
  by_cases hc0 : p0 = (9 : Int32)
  · rw [show b2_0 p0 = (1 : Int32) from by rw [b2_0, if_pos hc0]] at hr
    refine XS.icmpYes X0.here hx rfl (pc0 := 3) (pc' := 54) rfl (hb hby d2_3) rfl (teq hc0).1 (by decide) (by decide) ?_
    show Steps p.tables e below (T.setTop (mkF m 54 #[.val (.int p0)] [])) _
    refine XS.iconst X0.here hx rfl (hb hby d2_54) ?_
    show Steps p.tables e below (T.setTop (mkF m 55 #[.val (.int p0)] [(.int (1 : Int32))])) _
    refine XS.goto X0.here hx rfl (pc0 := 55) (pc' := 59) rfl (hb hby d2_55) (by decide) (by decide) ?_
    show Steps p.tables e below (T.setTop (mkF m 59 #[.val (.int p0)] [(.int (1 : Int32))])) _
    exact retN X0 hx (t := .boolean) hrt (by simp) (hb hby d2_59) hr
  · refine XS.icmpNo X0.here hx rfl (hb hby d2_3) rfl (feq hc0).1 ?_
    show Steps p.tables e below (T.setTop (mkF m 6 #[.val (.int p0)] [])) _
    refine XS.iloadN X0.here hx rfl (hb hby d2_6) rfl ?_
    show Steps p.tables e below (T.setTop (mkF m 7 #[.val (.int p0)] [(.int p0)])) _
    refine XS.bipush X0.here hx rfl (hb hby d2_7) ?_
    show Steps p.tables e below (T.setTop (mkF m 9 #[.val (.int p0)] [(.int (10 : Int32)), (.int p0)])) _
    by_cases hc1 : p0 = (10 : Int32)
    · rw [show b2_0 p0 = (1 : Int32) from by rw [b2_0, if_neg hc0, if_pos hc1]] at hr
      refine XS.icmpYes X0.here hx rfl (pc0 := 9) (pc' := 54) rfl (hb hby d2_9) rfl (teq hc1).1 (by decide) (by decide) ?_
      show Steps p.tables e below (T.setTop (mkF m 54 #[.val (.int p0)] [])) _
      refine XS.iconst X0.here hx rfl (hb hby d2_54) ?_
      show Steps p.tables e below (T.setTop (mkF m 55 #[.val (.int p0)] [(.int (1 : Int32))])) _
      refine XS.goto X0.here hx rfl (pc0 := 55) (pc' := 59) rfl (hb hby d2_55) (by decide) (by decide) ?_
      show Steps p.tables e below (T.setTop (mkF m 59 #[.val (.int p0)] [(.int (1 : Int32))])) _
      exact retN X0 hx (t := .boolean) hrt (by simp) (hb hby d2_59) hr
    · refine XS.icmpNo X0.here hx rfl (hb hby d2_9) rfl (feq hc1).1 ?_
      show Steps p.tables e below (T.setTop (mkF m 12 #[.val (.int p0)] [])) _
      refine XS.iloadN X0.here hx rfl (hb hby d2_12) rfl ?_
      show Steps p.tables e below (T.setTop (mkF m 13 #[.val (.int p0)] [(.int p0)])) _
      refine XS.bipush X0.here hx rfl (hb hby d2_13) ?_
      show Steps p.tables e below (T.setTop (mkF m 15 #[.val (.int p0)] [(.int (13 : Int32)), (.int p0)])) _
      by_cases hc2 : p0 = (13 : Int32)
      · rw [show b2_0 p0 = (1 : Int32) from by rw [b2_0, if_neg hc0, if_neg hc1, if_pos hc2]] at hr
        refine XS.icmpYes X0.here hx rfl (pc0 := 15) (pc' := 54) rfl (hb hby d2_15) rfl (teq hc2).1 (by decide) (by decide) ?_
        show Steps p.tables e below (T.setTop (mkF m 54 #[.val (.int p0)] [])) _
        refine XS.iconst X0.here hx rfl (hb hby d2_54) ?_
        show Steps p.tables e below (T.setTop (mkF m 55 #[.val (.int p0)] [(.int (1 : Int32))])) _
        refine XS.goto X0.here hx rfl (pc0 := 55) (pc' := 59) rfl (hb hby d2_55) (by decide) (by decide) ?_
        show Steps p.tables e below (T.setTop (mkF m 59 #[.val (.int p0)] [(.int (1 : Int32))])) _
        exact retN X0 hx (t := .boolean) hrt (by simp) (hb hby d2_59) hr
      · refine XS.icmpNo X0.here hx rfl (hb hby d2_15) rfl (feq hc2).1 ?_
        show Steps p.tables e below (T.setTop (mkF m 18 #[.val (.int p0)] [])) _
        refine XS.iloadN X0.here hx rfl (hb hby d2_18) rfl ?_
        show Steps p.tables e below (T.setTop (mkF m 19 #[.val (.int p0)] [(.int p0)])) _
        refine XS.bipush X0.here hx rfl (hb hby d2_19) ?_
        show Steps p.tables e below (T.setTop (mkF m 21 #[.val (.int p0)] [(.int (32 : Int32)), (.int p0)])) _
        by_cases hc3 : p0 < (32 : Int32)
        · rw [show b2_0 p0 = b2_30 p0 from by rw [b2_0, if_neg hc0, if_neg hc1, if_neg hc2, if_pos hc3]] at hr
          refine XS.icmpYes X0.here hx rfl (pc0 := 21) (pc' := 30) rfl (hb hby d2_21) rfl (tlt hc3).1 (by decide) (by decide) ?_
          exact bl2_30 p0 X0 hx hZ hw hby hown hrt hr
        · refine XS.icmpNo X0.here hx rfl (hb hby d2_21) rfl (flt hc3).1 ?_
          show Steps p.tables e below (T.setTop (mkF m 24 #[.val (.int p0)] [])) _
          refine XS.iloadN X0.here hx rfl (hb hby d2_24) rfl ?_
          show Steps p.tables e below (T.setTop (mkF m 25 #[.val (.int p0)] [(.int p0)])) _
          refine X0.ldcInt hx hown (mvT hZ (hw _ (List.mem_of_getElem? (i := 22) rfl))) (g := (mkF m 25 #[.val (.int p0)] [(.int p0)])) rfl (hb hby d2_25) _ ?_
          show Steps p.tables e below (T.setTop (mkF m 27 #[.val (.int p0)] [(.int (55295 : Int32)), (.int p0)])) _
          by_cases hc4 : (55295 : Int32) < p0
          · rw [show b2_0 p0 = b2_30 p0 from by rw [b2_0, if_neg hc0, if_neg hc1, if_neg hc2, if_neg hc3, if_pos hc4]] at hr
            refine XS.icmpNo X0.here hx rfl (hb hby d2_27) rfl (tlt hc4).2.2.2 ?_
            exact bl2_30 p0 X0 hx hZ hw hby hown hrt hr
          · rw [show b2_0 p0 = (1 : Int32) from by rw [b2_0, if_neg hc0, if_neg hc1, if_neg hc2, if_neg hc3, if_neg hc4]] at hr
            refine XS.icmpYes X0.here hx rfl (pc0 := 27) (pc' := 54) rfl (hb hby d2_27) rfl (flt hc4).2.2.2 (by decide) (by decide) ?_
            show Steps p.tables e below (T.setTop (mkF m 54 #[.val (.int p0)] [])) _
            refine XS.iconst X0.here hx rfl (hb hby d2_54) ?_
            show Steps p.tables e below (T.setTop (mkF m 55 #[.val (.int p0)] [(.int (1 : Int32))])) _
            refine XS.goto X0.here hx rfl (pc0 := 55) (pc' := 59) rfl (hb hby d2_55) (by decide) (by decide) ?_
            show Steps p.tables e below (T.setTop (mkF m 59 #[.val (.int p0)] [(.int (1 : Int32))])) _
            exact retN X0 hx (t := .boolean) hrt (by simp) (hb hby d2_59) hr
def Q2 (Z : State) (p0 : Int32) (h0 : Heap) (n0 : Nat) (v : Option Value) (h : Heap) (L : List Loc) : Prop := v = some (.int (b2_0 p0)) ∧ Fr n0 L ∧ h = h0
set_option maxRecDepth 65536 in
set_option maxHeartbeats 40000000 in
theorem rm2 (l : Launch) (Z : State) (a0 : Array Value) (hw : ∀ d ∈ tables_1, d.before a0 Z = true) (ws : List Jvm.Cond) (p0 : Int32) (h0 : Heap) (n0 : Nat) (Z0 : n0 ≤ h0.size) :
    MetFree l (⟨"com/example/nodetest/nodetest/xdm/Lexical", "isXmlChar", "(I)Z"⟩ : MethodName) (head1 (Jvm.Cond.code (⟨"com/example/nodetest/nodetest/xdm/Lexical", "isXmlChar", "(I)Z"⟩ : MethodName) prog_70_method_8_code 1 (some .boolean) :: ws) ({ frames := 0, cells := 0, slots := 0, locals := 0 } : Room)) (fun a U => a = #[(.int p0)] ∧ Z.Warmed39 U.vm ∧ U.heap = h0) (fun _ _ _ _ _ => True) (fun _ U o U' => ∃ v L, o = .returned v ∧ Q2 Z p0 h0 n0 v U'.heap L ∧ FrameEnd U o U' L ({ frames := 0, cells := 0, slots := 0, locals := 0 } : Room).cells ({ frames := 0, cells := 0, slots := 0, locals := 0 } : Room).slots) := by
  refine MetFree.of_bodySF (plainFor_of_name pn_2) hisR ?_
  intro p e s m args below meth c s₁ Bd hml0 hP hK
  obtain ⟨rfl, hZ, hh⟩ := hP
  have hx := Bd.exec
  have hby := Bd.bytes
  have hml : c.maxLocals = 1 := hml0
  have hown : s.vm.findClass "com/example/nodetest/nodetest/xdm/Lexical" = some m.cls := findClass_of_methodNamed Bd.named
  have hnm := (name_of_methodNamed Bd.named Bd.method).1
  have X0 : Stand p l e ({ frames := 0, cells := 0, slots := 0, locals := 0 } : Room) s m #[(.int p0)] below meth c s₁ [] 0 0 := Stand.of_body Bd
  have e0 : s₁.heap = h0 := by rw [← hh, Bd.state]; rfl
  have N0 := Fr.nil n0
  have pre0 : ∀ t, Steps p.tables e below (s₁.setTop (mkF m 0 #[.val (.int p0)] [])) t → Steps p.tables e below (s₁.setTop (entryFrame m #[(.int p0)] 1)) t := fun t k => castTop (ef_2 m p0) k
  obtain ⟨fs, hr, hrun, hended, hW, hsame⟩ := X0.leave (v := some (.int (b2_0 p0))) (fun h => by rw [Bd.returns] at h; cases h)
  refine ⟨_, _, pre0 _ ?_, hrun, hended, _, _, rfl, ?_, ⟨_, rfl⟩, hW, hsame.mono (by decide) (by decide)⟩
  · exact bl2_0 p0 X0 hx hZ hw hby hown Bd.returns hr
  · show Q2 Z p0 h0 n0 _ s₁.heap _
    rw [e0]
    exact ⟨rfl, N0, rfl⟩
theorem zb2_42 (c : Int32) : b2_42 c = 0 ∨ b2_42 c = 1 := by
  rw [b2_42]; repeat' (first | exact Or.inl rfl | exact Or.inr rfl | apply own_ite01)
theorem zb2_30 (c : Int32) : b2_30 c = 0 ∨ b2_30 c = 1 := by
  rw [b2_30]; repeat' (first | exact Or.inl rfl | exact Or.inr rfl | exact zb2_42 c | apply own_ite01)
theorem zb2_0 (c : Int32) : b2_0 c = 0 ∨ b2_0 c = 1 := by
  rw [b2_0]; repeat' (first | exact Or.inl rfl | exact Or.inr rfl | exact zb2_30 c | apply own_ite01)
theorem own_58 (c : Int32) : b1_58 c = 1 ↔ (c.toInt = 65534 ∨ c.toInt = 65535) := by
  rw [b1_58, own_e1, own_e1, own_0]
  simp only [show (65534 : Int32).toInt = 65534 from by decide, show (65535 : Int32).toInt = 65535 from by decide, or_false]
theorem zb1_58 (c : Int32) : b1_58 c = 0 ∨ b1_58 c = 1 := by
  rw [b1_58]; repeat' (first | exact Or.inl rfl | exact Or.inr rfl | apply own_ite01)
theorem zb1_0 (c : Int32) : b1_0 c = 0 ∨ b1_0 c = 1 := by
  rw [b1_0]; repeat' (first | exact Or.inl rfl | exact Or.inr rfl | exact zb1_58 c | apply own_ite01)
theorem own_n0 {c a X : Int32} : ((if c = a then (0 : Int32) else X) = 1) ↔ (¬ c.toInt = a.toInt ∧ X = 1) := by
  by_cases h : c = a
  · rw [if_pos h]; exact ⟨fun q => absurd q (by decide), fun q => absurd (by rw [h]) q.1⟩
  · rw [if_neg h]; exact ⟨fun q => ⟨fun r => h (Int32.toInt_inj.mp r), q⟩, fun q => q.2⟩
theorem own_lX {c a X Y : Int32} : ((if c < a then X else Y) = 1) ↔ ((c.toInt < a.toInt ∧ X = 1) ∨ (¬ c.toInt < a.toInt ∧ Y = 1)) := by
  by_cases h : c < a
  · rw [if_pos h]; rw [Int32.lt_iff_toInt_lt] at h; exact ⟨fun q => Or.inl ⟨h, q⟩, fun q => q.elim (fun r => r.2) (fun r => absurd h r.1)⟩
  · rw [if_neg h]; rw [Int32.lt_iff_toInt_lt] at h; exact ⟨fun q => Or.inr ⟨h, q⟩, fun q => q.elim (fun r => absurd r.1 h) (fun r => r.2)⟩
theorem own_11 : ((1 : Int32) = 1) ↔ True := by decide
theorem own_iff1 (c : Int32) : b1_0 c = 1 ↔ (c.toInt < 0 ∨ 1114111 < c.toInt ∨ (c.toInt < 32 ∧ ¬ c.toInt = 9 ∧ ¬ c.toInt = 10 ∧ ¬ c.toInt = 13) ∨ (¬ c.toInt < 32 ∧ ((55296 ≤ c.toInt ∧ c.toInt ≤ 57343) ∨ c.toInt = 65534 ∨ c.toInt = 65535))) := by
  rw [b1_0, own_l1, own_g1, own_lX, own_n0, own_n0, own_n0, own_11, own_rng, own_58]
  simp only [show (0 : Int32).toInt = 0 from by decide, show (1 : Int32).toInt = 1 from by decide, show (9 : Int32).toInt = 9 from by decide, show (10 : Int32).toInt = 10 from by decide, show (13 : Int32).toInt = 13 from by decide, show (32 : Int32).toInt = 32 from by decide, show (55296 : Int32).toInt = 55296 from by decide, show (57343 : Int32).toInt = 57343 from by decide, show (65534 : Int32).toInt = 65534 from by decide, show (65535 : Int32).toInt = 65535 from by decide, show (1114111 : Int32).toInt = 1114111 from by decide, and_true]
theorem own_iff2 (c : Int32) : ∃ P : Prop, (b2_0 c = 1 ↔ P) ∧ (b1_0 c = 1 ↔ ¬ P) := by
  refine ⟨_, Iff.rfl, ?_⟩
  rw [own_iff1]
  rw [b2_0, own_e1, own_e1, own_e1, own_rng, b2_30, own_rng, b2_42, own_rng, own_0]
  simp only [show (0 : Int32).toInt = 0 from by decide, show (1 : Int32).toInt = 1 from by decide, show (9 : Int32).toInt = 9 from by decide, show (10 : Int32).toInt = 10 from by decide, show (13 : Int32).toInt = 13 from by decide, show (32 : Int32).toInt = 32 from by decide, show (55295 : Int32).toInt = 55295 from by decide, show (57344 : Int32).toInt = 57344 from by decide, show (65533 : Int32).toInt = 65533 from by decide, show (65536 : Int32).toInt = 65536 from by decide, show (1114111 : Int32).toInt = 1114111 from by decide, or_false]
  generalize c.toInt = n
  omega
theorem own_a1 (c : Int32) (h : b1_0 c = (0 : Int32)) : b2_0 c = (1 : Int32) := by
  obtain ⟨P, h1, h2⟩ := own_iff2 c
  exact h1.mpr (Classical.byContradiction fun q => by have := h2.mpr q; rw [h] at this; exact absurd this (by decide))
theorem own_a2 (c : Int32) (h : ¬ b1_0 c = (0 : Int32)) : b2_0 c = (0 : Int32) := by
  obtain ⟨P, h1, h2⟩ := own_iff2 c
  rcases zb2_0 c with e | e
  · exact e
  · rcases zb1_0 c with e' | e'
    · exact absurd e' h
    · exact absurd (h1.mp e) (h2.mp e')
theorem own_idx (x : Int32) : ¬ (((x.toUInt32 >>> ((1 : Int32) &&& 31).toUInt32).toInt32) % (16 : Int32)) < 0 ∧ (((x.toUInt32 >>> ((1 : Int32) &&& 31).toUInt32).toInt32) % (16 : Int32)) < (16 : Int32) := by
  have a := c_iushr x 1 1 (by decide) (by decide)
  generalize (x.toUInt32 >>> ((1 : Int32) &&& 31).toUInt32).toInt32 = y at a ⊢
  have r := rng32 x
  have b := (c_irem y 16 16 (by decide)).1 (by omega)
  have e0 : (0 : Int32).toInt = 0 := by decide
  have e1 : (16 : Int32).toInt = 16 := by decide
  rw [Int32.lt_iff_toInt_lt, Int32.lt_iff_toInt_lt]
  omega
theorem pn_0 : plainName "com/example/nodetest/nodetest/xdm/LexicalIsXmlCharPinLaw" = true := by first | (simp [plainName, overriddenIn]; done) | decide +kernel
theorem ef_0 (m : MethodId) (p0 : Int32) (p1 : Int32) (p2 : Int32) : entryFrame m #[(.int p0), (.int p1), (.int p2)] maxLocals = mkF m 0 #[.val (.int p0), .val (.int p1), .val (.int p2), .unset, .unset, .unset, .unset] [] := by first | (simp [entryFrame, mkF, argsToLocals, Value.category, maxLocals]; done) | rfl
theorem pd_0 : parseMethodDescriptor "(I)Z" = some ⟨[.int], some .boolean⟩ := by decide +kernel
def Q0 (Z : State) (p0 : Int32) (p1 : Int32) (p2 : Int32) (h0 : Heap) (n0 : Nat) (v : Option Value) (h : Heap) (L : List Loc) : Prop := v = some (.int 1) ∧ Fr n0 L
set_option maxRecDepth 65536 in
set_option maxHeartbeats 40000000 in
theorem rm0 (l : Launch) (Z : State) (a0 : Array Value) (hw : ∀ d ∈ tables_1, d.before a0 Z = true) (ws : List Jvm.Cond) (p0 : Int32) (p1 : Int32) (p2 : Int32) (h0 : Heap) (n0 : Nat) (Z0 : n0 ≤ h0.size)  :
    MetFree l x (head1 (Jvm.Cond.code x code maxLocals ret :: ws) room_1) (fun a U => a = #[(.int p0), (.int p1), (.int p2)] ∧ Z.Warmed39 U.vm ∧ U.heap = h0) (fun _ _ _ _ _ => True) (fun _ U o U' => ∃ v L, o = .returned v ∧ Q0 Z p0 p1 p2 h0 n0 v U'.heap L ∧ FrameEnd U o U' L room_1.cells room_1.slots) := by
  refine MetFree.of_bodySF (plainFor_of_name pn_0) hisR ?_
  intro p e s m args below meth c s₁ Bd hml0 hP hK
  obtain ⟨rfl, hZ, hh⟩ := hP
  have hx := Bd.exec
  have hby := Bd.bytes
  have hml : c.maxLocals = 7 := hml0
  have hown : s.vm.findClass "com/example/nodetest/nodetest/xdm/LexicalIsXmlCharPinLaw" = some m.cls := findClass_of_methodNamed Bd.named
  have hnm := (name_of_methodNamed Bd.named Bd.method).1
  have X0 : Stand p l e room_1 s m #[(.int p0), (.int p1), (.int p2)] below meth c s₁ [] 0 0 := Stand.of_body Bd
  have e0 : s₁.heap = h0 := by rw [← hh, Bd.state]; rfl
  have N0 := Fr.nil n0
  have pre0 : ∀ t, Steps p.tables e below (s₁.setTop (mkF m 0 #[.val (.int p0), .val (.int p1), .val (.int p2), .unset, .unset, .unset, .unset] [])) t → Steps p.tables e below (s₁.setTop (entryFrame m #[(.int p0), (.int p1), (.int p2)] maxLocals)) t := fun t k => castTop (ef_0 m p0 p1 p2) k
  obtain ⟨T11, h11, k11, X11, e11, E11, A11, st11⟩ := newP X0 hx hZ (hw _ (List.mem_of_getElem? (i := 0) rfl)) e0 (g := (mkF m 2 #[.val (.int p0), .val (.int p1), .val (.int p2), .unset, .unset, .unset, .unset] [(.int (16 : Int32))])) rfl (hb hby at_2) rfl (by decide) (cap := 16) (by decide) (by decide) (by decide) (by decide)
  obtain ⟨b11, gb11⟩ : ∃ z, z = h0.size := ⟨_, rfl⟩
  rw [← gb11] at A11 st11
  have g12 : n0 ≤ b11 := Nat.le_trans Z0 (Nat.le_of_eq gb11.symm)
  have Z13 : n0 ≤ h11.size := Nat.le_trans Z0 E11.1
  have V11 : AI Z h11 b11 .int (16 : Int32) (fun _ => (0 : Int32)) := AI.new rfl A11 (by decide)
  obtain ⟨cl14, Ar14, S14, M14, I14⟩ := id V11
  have hin14 : ¬ ((0 : Int32) < 0 ∨ cl14.slots.size ≤ ((0 : Int32)).toNatClampNeg) := inb_of S14 ⟨by decide, by decide⟩
  obtain ⟨T15, h15, X15, e15, W15, st15⟩ := stI X11 hx hZ e11 Ar14 (j := (0 : Int32)) hin14 (g := (mkF m 7 #[.val (.int p0), .val (.int p1), .val (.int p2), .unset, .unset, .unset, .unset] [(.int (0 : Int32)), (.int (0 : Int32)), (.ref b11), (.ref b11)])) rfl rfl (hb hby at_7)
  have V15 : AI Z h15 b11 .int (16 : Int32) (fun i => if i = ((0 : Int32)).toNatClampNeg then (0 : Int32) else (fun _ => (0 : Int32)) i) := AI.set V11 W15
  obtain ⟨f7, hf7⟩ : ∃ z, z = (fun i => if i = ((0 : Int32)).toNatClampNeg then (0 : Int32) else (fun _ => (0 : Int32)) i) := ⟨_, rfl⟩
  rw [← hf7] at V15
  have Z16 : n0 ≤ h15.size := Nat.le_trans Z13 (Keep.of_wr W15).1
  have N15 := Fr.snoc X15 N0 g12
  obtain ⟨cl17, Ar17, S17, M17, I17⟩ := id V15
  have hin17 : ¬ ((1 : Int32) < 0 ∨ cl17.slots.size ≤ ((1 : Int32)).toNatClampNeg) := inb_of S17 ⟨by decide, by decide⟩
  obtain ⟨T18, h18, X18, e18, W18, st18⟩ := stI X15 hx hZ e15 Ar17 (j := (1 : Int32)) hin17 (g := (mkF m 12 #[.val (.int p0), .val (.int p1), .val (.int p2), .unset, .unset, .unset, .unset] [(.int (9 : Int32)), (.int (1 : Int32)), (.ref b11), (.ref b11)])) rfl rfl (hb hby at_12)
  have V18 : AI Z h18 b11 .int (16 : Int32) (fun i => if i = ((1 : Int32)).toNatClampNeg then (9 : Int32) else f7 i) := AI.set V15 W18
  obtain ⟨f12, hf12⟩ : ∃ z, z = (fun i => if i = ((1 : Int32)).toNatClampNeg then (9 : Int32) else f7 i) := ⟨_, rfl⟩
  rw [← hf12] at V18
  have Z19 : n0 ≤ h18.size := Nat.le_trans Z16 (Keep.of_wr W18).1
  have N18 := Fr.snoc X18 N15 g12
  obtain ⟨cl20, Ar20, S20, M20, I20⟩ := id V18
  have hin20 : ¬ ((2 : Int32) < 0 ∨ cl20.slots.size ≤ ((2 : Int32)).toNatClampNeg) := inb_of S20 ⟨by decide, by decide⟩
  obtain ⟨T21, h21, X21, e21, W21, st21⟩ := stI X18 hx hZ e18 Ar20 (j := (2 : Int32)) hin20 (g := (mkF m 17 #[.val (.int p0), .val (.int p1), .val (.int p2), .unset, .unset, .unset, .unset] [(.int (10 : Int32)), (.int (2 : Int32)), (.ref b11), (.ref b11)])) rfl rfl (hb hby at_17)
  have V21 : AI Z h21 b11 .int (16 : Int32) (fun i => if i = ((2 : Int32)).toNatClampNeg then (10 : Int32) else f12 i) := AI.set V18 W21
  obtain ⟨f17, hf17⟩ : ∃ z, z = (fun i => if i = ((2 : Int32)).toNatClampNeg then (10 : Int32) else f12 i) := ⟨_, rfl⟩
  rw [← hf17] at V21
  have Z22 : n0 ≤ h21.size := Nat.le_trans Z19 (Keep.of_wr W21).1
  have N21 := Fr.snoc X21 N18 g12
  obtain ⟨cl23, Ar23, S23, M23, I23⟩ := id V21
  have hin23 : ¬ ((3 : Int32) < 0 ∨ cl23.slots.size ≤ ((3 : Int32)).toNatClampNeg) := inb_of S23 ⟨by decide, by decide⟩
  obtain ⟨T24, h24, X24, e24, W24, st24⟩ := stI X21 hx hZ e21 Ar23 (j := (3 : Int32)) hin23 (g := (mkF m 22 #[.val (.int p0), .val (.int p1), .val (.int p2), .unset, .unset, .unset, .unset] [(.int (13 : Int32)), (.int (3 : Int32)), (.ref b11), (.ref b11)])) rfl rfl (hb hby at_22)
  have V24 : AI Z h24 b11 .int (16 : Int32) (fun i => if i = ((3 : Int32)).toNatClampNeg then (13 : Int32) else f17 i) := AI.set V21 W24
  obtain ⟨f22, hf22⟩ : ∃ z, z = (fun i => if i = ((3 : Int32)).toNatClampNeg then (13 : Int32) else f17 i) := ⟨_, rfl⟩
  rw [← hf22] at V24
  have Z25 : n0 ≤ h24.size := Nat.le_trans Z22 (Keep.of_wr W24).1
  have N24 := Fr.snoc X24 N21 g12
  obtain ⟨cl26, Ar26, S26, M26, I26⟩ := id V24
  have hin26 : ¬ ((4 : Int32) < 0 ∨ cl26.slots.size ≤ ((4 : Int32)).toNatClampNeg) := inb_of S26 ⟨by decide, by decide⟩
  obtain ⟨T27, h27, X27, e27, W27, st27⟩ := stI X24 hx hZ e24 Ar26 (j := (4 : Int32)) hin26 (g := (mkF m 27 #[.val (.int p0), .val (.int p1), .val (.int p2), .unset, .unset, .unset, .unset] [(.int (32 : Int32)), (.int (4 : Int32)), (.ref b11), (.ref b11)])) rfl rfl (hb hby at_27)
  have V27 : AI Z h27 b11 .int (16 : Int32) (fun i => if i = ((4 : Int32)).toNatClampNeg then (32 : Int32) else f22 i) := AI.set V24 W27
  obtain ⟨f27, hf27⟩ : ∃ z, z = (fun i => if i = ((4 : Int32)).toNatClampNeg then (32 : Int32) else f22 i) := ⟨_, rfl⟩
  rw [← hf27] at V27
  have Z28 : n0 ≤ h27.size := Nat.le_trans Z25 (Keep.of_wr W27).1
  have N27 := Fr.snoc X27 N24 g12
  obtain ⟨cl29, Ar29, S29, M29, I29⟩ := id V27
  have hin29 : ¬ ((5 : Int32) < 0 ∨ cl29.slots.size ≤ ((5 : Int32)).toNatClampNeg) := inb_of S29 ⟨by decide, by decide⟩
  obtain ⟨T30, h30, X30, e30, W30, st30⟩ := stI X27 hx hZ e27 Ar29 (j := (5 : Int32)) hin29 (g := (mkF m 32 #[.val (.int p0), .val (.int p1), .val (.int p2), .unset, .unset, .unset, .unset] [(.int (55295 : Int32)), (.int (5 : Int32)), (.ref b11), (.ref b11)])) rfl rfl (hb hby at_32)
  have V30 : AI Z h30 b11 .int (16 : Int32) (fun i => if i = ((5 : Int32)).toNatClampNeg then (55295 : Int32) else f27 i) := AI.set V27 W30
  obtain ⟨f32, hf32⟩ : ∃ z, z = (fun i => if i = ((5 : Int32)).toNatClampNeg then (55295 : Int32) else f27 i) := ⟨_, rfl⟩
  rw [← hf32] at V30
  have Z31 : n0 ≤ h30.size := Nat.le_trans Z28 (Keep.of_wr W30).1
  have N30 := Fr.snoc X30 N27 g12
  obtain ⟨cl32, Ar32, S32, M32, I32⟩ := id V30
  have hin32 : ¬ ((6 : Int32) < 0 ∨ cl32.slots.size ≤ ((6 : Int32)).toNatClampNeg) := inb_of S32 ⟨by decide, by decide⟩
  obtain ⟨T33, h33, X33, e33, W33, st33⟩ := stI X30 hx hZ e30 Ar32 (j := (6 : Int32)) hin32 (g := (mkF m 38 #[.val (.int p0), .val (.int p1), .val (.int p2), .unset, .unset, .unset, .unset] [(.int (55296 : Int32)), (.int (6 : Int32)), (.ref b11), (.ref b11)])) rfl rfl (hb hby at_38)
  have V33 : AI Z h33 b11 .int (16 : Int32) (fun i => if i = ((6 : Int32)).toNatClampNeg then (55296 : Int32) else f32 i) := AI.set V30 W33
  obtain ⟨f38, hf38⟩ : ∃ z, z = (fun i => if i = ((6 : Int32)).toNatClampNeg then (55296 : Int32) else f32 i) := ⟨_, rfl⟩
  rw [← hf38] at V33
  have Z34 : n0 ≤ h33.size := Nat.le_trans Z31 (Keep.of_wr W33).1
  have N33 := Fr.snoc X33 N30 g12
  obtain ⟨cl35, Ar35, S35, M35, I35⟩ := id V33
  have hin35 : ¬ ((7 : Int32) < 0 ∨ cl35.slots.size ≤ ((7 : Int32)).toNatClampNeg) := inb_of S35 ⟨by decide, by decide⟩
  obtain ⟨T36, h36, X36, e36, W36, st36⟩ := stI X33 hx hZ e33 Ar35 (j := (7 : Int32)) hin35 (g := (mkF m 44 #[.val (.int p0), .val (.int p1), .val (.int p2), .unset, .unset, .unset, .unset] [(.int (57343 : Int32)), (.int (7 : Int32)), (.ref b11), (.ref b11)])) rfl rfl (hb hby at_44)
  have V36 : AI Z h36 b11 .int (16 : Int32) (fun i => if i = ((7 : Int32)).toNatClampNeg then (57343 : Int32) else f38 i) := AI.set V33 W36
  obtain ⟨f44, hf44⟩ : ∃ z, z = (fun i => if i = ((7 : Int32)).toNatClampNeg then (57343 : Int32) else f38 i) := ⟨_, rfl⟩
  rw [← hf44] at V36
  have Z37 : n0 ≤ h36.size := Nat.le_trans Z34 (Keep.of_wr W36).1
  have N36 := Fr.snoc X36 N33 g12
  obtain ⟨cl38, Ar38, S38, M38, I38⟩ := id V36
  have hin38 : ¬ ((8 : Int32) < 0 ∨ cl38.slots.size ≤ ((8 : Int32)).toNatClampNeg) := inb_of S38 ⟨by decide, by decide⟩
  obtain ⟨T39, h39, X39, e39, W39, st39⟩ := stI X36 hx hZ e36 Ar38 (j := (8 : Int32)) hin38 (g := (mkF m 50 #[.val (.int p0), .val (.int p1), .val (.int p2), .unset, .unset, .unset, .unset] [(.int (57344 : Int32)), (.int (8 : Int32)), (.ref b11), (.ref b11)])) rfl rfl (hb hby at_50)
  have V39 : AI Z h39 b11 .int (16 : Int32) (fun i => if i = ((8 : Int32)).toNatClampNeg then (57344 : Int32) else f44 i) := AI.set V36 W39
  obtain ⟨f50, hf50⟩ : ∃ z, z = (fun i => if i = ((8 : Int32)).toNatClampNeg then (57344 : Int32) else f44 i) := ⟨_, rfl⟩
  rw [← hf50] at V39
  have Z40 : n0 ≤ h39.size := Nat.le_trans Z37 (Keep.of_wr W39).1
  have N39 := Fr.snoc X39 N36 g12
  obtain ⟨cl41, Ar41, S41, M41, I41⟩ := id V39
  have hin41 : ¬ ((9 : Int32) < 0 ∨ cl41.slots.size ≤ ((9 : Int32)).toNatClampNeg) := inb_of S41 ⟨by decide, by decide⟩
  obtain ⟨T42, h42, X42, e42, W42, st42⟩ := stI X39 hx hZ e39 Ar41 (j := (9 : Int32)) hin41 (g := (mkF m 56 #[.val (.int p0), .val (.int p1), .val (.int p2), .unset, .unset, .unset, .unset] [(.int (65533 : Int32)), (.int (9 : Int32)), (.ref b11), (.ref b11)])) rfl rfl (hb hby at_56)
  have V42 : AI Z h42 b11 .int (16 : Int32) (fun i => if i = ((9 : Int32)).toNatClampNeg then (65533 : Int32) else f50 i) := AI.set V39 W42
  obtain ⟨f56, hf56⟩ : ∃ z, z = (fun i => if i = ((9 : Int32)).toNatClampNeg then (65533 : Int32) else f50 i) := ⟨_, rfl⟩
  rw [← hf56] at V42
  have Z43 : n0 ≤ h42.size := Nat.le_trans Z40 (Keep.of_wr W42).1
  have N42 := Fr.snoc X42 N39 g12
  obtain ⟨cl44, Ar44, S44, M44, I44⟩ := id V42
  have hin44 : ¬ ((10 : Int32) < 0 ∨ cl44.slots.size ≤ ((10 : Int32)).toNatClampNeg) := inb_of S44 ⟨by decide, by decide⟩
  obtain ⟨T45, h45, X45, e45, W45, st45⟩ := stI X42 hx hZ e42 Ar44 (j := (10 : Int32)) hin44 (g := (mkF m 62 #[.val (.int p0), .val (.int p1), .val (.int p2), .unset, .unset, .unset, .unset] [(.int (65534 : Int32)), (.int (10 : Int32)), (.ref b11), (.ref b11)])) rfl rfl (hb hby at_62)
  have V45 : AI Z h45 b11 .int (16 : Int32) (fun i => if i = ((10 : Int32)).toNatClampNeg then (65534 : Int32) else f56 i) := AI.set V42 W45
  obtain ⟨f62, hf62⟩ : ∃ z, z = (fun i => if i = ((10 : Int32)).toNatClampNeg then (65534 : Int32) else f56 i) := ⟨_, rfl⟩
  rw [← hf62] at V45
  have Z46 : n0 ≤ h45.size := Nat.le_trans Z43 (Keep.of_wr W45).1
  have N45 := Fr.snoc X45 N42 g12
  obtain ⟨cl47, Ar47, S47, M47, I47⟩ := id V45
  have hin47 : ¬ ((11 : Int32) < 0 ∨ cl47.slots.size ≤ ((11 : Int32)).toNatClampNeg) := inb_of S47 ⟨by decide, by decide⟩
  obtain ⟨T48, h48, X48, e48, W48, st48⟩ := stI X45 hx hZ e45 Ar47 (j := (11 : Int32)) hin47 (g := (mkF m 68 #[.val (.int p0), .val (.int p1), .val (.int p2), .unset, .unset, .unset, .unset] [(.int (65536 : Int32)), (.int (11 : Int32)), (.ref b11), (.ref b11)])) rfl rfl (hb hby at_68)
  have V48 : AI Z h48 b11 .int (16 : Int32) (fun i => if i = ((11 : Int32)).toNatClampNeg then (65536 : Int32) else f62 i) := AI.set V45 W48
  obtain ⟨f68, hf68⟩ : ∃ z, z = (fun i => if i = ((11 : Int32)).toNatClampNeg then (65536 : Int32) else f62 i) := ⟨_, rfl⟩
  rw [← hf68] at V48
  have Z49 : n0 ≤ h48.size := Nat.le_trans Z46 (Keep.of_wr W48).1
  have N48 := Fr.snoc X48 N45 g12
  obtain ⟨cl50, Ar50, S50, M50, I50⟩ := id V48
  have hin50 : ¬ ((12 : Int32) < 0 ∨ cl50.slots.size ≤ ((12 : Int32)).toNatClampNeg) := inb_of S50 ⟨by decide, by decide⟩
  obtain ⟨T51, h51, X51, e51, W51, st51⟩ := stI X48 hx hZ e48 Ar50 (j := (12 : Int32)) hin50 (g := (mkF m 74 #[.val (.int p0), .val (.int p1), .val (.int p2), .unset, .unset, .unset, .unset] [(.int (1114111 : Int32)), (.int (12 : Int32)), (.ref b11), (.ref b11)])) rfl rfl (hb hby at_74)
  have V51 : AI Z h51 b11 .int (16 : Int32) (fun i => if i = ((12 : Int32)).toNatClampNeg then (1114111 : Int32) else f68 i) := AI.set V48 W51
  obtain ⟨f74, hf74⟩ : ∃ z, z = (fun i => if i = ((12 : Int32)).toNatClampNeg then (1114111 : Int32) else f68 i) := ⟨_, rfl⟩
  rw [← hf74] at V51
  have Z52 : n0 ≤ h51.size := Nat.le_trans Z49 (Keep.of_wr W51).1
  have N51 := Fr.snoc X51 N48 g12
  obtain ⟨cl53, Ar53, S53, M53, I53⟩ := id V51
  have hin53 : ¬ ((13 : Int32) < 0 ∨ cl53.slots.size ≤ ((13 : Int32)).toNatClampNeg) := inb_of S53 ⟨by decide, by decide⟩
  obtain ⟨T54, h54, X54, e54, W54, st54⟩ := stI X51 hx hZ e51 Ar53 (j := (13 : Int32)) hin53 (g := (mkF m 80 #[.val (.int p0), .val (.int p1), .val (.int p2), .unset, .unset, .unset, .unset] [(.int (1114112 : Int32)), (.int (13 : Int32)), (.ref b11), (.ref b11)])) rfl rfl (hb hby at_80)
  have V54 : AI Z h54 b11 .int (16 : Int32) (fun i => if i = ((13 : Int32)).toNatClampNeg then (1114112 : Int32) else f74 i) := AI.set V51 W54
  obtain ⟨f80, hf80⟩ : ∃ z, z = (fun i => if i = ((13 : Int32)).toNatClampNeg then (1114112 : Int32) else f74 i) := ⟨_, rfl⟩
  rw [← hf80] at V54
  have Z55 : n0 ≤ h54.size := Nat.le_trans Z52 (Keep.of_wr W54).1
  have N54 := Fr.snoc X54 N51 g12
  obtain ⟨cl56, Ar56, S56, M56, I56⟩ := id V54
  have hin56 : ¬ ((14 : Int32) < 0 ∨ cl56.slots.size ≤ ((14 : Int32)).toNatClampNeg) := inb_of S56 ⟨by decide, by decide⟩
  obtain ⟨T57, h57, X57, e57, W57, st57⟩ := stI X54 hx hZ e54 Ar56 (j := (14 : Int32)) hin56 (g := (mkF m 86 #[.val (.int p0), .val (.int p1), .val (.int p2), .unset, .unset, .unset, .unset] [(.int (-2147483648 : Int32)), (.int (14 : Int32)), (.ref b11), (.ref b11)])) rfl rfl (hb hby at_86)
  have V57 : AI Z h57 b11 .int (16 : Int32) (fun i => if i = ((14 : Int32)).toNatClampNeg then (-2147483648 : Int32) else f80 i) := AI.set V54 W57
  obtain ⟨f86, hf86⟩ : ∃ z, z = (fun i => if i = ((14 : Int32)).toNatClampNeg then (-2147483648 : Int32) else f80 i) := ⟨_, rfl⟩
  rw [← hf86] at V57
  have Z58 : n0 ≤ h57.size := Nat.le_trans Z55 (Keep.of_wr W57).1
  have N57 := Fr.snoc X57 N54 g12
  obtain ⟨cl59, Ar59, S59, M59, I59⟩ := id V57
  have hin59 : ¬ ((15 : Int32) < 0 ∨ cl59.slots.size ≤ ((15 : Int32)).toNatClampNeg) := inb_of S59 ⟨by decide, by decide⟩
  obtain ⟨T60, h60, X60, e60, W60, st60⟩ := stI X57 hx hZ e57 Ar59 (j := (15 : Int32)) hin59 (g := (mkF m 92 #[.val (.int p0), .val (.int p1), .val (.int p2), .unset, .unset, .unset, .unset] [(.int (2147483647 : Int32)), (.int (15 : Int32)), (.ref b11), (.ref b11)])) rfl rfl (hb hby at_92)
  have V60 : AI Z h60 b11 .int (16 : Int32) (fun i => if i = ((15 : Int32)).toNatClampNeg then (2147483647 : Int32) else f86 i) := AI.set V57 W60
  obtain ⟨f92, hf92⟩ : ∃ z, z = (fun i => if i = ((15 : Int32)).toNatClampNeg then (2147483647 : Int32) else f86 i) := ⟨_, rfl⟩
  rw [← hf92] at V60
  have Z61 : n0 ≤ h60.size := Nat.le_trans Z58 (Keep.of_wr W60).1
  have N60 := Fr.snoc X60 N57 g12
  have pre62 : ∀ t, Steps p.tables e below (T60.setTop (mkF m 97 #[.val (.int p0), .val (.int p1), .val (.int p2), .val (.ref b11), .unset, .unset, .unset] [(.int (p1 &&& (1 : Int32)))])) t → Steps p.tables e below (s₁.setTop (entryFrame m #[(.int p0), (.int p1), (.int p2)] maxLocals)) t := fun t k => pre0 t (by
    refine XS.bipush X0.here hx rfl (hb hby at_0) ?_
    show Steps p.tables e below (s₁.setTop (mkF m 2 #[.val (.int p0), .val (.int p1), .val (.int p2), .unset, .unset, .unset, .unset] [(.int (16 : Int32))])) _
    refine st11 _ ?_
    show Steps p.tables e below (T11.setTop (mkF m 4 #[.val (.int p0), .val (.int p1), .val (.int p2), .unset, .unset, .unset, .unset] [(.ref b11)])) _
    refine XS.dup X11.here hx rfl (hb hby at_4) rfl rfl ?_
    show Steps p.tables e below (T11.setTop (mkF m 5 #[.val (.int p0), .val (.int p1), .val (.int p2), .unset, .unset, .unset, .unset] [(.ref b11), (.ref b11)])) _
    refine XS.iconst X11.here hx rfl (hb hby at_5) ?_
    show Steps p.tables e below (T11.setTop (mkF m 6 #[.val (.int p0), .val (.int p1), .val (.int p2), .unset, .unset, .unset, .unset] [(.int (0 : Int32)), (.ref b11), (.ref b11)])) _
    refine XS.iconst X11.here hx rfl (hb hby at_6) ?_
    show Steps p.tables e below (T11.setTop (mkF m 7 #[.val (.int p0), .val (.int p1), .val (.int p2), .unset, .unset, .unset, .unset] [(.int (0 : Int32)), (.int (0 : Int32)), (.ref b11), (.ref b11)])) _
    refine st15 _ ?_
    show Steps p.tables e below (T15.setTop (mkF m 8 #[.val (.int p0), .val (.int p1), .val (.int p2), .unset, .unset, .unset, .unset] [(.ref b11)])) _
    refine XS.dup X15.here hx rfl (hb hby at_8) rfl rfl ?_
    show Steps p.tables e below (T15.setTop (mkF m 9 #[.val (.int p0), .val (.int p1), .val (.int p2), .unset, .unset, .unset, .unset] [(.ref b11), (.ref b11)])) _
    refine XS.iconst X15.here hx rfl (hb hby at_9) ?_
    show Steps p.tables e below (T15.setTop (mkF m 10 #[.val (.int p0), .val (.int p1), .val (.int p2), .unset, .unset, .unset, .unset] [(.int (1 : Int32)), (.ref b11), (.ref b11)])) _
    refine XS.bipush X15.here hx rfl (hb hby at_10) ?_
    show Steps p.tables e below (T15.setTop (mkF m 12 #[.val (.int p0), .val (.int p1), .val (.int p2), .unset, .unset, .unset, .unset] [(.int (9 : Int32)), (.int (1 : Int32)), (.ref b11), (.ref b11)])) _
    refine st18 _ ?_
    show Steps p.tables e below (T18.setTop (mkF m 13 #[.val (.int p0), .val (.int p1), .val (.int p2), .unset, .unset, .unset, .unset] [(.ref b11)])) _
    refine XS.dup X18.here hx rfl (hb hby at_13) rfl rfl ?_
    show Steps p.tables e below (T18.setTop (mkF m 14 #[.val (.int p0), .val (.int p1), .val (.int p2), .unset, .unset, .unset, .unset] [(.ref b11), (.ref b11)])) _
    refine XS.iconst X18.here hx rfl (hb hby at_14) ?_
    show Steps p.tables e below (T18.setTop (mkF m 15 #[.val (.int p0), .val (.int p1), .val (.int p2), .unset, .unset, .unset, .unset] [(.int (2 : Int32)), (.ref b11), (.ref b11)])) _
    refine XS.bipush X18.here hx rfl (hb hby at_15) ?_
    show Steps p.tables e below (T18.setTop (mkF m 17 #[.val (.int p0), .val (.int p1), .val (.int p2), .unset, .unset, .unset, .unset] [(.int (10 : Int32)), (.int (2 : Int32)), (.ref b11), (.ref b11)])) _
    refine st21 _ ?_
    show Steps p.tables e below (T21.setTop (mkF m 18 #[.val (.int p0), .val (.int p1), .val (.int p2), .unset, .unset, .unset, .unset] [(.ref b11)])) _
    refine XS.dup X21.here hx rfl (hb hby at_18) rfl rfl ?_
    show Steps p.tables e below (T21.setTop (mkF m 19 #[.val (.int p0), .val (.int p1), .val (.int p2), .unset, .unset, .unset, .unset] [(.ref b11), (.ref b11)])) _
    refine XS.iconst X21.here hx rfl (hb hby at_19) ?_
    show Steps p.tables e below (T21.setTop (mkF m 20 #[.val (.int p0), .val (.int p1), .val (.int p2), .unset, .unset, .unset, .unset] [(.int (3 : Int32)), (.ref b11), (.ref b11)])) _
    refine XS.bipush X21.here hx rfl (hb hby at_20) ?_
    show Steps p.tables e below (T21.setTop (mkF m 22 #[.val (.int p0), .val (.int p1), .val (.int p2), .unset, .unset, .unset, .unset] [(.int (13 : Int32)), (.int (3 : Int32)), (.ref b11), (.ref b11)])) _
    refine st24 _ ?_
    show Steps p.tables e below (T24.setTop (mkF m 23 #[.val (.int p0), .val (.int p1), .val (.int p2), .unset, .unset, .unset, .unset] [(.ref b11)])) _
    refine XS.dup X24.here hx rfl (hb hby at_23) rfl rfl ?_
    show Steps p.tables e below (T24.setTop (mkF m 24 #[.val (.int p0), .val (.int p1), .val (.int p2), .unset, .unset, .unset, .unset] [(.ref b11), (.ref b11)])) _
    refine XS.iconst X24.here hx rfl (hb hby at_24) ?_
    show Steps p.tables e below (T24.setTop (mkF m 25 #[.val (.int p0), .val (.int p1), .val (.int p2), .unset, .unset, .unset, .unset] [(.int (4 : Int32)), (.ref b11), (.ref b11)])) _
    refine XS.bipush X24.here hx rfl (hb hby at_25) ?_
    show Steps p.tables e below (T24.setTop (mkF m 27 #[.val (.int p0), .val (.int p1), .val (.int p2), .unset, .unset, .unset, .unset] [(.int (32 : Int32)), (.int (4 : Int32)), (.ref b11), (.ref b11)])) _
    refine st27 _ ?_
    show Steps p.tables e below (T27.setTop (mkF m 28 #[.val (.int p0), .val (.int p1), .val (.int p2), .unset, .unset, .unset, .unset] [(.ref b11)])) _
    refine XS.dup X27.here hx rfl (hb hby at_28) rfl rfl ?_
    show Steps p.tables e below (T27.setTop (mkF m 29 #[.val (.int p0), .val (.int p1), .val (.int p2), .unset, .unset, .unset, .unset] [(.ref b11), (.ref b11)])) _
    refine XS.iconst X27.here hx rfl (hb hby at_29) ?_
    show Steps p.tables e below (T27.setTop (mkF m 30 #[.val (.int p0), .val (.int p1), .val (.int p2), .unset, .unset, .unset, .unset] [(.int (5 : Int32)), (.ref b11), (.ref b11)])) _
    refine X27.ldcInt hx hown (mvT hZ (hw _ (List.mem_of_getElem? (i := 1) rfl))) (g := (mkF m 30 #[.val (.int p0), .val (.int p1), .val (.int p2), .unset, .unset, .unset, .unset] [(.int (5 : Int32)), (.ref b11), (.ref b11)])) rfl (hb hby at_30) _ ?_
    show Steps p.tables e below (T27.setTop (mkF m 32 #[.val (.int p0), .val (.int p1), .val (.int p2), .unset, .unset, .unset, .unset] [(.int (55295 : Int32)), (.int (5 : Int32)), (.ref b11), (.ref b11)])) _
    refine st30 _ ?_
    show Steps p.tables e below (T30.setTop (mkF m 33 #[.val (.int p0), .val (.int p1), .val (.int p2), .unset, .unset, .unset, .unset] [(.ref b11)])) _
    refine XS.dup X30.here hx rfl (hb hby at_33) rfl rfl ?_
    show Steps p.tables e below (T30.setTop (mkF m 34 #[.val (.int p0), .val (.int p1), .val (.int p2), .unset, .unset, .unset, .unset] [(.ref b11), (.ref b11)])) _
    refine XS.bipush X30.here hx rfl (hb hby at_34) ?_
    show Steps p.tables e below (T30.setTop (mkF m 36 #[.val (.int p0), .val (.int p1), .val (.int p2), .unset, .unset, .unset, .unset] [(.int (6 : Int32)), (.ref b11), (.ref b11)])) _
    refine X30.ldcInt hx hown (mvT hZ (hw _ (List.mem_of_getElem? (i := 2) rfl))) (g := (mkF m 36 #[.val (.int p0), .val (.int p1), .val (.int p2), .unset, .unset, .unset, .unset] [(.int (6 : Int32)), (.ref b11), (.ref b11)])) rfl (hb hby at_36) _ ?_
    show Steps p.tables e below (T30.setTop (mkF m 38 #[.val (.int p0), .val (.int p1), .val (.int p2), .unset, .unset, .unset, .unset] [(.int (55296 : Int32)), (.int (6 : Int32)), (.ref b11), (.ref b11)])) _
    refine st33 _ ?_
    show Steps p.tables e below (T33.setTop (mkF m 39 #[.val (.int p0), .val (.int p1), .val (.int p2), .unset, .unset, .unset, .unset] [(.ref b11)])) _
    refine XS.dup X33.here hx rfl (hb hby at_39) rfl rfl ?_
    show Steps p.tables e below (T33.setTop (mkF m 40 #[.val (.int p0), .val (.int p1), .val (.int p2), .unset, .unset, .unset, .unset] [(.ref b11), (.ref b11)])) _
    refine XS.bipush X33.here hx rfl (hb hby at_40) ?_
    show Steps p.tables e below (T33.setTop (mkF m 42 #[.val (.int p0), .val (.int p1), .val (.int p2), .unset, .unset, .unset, .unset] [(.int (7 : Int32)), (.ref b11), (.ref b11)])) _
    refine X33.ldcInt hx hown (mvT hZ (hw _ (List.mem_of_getElem? (i := 3) rfl))) (g := (mkF m 42 #[.val (.int p0), .val (.int p1), .val (.int p2), .unset, .unset, .unset, .unset] [(.int (7 : Int32)), (.ref b11), (.ref b11)])) rfl (hb hby at_42) _ ?_
    show Steps p.tables e below (T33.setTop (mkF m 44 #[.val (.int p0), .val (.int p1), .val (.int p2), .unset, .unset, .unset, .unset] [(.int (57343 : Int32)), (.int (7 : Int32)), (.ref b11), (.ref b11)])) _
    refine st36 _ ?_
    show Steps p.tables e below (T36.setTop (mkF m 45 #[.val (.int p0), .val (.int p1), .val (.int p2), .unset, .unset, .unset, .unset] [(.ref b11)])) _
    refine XS.dup X36.here hx rfl (hb hby at_45) rfl rfl ?_
    show Steps p.tables e below (T36.setTop (mkF m 46 #[.val (.int p0), .val (.int p1), .val (.int p2), .unset, .unset, .unset, .unset] [(.ref b11), (.ref b11)])) _
    refine XS.bipush X36.here hx rfl (hb hby at_46) ?_
    show Steps p.tables e below (T36.setTop (mkF m 48 #[.val (.int p0), .val (.int p1), .val (.int p2), .unset, .unset, .unset, .unset] [(.int (8 : Int32)), (.ref b11), (.ref b11)])) _
    refine X36.ldcInt hx hown (mvT hZ (hw _ (List.mem_of_getElem? (i := 4) rfl))) (g := (mkF m 48 #[.val (.int p0), .val (.int p1), .val (.int p2), .unset, .unset, .unset, .unset] [(.int (8 : Int32)), (.ref b11), (.ref b11)])) rfl (hb hby at_48) _ ?_
    show Steps p.tables e below (T36.setTop (mkF m 50 #[.val (.int p0), .val (.int p1), .val (.int p2), .unset, .unset, .unset, .unset] [(.int (57344 : Int32)), (.int (8 : Int32)), (.ref b11), (.ref b11)])) _
    refine st39 _ ?_
    show Steps p.tables e below (T39.setTop (mkF m 51 #[.val (.int p0), .val (.int p1), .val (.int p2), .unset, .unset, .unset, .unset] [(.ref b11)])) _
    refine XS.dup X39.here hx rfl (hb hby at_51) rfl rfl ?_
    show Steps p.tables e below (T39.setTop (mkF m 52 #[.val (.int p0), .val (.int p1), .val (.int p2), .unset, .unset, .unset, .unset] [(.ref b11), (.ref b11)])) _
    refine XS.bipush X39.here hx rfl (hb hby at_52) ?_
    show Steps p.tables e below (T39.setTop (mkF m 54 #[.val (.int p0), .val (.int p1), .val (.int p2), .unset, .unset, .unset, .unset] [(.int (9 : Int32)), (.ref b11), (.ref b11)])) _
    refine X39.ldcInt hx hown (mvT hZ (hw _ (List.mem_of_getElem? (i := 5) rfl))) (g := (mkF m 54 #[.val (.int p0), .val (.int p1), .val (.int p2), .unset, .unset, .unset, .unset] [(.int (9 : Int32)), (.ref b11), (.ref b11)])) rfl (hb hby at_54) _ ?_
    show Steps p.tables e below (T39.setTop (mkF m 56 #[.val (.int p0), .val (.int p1), .val (.int p2), .unset, .unset, .unset, .unset] [(.int (65533 : Int32)), (.int (9 : Int32)), (.ref b11), (.ref b11)])) _
    refine st42 _ ?_
    show Steps p.tables e below (T42.setTop (mkF m 57 #[.val (.int p0), .val (.int p1), .val (.int p2), .unset, .unset, .unset, .unset] [(.ref b11)])) _
    refine XS.dup X42.here hx rfl (hb hby at_57) rfl rfl ?_
    show Steps p.tables e below (T42.setTop (mkF m 58 #[.val (.int p0), .val (.int p1), .val (.int p2), .unset, .unset, .unset, .unset] [(.ref b11), (.ref b11)])) _
    refine XS.bipush X42.here hx rfl (hb hby at_58) ?_
    show Steps p.tables e below (T42.setTop (mkF m 60 #[.val (.int p0), .val (.int p1), .val (.int p2), .unset, .unset, .unset, .unset] [(.int (10 : Int32)), (.ref b11), (.ref b11)])) _
    refine X42.ldcInt hx hown (mvT hZ (hw _ (List.mem_of_getElem? (i := 6) rfl))) (g := (mkF m 60 #[.val (.int p0), .val (.int p1), .val (.int p2), .unset, .unset, .unset, .unset] [(.int (10 : Int32)), (.ref b11), (.ref b11)])) rfl (hb hby at_60) _ ?_
    show Steps p.tables e below (T42.setTop (mkF m 62 #[.val (.int p0), .val (.int p1), .val (.int p2), .unset, .unset, .unset, .unset] [(.int (65534 : Int32)), (.int (10 : Int32)), (.ref b11), (.ref b11)])) _
    refine st45 _ ?_
    show Steps p.tables e below (T45.setTop (mkF m 63 #[.val (.int p0), .val (.int p1), .val (.int p2), .unset, .unset, .unset, .unset] [(.ref b11)])) _
    refine XS.dup X45.here hx rfl (hb hby at_63) rfl rfl ?_
    show Steps p.tables e below (T45.setTop (mkF m 64 #[.val (.int p0), .val (.int p1), .val (.int p2), .unset, .unset, .unset, .unset] [(.ref b11), (.ref b11)])) _
    refine XS.bipush X45.here hx rfl (hb hby at_64) ?_
    show Steps p.tables e below (T45.setTop (mkF m 66 #[.val (.int p0), .val (.int p1), .val (.int p2), .unset, .unset, .unset, .unset] [(.int (11 : Int32)), (.ref b11), (.ref b11)])) _
    refine X45.ldcInt hx hown (mvT hZ (hw _ (List.mem_of_getElem? (i := 7) rfl))) (g := (mkF m 66 #[.val (.int p0), .val (.int p1), .val (.int p2), .unset, .unset, .unset, .unset] [(.int (11 : Int32)), (.ref b11), (.ref b11)])) rfl (hb hby at_66) _ ?_
    show Steps p.tables e below (T45.setTop (mkF m 68 #[.val (.int p0), .val (.int p1), .val (.int p2), .unset, .unset, .unset, .unset] [(.int (65536 : Int32)), (.int (11 : Int32)), (.ref b11), (.ref b11)])) _
    refine st48 _ ?_
    show Steps p.tables e below (T48.setTop (mkF m 69 #[.val (.int p0), .val (.int p1), .val (.int p2), .unset, .unset, .unset, .unset] [(.ref b11)])) _
    refine XS.dup X48.here hx rfl (hb hby at_69) rfl rfl ?_
    show Steps p.tables e below (T48.setTop (mkF m 70 #[.val (.int p0), .val (.int p1), .val (.int p2), .unset, .unset, .unset, .unset] [(.ref b11), (.ref b11)])) _
    refine XS.bipush X48.here hx rfl (hb hby at_70) ?_
    show Steps p.tables e below (T48.setTop (mkF m 72 #[.val (.int p0), .val (.int p1), .val (.int p2), .unset, .unset, .unset, .unset] [(.int (12 : Int32)), (.ref b11), (.ref b11)])) _
    refine X48.ldcInt hx hown (mvT hZ (hw _ (List.mem_of_getElem? (i := 8) rfl))) (g := (mkF m 72 #[.val (.int p0), .val (.int p1), .val (.int p2), .unset, .unset, .unset, .unset] [(.int (12 : Int32)), (.ref b11), (.ref b11)])) rfl (hb hby at_72) _ ?_
    show Steps p.tables e below (T48.setTop (mkF m 74 #[.val (.int p0), .val (.int p1), .val (.int p2), .unset, .unset, .unset, .unset] [(.int (1114111 : Int32)), (.int (12 : Int32)), (.ref b11), (.ref b11)])) _
    refine st51 _ ?_
    show Steps p.tables e below (T51.setTop (mkF m 75 #[.val (.int p0), .val (.int p1), .val (.int p2), .unset, .unset, .unset, .unset] [(.ref b11)])) _
    refine XS.dup X51.here hx rfl (hb hby at_75) rfl rfl ?_
    show Steps p.tables e below (T51.setTop (mkF m 76 #[.val (.int p0), .val (.int p1), .val (.int p2), .unset, .unset, .unset, .unset] [(.ref b11), (.ref b11)])) _
    refine XS.bipush X51.here hx rfl (hb hby at_76) ?_
    show Steps p.tables e below (T51.setTop (mkF m 78 #[.val (.int p0), .val (.int p1), .val (.int p2), .unset, .unset, .unset, .unset] [(.int (13 : Int32)), (.ref b11), (.ref b11)])) _
    refine X51.ldcInt hx hown (mvT hZ (hw _ (List.mem_of_getElem? (i := 9) rfl))) (g := (mkF m 78 #[.val (.int p0), .val (.int p1), .val (.int p2), .unset, .unset, .unset, .unset] [(.int (13 : Int32)), (.ref b11), (.ref b11)])) rfl (hb hby at_78) _ ?_
    show Steps p.tables e below (T51.setTop (mkF m 80 #[.val (.int p0), .val (.int p1), .val (.int p2), .unset, .unset, .unset, .unset] [(.int (1114112 : Int32)), (.int (13 : Int32)), (.ref b11), (.ref b11)])) _
    refine st54 _ ?_
    show Steps p.tables e below (T54.setTop (mkF m 81 #[.val (.int p0), .val (.int p1), .val (.int p2), .unset, .unset, .unset, .unset] [(.ref b11)])) _
    refine XS.dup X54.here hx rfl (hb hby at_81) rfl rfl ?_
    show Steps p.tables e below (T54.setTop (mkF m 82 #[.val (.int p0), .val (.int p1), .val (.int p2), .unset, .unset, .unset, .unset] [(.ref b11), (.ref b11)])) _
    refine XS.bipush X54.here hx rfl (hb hby at_82) ?_
    show Steps p.tables e below (T54.setTop (mkF m 84 #[.val (.int p0), .val (.int p1), .val (.int p2), .unset, .unset, .unset, .unset] [(.int (14 : Int32)), (.ref b11), (.ref b11)])) _
    refine X54.ldcInt hx hown (mvT hZ (hw _ (List.mem_of_getElem? (i := 10) rfl))) (g := (mkF m 84 #[.val (.int p0), .val (.int p1), .val (.int p2), .unset, .unset, .unset, .unset] [(.int (14 : Int32)), (.ref b11), (.ref b11)])) rfl (hb hby at_84) _ ?_
    show Steps p.tables e below (T54.setTop (mkF m 86 #[.val (.int p0), .val (.int p1), .val (.int p2), .unset, .unset, .unset, .unset] [(.int (-2147483648 : Int32)), (.int (14 : Int32)), (.ref b11), (.ref b11)])) _
    refine st57 _ ?_
    show Steps p.tables e below (T57.setTop (mkF m 87 #[.val (.int p0), .val (.int p1), .val (.int p2), .unset, .unset, .unset, .unset] [(.ref b11)])) _
    refine XS.dup X57.here hx rfl (hb hby at_87) rfl rfl ?_
    show Steps p.tables e below (T57.setTop (mkF m 88 #[.val (.int p0), .val (.int p1), .val (.int p2), .unset, .unset, .unset, .unset] [(.ref b11), (.ref b11)])) _
    refine XS.bipush X57.here hx rfl (hb hby at_88) ?_
    show Steps p.tables e below (T57.setTop (mkF m 90 #[.val (.int p0), .val (.int p1), .val (.int p2), .unset, .unset, .unset, .unset] [(.int (15 : Int32)), (.ref b11), (.ref b11)])) _
    refine X57.ldcInt hx hown (mvT hZ (hw _ (List.mem_of_getElem? (i := 11) rfl))) (g := (mkF m 90 #[.val (.int p0), .val (.int p1), .val (.int p2), .unset, .unset, .unset, .unset] [(.int (15 : Int32)), (.ref b11), (.ref b11)])) rfl (hb hby at_90) _ ?_
    show Steps p.tables e below (T57.setTop (mkF m 92 #[.val (.int p0), .val (.int p1), .val (.int p2), .unset, .unset, .unset, .unset] [(.int (2147483647 : Int32)), (.int (15 : Int32)), (.ref b11), (.ref b11)])) _
    refine st60 _ ?_
    show Steps p.tables e below (T60.setTop (mkF m 93 #[.val (.int p0), .val (.int p1), .val (.int p2), .unset, .unset, .unset, .unset] [(.ref b11)])) _
    refine XS.astoreN X60.here hx rfl (hb hby at_93) rfl rfl (l' := #[.val (.int p0), .val (.int p1), .val (.int p2), .val (.ref b11), .unset, .unset, .unset]) rfl ?_
    show Steps p.tables e below (T60.setTop (mkF m 94 #[.val (.int p0), .val (.int p1), .val (.int p2), .val (.ref b11), .unset, .unset, .unset] [])) _
    refine XS.iloadN X60.here hx rfl (hb hby at_94) rfl ?_
    show Steps p.tables e below (T60.setTop (mkF m 95 #[.val (.int p0), .val (.int p1), .val (.int p2), .val (.ref b11), .unset, .unset, .unset] [(.int p1)])) _
    refine XS.iconst X60.here hx rfl (hb hby at_95) ?_
    show Steps p.tables e below (T60.setTop (mkF m 96 #[.val (.int p0), .val (.int p1), .val (.int p2), .val (.ref b11), .unset, .unset, .unset] [(.int (1 : Int32)), (.int p1)])) _
    refine XS.iand X60.here hx rfl (hb hby at_96) rfl ?_
    exact k)
  by_cases hc63 : (p1 &&& (1 : Int32)) = (0 : Int32)
  · obtain ⟨cl64, Ar64, S64, M64, I64⟩ := id V60
    have hin64 : ¬ ((((p1.toUInt32 >>> ((1 : Int32) &&& 31).toUInt32).toInt32) % (16 : Int32)) < 0 ∨ cl64.slots.size ≤ ((((p1.toUInt32 >>> ((1 : Int32) &&& 31).toUInt32).toInt32) % (16 : Int32))).toNatClampNeg) := inb_of S64 (own_idx _)
    have hat64 : cl64.slots[((((p1.toUInt32 >>> ((1 : Int32) &&& 31).toUInt32).toInt32) % (16 : Int32))).toNatClampNeg]? = some (.int (f92 ((((p1.toUInt32 >>> ((1 : Int32) &&& 31).toUInt32).toInt32) % (16 : Int32))).toNatClampNeg)) := I64 _ (Nat.lt_of_not_le fun y => hin64 (Or.inr y))
    have pre65 : ∀ t, Steps p.tables e below (T60.setTop (mkF m 133 #[.val (.int p0), .val (.int p1), .val (.int p2), .val (.ref b11), .val (.int ((f92 ((((p1.toUInt32 >>> ((1 : Int32) &&& 31).toUInt32).toInt32) % (16 : Int32))).toNatClampNeg) + (((p2 &&& (7 : Int32)) % (5 : Int32)) - (2 : Int32)))), .val (.int (((p1.toUInt32 >>> ((1 : Int32) &&& 31).toUInt32).toInt32) % (16 : Int32))), .val (.int (((p2 &&& (7 : Int32)) % (5 : Int32)) - (2 : Int32)))] [])) t → Steps p.tables e below (s₁.setTop (entryFrame m #[(.int p0), (.int p1), (.int p2)] maxLocals)) t := fun t k => pre62 t (by
      refine XS.ifYes X60.here hx rfl (pc0 := 97) (pc' := 106) rfl (hb hby at_97) rfl ((if0 _ _).trans (teq hc63).1) (by decide) (by decide) ?_
      show Steps p.tables e below (T60.setTop (mkF m 106 #[.val (.int p0), .val (.int p1), .val (.int p2), .val (.ref b11), .unset, .unset, .unset] [])) _
      refine XS.iloadN X60.here hx rfl (hb hby at_106) rfl ?_
      show Steps p.tables e below (T60.setTop (mkF m 107 #[.val (.int p0), .val (.int p1), .val (.int p2), .val (.ref b11), .unset, .unset, .unset] [(.int p1)])) _
      refine XS.iconst X60.here hx rfl (hb hby at_107) ?_
      show Steps p.tables e below (T60.setTop (mkF m 108 #[.val (.int p0), .val (.int p1), .val (.int p2), .val (.ref b11), .unset, .unset, .unset] [(.int (1 : Int32)), (.int p1)])) _
      refine XS.iushr X60.here hx rfl (hb hby at_108) rfl ?_
      show Steps p.tables e below (T60.setTop (mkF m 109 #[.val (.int p0), .val (.int p1), .val (.int p2), .val (.ref b11), .unset, .unset, .unset] [(.int ((p1.toUInt32 >>> ((1 : Int32) &&& 31).toUInt32).toInt32))])) _
      refine XS.bipush X60.here hx rfl (hb hby at_109) ?_
      show Steps p.tables e below (T60.setTop (mkF m 111 #[.val (.int p0), .val (.int p1), .val (.int p2), .val (.ref b11), .unset, .unset, .unset] [(.int (16 : Int32)), (.int ((p1.toUInt32 >>> ((1 : Int32) &&& 31).toUInt32).toInt32))])) _
      refine Jvm.RoadKit.iremM X60 hx rfl (hb hby at_111) rfl (by decide) ?_
      show Steps p.tables e below (T60.setTop (mkF m 112 #[.val (.int p0), .val (.int p1), .val (.int p2), .val (.ref b11), .unset, .unset, .unset] [(.int (((p1.toUInt32 >>> ((1 : Int32) &&& 31).toUInt32).toInt32) % (16 : Int32)))])) _
      refine XS.istore X60.here hx rfl (hb hby at_112) rfl (l' := #[.val (.int p0), .val (.int p1), .val (.int p2), .val (.ref b11), .unset, .val (.int (((p1.toUInt32 >>> ((1 : Int32) &&& 31).toUInt32).toInt32) % (16 : Int32))), .unset]) rfl ?_
      show Steps p.tables e below (T60.setTop (mkF m 114 #[.val (.int p0), .val (.int p1), .val (.int p2), .val (.ref b11), .unset, .val (.int (((p1.toUInt32 >>> ((1 : Int32) &&& 31).toUInt32).toInt32) % (16 : Int32))), .unset] [])) _
      refine XS.iloadN X60.here hx rfl (hb hby at_114) rfl ?_
      show Steps p.tables e below (T60.setTop (mkF m 115 #[.val (.int p0), .val (.int p1), .val (.int p2), .val (.ref b11), .unset, .val (.int (((p1.toUInt32 >>> ((1 : Int32) &&& 31).toUInt32).toInt32) % (16 : Int32))), .unset] [(.int p2)])) _
      refine XS.bipush X60.here hx rfl (hb hby at_115) ?_
      show Steps p.tables e below (T60.setTop (mkF m 117 #[.val (.int p0), .val (.int p1), .val (.int p2), .val (.ref b11), .unset, .val (.int (((p1.toUInt32 >>> ((1 : Int32) &&& 31).toUInt32).toInt32) % (16 : Int32))), .unset] [(.int (7 : Int32)), (.int p2)])) _
      refine XS.iand X60.here hx rfl (hb hby at_117) rfl ?_
      show Steps p.tables e below (T60.setTop (mkF m 118 #[.val (.int p0), .val (.int p1), .val (.int p2), .val (.ref b11), .unset, .val (.int (((p1.toUInt32 >>> ((1 : Int32) &&& 31).toUInt32).toInt32) % (16 : Int32))), .unset] [(.int (p2 &&& (7 : Int32)))])) _
      refine XS.iconst X60.here hx rfl (hb hby at_118) ?_
      show Steps p.tables e below (T60.setTop (mkF m 119 #[.val (.int p0), .val (.int p1), .val (.int p2), .val (.ref b11), .unset, .val (.int (((p1.toUInt32 >>> ((1 : Int32) &&& 31).toUInt32).toInt32) % (16 : Int32))), .unset] [(.int (5 : Int32)), (.int (p2 &&& (7 : Int32)))])) _
      refine Jvm.RoadKit.iremM X60 hx rfl (hb hby at_119) rfl (by decide) ?_
      show Steps p.tables e below (T60.setTop (mkF m 120 #[.val (.int p0), .val (.int p1), .val (.int p2), .val (.ref b11), .unset, .val (.int (((p1.toUInt32 >>> ((1 : Int32) &&& 31).toUInt32).toInt32) % (16 : Int32))), .unset] [(.int ((p2 &&& (7 : Int32)) % (5 : Int32)))])) _
      refine XS.iconst X60.here hx rfl (hb hby at_120) ?_
      show Steps p.tables e below (T60.setTop (mkF m 121 #[.val (.int p0), .val (.int p1), .val (.int p2), .val (.ref b11), .unset, .val (.int (((p1.toUInt32 >>> ((1 : Int32) &&& 31).toUInt32).toInt32) % (16 : Int32))), .unset] [(.int (2 : Int32)), (.int ((p2 &&& (7 : Int32)) % (5 : Int32)))])) _
      refine XS.isub X60.here hx rfl (hb hby at_121) rfl ?_
      show Steps p.tables e below (T60.setTop (mkF m 122 #[.val (.int p0), .val (.int p1), .val (.int p2), .val (.ref b11), .unset, .val (.int (((p1.toUInt32 >>> ((1 : Int32) &&& 31).toUInt32).toInt32) % (16 : Int32))), .unset] [(.int (((p2 &&& (7 : Int32)) % (5 : Int32)) - (2 : Int32)))])) _
      refine XS.istore X60.here hx rfl (hb hby at_122) rfl (l' := #[.val (.int p0), .val (.int p1), .val (.int p2), .val (.ref b11), .unset, .val (.int (((p1.toUInt32 >>> ((1 : Int32) &&& 31).toUInt32).toInt32) % (16 : Int32))), .val (.int (((p2 &&& (7 : Int32)) % (5 : Int32)) - (2 : Int32)))]) rfl ?_
      show Steps p.tables e below (T60.setTop (mkF m 124 #[.val (.int p0), .val (.int p1), .val (.int p2), .val (.ref b11), .unset, .val (.int (((p1.toUInt32 >>> ((1 : Int32) &&& 31).toUInt32).toInt32) % (16 : Int32))), .val (.int (((p2 &&& (7 : Int32)) % (5 : Int32)) - (2 : Int32)))] [])) _
      refine XS.aloadN X60.here hx rfl (hb hby at_124) rfl rfl ?_
      show Steps p.tables e below (T60.setTop (mkF m 125 #[.val (.int p0), .val (.int p1), .val (.int p2), .val (.ref b11), .unset, .val (.int (((p1.toUInt32 >>> ((1 : Int32) &&& 31).toUInt32).toInt32) % (16 : Int32))), .val (.int (((p2 &&& (7 : Int32)) % (5 : Int32)) - (2 : Int32)))] [(.ref b11)])) _
      refine XS.iload X60.here hx rfl (hb hby at_125) rfl ?_
      show Steps p.tables e below (T60.setTop (mkF m 127 #[.val (.int p0), .val (.int p1), .val (.int p2), .val (.ref b11), .unset, .val (.int (((p1.toUInt32 >>> ((1 : Int32) &&& 31).toUInt32).toInt32) % (16 : Int32))), .val (.int (((p2 &&& (7 : Int32)) % (5 : Int32)) - (2 : Int32)))] [(.int (((p1.toUInt32 >>> ((1 : Int32) &&& 31).toUInt32).toInt32) % (16 : Int32))), (.ref b11)])) _
      refine X60.iaload hx (j := (((p1.toUInt32 >>> ((1 : Int32) &&& 31).toUInt32).toInt32) % (16 : Int32))) (v := (.int (f92 ((((p1.toUInt32 >>> ((1 : Int32) &&& 31).toUInt32).toInt32) % (16 : Int32))).toNatClampNeg))) (by rw [e60]; exact Ar64.1) (State.isArrayOf_alike hZ.alike Ar64.2.1) Ar64.2.2 hin64 hat64 (g := (mkF m 127 #[.val (.int p0), .val (.int p1), .val (.int p2), .val (.ref b11), .unset, .val (.int (((p1.toUInt32 >>> ((1 : Int32) &&& 31).toUInt32).toInt32) % (16 : Int32))), .val (.int (((p2 &&& (7 : Int32)) % (5 : Int32)) - (2 : Int32)))] [(.int (((p1.toUInt32 >>> ((1 : Int32) &&& 31).toUInt32).toInt32) % (16 : Int32))), (.ref b11)])) rfl rfl (hb hby at_127) _ ?_
      show Steps p.tables e below (T60.setTop (mkF m 128 #[.val (.int p0), .val (.int p1), .val (.int p2), .val (.ref b11), .unset, .val (.int (((p1.toUInt32 >>> ((1 : Int32) &&& 31).toUInt32).toInt32) % (16 : Int32))), .val (.int (((p2 &&& (7 : Int32)) % (5 : Int32)) - (2 : Int32)))] [(.int (f92 ((((p1.toUInt32 >>> ((1 : Int32) &&& 31).toUInt32).toInt32) % (16 : Int32))).toNatClampNeg))])) _
      refine XS.iload X60.here hx rfl (hb hby at_128) rfl ?_
      show Steps p.tables e below (T60.setTop (mkF m 130 #[.val (.int p0), .val (.int p1), .val (.int p2), .val (.ref b11), .unset, .val (.int (((p1.toUInt32 >>> ((1 : Int32) &&& 31).toUInt32).toInt32) % (16 : Int32))), .val (.int (((p2 &&& (7 : Int32)) % (5 : Int32)) - (2 : Int32)))] [(.int (((p2 &&& (7 : Int32)) % (5 : Int32)) - (2 : Int32))), (.int (f92 ((((p1.toUInt32 >>> ((1 : Int32) &&& 31).toUInt32).toInt32) % (16 : Int32))).toNatClampNeg))])) _
      refine XS.iadd X60.here hx rfl (hb hby at_130) rfl ?_
      show Steps p.tables e below (T60.setTop (mkF m 131 #[.val (.int p0), .val (.int p1), .val (.int p2), .val (.ref b11), .unset, .val (.int (((p1.toUInt32 >>> ((1 : Int32) &&& 31).toUInt32).toInt32) % (16 : Int32))), .val (.int (((p2 &&& (7 : Int32)) % (5 : Int32)) - (2 : Int32)))] [(.int ((f92 ((((p1.toUInt32 >>> ((1 : Int32) &&& 31).toUInt32).toInt32) % (16 : Int32))).toNatClampNeg) + (((p2 &&& (7 : Int32)) % (5 : Int32)) - (2 : Int32))))])) _
      refine XS.istore X60.here hx rfl (hb hby at_131) rfl (l' := #[.val (.int p0), .val (.int p1), .val (.int p2), .val (.ref b11), .val (.int ((f92 ((((p1.toUInt32 >>> ((1 : Int32) &&& 31).toUInt32).toInt32) % (16 : Int32))).toNatClampNeg) + (((p2 &&& (7 : Int32)) % (5 : Int32)) - (2 : Int32)))), .val (.int (((p1.toUInt32 >>> ((1 : Int32) &&& 31).toUInt32).toInt32) % (16 : Int32))), .val (.int (((p2 &&& (7 : Int32)) % (5 : Int32)) - (2 : Int32)))]) rfl ?_
      exact k)
    obtain ⟨cc, hcc⟩ : ∃ z, z = ((f92 ((((p1.toUInt32 >>> ((1 : Int32) &&& 31).toUInt32).toInt32) % (16 : Int32))).toNatClampNeg) + (((p2 &&& (7 : Int32)) % (5 : Int32)) - (2 : Int32))) := ⟨_, rfl⟩
    rw [← hcc] at pre65
    obtain ⟨_, _, ⟨T66, L66, k66, n66⟩, -, X66, ⟨Lc66, hQ66, l66, y66, z66⟩, st66⟩ := Jvm.LawKit.callS X60 hx (y := (⟨"com/example/nodetest/nodetest/xdm/LexicalIsXmlCharPinLaw", "excluded", "(I)Z"⟩ : MethodName)) hown (mvT hZ (hw _ (List.mem_of_getElem? (i := 12) rfl))) (mvT hZ (hw _ (List.mem_of_getElem? (i := 13) rfl))) (mvT hZ (hw _ (List.mem_of_getElem? (i := 14) rfl))) (mvT hZ (hw _ (List.mem_of_getElem? (i := 15) rfl))) (by decide) (backOf (W := 0) (rm1 l Z a0 hw [] cc h60 n0 Z61) hZ (hw _ (List.mem_of_getElem? (i := 15) rfl)) (hw _ (List.mem_of_getElem? (i := 14) rfl)) (by decide) (by decide)) (g := (mkF m 135 #[.val (.int p0), .val (.int p1), .val (.int p2), .val (.ref b11), .val (.int cc), .val (.int (((p1.toUInt32 >>> ((1 : Int32) &&& 31).toUInt32).toInt32) % (16 : Int32))), .val (.int (((p2 &&& (7 : Int32)) % (5 : Int32)) - (2 : Int32)))] [(.int cc)])) rfl (by rw [hml]; rfl) (argsL := [(.int cc)]) (rest := []) (lenOf pd_0 rfl) rfl (by show 2 * 0 + _ ≤ _; exact Nat.le_of_eq rfl) (hb hby at_135) (fun _ _ => ⟨rfl, e60, (by decide : 1 + 0 ≤ _), (by decide : 16 + 0 ≤ _)⟩)
    dsimp only [Pt.U, Pt.locs, Pt.cells, Pt.slots] at X66 l66 y66 z66 st66 hQ66
    subst l66 y66 z66
    obtain ⟨rfl, Nq66, eh66⟩ := hQ66
    have N66 := Fr.app N60 Nq66
    have pre67 : ∀ t, Steps p.tables e below (T66.setTop (mkF m 138 #[.val (.int p0), .val (.int p1), .val (.int p2), .val (.ref b11), .val (.int cc), .val (.int (((p1.toUInt32 >>> ((1 : Int32) &&& 31).toUInt32).toInt32) % (16 : Int32))), .val (.int (((p2 &&& (7 : Int32)) % (5 : Int32)) - (2 : Int32)))] [(.int (b1_0 cc))])) t → Steps p.tables e below (s₁.setTop (entryFrame m #[(.int p0), (.int p1), (.int p2)] maxLocals)) t := fun t k => pre65 t (by
      refine XS.iload X60.here hx rfl (hb hby at_133) rfl ?_
      show Steps p.tables e below (T60.setTop (mkF m 135 #[.val (.int p0), .val (.int p1), .val (.int p2), .val (.ref b11), .val (.int cc), .val (.int (((p1.toUInt32 >>> ((1 : Int32) &&& 31).toUInt32).toInt32) % (16 : Int32))), .val (.int (((p2 &&& (7 : Int32)) % (5 : Int32)) - (2 : Int32)))] [(.int cc)])) _
      refine st66 _ ?_
      exact k)
    by_cases hc68 : (b1_0 cc) = (0 : Int32)
    · obtain ⟨_, _, ⟨T69, L69, k69, n69⟩, -, X69, ⟨Lc69, hQ69, l69, y69, z69⟩, st69⟩ := Jvm.LawKit.callS X66 hx (y := (⟨"com/example/nodetest/nodetest/xdm/Lexical", "isXmlChar", "(I)Z"⟩ : MethodName)) hown (mvT hZ (hw _ (List.mem_of_getElem? (i := 16) rfl))) (mvT hZ (hw _ (List.mem_of_getElem? (i := 17) rfl))) (mvT hZ (hw _ (List.mem_of_getElem? (i := 18) rfl))) (mvT hZ (hw _ (List.mem_of_getElem? (i := 19) rfl))) (by decide) (backOf (W := 0) (rm2 l Z a0 hw [] cc h60 n0 Z61) hZ (hw _ (List.mem_of_getElem? (i := 19) rfl)) (hw _ (List.mem_of_getElem? (i := 18) rfl)) (by decide) (by decide)) (g := (mkF m 150 #[.val (.int p0), .val (.int p1), .val (.int p2), .val (.ref b11), .val (.int cc), .val (.int (1 : Int32)), .val (.int (((p2 &&& (7 : Int32)) % (5 : Int32)) - (2 : Int32)))] [(.int cc)])) rfl (by rw [hml]; rfl) (argsL := [(.int cc)]) (rest := []) (lenOf pd_0 rfl) rfl (by show 2 * 0 + _ ≤ _; exact Nat.le_of_eq rfl) (hb hby at_150) (fun _ _ => ⟨rfl, eh66, (by decide : 1 + 0 ≤ _), (by decide : 16 + 0 ≤ _)⟩)
      dsimp only [Pt.U, Pt.locs, Pt.cells, Pt.slots] at X69 l69 y69 z69 st69 hQ69
      subst l69 y69 z69
      obtain ⟨rfl, Nq69, eh69⟩ := hQ69
      have N69 := Fr.app N66 Nq69
      obtain ⟨fs, hr, hrun, hended, hW, hsame⟩ := X69.leave (v := some (.int (1 : Int32))) (fun h => by rw [Bd.returns] at h; cases h)
      refine ⟨_, _, pre67 _ ?_, hrun, hended, _, _, rfl, ?_, ⟨_, rfl⟩, hW, hsame.mono (by decide) (by decide)⟩
      · refine XS.ifNo X66.here hx rfl (hb hby at_138) rfl ((if0 _ _).trans (teq hc68).2) ?_
        show Steps p.tables e below (T66.setTop (mkF m 141 #[.val (.int p0), .val (.int p1), .val (.int p2), .val (.ref b11), .val (.int cc), .val (.int (((p1.toUInt32 >>> ((1 : Int32) &&& 31).toUInt32).toInt32) % (16 : Int32))), .val (.int (((p2 &&& (7 : Int32)) % (5 : Int32)) - (2 : Int32)))] [])) _
        refine XS.iconst X66.here hx rfl (hb hby at_141) ?_
        show Steps p.tables e below (T66.setTop (mkF m 142 #[.val (.int p0), .val (.int p1), .val (.int p2), .val (.ref b11), .val (.int cc), .val (.int (((p1.toUInt32 >>> ((1 : Int32) &&& 31).toUInt32).toInt32) % (16 : Int32))), .val (.int (((p2 &&& (7 : Int32)) % (5 : Int32)) - (2 : Int32)))] [(.int (1 : Int32))])) _
        refine XS.goto X66.here hx rfl (pc0 := 142) (pc' := 146) rfl (hb hby at_142) (by decide) (by decide) ?_
        show Steps p.tables e below (T66.setTop (mkF m 146 #[.val (.int p0), .val (.int p1), .val (.int p2), .val (.ref b11), .val (.int cc), .val (.int (((p1.toUInt32 >>> ((1 : Int32) &&& 31).toUInt32).toInt32) % (16 : Int32))), .val (.int (((p2 &&& (7 : Int32)) % (5 : Int32)) - (2 : Int32)))] [(.int (1 : Int32))])) _
        refine XS.istore X66.here hx rfl (hb hby at_146) rfl (l' := #[.val (.int p0), .val (.int p1), .val (.int p2), .val (.ref b11), .val (.int cc), .val (.int (1 : Int32)), .val (.int (((p2 &&& (7 : Int32)) % (5 : Int32)) - (2 : Int32)))]) rfl ?_
        show Steps p.tables e below (T66.setTop (mkF m 148 #[.val (.int p0), .val (.int p1), .val (.int p2), .val (.ref b11), .val (.int cc), .val (.int (1 : Int32)), .val (.int (((p2 &&& (7 : Int32)) % (5 : Int32)) - (2 : Int32)))] [])) _
        refine XS.iload X66.here hx rfl (hb hby at_148) rfl ?_
        show Steps p.tables e below (T66.setTop (mkF m 150 #[.val (.int p0), .val (.int p1), .val (.int p2), .val (.ref b11), .val (.int cc), .val (.int (1 : Int32)), .val (.int (((p2 &&& (7 : Int32)) % (5 : Int32)) - (2 : Int32)))] [(.int cc)])) _
        refine st69 _ ?_
        show Steps p.tables e below (T69.setTop (mkF m 153 #[.val (.int p0), .val (.int p1), .val (.int p2), .val (.ref b11), .val (.int cc), .val (.int (1 : Int32)), .val (.int (((p2 &&& (7 : Int32)) % (5 : Int32)) - (2 : Int32)))] [(.int (b2_0 cc))])) _
        refine XS.iload X69.here hx rfl (hb hby at_153) rfl ?_
        show Steps p.tables e below (T69.setTop (mkF m 155 #[.val (.int p0), .val (.int p1), .val (.int p2), .val (.ref b11), .val (.int cc), .val (.int (1 : Int32)), .val (.int (((p2 &&& (7 : Int32)) % (5 : Int32)) - (2 : Int32)))] [(.int (1 : Int32)), (.int (b2_0 cc))])) _
        refine XS.icmpNo X69.here hx rfl (hb hby at_155) rfl (teq (own_a1 _ hc68)).2 ?_
        show Steps p.tables e below (T69.setTop (mkF m 158 #[.val (.int p0), .val (.int p1), .val (.int p2), .val (.ref b11), .val (.int cc), .val (.int (1 : Int32)), .val (.int (((p2 &&& (7 : Int32)) % (5 : Int32)) - (2 : Int32)))] [])) _
        refine XS.iconst X69.here hx rfl (hb hby at_158) ?_
        show Steps p.tables e below (T69.setTop (mkF m 159 #[.val (.int p0), .val (.int p1), .val (.int p2), .val (.ref b11), .val (.int cc), .val (.int (1 : Int32)), .val (.int (((p2 &&& (7 : Int32)) % (5 : Int32)) - (2 : Int32)))] [(.int (1 : Int32))])) _
        refine XS.goto X69.here hx rfl (pc0 := 159) (pc' := 163) rfl (hb hby at_159) (by decide) (by decide) ?_
        show Steps p.tables e below (T69.setTop (mkF m 163 #[.val (.int p0), .val (.int p1), .val (.int p2), .val (.ref b11), .val (.int cc), .val (.int (1 : Int32)), .val (.int (((p2 &&& (7 : Int32)) % (5 : Int32)) - (2 : Int32)))] [(.int (1 : Int32))])) _
        exact retN X69 hx (t := .boolean) Bd.returns (by simp) (hb hby at_163) hr
      · show Q0 Z p0 p1 p2 h0 n0 _ T69.heap _
        rw [eh69]
        exact ⟨rfl, N69⟩
    · obtain ⟨_, _, ⟨T70, L70, k70, n70⟩, -, X70, ⟨Lc70, hQ70, l70, y70, z70⟩, st70⟩ := Jvm.LawKit.callS X66 hx (y := (⟨"com/example/nodetest/nodetest/xdm/Lexical", "isXmlChar", "(I)Z"⟩ : MethodName)) hown (mvT hZ (hw _ (List.mem_of_getElem? (i := 16) rfl))) (mvT hZ (hw _ (List.mem_of_getElem? (i := 17) rfl))) (mvT hZ (hw _ (List.mem_of_getElem? (i := 18) rfl))) (mvT hZ (hw _ (List.mem_of_getElem? (i := 19) rfl))) (by decide) (backOf (W := 0) (rm2 l Z a0 hw [] cc h60 n0 Z61) hZ (hw _ (List.mem_of_getElem? (i := 19) rfl)) (hw _ (List.mem_of_getElem? (i := 18) rfl)) (by decide) (by decide)) (g := (mkF m 150 #[.val (.int p0), .val (.int p1), .val (.int p2), .val (.ref b11), .val (.int cc), .val (.int (0 : Int32)), .val (.int (((p2 &&& (7 : Int32)) % (5 : Int32)) - (2 : Int32)))] [(.int cc)])) rfl (by rw [hml]; rfl) (argsL := [(.int cc)]) (rest := []) (lenOf pd_0 rfl) rfl (by show 2 * 0 + _ ≤ _; exact Nat.le_of_eq rfl) (hb hby at_150) (fun _ _ => ⟨rfl, eh66, (by decide : 1 + 0 ≤ _), (by decide : 16 + 0 ≤ _)⟩)
      dsimp only [Pt.U, Pt.locs, Pt.cells, Pt.slots] at X70 l70 y70 z70 st70 hQ70
      subst l70 y70 z70
      obtain ⟨rfl, Nq70, eh70⟩ := hQ70
      have N70 := Fr.app N66 Nq70
      obtain ⟨fs, hr, hrun, hended, hW, hsame⟩ := X70.leave (v := some (.int (1 : Int32))) (fun h => by rw [Bd.returns] at h; cases h)
      refine ⟨_, _, pre67 _ ?_, hrun, hended, _, _, rfl, ?_, ⟨_, rfl⟩, hW, hsame.mono (by decide) (by decide)⟩
      · refine XS.ifYes X66.here hx rfl (pc0 := 138) (pc' := 145) rfl (hb hby at_138) rfl ((if0 _ _).trans (feq hc68).2) (by decide) (by decide) ?_
        show Steps p.tables e below (T66.setTop (mkF m 145 #[.val (.int p0), .val (.int p1), .val (.int p2), .val (.ref b11), .val (.int cc), .val (.int (((p1.toUInt32 >>> ((1 : Int32) &&& 31).toUInt32).toInt32) % (16 : Int32))), .val (.int (((p2 &&& (7 : Int32)) % (5 : Int32)) - (2 : Int32)))] [])) _
        refine XS.iconst X66.here hx rfl (hb hby at_145) ?_
        show Steps p.tables e below (T66.setTop (mkF m 146 #[.val (.int p0), .val (.int p1), .val (.int p2), .val (.ref b11), .val (.int cc), .val (.int (((p1.toUInt32 >>> ((1 : Int32) &&& 31).toUInt32).toInt32) % (16 : Int32))), .val (.int (((p2 &&& (7 : Int32)) % (5 : Int32)) - (2 : Int32)))] [(.int (0 : Int32))])) _
        refine XS.istore X66.here hx rfl (hb hby at_146) rfl (l' := #[.val (.int p0), .val (.int p1), .val (.int p2), .val (.ref b11), .val (.int cc), .val (.int (0 : Int32)), .val (.int (((p2 &&& (7 : Int32)) % (5 : Int32)) - (2 : Int32)))]) rfl ?_
        show Steps p.tables e below (T66.setTop (mkF m 148 #[.val (.int p0), .val (.int p1), .val (.int p2), .val (.ref b11), .val (.int cc), .val (.int (0 : Int32)), .val (.int (((p2 &&& (7 : Int32)) % (5 : Int32)) - (2 : Int32)))] [])) _
        refine XS.iload X66.here hx rfl (hb hby at_148) rfl ?_
        show Steps p.tables e below (T66.setTop (mkF m 150 #[.val (.int p0), .val (.int p1), .val (.int p2), .val (.ref b11), .val (.int cc), .val (.int (0 : Int32)), .val (.int (((p2 &&& (7 : Int32)) % (5 : Int32)) - (2 : Int32)))] [(.int cc)])) _
        refine st70 _ ?_
        show Steps p.tables e below (T70.setTop (mkF m 153 #[.val (.int p0), .val (.int p1), .val (.int p2), .val (.ref b11), .val (.int cc), .val (.int (0 : Int32)), .val (.int (((p2 &&& (7 : Int32)) % (5 : Int32)) - (2 : Int32)))] [(.int (b2_0 cc))])) _
        refine XS.iload X70.here hx rfl (hb hby at_153) rfl ?_
        show Steps p.tables e below (T70.setTop (mkF m 155 #[.val (.int p0), .val (.int p1), .val (.int p2), .val (.ref b11), .val (.int cc), .val (.int (0 : Int32)), .val (.int (((p2 &&& (7 : Int32)) % (5 : Int32)) - (2 : Int32)))] [(.int (0 : Int32)), (.int (b2_0 cc))])) _
        refine XS.icmpNo X70.here hx rfl (hb hby at_155) rfl (teq (own_a2 _ hc68)).2 ?_
        show Steps p.tables e below (T70.setTop (mkF m 158 #[.val (.int p0), .val (.int p1), .val (.int p2), .val (.ref b11), .val (.int cc), .val (.int (0 : Int32)), .val (.int (((p2 &&& (7 : Int32)) % (5 : Int32)) - (2 : Int32)))] [])) _
        refine XS.iconst X70.here hx rfl (hb hby at_158) ?_
        show Steps p.tables e below (T70.setTop (mkF m 159 #[.val (.int p0), .val (.int p1), .val (.int p2), .val (.ref b11), .val (.int cc), .val (.int (0 : Int32)), .val (.int (((p2 &&& (7 : Int32)) % (5 : Int32)) - (2 : Int32)))] [(.int (1 : Int32))])) _
        refine XS.goto X70.here hx rfl (pc0 := 159) (pc' := 163) rfl (hb hby at_159) (by decide) (by decide) ?_
        show Steps p.tables e below (T70.setTop (mkF m 163 #[.val (.int p0), .val (.int p1), .val (.int p2), .val (.ref b11), .val (.int cc), .val (.int (0 : Int32)), .val (.int (((p2 &&& (7 : Int32)) % (5 : Int32)) - (2 : Int32)))] [(.int (1 : Int32))])) _
        exact retN X70 hx (t := .boolean) Bd.returns (by simp) (hb hby at_163) hr
      · show Q0 Z p0 p1 p2 h0 n0 _ T70.heap _
        rw [eh70]
        exact ⟨rfl, N70⟩
  · have pre71 : ∀ t, Steps p.tables e below (T60.setTop (mkF m 133 #[.val (.int p0), .val (.int p1), .val (.int p2), .val (.ref b11), .val (.int p0), .unset, .unset] [])) t → Steps p.tables e below (s₁.setTop (entryFrame m #[(.int p0), (.int p1), (.int p2)] maxLocals)) t := fun t k => pre62 t (by
      refine XS.ifNo X60.here hx rfl (hb hby at_97) rfl ((if0 _ _).trans (feq hc63).1) ?_
      show Steps p.tables e below (T60.setTop (mkF m 100 #[.val (.int p0), .val (.int p1), .val (.int p2), .val (.ref b11), .unset, .unset, .unset] [])) _
      refine XS.iloadN X60.here hx rfl (hb hby at_100) rfl ?_
      show Steps p.tables e below (T60.setTop (mkF m 101 #[.val (.int p0), .val (.int p1), .val (.int p2), .val (.ref b11), .unset, .unset, .unset] [(.int p0)])) _
      refine XS.istore X60.here hx rfl (hb hby at_101) rfl (l' := #[.val (.int p0), .val (.int p1), .val (.int p2), .val (.ref b11), .val (.int p0), .unset, .unset]) rfl ?_
      show Steps p.tables e below (T60.setTop (mkF m 103 #[.val (.int p0), .val (.int p1), .val (.int p2), .val (.ref b11), .val (.int p0), .unset, .unset] [])) _
      refine XS.goto X60.here hx rfl (pc0 := 103) (pc' := 133) rfl (hb hby at_103) (by decide) (by decide) ?_
      exact k)
    obtain ⟨_, _, ⟨T72, L72, k72, n72⟩, -, X72, ⟨Lc72, hQ72, l72, y72, z72⟩, st72⟩ := Jvm.LawKit.callS X60 hx (y := (⟨"com/example/nodetest/nodetest/xdm/LexicalIsXmlCharPinLaw", "excluded", "(I)Z"⟩ : MethodName)) hown (mvT hZ (hw _ (List.mem_of_getElem? (i := 12) rfl))) (mvT hZ (hw _ (List.mem_of_getElem? (i := 13) rfl))) (mvT hZ (hw _ (List.mem_of_getElem? (i := 14) rfl))) (mvT hZ (hw _ (List.mem_of_getElem? (i := 15) rfl))) (by decide) (backOf (W := 0) (rm1 l Z a0 hw [] p0 h60 n0 Z61) hZ (hw _ (List.mem_of_getElem? (i := 15) rfl)) (hw _ (List.mem_of_getElem? (i := 14) rfl)) (by decide) (by decide)) (g := (mkF m 135 #[.val (.int p0), .val (.int p1), .val (.int p2), .val (.ref b11), .val (.int p0), .unset, .unset] [(.int p0)])) rfl (by rw [hml]; rfl) (argsL := [(.int p0)]) (rest := []) (lenOf pd_0 rfl) rfl (by show 2 * 0 + _ ≤ _; exact Nat.le_of_eq rfl) (hb hby at_135) (fun _ _ => ⟨rfl, e60, (by decide : 1 + 0 ≤ _), (by decide : 16 + 0 ≤ _)⟩)
    dsimp only [Pt.U, Pt.locs, Pt.cells, Pt.slots] at X72 l72 y72 z72 st72 hQ72
    subst l72 y72 z72
    obtain ⟨rfl, Nq72, eh72⟩ := hQ72
    have N72 := Fr.app N60 Nq72
    have pre73 : ∀ t, Steps p.tables e below (T72.setTop (mkF m 138 #[.val (.int p0), .val (.int p1), .val (.int p2), .val (.ref b11), .val (.int p0), .unset, .unset] [(.int (b1_0 p0))])) t → Steps p.tables e below (s₁.setTop (entryFrame m #[(.int p0), (.int p1), (.int p2)] maxLocals)) t := fun t k => pre71 t (by
      refine XS.iload X60.here hx rfl (hb hby at_133) rfl ?_
      show Steps p.tables e below (T60.setTop (mkF m 135 #[.val (.int p0), .val (.int p1), .val (.int p2), .val (.ref b11), .val (.int p0), .unset, .unset] [(.int p0)])) _
      refine st72 _ ?_
      exact k)
    by_cases hc74 : (b1_0 p0) = (0 : Int32)
    · obtain ⟨_, _, ⟨T75, L75, k75, n75⟩, -, X75, ⟨Lc75, hQ75, l75, y75, z75⟩, st75⟩ := Jvm.LawKit.callS X72 hx (y := (⟨"com/example/nodetest/nodetest/xdm/Lexical", "isXmlChar", "(I)Z"⟩ : MethodName)) hown (mvT hZ (hw _ (List.mem_of_getElem? (i := 16) rfl))) (mvT hZ (hw _ (List.mem_of_getElem? (i := 17) rfl))) (mvT hZ (hw _ (List.mem_of_getElem? (i := 18) rfl))) (mvT hZ (hw _ (List.mem_of_getElem? (i := 19) rfl))) (by decide) (backOf (W := 0) (rm2 l Z a0 hw [] p0 h60 n0 Z61) hZ (hw _ (List.mem_of_getElem? (i := 19) rfl)) (hw _ (List.mem_of_getElem? (i := 18) rfl)) (by decide) (by decide)) (g := (mkF m 150 #[.val (.int p0), .val (.int p1), .val (.int p2), .val (.ref b11), .val (.int p0), .val (.int (1 : Int32)), .unset] [(.int p0)])) rfl (by rw [hml]; rfl) (argsL := [(.int p0)]) (rest := []) (lenOf pd_0 rfl) rfl (by show 2 * 0 + _ ≤ _; exact Nat.le_of_eq rfl) (hb hby at_150) (fun _ _ => ⟨rfl, eh72, (by decide : 1 + 0 ≤ _), (by decide : 16 + 0 ≤ _)⟩)
      dsimp only [Pt.U, Pt.locs, Pt.cells, Pt.slots] at X75 l75 y75 z75 st75 hQ75
      subst l75 y75 z75
      obtain ⟨rfl, Nq75, eh75⟩ := hQ75
      have N75 := Fr.app N72 Nq75
      obtain ⟨fs, hr, hrun, hended, hW, hsame⟩ := X75.leave (v := some (.int (1 : Int32))) (fun h => by rw [Bd.returns] at h; cases h)
      refine ⟨_, _, pre73 _ ?_, hrun, hended, _, _, rfl, ?_, ⟨_, rfl⟩, hW, hsame.mono (by decide) (by decide)⟩
      · refine XS.ifNo X72.here hx rfl (hb hby at_138) rfl ((if0 _ _).trans (teq hc74).2) ?_
        show Steps p.tables e below (T72.setTop (mkF m 141 #[.val (.int p0), .val (.int p1), .val (.int p2), .val (.ref b11), .val (.int p0), .unset, .unset] [])) _
        refine XS.iconst X72.here hx rfl (hb hby at_141) ?_
        show Steps p.tables e below (T72.setTop (mkF m 142 #[.val (.int p0), .val (.int p1), .val (.int p2), .val (.ref b11), .val (.int p0), .unset, .unset] [(.int (1 : Int32))])) _
        refine XS.goto X72.here hx rfl (pc0 := 142) (pc' := 146) rfl (hb hby at_142) (by decide) (by decide) ?_
        show Steps p.tables e below (T72.setTop (mkF m 146 #[.val (.int p0), .val (.int p1), .val (.int p2), .val (.ref b11), .val (.int p0), .unset, .unset] [(.int (1 : Int32))])) _
        refine XS.istore X72.here hx rfl (hb hby at_146) rfl (l' := #[.val (.int p0), .val (.int p1), .val (.int p2), .val (.ref b11), .val (.int p0), .val (.int (1 : Int32)), .unset]) rfl ?_
        show Steps p.tables e below (T72.setTop (mkF m 148 #[.val (.int p0), .val (.int p1), .val (.int p2), .val (.ref b11), .val (.int p0), .val (.int (1 : Int32)), .unset] [])) _
        refine XS.iload X72.here hx rfl (hb hby at_148) rfl ?_
        show Steps p.tables e below (T72.setTop (mkF m 150 #[.val (.int p0), .val (.int p1), .val (.int p2), .val (.ref b11), .val (.int p0), .val (.int (1 : Int32)), .unset] [(.int p0)])) _
        refine st75 _ ?_
        show Steps p.tables e below (T75.setTop (mkF m 153 #[.val (.int p0), .val (.int p1), .val (.int p2), .val (.ref b11), .val (.int p0), .val (.int (1 : Int32)), .unset] [(.int (b2_0 p0))])) _
        refine XS.iload X75.here hx rfl (hb hby at_153) rfl ?_
        show Steps p.tables e below (T75.setTop (mkF m 155 #[.val (.int p0), .val (.int p1), .val (.int p2), .val (.ref b11), .val (.int p0), .val (.int (1 : Int32)), .unset] [(.int (1 : Int32)), (.int (b2_0 p0))])) _
        refine XS.icmpNo X75.here hx rfl (hb hby at_155) rfl (teq (own_a1 _ hc74)).2 ?_
        show Steps p.tables e below (T75.setTop (mkF m 158 #[.val (.int p0), .val (.int p1), .val (.int p2), .val (.ref b11), .val (.int p0), .val (.int (1 : Int32)), .unset] [])) _
        refine XS.iconst X75.here hx rfl (hb hby at_158) ?_
        show Steps p.tables e below (T75.setTop (mkF m 159 #[.val (.int p0), .val (.int p1), .val (.int p2), .val (.ref b11), .val (.int p0), .val (.int (1 : Int32)), .unset] [(.int (1 : Int32))])) _
        refine XS.goto X75.here hx rfl (pc0 := 159) (pc' := 163) rfl (hb hby at_159) (by decide) (by decide) ?_
        show Steps p.tables e below (T75.setTop (mkF m 163 #[.val (.int p0), .val (.int p1), .val (.int p2), .val (.ref b11), .val (.int p0), .val (.int (1 : Int32)), .unset] [(.int (1 : Int32))])) _
        exact retN X75 hx (t := .boolean) Bd.returns (by simp) (hb hby at_163) hr
      · show Q0 Z p0 p1 p2 h0 n0 _ T75.heap _
        rw [eh75]
        exact ⟨rfl, N75⟩
    · obtain ⟨_, _, ⟨T76, L76, k76, n76⟩, -, X76, ⟨Lc76, hQ76, l76, y76, z76⟩, st76⟩ := Jvm.LawKit.callS X72 hx (y := (⟨"com/example/nodetest/nodetest/xdm/Lexical", "isXmlChar", "(I)Z"⟩ : MethodName)) hown (mvT hZ (hw _ (List.mem_of_getElem? (i := 16) rfl))) (mvT hZ (hw _ (List.mem_of_getElem? (i := 17) rfl))) (mvT hZ (hw _ (List.mem_of_getElem? (i := 18) rfl))) (mvT hZ (hw _ (List.mem_of_getElem? (i := 19) rfl))) (by decide) (backOf (W := 0) (rm2 l Z a0 hw [] p0 h60 n0 Z61) hZ (hw _ (List.mem_of_getElem? (i := 19) rfl)) (hw _ (List.mem_of_getElem? (i := 18) rfl)) (by decide) (by decide)) (g := (mkF m 150 #[.val (.int p0), .val (.int p1), .val (.int p2), .val (.ref b11), .val (.int p0), .val (.int (0 : Int32)), .unset] [(.int p0)])) rfl (by rw [hml]; rfl) (argsL := [(.int p0)]) (rest := []) (lenOf pd_0 rfl) rfl (by show 2 * 0 + _ ≤ _; exact Nat.le_of_eq rfl) (hb hby at_150) (fun _ _ => ⟨rfl, eh72, (by decide : 1 + 0 ≤ _), (by decide : 16 + 0 ≤ _)⟩)
      dsimp only [Pt.U, Pt.locs, Pt.cells, Pt.slots] at X76 l76 y76 z76 st76 hQ76
      subst l76 y76 z76
      obtain ⟨rfl, Nq76, eh76⟩ := hQ76
      have N76 := Fr.app N72 Nq76
      obtain ⟨fs, hr, hrun, hended, hW, hsame⟩ := X76.leave (v := some (.int (1 : Int32))) (fun h => by rw [Bd.returns] at h; cases h)
      refine ⟨_, _, pre73 _ ?_, hrun, hended, _, _, rfl, ?_, ⟨_, rfl⟩, hW, hsame.mono (by decide) (by decide)⟩
      · refine XS.ifYes X72.here hx rfl (pc0 := 138) (pc' := 145) rfl (hb hby at_138) rfl ((if0 _ _).trans (feq hc74).2) (by decide) (by decide) ?_
        show Steps p.tables e below (T72.setTop (mkF m 145 #[.val (.int p0), .val (.int p1), .val (.int p2), .val (.ref b11), .val (.int p0), .unset, .unset] [])) _
        refine XS.iconst X72.here hx rfl (hb hby at_145) ?_
        show Steps p.tables e below (T72.setTop (mkF m 146 #[.val (.int p0), .val (.int p1), .val (.int p2), .val (.ref b11), .val (.int p0), .unset, .unset] [(.int (0 : Int32))])) _
        refine XS.istore X72.here hx rfl (hb hby at_146) rfl (l' := #[.val (.int p0), .val (.int p1), .val (.int p2), .val (.ref b11), .val (.int p0), .val (.int (0 : Int32)), .unset]) rfl ?_
        show Steps p.tables e below (T72.setTop (mkF m 148 #[.val (.int p0), .val (.int p1), .val (.int p2), .val (.ref b11), .val (.int p0), .val (.int (0 : Int32)), .unset] [])) _
        refine XS.iload X72.here hx rfl (hb hby at_148) rfl ?_
        show Steps p.tables e below (T72.setTop (mkF m 150 #[.val (.int p0), .val (.int p1), .val (.int p2), .val (.ref b11), .val (.int p0), .val (.int (0 : Int32)), .unset] [(.int p0)])) _
        refine st76 _ ?_
        show Steps p.tables e below (T76.setTop (mkF m 153 #[.val (.int p0), .val (.int p1), .val (.int p2), .val (.ref b11), .val (.int p0), .val (.int (0 : Int32)), .unset] [(.int (b2_0 p0))])) _
        refine XS.iload X76.here hx rfl (hb hby at_153) rfl ?_
        show Steps p.tables e below (T76.setTop (mkF m 155 #[.val (.int p0), .val (.int p1), .val (.int p2), .val (.ref b11), .val (.int p0), .val (.int (0 : Int32)), .unset] [(.int (0 : Int32)), (.int (b2_0 p0))])) _
        refine XS.icmpNo X76.here hx rfl (hb hby at_155) rfl (teq (own_a2 _ hc74)).2 ?_
        show Steps p.tables e below (T76.setTop (mkF m 158 #[.val (.int p0), .val (.int p1), .val (.int p2), .val (.ref b11), .val (.int p0), .val (.int (0 : Int32)), .unset] [])) _
        refine XS.iconst X76.here hx rfl (hb hby at_158) ?_
        show Steps p.tables e below (T76.setTop (mkF m 159 #[.val (.int p0), .val (.int p1), .val (.int p2), .val (.ref b11), .val (.int p0), .val (.int (0 : Int32)), .unset] [(.int (1 : Int32))])) _
        refine XS.goto X76.here hx rfl (pc0 := 159) (pc' := 163) rfl (hb hby at_159) (by decide) (by decide) ?_
        show Steps p.tables e below (T76.setTop (mkF m 163 #[.val (.int p0), .val (.int p1), .val (.int p2), .val (.ref b11), .val (.int p0), .val (.int (0 : Int32)), .unset] [(.int (1 : Int32))])) _
        exact retN X76 hx (t := .boolean) Bd.returns (by simp) (hb hby at_163) hr
      · show Q0 Z p0 p1 p2 h0 n0 _ T76.heap _
        rw [eh76]
        exact ⟨rfl, N76⟩
set_option maxRecDepth 65536 in
set_option maxHeartbeats 40000000 in
theorem comes_1 {Post : Tables → Env → Array Value → State → Outcome → State → Prop} (hpost : ∀ tb e args s v u, (limb_1_1.after args s (.returned v) u = true ∧ limb_1_2.after args s (.returned v) u = true ∧ True) → FrameEnd s (.returned v) u (Jvm.fieldLocs frame_1_writes args s ++ Jvm.arrayLocs frame_1_arrays args s ++ Jvm.staticLocs frame_1_statics s) 16 128 → Post tb e args s (.returned v) u) :
    ArmFor flags0 classFile x code maxLocals ret World_1 tables_1 room_1 Calls_1 rest_1 Pre_1 Post := by
  intro l hfl _ _ p e ha hc hk s m args below hf hA hF happ hP
  obtain ⟨hcalls, hrest, hpre⟩ := hP
  obtain ⟨-, -, -, hnamed, -, -, -, hat⟩ := (Spec.applies_iff hf).mp happ
  obtain ⟨hg, hn⟩ := and_e (Cond.before_iff.mp (show (Jvm.Cond.and given_1 narrow_1).before args s = true from hpre))
  obtain ⟨g1, g2⟩ := and_e hg
  obtain ⟨g3, g4⟩ := and_e g2
  obtain ⟨g5, g6⟩ := and_e g4
  obtain ⟨w0, w1, w2, rfl⟩ : ∃ w0 w1 w2 : Value, args = #[w0, w1, w2] := by
    have hs : args.size = 3 := by simpa [Cond.value, given_1] using g1
    obtain ⟨L⟩ := args
    match L, hs with
    | [w0, w1, w2], _ => exact ⟨w0, w1, w2, rfl⟩
  have hw := fun d (hd : d ∈ tables_1) => atoms_spec (ws := Jvm.Cond.code x code maxLocals ret :: tables_1) hat d (List.mem_cons_of_mem _ hd)
  obtain ⟨i0, ei0⟩ := is_v g3
  obtain rfl : w0 = (.int i0) := Option.some.inj ei0
  obtain ⟨i1, ei1⟩ := is_v g5
  obtain rfl : w1 = (.int i1) := Option.some.inj ei1
  obtain ⟨i2, ei2⟩ := is_v g6
  obtain rfl : w2 = (.int i2) := Option.some.inj ei2
  obtain ⟨n, o, h1, h2, h3, _, L, rfl, ⟨rfl, N⟩, hq⟩ := rm0 l s _ hw tables_1 i0 i1 i2 s.heap s.heap.size (Nat.le_refl _) p e ha hc hk s m _ below hf ((Spec.applies_iff_loose hf).mp happ).1 ⟨rfl, State.Warmed39.refl s, rfl⟩ trivial
  refine ⟨n, _, h1, h2, h3, hpost _ _ _ _ _ _ ⟨Cond.after_iff.mpr rfl, Cond.after_iff.mpr (eq_i res_at (Term.int_eval (1)) rfl), trivial⟩ ⟨hq.1, hq.2.1, (hq.2.2.sift fun y hy => Or.inr (N y hy)).mono (by decide) (by decide)⟩⟩
theorem main_1_1 : Claimed_1_1 := comes_1 fun _ _ _ _ _ _ h hF => ⟨h.1, hF⟩
theorem main_1_2 : Claimed_1_2 := comes_1 fun _ _ _ _ _ _ h hF => ⟨h.2.1, hF⟩
end Jvm.Pilot.@@N@@
namespace Jvm.Pilot.@@N@@
open Jvm Jvm.ClassFile Sem Op Lib Jvm.Free Jvm.Stand Jvm.Pilot.@@N@@.Jvm.D
/-! MADE BY PROGRAM (witnessworld.py) out of the Statement's table words and the real class files: 9 classes; the members and pool entries that the words name. The judged class is class 1, her method 2. -/
namespace start1
open Jvm.ClassFile
def u (s : String) : CpInfo := .utf8 (stringToUtf16 s)
/-- a pool by its gaps: so many unusable entries, then the entry; so many at the end -/
def gap : Nat → List CpInfo → List CpInfo
  | 0, r => r
  | n + 1, r => .unusable :: gap n r
def poolList (es : List (Nat × CpInfo)) (last : Nat) : List CpInfo := es.foldr (fun e r => gap e.1 (e.2 :: r)) (gap last [])
def pool (es : List (Nat × CpInfo)) (last : Nat) : Array CpInfo := ⟨poolList es last⟩
def fileOf (pool : Array CpInfo) (this : Nat) (attrs : Array Attribute := #[]) (ms : Array MethodInfo := #[]) (fl : Nat := 33) (sup : Nat := 0) (ifs : Array Nat := #[]) (fds : Array FieldInfo := #[]) : ClassFile where
  minorVersion := 0
  majorVersion := 65
  constantPool := pool
  accessFlags := fl
  thisClass := this
  superClass := sup
  interfaces := ifs
  fields := fds
  methods := ms
  attributes := attrs
def plain (name : String) (sup : Option ClassId) : Class where
  name := name
  kind := .ordinary
  loader := none
  accessFlags := 33
  super := sup
  interfaces := #[]
  cf := none
  fields := #[]
  methods := #[]
  instanceTypes := #[]
  staticTypes := #[]
  resolved := #[]
  callSites := []
  init := .initialized
  statics := none
  mirror := none

def pool0 : Array CpInfo := pool [(5, u "<init>"), (0, u "()V"), (1, .class_ 10), (1, u "java/lang/Object")] 113

def k0m0 : Method := { name := "<init>", desc := "()V", sig := { parameters := [], returnType := none }, accessFlags := 1, code := none }
/-- java/lang/Object -/
def k0 : Class := { plain "java/lang/Object" none with
  accessFlags := 33
  interfaces := #[]
  cf := some (fileOf pool0 8 #[] #[{ accessFlags := 1, nameIndex := 5, descriptorIndex := 6, attributes := #[] }] 33 0 #[] #[])
  fields := #[]
  methods := #[k0m0]
  instanceTypes := #[]
  staticTypes := #[]
  resolved := Array.replicate 124 none
  statics := none }

def pool1 : Array CpInfo := pool [(2, .class_ 4), (1, u "java/lang/Object"), (0, u "<init>"), (0, u "()V"), (0, .integer 1114111), (0, .integer 55296), (0, .integer 57343), (0, .integer 65534), (0, .integer 65535), (0, .integer 55295), (0, .integer 57344), (0, .integer 65533), (0, .integer 65536), (0, .integer 1114112), (2, .integer 2147483648), (0, .integer 2147483647), (0, .methodref 22 23), (0, .class_ 24), (0, .nameAndType 25 26), (0, u "com/example/nodetest/nodetest/xdm/LexicalIsXmlCharPinLaw"), (0, u "excluded"), (0, u "(I)Z"), (0, .methodref 28 29), (0, .class_ 30), (0, .nameAndType 31 26), (0, u "com/example/nodetest/nodetest/xdm/Lexical"), (0, u "isXmlChar"), (3, u "law"), (0, u "(III)Z")] 4

def k1m0 : Method := { name := "<init>", desc := "()V", sig := { parameters := [], returnType := none }, accessFlags := 2, code := none }
def k1c1 : Code := { maxStack := 2, maxLocals := 1, code := method_2_code, exceptionTable := #[], attributes := #[] }
def k1m1 : Method := { name := "excluded", desc := "(I)Z", sig := { parameters := [.int], returnType := some .boolean }, accessFlags := 10, code := some k1c1 }
def k1c2 : Code := { maxStack := 4, maxLocals := 7, code := code, exceptionTable := #[], attributes := #[] }
def k1m2 : Method := { name := "law", desc := "(III)Z", sig := { parameters := [.int, .int, .int], returnType := some .boolean }, accessFlags := 9, code := some k1c2 }
/-- com/example/nodetest/nodetest/xdm/LexicalIsXmlCharPinLaw -/
def k1 : Class := { plain "com/example/nodetest/nodetest/xdm/LexicalIsXmlCharPinLaw" (some 0) with
  accessFlags := 49
  interfaces := #[]
  cf := some (fileOf pool1 22 #[] #[{ accessFlags := 2, nameIndex := 5, descriptorIndex := 6, attributes := #[] }, { accessFlags := 10, nameIndex := 25, descriptorIndex := 26, attributes := #[] }, { accessFlags := 9, nameIndex := 35, descriptorIndex := 36, attributes := #[] }] 49 2 #[] #[])
  fields := #[]
  methods := #[k1m0, k1m1, k1m2]
  instanceTypes := #[]
  staticTypes := #[]
  resolved := Array.replicate 41 none
  statics := none }

def pool2 : Array CpInfo := pool [(2, .class_ 4), (1, u "java/lang/Object"), (0, u "<init>"), (0, u "()V"), (16, .class_ 25), (1, u "com/example/nodetest/nodetest/xdm/Lexical"), (22, u "(I)Z"), (13, u "LANGUAGE"), (0, u "Ljava/util/regex/Pattern;"), (11, .integer 55295), (0, .integer 57344), (0, .integer 65533), (0, .integer 65536), (0, .integer 1114111), (18, u "SPACE"), (0, u "Ljava/lang/String;"), (13, u "isXmlChar")] 20

def k2m0 : Method := { name := "<init>", desc := "()V", sig := { parameters := [], returnType := none }, accessFlags := 2, code := none }
def k2c1 : Code := { maxStack := 2, maxLocals := 1, code := prog_70_method_8_code, exceptionTable := #[], attributes := #[] }
def k2m1 : Method := { name := "isXmlChar", desc := "(I)Z", sig := { parameters := [.int], returnType := some .boolean }, accessFlags := 9, code := some k2c1 }
/-- com/example/nodetest/nodetest/xdm/Lexical -/
def k2 : Class := { plain "com/example/nodetest/nodetest/xdm/Lexical" (some 0) with
  accessFlags := 49
  interfaces := #[]
  cf := some (fileOf pool2 23 #[] #[{ accessFlags := 2, nameIndex := 5, descriptorIndex := 6, attributes := #[] }, { accessFlags := 9, nameIndex := 113, descriptorIndex := 48, attributes := #[] }] 49 2 #[] #[{ accessFlags := 24, nameIndex := 98, descriptorIndex := 99, attributes := #[] }, { accessFlags := 26, nameIndex := 62, descriptorIndex := 63, attributes := #[] }])
  fields := #[{ name := "SPACE", type := (.object "java/lang/String"), accessFlags := 24, slot := 0, constantValue := 0 }, { name := "LANGUAGE", type := (.object "java/util/regex/Pattern"), accessFlags := 26, slot := 1, constantValue := 0 }]
  methods := #[k2m0, k2m1]
  instanceTypes := #[]
  staticTypes := #[(.object "java/lang/String"), (.object "java/util/regex/Pattern")]
  resolved := Array.replicate 134 none
  statics := none }

def pool3 : Array CpInfo := pool [(1, u "java/lang/Cloneable"), (0, .class_ 1), (0, u "java/lang/Object"), (0, .class_ 3)] 3

/-- java/lang/Cloneable -/
def k3 : Class := { plain "java/lang/Cloneable" (some 0) with
  accessFlags := 1537
  interfaces := #[]
  cf := some (fileOf pool3 2 #[] #[] 1537 4 #[] #[])
  fields := #[]
  methods := #[]
  instanceTypes := #[]
  staticTypes := #[]
  resolved := Array.replicate 8 none
  statics := none }

def pool4 : Array CpInfo := pool [(1, u "java/io/Serializable"), (0, .class_ 1), (0, u "java/lang/Object"), (0, .class_ 3)] 3

/-- java/io/Serializable -/
def k4 : Class := { plain "java/io/Serializable" (some 0) with
  accessFlags := 1537
  interfaces := #[]
  cf := some (fileOf pool4 2 #[] #[] 1537 4 #[] #[])
  fields := #[]
  methods := #[]
  instanceTypes := #[]
  staticTypes := #[]
  resolved := Array.replicate 8 none
  statics := none }

/-- the primitive byte -/
def k5 : Class := { plain "byte" none with kind := .primitive 'B', accessFlags := 0x411 }
/-- [B -/
def k6 : Class := { plain "[B" (some 0) with kind := .array 5 .byte, interfaces := #[3, 4], accessFlags := 1041 }

/-- the primitive int -/
def k7 : Class := { plain "int" none with kind := .primitive 'I', accessFlags := 0x411 }
/-- [I -/
def k8 : Class := { plain "[I" (some 0) with kind := .array 7 .int, interfaces := #[3, 4], accessFlags := 1041 }

def heap : Heap := #[]
def classes : Array Class := #[k0, k1, k2, k3, k4, k5, k6, k7, k8]
def interned : List (Array UInt16 × Addr) := []
def slotsUsed : Nat := 0
def theMethod : MethodId := ⟨1, 2⟩
def args0 : Array Value := #[.int 5, .int 6, .int 7]
def aboutOver (below : List Frame) : State where
  vm := { classes := classes, interned := interned.toArray }
  heap := heap
  slotsUsed := slotsUsed
  threads := #[{ frames := .invoking theMethod args0 :: below }]
def below0 : List Frame := [.native { method := ⟨0, 0⟩, args := #[] }]
def about1 : State := aboutOver below0
def p0 : Program := .bare "" "" ""
def e0 : Env := launch0.env 0 0 0
theorem w_frames : about1.frames = Frame.invoking theMethod args0 :: below0 := rfl
set_option maxRecDepth 65536 in
theorem w_args : argsFit about1.vm theMethod args0 = true := by decide +kernel
set_option maxRecDepth 65536 in
theorem w_heap : heapFits about1 = true := by decide +kernel
set_option maxRecDepth 65536 in
theorem w_runnable : about1.curStatus? = some .runnable := by decide +kernel
set_option maxRecDepth 65536 in
theorem w_alone : about1.alone = true := by decide +kernel
set_option maxRecDepth 65536 in
theorem w_named : about1.methodNamed? x = some theMethod := by decide +kernel
set_option maxRecDepth 65536 in
theorem w_hears : about1.hears theMethod below0 = true := by decide +kernel
set_option maxRecDepth 65536 in
theorem w_ripe : about1.ripe theMethod args0 below0 = true := by decide +kernel
theorem w_running : about1.status = .running := rfl
set_option maxRecDepth 65536 in
theorem w_room : about1.hasRoom e0.platform room_1 = true :=
  launch0.hasRoom_least _ room_1 (by decide +kernel) (by decide +kernel) (by decide +kernel) (by decide +kernel) (by decide +kernel) (by decide +kernel)
theorem allAtoms_all (ts : List Jvm.Cond) (a : Array Jvm.Value) (st : Jvm.State) : (allAtoms ts).before a st = ts.all (fun c => c.before a st) := by
  induction ts with
  | nil => rfl
  | cons c t ih =>
    show (Jvm.Cond.and c (allAtoms t)).before a st = _
    rw [Jvm.Cond.before_and, ih, List.all_cons]
def words1 : List Jvm.Cond := Jvm.Cond.code x code maxLocals ret :: tables_1
/-- a 'code' word, met by the world's own term for the bytes: nothing is compared byte by byte -/
theorem code_word {y : MethodName} {bytes : ByteArray} {mx : Nat} {rt : Option FieldType} {a : Array Value} {s : State} {m : MethodId} {meth : Method} {c : Code} (h1 : s.methodNamed? y = some m) (h2 : s.vm.method? m = some meth) (h3 : meth.code = some c) (h4 : c.code = bytes)
    (h5 : (c.maxLocals == mx && c.exceptionTable.isEmpty && decide (c.maxStack ≤ mostOperands) && decide (meth.sig.returnType = rt) && !meth.locks && decide (parseMethodDescriptor y.desc = some meth.sig)) = true) : (Jvm.Cond.code y bytes mx rt).before a s = true := by
  simp only [Bool.and_eq_true, beq_iff_eq, Bool.not_eq_true', decide_eq_true_eq] at h5
  obtain ⟨⟨⟨⟨⟨g1, g2⟩, g3⟩, g4⟩, g5⟩, g6⟩ := h5
  simp [Cond.before, Cond.holds, Cond.value, h1, h2, h3, h4, g1, g2, g3, g4, g5, g6]
def isCode : Jvm.Cond → Bool
  | .code _ _ _ _ => true
  | _ => false
theorem all_split {L : List Jvm.Cond} {P : Jvm.Cond → Bool} (h1 : L.all (fun c => isCode c || P c) = true) (h2 : ∀ c ∈ L.filter isCode, P c = true) : L.all P = true := by
  refine List.all_eq_true.mpr fun c hc => ?_
  have h := List.all_eq_true.mp h1 c hc
  rcases Bool.eq_false_or_eq_true (isCode c) with hi | hi
  · exact h2 c (List.mem_filter.mpr ⟨hc, hi⟩)
  · simpa [hi] using h
set_option maxRecDepth 65536 in
theorem w_c0 : (Jvm.Cond.code x code maxLocals ret).before args0 about1 = true := code_word (m := ⟨1, 2⟩) (meth := k1m2) (c := k1c2) (by decide +kernel) rfl rfl rfl (by decide +kernel)
set_option maxRecDepth 65536 in
theorem w_c1 : (Jvm.Cond.code ({ cls := "com/example/nodetest/nodetest/xdm/LexicalIsXmlCharPinLaw", name := "excluded", desc := "(I)Z" } : Jvm.MethodName) method_2_code (1 : Nat) (Option.some Jvm.ClassFile.FieldType.boolean)).before args0 about1 = true := code_word (m := ⟨1, 1⟩) (meth := k1m1) (c := k1c1) (by decide +kernel) rfl rfl rfl (by decide +kernel)
set_option maxRecDepth 65536 in
theorem w_c2 : (Jvm.Cond.code ({ cls := "com/example/nodetest/nodetest/xdm/Lexical", name := "isXmlChar", desc := "(I)Z" } : Jvm.MethodName) prog_70_method_8_code (1 : Nat) (Option.some Jvm.ClassFile.FieldType.boolean)).before args0 about1 = true := code_word (m := ⟨2, 1⟩) (meth := k2m1) (c := k2c1) (by decide +kernel) rfl rfl rfl (by decide +kernel)
def codes1 : List Jvm.Cond := [Jvm.Cond.code x code maxLocals ret, Jvm.Cond.code ({ cls := "com/example/nodetest/nodetest/xdm/LexicalIsXmlCharPinLaw", name := "excluded", desc := "(I)Z" } : Jvm.MethodName) method_2_code (1 : Nat) (Option.some Jvm.ClassFile.FieldType.boolean), Jvm.Cond.code ({ cls := "com/example/nodetest/nodetest/xdm/Lexical", name := "isXmlChar", desc := "(I)Z" } : Jvm.MethodName) prog_70_method_8_code (1 : Nat) (Option.some Jvm.ClassFile.FieldType.boolean)]
set_option maxRecDepth 65536 in
theorem codes_eq : words1.filter isCode = codes1 := rfl
theorem w_codes : ∀ c ∈ words1.filter isCode, c.before args0 about1 = true := by
  rw [codes_eq]
  intro c hc
  simp only [codes1, List.mem_cons, List.not_mem_nil, or_false] at hc
  rcases hc with rfl | rfl | rfl
  · exact w_c0
  · exact w_c1
  · exact w_c2
set_option maxRecDepth 65536 in
theorem w_t1 : (words1.take 24).all (fun c => isCode c || c.before args0 about1) = true := by decide +kernel
set_option maxRecDepth 65536 in
theorem w_t2 : (words1.drop 24).all (fun c => isCode c || c.before args0 about1) = true := by decide +kernel
theorem w_tables : (allAtoms (Jvm.Cond.code x code maxLocals ret :: tables_1)).before args0 about1 = true := by
  rw [allAtoms_all]
  show words1.all (fun c => c.before args0 about1) = true
  refine all_split ?_ w_codes
  rw [← List.take_append_drop 24 words1, List.all_append, w_t1, w_t2]
  rfl
set_option maxRecDepth 65536 in
theorem w_case : (Jvm.Cond.and given_1 narrow_1).before args0 about1 = true := by decide +kernel
theorem w_applies : (headSpec (Jvm.Cond.code x code maxLocals ret :: tables_1) room_1).applies x e0.platform about1 = true :=
  (Spec.applies_iff w_frames).mpr ⟨w_running, w_runnable, w_alone, w_named, w_hears, w_ripe, w_room, w_tables⟩
theorem atStart : AtStart classFile x code maxLocals ret World_1 tables_1 room_1 Calls_1 rest_1 Pre_1 launch0 p0 e0 about1 theMethod args0 below0 :=
  ⟨lists_1, trivial, launch0.admits_env _ _ _, launch0.least_env, fairChoices_fair.cas, fairChoices_fair.clock, w_frames, w_args, w_heap, w_applies, trivial, trivial, w_case⟩
end start1
theorem witness_1 : WitnessClaimed_1 := ⟨start1.p0, start1.e0, start1.about1, start1.theMethod, start1.args0, start1.below0, start1.atStart⟩
end Jvm.Pilot.@@N@@
