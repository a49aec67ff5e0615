import JvmDerived
import JvmDerived.Pilot.@@N@@Statement
import JvmDerived.Pilot.@@N@@Code
set_option linter.unusedVariables false
set_option linter.unusedSimpArgs false
namespace Jvm.Pilot.@@N@@
open Jvm Jvm.ClassFile Sem Op Lib Jvm.Free Jvm.Stand Jvm.LawKit Jvm.RoadKit Bundle Jvm.Pilot.@@N@@.Jvm.D

def AI (Z : State) (h : Heap) (a : Addr) (ty : FieldType) (z : Int32) (f : Nat → Int32) : Prop := ∃ c : Cell, Arr Z h a c ty ∧ c.slots.size = z.toNatClampNeg ∧ ¬ z < 0 ∧ ∀ i, i < c.slots.size → c.slots[i]? = some (.int (f i))
def AL (Z : State) (h : Heap) (a : Addr) (z : Int32) (f : Nat → Int64) : Prop := ∃ c : Cell, Arr Z h a c .long ∧ c.slots.size = z.toNatClampNeg ∧ ¬ z < 0 ∧ ∀ i, i < c.slots.size → c.slots[i]? = some (.long (f i))
section Own
variable {Z : State} {h h' : Heap} {a b : Addr} {k : ClassId} {ty : FieldType} {z : Int32} {f : Nat → Int32} {fl : Nat → Int64} {sl : Nat} {v : Value} {ws : List Addr}
theorem AI.lt (F : AI Z h a ty z f) : a < h.size := by obtain ⟨c, A, -⟩ := F; exact A.lt
theorem AL.lt (F : AL Z h a z fl) : a < h.size := by obtain ⟨c, A, -⟩ := F; exact A.lt
theorem AI.ext (F : AI Z h a ty z f) (E : Ext h h') : AI Z h' a ty z f := by obtain ⟨c, A, r⟩ := F; exact ⟨c, A.ext E, r⟩
theorem AL.ext (F : AL Z h a z fl) (E : Ext h h') : AL Z h' a z fl := by obtain ⟨c, A, r⟩ := F; exact ⟨c, A.ext E, r⟩
theorem AI.other (F : AI Z h b ty z f) (W : Wr h h' a sl v) (q : b ≠ a) : AI Z h' b ty z f := by obtain ⟨c, A, r⟩ := F; exact ⟨c, A.other W q, r⟩
theorem AL.other (F : AL Z h b z fl) (W : Wr h h' a sl v) (q : b ≠ a) : AL Z h' b z fl := by obtain ⟨c, A, r⟩ := F; exact ⟨c, A.other W q, r⟩
theorem AI.keep (F : AI Z h a ty z f) (K : Keep h h' ws) (q : a ∉ ws) : AI Z h' a ty z f := by obtain ⟨c, A, r⟩ := F; exact ⟨c, ⟨K.2.1 a c A.1 q, A.2⟩, r⟩
theorem AL.keep (F : AL Z h a z fl) (K : Keep h h' ws) (q : a ∉ ws) : AL Z h' a z fl := by obtain ⟨c, A, r⟩ := F; exact ⟨c, ⟨K.2.1 a c A.1 q, A.2⟩, r⟩
theorem AI.new (hd : defaultValue ty = .int 0) (A : Arr Z h a (newA k ty z) ty) (q : ¬ z < 0) : AI Z h a ty z (fun _ => (0 : Int32)) := ⟨_, A, by simp [newA], q, fun i hi => by
  have hi' : i < z.toNatClampNeg := by simpa [newA] using hi
  simp [newA, hi', hd]⟩
theorem AL.new (A : Arr Z h a (newA k .long z) .long) (q : ¬ z < 0) : AL Z h a z (fun _ => (0 : Int64)) := ⟨_, A, by simp [newA], q, fun i hi => by
  have hi' : i < z.toNatClampNeg := by simpa [newA] using hi
  simp [newA, hi', defaultValue]⟩
theorem AI.set {j : Nat} {x : Int32} (F : AI Z h a ty z f) (W : Wr h h' a j (.int x)) : AI Z h' a ty z (fun i => if i = j then x else f i) := by
  obtain ⟨c, A, S, q, H⟩ := F
  refine ⟨_, A.same W, by simpa [Cell.setSlot] using S, q, fun i hi => ?_⟩
  have hi' : i < c.slots.size := by simpa [Cell.setSlot] using hi
  by_cases e : i = j
  · subst e; simp [Cell.setSlot, hi']
  · have e' : ¬ j = i := fun q => e q.symm
    simp only [Cell.setSlot, if_neg e]; rw [Array.getElem?_setIfInBounds_ne e']; exact H i hi'
theorem AL.set {j : Nat} {x : Int64} (F : AL Z h a z fl) (W : Wr h h' a j (.long x)) : AL Z h' a z (fun i => if i = j then x else fl i) := by
  obtain ⟨c, A, S, q, H⟩ := F
  refine ⟨_, A.same W, by simpa [Cell.setSlot] using S, q, fun i hi => ?_⟩
  have hi' : i < c.slots.size := by simpa [Cell.setSlot] using hi
  by_cases e : i = j
  · subst e; simp [Cell.setSlot, hi']
  · have e' : ¬ j = i := fun q => e q.symm
    simp only [Cell.setSlot, if_neg e]; rw [Array.getElem?_setIfInBounds_ne e']; exact H i hi'
end Own
theorem own_ite01 {q : Prop} [Decidable q] {X Y : Int32} (hX : X = 0 ∨ X = 1) (hY : Y = 0 ∨ Y = 1) : (if q then X else Y) = 0 ∨ (if q then X else Y) = 1 := by
  by_cases h : q
  · rw [if_pos h]; exact hX
  · rw [if_neg h]; exact hY
theorem own_0 : ((0 : Int32) = 1) ↔ False := by decide
theorem own_rng {c lo hi X : Int32} : ((if c < lo then X else (if hi < c then X else (1 : Int32))) = 1) ↔ ((lo.toInt ≤ c.toInt ∧ c.toInt ≤ hi.toInt) ∨ X = 1) := by
  by_cases h : c < lo
  · rw [if_pos h]; rw [Int32.lt_iff_toInt_lt] at h; exact ⟨Or.inr, fun q => q.elim (fun r => by omega) id⟩
  · rw [if_neg h]
    by_cases h2 : hi < c
    · rw [if_pos h2]; rw [Int32.lt_iff_toInt_lt] at h2; exact ⟨Or.inr, fun q => q.elim (fun r => by omega) id⟩
    · rw [if_neg h2]; rw [Int32.lt_iff_toInt_lt] at h h2; exact ⟨fun _ => Or.inl ⟨by omega, by omega⟩, fun _ => rfl⟩
theorem own_gap {c lo hi X : Int32} : ((if lo < c then (if c < hi then (1 : Int32) else X) else X) = 1) ↔ ((lo.toInt < c.toInt ∧ c.toInt < hi.toInt) ∨ X = 1) := by
  by_cases h : lo < c
  · rw [if_pos h]
    by_cases h2 : c < hi
    · rw [if_pos h2]; rw [Int32.lt_iff_toInt_lt] at h h2; exact ⟨fun _ => Or.inl ⟨h, h2⟩, fun _ => rfl⟩
    · rw [if_neg h2]; rw [Int32.lt_iff_toInt_lt] at h2; exact ⟨Or.inr, fun q => q.elim (fun r => by omega) id⟩
  · rw [if_neg h]; rw [Int32.lt_iff_toInt_lt] at h; exact ⟨Or.inr, fun q => q.elim (fun r => by omega) id⟩
theorem own_e1 {c a X : Int32} : ((if c = a then (1 : Int32) else X) = 1) ↔ (c.toInt = a.toInt ∨ X = 1) := by
  by_cases h : c = a
  · rw [if_pos h]; exact ⟨fun _ => Or.inl (by rw [h]), fun _ => rfl⟩
  · rw [if_neg h]; exact ⟨Or.inr, fun q => q.elim (fun r => absurd (Int32.toInt_inj.mp r) h) id⟩
theorem own_l1 {c a X : Int32} : ((if c < a then (1 : Int32) else X) = 1) ↔ (c.toInt < a.toInt ∨ X = 1) := by
  by_cases h : c < a
  · rw [if_pos h]; exact ⟨fun _ => Or.inl (Int32.lt_iff_toInt_lt.mp h), fun _ => rfl⟩
  · rw [if_neg h]; exact ⟨Or.inr, fun q => q.elim (fun r => absurd (Int32.lt_iff_toInt_lt.mpr r) h) id⟩
theorem own_g1 {c a X : Int32} : ((if a < c then (1 : Int32) else X) = 1) ↔ (a.toInt < c.toInt ∨ X = 1) := by
  by_cases h : a < c
  · rw [if_pos h]; exact ⟨fun _ => Or.inl (Int32.lt_iff_toInt_lt.mp h), fun _ => rfl⟩
  · rw [if_neg h]; exact ⟨Or.inr, fun q => q.elim (fun r => absurd (Int32.lt_iff_toInt_lt.mpr r) h) id⟩
theorem d2_0 : decode prog_70_method_9_code 0 = .ok (.iload_n 0, 1) := by decide +kernel
theorem d2_1 : decode prog_70_method_9_code 1 = .ok (.bipush 65, 2) := by decide +kernel
theorem d2_3 : decode prog_70_method_9_code 3 = .ok (.if_icmp .lt 9, 3) := by decide +kernel
theorem d2_6 : decode prog_70_method_9_code 6 = .ok (.iload_n 0, 1) := by decide +kernel
theorem d2_7 : decode prog_70_method_9_code 7 = .ok (.bipush 90, 2) := by decide +kernel
theorem d2_9 : decode prog_70_method_9_code 9 = .ok (.if_icmp .le 182, 3) := by decide +kernel
theorem d2_12 : decode prog_70_method_9_code 12 = .ok (.iload_n 0, 1) := by decide +kernel
theorem d2_13 : decode prog_70_method_9_code 13 = .ok (.bipush 95, 2) := by decide +kernel
theorem d2_15 : decode prog_70_method_9_code 15 = .ok (.if_icmp .eq 176, 3) := by decide +kernel
theorem d2_18 : decode prog_70_method_9_code 18 = .ok (.iload_n 0, 1) := by decide +kernel
theorem d2_19 : decode prog_70_method_9_code 19 = .ok (.bipush 97, 2) := by decide +kernel
theorem d2_21 : decode prog_70_method_9_code 21 = .ok (.if_icmp .lt 9, 3) := by decide +kernel
theorem d2_24 : decode prog_70_method_9_code 24 = .ok (.iload_n 0, 1) := by decide +kernel
theorem d2_25 : decode prog_70_method_9_code 25 = .ok (.bipush 122, 2) := by decide +kernel
theorem d2_27 : decode prog_70_method_9_code 27 = .ok (.if_icmp .le 164, 3) := by decide +kernel
theorem d2_30 : decode prog_70_method_9_code 30 = .ok (.iload_n 0, 1) := by decide +kernel
theorem d2_31 : decode prog_70_method_9_code 31 = .ok (.sipush 192, 3) := by decide +kernel
theorem d2_34 : decode prog_70_method_9_code 34 = .ok (.if_icmp .lt 10, 3) := by decide +kernel
theorem d2_37 : decode prog_70_method_9_code 37 = .ok (.iload_n 0, 1) := by decide +kernel
theorem d2_38 : decode prog_70_method_9_code 38 = .ok (.sipush 214, 3) := by decide +kernel
theorem d2_41 : decode prog_70_method_9_code 41 = .ok (.if_icmp .le 150, 3) := by decide +kernel
theorem d2_44 : decode prog_70_method_9_code 44 = .ok (.iload_n 0, 1) := by decide +kernel
theorem d2_45 : decode prog_70_method_9_code 45 = .ok (.sipush 216, 3) := by decide +kernel
theorem d2_48 : decode prog_70_method_9_code 48 = .ok (.if_icmp .lt 10, 3) := by decide +kernel
theorem d2_51 : decode prog_70_method_9_code 51 = .ok (.iload_n 0, 1) := by decide +kernel
theorem d2_52 : decode prog_70_method_9_code 52 = .ok (.sipush 246, 3) := by decide +kernel
theorem d2_55 : decode prog_70_method_9_code 55 = .ok (.if_icmp .le 136, 3) := by decide +kernel
theorem d2_58 : decode prog_70_method_9_code 58 = .ok (.iload_n 0, 1) := by decide +kernel
theorem d2_59 : decode prog_70_method_9_code 59 = .ok (.sipush 248, 3) := by decide +kernel
theorem d2_62 : decode prog_70_method_9_code 62 = .ok (.if_icmp .lt 10, 3) := by decide +kernel
theorem d2_65 : decode prog_70_method_9_code 65 = .ok (.iload_n 0, 1) := by decide +kernel
theorem d2_66 : decode prog_70_method_9_code 66 = .ok (.sipush 767, 3) := by decide +kernel
theorem d2_69 : decode prog_70_method_9_code 69 = .ok (.if_icmp .le 122, 3) := by decide +kernel
theorem d2_72 : decode prog_70_method_9_code 72 = .ok (.iload_n 0, 1) := by decide +kernel
theorem d2_73 : decode prog_70_method_9_code 73 = .ok (.sipush 880, 3) := by decide +kernel
theorem d2_76 : decode prog_70_method_9_code 76 = .ok (.if_icmp .lt 10, 3) := by decide +kernel
theorem d2_79 : decode prog_70_method_9_code 79 = .ok (.iload_n 0, 1) := by decide +kernel
theorem d2_80 : decode prog_70_method_9_code 80 = .ok (.sipush 893, 3) := by decide +kernel
theorem d2_83 : decode prog_70_method_9_code 83 = .ok (.if_icmp .le 108, 3) := by decide +kernel
theorem d2_86 : decode prog_70_method_9_code 86 = .ok (.iload_n 0, 1) := by decide +kernel
theorem d2_87 : decode prog_70_method_9_code 87 = .ok (.sipush 895, 3) := by decide +kernel
theorem d2_90 : decode prog_70_method_9_code 90 = .ok (.if_icmp .lt 10, 3) := by decide +kernel
theorem d2_93 : decode prog_70_method_9_code 93 = .ok (.iload_n 0, 1) := by decide +kernel
theorem d2_94 : decode prog_70_method_9_code 94 = .ok (.sipush 8191, 3) := by decide +kernel
theorem d2_97 : decode prog_70_method_9_code 97 = .ok (.if_icmp .le 94, 3) := by decide +kernel
theorem d2_100 : decode prog_70_method_9_code 100 = .ok (.iload_n 0, 1) := by decide +kernel
theorem d2_101 : decode prog_70_method_9_code 101 = .ok (.sipush 8204, 3) := by decide +kernel
theorem d2_104 : decode prog_70_method_9_code 104 = .ok (.if_icmp .lt 10, 3) := by decide +kernel
theorem d2_107 : decode prog_70_method_9_code 107 = .ok (.iload_n 0, 1) := by decide +kernel
theorem d2_108 : decode prog_70_method_9_code 108 = .ok (.sipush 8205, 3) := by decide +kernel
theorem d2_111 : decode prog_70_method_9_code 111 = .ok (.if_icmp .le 80, 3) := by decide +kernel
theorem d2_114 : decode prog_70_method_9_code 114 = .ok (.iload_n 0, 1) := by decide +kernel
theorem d2_115 : decode prog_70_method_9_code 115 = .ok (.sipush 8304, 3) := by decide +kernel
theorem d2_118 : decode prog_70_method_9_code 118 = .ok (.if_icmp .lt 10, 3) := by decide +kernel
theorem d2_121 : decode prog_70_method_9_code 121 = .ok (.iload_n 0, 1) := by decide +kernel
theorem d2_122 : decode prog_70_method_9_code 122 = .ok (.sipush 8591, 3) := by decide +kernel
theorem d2_125 : decode prog_70_method_9_code 125 = .ok (.if_icmp .le 66, 3) := by decide +kernel
theorem d2_128 : decode prog_70_method_9_code 128 = .ok (.iload_n 0, 1) := by decide +kernel
theorem d2_129 : decode prog_70_method_9_code 129 = .ok (.sipush 11264, 3) := by decide +kernel
theorem d2_132 : decode prog_70_method_9_code 132 = .ok (.if_icmp .lt 10, 3) := by decide +kernel
theorem d2_135 : decode prog_70_method_9_code 135 = .ok (.iload_n 0, 1) := by decide +kernel
theorem d2_136 : decode prog_70_method_9_code 136 = .ok (.sipush 12271, 3) := by decide +kernel
theorem d2_139 : decode prog_70_method_9_code 139 = .ok (.if_icmp .le 52, 3) := by decide +kernel
theorem d2_142 : decode prog_70_method_9_code 142 = .ok (.iload_n 0, 1) := by decide +kernel
theorem d2_143 : decode prog_70_method_9_code 143 = .ok (.sipush 12289, 3) := by decide +kernel
theorem d2_146 : decode prog_70_method_9_code 146 = .ok (.if_icmp .lt 9, 3) := by decide +kernel
theorem d2_149 : decode prog_70_method_9_code 149 = .ok (.iload_n 0, 1) := by decide +kernel
theorem d2_150 : decode prog_70_method_9_code 150 = .ok (.ldc 75, 2) := by decide +kernel
theorem d2_152 : decode prog_70_method_9_code 152 = .ok (.if_icmp .le 39, 3) := by decide +kernel
theorem d2_155 : decode prog_70_method_9_code 155 = .ok (.iload_n 0, 1) := by decide +kernel
theorem d2_156 : decode prog_70_method_9_code 156 = .ok (.ldc 80, 2) := by decide +kernel
theorem d2_158 : decode prog_70_method_9_code 158 = .ok (.if_icmp .lt 9, 3) := by decide +kernel
theorem d2_161 : decode prog_70_method_9_code 161 = .ok (.iload_n 0, 1) := by decide +kernel
theorem d2_162 : decode prog_70_method_9_code 162 = .ok (.ldc 81, 2) := by decide +kernel
theorem d2_164 : decode prog_70_method_9_code 164 = .ok (.if_icmp .le 27, 3) := by decide +kernel
theorem d2_167 : decode prog_70_method_9_code 167 = .ok (.iload_n 0, 1) := by decide +kernel
theorem d2_168 : decode prog_70_method_9_code 168 = .ok (.ldc 82, 2) := by decide +kernel
theorem d2_170 : decode prog_70_method_9_code 170 = .ok (.if_icmp .lt 9, 3) := by decide +kernel
theorem d2_173 : decode prog_70_method_9_code 173 = .ok (.iload_n 0, 1) := by decide +kernel
theorem d2_174 : decode prog_70_method_9_code 174 = .ok (.ldc 77, 2) := by decide +kernel
theorem d2_176 : decode prog_70_method_9_code 176 = .ok (.if_icmp .le 15, 3) := by decide +kernel
theorem d2_179 : decode prog_70_method_9_code 179 = .ok (.iload_n 0, 1) := by decide +kernel
theorem d2_180 : decode prog_70_method_9_code 180 = .ok (.ldc 78, 2) := by decide +kernel
theorem d2_182 : decode prog_70_method_9_code 182 = .ok (.if_icmp .lt 13, 3) := by decide +kernel
theorem d2_185 : decode prog_70_method_9_code 185 = .ok (.iload_n 0, 1) := by decide +kernel
theorem d2_186 : decode prog_70_method_9_code 186 = .ok (.ldc 83, 2) := by decide +kernel
theorem d2_188 : decode prog_70_method_9_code 188 = .ok (.if_icmp .gt 7, 3) := by decide +kernel
theorem d2_191 : decode prog_70_method_9_code 191 = .ok (.iconst 1, 1) := by decide +kernel
theorem d2_192 : decode prog_70_method_9_code 192 = .ok (.goto 4, 3) := by decide +kernel
theorem d2_195 : decode prog_70_method_9_code 195 = .ok (.iconst 0, 1) := by decide +kernel
theorem d2_196 : decode prog_70_method_9_code 196 = .ok (.ireturn, 1) := by decide +kernel
theorem pn_2 : plainName "com/example/nodetest/nodetest/xdm/Lexical" = true := by first | (simp [plainName, overriddenIn]; done) | decide +kernel
theorem ef_2 (m : MethodId) (p0 : Int32) : entryFrame m #[(.int p0)] 1 = mkF m 0 #[.val (.int p0)] [] := by first | (simp [entryFrame, mkF, argsToLocals, Value.category]; done) | rfl
def b2_179 (i0 : Int32) : Int32 := (if i0 < (65536 : Int32) then (0 : Int32) else (if (983039 : Int32) < i0 then (0 : Int32) else (1 : Int32)))
set_option maxRecDepth 65536 in
set_option maxHeartbeats 40000000 in
theorem bl2_179 {p : Program} {l : Launch} {e : Env} {R : Room} {s : State} {m : MethodId} {args : Array Value} {below : List Frame} {meth : Method} {c : Code} {T : State} {locs : List Loc} {cells slots : Nat} {Z : State} {a0 : Array Value} (i0 : Int32) (X0 : Stand p l e R s m args below meth c T locs cells slots) (hx : p.tables.exec = Jvm.exec) (hZ : Z.Warmed39 s.vm) (hw : ∀ d ∈ tables_1, d.before a0 Z = true) (hby : c.code = prog_70_method_9_code) (hown : s.vm.findClass "com/example/nodetest/nodetest/xdm/Lexical" = some m.cls) (hrt : meth.sig.returnType = some .boolean) {fs : List Frame} (hr : ∀ (f : JFrame) (acts : List Action), f.method = m → f.locked = none → f.entered = [] → (doReturn e (T.setTop f) acts (some (.int (b2_179 i0)))).1 = T.setFrames fs) :
    Steps p.tables e below (T.setTop (mkF m 179 #[.val (.int i0)] [])) (T.setFrames fs) := by
  refine XS.iloadN X0.here hx rfl (hb hby d2_179) rfl ?_
  show Steps p.tables e below (T.setTop (mkF m 180 #[.val (.int i0)] [(.int i0)])) _
  refine X0.ldcInt hx hown (mvT hZ (hw _ (List.mem_of_getElem? (i := 23) rfl))) (g := (mkF m 180 #[.val (.int i0)] [(.int i0)])) rfl (hb hby d2_180) _ ?_
  show Steps p.tables e below (T.setTop (mkF m 182 #[.val (.int i0)] [(.int (65536 : Int32)), (.int i0)])) _
  by_cases hc0 : i0 < (65536 : Int32)
  · rw [show b2_179 i0 = (0 : Int32) from by rw [b2_179, if_pos hc0]] at hr
    refine XS.icmpYes X0.here hx rfl (pc0 := 182) (pc' := 195) rfl (hb hby d2_182) rfl (tlt hc0).1 (by decide) (by decide) ?_
    show Steps p.tables e below (T.setTop (mkF m 195 #[.val (.int i0)] [])) _
    refine XS.iconst X0.here hx rfl (hb hby d2_195) ?_
    show Steps p.tables e below (T.setTop (mkF m 196 #[.val (.int i0)] [(.int (0 : Int32))])) _
    exact retN X0 hx (t := .boolean) hrt (by simp) (hb hby d2_196) hr
  · refine XS.icmpNo X0.here hx rfl (hb hby d2_182) rfl (flt hc0).1 ?_
    show Steps p.tables e below (T.setTop (mkF m 185 #[.val (.int i0)] [])) _
    refine XS.iloadN X0.here hx rfl (hb hby d2_185) rfl ?_
    show Steps p.tables e below (T.setTop (mkF m 186 #[.val (.int i0)] [(.int i0)])) _
    refine X0.ldcInt hx hown (mvT hZ (hw _ (List.mem_of_getElem? (i := 34) rfl))) (g := (mkF m 186 #[.val (.int i0)] [(.int i0)])) rfl (hb hby d2_186) _ ?_
    show Steps p.tables e below (T.setTop (mkF m 188 #[.val (.int i0)] [(.int (983039 : Int32)), (.int i0)])) _
    by_cases hc1 : (983039 : Int32) < i0
    · rw [show b2_179 i0 = (0 : Int32) from by rw [b2_179, if_neg hc0, if_pos hc1]] at hr
      refine XS.icmpYes X0.here hx rfl (pc0 := 188) (pc' := 195) rfl (hb hby d2_188) rfl (tlt hc1).2.2.1 (by decide) (by decide) ?_
      show Steps p.tables e below (T.setTop (mkF m 195 #[.val (.int i0)] [])) _
      refine XS.iconst X0.here hx rfl (hb hby d2_195) ?_
      show Steps p.tables e below (T.setTop (mkF m 196 #[.val (.int i0)] [(.int (0 : Int32))])) _
      exact retN X0 hx (t := .boolean) hrt (by simp) (hb hby d2_196) hr
    · rw [show b2_179 i0 = (1 : Int32) from by rw [b2_179, if_neg hc0, if_neg hc1]] at hr
      refine XS.icmpNo X0.here hx rfl (hb hby d2_188) rfl (flt hc1).2.2.1 ?_
      show Steps p.tables e below (T.setTop (mkF m 191 #[.val (.int i0)] [])) _
      refine XS.iconst X0.here hx rfl (hb hby d2_191) ?_
      show Steps p.tables e below (T.setTop (mkF m 192 #[.val (.int i0)] [(.int (1 : Int32))])) _
      refine XS.goto X0.here hx rfl (pc0 := 192) (pc' := 196) rfl (hb hby d2_192) (by decide) (by decide) ?_
      show Steps p.tables e below (T.setTop (mkF m 196 #[.val (.int i0)] [(.int (1 : Int32))])) _
      exact retN X0 hx (t := .boolean) hrt (by simp) (hb hby d2_196) hr
def b2_167 (i0 : Int32) : Int32 := (if i0 < (65008 : Int32) then (b2_179 i0) else (if (65533 : Int32) < i0 then (b2_179 i0) else (1 : Int32)))
set_option maxRecDepth 65536 in
set_option maxHeartbeats 40000000 in
theorem bl2_167 {p : Program} {l : Launch} {e : Env} {R : Room} {s : State} {m : MethodId} {args : Array Value} {below : List Frame} {meth : Method} {c : Code} {T : State} {locs : List Loc} {cells slots : Nat} {Z : State} {a0 : Array Value} (i0 : Int32) (X0 : Stand p l e R s m args below meth c T locs cells slots) (hx : p.tables.exec = Jvm.exec) (hZ : Z.Warmed39 s.vm) (hw : ∀ d ∈ tables_1, d.before a0 Z = true) (hby : c.code = prog_70_method_9_code) (hown : s.vm.findClass "com/example/nodetest/nodetest/xdm/Lexical" = some m.cls) (hrt : meth.sig.returnType = some .boolean) {fs : List Frame} (hr : ∀ (f : JFrame) (acts : List Action), f.method = m → f.locked = none → f.entered = [] → (doReturn e (T.setTop f) acts (some (.int (b2_167 i0)))).1 = T.setFrames fs) :
    Steps p.tables e below (T.setTop (mkF m 167 #[.val (.int i0)] [])) (T.setFrames fs) := by
  refine XS.iloadN X0.here hx rfl (hb hby d2_167) rfl ?_
  show Steps p.tables e below (T.setTop (mkF m 168 #[.val (.int i0)] [(.int i0)])) _
  refine X0.ldcInt hx hown (mvT hZ (hw _ (List.mem_of_getElem? (i := 22) rfl))) (g := (mkF m 168 #[.val (.int i0)] [(.int i0)])) rfl (hb hby d2_168) _ ?_
  show Steps p.tables e below (T.setTop (mkF m 170 #[.val (.int i0)] [(.int (65008 : Int32)), (.int i0)])) _
  by_cases hc0 : i0 < (65008 : Int32)
  · rw [show b2_167 i0 = b2_179 i0 from by rw [b2_167, if_pos hc0]] at hr
    refine XS.icmpYes X0.here hx rfl (pc0 := 170) (pc' := 179) rfl (hb hby d2_170) rfl (tlt hc0).1 (by decide) (by decide) ?_
    exact bl2_179 i0 X0 hx hZ hw hby hown hrt hr
  · refine XS.icmpNo X0.here hx rfl (hb hby d2_170) rfl (flt hc0).1 ?_
    show Steps p.tables e below (T.setTop (mkF m 173 #[.val (.int i0)] [])) _
    refine XS.iloadN X0.here hx rfl (hb hby d2_173) rfl ?_
    show Steps p.tables e below (T.setTop (mkF m 174 #[.val (.int i0)] [(.int i0)])) _
    refine X0.ldcInt hx hown (mvT hZ (hw _ (List.mem_of_getElem? (i := 33) rfl))) (g := (mkF m 174 #[.val (.int i0)] [(.int i0)])) rfl (hb hby d2_174) _ ?_
    show Steps p.tables e below (T.setTop (mkF m 176 #[.val (.int i0)] [(.int (65533 : Int32)), (.int i0)])) _
    by_cases hc1 : (65533 : Int32) < i0
    · rw [show b2_167 i0 = b2_179 i0 from by rw [b2_167, if_neg hc0, if_pos hc1]] at hr
      refine XS.icmpNo X0.here hx rfl (hb hby d2_176) rfl (tlt hc1).2.2.2 ?_
      exact bl2_179 i0 X0 hx hZ hw hby hown hrt hr
    · rw [show b2_167 i0 = (1 : Int32) from by rw [b2_167, if_neg hc0, if_neg hc1]] at hr
      refine XS.icmpYes X0.here hx rfl (pc0 := 176) (pc' := 191) rfl (hb hby d2_176) rfl (flt hc1).2.2.2 (by decide) (by decide) ?_
      show Steps p.tables e below (T.setTop (mkF m 191 #[.val (.int i0)] [])) _
      refine XS.iconst X0.here hx rfl (hb hby d2_191) ?_
      show Steps p.tables e below (T.setTop (mkF m 192 #[.val (.int i0)] [(.int (1 : Int32))])) _
      refine XS.goto X0.here hx rfl (pc0 := 192) (pc' := 196) rfl (hb hby d2_192) (by decide) (by decide) ?_
      show Steps p.tables e below (T.setTop (mkF m 196 #[.val (.int i0)] [(.int (1 : Int32))])) _
      exact retN X0 hx (t := .boolean) hrt (by simp) (hb hby d2_196) hr
def b2_155 (i0 : Int32) : Int32 := (if i0 < (63744 : Int32) then (b2_167 i0) else (if (64975 : Int32) < i0 then (b2_167 i0) else (1 : Int32)))
set_option maxRecDepth 65536 in
set_option maxHeartbeats 40000000 in
theorem bl2_155 {p : Program} {l : Launch} {e : Env} {R : Room} {s : State} {m : MethodId} {args : Array Value} {below : List Frame} {meth : Method} {c : Code} {T : State} {locs : List Loc} {cells slots : Nat} {Z : State} {a0 : Array Value} (i0 : Int32) (X0 : Stand p l e R s m args below meth c T locs cells slots) (hx : p.tables.exec = Jvm.exec) (hZ : Z.Warmed39 s.vm) (hw : ∀ d ∈ tables_1, d.before a0 Z = true) (hby : c.code = prog_70_method_9_code) (hown : s.vm.findClass "com/example/nodetest/nodetest/xdm/Lexical" = some m.cls) (hrt : meth.sig.returnType = some .boolean) {fs : List Frame} (hr : ∀ (f : JFrame) (acts : List Action), f.method = m → f.locked = none → f.entered = [] → (doReturn e (T.setTop f) acts (some (.int (b2_155 i0)))).1 = T.setFrames fs) :
    Steps p.tables e below (T.setTop (mkF m 155 #[.val (.int i0)] [])) (T.setFrames fs) := by
  refine XS.iloadN X0.here hx rfl (hb hby d2_155) rfl ?_
  show Steps p.tables e below (T.setTop (mkF m 156 #[.val (.int i0)] [(.int i0)])) _
  refine X0.ldcInt hx hown (mvT hZ (hw _ (List.mem_of_getElem? (i := 21) rfl))) (g := (mkF m 156 #[.val (.int i0)] [(.int i0)])) rfl (hb hby d2_156) _ ?_
  show Steps p.tables e below (T.setTop (mkF m 158 #[.val (.int i0)] [(.int (63744 : Int32)), (.int i0)])) _
  by_cases hc0 : i0 < (63744 : Int32)
  · rw [show b2_155 i0 = b2_167 i0 from by rw [b2_155, if_pos hc0]] at hr
    refine XS.icmpYes X0.here hx rfl (pc0 := 158) (pc' := 167) rfl (hb hby d2_158) rfl (tlt hc0).1 (by decide) (by decide) ?_
    exact bl2_167 i0 X0 hx hZ hw hby hown hrt hr
  · refine XS.icmpNo X0.here hx rfl (hb hby d2_158) rfl (flt hc0).1 ?_
    show Steps p.tables e below (T.setTop (mkF m 161 #[.val (.int i0)] [])) _
    refine XS.iloadN X0.here hx rfl (hb hby d2_161) rfl ?_
    show Steps p.tables e below (T.setTop (mkF m 162 #[.val (.int i0)] [(.int i0)])) _
    refine X0.ldcInt hx hown (mvT hZ (hw _ (List.mem_of_getElem? (i := 32) rfl))) (g := (mkF m 162 #[.val (.int i0)] [(.int i0)])) rfl (hb hby d2_162) _ ?_
    show Steps p.tables e below (T.setTop (mkF m 164 #[.val (.int i0)] [(.int (64975 : Int32)), (.int i0)])) _
    by_cases hc1 : (64975 : Int32) < i0
    · rw [show b2_155 i0 = b2_167 i0 from by rw [b2_155, if_neg hc0, if_pos hc1]] at hr
      refine XS.icmpNo X0.here hx rfl (hb hby d2_164) rfl (tlt hc1).2.2.2 ?_
      exact bl2_167 i0 X0 hx hZ hw hby hown hrt hr
    · rw [show b2_155 i0 = (1 : Int32) from by rw [b2_155, if_neg hc0, if_neg hc1]] at hr
      refine XS.icmpYes X0.here hx rfl (pc0 := 164) (pc' := 191) rfl (hb hby d2_164) rfl (flt hc1).2.2.2 (by decide) (by decide) ?_
      show Steps p.tables e below (T.setTop (mkF m 191 #[.val (.int i0)] [])) _
      refine XS.iconst X0.here hx rfl (hb hby d2_191) ?_
      show Steps p.tables e below (T.setTop (mkF m 192 #[.val (.int i0)] [(.int (1 : Int32))])) _
      refine XS.goto X0.here hx rfl (pc0 := 192) (pc' := 196) rfl (hb hby d2_192) (by decide) (by decide) ?_
      show Steps p.tables e below (T.setTop (mkF m 196 #[.val (.int i0)] [(.int (1 : Int32))])) _
      exact retN X0 hx (t := .boolean) hrt (by simp) (hb hby d2_196) hr
def b2_142 (i0 : Int32) : Int32 := (if i0 < (12289 : Int32) then (b2_155 i0) else (if (55295 : Int32) < i0 then (b2_155 i0) else (1 : Int32)))
set_option maxRecDepth 65536 in
set_option maxHeartbeats 40000000 in
theorem bl2_142 {p : Program} {l : Launch} {e : Env} {R : Room} {s : State} {m : MethodId} {args : Array Value} {below : List Frame} {meth : Method} {c : Code} {T : State} {locs : List Loc} {cells slots : Nat} {Z : State} {a0 : Array Value} (i0 : Int32) (X0 : Stand p l e R s m args below meth c T locs cells slots) (hx : p.tables.exec = Jvm.exec) (hZ : Z.Warmed39 s.vm) (hw : ∀ d ∈ tables_1, d.before a0 Z = true) (hby : c.code = prog_70_method_9_code) (hown : s.vm.findClass "com/example/nodetest/nodetest/xdm/Lexical" = some m.cls) (hrt : meth.sig.returnType = some .boolean) {fs : List Frame} (hr : ∀ (f : JFrame) (acts : List Action), f.method = m → f.locked = none → f.entered = [] → (doReturn e (T.setTop f) acts (some (.int (b2_142 i0)))).1 = T.setFrames fs) :
    Steps p.tables e below (T.setTop (mkF m 142 #[.val (.int i0)] [])) (T.setFrames fs) := by
  refine XS.iloadN X0.here hx rfl (hb hby d2_142) rfl ?_
  show Steps p.tables e below (T.setTop (mkF m 143 #[.val (.int i0)] [(.int i0)])) _
  refine XS.sipush X0.here hx rfl (hb hby d2_143) ?_
  show Steps p.tables e below (T.setTop (mkF m 146 #[.val (.int i0)] [(.int (12289 : Int32)), (.int i0)])) _
  by_cases hc0 : i0 < (12289 : Int32)
  · rw [show b2_142 i0 = b2_155 i0 from by rw [b2_142, if_pos hc0]] at hr
    refine XS.icmpYes X0.here hx rfl (pc0 := 146) (pc' := 155) rfl (hb hby d2_146) rfl (tlt hc0).1 (by decide) (by decide) ?_
    exact bl2_155 i0 X0 hx hZ hw hby hown hrt hr
  · refine XS.icmpNo X0.here hx rfl (hb hby d2_146) rfl (flt hc0).1 ?_
    show Steps p.tables e below (T.setTop (mkF m 149 #[.val (.int i0)] [])) _
    refine XS.iloadN X0.here hx rfl (hb hby d2_149) rfl ?_
    show Steps p.tables e below (T.setTop (mkF m 150 #[.val (.int i0)] [(.int i0)])) _
    refine X0.ldcInt hx hown (mvT hZ (hw _ (List.mem_of_getElem? (i := 31) rfl))) (g := (mkF m 150 #[.val (.int i0)] [(.int i0)])) rfl (hb hby d2_150) _ ?_
    show Steps p.tables e below (T.setTop (mkF m 152 #[.val (.int i0)] [(.int (55295 : Int32)), (.int i0)])) _
    by_cases hc1 : (55295 : Int32) < i0
    · rw [show b2_142 i0 = b2_155 i0 from by rw [b2_142, if_neg hc0, if_pos hc1]] at hr
      refine XS.icmpNo X0.here hx rfl (hb hby d2_152) rfl (tlt hc1).2.2.2 ?_
      exact bl2_155 i0 X0 hx hZ hw hby hown hrt hr
    · rw [show b2_142 i0 = (1 : Int32) from by rw [b2_142, if_neg hc0, if_neg hc1]] at hr
      refine XS.icmpYes X0.here hx rfl (pc0 := 152) (pc' := 191) rfl (hb hby d2_152) rfl (flt hc1).2.2.2 (by decide) (by decide) ?_
      show Steps p.tables e below (T.setTop (mkF m 191 #[.val (.int i0)] [])) _
      refine XS.iconst X0.here hx rfl (hb hby d2_191) ?_
      show Steps p.tables e below (T.setTop (mkF m 192 #[.val (.int i0)] [(.int (1 : Int32))])) _
      refine XS.goto X0.here hx rfl (pc0 := 192) (pc' := 196) rfl (hb hby d2_192) (by decide) (by decide) ?_
      show Steps p.tables e below (T.setTop (mkF m 196 #[.val (.int i0)] [(.int (1 : Int32))])) _
      exact retN X0 hx (t := .boolean) hrt (by simp) (hb hby d2_196) hr
def b2_128 (i0 : Int32) : Int32 := (if i0 < (11264 : Int32) then (b2_142 i0) else (if (12271 : Int32) < i0 then (b2_142 i0) else (1 : Int32)))
set_option maxRecDepth 65536 in
set_option maxHeartbeats 40000000 in
theorem bl2_128 {p : Program} {l : Launch} {e : Env} {R : Room} {s : State} {m : MethodId} {args : Array Value} {below : List Frame} {meth : Method} {c : Code} {T : State} {locs : List Loc} {cells slots : Nat} {Z : State} {a0 : Array Value} (i0 : Int32) (X0 : Stand p l e R s m args below meth c T locs cells slots) (hx : p.tables.exec = Jvm.exec) (hZ : Z.Warmed39 s.vm) (hw : ∀ d ∈ tables_1, d.before a0 Z = true) (hby : c.code = prog_70_method_9_code) (hown : s.vm.findClass "com/example/nodetest/nodetest/xdm/Lexical" = some m.cls) (hrt : meth.sig.returnType = some .boolean) {fs : List Frame} (hr : ∀ (f : JFrame) (acts : List Action), f.method = m → f.locked = none → f.entered = [] → (doReturn e (T.setTop f) acts (some (.int (b2_128 i0)))).1 = T.setFrames fs) :
    Steps p.tables e below (T.setTop (mkF m 128 #[.val (.int i0)] [])) (T.setFrames fs) := by
  refine XS.iloadN X0.here hx rfl (hb hby d2_128) rfl ?_
  show Steps p.tables e below (T.setTop (mkF m 129 #[.val (.int i0)] [(.int i0)])) _
  refine XS.sipush X0.here hx rfl (hb hby d2_129) ?_
  show Steps p.tables e below (T.setTop (mkF m 132 #[.val (.int i0)] [(.int (11264 : Int32)), (.int i0)])) _
  by_cases hc0 : i0 < (11264 : Int32)
  · rw [show b2_128 i0 = b2_142 i0 from by rw [b2_128, if_pos hc0]] at hr
    refine XS.icmpYes X0.here hx rfl (pc0 := 132) (pc' := 142) rfl (hb hby d2_132) rfl (tlt hc0).1 (by decide) (by decide) ?_
    exact bl2_142 i0 X0 hx hZ hw hby hown hrt hr
  · refine XS.icmpNo X0.here hx rfl (hb hby d2_132) rfl (flt hc0).1 ?_
    show Steps p.tables e below (T.setTop (mkF m 135 #[.val (.int i0)] [])) _
    refine XS.iloadN X0.here hx rfl (hb hby d2_135) rfl ?_
    show Steps p.tables e below (T.setTop (mkF m 136 #[.val (.int i0)] [(.int i0)])) _
    refine XS.sipush X0.here hx rfl (hb hby d2_136) ?_
    show Steps p.tables e below (T.setTop (mkF m 139 #[.val (.int i0)] [(.int (12271 : Int32)), (.int i0)])) _
    by_cases hc1 : (12271 : Int32) < i0
    · rw [show b2_128 i0 = b2_142 i0 from by rw [b2_128, if_neg hc0, if_pos hc1]] at hr
      refine XS.icmpNo X0.here hx rfl (hb hby d2_139) rfl (tlt hc1).2.2.2 ?_
      exact bl2_142 i0 X0 hx hZ hw hby hown hrt hr
    · rw [show b2_128 i0 = (1 : Int32) from by rw [b2_128, if_neg hc0, if_neg hc1]] at hr
      refine XS.icmpYes X0.here hx rfl (pc0 := 139) (pc' := 191) rfl (hb hby d2_139) rfl (flt hc1).2.2.2 (by decide) (by decide) ?_
      show Steps p.tables e below (T.setTop (mkF m 191 #[.val (.int i0)] [])) _
      refine XS.iconst X0.here hx rfl (hb hby d2_191) ?_
      show Steps p.tables e below (T.setTop (mkF m 192 #[.val (.int i0)] [(.int (1 : Int32))])) _
      refine XS.goto X0.here hx rfl (pc0 := 192) (pc' := 196) rfl (hb hby d2_192) (by decide) (by decide) ?_
      show Steps p.tables e below (T.setTop (mkF m 196 #[.val (.int i0)] [(.int (1 : Int32))])) _
      exact retN X0 hx (t := .boolean) hrt (by simp) (hb hby d2_196) hr
def b2_114 (i0 : Int32) : Int32 := (if i0 < (8304 : Int32) then (b2_128 i0) else (if (8591 : Int32) < i0 then (b2_128 i0) else (1 : Int32)))
set_option maxRecDepth 65536 in
set_option maxHeartbeats 40000000 in
theorem bl2_114 {p : Program} {l : Launch} {e : Env} {R : Room} {s : State} {m : MethodId} {args : Array Value} {below : List Frame} {meth : Method} {c : Code} {T : State} {locs : List Loc} {cells slots : Nat} {Z : State} {a0 : Array Value} (i0 : Int32) (X0 : Stand p l e R s m args below meth c T locs cells slots) (hx : p.tables.exec = Jvm.exec) (hZ : Z.Warmed39 s.vm) (hw : ∀ d ∈ tables_1, d.before a0 Z = true) (hby : c.code = prog_70_method_9_code) (hown : s.vm.findClass "com/example/nodetest/nodetest/xdm/Lexical" = some m.cls) (hrt : meth.sig.returnType = some .boolean) {fs : List Frame} (hr : ∀ (f : JFrame) (acts : List Action), f.method = m → f.locked = none → f.entered = [] → (doReturn e (T.setTop f) acts (some (.int (b2_114 i0)))).1 = T.setFrames fs) :
    Steps p.tables e below (T.setTop (mkF m 114 #[.val (.int i0)] [])) (T.setFrames fs) := by
  refine XS.iloadN X0.here hx rfl (hb hby d2_114) rfl ?_
  show Steps p.tables e below (T.setTop (mkF m 115 #[.val (.int i0)] [(.int i0)])) _
  refine XS.sipush X0.here hx rfl (hb hby d2_115) ?_
  show Steps p.tables e below (T.setTop (mkF m 118 #[.val (.int i0)] [(.int (8304 : Int32)), (.int i0)])) _
  by_cases hc0 : i0 < (8304 : Int32)
  · rw [show b2_114 i0 = b2_128 i0 from by rw [b2_114, if_pos hc0]] at hr
    refine XS.icmpYes X0.here hx rfl (pc0 := 118) (pc' := 128) rfl (hb hby d2_118) rfl (tlt hc0).1 (by decide) (by decide) ?_
    exact bl2_128 i0 X0 hx hZ hw hby hown hrt hr
  · refine XS.icmpNo X0.here hx rfl (hb hby d2_118) rfl (flt hc0).1 ?_
    show Steps p.tables e below (T.setTop (mkF m 121 #[.val (.int i0)] [])) _
    refine XS.iloadN X0.here hx rfl (hb hby d2_121) rfl ?_
    show Steps p.tables e below (T.setTop (mkF m 122 #[.val (.int i0)] [(.int i0)])) _
    refine XS.sipush X0.here hx rfl (hb hby d2_122) ?_
    show Steps p.tables e below (T.setTop (mkF m 125 #[.val (.int i0)] [(.int (8591 : Int32)), (.int i0)])) _
    by_cases hc1 : (8591 : Int32) < i0
    · rw [show b2_114 i0 = b2_128 i0 from by rw [b2_114, if_neg hc0, if_pos hc1]] at hr
      refine XS.icmpNo X0.here hx rfl (hb hby d2_125) rfl (tlt hc1).2.2.2 ?_
      exact bl2_128 i0 X0 hx hZ hw hby hown hrt hr
    · rw [show b2_114 i0 = (1 : Int32) from by rw [b2_114, if_neg hc0, if_neg hc1]] at hr
      refine XS.icmpYes X0.here hx rfl (pc0 := 125) (pc' := 191) rfl (hb hby d2_125) rfl (flt hc1).2.2.2 (by decide) (by decide) ?_
      show Steps p.tables e below (T.setTop (mkF m 191 #[.val (.int i0)] [])) _
      refine XS.iconst X0.here hx rfl (hb hby d2_191) ?_
      show Steps p.tables e below (T.setTop (mkF m 192 #[.val (.int i0)] [(.int (1 : Int32))])) _
      refine XS.goto X0.here hx rfl (pc0 := 192) (pc' := 196) rfl (hb hby d2_192) (by decide) (by decide) ?_
      show Steps p.tables e below (T.setTop (mkF m 196 #[.val (.int i0)] [(.int (1 : Int32))])) _
      exact retN X0 hx (t := .boolean) hrt (by simp) (hb hby d2_196) hr
def b2_100 (i0 : Int32) : Int32 := (if i0 < (8204 : Int32) then (b2_114 i0) else (if (8205 : Int32) < i0 then (b2_114 i0) else (1 : Int32)))
set_option maxRecDepth 65536 in
set_option maxHeartbeats 40000000 in
theorem bl2_100 {p : Program} {l : Launch} {e : Env} {R : Room} {s : State} {m : MethodId} {args : Array Value} {below : List Frame} {meth : Method} {c : Code} {T : State} {locs : List Loc} {cells slots : Nat} {Z : State} {a0 : Array Value} (i0 : Int32) (X0 : Stand p l e R s m args below meth c T locs cells slots) (hx : p.tables.exec = Jvm.exec) (hZ : Z.Warmed39 s.vm) (hw : ∀ d ∈ tables_1, d.before a0 Z = true) (hby : c.code = prog_70_method_9_code) (hown : s.vm.findClass "com/example/nodetest/nodetest/xdm/Lexical" = some m.cls) (hrt : meth.sig.returnType = some .boolean) {fs : List Frame} (hr : ∀ (f : JFrame) (acts : List Action), f.method = m → f.locked = none → f.entered = [] → (doReturn e (T.setTop f) acts (some (.int (b2_100 i0)))).1 = T.setFrames fs) :
    Steps p.tables e below (T.setTop (mkF m 100 #[.val (.int i0)] [])) (T.setFrames fs) := by
  refine XS.iloadN X0.here hx rfl (hb hby d2_100) rfl ?_
  show Steps p.tables e below (T.setTop (mkF m 101 #[.val (.int i0)] [(.int i0)])) _
  refine XS.sipush X0.here hx rfl (hb hby d2_101) ?_
  show Steps p.tables e below (T.setTop (mkF m 104 #[.val (.int i0)] [(.int (8204 : Int32)), (.int i0)])) _
  by_cases hc0 : i0 < (8204 : Int32)
  · rw [show b2_100 i0 = b2_114 i0 from by rw [b2_100, if_pos hc0]] at hr
    refine XS.icmpYes X0.here hx rfl (pc0 := 104) (pc' := 114) rfl (hb hby d2_104) rfl (tlt hc0).1 (by decide) (by decide) ?_
    exact bl2_114 i0 X0 hx hZ hw hby hown hrt hr
  · refine XS.icmpNo X0.here hx rfl (hb hby d2_104) rfl (flt hc0).1 ?_
    show Steps p.tables e below (T.setTop (mkF m 107 #[.val (.int i0)] [])) _
    refine XS.iloadN X0.here hx rfl (hb hby d2_107) rfl ?_
    show Steps p.tables e below (T.setTop (mkF m 108 #[.val (.int i0)] [(.int i0)])) _
    refine XS.sipush X0.here hx rfl (hb hby d2_108) ?_
    show Steps p.tables e below (T.setTop (mkF m 111 #[.val (.int i0)] [(.int (8205 : Int32)), (.int i0)])) _
    by_cases hc1 : (8205 : Int32) < i0
    · rw [show b2_100 i0 = b2_114 i0 from by rw [b2_100, if_neg hc0, if_pos hc1]] at hr
      refine XS.icmpNo X0.here hx rfl (hb hby d2_111) rfl (tlt hc1).2.2.2 ?_
      exact bl2_114 i0 X0 hx hZ hw hby hown hrt hr
    · rw [show b2_100 i0 = (1 : Int32) from by rw [b2_100, if_neg hc0, if_neg hc1]] at hr
      refine XS.icmpYes X0.here hx rfl (pc0 := 111) (pc' := 191) rfl (hb hby d2_111) rfl (flt hc1).2.2.2 (by decide) (by decide) ?_
      show Steps p.tables e below (T.setTop (mkF m 191 #[.val (.int i0)] [])) _
      refine XS.iconst X0.here hx rfl (hb hby d2_191) ?_
      show Steps p.tables e below (T.setTop (mkF m 192 #[.val (.int i0)] [(.int (1 : Int32))])) _
      refine XS.goto X0.here hx rfl (pc0 := 192) (pc' := 196) rfl (hb hby d2_192) (by decide) (by decide) ?_
      show Steps p.tables e below (T.setTop (mkF m 196 #[.val (.int i0)] [(.int (1 : Int32))])) _
      exact retN X0 hx (t := .boolean) hrt (by simp) (hb hby d2_196) hr
def b2_86 (i0 : Int32) : Int32 := (if i0 < (895 : Int32) then (b2_100 i0) else (if (8191 : Int32) < i0 then (b2_100 i0) else (1 : Int32)))
set_option maxRecDepth 65536 in
set_option maxHeartbeats 40000000 in
theorem bl2_86 {p : Program} {l : Launch} {e : Env} {R : Room} {s : State} {m : MethodId} {args : Array Value} {below : List Frame} {meth : Method} {c : Code} {T : State} {locs : List Loc} {cells slots : Nat} {Z : State} {a0 : Array Value} (i0 : Int32) (X0 : Stand p l e R s m args below meth c T locs cells slots) (hx : p.tables.exec = Jvm.exec) (hZ : Z.Warmed39 s.vm) (hw : ∀ d ∈ tables_1, d.before a0 Z = true) (hby : c.code = prog_70_method_9_code) (hown : s.vm.findClass "com/example/nodetest/nodetest/xdm/Lexical" = some m.cls) (hrt : meth.sig.returnType = some .boolean) {fs : List Frame} (hr : ∀ (f : JFrame) (acts : List Action), f.method = m → f.locked = none → f.entered = [] → (doReturn e (T.setTop f) acts (some (.int (b2_86 i0)))).1 = T.setFrames fs) :
    Steps p.tables e below (T.setTop (mkF m 86 #[.val (.int i0)] [])) (T.setFrames fs) := by
  refine XS.iloadN X0.here hx rfl (hb hby d2_86) rfl ?_
  show Steps p.tables e below (T.setTop (mkF m 87 #[.val (.int i0)] [(.int i0)])) _
  refine XS.sipush X0.here hx rfl (hb hby d2_87) ?_
  show Steps p.tables e below (T.setTop (mkF m 90 #[.val (.int i0)] [(.int (895 : Int32)), (.int i0)])) _
  by_cases hc0 : i0 < (895 : Int32)
  · rw [show b2_86 i0 = b2_100 i0 from by rw [b2_86, if_pos hc0]] at hr
    refine XS.icmpYes X0.here hx rfl (pc0 := 90) (pc' := 100) rfl (hb hby d2_90) rfl (tlt hc0).1 (by decide) (by decide) ?_
    exact bl2_100 i0 X0 hx hZ hw hby hown hrt hr
  · refine XS.icmpNo X0.here hx rfl (hb hby d2_90) rfl (flt hc0).1 ?_
    show Steps p.tables e below (T.setTop (mkF m 93 #[.val (.int i0)] [])) _
    refine XS.iloadN X0.here hx rfl (hb hby d2_93) rfl ?_
    show Steps p.tables e below (T.setTop (mkF m 94 #[.val (.int i0)] [(.int i0)])) _
    refine XS.sipush X0.here hx rfl (hb hby d2_94) ?_
    show Steps p.tables e below (T.setTop (mkF m 97 #[.val (.int i0)] [(.int (8191 : Int32)), (.int i0)])) _
    by_cases hc1 : (8191 : Int32) < i0
    · rw [show b2_86 i0 = b2_100 i0 from by rw [b2_86, if_neg hc0, if_pos hc1]] at hr
      refine XS.icmpNo X0.here hx rfl (hb hby d2_97) rfl (tlt hc1).2.2.2 ?_
      exact bl2_100 i0 X0 hx hZ hw hby hown hrt hr
    · rw [show b2_86 i0 = (1 : Int32) from by rw [b2_86, if_neg hc0, if_neg hc1]] at hr
      refine XS.icmpYes X0.here hx rfl (pc0 := 97) (pc' := 191) rfl (hb hby d2_97) rfl (flt hc1).2.2.2 (by decide) (by decide) ?_
      show Steps p.tables e below (T.setTop (mkF m 191 #[.val (.int i0)] [])) _
      refine XS.iconst X0.here hx rfl (hb hby d2_191) ?_
      show Steps p.tables e below (T.setTop (mkF m 192 #[.val (.int i0)] [(.int (1 : Int32))])) _
      refine XS.goto X0.here hx rfl (pc0 := 192) (pc' := 196) rfl (hb hby d2_192) (by decide) (by decide) ?_
      show Steps p.tables e below (T.setTop (mkF m 196 #[.val (.int i0)] [(.int (1 : Int32))])) _
      exact retN X0 hx (t := .boolean) hrt (by simp) (hb hby d2_196) hr
def b2_72 (i0 : Int32) : Int32 := (if i0 < (880 : Int32) then (b2_86 i0) else (if (893 : Int32) < i0 then (b2_86 i0) else (1 : Int32)))
set_option maxRecDepth 65536 in
set_option maxHeartbeats 40000000 in
theorem bl2_72 {p : Program} {l : Launch} {e : Env} {R : Room} {s : State} {m : MethodId} {args : Array Value} {below : List Frame} {meth : Method} {c : Code} {T : State} {locs : List Loc} {cells slots : Nat} {Z : State} {a0 : Array Value} (i0 : Int32) (X0 : Stand p l e R s m args below meth c T locs cells slots) (hx : p.tables.exec = Jvm.exec) (hZ : Z.Warmed39 s.vm) (hw : ∀ d ∈ tables_1, d.before a0 Z = true) (hby : c.code = prog_70_method_9_code) (hown : s.vm.findClass "com/example/nodetest/nodetest/xdm/Lexical" = some m.cls) (hrt : meth.sig.returnType = some .boolean) {fs : List Frame} (hr : ∀ (f : JFrame) (acts : List Action), f.method = m → f.locked = none → f.entered = [] → (doReturn e (T.setTop f) acts (some (.int (b2_72 i0)))).1 = T.setFrames fs) :
    Steps p.tables e below (T.setTop (mkF m 72 #[.val (.int i0)] [])) (T.setFrames fs) := by
  refine XS.iloadN X0.here hx rfl (hb hby d2_72) rfl ?_
  show Steps p.tables e below (T.setTop (mkF m 73 #[.val (.int i0)] [(.int i0)])) _
  refine XS.sipush X0.here hx rfl (hb hby d2_73) ?_
  show Steps p.tables e below (T.setTop (mkF m 76 #[.val (.int i0)] [(.int (880 : Int32)), (.int i0)])) _
  by_cases hc0 : i0 < (880 : Int32)
  · rw [show b2_72 i0 = b2_86 i0 from by rw [b2_72, if_pos hc0]] at hr
    refine XS.icmpYes X0.here hx rfl (pc0 := 76) (pc' := 86) rfl (hb hby d2_76) rfl (tlt hc0).1 (by decide) (by decide) ?_
    exact bl2_86 i0 X0 hx hZ hw hby hown hrt hr
  · refine XS.icmpNo X0.here hx rfl (hb hby d2_76) rfl (flt hc0).1 ?_
    show Steps p.tables e below (T.setTop (mkF m 79 #[.val (.int i0)] [])) _
    refine XS.iloadN X0.here hx rfl (hb hby d2_79) rfl ?_
    show Steps p.tables e below (T.setTop (mkF m 80 #[.val (.int i0)] [(.int i0)])) _
    refine XS.sipush X0.here hx rfl (hb hby d2_80) ?_
    show Steps p.tables e below (T.setTop (mkF m 83 #[.val (.int i0)] [(.int (893 : Int32)), (.int i0)])) _
    by_cases hc1 : (893 : Int32) < i0
    · rw [show b2_72 i0 = b2_86 i0 from by rw [b2_72, if_neg hc0, if_pos hc1]] at hr
      refine XS.icmpNo X0.here hx rfl (hb hby d2_83) rfl (tlt hc1).2.2.2 ?_
      exact bl2_86 i0 X0 hx hZ hw hby hown hrt hr
    · rw [show b2_72 i0 = (1 : Int32) from by rw [b2_72, if_neg hc0, if_neg hc1]] at hr
      refine XS.icmpYes X0.here hx rfl (pc0 := 83) (pc' := 191) rfl (hb hby d2_83) rfl (flt hc1).2.2.2 (by decide) (by decide) ?_
      show Steps p.tables e below (T.setTop (mkF m 191 #[.val (.int i0)] [])) _
      refine XS.iconst X0.here hx rfl (hb hby d2_191) ?_
      show Steps p.tables e below (T.setTop (mkF m 192 #[.val (.int i0)] [(.int (1 : Int32))])) _
      refine XS.goto X0.here hx rfl (pc0 := 192) (pc' := 196) rfl (hb hby d2_192) (by decide) (by decide) ?_
      show Steps p.tables e below (T.setTop (mkF m 196 #[.val (.int i0)] [(.int (1 : Int32))])) _
      exact retN X0 hx (t := .boolean) hrt (by simp) (hb hby d2_196) hr
def b2_58 (i0 : Int32) : Int32 := (if i0 < (248 : Int32) then (b2_72 i0) else (if (767 : Int32) < i0 then (b2_72 i0) else (1 : Int32)))
set_option maxRecDepth 65536 in
set_option maxHeartbeats 40000000 in
theorem bl2_58 {p : Program} {l : Launch} {e : Env} {R : Room} {s : State} {m : MethodId} {args : Array Value} {below : List Frame} {meth : Method} {c : Code} {T : State} {locs : List Loc} {cells slots : Nat} {Z : State} {a0 : Array Value} (i0 : Int32) (X0 : Stand p l e R s m args below meth c T locs cells slots) (hx : p.tables.exec = Jvm.exec) (hZ : Z.Warmed39 s.vm) (hw : ∀ d ∈ tables_1, d.before a0 Z = true) (hby : c.code = prog_70_method_9_code) (hown : s.vm.findClass "com/example/nodetest/nodetest/xdm/Lexical" = some m.cls) (hrt : meth.sig.returnType = some .boolean) {fs : List Frame} (hr : ∀ (f : JFrame) (acts : List Action), f.method = m → f.locked = none → f.entered = [] → (doReturn e (T.setTop f) acts (some (.int (b2_58 i0)))).1 = T.setFrames fs) :
    Steps p.tables e below (T.setTop (mkF m 58 #[.val (.int i0)] [])) (T.setFrames fs) := by
  refine XS.iloadN X0.here hx rfl (hb hby d2_58) rfl ?_
  show Steps p.tables e below (T.setTop (mkF m 59 #[.val (.int i0)] [(.int i0)])) _
  refine XS.sipush X0.here hx rfl (hb hby d2_59) ?_
  show Steps p.tables e below (T.setTop (mkF m 62 #[.val (.int i0)] [(.int (248 : Int32)), (.int i0)])) _
  by_cases hc0 : i0 < (248 : Int32)
  · rw [show b2_58 i0 = b2_72 i0 from by rw [b2_58, if_pos hc0]] at hr
    refine XS.icmpYes X0.here hx rfl (pc0 := 62) (pc' := 72) rfl (hb hby d2_62) rfl (tlt hc0).1 (by decide) (by decide) ?_
    exact bl2_72 i0 X0 hx hZ hw hby hown hrt hr
  · refine XS.icmpNo X0.here hx rfl (hb hby d2_62) rfl (flt hc0).1 ?_
    show Steps p.tables e below (T.setTop (mkF m 65 #[.val (.int i0)] [])) _
    refine XS.iloadN X0.here hx rfl (hb hby d2_65) rfl ?_
    show Steps p.tables e below (T.setTop (mkF m 66 #[.val (.int i0)] [(.int i0)])) _
    refine XS.sipush X0.here hx rfl (hb hby d2_66) ?_
    show Steps p.tables e below (T.setTop (mkF m 69 #[.val (.int i0)] [(.int (767 : Int32)), (.int i0)])) _
    by_cases hc1 : (767 : Int32) < i0
    · rw [show b2_58 i0 = b2_72 i0 from by rw [b2_58, if_neg hc0, if_pos hc1]] at hr
      refine XS.icmpNo X0.here hx rfl (hb hby d2_69) rfl (tlt hc1).2.2.2 ?_
      exact bl2_72 i0 X0 hx hZ hw hby hown hrt hr
    · rw [show b2_58 i0 = (1 : Int32) from by rw [b2_58, if_neg hc0, if_neg hc1]] at hr
      refine XS.icmpYes X0.here hx rfl (pc0 := 69) (pc' := 191) rfl (hb hby d2_69) rfl (flt hc1).2.2.2 (by decide) (by decide) ?_
      show Steps p.tables e below (T.setTop (mkF m 191 #[.val (.int i0)] [])) _
      refine XS.iconst X0.here hx rfl (hb hby d2_191) ?_
      show Steps p.tables e below (T.setTop (mkF m 192 #[.val (.int i0)] [(.int (1 : Int32))])) _
      refine XS.goto X0.here hx rfl (pc0 := 192) (pc' := 196) rfl (hb hby d2_192) (by decide) (by decide) ?_
      show Steps p.tables e below (T.setTop (mkF m 196 #[.val (.int i0)] [(.int (1 : Int32))])) _
      exact retN X0 hx (t := .boolean) hrt (by simp) (hb hby d2_196) hr
def b2_44 (i0 : Int32) : Int32 := (if i0 < (216 : Int32) then (b2_58 i0) else (if (246 : Int32) < i0 then (b2_58 i0) else (1 : Int32)))
set_option maxRecDepth 65536 in
set_option maxHeartbeats 40000000 in
theorem bl2_44 {p : Program} {l : Launch} {e : Env} {R : Room} {s : State} {m : MethodId} {args : Array Value} {below : List Frame} {meth : Method} {c : Code} {T : State} {locs : List Loc} {cells slots : Nat} {Z : State} {a0 : Array Value} (i0 : Int32) (X0 : Stand p l e R s m args below meth c T locs cells slots) (hx : p.tables.exec = Jvm.exec) (hZ : Z.Warmed39 s.vm) (hw : ∀ d ∈ tables_1, d.before a0 Z = true) (hby : c.code = prog_70_method_9_code) (hown : s.vm.findClass "com/example/nodetest/nodetest/xdm/Lexical" = some m.cls) (hrt : meth.sig.returnType = some .boolean) {fs : List Frame} (hr : ∀ (f : JFrame) (acts : List Action), f.method = m → f.locked = none → f.entered = [] → (doReturn e (T.setTop f) acts (some (.int (b2_44 i0)))).1 = T.setFrames fs) :
    Steps p.tables e below (T.setTop (mkF m 44 #[.val (.int i0)] [])) (T.setFrames fs) := by
  refine XS.iloadN X0.here hx rfl (hb hby d2_44) rfl ?_
  show Steps p.tables e below (T.setTop (mkF m 45 #[.val (.int i0)] [(.int i0)])) _
  refine XS.sipush X0.here hx rfl (hb hby d2_45) ?_
  show Steps p.tables e below (T.setTop (mkF m 48 #[.val (.int i0)] [(.int (216 : Int32)), (.int i0)])) _
  by_cases hc0 : i0 < (216 : Int32)
  · rw [show b2_44 i0 = b2_58 i0 from by rw [b2_44, if_pos hc0]] at hr
    refine XS.icmpYes X0.here hx rfl (pc0 := 48) (pc' := 58) rfl (hb hby d2_48) rfl (tlt hc0).1 (by decide) (by decide) ?_
    exact bl2_58 i0 X0 hx hZ hw hby hown hrt hr
  · refine XS.icmpNo X0.here hx rfl (hb hby d2_48) rfl (flt hc0).1 ?_
    show Steps p.tables e below (T.setTop (mkF m 51 #[.val (.int i0)] [])) _
    refine XS.iloadN X0.here hx rfl (hb hby d2_51) rfl ?_
    show Steps p.tables e below (T.setTop (mkF m 52 #[.val (.int i0)] [(.int i0)])) _
    refine XS.sipush X0.here hx rfl (hb hby d2_52) ?_
    show Steps p.tables e below (T.setTop (mkF m 55 #[.val (.int i0)] [(.int (246 : Int32)), (.int i0)])) _
    by_cases hc1 : (246 : Int32) < i0
    · rw [show b2_44 i0 = b2_58 i0 from by rw [b2_44, if_neg hc0, if_pos hc1]] at hr
      refine XS.icmpNo X0.here hx rfl (hb hby d2_55) rfl (tlt hc1).2.2.2 ?_
      exact bl2_58 i0 X0 hx hZ hw hby hown hrt hr
    · rw [show b2_44 i0 = (1 : Int32) from by rw [b2_44, if_neg hc0, if_neg hc1]] at hr
      refine XS.icmpYes X0.here hx rfl (pc0 := 55) (pc' := 191) rfl (hb hby d2_55) rfl (flt hc1).2.2.2 (by decide) (by decide) ?_
      show Steps p.tables e below (T.setTop (mkF m 191 #[.val (.int i0)] [])) _
      refine XS.iconst X0.here hx rfl (hb hby d2_191) ?_
      show Steps p.tables e below (T.setTop (mkF m 192 #[.val (.int i0)] [(.int (1 : Int32))])) _
      refine XS.goto X0.here hx rfl (pc0 := 192) (pc' := 196) rfl (hb hby d2_192) (by decide) (by decide) ?_
      show Steps p.tables e below (T.setTop (mkF m 196 #[.val (.int i0)] [(.int (1 : Int32))])) _
      exact retN X0 hx (t := .boolean) hrt (by simp) (hb hby d2_196) hr
def b2_30 (i0 : Int32) : Int32 := (if i0 < (192 : Int32) then (b2_44 i0) else (if (214 : Int32) < i0 then (b2_44 i0) else (1 : Int32)))
set_option maxRecDepth 65536 in
set_option maxHeartbeats 40000000 in
theorem bl2_30 {p : Program} {l : Launch} {e : Env} {R : Room} {s : State} {m : MethodId} {args : Array Value} {below : List Frame} {meth : Method} {c : Code} {T : State} {locs : List Loc} {cells slots : Nat} {Z : State} {a0 : Array Value} (i0 : Int32) (X0 : Stand p l e R s m args below meth c T locs cells slots) (hx : p.tables.exec = Jvm.exec) (hZ : Z.Warmed39 s.vm) (hw : ∀ d ∈ tables_1, d.before a0 Z = true) (hby : c.code = prog_70_method_9_code) (hown : s.vm.findClass "com/example/nodetest/nodetest/xdm/Lexical" = some m.cls) (hrt : meth.sig.returnType = some .boolean) {fs : List Frame} (hr : ∀ (f : JFrame) (acts : List Action), f.method = m → f.locked = none → f.entered = [] → (doReturn e (T.setTop f) acts (some (.int (b2_30 i0)))).1 = T.setFrames fs) :
    Steps p.tables e below (T.setTop (mkF m 30 #[.val (.int i0)] [])) (T.setFrames fs) := by
  refine XS.iloadN X0.here hx rfl (hb hby d2_30) rfl ?_
  show Steps p.tables e below (T.setTop (mkF m 31 #[.val (.int i0)] [(.int i0)])) _
  refine XS.sipush X0.here hx rfl (hb hby d2_31) ?_
  show Steps p.tables e below (T.setTop (mkF m 34 #[.val (.int i0)] [(.int (192 : Int32)), (.int i0)])) _
  by_cases hc0 : i0 < (192 : Int32)
  · rw [show b2_30 i0 = b2_44 i0 from by rw [b2_30, if_pos hc0]] at hr
    refine XS.icmpYes X0.here hx rfl (pc0 := 34) (pc' := 44) rfl (hb hby d2_34) rfl (tlt hc0).1 (by decide) (by decide) ?_
    exact bl2_44 i0 X0 hx hZ hw hby hown hrt hr
  · refine XS.icmpNo X0.here hx rfl (hb hby d2_34) rfl (flt hc0).1 ?_
    show Steps p.tables e below (T.setTop (mkF m 37 #[.val (.int i0)] [])) _
    refine XS.iloadN X0.here hx rfl (hb hby d2_37) rfl ?_
    show Steps p.tables e below (T.setTop (mkF m 38 #[.val (.int i0)] [(.int i0)])) _
    refine XS.sipush X0.here hx rfl (hb hby d2_38) ?_
    show Steps p.tables e below (T.setTop (mkF m 41 #[.val (.int i0)] [(.int (214 : Int32)), (.int i0)])) _
    by_cases hc1 : (214 : Int32) < i0
    · rw [show b2_30 i0 = b2_44 i0 from by rw [b2_30, if_neg hc0, if_pos hc1]] at hr
      refine XS.icmpNo X0.here hx rfl (hb hby d2_41) rfl (tlt hc1).2.2.2 ?_
      exact bl2_44 i0 X0 hx hZ hw hby hown hrt hr
    · rw [show b2_30 i0 = (1 : Int32) from by rw [b2_30, if_neg hc0, if_neg hc1]] at hr
      refine XS.icmpYes X0.here hx rfl (pc0 := 41) (pc' := 191) rfl (hb hby d2_41) rfl (flt hc1).2.2.2 (by decide) (by decide) ?_
      show Steps p.tables e below (T.setTop (mkF m 191 #[.val (.int i0)] [])) _
      refine XS.iconst X0.here hx rfl (hb hby d2_191) ?_
      show Steps p.tables e below (T.setTop (mkF m 192 #[.val (.int i0)] [(.int (1 : Int32))])) _
      refine XS.goto X0.here hx rfl (pc0 := 192) (pc' := 196) rfl (hb hby d2_192) (by decide) (by decide) ?_
      show Steps p.tables e below (T.setTop (mkF m 196 #[.val (.int i0)] [(.int (1 : Int32))])) _
      exact retN X0 hx (t := .boolean) hrt (by simp) (hb hby d2_196) hr
def b2_12 (i0 : Int32) : Int32 := (if i0 = (95 : Int32) then (1 : Int32) else (if i0 < (97 : Int32) then (b2_30 i0) else (if (122 : Int32) < i0 then (b2_30 i0) else (1 : Int32))))
set_option maxRecDepth 65536 in
set_option maxHeartbeats 40000000 in
theorem bl2_12 {p : Program} {l : Launch} {e : Env} {R : Room} {s : State} {m : MethodId} {args : Array Value} {below : List Frame} {meth : Method} {c : Code} {T : State} {locs : List Loc} {cells slots : Nat} {Z : State} {a0 : Array Value} (i0 : Int32) (X0 : Stand p l e R s m args below meth c T locs cells slots) (hx : p.tables.exec = Jvm.exec) (hZ : Z.Warmed39 s.vm) (hw : ∀ d ∈ tables_1, d.before a0 Z = true) (hby : c.code = prog_70_method_9_code) (hown : s.vm.findClass "com/example/nodetest/nodetest/xdm/Lexical" = some m.cls) (hrt : meth.sig.returnType = some .boolean) {fs : List Frame} (hr : ∀ (f : JFrame) (acts : List Action), f.method = m → f.locked = none → f.entered = [] → (doReturn e (T.setTop f) acts (some (.int (b2_12 i0)))).1 = T.setFrames fs) :
    Steps p.tables e below (T.setTop (mkF m 12 #[.val (.int i0)] [])) (T.setFrames fs) := by
  refine XS.iloadN X0.here hx rfl (hb hby d2_12) rfl ?_
  show Steps p.tables e below (T.setTop (mkF m 13 #[.val (.int i0)] [(.int i0)])) _
  refine XS.bipush X0.here hx rfl (hb hby d2_13) ?_
  show Steps p.tables e below (T.setTop (mkF m 15 #[.val (.int i0)] [(.int (95 : Int32)), (.int i0)])) _
  by_cases hc0 : i0 = (95 : Int32)
  · rw [show b2_12 i0 = (1 : Int32) from by rw [b2_12, if_pos hc0]] at hr
    refine XS.icmpYes X0.here hx rfl (pc0 := 15) (pc' := 191) rfl (hb hby d2_15) rfl (teq hc0).1 (by decide) (by decide) ?_
    show Steps p.tables e below (T.setTop (mkF m 191 #[.val (.int i0)] [])) _
    refine XS.iconst X0.here hx rfl (hb hby d2_191) ?_
    show Steps p.tables e below (T.setTop (mkF m 192 #[.val (.int i0)] [(.int (1 : Int32))])) _
    refine XS.goto X0.here hx rfl (pc0 := 192) (pc' := 196) rfl (hb hby d2_192) (by decide) (by decide) ?_
    show Steps p.tables e below (T.setTop (mkF m 196 #[.val (.int i0)] [(.int (1 : Int32))])) _
    exact retN X0 hx (t := .boolean) hrt (by simp) (hb hby d2_196) hr
  · refine XS.icmpNo X0.here hx rfl (hb hby d2_15) rfl (feq hc0).1 ?_
    show Steps p.tables e below (T.setTop (mkF m 18 #[.val (.int i0)] [])) _
    refine XS.iloadN X0.here hx rfl (hb hby d2_18) rfl ?_
    show Steps p.tables e below (T.setTop (mkF m 19 #[.val (.int i0)] [(.int i0)])) _
    refine XS.bipush X0.here hx rfl (hb hby d2_19) ?_
    show Steps p.tables e below (T.setTop (mkF m 21 #[.val (.int i0)] [(.int (97 : Int32)), (.int i0)])) _
    by_cases hc1 : i0 < (97 : Int32)
    · rw [show b2_12 i0 = b2_30 i0 from by rw [b2_12, if_neg hc0, if_pos hc1]] at hr
      refine XS.icmpYes X0.here hx rfl (pc0 := 21) (pc' := 30) rfl (hb hby d2_21) rfl (tlt hc1).1 (by decide) (by decide) ?_
      exact bl2_30 i0 X0 hx hZ hw hby hown hrt hr
    · refine XS.icmpNo X0.here hx rfl (hb hby d2_21) rfl (flt hc1).1 ?_
      show Steps p.tables e below (T.setTop (mkF m 24 #[.val (.int i0)] [])) _
      refine XS.iloadN X0.here hx rfl (hb hby d2_24) rfl ?_
      show Steps p.tables e below (T.setTop (mkF m 25 #[.val (.int i0)] [(.int i0)])) _
      refine XS.bipush X0.here hx rfl (hb hby d2_25) ?_
      show Steps p.tables e below (T.setTop (mkF m 27 #[.val (.int i0)] [(.int (122 : Int32)), (.int i0)])) _
      by_cases hc2 : (122 : Int32) < i0
      · rw [show b2_12 i0 = b2_30 i0 from by rw [b2_12, if_neg hc0, if_neg hc1, if_pos hc2]] at hr
        refine XS.icmpNo X0.here hx rfl (hb hby d2_27) rfl (tlt hc2).2.2.2 ?_
        exact bl2_30 i0 X0 hx hZ hw hby hown hrt hr
      · rw [show b2_12 i0 = (1 : Int32) from by rw [b2_12, if_neg hc0, if_neg hc1, if_neg hc2]] at hr
        refine XS.icmpYes X0.here hx rfl (pc0 := 27) (pc' := 191) rfl (hb hby d2_27) rfl (flt hc2).2.2.2 (by decide) (by decide) ?_
        show Steps p.tables e below (T.setTop (mkF m 191 #[.val (.int i0)] [])) _
        refine XS.iconst X0.here hx rfl (hb hby d2_191) ?_
        show Steps p.tables e below (T.setTop (mkF m 192 #[.val (.int i0)] [(.int (1 : Int32))])) _
        refine XS.goto X0.here hx rfl (pc0 := 192) (pc' := 196) rfl (hb hby d2_192) (by decide) (by decide) ?_
        show Steps p.tables e below (T.setTop (mkF m 196 #[.val (.int i0)] [(.int (1 : Int32))])) _
        exact retN X0 hx (t := .boolean) hrt (by simp) (hb hby d2_196) hr
def b2_0 (p0 : Int32) : Int32 := (if p0 < (65 : Int32) then (b2_12 p0) else (if (90 : Int32) < p0 then (b2_12 p0) else (1 : Int32)))
set_option maxRecDepth 65536 in
set_option maxHeartbeats 40000000 in
theorem bl2_0 {p : Program} {l : Launch} {e : Env} {R : Room} {s : State} {m : MethodId} {args : Array Value} {below : List Frame} {meth : Method} {c : Code} {T : State} {locs : List Loc} {cells slots : Nat} {Z : State} {a0 : Array Value} (p0 : Int32) (X0 : Stand p l e R s m args below meth c T locs cells slots) (hx : p.tables.exec = Jvm.exec) (hZ : Z.Warmed39 s.vm) (hw : ∀ d ∈ tables_1, d.before a0 Z = true) (hby : c.code = prog_70_method_9_code) (hown : s.vm.findClass "com/example/nodetest/nodetest/xdm/Lexical" = some m.cls) (hrt : meth.sig.returnType = some .boolean) {fs : List Frame} (hr : ∀ (f : JFrame) (acts : List Action), f.method = m → f.locked = none → f.entered = [] → (doReturn e (T.setTop f) acts (some (.int (b2_0 p0)))).1 = T.setFrames fs) :
    Steps p.tables e below (T.setTop (mkF m 0 #[.val (.int p0)] [])) (T.setFrames fs) := by
  refine XS.iloadN X0.here hx rfl (hb hby d2_0) rfl ?_
  show Steps p.tables e below (T.setTop (mkF m 1 #[.val (.int p0)] [(.int p0)])) _
  refine XS.bipush X0.here hx rfl (hb hby d2_1) ?_
  show Steps p.tables e below (T.setTop (mkF m 3 #[.val (.int p0)] [(.int (65 : Int32)), (.int p0)])) _
  by_cases hc0 : p0 < (65 : Int32)
  · rw [show b2_0 p0 = b2_12 p0 from by rw [b2_0, if_pos hc0]] at hr
    refine XS.icmpYes X0.here hx rfl (pc0 := 3) (pc' := 12) rfl (hb hby d2_3) rfl (tlt hc0).1 (by decide) (by decide) ?_
    exact bl2_12 p0 X0 hx hZ hw hby hown hrt hr
  · refine XS.icmpNo X0.here hx rfl (hb hby d2_3) rfl (flt hc0).1 ?_
    show Steps p.tables e below (T.setTop (mkF m 6 #[.val (.int p0)] [])) _
    refine XS.iloadN X0.here hx rfl (hb hby d2_6) rfl ?_
    show Steps p.tables e below (T.setTop (mkF m 7 #[.val (.int p0)] [(.int p0)])) _
    refine XS.bipush X0.here hx rfl (hb hby d2_7) ?_
    show Steps p.tables e below (T.setTop (mkF m 9 #[.val (.int p0)] [(.int (90 : Int32)), (.int p0)])) _
    by_cases hc1 : (90 : Int32) < p0
    · rw [show b2_0 p0 = b2_12 p0 from by rw [b2_0, if_neg hc0, if_pos hc1]] at hr
      refine XS.icmpNo X0.here hx rfl (hb hby d2_9) rfl (tlt hc1).2.2.2 ?_
      exact bl2_12 p0 X0 hx hZ hw hby hown hrt hr
    · rw [show b2_0 p0 = (1 : Int32) from by rw [b2_0, if_neg hc0, if_neg hc1]] at hr
      refine XS.icmpYes X0.here hx rfl (pc0 := 9) (pc' := 191) rfl (hb hby d2_9) rfl (flt hc1).2.2.2 (by decide) (by decide) ?_
      show Steps p.tables e below (T.setTop (mkF m 191 #[.val (.int p0)] [])) _
      refine XS.iconst X0.here hx rfl (hb hby d2_191) ?_
      show Steps p.tables e below (T.setTop (mkF m 192 #[.val (.int p0)] [(.int (1 : Int32))])) _
      refine XS.goto X0.here hx rfl (pc0 := 192) (pc' := 196) rfl (hb hby d2_192) (by decide) (by decide) ?_
      show Steps p.tables e below (T.setTop (mkF m 196 #[.val (.int p0)] [(.int (1 : Int32))])) _
      exact retN X0 hx (t := .boolean) hrt (by simp) (hb hby d2_196) hr
def Q2 (Z : State) (p0 : Int32) (h0 : Heap) (n0 : Nat) (v : Option Value) (h : Heap) (L : List Loc) : Prop := v = some (.int (b2_0 p0)) ∧ Fr n0 L ∧ h = h0
set_option maxRecDepth 65536 in
set_option maxHeartbeats 40000000 in
theorem rm2 (l : Launch) (Z : State) (a0 : Array Value) (hw : ∀ d ∈ tables_1, d.before a0 Z = true) (ws : List Jvm.Cond) (p0 : Int32) (h0 : Heap) (n0 : Nat) (Z0 : n0 ≤ h0.size) :
    MetFree l (⟨"com/example/nodetest/nodetest/xdm/Lexical", "isNameStartChar", "(I)Z"⟩ : MethodName) (head1 (Jvm.Cond.code (⟨"com/example/nodetest/nodetest/xdm/Lexical", "isNameStartChar", "(I)Z"⟩ : MethodName) prog_70_method_9_code 1 (some .boolean) :: ws) ({ frames := 0, cells := 0, slots := 0, locals := 0 } : Room)) (fun a U => a = #[(.int p0)] ∧ Z.Warmed39 U.vm ∧ U.heap = h0) (fun _ _ _ _ _ => True) (fun _ U o U' => ∃ v L, o = .returned v ∧ Q2 Z p0 h0 n0 v U'.heap L ∧ FrameEnd U o U' L ({ frames := 0, cells := 0, slots := 0, locals := 0 } : Room).cells ({ frames := 0, cells := 0, slots := 0, locals := 0 } : Room).slots) := by
  refine MetFree.of_bodySF (plainFor_of_name pn_2) hisR ?_
  intro p e s m args below meth c s₁ Bd hml0 hP hK
  obtain ⟨rfl, hZ, hh⟩ := hP
  have hx := Bd.exec
  have hby := Bd.bytes
  have hml : c.maxLocals = 1 := hml0
  have hown : s.vm.findClass "com/example/nodetest/nodetest/xdm/Lexical" = some m.cls := findClass_of_methodNamed Bd.named
  have hnm := (name_of_methodNamed Bd.named Bd.method).1
  have X0 : Stand p l e ({ frames := 0, cells := 0, slots := 0, locals := 0 } : Room) s m #[(.int p0)] below meth c s₁ [] 0 0 := Stand.of_body Bd
  have e0 : s₁.heap = h0 := by rw [← hh, Bd.state]; rfl
  have N0 := Fr.nil n0
  have pre0 : ∀ t, Steps p.tables e below (s₁.setTop (mkF m 0 #[.val (.int p0)] [])) t → Steps p.tables e below (s₁.setTop (entryFrame m #[(.int p0)] 1)) t := fun t k => castTop (ef_2 m p0) k
  obtain ⟨fs, hr, hrun, hended, hW, hsame⟩ := X0.leave (v := some (.int (b2_0 p0))) (fun h => by rw [Bd.returns] at h; cases h)
  refine ⟨_, _, pre0 _ ?_, hrun, hended, _, _, rfl, ?_, ⟨_, rfl⟩, hW, hsame.mono (by decide) (by decide)⟩
  · exact bl2_0 p0 X0 hx hZ hw hby hown Bd.returns hr
  · show Q2 Z p0 h0 n0 _ s₁.heap _
    rw [e0]
    exact ⟨rfl, N0, rfl⟩
theorem d3_0 : decode method_2_code 0 = .ok (.iload_n 0, 1) := by decide +kernel
theorem d3_1 : decode method_2_code 1 = .ok (.bipush 65, 2) := by decide +kernel
theorem d3_3 : decode method_2_code 3 = .ok (.if_icmp .ge 5, 3) := by decide +kernel
theorem d3_6 : decode method_2_code 6 = .ok (.iconst 1, 1) := by decide +kernel
theorem d3_7 : decode method_2_code 7 = .ok (.ireturn, 1) := by decide +kernel
theorem d3_8 : decode method_2_code 8 = .ok (.iload_n 0, 1) := by decide +kernel
theorem d3_9 : decode method_2_code 9 = .ok (.ldc 7, 2) := by decide +kernel
theorem d3_11 : decode method_2_code 11 = .ok (.if_icmp .le 5, 3) := by decide +kernel
theorem d3_14 : decode method_2_code 14 = .ok (.iconst 1, 1) := by decide +kernel
theorem d3_15 : decode method_2_code 15 = .ok (.ireturn, 1) := by decide +kernel
theorem d3_16 : decode method_2_code 16 = .ok (.iload_n 0, 1) := by decide +kernel
theorem d3_17 : decode method_2_code 17 = .ok (.bipush 90, 2) := by decide +kernel
theorem d3_19 : decode method_2_code 19 = .ok (.if_icmp .le 11, 3) := by decide +kernel
theorem d3_22 : decode method_2_code 22 = .ok (.iload_n 0, 1) := by decide +kernel
theorem d3_23 : decode method_2_code 23 = .ok (.bipush 95, 2) := by decide +kernel
theorem d3_25 : decode method_2_code 25 = .ok (.if_icmp .ge 5, 3) := by decide +kernel
theorem d3_28 : decode method_2_code 28 = .ok (.iconst 1, 1) := by decide +kernel
theorem d3_29 : decode method_2_code 29 = .ok (.ireturn, 1) := by decide +kernel
theorem d3_30 : decode method_2_code 30 = .ok (.iload_n 0, 1) := by decide +kernel
theorem d3_31 : decode method_2_code 31 = .ok (.bipush 95, 2) := by decide +kernel
theorem d3_33 : decode method_2_code 33 = .ok (.if_icmp .le 11, 3) := by decide +kernel
theorem d3_36 : decode method_2_code 36 = .ok (.iload_n 0, 1) := by decide +kernel
theorem d3_37 : decode method_2_code 37 = .ok (.bipush 97, 2) := by decide +kernel
theorem d3_39 : decode method_2_code 39 = .ok (.if_icmp .ge 5, 3) := by decide +kernel
theorem d3_42 : decode method_2_code 42 = .ok (.iconst 1, 1) := by decide +kernel
theorem d3_43 : decode method_2_code 43 = .ok (.ireturn, 1) := by decide +kernel
theorem d3_44 : decode method_2_code 44 = .ok (.iload_n 0, 1) := by decide +kernel
theorem d3_45 : decode method_2_code 45 = .ok (.bipush 122, 2) := by decide +kernel
theorem d3_47 : decode method_2_code 47 = .ok (.if_icmp .le 12, 3) := by decide +kernel
theorem d3_50 : decode method_2_code 50 = .ok (.iload_n 0, 1) := by decide +kernel
theorem d3_51 : decode method_2_code 51 = .ok (.sipush 192, 3) := by decide +kernel
theorem d3_54 : decode method_2_code 54 = .ok (.if_icmp .ge 5, 3) := by decide +kernel
theorem d3_57 : decode method_2_code 57 = .ok (.iconst 1, 1) := by decide +kernel
theorem d3_58 : decode method_2_code 58 = .ok (.ireturn, 1) := by decide +kernel
theorem d3_59 : decode method_2_code 59 = .ok (.iload_n 0, 1) := by decide +kernel
theorem d3_60 : decode method_2_code 60 = .ok (.sipush 215, 3) := by decide +kernel
theorem d3_63 : decode method_2_code 63 = .ok (.if_icmp .eq 10, 3) := by decide +kernel
theorem d3_66 : decode method_2_code 66 = .ok (.iload_n 0, 1) := by decide +kernel
theorem d3_67 : decode method_2_code 67 = .ok (.sipush 247, 3) := by decide +kernel
theorem d3_70 : decode method_2_code 70 = .ok (.if_icmp .ne 5, 3) := by decide +kernel
theorem d3_73 : decode method_2_code 73 = .ok (.iconst 1, 1) := by decide +kernel
theorem d3_74 : decode method_2_code 74 = .ok (.ireturn, 1) := by decide +kernel
theorem d3_75 : decode method_2_code 75 = .ok (.iload_n 0, 1) := by decide +kernel
theorem d3_76 : decode method_2_code 76 = .ok (.sipush 768, 3) := by decide +kernel
theorem d3_79 : decode method_2_code 79 = .ok (.if_icmp .lt 12, 3) := by decide +kernel
theorem d3_82 : decode method_2_code 82 = .ok (.iload_n 0, 1) := by decide +kernel
theorem d3_83 : decode method_2_code 83 = .ok (.sipush 879, 3) := by decide +kernel
theorem d3_86 : decode method_2_code 86 = .ok (.if_icmp .gt 5, 3) := by decide +kernel
theorem d3_89 : decode method_2_code 89 = .ok (.iconst 1, 1) := by decide +kernel
theorem d3_90 : decode method_2_code 90 = .ok (.ireturn, 1) := by decide +kernel
theorem d3_91 : decode method_2_code 91 = .ok (.iload_n 0, 1) := by decide +kernel
theorem d3_92 : decode method_2_code 92 = .ok (.sipush 894, 3) := by decide +kernel
theorem d3_95 : decode method_2_code 95 = .ok (.if_icmp .ne 5, 3) := by decide +kernel
theorem d3_98 : decode method_2_code 98 = .ok (.iconst 1, 1) := by decide +kernel
theorem d3_99 : decode method_2_code 99 = .ok (.ireturn, 1) := by decide +kernel
theorem d3_100 : decode method_2_code 100 = .ok (.iload_n 0, 1) := by decide +kernel
theorem d3_101 : decode method_2_code 101 = .ok (.sipush 8192, 3) := by decide +kernel
theorem d3_104 : decode method_2_code 104 = .ok (.if_icmp .lt 12, 3) := by decide +kernel
theorem d3_107 : decode method_2_code 107 = .ok (.iload_n 0, 1) := by decide +kernel
theorem d3_108 : decode method_2_code 108 = .ok (.sipush 8203, 3) := by decide +kernel
theorem d3_111 : decode method_2_code 111 = .ok (.if_icmp .gt 5, 3) := by decide +kernel
theorem d3_114 : decode method_2_code 114 = .ok (.iconst 1, 1) := by decide +kernel
theorem d3_115 : decode method_2_code 115 = .ok (.ireturn, 1) := by decide +kernel
theorem d3_116 : decode method_2_code 116 = .ok (.iload_n 0, 1) := by decide +kernel
theorem d3_117 : decode method_2_code 117 = .ok (.sipush 8206, 3) := by decide +kernel
theorem d3_120 : decode method_2_code 120 = .ok (.if_icmp .lt 12, 3) := by decide +kernel
theorem d3_123 : decode method_2_code 123 = .ok (.iload_n 0, 1) := by decide +kernel
theorem d3_124 : decode method_2_code 124 = .ok (.sipush 8303, 3) := by decide +kernel
theorem d3_127 : decode method_2_code 127 = .ok (.if_icmp .gt 5, 3) := by decide +kernel
theorem d3_130 : decode method_2_code 130 = .ok (.iconst 1, 1) := by decide +kernel
theorem d3_131 : decode method_2_code 131 = .ok (.ireturn, 1) := by decide +kernel
theorem d3_132 : decode method_2_code 132 = .ok (.iload_n 0, 1) := by decide +kernel
theorem d3_133 : decode method_2_code 133 = .ok (.sipush 8592, 3) := by decide +kernel
theorem d3_136 : decode method_2_code 136 = .ok (.if_icmp .lt 12, 3) := by decide +kernel
theorem d3_139 : decode method_2_code 139 = .ok (.iload_n 0, 1) := by decide +kernel
theorem d3_140 : decode method_2_code 140 = .ok (.sipush 11263, 3) := by decide +kernel
theorem d3_143 : decode method_2_code 143 = .ok (.if_icmp .gt 5, 3) := by decide +kernel
theorem d3_146 : decode method_2_code 146 = .ok (.iconst 1, 1) := by decide +kernel
theorem d3_147 : decode method_2_code 147 = .ok (.ireturn, 1) := by decide +kernel
theorem d3_148 : decode method_2_code 148 = .ok (.iload_n 0, 1) := by decide +kernel
theorem d3_149 : decode method_2_code 149 = .ok (.sipush 12272, 3) := by decide +kernel
theorem d3_152 : decode method_2_code 152 = .ok (.if_icmp .lt 12, 3) := by decide +kernel
theorem d3_155 : decode method_2_code 155 = .ok (.iload_n 0, 1) := by decide +kernel
theorem d3_156 : decode method_2_code 156 = .ok (.sipush 12288, 3) := by decide +kernel
theorem d3_159 : decode method_2_code 159 = .ok (.if_icmp .gt 5, 3) := by decide +kernel
theorem d3_162 : decode method_2_code 162 = .ok (.iconst 1, 1) := by decide +kernel
theorem d3_163 : decode method_2_code 163 = .ok (.ireturn, 1) := by decide +kernel
theorem d3_164 : decode method_2_code 164 = .ok (.iload_n 0, 1) := by decide +kernel
theorem d3_165 : decode method_2_code 165 = .ok (.ldc 8, 2) := by decide +kernel
theorem d3_167 : decode method_2_code 167 = .ok (.if_icmp .lt 11, 3) := by decide +kernel
theorem d3_170 : decode method_2_code 170 = .ok (.iload_n 0, 1) := by decide +kernel
theorem d3_171 : decode method_2_code 171 = .ok (.ldc 9, 2) := by decide +kernel
theorem d3_173 : decode method_2_code 173 = .ok (.if_icmp .gt 5, 3) := by decide +kernel
theorem d3_176 : decode method_2_code 176 = .ok (.iconst 1, 1) := by decide +kernel
theorem d3_177 : decode method_2_code 177 = .ok (.ireturn, 1) := by decide +kernel
theorem d3_178 : decode method_2_code 178 = .ok (.iload_n 0, 1) := by decide +kernel
theorem d3_179 : decode method_2_code 179 = .ok (.ldc 10, 2) := by decide +kernel
theorem d3_181 : decode method_2_code 181 = .ok (.if_icmp .lt 11, 3) := by decide +kernel
theorem d3_184 : decode method_2_code 184 = .ok (.iload_n 0, 1) := by decide +kernel
theorem d3_185 : decode method_2_code 185 = .ok (.ldc 11, 2) := by decide +kernel
theorem d3_187 : decode method_2_code 187 = .ok (.if_icmp .gt 5, 3) := by decide +kernel
theorem d3_190 : decode method_2_code 190 = .ok (.iconst 1, 1) := by decide +kernel
theorem d3_191 : decode method_2_code 191 = .ok (.ireturn, 1) := by decide +kernel
theorem d3_192 : decode method_2_code 192 = .ok (.iload_n 0, 1) := by decide +kernel
theorem d3_193 : decode method_2_code 193 = .ok (.ldc 12, 2) := by decide +kernel
theorem d3_195 : decode method_2_code 195 = .ok (.if_icmp .eq 9, 3) := by decide +kernel
theorem d3_198 : decode method_2_code 198 = .ok (.iload_n 0, 1) := by decide +kernel
theorem d3_199 : decode method_2_code 199 = .ok (.ldc 13, 2) := by decide +kernel
theorem d3_201 : decode method_2_code 201 = .ok (.if_icmp .ne 5, 3) := by decide +kernel
theorem d3_204 : decode method_2_code 204 = .ok (.iconst 1, 1) := by decide +kernel
theorem d3_205 : decode method_2_code 205 = .ok (.ireturn, 1) := by decide +kernel
theorem d3_206 : decode method_2_code 206 = .ok (.iconst 0, 1) := by decide +kernel
theorem d3_207 : decode method_2_code 207 = .ok (.ireturn, 1) := by decide +kernel
theorem pn_3 : plainName "com/example/nodetest/nodetest/xdm/LexicalIsNameStartCharPinLaw" = true := by first | (simp [plainName, overriddenIn]; done) | decide +kernel
theorem ef_3 (m : MethodId) (p0 : Int32) : entryFrame m #[(.int p0)] 1 = mkF m 0 #[.val (.int p0)] [] := by first | (simp [entryFrame, mkF, argsToLocals, Value.category]; done) | rfl
def b3_192 (i0 : Int32) : Int32 := (if i0 = (65534 : Int32) then (1 : Int32) else (if i0 = (65535 : Int32) then (1 : Int32) else (0 : Int32)))
set_option maxRecDepth 65536 in
set_option maxHeartbeats 40000000 in
theorem bl3_192 {p : Program} {l : Launch} {e : Env} {R : Room} {s : State} {m : MethodId} {args : Array Value} {below : List Frame} {meth : Method} {c : Code} {T : State} {locs : List Loc} {cells slots : Nat} {Z : State} {a0 : Array Value} (i0 : Int32) (X0 : Stand p l e R s m args below meth c T locs cells slots) (hx : p.tables.exec = Jvm.exec) (hZ : Z.Warmed39 s.vm) (hw : ∀ d ∈ tables_1, d.before a0 Z = true) (hby : c.code = method_2_code) (hown : s.vm.findClass "com/example/nodetest/nodetest/xdm/LexicalIsNameStartCharPinLaw" = some m.cls) (hrt : meth.sig.returnType = some .boolean) {fs : List Frame} (hr : ∀ (f : JFrame) (acts : List Action), f.method = m → f.locked = none → f.entered = [] → (doReturn e (T.setTop f) acts (some (.int (b3_192 i0)))).1 = T.setFrames fs) :
    Steps p.tables e below (T.setTop (mkF m 192 #[.val (.int i0)] [])) (T.setFrames fs) := by
  refine XS.iloadN X0.here hx rfl (hb hby d3_192) rfl ?_
  show Steps p.tables e below (T.setTop (mkF m 193 #[.val (.int i0)] [(.int i0)])) _
  refine X0.ldcInt hx hown (mvT hZ (hw _ (List.mem_of_getElem? (i := 29) rfl))) (g := (mkF m 193 #[.val (.int i0)] [(.int i0)])) rfl (hb hby d3_193) _ ?_
  show Steps p.tables e below (T.setTop (mkF m 195 #[.val (.int i0)] [(.int (65534 : Int32)), (.int i0)])) _
  by_cases hc0 : i0 = (65534 : Int32)
  · rw [show b3_192 i0 = (1 : Int32) from by rw [b3_192, if_pos hc0]] at hr
    refine XS.icmpYes X0.here hx rfl (pc0 := 195) (pc' := 204) rfl (hb hby d3_195) rfl (teq hc0).1 (by decide) (by decide) ?_
    show Steps p.tables e below (T.setTop (mkF m 204 #[.val (.int i0)] [])) _
    refine XS.iconst X0.here hx rfl (hb hby d3_204) ?_
    show Steps p.tables e below (T.setTop (mkF m 205 #[.val (.int i0)] [(.int (1 : Int32))])) _
    exact retN X0 hx (t := .boolean) hrt (by simp) (hb hby d3_205) hr
  · refine XS.icmpNo X0.here hx rfl (hb hby d3_195) rfl (feq hc0).1 ?_
    show Steps p.tables e below (T.setTop (mkF m 198 #[.val (.int i0)] [])) _
    refine XS.iloadN X0.here hx rfl (hb hby d3_198) rfl ?_
    show Steps p.tables e below (T.setTop (mkF m 199 #[.val (.int i0)] [(.int i0)])) _
    refine X0.ldcInt hx hown (mvT hZ (hw _ (List.mem_of_getElem? (i := 30) rfl))) (g := (mkF m 199 #[.val (.int i0)] [(.int i0)])) rfl (hb hby d3_199) _ ?_
    show Steps p.tables e below (T.setTop (mkF m 201 #[.val (.int i0)] [(.int (65535 : Int32)), (.int i0)])) _
    by_cases hc1 : i0 = (65535 : Int32)
    · rw [show b3_192 i0 = (1 : Int32) from by rw [b3_192, if_neg hc0, if_pos hc1]] at hr
      refine XS.icmpNo X0.here hx rfl (hb hby d3_201) rfl (teq hc1).2 ?_
      show Steps p.tables e below (T.setTop (mkF m 204 #[.val (.int i0)] [])) _
      refine XS.iconst X0.here hx rfl (hb hby d3_204) ?_
      show Steps p.tables e below (T.setTop (mkF m 205 #[.val (.int i0)] [(.int (1 : Int32))])) _
      exact retN X0 hx (t := .boolean) hrt (by simp) (hb hby d3_205) hr
    · rw [show b3_192 i0 = (0 : Int32) from by rw [b3_192, if_neg hc0, if_neg hc1]] at hr
      refine XS.icmpYes X0.here hx rfl (pc0 := 201) (pc' := 206) rfl (hb hby d3_201) rfl (feq hc1).2 (by decide) (by decide) ?_
      show Steps p.tables e below (T.setTop (mkF m 206 #[.val (.int i0)] [])) _
      refine XS.iconst X0.here hx rfl (hb hby d3_206) ?_
      show Steps p.tables e below (T.setTop (mkF m 207 #[.val (.int i0)] [(.int (0 : Int32))])) _
      exact retN X0 hx (t := .boolean) hrt (by simp) (hb hby d3_207) hr
def b3_178 (i0 : Int32) : Int32 := (if i0 < (64976 : Int32) then (b3_192 i0) else (if (65007 : Int32) < i0 then (b3_192 i0) else (1 : Int32)))
set_option maxRecDepth 65536 in
set_option maxHeartbeats 40000000 in
theorem bl3_178 {p : Program} {l : Launch} {e : Env} {R : Room} {s : State} {m : MethodId} {args : Array Value} {below : List Frame} {meth : Method} {c : Code} {T : State} {locs : List Loc} {cells slots : Nat} {Z : State} {a0 : Array Value} (i0 : Int32) (X0 : Stand p l e R s m args below meth c T locs cells slots) (hx : p.tables.exec = Jvm.exec) (hZ : Z.Warmed39 s.vm) (hw : ∀ d ∈ tables_1, d.before a0 Z = true) (hby : c.code = method_2_code) (hown : s.vm.findClass "com/example/nodetest/nodetest/xdm/LexicalIsNameStartCharPinLaw" = some m.cls) (hrt : meth.sig.returnType = some .boolean) {fs : List Frame} (hr : ∀ (f : JFrame) (acts : List Action), f.method = m → f.locked = none → f.entered = [] → (doReturn e (T.setTop f) acts (some (.int (b3_178 i0)))).1 = T.setFrames fs) :
    Steps p.tables e below (T.setTop (mkF m 178 #[.val (.int i0)] [])) (T.setFrames fs) := by
  refine XS.iloadN X0.here hx rfl (hb hby d3_178) rfl ?_
  show Steps p.tables e below (T.setTop (mkF m 179 #[.val (.int i0)] [(.int i0)])) _
  refine X0.ldcInt hx hown (mvT hZ (hw _ (List.mem_of_getElem? (i := 28) rfl))) (g := (mkF m 179 #[.val (.int i0)] [(.int i0)])) rfl (hb hby d3_179) _ ?_
  show Steps p.tables e below (T.setTop (mkF m 181 #[.val (.int i0)] [(.int (64976 : Int32)), (.int i0)])) _
  by_cases hc0 : i0 < (64976 : Int32)
  · rw [show b3_178 i0 = b3_192 i0 from by rw [b3_178, if_pos hc0]] at hr
    refine XS.icmpYes X0.here hx rfl (pc0 := 181) (pc' := 192) rfl (hb hby d3_181) rfl (tlt hc0).1 (by decide) (by decide) ?_
    exact bl3_192 i0 X0 hx hZ hw hby hown hrt hr
  · refine XS.icmpNo X0.here hx rfl (hb hby d3_181) rfl (flt hc0).1 ?_
    show Steps p.tables e below (T.setTop (mkF m 184 #[.val (.int i0)] [])) _
    refine XS.iloadN X0.here hx rfl (hb hby d3_184) rfl ?_
    show Steps p.tables e below (T.setTop (mkF m 185 #[.val (.int i0)] [(.int i0)])) _
    refine X0.ldcInt hx hown (mvT hZ (hw _ (List.mem_of_getElem? (i := 36) rfl))) (g := (mkF m 185 #[.val (.int i0)] [(.int i0)])) rfl (hb hby d3_185) _ ?_
    show Steps p.tables e below (T.setTop (mkF m 187 #[.val (.int i0)] [(.int (65007 : Int32)), (.int i0)])) _
    by_cases hc1 : (65007 : Int32) < i0
    · rw [show b3_178 i0 = b3_192 i0 from by rw [b3_178, if_neg hc0, if_pos hc1]] at hr
      refine XS.icmpYes X0.here hx rfl (pc0 := 187) (pc' := 192) rfl (hb hby d3_187) rfl (tlt hc1).2.2.1 (by decide) (by decide) ?_
      exact bl3_192 i0 X0 hx hZ hw hby hown hrt hr
    · rw [show b3_178 i0 = (1 : Int32) from by rw [b3_178, if_neg hc0, if_neg hc1]] at hr
      refine XS.icmpNo X0.here hx rfl (hb hby d3_187) rfl (flt hc1).2.2.1 ?_
      show Steps p.tables e below (T.setTop (mkF m 190 #[.val (.int i0)] [])) _
      refine XS.iconst X0.here hx rfl (hb hby d3_190) ?_
      show Steps p.tables e below (T.setTop (mkF m 191 #[.val (.int i0)] [(.int (1 : Int32))])) _
      exact retN X0 hx (t := .boolean) hrt (by simp) (hb hby d3_191) hr
def b3_164 (i0 : Int32) : Int32 := (if i0 < (55296 : Int32) then (b3_178 i0) else (if (63743 : Int32) < i0 then (b3_178 i0) else (1 : Int32)))
set_option maxRecDepth 65536 in
set_option maxHeartbeats 40000000 in
theorem bl3_164 {p : Program} {l : Launch} {e : Env} {R : Room} {s : State} {m : MethodId} {args : Array Value} {below : List Frame} {meth : Method} {c : Code} {T : State} {locs : List Loc} {cells slots : Nat} {Z : State} {a0 : Array Value} (i0 : Int32) (X0 : Stand p l e R s m args below meth c T locs cells slots) (hx : p.tables.exec = Jvm.exec) (hZ : Z.Warmed39 s.vm) (hw : ∀ d ∈ tables_1, d.before a0 Z = true) (hby : c.code = method_2_code) (hown : s.vm.findClass "com/example/nodetest/nodetest/xdm/LexicalIsNameStartCharPinLaw" = some m.cls) (hrt : meth.sig.returnType = some .boolean) {fs : List Frame} (hr : ∀ (f : JFrame) (acts : List Action), f.method = m → f.locked = none → f.entered = [] → (doReturn e (T.setTop f) acts (some (.int (b3_164 i0)))).1 = T.setFrames fs) :
    Steps p.tables e below (T.setTop (mkF m 164 #[.val (.int i0)] [])) (T.setFrames fs) := by
  refine XS.iloadN X0.here hx rfl (hb hby d3_164) rfl ?_
  show Steps p.tables e below (T.setTop (mkF m 165 #[.val (.int i0)] [(.int i0)])) _
  refine X0.ldcInt hx hown (mvT hZ (hw _ (List.mem_of_getElem? (i := 27) rfl))) (g := (mkF m 165 #[.val (.int i0)] [(.int i0)])) rfl (hb hby d3_165) _ ?_
  show Steps p.tables e below (T.setTop (mkF m 167 #[.val (.int i0)] [(.int (55296 : Int32)), (.int i0)])) _
  by_cases hc0 : i0 < (55296 : Int32)
  · rw [show b3_164 i0 = b3_178 i0 from by rw [b3_164, if_pos hc0]] at hr
    refine XS.icmpYes X0.here hx rfl (pc0 := 167) (pc' := 178) rfl (hb hby d3_167) rfl (tlt hc0).1 (by decide) (by decide) ?_
    exact bl3_178 i0 X0 hx hZ hw hby hown hrt hr
  · refine XS.icmpNo X0.here hx rfl (hb hby d3_167) rfl (flt hc0).1 ?_
    show Steps p.tables e below (T.setTop (mkF m 170 #[.val (.int i0)] [])) _
    refine XS.iloadN X0.here hx rfl (hb hby d3_170) rfl ?_
    show Steps p.tables e below (T.setTop (mkF m 171 #[.val (.int i0)] [(.int i0)])) _
    refine X0.ldcInt hx hown (mvT hZ (hw _ (List.mem_of_getElem? (i := 35) rfl))) (g := (mkF m 171 #[.val (.int i0)] [(.int i0)])) rfl (hb hby d3_171) _ ?_
    show Steps p.tables e below (T.setTop (mkF m 173 #[.val (.int i0)] [(.int (63743 : Int32)), (.int i0)])) _
    by_cases hc1 : (63743 : Int32) < i0
    · rw [show b3_164 i0 = b3_178 i0 from by rw [b3_164, if_neg hc0, if_pos hc1]] at hr
      refine XS.icmpYes X0.here hx rfl (pc0 := 173) (pc' := 178) rfl (hb hby d3_173) rfl (tlt hc1).2.2.1 (by decide) (by decide) ?_
      exact bl3_178 i0 X0 hx hZ hw hby hown hrt hr
    · rw [show b3_164 i0 = (1 : Int32) from by rw [b3_164, if_neg hc0, if_neg hc1]] at hr
      refine XS.icmpNo X0.here hx rfl (hb hby d3_173) rfl (flt hc1).2.2.1 ?_
      show Steps p.tables e below (T.setTop (mkF m 176 #[.val (.int i0)] [])) _
      refine XS.iconst X0.here hx rfl (hb hby d3_176) ?_
      show Steps p.tables e below (T.setTop (mkF m 177 #[.val (.int i0)] [(.int (1 : Int32))])) _
      exact retN X0 hx (t := .boolean) hrt (by simp) (hb hby d3_177) hr
def b3_148 (i0 : Int32) : Int32 := (if i0 < (12272 : Int32) then (b3_164 i0) else (if (12288 : Int32) < i0 then (b3_164 i0) else (1 : Int32)))
set_option maxRecDepth 65536 in
set_option maxHeartbeats 40000000 in
theorem bl3_148 {p : Program} {l : Launch} {e : Env} {R : Room} {s : State} {m : MethodId} {args : Array Value} {below : List Frame} {meth : Method} {c : Code} {T : State} {locs : List Loc} {cells slots : Nat} {Z : State} {a0 : Array Value} (i0 : Int32) (X0 : Stand p l e R s m args below meth c T locs cells slots) (hx : p.tables.exec = Jvm.exec) (hZ : Z.Warmed39 s.vm) (hw : ∀ d ∈ tables_1, d.before a0 Z = true) (hby : c.code = method_2_code) (hown : s.vm.findClass "com/example/nodetest/nodetest/xdm/LexicalIsNameStartCharPinLaw" = some m.cls) (hrt : meth.sig.returnType = some .boolean) {fs : List Frame} (hr : ∀ (f : JFrame) (acts : List Action), f.method = m → f.locked = none → f.entered = [] → (doReturn e (T.setTop f) acts (some (.int (b3_148 i0)))).1 = T.setFrames fs) :
    Steps p.tables e below (T.setTop (mkF m 148 #[.val (.int i0)] [])) (T.setFrames fs) := by
  refine XS.iloadN X0.here hx rfl (hb hby d3_148) rfl ?_
  show Steps p.tables e below (T.setTop (mkF m 149 #[.val (.int i0)] [(.int i0)])) _
  refine XS.sipush X0.here hx rfl (hb hby d3_149) ?_
  show Steps p.tables e below (T.setTop (mkF m 152 #[.val (.int i0)] [(.int (12272 : Int32)), (.int i0)])) _
  by_cases hc0 : i0 < (12272 : Int32)
  · rw [show b3_148 i0 = b3_164 i0 from by rw [b3_148, if_pos hc0]] at hr
    refine XS.icmpYes X0.here hx rfl (pc0 := 152) (pc' := 164) rfl (hb hby d3_152) rfl (tlt hc0).1 (by decide) (by decide) ?_
    exact bl3_164 i0 X0 hx hZ hw hby hown hrt hr
  · refine XS.icmpNo X0.here hx rfl (hb hby d3_152) rfl (flt hc0).1 ?_
    show Steps p.tables e below (T.setTop (mkF m 155 #[.val (.int i0)] [])) _
    refine XS.iloadN X0.here hx rfl (hb hby d3_155) rfl ?_
    show Steps p.tables e below (T.setTop (mkF m 156 #[.val (.int i0)] [(.int i0)])) _
    refine XS.sipush X0.here hx rfl (hb hby d3_156) ?_
    show Steps p.tables e below (T.setTop (mkF m 159 #[.val (.int i0)] [(.int (12288 : Int32)), (.int i0)])) _
    by_cases hc1 : (12288 : Int32) < i0
    · rw [show b3_148 i0 = b3_164 i0 from by rw [b3_148, if_neg hc0, if_pos hc1]] at hr
      refine XS.icmpYes X0.here hx rfl (pc0 := 159) (pc' := 164) rfl (hb hby d3_159) rfl (tlt hc1).2.2.1 (by decide) (by decide) ?_
      exact bl3_164 i0 X0 hx hZ hw hby hown hrt hr
    · rw [show b3_148 i0 = (1 : Int32) from by rw [b3_148, if_neg hc0, if_neg hc1]] at hr
      refine XS.icmpNo X0.here hx rfl (hb hby d3_159) rfl (flt hc1).2.2.1 ?_
      show Steps p.tables e below (T.setTop (mkF m 162 #[.val (.int i0)] [])) _
      refine XS.iconst X0.here hx rfl (hb hby d3_162) ?_
      show Steps p.tables e below (T.setTop (mkF m 163 #[.val (.int i0)] [(.int (1 : Int32))])) _
      exact retN X0 hx (t := .boolean) hrt (by simp) (hb hby d3_163) hr
def b3_132 (i0 : Int32) : Int32 := (if i0 < (8592 : Int32) then (b3_148 i0) else (if (11263 : Int32) < i0 then (b3_148 i0) else (1 : Int32)))
set_option maxRecDepth 65536 in
set_option maxHeartbeats 40000000 in
theorem bl3_132 {p : Program} {l : Launch} {e : Env} {R : Room} {s : State} {m : MethodId} {args : Array Value} {below : List Frame} {meth : Method} {c : Code} {T : State} {locs : List Loc} {cells slots : Nat} {Z : State} {a0 : Array Value} (i0 : Int32) (X0 : Stand p l e R s m args below meth c T locs cells slots) (hx : p.tables.exec = Jvm.exec) (hZ : Z.Warmed39 s.vm) (hw : ∀ d ∈ tables_1, d.before a0 Z = true) (hby : c.code = method_2_code) (hown : s.vm.findClass "com/example/nodetest/nodetest/xdm/LexicalIsNameStartCharPinLaw" = some m.cls) (hrt : meth.sig.returnType = some .boolean) {fs : List Frame} (hr : ∀ (f : JFrame) (acts : List Action), f.method = m → f.locked = none → f.entered = [] → (doReturn e (T.setTop f) acts (some (.int (b3_132 i0)))).1 = T.setFrames fs) :
    Steps p.tables e below (T.setTop (mkF m 132 #[.val (.int i0)] [])) (T.setFrames fs) := by
  refine XS.iloadN X0.here hx rfl (hb hby d3_132) rfl ?_
  show Steps p.tables e below (T.setTop (mkF m 133 #[.val (.int i0)] [(.int i0)])) _
  refine XS.sipush X0.here hx rfl (hb hby d3_133) ?_
  show Steps p.tables e below (T.setTop (mkF m 136 #[.val (.int i0)] [(.int (8592 : Int32)), (.int i0)])) _
  by_cases hc0 : i0 < (8592 : Int32)
  · rw [show b3_132 i0 = b3_148 i0 from by rw [b3_132, if_pos hc0]] at hr
    refine XS.icmpYes X0.here hx rfl (pc0 := 136) (pc' := 148) rfl (hb hby d3_136) rfl (tlt hc0).1 (by decide) (by decide) ?_
    exact bl3_148 i0 X0 hx hZ hw hby hown hrt hr
  · refine XS.icmpNo X0.here hx rfl (hb hby d3_136) rfl (flt hc0).1 ?_
    show Steps p.tables e below (T.setTop (mkF m 139 #[.val (.int i0)] [])) _
    refine XS.iloadN X0.here hx rfl (hb hby d3_139) rfl ?_
    show Steps p.tables e below (T.setTop (mkF m 140 #[.val (.int i0)] [(.int i0)])) _
    refine XS.sipush X0.here hx rfl (hb hby d3_140) ?_
    show Steps p.tables e below (T.setTop (mkF m 143 #[.val (.int i0)] [(.int (11263 : Int32)), (.int i0)])) _
    by_cases hc1 : (11263 : Int32) < i0
    · rw [show b3_132 i0 = b3_148 i0 from by rw [b3_132, if_neg hc0, if_pos hc1]] at hr
      refine XS.icmpYes X0.here hx rfl (pc0 := 143) (pc' := 148) rfl (hb hby d3_143) rfl (tlt hc1).2.2.1 (by decide) (by decide) ?_
      exact bl3_148 i0 X0 hx hZ hw hby hown hrt hr
    · rw [show b3_132 i0 = (1 : Int32) from by rw [b3_132, if_neg hc0, if_neg hc1]] at hr
      refine XS.icmpNo X0.here hx rfl (hb hby d3_143) rfl (flt hc1).2.2.1 ?_
      show Steps p.tables e below (T.setTop (mkF m 146 #[.val (.int i0)] [])) _
      refine XS.iconst X0.here hx rfl (hb hby d3_146) ?_
      show Steps p.tables e below (T.setTop (mkF m 147 #[.val (.int i0)] [(.int (1 : Int32))])) _
      exact retN X0 hx (t := .boolean) hrt (by simp) (hb hby d3_147) hr
def b3_116 (i0 : Int32) : Int32 := (if i0 < (8206 : Int32) then (b3_132 i0) else (if (8303 : Int32) < i0 then (b3_132 i0) else (1 : Int32)))
set_option maxRecDepth 65536 in
set_option maxHeartbeats 40000000 in
theorem bl3_116 {p : Program} {l : Launch} {e : Env} {R : Room} {s : State} {m : MethodId} {args : Array Value} {below : List Frame} {meth : Method} {c : Code} {T : State} {locs : List Loc} {cells slots : Nat} {Z : State} {a0 : Array Value} (i0 : Int32) (X0 : Stand p l e R s m args below meth c T locs cells slots) (hx : p.tables.exec = Jvm.exec) (hZ : Z.Warmed39 s.vm) (hw : ∀ d ∈ tables_1, d.before a0 Z = true) (hby : c.code = method_2_code) (hown : s.vm.findClass "com/example/nodetest/nodetest/xdm/LexicalIsNameStartCharPinLaw" = some m.cls) (hrt : meth.sig.returnType = some .boolean) {fs : List Frame} (hr : ∀ (f : JFrame) (acts : List Action), f.method = m → f.locked = none → f.entered = [] → (doReturn e (T.setTop f) acts (some (.int (b3_116 i0)))).1 = T.setFrames fs) :
    Steps p.tables e below (T.setTop (mkF m 116 #[.val (.int i0)] [])) (T.setFrames fs) := by
  refine XS.iloadN X0.here hx rfl (hb hby d3_116) rfl ?_
  show Steps p.tables e below (T.setTop (mkF m 117 #[.val (.int i0)] [(.int i0)])) _
  refine XS.sipush X0.here hx rfl (hb hby d3_117) ?_
  show Steps p.tables e below (T.setTop (mkF m 120 #[.val (.int i0)] [(.int (8206 : Int32)), (.int i0)])) _
  by_cases hc0 : i0 < (8206 : Int32)
  · rw [show b3_116 i0 = b3_132 i0 from by rw [b3_116, if_pos hc0]] at hr
    refine XS.icmpYes X0.here hx rfl (pc0 := 120) (pc' := 132) rfl (hb hby d3_120) rfl (tlt hc0).1 (by decide) (by decide) ?_
    exact bl3_132 i0 X0 hx hZ hw hby hown hrt hr
  · refine XS.icmpNo X0.here hx rfl (hb hby d3_120) rfl (flt hc0).1 ?_
    show Steps p.tables e below (T.setTop (mkF m 123 #[.val (.int i0)] [])) _
    refine XS.iloadN X0.here hx rfl (hb hby d3_123) rfl ?_
    show Steps p.tables e below (T.setTop (mkF m 124 #[.val (.int i0)] [(.int i0)])) _
    refine XS.sipush X0.here hx rfl (hb hby d3_124) ?_
    show Steps p.tables e below (T.setTop (mkF m 127 #[.val (.int i0)] [(.int (8303 : Int32)), (.int i0)])) _
    by_cases hc1 : (8303 : Int32) < i0
    · rw [show b3_116 i0 = b3_132 i0 from by rw [b3_116, if_neg hc0, if_pos hc1]] at hr
      refine XS.icmpYes X0.here hx rfl (pc0 := 127) (pc' := 132) rfl (hb hby d3_127) rfl (tlt hc1).2.2.1 (by decide) (by decide) ?_
      exact bl3_132 i0 X0 hx hZ hw hby hown hrt hr
    · rw [show b3_116 i0 = (1 : Int32) from by rw [b3_116, if_neg hc0, if_neg hc1]] at hr
      refine XS.icmpNo X0.here hx rfl (hb hby d3_127) rfl (flt hc1).2.2.1 ?_
      show Steps p.tables e below (T.setTop (mkF m 130 #[.val (.int i0)] [])) _
      refine XS.iconst X0.here hx rfl (hb hby d3_130) ?_
      show Steps p.tables e below (T.setTop (mkF m 131 #[.val (.int i0)] [(.int (1 : Int32))])) _
      exact retN X0 hx (t := .boolean) hrt (by simp) (hb hby d3_131) hr
def b3_91 (i0 : Int32) : Int32 := (if i0 = (894 : Int32) then (1 : Int32) else (if i0 < (8192 : Int32) then (b3_116 i0) else (if (8203 : Int32) < i0 then (b3_116 i0) else (1 : Int32))))
set_option maxRecDepth 65536 in
set_option maxHeartbeats 40000000 in
theorem bl3_91 {p : Program} {l : Launch} {e : Env} {R : Room} {s : State} {m : MethodId} {args : Array Value} {below : List Frame} {meth : Method} {c : Code} {T : State} {locs : List Loc} {cells slots : Nat} {Z : State} {a0 : Array Value} (i0 : Int32) (X0 : Stand p l e R s m args below meth c T locs cells slots) (hx : p.tables.exec = Jvm.exec) (hZ : Z.Warmed39 s.vm) (hw : ∀ d ∈ tables_1, d.before a0 Z = true) (hby : c.code = method_2_code) (hown : s.vm.findClass "com/example/nodetest/nodetest/xdm/LexicalIsNameStartCharPinLaw" = some m.cls) (hrt : meth.sig.returnType = some .boolean) {fs : List Frame} (hr : ∀ (f : JFrame) (acts : List Action), f.method = m → f.locked = none → f.entered = [] → (doReturn e (T.setTop f) acts (some (.int (b3_91 i0)))).1 = T.setFrames fs) :
    Steps p.tables e below (T.setTop (mkF m 91 #[.val (.int i0)] [])) (T.setFrames fs) := by
  refine XS.iloadN X0.here hx rfl (hb hby d3_91) rfl ?_
  show Steps p.tables e below (T.setTop (mkF m 92 #[.val (.int i0)] [(.int i0)])) _
  refine XS.sipush X0.here hx rfl (hb hby d3_92) ?_
  show Steps p.tables e below (T.setTop (mkF m 95 #[.val (.int i0)] [(.int (894 : Int32)), (.int i0)])) _
  by_cases hc0 : i0 = (894 : Int32)
  · rw [show b3_91 i0 = (1 : Int32) from by rw [b3_91, if_pos hc0]] at hr
    refine XS.icmpNo X0.here hx rfl (hb hby d3_95) rfl (teq hc0).2 ?_
    show Steps p.tables e below (T.setTop (mkF m 98 #[.val (.int i0)] [])) _
    refine XS.iconst X0.here hx rfl (hb hby d3_98) ?_
    show Steps p.tables e below (T.setTop (mkF m 99 #[.val (.int i0)] [(.int (1 : Int32))])) _
    exact retN X0 hx (t := .boolean) hrt (by simp) (hb hby d3_99) hr
  · refine XS.icmpYes X0.here hx rfl (pc0 := 95) (pc' := 100) rfl (hb hby d3_95) rfl (feq hc0).2 (by decide) (by decide) ?_
    show Steps p.tables e below (T.setTop (mkF m 100 #[.val (.int i0)] [])) _
    refine XS.iloadN X0.here hx rfl (hb hby d3_100) rfl ?_
    show Steps p.tables e below (T.setTop (mkF m 101 #[.val (.int i0)] [(.int i0)])) _
    refine XS.sipush X0.here hx rfl (hb hby d3_101) ?_
    show Steps p.tables e below (T.setTop (mkF m 104 #[.val (.int i0)] [(.int (8192 : Int32)), (.int i0)])) _
    by_cases hc1 : i0 < (8192 : Int32)
    · rw [show b3_91 i0 = b3_116 i0 from by rw [b3_91, if_neg hc0, if_pos hc1]] at hr
      refine XS.icmpYes X0.here hx rfl (pc0 := 104) (pc' := 116) rfl (hb hby d3_104) rfl (tlt hc1).1 (by decide) (by decide) ?_
      exact bl3_116 i0 X0 hx hZ hw hby hown hrt hr
    · refine XS.icmpNo X0.here hx rfl (hb hby d3_104) rfl (flt hc1).1 ?_
      show Steps p.tables e below (T.setTop (mkF m 107 #[.val (.int i0)] [])) _
      refine XS.iloadN X0.here hx rfl (hb hby d3_107) rfl ?_
      show Steps p.tables e below (T.setTop (mkF m 108 #[.val (.int i0)] [(.int i0)])) _
      refine XS.sipush X0.here hx rfl (hb hby d3_108) ?_
      show Steps p.tables e below (T.setTop (mkF m 111 #[.val (.int i0)] [(.int (8203 : Int32)), (.int i0)])) _
      by_cases hc2 : (8203 : Int32) < i0
      · rw [show b3_91 i0 = b3_116 i0 from by rw [b3_91, if_neg hc0, if_neg hc1, if_pos hc2]] at hr
        refine XS.icmpYes X0.here hx rfl (pc0 := 111) (pc' := 116) rfl (hb hby d3_111) rfl (tlt hc2).2.2.1 (by decide) (by decide) ?_
        exact bl3_116 i0 X0 hx hZ hw hby hown hrt hr
      · rw [show b3_91 i0 = (1 : Int32) from by rw [b3_91, if_neg hc0, if_neg hc1, if_neg hc2]] at hr
        refine XS.icmpNo X0.here hx rfl (hb hby d3_111) rfl (flt hc2).2.2.1 ?_
        show Steps p.tables e below (T.setTop (mkF m 114 #[.val (.int i0)] [])) _
        refine XS.iconst X0.here hx rfl (hb hby d3_114) ?_
        show Steps p.tables e below (T.setTop (mkF m 115 #[.val (.int i0)] [(.int (1 : Int32))])) _
        exact retN X0 hx (t := .boolean) hrt (by simp) (hb hby d3_115) hr
def b3_59 (i0 : Int32) : Int32 := (if i0 = (215 : Int32) then (1 : Int32) else (if i0 = (247 : Int32) then (1 : Int32) else (if i0 < (768 : Int32) then (b3_91 i0) else (if (879 : Int32) < i0 then (b3_91 i0) else (1 : Int32)))))
set_option maxRecDepth 65536 in
set_option maxHeartbeats 40000000 in
theorem bl3_59 {p : Program} {l : Launch} {e : Env} {R : Room} {s : State} {m : MethodId} {args : Array Value} {below : List Frame} {meth : Method} {c : Code} {T : State} {locs : List Loc} {cells slots : Nat} {Z : State} {a0 : Array Value} (i0 : Int32) (X0 : Stand p l e R s m args below meth c T locs cells slots) (hx : p.tables.exec = Jvm.exec) (hZ : Z.Warmed39 s.vm) (hw : ∀ d ∈ tables_1, d.before a0 Z = true) (hby : c.code = method_2_code) (hown : s.vm.findClass "com/example/nodetest/nodetest/xdm/LexicalIsNameStartCharPinLaw" = some m.cls) (hrt : meth.sig.returnType = some .boolean) {fs : List Frame} (hr : ∀ (f : JFrame) (acts : List Action), f.method = m → f.locked = none → f.entered = [] → (doReturn e (T.setTop f) acts (some (.int (b3_59 i0)))).1 = T.setFrames fs) :
    Steps p.tables e below (T.setTop (mkF m 59 #[.val (.int i0)] [])) (T.setFrames fs) := by
  refine XS.iloadN X0.here hx rfl (hb hby d3_59) rfl ?_
  show Steps p.tables e below (T.setTop (mkF m 60 #[.val (.int i0)] [(.int i0)])) _
  refine XS.sipush X0.here hx rfl (hb hby d3_60) ?_
  show Steps p.tables e below (T.setTop (mkF m 63 #[.val (.int i0)] [(.int (215 : Int32)), (.int i0)])) _
  by_cases hc0 : i0 = (215 : Int32)
  · rw [show b3_59 i0 = (1 : Int32) from by rw [b3_59, if_pos hc0]] at hr
    refine XS.icmpYes X0.here hx rfl (pc0 := 63) (pc' := 73) rfl (hb hby d3_63) rfl (teq hc0).1 (by decide) (by decide) ?_
    show Steps p.tables e below (T.setTop (mkF m 73 #[.val (.int i0)] [])) _
    refine XS.iconst X0.here hx rfl (hb hby d3_73) ?_
    show Steps p.tables e below (T.setTop (mkF m 74 #[.val (.int i0)] [(.int (1 : Int32))])) _
    exact retN X0 hx (t := .boolean) hrt (by simp) (hb hby d3_74) hr
  · refine XS.icmpNo X0.here hx rfl (hb hby d3_63) rfl (feq hc0).1 ?_
    show Steps p.tables e below (T.setTop (mkF m 66 #[.val (.int i0)] [])) _
    refine XS.iloadN X0.here hx rfl (hb hby d3_66) rfl ?_
    show Steps p.tables e below (T.setTop (mkF m 67 #[.val (.int i0)] [(.int i0)])) _
    refine XS.sipush X0.here hx rfl (hb hby d3_67) ?_
    show Steps p.tables e below (T.setTop (mkF m 70 #[.val (.int i0)] [(.int (247 : Int32)), (.int i0)])) _
    by_cases hc1 : i0 = (247 : Int32)
    · rw [show b3_59 i0 = (1 : Int32) from by rw [b3_59, if_neg hc0, if_pos hc1]] at hr
      refine XS.icmpNo X0.here hx rfl (hb hby d3_70) rfl (teq hc1).2 ?_
      show Steps p.tables e below (T.setTop (mkF m 73 #[.val (.int i0)] [])) _
      refine XS.iconst X0.here hx rfl (hb hby d3_73) ?_
      show Steps p.tables e below (T.setTop (mkF m 74 #[.val (.int i0)] [(.int (1 : Int32))])) _
      exact retN X0 hx (t := .boolean) hrt (by simp) (hb hby d3_74) hr
    · refine XS.icmpYes X0.here hx rfl (pc0 := 70) (pc' := 75) rfl (hb hby d3_70) rfl (feq hc1).2 (by decide) (by decide) ?_
      show Steps p.tables e below (T.setTop (mkF m 75 #[.val (.int i0)] [])) _
      refine XS.iloadN X0.here hx rfl (hb hby d3_75) rfl ?_
      show Steps p.tables e below (T.setTop (mkF m 76 #[.val (.int i0)] [(.int i0)])) _
      refine XS.sipush X0.here hx rfl (hb hby d3_76) ?_
      show Steps p.tables e below (T.setTop (mkF m 79 #[.val (.int i0)] [(.int (768 : Int32)), (.int i0)])) _
      by_cases hc2 : i0 < (768 : Int32)
      · rw [show b3_59 i0 = b3_91 i0 from by rw [b3_59, if_neg hc0, if_neg hc1, if_pos hc2]] at hr
        refine XS.icmpYes X0.here hx rfl (pc0 := 79) (pc' := 91) rfl (hb hby d3_79) rfl (tlt hc2).1 (by decide) (by decide) ?_
        exact bl3_91 i0 X0 hx hZ hw hby hown hrt hr
      · refine XS.icmpNo X0.here hx rfl (hb hby d3_79) rfl (flt hc2).1 ?_
        show Steps p.tables e below (T.setTop (mkF m 82 #[.val (.int i0)] [])) _
        refine XS.iloadN X0.here hx rfl (hb hby d3_82) rfl ?_
        show Steps p.tables e below (T.setTop (mkF m 83 #[.val (.int i0)] [(.int i0)])) _
        refine XS.sipush X0.here hx rfl (hb hby d3_83) ?_
        show Steps p.tables e below (T.setTop (mkF m 86 #[.val (.int i0)] [(.int (879 : Int32)), (.int i0)])) _
        by_cases hc3 : (879 : Int32) < i0
        · rw [show b3_59 i0 = b3_91 i0 from by rw [b3_59, if_neg hc0, if_neg hc1, if_neg hc2, if_pos hc3]] at hr
          refine XS.icmpYes X0.here hx rfl (pc0 := 86) (pc' := 91) rfl (hb hby d3_86) rfl (tlt hc3).2.2.1 (by decide) (by decide) ?_
          exact bl3_91 i0 X0 hx hZ hw hby hown hrt hr
        · rw [show b3_59 i0 = (1 : Int32) from by rw [b3_59, if_neg hc0, if_neg hc1, if_neg hc2, if_neg hc3]] at hr
          refine XS.icmpNo X0.here hx rfl (hb hby d3_86) rfl (flt hc3).2.2.1 ?_
          show Steps p.tables e below (T.setTop (mkF m 89 #[.val (.int i0)] [])) _
          refine XS.iconst X0.here hx rfl (hb hby d3_89) ?_
          show Steps p.tables e below (T.setTop (mkF m 90 #[.val (.int i0)] [(.int (1 : Int32))])) _
          exact retN X0 hx (t := .boolean) hrt (by simp) (hb hby d3_90) hr
def b3_44 (i0 : Int32) : Int32 := (if (122 : Int32) < i0 then (if i0 < (192 : Int32) then (1 : Int32) else (b3_59 i0)) else (b3_59 i0))
set_option maxRecDepth 65536 in
set_option maxHeartbeats 40000000 in
theorem bl3_44 {p : Program} {l : Launch} {e : Env} {R : Room} {s : State} {m : MethodId} {args : Array Value} {below : List Frame} {meth : Method} {c : Code} {T : State} {locs : List Loc} {cells slots : Nat} {Z : State} {a0 : Array Value} (i0 : Int32) (X0 : Stand p l e R s m args below meth c T locs cells slots) (hx : p.tables.exec = Jvm.exec) (hZ : Z.Warmed39 s.vm) (hw : ∀ d ∈ tables_1, d.before a0 Z = true) (hby : c.code = method_2_code) (hown : s.vm.findClass "com/example/nodetest/nodetest/xdm/LexicalIsNameStartCharPinLaw" = some m.cls) (hrt : meth.sig.returnType = some .boolean) {fs : List Frame} (hr : ∀ (f : JFrame) (acts : List Action), f.method = m → f.locked = none → f.entered = [] → (doReturn e (T.setTop f) acts (some (.int (b3_44 i0)))).1 = T.setFrames fs) :
    Steps p.tables e below (T.setTop (mkF m 44 #[.val (.int i0)] [])) (T.setFrames fs) := by
  refine XS.iloadN X0.here hx rfl (hb hby d3_44) rfl ?_
  show Steps p.tables e below (T.setTop (mkF m 45 #[.val (.int i0)] [(.int i0)])) _
  refine XS.bipush X0.here hx rfl (hb hby d3_45) ?_
  show Steps p.tables e below (T.setTop (mkF m 47 #[.val (.int i0)] [(.int (122 : Int32)), (.int i0)])) _
  by_cases hc0 : (122 : Int32) < i0
  · refine XS.icmpNo X0.here hx rfl (hb hby d3_47) rfl (tlt hc0).2.2.2 ?_
    show Steps p.tables e below (T.setTop (mkF m 50 #[.val (.int i0)] [])) _
    refine XS.iloadN X0.here hx rfl (hb hby d3_50) rfl ?_
    show Steps p.tables e below (T.setTop (mkF m 51 #[.val (.int i0)] [(.int i0)])) _
    refine XS.sipush X0.here hx rfl (hb hby d3_51) ?_
    show Steps p.tables e below (T.setTop (mkF m 54 #[.val (.int i0)] [(.int (192 : Int32)), (.int i0)])) _
    by_cases hc1 : i0 < (192 : Int32)
    · rw [show b3_44 i0 = (1 : Int32) from by rw [b3_44, if_pos hc0, if_pos hc1]] at hr
      refine XS.icmpNo X0.here hx rfl (hb hby d3_54) rfl (tlt hc1).2.1 ?_
      show Steps p.tables e below (T.setTop (mkF m 57 #[.val (.int i0)] [])) _
      refine XS.iconst X0.here hx rfl (hb hby d3_57) ?_
      show Steps p.tables e below (T.setTop (mkF m 58 #[.val (.int i0)] [(.int (1 : Int32))])) _
      exact retN X0 hx (t := .boolean) hrt (by simp) (hb hby d3_58) hr
    · rw [show b3_44 i0 = b3_59 i0 from by rw [b3_44, if_pos hc0, if_neg hc1]] at hr
      refine XS.icmpYes X0.here hx rfl (pc0 := 54) (pc' := 59) rfl (hb hby d3_54) rfl (flt hc1).2.1 (by decide) (by decide) ?_
      exact bl3_59 i0 X0 hx hZ hw hby hown hrt hr
  · rw [show b3_44 i0 = b3_59 i0 from by rw [b3_44, if_neg hc0]] at hr
    refine XS.icmpYes X0.here hx rfl (pc0 := 47) (pc' := 59) rfl (hb hby d3_47) rfl (flt hc0).2.2.2 (by decide) (by decide) ?_
    exact bl3_59 i0 X0 hx hZ hw hby hown hrt hr
def b3_30 (i0 : Int32) : Int32 := (if (95 : Int32) < i0 then (if i0 < (97 : Int32) then (1 : Int32) else (b3_44 i0)) else (b3_44 i0))
set_option maxRecDepth 65536 in
set_option maxHeartbeats 40000000 in
theorem bl3_30 {p : Program} {l : Launch} {e : Env} {R : Room} {s : State} {m : MethodId} {args : Array Value} {below : List Frame} {meth : Method} {c : Code} {T : State} {locs : List Loc} {cells slots : Nat} {Z : State} {a0 : Array Value} (i0 : Int32) (X0 : Stand p l e R s m args below meth c T locs cells slots) (hx : p.tables.exec = Jvm.exec) (hZ : Z.Warmed39 s.vm) (hw : ∀ d ∈ tables_1, d.before a0 Z = true) (hby : c.code = method_2_code) (hown : s.vm.findClass "com/example/nodetest/nodetest/xdm/LexicalIsNameStartCharPinLaw" = some m.cls) (hrt : meth.sig.returnType = some .boolean) {fs : List Frame} (hr : ∀ (f : JFrame) (acts : List Action), f.method = m → f.locked = none → f.entered = [] → (doReturn e (T.setTop f) acts (some (.int (b3_30 i0)))).1 = T.setFrames fs) :
    Steps p.tables e below (T.setTop (mkF m 30 #[.val (.int i0)] [])) (T.setFrames fs) := by
  refine XS.iloadN X0.here hx rfl (hb hby d3_30) rfl ?_
  show Steps p.tables e below (T.setTop (mkF m 31 #[.val (.int i0)] [(.int i0)])) _
  refine XS.bipush X0.here hx rfl (hb hby d3_31) ?_
  show Steps p.tables e below (T.setTop (mkF m 33 #[.val (.int i0)] [(.int (95 : Int32)), (.int i0)])) _
  by_cases hc0 : (95 : Int32) < i0
  · refine XS.icmpNo X0.here hx rfl (hb hby d3_33) rfl (tlt hc0).2.2.2 ?_
    show Steps p.tables e below (T.setTop (mkF m 36 #[.val (.int i0)] [])) _
    refine XS.iloadN X0.here hx rfl (hb hby d3_36) rfl ?_
    show Steps p.tables e below (T.setTop (mkF m 37 #[.val (.int i0)] [(.int i0)])) _
    refine XS.bipush X0.here hx rfl (hb hby d3_37) ?_
    show Steps p.tables e below (T.setTop (mkF m 39 #[.val (.int i0)] [(.int (97 : Int32)), (.int i0)])) _
    by_cases hc1 : i0 < (97 : Int32)
    · rw [show b3_30 i0 = (1 : Int32) from by rw [b3_30, if_pos hc0, if_pos hc1]] at hr
      refine XS.icmpNo X0.here hx rfl (hb hby d3_39) rfl (tlt hc1).2.1 ?_
      show Steps p.tables e below (T.setTop (mkF m 42 #[.val (.int i0)] [])) _
      refine XS.iconst X0.here hx rfl (hb hby d3_42) ?_
      show Steps p.tables e below (T.setTop (mkF m 43 #[.val (.int i0)] [(.int (1 : Int32))])) _
      exact retN X0 hx (t := .boolean) hrt (by simp) (hb hby d3_43) hr
    · rw [show b3_30 i0 = b3_44 i0 from by rw [b3_30, if_pos hc0, if_neg hc1]] at hr
      refine XS.icmpYes X0.here hx rfl (pc0 := 39) (pc' := 44) rfl (hb hby d3_39) rfl (flt hc1).2.1 (by decide) (by decide) ?_
      exact bl3_44 i0 X0 hx hZ hw hby hown hrt hr
  · rw [show b3_30 i0 = b3_44 i0 from by rw [b3_30, if_neg hc0]] at hr
    refine XS.icmpYes X0.here hx rfl (pc0 := 33) (pc' := 44) rfl (hb hby d3_33) rfl (flt hc0).2.2.2 (by decide) (by decide) ?_
    exact bl3_44 i0 X0 hx hZ hw hby hown hrt hr
def b3_0 (p0 : Int32) : Int32 := (if p0 < (65 : Int32) then (1 : Int32) else (if (983039 : Int32) < p0 then (1 : Int32) else (if (90 : Int32) < p0 then (if p0 < (95 : Int32) then (1 : Int32) else (b3_30 p0)) else (b3_30 p0))))
set_option maxRecDepth 65536 in
set_option maxHeartbeats 40000000 in
theorem bl3_0 {p : Program} {l : Launch} {e : Env} {R : Room} {s : State} {m : MethodId} {args : Array Value} {below : List Frame} {meth : Method} {c : Code} {T : State} {locs : List Loc} {cells slots : Nat} {Z : State} {a0 : Array Value} (p0 : Int32) (X0 : Stand p l e R s m args below meth c T locs cells slots) (hx : p.tables.exec = Jvm.exec) (hZ : Z.Warmed39 s.vm) (hw : ∀ d ∈ tables_1, d.before a0 Z = true) (hby : c.code = method_2_code) (hown : s.vm.findClass "com/example/nodetest/nodetest/xdm/LexicalIsNameStartCharPinLaw" = some m.cls) (hrt : meth.sig.returnType = some .boolean) {fs : List Frame} (hr : ∀ (f : JFrame) (acts : List Action), f.method = m → f.locked = none → f.entered = [] → (doReturn e (T.setTop f) acts (some (.int (b3_0 p0)))).1 = T.setFrames fs) :
    Steps p.tables e below (T.setTop (mkF m 0 #[.val (.int p0)] [])) (T.setFrames fs) := by
  refine XS.iloadN X0.here hx rfl (hb hby d3_0) rfl ?_
  show Steps p.tables e below (T.setTop (mkF m 1 #[.val (.int p0)] [(.int p0)])) _
  refine XS.bipush X0.here hx rfl (hb hby d3_1) ?_
  show Steps p.tables e below (T.setTop (mkF m 3 #[.val (.int p0)] [(.int (65 : Int32)), (.int p0)])) _
  by_cases hc0 : p0 < (65 : Int32)
  · rw [show b3_0 p0 = (1 : Int32) from by rw [b3_0, if_pos hc0]] at hr
    refine XS.icmpNo X0.here hx rfl (hb hby d3_3) rfl (tlt hc0).2.1 ?_
    show Steps p.tables e below (T.setTop (mkF m 6 #[.val (.int p0)] [])) _
    refine XS.iconst X0.here hx rfl (hb hby d3_6) ?_
    show Steps p.tables e below (T.setTop (mkF m 7 #[.val (.int p0)] [(.int (1 : Int32))])) _
    exact retN X0 hx (t := .boolean) hrt (by simp) (hb hby d3_7) hr
  · refine XS.icmpYes X0.here hx rfl (pc0 := 3) (pc' := 8) rfl (hb hby d3_3) rfl (flt hc0).2.1 (by decide) (by decide) ?_
    show Steps p.tables e below (T.setTop (mkF m 8 #[.val (.int p0)] [])) _
    refine XS.iloadN X0.here hx rfl (hb hby d3_8) rfl ?_
    show Steps p.tables e below (T.setTop (mkF m 9 #[.val (.int p0)] [(.int p0)])) _
    refine X0.ldcInt hx hown (mvT hZ (hw _ (List.mem_of_getElem? (i := 7) rfl))) (g := (mkF m 9 #[.val (.int p0)] [(.int p0)])) rfl (hb hby d3_9) _ ?_
    show Steps p.tables e below (T.setTop (mkF m 11 #[.val (.int p0)] [(.int (983039 : Int32)), (.int p0)])) _
    by_cases hc1 : (983039 : Int32) < p0
    · rw [show b3_0 p0 = (1 : Int32) from by rw [b3_0, if_neg hc0, if_pos hc1]] at hr
      refine XS.icmpNo X0.here hx rfl (hb hby d3_11) rfl (tlt hc1).2.2.2 ?_
      show Steps p.tables e below (T.setTop (mkF m 14 #[.val (.int p0)] [])) _
      refine XS.iconst X0.here hx rfl (hb hby d3_14) ?_
      show Steps p.tables e below (T.setTop (mkF m 15 #[.val (.int p0)] [(.int (1 : Int32))])) _
      exact retN X0 hx (t := .boolean) hrt (by simp) (hb hby d3_15) hr
    · refine XS.icmpYes X0.here hx rfl (pc0 := 11) (pc' := 16) rfl (hb hby d3_11) rfl (flt hc1).2.2.2 (by decide) (by decide) ?_
      show Steps p.tables e below (T.setTop (mkF m 16 #[.val (.int p0)] [])) _
      refine XS.iloadN X0.here hx rfl (hb hby d3_16) rfl ?_
      show Steps p.tables e below (T.setTop (mkF m 17 #[.val (.int p0)] [(.int p0)])) _
      refine XS.bipush X0.here hx rfl (hb hby d3_17) ?_
      show Steps p.tables e below (T.setTop (mkF m 19 #[.val (.int p0)] [(.int (90 : Int32)), (.int p0)])) _
      by_cases hc2 : (90 : Int32) < p0
      · refine XS.icmpNo X0.here hx rfl (hb hby d3_19) rfl (tlt hc2).2.2.2 ?_
        show Steps p.tables e below (T.setTop (mkF m 22 #[.val (.int p0)] [])) _
        refine XS.iloadN X0.here hx rfl (hb hby d3_22) rfl ?_
        show Steps p.tables e below (T.setTop (mkF m 23 #[.val (.int p0)] [(.int p0)])) _
        refine XS.bipush X0.here hx rfl (hb hby d3_23) ?_
        show Steps p.tables e below (T.setTop (mkF m 25 #[.val (.int p0)] [(.int (95 : Int32)), (.int p0)])) _
        by_cases hc3 : p0 < (95 : Int32)
        · rw [show b3_0 p0 = (1 : Int32) from by rw [b3_0, if_neg hc0, if_neg hc1, if_pos hc2, if_pos hc3]] at hr
          refine XS.icmpNo X0.here hx rfl (hb hby d3_25) rfl (tlt hc3).2.1 ?_
          show Steps p.tables e below (T.setTop (mkF m 28 #[.val (.int p0)] [])) _
          refine XS.iconst X0.here hx rfl (hb hby d3_28) ?_
          show Steps p.tables e below (T.setTop (mkF m 29 #[.val (.int p0)] [(.int (1 : Int32))])) _
          exact retN X0 hx (t := .boolean) hrt (by simp) (hb hby d3_29) hr
        · rw [show b3_0 p0 = b3_30 p0 from by rw [b3_0, if_neg hc0, if_neg hc1, if_pos hc2, if_neg hc3]] at hr
          refine XS.icmpYes X0.here hx rfl (pc0 := 25) (pc' := 30) rfl (hb hby d3_25) rfl (flt hc3).2.1 (by decide) (by decide) ?_
          exact bl3_30 p0 X0 hx hZ hw hby hown hrt hr
      · rw [show b3_0 p0 = b3_30 p0 from by rw [b3_0, if_neg hc0, if_neg hc1, if_neg hc2]] at hr
        refine XS.icmpYes X0.here hx rfl (pc0 := 19) (pc' := 30) rfl (hb hby d3_19) rfl (flt hc2).2.2.2 (by decide) (by decide) ?_
        exact bl3_30 p0 X0 hx hZ hw hby hown hrt hr
def Q3 (Z : State) (p0 : Int32) (h0 : Heap) (n0 : Nat) (v : Option Value) (h : Heap) (L : List Loc) : Prop := v = some (.int (b3_0 p0)) ∧ Fr n0 L ∧ h = h0
set_option maxRecDepth 65536 in
set_option maxHeartbeats 40000000 in
theorem rm3 (l : Launch) (Z : State) (a0 : Array Value) (hw : ∀ d ∈ tables_1, d.before a0 Z = true) (ws : List Jvm.Cond) (p0 : Int32) (h0 : Heap) (n0 : Nat) (Z0 : n0 ≤ h0.size) :
    MetFree l (⟨"com/example/nodetest/nodetest/xdm/LexicalIsNameStartCharPinLaw", "excluded", "(I)Z"⟩ : MethodName) (head1 (Jvm.Cond.code (⟨"com/example/nodetest/nodetest/xdm/LexicalIsNameStartCharPinLaw", "excluded", "(I)Z"⟩ : MethodName) method_2_code 1 (some .boolean) :: ws) ({ frames := 0, cells := 0, slots := 0, locals := 0 } : Room)) (fun a U => a = #[(.int p0)] ∧ Z.Warmed39 U.vm ∧ U.heap = h0) (fun _ _ _ _ _ => True) (fun _ U o U' => ∃ v L, o = .returned v ∧ Q3 Z p0 h0 n0 v U'.heap L ∧ FrameEnd U o U' L ({ frames := 0, cells := 0, slots := 0, locals := 0 } : Room).cells ({ frames := 0, cells := 0, slots := 0, locals := 0 } : Room).slots) := by
  refine MetFree.of_bodySF (plainFor_of_name pn_3) hisR ?_
  intro p e s m args below meth c s₁ Bd hml0 hP hK
  obtain ⟨rfl, hZ, hh⟩ := hP
  have hx := Bd.exec
  have hby := Bd.bytes
  have hml : c.maxLocals = 1 := hml0
  have hown : s.vm.findClass "com/example/nodetest/nodetest/xdm/LexicalIsNameStartCharPinLaw" = some m.cls := findClass_of_methodNamed Bd.named
  have hnm := (name_of_methodNamed Bd.named Bd.method).1
  have X0 : Stand p l e ({ frames := 0, cells := 0, slots := 0, locals := 0 } : Room) s m #[(.int p0)] below meth c s₁ [] 0 0 := Stand.of_body Bd
  have e0 : s₁.heap = h0 := by rw [← hh, Bd.state]; rfl
  have N0 := Fr.nil n0
  have pre0 : ∀ t, Steps p.tables e below (s₁.setTop (mkF m 0 #[.val (.int p0)] [])) t → Steps p.tables e below (s₁.setTop (entryFrame m #[(.int p0)] 1)) t := fun t k => castTop (ef_3 m p0) k
  obtain ⟨fs, hr, hrun, hended, hW, hsame⟩ := X0.leave (v := some (.int (b3_0 p0))) (fun h => by rw [Bd.returns] at h; cases h)
  refine ⟨_, _, pre0 _ ?_, hrun, hended, _, _, rfl, ?_, ⟨_, rfl⟩, hW, hsame.mono (by decide) (by decide)⟩
  · exact bl3_0 p0 X0 hx hZ hw hby hown Bd.returns hr
  · show Q3 Z p0 h0 n0 _ s₁.heap _
    rw [e0]
    exact ⟨rfl, N0, rfl⟩
theorem zb2_179 (c : Int32) : b2_179 c = 0 ∨ b2_179 c = 1 := by
  rw [b2_179]; repeat' (first | exact Or.inl rfl | exact Or.inr rfl | apply own_ite01)
theorem zb2_167 (c : Int32) : b2_167 c = 0 ∨ b2_167 c = 1 := by
  rw [b2_167]; repeat' (first | exact Or.inl rfl | exact Or.inr rfl | exact zb2_179 c | apply own_ite01)
theorem zb2_155 (c : Int32) : b2_155 c = 0 ∨ b2_155 c = 1 := by
  rw [b2_155]; repeat' (first | exact Or.inl rfl | exact Or.inr rfl | exact zb2_167 c | apply own_ite01)
theorem zb2_142 (c : Int32) : b2_142 c = 0 ∨ b2_142 c = 1 := by
  rw [b2_142]; repeat' (first | exact Or.inl rfl | exact Or.inr rfl | exact zb2_155 c | apply own_ite01)
theorem zb2_128 (c : Int32) : b2_128 c = 0 ∨ b2_128 c = 1 := by
  rw [b2_128]; repeat' (first | exact Or.inl rfl | exact Or.inr rfl | exact zb2_142 c | apply own_ite01)
theorem zb2_114 (c : Int32) : b2_114 c = 0 ∨ b2_114 c = 1 := by
  rw [b2_114]; repeat' (first | exact Or.inl rfl | exact Or.inr rfl | exact zb2_128 c | apply own_ite01)
theorem zb2_100 (c : Int32) : b2_100 c = 0 ∨ b2_100 c = 1 := by
  rw [b2_100]; repeat' (first | exact Or.inl rfl | exact Or.inr rfl | exact zb2_114 c | apply own_ite01)
theorem zb2_86 (c : Int32) : b2_86 c = 0 ∨ b2_86 c = 1 := by
  rw [b2_86]; repeat' (first | exact Or.inl rfl | exact Or.inr rfl | exact zb2_100 c | apply own_ite01)
theorem zb2_72 (c : Int32) : b2_72 c = 0 ∨ b2_72 c = 1 := by
  rw [b2_72]; repeat' (first | exact Or.inl rfl | exact Or.inr rfl | exact zb2_86 c | apply own_ite01)
theorem zb2_58 (c : Int32) : b2_58 c = 0 ∨ b2_58 c = 1 := by
  rw [b2_58]; repeat' (first | exact Or.inl rfl | exact Or.inr rfl | exact zb2_72 c | apply own_ite01)
theorem zb2_44 (c : Int32) : b2_44 c = 0 ∨ b2_44 c = 1 := by
  rw [b2_44]; repeat' (first | exact Or.inl rfl | exact Or.inr rfl | exact zb2_58 c | apply own_ite01)
theorem zb2_30 (c : Int32) : b2_30 c = 0 ∨ b2_30 c = 1 := by
  rw [b2_30]; repeat' (first | exact Or.inl rfl | exact Or.inr rfl | exact zb2_44 c | apply own_ite01)
theorem zb2_12 (c : Int32) : b2_12 c = 0 ∨ b2_12 c = 1 := by
  rw [b2_12]; repeat' (first | exact Or.inl rfl | exact Or.inr rfl | exact zb2_30 c | apply own_ite01)
theorem zb2_0 (c : Int32) : b2_0 c = 0 ∨ b2_0 c = 1 := by
  rw [b2_0]; repeat' (first | exact Or.inl rfl | exact Or.inr rfl | exact zb2_12 c | apply own_ite01)
theorem zb3_192 (c : Int32) : b3_192 c = 0 ∨ b3_192 c = 1 := by
  rw [b3_192]; repeat' (first | exact Or.inl rfl | exact Or.inr rfl | apply own_ite01)
theorem zb3_178 (c : Int32) : b3_178 c = 0 ∨ b3_178 c = 1 := by
  rw [b3_178]; repeat' (first | exact Or.inl rfl | exact Or.inr rfl | exact zb3_192 c | apply own_ite01)
theorem zb3_164 (c : Int32) : b3_164 c = 0 ∨ b3_164 c = 1 := by
  rw [b3_164]; repeat' (first | exact Or.inl rfl | exact Or.inr rfl | exact zb3_178 c | apply own_ite01)
theorem zb3_148 (c : Int32) : b3_148 c = 0 ∨ b3_148 c = 1 := by
  rw [b3_148]; repeat' (first | exact Or.inl rfl | exact Or.inr rfl | exact zb3_164 c | apply own_ite01)
theorem zb3_132 (c : Int32) : b3_132 c = 0 ∨ b3_132 c = 1 := by
  rw [b3_132]; repeat' (first | exact Or.inl rfl | exact Or.inr rfl | exact zb3_148 c | apply own_ite01)
theorem zb3_116 (c : Int32) : b3_116 c = 0 ∨ b3_116 c = 1 := by
  rw [b3_116]; repeat' (first | exact Or.inl rfl | exact Or.inr rfl | exact zb3_132 c | apply own_ite01)
theorem zb3_91 (c : Int32) : b3_91 c = 0 ∨ b3_91 c = 1 := by
  rw [b3_91]; repeat' (first | exact Or.inl rfl | exact Or.inr rfl | exact zb3_116 c | apply own_ite01)
theorem zb3_59 (c : Int32) : b3_59 c = 0 ∨ b3_59 c = 1 := by
  rw [b3_59]; repeat' (first | exact Or.inl rfl | exact Or.inr rfl | exact zb3_91 c | apply own_ite01)
theorem zb3_44 (c : Int32) : b3_44 c = 0 ∨ b3_44 c = 1 := by
  rw [b3_44]; repeat' (first | exact Or.inl rfl | exact Or.inr rfl | exact zb3_59 c | apply own_ite01)
theorem zb3_30 (c : Int32) : b3_30 c = 0 ∨ b3_30 c = 1 := by
  rw [b3_30]; repeat' (first | exact Or.inl rfl | exact Or.inr rfl | exact zb3_44 c | apply own_ite01)
theorem zb3_0 (c : Int32) : b3_0 c = 0 ∨ b3_0 c = 1 := by
  rw [b3_0]; repeat' (first | exact Or.inl rfl | exact Or.inr rfl | exact zb3_30 c | apply own_ite01)
theorem own_seg2 (n : Int) : (n < 65 ∨ 983039 < n ∨ (90 < n ∧ n < 95) ∨ (95 < n ∧ n < 97) ∨ (122 < n ∧ n < 192) ∨ n = 215 ∨ n = 247 ∨ (768 ≤ n ∧ n ≤ 879) ∨ n = 894 ∨ (8192 ≤ n ∧ n ≤ 8203) ∨ (8206 ≤ n ∧ n ≤ 8303) ∨ (8592 ≤ n ∧ n ≤ 11263) ∨ (12272 ≤ n ∧ n ≤ 12288) ∨ (55296 ≤ n ∧ n ≤ 63743) ∨ (64976 ≤ n ∧ n ≤ 65007) ∨ n = 65534 ∨ n = 65535) ∨ ((65 ≤ n ∧ n ≤ 90) ∨ n = 95 ∨ (97 ≤ n ∧ n ≤ 122) ∨ (192 ≤ n ∧ n ≤ 214) ∨ (216 ≤ n ∧ n ≤ 246) ∨ (248 ≤ n ∧ n ≤ 767) ∨ (880 ≤ n ∧ n ≤ 893) ∨ (895 ≤ n ∧ n ≤ 8191) ∨ (8204 ≤ n ∧ n ≤ 8205) ∨ (8304 ≤ n ∧ n ≤ 8591) ∨ (11264 ≤ n ∧ n ≤ 12271) ∨ (12289 ≤ n ∧ n ≤ 55295) ∨ (63744 ≤ n ∧ n ≤ 64975) ∨ (65008 ≤ n ∧ n ≤ 65533) ∨ (65536 ≤ n ∧ n ≤ 983039)) := by
  by_cases t0 : n < 65
  · exact (Or.inl (Or.inl (by omega)))
  by_cases t1 : n < 91
  · exact (Or.inr (Or.inl ⟨by omega, by omega⟩))
  by_cases t2 : n < 95
  · exact (Or.inl (Or.inr (Or.inr (Or.inl ⟨by omega, by omega⟩))))
  by_cases t3 : n < 96
  · exact (Or.inr (Or.inr (Or.inl (by omega))))
  by_cases t4 : n < 97
  · exact (Or.inl (Or.inr (Or.inr (Or.inr (Or.inl ⟨by omega, by omega⟩)))))
  by_cases t5 : n < 123
  · exact (Or.inr (Or.inr (Or.inr (Or.inl ⟨by omega, by omega⟩))))
  by_cases t6 : n < 192
  · exact (Or.inl (Or.inr (Or.inr (Or.inr (Or.inr (Or.inl ⟨by omega, by omega⟩))))))
  by_cases t7 : n < 215
  · exact (Or.inr (Or.inr (Or.inr (Or.inr (Or.inl ⟨by omega, by omega⟩)))))
  by_cases t8 : n < 216
  · exact (Or.inl (Or.inr (Or.inr (Or.inr (Or.inr (Or.inr (Or.inl (by omega))))))))
  by_cases t9 : n < 247
  · exact (Or.inr (Or.inr (Or.inr (Or.inr (Or.inr (Or.inl ⟨by omega, by omega⟩))))))
  by_cases t10 : n < 248
  · exact (Or.inl (Or.inr (Or.inr (Or.inr (Or.inr (Or.inr (Or.inr (Or.inl (by omega)))))))))
  by_cases t11 : n < 768
  · exact (Or.inr (Or.inr (Or.inr (Or.inr (Or.inr (Or.inr (Or.inl ⟨by omega, by omega⟩)))))))
  by_cases t12 : n < 880
  · exact (Or.inl (Or.inr (Or.inr (Or.inr (Or.inr (Or.inr (Or.inr (Or.inr (Or.inl ⟨by omega, by omega⟩)))))))))
  by_cases t13 : n < 894
  · exact (Or.inr (Or.inr (Or.inr (Or.inr (Or.inr (Or.inr (Or.inr (Or.inl ⟨by omega, by omega⟩))))))))
  by_cases t14 : n < 895
  · exact (Or.inl (Or.inr (Or.inr (Or.inr (Or.inr (Or.inr (Or.inr (Or.inr (Or.inr (Or.inl (by omega)))))))))))
  by_cases t15 : n < 8192
  · exact (Or.inr (Or.inr (Or.inr (Or.inr (Or.inr (Or.inr (Or.inr (Or.inr (Or.inl ⟨by omega, by omega⟩)))))))))
  by_cases t16 : n < 8204
  · exact (Or.inl (Or.inr (Or.inr (Or.inr (Or.inr (Or.inr (Or.inr (Or.inr (Or.inr (Or.inr (Or.inl ⟨by omega, by omega⟩)))))))))))
  by_cases t17 : n < 8206
  · exact (Or.inr (Or.inr (Or.inr (Or.inr (Or.inr (Or.inr (Or.inr (Or.inr (Or.inr (Or.inl ⟨by omega, by omega⟩))))))))))
  by_cases t18 : n < 8304
  · exact (Or.inl (Or.inr (Or.inr (Or.inr (Or.inr (Or.inr (Or.inr (Or.inr (Or.inr (Or.inr (Or.inr (Or.inl ⟨by omega, by omega⟩))))))))))))
  by_cases t19 : n < 8592
  · exact (Or.inr (Or.inr (Or.inr (Or.inr (Or.inr (Or.inr (Or.inr (Or.inr (Or.inr (Or.inr (Or.inl ⟨by omega, by omega⟩)))))))))))
  by_cases t20 : n < 11264
  · exact (Or.inl (Or.inr (Or.inr (Or.inr (Or.inr (Or.inr (Or.inr (Or.inr (Or.inr (Or.inr (Or.inr (Or.inr (Or.inl ⟨by omega, by omega⟩)))))))))))))
  by_cases t21 : n < 12272
  · exact (Or.inr (Or.inr (Or.inr (Or.inr (Or.inr (Or.inr (Or.inr (Or.inr (Or.inr (Or.inr (Or.inr (Or.inl ⟨by omega, by omega⟩))))))))))))
  by_cases t22 : n < 12289
  · exact (Or.inl (Or.inr (Or.inr (Or.inr (Or.inr (Or.inr (Or.inr (Or.inr (Or.inr (Or.inr (Or.inr (Or.inr (Or.inr (Or.inl ⟨by omega, by omega⟩))))))))))))))
  by_cases t23 : n < 55296
  · exact (Or.inr (Or.inr (Or.inr (Or.inr (Or.inr (Or.inr (Or.inr (Or.inr (Or.inr (Or.inr (Or.inr (Or.inr (Or.inl ⟨by omega, by omega⟩)))))))))))))
  by_cases t24 : n < 63744
  · exact (Or.inl (Or.inr (Or.inr (Or.inr (Or.inr (Or.inr (Or.inr (Or.inr (Or.inr (Or.inr (Or.inr (Or.inr (Or.inr (Or.inr (Or.inl ⟨by omega, by omega⟩)))))))))))))))
  by_cases t25 : n < 64976
  · exact (Or.inr (Or.inr (Or.inr (Or.inr (Or.inr (Or.inr (Or.inr (Or.inr (Or.inr (Or.inr (Or.inr (Or.inr (Or.inr (Or.inl ⟨by omega, by omega⟩))))))))))))))
  by_cases t26 : n < 65008
  · exact (Or.inl (Or.inr (Or.inr (Or.inr (Or.inr (Or.inr (Or.inr (Or.inr (Or.inr (Or.inr (Or.inr (Or.inr (Or.inr (Or.inr (Or.inr (Or.inl ⟨by omega, by omega⟩))))))))))))))))
  by_cases t27 : n < 65534
  · exact (Or.inr (Or.inr (Or.inr (Or.inr (Or.inr (Or.inr (Or.inr (Or.inr (Or.inr (Or.inr (Or.inr (Or.inr (Or.inr (Or.inr (Or.inl ⟨by omega, by omega⟩)))))))))))))))
  by_cases t28 : n < 65535
  · exact (Or.inl (Or.inr (Or.inr (Or.inr (Or.inr (Or.inr (Or.inr (Or.inr (Or.inr (Or.inr (Or.inr (Or.inr (Or.inr (Or.inr (Or.inr (Or.inr (Or.inl (by omega))))))))))))))))))
  by_cases t29 : n < 65536
  · exact (Or.inl (Or.inr (Or.inr (Or.inr (Or.inr (Or.inr (Or.inr (Or.inr (Or.inr (Or.inr (Or.inr (Or.inr (Or.inr (Or.inr (Or.inr (Or.inr (Or.inr (by omega))))))))))))))))))
  by_cases t30 : n < 983040
  · exact (Or.inr (Or.inr (Or.inr (Or.inr (Or.inr (Or.inr (Or.inr (Or.inr (Or.inr (Or.inr (Or.inr (Or.inr (Or.inr (Or.inr (Or.inr ⟨by omega, by omega⟩)))))))))))))))
  exact (Or.inl (Or.inr (Or.inl (by omega))))
theorem own_seg1 (n : Int) (h : n < 65 ∨ 983039 < n ∨ (90 < n ∧ n < 95) ∨ (95 < n ∧ n < 97) ∨ (122 < n ∧ n < 192) ∨ n = 215 ∨ n = 247 ∨ (768 ≤ n ∧ n ≤ 879) ∨ n = 894 ∨ (8192 ≤ n ∧ n ≤ 8203) ∨ (8206 ≤ n ∧ n ≤ 8303) ∨ (8592 ≤ n ∧ n ≤ 11263) ∨ (12272 ≤ n ∧ n ≤ 12288) ∨ (55296 ≤ n ∧ n ≤ 63743) ∨ (64976 ≤ n ∧ n ≤ 65007) ∨ n = 65534 ∨ n = 65535) (g : (65 ≤ n ∧ n ≤ 90) ∨ n = 95 ∨ (97 ≤ n ∧ n ≤ 122) ∨ (192 ≤ n ∧ n ≤ 214) ∨ (216 ≤ n ∧ n ≤ 246) ∨ (248 ≤ n ∧ n ≤ 767) ∨ (880 ≤ n ∧ n ≤ 893) ∨ (895 ≤ n ∧ n ≤ 8191) ∨ (8204 ≤ n ∧ n ≤ 8205) ∨ (8304 ≤ n ∧ n ≤ 8591) ∨ (11264 ≤ n ∧ n ≤ 12271) ∨ (12289 ≤ n ∧ n ≤ 55295) ∨ (63744 ≤ n ∧ n ≤ 64975) ∨ (65008 ≤ n ∧ n ≤ 65533) ∨ (65536 ≤ n ∧ n ≤ 983039)) : False := by
  rcases h with h | h | h | h | h | h | h | h | h | h | h | h | h | h | h | h | h <;> rcases g with g | g | g | g | g | g | g | g | g | g | g | g | g | g | g <;> omega
theorem own_seg (n : Int) : (n < 65 ∨ 983039 < n ∨ (90 < n ∧ n < 95) ∨ (95 < n ∧ n < 97) ∨ (122 < n ∧ n < 192) ∨ n = 215 ∨ n = 247 ∨ (768 ≤ n ∧ n ≤ 879) ∨ n = 894 ∨ (8192 ≤ n ∧ n ≤ 8203) ∨ (8206 ≤ n ∧ n ≤ 8303) ∨ (8592 ≤ n ∧ n ≤ 11263) ∨ (12272 ≤ n ∧ n ≤ 12288) ∨ (55296 ≤ n ∧ n ≤ 63743) ∨ (64976 ≤ n ∧ n ≤ 65007) ∨ n = 65534 ∨ n = 65535) ↔ ¬ ((65 ≤ n ∧ n ≤ 90) ∨ n = 95 ∨ (97 ≤ n ∧ n ≤ 122) ∨ (192 ≤ n ∧ n ≤ 214) ∨ (216 ≤ n ∧ n ≤ 246) ∨ (248 ≤ n ∧ n ≤ 767) ∨ (880 ≤ n ∧ n ≤ 893) ∨ (895 ≤ n ∧ n ≤ 8191) ∨ (8204 ≤ n ∧ n ≤ 8205) ∨ (8304 ≤ n ∧ n ≤ 8591) ∨ (11264 ≤ n ∧ n ≤ 12271) ∨ (12289 ≤ n ∧ n ≤ 55295) ∨ (63744 ≤ n ∧ n ≤ 64975) ∨ (65008 ≤ n ∧ n ≤ 65533) ∨ (65536 ≤ n ∧ n ≤ 983039)) := ⟨own_seg1 n, fun h => (own_seg2 n).resolve_right h⟩
theorem own_iff2 (c : Int32) : ∃ P : Prop, (b2_0 c = 1 ↔ P) ∧ (b3_0 c = 1 ↔ ¬ P) := by
  refine ⟨_, Iff.rfl, ?_⟩
  rw [b3_0, own_l1, own_g1, own_gap, b3_30, own_gap, b3_44, own_gap, b3_59, own_e1, own_e1, own_rng, b3_91, own_e1, own_rng, b3_116, own_rng, b3_132, own_rng, b3_148, own_rng, b3_164, own_rng, b3_178, own_rng, b3_192, own_e1, own_e1, own_0]
  rw [b2_0, own_rng, b2_12, own_e1, own_rng, b2_30, own_rng, b2_44, own_rng, b2_58, own_rng, b2_72, own_rng, b2_86, own_rng, b2_100, own_rng, b2_114, own_rng, b2_128, own_rng, b2_142, own_rng, b2_155, own_rng, b2_167, own_rng, b2_179, own_rng, own_0]
  simp only [show (0 : Int32).toInt = 0 from by decide, show (1 : Int32).toInt = 1 from by decide, show (65 : Int32).toInt = 65 from by decide, show (90 : Int32).toInt = 90 from by decide, show (95 : Int32).toInt = 95 from by decide, show (97 : Int32).toInt = 97 from by decide, show (122 : Int32).toInt = 122 from by decide, show (192 : Int32).toInt = 192 from by decide, show (214 : Int32).toInt = 214 from by decide, show (215 : Int32).toInt = 215 from by decide, show (216 : Int32).toInt = 216 from by decide, show (246 : Int32).toInt = 246 from by decide, show (247 : Int32).toInt = 247 from by decide, show (248 : Int32).toInt = 248 from by decide, show (767 : Int32).toInt = 767 from by decide, show (768 : Int32).toInt = 768 from by decide, show (879 : Int32).toInt = 879 from by decide, show (880 : Int32).toInt = 880 from by decide, show (893 : Int32).toInt = 893 from by decide, show (894 : Int32).toInt = 894 from by decide, show (895 : Int32).toInt = 895 from by decide, show (8191 : Int32).toInt = 8191 from by decide, show (8192 : Int32).toInt = 8192 from by decide, show (8203 : Int32).toInt = 8203 from by decide, show (8204 : Int32).toInt = 8204 from by decide, show (8205 : Int32).toInt = 8205 from by decide, show (8206 : Int32).toInt = 8206 from by decide, show (8303 : Int32).toInt = 8303 from by decide, show (8304 : Int32).toInt = 8304 from by decide, show (8591 : Int32).toInt = 8591 from by decide, show (8592 : Int32).toInt = 8592 from by decide, show (11263 : Int32).toInt = 11263 from by decide, show (11264 : Int32).toInt = 11264 from by decide, show (12271 : Int32).toInt = 12271 from by decide, show (12272 : Int32).toInt = 12272 from by decide, show (12288 : Int32).toInt = 12288 from by decide, show (12289 : Int32).toInt = 12289 from by decide, show (55295 : Int32).toInt = 55295 from by decide, show (55296 : Int32).toInt = 55296 from by decide, show (63743 : Int32).toInt = 63743 from by decide, show (63744 : Int32).toInt = 63744 from by decide, show (64975 : Int32).toInt = 64975 from by decide, show (64976 : Int32).toInt = 64976 from by decide, show (65007 : Int32).toInt = 65007 from by decide, show (65008 : Int32).toInt = 65008 from by decide, show (65533 : Int32).toInt = 65533 from by decide, show (65534 : Int32).toInt = 65534 from by decide, show (65535 : Int32).toInt = 65535 from by decide, show (65536 : Int32).toInt = 65536 from by decide, show (983039 : Int32).toInt = 983039 from by decide, or_false]
  exact own_seg c.toInt
theorem own_a1 (c : Int32) (h : b3_0 c = (0 : Int32)) : b2_0 c = (1 : Int32) := by
  obtain ⟨P, h1, h2⟩ := own_iff2 c
  exact h1.mpr (Classical.byContradiction fun q => by have := h2.mpr q; rw [h] at this; exact absurd this (by decide))
theorem own_a2 (c : Int32) (h : ¬ b3_0 c = (0 : Int32)) : b2_0 c = (0 : Int32) := by
  obtain ⟨P, h1, h2⟩ := own_iff2 c
  rcases zb2_0 c with e | e
  · exact e
  · rcases zb3_0 c with e' | e'
    · exact absurd e' h
    · exact absurd (h1.mp e) (h2.mp e')
theorem own_idx (x : Int32) : ¬ ((x &&& (2147483647 : Int32)) % (37 : Int32)) < 0 ∧ ((x &&& (2147483647 : Int32)) % (37 : Int32)) < (37 : Int32) := by
  have a := c_mask x 2147483647 31 (by decide) (by decide)
  have r := rng32 x
  have b := (c_irem (x &&& 2147483647) 37 37 (by decide)).1 (by omega)
  have e0 : (0 : Int32).toInt = 0 := by decide
  have e1 : (37 : Int32).toInt = 37 := by decide
  rw [Int32.lt_iff_toInt_lt, Int32.lt_iff_toInt_lt]
  omega
theorem d1_0 : decode method_3_code 0 = .ok (.iload_n 0, 1) := by decide +kernel
theorem d1_1 : decode method_3_code 1 = .ok (.invokestatic 14, 3) := by decide +kernel
theorem d1_4 : decode method_3_code 4 = .ok (.iload_n 0, 1) := by decide +kernel
theorem d1_5 : decode method_3_code 5 = .ok (.invokestatic 20, 3) := by decide +kernel
theorem d1_8 : decode method_3_code 8 = .ok (.ifCond .ne 7, 3) := by decide +kernel
theorem d1_11 : decode method_3_code 11 = .ok (.iconst 1, 1) := by decide +kernel
theorem d1_12 : decode method_3_code 12 = .ok (.goto 4, 3) := by decide +kernel
theorem d1_15 : decode method_3_code 15 = .ok (.iconst 0, 1) := by decide +kernel
theorem d1_16 : decode method_3_code 16 = .ok (.if_icmp .ne 7, 3) := by decide +kernel
theorem d1_19 : decode method_3_code 19 = .ok (.iconst 1, 1) := by decide +kernel
theorem d1_20 : decode method_3_code 20 = .ok (.goto 4, 3) := by decide +kernel
theorem d1_24 : decode method_3_code 24 = .ok (.ireturn, 1) := by decide +kernel
theorem pn_1 : plainName "com/example/nodetest/nodetest/xdm/LexicalIsNameStartCharPinLaw" = true := by first | (simp [plainName, overriddenIn]; done) | decide +kernel
theorem ef_1 (m : MethodId) (p0 : Int32) : entryFrame m #[(.int p0)] 1 = mkF m 0 #[.val (.int p0)] [] := by first | (simp [entryFrame, mkF, argsToLocals, Value.category]; done) | rfl
theorem pd_0 : parseMethodDescriptor "(I)Z" = some ⟨[.int], some .boolean⟩ := by decide +kernel
def Q1 (Z : State) (p0 : Int32) (h0 : Heap) (n0 : Nat) (v : Option Value) (h : Heap) (L : List Loc) : Prop := v = some (.int (1 : Int32)) ∧ Fr n0 L ∧ h = h0
set_option maxRecDepth 65536 in
set_option maxHeartbeats 40000000 in
theorem rm1 (l : Launch) (Z : State) (a0 : Array Value) (hw : ∀ d ∈ tables_1, d.before a0 Z = true) (ws : List Jvm.Cond) (p0 : Int32) (h0 : Heap) (n0 : Nat) (Z0 : n0 ≤ h0.size)  :
    MetFree l (⟨"com/example/nodetest/nodetest/xdm/LexicalIsNameStartCharPinLaw", "agrees", "(I)Z"⟩ : MethodName) (head1 (Jvm.Cond.code (⟨"com/example/nodetest/nodetest/xdm/LexicalIsNameStartCharPinLaw", "agrees", "(I)Z"⟩ : MethodName) method_3_code 1 (some .boolean) :: ws) ({ frames := 1, cells := 0, slots := 0, locals := 13 } : Room)) (fun a U => a = #[(.int p0)] ∧ Z.Warmed39 U.vm ∧ U.heap = h0) (fun _ _ _ _ _ => True) (fun _ U o U' => ∃ v L, o = .returned v ∧ Q1 Z p0 h0 n0 v U'.heap L ∧ FrameEnd U o U' L ({ frames := 1, cells := 0, slots := 0, locals := 13 } : Room).cells ({ frames := 1, cells := 0, slots := 0, locals := 13 } : Room).slots) := by
  refine MetFree.of_bodySF (plainFor_of_name pn_1) hisR ?_
  intro p e s m args below meth c s₁ Bd hml0 hP hK
  obtain ⟨rfl, hZ, hh⟩ := hP
  have hx := Bd.exec
  have hby := Bd.bytes
  have hml : c.maxLocals = 1 := hml0
  have hown : s.vm.findClass "com/example/nodetest/nodetest/xdm/LexicalIsNameStartCharPinLaw" = some m.cls := findClass_of_methodNamed Bd.named
  have hnm := (name_of_methodNamed Bd.named Bd.method).1
  have X0 : Stand p l e ({ frames := 1, cells := 0, slots := 0, locals := 13 } : Room) s m #[(.int p0)] below meth c s₁ [] 0 0 := Stand.of_body Bd
  have e0 : s₁.heap = h0 := by rw [← hh, Bd.state]; rfl
  have N0 := Fr.nil n0
  have pre0 : ∀ t, Steps p.tables e below (s₁.setTop (mkF m 0 #[.val (.int p0)] [])) t → Steps p.tables e below (s₁.setTop (entryFrame m #[(.int p0)] 1)) t := fun t k => castTop (ef_1 m p0) k
  obtain ⟨_, _, ⟨T11, L11, k11, n11⟩, -, X11, ⟨Lc11, hQ11, l11, y11, z11⟩, st11⟩ := Jvm.LawKit.callS X0 hx (y := (⟨"com/example/nodetest/nodetest/xdm/Lexical", "isNameStartChar", "(I)Z"⟩ : MethodName)) hown (mvT hZ (hw _ (List.mem_of_getElem? (i := 17) rfl))) (mvT hZ (hw _ (List.mem_of_getElem? (i := 18) rfl))) (mvT hZ (hw _ (List.mem_of_getElem? (i := 19) rfl))) (mvT hZ (hw _ (List.mem_of_getElem? (i := 20) rfl))) (by decide) (backOf (W := 0) (rm2 l Z a0 hw [] p0 h0 n0 Z0) hZ (hw _ (List.mem_of_getElem? (i := 20) rfl)) (hw _ (List.mem_of_getElem? (i := 19) rfl)) (by decide) (by decide)) (g := (mkF m 1 #[.val (.int p0)] [(.int p0)])) rfl (by rw [hml]; rfl) (argsL := [(.int p0)]) (rest := []) (lenOf pd_0 rfl) rfl (by show 2 * 0 + _ ≤ _; exact Nat.le_of_eq rfl) (hb hby d1_1) (fun _ _ => ⟨rfl, e0, (by decide : 0 + 0 ≤ _), (by decide : 0 + 0 ≤ _)⟩)
  dsimp only [Pt.U, Pt.locs, Pt.cells, Pt.slots] at X11 l11 y11 z11 st11 hQ11
  obtain ⟨rfl, Nq11, eh11⟩ := hQ11
  obtain ⟨lc11, X11, N11⟩ : ∃ lc, Stand p l e ({ frames := 1, cells := 0, slots := 0, locals := 13 } : Room) s m #[(.int p0)] below meth c T11 lc 0 0 ∧ Fr n0 lc := ⟨_, (by rw [y11, z11] at X11; exact X11), (by rw [l11]; exact Fr.app N0 Nq11)⟩
  obtain ⟨_, _, ⟨T12, L12, k12, n12⟩, -, X12, ⟨Lc12, hQ12, l12, y12, z12⟩, st12⟩ := Jvm.LawKit.callS X11 hx (y := (⟨"com/example/nodetest/nodetest/xdm/LexicalIsNameStartCharPinLaw", "excluded", "(I)Z"⟩ : MethodName)) hown (mvT hZ (hw _ (List.mem_of_getElem? (i := 24) rfl))) (mvT hZ (hw _ (List.mem_of_getElem? (i := 25) rfl))) (mvT hZ (hw _ (List.mem_of_getElem? (i := 15) rfl))) (mvT hZ (hw _ (List.mem_of_getElem? (i := 26) rfl))) (by decide) (backOf (W := 1) (rm3 l Z a0 hw [] p0 h0 n0 Z0) hZ (hw _ (List.mem_of_getElem? (i := 26) rfl)) (hw _ (List.mem_of_getElem? (i := 15) rfl)) (by decide) (by decide)) (g := (mkF m 5 #[.val (.int p0)] [(.int p0), (.int (b2_0 p0))])) rfl (by rw [hml]; rfl) (argsL := [(.int p0)]) (rest := [(.int (b2_0 p0))]) (lenOf pd_0 rfl) rfl (by show 2 * 0 + _ ≤ _; exact Nat.le_of_eq rfl) (hb hby d1_5) (fun _ _ => ⟨rfl, eh11, (by decide : 0 + 0 ≤ _), (by decide : 0 + 0 ≤ _)⟩)
  dsimp only [Pt.U, Pt.locs, Pt.cells, Pt.slots] at X12 l12 y12 z12 st12 hQ12
  obtain ⟨rfl, Nq12, eh12⟩ := hQ12
  obtain ⟨lc12, X12, N12⟩ : ∃ lc, Stand p l e ({ frames := 1, cells := 0, slots := 0, locals := 13 } : Room) s m #[(.int p0)] below meth c T12 lc 0 0 ∧ Fr n0 lc := ⟨_, (by rw [y12, z12] at X12; exact X12), (by rw [l12]; exact Fr.app N11 Nq12)⟩
  have pre13 : ∀ t, Steps p.tables e below (T12.setTop (mkF m 8 #[.val (.int p0)] [(.int (b3_0 p0)), (.int (b2_0 p0))])) t → Steps p.tables e below (s₁.setTop (entryFrame m #[(.int p0)] 1)) t := fun t k => pre0 t (by
    refine XS.iloadN X0.here hx rfl (hb hby d1_0) rfl ?_
    show Steps p.tables e below (s₁.setTop (mkF m 1 #[.val (.int p0)] [(.int p0)])) _
    refine st11 _ ?_
    show Steps p.tables e below (T11.setTop (mkF m 4 #[.val (.int p0)] [(.int (b2_0 p0))])) _
    refine XS.iloadN X11.here hx rfl (hb hby d1_4) rfl ?_
    show Steps p.tables e below (T11.setTop (mkF m 5 #[.val (.int p0)] [(.int p0), (.int (b2_0 p0))])) _
    refine st12 _ ?_
    exact k)
  by_cases hc14 : (b3_0 p0) = (0 : Int32)
  · obtain ⟨fs, hr, hrun, hended, hW, hsame⟩ := X12.leave (v := some (.int (1 : Int32))) (fun h => by rw [Bd.returns] at h; cases h)
    refine ⟨_, _, pre13 _ ?_, hrun, hended, _, _, rfl, ?_, ⟨_, rfl⟩, hW, hsame.mono (by decide) (by decide)⟩
    · refine XS.ifNo X12.here hx rfl (hb hby d1_8) rfl ((if0 _ _).trans (teq hc14).2) ?_
      show Steps p.tables e below (T12.setTop (mkF m 11 #[.val (.int p0)] [(.int (b2_0 p0))])) _
      refine XS.iconst X12.here hx rfl (hb hby d1_11) ?_
      show Steps p.tables e below (T12.setTop (mkF m 12 #[.val (.int p0)] [(.int (1 : Int32)), (.int (b2_0 p0))])) _
      refine XS.goto X12.here hx rfl (pc0 := 12) (pc' := 16) rfl (hb hby d1_12) (by decide) (by decide) ?_
      show Steps p.tables e below (T12.setTop (mkF m 16 #[.val (.int p0)] [(.int (1 : Int32)), (.int (b2_0 p0))])) _
      refine XS.icmpNo X12.here hx rfl (hb hby d1_16) rfl (teq (own_a1 _ hc14)).2 ?_
      show Steps p.tables e below (T12.setTop (mkF m 19 #[.val (.int p0)] [])) _
      refine XS.iconst X12.here hx rfl (hb hby d1_19) ?_
      show Steps p.tables e below (T12.setTop (mkF m 20 #[.val (.int p0)] [(.int (1 : Int32))])) _
      refine XS.goto X12.here hx rfl (pc0 := 20) (pc' := 24) rfl (hb hby d1_20) (by decide) (by decide) ?_
      show Steps p.tables e below (T12.setTop (mkF m 24 #[.val (.int p0)] [(.int (1 : Int32))])) _
      exact retN X12 hx (t := .boolean) Bd.returns (by simp) (hb hby d1_24) hr
    · show Q1 Z _ h0 n0 _ T12.heap _
      rw [eh12]
      exact ⟨rfl, N12, rfl⟩
  · obtain ⟨fs, hr, hrun, hended, hW, hsame⟩ := X12.leave (v := some (.int (1 : Int32))) (fun h => by rw [Bd.returns] at h; cases h)
    refine ⟨_, _, pre13 _ ?_, hrun, hended, _, _, rfl, ?_, ⟨_, rfl⟩, hW, hsame.mono (by decide) (by decide)⟩
    · refine XS.ifYes X12.here hx rfl (pc0 := 8) (pc' := 15) rfl (hb hby d1_8) rfl ((if0 _ _).trans (feq hc14).2) (by decide) (by decide) ?_
      show Steps p.tables e below (T12.setTop (mkF m 15 #[.val (.int p0)] [(.int (b2_0 p0))])) _
      refine XS.iconst X12.here hx rfl (hb hby d1_15) ?_
      show Steps p.tables e below (T12.setTop (mkF m 16 #[.val (.int p0)] [(.int (0 : Int32)), (.int (b2_0 p0))])) _
      refine XS.icmpNo X12.here hx rfl (hb hby d1_16) rfl (teq (own_a2 _ hc14)).2 ?_
      show Steps p.tables e below (T12.setTop (mkF m 19 #[.val (.int p0)] [])) _
      refine XS.iconst X12.here hx rfl (hb hby d1_19) ?_
      show Steps p.tables e below (T12.setTop (mkF m 20 #[.val (.int p0)] [(.int (1 : Int32))])) _
      refine XS.goto X12.here hx rfl (pc0 := 20) (pc' := 24) rfl (hb hby d1_20) (by decide) (by decide) ?_
      show Steps p.tables e below (T12.setTop (mkF m 24 #[.val (.int p0)] [(.int (1 : Int32))])) _
      exact retN X12 hx (t := .boolean) Bd.returns (by simp) (hb hby d1_24) hr
    · show Q1 Z _ h0 n0 _ T12.heap _
      rw [eh12]
      exact ⟨rfl, N12, rfl⟩
theorem pn_0 : plainName "com/example/nodetest/nodetest/xdm/LexicalIsNameStartCharPinLaw" = true := by first | (simp [plainName, overriddenIn]; done) | decide +kernel
theorem ef_0 (m : MethodId) (p0 : Int32) (p1 : Int32) (p2 : Int32) (p3 : Int32) : entryFrame m #[(.int p0), (.int p1), (.int p2), (.int p3)] maxLocals = mkF m 0 #[.val (.int p0), .val (.int p1), .val (.int p2), .val (.int p3), .unset, .unset, .unset, .unset, .unset] [] := by first | (simp [entryFrame, mkF, argsToLocals, Value.category, maxLocals]; done) | rfl
set_option maxRecDepth 65536 in
set_option maxHeartbeats 40000000 in
theorem tF4 {p : Program} {l : Launch} {e : Env} {s : State} {m : MethodId} {args : Array Value} {below : List Frame} {meth : Method} {c : Code} {T0 : State} {locs0 : List Loc} {Z : State} {a0 : Array Value} (p0 : Int32) (p1 : Int32) (p2 : Int32) (p3 : Int32) (b : Addr) (f : Nat → Int32) (h0 : Heap) (n0 : Nat) (X0 : Stand p l e room_1 s m args below meth c T0 locs0 1 37) (hx : p.tables.exec = Jvm.exec) (hZ : Z.Warmed39 s.vm) (hw : ∀ d ∈ tables_1, d.before a0 Z = true) (hby : c.code = code) (hml : c.maxLocals = 9) (hown : s.vm.findClass "com/example/nodetest/nodetest/xdm/LexicalIsNameStartCharPinLaw" = some m.cls) (e0 : T0.heap = h0) (Z0 : n0 ≤ h0.size) (N0 : Fr n0 locs0) (hp0 : AI Z h0 b .int (37 : Int32) f) (hp1 : n0 ≤ b) :
    ∃ (T' : State) (h' : Heap) (locs' : List Loc) (g : Nat → Int32), Stand p l e room_1 s m args below meth c T' locs' 1 37 ∧ T'.heap = h' ∧ Fr n0 locs' ∧ Keep h0 h' [b] ∧ AI Z h' b .int (37 : Int32) g ∧ ∀ t, Steps p.tables e below (T'.setTop (mkF m 49 #[.val (.int p0), .val (.int p1), .val (.int p2), .val (.int p3), .unset, .unset, .unset, .unset, .unset] [(.ref b)])) t → Steps p.tables e below (T0.setTop (mkF m 4 #[.val (.int p0), .val (.int p1), .val (.int p2), .val (.int p3), .unset, .unset, .unset, .unset, .unset] [(.ref b)])) t := by
  have pre0 : ∀ t, Steps p.tables e below (T0.setTop (mkF m 4 #[.val (.int p0), .val (.int p1), .val (.int p2), .val (.int p3), .unset, .unset, .unset, .unset, .unset] [(.ref b)])) t → Steps p.tables e below (T0.setTop (mkF m 4 #[.val (.int p0), .val (.int p1), .val (.int p2), .val (.int p3), .unset, .unset, .unset, .unset, .unset] [(.ref b)])) t := fun t k => k
  obtain ⟨cl11, Ar11, S11, M11, I11⟩ := id hp0
  have hin11 : ¬ ((0 : Int32) < 0 ∨ cl11.slots.size ≤ ((0 : Int32)).toNatClampNeg) := inb_of S11 ⟨by decide, by decide⟩
  obtain ⟨T12, h12, X12, e12, W12, st12⟩ := stI X0 hx hZ e0 Ar11 (j := (0 : Int32)) hin11 (g := (mkF m 8 #[.val (.int p0), .val (.int p1), .val (.int p2), .val (.int p3), .unset, .unset, .unset, .unset, .unset] [(.int (65 : Int32)), (.int (0 : Int32)), (.ref b), (.ref b)])) rfl rfl (hb hby at_8)
  have V12 : AI Z h12 b .int (37 : Int32) (fun i => if i = ((0 : Int32)).toNatClampNeg then (65 : Int32) else f i) := AI.set hp0 W12
  obtain ⟨f8, hf8⟩ : ∃ z, z = (fun i => if i = ((0 : Int32)).toNatClampNeg then (65 : Int32) else f i) := ⟨_, rfl⟩
  rw [← hf8] at V12
  have Z13 : n0 ≤ h12.size := Nat.le_trans Z0 (Keep.of_wr W12).1
  have K14 : Keep h0 h12 [b] := (Keep.refl h0 [b]).wr W12 (Or.inl (List.mem_of_getElem? (i := 0) rfl))
  obtain ⟨lc12, X12, N12⟩ : ∃ lc, Stand p l e room_1 s m args below meth c T12 lc 1 37 ∧ Fr n0 lc := ⟨_, X12, Fr.snoc X12 N0 hp1⟩
  obtain ⟨cl15, Ar15, S15, M15, I15⟩ := id V12
  have hin15 : ¬ ((1 : Int32) < 0 ∨ cl15.slots.size ≤ ((1 : Int32)).toNatClampNeg) := inb_of S15 ⟨by decide, by decide⟩
  obtain ⟨T16, h16, X16, e16, W16, st16⟩ := stI X12 hx hZ e12 Ar15 (j := (1 : Int32)) hin15 (g := (mkF m 13 #[.val (.int p0), .val (.int p1), .val (.int p2), .val (.int p3), .unset, .unset, .unset, .unset, .unset] [(.int (90 : Int32)), (.int (1 : Int32)), (.ref b), (.ref b)])) rfl rfl (hb hby at_13)
  have V16 : AI Z h16 b .int (37 : Int32) (fun i => if i = ((1 : Int32)).toNatClampNeg then (90 : Int32) else f8 i) := AI.set V12 W16
  obtain ⟨f13, hf13⟩ : ∃ z, z = (fun i => if i = ((1 : Int32)).toNatClampNeg then (90 : Int32) else f8 i) := ⟨_, rfl⟩
  rw [← hf13] at V16
  have Z17 : n0 ≤ h16.size := Nat.le_trans Z13 (Keep.of_wr W16).1
  have K18 : Keep h0 h16 [b] := K14.wr W16 (Or.inl (List.mem_of_getElem? (i := 0) rfl))
  obtain ⟨lc16, X16, N16⟩ : ∃ lc, Stand p l e room_1 s m args below meth c T16 lc 1 37 ∧ Fr n0 lc := ⟨_, X16, Fr.snoc X16 N12 hp1⟩
  obtain ⟨cl19, Ar19, S19, M19, I19⟩ := id V16
  have hin19 : ¬ ((2 : Int32) < 0 ∨ cl19.slots.size ≤ ((2 : Int32)).toNatClampNeg) := inb_of S19 ⟨by decide, by decide⟩
  obtain ⟨T20, h20, X20, e20, W20, st20⟩ := stI X16 hx hZ e16 Ar19 (j := (2 : Int32)) hin19 (g := (mkF m 18 #[.val (.int p0), .val (.int p1), .val (.int p2), .val (.int p3), .unset, .unset, .unset, .unset, .unset] [(.int (95 : Int32)), (.int (2 : Int32)), (.ref b), (.ref b)])) rfl rfl (hb hby at_18)
  have V20 : AI Z h20 b .int (37 : Int32) (fun i => if i = ((2 : Int32)).toNatClampNeg then (95 : Int32) else f13 i) := AI.set V16 W20
  obtain ⟨f18, hf18⟩ : ∃ z, z = (fun i => if i = ((2 : Int32)).toNatClampNeg then (95 : Int32) else f13 i) := ⟨_, rfl⟩
  rw [← hf18] at V20
  have Z21 : n0 ≤ h20.size := Nat.le_trans Z17 (Keep.of_wr W20).1
  have K22 : Keep h0 h20 [b] := K18.wr W20 (Or.inl (List.mem_of_getElem? (i := 0) rfl))
  obtain ⟨lc20, X20, N20⟩ : ∃ lc, Stand p l e room_1 s m args below meth c T20 lc 1 37 ∧ Fr n0 lc := ⟨_, X20, Fr.snoc X20 N16 hp1⟩
  obtain ⟨cl23, Ar23, S23, M23, I23⟩ := id V20
  have hin23 : ¬ ((3 : Int32) < 0 ∨ cl23.slots.size ≤ ((3 : Int32)).toNatClampNeg) := inb_of S23 ⟨by decide, by decide⟩
  obtain ⟨T24, h24, X24, e24, W24, st24⟩ := stI X20 hx hZ e20 Ar23 (j := (3 : Int32)) hin23 (g := (mkF m 23 #[.val (.int p0), .val (.int p1), .val (.int p2), .val (.int p3), .unset, .unset, .unset, .unset, .unset] [(.int (97 : Int32)), (.int (3 : Int32)), (.ref b), (.ref b)])) rfl rfl (hb hby at_23)
  have V24 : AI Z h24 b .int (37 : Int32) (fun i => if i = ((3 : Int32)).toNatClampNeg then (97 : Int32) else f18 i) := AI.set V20 W24
  obtain ⟨f23, hf23⟩ : ∃ z, z = (fun i => if i = ((3 : Int32)).toNatClampNeg then (97 : Int32) else f18 i) := ⟨_, rfl⟩
  rw [← hf23] at V24
  have Z25 : n0 ≤ h24.size := Nat.le_trans Z21 (Keep.of_wr W24).1
  have K26 : Keep h0 h24 [b] := K22.wr W24 (Or.inl (List.mem_of_getElem? (i := 0) rfl))
  obtain ⟨lc24, X24, N24⟩ : ∃ lc, Stand p l e room_1 s m args below meth c T24 lc 1 37 ∧ Fr n0 lc := ⟨_, X24, Fr.snoc X24 N20 hp1⟩
  obtain ⟨cl27, Ar27, S27, M27, I27⟩ := id V24
  have hin27 : ¬ ((4 : Int32) < 0 ∨ cl27.slots.size ≤ ((4 : Int32)).toNatClampNeg) := inb_of S27 ⟨by decide, by decide⟩
  obtain ⟨T28, h28, X28, e28, W28, st28⟩ := stI X24 hx hZ e24 Ar27 (j := (4 : Int32)) hin27 (g := (mkF m 28 #[.val (.int p0), .val (.int p1), .val (.int p2), .val (.int p3), .unset, .unset, .unset, .unset, .unset] [(.int (122 : Int32)), (.int (4 : Int32)), (.ref b), (.ref b)])) rfl rfl (hb hby at_28)
  have V28 : AI Z h28 b .int (37 : Int32) (fun i => if i = ((4 : Int32)).toNatClampNeg then (122 : Int32) else f23 i) := AI.set V24 W28
  obtain ⟨f28, hf28⟩ : ∃ z, z = (fun i => if i = ((4 : Int32)).toNatClampNeg then (122 : Int32) else f23 i) := ⟨_, rfl⟩
  rw [← hf28] at V28
  have Z29 : n0 ≤ h28.size := Nat.le_trans Z25 (Keep.of_wr W28).1
  have K30 : Keep h0 h28 [b] := K26.wr W28 (Or.inl (List.mem_of_getElem? (i := 0) rfl))
  obtain ⟨lc28, X28, N28⟩ : ∃ lc, Stand p l e room_1 s m args below meth c T28 lc 1 37 ∧ Fr n0 lc := ⟨_, X28, Fr.snoc X28 N24 hp1⟩
  obtain ⟨cl31, Ar31, S31, M31, I31⟩ := id V28
  have hin31 : ¬ ((5 : Int32) < 0 ∨ cl31.slots.size ≤ ((5 : Int32)).toNatClampNeg) := inb_of S31 ⟨by decide, by decide⟩
  obtain ⟨T32, h32, X32, e32, W32, st32⟩ := stI X28 hx hZ e28 Ar31 (j := (5 : Int32)) hin31 (g := (mkF m 34 #[.val (.int p0), .val (.int p1), .val (.int p2), .val (.int p3), .unset, .unset, .unset, .unset, .unset] [(.int (192 : Int32)), (.int (5 : Int32)), (.ref b), (.ref b)])) rfl rfl (hb hby at_34)
  have V32 : AI Z h32 b .int (37 : Int32) (fun i => if i = ((5 : Int32)).toNatClampNeg then (192 : Int32) else f28 i) := AI.set V28 W32
  obtain ⟨f34, hf34⟩ : ∃ z, z = (fun i => if i = ((5 : Int32)).toNatClampNeg then (192 : Int32) else f28 i) := ⟨_, rfl⟩
  rw [← hf34] at V32
  have Z33 : n0 ≤ h32.size := Nat.le_trans Z29 (Keep.of_wr W32).1
  have K34 : Keep h0 h32 [b] := K30.wr W32 (Or.inl (List.mem_of_getElem? (i := 0) rfl))
  obtain ⟨lc32, X32, N32⟩ : ∃ lc, Stand p l e room_1 s m args below meth c T32 lc 1 37 ∧ Fr n0 lc := ⟨_, X32, Fr.snoc X32 N28 hp1⟩
  obtain ⟨cl35, Ar35, S35, M35, I35⟩ := id V32
  have hin35 : ¬ ((6 : Int32) < 0 ∨ cl35.slots.size ≤ ((6 : Int32)).toNatClampNeg) := inb_of S35 ⟨by decide, by decide⟩
  obtain ⟨T36, h36, X36, e36, W36, st36⟩ := stI X32 hx hZ e32 Ar35 (j := (6 : Int32)) hin35 (g := (mkF m 41 #[.val (.int p0), .val (.int p1), .val (.int p2), .val (.int p3), .unset, .unset, .unset, .unset, .unset] [(.int (214 : Int32)), (.int (6 : Int32)), (.ref b), (.ref b)])) rfl rfl (hb hby at_41)
  have V36 : AI Z h36 b .int (37 : Int32) (fun i => if i = ((6 : Int32)).toNatClampNeg then (214 : Int32) else f34 i) := AI.set V32 W36
  obtain ⟨f41, hf41⟩ : ∃ z, z = (fun i => if i = ((6 : Int32)).toNatClampNeg then (214 : Int32) else f34 i) := ⟨_, rfl⟩
  rw [← hf41] at V36
  have Z37 : n0 ≤ h36.size := Nat.le_trans Z33 (Keep.of_wr W36).1
  have K38 : Keep h0 h36 [b] := K34.wr W36 (Or.inl (List.mem_of_getElem? (i := 0) rfl))
  obtain ⟨lc36, X36, N36⟩ : ∃ lc, Stand p l e room_1 s m args below meth c T36 lc 1 37 ∧ Fr n0 lc := ⟨_, X36, Fr.snoc X36 N32 hp1⟩
  obtain ⟨cl39, Ar39, S39, M39, I39⟩ := id V36
  have hin39 : ¬ ((7 : Int32) < 0 ∨ cl39.slots.size ≤ ((7 : Int32)).toNatClampNeg) := inb_of S39 ⟨by decide, by decide⟩
  obtain ⟨T40, h40, X40, e40, W40, st40⟩ := stI X36 hx hZ e36 Ar39 (j := (7 : Int32)) hin39 (g := (mkF m 48 #[.val (.int p0), .val (.int p1), .val (.int p2), .val (.int p3), .unset, .unset, .unset, .unset, .unset] [(.int (216 : Int32)), (.int (7 : Int32)), (.ref b), (.ref b)])) rfl rfl (hb hby at_48)
  have V40 : AI Z h40 b .int (37 : Int32) (fun i => if i = ((7 : Int32)).toNatClampNeg then (216 : Int32) else f41 i) := AI.set V36 W40
  obtain ⟨f48, hf48⟩ : ∃ z, z = (fun i => if i = ((7 : Int32)).toNatClampNeg then (216 : Int32) else f41 i) := ⟨_, rfl⟩
  rw [← hf48] at V40
  have Z41 : n0 ≤ h40.size := Nat.le_trans Z37 (Keep.of_wr W40).1
  have K42 : Keep h0 h40 [b] := K38.wr W40 (Or.inl (List.mem_of_getElem? (i := 0) rfl))
  obtain ⟨lc40, X40, N40⟩ : ∃ lc, Stand p l e room_1 s m args below meth c T40 lc 1 37 ∧ Fr n0 lc := ⟨_, X40, Fr.snoc X40 N36 hp1⟩
  have pre43 : ∀ t, Steps p.tables e below (T40.setTop (mkF m 49 #[.val (.int p0), .val (.int p1), .val (.int p2), .val (.int p3), .unset, .unset, .unset, .unset, .unset] [(.ref b)])) t → Steps p.tables e below (T0.setTop (mkF m 4 #[.val (.int p0), .val (.int p1), .val (.int p2), .val (.int p3), .unset, .unset, .unset, .unset, .unset] [(.ref b)])) t := fun t k => pre0 t (by
    refine XS.dup X0.here hx rfl (hb hby at_4) rfl rfl ?_
    show Steps p.tables e below (T0.setTop (mkF m 5 #[.val (.int p0), .val (.int p1), .val (.int p2), .val (.int p3), .unset, .unset, .unset, .unset, .unset] [(.ref b), (.ref b)])) _
    refine XS.iconst X0.here hx rfl (hb hby at_5) ?_
    show Steps p.tables e below (T0.setTop (mkF m 6 #[.val (.int p0), .val (.int p1), .val (.int p2), .val (.int p3), .unset, .unset, .unset, .unset, .unset] [(.int (0 : Int32)), (.ref b), (.ref b)])) _
    refine XS.bipush X0.here hx rfl (hb hby at_6) ?_
    show Steps p.tables e below (T0.setTop (mkF m 8 #[.val (.int p0), .val (.int p1), .val (.int p2), .val (.int p3), .unset, .unset, .unset, .unset, .unset] [(.int (65 : Int32)), (.int (0 : Int32)), (.ref b), (.ref b)])) _
    refine st12 _ ?_
    show Steps p.tables e below (T12.setTop (mkF m 9 #[.val (.int p0), .val (.int p1), .val (.int p2), .val (.int p3), .unset, .unset, .unset, .unset, .unset] [(.ref b)])) _
    refine XS.dup X12.here hx rfl (hb hby at_9) rfl rfl ?_
    show Steps p.tables e below (T12.setTop (mkF m 10 #[.val (.int p0), .val (.int p1), .val (.int p2), .val (.int p3), .unset, .unset, .unset, .unset, .unset] [(.ref b), (.ref b)])) _
    refine XS.iconst X12.here hx rfl (hb hby at_10) ?_
    show Steps p.tables e below (T12.setTop (mkF m 11 #[.val (.int p0), .val (.int p1), .val (.int p2), .val (.int p3), .unset, .unset, .unset, .unset, .unset] [(.int (1 : Int32)), (.ref b), (.ref b)])) _
    refine XS.bipush X12.here hx rfl (hb hby at_11) ?_
    show Steps p.tables e below (T12.setTop (mkF m 13 #[.val (.int p0), .val (.int p1), .val (.int p2), .val (.int p3), .unset, .unset, .unset, .unset, .unset] [(.int (90 : Int32)), (.int (1 : Int32)), (.ref b), (.ref b)])) _
    refine st16 _ ?_
    show Steps p.tables e below (T16.setTop (mkF m 14 #[.val (.int p0), .val (.int p1), .val (.int p2), .val (.int p3), .unset, .unset, .unset, .unset, .unset] [(.ref b)])) _
    refine XS.dup X16.here hx rfl (hb hby at_14) rfl rfl ?_
    show Steps p.tables e below (T16.setTop (mkF m 15 #[.val (.int p0), .val (.int p1), .val (.int p2), .val (.int p3), .unset, .unset, .unset, .unset, .unset] [(.ref b), (.ref b)])) _
    refine XS.iconst X16.here hx rfl (hb hby at_15) ?_
    show Steps p.tables e below (T16.setTop (mkF m 16 #[.val (.int p0), .val (.int p1), .val (.int p2), .val (.int p3), .unset, .unset, .unset, .unset, .unset] [(.int (2 : Int32)), (.ref b), (.ref b)])) _
    refine XS.bipush X16.here hx rfl (hb hby at_16) ?_
    show Steps p.tables e below (T16.setTop (mkF m 18 #[.val (.int p0), .val (.int p1), .val (.int p2), .val (.int p3), .unset, .unset, .unset, .unset, .unset] [(.int (95 : Int32)), (.int (2 : Int32)), (.ref b), (.ref b)])) _
    refine st20 _ ?_
    show Steps p.tables e below (T20.setTop (mkF m 19 #[.val (.int p0), .val (.int p1), .val (.int p2), .val (.int p3), .unset, .unset, .unset, .unset, .unset] [(.ref b)])) _
    refine XS.dup X20.here hx rfl (hb hby at_19) rfl rfl ?_
    show Steps p.tables e below (T20.setTop (mkF m 20 #[.val (.int p0), .val (.int p1), .val (.int p2), .val (.int p3), .unset, .unset, .unset, .unset, .unset] [(.ref b), (.ref b)])) _
    refine XS.iconst X20.here hx rfl (hb hby at_20) ?_
    show Steps p.tables e below (T20.setTop (mkF m 21 #[.val (.int p0), .val (.int p1), .val (.int p2), .val (.int p3), .unset, .unset, .unset, .unset, .unset] [(.int (3 : Int32)), (.ref b), (.ref b)])) _
    refine XS.bipush X20.here hx rfl (hb hby at_21) ?_
    show Steps p.tables e below (T20.setTop (mkF m 23 #[.val (.int p0), .val (.int p1), .val (.int p2), .val (.int p3), .unset, .unset, .unset, .unset, .unset] [(.int (97 : Int32)), (.int (3 : Int32)), (.ref b), (.ref b)])) _
    refine st24 _ ?_
    show Steps p.tables e below (T24.setTop (mkF m 24 #[.val (.int p0), .val (.int p1), .val (.int p2), .val (.int p3), .unset, .unset, .unset, .unset, .unset] [(.ref b)])) _
    refine XS.dup X24.here hx rfl (hb hby at_24) rfl rfl ?_
    show Steps p.tables e below (T24.setTop (mkF m 25 #[.val (.int p0), .val (.int p1), .val (.int p2), .val (.int p3), .unset, .unset, .unset, .unset, .unset] [(.ref b), (.ref b)])) _
    refine XS.iconst X24.here hx rfl (hb hby at_25) ?_
    show Steps p.tables e below (T24.setTop (mkF m 26 #[.val (.int p0), .val (.int p1), .val (.int p2), .val (.int p3), .unset, .unset, .unset, .unset, .unset] [(.int (4 : Int32)), (.ref b), (.ref b)])) _
    refine XS.bipush X24.here hx rfl (hb hby at_26) ?_
    show Steps p.tables e below (T24.setTop (mkF m 28 #[.val (.int p0), .val (.int p1), .val (.int p2), .val (.int p3), .unset, .unset, .unset, .unset, .unset] [(.int (122 : Int32)), (.int (4 : Int32)), (.ref b), (.ref b)])) _
    refine st28 _ ?_
    show Steps p.tables e below (T28.setTop (mkF m 29 #[.val (.int p0), .val (.int p1), .val (.int p2), .val (.int p3), .unset, .unset, .unset, .unset, .unset] [(.ref b)])) _
    refine XS.dup X28.here hx rfl (hb hby at_29) rfl rfl ?_
    show Steps p.tables e below (T28.setTop (mkF m 30 #[.val (.int p0), .val (.int p1), .val (.int p2), .val (.int p3), .unset, .unset, .unset, .unset, .unset] [(.ref b), (.ref b)])) _
    refine XS.iconst X28.here hx rfl (hb hby at_30) ?_
    show Steps p.tables e below (T28.setTop (mkF m 31 #[.val (.int p0), .val (.int p1), .val (.int p2), .val (.int p3), .unset, .unset, .unset, .unset, .unset] [(.int (5 : Int32)), (.ref b), (.ref b)])) _
    refine XS.sipush X28.here hx rfl (hb hby at_31) ?_
    show Steps p.tables e below (T28.setTop (mkF m 34 #[.val (.int p0), .val (.int p1), .val (.int p2), .val (.int p3), .unset, .unset, .unset, .unset, .unset] [(.int (192 : Int32)), (.int (5 : Int32)), (.ref b), (.ref b)])) _
    refine st32 _ ?_
    show Steps p.tables e below (T32.setTop (mkF m 35 #[.val (.int p0), .val (.int p1), .val (.int p2), .val (.int p3), .unset, .unset, .unset, .unset, .unset] [(.ref b)])) _
    refine XS.dup X32.here hx rfl (hb hby at_35) rfl rfl ?_
    show Steps p.tables e below (T32.setTop (mkF m 36 #[.val (.int p0), .val (.int p1), .val (.int p2), .val (.int p3), .unset, .unset, .unset, .unset, .unset] [(.ref b), (.ref b)])) _
    refine XS.bipush X32.here hx rfl (hb hby at_36) ?_
    show Steps p.tables e below (T32.setTop (mkF m 38 #[.val (.int p0), .val (.int p1), .val (.int p2), .val (.int p3), .unset, .unset, .unset, .unset, .unset] [(.int (6 : Int32)), (.ref b), (.ref b)])) _
    refine XS.sipush X32.here hx rfl (hb hby at_38) ?_
    show Steps p.tables e below (T32.setTop (mkF m 41 #[.val (.int p0), .val (.int p1), .val (.int p2), .val (.int p3), .unset, .unset, .unset, .unset, .unset] [(.int (214 : Int32)), (.int (6 : Int32)), (.ref b), (.ref b)])) _
    refine st36 _ ?_
    show Steps p.tables e below (T36.setTop (mkF m 42 #[.val (.int p0), .val (.int p1), .val (.int p2), .val (.int p3), .unset, .unset, .unset, .unset, .unset] [(.ref b)])) _
    refine XS.dup X36.here hx rfl (hb hby at_42) rfl rfl ?_
    show Steps p.tables e below (T36.setTop (mkF m 43 #[.val (.int p0), .val (.int p1), .val (.int p2), .val (.int p3), .unset, .unset, .unset, .unset, .unset] [(.ref b), (.ref b)])) _
    refine XS.bipush X36.here hx rfl (hb hby at_43) ?_
    show Steps p.tables e below (T36.setTop (mkF m 45 #[.val (.int p0), .val (.int p1), .val (.int p2), .val (.int p3), .unset, .unset, .unset, .unset, .unset] [(.int (7 : Int32)), (.ref b), (.ref b)])) _
    refine XS.sipush X36.here hx rfl (hb hby at_45) ?_
    show Steps p.tables e below (T36.setTop (mkF m 48 #[.val (.int p0), .val (.int p1), .val (.int p2), .val (.int p3), .unset, .unset, .unset, .unset, .unset] [(.int (216 : Int32)), (.int (7 : Int32)), (.ref b), (.ref b)])) _
    refine st40 _ ?_
    exact k)
  exact ⟨T40, _, _, _, X40, e40, N40, K42, V40, pre43⟩
set_option maxRecDepth 65536 in
set_option maxHeartbeats 40000000 in
theorem tF49 {p : Program} {l : Launch} {e : Env} {s : State} {m : MethodId} {args : Array Value} {below : List Frame} {meth : Method} {c : Code} {T0 : State} {locs0 : List Loc} {Z : State} {a0 : Array Value} (p0 : Int32) (p1 : Int32) (p2 : Int32) (p3 : Int32) (b : Addr) (f : Nat → Int32) (h0 : Heap) (n0 : Nat) (X0 : Stand p l e room_1 s m args below meth c T0 locs0 1 37) (hx : p.tables.exec = Jvm.exec) (hZ : Z.Warmed39 s.vm) (hw : ∀ d ∈ tables_1, d.before a0 Z = true) (hby : c.code = code) (hml : c.maxLocals = 9) (hown : s.vm.findClass "com/example/nodetest/nodetest/xdm/LexicalIsNameStartCharPinLaw" = some m.cls) (e0 : T0.heap = h0) (Z0 : n0 ≤ h0.size) (N0 : Fr n0 locs0) (hp0 : AI Z h0 b .int (37 : Int32) f) (hp1 : n0 ≤ b) :
    ∃ (T' : State) (h' : Heap) (locs' : List Loc) (g : Nat → Int32), Stand p l e room_1 s m args below meth c T' locs' 1 37 ∧ T'.heap = h' ∧ Fr n0 locs' ∧ Keep h0 h' [b] ∧ AI Z h' b .int (37 : Int32) g ∧ ∀ t, Steps p.tables e below (T'.setTop (mkF m 105 #[.val (.int p0), .val (.int p1), .val (.int p2), .val (.int p3), .unset, .unset, .unset, .unset, .unset] [(.ref b)])) t → Steps p.tables e below (T0.setTop (mkF m 49 #[.val (.int p0), .val (.int p1), .val (.int p2), .val (.int p3), .unset, .unset, .unset, .unset, .unset] [(.ref b)])) t := by
  have pre0 : ∀ t, Steps p.tables e below (T0.setTop (mkF m 49 #[.val (.int p0), .val (.int p1), .val (.int p2), .val (.int p3), .unset, .unset, .unset, .unset, .unset] [(.ref b)])) t → Steps p.tables e below (T0.setTop (mkF m 49 #[.val (.int p0), .val (.int p1), .val (.int p2), .val (.int p3), .unset, .unset, .unset, .unset, .unset] [(.ref b)])) t := fun t k => k
  obtain ⟨cl11, Ar11, S11, M11, I11⟩ := id hp0
  have hin11 : ¬ ((8 : Int32) < 0 ∨ cl11.slots.size ≤ ((8 : Int32)).toNatClampNeg) := inb_of S11 ⟨by decide, by decide⟩
  obtain ⟨T12, h12, X12, e12, W12, st12⟩ := stI X0 hx hZ e0 Ar11 (j := (8 : Int32)) hin11 (g := (mkF m 55 #[.val (.int p0), .val (.int p1), .val (.int p2), .val (.int p3), .unset, .unset, .unset, .unset, .unset] [(.int (246 : Int32)), (.int (8 : Int32)), (.ref b), (.ref b)])) rfl rfl (hb hby at_55)
  have V12 : AI Z h12 b .int (37 : Int32) (fun i => if i = ((8 : Int32)).toNatClampNeg then (246 : Int32) else f i) := AI.set hp0 W12
  obtain ⟨f55, hf55⟩ : ∃ z, z = (fun i => if i = ((8 : Int32)).toNatClampNeg then (246 : Int32) else f i) := ⟨_, rfl⟩
  rw [← hf55] at V12
  have Z13 : n0 ≤ h12.size := Nat.le_trans Z0 (Keep.of_wr W12).1
  have K14 : Keep h0 h12 [b] := (Keep.refl h0 [b]).wr W12 (Or.inl (List.mem_of_getElem? (i := 0) rfl))
  obtain ⟨lc12, X12, N12⟩ : ∃ lc, Stand p l e room_1 s m args below meth c T12 lc 1 37 ∧ Fr n0 lc := ⟨_, X12, Fr.snoc X12 N0 hp1⟩
  obtain ⟨cl15, Ar15, S15, M15, I15⟩ := id V12
  have hin15 : ¬ ((9 : Int32) < 0 ∨ cl15.slots.size ≤ ((9 : Int32)).toNatClampNeg) := inb_of S15 ⟨by decide, by decide⟩
  obtain ⟨T16, h16, X16, e16, W16, st16⟩ := stI X12 hx hZ e12 Ar15 (j := (9 : Int32)) hin15 (g := (mkF m 62 #[.val (.int p0), .val (.int p1), .val (.int p2), .val (.int p3), .unset, .unset, .unset, .unset, .unset] [(.int (248 : Int32)), (.int (9 : Int32)), (.ref b), (.ref b)])) rfl rfl (hb hby at_62)
  have V16 : AI Z h16 b .int (37 : Int32) (fun i => if i = ((9 : Int32)).toNatClampNeg then (248 : Int32) else f55 i) := AI.set V12 W16
  obtain ⟨f62, hf62⟩ : ∃ z, z = (fun i => if i = ((9 : Int32)).toNatClampNeg then (248 : Int32) else f55 i) := ⟨_, rfl⟩
  rw [← hf62] at V16
  have Z17 : n0 ≤ h16.size := Nat.le_trans Z13 (Keep.of_wr W16).1
  have K18 : Keep h0 h16 [b] := K14.wr W16 (Or.inl (List.mem_of_getElem? (i := 0) rfl))
  obtain ⟨lc16, X16, N16⟩ : ∃ lc, Stand p l e room_1 s m args below meth c T16 lc 1 37 ∧ Fr n0 lc := ⟨_, X16, Fr.snoc X16 N12 hp1⟩
  obtain ⟨cl19, Ar19, S19, M19, I19⟩ := id V16
  have hin19 : ¬ ((10 : Int32) < 0 ∨ cl19.slots.size ≤ ((10 : Int32)).toNatClampNeg) := inb_of S19 ⟨by decide, by decide⟩
  obtain ⟨T20, h20, X20, e20, W20, st20⟩ := stI X16 hx hZ e16 Ar19 (j := (10 : Int32)) hin19 (g := (mkF m 69 #[.val (.int p0), .val (.int p1), .val (.int p2), .val (.int p3), .unset, .unset, .unset, .unset, .unset] [(.int (767 : Int32)), (.int (10 : Int32)), (.ref b), (.ref b)])) rfl rfl (hb hby at_69)
  have V20 : AI Z h20 b .int (37 : Int32) (fun i => if i = ((10 : Int32)).toNatClampNeg then (767 : Int32) else f62 i) := AI.set V16 W20
  obtain ⟨f69, hf69⟩ : ∃ z, z = (fun i => if i = ((10 : Int32)).toNatClampNeg then (767 : Int32) else f62 i) := ⟨_, rfl⟩
  rw [← hf69] at V20
  have Z21 : n0 ≤ h20.size := Nat.le_trans Z17 (Keep.of_wr W20).1
  have K22 : Keep h0 h20 [b] := K18.wr W20 (Or.inl (List.mem_of_getElem? (i := 0) rfl))
  obtain ⟨lc20, X20, N20⟩ : ∃ lc, Stand p l e room_1 s m args below meth c T20 lc 1 37 ∧ Fr n0 lc := ⟨_, X20, Fr.snoc X20 N16 hp1⟩
  obtain ⟨cl23, Ar23, S23, M23, I23⟩ := id V20
  have hin23 : ¬ ((11 : Int32) < 0 ∨ cl23.slots.size ≤ ((11 : Int32)).toNatClampNeg) := inb_of S23 ⟨by decide, by decide⟩
  obtain ⟨T24, h24, X24, e24, W24, st24⟩ := stI X20 hx hZ e20 Ar23 (j := (11 : Int32)) hin23 (g := (mkF m 76 #[.val (.int p0), .val (.int p1), .val (.int p2), .val (.int p3), .unset, .unset, .unset, .unset, .unset] [(.int (880 : Int32)), (.int (11 : Int32)), (.ref b), (.ref b)])) rfl rfl (hb hby at_76)
  have V24 : AI Z h24 b .int (37 : Int32) (fun i => if i = ((11 : Int32)).toNatClampNeg then (880 : Int32) else f69 i) := AI.set V20 W24
  obtain ⟨f76, hf76⟩ : ∃ z, z = (fun i => if i = ((11 : Int32)).toNatClampNeg then (880 : Int32) else f69 i) := ⟨_, rfl⟩
  rw [← hf76] at V24
  have Z25 : n0 ≤ h24.size := Nat.le_trans Z21 (Keep.of_wr W24).1
  have K26 : Keep h0 h24 [b] := K22.wr W24 (Or.inl (List.mem_of_getElem? (i := 0) rfl))
  obtain ⟨lc24, X24, N24⟩ : ∃ lc, Stand p l e room_1 s m args below meth c T24 lc 1 37 ∧ Fr n0 lc := ⟨_, X24, Fr.snoc X24 N20 hp1⟩
  obtain ⟨cl27, Ar27, S27, M27, I27⟩ := id V24
  have hin27 : ¬ ((12 : Int32) < 0 ∨ cl27.slots.size ≤ ((12 : Int32)).toNatClampNeg) := inb_of S27 ⟨by decide, by decide⟩
  obtain ⟨T28, h28, X28, e28, W28, st28⟩ := stI X24 hx hZ e24 Ar27 (j := (12 : Int32)) hin27 (g := (mkF m 83 #[.val (.int p0), .val (.int p1), .val (.int p2), .val (.int p3), .unset, .unset, .unset, .unset, .unset] [(.int (893 : Int32)), (.int (12 : Int32)), (.ref b), (.ref b)])) rfl rfl (hb hby at_83)
  have V28 : AI Z h28 b .int (37 : Int32) (fun i => if i = ((12 : Int32)).toNatClampNeg then (893 : Int32) else f76 i) := AI.set V24 W28
  obtain ⟨f83, hf83⟩ : ∃ z, z = (fun i => if i = ((12 : Int32)).toNatClampNeg then (893 : Int32) else f76 i) := ⟨_, rfl⟩
  rw [← hf83] at V28
  have Z29 : n0 ≤ h28.size := Nat.le_trans Z25 (Keep.of_wr W28).1
  have K30 : Keep h0 h28 [b] := K26.wr W28 (Or.inl (List.mem_of_getElem? (i := 0) rfl))
  obtain ⟨lc28, X28, N28⟩ : ∃ lc, Stand p l e room_1 s m args below meth c T28 lc 1 37 ∧ Fr n0 lc := ⟨_, X28, Fr.snoc X28 N24 hp1⟩
  obtain ⟨cl31, Ar31, S31, M31, I31⟩ := id V28
  have hin31 : ¬ ((13 : Int32) < 0 ∨ cl31.slots.size ≤ ((13 : Int32)).toNatClampNeg) := inb_of S31 ⟨by decide, by decide⟩
  obtain ⟨T32, h32, X32, e32, W32, st32⟩ := stI X28 hx hZ e28 Ar31 (j := (13 : Int32)) hin31 (g := (mkF m 90 #[.val (.int p0), .val (.int p1), .val (.int p2), .val (.int p3), .unset, .unset, .unset, .unset, .unset] [(.int (895 : Int32)), (.int (13 : Int32)), (.ref b), (.ref b)])) rfl rfl (hb hby at_90)
  have V32 : AI Z h32 b .int (37 : Int32) (fun i => if i = ((13 : Int32)).toNatClampNeg then (895 : Int32) else f83 i) := AI.set V28 W32
  obtain ⟨f90, hf90⟩ : ∃ z, z = (fun i => if i = ((13 : Int32)).toNatClampNeg then (895 : Int32) else f83 i) := ⟨_, rfl⟩
  rw [← hf90] at V32
  have Z33 : n0 ≤ h32.size := Nat.le_trans Z29 (Keep.of_wr W32).1
  have K34 : Keep h0 h32 [b] := K30.wr W32 (Or.inl (List.mem_of_getElem? (i := 0) rfl))
  obtain ⟨lc32, X32, N32⟩ : ∃ lc, Stand p l e room_1 s m args below meth c T32 lc 1 37 ∧ Fr n0 lc := ⟨_, X32, Fr.snoc X32 N28 hp1⟩
  obtain ⟨cl35, Ar35, S35, M35, I35⟩ := id V32
  have hin35 : ¬ ((14 : Int32) < 0 ∨ cl35.slots.size ≤ ((14 : Int32)).toNatClampNeg) := inb_of S35 ⟨by decide, by decide⟩
  obtain ⟨T36, h36, X36, e36, W36, st36⟩ := stI X32 hx hZ e32 Ar35 (j := (14 : Int32)) hin35 (g := (mkF m 97 #[.val (.int p0), .val (.int p1), .val (.int p2), .val (.int p3), .unset, .unset, .unset, .unset, .unset] [(.int (8191 : Int32)), (.int (14 : Int32)), (.ref b), (.ref b)])) rfl rfl (hb hby at_97)
  have V36 : AI Z h36 b .int (37 : Int32) (fun i => if i = ((14 : Int32)).toNatClampNeg then (8191 : Int32) else f90 i) := AI.set V32 W36
  obtain ⟨f97, hf97⟩ : ∃ z, z = (fun i => if i = ((14 : Int32)).toNatClampNeg then (8191 : Int32) else f90 i) := ⟨_, rfl⟩
  rw [← hf97] at V36
  have Z37 : n0 ≤ h36.size := Nat.le_trans Z33 (Keep.of_wr W36).1
  have K38 : Keep h0 h36 [b] := K34.wr W36 (Or.inl (List.mem_of_getElem? (i := 0) rfl))
  obtain ⟨lc36, X36, N36⟩ : ∃ lc, Stand p l e room_1 s m args below meth c T36 lc 1 37 ∧ Fr n0 lc := ⟨_, X36, Fr.snoc X36 N32 hp1⟩
  obtain ⟨cl39, Ar39, S39, M39, I39⟩ := id V36
  have hin39 : ¬ ((15 : Int32) < 0 ∨ cl39.slots.size ≤ ((15 : Int32)).toNatClampNeg) := inb_of S39 ⟨by decide, by decide⟩
  obtain ⟨T40, h40, X40, e40, W40, st40⟩ := stI X36 hx hZ e36 Ar39 (j := (15 : Int32)) hin39 (g := (mkF m 104 #[.val (.int p0), .val (.int p1), .val (.int p2), .val (.int p3), .unset, .unset, .unset, .unset, .unset] [(.int (8204 : Int32)), (.int (15 : Int32)), (.ref b), (.ref b)])) rfl rfl (hb hby at_104)
  have V40 : AI Z h40 b .int (37 : Int32) (fun i => if i = ((15 : Int32)).toNatClampNeg then (8204 : Int32) else f97 i) := AI.set V36 W40
  obtain ⟨f104, hf104⟩ : ∃ z, z = (fun i => if i = ((15 : Int32)).toNatClampNeg then (8204 : Int32) else f97 i) := ⟨_, rfl⟩
  rw [← hf104] at V40
  have Z41 : n0 ≤ h40.size := Nat.le_trans Z37 (Keep.of_wr W40).1
  have K42 : Keep h0 h40 [b] := K38.wr W40 (Or.inl (List.mem_of_getElem? (i := 0) rfl))
  obtain ⟨lc40, X40, N40⟩ : ∃ lc, Stand p l e room_1 s m args below meth c T40 lc 1 37 ∧ Fr n0 lc := ⟨_, X40, Fr.snoc X40 N36 hp1⟩
  have pre43 : ∀ t, Steps p.tables e below (T40.setTop (mkF m 105 #[.val (.int p0), .val (.int p1), .val (.int p2), .val (.int p3), .unset, .unset, .unset, .unset, .unset] [(.ref b)])) t → Steps p.tables e below (T0.setTop (mkF m 49 #[.val (.int p0), .val (.int p1), .val (.int p2), .val (.int p3), .unset, .unset, .unset, .unset, .unset] [(.ref b)])) t := fun t k => pre0 t (by
    refine XS.dup X0.here hx rfl (hb hby at_49) rfl rfl ?_
    show Steps p.tables e below (T0.setTop (mkF m 50 #[.val (.int p0), .val (.int p1), .val (.int p2), .val (.int p3), .unset, .unset, .unset, .unset, .unset] [(.ref b), (.ref b)])) _
    refine XS.bipush X0.here hx rfl (hb hby at_50) ?_
    show Steps p.tables e below (T0.setTop (mkF m 52 #[.val (.int p0), .val (.int p1), .val (.int p2), .val (.int p3), .unset, .unset, .unset, .unset, .unset] [(.int (8 : Int32)), (.ref b), (.ref b)])) _
    refine XS.sipush X0.here hx rfl (hb hby at_52) ?_
    show Steps p.tables e below (T0.setTop (mkF m 55 #[.val (.int p0), .val (.int p1), .val (.int p2), .val (.int p3), .unset, .unset, .unset, .unset, .unset] [(.int (246 : Int32)), (.int (8 : Int32)), (.ref b), (.ref b)])) _
    refine st12 _ ?_
    show Steps p.tables e below (T12.setTop (mkF m 56 #[.val (.int p0), .val (.int p1), .val (.int p2), .val (.int p3), .unset, .unset, .unset, .unset, .unset] [(.ref b)])) _
    refine XS.dup X12.here hx rfl (hb hby at_56) rfl rfl ?_
    show Steps p.tables e below (T12.setTop (mkF m 57 #[.val (.int p0), .val (.int p1), .val (.int p2), .val (.int p3), .unset, .unset, .unset, .unset, .unset] [(.ref b), (.ref b)])) _
    refine XS.bipush X12.here hx rfl (hb hby at_57) ?_
    show Steps p.tables e below (T12.setTop (mkF m 59 #[.val (.int p0), .val (.int p1), .val (.int p2), .val (.int p3), .unset, .unset, .unset, .unset, .unset] [(.int (9 : Int32)), (.ref b), (.ref b)])) _
    refine XS.sipush X12.here hx rfl (hb hby at_59) ?_
    show Steps p.tables e below (T12.setTop (mkF m 62 #[.val (.int p0), .val (.int p1), .val (.int p2), .val (.int p3), .unset, .unset, .unset, .unset, .unset] [(.int (248 : Int32)), (.int (9 : Int32)), (.ref b), (.ref b)])) _
    refine st16 _ ?_
    show Steps p.tables e below (T16.setTop (mkF m 63 #[.val (.int p0), .val (.int p1), .val (.int p2), .val (.int p3), .unset, .unset, .unset, .unset, .unset] [(.ref b)])) _
    refine XS.dup X16.here hx rfl (hb hby at_63) rfl rfl ?_
    show Steps p.tables e below (T16.setTop (mkF m 64 #[.val (.int p0), .val (.int p1), .val (.int p2), .val (.int p3), .unset, .unset, .unset, .unset, .unset] [(.ref b), (.ref b)])) _
    refine XS.bipush X16.here hx rfl (hb hby at_64) ?_
    show Steps p.tables e below (T16.setTop (mkF m 66 #[.val (.int p0), .val (.int p1), .val (.int p2), .val (.int p3), .unset, .unset, .unset, .unset, .unset] [(.int (10 : Int32)), (.ref b), (.ref b)])) _
    refine XS.sipush X16.here hx rfl (hb hby at_66) ?_
    show Steps p.tables e below (T16.setTop (mkF m 69 #[.val (.int p0), .val (.int p1), .val (.int p2), .val (.int p3), .unset, .unset, .unset, .unset, .unset] [(.int (767 : Int32)), (.int (10 : Int32)), (.ref b), (.ref b)])) _
    refine st20 _ ?_
    show Steps p.tables e below (T20.setTop (mkF m 70 #[.val (.int p0), .val (.int p1), .val (.int p2), .val (.int p3), .unset, .unset, .unset, .unset, .unset] [(.ref b)])) _
    refine XS.dup X20.here hx rfl (hb hby at_70) rfl rfl ?_
    show Steps p.tables e below (T20.setTop (mkF m 71 #[.val (.int p0), .val (.int p1), .val (.int p2), .val (.int p3), .unset, .unset, .unset, .unset, .unset] [(.ref b), (.ref b)])) _
    refine XS.bipush X20.here hx rfl (hb hby at_71) ?_
    show Steps p.tables e below (T20.setTop (mkF m 73 #[.val (.int p0), .val (.int p1), .val (.int p2), .val (.int p3), .unset, .unset, .unset, .unset, .unset] [(.int (11 : Int32)), (.ref b), (.ref b)])) _
    refine XS.sipush X20.here hx rfl (hb hby at_73) ?_
    show Steps p.tables e below (T20.setTop (mkF m 76 #[.val (.int p0), .val (.int p1), .val (.int p2), .val (.int p3), .unset, .unset, .unset, .unset, .unset] [(.int (880 : Int32)), (.int (11 : Int32)), (.ref b), (.ref b)])) _
    refine st24 _ ?_
    show Steps p.tables e below (T24.setTop (mkF m 77 #[.val (.int p0), .val (.int p1), .val (.int p2), .val (.int p3), .unset, .unset, .unset, .unset, .unset] [(.ref b)])) _
    refine XS.dup X24.here hx rfl (hb hby at_77) rfl rfl ?_
    show Steps p.tables e below (T24.setTop (mkF m 78 #[.val (.int p0), .val (.int p1), .val (.int p2), .val (.int p3), .unset, .unset, .unset, .unset, .unset] [(.ref b), (.ref b)])) _
    refine XS.bipush X24.here hx rfl (hb hby at_78) ?_
    show Steps p.tables e below (T24.setTop (mkF m 80 #[.val (.int p0), .val (.int p1), .val (.int p2), .val (.int p3), .unset, .unset, .unset, .unset, .unset] [(.int (12 : Int32)), (.ref b), (.ref b)])) _
    refine XS.sipush X24.here hx rfl (hb hby at_80) ?_
    show Steps p.tables e below (T24.setTop (mkF m 83 #[.val (.int p0), .val (.int p1), .val (.int p2), .val (.int p3), .unset, .unset, .unset, .unset, .unset] [(.int (893 : Int32)), (.int (12 : Int32)), (.ref b), (.ref b)])) _
    refine st28 _ ?_
    show Steps p.tables e below (T28.setTop (mkF m 84 #[.val (.int p0), .val (.int p1), .val (.int p2), .val (.int p3), .unset, .unset, .unset, .unset, .unset] [(.ref b)])) _
    refine XS.dup X28.here hx rfl (hb hby at_84) rfl rfl ?_
    show Steps p.tables e below (T28.setTop (mkF m 85 #[.val (.int p0), .val (.int p1), .val (.int p2), .val (.int p3), .unset, .unset, .unset, .unset, .unset] [(.ref b), (.ref b)])) _
    refine XS.bipush X28.here hx rfl (hb hby at_85) ?_
    show Steps p.tables e below (T28.setTop (mkF m 87 #[.val (.int p0), .val (.int p1), .val (.int p2), .val (.int p3), .unset, .unset, .unset, .unset, .unset] [(.int (13 : Int32)), (.ref b), (.ref b)])) _
    refine XS.sipush X28.here hx rfl (hb hby at_87) ?_
    show Steps p.tables e below (T28.setTop (mkF m 90 #[.val (.int p0), .val (.int p1), .val (.int p2), .val (.int p3), .unset, .unset, .unset, .unset, .unset] [(.int (895 : Int32)), (.int (13 : Int32)), (.ref b), (.ref b)])) _
    refine st32 _ ?_
    show Steps p.tables e below (T32.setTop (mkF m 91 #[.val (.int p0), .val (.int p1), .val (.int p2), .val (.int p3), .unset, .unset, .unset, .unset, .unset] [(.ref b)])) _
    refine XS.dup X32.here hx rfl (hb hby at_91) rfl rfl ?_
    show Steps p.tables e below (T32.setTop (mkF m 92 #[.val (.int p0), .val (.int p1), .val (.int p2), .val (.int p3), .unset, .unset, .unset, .unset, .unset] [(.ref b), (.ref b)])) _
    refine XS.bipush X32.here hx rfl (hb hby at_92) ?_
    show Steps p.tables e below (T32.setTop (mkF m 94 #[.val (.int p0), .val (.int p1), .val (.int p2), .val (.int p3), .unset, .unset, .unset, .unset, .unset] [(.int (14 : Int32)), (.ref b), (.ref b)])) _
    refine XS.sipush X32.here hx rfl (hb hby at_94) ?_
    show Steps p.tables e below (T32.setTop (mkF m 97 #[.val (.int p0), .val (.int p1), .val (.int p2), .val (.int p3), .unset, .unset, .unset, .unset, .unset] [(.int (8191 : Int32)), (.int (14 : Int32)), (.ref b), (.ref b)])) _
    refine st36 _ ?_
    show Steps p.tables e below (T36.setTop (mkF m 98 #[.val (.int p0), .val (.int p1), .val (.int p2), .val (.int p3), .unset, .unset, .unset, .unset, .unset] [(.ref b)])) _
    refine XS.dup X36.here hx rfl (hb hby at_98) rfl rfl ?_
    show Steps p.tables e below (T36.setTop (mkF m 99 #[.val (.int p0), .val (.int p1), .val (.int p2), .val (.int p3), .unset, .unset, .unset, .unset, .unset] [(.ref b), (.ref b)])) _
    refine XS.bipush X36.here hx rfl (hb hby at_99) ?_
    show Steps p.tables e below (T36.setTop (mkF m 101 #[.val (.int p0), .val (.int p1), .val (.int p2), .val (.int p3), .unset, .unset, .unset, .unset, .unset] [(.int (15 : Int32)), (.ref b), (.ref b)])) _
    refine XS.sipush X36.here hx rfl (hb hby at_101) ?_
    show Steps p.tables e below (T36.setTop (mkF m 104 #[.val (.int p0), .val (.int p1), .val (.int p2), .val (.int p3), .unset, .unset, .unset, .unset, .unset] [(.int (8204 : Int32)), (.int (15 : Int32)), (.ref b), (.ref b)])) _
    refine st40 _ ?_
    exact k)
  exact ⟨T40, _, _, _, X40, e40, N40, K42, V40, pre43⟩
set_option maxRecDepth 65536 in
set_option maxHeartbeats 40000000 in
theorem tF105 {p : Program} {l : Launch} {e : Env} {s : State} {m : MethodId} {args : Array Value} {below : List Frame} {meth : Method} {c : Code} {T0 : State} {locs0 : List Loc} {Z : State} {a0 : Array Value} (p0 : Int32) (p1 : Int32) (p2 : Int32) (p3 : Int32) (b : Addr) (f : Nat → Int32) (h0 : Heap) (n0 : Nat) (X0 : Stand p l e room_1 s m args below meth c T0 locs0 1 37) (hx : p.tables.exec = Jvm.exec) (hZ : Z.Warmed39 s.vm) (hw : ∀ d ∈ tables_1, d.before a0 Z = true) (hby : c.code = code) (hml : c.maxLocals = 9) (hown : s.vm.findClass "com/example/nodetest/nodetest/xdm/LexicalIsNameStartCharPinLaw" = some m.cls) (e0 : T0.heap = h0) (Z0 : n0 ≤ h0.size) (N0 : Fr n0 locs0) (hp0 : AI Z h0 b .int (37 : Int32) f) (hp1 : n0 ≤ b) :
    ∃ (T' : State) (h' : Heap) (locs' : List Loc) (g : Nat → Int32), Stand p l e room_1 s m args below meth c T' locs' 1 37 ∧ T'.heap = h' ∧ Fr n0 locs' ∧ Keep h0 h' [b] ∧ AI Z h' b .int (37 : Int32) g ∧ ∀ t, Steps p.tables e below (T'.setTop (mkF m 159 #[.val (.int p0), .val (.int p1), .val (.int p2), .val (.int p3), .unset, .unset, .unset, .unset, .unset] [(.ref b)])) t → Steps p.tables e below (T0.setTop (mkF m 105 #[.val (.int p0), .val (.int p1), .val (.int p2), .val (.int p3), .unset, .unset, .unset, .unset, .unset] [(.ref b)])) t := by
  have pre0 : ∀ t, Steps p.tables e below (T0.setTop (mkF m 105 #[.val (.int p0), .val (.int p1), .val (.int p2), .val (.int p3), .unset, .unset, .unset, .unset, .unset] [(.ref b)])) t → Steps p.tables e below (T0.setTop (mkF m 105 #[.val (.int p0), .val (.int p1), .val (.int p2), .val (.int p3), .unset, .unset, .unset, .unset, .unset] [(.ref b)])) t := fun t k => k
  obtain ⟨cl11, Ar11, S11, M11, I11⟩ := id hp0
  have hin11 : ¬ ((16 : Int32) < 0 ∨ cl11.slots.size ≤ ((16 : Int32)).toNatClampNeg) := inb_of S11 ⟨by decide, by decide⟩
  obtain ⟨T12, h12, X12, e12, W12, st12⟩ := stI X0 hx hZ e0 Ar11 (j := (16 : Int32)) hin11 (g := (mkF m 111 #[.val (.int p0), .val (.int p1), .val (.int p2), .val (.int p3), .unset, .unset, .unset, .unset, .unset] [(.int (8205 : Int32)), (.int (16 : Int32)), (.ref b), (.ref b)])) rfl rfl (hb hby at_111)
  have V12 : AI Z h12 b .int (37 : Int32) (fun i => if i = ((16 : Int32)).toNatClampNeg then (8205 : Int32) else f i) := AI.set hp0 W12
  obtain ⟨f111, hf111⟩ : ∃ z, z = (fun i => if i = ((16 : Int32)).toNatClampNeg then (8205 : Int32) else f i) := ⟨_, rfl⟩
  rw [← hf111] at V12
  have Z13 : n0 ≤ h12.size := Nat.le_trans Z0 (Keep.of_wr W12).1
  have K14 : Keep h0 h12 [b] := (Keep.refl h0 [b]).wr W12 (Or.inl (List.mem_of_getElem? (i := 0) rfl))
  obtain ⟨lc12, X12, N12⟩ : ∃ lc, Stand p l e room_1 s m args below meth c T12 lc 1 37 ∧ Fr n0 lc := ⟨_, X12, Fr.snoc X12 N0 hp1⟩
  obtain ⟨cl15, Ar15, S15, M15, I15⟩ := id V12
  have hin15 : ¬ ((17 : Int32) < 0 ∨ cl15.slots.size ≤ ((17 : Int32)).toNatClampNeg) := inb_of S15 ⟨by decide, by decide⟩
  obtain ⟨T16, h16, X16, e16, W16, st16⟩ := stI X12 hx hZ e12 Ar15 (j := (17 : Int32)) hin15 (g := (mkF m 118 #[.val (.int p0), .val (.int p1), .val (.int p2), .val (.int p3), .unset, .unset, .unset, .unset, .unset] [(.int (8304 : Int32)), (.int (17 : Int32)), (.ref b), (.ref b)])) rfl rfl (hb hby at_118)
  have V16 : AI Z h16 b .int (37 : Int32) (fun i => if i = ((17 : Int32)).toNatClampNeg then (8304 : Int32) else f111 i) := AI.set V12 W16
  obtain ⟨f118, hf118⟩ : ∃ z, z = (fun i => if i = ((17 : Int32)).toNatClampNeg then (8304 : Int32) else f111 i) := ⟨_, rfl⟩
  rw [← hf118] at V16
  have Z17 : n0 ≤ h16.size := Nat.le_trans Z13 (Keep.of_wr W16).1
  have K18 : Keep h0 h16 [b] := K14.wr W16 (Or.inl (List.mem_of_getElem? (i := 0) rfl))
  obtain ⟨lc16, X16, N16⟩ : ∃ lc, Stand p l e room_1 s m args below meth c T16 lc 1 37 ∧ Fr n0 lc := ⟨_, X16, Fr.snoc X16 N12 hp1⟩
  obtain ⟨cl19, Ar19, S19, M19, I19⟩ := id V16
  have hin19 : ¬ ((18 : Int32) < 0 ∨ cl19.slots.size ≤ ((18 : Int32)).toNatClampNeg) := inb_of S19 ⟨by decide, by decide⟩
  obtain ⟨T20, h20, X20, e20, W20, st20⟩ := stI X16 hx hZ e16 Ar19 (j := (18 : Int32)) hin19 (g := (mkF m 125 #[.val (.int p0), .val (.int p1), .val (.int p2), .val (.int p3), .unset, .unset, .unset, .unset, .unset] [(.int (8591 : Int32)), (.int (18 : Int32)), (.ref b), (.ref b)])) rfl rfl (hb hby at_125)
  have V20 : AI Z h20 b .int (37 : Int32) (fun i => if i = ((18 : Int32)).toNatClampNeg then (8591 : Int32) else f118 i) := AI.set V16 W20
  obtain ⟨f125, hf125⟩ : ∃ z, z = (fun i => if i = ((18 : Int32)).toNatClampNeg then (8591 : Int32) else f118 i) := ⟨_, rfl⟩
  rw [← hf125] at V20
  have Z21 : n0 ≤ h20.size := Nat.le_trans Z17 (Keep.of_wr W20).1
  have K22 : Keep h0 h20 [b] := K18.wr W20 (Or.inl (List.mem_of_getElem? (i := 0) rfl))
  obtain ⟨lc20, X20, N20⟩ : ∃ lc, Stand p l e room_1 s m args below meth c T20 lc 1 37 ∧ Fr n0 lc := ⟨_, X20, Fr.snoc X20 N16 hp1⟩
  obtain ⟨cl23, Ar23, S23, M23, I23⟩ := id V20
  have hin23 : ¬ ((19 : Int32) < 0 ∨ cl23.slots.size ≤ ((19 : Int32)).toNatClampNeg) := inb_of S23 ⟨by decide, by decide⟩
  obtain ⟨T24, h24, X24, e24, W24, st24⟩ := stI X20 hx hZ e20 Ar23 (j := (19 : Int32)) hin23 (g := (mkF m 132 #[.val (.int p0), .val (.int p1), .val (.int p2), .val (.int p3), .unset, .unset, .unset, .unset, .unset] [(.int (11264 : Int32)), (.int (19 : Int32)), (.ref b), (.ref b)])) rfl rfl (hb hby at_132)
  have V24 : AI Z h24 b .int (37 : Int32) (fun i => if i = ((19 : Int32)).toNatClampNeg then (11264 : Int32) else f125 i) := AI.set V20 W24
  obtain ⟨f132, hf132⟩ : ∃ z, z = (fun i => if i = ((19 : Int32)).toNatClampNeg then (11264 : Int32) else f125 i) := ⟨_, rfl⟩
  rw [← hf132] at V24
  have Z25 : n0 ≤ h24.size := Nat.le_trans Z21 (Keep.of_wr W24).1
  have K26 : Keep h0 h24 [b] := K22.wr W24 (Or.inl (List.mem_of_getElem? (i := 0) rfl))
  obtain ⟨lc24, X24, N24⟩ : ∃ lc, Stand p l e room_1 s m args below meth c T24 lc 1 37 ∧ Fr n0 lc := ⟨_, X24, Fr.snoc X24 N20 hp1⟩
  obtain ⟨cl27, Ar27, S27, M27, I27⟩ := id V24
  have hin27 : ¬ ((20 : Int32) < 0 ∨ cl27.slots.size ≤ ((20 : Int32)).toNatClampNeg) := inb_of S27 ⟨by decide, by decide⟩
  obtain ⟨T28, h28, X28, e28, W28, st28⟩ := stI X24 hx hZ e24 Ar27 (j := (20 : Int32)) hin27 (g := (mkF m 139 #[.val (.int p0), .val (.int p1), .val (.int p2), .val (.int p3), .unset, .unset, .unset, .unset, .unset] [(.int (12271 : Int32)), (.int (20 : Int32)), (.ref b), (.ref b)])) rfl rfl (hb hby at_139)
  have V28 : AI Z h28 b .int (37 : Int32) (fun i => if i = ((20 : Int32)).toNatClampNeg then (12271 : Int32) else f132 i) := AI.set V24 W28
  obtain ⟨f139, hf139⟩ : ∃ z, z = (fun i => if i = ((20 : Int32)).toNatClampNeg then (12271 : Int32) else f132 i) := ⟨_, rfl⟩
  rw [← hf139] at V28
  have Z29 : n0 ≤ h28.size := Nat.le_trans Z25 (Keep.of_wr W28).1
  have K30 : Keep h0 h28 [b] := K26.wr W28 (Or.inl (List.mem_of_getElem? (i := 0) rfl))
  obtain ⟨lc28, X28, N28⟩ : ∃ lc, Stand p l e room_1 s m args below meth c T28 lc 1 37 ∧ Fr n0 lc := ⟨_, X28, Fr.snoc X28 N24 hp1⟩
  obtain ⟨cl31, Ar31, S31, M31, I31⟩ := id V28
  have hin31 : ¬ ((21 : Int32) < 0 ∨ cl31.slots.size ≤ ((21 : Int32)).toNatClampNeg) := inb_of S31 ⟨by decide, by decide⟩
  obtain ⟨T32, h32, X32, e32, W32, st32⟩ := stI X28 hx hZ e28 Ar31 (j := (21 : Int32)) hin31 (g := (mkF m 146 #[.val (.int p0), .val (.int p1), .val (.int p2), .val (.int p3), .unset, .unset, .unset, .unset, .unset] [(.int (12289 : Int32)), (.int (21 : Int32)), (.ref b), (.ref b)])) rfl rfl (hb hby at_146)
  have V32 : AI Z h32 b .int (37 : Int32) (fun i => if i = ((21 : Int32)).toNatClampNeg then (12289 : Int32) else f139 i) := AI.set V28 W32
  obtain ⟨f146, hf146⟩ : ∃ z, z = (fun i => if i = ((21 : Int32)).toNatClampNeg then (12289 : Int32) else f139 i) := ⟨_, rfl⟩
  rw [← hf146] at V32
  have Z33 : n0 ≤ h32.size := Nat.le_trans Z29 (Keep.of_wr W32).1
  have K34 : Keep h0 h32 [b] := K30.wr W32 (Or.inl (List.mem_of_getElem? (i := 0) rfl))
  obtain ⟨lc32, X32, N32⟩ : ∃ lc, Stand p l e room_1 s m args below meth c T32 lc 1 37 ∧ Fr n0 lc := ⟨_, X32, Fr.snoc X32 N28 hp1⟩
  obtain ⟨cl35, Ar35, S35, M35, I35⟩ := id V32
  have hin35 : ¬ ((22 : Int32) < 0 ∨ cl35.slots.size ≤ ((22 : Int32)).toNatClampNeg) := inb_of S35 ⟨by decide, by decide⟩
  obtain ⟨T36, h36, X36, e36, W36, st36⟩ := stI X32 hx hZ e32 Ar35 (j := (22 : Int32)) hin35 (g := (mkF m 152 #[.val (.int p0), .val (.int p1), .val (.int p2), .val (.int p3), .unset, .unset, .unset, .unset, .unset] [(.int (55295 : Int32)), (.int (22 : Int32)), (.ref b), (.ref b)])) rfl rfl (hb hby at_152)
  have V36 : AI Z h36 b .int (37 : Int32) (fun i => if i = ((22 : Int32)).toNatClampNeg then (55295 : Int32) else f146 i) := AI.set V32 W36
  obtain ⟨f152, hf152⟩ : ∃ z, z = (fun i => if i = ((22 : Int32)).toNatClampNeg then (55295 : Int32) else f146 i) := ⟨_, rfl⟩
  rw [← hf152] at V36
  have Z37 : n0 ≤ h36.size := Nat.le_trans Z33 (Keep.of_wr W36).1
  have K38 : Keep h0 h36 [b] := K34.wr W36 (Or.inl (List.mem_of_getElem? (i := 0) rfl))
  obtain ⟨lc36, X36, N36⟩ : ∃ lc, Stand p l e room_1 s m args below meth c T36 lc 1 37 ∧ Fr n0 lc := ⟨_, X36, Fr.snoc X36 N32 hp1⟩
  obtain ⟨cl39, Ar39, S39, M39, I39⟩ := id V36
  have hin39 : ¬ ((23 : Int32) < 0 ∨ cl39.slots.size ≤ ((23 : Int32)).toNatClampNeg) := inb_of S39 ⟨by decide, by decide⟩
  obtain ⟨T40, h40, X40, e40, W40, st40⟩ := stI X36 hx hZ e36 Ar39 (j := (23 : Int32)) hin39 (g := (mkF m 158 #[.val (.int p0), .val (.int p1), .val (.int p2), .val (.int p3), .unset, .unset, .unset, .unset, .unset] [(.int (63744 : Int32)), (.int (23 : Int32)), (.ref b), (.ref b)])) rfl rfl (hb hby at_158)
  have V40 : AI Z h40 b .int (37 : Int32) (fun i => if i = ((23 : Int32)).toNatClampNeg then (63744 : Int32) else f152 i) := AI.set V36 W40
  obtain ⟨f158, hf158⟩ : ∃ z, z = (fun i => if i = ((23 : Int32)).toNatClampNeg then (63744 : Int32) else f152 i) := ⟨_, rfl⟩
  rw [← hf158] at V40
  have Z41 : n0 ≤ h40.size := Nat.le_trans Z37 (Keep.of_wr W40).1
  have K42 : Keep h0 h40 [b] := K38.wr W40 (Or.inl (List.mem_of_getElem? (i := 0) rfl))
  obtain ⟨lc40, X40, N40⟩ : ∃ lc, Stand p l e room_1 s m args below meth c T40 lc 1 37 ∧ Fr n0 lc := ⟨_, X40, Fr.snoc X40 N36 hp1⟩
  have pre43 : ∀ t, Steps p.tables e below (T40.setTop (mkF m 159 #[.val (.int p0), .val (.int p1), .val (.int p2), .val (.int p3), .unset, .unset, .unset, .unset, .unset] [(.ref b)])) t → Steps p.tables e below (T0.setTop (mkF m 105 #[.val (.int p0), .val (.int p1), .val (.int p2), .val (.int p3), .unset, .unset, .unset, .unset, .unset] [(.ref b)])) t := fun t k => pre0 t (by
    refine XS.dup X0.here hx rfl (hb hby at_105) rfl rfl ?_
    show Steps p.tables e below (T0.setTop (mkF m 106 #[.val (.int p0), .val (.int p1), .val (.int p2), .val (.int p3), .unset, .unset, .unset, .unset, .unset] [(.ref b), (.ref b)])) _
    refine XS.bipush X0.here hx rfl (hb hby at_106) ?_
    show Steps p.tables e below (T0.setTop (mkF m 108 #[.val (.int p0), .val (.int p1), .val (.int p2), .val (.int p3), .unset, .unset, .unset, .unset, .unset] [(.int (16 : Int32)), (.ref b), (.ref b)])) _
    refine XS.sipush X0.here hx rfl (hb hby at_108) ?_
    show Steps p.tables e below (T0.setTop (mkF m 111 #[.val (.int p0), .val (.int p1), .val (.int p2), .val (.int p3), .unset, .unset, .unset, .unset, .unset] [(.int (8205 : Int32)), (.int (16 : Int32)), (.ref b), (.ref b)])) _
    refine st12 _ ?_
    show Steps p.tables e below (T12.setTop (mkF m 112 #[.val (.int p0), .val (.int p1), .val (.int p2), .val (.int p3), .unset, .unset, .unset, .unset, .unset] [(.ref b)])) _
    refine XS.dup X12.here hx rfl (hb hby at_112) rfl rfl ?_
    show Steps p.tables e below (T12.setTop (mkF m 113 #[.val (.int p0), .val (.int p1), .val (.int p2), .val (.int p3), .unset, .unset, .unset, .unset, .unset] [(.ref b), (.ref b)])) _
    refine XS.bipush X12.here hx rfl (hb hby at_113) ?_
    show Steps p.tables e below (T12.setTop (mkF m 115 #[.val (.int p0), .val (.int p1), .val (.int p2), .val (.int p3), .unset, .unset, .unset, .unset, .unset] [(.int (17 : Int32)), (.ref b), (.ref b)])) _
    refine XS.sipush X12.here hx rfl (hb hby at_115) ?_
    show Steps p.tables e below (T12.setTop (mkF m 118 #[.val (.int p0), .val (.int p1), .val (.int p2), .val (.int p3), .unset, .unset, .unset, .unset, .unset] [(.int (8304 : Int32)), (.int (17 : Int32)), (.ref b), (.ref b)])) _
    refine st16 _ ?_
    show Steps p.tables e below (T16.setTop (mkF m 119 #[.val (.int p0), .val (.int p1), .val (.int p2), .val (.int p3), .unset, .unset, .unset, .unset, .unset] [(.ref b)])) _
    refine XS.dup X16.here hx rfl (hb hby at_119) rfl rfl ?_
    show Steps p.tables e below (T16.setTop (mkF m 120 #[.val (.int p0), .val (.int p1), .val (.int p2), .val (.int p3), .unset, .unset, .unset, .unset, .unset] [(.ref b), (.ref b)])) _
    refine XS.bipush X16.here hx rfl (hb hby at_120) ?_
    show Steps p.tables e below (T16.setTop (mkF m 122 #[.val (.int p0), .val (.int p1), .val (.int p2), .val (.int p3), .unset, .unset, .unset, .unset, .unset] [(.int (18 : Int32)), (.ref b), (.ref b)])) _
    refine XS.sipush X16.here hx rfl (hb hby at_122) ?_
    show Steps p.tables e below (T16.setTop (mkF m 125 #[.val (.int p0), .val (.int p1), .val (.int p2), .val (.int p3), .unset, .unset, .unset, .unset, .unset] [(.int (8591 : Int32)), (.int (18 : Int32)), (.ref b), (.ref b)])) _
    refine st20 _ ?_
    show Steps p.tables e below (T20.setTop (mkF m 126 #[.val (.int p0), .val (.int p1), .val (.int p2), .val (.int p3), .unset, .unset, .unset, .unset, .unset] [(.ref b)])) _
    refine XS.dup X20.here hx rfl (hb hby at_126) rfl rfl ?_
    show Steps p.tables e below (T20.setTop (mkF m 127 #[.val (.int p0), .val (.int p1), .val (.int p2), .val (.int p3), .unset, .unset, .unset, .unset, .unset] [(.ref b), (.ref b)])) _
    refine XS.bipush X20.here hx rfl (hb hby at_127) ?_
    show Steps p.tables e below (T20.setTop (mkF m 129 #[.val (.int p0), .val (.int p1), .val (.int p2), .val (.int p3), .unset, .unset, .unset, .unset, .unset] [(.int (19 : Int32)), (.ref b), (.ref b)])) _
    refine XS.sipush X20.here hx rfl (hb hby at_129) ?_
    show Steps p.tables e below (T20.setTop (mkF m 132 #[.val (.int p0), .val (.int p1), .val (.int p2), .val (.int p3), .unset, .unset, .unset, .unset, .unset] [(.int (11264 : Int32)), (.int (19 : Int32)), (.ref b), (.ref b)])) _
    refine st24 _ ?_
    show Steps p.tables e below (T24.setTop (mkF m 133 #[.val (.int p0), .val (.int p1), .val (.int p2), .val (.int p3), .unset, .unset, .unset, .unset, .unset] [(.ref b)])) _
    refine XS.dup X24.here hx rfl (hb hby at_133) rfl rfl ?_
    show Steps p.tables e below (T24.setTop (mkF m 134 #[.val (.int p0), .val (.int p1), .val (.int p2), .val (.int p3), .unset, .unset, .unset, .unset, .unset] [(.ref b), (.ref b)])) _
    refine XS.bipush X24.here hx rfl (hb hby at_134) ?_
    show Steps p.tables e below (T24.setTop (mkF m 136 #[.val (.int p0), .val (.int p1), .val (.int p2), .val (.int p3), .unset, .unset, .unset, .unset, .unset] [(.int (20 : Int32)), (.ref b), (.ref b)])) _
    refine XS.sipush X24.here hx rfl (hb hby at_136) ?_
    show Steps p.tables e below (T24.setTop (mkF m 139 #[.val (.int p0), .val (.int p1), .val (.int p2), .val (.int p3), .unset, .unset, .unset, .unset, .unset] [(.int (12271 : Int32)), (.int (20 : Int32)), (.ref b), (.ref b)])) _
    refine st28 _ ?_
    show Steps p.tables e below (T28.setTop (mkF m 140 #[.val (.int p0), .val (.int p1), .val (.int p2), .val (.int p3), .unset, .unset, .unset, .unset, .unset] [(.ref b)])) _
    refine XS.dup X28.here hx rfl (hb hby at_140) rfl rfl ?_
    show Steps p.tables e below (T28.setTop (mkF m 141 #[.val (.int p0), .val (.int p1), .val (.int p2), .val (.int p3), .unset, .unset, .unset, .unset, .unset] [(.ref b), (.ref b)])) _
    refine XS.bipush X28.here hx rfl (hb hby at_141) ?_
    show Steps p.tables e below (T28.setTop (mkF m 143 #[.val (.int p0), .val (.int p1), .val (.int p2), .val (.int p3), .unset, .unset, .unset, .unset, .unset] [(.int (21 : Int32)), (.ref b), (.ref b)])) _
    refine XS.sipush X28.here hx rfl (hb hby at_143) ?_
    show Steps p.tables e below (T28.setTop (mkF m 146 #[.val (.int p0), .val (.int p1), .val (.int p2), .val (.int p3), .unset, .unset, .unset, .unset, .unset] [(.int (12289 : Int32)), (.int (21 : Int32)), (.ref b), (.ref b)])) _
    refine st32 _ ?_
    show Steps p.tables e below (T32.setTop (mkF m 147 #[.val (.int p0), .val (.int p1), .val (.int p2), .val (.int p3), .unset, .unset, .unset, .unset, .unset] [(.ref b)])) _
    refine XS.dup X32.here hx rfl (hb hby at_147) rfl rfl ?_
    show Steps p.tables e below (T32.setTop (mkF m 148 #[.val (.int p0), .val (.int p1), .val (.int p2), .val (.int p3), .unset, .unset, .unset, .unset, .unset] [(.ref b), (.ref b)])) _
    refine XS.bipush X32.here hx rfl (hb hby at_148) ?_
    show Steps p.tables e below (T32.setTop (mkF m 150 #[.val (.int p0), .val (.int p1), .val (.int p2), .val (.int p3), .unset, .unset, .unset, .unset, .unset] [(.int (22 : Int32)), (.ref b), (.ref b)])) _
    refine X32.ldcInt hx hown (mvT hZ (hw _ (List.mem_of_getElem? (i := 1) rfl))) (g := (mkF m 150 #[.val (.int p0), .val (.int p1), .val (.int p2), .val (.int p3), .unset, .unset, .unset, .unset, .unset] [(.int (22 : Int32)), (.ref b), (.ref b)])) rfl (hb hby at_150) _ ?_
    show Steps p.tables e below (T32.setTop (mkF m 152 #[.val (.int p0), .val (.int p1), .val (.int p2), .val (.int p3), .unset, .unset, .unset, .unset, .unset] [(.int (55295 : Int32)), (.int (22 : Int32)), (.ref b), (.ref b)])) _
    refine st36 _ ?_
    show Steps p.tables e below (T36.setTop (mkF m 153 #[.val (.int p0), .val (.int p1), .val (.int p2), .val (.int p3), .unset, .unset, .unset, .unset, .unset] [(.ref b)])) _
    refine XS.dup X36.here hx rfl (hb hby at_153) rfl rfl ?_
    show Steps p.tables e below (T36.setTop (mkF m 154 #[.val (.int p0), .val (.int p1), .val (.int p2), .val (.int p3), .unset, .unset, .unset, .unset, .unset] [(.ref b), (.ref b)])) _
    refine XS.bipush X36.here hx rfl (hb hby at_154) ?_
    show Steps p.tables e below (T36.setTop (mkF m 156 #[.val (.int p0), .val (.int p1), .val (.int p2), .val (.int p3), .unset, .unset, .unset, .unset, .unset] [(.int (23 : Int32)), (.ref b), (.ref b)])) _
    refine X36.ldcInt hx hown (mvT hZ (hw _ (List.mem_of_getElem? (i := 2) rfl))) (g := (mkF m 156 #[.val (.int p0), .val (.int p1), .val (.int p2), .val (.int p3), .unset, .unset, .unset, .unset, .unset] [(.int (23 : Int32)), (.ref b), (.ref b)])) rfl (hb hby at_156) _ ?_
    show Steps p.tables e below (T36.setTop (mkF m 158 #[.val (.int p0), .val (.int p1), .val (.int p2), .val (.int p3), .unset, .unset, .unset, .unset, .unset] [(.int (63744 : Int32)), (.int (23 : Int32)), (.ref b), (.ref b)])) _
    refine st40 _ ?_
    exact k)
  exact ⟨T40, _, _, _, X40, e40, N40, K42, V40, pre43⟩
set_option maxRecDepth 65536 in
set_option maxHeartbeats 40000000 in
theorem tF159 {p : Program} {l : Launch} {e : Env} {s : State} {m : MethodId} {args : Array Value} {below : List Frame} {meth : Method} {c : Code} {T0 : State} {locs0 : List Loc} {Z : State} {a0 : Array Value} (p0 : Int32) (p1 : Int32) (p2 : Int32) (p3 : Int32) (b : Addr) (f : Nat → Int32) (h0 : Heap) (n0 : Nat) (X0 : Stand p l e room_1 s m args below meth c T0 locs0 1 37) (hx : p.tables.exec = Jvm.exec) (hZ : Z.Warmed39 s.vm) (hw : ∀ d ∈ tables_1, d.before a0 Z = true) (hby : c.code = code) (hml : c.maxLocals = 9) (hown : s.vm.findClass "com/example/nodetest/nodetest/xdm/LexicalIsNameStartCharPinLaw" = some m.cls) (e0 : T0.heap = h0) (Z0 : n0 ≤ h0.size) (N0 : Fr n0 locs0) (hp0 : AI Z h0 b .int (37 : Int32) f) (hp1 : n0 ≤ b) :
    ∃ (T' : State) (h' : Heap) (locs' : List Loc) (g : Nat → Int32), Stand p l e room_1 s m args below meth c T' locs' 1 37 ∧ T'.heap = h' ∧ Fr n0 locs' ∧ Keep h0 h' [b] ∧ AI Z h' b .int (37 : Int32) g ∧ ∀ t, Steps p.tables e below (T'.setTop (mkF m 206 #[.val (.int p0), .val (.int p1), .val (.int p2), .val (.int p3), .unset, .unset, .unset, .unset, .unset] [(.ref b)])) t → Steps p.tables e below (T0.setTop (mkF m 159 #[.val (.int p0), .val (.int p1), .val (.int p2), .val (.int p3), .unset, .unset, .unset, .unset, .unset] [(.ref b)])) t := by
  have pre0 : ∀ t, Steps p.tables e below (T0.setTop (mkF m 159 #[.val (.int p0), .val (.int p1), .val (.int p2), .val (.int p3), .unset, .unset, .unset, .unset, .unset] [(.ref b)])) t → Steps p.tables e below (T0.setTop (mkF m 159 #[.val (.int p0), .val (.int p1), .val (.int p2), .val (.int p3), .unset, .unset, .unset, .unset, .unset] [(.ref b)])) t := fun t k => k
  obtain ⟨cl11, Ar11, S11, M11, I11⟩ := id hp0
  have hin11 : ¬ ((24 : Int32) < 0 ∨ cl11.slots.size ≤ ((24 : Int32)).toNatClampNeg) := inb_of S11 ⟨by decide, by decide⟩
  obtain ⟨T12, h12, X12, e12, W12, st12⟩ := stI X0 hx hZ e0 Ar11 (j := (24 : Int32)) hin11 (g := (mkF m 164 #[.val (.int p0), .val (.int p1), .val (.int p2), .val (.int p3), .unset, .unset, .unset, .unset, .unset] [(.int (64975 : Int32)), (.int (24 : Int32)), (.ref b), (.ref b)])) rfl rfl (hb hby at_164)
  have V12 : AI Z h12 b .int (37 : Int32) (fun i => if i = ((24 : Int32)).toNatClampNeg then (64975 : Int32) else f i) := AI.set hp0 W12
  obtain ⟨f164, hf164⟩ : ∃ z, z = (fun i => if i = ((24 : Int32)).toNatClampNeg then (64975 : Int32) else f i) := ⟨_, rfl⟩
  rw [← hf164] at V12
  have Z13 : n0 ≤ h12.size := Nat.le_trans Z0 (Keep.of_wr W12).1
  have K14 : Keep h0 h12 [b] := (Keep.refl h0 [b]).wr W12 (Or.inl (List.mem_of_getElem? (i := 0) rfl))
  obtain ⟨lc12, X12, N12⟩ : ∃ lc, Stand p l e room_1 s m args below meth c T12 lc 1 37 ∧ Fr n0 lc := ⟨_, X12, Fr.snoc X12 N0 hp1⟩
  obtain ⟨cl15, Ar15, S15, M15, I15⟩ := id V12
  have hin15 : ¬ ((25 : Int32) < 0 ∨ cl15.slots.size ≤ ((25 : Int32)).toNatClampNeg) := inb_of S15 ⟨by decide, by decide⟩
  obtain ⟨T16, h16, X16, e16, W16, st16⟩ := stI X12 hx hZ e12 Ar15 (j := (25 : Int32)) hin15 (g := (mkF m 170 #[.val (.int p0), .val (.int p1), .val (.int p2), .val (.int p3), .unset, .unset, .unset, .unset, .unset] [(.int (65008 : Int32)), (.int (25 : Int32)), (.ref b), (.ref b)])) rfl rfl (hb hby at_170)
  have V16 : AI Z h16 b .int (37 : Int32) (fun i => if i = ((25 : Int32)).toNatClampNeg then (65008 : Int32) else f164 i) := AI.set V12 W16
  obtain ⟨f170, hf170⟩ : ∃ z, z = (fun i => if i = ((25 : Int32)).toNatClampNeg then (65008 : Int32) else f164 i) := ⟨_, rfl⟩
  rw [← hf170] at V16
  have Z17 : n0 ≤ h16.size := Nat.le_trans Z13 (Keep.of_wr W16).1
  have K18 : Keep h0 h16 [b] := K14.wr W16 (Or.inl (List.mem_of_getElem? (i := 0) rfl))
  obtain ⟨lc16, X16, N16⟩ : ∃ lc, Stand p l e room_1 s m args below meth c T16 lc 1 37 ∧ Fr n0 lc := ⟨_, X16, Fr.snoc X16 N12 hp1⟩
  obtain ⟨cl19, Ar19, S19, M19, I19⟩ := id V16
  have hin19 : ¬ ((26 : Int32) < 0 ∨ cl19.slots.size ≤ ((26 : Int32)).toNatClampNeg) := inb_of S19 ⟨by decide, by decide⟩
  obtain ⟨T20, h20, X20, e20, W20, st20⟩ := stI X16 hx hZ e16 Ar19 (j := (26 : Int32)) hin19 (g := (mkF m 176 #[.val (.int p0), .val (.int p1), .val (.int p2), .val (.int p3), .unset, .unset, .unset, .unset, .unset] [(.int (65533 : Int32)), (.int (26 : Int32)), (.ref b), (.ref b)])) rfl rfl (hb hby at_176)
  have V20 : AI Z h20 b .int (37 : Int32) (fun i => if i = ((26 : Int32)).toNatClampNeg then (65533 : Int32) else f170 i) := AI.set V16 W20
  obtain ⟨f176, hf176⟩ : ∃ z, z = (fun i => if i = ((26 : Int32)).toNatClampNeg then (65533 : Int32) else f170 i) := ⟨_, rfl⟩
  rw [← hf176] at V20
  have Z21 : n0 ≤ h20.size := Nat.le_trans Z17 (Keep.of_wr W20).1
  have K22 : Keep h0 h20 [b] := K18.wr W20 (Or.inl (List.mem_of_getElem? (i := 0) rfl))
  obtain ⟨lc20, X20, N20⟩ : ∃ lc, Stand p l e room_1 s m args below meth c T20 lc 1 37 ∧ Fr n0 lc := ⟨_, X20, Fr.snoc X20 N16 hp1⟩
  obtain ⟨cl23, Ar23, S23, M23, I23⟩ := id V20
  have hin23 : ¬ ((27 : Int32) < 0 ∨ cl23.slots.size ≤ ((27 : Int32)).toNatClampNeg) := inb_of S23 ⟨by decide, by decide⟩
  obtain ⟨T24, h24, X24, e24, W24, st24⟩ := stI X20 hx hZ e20 Ar23 (j := (27 : Int32)) hin23 (g := (mkF m 182 #[.val (.int p0), .val (.int p1), .val (.int p2), .val (.int p3), .unset, .unset, .unset, .unset, .unset] [(.int (65536 : Int32)), (.int (27 : Int32)), (.ref b), (.ref b)])) rfl rfl (hb hby at_182)
  have V24 : AI Z h24 b .int (37 : Int32) (fun i => if i = ((27 : Int32)).toNatClampNeg then (65536 : Int32) else f176 i) := AI.set V20 W24
  obtain ⟨f182, hf182⟩ : ∃ z, z = (fun i => if i = ((27 : Int32)).toNatClampNeg then (65536 : Int32) else f176 i) := ⟨_, rfl⟩
  rw [← hf182] at V24
  have Z25 : n0 ≤ h24.size := Nat.le_trans Z21 (Keep.of_wr W24).1
  have K26 : Keep h0 h24 [b] := K22.wr W24 (Or.inl (List.mem_of_getElem? (i := 0) rfl))
  obtain ⟨lc24, X24, N24⟩ : ∃ lc, Stand p l e room_1 s m args below meth c T24 lc 1 37 ∧ Fr n0 lc := ⟨_, X24, Fr.snoc X24 N20 hp1⟩
  obtain ⟨cl27, Ar27, S27, M27, I27⟩ := id V24
  have hin27 : ¬ ((28 : Int32) < 0 ∨ cl27.slots.size ≤ ((28 : Int32)).toNatClampNeg) := inb_of S27 ⟨by decide, by decide⟩
  obtain ⟨T28, h28, X28, e28, W28, st28⟩ := stI X24 hx hZ e24 Ar27 (j := (28 : Int32)) hin27 (g := (mkF m 188 #[.val (.int p0), .val (.int p1), .val (.int p2), .val (.int p3), .unset, .unset, .unset, .unset, .unset] [(.int (983039 : Int32)), (.int (28 : Int32)), (.ref b), (.ref b)])) rfl rfl (hb hby at_188)
  have V28 : AI Z h28 b .int (37 : Int32) (fun i => if i = ((28 : Int32)).toNatClampNeg then (983039 : Int32) else f182 i) := AI.set V24 W28
  obtain ⟨f188, hf188⟩ : ∃ z, z = (fun i => if i = ((28 : Int32)).toNatClampNeg then (983039 : Int32) else f182 i) := ⟨_, rfl⟩
  rw [← hf188] at V28
  have Z29 : n0 ≤ h28.size := Nat.le_trans Z25 (Keep.of_wr W28).1
  have K30 : Keep h0 h28 [b] := K26.wr W28 (Or.inl (List.mem_of_getElem? (i := 0) rfl))
  obtain ⟨lc28, X28, N28⟩ : ∃ lc, Stand p l e room_1 s m args below meth c T28 lc 1 37 ∧ Fr n0 lc := ⟨_, X28, Fr.snoc X28 N24 hp1⟩
  obtain ⟨cl31, Ar31, S31, M31, I31⟩ := id V28
  have hin31 : ¬ ((29 : Int32) < 0 ∨ cl31.slots.size ≤ ((29 : Int32)).toNatClampNeg) := inb_of S31 ⟨by decide, by decide⟩
  obtain ⟨T32, h32, X32, e32, W32, st32⟩ := stI X28 hx hZ e28 Ar31 (j := (29 : Int32)) hin31 (g := (mkF m 194 #[.val (.int p0), .val (.int p1), .val (.int p2), .val (.int p3), .unset, .unset, .unset, .unset, .unset] [(.int (1114111 : Int32)), (.int (29 : Int32)), (.ref b), (.ref b)])) rfl rfl (hb hby at_194)
  have V32 : AI Z h32 b .int (37 : Int32) (fun i => if i = ((29 : Int32)).toNatClampNeg then (1114111 : Int32) else f188 i) := AI.set V28 W32
  obtain ⟨f194, hf194⟩ : ∃ z, z = (fun i => if i = ((29 : Int32)).toNatClampNeg then (1114111 : Int32) else f188 i) := ⟨_, rfl⟩
  rw [← hf194] at V32
  have Z33 : n0 ≤ h32.size := Nat.le_trans Z29 (Keep.of_wr W32).1
  have K34 : Keep h0 h32 [b] := K30.wr W32 (Or.inl (List.mem_of_getElem? (i := 0) rfl))
  obtain ⟨lc32, X32, N32⟩ : ∃ lc, Stand p l e room_1 s m args below meth c T32 lc 1 37 ∧ Fr n0 lc := ⟨_, X32, Fr.snoc X32 N28 hp1⟩
  obtain ⟨cl35, Ar35, S35, M35, I35⟩ := id V32
  have hin35 : ¬ ((30 : Int32) < 0 ∨ cl35.slots.size ≤ ((30 : Int32)).toNatClampNeg) := inb_of S35 ⟨by decide, by decide⟩
  obtain ⟨T36, h36, X36, e36, W36, st36⟩ := stI X32 hx hZ e32 Ar35 (j := (30 : Int32)) hin35 (g := (mkF m 199 #[.val (.int p0), .val (.int p1), .val (.int p2), .val (.int p3), .unset, .unset, .unset, .unset, .unset] [(.int (0 : Int32)), (.int (30 : Int32)), (.ref b), (.ref b)])) rfl rfl (hb hby at_199)
  have V36 : AI Z h36 b .int (37 : Int32) (fun i => if i = ((30 : Int32)).toNatClampNeg then (0 : Int32) else f194 i) := AI.set V32 W36
  obtain ⟨f199, hf199⟩ : ∃ z, z = (fun i => if i = ((30 : Int32)).toNatClampNeg then (0 : Int32) else f194 i) := ⟨_, rfl⟩
  rw [← hf199] at V36
  have Z37 : n0 ≤ h36.size := Nat.le_trans Z33 (Keep.of_wr W36).1
  have K38 : Keep h0 h36 [b] := K34.wr W36 (Or.inl (List.mem_of_getElem? (i := 0) rfl))
  obtain ⟨lc36, X36, N36⟩ : ∃ lc, Stand p l e room_1 s m args below meth c T36 lc 1 37 ∧ Fr n0 lc := ⟨_, X36, Fr.snoc X36 N32 hp1⟩
  obtain ⟨cl39, Ar39, S39, M39, I39⟩ := id V36
  have hin39 : ¬ ((31 : Int32) < 0 ∨ cl39.slots.size ≤ ((31 : Int32)).toNatClampNeg) := inb_of S39 ⟨by decide, by decide⟩
  obtain ⟨T40, h40, X40, e40, W40, st40⟩ := stI X36 hx hZ e36 Ar39 (j := (31 : Int32)) hin39 (g := (mkF m 205 #[.val (.int p0), .val (.int p1), .val (.int p2), .val (.int p3), .unset, .unset, .unset, .unset, .unset] [(.int (58 : Int32)), (.int (31 : Int32)), (.ref b), (.ref b)])) rfl rfl (hb hby at_205)
  have V40 : AI Z h40 b .int (37 : Int32) (fun i => if i = ((31 : Int32)).toNatClampNeg then (58 : Int32) else f199 i) := AI.set V36 W40
  obtain ⟨f205, hf205⟩ : ∃ z, z = (fun i => if i = ((31 : Int32)).toNatClampNeg then (58 : Int32) else f199 i) := ⟨_, rfl⟩
  rw [← hf205] at V40
  have Z41 : n0 ≤ h40.size := Nat.le_trans Z37 (Keep.of_wr W40).1
  have K42 : Keep h0 h40 [b] := K38.wr W40 (Or.inl (List.mem_of_getElem? (i := 0) rfl))
  obtain ⟨lc40, X40, N40⟩ : ∃ lc, Stand p l e room_1 s m args below meth c T40 lc 1 37 ∧ Fr n0 lc := ⟨_, X40, Fr.snoc X40 N36 hp1⟩
  have pre43 : ∀ t, Steps p.tables e below (T40.setTop (mkF m 206 #[.val (.int p0), .val (.int p1), .val (.int p2), .val (.int p3), .unset, .unset, .unset, .unset, .unset] [(.ref b)])) t → Steps p.tables e below (T0.setTop (mkF m 159 #[.val (.int p0), .val (.int p1), .val (.int p2), .val (.int p3), .unset, .unset, .unset, .unset, .unset] [(.ref b)])) t := fun t k => pre0 t (by
    refine XS.dup X0.here hx rfl (hb hby at_159) rfl rfl ?_
    show Steps p.tables e below (T0.setTop (mkF m 160 #[.val (.int p0), .val (.int p1), .val (.int p2), .val (.int p3), .unset, .unset, .unset, .unset, .unset] [(.ref b), (.ref b)])) _
    refine XS.bipush X0.here hx rfl (hb hby at_160) ?_
    show Steps p.tables e below (T0.setTop (mkF m 162 #[.val (.int p0), .val (.int p1), .val (.int p2), .val (.int p3), .unset, .unset, .unset, .unset, .unset] [(.int (24 : Int32)), (.ref b), (.ref b)])) _
    refine X0.ldcInt hx hown (mvT hZ (hw _ (List.mem_of_getElem? (i := 3) rfl))) (g := (mkF m 162 #[.val (.int p0), .val (.int p1), .val (.int p2), .val (.int p3), .unset, .unset, .unset, .unset, .unset] [(.int (24 : Int32)), (.ref b), (.ref b)])) rfl (hb hby at_162) _ ?_
    show Steps p.tables e below (T0.setTop (mkF m 164 #[.val (.int p0), .val (.int p1), .val (.int p2), .val (.int p3), .unset, .unset, .unset, .unset, .unset] [(.int (64975 : Int32)), (.int (24 : Int32)), (.ref b), (.ref b)])) _
    refine st12 _ ?_
    show Steps p.tables e below (T12.setTop (mkF m 165 #[.val (.int p0), .val (.int p1), .val (.int p2), .val (.int p3), .unset, .unset, .unset, .unset, .unset] [(.ref b)])) _
    refine XS.dup X12.here hx rfl (hb hby at_165) rfl rfl ?_
    show Steps p.tables e below (T12.setTop (mkF m 166 #[.val (.int p0), .val (.int p1), .val (.int p2), .val (.int p3), .unset, .unset, .unset, .unset, .unset] [(.ref b), (.ref b)])) _
    refine XS.bipush X12.here hx rfl (hb hby at_166) ?_
    show Steps p.tables e below (T12.setTop (mkF m 168 #[.val (.int p0), .val (.int p1), .val (.int p2), .val (.int p3), .unset, .unset, .unset, .unset, .unset] [(.int (25 : Int32)), (.ref b), (.ref b)])) _
    refine X12.ldcInt hx hown (mvT hZ (hw _ (List.mem_of_getElem? (i := 4) rfl))) (g := (mkF m 168 #[.val (.int p0), .val (.int p1), .val (.int p2), .val (.int p3), .unset, .unset, .unset, .unset, .unset] [(.int (25 : Int32)), (.ref b), (.ref b)])) rfl (hb hby at_168) _ ?_
    show Steps p.tables e below (T12.setTop (mkF m 170 #[.val (.int p0), .val (.int p1), .val (.int p2), .val (.int p3), .unset, .unset, .unset, .unset, .unset] [(.int (65008 : Int32)), (.int (25 : Int32)), (.ref b), (.ref b)])) _
    refine st16 _ ?_
    show Steps p.tables e below (T16.setTop (mkF m 171 #[.val (.int p0), .val (.int p1), .val (.int p2), .val (.int p3), .unset, .unset, .unset, .unset, .unset] [(.ref b)])) _
    refine XS.dup X16.here hx rfl (hb hby at_171) rfl rfl ?_
    show Steps p.tables e below (T16.setTop (mkF m 172 #[.val (.int p0), .val (.int p1), .val (.int p2), .val (.int p3), .unset, .unset, .unset, .unset, .unset] [(.ref b), (.ref b)])) _
    refine XS.bipush X16.here hx rfl (hb hby at_172) ?_
    show Steps p.tables e below (T16.setTop (mkF m 174 #[.val (.int p0), .val (.int p1), .val (.int p2), .val (.int p3), .unset, .unset, .unset, .unset, .unset] [(.int (26 : Int32)), (.ref b), (.ref b)])) _
    refine X16.ldcInt hx hown (mvT hZ (hw _ (List.mem_of_getElem? (i := 5) rfl))) (g := (mkF m 174 #[.val (.int p0), .val (.int p1), .val (.int p2), .val (.int p3), .unset, .unset, .unset, .unset, .unset] [(.int (26 : Int32)), (.ref b), (.ref b)])) rfl (hb hby at_174) _ ?_
    show Steps p.tables e below (T16.setTop (mkF m 176 #[.val (.int p0), .val (.int p1), .val (.int p2), .val (.int p3), .unset, .unset, .unset, .unset, .unset] [(.int (65533 : Int32)), (.int (26 : Int32)), (.ref b), (.ref b)])) _
    refine st20 _ ?_
    show Steps p.tables e below (T20.setTop (mkF m 177 #[.val (.int p0), .val (.int p1), .val (.int p2), .val (.int p3), .unset, .unset, .unset, .unset, .unset] [(.ref b)])) _
    refine XS.dup X20.here hx rfl (hb hby at_177) rfl rfl ?_
    show Steps p.tables e below (T20.setTop (mkF m 178 #[.val (.int p0), .val (.int p1), .val (.int p2), .val (.int p3), .unset, .unset, .unset, .unset, .unset] [(.ref b), (.ref b)])) _
    refine XS.bipush X20.here hx rfl (hb hby at_178) ?_
    show Steps p.tables e below (T20.setTop (mkF m 180 #[.val (.int p0), .val (.int p1), .val (.int p2), .val (.int p3), .unset, .unset, .unset, .unset, .unset] [(.int (27 : Int32)), (.ref b), (.ref b)])) _
    refine X20.ldcInt hx hown (mvT hZ (hw _ (List.mem_of_getElem? (i := 6) rfl))) (g := (mkF m 180 #[.val (.int p0), .val (.int p1), .val (.int p2), .val (.int p3), .unset, .unset, .unset, .unset, .unset] [(.int (27 : Int32)), (.ref b), (.ref b)])) rfl (hb hby at_180) _ ?_
    show Steps p.tables e below (T20.setTop (mkF m 182 #[.val (.int p0), .val (.int p1), .val (.int p2), .val (.int p3), .unset, .unset, .unset, .unset, .unset] [(.int (65536 : Int32)), (.int (27 : Int32)), (.ref b), (.ref b)])) _
    refine st24 _ ?_
    show Steps p.tables e below (T24.setTop (mkF m 183 #[.val (.int p0), .val (.int p1), .val (.int p2), .val (.int p3), .unset, .unset, .unset, .unset, .unset] [(.ref b)])) _
    refine XS.dup X24.here hx rfl (hb hby at_183) rfl rfl ?_
    show Steps p.tables e below (T24.setTop (mkF m 184 #[.val (.int p0), .val (.int p1), .val (.int p2), .val (.int p3), .unset, .unset, .unset, .unset, .unset] [(.ref b), (.ref b)])) _
    refine XS.bipush X24.here hx rfl (hb hby at_184) ?_
    show Steps p.tables e below (T24.setTop (mkF m 186 #[.val (.int p0), .val (.int p1), .val (.int p2), .val (.int p3), .unset, .unset, .unset, .unset, .unset] [(.int (28 : Int32)), (.ref b), (.ref b)])) _
    refine X24.ldcInt hx hown (mvT hZ (hw _ (List.mem_of_getElem? (i := 7) rfl))) (g := (mkF m 186 #[.val (.int p0), .val (.int p1), .val (.int p2), .val (.int p3), .unset, .unset, .unset, .unset, .unset] [(.int (28 : Int32)), (.ref b), (.ref b)])) rfl (hb hby at_186) _ ?_
    show Steps p.tables e below (T24.setTop (mkF m 188 #[.val (.int p0), .val (.int p1), .val (.int p2), .val (.int p3), .unset, .unset, .unset, .unset, .unset] [(.int (983039 : Int32)), (.int (28 : Int32)), (.ref b), (.ref b)])) _
    refine st28 _ ?_
    show Steps p.tables e below (T28.setTop (mkF m 189 #[.val (.int p0), .val (.int p1), .val (.int p2), .val (.int p3), .unset, .unset, .unset, .unset, .unset] [(.ref b)])) _
    refine XS.dup X28.here hx rfl (hb hby at_189) rfl rfl ?_
    show Steps p.tables e below (T28.setTop (mkF m 190 #[.val (.int p0), .val (.int p1), .val (.int p2), .val (.int p3), .unset, .unset, .unset, .unset, .unset] [(.ref b), (.ref b)])) _
    refine XS.bipush X28.here hx rfl (hb hby at_190) ?_
    show Steps p.tables e below (T28.setTop (mkF m 192 #[.val (.int p0), .val (.int p1), .val (.int p2), .val (.int p3), .unset, .unset, .unset, .unset, .unset] [(.int (29 : Int32)), (.ref b), (.ref b)])) _
    refine X28.ldcInt hx hown (mvT hZ (hw _ (List.mem_of_getElem? (i := 8) rfl))) (g := (mkF m 192 #[.val (.int p0), .val (.int p1), .val (.int p2), .val (.int p3), .unset, .unset, .unset, .unset, .unset] [(.int (29 : Int32)), (.ref b), (.ref b)])) rfl (hb hby at_192) _ ?_
    show Steps p.tables e below (T28.setTop (mkF m 194 #[.val (.int p0), .val (.int p1), .val (.int p2), .val (.int p3), .unset, .unset, .unset, .unset, .unset] [(.int (1114111 : Int32)), (.int (29 : Int32)), (.ref b), (.ref b)])) _
    refine st32 _ ?_
    show Steps p.tables e below (T32.setTop (mkF m 195 #[.val (.int p0), .val (.int p1), .val (.int p2), .val (.int p3), .unset, .unset, .unset, .unset, .unset] [(.ref b)])) _
    refine XS.dup X32.here hx rfl (hb hby at_195) rfl rfl ?_
    show Steps p.tables e below (T32.setTop (mkF m 196 #[.val (.int p0), .val (.int p1), .val (.int p2), .val (.int p3), .unset, .unset, .unset, .unset, .unset] [(.ref b), (.ref b)])) _
    refine XS.bipush X32.here hx rfl (hb hby at_196) ?_
    show Steps p.tables e below (T32.setTop (mkF m 198 #[.val (.int p0), .val (.int p1), .val (.int p2), .val (.int p3), .unset, .unset, .unset, .unset, .unset] [(.int (30 : Int32)), (.ref b), (.ref b)])) _
    refine XS.iconst X32.here hx rfl (hb hby at_198) ?_
    show Steps p.tables e below (T32.setTop (mkF m 199 #[.val (.int p0), .val (.int p1), .val (.int p2), .val (.int p3), .unset, .unset, .unset, .unset, .unset] [(.int (0 : Int32)), (.int (30 : Int32)), (.ref b), (.ref b)])) _
    refine st36 _ ?_
    show Steps p.tables e below (T36.setTop (mkF m 200 #[.val (.int p0), .val (.int p1), .val (.int p2), .val (.int p3), .unset, .unset, .unset, .unset, .unset] [(.ref b)])) _
    refine XS.dup X36.here hx rfl (hb hby at_200) rfl rfl ?_
    show Steps p.tables e below (T36.setTop (mkF m 201 #[.val (.int p0), .val (.int p1), .val (.int p2), .val (.int p3), .unset, .unset, .unset, .unset, .unset] [(.ref b), (.ref b)])) _
    refine XS.bipush X36.here hx rfl (hb hby at_201) ?_
    show Steps p.tables e below (T36.setTop (mkF m 203 #[.val (.int p0), .val (.int p1), .val (.int p2), .val (.int p3), .unset, .unset, .unset, .unset, .unset] [(.int (31 : Int32)), (.ref b), (.ref b)])) _
    refine XS.bipush X36.here hx rfl (hb hby at_203) ?_
    show Steps p.tables e below (T36.setTop (mkF m 205 #[.val (.int p0), .val (.int p1), .val (.int p2), .val (.int p3), .unset, .unset, .unset, .unset, .unset] [(.int (58 : Int32)), (.int (31 : Int32)), (.ref b), (.ref b)])) _
    refine st40 _ ?_
    exact k)
  exact ⟨T40, _, _, _, X40, e40, N40, K42, V40, pre43⟩
set_option maxRecDepth 65536 in
set_option maxHeartbeats 40000000 in
theorem tF206 {p : Program} {l : Launch} {e : Env} {s : State} {m : MethodId} {args : Array Value} {below : List Frame} {meth : Method} {c : Code} {T0 : State} {locs0 : List Loc} {Z : State} {a0 : Array Value} (p0 : Int32) (p1 : Int32) (p2 : Int32) (p3 : Int32) (b : Addr) (f : Nat → Int32) (h0 : Heap) (n0 : Nat) (X0 : Stand p l e room_1 s m args below meth c T0 locs0 1 37) (hx : p.tables.exec = Jvm.exec) (hZ : Z.Warmed39 s.vm) (hw : ∀ d ∈ tables_1, d.before a0 Z = true) (hby : c.code = code) (hml : c.maxLocals = 9) (hown : s.vm.findClass "com/example/nodetest/nodetest/xdm/LexicalIsNameStartCharPinLaw" = some m.cls) (e0 : T0.heap = h0) (Z0 : n0 ≤ h0.size) (N0 : Fr n0 locs0) (hp0 : AI Z h0 b .int (37 : Int32) f) (hp1 : n0 ≤ b) :
    ∃ (T' : State) (h' : Heap) (locs' : List Loc) (g : Nat → Int32), Stand p l e room_1 s m args below meth c T' locs' 1 37 ∧ T'.heap = h' ∧ Fr n0 locs' ∧ Keep h0 h' [b] ∧ AI Z h' b .int (37 : Int32) g ∧ ∀ t, Steps p.tables e below (T'.setTop (mkF m 238 #[.val (.int p0), .val (.int p1), .val (.int p2), .val (.int p3), .unset, .unset, .unset, .unset, .unset] [(.ref b)])) t → Steps p.tables e below (T0.setTop (mkF m 206 #[.val (.int p0), .val (.int p1), .val (.int p2), .val (.int p3), .unset, .unset, .unset, .unset, .unset] [(.ref b)])) t := by
  have pre0 : ∀ t, Steps p.tables e below (T0.setTop (mkF m 206 #[.val (.int p0), .val (.int p1), .val (.int p2), .val (.int p3), .unset, .unset, .unset, .unset, .unset] [(.ref b)])) t → Steps p.tables e below (T0.setTop (mkF m 206 #[.val (.int p0), .val (.int p1), .val (.int p2), .val (.int p3), .unset, .unset, .unset, .unset, .unset] [(.ref b)])) t := fun t k => k
  obtain ⟨cl11, Ar11, S11, M11, I11⟩ := id hp0
  have hin11 : ¬ ((32 : Int32) < 0 ∨ cl11.slots.size ≤ ((32 : Int32)).toNatClampNeg) := inb_of S11 ⟨by decide, by decide⟩
  obtain ⟨T12, h12, X12, e12, W12, st12⟩ := stI X0 hx hZ e0 Ar11 (j := (32 : Int32)) hin11 (g := (mkF m 211 #[.val (.int p0), .val (.int p1), .val (.int p2), .val (.int p3), .unset, .unset, .unset, .unset, .unset] [(.int (96 : Int32)), (.int (32 : Int32)), (.ref b), (.ref b)])) rfl rfl (hb hby at_211)
  have V12 : AI Z h12 b .int (37 : Int32) (fun i => if i = ((32 : Int32)).toNatClampNeg then (96 : Int32) else f i) := AI.set hp0 W12
  obtain ⟨f211, hf211⟩ : ∃ z, z = (fun i => if i = ((32 : Int32)).toNatClampNeg then (96 : Int32) else f i) := ⟨_, rfl⟩
  rw [← hf211] at V12
  have Z13 : n0 ≤ h12.size := Nat.le_trans Z0 (Keep.of_wr W12).1
  have K14 : Keep h0 h12 [b] := (Keep.refl h0 [b]).wr W12 (Or.inl (List.mem_of_getElem? (i := 0) rfl))
  obtain ⟨lc12, X12, N12⟩ : ∃ lc, Stand p l e room_1 s m args below meth c T12 lc 1 37 ∧ Fr n0 lc := ⟨_, X12, Fr.snoc X12 N0 hp1⟩
  obtain ⟨cl15, Ar15, S15, M15, I15⟩ := id V12
  have hin15 : ¬ ((33 : Int32) < 0 ∨ cl15.slots.size ≤ ((33 : Int32)).toNatClampNeg) := inb_of S15 ⟨by decide, by decide⟩
  obtain ⟨T16, h16, X16, e16, W16, st16⟩ := stI X12 hx hZ e12 Ar15 (j := (33 : Int32)) hin15 (g := (mkF m 218 #[.val (.int p0), .val (.int p1), .val (.int p2), .val (.int p3), .unset, .unset, .unset, .unset, .unset] [(.int (183 : Int32)), (.int (33 : Int32)), (.ref b), (.ref b)])) rfl rfl (hb hby at_218)
  have V16 : AI Z h16 b .int (37 : Int32) (fun i => if i = ((33 : Int32)).toNatClampNeg then (183 : Int32) else f211 i) := AI.set V12 W16
  obtain ⟨f218, hf218⟩ : ∃ z, z = (fun i => if i = ((33 : Int32)).toNatClampNeg then (183 : Int32) else f211 i) := ⟨_, rfl⟩
  rw [← hf218] at V16
  have Z17 : n0 ≤ h16.size := Nat.le_trans Z13 (Keep.of_wr W16).1
  have K18 : Keep h0 h16 [b] := K14.wr W16 (Or.inl (List.mem_of_getElem? (i := 0) rfl))
  obtain ⟨lc16, X16, N16⟩ : ∃ lc, Stand p l e room_1 s m args below meth c T16 lc 1 37 ∧ Fr n0 lc := ⟨_, X16, Fr.snoc X16 N12 hp1⟩
  obtain ⟨cl19, Ar19, S19, M19, I19⟩ := id V16
  have hin19 : ¬ ((34 : Int32) < 0 ∨ cl19.slots.size ≤ ((34 : Int32)).toNatClampNeg) := inb_of S19 ⟨by decide, by decide⟩
  obtain ⟨T20, h20, X20, e20, W20, st20⟩ := stI X16 hx hZ e16 Ar19 (j := (34 : Int32)) hin19 (g := (mkF m 225 #[.val (.int p0), .val (.int p1), .val (.int p2), .val (.int p3), .unset, .unset, .unset, .unset, .unset] [(.int (8255 : Int32)), (.int (34 : Int32)), (.ref b), (.ref b)])) rfl rfl (hb hby at_225)
  have V20 : AI Z h20 b .int (37 : Int32) (fun i => if i = ((34 : Int32)).toNatClampNeg then (8255 : Int32) else f218 i) := AI.set V16 W20
  obtain ⟨f225, hf225⟩ : ∃ z, z = (fun i => if i = ((34 : Int32)).toNatClampNeg then (8255 : Int32) else f218 i) := ⟨_, rfl⟩
  rw [← hf225] at V20
  have Z21 : n0 ≤ h20.size := Nat.le_trans Z17 (Keep.of_wr W20).1
  have K22 : Keep h0 h20 [b] := K18.wr W20 (Or.inl (List.mem_of_getElem? (i := 0) rfl))
  obtain ⟨lc20, X20, N20⟩ : ∃ lc, Stand p l e room_1 s m args below meth c T20 lc 1 37 ∧ Fr n0 lc := ⟨_, X20, Fr.snoc X20 N16 hp1⟩
  obtain ⟨cl23, Ar23, S23, M23, I23⟩ := id V20
  have hin23 : ¬ ((35 : Int32) < 0 ∨ cl23.slots.size ≤ ((35 : Int32)).toNatClampNeg) := inb_of S23 ⟨by decide, by decide⟩
  obtain ⟨T24, h24, X24, e24, W24, st24⟩ := stI X20 hx hZ e20 Ar23 (j := (35 : Int32)) hin23 (g := (mkF m 231 #[.val (.int p0), .val (.int p1), .val (.int p2), .val (.int p3), .unset, .unset, .unset, .unset, .unset] [(.int (-2147483647 : Int32)), (.int (35 : Int32)), (.ref b), (.ref b)])) rfl rfl (hb hby at_231)
  have V24 : AI Z h24 b .int (37 : Int32) (fun i => if i = ((35 : Int32)).toNatClampNeg then (-2147483647 : Int32) else f225 i) := AI.set V20 W24
  obtain ⟨f231, hf231⟩ : ∃ z, z = (fun i => if i = ((35 : Int32)).toNatClampNeg then (-2147483647 : Int32) else f225 i) := ⟨_, rfl⟩
  rw [← hf231] at V24
  have Z25 : n0 ≤ h24.size := Nat.le_trans Z21 (Keep.of_wr W24).1
  have K26 : Keep h0 h24 [b] := K22.wr W24 (Or.inl (List.mem_of_getElem? (i := 0) rfl))
  obtain ⟨lc24, X24, N24⟩ : ∃ lc, Stand p l e room_1 s m args below meth c T24 lc 1 37 ∧ Fr n0 lc := ⟨_, X24, Fr.snoc X24 N20 hp1⟩
  obtain ⟨cl27, Ar27, S27, M27, I27⟩ := id V24
  have hin27 : ¬ ((36 : Int32) < 0 ∨ cl27.slots.size ≤ ((36 : Int32)).toNatClampNeg) := inb_of S27 ⟨by decide, by decide⟩
  obtain ⟨T28, h28, X28, e28, W28, st28⟩ := stI X24 hx hZ e24 Ar27 (j := (36 : Int32)) hin27 (g := (mkF m 237 #[.val (.int p0), .val (.int p1), .val (.int p2), .val (.int p3), .unset, .unset, .unset, .unset, .unset] [(.int (2147483646 : Int32)), (.int (36 : Int32)), (.ref b), (.ref b)])) rfl rfl (hb hby at_237)
  have V28 : AI Z h28 b .int (37 : Int32) (fun i => if i = ((36 : Int32)).toNatClampNeg then (2147483646 : Int32) else f231 i) := AI.set V24 W28
  obtain ⟨f237, hf237⟩ : ∃ z, z = (fun i => if i = ((36 : Int32)).toNatClampNeg then (2147483646 : Int32) else f231 i) := ⟨_, rfl⟩
  rw [← hf237] at V28
  have Z29 : n0 ≤ h28.size := Nat.le_trans Z25 (Keep.of_wr W28).1
  have K30 : Keep h0 h28 [b] := K26.wr W28 (Or.inl (List.mem_of_getElem? (i := 0) rfl))
  obtain ⟨lc28, X28, N28⟩ : ∃ lc, Stand p l e room_1 s m args below meth c T28 lc 1 37 ∧ Fr n0 lc := ⟨_, X28, Fr.snoc X28 N24 hp1⟩
  have pre31 : ∀ t, Steps p.tables e below (T28.setTop (mkF m 238 #[.val (.int p0), .val (.int p1), .val (.int p2), .val (.int p3), .unset, .unset, .unset, .unset, .unset] [(.ref b)])) t → Steps p.tables e below (T0.setTop (mkF m 206 #[.val (.int p0), .val (.int p1), .val (.int p2), .val (.int p3), .unset, .unset, .unset, .unset, .unset] [(.ref b)])) t := fun t k => pre0 t (by
    refine XS.dup X0.here hx rfl (hb hby at_206) rfl rfl ?_
    show Steps p.tables e below (T0.setTop (mkF m 207 #[.val (.int p0), .val (.int p1), .val (.int p2), .val (.int p3), .unset, .unset, .unset, .unset, .unset] [(.ref b), (.ref b)])) _
    refine XS.bipush X0.here hx rfl (hb hby at_207) ?_
    show Steps p.tables e below (T0.setTop (mkF m 209 #[.val (.int p0), .val (.int p1), .val (.int p2), .val (.int p3), .unset, .unset, .unset, .unset, .unset] [(.int (32 : Int32)), (.ref b), (.ref b)])) _
    refine XS.bipush X0.here hx rfl (hb hby at_209) ?_
    show Steps p.tables e below (T0.setTop (mkF m 211 #[.val (.int p0), .val (.int p1), .val (.int p2), .val (.int p3), .unset, .unset, .unset, .unset, .unset] [(.int (96 : Int32)), (.int (32 : Int32)), (.ref b), (.ref b)])) _
    refine st12 _ ?_
    show Steps p.tables e below (T12.setTop (mkF m 212 #[.val (.int p0), .val (.int p1), .val (.int p2), .val (.int p3), .unset, .unset, .unset, .unset, .unset] [(.ref b)])) _
    refine XS.dup X12.here hx rfl (hb hby at_212) rfl rfl ?_
    show Steps p.tables e below (T12.setTop (mkF m 213 #[.val (.int p0), .val (.int p1), .val (.int p2), .val (.int p3), .unset, .unset, .unset, .unset, .unset] [(.ref b), (.ref b)])) _
    refine XS.bipush X12.here hx rfl (hb hby at_213) ?_
    show Steps p.tables e below (T12.setTop (mkF m 215 #[.val (.int p0), .val (.int p1), .val (.int p2), .val (.int p3), .unset, .unset, .unset, .unset, .unset] [(.int (33 : Int32)), (.ref b), (.ref b)])) _
    refine XS.sipush X12.here hx rfl (hb hby at_215) ?_
    show Steps p.tables e below (T12.setTop (mkF m 218 #[.val (.int p0), .val (.int p1), .val (.int p2), .val (.int p3), .unset, .unset, .unset, .unset, .unset] [(.int (183 : Int32)), (.int (33 : Int32)), (.ref b), (.ref b)])) _
    refine st16 _ ?_
    show Steps p.tables e below (T16.setTop (mkF m 219 #[.val (.int p0), .val (.int p1), .val (.int p2), .val (.int p3), .unset, .unset, .unset, .unset, .unset] [(.ref b)])) _
    refine XS.dup X16.here hx rfl (hb hby at_219) rfl rfl ?_
    show Steps p.tables e below (T16.setTop (mkF m 220 #[.val (.int p0), .val (.int p1), .val (.int p2), .val (.int p3), .unset, .unset, .unset, .unset, .unset] [(.ref b), (.ref b)])) _
    refine XS.bipush X16.here hx rfl (hb hby at_220) ?_
    show Steps p.tables e below (T16.setTop (mkF m 222 #[.val (.int p0), .val (.int p1), .val (.int p2), .val (.int p3), .unset, .unset, .unset, .unset, .unset] [(.int (34 : Int32)), (.ref b), (.ref b)])) _
    refine XS.sipush X16.here hx rfl (hb hby at_222) ?_
    show Steps p.tables e below (T16.setTop (mkF m 225 #[.val (.int p0), .val (.int p1), .val (.int p2), .val (.int p3), .unset, .unset, .unset, .unset, .unset] [(.int (8255 : Int32)), (.int (34 : Int32)), (.ref b), (.ref b)])) _
    refine st20 _ ?_
    show Steps p.tables e below (T20.setTop (mkF m 226 #[.val (.int p0), .val (.int p1), .val (.int p2), .val (.int p3), .unset, .unset, .unset, .unset, .unset] [(.ref b)])) _
    refine XS.dup X20.here hx rfl (hb hby at_226) rfl rfl ?_
    show Steps p.tables e below (T20.setTop (mkF m 227 #[.val (.int p0), .val (.int p1), .val (.int p2), .val (.int p3), .unset, .unset, .unset, .unset, .unset] [(.ref b), (.ref b)])) _
    refine XS.bipush X20.here hx rfl (hb hby at_227) ?_
    show Steps p.tables e below (T20.setTop (mkF m 229 #[.val (.int p0), .val (.int p1), .val (.int p2), .val (.int p3), .unset, .unset, .unset, .unset, .unset] [(.int (35 : Int32)), (.ref b), (.ref b)])) _
    refine X20.ldcInt hx hown (mvT hZ (hw _ (List.mem_of_getElem? (i := 9) rfl))) (g := (mkF m 229 #[.val (.int p0), .val (.int p1), .val (.int p2), .val (.int p3), .unset, .unset, .unset, .unset, .unset] [(.int (35 : Int32)), (.ref b), (.ref b)])) rfl (hb hby at_229) _ ?_
    show Steps p.tables e below (T20.setTop (mkF m 231 #[.val (.int p0), .val (.int p1), .val (.int p2), .val (.int p3), .unset, .unset, .unset, .unset, .unset] [(.int (-2147483647 : Int32)), (.int (35 : Int32)), (.ref b), (.ref b)])) _
    refine st24 _ ?_
    show Steps p.tables e below (T24.setTop (mkF m 232 #[.val (.int p0), .val (.int p1), .val (.int p2), .val (.int p3), .unset, .unset, .unset, .unset, .unset] [(.ref b)])) _
    refine XS.dup X24.here hx rfl (hb hby at_232) rfl rfl ?_
    show Steps p.tables e below (T24.setTop (mkF m 233 #[.val (.int p0), .val (.int p1), .val (.int p2), .val (.int p3), .unset, .unset, .unset, .unset, .unset] [(.ref b), (.ref b)])) _
    refine XS.bipush X24.here hx rfl (hb hby at_233) ?_
    show Steps p.tables e below (T24.setTop (mkF m 235 #[.val (.int p0), .val (.int p1), .val (.int p2), .val (.int p3), .unset, .unset, .unset, .unset, .unset] [(.int (36 : Int32)), (.ref b), (.ref b)])) _
    refine X24.ldcInt hx hown (mvT hZ (hw _ (List.mem_of_getElem? (i := 10) rfl))) (g := (mkF m 235 #[.val (.int p0), .val (.int p1), .val (.int p2), .val (.int p3), .unset, .unset, .unset, .unset, .unset] [(.int (36 : Int32)), (.ref b), (.ref b)])) rfl (hb hby at_235) _ ?_
    show Steps p.tables e below (T24.setTop (mkF m 237 #[.val (.int p0), .val (.int p1), .val (.int p2), .val (.int p3), .unset, .unset, .unset, .unset, .unset] [(.int (2147483646 : Int32)), (.int (36 : Int32)), (.ref b), (.ref b)])) _
    refine st28 _ ?_
    exact k)
  exact ⟨T28, _, _, _, X28, e28, N28, K30, V28, pre31⟩
def Q0 (Z : State) (p0 : Int32) (p1 : Int32) (p2 : Int32) (p3 : Int32) (h0 : Heap) (n0 : Nat) (v : Option Value) (h : Heap) (L : List Loc) : Prop := v = some (.int 1) ∧ Fr n0 L
set_option maxRecDepth 65536 in
set_option maxHeartbeats 40000000 in
theorem rm0 (l : Launch) (Z : State) (a0 : Array Value) (hw : ∀ d ∈ tables_1, d.before a0 Z = true) (ws : List Jvm.Cond) (p0 : Int32) (p1 : Int32) (p2 : Int32) (p3 : Int32) (h0 : Heap) (n0 : Nat) (Z0 : n0 ≤ h0.size)  :
    MetFree l x (head1 (Jvm.Cond.code x code maxLocals ret :: ws) room_1) (fun a U => a = #[(.int p0), (.int p1), (.int p2), (.int p3)] ∧ Z.Warmed39 U.vm ∧ U.heap = h0) (fun _ _ _ _ _ => True) (fun _ U o U' => ∃ v L, o = .returned v ∧ Q0 Z p0 p1 p2 p3 h0 n0 v U'.heap L ∧ FrameEnd U o U' L room_1.cells room_1.slots) := by
  refine MetFree.of_bodySF (plainFor_of_name pn_0) hisR ?_
  intro p e s m args below meth c s₁ Bd hml0 hP hK
  obtain ⟨rfl, hZ, hh⟩ := hP
  have hx := Bd.exec
  have hby := Bd.bytes
  have hml : c.maxLocals = 9 := hml0
  have hown : s.vm.findClass "com/example/nodetest/nodetest/xdm/LexicalIsNameStartCharPinLaw" = some m.cls := findClass_of_methodNamed Bd.named
  have hnm := (name_of_methodNamed Bd.named Bd.method).1
  have X0 : Stand p l e room_1 s m #[(.int p0), (.int p1), (.int p2), (.int p3)] below meth c s₁ [] 0 0 := Stand.of_body Bd
  have e0 : s₁.heap = h0 := by rw [← hh, Bd.state]; rfl
  have N0 := Fr.nil n0
  have pre0 : ∀ t, Steps p.tables e below (s₁.setTop (mkF m 0 #[.val (.int p0), .val (.int p1), .val (.int p2), .val (.int p3), .unset, .unset, .unset, .unset, .unset] [])) t → Steps p.tables e below (s₁.setTop (entryFrame m #[(.int p0), (.int p1), (.int p2), (.int p3)] maxLocals)) t := fun t k => castTop (ef_0 m p0 p1 p2 p3) k
  obtain ⟨T11, h11, k11, X11, e11, E11, A11, st11⟩ := newP X0 hx hZ (hw _ (List.mem_of_getElem? (i := 0) rfl)) e0 (g := (mkF m 2 #[.val (.int p0), .val (.int p1), .val (.int p2), .val (.int p3), .unset, .unset, .unset, .unset, .unset] [(.int (37 : Int32))])) rfl (hb hby at_2) rfl (by decide) (cap := 37) (by decide) (by decide) (by decide) (by decide)
  obtain ⟨b11, gb11⟩ : ∃ z, z = h0.size := ⟨_, rfl⟩
  rw [← gb11] at A11 st11
  have g12 : n0 ≤ b11 := Nat.le_trans Z0 (Nat.le_of_eq gb11.symm)
  have Z13 : n0 ≤ h11.size := Nat.le_trans Z0 E11.1
  have V11 : AI Z h11 b11 .int (37 : Int32) (fun _ => (0 : Int32)) := AI.new rfl A11 (by decide)
  have pre14 : ∀ t, Steps p.tables e below (T11.setTop (mkF m 4 #[.val (.int p0), .val (.int p1), .val (.int p2), .val (.int p3), .unset, .unset, .unset, .unset, .unset] [(.ref b11)])) t → Steps p.tables e below (s₁.setTop (entryFrame m #[(.int p0), (.int p1), (.int p2), (.int p3)] maxLocals)) t := fun t k => pre0 t (by
    refine XS.bipush X0.here hx rfl (hb hby at_0) ?_
    show Steps p.tables e below (s₁.setTop (mkF m 2 #[.val (.int p0), .val (.int p1), .val (.int p2), .val (.int p3), .unset, .unset, .unset, .unset, .unset] [(.int (37 : Int32))])) _
    refine st11 _ ?_
    exact k)
  obtain ⟨T15, h15, lc15, g_15, X15, e15, N15, K15, u15_0, st15⟩ := tF4 p0 p1 p2 p3 b11 _ h11 n0 X11 hx hZ hw hby hml hown e11 Z13 N0 V11 g12
  have Z16 : n0 ≤ h15.size := Nat.le_trans Z13 K15.1
  have pre17 : ∀ t, Steps p.tables e below (T15.setTop (mkF m 49 #[.val (.int p0), .val (.int p1), .val (.int p2), .val (.int p3), .unset, .unset, .unset, .unset, .unset] [(.ref b11)])) t → Steps p.tables e below (s₁.setTop (entryFrame m #[(.int p0), (.int p1), (.int p2), (.int p3)] maxLocals)) t := fun t k => pre14 t (by
    refine st15 _ ?_
    exact k)
  obtain ⟨T18, h18, lc18, g_18, X18, e18, N18, K18, u18_0, st18⟩ := tF49 p0 p1 p2 p3 b11 _ h15 n0 X15 hx hZ hw hby hml hown e15 Z16 N15 u15_0 g12
  have Z19 : n0 ≤ h18.size := Nat.le_trans Z16 K18.1
  have pre20 : ∀ t, Steps p.tables e below (T18.setTop (mkF m 105 #[.val (.int p0), .val (.int p1), .val (.int p2), .val (.int p3), .unset, .unset, .unset, .unset, .unset] [(.ref b11)])) t → Steps p.tables e below (s₁.setTop (entryFrame m #[(.int p0), (.int p1), (.int p2), (.int p3)] maxLocals)) t := fun t k => pre17 t (by
    refine st18 _ ?_
    exact k)
  obtain ⟨T21, h21, lc21, g_21, X21, e21, N21, K21, u21_0, st21⟩ := tF105 p0 p1 p2 p3 b11 _ h18 n0 X18 hx hZ hw hby hml hown e18 Z19 N18 u18_0 g12
  have Z22 : n0 ≤ h21.size := Nat.le_trans Z19 K21.1
  have pre23 : ∀ t, Steps p.tables e below (T21.setTop (mkF m 159 #[.val (.int p0), .val (.int p1), .val (.int p2), .val (.int p3), .unset, .unset, .unset, .unset, .unset] [(.ref b11)])) t → Steps p.tables e below (s₁.setTop (entryFrame m #[(.int p0), (.int p1), (.int p2), (.int p3)] maxLocals)) t := fun t k => pre20 t (by
    refine st21 _ ?_
    exact k)
  obtain ⟨T24, h24, lc24, g_24, X24, e24, N24, K24, u24_0, st24⟩ := tF159 p0 p1 p2 p3 b11 _ h21 n0 X21 hx hZ hw hby hml hown e21 Z22 N21 u21_0 g12
  have Z25 : n0 ≤ h24.size := Nat.le_trans Z22 K24.1
  have pre26 : ∀ t, Steps p.tables e below (T24.setTop (mkF m 206 #[.val (.int p0), .val (.int p1), .val (.int p2), .val (.int p3), .unset, .unset, .unset, .unset, .unset] [(.ref b11)])) t → Steps p.tables e below (s₁.setTop (entryFrame m #[(.int p0), (.int p1), (.int p2), (.int p3)] maxLocals)) t := fun t k => pre23 t (by
    refine st24 _ ?_
    exact k)
  obtain ⟨T27, h27, lc27, g_27, X27, e27, N27, K27, u27_0, st27⟩ := tF206 p0 p1 p2 p3 b11 _ h24 n0 X24 hx hZ hw hby hml hown e24 Z25 N24 u24_0 g12
  have Z28 : n0 ≤ h27.size := Nat.le_trans Z25 K27.1
  obtain ⟨cl29, Ar29, S29, M29, I29⟩ := id u27_0
  obtain ⟨cl30, Ar30, S30, M30, I30⟩ := id u27_0
  have hin30 : ¬ (((p1 &&& (2147483647 : Int32)) % (37 : Int32)) < 0 ∨ cl30.slots.size ≤ (((p1 &&& (2147483647 : Int32)) % (37 : Int32))).toNatClampNeg) := inb_of S30 (own_idx _)
  have hat30 : cl30.slots[(((p1 &&& (2147483647 : Int32)) % (37 : Int32))).toNatClampNeg]? = some (.int (g_27 (((p1 &&& (2147483647 : Int32)) % (37 : Int32))).toNatClampNeg)) := I30 _ (Nat.lt_of_not_le fun y => hin30 (Or.inr y))
  have pre31 : ∀ t, Steps p.tables e below (T27.setTop (mkF m 270 #[.val (.int p0), .val (.int p1), .val (.int p2), .val (.int p3), .val (.ref b11), .val (.int ((p1 &&& (2147483647 : Int32)) % (37 : Int32))), .val (.int (((p2 &&& (2147483647 : Int32)) % (3 : Int32)) - (1 : Int32))), .val (.int ((g_27 (((p1 &&& (2147483647 : Int32)) % (37 : Int32))).toNatClampNeg) + (((p2 &&& (2147483647 : Int32)) % (3 : Int32)) - (1 : Int32)))), .unset] [])) t → Steps p.tables e below (s₁.setTop (entryFrame m #[(.int p0), (.int p1), (.int p2), (.int p3)] maxLocals)) t := fun t k => pre26 t (by
    refine st27 _ ?_
    show Steps p.tables e below (T27.setTop (mkF m 238 #[.val (.int p0), .val (.int p1), .val (.int p2), .val (.int p3), .unset, .unset, .unset, .unset, .unset] [(.ref b11)])) _
    refine XS.astore X27.here hx rfl (hb hby at_238) rfl rfl (l' := #[.val (.int p0), .val (.int p1), .val (.int p2), .val (.int p3), .val (.ref b11), .unset, .unset, .unset, .unset]) rfl ?_
    show Steps p.tables e below (T27.setTop (mkF m 240 #[.val (.int p0), .val (.int p1), .val (.int p2), .val (.int p3), .val (.ref b11), .unset, .unset, .unset, .unset] [])) _
    refine XS.iloadN X27.here hx rfl (hb hby at_240) rfl ?_
    show Steps p.tables e below (T27.setTop (mkF m 241 #[.val (.int p0), .val (.int p1), .val (.int p2), .val (.int p3), .val (.ref b11), .unset, .unset, .unset, .unset] [(.int p1)])) _
    refine X27.ldcInt hx hown (mvT hZ (hw _ (List.mem_of_getElem? (i := 11) rfl))) (g := (mkF m 241 #[.val (.int p0), .val (.int p1), .val (.int p2), .val (.int p3), .val (.ref b11), .unset, .unset, .unset, .unset] [(.int p1)])) rfl (hb hby at_241) _ ?_
    show Steps p.tables e below (T27.setTop (mkF m 243 #[.val (.int p0), .val (.int p1), .val (.int p2), .val (.int p3), .val (.ref b11), .unset, .unset, .unset, .unset] [(.int (2147483647 : Int32)), (.int p1)])) _
    refine XS.iand X27.here hx rfl (hb hby at_243) rfl ?_
    show Steps p.tables e below (T27.setTop (mkF m 244 #[.val (.int p0), .val (.int p1), .val (.int p2), .val (.int p3), .val (.ref b11), .unset, .unset, .unset, .unset] [(.int (p1 &&& (2147483647 : Int32)))])) _
    refine XS.aload X27.here hx rfl (hb hby at_244) rfl rfl ?_
    show Steps p.tables e below (T27.setTop (mkF m 246 #[.val (.int p0), .val (.int p1), .val (.int p2), .val (.int p3), .val (.ref b11), .unset, .unset, .unset, .unset] [(.ref b11), (.int (p1 &&& (2147483647 : Int32)))])) _
    refine X27.arraylength hx (by rw [e27]; exact Ar29.1) (State.isArrayOf_alike hZ.alike Ar29.2.1) (g := (mkF m 246 #[.val (.int p0), .val (.int p1), .val (.int p2), .val (.int p3), .val (.ref b11), .unset, .unset, .unset, .unset] [(.ref b11), (.int (p1 &&& (2147483647 : Int32)))])) rfl rfl (hb hby at_246) _ ?_
    rw [len_of S29 M29]
    show Steps p.tables e below (T27.setTop (mkF m 247 #[.val (.int p0), .val (.int p1), .val (.int p2), .val (.int p3), .val (.ref b11), .unset, .unset, .unset, .unset] [(.int (37 : Int32)), (.int (p1 &&& (2147483647 : Int32)))])) _
    refine Jvm.RoadKit.iremM X27 hx rfl (hb hby at_247) rfl (by decide) ?_
    show Steps p.tables e below (T27.setTop (mkF m 248 #[.val (.int p0), .val (.int p1), .val (.int p2), .val (.int p3), .val (.ref b11), .unset, .unset, .unset, .unset] [(.int ((p1 &&& (2147483647 : Int32)) % (37 : Int32)))])) _
    refine XS.istore X27.here hx rfl (hb hby at_248) rfl (l' := #[.val (.int p0), .val (.int p1), .val (.int p2), .val (.int p3), .val (.ref b11), .val (.int ((p1 &&& (2147483647 : Int32)) % (37 : Int32))), .unset, .unset, .unset]) rfl ?_
    show Steps p.tables e below (T27.setTop (mkF m 250 #[.val (.int p0), .val (.int p1), .val (.int p2), .val (.int p3), .val (.ref b11), .val (.int ((p1 &&& (2147483647 : Int32)) % (37 : Int32))), .unset, .unset, .unset] [])) _
    refine XS.iloadN X27.here hx rfl (hb hby at_250) rfl ?_
    show Steps p.tables e below (T27.setTop (mkF m 251 #[.val (.int p0), .val (.int p1), .val (.int p2), .val (.int p3), .val (.ref b11), .val (.int ((p1 &&& (2147483647 : Int32)) % (37 : Int32))), .unset, .unset, .unset] [(.int p2)])) _
    refine X27.ldcInt hx hown (mvT hZ (hw _ (List.mem_of_getElem? (i := 11) rfl))) (g := (mkF m 251 #[.val (.int p0), .val (.int p1), .val (.int p2), .val (.int p3), .val (.ref b11), .val (.int ((p1 &&& (2147483647 : Int32)) % (37 : Int32))), .unset, .unset, .unset] [(.int p2)])) rfl (hb hby at_251) _ ?_
    show Steps p.tables e below (T27.setTop (mkF m 253 #[.val (.int p0), .val (.int p1), .val (.int p2), .val (.int p3), .val (.ref b11), .val (.int ((p1 &&& (2147483647 : Int32)) % (37 : Int32))), .unset, .unset, .unset] [(.int (2147483647 : Int32)), (.int p2)])) _
    refine XS.iand X27.here hx rfl (hb hby at_253) rfl ?_
    show Steps p.tables e below (T27.setTop (mkF m 254 #[.val (.int p0), .val (.int p1), .val (.int p2), .val (.int p3), .val (.ref b11), .val (.int ((p1 &&& (2147483647 : Int32)) % (37 : Int32))), .unset, .unset, .unset] [(.int (p2 &&& (2147483647 : Int32)))])) _
    refine XS.iconst X27.here hx rfl (hb hby at_254) ?_
    show Steps p.tables e below (T27.setTop (mkF m 255 #[.val (.int p0), .val (.int p1), .val (.int p2), .val (.int p3), .val (.ref b11), .val (.int ((p1 &&& (2147483647 : Int32)) % (37 : Int32))), .unset, .unset, .unset] [(.int (3 : Int32)), (.int (p2 &&& (2147483647 : Int32)))])) _
    refine Jvm.RoadKit.iremM X27 hx rfl (hb hby at_255) rfl (by decide) ?_
    show Steps p.tables e below (T27.setTop (mkF m 256 #[.val (.int p0), .val (.int p1), .val (.int p2), .val (.int p3), .val (.ref b11), .val (.int ((p1 &&& (2147483647 : Int32)) % (37 : Int32))), .unset, .unset, .unset] [(.int ((p2 &&& (2147483647 : Int32)) % (3 : Int32)))])) _
    refine XS.iconst X27.here hx rfl (hb hby at_256) ?_
    show Steps p.tables e below (T27.setTop (mkF m 257 #[.val (.int p0), .val (.int p1), .val (.int p2), .val (.int p3), .val (.ref b11), .val (.int ((p1 &&& (2147483647 : Int32)) % (37 : Int32))), .unset, .unset, .unset] [(.int (1 : Int32)), (.int ((p2 &&& (2147483647 : Int32)) % (3 : Int32)))])) _
    refine XS.isub X27.here hx rfl (hb hby at_257) rfl ?_
    show Steps p.tables e below (T27.setTop (mkF m 258 #[.val (.int p0), .val (.int p1), .val (.int p2), .val (.int p3), .val (.ref b11), .val (.int ((p1 &&& (2147483647 : Int32)) % (37 : Int32))), .unset, .unset, .unset] [(.int (((p2 &&& (2147483647 : Int32)) % (3 : Int32)) - (1 : Int32)))])) _
    refine XS.istore X27.here hx rfl (hb hby at_258) rfl (l' := #[.val (.int p0), .val (.int p1), .val (.int p2), .val (.int p3), .val (.ref b11), .val (.int ((p1 &&& (2147483647 : Int32)) % (37 : Int32))), .val (.int (((p2 &&& (2147483647 : Int32)) % (3 : Int32)) - (1 : Int32))), .unset, .unset]) rfl ?_
    show Steps p.tables e below (T27.setTop (mkF m 260 #[.val (.int p0), .val (.int p1), .val (.int p2), .val (.int p3), .val (.ref b11), .val (.int ((p1 &&& (2147483647 : Int32)) % (37 : Int32))), .val (.int (((p2 &&& (2147483647 : Int32)) % (3 : Int32)) - (1 : Int32))), .unset, .unset] [])) _
    refine XS.aload X27.here hx rfl (hb hby at_260) rfl rfl ?_
    show Steps p.tables e below (T27.setTop (mkF m 262 #[.val (.int p0), .val (.int p1), .val (.int p2), .val (.int p3), .val (.ref b11), .val (.int ((p1 &&& (2147483647 : Int32)) % (37 : Int32))), .val (.int (((p2 &&& (2147483647 : Int32)) % (3 : Int32)) - (1 : Int32))), .unset, .unset] [(.ref b11)])) _
    refine XS.iload X27.here hx rfl (hb hby at_262) rfl ?_
    show Steps p.tables e below (T27.setTop (mkF m 264 #[.val (.int p0), .val (.int p1), .val (.int p2), .val (.int p3), .val (.ref b11), .val (.int ((p1 &&& (2147483647 : Int32)) % (37 : Int32))), .val (.int (((p2 &&& (2147483647 : Int32)) % (3 : Int32)) - (1 : Int32))), .unset, .unset] [(.int ((p1 &&& (2147483647 : Int32)) % (37 : Int32))), (.ref b11)])) _
    refine X27.iaload hx (j := ((p1 &&& (2147483647 : Int32)) % (37 : Int32))) (v := (.int (g_27 (((p1 &&& (2147483647 : Int32)) % (37 : Int32))).toNatClampNeg))) (by rw [e27]; exact Ar30.1) (State.isArrayOf_alike hZ.alike Ar30.2.1) Ar30.2.2 hin30 hat30 (g := (mkF m 264 #[.val (.int p0), .val (.int p1), .val (.int p2), .val (.int p3), .val (.ref b11), .val (.int ((p1 &&& (2147483647 : Int32)) % (37 : Int32))), .val (.int (((p2 &&& (2147483647 : Int32)) % (3 : Int32)) - (1 : Int32))), .unset, .unset] [(.int ((p1 &&& (2147483647 : Int32)) % (37 : Int32))), (.ref b11)])) rfl rfl (hb hby at_264) _ ?_
    show Steps p.tables e below (T27.setTop (mkF m 265 #[.val (.int p0), .val (.int p1), .val (.int p2), .val (.int p3), .val (.ref b11), .val (.int ((p1 &&& (2147483647 : Int32)) % (37 : Int32))), .val (.int (((p2 &&& (2147483647 : Int32)) % (3 : Int32)) - (1 : Int32))), .unset, .unset] [(.int (g_27 (((p1 &&& (2147483647 : Int32)) % (37 : Int32))).toNatClampNeg))])) _
    refine XS.iload X27.here hx rfl (hb hby at_265) rfl ?_
    show Steps p.tables e below (T27.setTop (mkF m 267 #[.val (.int p0), .val (.int p1), .val (.int p2), .val (.int p3), .val (.ref b11), .val (.int ((p1 &&& (2147483647 : Int32)) % (37 : Int32))), .val (.int (((p2 &&& (2147483647 : Int32)) % (3 : Int32)) - (1 : Int32))), .unset, .unset] [(.int (((p2 &&& (2147483647 : Int32)) % (3 : Int32)) - (1 : Int32))), (.int (g_27 (((p1 &&& (2147483647 : Int32)) % (37 : Int32))).toNatClampNeg))])) _
    refine XS.iadd X27.here hx rfl (hb hby at_267) rfl ?_
    show Steps p.tables e below (T27.setTop (mkF m 268 #[.val (.int p0), .val (.int p1), .val (.int p2), .val (.int p3), .val (.ref b11), .val (.int ((p1 &&& (2147483647 : Int32)) % (37 : Int32))), .val (.int (((p2 &&& (2147483647 : Int32)) % (3 : Int32)) - (1 : Int32))), .unset, .unset] [(.int ((g_27 (((p1 &&& (2147483647 : Int32)) % (37 : Int32))).toNatClampNeg) + (((p2 &&& (2147483647 : Int32)) % (3 : Int32)) - (1 : Int32))))])) _
    refine XS.istore X27.here hx rfl (hb hby at_268) rfl (l' := #[.val (.int p0), .val (.int p1), .val (.int p2), .val (.int p3), .val (.ref b11), .val (.int ((p1 &&& (2147483647 : Int32)) % (37 : Int32))), .val (.int (((p2 &&& (2147483647 : Int32)) % (3 : Int32)) - (1 : Int32))), .val (.int ((g_27 (((p1 &&& (2147483647 : Int32)) % (37 : Int32))).toNatClampNeg) + (((p2 &&& (2147483647 : Int32)) % (3 : Int32)) - (1 : Int32)))), .unset]) rfl ?_
    exact k)
  obtain ⟨near, hnear⟩ : ∃ z, z = ((g_27 (((p1 &&& (2147483647 : Int32)) % (37 : Int32))).toNatClampNeg) + (((p2 &&& (2147483647 : Int32)) % (3 : Int32)) - (1 : Int32))) := ⟨_, rfl⟩
  rw [← hnear] at pre31
  have pre32 : ∀ t, Steps p.tables e below (T27.setTop (mkF m 276 #[.val (.int p0), .val (.int p1), .val (.int p2), .val (.int p3), .val (.ref b11), .val (.int ((p1 &&& (2147483647 : Int32)) % (37 : Int32))), .val (.int (((p2 &&& (2147483647 : Int32)) % (3 : Int32)) - (1 : Int32))), .val (.int near), .val (.int (p3 &&& (2097151 : Int32)))] [])) t → Steps p.tables e below (s₁.setTop (entryFrame m #[(.int p0), (.int p1), (.int p2), (.int p3)] maxLocals)) t := fun t k => pre31 t (by
    refine XS.iloadN X27.here hx rfl (hb hby at_270) rfl ?_
    show Steps p.tables e below (T27.setTop (mkF m 271 #[.val (.int p0), .val (.int p1), .val (.int p2), .val (.int p3), .val (.ref b11), .val (.int ((p1 &&& (2147483647 : Int32)) % (37 : Int32))), .val (.int (((p2 &&& (2147483647 : Int32)) % (3 : Int32)) - (1 : Int32))), .val (.int near), .unset] [(.int p3)])) _
    refine X27.ldcInt hx hown (mvT hZ (hw _ (List.mem_of_getElem? (i := 12) rfl))) (g := (mkF m 271 #[.val (.int p0), .val (.int p1), .val (.int p2), .val (.int p3), .val (.ref b11), .val (.int ((p1 &&& (2147483647 : Int32)) % (37 : Int32))), .val (.int (((p2 &&& (2147483647 : Int32)) % (3 : Int32)) - (1 : Int32))), .val (.int near), .unset] [(.int p3)])) rfl (hb hby at_271) _ ?_
    show Steps p.tables e below (T27.setTop (mkF m 273 #[.val (.int p0), .val (.int p1), .val (.int p2), .val (.int p3), .val (.ref b11), .val (.int ((p1 &&& (2147483647 : Int32)) % (37 : Int32))), .val (.int (((p2 &&& (2147483647 : Int32)) % (3 : Int32)) - (1 : Int32))), .val (.int near), .unset] [(.int (2097151 : Int32)), (.int p3)])) _
    refine XS.iand X27.here hx rfl (hb hby at_273) rfl ?_
    show Steps p.tables e below (T27.setTop (mkF m 274 #[.val (.int p0), .val (.int p1), .val (.int p2), .val (.int p3), .val (.ref b11), .val (.int ((p1 &&& (2147483647 : Int32)) % (37 : Int32))), .val (.int (((p2 &&& (2147483647 : Int32)) % (3 : Int32)) - (1 : Int32))), .val (.int near), .unset] [(.int (p3 &&& (2097151 : Int32)))])) _
    refine XS.istore X27.here hx rfl (hb hby at_274) rfl (l' := #[.val (.int p0), .val (.int p1), .val (.int p2), .val (.int p3), .val (.ref b11), .val (.int ((p1 &&& (2147483647 : Int32)) % (37 : Int32))), .val (.int (((p2 &&& (2147483647 : Int32)) % (3 : Int32)) - (1 : Int32))), .val (.int near), .val (.int (p3 &&& (2097151 : Int32)))]) rfl ?_
    exact k)
  obtain ⟨cp, hcp⟩ : ∃ z, z = (p3 &&& (2097151 : Int32)) := ⟨_, rfl⟩
  rw [← hcp] at pre32
  obtain ⟨_, _, ⟨T33, L33, k33, n33⟩, -, X33, ⟨Lc33, hQ33, l33, y33, z33⟩, st33⟩ := Jvm.LawKit.callS X27 hx (y := (⟨"com/example/nodetest/nodetest/xdm/LexicalIsNameStartCharPinLaw", "agrees", "(I)Z"⟩ : MethodName)) hown (mvT hZ (hw _ (List.mem_of_getElem? (i := 13) rfl))) (mvT hZ (hw _ (List.mem_of_getElem? (i := 14) rfl))) (mvT hZ (hw _ (List.mem_of_getElem? (i := 15) rfl))) (mvT hZ (hw _ (List.mem_of_getElem? (i := 16) rfl))) (by decide) (backOf (W := 0) (rm1 l Z a0 hw [] p0  h27 n0 Z28 ) hZ (hw _ (List.mem_of_getElem? (i := 16) rfl)) (hw _ (List.mem_of_getElem? (i := 15) rfl)) (by decide) (by decide)) (g := (mkF m 277 #[.val (.int p0), .val (.int p1), .val (.int p2), .val (.int p3), .val (.ref b11), .val (.int ((p1 &&& (2147483647 : Int32)) % (37 : Int32))), .val (.int (((p2 &&& (2147483647 : Int32)) % (3 : Int32)) - (1 : Int32))), .val (.int near), .val (.int cp)] [(.int p0)])) rfl (by rw [hml]; rfl) (argsL := [(.int p0)]) (rest := []) (lenOf pd_0 rfl) rfl (by show 2 * 0 + _ ≤ _; exact Nat.le_of_eq rfl) (hb hby at_277) (fun _ _ => ⟨rfl, e27, (by decide : 1 + 0 ≤ _), (by decide : 37 + 0 ≤ _)⟩)
  dsimp only [Pt.U, Pt.locs, Pt.cells, Pt.slots] at X33 l33 y33 z33 st33 hQ33
  obtain ⟨rfl, Nq33, u33_0⟩ := hQ33
  obtain ⟨lc33, X33, N33⟩ : ∃ lc, Stand p l e room_1 s m #[(.int p0), (.int p1), (.int p2), (.int p3)] below meth c T33 lc 1 37 ∧ Fr n0 lc := ⟨_, (by rw [y33, z33] at X33; exact X33), (by rw [l33]; exact Fr.app N27 Nq33)⟩
  obtain ⟨_, _, ⟨T34, L34, k34, n34⟩, -, X34, ⟨Lc34, hQ34, l34, y34, z34⟩, st34⟩ := Jvm.LawKit.callS X33 hx (y := (⟨"com/example/nodetest/nodetest/xdm/LexicalIsNameStartCharPinLaw", "agrees", "(I)Z"⟩ : MethodName)) hown (mvT hZ (hw _ (List.mem_of_getElem? (i := 13) rfl))) (mvT hZ (hw _ (List.mem_of_getElem? (i := 14) rfl))) (mvT hZ (hw _ (List.mem_of_getElem? (i := 15) rfl))) (mvT hZ (hw _ (List.mem_of_getElem? (i := 16) rfl))) (by decide) (backOf (W := 0) (rm1 l Z a0 hw [] near  h27 n0 Z28 ) hZ (hw _ (List.mem_of_getElem? (i := 16) rfl)) (hw _ (List.mem_of_getElem? (i := 15) rfl)) (by decide) (by decide)) (g := (mkF m 285 #[.val (.int p0), .val (.int p1), .val (.int p2), .val (.int p3), .val (.ref b11), .val (.int ((p1 &&& (2147483647 : Int32)) % (37 : Int32))), .val (.int (((p2 &&& (2147483647 : Int32)) % (3 : Int32)) - (1 : Int32))), .val (.int near), .val (.int cp)] [(.int near)])) rfl (by rw [hml]; rfl) (argsL := [(.int near)]) (rest := []) (lenOf pd_0 rfl) rfl (by show 2 * 0 + _ ≤ _; exact Nat.le_of_eq rfl) (hb hby at_285) (fun _ _ => ⟨rfl, u33_0, (by decide : 1 + 0 ≤ _), (by decide : 37 + 0 ≤ _)⟩)
  dsimp only [Pt.U, Pt.locs, Pt.cells, Pt.slots] at X34 l34 y34 z34 st34 hQ34
  obtain ⟨rfl, Nq34, u34_0⟩ := hQ34
  obtain ⟨lc34, X34, N34⟩ : ∃ lc, Stand p l e room_1 s m #[(.int p0), (.int p1), (.int p2), (.int p3)] below meth c T34 lc 1 37 ∧ Fr n0 lc := ⟨_, (by rw [y34, z34] at X34; exact X34), (by rw [l34]; exact Fr.app N33 Nq34)⟩
  obtain ⟨_, _, ⟨T35, L35, k35, n35⟩, -, X35, ⟨Lc35, hQ35, l35, y35, z35⟩, st35⟩ := Jvm.LawKit.callS X34 hx (y := (⟨"com/example/nodetest/nodetest/xdm/LexicalIsNameStartCharPinLaw", "agrees", "(I)Z"⟩ : MethodName)) hown (mvT hZ (hw _ (List.mem_of_getElem? (i := 13) rfl))) (mvT hZ (hw _ (List.mem_of_getElem? (i := 14) rfl))) (mvT hZ (hw _ (List.mem_of_getElem? (i := 15) rfl))) (mvT hZ (hw _ (List.mem_of_getElem? (i := 16) rfl))) (by decide) (backOf (W := 0) (rm1 l Z a0 hw [] cp  h27 n0 Z28 ) hZ (hw _ (List.mem_of_getElem? (i := 16) rfl)) (hw _ (List.mem_of_getElem? (i := 15) rfl)) (by decide) (by decide)) (g := (mkF m 293 #[.val (.int p0), .val (.int p1), .val (.int p2), .val (.int p3), .val (.ref b11), .val (.int ((p1 &&& (2147483647 : Int32)) % (37 : Int32))), .val (.int (((p2 &&& (2147483647 : Int32)) % (3 : Int32)) - (1 : Int32))), .val (.int near), .val (.int cp)] [(.int cp)])) rfl (by rw [hml]; rfl) (argsL := [(.int cp)]) (rest := []) (lenOf pd_0 rfl) rfl (by show 2 * 0 + _ ≤ _; exact Nat.le_of_eq rfl) (hb hby at_293) (fun _ _ => ⟨rfl, u34_0, (by decide : 1 + 0 ≤ _), (by decide : 37 + 0 ≤ _)⟩)
  dsimp only [Pt.U, Pt.locs, Pt.cells, Pt.slots] at X35 l35 y35 z35 st35 hQ35
  obtain ⟨rfl, Nq35, u35_0⟩ := hQ35
  obtain ⟨lc35, X35, N35⟩ : ∃ lc, Stand p l e room_1 s m #[(.int p0), (.int p1), (.int p2), (.int p3)] below meth c T35 lc 1 37 ∧ Fr n0 lc := ⟨_, (by rw [y35, z35] at X35; exact X35), (by rw [l35]; exact Fr.app N34 Nq35)⟩
  obtain ⟨fs, hr, hrun, hended, hW, hsame⟩ := X35.leave (v := some (.int (1 : Int32))) (fun h => by rw [Bd.returns] at h; cases h)
  refine ⟨_, _, pre32 _ ?_, hrun, hended, _, _, rfl, ?_, ⟨_, rfl⟩, hW, hsame.mono (by decide) (by decide)⟩
  · refine XS.iloadN X27.here hx rfl (hb hby at_276) rfl ?_
    show Steps p.tables e below (T27.setTop (mkF m 277 #[.val (.int p0), .val (.int p1), .val (.int p2), .val (.int p3), .val (.ref b11), .val (.int ((p1 &&& (2147483647 : Int32)) % (37 : Int32))), .val (.int (((p2 &&& (2147483647 : Int32)) % (3 : Int32)) - (1 : Int32))), .val (.int near), .val (.int cp)] [(.int p0)])) _
    refine st33 _ ?_
    show Steps p.tables e below (T33.setTop (mkF m 280 #[.val (.int p0), .val (.int p1), .val (.int p2), .val (.int p3), .val (.ref b11), .val (.int ((p1 &&& (2147483647 : Int32)) % (37 : Int32))), .val (.int (((p2 &&& (2147483647 : Int32)) % (3 : Int32)) - (1 : Int32))), .val (.int near), .val (.int cp)] [(.int (1 : Int32))])) _
    refine XS.ifNo X33.here hx rfl (hb hby at_280) rfl ((if0 _ _).trans (feq (by decide : ¬ ((1 : Int32) = (0 : Int32)))).1) ?_
    show Steps p.tables e below (T33.setTop (mkF m 283 #[.val (.int p0), .val (.int p1), .val (.int p2), .val (.int p3), .val (.ref b11), .val (.int ((p1 &&& (2147483647 : Int32)) % (37 : Int32))), .val (.int (((p2 &&& (2147483647 : Int32)) % (3 : Int32)) - (1 : Int32))), .val (.int near), .val (.int cp)] [])) _
    refine XS.iload X33.here hx rfl (hb hby at_283) rfl ?_
    show Steps p.tables e below (T33.setTop (mkF m 285 #[.val (.int p0), .val (.int p1), .val (.int p2), .val (.int p3), .val (.ref b11), .val (.int ((p1 &&& (2147483647 : Int32)) % (37 : Int32))), .val (.int (((p2 &&& (2147483647 : Int32)) % (3 : Int32)) - (1 : Int32))), .val (.int near), .val (.int cp)] [(.int near)])) _
    refine st34 _ ?_
    show Steps p.tables e below (T34.setTop (mkF m 288 #[.val (.int p0), .val (.int p1), .val (.int p2), .val (.int p3), .val (.ref b11), .val (.int ((p1 &&& (2147483647 : Int32)) % (37 : Int32))), .val (.int (((p2 &&& (2147483647 : Int32)) % (3 : Int32)) - (1 : Int32))), .val (.int near), .val (.int cp)] [(.int (1 : Int32))])) _
    refine XS.ifNo X34.here hx rfl (hb hby at_288) rfl ((if0 _ _).trans (feq (by decide : ¬ ((1 : Int32) = (0 : Int32)))).1) ?_
    show Steps p.tables e below (T34.setTop (mkF m 291 #[.val (.int p0), .val (.int p1), .val (.int p2), .val (.int p3), .val (.ref b11), .val (.int ((p1 &&& (2147483647 : Int32)) % (37 : Int32))), .val (.int (((p2 &&& (2147483647 : Int32)) % (3 : Int32)) - (1 : Int32))), .val (.int near), .val (.int cp)] [])) _
    refine XS.iload X34.here hx rfl (hb hby at_291) rfl ?_
    show Steps p.tables e below (T34.setTop (mkF m 293 #[.val (.int p0), .val (.int p1), .val (.int p2), .val (.int p3), .val (.ref b11), .val (.int ((p1 &&& (2147483647 : Int32)) % (37 : Int32))), .val (.int (((p2 &&& (2147483647 : Int32)) % (3 : Int32)) - (1 : Int32))), .val (.int near), .val (.int cp)] [(.int cp)])) _
    refine st35 _ ?_
    show Steps p.tables e below (T35.setTop (mkF m 296 #[.val (.int p0), .val (.int p1), .val (.int p2), .val (.int p3), .val (.ref b11), .val (.int ((p1 &&& (2147483647 : Int32)) % (37 : Int32))), .val (.int (((p2 &&& (2147483647 : Int32)) % (3 : Int32)) - (1 : Int32))), .val (.int near), .val (.int cp)] [(.int (1 : Int32))])) _
    refine XS.ifNo X35.here hx rfl (hb hby at_296) rfl ((if0 _ _).trans (feq (by decide : ¬ ((1 : Int32) = (0 : Int32)))).1) ?_
    show Steps p.tables e below (T35.setTop (mkF m 299 #[.val (.int p0), .val (.int p1), .val (.int p2), .val (.int p3), .val (.ref b11), .val (.int ((p1 &&& (2147483647 : Int32)) % (37 : Int32))), .val (.int (((p2 &&& (2147483647 : Int32)) % (3 : Int32)) - (1 : Int32))), .val (.int near), .val (.int cp)] [])) _
    refine XS.iconst X35.here hx rfl (hb hby at_299) ?_
    show Steps p.tables e below (T35.setTop (mkF m 300 #[.val (.int p0), .val (.int p1), .val (.int p2), .val (.int p3), .val (.ref b11), .val (.int ((p1 &&& (2147483647 : Int32)) % (37 : Int32))), .val (.int (((p2 &&& (2147483647 : Int32)) % (3 : Int32)) - (1 : Int32))), .val (.int near), .val (.int cp)] [(.int (1 : Int32))])) _
    refine XS.goto X35.here hx rfl (pc0 := 300) (pc' := 304) rfl (hb hby at_300) (by decide) (by decide) ?_
    show Steps p.tables e below (T35.setTop (mkF m 304 #[.val (.int p0), .val (.int p1), .val (.int p2), .val (.int p3), .val (.ref b11), .val (.int ((p1 &&& (2147483647 : Int32)) % (37 : Int32))), .val (.int (((p2 &&& (2147483647 : Int32)) % (3 : Int32)) - (1 : Int32))), .val (.int near), .val (.int cp)] [(.int (1 : Int32))])) _
    exact retN X35 hx (t := .boolean) Bd.returns (by simp) (hb hby at_304) hr
  · show Q0 Z _ _ _ _ h0 n0 _ T35.heap _
    rw [u35_0]
    exact ⟨rfl, N35⟩
set_option maxRecDepth 65536 in
set_option maxHeartbeats 40000000 in
theorem comes_1 {Post : Tables → Env → Array Value → State → Outcome → State → Prop} (hpost : ∀ tb e args s v u, (limb_1_1.after args s (.returned v) u = true ∧ limb_1_2.after args s (.returned v) u = true ∧ True) → FrameEnd s (.returned v) u (Jvm.fieldLocs frame_1_writes args s ++ Jvm.arrayLocs frame_1_arrays args s ++ Jvm.staticLocs frame_1_statics s) 16 192 → Post tb e args s (.returned v) u) :
    ArmFor flags0 classFile x code maxLocals ret World_1 tables_1 room_1 Calls_1 rest_1 Pre_1 Post := by
  intro l hfl _ _ p e ha hc hk s m args below hf hA hF happ hP
  obtain ⟨hcalls, hrest, hpre⟩ := hP
  obtain ⟨-, -, -, hnamed, -, -, -, hat⟩ := (Spec.applies_iff hf).mp happ
  obtain ⟨hg, hn⟩ := and_e (Cond.before_iff.mp (show (Jvm.Cond.and given_1 narrow_1).before args s = true from hpre))
  obtain ⟨g1, g2⟩ := and_e hg
  obtain ⟨g3, g4⟩ := and_e g2
  obtain ⟨g5, g6⟩ := and_e g4
  obtain ⟨g7, g8⟩ := and_e g6
  obtain ⟨w0, w1, w2, w3, rfl⟩ : ∃ w0 w1 w2 w3 : Value, args = #[w0, w1, w2, w3] := by
    have hs : args.size = 4 := by simpa [Cond.value, given_1] using g1
    obtain ⟨L⟩ := args
    match L, hs with
    | [w0, w1, w2, w3], _ => exact ⟨w0, w1, w2, w3, rfl⟩
  have hw := fun d (hd : d ∈ tables_1) => atoms_spec (ws := Jvm.Cond.code x code maxLocals ret :: tables_1) hat d (List.mem_cons_of_mem _ hd)
  obtain ⟨i0, ei0⟩ := is_v g3
  obtain rfl : w0 = (.int i0) := Option.some.inj ei0
  obtain ⟨i1, ei1⟩ := is_v g5
  obtain rfl : w1 = (.int i1) := Option.some.inj ei1
  obtain ⟨i2, ei2⟩ := is_v g7
  obtain rfl : w2 = (.int i2) := Option.some.inj ei2
  obtain ⟨i3, ei3⟩ := is_v g8
  obtain rfl : w3 = (.int i3) := Option.some.inj ei3
  obtain ⟨n, o, h1, h2, h3, _, L, rfl, ⟨rfl, N⟩, hq⟩ := rm0 l s _ hw tables_1 i0 i1 i2 i3 s.heap s.heap.size (Nat.le_refl _) p e ha hc hk s m _ below hf ((Spec.applies_iff_loose hf).mp happ).1 ⟨rfl, State.Warmed39.refl s, rfl⟩ trivial
  refine ⟨n, _, h1, h2, h3, hpost _ _ _ _ _ _ ⟨Cond.after_iff.mpr rfl, Cond.after_iff.mpr (eq_i res_at (Term.int_eval (1)) rfl), trivial⟩ ⟨hq.1, hq.2.1, (hq.2.2.sift fun y hy => Or.inr (N y hy)).mono (by decide) (by decide)⟩⟩
theorem main_1_1 : Claimed_1_1 := comes_1 fun _ _ _ _ _ _ h hF => ⟨h.1, hF⟩
theorem main_1_2 : Claimed_1_2 := comes_1 fun _ _ _ _ _ _ h hF => ⟨h.2.1, hF⟩
end Jvm.Pilot.@@N@@
namespace Jvm.Pilot.@@N@@
open Jvm Jvm.ClassFile Sem Op Lib Jvm.Free Jvm.Stand Jvm.Pilot.@@N@@.Jvm.D
/-! MADE BY PROGRAM (witnessworld.py) out of the Statement's table words and the real class files: 9 classes; the members and pool entries that the words name. The judged class is class 1, her method 3. -/
namespace start1
open Jvm.ClassFile
def u (s : String) : CpInfo := .utf8 (stringToUtf16 s)
/-- a pool by its gaps: so many unusable entries, then the entry; so many at the end -/
def gap : Nat → List CpInfo → List CpInfo
  | 0, r => r
  | n + 1, r => .unusable :: gap n r
def poolList (es : List (Nat × CpInfo)) (last : Nat) : List CpInfo := es.foldr (fun e r => gap e.1 (e.2 :: r)) (gap last [])
def pool (es : List (Nat × CpInfo)) (last : Nat) : Array CpInfo := ⟨poolList es last⟩
def fileOf (pool : Array CpInfo) (this : Nat) (attrs : Array Attribute := #[]) (ms : Array MethodInfo := #[]) (fl : Nat := 33) (sup : Nat := 0) (ifs : Array Nat := #[]) (fds : Array FieldInfo := #[]) : ClassFile where
  minorVersion := 0
  majorVersion := 65
  constantPool := pool
  accessFlags := fl
  thisClass := this
  superClass := sup
  interfaces := ifs
  fields := fds
  methods := ms
  attributes := attrs
def plain (name : String) (sup : Option ClassId) : Class where
  name := name
  kind := .ordinary
  loader := none
  accessFlags := 33
  super := sup
  interfaces := #[]
  cf := none
  fields := #[]
  methods := #[]
  instanceTypes := #[]
  staticTypes := #[]
  resolved := #[]
  callSites := []
  init := .initialized
  statics := none
  mirror := none

def pool0 : Array CpInfo := pool [(5, u "<init>"), (0, u "()V"), (1, .class_ 10), (1, u "java/lang/Object")] 113

def k0m0 : Method := { name := "<init>", desc := "()V", sig := { parameters := [], returnType := none }, accessFlags := 1, code := none }
/-- java/lang/Object -/
def k0 : Class := { plain "java/lang/Object" none with
  accessFlags := 33
  interfaces := #[]
  cf := some (fileOf pool0 8 #[] #[{ accessFlags := 1, nameIndex := 5, descriptorIndex := 6, attributes := #[] }] 33 0 #[] #[])
  fields := #[]
  methods := #[k0m0]
  instanceTypes := #[]
  staticTypes := #[]
  resolved := Array.replicate 124 none
  statics := none }

def pool1 : Array CpInfo := pool [(2, .class_ 4), (1, u "java/lang/Object"), (0, u "<init>"), (0, u "()V"), (0, .integer 983039), (0, .integer 55296), (0, .integer 63743), (0, .integer 64976), (0, .integer 65007), (0, .integer 65534), (0, .integer 65535), (0, .methodref 15 16), (0, .class_ 17), (0, .nameAndType 18 19), (0, u "com/example/nodetest/nodetest/xdm/Lexical"), (0, u "isNameStartChar"), (0, u "(I)Z"), (0, .methodref 21 22), (0, .class_ 23), (0, .nameAndType 24 19), (0, u "com/example/nodetest/nodetest/xdm/LexicalIsNameStartCharPinLaw"), (0, u "excluded"), (0, .integer 55295), (0, .integer 63744), (0, .integer 64975), (0, .integer 65008), (0, .integer 65533), (0, .integer 65536), (0, .integer 1114111), (2, .integer 2147483649), (0, .integer 2147483646), (0, .integer 2147483647), (0, .integer 2097151), (0, .methodref 21 39), (0, .nameAndType 40 19), (0, u "agrees"), (3, u "law"), (0, u "(IIII)Z")] 4

def k1m0 : Method := { name := "<init>", desc := "()V", sig := { parameters := [], returnType := none }, accessFlags := 2, code := none }
def k1c1 : Code := { maxStack := 2, maxLocals := 1, code := method_2_code, exceptionTable := #[], attributes := #[] }
def k1m1 : Method := { name := "excluded", desc := "(I)Z", sig := { parameters := [.int], returnType := some .boolean }, accessFlags := 10, code := some k1c1 }
def k1c2 : Code := { maxStack := 2, maxLocals := 1, code := method_3_code, exceptionTable := #[], attributes := #[] }
def k1m2 : Method := { name := "agrees", desc := "(I)Z", sig := { parameters := [.int], returnType := some .boolean }, accessFlags := 10, code := some k1c2 }
def k1c3 : Code := { maxStack := 4, maxLocals := 9, code := code, exceptionTable := #[], attributes := #[] }
def k1m3 : Method := { name := "law", desc := "(IIII)Z", sig := { parameters := [.int, .int, .int, .int], returnType := some .boolean }, accessFlags := 9, code := some k1c3 }
/-- com/example/nodetest/nodetest/xdm/LexicalIsNameStartCharPinLaw -/
def k1 : Class := { plain "com/example/nodetest/nodetest/xdm/LexicalIsNameStartCharPinLaw" (some 0) with
  accessFlags := 49
  interfaces := #[]
  cf := some (fileOf pool1 21 #[] #[{ accessFlags := 2, nameIndex := 5, descriptorIndex := 6, attributes := #[] }, { accessFlags := 10, nameIndex := 24, descriptorIndex := 19, attributes := #[] }, { accessFlags := 10, nameIndex := 40, descriptorIndex := 19, attributes := #[] }, { accessFlags := 9, nameIndex := 44, descriptorIndex := 45, attributes := #[] }] 49 2 #[] #[])
  fields := #[]
  methods := #[k1m0, k1m1, k1m2, k1m3]
  instanceTypes := #[]
  staticTypes := #[]
  resolved := Array.replicate 50 none
  statics := none }

def pool2 : Array CpInfo := pool [(2, .class_ 4), (1, u "java/lang/Object"), (0, u "<init>"), (0, u "()V"), (16, .class_ 25), (1, u "com/example/nodetest/nodetest/xdm/Lexical"), (21, u "isNameStartChar"), (0, u "(I)Z"), (13, u "LANGUAGE"), (0, u "Ljava/util/regex/Pattern;"), (11, .integer 55295), (1, .integer 65533), (0, .integer 65536), (1, .integer 63744), (0, .integer 64975), (0, .integer 65008), (0, .integer 983039), (14, u "SPACE"), (0, u "Ljava/lang/String;")] 34

def k2m0 : Method := { name := "<init>", desc := "()V", sig := { parameters := [], returnType := none }, accessFlags := 2, code := none }
def k2c1 : Code := { maxStack := 2, maxLocals := 1, code := prog_70_method_9_code, exceptionTable := #[], attributes := #[] }
def k2m1 : Method := { name := "isNameStartChar", desc := "(I)Z", sig := { parameters := [.int], returnType := some .boolean }, accessFlags := 9, code := some k2c1 }
/-- com/example/nodetest/nodetest/xdm/Lexical -/
def k2 : Class := { plain "com/example/nodetest/nodetest/xdm/Lexical" (some 0) with
  accessFlags := 49
  interfaces := #[]
  cf := some (fileOf pool2 23 #[] #[{ accessFlags := 2, nameIndex := 5, descriptorIndex := 6, attributes := #[] }, { accessFlags := 9, nameIndex := 47, descriptorIndex := 48, attributes := #[] }] 49 2 #[] #[{ accessFlags := 24, nameIndex := 98, descriptorIndex := 99, attributes := #[] }, { accessFlags := 26, nameIndex := 62, descriptorIndex := 63, attributes := #[] }])
  fields := #[{ name := "SPACE", type := (.object "java/lang/String"), accessFlags := 24, slot := 0, constantValue := 0 }, { name := "LANGUAGE", type := (.object "java/util/regex/Pattern"), accessFlags := 26, slot := 1, constantValue := 0 }]
  methods := #[k2m0, k2m1]
  instanceTypes := #[]
  staticTypes := #[(.object "java/lang/String"), (.object "java/util/regex/Pattern")]
  resolved := Array.replicate 134 none
  statics := none }

def pool3 : Array CpInfo := pool [(1, u "java/lang/Cloneable"), (0, .class_ 1), (0, u "java/lang/Object"), (0, .class_ 3)] 3

/-- java/lang/Cloneable -/
def k3 : Class := { plain "java/lang/Cloneable" (some 0) with
  accessFlags := 1537
  interfaces := #[]
  cf := some (fileOf pool3 2 #[] #[] 1537 4 #[] #[])
  fields := #[]
  methods := #[]
  instanceTypes := #[]
  staticTypes := #[]
  resolved := Array.replicate 8 none
  statics := none }

def pool4 : Array CpInfo := pool [(1, u "java/io/Serializable"), (0, .class_ 1), (0, u "java/lang/Object"), (0, .class_ 3)] 3

/-- java/io/Serializable -/
def k4 : Class := { plain "java/io/Serializable" (some 0) with
  accessFlags := 1537
  interfaces := #[]
  cf := some (fileOf pool4 2 #[] #[] 1537 4 #[] #[])
  fields := #[]
  methods := #[]
  instanceTypes := #[]
  staticTypes := #[]
  resolved := Array.replicate 8 none
  statics := none }

/-- the primitive byte -/
def k5 : Class := { plain "byte" none with kind := .primitive 'B', accessFlags := 0x411 }
/-- [B -/
def k6 : Class := { plain "[B" (some 0) with kind := .array 5 .byte, interfaces := #[3, 4], accessFlags := 1041 }

/-- the primitive int -/
def k7 : Class := { plain "int" none with kind := .primitive 'I', accessFlags := 0x411 }
/-- [I -/
def k8 : Class := { plain "[I" (some 0) with kind := .array 7 .int, interfaces := #[3, 4], accessFlags := 1041 }

def heap : Heap := #[]
def classes : Array Class := #[k0, k1, k2, k3, k4, k5, k6, k7, k8]
def interned : List (Array UInt16 × Addr) := []
def slotsUsed : Nat := 0
def theMethod : MethodId := ⟨1, 3⟩
def args0 : Array Value := #[.int 5, .int 6, .int 7, .int 8]
def aboutOver (below : List Frame) : State where
  vm := { classes := classes, interned := interned.toArray }
  heap := heap
  slotsUsed := slotsUsed
  threads := #[{ frames := .invoking theMethod args0 :: below }]
def below0 : List Frame := [.native { method := ⟨0, 0⟩, args := #[] }]
def about1 : State := aboutOver below0
def p0 : Program := .bare "" "" ""
def e0 : Env := launch0.env 0 0 0
theorem w_frames : about1.frames = Frame.invoking theMethod args0 :: below0 := rfl
set_option maxRecDepth 65536 in
theorem w_args : argsFit about1.vm theMethod args0 = true := by decide +kernel
set_option maxRecDepth 65536 in
theorem w_heap : heapFits about1 = true := by decide +kernel
set_option maxRecDepth 65536 in
theorem w_runnable : about1.curStatus? = some .runnable := by decide +kernel
set_option maxRecDepth 65536 in
theorem w_alone : about1.alone = true := by decide +kernel
set_option maxRecDepth 65536 in
theorem w_named : about1.methodNamed? x = some theMethod := by decide +kernel
set_option maxRecDepth 65536 in
theorem w_hears : about1.hears theMethod below0 = true := by decide +kernel
set_option maxRecDepth 65536 in
theorem w_ripe : about1.ripe theMethod args0 below0 = true := by decide +kernel
theorem w_running : about1.status = .running := rfl
set_option maxRecDepth 65536 in
theorem w_room : about1.hasRoom e0.platform room_1 = true :=
  launch0.hasRoom_least _ room_1 (by decide +kernel) (by decide +kernel) (by decide +kernel) (by decide +kernel) (by decide +kernel) (by decide +kernel)
theorem allAtoms_all (ts : List Jvm.Cond) (a : Array Jvm.Value) (st : Jvm.State) : (allAtoms ts).before a st = ts.all (fun c => c.before a st) := by
  induction ts with
  | nil => rfl
  | cons c t ih =>
    show (Jvm.Cond.and c (allAtoms t)).before a st = _
    rw [Jvm.Cond.before_and, ih, List.all_cons]
def words1 : List Jvm.Cond := Jvm.Cond.code x code maxLocals ret :: tables_1
/-- a 'code' word, met by the world's own term for the bytes: nothing is compared byte by byte -/
theorem code_word {y : MethodName} {bytes : ByteArray} {mx : Nat} {rt : Option FieldType} {a : Array Value} {s : State} {m : MethodId} {meth : Method} {c : Code} (h1 : s.methodNamed? y = some m) (h2 : s.vm.method? m = some meth) (h3 : meth.code = some c) (h4 : c.code = bytes)
    (h5 : (c.maxLocals == mx && c.exceptionTable.isEmpty && decide (c.maxStack ≤ mostOperands) && decide (meth.sig.returnType = rt) && !meth.locks && decide (parseMethodDescriptor y.desc = some meth.sig)) = true) : (Jvm.Cond.code y bytes mx rt).before a s = true := by
  simp only [Bool.and_eq_true, beq_iff_eq, Bool.not_eq_true', decide_eq_true_eq] at h5
  obtain ⟨⟨⟨⟨⟨g1, g2⟩, g3⟩, g4⟩, g5⟩, g6⟩ := h5
  simp [Cond.before, Cond.holds, Cond.value, h1, h2, h3, h4, g1, g2, g3, g4, g5, g6]
def isCode : Jvm.Cond → Bool
  | .code _ _ _ _ => true
  | _ => false
theorem all_split {L : List Jvm.Cond} {P : Jvm.Cond → Bool} (h1 : L.all (fun c => isCode c || P c) = true) (h2 : ∀ c ∈ L.filter isCode, P c = true) : L.all P = true := by
  refine List.all_eq_true.mpr fun c hc => ?_
  have h := List.all_eq_true.mp h1 c hc
  rcases Bool.eq_false_or_eq_true (isCode c) with hi | hi
  · exact h2 c (List.mem_filter.mpr ⟨hc, hi⟩)
  · simpa [hi] using h
set_option maxRecDepth 65536 in
theorem w_c0 : (Jvm.Cond.code x code maxLocals ret).before args0 about1 = true := code_word (m := ⟨1, 3⟩) (meth := k1m3) (c := k1c3) (by decide +kernel) rfl rfl rfl (by decide +kernel)
set_option maxRecDepth 65536 in
theorem w_c1 : (Jvm.Cond.code ({ cls := "com/example/nodetest/nodetest/xdm/LexicalIsNameStartCharPinLaw", name := "agrees", desc := "(I)Z" } : Jvm.MethodName) method_3_code (1 : Nat) (Option.some Jvm.ClassFile.FieldType.boolean)).before args0 about1 = true := code_word (m := ⟨1, 2⟩) (meth := k1m2) (c := k1c2) (by decide +kernel) rfl rfl rfl (by decide +kernel)
set_option maxRecDepth 65536 in
theorem w_c2 : (Jvm.Cond.code ({ cls := "com/example/nodetest/nodetest/xdm/Lexical", name := "isNameStartChar", desc := "(I)Z" } : Jvm.MethodName) prog_70_method_9_code (1 : Nat) (Option.some Jvm.ClassFile.FieldType.boolean)).before args0 about1 = true := code_word (m := ⟨2, 1⟩) (meth := k2m1) (c := k2c1) (by decide +kernel) rfl rfl rfl (by decide +kernel)
set_option maxRecDepth 65536 in
theorem w_c3 : (Jvm.Cond.code ({ cls := "com/example/nodetest/nodetest/xdm/LexicalIsNameStartCharPinLaw", name := "excluded", desc := "(I)Z" } : Jvm.MethodName) method_2_code (1 : Nat) (Option.some Jvm.ClassFile.FieldType.boolean)).before args0 about1 = true := code_word (m := ⟨1, 1⟩) (meth := k1m1) (c := k1c1) (by decide +kernel) rfl rfl rfl (by decide +kernel)
def codes1 : List Jvm.Cond := [Jvm.Cond.code x code maxLocals ret, Jvm.Cond.code ({ cls := "com/example/nodetest/nodetest/xdm/LexicalIsNameStartCharPinLaw", name := "agrees", desc := "(I)Z" } : Jvm.MethodName) method_3_code (1 : Nat) (Option.some Jvm.ClassFile.FieldType.boolean), Jvm.Cond.code ({ cls := "com/example/nodetest/nodetest/xdm/Lexical", name := "isNameStartChar", desc := "(I)Z" } : Jvm.MethodName) prog_70_method_9_code (1 : Nat) (Option.some Jvm.ClassFile.FieldType.boolean), Jvm.Cond.code ({ cls := "com/example/nodetest/nodetest/xdm/LexicalIsNameStartCharPinLaw", name := "excluded", desc := "(I)Z" } : Jvm.MethodName) method_2_code (1 : Nat) (Option.some Jvm.ClassFile.FieldType.boolean)]
set_option maxRecDepth 65536 in
theorem codes_eq : words1.filter isCode = codes1 := rfl
theorem w_codes : ∀ c ∈ words1.filter isCode, c.before args0 about1 = true := by
  rw [codes_eq]
  intro c hc
  simp only [codes1, List.mem_cons, List.not_mem_nil, or_false] at hc
  rcases hc with rfl | rfl | rfl | rfl
  · exact w_c0
  · exact w_c1
  · exact w_c2
  · exact w_c3
set_option maxRecDepth 65536 in
theorem w_t1 : (words1.take 24).all (fun c => isCode c || c.before args0 about1) = true := by decide +kernel
set_option maxRecDepth 65536 in
theorem w_t2 : (words1.drop 24).all (fun c => isCode c || c.before args0 about1) = true := by decide +kernel
theorem w_tables : (allAtoms (Jvm.Cond.code x code maxLocals ret :: tables_1)).before args0 about1 = true := by
  rw [allAtoms_all]
  show words1.all (fun c => c.before args0 about1) = true
  refine all_split ?_ w_codes
  rw [← List.take_append_drop 24 words1, List.all_append, w_t1, w_t2]
  rfl
set_option maxRecDepth 65536 in
theorem w_case : (Jvm.Cond.and given_1 narrow_1).before args0 about1 = true := by decide +kernel
theorem w_applies : (headSpec (Jvm.Cond.code x code maxLocals ret :: tables_1) room_1).applies x e0.platform about1 = true :=
  (Spec.applies_iff w_frames).mpr ⟨w_running, w_runnable, w_alone, w_named, w_hears, w_ripe, w_room, w_tables⟩
theorem atStart : AtStart classFile x code maxLocals ret World_1 tables_1 room_1 Calls_1 rest_1 Pre_1 launch0 p0 e0 about1 theMethod args0 below0 :=
  ⟨lists_1, trivial, launch0.admits_env _ _ _, launch0.least_env, fairChoices_fair.cas, fairChoices_fair.clock, w_frames, w_args, w_heap, w_applies, trivial, trivial, w_case⟩
end start1
theorem witness_1 : WitnessClaimed_1 := ⟨start1.p0, start1.e0, start1.about1, start1.theMethod, start1.args0, start1.below0, start1.atStart⟩
end Jvm.Pilot.@@N@@
