import JvmDerived
import JvmDerived.Pilot.@@N@@Statement
import JvmDerived.Pilot.@@N@@Code
set_option linter.unusedVariables false
set_option linter.unusedSimpArgs false
namespace Jvm.Pilot.@@N@@
open Jvm Jvm.ClassFile Sem Op Lib Jvm.Free Jvm.Stand Jvm.LawKit Jvm.RoadKit Bundle Jvm.Pilot.@@N@@.Jvm.D

def AI (Z : State) (h : Heap) (a : Addr) (ty : FieldType) (z : Int32) (f : Nat → Int32) : Prop := ∃ c : Cell, Arr Z h a c ty ∧ c.slots.size = z.toNatClampNeg ∧ ¬ z < 0 ∧ ∀ i, i < c.slots.size → c.slots[i]? = some (.int (f i))
def AL (Z : State) (h : Heap) (a : Addr) (z : Int32) (f : Nat → Int64) : Prop := ∃ c : Cell, Arr Z h a c .long ∧ c.slots.size = z.toNatClampNeg ∧ ¬ z < 0 ∧ ∀ i, i < c.slots.size → c.slots[i]? = some (.long (f i))
section Own
variable {Z : State} {h h' : Heap} {a b : Addr} {k : ClassId} {ty : FieldType} {z : Int32} {f : Nat → Int32} {fl : Nat → Int64} {sl : Nat} {v : Value} {ws : List Addr}
theorem AI.lt (F : AI Z h a ty z f) : a < h.size := by obtain ⟨c, A, -⟩ := F; exact A.lt
theorem AL.lt (F : AL Z h a z fl) : a < h.size := by obtain ⟨c, A, -⟩ := F; exact A.lt
theorem AI.ext (F : AI Z h a ty z f) (E : Ext h h') : AI Z h' a ty z f := by obtain ⟨c, A, r⟩ := F; exact ⟨c, A.ext E, r⟩
theorem AL.ext (F : AL Z h a z fl) (E : Ext h h') : AL Z h' a z fl := by obtain ⟨c, A, r⟩ := F; exact ⟨c, A.ext E, r⟩
theorem AI.other (F : AI Z h b ty z f) (W : Wr h h' a sl v) (q : b ≠ a) : AI Z h' b ty z f := by obtain ⟨c, A, r⟩ := F; exact ⟨c, A.other W q, r⟩
theorem AL.other (F : AL Z h b z fl) (W : Wr h h' a sl v) (q : b ≠ a) : AL Z h' b z fl := by obtain ⟨c, A, r⟩ := F; exact ⟨c, A.other W q, r⟩
theorem AI.keep (F : AI Z h a ty z f) (K : Keep h h' ws) (q : a ∉ ws) : AI Z h' a ty z f := by obtain ⟨c, A, r⟩ := F; exact ⟨c, ⟨K.2.1 a c A.1 q, A.2⟩, r⟩
theorem AL.keep (F : AL Z h a z fl) (K : Keep h h' ws) (q : a ∉ ws) : AL Z h' a z fl := by obtain ⟨c, A, r⟩ := F; exact ⟨c, ⟨K.2.1 a c A.1 q, A.2⟩, r⟩
theorem AI.new (hd : defaultValue ty = .int 0) (A : Arr Z h a (newA k ty z) ty) (q : ¬ z < 0) : AI Z h a ty z (fun _ => (0 : Int32)) := ⟨_, A, by simp [newA], q, fun i hi => by
  have hi' : i < z.toNatClampNeg := by simpa [newA] using hi
  simp [newA, hi', hd]⟩
theorem AL.new (A : Arr Z h a (newA k .long z) .long) (q : ¬ z < 0) : AL Z h a z (fun _ => (0 : Int64)) := ⟨_, A, by simp [newA], q, fun i hi => by
  have hi' : i < z.toNatClampNeg := by simpa [newA] using hi
  simp [newA, hi', defaultValue]⟩
theorem AI.set {j : Nat} {x : Int32} (F : AI Z h a ty z f) (W : Wr h h' a j (.int x)) : AI Z h' a ty z (fun i => if i = j then x else f i) := by
  obtain ⟨c, A, S, q, H⟩ := F
  refine ⟨_, A.same W, by simpa [Cell.setSlot] using S, q, fun i hi => ?_⟩
  have hi' : i < c.slots.size := by simpa [Cell.setSlot] using hi
  by_cases e : i = j
  · subst e; simp [Cell.setSlot, hi']
  · have e' : ¬ j = i := fun q => e q.symm
    simp only [Cell.setSlot, if_neg e]; rw [Array.getElem?_setIfInBounds_ne e']; exact H i hi'
theorem AL.set {j : Nat} {x : Int64} (F : AL Z h a z fl) (W : Wr h h' a j (.long x)) : AL Z h' a z (fun i => if i = j then x else fl i) := by
  obtain ⟨c, A, S, q, H⟩ := F
  refine ⟨_, A.same W, by simpa [Cell.setSlot] using S, q, fun i hi => ?_⟩
  have hi' : i < c.slots.size := by simpa [Cell.setSlot] using hi
  by_cases e : i = j
  · subst e; simp [Cell.setSlot, hi']
  · have e' : ¬ j = i := fun q => e q.symm
    simp only [Cell.setSlot, if_neg e]; rw [Array.getElem?_setIfInBounds_ne e']; exact H i hi'
end Own
section Copy
variable {p : Program} {l : Launch} {e : Env} {R : Room} {s : State} {m : MethodId} {args : Array Value} {below : List Frame} {meth : Method} {c : Code} {T : State} {locs : List Loc} {cells slots : Nat} {Z : State} {a0 : Array Value} {h : Heap}
theorem own_getD {f : Nat → Int32} {n i : Nat} (hi : i < n) : ((List.range n).map (fun i => Value.int (f i))).getD i (.int 0) = .int (f i) := by
  simp [List.getD_eq_getElem?_getD, hi]
theorem own_arv {a : Addr} {ty : FieldType} {z : Int32} {f : Nat → Int32} (F : AI Z h a ty z f) (hf : ∀ i, fits ty (.int (f i)) = true) : ∃ k, Arv Z h a k ty z ((List.range z.toNatClampNeg).map (fun i => Value.int (f i))) (.int 0) := by
  obtain ⟨c, A, S, M, I⟩ := F
  refine ⟨c.cls, c, A, rfl, S, M, fun k hk => ?_, fun i hi => ?_⟩
  · rw [own_getD (by rw [← S]; exact hk)]; exact I k hk
  · rw [own_getD (by rw [← S]; exact hi)]; exact hf i
theorem own_back {a : Addr} {k : ClassId} {ty : FieldType} {z : Int32} {f : Nat → Int32} {vs : List Value} {dv : Value} (F : Arv Z h a k ty z vs dv) (q : ∀ i, i < z.toNatClampNeg → vs.getD i dv = .int (f i)) : AI Z h a ty z f := by
  obtain ⟨c, A, -, S, M, H, -⟩ := F
  exact ⟨c, A, S, M, fun i hi => by rw [H i hi, q i (by rw [← S]; exact hi)]⟩
theorem own_copy (X : Stand p l e R s m args below meth c T locs cells slots) (hx : p.tables.exec = Jvm.exec) (hZ : Z.Warmed39 s.vm) {own : String} {index : Nat} (hown : s.vm.findClass own = some m.cls)
    (w1 : (Jvm.Cond.methodLink own index Jvm.Stand.acN).before a0 Z = true) (w2 : (Jvm.Cond.native Jvm.Stand.acN).before a0 Z = true) (w3 : (Jvm.Cond.static Jvm.Stand.acN).before a0 Z = true) (w4 : (Jvm.Cond.initialized "java/lang/System").before a0 Z = true) (eT : T.heap = h)
    {a b : Addr} {z z' sp dp nn : Int32} {f g0 : Nat → Int32} (A : AI Z h a .byte z f) (B : AI Z h b .byte z' g0) (Af : ∀ i, fits .byte (.int (f i)) = true) (Bf : ∀ i, fits .byte (.int (g0 i)) = true)
    (h1 : ¬ sp < 0) (h2 : ¬ dp < 0) (h3 : ¬ nn < 0) (h4 : sp.toNatClampNeg + nn.toNatClampNeg ≤ z.toNatClampNeg) (h5 : dp.toNatClampNeg + nn.toNatClampNeg ≤ z'.toNatClampNeg) {n0 : Nat} (N : Fr n0 locs) (ge : n0 ≤ b)
    {g : JFrame} (hg : g.method = m) (hsize : g.locals.size = c.maxLocals) {rest : List Value} (hs : g.stack = .int nn :: .int dp :: .ref b :: .int sp :: .ref a :: rest) (hd : decode c.code g.pc = .ok (.invokestatic index, 3))
    (hf : 1 ≤ R.frames) {W : Nat} (hW : 2 * g.monitorRoom + (rest.map fun v => v.category).sum ≤ W) (hlo : W + (nativeFrameWords "java/lang/System" "arraycopy" 5 + 11) ≤ R.locals) :
    ∃ T' h' L, Stand p l e R s m args below meth c T' L cells slots ∧ T'.heap = h' ∧ Fr n0 L ∧ Keep h h' [b] ∧ AI Z h' b .byte z' (fun i => if dp.toNatClampNeg ≤ i ∧ i < dp.toNatClampNeg + nn.toNatClampNeg then f (sp.toNatClampNeg + (i - dp.toNatClampNeg)) else g0 i) ∧
      ∀ target, Steps p.tables e below (T'.setTop { g with pc := g.pc + 3, stack := rest }) target → Steps p.tables e below (T.setTop g) target := by
  obtain ⟨k, A'⟩ := own_arv A Af
  obtain ⟨k', B'⟩ := own_arv B Bf
  obtain ⟨T', h', L, X', e', N', K', V', st⟩ := cpA X hx hZ hown w1 w2 w3 w4 eT A' B' (Or.inl ⟨rfl, rfl⟩) h1 h2 h3 h4 h5 rfl (by simpa using h5) N ge hg hsize hs hd hf hW hlo
  refine ⟨T', h', L, X', e', N', K', own_back V' fun i hi => ?_, st⟩
  generalize z'.toNatClampNeg = n' at *
  generalize z.toNatClampNeg = n at *
  generalize dp.toNatClampNeg = d at *
  generalize nn.toNatClampNeg = k at *
  generalize sp.toNatClampNeg = q at *
  rw [List.getD_eq_getElem?_getD]
  by_cases c1 : i < d
  · rw [if_neg (by omega), List.append_assoc, List.getElem?_append_left (by simp; omega)]
    simp [c1, hi]
  · by_cases c2 : i < d + k
    · rw [if_pos ⟨by omega, c2⟩, List.getElem?_append_left (by simp; omega), List.getElem?_append_right (by simp; omega)]
      have e1 : i - min d n' = i - d := by omega
      have e2 : i - d < k := by omega
      have e3 : q + (i - d) < n := by omega
      simp [e1, e2, e3]
    · rw [if_neg (by omega), List.getElem?_append_right (by simp; omega)]
      have e1 : d + k + (i - (min d n' + k)) = i := by omega
      simp [e1, hi]
end Copy
theorem d2_0 : decode jdk_33_method_47_code 0 = .ok (.iload_n 0, 1) := by decide +kernel
theorem d2_1 : decode jdk_33_method_47_code 1 = .ok (.ifCond .gt 14, 3) := by decide +kernel
theorem d2_4 : decode jdk_33_method_47_code 4 = .ok (.iload_n 0, 1) := by decide +kernel
theorem d2_5 : decode jdk_33_method_47_code 5 = .ok (.ifCond .ne 8, 3) := by decide +kernel
theorem d2_8 : decode jdk_33_method_47_code 8 = .ok (.bipush 32, 2) := by decide +kernel
theorem d2_10 : decode jdk_33_method_47_code 10 = .ok (.goto 4, 3) := by decide +kernel
theorem d2_13 : decode jdk_33_method_47_code 13 = .ok (.iconst 0, 1) := by decide +kernel
theorem d2_14 : decode jdk_33_method_47_code 14 = .ok (.ireturn, 1) := by decide +kernel
theorem d2_15 : decode jdk_33_method_47_code 15 = .ok (.bipush 31, 2) := by decide +kernel
theorem d2_17 : decode jdk_33_method_47_code 17 = .ok (.istore_n 1, 1) := by decide +kernel
theorem d2_18 : decode jdk_33_method_47_code 18 = .ok (.iload_n 0, 1) := by decide +kernel
theorem d2_19 : decode jdk_33_method_47_code 19 = .ok (.ldc_w 264, 3) := by decide +kernel
theorem d2_22 : decode jdk_33_method_47_code 22 = .ok (.if_icmp .lt 11, 3) := by decide +kernel
theorem d2_25 : decode jdk_33_method_47_code 25 = .ok (.iinc 1 (-16), 3) := by decide +kernel
theorem d2_28 : decode jdk_33_method_47_code 28 = .ok (.iload_n 0, 1) := by decide +kernel
theorem d2_29 : decode jdk_33_method_47_code 29 = .ok (.bipush 16, 2) := by decide +kernel
theorem d2_31 : decode jdk_33_method_47_code 31 = .ok (.iushr, 1) := by decide +kernel
theorem d2_32 : decode jdk_33_method_47_code 32 = .ok (.istore_n 0, 1) := by decide +kernel
theorem d2_33 : decode jdk_33_method_47_code 33 = .ok (.iload_n 0, 1) := by decide +kernel
theorem d2_34 : decode jdk_33_method_47_code 34 = .ok (.sipush 256, 3) := by decide +kernel
theorem d2_37 : decode jdk_33_method_47_code 37 = .ok (.if_icmp .lt 11, 3) := by decide +kernel
theorem d2_40 : decode jdk_33_method_47_code 40 = .ok (.iinc 1 (-8), 3) := by decide +kernel
theorem d2_43 : decode jdk_33_method_47_code 43 = .ok (.iload_n 0, 1) := by decide +kernel
theorem d2_44 : decode jdk_33_method_47_code 44 = .ok (.bipush 8, 2) := by decide +kernel
theorem d2_46 : decode jdk_33_method_47_code 46 = .ok (.iushr, 1) := by decide +kernel
theorem d2_47 : decode jdk_33_method_47_code 47 = .ok (.istore_n 0, 1) := by decide +kernel
theorem d2_48 : decode jdk_33_method_47_code 48 = .ok (.iload_n 0, 1) := by decide +kernel
theorem d2_49 : decode jdk_33_method_47_code 49 = .ok (.bipush 16, 2) := by decide +kernel
theorem d2_51 : decode jdk_33_method_47_code 51 = .ok (.if_icmp .lt 10, 3) := by decide +kernel
theorem d2_54 : decode jdk_33_method_47_code 54 = .ok (.iinc 1 (-4), 3) := by decide +kernel
theorem d2_57 : decode jdk_33_method_47_code 57 = .ok (.iload_n 0, 1) := by decide +kernel
theorem d2_58 : decode jdk_33_method_47_code 58 = .ok (.iconst 4, 1) := by decide +kernel
theorem d2_59 : decode jdk_33_method_47_code 59 = .ok (.iushr, 1) := by decide +kernel
theorem d2_60 : decode jdk_33_method_47_code 60 = .ok (.istore_n 0, 1) := by decide +kernel
theorem d2_61 : decode jdk_33_method_47_code 61 = .ok (.iload_n 0, 1) := by decide +kernel
theorem d2_62 : decode jdk_33_method_47_code 62 = .ok (.iconst 4, 1) := by decide +kernel
theorem d2_63 : decode jdk_33_method_47_code 63 = .ok (.if_icmp .lt 10, 3) := by decide +kernel
theorem d2_66 : decode jdk_33_method_47_code 66 = .ok (.iinc 1 (-2), 3) := by decide +kernel
theorem d2_69 : decode jdk_33_method_47_code 69 = .ok (.iload_n 0, 1) := by decide +kernel
theorem d2_70 : decode jdk_33_method_47_code 70 = .ok (.iconst 2, 1) := by decide +kernel
theorem d2_71 : decode jdk_33_method_47_code 71 = .ok (.iushr, 1) := by decide +kernel
theorem d2_72 : decode jdk_33_method_47_code 72 = .ok (.istore_n 0, 1) := by decide +kernel
theorem d2_73 : decode jdk_33_method_47_code 73 = .ok (.iload_n 1, 1) := by decide +kernel
theorem d2_74 : decode jdk_33_method_47_code 74 = .ok (.iload_n 0, 1) := by decide +kernel
theorem d2_75 : decode jdk_33_method_47_code 75 = .ok (.iconst 1, 1) := by decide +kernel
theorem d2_76 : decode jdk_33_method_47_code 76 = .ok (.iushr, 1) := by decide +kernel
theorem d2_77 : decode jdk_33_method_47_code 77 = .ok (.isub, 1) := by decide +kernel
theorem d2_78 : decode jdk_33_method_47_code 78 = .ok (.ireturn, 1) := by decide +kernel
theorem pn_2 : plainName "java/lang/Integer" = true := by first | (simp [plainName, overriddenIn]; done) | decide +kernel
theorem ef_2 (m : MethodId) (p0 : Int32) : entryFrame m #[(.int p0)] 2 = mkF m 0 #[.val (.int p0), .unset] [] := by first | (simp [entryFrame, mkF, argsToLocals, Value.category]; done) | rfl
def b2_61 (i0 : Int32) (i1 : Int32) : Int32 := (if i0 < (4 : Int32) then (i1 - ((i0.toUInt32 >>> ((1 : Int32) &&& 31).toUInt32).toInt32)) else ((i1 + (-2 : Int32)) - ((((i0.toUInt32 >>> ((2 : Int32) &&& 31).toUInt32).toInt32).toUInt32 >>> ((1 : Int32) &&& 31).toUInt32).toInt32)))
set_option maxRecDepth 65536 in
set_option maxHeartbeats 40000000 in
theorem bl2_61 {p : Program} {l : Launch} {e : Env} {R : Room} {s : State} {m : MethodId} {args : Array Value} {below : List Frame} {meth : Method} {c : Code} {T : State} {locs : List Loc} {cells slots : Nat} {Z : State} {a0 : Array Value} (i0 : Int32) (i1 : Int32) (X0 : Stand p l e R s m args below meth c T locs cells slots) (hx : p.tables.exec = Jvm.exec) (hZ : Z.Warmed39 s.vm) (hw : ∀ d ∈ tables_1, d.before a0 Z = true) (hby : c.code = jdk_33_method_47_code) (hown : s.vm.findClass "java/lang/Integer" = some m.cls) (hrt : meth.sig.returnType = some .int) {fs : List Frame} (hr : ∀ (f : JFrame) (acts : List Action), f.method = m → f.locked = none → f.entered = [] → (doReturn e (T.setTop f) acts (some (.int (b2_61 i0 i1)))).1 = T.setFrames fs) :
    Steps p.tables e below (T.setTop (mkF m 61 #[.val (.int i0), .val (.int i1)] [])) (T.setFrames fs) := by
  refine XS.iloadN X0.here hx rfl (hb hby d2_61) rfl ?_
  show Steps p.tables e below (T.setTop (mkF m 62 #[.val (.int i0), .val (.int i1)] [(.int i0)])) _
  refine XS.iconst X0.here hx rfl (hb hby d2_62) ?_
  show Steps p.tables e below (T.setTop (mkF m 63 #[.val (.int i0), .val (.int i1)] [(.int (4 : Int32)), (.int i0)])) _
  by_cases hc0 : i0 < (4 : Int32)
  · rw [show b2_61 i0 i1 = (i1 - ((i0.toUInt32 >>> ((1 : Int32) &&& 31).toUInt32).toInt32)) from by rw [b2_61, if_pos hc0]] at hr
    refine XS.icmpYes X0.here hx rfl (pc0 := 63) (pc' := 73) rfl (hb hby d2_63) rfl (tlt hc0).1 (by decide) (by decide) ?_
    show Steps p.tables e below (T.setTop (mkF m 73 #[.val (.int i0), .val (.int i1)] [])) _
    refine XS.iloadN X0.here hx rfl (hb hby d2_73) rfl ?_
    show Steps p.tables e below (T.setTop (mkF m 74 #[.val (.int i0), .val (.int i1)] [(.int i1)])) _
    refine XS.iloadN X0.here hx rfl (hb hby d2_74) rfl ?_
    show Steps p.tables e below (T.setTop (mkF m 75 #[.val (.int i0), .val (.int i1)] [(.int i0), (.int i1)])) _
    refine XS.iconst X0.here hx rfl (hb hby d2_75) ?_
    show Steps p.tables e below (T.setTop (mkF m 76 #[.val (.int i0), .val (.int i1)] [(.int (1 : Int32)), (.int i0), (.int i1)])) _
    refine XS.iushr X0.here hx rfl (hb hby d2_76) rfl ?_
    show Steps p.tables e below (T.setTop (mkF m 77 #[.val (.int i0), .val (.int i1)] [(.int ((i0.toUInt32 >>> ((1 : Int32) &&& 31).toUInt32).toInt32)), (.int i1)])) _
    refine XS.isub X0.here hx rfl (hb hby d2_77) rfl ?_
    show Steps p.tables e below (T.setTop (mkF m 78 #[.val (.int i0), .val (.int i1)] [(.int (i1 - ((i0.toUInt32 >>> ((1 : Int32) &&& 31).toUInt32).toInt32)))])) _
    exact retOut X0 hx hrt rfl (Or.inl ⟨rfl, Or.inl rfl, _, rfl⟩) (hb hby d2_78) hr
  · rw [show b2_61 i0 i1 = ((i1 + (-2 : Int32)) - ((((i0.toUInt32 >>> ((2 : Int32) &&& 31).toUInt32).toInt32).toUInt32 >>> ((1 : Int32) &&& 31).toUInt32).toInt32)) from by rw [b2_61, if_neg hc0]] at hr
    refine XS.icmpNo X0.here hx rfl (hb hby d2_63) rfl (flt hc0).1 ?_
    show Steps p.tables e below (T.setTop (mkF m 66 #[.val (.int i0), .val (.int i1)] [])) _
    refine XS.iinc X0.here hx rfl (hb hby d2_66) rfl (l' := #[.val (.int i0), .val (.int (i1 + (-2 : Int32)))]) rfl ?_
    show Steps p.tables e below (T.setTop (mkF m 69 #[.val (.int i0), .val (.int (i1 + (-2 : Int32)))] [])) _
    refine XS.iloadN X0.here hx rfl (hb hby d2_69) rfl ?_
    show Steps p.tables e below (T.setTop (mkF m 70 #[.val (.int i0), .val (.int (i1 + (-2 : Int32)))] [(.int i0)])) _
    refine XS.iconst X0.here hx rfl (hb hby d2_70) ?_
    show Steps p.tables e below (T.setTop (mkF m 71 #[.val (.int i0), .val (.int (i1 + (-2 : Int32)))] [(.int (2 : Int32)), (.int i0)])) _
    refine XS.iushr X0.here hx rfl (hb hby d2_71) rfl ?_
    show Steps p.tables e below (T.setTop (mkF m 72 #[.val (.int i0), .val (.int (i1 + (-2 : Int32)))] [(.int ((i0.toUInt32 >>> ((2 : Int32) &&& 31).toUInt32).toInt32))])) _
    refine XS.istoreN X0.here hx rfl (hb hby d2_72) rfl (l' := #[.val (.int ((i0.toUInt32 >>> ((2 : Int32) &&& 31).toUInt32).toInt32)), .val (.int (i1 + (-2 : Int32)))]) rfl ?_
    show Steps p.tables e below (T.setTop (mkF m 73 #[.val (.int ((i0.toUInt32 >>> ((2 : Int32) &&& 31).toUInt32).toInt32)), .val (.int (i1 + (-2 : Int32)))] [])) _
    refine XS.iloadN X0.here hx rfl (hb hby d2_73) rfl ?_
    show Steps p.tables e below (T.setTop (mkF m 74 #[.val (.int ((i0.toUInt32 >>> ((2 : Int32) &&& 31).toUInt32).toInt32)), .val (.int (i1 + (-2 : Int32)))] [(.int (i1 + (-2 : Int32)))])) _
    refine XS.iloadN X0.here hx rfl (hb hby d2_74) rfl ?_
    show Steps p.tables e below (T.setTop (mkF m 75 #[.val (.int ((i0.toUInt32 >>> ((2 : Int32) &&& 31).toUInt32).toInt32)), .val (.int (i1 + (-2 : Int32)))] [(.int ((i0.toUInt32 >>> ((2 : Int32) &&& 31).toUInt32).toInt32)), (.int (i1 + (-2 : Int32)))])) _
    refine XS.iconst X0.here hx rfl (hb hby d2_75) ?_
    show Steps p.tables e below (T.setTop (mkF m 76 #[.val (.int ((i0.toUInt32 >>> ((2 : Int32) &&& 31).toUInt32).toInt32)), .val (.int (i1 + (-2 : Int32)))] [(.int (1 : Int32)), (.int ((i0.toUInt32 >>> ((2 : Int32) &&& 31).toUInt32).toInt32)), (.int (i1 + (-2 : Int32)))])) _
    refine XS.iushr X0.here hx rfl (hb hby d2_76) rfl ?_
    show Steps p.tables e below (T.setTop (mkF m 77 #[.val (.int ((i0.toUInt32 >>> ((2 : Int32) &&& 31).toUInt32).toInt32)), .val (.int (i1 + (-2 : Int32)))] [(.int ((((i0.toUInt32 >>> ((2 : Int32) &&& 31).toUInt32).toInt32).toUInt32 >>> ((1 : Int32) &&& 31).toUInt32).toInt32)), (.int (i1 + (-2 : Int32)))])) _
    refine XS.isub X0.here hx rfl (hb hby d2_77) rfl ?_
    show Steps p.tables e below (T.setTop (mkF m 78 #[.val (.int ((i0.toUInt32 >>> ((2 : Int32) &&& 31).toUInt32).toInt32)), .val (.int (i1 + (-2 : Int32)))] [(.int ((i1 + (-2 : Int32)) - ((((i0.toUInt32 >>> ((2 : Int32) &&& 31).toUInt32).toInt32).toUInt32 >>> ((1 : Int32) &&& 31).toUInt32).toInt32)))])) _
    exact retOut X0 hx hrt rfl (Or.inl ⟨rfl, Or.inl rfl, _, rfl⟩) (hb hby d2_78) hr
def b2_48 (i0 : Int32) (i1 : Int32) : Int32 := (if i0 < (16 : Int32) then (b2_61 i0 i1) else (b2_61 ((i0.toUInt32 >>> ((4 : Int32) &&& 31).toUInt32).toInt32) (i1 + (-4 : Int32))))
set_option maxRecDepth 65536 in
set_option maxHeartbeats 40000000 in
theorem bl2_48 {p : Program} {l : Launch} {e : Env} {R : Room} {s : State} {m : MethodId} {args : Array Value} {below : List Frame} {meth : Method} {c : Code} {T : State} {locs : List Loc} {cells slots : Nat} {Z : State} {a0 : Array Value} (i0 : Int32) (i1 : Int32) (X0 : Stand p l e R s m args below meth c T locs cells slots) (hx : p.tables.exec = Jvm.exec) (hZ : Z.Warmed39 s.vm) (hw : ∀ d ∈ tables_1, d.before a0 Z = true) (hby : c.code = jdk_33_method_47_code) (hown : s.vm.findClass "java/lang/Integer" = some m.cls) (hrt : meth.sig.returnType = some .int) {fs : List Frame} (hr : ∀ (f : JFrame) (acts : List Action), f.method = m → f.locked = none → f.entered = [] → (doReturn e (T.setTop f) acts (some (.int (b2_48 i0 i1)))).1 = T.setFrames fs) :
    Steps p.tables e below (T.setTop (mkF m 48 #[.val (.int i0), .val (.int i1)] [])) (T.setFrames fs) := by
  refine XS.iloadN X0.here hx rfl (hb hby d2_48) rfl ?_
  show Steps p.tables e below (T.setTop (mkF m 49 #[.val (.int i0), .val (.int i1)] [(.int i0)])) _
  refine XS.bipush X0.here hx rfl (hb hby d2_49) ?_
  show Steps p.tables e below (T.setTop (mkF m 51 #[.val (.int i0), .val (.int i1)] [(.int (16 : Int32)), (.int i0)])) _
  by_cases hc0 : i0 < (16 : Int32)
  · rw [show b2_48 i0 i1 = b2_61 i0 i1 from by rw [b2_48, if_pos hc0]] at hr
    refine XS.icmpYes X0.here hx rfl (pc0 := 51) (pc' := 61) rfl (hb hby d2_51) rfl (tlt hc0).1 (by decide) (by decide) ?_
    exact bl2_61 i0 i1 X0 hx hZ hw hby hown hrt hr
  · rw [show b2_48 i0 i1 = b2_61 ((i0.toUInt32 >>> ((4 : Int32) &&& 31).toUInt32).toInt32) (i1 + (-4 : Int32)) from by rw [b2_48, if_neg hc0]] at hr
    refine XS.icmpNo X0.here hx rfl (hb hby d2_51) rfl (flt hc0).1 ?_
    show Steps p.tables e below (T.setTop (mkF m 54 #[.val (.int i0), .val (.int i1)] [])) _
    refine XS.iinc X0.here hx rfl (hb hby d2_54) rfl (l' := #[.val (.int i0), .val (.int (i1 + (-4 : Int32)))]) rfl ?_
    show Steps p.tables e below (T.setTop (mkF m 57 #[.val (.int i0), .val (.int (i1 + (-4 : Int32)))] [])) _
    refine XS.iloadN X0.here hx rfl (hb hby d2_57) rfl ?_
    show Steps p.tables e below (T.setTop (mkF m 58 #[.val (.int i0), .val (.int (i1 + (-4 : Int32)))] [(.int i0)])) _
    refine XS.iconst X0.here hx rfl (hb hby d2_58) ?_
    show Steps p.tables e below (T.setTop (mkF m 59 #[.val (.int i0), .val (.int (i1 + (-4 : Int32)))] [(.int (4 : Int32)), (.int i0)])) _
    refine XS.iushr X0.here hx rfl (hb hby d2_59) rfl ?_
    show Steps p.tables e below (T.setTop (mkF m 60 #[.val (.int i0), .val (.int (i1 + (-4 : Int32)))] [(.int ((i0.toUInt32 >>> ((4 : Int32) &&& 31).toUInt32).toInt32))])) _
    refine XS.istoreN X0.here hx rfl (hb hby d2_60) rfl (l' := #[.val (.int ((i0.toUInt32 >>> ((4 : Int32) &&& 31).toUInt32).toInt32)), .val (.int (i1 + (-4 : Int32)))]) rfl ?_
    exact bl2_61 ((i0.toUInt32 >>> ((4 : Int32) &&& 31).toUInt32).toInt32) (i1 + (-4 : Int32)) X0 hx hZ hw hby hown hrt hr
def b2_33 (i0 : Int32) (i1 : Int32) : Int32 := (if i0 < (256 : Int32) then (b2_48 i0 i1) else (b2_48 ((i0.toUInt32 >>> ((8 : Int32) &&& 31).toUInt32).toInt32) (i1 + (-8 : Int32))))
set_option maxRecDepth 65536 in
set_option maxHeartbeats 40000000 in
theorem bl2_33 {p : Program} {l : Launch} {e : Env} {R : Room} {s : State} {m : MethodId} {args : Array Value} {below : List Frame} {meth : Method} {c : Code} {T : State} {locs : List Loc} {cells slots : Nat} {Z : State} {a0 : Array Value} (i0 : Int32) (i1 : Int32) (X0 : Stand p l e R s m args below meth c T locs cells slots) (hx : p.tables.exec = Jvm.exec) (hZ : Z.Warmed39 s.vm) (hw : ∀ d ∈ tables_1, d.before a0 Z = true) (hby : c.code = jdk_33_method_47_code) (hown : s.vm.findClass "java/lang/Integer" = some m.cls) (hrt : meth.sig.returnType = some .int) {fs : List Frame} (hr : ∀ (f : JFrame) (acts : List Action), f.method = m → f.locked = none → f.entered = [] → (doReturn e (T.setTop f) acts (some (.int (b2_33 i0 i1)))).1 = T.setFrames fs) :
    Steps p.tables e below (T.setTop (mkF m 33 #[.val (.int i0), .val (.int i1)] [])) (T.setFrames fs) := by
  refine XS.iloadN X0.here hx rfl (hb hby d2_33) rfl ?_
  show Steps p.tables e below (T.setTop (mkF m 34 #[.val (.int i0), .val (.int i1)] [(.int i0)])) _
  refine XS.sipush X0.here hx rfl (hb hby d2_34) ?_
  show Steps p.tables e below (T.setTop (mkF m 37 #[.val (.int i0), .val (.int i1)] [(.int (256 : Int32)), (.int i0)])) _
  by_cases hc0 : i0 < (256 : Int32)
  · rw [show b2_33 i0 i1 = b2_48 i0 i1 from by rw [b2_33, if_pos hc0]] at hr
    refine XS.icmpYes X0.here hx rfl (pc0 := 37) (pc' := 48) rfl (hb hby d2_37) rfl (tlt hc0).1 (by decide) (by decide) ?_
    exact bl2_48 i0 i1 X0 hx hZ hw hby hown hrt hr
  · rw [show b2_33 i0 i1 = b2_48 ((i0.toUInt32 >>> ((8 : Int32) &&& 31).toUInt32).toInt32) (i1 + (-8 : Int32)) from by rw [b2_33, if_neg hc0]] at hr
    refine XS.icmpNo X0.here hx rfl (hb hby d2_37) rfl (flt hc0).1 ?_
    show Steps p.tables e below (T.setTop (mkF m 40 #[.val (.int i0), .val (.int i1)] [])) _
    refine XS.iinc X0.here hx rfl (hb hby d2_40) rfl (l' := #[.val (.int i0), .val (.int (i1 + (-8 : Int32)))]) rfl ?_
    show Steps p.tables e below (T.setTop (mkF m 43 #[.val (.int i0), .val (.int (i1 + (-8 : Int32)))] [])) _
    refine XS.iloadN X0.here hx rfl (hb hby d2_43) rfl ?_
    show Steps p.tables e below (T.setTop (mkF m 44 #[.val (.int i0), .val (.int (i1 + (-8 : Int32)))] [(.int i0)])) _
    refine XS.bipush X0.here hx rfl (hb hby d2_44) ?_
    show Steps p.tables e below (T.setTop (mkF m 46 #[.val (.int i0), .val (.int (i1 + (-8 : Int32)))] [(.int (8 : Int32)), (.int i0)])) _
    refine XS.iushr X0.here hx rfl (hb hby d2_46) rfl ?_
    show Steps p.tables e below (T.setTop (mkF m 47 #[.val (.int i0), .val (.int (i1 + (-8 : Int32)))] [(.int ((i0.toUInt32 >>> ((8 : Int32) &&& 31).toUInt32).toInt32))])) _
    refine XS.istoreN X0.here hx rfl (hb hby d2_47) rfl (l' := #[.val (.int ((i0.toUInt32 >>> ((8 : Int32) &&& 31).toUInt32).toInt32)), .val (.int (i1 + (-8 : Int32)))]) rfl ?_
    exact bl2_48 ((i0.toUInt32 >>> ((8 : Int32) &&& 31).toUInt32).toInt32) (i1 + (-8 : Int32)) X0 hx hZ hw hby hown hrt hr
def b2_0 (p0 : Int32) : Int32 := (if (0 : Int32) < p0 then (if p0 < (65536 : Int32) then (b2_33 p0 (31 : Int32)) else (b2_33 ((p0.toUInt32 >>> ((16 : Int32) &&& 31).toUInt32).toInt32) (15 : Int32))) else (if p0 = (0 : Int32) then (32 : Int32) else (0 : Int32)))
set_option maxRecDepth 65536 in
set_option maxHeartbeats 40000000 in
theorem bl2_0 {p : Program} {l : Launch} {e : Env} {R : Room} {s : State} {m : MethodId} {args : Array Value} {below : List Frame} {meth : Method} {c : Code} {T : State} {locs : List Loc} {cells slots : Nat} {Z : State} {a0 : Array Value} (p0 : Int32) (X0 : Stand p l e R s m args below meth c T locs cells slots) (hx : p.tables.exec = Jvm.exec) (hZ : Z.Warmed39 s.vm) (hw : ∀ d ∈ tables_1, d.before a0 Z = true) (hby : c.code = jdk_33_method_47_code) (hown : s.vm.findClass "java/lang/Integer" = some m.cls) (hrt : meth.sig.returnType = some .int) {fs : List Frame} (hr : ∀ (f : JFrame) (acts : List Action), f.method = m → f.locked = none → f.entered = [] → (doReturn e (T.setTop f) acts (some (.int (b2_0 p0)))).1 = T.setFrames fs) :
    Steps p.tables e below (T.setTop (mkF m 0 #[.val (.int p0), .unset] [])) (T.setFrames fs) := by
  refine XS.iloadN X0.here hx rfl (hb hby d2_0) rfl ?_
  show Steps p.tables e below (T.setTop (mkF m 1 #[.val (.int p0), .unset] [(.int p0)])) _
  by_cases hc0 : (0 : Int32) < p0
  · refine XS.ifYes X0.here hx rfl (pc0 := 1) (pc' := 15) rfl (hb hby d2_1) rfl ((if0 _ _).trans (tlt hc0).2.2.1) (by decide) (by decide) ?_
    show Steps p.tables e below (T.setTop (mkF m 15 #[.val (.int p0), .unset] [])) _
    refine XS.bipush X0.here hx rfl (hb hby d2_15) ?_
    show Steps p.tables e below (T.setTop (mkF m 17 #[.val (.int p0), .unset] [(.int (31 : Int32))])) _
    refine XS.istoreN X0.here hx rfl (hb hby d2_17) rfl (l' := #[.val (.int p0), .val (.int (31 : Int32))]) rfl ?_
    show Steps p.tables e below (T.setTop (mkF m 18 #[.val (.int p0), .val (.int (31 : Int32))] [])) _
    refine XS.iloadN X0.here hx rfl (hb hby d2_18) rfl ?_
    show Steps p.tables e below (T.setTop (mkF m 19 #[.val (.int p0), .val (.int (31 : Int32))] [(.int p0)])) _
    refine X0.ldcwInt hx hown (mvT hZ (hw _ (List.mem_of_getElem? (i := 10) rfl))) (g := (mkF m 19 #[.val (.int p0), .val (.int (31 : Int32))] [(.int p0)])) rfl (hb hby d2_19) _ ?_
    show Steps p.tables e below (T.setTop (mkF m 22 #[.val (.int p0), .val (.int (31 : Int32))] [(.int (65536 : Int32)), (.int p0)])) _
    by_cases hc1 : p0 < (65536 : Int32)
    · rw [show b2_0 p0 = b2_33 p0 (31 : Int32) from by rw [b2_0, if_pos hc0, if_pos hc1]] at hr
      refine XS.icmpYes X0.here hx rfl (pc0 := 22) (pc' := 33) rfl (hb hby d2_22) rfl (tlt hc1).1 (by decide) (by decide) ?_
      exact bl2_33 p0 (31 : Int32) X0 hx hZ hw hby hown hrt hr
    · rw [show b2_0 p0 = b2_33 ((p0.toUInt32 >>> ((16 : Int32) &&& 31).toUInt32).toInt32) (15 : Int32) from by rw [b2_0, if_pos hc0, if_neg hc1]] at hr
      refine XS.icmpNo X0.here hx rfl (hb hby d2_22) rfl (flt hc1).1 ?_
      show Steps p.tables e below (T.setTop (mkF m 25 #[.val (.int p0), .val (.int (31 : Int32))] [])) _
      refine XS.iinc X0.here hx rfl (hb hby d2_25) rfl (l' := #[.val (.int p0), .val (.int (15 : Int32))]) rfl ?_
      show Steps p.tables e below (T.setTop (mkF m 28 #[.val (.int p0), .val (.int (15 : Int32))] [])) _
      refine XS.iloadN X0.here hx rfl (hb hby d2_28) rfl ?_
      show Steps p.tables e below (T.setTop (mkF m 29 #[.val (.int p0), .val (.int (15 : Int32))] [(.int p0)])) _
      refine XS.bipush X0.here hx rfl (hb hby d2_29) ?_
      show Steps p.tables e below (T.setTop (mkF m 31 #[.val (.int p0), .val (.int (15 : Int32))] [(.int (16 : Int32)), (.int p0)])) _
      refine XS.iushr X0.here hx rfl (hb hby d2_31) rfl ?_
      show Steps p.tables e below (T.setTop (mkF m 32 #[.val (.int p0), .val (.int (15 : Int32))] [(.int ((p0.toUInt32 >>> ((16 : Int32) &&& 31).toUInt32).toInt32))])) _
      refine XS.istoreN X0.here hx rfl (hb hby d2_32) rfl (l' := #[.val (.int ((p0.toUInt32 >>> ((16 : Int32) &&& 31).toUInt32).toInt32)), .val (.int (15 : Int32))]) rfl ?_
      exact bl2_33 ((p0.toUInt32 >>> ((16 : Int32) &&& 31).toUInt32).toInt32) (15 : Int32) X0 hx hZ hw hby hown hrt hr
  · refine XS.ifNo X0.here hx rfl (hb hby d2_1) rfl ((if0 _ _).trans (flt hc0).2.2.1) ?_
    show Steps p.tables e below (T.setTop (mkF m 4 #[.val (.int p0), .unset] [])) _
    refine XS.iloadN X0.here hx rfl (hb hby d2_4) rfl ?_
    show Steps p.tables e below (T.setTop (mkF m 5 #[.val (.int p0), .unset] [(.int p0)])) _
    by_cases hc2 : p0 = (0 : Int32)
    · rw [show b2_0 p0 = (32 : Int32) from by rw [b2_0, if_neg hc0, if_pos hc2]] at hr
      refine XS.ifNo X0.here hx rfl (hb hby d2_5) rfl ((if0 _ _).trans (teq hc2).2) ?_
      show Steps p.tables e below (T.setTop (mkF m 8 #[.val (.int p0), .unset] [])) _
      refine XS.bipush X0.here hx rfl (hb hby d2_8) ?_
      show Steps p.tables e below (T.setTop (mkF m 10 #[.val (.int p0), .unset] [(.int (32 : Int32))])) _
      refine XS.goto X0.here hx rfl (pc0 := 10) (pc' := 14) rfl (hb hby d2_10) (by decide) (by decide) ?_
      show Steps p.tables e below (T.setTop (mkF m 14 #[.val (.int p0), .unset] [(.int (32 : Int32))])) _
      exact retOut X0 hx hrt rfl (Or.inl ⟨rfl, Or.inl rfl, _, rfl⟩) (hb hby d2_14) hr
    · rw [show b2_0 p0 = (0 : Int32) from by rw [b2_0, if_neg hc0, if_neg hc2]] at hr
      refine XS.ifYes X0.here hx rfl (pc0 := 5) (pc' := 13) rfl (hb hby d2_5) rfl ((if0 _ _).trans (feq hc2).2) (by decide) (by decide) ?_
      show Steps p.tables e below (T.setTop (mkF m 13 #[.val (.int p0), .unset] [])) _
      refine XS.iconst X0.here hx rfl (hb hby d2_13) ?_
      show Steps p.tables e below (T.setTop (mkF m 14 #[.val (.int p0), .unset] [(.int (0 : Int32))])) _
      exact retOut X0 hx hrt rfl (Or.inl ⟨rfl, Or.inl rfl, _, rfl⟩) (hb hby d2_14) hr
def Q2 (Z : State) (p0 : Int32) (h0 : Heap) (n0 : Nat) (v : Option Value) (h : Heap) (L : List Loc) : Prop := v = some (.int (b2_0 p0)) ∧ Fr n0 L ∧ h = h0
set_option maxRecDepth 65536 in
set_option maxHeartbeats 40000000 in
theorem rm2 (l : Launch) (Z : State) (a0 : Array Value) (hw : ∀ d ∈ tables_1, d.before a0 Z = true) (ws : List Jvm.Cond) (p0 : Int32) (h0 : Heap) (n0 : Nat) (Z0 : n0 ≤ h0.size) :
    MetFree l (⟨"java/lang/Integer", "numberOfLeadingZeros", "(I)I"⟩ : MethodName) (head1 (Jvm.Cond.code (⟨"java/lang/Integer", "numberOfLeadingZeros", "(I)I"⟩ : MethodName) jdk_33_method_47_code 2 (some .int) :: ws) ({ frames := 0, cells := 0, slots := 0, locals := 0 } : Room)) (fun a U => a = #[(.int p0)] ∧ Z.Warmed39 U.vm ∧ U.heap = h0) (fun _ _ _ _ _ => True) (fun _ U o U' => ∃ v L, o = .returned v ∧ Q2 Z p0 h0 n0 v U'.heap L ∧ FrameEnd U o U' L ({ frames := 0, cells := 0, slots := 0, locals := 0 } : Room).cells ({ frames := 0, cells := 0, slots := 0, locals := 0 } : Room).slots) := by
  refine MetFree.of_bodySF (plainFor_of_name pn_2) hisR ?_
  intro p e s m args below meth c s₁ Bd hml0 hP hK
  obtain ⟨rfl, hZ, hh⟩ := hP
  have hx := Bd.exec
  have hby := Bd.bytes
  have hml : c.maxLocals = 2 := hml0
  have hown : s.vm.findClass "java/lang/Integer" = some m.cls := findClass_of_methodNamed Bd.named
  have hnm := (name_of_methodNamed Bd.named Bd.method).1
  have X0 : Stand p l e ({ frames := 0, cells := 0, slots := 0, locals := 0 } : Room) s m #[(.int p0)] below meth c s₁ [] 0 0 := Stand.of_body Bd
  have e0 : s₁.heap = h0 := by rw [← hh, Bd.state]; rfl
  have N0 := Fr.nil n0
  have pre0 : ∀ t, Steps p.tables e below (s₁.setTop (mkF m 0 #[.val (.int p0), .unset] [])) t → Steps p.tables e below (s₁.setTop (entryFrame m #[(.int p0)] 2)) t := fun t k => castTop (ef_2 m p0) k
  obtain ⟨fs, hr, hrun, hended, hW, hsame⟩ := X0.leave (v := some (.int (b2_0 p0))) (fun h => by rw [Bd.returns] at h; cases h)
  refine ⟨_, _, pre0 _ ?_, hrun, hended, _, _, rfl, ?_, ⟨_, rfl⟩, hW, hsame.mono (by decide) (by decide)⟩
  · exact bl2_0 p0 X0 hx hZ hw hby hown Bd.returns hr
  · show Q2 Z p0 h0 n0 _ s₁.heap _
    rw [e0]
    exact ⟨rfl, N0, rfl⟩
theorem d3_0 : decode jdk_29_method_65_code 0 = .ok (.iload_n 0, 1) := by decide +kernel
theorem d3_1 : decode jdk_29_method_65_code 1 = .ok (.iload_n 1, 1) := by decide +kernel
theorem d3_2 : decode jdk_29_method_65_code 2 = .ok (.if_icmp .lt 7, 3) := by decide +kernel
theorem d3_5 : decode jdk_29_method_65_code 5 = .ok (.iload_n 0, 1) := by decide +kernel
theorem d3_6 : decode jdk_29_method_65_code 6 = .ok (.goto 4, 3) := by decide +kernel
theorem d3_9 : decode jdk_29_method_65_code 9 = .ok (.iload_n 1, 1) := by decide +kernel
theorem d3_10 : decode jdk_29_method_65_code 10 = .ok (.ireturn, 1) := by decide +kernel
theorem ef_3 (m : MethodId) (p0 : Int32) (p1 : Int32) : entryFrame m #[(.int p0), (.int p1)] 2 = mkF m 0 #[.val (.int p0), .val (.int p1)] [] := by first | (simp [entryFrame, mkF, argsToLocals, Value.category]; done) | rfl
def b3_0 (p0 : Int32) (p1 : Int32) : Int32 := (if p0 < p1 then p1 else p0)
set_option maxRecDepth 65536 in
set_option maxHeartbeats 40000000 in
theorem bl3_0 {p : Program} {l : Launch} {e : Env} {R : Room} {s : State} {m : MethodId} {args : Array Value} {below : List Frame} {meth : Method} {c : Code} {T : State} {locs : List Loc} {cells slots : Nat} {Z : State} {a0 : Array Value} (p0 : Int32) (p1 : Int32) (X0 : Stand p l e R s m args below meth c T locs cells slots) (hx : p.tables.exec = Jvm.exec) (hZ : Z.Warmed39 s.vm) (hw : ∀ d ∈ tables_1, d.before a0 Z = true) (hby : c.code = jdk_29_method_65_code) (hown : s.vm.findClass "java/lang/Math" = some m.cls) (hrt : meth.sig.returnType = some .int) {fs : List Frame} (hr : ∀ (f : JFrame) (acts : List Action), f.method = m → f.locked = none → f.entered = [] → (doReturn e (T.setTop f) acts (some (.int (b3_0 p0 p1)))).1 = T.setFrames fs) :
    Steps p.tables e below (T.setTop (mkF m 0 #[.val (.int p0), .val (.int p1)] [])) (T.setFrames fs) := by
  refine XS.iloadN X0.here hx rfl (hb hby d3_0) rfl ?_
  show Steps p.tables e below (T.setTop (mkF m 1 #[.val (.int p0), .val (.int p1)] [(.int p0)])) _
  refine XS.iloadN X0.here hx rfl (hb hby d3_1) rfl ?_
  show Steps p.tables e below (T.setTop (mkF m 2 #[.val (.int p0), .val (.int p1)] [(.int p1), (.int p0)])) _
  by_cases hc0 : p0 < p1
  · rw [show b3_0 p0 p1 = p1 from by rw [b3_0, if_pos hc0]] at hr
    refine XS.icmpYes X0.here hx rfl (pc0 := 2) (pc' := 9) rfl (hb hby d3_2) rfl (tlt hc0).1 (by decide) (by decide) ?_
    show Steps p.tables e below (T.setTop (mkF m 9 #[.val (.int p0), .val (.int p1)] [])) _
    refine XS.iloadN X0.here hx rfl (hb hby d3_9) rfl ?_
    show Steps p.tables e below (T.setTop (mkF m 10 #[.val (.int p0), .val (.int p1)] [(.int p1)])) _
    exact retOut X0 hx hrt rfl (Or.inl ⟨rfl, Or.inl rfl, _, rfl⟩) (hb hby d3_10) hr
  · rw [show b3_0 p0 p1 = p0 from by rw [b3_0, if_neg hc0]] at hr
    refine XS.icmpNo X0.here hx rfl (hb hby d3_2) rfl (flt hc0).1 ?_
    show Steps p.tables e below (T.setTop (mkF m 5 #[.val (.int p0), .val (.int p1)] [])) _
    refine XS.iloadN X0.here hx rfl (hb hby d3_5) rfl ?_
    show Steps p.tables e below (T.setTop (mkF m 6 #[.val (.int p0), .val (.int p1)] [(.int p0)])) _
    refine XS.goto X0.here hx rfl (pc0 := 6) (pc' := 10) rfl (hb hby d3_6) (by decide) (by decide) ?_
    show Steps p.tables e below (T.setTop (mkF m 10 #[.val (.int p0), .val (.int p1)] [(.int p0)])) _
    exact retOut X0 hx hrt rfl (Or.inl ⟨rfl, Or.inl rfl, _, rfl⟩) (hb hby d3_10) hr
def Q3 (Z : State) (p0 : Int32) (p1 : Int32) (h0 : Heap) (n0 : Nat) (v : Option Value) (h : Heap) (L : List Loc) : Prop := v = some (.int (b3_0 p0 p1)) ∧ Fr n0 L ∧ h = h0
set_option maxRecDepth 65536 in
set_option maxHeartbeats 40000000 in
theorem rm3 (l : Launch) (Z : State) (a0 : Array Value) (hw : ∀ d ∈ tables_1, d.before a0 Z = true) (ws : List Jvm.Cond) (p0 : Int32) (p1 : Int32) (h0 : Heap) (n0 : Nat) (Z0 : n0 ≤ h0.size) :
    MetFree l (⟨"java/lang/Math", "max", "(II)I"⟩ : MethodName) (head1 (Jvm.Cond.code (⟨"java/lang/Math", "max", "(II)I"⟩ : MethodName) jdk_29_method_65_code 2 (some .int) :: ws) ({ frames := 0, cells := 0, slots := 0, locals := 0 } : Room)) (fun a U => a = #[(.int p0), (.int p1)] ∧ Z.Warmed39 U.vm ∧ U.heap = h0) (fun _ _ _ _ _ => True) (fun _ U o U' => ∃ v L, o = .returned v ∧ Q3 Z p0 p1 h0 n0 v U'.heap L ∧ FrameEnd U o U' L ({ frames := 0, cells := 0, slots := 0, locals := 0 } : Room).cells ({ frames := 0, cells := 0, slots := 0, locals := 0 } : Room).slots) := by
  refine MetFree.of_bodySF (Jvm.Free.JP.mathPlain rfl (by decide +kernel)) hisR ?_
  intro p e s m args below meth c s₁ Bd hml0 hP hK
  obtain ⟨rfl, hZ, hh⟩ := hP
  have hx := Bd.exec
  have hby := Bd.bytes
  have hml : c.maxLocals = 2 := hml0
  have hown : s.vm.findClass "java/lang/Math" = some m.cls := findClass_of_methodNamed Bd.named
  have hnm := (name_of_methodNamed Bd.named Bd.method).1
  have X0 : Stand p l e ({ frames := 0, cells := 0, slots := 0, locals := 0 } : Room) s m #[(.int p0), (.int p1)] below meth c s₁ [] 0 0 := Stand.of_body Bd
  have e0 : s₁.heap = h0 := by rw [← hh, Bd.state]; rfl
  have N0 := Fr.nil n0
  have pre0 : ∀ t, Steps p.tables e below (s₁.setTop (mkF m 0 #[.val (.int p0), .val (.int p1)] [])) t → Steps p.tables e below (s₁.setTop (entryFrame m #[(.int p0), (.int p1)] 2)) t := fun t k => castTop (ef_3 m p0 p1) k
  obtain ⟨fs, hr, hrun, hended, hW, hsame⟩ := X0.leave (v := some (.int (b3_0 p0 p1))) (fun h => by rw [Bd.returns] at h; cases h)
  refine ⟨_, _, pre0 _ ?_, hrun, hended, _, _, rfl, ?_, ⟨_, rfl⟩, hW, hsame.mono (by decide) (by decide)⟩
  · exact bl3_0 p0 p1 X0 hx hZ hw hby hown Bd.returns hr
  · show Q3 Z p0 p1 h0 n0 _ s₁.heap _
    rw [e0]
    exact ⟨rfl, N0, rfl⟩
def own_lb (z : Int32) : Int32 := if z < (256 : Int32) then (1 : Int32) else (if z < (65536 : Int32) then (2 : Int32) else (3 : Int32))
def own_sb (z q : Int32) : Int32 := ((z.toUInt32 >>> (q &&& 31).toUInt32).toInt32).toInt8.toInt32
theorem own_of {x : Int32} (h : 0 ≤ x.toInt) : Int32.ofNat x.toInt.toNat = x := by
  have r := rng32 x
  exact Int32.toInt_inj.mp (by rw [Int32.toInt_ofNat_of_lt (by omega)]; omega)
theorem own_lbz {z : Int32} (h : ¬ z < (0 : Int32) ∧ ¬ (65538 : Int32) < z) : b3_0 (1 : Int32) ((((32 : Int32) - (b2_0 z)) + (7 : Int32)) / (8 : Int32)) = own_lb z := by
  have e0 : (0 : Int32).toInt = 0 := by decide
  have e1 : (65538 : Int32).toInt = 65538 := by decide
  have e2 : (256 : Int32).toInt = 256 := by decide
  have e3 : (65536 : Int32).toInt = 65536 := by decide
  have hz0 := h.1
  have hz1 := h.2
  rw [Int32.lt_iff_toInt_lt] at hz0 hz1
  by_cases c1 : z < (256 : Int32)
  · rw [own_lb, if_pos c1]
    rw [Int32.lt_iff_toInt_lt] at c1
    have hn : ∀ n : Fin 256, b3_0 (1 : Int32) ((((32 : Int32) - (b2_0 (Int32.ofNat n.1))) + (7 : Int32)) / (8 : Int32)) = (1 : Int32) := by decide +kernel
    have q := hn ⟨z.toInt.toNat, by omega⟩
    simp only [own_of (by omega : 0 ≤ z.toInt)] at q
    exact q
  · by_cases c2 : z < (65536 : Int32)
    · have hpos : (0 : Int32) < z := by rw [Int32.lt_iff_toInt_lt] at c1 ⊢; omega
      rw [own_lb, if_neg c1, if_pos c2, b2_0, if_pos hpos, if_pos c2, b2_33, if_neg c1]
      have a := c_iushr z 8 8 (by decide) (by decide)
      generalize (z.toUInt32 >>> ((8 : Int32) &&& 31).toUInt32).toInt32 = y at a ⊢
      rw [Int32.lt_iff_toInt_lt] at c1 c2
      have hy0 : 1 ≤ y.toInt := by omega
      have hy1 : y.toInt < 256 := by omega
      have hn : ∀ n : Fin 256, 1 ≤ n.1 → b3_0 (1 : Int32) ((((32 : Int32) - (b2_48 (Int32.ofNat n.1) ((31 : Int32) + (-8 : Int32)))) + (7 : Int32)) / (8 : Int32)) = (2 : Int32) := by decide +kernel
      have q := hn ⟨y.toInt.toNat, by omega⟩ (by show 1 ≤ y.toInt.toNat; omega)
      simp only [own_of (by omega : 0 ≤ y.toInt)] at q
      exact q
    · rw [own_lb, if_neg c1, if_neg c2]
      rw [Int32.lt_iff_toInt_lt] at c2
      have : z = (65536 : Int32) ∨ z = (65537 : Int32) ∨ z = (65538 : Int32) := by
        have e4 : (65537 : Int32).toInt = 65537 := by decide
        have k : z.toInt = 65536 ∨ z.toInt = 65537 ∨ z.toInt = 65538 := by omega
        rcases k with k | k | k
        · exact Or.inl (Int32.toInt_inj.mp (by omega))
        · exact Or.inr (Or.inl (Int32.toInt_inj.mp (by omega)))
        · exact Or.inr (Or.inr (Int32.toInt_inj.mp (by omega)))
      rcases this with rfl | rfl | rfl <;> decide +kernel
theorem own_lb3 {z w : Int32} (h : w = own_lb z) : (w = (1 : Int32) ∧ z < (256 : Int32)) ∨ (w = (2 : Int32) ∧ (¬ z < (256 : Int32) ∧ z < (65536 : Int32))) ∨ (w = (3 : Int32) ∧ (¬ z < (256 : Int32) ∧ ¬ z < (65536 : Int32))) := by
  rw [own_lb] at h
  by_cases c1 : z < (256 : Int32)
  · rw [if_pos c1] at h; exact Or.inl ⟨h, c1⟩
  · rw [if_neg c1] at h
    by_cases c2 : z < (65536 : Int32)
    · rw [if_pos c2] at h; exact Or.inr (Or.inl ⟨h, c1, c2⟩)
    · rw [if_neg c2] at h; exact Or.inr (Or.inr ⟨h, c1, c2⟩)
theorem own_nn {z : Int32} (h : ¬ z < (0 : Int32)) : z.toInt = (z.toNatClampNeg : Int) := by
  have e0 : (0 : Int32).toInt = 0 := by decide
  rw [Int32.lt_iff_toInt_lt] at h
  rw [← Int32.toNat_toInt]; omega
theorem own_ln {z k : Int32} (hk : 1 ≤ k.toInt ∧ k.toInt ≤ 4) (h : ¬ z < (0 : Int32) ∧ ¬ (65538 : Int32) < z) : (k + z).toInt = k.toInt + z.toInt ∧ ¬ (k + z) < (0 : Int32) ∧ (k + z).toNatClampNeg ≤ 65542 ∧ (k + z).toNatClampNeg = k.toNatClampNeg + z.toNatClampNeg := by
  have e0 : (0 : Int32).toInt = 0 := by decide
  have e1 : (65538 : Int32).toInt = 65538 := by decide
  have hz := own_nn h.1
  have h2 := h.2
  rw [Int32.lt_iff_toInt_lt] at h2
  have a := c_iadd k z
  have r := rng32 (k + z)
  have s : (k + z).toInt = k.toInt + z.toInt := by omega
  have n : ¬ (k + z) < (0 : Int32) := by rw [Int32.lt_iff_toInt_lt]; omega
  have m := own_nn n
  have hk0 : ¬ k < (0 : Int32) := by rw [Int32.lt_iff_toInt_lt]; omega
  have mk := own_nn hk0
  exact ⟨s, n, by omega, by omega⟩
theorem own_in {z k j : Int32} (hk : 1 ≤ k.toInt ∧ k.toInt ≤ 4) (h : ¬ z < (0 : Int32) ∧ ¬ (65538 : Int32) < z) (hj : 0 ≤ j.toInt ∧ j.toInt < k.toInt) : ¬ j < 0 ∧ j < k + z := by
  have s := (own_ln hk h).1
  have e0 : (0 : Int32).toInt = 0 := by decide
  have hz := own_nn h.1
  rw [Int32.lt_iff_toInt_lt, Int32.lt_iff_toInt_lt]
  omega
theorem own_ff {x : Int32} {g : Nat → Int32} {j : Nat} (hx : fits .byte (.int x) = true) (hg : ∀ i, fits .byte (.int (g i)) = true) : ∀ i, fits .byte (.int ((fun i => if i = j then x else g i) i)) = true := by
  intro i
  by_cases h : i = j
  · simp only [if_pos h]; exact hx
  · simp only [if_neg h]; exact hg i
theorem own_P1 {f : Nat → Int32} {x : Int32} {k z i : Nat} (hi : i < z) : (if k ≤ k + i ∧ k + i < k + z then f ((0 : Int32).toNatClampNeg + (k + i - k)) else x) = f i := by
  have e : (0 : Int32).toNatClampNeg = 0 := by decide
  rw [if_pos ⟨by omega, by omega⟩, e]
  congr 1; omega
theorem own_idem (x : Int32) : nar .byte (x.toInt8.toInt32) = x.toInt8.toInt32 := by
  have a := c_i2b x
  have b := c_i2b (x.toInt8.toInt32)
  apply Int32.toInt_inj.mp
  show (x.toInt8.toInt32).toInt8.toInt32.toInt = _
  omega
theorem own_s0 (n : Nat) : (0 : Int32).toNatClampNeg + n ≤ n := by
  have e : (0 : Int32).toNatClampNeg = 0 := by decide
  omega
def own_dec (z : Int32) (g : Nat → Int32) : Prop := (z < (256 : Int32) → g 1 = own_sb z 0) ∧ ((¬ z < (256 : Int32) ∧ z < (65536 : Int32)) → g 1 = own_sb z 8 ∧ g 2 = own_sb z 0) ∧ ((¬ z < (256 : Int32) ∧ ¬ z < (65536 : Int32)) → g 1 = own_sb z 16 ∧ g 2 = own_sb z 8 ∧ g 3 = own_sb z 0)
theorem d1_0 : decode prog_8_method_2_code 0 = .ok (.aload_n 0, 1) := by decide +kernel
theorem d1_1 : decode prog_8_method_2_code 1 = .ok (.arraylength, 1) := by decide +kernel
theorem d1_2 : decode prog_8_method_2_code 2 = .ok (.istore_n 1, 1) := by decide +kernel
theorem d1_3 : decode prog_8_method_2_code 3 = .ok (.iconst 1, 1) := by decide +kernel
theorem d1_4 : decode prog_8_method_2_code 4 = .ok (.bipush 32, 2) := by decide +kernel
theorem d1_6 : decode prog_8_method_2_code 6 = .ok (.iload_n 1, 1) := by decide +kernel
theorem d1_7 : decode prog_8_method_2_code 7 = .ok (.invokestatic 9, 3) := by decide +kernel
theorem d1_10 : decode prog_8_method_2_code 10 = .ok (.isub, 1) := by decide +kernel
theorem d1_11 : decode prog_8_method_2_code 11 = .ok (.bipush 7, 2) := by decide +kernel
theorem d1_13 : decode prog_8_method_2_code 13 = .ok (.iadd, 1) := by decide +kernel
theorem d1_14 : decode prog_8_method_2_code 14 = .ok (.bipush 8, 2) := by decide +kernel
theorem d1_16 : decode prog_8_method_2_code 16 = .ok (.idiv, 1) := by decide +kernel
theorem d1_17 : decode prog_8_method_2_code 17 = .ok (.invokestatic 13, 3) := by decide +kernel
theorem d1_20 : decode prog_8_method_2_code 20 = .ok (.istore_n 2, 1) := by decide +kernel
theorem d1_21 : decode prog_8_method_2_code 21 = .ok (.iconst 1, 1) := by decide +kernel
theorem d1_22 : decode prog_8_method_2_code 22 = .ok (.iload_n 2, 1) := by decide +kernel
theorem d1_23 : decode prog_8_method_2_code 23 = .ok (.iadd, 1) := by decide +kernel
theorem d1_24 : decode prog_8_method_2_code 24 = .ok (.iload_n 1, 1) := by decide +kernel
theorem d1_25 : decode prog_8_method_2_code 25 = .ok (.iadd, 1) := by decide +kernel
theorem d1_26 : decode prog_8_method_2_code 26 = .ok (.newarray .byte, 2) := by decide +kernel
theorem d1_28 : decode prog_8_method_2_code 28 = .ok (.astore_n 3, 1) := by decide +kernel
theorem d1_29 : decode prog_8_method_2_code 29 = .ok (.aload_n 3, 1) := by decide +kernel
theorem d1_30 : decode prog_8_method_2_code 30 = .ok (.iconst 0, 1) := by decide +kernel
theorem d1_31 : decode prog_8_method_2_code 31 = .ok (.iload_n 2, 1) := by decide +kernel
theorem d1_32 : decode prog_8_method_2_code 32 = .ok (.i2b, 1) := by decide +kernel
theorem d1_33 : decode prog_8_method_2_code 33 = .ok (.bastore, 1) := by decide +kernel
theorem d1_34 : decode prog_8_method_2_code 34 = .ok (.iconst 1, 1) := by decide +kernel
theorem d1_35 : decode prog_8_method_2_code 35 = .ok (.istore 4, 2) := by decide +kernel
theorem d1_37 : decode prog_8_method_2_code 37 = .ok (.iload 4, 2) := by decide +kernel
theorem d1_39 : decode prog_8_method_2_code 39 = .ok (.iload_n 2, 1) := by decide +kernel
theorem d1_40 : decode prog_8_method_2_code 40 = .ok (.if_icmp .gt 23, 3) := by decide +kernel
theorem d1_43 : decode prog_8_method_2_code 43 = .ok (.aload_n 3, 1) := by decide +kernel
theorem d1_44 : decode prog_8_method_2_code 44 = .ok (.iload 4, 2) := by decide +kernel
theorem d1_46 : decode prog_8_method_2_code 46 = .ok (.iload_n 1, 1) := by decide +kernel
theorem d1_47 : decode prog_8_method_2_code 47 = .ok (.bipush 8, 2) := by decide +kernel
theorem d1_49 : decode prog_8_method_2_code 49 = .ok (.iload_n 2, 1) := by decide +kernel
theorem d1_50 : decode prog_8_method_2_code 50 = .ok (.iload 4, 2) := by decide +kernel
theorem d1_52 : decode prog_8_method_2_code 52 = .ok (.isub, 1) := by decide +kernel
theorem d1_53 : decode prog_8_method_2_code 53 = .ok (.imul, 1) := by decide +kernel
theorem d1_54 : decode prog_8_method_2_code 54 = .ok (.iushr, 1) := by decide +kernel
theorem d1_55 : decode prog_8_method_2_code 55 = .ok (.i2b, 1) := by decide +kernel
theorem d1_56 : decode prog_8_method_2_code 56 = .ok (.bastore, 1) := by decide +kernel
theorem d1_57 : decode prog_8_method_2_code 57 = .ok (.iinc 4 1, 3) := by decide +kernel
theorem d1_60 : decode prog_8_method_2_code 60 = .ok (.goto (-23), 3) := by decide +kernel
theorem d1_63 : decode prog_8_method_2_code 63 = .ok (.aload_n 0, 1) := by decide +kernel
theorem d1_64 : decode prog_8_method_2_code 64 = .ok (.iconst 0, 1) := by decide +kernel
theorem d1_65 : decode prog_8_method_2_code 65 = .ok (.aload_n 3, 1) := by decide +kernel
theorem d1_66 : decode prog_8_method_2_code 66 = .ok (.iconst 1, 1) := by decide +kernel
theorem d1_67 : decode prog_8_method_2_code 67 = .ok (.iload_n 2, 1) := by decide +kernel
theorem d1_68 : decode prog_8_method_2_code 68 = .ok (.iadd, 1) := by decide +kernel
theorem d1_69 : decode prog_8_method_2_code 69 = .ok (.iload_n 1, 1) := by decide +kernel
theorem d1_70 : decode prog_8_method_2_code 70 = .ok (.invokestatic 19, 3) := by decide +kernel
theorem d1_73 : decode prog_8_method_2_code 73 = .ok (.aload_n 3, 1) := by decide +kernel
theorem d1_74 : decode prog_8_method_2_code 74 = .ok (.areturn, 1) := by decide +kernel
theorem pn_1 : plainName "com/example/narada/narada/mariner/MarinerFrameEncoder" = true := by first | (simp [plainName, overriddenIn]; done) | decide +kernel
theorem ef_1 (m : MethodId) (r0 : Addr) : entryFrame m #[(.ref r0)] 5 = mkF m 0 #[.val (.ref r0), .unset, .unset, .unset, .unset] [] := by first | (simp [entryFrame, mkF, argsToLocals, Value.category]; done) | rfl
theorem pd_0 : parseMethodDescriptor "(I)I" = some ⟨[.int], some .int⟩ := by decide +kernel
theorem pd_1 : parseMethodDescriptor "(II)I" = some ⟨[.int, .int], some .int⟩ := by decide +kernel
def Q1 (Z : State) (r0 : Addr) (z : Int32) (f : Nat → Int32) (h0 : Heap) (n0 : Nat) (v : Option Value) (h : Heap) (L : List Loc) : Prop := ∃ b : Addr, ∃ y : Int32, ∃ g : Nat → Int32, v = some (.ref b) ∧ Fr n0 L ∧ h0.size ≤ b ∧ Keep h0 h [] ∧ AI Z h b .byte y g ∧ (y = ((1 : Int32) + own_lb z) + z) ∧ (g 0 = own_lb z) ∧ (∀ i, i < z.toNatClampNeg → g (((1 : Int32) + own_lb z).toNatClampNeg + i) = f i) ∧ (own_dec z g)
set_option maxRecDepth 65536 in
set_option maxHeartbeats 40000000 in
theorem rm1 (l : Launch) (Z : State) (a0 : Array Value) (hw : ∀ d ∈ tables_1, d.before a0 Z = true) (ws : List Jvm.Cond) (r0 : Addr) (z : Int32) (f : Nat → Int32) (h0 : Heap) (n0 : Nat) (Z0 : n0 ≤ h0.size) (hp0 : AI Z h0 r0 .byte z f) (hz : (¬ z < (0 : Int32) ∧ ¬ (65538 : Int32) < z)) (hfit : (∀ i, fits .byte (.int (f i)) = true)) :
    MetFree l (⟨"com/example/narada/narada/mariner/MarinerFrameEncoder", "block", "([B)[B"⟩ : MethodName) (head1 (Jvm.Cond.code (⟨"com/example/narada/narada/mariner/MarinerFrameEncoder", "block", "([B)[B"⟩ : MethodName) prog_8_method_2_code 5 (some (.array .byte)) :: ws) ({ frames := 1, cells := 1, slots := 65542, locals := 18 } : Room)) (fun a U => a = #[(.ref r0)] ∧ Z.Warmed39 U.vm ∧ U.heap = h0) (fun _ _ _ _ _ => True) (fun _ U o U' => ∃ v L, o = .returned v ∧ Q1 Z r0 z f h0 n0 v U'.heap L ∧ FrameEnd U o U' L ({ frames := 1, cells := 1, slots := 65542, locals := 18 } : Room).cells ({ frames := 1, cells := 1, slots := 65542, locals := 18 } : Room).slots) := by
  refine MetFree.of_bodySF (plainFor_of_name pn_1) hisR ?_
  intro p e s m args below meth c s₁ Bd hml0 hP hK
  obtain ⟨rfl, hZ, hh⟩ := hP
  have hx := Bd.exec
  have hby := Bd.bytes
  have hml : c.maxLocals = 5 := hml0
  have hown : s.vm.findClass "com/example/narada/narada/mariner/MarinerFrameEncoder" = some m.cls := findClass_of_methodNamed Bd.named
  have hnm := (name_of_methodNamed Bd.named Bd.method).1
  have X0 : Stand p l e ({ frames := 1, cells := 1, slots := 65542, locals := 18 } : Room) s m #[(.ref r0)] below meth c s₁ [] 0 0 := Stand.of_body Bd
  have e0 : s₁.heap = h0 := by rw [← hh, Bd.state]; rfl
  have N0 := Fr.nil n0
  have pre0 : ∀ t, Steps p.tables e below (s₁.setTop (mkF m 0 #[.val (.ref r0), .unset, .unset, .unset, .unset] [])) t → Steps p.tables e below (s₁.setTop (entryFrame m #[(.ref r0)] 5)) t := fun t k => castTop (ef_1 m r0) k
  obtain ⟨cl11, Ar11, S11, M11, I11⟩ := id hp0
  obtain ⟨_, _, ⟨T12, L12, k12, n12⟩, -, X12, ⟨Lc12, hQ12, l12, y12, z12⟩, st12⟩ := Jvm.LawKit.callS X0 hx (y := (⟨"java/lang/Integer", "numberOfLeadingZeros", "(I)I"⟩ : MethodName)) hown (mvT hZ (hw _ (List.mem_of_getElem? (i := 6) rfl))) (mvT hZ (hw _ (List.mem_of_getElem? (i := 7) rfl))) (mvT hZ (hw _ (List.mem_of_getElem? (i := 8) rfl))) (mvT hZ (hw _ (List.mem_of_getElem? (i := 9) rfl))) (by decide) (backOf (W := 2) (rm2 l Z a0 hw [] z h0 n0 Z0) hZ (hw _ (List.mem_of_getElem? (i := 9) rfl)) (hw _ (List.mem_of_getElem? (i := 8) rfl)) (by decide) (by decide)) (g := (mkF m 7 #[.val (.ref r0), .val (.int z), .unset, .unset, .unset] [(.int z), (.int (32 : Int32)), (.int (1 : Int32))])) rfl (by rw [hml]; rfl) (argsL := [(.int z)]) (rest := [(.int (32 : Int32)), (.int (1 : Int32))]) (lenOf pd_0 rfl) rfl (by show 2 * 0 + _ ≤ _; exact Nat.le_of_eq rfl) (hb hby d1_7) (fun _ _ => ⟨rfl, e0, (by decide : 0 + 0 ≤ _), (by decide : 0 + 0 ≤ _)⟩)
  dsimp only [Pt.U, Pt.locs, Pt.cells, Pt.slots] at X12 l12 y12 z12 st12 hQ12
  obtain ⟨rfl, Nq12, eh12⟩ := hQ12
  obtain ⟨lc12, X12, N12⟩ : ∃ lc, Stand p l e ({ frames := 1, cells := 1, slots := 65542, locals := 18 } : Room) s m #[(.ref r0)] below meth c T12 lc 0 0 ∧ Fr n0 lc := ⟨_, (by rw [y12, z12] at X12; exact X12), (by rw [l12]; exact Fr.app N0 Nq12)⟩
  obtain ⟨_, _, ⟨T13, L13, k13, n13⟩, -, X13, ⟨Lc13, hQ13, l13, y13, z13⟩, st13⟩ := Jvm.LawKit.callS X12 hx (y := (⟨"java/lang/Math", "max", "(II)I"⟩ : MethodName)) hown (mvT hZ (hw _ (List.mem_of_getElem? (i := 11) rfl))) (mvT hZ (hw _ (List.mem_of_getElem? (i := 12) rfl))) (mvT hZ (hw _ (List.mem_of_getElem? (i := 13) rfl))) (mvT hZ (hw _ (List.mem_of_getElem? (i := 14) rfl))) (by decide) (backOf (W := 0) (rm3 l Z a0 hw [] (1 : Int32) ((((32 : Int32) - (b2_0 z)) + (7 : Int32)) / (8 : Int32)) h0 n0 Z0) hZ (hw _ (List.mem_of_getElem? (i := 14) rfl)) (hw _ (List.mem_of_getElem? (i := 13) rfl)) (by decide) (by decide)) (g := (mkF m 17 #[.val (.ref r0), .val (.int z), .unset, .unset, .unset] [(.int ((((32 : Int32) - (b2_0 z)) + (7 : Int32)) / (8 : Int32))), (.int (1 : Int32))])) rfl (by rw [hml]; rfl) (argsL := [(.int (1 : Int32)), (.int ((((32 : Int32) - (b2_0 z)) + (7 : Int32)) / (8 : Int32)))]) (rest := []) (lenOf pd_1 rfl) rfl (by show 2 * 0 + _ ≤ _; exact Nat.le_of_eq rfl) (hb hby d1_17) (fun _ _ => ⟨rfl, eh12, (by decide : 0 + 0 ≤ _), (by decide : 0 + 0 ≤ _)⟩)
  dsimp only [Pt.U, Pt.locs, Pt.cells, Pt.slots] at X13 l13 y13 z13 st13 hQ13
  obtain ⟨rfl, Nq13, eh13⟩ := hQ13
  obtain ⟨lc13, X13, N13⟩ : ∃ lc, Stand p l e ({ frames := 1, cells := 1, slots := 65542, locals := 18 } : Room) s m #[(.ref r0)] below meth c T13 lc 0 0 ∧ Fr n0 lc := ⟨_, (by rw [y13, z13] at X13; exact X13), (by rw [l13]; exact Fr.app N12 Nq13)⟩
  have pre14 : ∀ t, Steps p.tables e below (T13.setTop (mkF m 21 #[.val (.ref r0), .val (.int z), .val (.int (b3_0 (1 : Int32) ((((32 : Int32) - (b2_0 z)) + (7 : Int32)) / (8 : Int32)))), .unset, .unset] [])) t → Steps p.tables e below (s₁.setTop (entryFrame m #[(.ref r0)] 5)) t := fun t k => pre0 t (by
    refine XS.aloadN X0.here hx rfl (hb hby d1_0) rfl rfl ?_
    show Steps p.tables e below (s₁.setTop (mkF m 1 #[.val (.ref r0), .unset, .unset, .unset, .unset] [(.ref r0)])) _
    refine X0.arraylength hx (by rw [e0]; exact Ar11.1) (State.isArrayOf_alike hZ.alike Ar11.2.1) (g := (mkF m 1 #[.val (.ref r0), .unset, .unset, .unset, .unset] [(.ref r0)])) rfl rfl (hb hby d1_1) _ ?_
    rw [len_of S11 M11]
    show Steps p.tables e below (s₁.setTop (mkF m 2 #[.val (.ref r0), .unset, .unset, .unset, .unset] [(.int z)])) _
    refine XS.istoreN X0.here hx rfl (hb hby d1_2) rfl (l' := #[.val (.ref r0), .val (.int z), .unset, .unset, .unset]) rfl ?_
    show Steps p.tables e below (s₁.setTop (mkF m 3 #[.val (.ref r0), .val (.int z), .unset, .unset, .unset] [])) _
    refine XS.iconst X0.here hx rfl (hb hby d1_3) ?_
    show Steps p.tables e below (s₁.setTop (mkF m 4 #[.val (.ref r0), .val (.int z), .unset, .unset, .unset] [(.int (1 : Int32))])) _
    refine XS.bipush X0.here hx rfl (hb hby d1_4) ?_
    show Steps p.tables e below (s₁.setTop (mkF m 6 #[.val (.ref r0), .val (.int z), .unset, .unset, .unset] [(.int (32 : Int32)), (.int (1 : Int32))])) _
    refine XS.iloadN X0.here hx rfl (hb hby d1_6) rfl ?_
    show Steps p.tables e below (s₁.setTop (mkF m 7 #[.val (.ref r0), .val (.int z), .unset, .unset, .unset] [(.int z), (.int (32 : Int32)), (.int (1 : Int32))])) _
    refine st12 _ ?_
    show Steps p.tables e below (T12.setTop (mkF m 10 #[.val (.ref r0), .val (.int z), .unset, .unset, .unset] [(.int (b2_0 z)), (.int (32 : Int32)), (.int (1 : Int32))])) _
    refine XS.isub X12.here hx rfl (hb hby d1_10) rfl ?_
    show Steps p.tables e below (T12.setTop (mkF m 11 #[.val (.ref r0), .val (.int z), .unset, .unset, .unset] [(.int ((32 : Int32) - (b2_0 z))), (.int (1 : Int32))])) _
    refine XS.bipush X12.here hx rfl (hb hby d1_11) ?_
    show Steps p.tables e below (T12.setTop (mkF m 13 #[.val (.ref r0), .val (.int z), .unset, .unset, .unset] [(.int (7 : Int32)), (.int ((32 : Int32) - (b2_0 z))), (.int (1 : Int32))])) _
    refine XS.iadd X12.here hx rfl (hb hby d1_13) rfl ?_
    show Steps p.tables e below (T12.setTop (mkF m 14 #[.val (.ref r0), .val (.int z), .unset, .unset, .unset] [(.int (((32 : Int32) - (b2_0 z)) + (7 : Int32))), (.int (1 : Int32))])) _
    refine XS.bipush X12.here hx rfl (hb hby d1_14) ?_
    show Steps p.tables e below (T12.setTop (mkF m 16 #[.val (.ref r0), .val (.int z), .unset, .unset, .unset] [(.int (8 : Int32)), (.int (((32 : Int32) - (b2_0 z)) + (7 : Int32))), (.int (1 : Int32))])) _
    refine XS.idiv X12.here hx rfl (hb hby d1_16) rfl (by decide) ?_
    show Steps p.tables e below (T12.setTop (mkF m 17 #[.val (.ref r0), .val (.int z), .unset, .unset, .unset] [(.int ((((32 : Int32) - (b2_0 z)) + (7 : Int32)) / (8 : Int32))), (.int (1 : Int32))])) _
    refine st13 _ ?_
    show Steps p.tables e below (T13.setTop (mkF m 20 #[.val (.ref r0), .val (.int z), .unset, .unset, .unset] [(.int (b3_0 (1 : Int32) ((((32 : Int32) - (b2_0 z)) + (7 : Int32)) / (8 : Int32))))])) _
    refine XS.istoreN X13.here hx rfl (hb hby d1_20) rfl (l' := #[.val (.ref r0), .val (.int z), .val (.int (b3_0 (1 : Int32) ((((32 : Int32) - (b2_0 z)) + (7 : Int32)) / (8 : Int32)))), .unset, .unset]) rfl ?_
    exact k)
  obtain ⟨lb, hlb⟩ : ∃ y, y = (b3_0 (1 : Int32) ((((32 : Int32) - (b2_0 z)) + (7 : Int32)) / (8 : Int32))) := ⟨_, rfl⟩
  rw [← hlb] at pre14
  have hl := hlb.trans (own_lbz hz)
  rcases own_lb3 hl with ⟨rfl, hz1⟩ | ⟨rfl, hz1⟩ | ⟨rfl, hz1⟩
  · obtain ⟨T15, h15, k15, X15, e15, E15, A15, st15⟩ := newP X13 hx hZ (hw _ (List.mem_of_getElem? (i := 0) rfl)) eh13 (g := (mkF m 26 #[.val (.ref r0), .val (.int z), .val (.int (1 : Int32)), .unset, .unset] [(.int ((2 : Int32) + z))])) rfl (hb hby d1_26) rfl (own_ln (by decide : 1 ≤ (2 : Int32).toInt ∧ (2 : Int32).toInt ≤ 4) hz).2.1 (cap := 65542) (own_ln (by decide : 1 ≤ (2 : Int32).toInt ∧ (2 : Int32).toInt ≤ 4) hz).2.2.1 (by decide) (by decide) (by decide)
    obtain ⟨b15, gb15⟩ : ∃ z, z = h0.size := ⟨_, rfl⟩
    rw [← gb15] at A15 st15
    have ne16 : r0 ≠ b15 := Nat.ne_of_lt (Nat.lt_of_lt_of_le hp0.lt (Nat.le_of_eq gb15.symm))
    have g17 : n0 ≤ b15 := Nat.le_trans Z0 (Nat.le_of_eq gb15.symm)
    have z18 : h0.size ≤ b15 := Nat.le_trans (Keep.refl h0 []).1 (Nat.le_of_eq gb15.symm)
    have Z19 : n0 ≤ h15.size := Nat.le_trans Z0 E15.1
    have K20 : Keep h0 h15 [] := (Keep.refl h0 []).ext E15
    have V15 : AI Z h15 b15 .byte ((2 : Int32) + z) (fun _ => (0 : Int32)) := AI.new rfl A15 (own_ln (by decide : 1 ≤ (2 : Int32).toInt ∧ (2 : Int32).toInt ≤ 4) hz).2.1
    obtain ⟨cl21, Ar21, S21, M21, I21⟩ := id V15
    have hin21 : ¬ ((0 : Int32) < 0 ∨ cl21.slots.size ≤ ((0 : Int32)).toNatClampNeg) := inb_of S21 (own_in (by decide : 1 ≤ (2 : Int32).toInt ∧ (2 : Int32).toInt ≤ 4) hz (by decide))
    obtain ⟨T22, h22, X22, e22, W22, st22⟩ := stB X15 hx hZ e15 Ar21 (j := (0 : Int32)) hin21 (g := (mkF m 33 #[.val (.ref r0), .val (.int z), .val (.int (1 : Int32)), .val (.ref b15), .unset] [(.int ((1 : Int32).toInt8.toInt32)), (.int (0 : Int32)), (.ref b15)])) rfl rfl (hb hby d1_33)
    have V22 : AI Z h22 b15 .byte ((2 : Int32) + z) (fun i => if i = ((0 : Int32)).toNatClampNeg then (nar .byte ((1 : Int32).toInt8.toInt32)) else (fun _ => (0 : Int32)) i) := AI.set V15 W22
    have Z23 : n0 ≤ h22.size := Nat.le_trans Z19 (Keep.of_wr W22).1
    have K24 : Keep h0 h22 [] := K20.wr W22 (Or.inr z18)
    obtain ⟨lc22, X22, N22⟩ : ∃ lc, Stand p l e ({ frames := 1, cells := 1, slots := 65542, locals := 18 } : Room) s m #[(.ref r0)] below meth c T22 lc 1 65542 ∧ Fr n0 lc := ⟨_, X22, Fr.snoc X22 N13 g17⟩
    obtain ⟨cl25, Ar25, S25, M25, I25⟩ := id V22
    have hin25 : ¬ ((1 : Int32) < 0 ∨ cl25.slots.size ≤ ((1 : Int32)).toNatClampNeg) := inb_of S25 (own_in (by decide : 1 ≤ (2 : Int32).toInt ∧ (2 : Int32).toInt ≤ 4) hz (by decide))
    obtain ⟨T26, h26, X26, e26, W26, st26⟩ := stB X22 hx hZ e22 Ar25 (j := (1 : Int32)) hin25 (g := (mkF m 56 #[.val (.ref r0), .val (.int z), .val (.int (1 : Int32)), .val (.ref b15), .val (.int (1 : Int32))] [(.int (((z.toUInt32 >>> ((0 : Int32) &&& 31).toUInt32).toInt32).toInt8.toInt32)), (.int (1 : Int32)), (.ref b15)])) rfl rfl (hb hby d1_56)
    have V26 : AI Z h26 b15 .byte ((2 : Int32) + z) (fun i => if i = ((1 : Int32)).toNatClampNeg then (nar .byte (((z.toUInt32 >>> ((0 : Int32) &&& 31).toUInt32).toInt32).toInt8.toInt32)) else (fun i => if i = ((0 : Int32)).toNatClampNeg then (nar .byte ((1 : Int32).toInt8.toInt32)) else (fun _ => (0 : Int32)) i) i) := AI.set V22 W26
    have Z27 : n0 ≤ h26.size := Nat.le_trans Z23 (Keep.of_wr W26).1
    have K28 : Keep h0 h26 [] := K24.wr W26 (Or.inr z18)
    obtain ⟨lc26, X26, N26⟩ : ∃ lc, Stand p l e ({ frames := 1, cells := 1, slots := 65542, locals := 18 } : Room) s m #[(.ref r0)] below meth c T26 lc 1 65542 ∧ Fr n0 lc := ⟨_, X26, Fr.snoc X26 N22 g17⟩
    have V29 : AI Z h26 r0 .byte z f := (((hp0.ext E15).other W22 ne16).other W26 ne16)
    obtain ⟨T30, h30, lc30, X30, e30, N30, K30, V30, st30⟩ := own_copy X26 hx hZ hown (hw _ (List.mem_of_getElem? (i := 15) rfl)) (hw _ (List.mem_of_getElem? (i := 18) rfl)) (hw _ (List.mem_of_getElem? (i := 16) rfl)) (hw _ (List.mem_of_getElem? (i := 17) rfl)) e26 V29 V26 hfit (own_ff (fits_nar_byte _) (own_ff (fits_nar_byte _) (fun _ => rfl))) (sp := (0 : Int32)) (dp := (2 : Int32)) (nn := z) (by decide) (by decide) hz.1 (own_s0 _) (Nat.le_of_eq (own_ln (by decide : 1 ≤ (2 : Int32).toInt ∧ (2 : Int32).toInt ≤ 4) hz).2.2.2.symm) N26 g17 (g := (mkF m 70 #[.val (.ref r0), .val (.int z), .val (.int (1 : Int32)), .val (.ref b15), .val (.int (2 : Int32))] [(.int z), (.int (2 : Int32)), (.ref b15), (.int (0 : Int32)), (.ref r0)])) rfl (by rw [hml]; rfl) rfl (hb hby d1_70) (by decide) (W := 0) (by show 2 * 0 + _ ≤ _; exact Nat.le_of_eq rfl) (by decide)
    have Z31 : n0 ≤ h30.size := Nat.le_trans Z27 K30.1
    have K32 : Keep h0 h30 [] := K28.trans K30 (allS (Or.inr z18) all0)
    have eL : own_lb z = (1 : Int32) := by rw [own_lb, if_pos hz1]
    obtain ⟨fs, hr, hrun, hended, hW, hsame⟩ := X30.leave (v := some (.ref b15)) (fun h => by rw [Bd.returns] at h; cases h)
    refine ⟨_, _, pre14 _ ?_, hrun, hended, _, _, rfl, ?_, ⟨_, rfl⟩, hW, hsame.mono (by decide) (by decide)⟩
    · refine XS.iconst X13.here hx rfl (hb hby d1_21) ?_
      show Steps p.tables e below (T13.setTop (mkF m 22 #[.val (.ref r0), .val (.int z), .val (.int (1 : Int32)), .unset, .unset] [(.int (1 : Int32))])) _
      refine XS.iloadN X13.here hx rfl (hb hby d1_22) rfl ?_
      show Steps p.tables e below (T13.setTop (mkF m 23 #[.val (.ref r0), .val (.int z), .val (.int (1 : Int32)), .unset, .unset] [(.int (1 : Int32)), (.int (1 : Int32))])) _
      refine XS.iadd X13.here hx rfl (hb hby d1_23) rfl ?_
      show Steps p.tables e below (T13.setTop (mkF m 24 #[.val (.ref r0), .val (.int z), .val (.int (1 : Int32)), .unset, .unset] [(.int (2 : Int32))])) _
      refine XS.iloadN X13.here hx rfl (hb hby d1_24) rfl ?_
      show Steps p.tables e below (T13.setTop (mkF m 25 #[.val (.ref r0), .val (.int z), .val (.int (1 : Int32)), .unset, .unset] [(.int z), (.int (2 : Int32))])) _
      refine XS.iadd X13.here hx rfl (hb hby d1_25) rfl ?_
      show Steps p.tables e below (T13.setTop (mkF m 26 #[.val (.ref r0), .val (.int z), .val (.int (1 : Int32)), .unset, .unset] [(.int ((2 : Int32) + z))])) _
      refine st15 _ ?_
      show Steps p.tables e below (T15.setTop (mkF m 28 #[.val (.ref r0), .val (.int z), .val (.int (1 : Int32)), .unset, .unset] [(.ref b15)])) _
      refine XS.astoreN X15.here hx rfl (hb hby d1_28) rfl rfl (l' := #[.val (.ref r0), .val (.int z), .val (.int (1 : Int32)), .val (.ref b15), .unset]) rfl ?_
      show Steps p.tables e below (T15.setTop (mkF m 29 #[.val (.ref r0), .val (.int z), .val (.int (1 : Int32)), .val (.ref b15), .unset] [])) _
      refine XS.aloadN X15.here hx rfl (hb hby d1_29) rfl rfl ?_
      show Steps p.tables e below (T15.setTop (mkF m 30 #[.val (.ref r0), .val (.int z), .val (.int (1 : Int32)), .val (.ref b15), .unset] [(.ref b15)])) _
      refine XS.iconst X15.here hx rfl (hb hby d1_30) ?_
      show Steps p.tables e below (T15.setTop (mkF m 31 #[.val (.ref r0), .val (.int z), .val (.int (1 : Int32)), .val (.ref b15), .unset] [(.int (0 : Int32)), (.ref b15)])) _
      refine XS.iloadN X15.here hx rfl (hb hby d1_31) rfl ?_
      show Steps p.tables e below (T15.setTop (mkF m 32 #[.val (.ref r0), .val (.int z), .val (.int (1 : Int32)), .val (.ref b15), .unset] [(.int (1 : Int32)), (.int (0 : Int32)), (.ref b15)])) _
      refine XS.i2b X15.here hx rfl (hb hby d1_32) rfl ?_
      show Steps p.tables e below (T15.setTop (mkF m 33 #[.val (.ref r0), .val (.int z), .val (.int (1 : Int32)), .val (.ref b15), .unset] [(.int ((1 : Int32).toInt8.toInt32)), (.int (0 : Int32)), (.ref b15)])) _
      refine st22 _ ?_
      show Steps p.tables e below (T22.setTop (mkF m 34 #[.val (.ref r0), .val (.int z), .val (.int (1 : Int32)), .val (.ref b15), .unset] [])) _
      refine XS.iconst X22.here hx rfl (hb hby d1_34) ?_
      show Steps p.tables e below (T22.setTop (mkF m 35 #[.val (.ref r0), .val (.int z), .val (.int (1 : Int32)), .val (.ref b15), .unset] [(.int (1 : Int32))])) _
      refine XS.istore X22.here hx rfl (hb hby d1_35) rfl (l' := #[.val (.ref r0), .val (.int z), .val (.int (1 : Int32)), .val (.ref b15), .val (.int (1 : Int32))]) rfl ?_
      show Steps p.tables e below (T22.setTop (mkF m 37 #[.val (.ref r0), .val (.int z), .val (.int (1 : Int32)), .val (.ref b15), .val (.int (1 : Int32))] [])) _
      refine XS.iload X22.here hx rfl (hb hby d1_37) rfl ?_
      show Steps p.tables e below (T22.setTop (mkF m 39 #[.val (.ref r0), .val (.int z), .val (.int (1 : Int32)), .val (.ref b15), .val (.int (1 : Int32))] [(.int (1 : Int32))])) _
      refine XS.iloadN X22.here hx rfl (hb hby d1_39) rfl ?_
      show Steps p.tables e below (T22.setTop (mkF m 40 #[.val (.ref r0), .val (.int z), .val (.int (1 : Int32)), .val (.ref b15), .val (.int (1 : Int32))] [(.int (1 : Int32)), (.int (1 : Int32))])) _
      refine XS.icmpNo X22.here hx rfl (hb hby d1_40) rfl (flt (by decide : ¬ ((1 : Int32) < (1 : Int32)))).2.2.1 ?_
      show Steps p.tables e below (T22.setTop (mkF m 43 #[.val (.ref r0), .val (.int z), .val (.int (1 : Int32)), .val (.ref b15), .val (.int (1 : Int32))] [])) _
      refine XS.aloadN X22.here hx rfl (hb hby d1_43) rfl rfl ?_
      show Steps p.tables e below (T22.setTop (mkF m 44 #[.val (.ref r0), .val (.int z), .val (.int (1 : Int32)), .val (.ref b15), .val (.int (1 : Int32))] [(.ref b15)])) _
      refine XS.iload X22.here hx rfl (hb hby d1_44) rfl ?_
      show Steps p.tables e below (T22.setTop (mkF m 46 #[.val (.ref r0), .val (.int z), .val (.int (1 : Int32)), .val (.ref b15), .val (.int (1 : Int32))] [(.int (1 : Int32)), (.ref b15)])) _
      refine XS.iloadN X22.here hx rfl (hb hby d1_46) rfl ?_
      show Steps p.tables e below (T22.setTop (mkF m 47 #[.val (.ref r0), .val (.int z), .val (.int (1 : Int32)), .val (.ref b15), .val (.int (1 : Int32))] [(.int z), (.int (1 : Int32)), (.ref b15)])) _
      refine XS.bipush X22.here hx rfl (hb hby d1_47) ?_
      show Steps p.tables e below (T22.setTop (mkF m 49 #[.val (.ref r0), .val (.int z), .val (.int (1 : Int32)), .val (.ref b15), .val (.int (1 : Int32))] [(.int (8 : Int32)), (.int z), (.int (1 : Int32)), (.ref b15)])) _
      refine XS.iloadN X22.here hx rfl (hb hby d1_49) rfl ?_
      show Steps p.tables e below (T22.setTop (mkF m 50 #[.val (.ref r0), .val (.int z), .val (.int (1 : Int32)), .val (.ref b15), .val (.int (1 : Int32))] [(.int (1 : Int32)), (.int (8 : Int32)), (.int z), (.int (1 : Int32)), (.ref b15)])) _
      refine XS.iload X22.here hx rfl (hb hby d1_50) rfl ?_
      show Steps p.tables e below (T22.setTop (mkF m 52 #[.val (.ref r0), .val (.int z), .val (.int (1 : Int32)), .val (.ref b15), .val (.int (1 : Int32))] [(.int (1 : Int32)), (.int (1 : Int32)), (.int (8 : Int32)), (.int z), (.int (1 : Int32)), (.ref b15)])) _
      refine XS.isub X22.here hx rfl (hb hby d1_52) rfl ?_
      show Steps p.tables e below (T22.setTop (mkF m 53 #[.val (.ref r0), .val (.int z), .val (.int (1 : Int32)), .val (.ref b15), .val (.int (1 : Int32))] [(.int (0 : Int32)), (.int (8 : Int32)), (.int z), (.int (1 : Int32)), (.ref b15)])) _
      refine XS.imul X22.here hx rfl (hb hby d1_53) rfl ?_
      show Steps p.tables e below (T22.setTop (mkF m 54 #[.val (.ref r0), .val (.int z), .val (.int (1 : Int32)), .val (.ref b15), .val (.int (1 : Int32))] [(.int (0 : Int32)), (.int z), (.int (1 : Int32)), (.ref b15)])) _
      refine XS.iushr X22.here hx rfl (hb hby d1_54) rfl ?_
      show Steps p.tables e below (T22.setTop (mkF m 55 #[.val (.ref r0), .val (.int z), .val (.int (1 : Int32)), .val (.ref b15), .val (.int (1 : Int32))] [(.int ((z.toUInt32 >>> ((0 : Int32) &&& 31).toUInt32).toInt32)), (.int (1 : Int32)), (.ref b15)])) _
      refine XS.i2b X22.here hx rfl (hb hby d1_55) rfl ?_
      show Steps p.tables e below (T22.setTop (mkF m 56 #[.val (.ref r0), .val (.int z), .val (.int (1 : Int32)), .val (.ref b15), .val (.int (1 : Int32))] [(.int (((z.toUInt32 >>> ((0 : Int32) &&& 31).toUInt32).toInt32).toInt8.toInt32)), (.int (1 : Int32)), (.ref b15)])) _
      refine st26 _ ?_
      show Steps p.tables e below (T26.setTop (mkF m 57 #[.val (.ref r0), .val (.int z), .val (.int (1 : Int32)), .val (.ref b15), .val (.int (1 : Int32))] [])) _
      refine XS.iinc X26.here hx rfl (hb hby d1_57) rfl (l' := #[.val (.ref r0), .val (.int z), .val (.int (1 : Int32)), .val (.ref b15), .val (.int (2 : Int32))]) rfl ?_
      show Steps p.tables e below (T26.setTop (mkF m 60 #[.val (.ref r0), .val (.int z), .val (.int (1 : Int32)), .val (.ref b15), .val (.int (2 : Int32))] [])) _
      refine XS.goto X26.here hx rfl (pc0 := 60) (pc' := 37) rfl (hb hby d1_60) (by decide) (by decide) ?_
      show Steps p.tables e below (T26.setTop (mkF m 37 #[.val (.ref r0), .val (.int z), .val (.int (1 : Int32)), .val (.ref b15), .val (.int (2 : Int32))] [])) _
      refine XS.iload X26.here hx rfl (hb hby d1_37) rfl ?_
      show Steps p.tables e below (T26.setTop (mkF m 39 #[.val (.ref r0), .val (.int z), .val (.int (1 : Int32)), .val (.ref b15), .val (.int (2 : Int32))] [(.int (2 : Int32))])) _
      refine XS.iloadN X26.here hx rfl (hb hby d1_39) rfl ?_
      show Steps p.tables e below (T26.setTop (mkF m 40 #[.val (.ref r0), .val (.int z), .val (.int (1 : Int32)), .val (.ref b15), .val (.int (2 : Int32))] [(.int (1 : Int32)), (.int (2 : Int32))])) _
      refine XS.icmpYes X26.here hx rfl (pc0 := 40) (pc' := 63) rfl (hb hby d1_40) rfl (tlt (by decide : (1 : Int32) < (2 : Int32))).2.2.1 (by decide) (by decide) ?_
      show Steps p.tables e below (T26.setTop (mkF m 63 #[.val (.ref r0), .val (.int z), .val (.int (1 : Int32)), .val (.ref b15), .val (.int (2 : Int32))] [])) _
      refine XS.aloadN X26.here hx rfl (hb hby d1_63) rfl rfl ?_
      show Steps p.tables e below (T26.setTop (mkF m 64 #[.val (.ref r0), .val (.int z), .val (.int (1 : Int32)), .val (.ref b15), .val (.int (2 : Int32))] [(.ref r0)])) _
      refine XS.iconst X26.here hx rfl (hb hby d1_64) ?_
      show Steps p.tables e below (T26.setTop (mkF m 65 #[.val (.ref r0), .val (.int z), .val (.int (1 : Int32)), .val (.ref b15), .val (.int (2 : Int32))] [(.int (0 : Int32)), (.ref r0)])) _
      refine XS.aloadN X26.here hx rfl (hb hby d1_65) rfl rfl ?_
      show Steps p.tables e below (T26.setTop (mkF m 66 #[.val (.ref r0), .val (.int z), .val (.int (1 : Int32)), .val (.ref b15), .val (.int (2 : Int32))] [(.ref b15), (.int (0 : Int32)), (.ref r0)])) _
      refine XS.iconst X26.here hx rfl (hb hby d1_66) ?_
      show Steps p.tables e below (T26.setTop (mkF m 67 #[.val (.ref r0), .val (.int z), .val (.int (1 : Int32)), .val (.ref b15), .val (.int (2 : Int32))] [(.int (1 : Int32)), (.ref b15), (.int (0 : Int32)), (.ref r0)])) _
      refine XS.iloadN X26.here hx rfl (hb hby d1_67) rfl ?_
      show Steps p.tables e below (T26.setTop (mkF m 68 #[.val (.ref r0), .val (.int z), .val (.int (1 : Int32)), .val (.ref b15), .val (.int (2 : Int32))] [(.int (1 : Int32)), (.int (1 : Int32)), (.ref b15), (.int (0 : Int32)), (.ref r0)])) _
      refine XS.iadd X26.here hx rfl (hb hby d1_68) rfl ?_
      show Steps p.tables e below (T26.setTop (mkF m 69 #[.val (.ref r0), .val (.int z), .val (.int (1 : Int32)), .val (.ref b15), .val (.int (2 : Int32))] [(.int (2 : Int32)), (.ref b15), (.int (0 : Int32)), (.ref r0)])) _
      refine XS.iloadN X26.here hx rfl (hb hby d1_69) rfl ?_
      show Steps p.tables e below (T26.setTop (mkF m 70 #[.val (.ref r0), .val (.int z), .val (.int (1 : Int32)), .val (.ref b15), .val (.int (2 : Int32))] [(.int z), (.int (2 : Int32)), (.ref b15), (.int (0 : Int32)), (.ref r0)])) _
      refine st30 _ ?_
      show Steps p.tables e below (T30.setTop (mkF m 73 #[.val (.ref r0), .val (.int z), .val (.int (1 : Int32)), .val (.ref b15), .val (.int (2 : Int32))] [])) _
      refine XS.aloadN X30.here hx rfl (hb hby d1_73) rfl rfl ?_
      show Steps p.tables e below (T30.setTop (mkF m 74 #[.val (.ref r0), .val (.int z), .val (.int (1 : Int32)), .val (.ref b15), .val (.int (2 : Int32))] [(.ref b15)])) _
      exact retOut X30 hx Bd.returns rfl (Or.inr (Or.inr (Or.inr (Or.inr ⟨rfl, rfl, rfl⟩)))) (hb hby d1_74) hr
    · show Q1 Z _ _ _ h0 n0 _ T30.heap _
      rw [e30]
      refine ⟨b15, ((2 : Int32) + z), (fun i => if ((2 : Int32)).toNatClampNeg ≤ i ∧ i < ((2 : Int32)).toNatClampNeg + (z).toNatClampNeg then f (((0 : Int32)).toNatClampNeg + (i - ((2 : Int32)).toNatClampNeg)) else (fun i => if i = ((1 : Int32)).toNatClampNeg then (nar .byte (((z.toUInt32 >>> ((0 : Int32) &&& 31).toUInt32).toInt32).toInt8.toInt32)) else (fun i => if i = ((0 : Int32)).toNatClampNeg then (nar .byte ((1 : Int32).toInt8.toInt32)) else (fun _ => (0 : Int32)) i) i) i), rfl, N30, z18, K32, V30, ?_, ?_, ?_, ?_⟩
      · rw [eL]; rfl
      · rw [eL]; rfl
      · rw [eL]; intro i hi; exact own_P1 (k := (2 : Int32).toNatClampNeg) hi
      · exact ⟨fun _ => own_idem ((z.toUInt32 >>> ((0 : Int32) &&& 31).toUInt32).toInt32), fun h => absurd hz1 h.1, fun h => absurd hz1 h.1⟩
  · obtain ⟨T33, h33, k33, X33, e33, E33, A33, st33⟩ := newP X13 hx hZ (hw _ (List.mem_of_getElem? (i := 0) rfl)) eh13 (g := (mkF m 26 #[.val (.ref r0), .val (.int z), .val (.int (2 : Int32)), .unset, .unset] [(.int ((3 : Int32) + z))])) rfl (hb hby d1_26) rfl (own_ln (by decide : 1 ≤ (3 : Int32).toInt ∧ (3 : Int32).toInt ≤ 4) hz).2.1 (cap := 65542) (own_ln (by decide : 1 ≤ (3 : Int32).toInt ∧ (3 : Int32).toInt ≤ 4) hz).2.2.1 (by decide) (by decide) (by decide)
    obtain ⟨b33, gb33⟩ : ∃ z, z = h0.size := ⟨_, rfl⟩
    rw [← gb33] at A33 st33
    have ne34 : r0 ≠ b33 := Nat.ne_of_lt (Nat.lt_of_lt_of_le hp0.lt (Nat.le_of_eq gb33.symm))
    have g35 : n0 ≤ b33 := Nat.le_trans Z0 (Nat.le_of_eq gb33.symm)
    have z36 : h0.size ≤ b33 := Nat.le_trans (Keep.refl h0 []).1 (Nat.le_of_eq gb33.symm)
    have Z37 : n0 ≤ h33.size := Nat.le_trans Z0 E33.1
    have K38 : Keep h0 h33 [] := (Keep.refl h0 []).ext E33
    have V33 : AI Z h33 b33 .byte ((3 : Int32) + z) (fun _ => (0 : Int32)) := AI.new rfl A33 (own_ln (by decide : 1 ≤ (3 : Int32).toInt ∧ (3 : Int32).toInt ≤ 4) hz).2.1
    obtain ⟨cl39, Ar39, S39, M39, I39⟩ := id V33
    have hin39 : ¬ ((0 : Int32) < 0 ∨ cl39.slots.size ≤ ((0 : Int32)).toNatClampNeg) := inb_of S39 (own_in (by decide : 1 ≤ (3 : Int32).toInt ∧ (3 : Int32).toInt ≤ 4) hz (by decide))
    obtain ⟨T40, h40, X40, e40, W40, st40⟩ := stB X33 hx hZ e33 Ar39 (j := (0 : Int32)) hin39 (g := (mkF m 33 #[.val (.ref r0), .val (.int z), .val (.int (2 : Int32)), .val (.ref b33), .unset] [(.int ((2 : Int32).toInt8.toInt32)), (.int (0 : Int32)), (.ref b33)])) rfl rfl (hb hby d1_33)
    have V40 : AI Z h40 b33 .byte ((3 : Int32) + z) (fun i => if i = ((0 : Int32)).toNatClampNeg then (nar .byte ((2 : Int32).toInt8.toInt32)) else (fun _ => (0 : Int32)) i) := AI.set V33 W40
    have Z41 : n0 ≤ h40.size := Nat.le_trans Z37 (Keep.of_wr W40).1
    have K42 : Keep h0 h40 [] := K38.wr W40 (Or.inr z36)
    obtain ⟨lc40, X40, N40⟩ : ∃ lc, Stand p l e ({ frames := 1, cells := 1, slots := 65542, locals := 18 } : Room) s m #[(.ref r0)] below meth c T40 lc 1 65542 ∧ Fr n0 lc := ⟨_, X40, Fr.snoc X40 N13 g35⟩
    obtain ⟨cl43, Ar43, S43, M43, I43⟩ := id V40
    have hin43 : ¬ ((1 : Int32) < 0 ∨ cl43.slots.size ≤ ((1 : Int32)).toNatClampNeg) := inb_of S43 (own_in (by decide : 1 ≤ (3 : Int32).toInt ∧ (3 : Int32).toInt ≤ 4) hz (by decide))
    obtain ⟨T44, h44, X44, e44, W44, st44⟩ := stB X40 hx hZ e40 Ar43 (j := (1 : Int32)) hin43 (g := (mkF m 56 #[.val (.ref r0), .val (.int z), .val (.int (2 : Int32)), .val (.ref b33), .val (.int (1 : Int32))] [(.int (((z.toUInt32 >>> ((8 : Int32) &&& 31).toUInt32).toInt32).toInt8.toInt32)), (.int (1 : Int32)), (.ref b33)])) rfl rfl (hb hby d1_56)
    have V44 : AI Z h44 b33 .byte ((3 : Int32) + z) (fun i => if i = ((1 : Int32)).toNatClampNeg then (nar .byte (((z.toUInt32 >>> ((8 : Int32) &&& 31).toUInt32).toInt32).toInt8.toInt32)) else (fun i => if i = ((0 : Int32)).toNatClampNeg then (nar .byte ((2 : Int32).toInt8.toInt32)) else (fun _ => (0 : Int32)) i) i) := AI.set V40 W44
    have Z45 : n0 ≤ h44.size := Nat.le_trans Z41 (Keep.of_wr W44).1
    have K46 : Keep h0 h44 [] := K42.wr W44 (Or.inr z36)
    obtain ⟨lc44, X44, N44⟩ : ∃ lc, Stand p l e ({ frames := 1, cells := 1, slots := 65542, locals := 18 } : Room) s m #[(.ref r0)] below meth c T44 lc 1 65542 ∧ Fr n0 lc := ⟨_, X44, Fr.snoc X44 N40 g35⟩
    obtain ⟨cl47, Ar47, S47, M47, I47⟩ := id V44
    have hin47 : ¬ ((2 : Int32) < 0 ∨ cl47.slots.size ≤ ((2 : Int32)).toNatClampNeg) := inb_of S47 (own_in (by decide : 1 ≤ (3 : Int32).toInt ∧ (3 : Int32).toInt ≤ 4) hz (by decide))
    obtain ⟨T48, h48, X48, e48, W48, st48⟩ := stB X44 hx hZ e44 Ar47 (j := (2 : Int32)) hin47 (g := (mkF m 56 #[.val (.ref r0), .val (.int z), .val (.int (2 : Int32)), .val (.ref b33), .val (.int (2 : Int32))] [(.int (((z.toUInt32 >>> ((0 : Int32) &&& 31).toUInt32).toInt32).toInt8.toInt32)), (.int (2 : Int32)), (.ref b33)])) rfl rfl (hb hby d1_56)
    have V48 : AI Z h48 b33 .byte ((3 : Int32) + z) (fun i => if i = ((2 : Int32)).toNatClampNeg then (nar .byte (((z.toUInt32 >>> ((0 : Int32) &&& 31).toUInt32).toInt32).toInt8.toInt32)) else (fun i => if i = ((1 : Int32)).toNatClampNeg then (nar .byte (((z.toUInt32 >>> ((8 : Int32) &&& 31).toUInt32).toInt32).toInt8.toInt32)) else (fun i => if i = ((0 : Int32)).toNatClampNeg then (nar .byte ((2 : Int32).toInt8.toInt32)) else (fun _ => (0 : Int32)) i) i) i) := AI.set V44 W48
    have Z49 : n0 ≤ h48.size := Nat.le_trans Z45 (Keep.of_wr W48).1
    have K50 : Keep h0 h48 [] := K46.wr W48 (Or.inr z36)
    obtain ⟨lc48, X48, N48⟩ : ∃ lc, Stand p l e ({ frames := 1, cells := 1, slots := 65542, locals := 18 } : Room) s m #[(.ref r0)] below meth c T48 lc 1 65542 ∧ Fr n0 lc := ⟨_, X48, Fr.snoc X48 N44 g35⟩
    have V51 : AI Z h48 r0 .byte z f := ((((hp0.ext E33).other W40 ne34).other W44 ne34).other W48 ne34)
    obtain ⟨T52, h52, lc52, X52, e52, N52, K52, V52, st52⟩ := own_copy X48 hx hZ hown (hw _ (List.mem_of_getElem? (i := 15) rfl)) (hw _ (List.mem_of_getElem? (i := 18) rfl)) (hw _ (List.mem_of_getElem? (i := 16) rfl)) (hw _ (List.mem_of_getElem? (i := 17) rfl)) e48 V51 V48 hfit (own_ff (fits_nar_byte _) (own_ff (fits_nar_byte _) (own_ff (fits_nar_byte _) (fun _ => rfl)))) (sp := (0 : Int32)) (dp := (3 : Int32)) (nn := z) (by decide) (by decide) hz.1 (own_s0 _) (Nat.le_of_eq (own_ln (by decide : 1 ≤ (3 : Int32).toInt ∧ (3 : Int32).toInt ≤ 4) hz).2.2.2.symm) N48 g35 (g := (mkF m 70 #[.val (.ref r0), .val (.int z), .val (.int (2 : Int32)), .val (.ref b33), .val (.int (3 : Int32))] [(.int z), (.int (3 : Int32)), (.ref b33), (.int (0 : Int32)), (.ref r0)])) rfl (by rw [hml]; rfl) rfl (hb hby d1_70) (by decide) (W := 0) (by show 2 * 0 + _ ≤ _; exact Nat.le_of_eq rfl) (by decide)
    have Z53 : n0 ≤ h52.size := Nat.le_trans Z49 K52.1
    have K54 : Keep h0 h52 [] := K50.trans K52 (allS (Or.inr z36) all0)
    have eL : own_lb z = (2 : Int32) := by rw [own_lb, if_neg hz1.1, if_pos hz1.2]
    obtain ⟨fs, hr, hrun, hended, hW, hsame⟩ := X52.leave (v := some (.ref b33)) (fun h => by rw [Bd.returns] at h; cases h)
    refine ⟨_, _, pre14 _ ?_, hrun, hended, _, _, rfl, ?_, ⟨_, rfl⟩, hW, hsame.mono (by decide) (by decide)⟩
    · refine XS.iconst X13.here hx rfl (hb hby d1_21) ?_
      show Steps p.tables e below (T13.setTop (mkF m 22 #[.val (.ref r0), .val (.int z), .val (.int (2 : Int32)), .unset, .unset] [(.int (1 : Int32))])) _
      refine XS.iloadN X13.here hx rfl (hb hby d1_22) rfl ?_
      show Steps p.tables e below (T13.setTop (mkF m 23 #[.val (.ref r0), .val (.int z), .val (.int (2 : Int32)), .unset, .unset] [(.int (2 : Int32)), (.int (1 : Int32))])) _
      refine XS.iadd X13.here hx rfl (hb hby d1_23) rfl ?_
      show Steps p.tables e below (T13.setTop (mkF m 24 #[.val (.ref r0), .val (.int z), .val (.int (2 : Int32)), .unset, .unset] [(.int (3 : Int32))])) _
      refine XS.iloadN X13.here hx rfl (hb hby d1_24) rfl ?_
      show Steps p.tables e below (T13.setTop (mkF m 25 #[.val (.ref r0), .val (.int z), .val (.int (2 : Int32)), .unset, .unset] [(.int z), (.int (3 : Int32))])) _
      refine XS.iadd X13.here hx rfl (hb hby d1_25) rfl ?_
      show Steps p.tables e below (T13.setTop (mkF m 26 #[.val (.ref r0), .val (.int z), .val (.int (2 : Int32)), .unset, .unset] [(.int ((3 : Int32) + z))])) _
      refine st33 _ ?_
      show Steps p.tables e below (T33.setTop (mkF m 28 #[.val (.ref r0), .val (.int z), .val (.int (2 : Int32)), .unset, .unset] [(.ref b33)])) _
      refine XS.astoreN X33.here hx rfl (hb hby d1_28) rfl rfl (l' := #[.val (.ref r0), .val (.int z), .val (.int (2 : Int32)), .val (.ref b33), .unset]) rfl ?_
      show Steps p.tables e below (T33.setTop (mkF m 29 #[.val (.ref r0), .val (.int z), .val (.int (2 : Int32)), .val (.ref b33), .unset] [])) _
      refine XS.aloadN X33.here hx rfl (hb hby d1_29) rfl rfl ?_
      show Steps p.tables e below (T33.setTop (mkF m 30 #[.val (.ref r0), .val (.int z), .val (.int (2 : Int32)), .val (.ref b33), .unset] [(.ref b33)])) _
      refine XS.iconst X33.here hx rfl (hb hby d1_30) ?_
      show Steps p.tables e below (T33.setTop (mkF m 31 #[.val (.ref r0), .val (.int z), .val (.int (2 : Int32)), .val (.ref b33), .unset] [(.int (0 : Int32)), (.ref b33)])) _
      refine XS.iloadN X33.here hx rfl (hb hby d1_31) rfl ?_
      show Steps p.tables e below (T33.setTop (mkF m 32 #[.val (.ref r0), .val (.int z), .val (.int (2 : Int32)), .val (.ref b33), .unset] [(.int (2 : Int32)), (.int (0 : Int32)), (.ref b33)])) _
      refine XS.i2b X33.here hx rfl (hb hby d1_32) rfl ?_
      show Steps p.tables e below (T33.setTop (mkF m 33 #[.val (.ref r0), .val (.int z), .val (.int (2 : Int32)), .val (.ref b33), .unset] [(.int ((2 : Int32).toInt8.toInt32)), (.int (0 : Int32)), (.ref b33)])) _
      refine st40 _ ?_
      show Steps p.tables e below (T40.setTop (mkF m 34 #[.val (.ref r0), .val (.int z), .val (.int (2 : Int32)), .val (.ref b33), .unset] [])) _
      refine XS.iconst X40.here hx rfl (hb hby d1_34) ?_
      show Steps p.tables e below (T40.setTop (mkF m 35 #[.val (.ref r0), .val (.int z), .val (.int (2 : Int32)), .val (.ref b33), .unset] [(.int (1 : Int32))])) _
      refine XS.istore X40.here hx rfl (hb hby d1_35) rfl (l' := #[.val (.ref r0), .val (.int z), .val (.int (2 : Int32)), .val (.ref b33), .val (.int (1 : Int32))]) rfl ?_
      show Steps p.tables e below (T40.setTop (mkF m 37 #[.val (.ref r0), .val (.int z), .val (.int (2 : Int32)), .val (.ref b33), .val (.int (1 : Int32))] [])) _
      refine XS.iload X40.here hx rfl (hb hby d1_37) rfl ?_
      show Steps p.tables e below (T40.setTop (mkF m 39 #[.val (.ref r0), .val (.int z), .val (.int (2 : Int32)), .val (.ref b33), .val (.int (1 : Int32))] [(.int (1 : Int32))])) _
      refine XS.iloadN X40.here hx rfl (hb hby d1_39) rfl ?_
      show Steps p.tables e below (T40.setTop (mkF m 40 #[.val (.ref r0), .val (.int z), .val (.int (2 : Int32)), .val (.ref b33), .val (.int (1 : Int32))] [(.int (2 : Int32)), (.int (1 : Int32))])) _
      refine XS.icmpNo X40.here hx rfl (hb hby d1_40) rfl (flt (by decide : ¬ ((2 : Int32) < (1 : Int32)))).2.2.1 ?_
      show Steps p.tables e below (T40.setTop (mkF m 43 #[.val (.ref r0), .val (.int z), .val (.int (2 : Int32)), .val (.ref b33), .val (.int (1 : Int32))] [])) _
      refine XS.aloadN X40.here hx rfl (hb hby d1_43) rfl rfl ?_
      show Steps p.tables e below (T40.setTop (mkF m 44 #[.val (.ref r0), .val (.int z), .val (.int (2 : Int32)), .val (.ref b33), .val (.int (1 : Int32))] [(.ref b33)])) _
      refine XS.iload X40.here hx rfl (hb hby d1_44) rfl ?_
      show Steps p.tables e below (T40.setTop (mkF m 46 #[.val (.ref r0), .val (.int z), .val (.int (2 : Int32)), .val (.ref b33), .val (.int (1 : Int32))] [(.int (1 : Int32)), (.ref b33)])) _
      refine XS.iloadN X40.here hx rfl (hb hby d1_46) rfl ?_
      show Steps p.tables e below (T40.setTop (mkF m 47 #[.val (.ref r0), .val (.int z), .val (.int (2 : Int32)), .val (.ref b33), .val (.int (1 : Int32))] [(.int z), (.int (1 : Int32)), (.ref b33)])) _
      refine XS.bipush X40.here hx rfl (hb hby d1_47) ?_
      show Steps p.tables e below (T40.setTop (mkF m 49 #[.val (.ref r0), .val (.int z), .val (.int (2 : Int32)), .val (.ref b33), .val (.int (1 : Int32))] [(.int (8 : Int32)), (.int z), (.int (1 : Int32)), (.ref b33)])) _
      refine XS.iloadN X40.here hx rfl (hb hby d1_49) rfl ?_
      show Steps p.tables e below (T40.setTop (mkF m 50 #[.val (.ref r0), .val (.int z), .val (.int (2 : Int32)), .val (.ref b33), .val (.int (1 : Int32))] [(.int (2 : Int32)), (.int (8 : Int32)), (.int z), (.int (1 : Int32)), (.ref b33)])) _
      refine XS.iload X40.here hx rfl (hb hby d1_50) rfl ?_
      show Steps p.tables e below (T40.setTop (mkF m 52 #[.val (.ref r0), .val (.int z), .val (.int (2 : Int32)), .val (.ref b33), .val (.int (1 : Int32))] [(.int (1 : Int32)), (.int (2 : Int32)), (.int (8 : Int32)), (.int z), (.int (1 : Int32)), (.ref b33)])) _
      refine XS.isub X40.here hx rfl (hb hby d1_52) rfl ?_
      show Steps p.tables e below (T40.setTop (mkF m 53 #[.val (.ref r0), .val (.int z), .val (.int (2 : Int32)), .val (.ref b33), .val (.int (1 : Int32))] [(.int (1 : Int32)), (.int (8 : Int32)), (.int z), (.int (1 : Int32)), (.ref b33)])) _
      refine XS.imul X40.here hx rfl (hb hby d1_53) rfl ?_
      show Steps p.tables e below (T40.setTop (mkF m 54 #[.val (.ref r0), .val (.int z), .val (.int (2 : Int32)), .val (.ref b33), .val (.int (1 : Int32))] [(.int (8 : Int32)), (.int z), (.int (1 : Int32)), (.ref b33)])) _
      refine XS.iushr X40.here hx rfl (hb hby d1_54) rfl ?_
      show Steps p.tables e below (T40.setTop (mkF m 55 #[.val (.ref r0), .val (.int z), .val (.int (2 : Int32)), .val (.ref b33), .val (.int (1 : Int32))] [(.int ((z.toUInt32 >>> ((8 : Int32) &&& 31).toUInt32).toInt32)), (.int (1 : Int32)), (.ref b33)])) _
      refine XS.i2b X40.here hx rfl (hb hby d1_55) rfl ?_
      show Steps p.tables e below (T40.setTop (mkF m 56 #[.val (.ref r0), .val (.int z), .val (.int (2 : Int32)), .val (.ref b33), .val (.int (1 : Int32))] [(.int (((z.toUInt32 >>> ((8 : Int32) &&& 31).toUInt32).toInt32).toInt8.toInt32)), (.int (1 : Int32)), (.ref b33)])) _
      refine st44 _ ?_
      show Steps p.tables e below (T44.setTop (mkF m 57 #[.val (.ref r0), .val (.int z), .val (.int (2 : Int32)), .val (.ref b33), .val (.int (1 : Int32))] [])) _
      refine XS.iinc X44.here hx rfl (hb hby d1_57) rfl (l' := #[.val (.ref r0), .val (.int z), .val (.int (2 : Int32)), .val (.ref b33), .val (.int (2 : Int32))]) rfl ?_
      show Steps p.tables e below (T44.setTop (mkF m 60 #[.val (.ref r0), .val (.int z), .val (.int (2 : Int32)), .val (.ref b33), .val (.int (2 : Int32))] [])) _
      refine XS.goto X44.here hx rfl (pc0 := 60) (pc' := 37) rfl (hb hby d1_60) (by decide) (by decide) ?_
      show Steps p.tables e below (T44.setTop (mkF m 37 #[.val (.ref r0), .val (.int z), .val (.int (2 : Int32)), .val (.ref b33), .val (.int (2 : Int32))] [])) _
      refine XS.iload X44.here hx rfl (hb hby d1_37) rfl ?_
      show Steps p.tables e below (T44.setTop (mkF m 39 #[.val (.ref r0), .val (.int z), .val (.int (2 : Int32)), .val (.ref b33), .val (.int (2 : Int32))] [(.int (2 : Int32))])) _
      refine XS.iloadN X44.here hx rfl (hb hby d1_39) rfl ?_
      show Steps p.tables e below (T44.setTop (mkF m 40 #[.val (.ref r0), .val (.int z), .val (.int (2 : Int32)), .val (.ref b33), .val (.int (2 : Int32))] [(.int (2 : Int32)), (.int (2 : Int32))])) _
      refine XS.icmpNo X44.here hx rfl (hb hby d1_40) rfl (flt (by decide : ¬ ((2 : Int32) < (2 : Int32)))).2.2.1 ?_
      show Steps p.tables e below (T44.setTop (mkF m 43 #[.val (.ref r0), .val (.int z), .val (.int (2 : Int32)), .val (.ref b33), .val (.int (2 : Int32))] [])) _
      refine XS.aloadN X44.here hx rfl (hb hby d1_43) rfl rfl ?_
      show Steps p.tables e below (T44.setTop (mkF m 44 #[.val (.ref r0), .val (.int z), .val (.int (2 : Int32)), .val (.ref b33), .val (.int (2 : Int32))] [(.ref b33)])) _
      refine XS.iload X44.here hx rfl (hb hby d1_44) rfl ?_
      show Steps p.tables e below (T44.setTop (mkF m 46 #[.val (.ref r0), .val (.int z), .val (.int (2 : Int32)), .val (.ref b33), .val (.int (2 : Int32))] [(.int (2 : Int32)), (.ref b33)])) _
      refine XS.iloadN X44.here hx rfl (hb hby d1_46) rfl ?_
      show Steps p.tables e below (T44.setTop (mkF m 47 #[.val (.ref r0), .val (.int z), .val (.int (2 : Int32)), .val (.ref b33), .val (.int (2 : Int32))] [(.int z), (.int (2 : Int32)), (.ref b33)])) _
      refine XS.bipush X44.here hx rfl (hb hby d1_47) ?_
      show Steps p.tables e below (T44.setTop (mkF m 49 #[.val (.ref r0), .val (.int z), .val (.int (2 : Int32)), .val (.ref b33), .val (.int (2 : Int32))] [(.int (8 : Int32)), (.int z), (.int (2 : Int32)), (.ref b33)])) _
      refine XS.iloadN X44.here hx rfl (hb hby d1_49) rfl ?_
      show Steps p.tables e below (T44.setTop (mkF m 50 #[.val (.ref r0), .val (.int z), .val (.int (2 : Int32)), .val (.ref b33), .val (.int (2 : Int32))] [(.int (2 : Int32)), (.int (8 : Int32)), (.int z), (.int (2 : Int32)), (.ref b33)])) _
      refine XS.iload X44.here hx rfl (hb hby d1_50) rfl ?_
      show Steps p.tables e below (T44.setTop (mkF m 52 #[.val (.ref r0), .val (.int z), .val (.int (2 : Int32)), .val (.ref b33), .val (.int (2 : Int32))] [(.int (2 : Int32)), (.int (2 : Int32)), (.int (8 : Int32)), (.int z), (.int (2 : Int32)), (.ref b33)])) _
      refine XS.isub X44.here hx rfl (hb hby d1_52) rfl ?_
      show Steps p.tables e below (T44.setTop (mkF m 53 #[.val (.ref r0), .val (.int z), .val (.int (2 : Int32)), .val (.ref b33), .val (.int (2 : Int32))] [(.int (0 : Int32)), (.int (8 : Int32)), (.int z), (.int (2 : Int32)), (.ref b33)])) _
      refine XS.imul X44.here hx rfl (hb hby d1_53) rfl ?_
      show Steps p.tables e below (T44.setTop (mkF m 54 #[.val (.ref r0), .val (.int z), .val (.int (2 : Int32)), .val (.ref b33), .val (.int (2 : Int32))] [(.int (0 : Int32)), (.int z), (.int (2 : Int32)), (.ref b33)])) _
      refine XS.iushr X44.here hx rfl (hb hby d1_54) rfl ?_
      show Steps p.tables e below (T44.setTop (mkF m 55 #[.val (.ref r0), .val (.int z), .val (.int (2 : Int32)), .val (.ref b33), .val (.int (2 : Int32))] [(.int ((z.toUInt32 >>> ((0 : Int32) &&& 31).toUInt32).toInt32)), (.int (2 : Int32)), (.ref b33)])) _
      refine XS.i2b X44.here hx rfl (hb hby d1_55) rfl ?_
      show Steps p.tables e below (T44.setTop (mkF m 56 #[.val (.ref r0), .val (.int z), .val (.int (2 : Int32)), .val (.ref b33), .val (.int (2 : Int32))] [(.int (((z.toUInt32 >>> ((0 : Int32) &&& 31).toUInt32).toInt32).toInt8.toInt32)), (.int (2 : Int32)), (.ref b33)])) _
      refine st48 _ ?_
      show Steps p.tables e below (T48.setTop (mkF m 57 #[.val (.ref r0), .val (.int z), .val (.int (2 : Int32)), .val (.ref b33), .val (.int (2 : Int32))] [])) _
      refine XS.iinc X48.here hx rfl (hb hby d1_57) rfl (l' := #[.val (.ref r0), .val (.int z), .val (.int (2 : Int32)), .val (.ref b33), .val (.int (3 : Int32))]) rfl ?_
      show Steps p.tables e below (T48.setTop (mkF m 60 #[.val (.ref r0), .val (.int z), .val (.int (2 : Int32)), .val (.ref b33), .val (.int (3 : Int32))] [])) _
      refine XS.goto X48.here hx rfl (pc0 := 60) (pc' := 37) rfl (hb hby d1_60) (by decide) (by decide) ?_
      show Steps p.tables e below (T48.setTop (mkF m 37 #[.val (.ref r0), .val (.int z), .val (.int (2 : Int32)), .val (.ref b33), .val (.int (3 : Int32))] [])) _
      refine XS.iload X48.here hx rfl (hb hby d1_37) rfl ?_
      show Steps p.tables e below (T48.setTop (mkF m 39 #[.val (.ref r0), .val (.int z), .val (.int (2 : Int32)), .val (.ref b33), .val (.int (3 : Int32))] [(.int (3 : Int32))])) _
      refine XS.iloadN X48.here hx rfl (hb hby d1_39) rfl ?_
      show Steps p.tables e below (T48.setTop (mkF m 40 #[.val (.ref r0), .val (.int z), .val (.int (2 : Int32)), .val (.ref b33), .val (.int (3 : Int32))] [(.int (2 : Int32)), (.int (3 : Int32))])) _
      refine XS.icmpYes X48.here hx rfl (pc0 := 40) (pc' := 63) rfl (hb hby d1_40) rfl (tlt (by decide : (2 : Int32) < (3 : Int32))).2.2.1 (by decide) (by decide) ?_
      show Steps p.tables e below (T48.setTop (mkF m 63 #[.val (.ref r0), .val (.int z), .val (.int (2 : Int32)), .val (.ref b33), .val (.int (3 : Int32))] [])) _
      refine XS.aloadN X48.here hx rfl (hb hby d1_63) rfl rfl ?_
      show Steps p.tables e below (T48.setTop (mkF m 64 #[.val (.ref r0), .val (.int z), .val (.int (2 : Int32)), .val (.ref b33), .val (.int (3 : Int32))] [(.ref r0)])) _
      refine XS.iconst X48.here hx rfl (hb hby d1_64) ?_
      show Steps p.tables e below (T48.setTop (mkF m 65 #[.val (.ref r0), .val (.int z), .val (.int (2 : Int32)), .val (.ref b33), .val (.int (3 : Int32))] [(.int (0 : Int32)), (.ref r0)])) _
      refine XS.aloadN X48.here hx rfl (hb hby d1_65) rfl rfl ?_
      show Steps p.tables e below (T48.setTop (mkF m 66 #[.val (.ref r0), .val (.int z), .val (.int (2 : Int32)), .val (.ref b33), .val (.int (3 : Int32))] [(.ref b33), (.int (0 : Int32)), (.ref r0)])) _
      refine XS.iconst X48.here hx rfl (hb hby d1_66) ?_
      show Steps p.tables e below (T48.setTop (mkF m 67 #[.val (.ref r0), .val (.int z), .val (.int (2 : Int32)), .val (.ref b33), .val (.int (3 : Int32))] [(.int (1 : Int32)), (.ref b33), (.int (0 : Int32)), (.ref r0)])) _
      refine XS.iloadN X48.here hx rfl (hb hby d1_67) rfl ?_
      show Steps p.tables e below (T48.setTop (mkF m 68 #[.val (.ref r0), .val (.int z), .val (.int (2 : Int32)), .val (.ref b33), .val (.int (3 : Int32))] [(.int (2 : Int32)), (.int (1 : Int32)), (.ref b33), (.int (0 : Int32)), (.ref r0)])) _
      refine XS.iadd X48.here hx rfl (hb hby d1_68) rfl ?_
      show Steps p.tables e below (T48.setTop (mkF m 69 #[.val (.ref r0), .val (.int z), .val (.int (2 : Int32)), .val (.ref b33), .val (.int (3 : Int32))] [(.int (3 : Int32)), (.ref b33), (.int (0 : Int32)), (.ref r0)])) _
      refine XS.iloadN X48.here hx rfl (hb hby d1_69) rfl ?_
      show Steps p.tables e below (T48.setTop (mkF m 70 #[.val (.ref r0), .val (.int z), .val (.int (2 : Int32)), .val (.ref b33), .val (.int (3 : Int32))] [(.int z), (.int (3 : Int32)), (.ref b33), (.int (0 : Int32)), (.ref r0)])) _
      refine st52 _ ?_
      show Steps p.tables e below (T52.setTop (mkF m 73 #[.val (.ref r0), .val (.int z), .val (.int (2 : Int32)), .val (.ref b33), .val (.int (3 : Int32))] [])) _
      refine XS.aloadN X52.here hx rfl (hb hby d1_73) rfl rfl ?_
      show Steps p.tables e below (T52.setTop (mkF m 74 #[.val (.ref r0), .val (.int z), .val (.int (2 : Int32)), .val (.ref b33), .val (.int (3 : Int32))] [(.ref b33)])) _
      exact retOut X52 hx Bd.returns rfl (Or.inr (Or.inr (Or.inr (Or.inr ⟨rfl, rfl, rfl⟩)))) (hb hby d1_74) hr
    · show Q1 Z _ _ _ h0 n0 _ T52.heap _
      rw [e52]
      refine ⟨b33, ((3 : Int32) + z), (fun i => if ((3 : Int32)).toNatClampNeg ≤ i ∧ i < ((3 : Int32)).toNatClampNeg + (z).toNatClampNeg then f (((0 : Int32)).toNatClampNeg + (i - ((3 : Int32)).toNatClampNeg)) else (fun i => if i = ((2 : Int32)).toNatClampNeg then (nar .byte (((z.toUInt32 >>> ((0 : Int32) &&& 31).toUInt32).toInt32).toInt8.toInt32)) else (fun i => if i = ((1 : Int32)).toNatClampNeg then (nar .byte (((z.toUInt32 >>> ((8 : Int32) &&& 31).toUInt32).toInt32).toInt8.toInt32)) else (fun i => if i = ((0 : Int32)).toNatClampNeg then (nar .byte ((2 : Int32).toInt8.toInt32)) else (fun _ => (0 : Int32)) i) i) i) i), rfl, N52, z36, K54, V52, ?_, ?_, ?_, ?_⟩
      · rw [eL]; rfl
      · rw [eL]; rfl
      · rw [eL]; intro i hi; exact own_P1 (k := (3 : Int32).toNatClampNeg) hi
      · exact ⟨fun h => absurd h hz1.1, fun _ => ⟨own_idem ((z.toUInt32 >>> ((8 : Int32) &&& 31).toUInt32).toInt32), own_idem ((z.toUInt32 >>> ((0 : Int32) &&& 31).toUInt32).toInt32)⟩, fun h => absurd hz1.2 h.2⟩
  · obtain ⟨T55, h55, k55, X55, e55, E55, A55, st55⟩ := newP X13 hx hZ (hw _ (List.mem_of_getElem? (i := 0) rfl)) eh13 (g := (mkF m 26 #[.val (.ref r0), .val (.int z), .val (.int (3 : Int32)), .unset, .unset] [(.int ((4 : Int32) + z))])) rfl (hb hby d1_26) rfl (own_ln (by decide : 1 ≤ (4 : Int32).toInt ∧ (4 : Int32).toInt ≤ 4) hz).2.1 (cap := 65542) (own_ln (by decide : 1 ≤ (4 : Int32).toInt ∧ (4 : Int32).toInt ≤ 4) hz).2.2.1 (by decide) (by decide) (by decide)
    obtain ⟨b55, gb55⟩ : ∃ z, z = h0.size := ⟨_, rfl⟩
    rw [← gb55] at A55 st55
    have ne56 : r0 ≠ b55 := Nat.ne_of_lt (Nat.lt_of_lt_of_le hp0.lt (Nat.le_of_eq gb55.symm))
    have g57 : n0 ≤ b55 := Nat.le_trans Z0 (Nat.le_of_eq gb55.symm)
    have z58 : h0.size ≤ b55 := Nat.le_trans (Keep.refl h0 []).1 (Nat.le_of_eq gb55.symm)
    have Z59 : n0 ≤ h55.size := Nat.le_trans Z0 E55.1
    have K60 : Keep h0 h55 [] := (Keep.refl h0 []).ext E55
    have V55 : AI Z h55 b55 .byte ((4 : Int32) + z) (fun _ => (0 : Int32)) := AI.new rfl A55 (own_ln (by decide : 1 ≤ (4 : Int32).toInt ∧ (4 : Int32).toInt ≤ 4) hz).2.1
    obtain ⟨cl61, Ar61, S61, M61, I61⟩ := id V55
    have hin61 : ¬ ((0 : Int32) < 0 ∨ cl61.slots.size ≤ ((0 : Int32)).toNatClampNeg) := inb_of S61 (own_in (by decide : 1 ≤ (4 : Int32).toInt ∧ (4 : Int32).toInt ≤ 4) hz (by decide))
    obtain ⟨T62, h62, X62, e62, W62, st62⟩ := stB X55 hx hZ e55 Ar61 (j := (0 : Int32)) hin61 (g := (mkF m 33 #[.val (.ref r0), .val (.int z), .val (.int (3 : Int32)), .val (.ref b55), .unset] [(.int ((3 : Int32).toInt8.toInt32)), (.int (0 : Int32)), (.ref b55)])) rfl rfl (hb hby d1_33)
    have V62 : AI Z h62 b55 .byte ((4 : Int32) + z) (fun i => if i = ((0 : Int32)).toNatClampNeg then (nar .byte ((3 : Int32).toInt8.toInt32)) else (fun _ => (0 : Int32)) i) := AI.set V55 W62
    have Z63 : n0 ≤ h62.size := Nat.le_trans Z59 (Keep.of_wr W62).1
    have K64 : Keep h0 h62 [] := K60.wr W62 (Or.inr z58)
    obtain ⟨lc62, X62, N62⟩ : ∃ lc, Stand p l e ({ frames := 1, cells := 1, slots := 65542, locals := 18 } : Room) s m #[(.ref r0)] below meth c T62 lc 1 65542 ∧ Fr n0 lc := ⟨_, X62, Fr.snoc X62 N13 g57⟩
    obtain ⟨cl65, Ar65, S65, M65, I65⟩ := id V62
    have hin65 : ¬ ((1 : Int32) < 0 ∨ cl65.slots.size ≤ ((1 : Int32)).toNatClampNeg) := inb_of S65 (own_in (by decide : 1 ≤ (4 : Int32).toInt ∧ (4 : Int32).toInt ≤ 4) hz (by decide))
    obtain ⟨T66, h66, X66, e66, W66, st66⟩ := stB X62 hx hZ e62 Ar65 (j := (1 : Int32)) hin65 (g := (mkF m 56 #[.val (.ref r0), .val (.int z), .val (.int (3 : Int32)), .val (.ref b55), .val (.int (1 : Int32))] [(.int (((z.toUInt32 >>> ((16 : Int32) &&& 31).toUInt32).toInt32).toInt8.toInt32)), (.int (1 : Int32)), (.ref b55)])) rfl rfl (hb hby d1_56)
    have V66 : AI Z h66 b55 .byte ((4 : Int32) + z) (fun i => if i = ((1 : Int32)).toNatClampNeg then (nar .byte (((z.toUInt32 >>> ((16 : Int32) &&& 31).toUInt32).toInt32).toInt8.toInt32)) else (fun i => if i = ((0 : Int32)).toNatClampNeg then (nar .byte ((3 : Int32).toInt8.toInt32)) else (fun _ => (0 : Int32)) i) i) := AI.set V62 W66
    have Z67 : n0 ≤ h66.size := Nat.le_trans Z63 (Keep.of_wr W66).1
    have K68 : Keep h0 h66 [] := K64.wr W66 (Or.inr z58)
    obtain ⟨lc66, X66, N66⟩ : ∃ lc, Stand p l e ({ frames := 1, cells := 1, slots := 65542, locals := 18 } : Room) s m #[(.ref r0)] below meth c T66 lc 1 65542 ∧ Fr n0 lc := ⟨_, X66, Fr.snoc X66 N62 g57⟩
    obtain ⟨cl69, Ar69, S69, M69, I69⟩ := id V66
    have hin69 : ¬ ((2 : Int32) < 0 ∨ cl69.slots.size ≤ ((2 : Int32)).toNatClampNeg) := inb_of S69 (own_in (by decide : 1 ≤ (4 : Int32).toInt ∧ (4 : Int32).toInt ≤ 4) hz (by decide))
    obtain ⟨T70, h70, X70, e70, W70, st70⟩ := stB X66 hx hZ e66 Ar69 (j := (2 : Int32)) hin69 (g := (mkF m 56 #[.val (.ref r0), .val (.int z), .val (.int (3 : Int32)), .val (.ref b55), .val (.int (2 : Int32))] [(.int (((z.toUInt32 >>> ((8 : Int32) &&& 31).toUInt32).toInt32).toInt8.toInt32)), (.int (2 : Int32)), (.ref b55)])) rfl rfl (hb hby d1_56)
    have V70 : AI Z h70 b55 .byte ((4 : Int32) + z) (fun i => if i = ((2 : Int32)).toNatClampNeg then (nar .byte (((z.toUInt32 >>> ((8 : Int32) &&& 31).toUInt32).toInt32).toInt8.toInt32)) else (fun i => if i = ((1 : Int32)).toNatClampNeg then (nar .byte (((z.toUInt32 >>> ((16 : Int32) &&& 31).toUInt32).toInt32).toInt8.toInt32)) else (fun i => if i = ((0 : Int32)).toNatClampNeg then (nar .byte ((3 : Int32).toInt8.toInt32)) else (fun _ => (0 : Int32)) i) i) i) := AI.set V66 W70
    have Z71 : n0 ≤ h70.size := Nat.le_trans Z67 (Keep.of_wr W70).1
    have K72 : Keep h0 h70 [] := K68.wr W70 (Or.inr z58)
    obtain ⟨lc70, X70, N70⟩ : ∃ lc, Stand p l e ({ frames := 1, cells := 1, slots := 65542, locals := 18 } : Room) s m #[(.ref r0)] below meth c T70 lc 1 65542 ∧ Fr n0 lc := ⟨_, X70, Fr.snoc X70 N66 g57⟩
    obtain ⟨cl73, Ar73, S73, M73, I73⟩ := id V70
    have hin73 : ¬ ((3 : Int32) < 0 ∨ cl73.slots.size ≤ ((3 : Int32)).toNatClampNeg) := inb_of S73 (own_in (by decide : 1 ≤ (4 : Int32).toInt ∧ (4 : Int32).toInt ≤ 4) hz (by decide))
    obtain ⟨T74, h74, X74, e74, W74, st74⟩ := stB X70 hx hZ e70 Ar73 (j := (3 : Int32)) hin73 (g := (mkF m 56 #[.val (.ref r0), .val (.int z), .val (.int (3 : Int32)), .val (.ref b55), .val (.int (3 : Int32))] [(.int (((z.toUInt32 >>> ((0 : Int32) &&& 31).toUInt32).toInt32).toInt8.toInt32)), (.int (3 : Int32)), (.ref b55)])) rfl rfl (hb hby d1_56)
    have V74 : AI Z h74 b55 .byte ((4 : Int32) + z) (fun i => if i = ((3 : Int32)).toNatClampNeg then (nar .byte (((z.toUInt32 >>> ((0 : Int32) &&& 31).toUInt32).toInt32).toInt8.toInt32)) else (fun i => if i = ((2 : Int32)).toNatClampNeg then (nar .byte (((z.toUInt32 >>> ((8 : Int32) &&& 31).toUInt32).toInt32).toInt8.toInt32)) else (fun i => if i = ((1 : Int32)).toNatClampNeg then (nar .byte (((z.toUInt32 >>> ((16 : Int32) &&& 31).toUInt32).toInt32).toInt8.toInt32)) else (fun i => if i = ((0 : Int32)).toNatClampNeg then (nar .byte ((3 : Int32).toInt8.toInt32)) else (fun _ => (0 : Int32)) i) i) i) i) := AI.set V70 W74
    have Z75 : n0 ≤ h74.size := Nat.le_trans Z71 (Keep.of_wr W74).1
    have K76 : Keep h0 h74 [] := K72.wr W74 (Or.inr z58)
    obtain ⟨lc74, X74, N74⟩ : ∃ lc, Stand p l e ({ frames := 1, cells := 1, slots := 65542, locals := 18 } : Room) s m #[(.ref r0)] below meth c T74 lc 1 65542 ∧ Fr n0 lc := ⟨_, X74, Fr.snoc X74 N70 g57⟩
    have V77 : AI Z h74 r0 .byte z f := (((((hp0.ext E55).other W62 ne56).other W66 ne56).other W70 ne56).other W74 ne56)
    obtain ⟨T78, h78, lc78, X78, e78, N78, K78, V78, st78⟩ := own_copy X74 hx hZ hown (hw _ (List.mem_of_getElem? (i := 15) rfl)) (hw _ (List.mem_of_getElem? (i := 18) rfl)) (hw _ (List.mem_of_getElem? (i := 16) rfl)) (hw _ (List.mem_of_getElem? (i := 17) rfl)) e74 V77 V74 hfit (own_ff (fits_nar_byte _) (own_ff (fits_nar_byte _) (own_ff (fits_nar_byte _) (own_ff (fits_nar_byte _) (fun _ => rfl))))) (sp := (0 : Int32)) (dp := (4 : Int32)) (nn := z) (by decide) (by decide) hz.1 (own_s0 _) (Nat.le_of_eq (own_ln (by decide : 1 ≤ (4 : Int32).toInt ∧ (4 : Int32).toInt ≤ 4) hz).2.2.2.symm) N74 g57 (g := (mkF m 70 #[.val (.ref r0), .val (.int z), .val (.int (3 : Int32)), .val (.ref b55), .val (.int (4 : Int32))] [(.int z), (.int (4 : Int32)), (.ref b55), (.int (0 : Int32)), (.ref r0)])) rfl (by rw [hml]; rfl) rfl (hb hby d1_70) (by decide) (W := 0) (by show 2 * 0 + _ ≤ _; exact Nat.le_of_eq rfl) (by decide)
    have Z79 : n0 ≤ h78.size := Nat.le_trans Z75 K78.1
    have K80 : Keep h0 h78 [] := K76.trans K78 (allS (Or.inr z58) all0)
    have eL : own_lb z = (3 : Int32) := by rw [own_lb, if_neg hz1.1, if_neg hz1.2]
    obtain ⟨fs, hr, hrun, hended, hW, hsame⟩ := X78.leave (v := some (.ref b55)) (fun h => by rw [Bd.returns] at h; cases h)
    refine ⟨_, _, pre14 _ ?_, hrun, hended, _, _, rfl, ?_, ⟨_, rfl⟩, hW, hsame.mono (by decide) (by decide)⟩
    · refine XS.iconst X13.here hx rfl (hb hby d1_21) ?_
      show Steps p.tables e below (T13.setTop (mkF m 22 #[.val (.ref r0), .val (.int z), .val (.int (3 : Int32)), .unset, .unset] [(.int (1 : Int32))])) _
      refine XS.iloadN X13.here hx rfl (hb hby d1_22) rfl ?_
      show Steps p.tables e below (T13.setTop (mkF m 23 #[.val (.ref r0), .val (.int z), .val (.int (3 : Int32)), .unset, .unset] [(.int (3 : Int32)), (.int (1 : Int32))])) _
      refine XS.iadd X13.here hx rfl (hb hby d1_23) rfl ?_
      show Steps p.tables e below (T13.setTop (mkF m 24 #[.val (.ref r0), .val (.int z), .val (.int (3 : Int32)), .unset, .unset] [(.int (4 : Int32))])) _
      refine XS.iloadN X13.here hx rfl (hb hby d1_24) rfl ?_
      show Steps p.tables e below (T13.setTop (mkF m 25 #[.val (.ref r0), .val (.int z), .val (.int (3 : Int32)), .unset, .unset] [(.int z), (.int (4 : Int32))])) _
      refine XS.iadd X13.here hx rfl (hb hby d1_25) rfl ?_
      show Steps p.tables e below (T13.setTop (mkF m 26 #[.val (.ref r0), .val (.int z), .val (.int (3 : Int32)), .unset, .unset] [(.int ((4 : Int32) + z))])) _
      refine st55 _ ?_
      show Steps p.tables e below (T55.setTop (mkF m 28 #[.val (.ref r0), .val (.int z), .val (.int (3 : Int32)), .unset, .unset] [(.ref b55)])) _
      refine XS.astoreN X55.here hx rfl (hb hby d1_28) rfl rfl (l' := #[.val (.ref r0), .val (.int z), .val (.int (3 : Int32)), .val (.ref b55), .unset]) rfl ?_
      show Steps p.tables e below (T55.setTop (mkF m 29 #[.val (.ref r0), .val (.int z), .val (.int (3 : Int32)), .val (.ref b55), .unset] [])) _
      refine XS.aloadN X55.here hx rfl (hb hby d1_29) rfl rfl ?_
      show Steps p.tables e below (T55.setTop (mkF m 30 #[.val (.ref r0), .val (.int z), .val (.int (3 : Int32)), .val (.ref b55), .unset] [(.ref b55)])) _
      refine XS.iconst X55.here hx rfl (hb hby d1_30) ?_
      show Steps p.tables e below (T55.setTop (mkF m 31 #[.val (.ref r0), .val (.int z), .val (.int (3 : Int32)), .val (.ref b55), .unset] [(.int (0 : Int32)), (.ref b55)])) _
      refine XS.iloadN X55.here hx rfl (hb hby d1_31) rfl ?_
      show Steps p.tables e below (T55.setTop (mkF m 32 #[.val (.ref r0), .val (.int z), .val (.int (3 : Int32)), .val (.ref b55), .unset] [(.int (3 : Int32)), (.int (0 : Int32)), (.ref b55)])) _
      refine XS.i2b X55.here hx rfl (hb hby d1_32) rfl ?_
      show Steps p.tables e below (T55.setTop (mkF m 33 #[.val (.ref r0), .val (.int z), .val (.int (3 : Int32)), .val (.ref b55), .unset] [(.int ((3 : Int32).toInt8.toInt32)), (.int (0 : Int32)), (.ref b55)])) _
      refine st62 _ ?_
      show Steps p.tables e below (T62.setTop (mkF m 34 #[.val (.ref r0), .val (.int z), .val (.int (3 : Int32)), .val (.ref b55), .unset] [])) _
      refine XS.iconst X62.here hx rfl (hb hby d1_34) ?_
      show Steps p.tables e below (T62.setTop (mkF m 35 #[.val (.ref r0), .val (.int z), .val (.int (3 : Int32)), .val (.ref b55), .unset] [(.int (1 : Int32))])) _
      refine XS.istore X62.here hx rfl (hb hby d1_35) rfl (l' := #[.val (.ref r0), .val (.int z), .val (.int (3 : Int32)), .val (.ref b55), .val (.int (1 : Int32))]) rfl ?_
      show Steps p.tables e below (T62.setTop (mkF m 37 #[.val (.ref r0), .val (.int z), .val (.int (3 : Int32)), .val (.ref b55), .val (.int (1 : Int32))] [])) _
      refine XS.iload X62.here hx rfl (hb hby d1_37) rfl ?_
      show Steps p.tables e below (T62.setTop (mkF m 39 #[.val (.ref r0), .val (.int z), .val (.int (3 : Int32)), .val (.ref b55), .val (.int (1 : Int32))] [(.int (1 : Int32))])) _
      refine XS.iloadN X62.here hx rfl (hb hby d1_39) rfl ?_
      show Steps p.tables e below (T62.setTop (mkF m 40 #[.val (.ref r0), .val (.int z), .val (.int (3 : Int32)), .val (.ref b55), .val (.int (1 : Int32))] [(.int (3 : Int32)), (.int (1 : Int32))])) _
      refine XS.icmpNo X62.here hx rfl (hb hby d1_40) rfl (flt (by decide : ¬ ((3 : Int32) < (1 : Int32)))).2.2.1 ?_
      show Steps p.tables e below (T62.setTop (mkF m 43 #[.val (.ref r0), .val (.int z), .val (.int (3 : Int32)), .val (.ref b55), .val (.int (1 : Int32))] [])) _
      refine XS.aloadN X62.here hx rfl (hb hby d1_43) rfl rfl ?_
      show Steps p.tables e below (T62.setTop (mkF m 44 #[.val (.ref r0), .val (.int z), .val (.int (3 : Int32)), .val (.ref b55), .val (.int (1 : Int32))] [(.ref b55)])) _
      refine XS.iload X62.here hx rfl (hb hby d1_44) rfl ?_
      show Steps p.tables e below (T62.setTop (mkF m 46 #[.val (.ref r0), .val (.int z), .val (.int (3 : Int32)), .val (.ref b55), .val (.int (1 : Int32))] [(.int (1 : Int32)), (.ref b55)])) _
      refine XS.iloadN X62.here hx rfl (hb hby d1_46) rfl ?_
      show Steps p.tables e below (T62.setTop (mkF m 47 #[.val (.ref r0), .val (.int z), .val (.int (3 : Int32)), .val (.ref b55), .val (.int (1 : Int32))] [(.int z), (.int (1 : Int32)), (.ref b55)])) _
      refine XS.bipush X62.here hx rfl (hb hby d1_47) ?_
      show Steps p.tables e below (T62.setTop (mkF m 49 #[.val (.ref r0), .val (.int z), .val (.int (3 : Int32)), .val (.ref b55), .val (.int (1 : Int32))] [(.int (8 : Int32)), (.int z), (.int (1 : Int32)), (.ref b55)])) _
      refine XS.iloadN X62.here hx rfl (hb hby d1_49) rfl ?_
      show Steps p.tables e below (T62.setTop (mkF m 50 #[.val (.ref r0), .val (.int z), .val (.int (3 : Int32)), .val (.ref b55), .val (.int (1 : Int32))] [(.int (3 : Int32)), (.int (8 : Int32)), (.int z), (.int (1 : Int32)), (.ref b55)])) _
      refine XS.iload X62.here hx rfl (hb hby d1_50) rfl ?_
      show Steps p.tables e below (T62.setTop (mkF m 52 #[.val (.ref r0), .val (.int z), .val (.int (3 : Int32)), .val (.ref b55), .val (.int (1 : Int32))] [(.int (1 : Int32)), (.int (3 : Int32)), (.int (8 : Int32)), (.int z), (.int (1 : Int32)), (.ref b55)])) _
      refine XS.isub X62.here hx rfl (hb hby d1_52) rfl ?_
      show Steps p.tables e below (T62.setTop (mkF m 53 #[.val (.ref r0), .val (.int z), .val (.int (3 : Int32)), .val (.ref b55), .val (.int (1 : Int32))] [(.int (2 : Int32)), (.int (8 : Int32)), (.int z), (.int (1 : Int32)), (.ref b55)])) _
      refine XS.imul X62.here hx rfl (hb hby d1_53) rfl ?_
      show Steps p.tables e below (T62.setTop (mkF m 54 #[.val (.ref r0), .val (.int z), .val (.int (3 : Int32)), .val (.ref b55), .val (.int (1 : Int32))] [(.int (16 : Int32)), (.int z), (.int (1 : Int32)), (.ref b55)])) _
      refine XS.iushr X62.here hx rfl (hb hby d1_54) rfl ?_
      show Steps p.tables e below (T62.setTop (mkF m 55 #[.val (.ref r0), .val (.int z), .val (.int (3 : Int32)), .val (.ref b55), .val (.int (1 : Int32))] [(.int ((z.toUInt32 >>> ((16 : Int32) &&& 31).toUInt32).toInt32)), (.int (1 : Int32)), (.ref b55)])) _
      refine XS.i2b X62.here hx rfl (hb hby d1_55) rfl ?_
      show Steps p.tables e below (T62.setTop (mkF m 56 #[.val (.ref r0), .val (.int z), .val (.int (3 : Int32)), .val (.ref b55), .val (.int (1 : Int32))] [(.int (((z.toUInt32 >>> ((16 : Int32) &&& 31).toUInt32).toInt32).toInt8.toInt32)), (.int (1 : Int32)), (.ref b55)])) _
      refine st66 _ ?_
      show Steps p.tables e below (T66.setTop (mkF m 57 #[.val (.ref r0), .val (.int z), .val (.int (3 : Int32)), .val (.ref b55), .val (.int (1 : Int32))] [])) _
      refine XS.iinc X66.here hx rfl (hb hby d1_57) rfl (l' := #[.val (.ref r0), .val (.int z), .val (.int (3 : Int32)), .val (.ref b55), .val (.int (2 : Int32))]) rfl ?_
      show Steps p.tables e below (T66.setTop (mkF m 60 #[.val (.ref r0), .val (.int z), .val (.int (3 : Int32)), .val (.ref b55), .val (.int (2 : Int32))] [])) _
      refine XS.goto X66.here hx rfl (pc0 := 60) (pc' := 37) rfl (hb hby d1_60) (by decide) (by decide) ?_
      show Steps p.tables e below (T66.setTop (mkF m 37 #[.val (.ref r0), .val (.int z), .val (.int (3 : Int32)), .val (.ref b55), .val (.int (2 : Int32))] [])) _
      refine XS.iload X66.here hx rfl (hb hby d1_37) rfl ?_
      show Steps p.tables e below (T66.setTop (mkF m 39 #[.val (.ref r0), .val (.int z), .val (.int (3 : Int32)), .val (.ref b55), .val (.int (2 : Int32))] [(.int (2 : Int32))])) _
      refine XS.iloadN X66.here hx rfl (hb hby d1_39) rfl ?_
      show Steps p.tables e below (T66.setTop (mkF m 40 #[.val (.ref r0), .val (.int z), .val (.int (3 : Int32)), .val (.ref b55), .val (.int (2 : Int32))] [(.int (3 : Int32)), (.int (2 : Int32))])) _
      refine XS.icmpNo X66.here hx rfl (hb hby d1_40) rfl (flt (by decide : ¬ ((3 : Int32) < (2 : Int32)))).2.2.1 ?_
      show Steps p.tables e below (T66.setTop (mkF m 43 #[.val (.ref r0), .val (.int z), .val (.int (3 : Int32)), .val (.ref b55), .val (.int (2 : Int32))] [])) _
      refine XS.aloadN X66.here hx rfl (hb hby d1_43) rfl rfl ?_
      show Steps p.tables e below (T66.setTop (mkF m 44 #[.val (.ref r0), .val (.int z), .val (.int (3 : Int32)), .val (.ref b55), .val (.int (2 : Int32))] [(.ref b55)])) _
      refine XS.iload X66.here hx rfl (hb hby d1_44) rfl ?_
      show Steps p.tables e below (T66.setTop (mkF m 46 #[.val (.ref r0), .val (.int z), .val (.int (3 : Int32)), .val (.ref b55), .val (.int (2 : Int32))] [(.int (2 : Int32)), (.ref b55)])) _
      refine XS.iloadN X66.here hx rfl (hb hby d1_46) rfl ?_
      show Steps p.tables e below (T66.setTop (mkF m 47 #[.val (.ref r0), .val (.int z), .val (.int (3 : Int32)), .val (.ref b55), .val (.int (2 : Int32))] [(.int z), (.int (2 : Int32)), (.ref b55)])) _
      refine XS.bipush X66.here hx rfl (hb hby d1_47) ?_
      show Steps p.tables e below (T66.setTop (mkF m 49 #[.val (.ref r0), .val (.int z), .val (.int (3 : Int32)), .val (.ref b55), .val (.int (2 : Int32))] [(.int (8 : Int32)), (.int z), (.int (2 : Int32)), (.ref b55)])) _
      refine XS.iloadN X66.here hx rfl (hb hby d1_49) rfl ?_
      show Steps p.tables e below (T66.setTop (mkF m 50 #[.val (.ref r0), .val (.int z), .val (.int (3 : Int32)), .val (.ref b55), .val (.int (2 : Int32))] [(.int (3 : Int32)), (.int (8 : Int32)), (.int z), (.int (2 : Int32)), (.ref b55)])) _
      refine XS.iload X66.here hx rfl (hb hby d1_50) rfl ?_
      show Steps p.tables e below (T66.setTop (mkF m 52 #[.val (.ref r0), .val (.int z), .val (.int (3 : Int32)), .val (.ref b55), .val (.int (2 : Int32))] [(.int (2 : Int32)), (.int (3 : Int32)), (.int (8 : Int32)), (.int z), (.int (2 : Int32)), (.ref b55)])) _
      refine XS.isub X66.here hx rfl (hb hby d1_52) rfl ?_
      show Steps p.tables e below (T66.setTop (mkF m 53 #[.val (.ref r0), .val (.int z), .val (.int (3 : Int32)), .val (.ref b55), .val (.int (2 : Int32))] [(.int (1 : Int32)), (.int (8 : Int32)), (.int z), (.int (2 : Int32)), (.ref b55)])) _
      refine XS.imul X66.here hx rfl (hb hby d1_53) rfl ?_
      show Steps p.tables e below (T66.setTop (mkF m 54 #[.val (.ref r0), .val (.int z), .val (.int (3 : Int32)), .val (.ref b55), .val (.int (2 : Int32))] [(.int (8 : Int32)), (.int z), (.int (2 : Int32)), (.ref b55)])) _
      refine XS.iushr X66.here hx rfl (hb hby d1_54) rfl ?_
      show Steps p.tables e below (T66.setTop (mkF m 55 #[.val (.ref r0), .val (.int z), .val (.int (3 : Int32)), .val (.ref b55), .val (.int (2 : Int32))] [(.int ((z.toUInt32 >>> ((8 : Int32) &&& 31).toUInt32).toInt32)), (.int (2 : Int32)), (.ref b55)])) _
      refine XS.i2b X66.here hx rfl (hb hby d1_55) rfl ?_
      show Steps p.tables e below (T66.setTop (mkF m 56 #[.val (.ref r0), .val (.int z), .val (.int (3 : Int32)), .val (.ref b55), .val (.int (2 : Int32))] [(.int (((z.toUInt32 >>> ((8 : Int32) &&& 31).toUInt32).toInt32).toInt8.toInt32)), (.int (2 : Int32)), (.ref b55)])) _
      refine st70 _ ?_
      show Steps p.tables e below (T70.setTop (mkF m 57 #[.val (.ref r0), .val (.int z), .val (.int (3 : Int32)), .val (.ref b55), .val (.int (2 : Int32))] [])) _
      refine XS.iinc X70.here hx rfl (hb hby d1_57) rfl (l' := #[.val (.ref r0), .val (.int z), .val (.int (3 : Int32)), .val (.ref b55), .val (.int (3 : Int32))]) rfl ?_
      show Steps p.tables e below (T70.setTop (mkF m 60 #[.val (.ref r0), .val (.int z), .val (.int (3 : Int32)), .val (.ref b55), .val (.int (3 : Int32))] [])) _
      refine XS.goto X70.here hx rfl (pc0 := 60) (pc' := 37) rfl (hb hby d1_60) (by decide) (by decide) ?_
      show Steps p.tables e below (T70.setTop (mkF m 37 #[.val (.ref r0), .val (.int z), .val (.int (3 : Int32)), .val (.ref b55), .val (.int (3 : Int32))] [])) _
      refine XS.iload X70.here hx rfl (hb hby d1_37) rfl ?_
      show Steps p.tables e below (T70.setTop (mkF m 39 #[.val (.ref r0), .val (.int z), .val (.int (3 : Int32)), .val (.ref b55), .val (.int (3 : Int32))] [(.int (3 : Int32))])) _
      refine XS.iloadN X70.here hx rfl (hb hby d1_39) rfl ?_
      show Steps p.tables e below (T70.setTop (mkF m 40 #[.val (.ref r0), .val (.int z), .val (.int (3 : Int32)), .val (.ref b55), .val (.int (3 : Int32))] [(.int (3 : Int32)), (.int (3 : Int32))])) _
      refine XS.icmpNo X70.here hx rfl (hb hby d1_40) rfl (flt (by decide : ¬ ((3 : Int32) < (3 : Int32)))).2.2.1 ?_
      show Steps p.tables e below (T70.setTop (mkF m 43 #[.val (.ref r0), .val (.int z), .val (.int (3 : Int32)), .val (.ref b55), .val (.int (3 : Int32))] [])) _
      refine XS.aloadN X70.here hx rfl (hb hby d1_43) rfl rfl ?_
      show Steps p.tables e below (T70.setTop (mkF m 44 #[.val (.ref r0), .val (.int z), .val (.int (3 : Int32)), .val (.ref b55), .val (.int (3 : Int32))] [(.ref b55)])) _
      refine XS.iload X70.here hx rfl (hb hby d1_44) rfl ?_
      show Steps p.tables e below (T70.setTop (mkF m 46 #[.val (.ref r0), .val (.int z), .val (.int (3 : Int32)), .val (.ref b55), .val (.int (3 : Int32))] [(.int (3 : Int32)), (.ref b55)])) _
      refine XS.iloadN X70.here hx rfl (hb hby d1_46) rfl ?_
      show Steps p.tables e below (T70.setTop (mkF m 47 #[.val (.ref r0), .val (.int z), .val (.int (3 : Int32)), .val (.ref b55), .val (.int (3 : Int32))] [(.int z), (.int (3 : Int32)), (.ref b55)])) _
      refine XS.bipush X70.here hx rfl (hb hby d1_47) ?_
      show Steps p.tables e below (T70.setTop (mkF m 49 #[.val (.ref r0), .val (.int z), .val (.int (3 : Int32)), .val (.ref b55), .val (.int (3 : Int32))] [(.int (8 : Int32)), (.int z), (.int (3 : Int32)), (.ref b55)])) _
      refine XS.iloadN X70.here hx rfl (hb hby d1_49) rfl ?_
      show Steps p.tables e below (T70.setTop (mkF m 50 #[.val (.ref r0), .val (.int z), .val (.int (3 : Int32)), .val (.ref b55), .val (.int (3 : Int32))] [(.int (3 : Int32)), (.int (8 : Int32)), (.int z), (.int (3 : Int32)), (.ref b55)])) _
      refine XS.iload X70.here hx rfl (hb hby d1_50) rfl ?_
      show Steps p.tables e below (T70.setTop (mkF m 52 #[.val (.ref r0), .val (.int z), .val (.int (3 : Int32)), .val (.ref b55), .val (.int (3 : Int32))] [(.int (3 : Int32)), (.int (3 : Int32)), (.int (8 : Int32)), (.int z), (.int (3 : Int32)), (.ref b55)])) _
      refine XS.isub X70.here hx rfl (hb hby d1_52) rfl ?_
      show Steps p.tables e below (T70.setTop (mkF m 53 #[.val (.ref r0), .val (.int z), .val (.int (3 : Int32)), .val (.ref b55), .val (.int (3 : Int32))] [(.int (0 : Int32)), (.int (8 : Int32)), (.int z), (.int (3 : Int32)), (.ref b55)])) _
      refine XS.imul X70.here hx rfl (hb hby d1_53) rfl ?_
      show Steps p.tables e below (T70.setTop (mkF m 54 #[.val (.ref r0), .val (.int z), .val (.int (3 : Int32)), .val (.ref b55), .val (.int (3 : Int32))] [(.int (0 : Int32)), (.int z), (.int (3 : Int32)), (.ref b55)])) _
      refine XS.iushr X70.here hx rfl (hb hby d1_54) rfl ?_
      show Steps p.tables e below (T70.setTop (mkF m 55 #[.val (.ref r0), .val (.int z), .val (.int (3 : Int32)), .val (.ref b55), .val (.int (3 : Int32))] [(.int ((z.toUInt32 >>> ((0 : Int32) &&& 31).toUInt32).toInt32)), (.int (3 : Int32)), (.ref b55)])) _
      refine XS.i2b X70.here hx rfl (hb hby d1_55) rfl ?_
      show Steps p.tables e below (T70.setTop (mkF m 56 #[.val (.ref r0), .val (.int z), .val (.int (3 : Int32)), .val (.ref b55), .val (.int (3 : Int32))] [(.int (((z.toUInt32 >>> ((0 : Int32) &&& 31).toUInt32).toInt32).toInt8.toInt32)), (.int (3 : Int32)), (.ref b55)])) _
      refine st74 _ ?_
      show Steps p.tables e below (T74.setTop (mkF m 57 #[.val (.ref r0), .val (.int z), .val (.int (3 : Int32)), .val (.ref b55), .val (.int (3 : Int32))] [])) _
      refine XS.iinc X74.here hx rfl (hb hby d1_57) rfl (l' := #[.val (.ref r0), .val (.int z), .val (.int (3 : Int32)), .val (.ref b55), .val (.int (4 : Int32))]) rfl ?_
      show Steps p.tables e below (T74.setTop (mkF m 60 #[.val (.ref r0), .val (.int z), .val (.int (3 : Int32)), .val (.ref b55), .val (.int (4 : Int32))] [])) _
      refine XS.goto X74.here hx rfl (pc0 := 60) (pc' := 37) rfl (hb hby d1_60) (by decide) (by decide) ?_
      show Steps p.tables e below (T74.setTop (mkF m 37 #[.val (.ref r0), .val (.int z), .val (.int (3 : Int32)), .val (.ref b55), .val (.int (4 : Int32))] [])) _
      refine XS.iload X74.here hx rfl (hb hby d1_37) rfl ?_
      show Steps p.tables e below (T74.setTop (mkF m 39 #[.val (.ref r0), .val (.int z), .val (.int (3 : Int32)), .val (.ref b55), .val (.int (4 : Int32))] [(.int (4 : Int32))])) _
      refine XS.iloadN X74.here hx rfl (hb hby d1_39) rfl ?_
      show Steps p.tables e below (T74.setTop (mkF m 40 #[.val (.ref r0), .val (.int z), .val (.int (3 : Int32)), .val (.ref b55), .val (.int (4 : Int32))] [(.int (3 : Int32)), (.int (4 : Int32))])) _
      refine XS.icmpYes X74.here hx rfl (pc0 := 40) (pc' := 63) rfl (hb hby d1_40) rfl (tlt (by decide : (3 : Int32) < (4 : Int32))).2.2.1 (by decide) (by decide) ?_
      show Steps p.tables e below (T74.setTop (mkF m 63 #[.val (.ref r0), .val (.int z), .val (.int (3 : Int32)), .val (.ref b55), .val (.int (4 : Int32))] [])) _
      refine XS.aloadN X74.here hx rfl (hb hby d1_63) rfl rfl ?_
      show Steps p.tables e below (T74.setTop (mkF m 64 #[.val (.ref r0), .val (.int z), .val (.int (3 : Int32)), .val (.ref b55), .val (.int (4 : Int32))] [(.ref r0)])) _
      refine XS.iconst X74.here hx rfl (hb hby d1_64) ?_
      show Steps p.tables e below (T74.setTop (mkF m 65 #[.val (.ref r0), .val (.int z), .val (.int (3 : Int32)), .val (.ref b55), .val (.int (4 : Int32))] [(.int (0 : Int32)), (.ref r0)])) _
      refine XS.aloadN X74.here hx rfl (hb hby d1_65) rfl rfl ?_
      show Steps p.tables e below (T74.setTop (mkF m 66 #[.val (.ref r0), .val (.int z), .val (.int (3 : Int32)), .val (.ref b55), .val (.int (4 : Int32))] [(.ref b55), (.int (0 : Int32)), (.ref r0)])) _
      refine XS.iconst X74.here hx rfl (hb hby d1_66) ?_
      show Steps p.tables e below (T74.setTop (mkF m 67 #[.val (.ref r0), .val (.int z), .val (.int (3 : Int32)), .val (.ref b55), .val (.int (4 : Int32))] [(.int (1 : Int32)), (.ref b55), (.int (0 : Int32)), (.ref r0)])) _
      refine XS.iloadN X74.here hx rfl (hb hby d1_67) rfl ?_
      show Steps p.tables e below (T74.setTop (mkF m 68 #[.val (.ref r0), .val (.int z), .val (.int (3 : Int32)), .val (.ref b55), .val (.int (4 : Int32))] [(.int (3 : Int32)), (.int (1 : Int32)), (.ref b55), (.int (0 : Int32)), (.ref r0)])) _
      refine XS.iadd X74.here hx rfl (hb hby d1_68) rfl ?_
      show Steps p.tables e below (T74.setTop (mkF m 69 #[.val (.ref r0), .val (.int z), .val (.int (3 : Int32)), .val (.ref b55), .val (.int (4 : Int32))] [(.int (4 : Int32)), (.ref b55), (.int (0 : Int32)), (.ref r0)])) _
      refine XS.iloadN X74.here hx rfl (hb hby d1_69) rfl ?_
      show Steps p.tables e below (T74.setTop (mkF m 70 #[.val (.ref r0), .val (.int z), .val (.int (3 : Int32)), .val (.ref b55), .val (.int (4 : Int32))] [(.int z), (.int (4 : Int32)), (.ref b55), (.int (0 : Int32)), (.ref r0)])) _
      refine st78 _ ?_
      show Steps p.tables e below (T78.setTop (mkF m 73 #[.val (.ref r0), .val (.int z), .val (.int (3 : Int32)), .val (.ref b55), .val (.int (4 : Int32))] [])) _
      refine XS.aloadN X78.here hx rfl (hb hby d1_73) rfl rfl ?_
      show Steps p.tables e below (T78.setTop (mkF m 74 #[.val (.ref r0), .val (.int z), .val (.int (3 : Int32)), .val (.ref b55), .val (.int (4 : Int32))] [(.ref b55)])) _
      exact retOut X78 hx Bd.returns rfl (Or.inr (Or.inr (Or.inr (Or.inr ⟨rfl, rfl, rfl⟩)))) (hb hby d1_74) hr
    · show Q1 Z _ _ _ h0 n0 _ T78.heap _
      rw [e78]
      refine ⟨b55, ((4 : Int32) + z), (fun i => if ((4 : Int32)).toNatClampNeg ≤ i ∧ i < ((4 : Int32)).toNatClampNeg + (z).toNatClampNeg then f (((0 : Int32)).toNatClampNeg + (i - ((4 : Int32)).toNatClampNeg)) else (fun i => if i = ((3 : Int32)).toNatClampNeg then (nar .byte (((z.toUInt32 >>> ((0 : Int32) &&& 31).toUInt32).toInt32).toInt8.toInt32)) else (fun i => if i = ((2 : Int32)).toNatClampNeg then (nar .byte (((z.toUInt32 >>> ((8 : Int32) &&& 31).toUInt32).toInt32).toInt8.toInt32)) else (fun i => if i = ((1 : Int32)).toNatClampNeg then (nar .byte (((z.toUInt32 >>> ((16 : Int32) &&& 31).toUInt32).toInt32).toInt8.toInt32)) else (fun i => if i = ((0 : Int32)).toNatClampNeg then (nar .byte ((3 : Int32).toInt8.toInt32)) else (fun _ => (0 : Int32)) i) i) i) i) i), rfl, N78, z58, K80, V78, ?_, ?_, ?_, ?_⟩
      · rw [eL]; rfl
      · rw [eL]; rfl
      · rw [eL]; intro i hi; exact own_P1 (k := (4 : Int32).toNatClampNeg) hi
      · exact ⟨fun h => absurd h hz1.1, fun h => absurd h.2 hz1.2, fun _ => ⟨own_idem ((z.toUInt32 >>> ((16 : Int32) &&& 31).toUInt32).toInt32), own_idem ((z.toUInt32 >>> ((8 : Int32) &&& 31).toUInt32).toInt32), own_idem ((z.toUInt32 >>> ((0 : Int32) &&& 31).toUInt32).toInt32)⟩⟩
theorem own_nB {q : Prop} [Decidable q] {p1 nn : Int32} (h : nn = (if q then (p1 &&& (511 : Int32)) else ((65535 : Int32) + (p1 &&& (3 : Int32))))) : ¬ nn < (0 : Int32) ∧ ¬ (65538 : Int32) < nn := by
  have e0 : (0 : Int32).toInt = 0 := by decide
  have e1 : (65538 : Int32).toInt = 65538 := by decide
  have e2 : (65535 : Int32).toInt = 65535 := by decide
  rw [Int32.lt_iff_toInt_lt, Int32.lt_iff_toInt_lt, h]
  split
  · have a := c_mask p1 511 9 (by decide) (by decide)
    omega
  · have a := c_mask p1 3 2 (by decide) (by decide)
    have b := c_iadd (65535 : Int32) (p1 &&& (3 : Int32))
    have r := rng32 ((65535 : Int32) + (p1 &&& (3 : Int32)))
    omega
theorem own_cp {nn : Int32} (h : ¬ nn < (0 : Int32) ∧ ¬ (65538 : Int32) < nn) : nn.toNatClampNeg ≤ 65538 := by
  have e1 : (65538 : Int32).toInt = 65538 := by decide
  have a := own_nn h.1
  have h2 := h.2
  rw [Int32.lt_iff_toInt_lt] at h2
  omega
theorem own_nz {nn : Int32} (h : (0 : Int32) < nn) : nn ≠ 0 := fun e => by rw [e] at h; exact absurd h (by decide)
theorem own_z0 {nn : Int32} (h : ¬ (0 : Int32) < nn) (B : ¬ nn < (0 : Int32) ∧ ¬ (65538 : Int32) < nn) : nn = (0 : Int32) := by
  have e0 : (0 : Int32).toInt = 0 := by decide
  have b := B.1
  rw [Int32.lt_iff_toInt_lt] at h b
  exact Int32.toInt_inj.mp (by omega)
theorem own_kk {nn : Int32} (h : (0 : Int32) < nn) (x : Int32) : ¬ ((x &&& (2147483647 : Int32)) % nn) < 0 ∧ ((x &&& (2147483647 : Int32)) % nn) < nn := by
  have e0 : (0 : Int32).toInt = 0 := by decide
  have a := c_mask x 2147483647 31 (by decide) (by decide)
  have r := rng32 x
  rw [Int32.lt_iff_toInt_lt] at h
  have b := (c_iremV (x &&& (2147483647 : Int32)) nn).1 (by omega) (by omega)
  rw [Int32.lt_iff_toInt_lt, Int32.lt_iff_toInt_lt]
  omega
theorem own_n1 {nn : Int32} (h : (0 : Int32) < nn) : ¬ (nn - (1 : Int32)) < 0 ∧ (nn - (1 : Int32)) < nn := by
  have e0 : (0 : Int32).toInt = 0 := by decide
  have e1 : (1 : Int32).toInt = 1 := by decide
  have a := c_isub nn 1
  have r := rng32 nn
  have r2 := rng32 (nn - 1)
  rw [Int32.lt_iff_toInt_lt] at h
  rw [Int32.lt_iff_toInt_lt, Int32.lt_iff_toInt_lt]
  omega
theorem own_x0 (z : Int32) : (z.toUInt32 >>> ((0 : Int32) &&& 31).toUInt32).toInt32 = z := by
  rw [show ((0 : Int32) &&& 31).toUInt32 = 0 from by decide, UInt32.shiftRight_zero]; exact Int32.toInt32_toUInt32 z
theorem own_by (x : Int32) : ((x.toInt8.toInt32) &&& (255 : Int32)).toInt = x.toInt % 256 := by
  have a := c_mask (x.toInt8.toInt32) 255 8 (by decide) (by decide)
  have b := c_i2b x
  omega
theorem own_y0 (z : Int32) : ((own_sb z (0 : Int32)) &&& (255 : Int32)).toInt = z.toInt % 256 := by rw [own_sb, own_x0]; exact own_by z
theorem own_y8 {z : Int32} (h : ¬ z < (0 : Int32)) : ((own_sb z (8 : Int32)) &&& (255 : Int32)).toInt = z.toInt / 256 % 256 := by
  have a := c_iushr z 8 8 (by decide) (by decide)
  have r := rng32 z
  have n := own_nn h
  rw [own_sb, own_by, a]
  omega
theorem own_y16 {z : Int32} (h : ¬ z < (0 : Int32)) : ((own_sb z (16 : Int32)) &&& (255 : Int32)).toInt = z.toInt / 65536 % 256 := by
  have a := c_iushr z 16 16 (by decide) (by decide)
  have r := rng32 z
  have n := own_nn h
  rw [own_sb, own_by, a]
  omega
theorem own_d1 {z : Int32} (B : ¬ z < (0 : Int32) ∧ ¬ (65538 : Int32) < z) (h : z < (256 : Int32)) : ((own_sb z (0 : Int32)) &&& (255 : Int32)) = z := by
  have n := own_nn B.1
  have e : (256 : Int32).toInt = 256 := by decide
  rw [Int32.lt_iff_toInt_lt] at h
  apply Int32.toInt_inj.mp
  rw [own_y0]; omega
theorem own_d2 {z : Int32} (B : ¬ z < (0 : Int32) ∧ ¬ (65538 : Int32) < z) (h : ¬ z < (256 : Int32) ∧ z < (65536 : Int32)) : ((((own_sb z (8 : Int32)) &&& (255 : Int32)) <<< ((8 : Int32) &&& 31)) ||| ((own_sb z (0 : Int32)) &&& (255 : Int32))) = z := by
  have n := own_nn B.1
  have e : (65536 : Int32).toInt = 65536 := by decide
  have h2 := h.2
  rw [Int32.lt_iff_toInt_lt] at h2
  have y0 := own_y0 z
  have y8 := own_y8 B.1
  generalize (own_sb z (8 : Int32)) &&& (255 : Int32) = u at *
  generalize (own_sb z (0 : Int32)) &&& (255 : Int32) = v at *
  have s := c_ishl u 8 8 (by decide)
  generalize u <<< ((8 : Int32) &&& 31) = w at *
  have rw_ := rng32 w
  have o := c_or w v 8 (by decide) 256 (by decide) (by omega) (by omega) (by omega)
  have r := rng32 (w ||| v)
  apply Int32.toInt_inj.mp
  omega
theorem own_d3 {z : Int32} (B : ¬ z < (0 : Int32) ∧ ¬ (65538 : Int32) < z) : (((((own_sb z (16 : Int32)) &&& (255 : Int32)) <<< ((16 : Int32) &&& 31)) ||| (((own_sb z (8 : Int32)) &&& (255 : Int32)) <<< ((8 : Int32) &&& 31))) ||| ((own_sb z (0 : Int32)) &&& (255 : Int32))) = z := by
  have n := own_nn B.1
  have e : (65538 : Int32).toInt = 65538 := by decide
  have h2 := B.2
  rw [Int32.lt_iff_toInt_lt] at h2
  have y0 := own_y0 z
  have y8 := own_y8 B.1
  have y16 := own_y16 B.1
  generalize (own_sb z (16 : Int32)) &&& (255 : Int32) = t at *
  generalize (own_sb z (8 : Int32)) &&& (255 : Int32) = u at *
  generalize (own_sb z (0 : Int32)) &&& (255 : Int32) = v at *
  have s16 := c_ishl t 16 16 (by decide)
  have s8 := c_ishl u 8 8 (by decide)
  generalize t <<< ((16 : Int32) &&& 31) = a at *
  generalize u <<< ((8 : Int32) &&& 31) = b at *
  have ra := rng32 a
  have rb := rng32 b
  have o1 := c_or a b 16 (by decide) 65536 (by decide) (by omega) (by omega) (by omega)
  have r1 := rng32 (a ||| b)
  generalize a ||| b = d at *
  have o2 := c_or d v 8 (by decide) 256 (by decide) (by omega) (by omega) (by omega)
  have r2 := rng32 (d ||| v)
  apply Int32.toInt_inj.mp
  omega
theorem own_ik {k x nn : Int32} (hk : 1 ≤ k.toInt ∧ k.toInt ≤ 4) (B : ¬ nn < (0 : Int32) ∧ ¬ (65538 : Int32) < nn) (hx : ¬ x < 0 ∧ x < nn) : (¬ (k + x) < 0 ∧ (k + x) < k + nn) ∧ (k + x).toNatClampNeg = k.toNatClampNeg + x.toNatClampNeg ∧ x.toNatClampNeg < nn.toNatClampNeg := by
  have e0 : (0 : Int32).toInt = 0 := by decide
  have e1 : (65538 : Int32).toInt = 65538 := by decide
  have n := own_nn B.1
  have h2 := B.2
  have hx0 := hx.1
  have hx1 := hx.2
  have nx := own_nn hx0
  rw [Int32.lt_iff_toInt_lt] at h2 hx0 hx1
  have hx2 : ¬ (65538 : Int32) < x := by rw [Int32.lt_iff_toInt_lt]; omega
  have lx := own_ln hk ⟨hx.1, hx2⟩
  have ln := own_ln hk B
  refine ⟨⟨lx.2.1, ?_⟩, lx.2.2.2, by omega⟩
  rw [Int32.lt_iff_toInt_lt]; omega
theorem own_rd {g f : Nat → Int32} {k x nn : Int32} (hk : 1 ≤ k.toInt ∧ k.toInt ≤ 4) (B : ¬ nn < (0 : Int32) ∧ ¬ (65538 : Int32) < nn) (hx : ¬ x < 0 ∧ x < nn) (hL : (1 : Int32) + own_lb nn = k) (u : ∀ i, i < nn.toNatClampNeg → g (((1 : Int32) + own_lb nn).toNatClampNeg + i) = f i) : g (k + x).toNatClampNeg = f x.toNatClampNeg := by
  obtain ⟨-, e, l⟩ := own_ik hk B hx
  rw [e, ← u _ l, hL]
theorem own_as (k nn : Int32) : (k + nn) - (1 : Int32) = k + (nn - (1 : Int32)) := by
  rw [Int32.sub_eq_add_neg, Int32.sub_eq_add_neg, Int32.add_assoc]
theorem own_eqn {x y nn : Int32} (hx : ¬ x < 0 ∧ x < nn) (hy : ¬ y < 0 ∧ y < nn) : x.toNatClampNeg = y.toNatClampNeg ↔ x = y := by
  have a := own_nn hx.1
  have b := own_nn hy.1
  exact ⟨fun h => Int32.toInt_inj.mp (by omega), fun h => by rw [h]⟩
theorem own_fk {fx : Nat → Int32} {kk n1 b c : Int32} (h : fx = (fun i => if i = (kk).toNatClampNeg then (nar .byte (b.toInt8.toInt32)) else (fun i => if i = (n1).toNatClampNeg then (nar .byte (c.toInt8.toInt32)) else (fun _ => (0 : Int32)) i) i)) : fx kk.toNatClampNeg = b.toInt8.toInt32 := by
  rw [h]; show (if _ then _ else _) = _; rw [if_pos rfl, own_idem]
theorem own_fl {fx : Nat → Int32} {kk n1 b c nn xl : Int32} (h : fx = (fun i => if i = (kk).toNatClampNeg then (nar .byte (b.toInt8.toInt32)) else (fun i => if i = (n1).toNatClampNeg then (nar .byte (c.toInt8.toInt32)) else (fun _ => (0 : Int32)) i) i)) (hk : ¬ kk < 0 ∧ kk < nn) (h1 : ¬ n1 < 0 ∧ n1 < nn) (hl : xl = (if kk = n1 then (b.toInt8.toInt32) else (c.toInt8.toInt32))) : fx n1.toNatClampNeg = xl := by
  rw [h, hl]; show (if _ then _ else (if _ then _ else _)) = _
  by_cases q : kk = n1
  · rw [if_pos ((own_eqn h1 hk).mpr q.symm), if_pos q, own_idem]
  · rw [if_neg (fun r => q ((own_eqn h1 hk).mp r).symm), if_pos rfl, if_neg q, own_idem]
theorem own_fj {fx : Nat → Int32} {kk jj n1 b c nn xj : Int32} (h : fx = (fun i => if i = (kk).toNatClampNeg then (nar .byte (b.toInt8.toInt32)) else (fun i => if i = (n1).toNatClampNeg then (nar .byte (c.toInt8.toInt32)) else (fun _ => (0 : Int32)) i) i)) (hk : ¬ kk < 0 ∧ kk < nn) (h1 : ¬ n1 < 0 ∧ n1 < nn) (hj : ¬ jj < 0 ∧ jj < nn) (hl : xj = (if jj = kk then (b.toInt8.toInt32) else (if jj = n1 then (c.toInt8.toInt32) else (0 : Int32)))) : fx jj.toNatClampNeg = xj := by
  rw [h, hl]; show (if _ then _ else (if _ then _ else _)) = _
  by_cases q : jj = kk
  · rw [if_pos ((own_eqn hj hk).mpr q), if_pos q, own_idem]
  · rw [if_neg (fun r => q ((own_eqn hj hk).mp r)), if_neg q]
    by_cases q2 : jj = n1
    · rw [if_pos ((own_eqn hj h1).mpr q2), if_pos q2, own_idem]
    · rw [if_neg (fun r => q2 ((own_eqn hj h1).mp r)), if_neg q2]
theorem pn_0 : plainName "com/example/narada/narada/mariner/MarinerFrameEncoderBlockPinLaw" = true := by first | (simp [plainName, overriddenIn]; done) | decide +kernel
theorem ef_0 (m : MethodId) (p0 : Int32) (p1 : Int32) (p2 : Int32) (p3 : Int32) (p4 : Int32) (p5 : Int32) : entryFrame m #[(.int p0), (.int p1), (.int p2), (.int p3), (.int p4), (.int p5)] maxLocals = mkF m 0 #[.val (.int p0), .val (.int p1), .val (.int p2), .val (.int p3), .val (.int p4), .val (.int p5), .unset, .unset, .unset, .unset, .unset, .unset, .unset, .unset, .unset, .unset, .unset] [] := by first | (simp [entryFrame, mkF, argsToLocals, Value.category, maxLocals]; done) | rfl
theorem pd_2 : parseMethodDescriptor "([B)[B" = some ⟨[(.array .byte)], some (.array .byte)⟩ := by decide +kernel
def Q0 (Z : State) (p0 : Int32) (p1 : Int32) (p2 : Int32) (p3 : Int32) (p4 : Int32) (p5 : Int32) (h0 : Heap) (n0 : Nat) (v : Option Value) (h : Heap) (L : List Loc) : Prop := v = some (.int 1) ∧ Fr n0 L
set_option maxRecDepth 65536 in
set_option maxHeartbeats 40000000 in
theorem rm0 (l : Launch) (Z : State) (a0 : Array Value) (hw : ∀ d ∈ tables_1, d.before a0 Z = true) (ws : List Jvm.Cond) (p0 : Int32) (p1 : Int32) (p2 : Int32) (p3 : Int32) (p4 : Int32) (p5 : Int32) (h0 : Heap) (n0 : Nat) (Z0 : n0 ≤ h0.size)  :
    MetFree l x (head1 (Jvm.Cond.code x code maxLocals ret :: ws) room_1) (fun a U => a = #[(.int p0), (.int p1), (.int p2), (.int p3), (.int p4), (.int p5)] ∧ Z.Warmed39 U.vm ∧ U.heap = h0) (fun _ _ _ _ _ => True) (fun _ U o U' => ∃ v L, o = .returned v ∧ Q0 Z p0 p1 p2 p3 p4 p5 h0 n0 v U'.heap L ∧ FrameEnd U o U' L room_1.cells room_1.slots) := by
  refine MetFree.of_bodySF (plainFor_of_name pn_0) hisR ?_
  intro p e s m args below meth c s₁ Bd hml0 hP hK
  obtain ⟨rfl, hZ, hh⟩ := hP
  have hx := Bd.exec
  have hby := Bd.bytes
  have hml : c.maxLocals = 17 := hml0
  have hown : s.vm.findClass "com/example/narada/narada/mariner/MarinerFrameEncoderBlockPinLaw" = some m.cls := findClass_of_methodNamed Bd.named
  have hnm := (name_of_methodNamed Bd.named Bd.method).1
  have X0 : Stand p l e room_1 s m #[(.int p0), (.int p1), (.int p2), (.int p3), (.int p4), (.int p5)] below meth c s₁ [] 0 0 := Stand.of_body Bd
  have e0 : s₁.heap = h0 := by rw [← hh, Bd.state]; rfl
  have N0 := Fr.nil n0
  have pre0 : ∀ t, Steps p.tables e below (s₁.setTop (mkF m 0 #[.val (.int p0), .val (.int p1), .val (.int p2), .val (.int p3), .val (.int p4), .val (.int p5), .unset, .unset, .unset, .unset, .unset, .unset, .unset, .unset, .unset, .unset, .unset] [])) t → Steps p.tables e below (s₁.setTop (entryFrame m #[(.int p0), (.int p1), (.int p2), (.int p3), (.int p4), (.int p5)] maxLocals)) t := fun t k => castTop (ef_0 m p0 p1 p2 p3 p4 p5) k
  have pre11 : ∀ t, Steps p.tables e below (s₁.setTop (mkF m 3 #[.val (.int p0), .val (.int p1), .val (.int p2), .val (.int p3), .val (.int p4), .val (.int p5), .unset, .unset, .unset, .unset, .unset, .unset, .unset, .unset, .unset, .unset, .unset] [(.int (p0 &&& (1 : Int32)))])) t → Steps p.tables e below (s₁.setTop (entryFrame m #[(.int p0), (.int p1), (.int p2), (.int p3), (.int p4), (.int p5)] maxLocals)) t := fun t k => pre0 t (by
    refine XS.iloadN X0.here hx rfl (hb hby at_0) rfl ?_
    show Steps p.tables e below (s₁.setTop (mkF m 1 #[.val (.int p0), .val (.int p1), .val (.int p2), .val (.int p3), .val (.int p4), .val (.int p5), .unset, .unset, .unset, .unset, .unset, .unset, .unset, .unset, .unset, .unset, .unset] [(.int p0)])) _
    refine XS.iconst X0.here hx rfl (hb hby at_1) ?_
    show Steps p.tables e below (s₁.setTop (mkF m 2 #[.val (.int p0), .val (.int p1), .val (.int p2), .val (.int p3), .val (.int p4), .val (.int p5), .unset, .unset, .unset, .unset, .unset, .unset, .unset, .unset, .unset, .unset, .unset] [(.int (1 : Int32)), (.int p0)])) _
    refine XS.iand X0.here hx rfl (hb hby at_2) rfl ?_
    exact k)
  obtain ⟨nn, hnn⟩ : ∃ z : Int32, z = (if (p0 &&& (1 : Int32)) = (0 : Int32) then (p1 &&& (511 : Int32)) else ((65535 : Int32) + (p1 &&& (3 : Int32)))) := ⟨_, rfl⟩
  have pre13 : ∀ t, Steps p.tables e below (s₁.setTop (mkF m 20 #[.val (.int p0), .val (.int p1), .val (.int p2), .val (.int p3), .val (.int p4), .val (.int p5), .unset, .unset, .unset, .unset, .unset, .unset, .unset, .unset, .unset, .unset, .unset] [(.int nn)])) t → Steps p.tables e below (s₁.setTop (entryFrame m #[(.int p0), (.int p1), (.int p2), (.int p3), (.int p4), (.int p5)] maxLocals)) t := fun t k => pre11 t (by
    by_cases hm12 : (p0 &&& (1 : Int32)) = (0 : Int32)
    · rw [show nn = (p1 &&& (511 : Int32)) from by rw [hnn, if_pos hm12]] at k
      refine XS.ifYes X0.here hx rfl (pc0 := 3) (pc' := 15) rfl (hb hby at_3) rfl ((if0 _ _).trans (teq hm12).1) (by decide) (by decide) ?_
      show Steps p.tables e below (s₁.setTop (mkF m 15 #[.val (.int p0), .val (.int p1), .val (.int p2), .val (.int p3), .val (.int p4), .val (.int p5), .unset, .unset, .unset, .unset, .unset, .unset, .unset, .unset, .unset, .unset, .unset] [])) _
      refine XS.iloadN X0.here hx rfl (hb hby at_15) rfl ?_
      show Steps p.tables e below (s₁.setTop (mkF m 16 #[.val (.int p0), .val (.int p1), .val (.int p2), .val (.int p3), .val (.int p4), .val (.int p5), .unset, .unset, .unset, .unset, .unset, .unset, .unset, .unset, .unset, .unset, .unset] [(.int p1)])) _
      refine XS.sipush X0.here hx rfl (hb hby at_16) ?_
      show Steps p.tables e below (s₁.setTop (mkF m 19 #[.val (.int p0), .val (.int p1), .val (.int p2), .val (.int p3), .val (.int p4), .val (.int p5), .unset, .unset, .unset, .unset, .unset, .unset, .unset, .unset, .unset, .unset, .unset] [(.int (511 : Int32)), (.int p1)])) _
      refine XS.iand X0.here hx rfl (hb hby at_19) rfl ?_
      exact k
    · rw [show nn = ((65535 : Int32) + (p1 &&& (3 : Int32))) from by rw [hnn, if_neg hm12]] at k
      refine XS.ifNo X0.here hx rfl (hb hby at_3) rfl ((if0 _ _).trans (feq hm12).1) ?_
      show Steps p.tables e below (s₁.setTop (mkF m 6 #[.val (.int p0), .val (.int p1), .val (.int p2), .val (.int p3), .val (.int p4), .val (.int p5), .unset, .unset, .unset, .unset, .unset, .unset, .unset, .unset, .unset, .unset, .unset] [])) _
      refine X0.ldcInt hx hown (mvT hZ (hw _ (List.mem_of_getElem? (i := 19) rfl))) (g := (mkF m 6 #[.val (.int p0), .val (.int p1), .val (.int p2), .val (.int p3), .val (.int p4), .val (.int p5), .unset, .unset, .unset, .unset, .unset, .unset, .unset, .unset, .unset, .unset, .unset] [])) rfl (hb hby at_6) _ ?_
      show Steps p.tables e below (s₁.setTop (mkF m 8 #[.val (.int p0), .val (.int p1), .val (.int p2), .val (.int p3), .val (.int p4), .val (.int p5), .unset, .unset, .unset, .unset, .unset, .unset, .unset, .unset, .unset, .unset, .unset] [(.int (65535 : Int32))])) _
      refine XS.iloadN X0.here hx rfl (hb hby at_8) rfl ?_
      show Steps p.tables e below (s₁.setTop (mkF m 9 #[.val (.int p0), .val (.int p1), .val (.int p2), .val (.int p3), .val (.int p4), .val (.int p5), .unset, .unset, .unset, .unset, .unset, .unset, .unset, .unset, .unset, .unset, .unset] [(.int p1), (.int (65535 : Int32))])) _
      refine XS.iconst X0.here hx rfl (hb hby at_9) ?_
      show Steps p.tables e below (s₁.setTop (mkF m 10 #[.val (.int p0), .val (.int p1), .val (.int p2), .val (.int p3), .val (.int p4), .val (.int p5), .unset, .unset, .unset, .unset, .unset, .unset, .unset, .unset, .unset, .unset, .unset] [(.int (3 : Int32)), (.int p1), (.int (65535 : Int32))])) _
      refine XS.iand X0.here hx rfl (hb hby at_10) rfl ?_
      show Steps p.tables e below (s₁.setTop (mkF m 11 #[.val (.int p0), .val (.int p1), .val (.int p2), .val (.int p3), .val (.int p4), .val (.int p5), .unset, .unset, .unset, .unset, .unset, .unset, .unset, .unset, .unset, .unset, .unset] [(.int (p1 &&& (3 : Int32))), (.int (65535 : Int32))])) _
      refine XS.iadd X0.here hx rfl (hb hby at_11) rfl ?_
      show Steps p.tables e below (s₁.setTop (mkF m 12 #[.val (.int p0), .val (.int p1), .val (.int p2), .val (.int p3), .val (.int p4), .val (.int p5), .unset, .unset, .unset, .unset, .unset, .unset, .unset, .unset, .unset, .unset, .unset] [(.int ((65535 : Int32) + (p1 &&& (3 : Int32))))])) _
      refine XS.goto X0.here hx rfl (pc0 := 12) (pc' := 20) rfl (hb hby at_12) (by decide) (by decide) ?_
      exact k)
  have Bn := own_nB hnn
  obtain ⟨T14, h14, k14, X14, e14, E14, A14, st14⟩ := newP X0 hx hZ (hw _ (List.mem_of_getElem? (i := 0) rfl)) e0 (g := (mkF m 24 #[.val (.int p0), .val (.int p1), .val (.int p2), .val (.int p3), .val (.int p4), .val (.int p5), .val (.int nn), .unset, .unset, .unset, .unset, .unset, .unset, .unset, .unset, .unset, .unset] [(.int nn)])) rfl (hb hby at_24) rfl Bn.1 (cap := 65538) (own_cp Bn) (by decide) (by decide) (by decide)
  obtain ⟨b14, gb14⟩ : ∃ z, z = h0.size := ⟨_, rfl⟩
  rw [← gb14] at A14 st14
  have g15 : n0 ≤ b14 := Nat.le_trans Z0 (Nat.le_of_eq gb14.symm)
  have Z16 : n0 ≤ h14.size := Nat.le_trans Z0 E14.1
  have V14 : AI Z h14 b14 .byte nn (fun _ => (0 : Int32)) := AI.new rfl A14 Bn.1
  have pre17 : ∀ t, Steps p.tables e below (T14.setTop (mkF m 36 #[.val (.int p0), .val (.int p1), .val (.int p2), .val (.int p3), .val (.int p4), .val (.int p5), .val (.int nn), .val (.ref b14), .val (.int (0 : Int32)), .val (.int (0 : Int32)), .unset, .unset, .unset, .unset, .unset, .unset, .unset] [(.int nn)])) t → Steps p.tables e below (s₁.setTop (entryFrame m #[(.int p0), (.int p1), (.int p2), (.int p3), (.int p4), (.int p5)] maxLocals)) t := fun t k => pre13 t (by
    refine XS.istore X0.here hx rfl (hb hby at_20) rfl (l' := #[.val (.int p0), .val (.int p1), .val (.int p2), .val (.int p3), .val (.int p4), .val (.int p5), .val (.int nn), .unset, .unset, .unset, .unset, .unset, .unset, .unset, .unset, .unset, .unset]) rfl ?_
    show Steps p.tables e below (s₁.setTop (mkF m 22 #[.val (.int p0), .val (.int p1), .val (.int p2), .val (.int p3), .val (.int p4), .val (.int p5), .val (.int nn), .unset, .unset, .unset, .unset, .unset, .unset, .unset, .unset, .unset, .unset] [])) _
    refine XS.iload X0.here hx rfl (hb hby at_22) rfl ?_
    show Steps p.tables e below (s₁.setTop (mkF m 24 #[.val (.int p0), .val (.int p1), .val (.int p2), .val (.int p3), .val (.int p4), .val (.int p5), .val (.int nn), .unset, .unset, .unset, .unset, .unset, .unset, .unset, .unset, .unset, .unset] [(.int nn)])) _
    refine st14 _ ?_
    show Steps p.tables e below (T14.setTop (mkF m 26 #[.val (.int p0), .val (.int p1), .val (.int p2), .val (.int p3), .val (.int p4), .val (.int p5), .val (.int nn), .unset, .unset, .unset, .unset, .unset, .unset, .unset, .unset, .unset, .unset] [(.ref b14)])) _
    refine XS.astore X14.here hx rfl (hb hby at_26) rfl rfl (l' := #[.val (.int p0), .val (.int p1), .val (.int p2), .val (.int p3), .val (.int p4), .val (.int p5), .val (.int nn), .val (.ref b14), .unset, .unset, .unset, .unset, .unset, .unset, .unset, .unset, .unset]) rfl ?_
    show Steps p.tables e below (T14.setTop (mkF m 28 #[.val (.int p0), .val (.int p1), .val (.int p2), .val (.int p3), .val (.int p4), .val (.int p5), .val (.int nn), .val (.ref b14), .unset, .unset, .unset, .unset, .unset, .unset, .unset, .unset, .unset] [])) _
    refine XS.iconst X14.here hx rfl (hb hby at_28) ?_
    show Steps p.tables e below (T14.setTop (mkF m 29 #[.val (.int p0), .val (.int p1), .val (.int p2), .val (.int p3), .val (.int p4), .val (.int p5), .val (.int nn), .val (.ref b14), .unset, .unset, .unset, .unset, .unset, .unset, .unset, .unset, .unset] [(.int (0 : Int32))])) _
    refine XS.istore X14.here hx rfl (hb hby at_29) rfl (l' := #[.val (.int p0), .val (.int p1), .val (.int p2), .val (.int p3), .val (.int p4), .val (.int p5), .val (.int nn), .val (.ref b14), .val (.int (0 : Int32)), .unset, .unset, .unset, .unset, .unset, .unset, .unset, .unset]) rfl ?_
    show Steps p.tables e below (T14.setTop (mkF m 31 #[.val (.int p0), .val (.int p1), .val (.int p2), .val (.int p3), .val (.int p4), .val (.int p5), .val (.int nn), .val (.ref b14), .val (.int (0 : Int32)), .unset, .unset, .unset, .unset, .unset, .unset, .unset, .unset] [])) _
    refine XS.iconst X14.here hx rfl (hb hby at_31) ?_
    show Steps p.tables e below (T14.setTop (mkF m 32 #[.val (.int p0), .val (.int p1), .val (.int p2), .val (.int p3), .val (.int p4), .val (.int p5), .val (.int nn), .val (.ref b14), .val (.int (0 : Int32)), .unset, .unset, .unset, .unset, .unset, .unset, .unset, .unset] [(.int (0 : Int32))])) _
    refine XS.istore X14.here hx rfl (hb hby at_32) rfl (l' := #[.val (.int p0), .val (.int p1), .val (.int p2), .val (.int p3), .val (.int p4), .val (.int p5), .val (.int nn), .val (.ref b14), .val (.int (0 : Int32)), .val (.int (0 : Int32)), .unset, .unset, .unset, .unset, .unset, .unset, .unset]) rfl ?_
    show Steps p.tables e below (T14.setTop (mkF m 34 #[.val (.int p0), .val (.int p1), .val (.int p2), .val (.int p3), .val (.int p4), .val (.int p5), .val (.int nn), .val (.ref b14), .val (.int (0 : Int32)), .val (.int (0 : Int32)), .unset, .unset, .unset, .unset, .unset, .unset, .unset] [])) _
    refine XS.iload X14.here hx rfl (hb hby at_34) rfl ?_
    exact k)
  by_cases hc18 : (0 : Int32) < nn
  · have pre19 : ∀ t, Steps p.tables e below (T14.setTop (mkF m 39 #[.val (.int p0), .val (.int p1), .val (.int p2), .val (.int p3), .val (.int p4), .val (.int p5), .val (.int nn), .val (.ref b14), .val (.int (0 : Int32)), .val (.int (0 : Int32)), .unset, .unset, .unset, .unset, .unset, .unset, .unset] [])) t → Steps p.tables e below (s₁.setTop (entryFrame m #[(.int p0), (.int p1), (.int p2), (.int p3), (.int p4), (.int p5)] maxLocals)) t := fun t k => pre17 t (by
      refine XS.ifNo X14.here hx rfl (hb hby at_36) rfl ((if0 _ _).trans (tlt hc18).2.2.2) ?_
      exact k)
    have hnz : nn ≠ 0 := own_nz hc18
    have pre20 : ∀ t, Steps p.tables e below (T14.setTop (mkF m 58 #[.val (.int p0), .val (.int p1), .val (.int p2), .val (.int p3), .val (.int p4), .val (.int p5), .val (.int nn), .val (.ref b14), .val (.int ((p2 &&& (2147483647 : Int32)) % nn)), .val (.int ((p5 &&& (2147483647 : Int32)) % nn)), .unset, .unset, .unset, .unset, .unset, .unset, .unset] [])) t → Steps p.tables e below (s₁.setTop (entryFrame m #[(.int p0), (.int p1), (.int p2), (.int p3), (.int p4), (.int p5)] maxLocals)) t := fun t k => pre19 t (by
      refine XS.iloadN X14.here hx rfl (hb hby at_39) rfl ?_
      show Steps p.tables e below (T14.setTop (mkF m 40 #[.val (.int p0), .val (.int p1), .val (.int p2), .val (.int p3), .val (.int p4), .val (.int p5), .val (.int nn), .val (.ref b14), .val (.int (0 : Int32)), .val (.int (0 : Int32)), .unset, .unset, .unset, .unset, .unset, .unset, .unset] [(.int p2)])) _
      refine X14.ldcInt hx hown (mvT hZ (hw _ (List.mem_of_getElem? (i := 1) rfl))) (g := (mkF m 40 #[.val (.int p0), .val (.int p1), .val (.int p2), .val (.int p3), .val (.int p4), .val (.int p5), .val (.int nn), .val (.ref b14), .val (.int (0 : Int32)), .val (.int (0 : Int32)), .unset, .unset, .unset, .unset, .unset, .unset, .unset] [(.int p2)])) rfl (hb hby at_40) _ ?_
      show Steps p.tables e below (T14.setTop (mkF m 42 #[.val (.int p0), .val (.int p1), .val (.int p2), .val (.int p3), .val (.int p4), .val (.int p5), .val (.int nn), .val (.ref b14), .val (.int (0 : Int32)), .val (.int (0 : Int32)), .unset, .unset, .unset, .unset, .unset, .unset, .unset] [(.int (2147483647 : Int32)), (.int p2)])) _
      refine XS.iand X14.here hx rfl (hb hby at_42) rfl ?_
      show Steps p.tables e below (T14.setTop (mkF m 43 #[.val (.int p0), .val (.int p1), .val (.int p2), .val (.int p3), .val (.int p4), .val (.int p5), .val (.int nn), .val (.ref b14), .val (.int (0 : Int32)), .val (.int (0 : Int32)), .unset, .unset, .unset, .unset, .unset, .unset, .unset] [(.int (p2 &&& (2147483647 : Int32)))])) _
      refine XS.iload X14.here hx rfl (hb hby at_43) rfl ?_
      show Steps p.tables e below (T14.setTop (mkF m 45 #[.val (.int p0), .val (.int p1), .val (.int p2), .val (.int p3), .val (.int p4), .val (.int p5), .val (.int nn), .val (.ref b14), .val (.int (0 : Int32)), .val (.int (0 : Int32)), .unset, .unset, .unset, .unset, .unset, .unset, .unset] [(.int nn), (.int (p2 &&& (2147483647 : Int32)))])) _
      refine Jvm.RoadKit.iremM X14 hx rfl (hb hby at_45) rfl hnz ?_
      show Steps p.tables e below (T14.setTop (mkF m 46 #[.val (.int p0), .val (.int p1), .val (.int p2), .val (.int p3), .val (.int p4), .val (.int p5), .val (.int nn), .val (.ref b14), .val (.int (0 : Int32)), .val (.int (0 : Int32)), .unset, .unset, .unset, .unset, .unset, .unset, .unset] [(.int ((p2 &&& (2147483647 : Int32)) % nn))])) _
      refine XS.istore X14.here hx rfl (hb hby at_46) rfl (l' := #[.val (.int p0), .val (.int p1), .val (.int p2), .val (.int p3), .val (.int p4), .val (.int p5), .val (.int nn), .val (.ref b14), .val (.int ((p2 &&& (2147483647 : Int32)) % nn)), .val (.int (0 : Int32)), .unset, .unset, .unset, .unset, .unset, .unset, .unset]) rfl ?_
      show Steps p.tables e below (T14.setTop (mkF m 48 #[.val (.int p0), .val (.int p1), .val (.int p2), .val (.int p3), .val (.int p4), .val (.int p5), .val (.int nn), .val (.ref b14), .val (.int ((p2 &&& (2147483647 : Int32)) % nn)), .val (.int (0 : Int32)), .unset, .unset, .unset, .unset, .unset, .unset, .unset] [])) _
      refine XS.iload X14.here hx rfl (hb hby at_48) rfl ?_
      show Steps p.tables e below (T14.setTop (mkF m 50 #[.val (.int p0), .val (.int p1), .val (.int p2), .val (.int p3), .val (.int p4), .val (.int p5), .val (.int nn), .val (.ref b14), .val (.int ((p2 &&& (2147483647 : Int32)) % nn)), .val (.int (0 : Int32)), .unset, .unset, .unset, .unset, .unset, .unset, .unset] [(.int p5)])) _
      refine X14.ldcInt hx hown (mvT hZ (hw _ (List.mem_of_getElem? (i := 1) rfl))) (g := (mkF m 50 #[.val (.int p0), .val (.int p1), .val (.int p2), .val (.int p3), .val (.int p4), .val (.int p5), .val (.int nn), .val (.ref b14), .val (.int ((p2 &&& (2147483647 : Int32)) % nn)), .val (.int (0 : Int32)), .unset, .unset, .unset, .unset, .unset, .unset, .unset] [(.int p5)])) rfl (hb hby at_50) _ ?_
      show Steps p.tables e below (T14.setTop (mkF m 52 #[.val (.int p0), .val (.int p1), .val (.int p2), .val (.int p3), .val (.int p4), .val (.int p5), .val (.int nn), .val (.ref b14), .val (.int ((p2 &&& (2147483647 : Int32)) % nn)), .val (.int (0 : Int32)), .unset, .unset, .unset, .unset, .unset, .unset, .unset] [(.int (2147483647 : Int32)), (.int p5)])) _
      refine XS.iand X14.here hx rfl (hb hby at_52) rfl ?_
      show Steps p.tables e below (T14.setTop (mkF m 53 #[.val (.int p0), .val (.int p1), .val (.int p2), .val (.int p3), .val (.int p4), .val (.int p5), .val (.int nn), .val (.ref b14), .val (.int ((p2 &&& (2147483647 : Int32)) % nn)), .val (.int (0 : Int32)), .unset, .unset, .unset, .unset, .unset, .unset, .unset] [(.int (p5 &&& (2147483647 : Int32)))])) _
      refine XS.iload X14.here hx rfl (hb hby at_53) rfl ?_
      show Steps p.tables e below (T14.setTop (mkF m 55 #[.val (.int p0), .val (.int p1), .val (.int p2), .val (.int p3), .val (.int p4), .val (.int p5), .val (.int nn), .val (.ref b14), .val (.int ((p2 &&& (2147483647 : Int32)) % nn)), .val (.int (0 : Int32)), .unset, .unset, .unset, .unset, .unset, .unset, .unset] [(.int nn), (.int (p5 &&& (2147483647 : Int32)))])) _
      refine Jvm.RoadKit.iremM X14 hx rfl (hb hby at_55) rfl hnz ?_
      show Steps p.tables e below (T14.setTop (mkF m 56 #[.val (.int p0), .val (.int p1), .val (.int p2), .val (.int p3), .val (.int p4), .val (.int p5), .val (.int nn), .val (.ref b14), .val (.int ((p2 &&& (2147483647 : Int32)) % nn)), .val (.int (0 : Int32)), .unset, .unset, .unset, .unset, .unset, .unset, .unset] [(.int ((p5 &&& (2147483647 : Int32)) % nn))])) _
      refine XS.istore X14.here hx rfl (hb hby at_56) rfl (l' := #[.val (.int p0), .val (.int p1), .val (.int p2), .val (.int p3), .val (.int p4), .val (.int p5), .val (.int nn), .val (.ref b14), .val (.int ((p2 &&& (2147483647 : Int32)) % nn)), .val (.int ((p5 &&& (2147483647 : Int32)) % nn)), .unset, .unset, .unset, .unset, .unset, .unset, .unset]) rfl ?_
      exact k)
    obtain ⟨kk, hkk⟩ : ∃ z, z = ((p2 &&& (2147483647 : Int32)) % nn) := ⟨_, rfl⟩
    rw [← hkk] at pre20
    obtain ⟨jj, hjj⟩ : ∃ z, z = ((p5 &&& (2147483647 : Int32)) % nn) := ⟨_, rfl⟩
    rw [← hjj] at pre20
    have pre21 : ∀ t, Steps p.tables e below (T14.setTop (mkF m 60 #[.val (.int p0), .val (.int p1), .val (.int p2), .val (.int p3), .val (.int p4), .val (.int p5), .val (.int nn), .val (.ref b14), .val (.int kk), .val (.int jj), .unset, .unset, .unset, .unset, .unset, .unset, .unset] [(.ref b14)])) t → Steps p.tables e below (s₁.setTop (entryFrame m #[(.int p0), (.int p1), (.int p2), (.int p3), (.int p4), (.int p5)] maxLocals)) t := fun t k => pre20 t (by
      refine XS.aload X14.here hx rfl (hb hby at_58) rfl rfl ?_
      exact k)
    have Bkk : ¬ kk < 0 ∧ kk < nn := by rw [hkk]; exact own_kk hc18 _
    have Bjj : ¬ jj < 0 ∧ jj < nn := by rw [hjj]; exact own_kk hc18 _
    have B1 := own_n1 hc18
    obtain ⟨cl22, Ar22, S22, M22, I22⟩ := id V14
    have hin22 : ¬ ((nn - (1 : Int32)) < 0 ∨ cl22.slots.size ≤ ((nn - (1 : Int32))).toNatClampNeg) := inb_of S22 B1
    obtain ⟨T23, h23, X23, e23, W23, st23⟩ := stB X14 hx hZ e14 Ar22 (j := (nn - (1 : Int32))) hin22 (g := (mkF m 67 #[.val (.int p0), .val (.int p1), .val (.int p2), .val (.int p3), .val (.int p4), .val (.int p5), .val (.int nn), .val (.ref b14), .val (.int kk), .val (.int jj), .unset, .unset, .unset, .unset, .unset, .unset, .unset] [(.int (p4.toInt8.toInt32)), (.int (nn - (1 : Int32))), (.ref b14)])) rfl rfl (hb hby at_67)
    have V23 : AI Z h23 b14 .byte nn (fun i => if i = ((nn - (1 : Int32))).toNatClampNeg then (nar .byte (p4.toInt8.toInt32)) else (fun _ => (0 : Int32)) i) := AI.set V14 W23
    have Z24 : n0 ≤ h23.size := Nat.le_trans Z16 (Keep.of_wr W23).1
    obtain ⟨lc23, X23, N23⟩ : ∃ lc, Stand p l e room_1 s m #[(.int p0), (.int p1), (.int p2), (.int p3), (.int p4), (.int p5)] below meth c T23 lc 1 65538 ∧ Fr n0 lc := ⟨_, X23, Fr.snoc X23 N0 g15⟩
    obtain ⟨cl25, Ar25, S25, M25, I25⟩ := id V23
    have hin25 : ¬ (kk < 0 ∨ cl25.slots.size ≤ (kk).toNatClampNeg) := inb_of S25 Bkk
    obtain ⟨T26, h26, X26, e26, W26, st26⟩ := stB X23 hx hZ e23 Ar25 (j := kk) hin25 (g := (mkF m 74 #[.val (.int p0), .val (.int p1), .val (.int p2), .val (.int p3), .val (.int p4), .val (.int p5), .val (.int nn), .val (.ref b14), .val (.int kk), .val (.int jj), .unset, .unset, .unset, .unset, .unset, .unset, .unset] [(.int (p3.toInt8.toInt32)), (.int kk), (.ref b14)])) rfl rfl (hb hby at_74)
    have V26 : AI Z h26 b14 .byte nn (fun i => if i = (kk).toNatClampNeg then (nar .byte (p3.toInt8.toInt32)) else (fun i => if i = ((nn - (1 : Int32))).toNatClampNeg then (nar .byte (p4.toInt8.toInt32)) else (fun _ => (0 : Int32)) i) i) := AI.set V23 W26
    obtain ⟨fx, hfx⟩ : ∃ z, z = (fun i => if i = (kk).toNatClampNeg then (nar .byte (p3.toInt8.toInt32)) else (fun i => if i = ((nn - (1 : Int32))).toNatClampNeg then (nar .byte (p4.toInt8.toInt32)) else (fun _ => (0 : Int32)) i) i) := ⟨_, rfl⟩
    rw [← hfx] at V26
    have Z27 : n0 ≤ h26.size := Nat.le_trans Z24 (Keep.of_wr W26).1
    obtain ⟨lc26, X26, N26⟩ : ∃ lc, Stand p l e room_1 s m #[(.int p0), (.int p1), (.int p2), (.int p3), (.int p4), (.int p5)] below meth c T26 lc 1 65538 ∧ Fr n0 lc := ⟨_, X26, Fr.snoc X26 N23 g15⟩
    obtain ⟨_, _, ⟨T28, L28, k28, n28⟩, -, X28, ⟨Lc28, hQ28, l28, y28, z28⟩, st28⟩ := Jvm.LawKit.callS X26 hx (y := (⟨"com/example/narada/narada/mariner/MarinerFrameEncoder", "block", "([B)[B"⟩ : MethodName)) hown (mvT hZ (hw _ (List.mem_of_getElem? (i := 2) rfl))) (mvT hZ (hw _ (List.mem_of_getElem? (i := 3) rfl))) (mvT hZ (hw _ (List.mem_of_getElem? (i := 4) rfl))) (mvT hZ (hw _ (List.mem_of_getElem? (i := 5) rfl))) (by decide) (backOf (W := 0) (rm1 l Z a0 hw [] b14 nn fx h26 n0 Z27 V26 Bn (by rw [hfx]; exact own_ff (fits_nar_byte _) (own_ff (fits_nar_byte _) (fun _ => rfl)))) hZ (hw _ (List.mem_of_getElem? (i := 5) rfl)) (hw _ (List.mem_of_getElem? (i := 4) rfl)) (by decide) (by decide)) (g := (mkF m 77 #[.val (.int p0), .val (.int p1), .val (.int p2), .val (.int p3), .val (.int p4), .val (.int p5), .val (.int nn), .val (.ref b14), .val (.int kk), .val (.int jj), .unset, .unset, .unset, .unset, .unset, .unset, .unset] [(.ref b14)])) rfl (by rw [hml]; rfl) (argsL := [(.ref b14)]) (rest := []) (lenOf pd_2 rfl) rfl (by show 2 * 0 + _ ≤ _; exact Nat.le_of_eq rfl) (hb hby at_77) (fun _ _ => ⟨rfl, e26, (by decide : 1 + 1 ≤ _), (by decide : 65538 + 65542 ≤ _)⟩)
    dsimp only [Pt.U, Pt.locs, Pt.cells, Pt.slots] at X28 l28 y28 z28 st28 hQ28
    obtain ⟨b_28, y_28, g_28, rfl, Nq28, u28_0, u28_1, u28_2, u28_3, u28_4, u28_5, u28_6⟩ := hQ28
    obtain ⟨lc28, X28, N28⟩ : ∃ lc, Stand p l e room_1 s m #[(.int p0), (.int p1), (.int p2), (.int p3), (.int p4), (.int p5)] below meth c T28 lc 2 131080 ∧ Fr n0 lc := ⟨_, (by rw [y28, z28] at X28; exact X28), (by rw [l28]; exact Fr.app N26 Nq28)⟩
    have ne29 : b14 ≠ b_28 := Nat.ne_of_lt (Nat.lt_of_lt_of_le V26.lt u28_0)
    have g30 : n0 ≤ b_28 := Nat.le_trans Z27 u28_0
    have Z31 : n0 ≤ T28.heap.size := Nat.le_trans Z27 u28_1.1
    have pre32 : ∀ t, Steps p.tables e below (T28.setTop (mkF m 87 #[.val (.int p0), .val (.int p1), .val (.int p2), .val (.int p3), .val (.int p4), .val (.int p5), .val (.int nn), .val (.ref b14), .val (.int kk), .val (.int jj), .val (.ref b_28), .unset, .unset, .unset, .unset, .unset, .unset] [(.int (256 : Int32)), (.int nn)])) t → Steps p.tables e below (s₁.setTop (entryFrame m #[(.int p0), (.int p1), (.int p2), (.int p3), (.int p4), (.int p5)] maxLocals)) t := fun t k => pre21 t (by
      refine XS.iload X14.here hx rfl (hb hby at_60) rfl ?_
      show Steps p.tables e below (T14.setTop (mkF m 62 #[.val (.int p0), .val (.int p1), .val (.int p2), .val (.int p3), .val (.int p4), .val (.int p5), .val (.int nn), .val (.ref b14), .val (.int kk), .val (.int jj), .unset, .unset, .unset, .unset, .unset, .unset, .unset] [(.int nn), (.ref b14)])) _
      refine XS.iconst X14.here hx rfl (hb hby at_62) ?_
      show Steps p.tables e below (T14.setTop (mkF m 63 #[.val (.int p0), .val (.int p1), .val (.int p2), .val (.int p3), .val (.int p4), .val (.int p5), .val (.int nn), .val (.ref b14), .val (.int kk), .val (.int jj), .unset, .unset, .unset, .unset, .unset, .unset, .unset] [(.int (1 : Int32)), (.int nn), (.ref b14)])) _
      refine XS.isub X14.here hx rfl (hb hby at_63) rfl ?_
      show Steps p.tables e below (T14.setTop (mkF m 64 #[.val (.int p0), .val (.int p1), .val (.int p2), .val (.int p3), .val (.int p4), .val (.int p5), .val (.int nn), .val (.ref b14), .val (.int kk), .val (.int jj), .unset, .unset, .unset, .unset, .unset, .unset, .unset] [(.int (nn - (1 : Int32))), (.ref b14)])) _
      refine XS.iload X14.here hx rfl (hb hby at_64) rfl ?_
      show Steps p.tables e below (T14.setTop (mkF m 66 #[.val (.int p0), .val (.int p1), .val (.int p2), .val (.int p3), .val (.int p4), .val (.int p5), .val (.int nn), .val (.ref b14), .val (.int kk), .val (.int jj), .unset, .unset, .unset, .unset, .unset, .unset, .unset] [(.int p4), (.int (nn - (1 : Int32))), (.ref b14)])) _
      refine XS.i2b X14.here hx rfl (hb hby at_66) rfl ?_
      show Steps p.tables e below (T14.setTop (mkF m 67 #[.val (.int p0), .val (.int p1), .val (.int p2), .val (.int p3), .val (.int p4), .val (.int p5), .val (.int nn), .val (.ref b14), .val (.int kk), .val (.int jj), .unset, .unset, .unset, .unset, .unset, .unset, .unset] [(.int (p4.toInt8.toInt32)), (.int (nn - (1 : Int32))), (.ref b14)])) _
      refine st23 _ ?_
      show Steps p.tables e below (T23.setTop (mkF m 68 #[.val (.int p0), .val (.int p1), .val (.int p2), .val (.int p3), .val (.int p4), .val (.int p5), .val (.int nn), .val (.ref b14), .val (.int kk), .val (.int jj), .unset, .unset, .unset, .unset, .unset, .unset, .unset] [])) _
      refine XS.aload X23.here hx rfl (hb hby at_68) rfl rfl ?_
      show Steps p.tables e below (T23.setTop (mkF m 70 #[.val (.int p0), .val (.int p1), .val (.int p2), .val (.int p3), .val (.int p4), .val (.int p5), .val (.int nn), .val (.ref b14), .val (.int kk), .val (.int jj), .unset, .unset, .unset, .unset, .unset, .unset, .unset] [(.ref b14)])) _
      refine XS.iload X23.here hx rfl (hb hby at_70) rfl ?_
      show Steps p.tables e below (T23.setTop (mkF m 72 #[.val (.int p0), .val (.int p1), .val (.int p2), .val (.int p3), .val (.int p4), .val (.int p5), .val (.int nn), .val (.ref b14), .val (.int kk), .val (.int jj), .unset, .unset, .unset, .unset, .unset, .unset, .unset] [(.int kk), (.ref b14)])) _
      refine XS.iloadN X23.here hx rfl (hb hby at_72) rfl ?_
      show Steps p.tables e below (T23.setTop (mkF m 73 #[.val (.int p0), .val (.int p1), .val (.int p2), .val (.int p3), .val (.int p4), .val (.int p5), .val (.int nn), .val (.ref b14), .val (.int kk), .val (.int jj), .unset, .unset, .unset, .unset, .unset, .unset, .unset] [(.int p3), (.int kk), (.ref b14)])) _
      refine XS.i2b X23.here hx rfl (hb hby at_73) rfl ?_
      show Steps p.tables e below (T23.setTop (mkF m 74 #[.val (.int p0), .val (.int p1), .val (.int p2), .val (.int p3), .val (.int p4), .val (.int p5), .val (.int nn), .val (.ref b14), .val (.int kk), .val (.int jj), .unset, .unset, .unset, .unset, .unset, .unset, .unset] [(.int (p3.toInt8.toInt32)), (.int kk), (.ref b14)])) _
      refine st26 _ ?_
      show Steps p.tables e below (T26.setTop (mkF m 75 #[.val (.int p0), .val (.int p1), .val (.int p2), .val (.int p3), .val (.int p4), .val (.int p5), .val (.int nn), .val (.ref b14), .val (.int kk), .val (.int jj), .unset, .unset, .unset, .unset, .unset, .unset, .unset] [])) _
      refine XS.aload X26.here hx rfl (hb hby at_75) rfl rfl ?_
      show Steps p.tables e below (T26.setTop (mkF m 77 #[.val (.int p0), .val (.int p1), .val (.int p2), .val (.int p3), .val (.int p4), .val (.int p5), .val (.int nn), .val (.ref b14), .val (.int kk), .val (.int jj), .unset, .unset, .unset, .unset, .unset, .unset, .unset] [(.ref b14)])) _
      refine st28 _ ?_
      show Steps p.tables e below (T28.setTop (mkF m 80 #[.val (.int p0), .val (.int p1), .val (.int p2), .val (.int p3), .val (.int p4), .val (.int p5), .val (.int nn), .val (.ref b14), .val (.int kk), .val (.int jj), .unset, .unset, .unset, .unset, .unset, .unset, .unset] [(.ref b_28)])) _
      refine XS.astore X28.here hx rfl (hb hby at_80) rfl rfl (l' := #[.val (.int p0), .val (.int p1), .val (.int p2), .val (.int p3), .val (.int p4), .val (.int p5), .val (.int nn), .val (.ref b14), .val (.int kk), .val (.int jj), .val (.ref b_28), .unset, .unset, .unset, .unset, .unset, .unset]) rfl ?_
      show Steps p.tables e below (T28.setTop (mkF m 82 #[.val (.int p0), .val (.int p1), .val (.int p2), .val (.int p3), .val (.int p4), .val (.int p5), .val (.int nn), .val (.ref b14), .val (.int kk), .val (.int jj), .val (.ref b_28), .unset, .unset, .unset, .unset, .unset, .unset] [])) _
      refine XS.iload X28.here hx rfl (hb hby at_82) rfl ?_
      show Steps p.tables e below (T28.setTop (mkF m 84 #[.val (.int p0), .val (.int p1), .val (.int p2), .val (.int p3), .val (.int p4), .val (.int p5), .val (.int nn), .val (.ref b14), .val (.int kk), .val (.int jj), .val (.ref b_28), .unset, .unset, .unset, .unset, .unset, .unset] [(.int nn)])) _
      refine XS.sipush X28.here hx rfl (hb hby at_84) ?_
      exact k)
    obtain ⟨lc, hlc⟩ : ∃ z : Int32, z = (if nn < (256 : Int32) then (1 : Int32) else (if nn < (65536 : Int32) then (2 : Int32) else (3 : Int32))) := ⟨_, rfl⟩
    have pre35 : ∀ t, Steps p.tables e below (T28.setTop (mkF m 106 #[.val (.int p0), .val (.int p1), .val (.int p2), .val (.int p3), .val (.int p4), .val (.int p5), .val (.int nn), .val (.ref b14), .val (.int kk), .val (.int jj), .val (.ref b_28), .unset, .unset, .unset, .unset, .unset, .unset] [(.int lc)])) t → Steps p.tables e below (s₁.setTop (entryFrame m #[(.int p0), (.int p1), (.int p2), (.int p3), (.int p4), (.int p5)] maxLocals)) t := fun t k => pre32 t (by
      by_cases hm33 : nn < (256 : Int32)
      · rw [show lc = (1 : Int32) from by rw [hlc, if_pos hm33]] at k
        refine XS.icmpNo X28.here hx rfl (hb hby at_87) rfl (tlt hm33).2.1 ?_
        show Steps p.tables e below (T28.setTop (mkF m 90 #[.val (.int p0), .val (.int p1), .val (.int p2), .val (.int p3), .val (.int p4), .val (.int p5), .val (.int nn), .val (.ref b14), .val (.int kk), .val (.int jj), .val (.ref b_28), .unset, .unset, .unset, .unset, .unset, .unset] [])) _
        refine XS.iconst X28.here hx rfl (hb hby at_90) ?_
        show Steps p.tables e below (T28.setTop (mkF m 91 #[.val (.int p0), .val (.int p1), .val (.int p2), .val (.int p3), .val (.int p4), .val (.int p5), .val (.int nn), .val (.ref b14), .val (.int kk), .val (.int jj), .val (.ref b_28), .unset, .unset, .unset, .unset, .unset, .unset] [(.int (1 : Int32))])) _
        refine XS.goto X28.here hx rfl (pc0 := 91) (pc' := 106) rfl (hb hby at_91) (by decide) (by decide) ?_
        exact k
      · refine XS.icmpYes X28.here hx rfl (pc0 := 87) (pc' := 94) rfl (hb hby at_87) rfl (flt hm33).2.1 (by decide) (by decide) ?_
        show Steps p.tables e below (T28.setTop (mkF m 94 #[.val (.int p0), .val (.int p1), .val (.int p2), .val (.int p3), .val (.int p4), .val (.int p5), .val (.int nn), .val (.ref b14), .val (.int kk), .val (.int jj), .val (.ref b_28), .unset, .unset, .unset, .unset, .unset, .unset] [])) _
        refine XS.iload X28.here hx rfl (hb hby at_94) rfl ?_
        show Steps p.tables e below (T28.setTop (mkF m 96 #[.val (.int p0), .val (.int p1), .val (.int p2), .val (.int p3), .val (.int p4), .val (.int p5), .val (.int nn), .val (.ref b14), .val (.int kk), .val (.int jj), .val (.ref b_28), .unset, .unset, .unset, .unset, .unset, .unset] [(.int nn)])) _
        refine X28.ldcInt hx hown (mvT hZ (hw _ (List.mem_of_getElem? (i := 20) rfl))) (g := (mkF m 96 #[.val (.int p0), .val (.int p1), .val (.int p2), .val (.int p3), .val (.int p4), .val (.int p5), .val (.int nn), .val (.ref b14), .val (.int kk), .val (.int jj), .val (.ref b_28), .unset, .unset, .unset, .unset, .unset, .unset] [(.int nn)])) rfl (hb hby at_96) _ ?_
        show Steps p.tables e below (T28.setTop (mkF m 98 #[.val (.int p0), .val (.int p1), .val (.int p2), .val (.int p3), .val (.int p4), .val (.int p5), .val (.int nn), .val (.ref b14), .val (.int kk), .val (.int jj), .val (.ref b_28), .unset, .unset, .unset, .unset, .unset, .unset] [(.int (65536 : Int32)), (.int nn)])) _
        by_cases hm34 : nn < (65536 : Int32)
        · rw [show lc = (2 : Int32) from by rw [hlc, if_neg hm33, if_pos hm34]] at k
          refine XS.icmpNo X28.here hx rfl (hb hby at_98) rfl (tlt hm34).2.1 ?_
          show Steps p.tables e below (T28.setTop (mkF m 101 #[.val (.int p0), .val (.int p1), .val (.int p2), .val (.int p3), .val (.int p4), .val (.int p5), .val (.int nn), .val (.ref b14), .val (.int kk), .val (.int jj), .val (.ref b_28), .unset, .unset, .unset, .unset, .unset, .unset] [])) _
          refine XS.iconst X28.here hx rfl (hb hby at_101) ?_
          show Steps p.tables e below (T28.setTop (mkF m 102 #[.val (.int p0), .val (.int p1), .val (.int p2), .val (.int p3), .val (.int p4), .val (.int p5), .val (.int nn), .val (.ref b14), .val (.int kk), .val (.int jj), .val (.ref b_28), .unset, .unset, .unset, .unset, .unset, .unset] [(.int (2 : Int32))])) _
          refine XS.goto X28.here hx rfl (pc0 := 102) (pc' := 106) rfl (hb hby at_102) (by decide) (by decide) ?_
          exact k
        · rw [show lc = (3 : Int32) from by rw [hlc, if_neg hm33, if_neg hm34]] at k
          refine XS.icmpYes X28.here hx rfl (pc0 := 98) (pc' := 105) rfl (hb hby at_98) rfl (flt hm34).2.1 (by decide) (by decide) ?_
          show Steps p.tables e below (T28.setTop (mkF m 105 #[.val (.int p0), .val (.int p1), .val (.int p2), .val (.int p3), .val (.int p4), .val (.int p5), .val (.int nn), .val (.ref b14), .val (.int kk), .val (.int jj), .val (.ref b_28), .unset, .unset, .unset, .unset, .unset, .unset] [])) _
          refine XS.iconst X28.here hx rfl (hb hby at_105) ?_
          exact k)
    have pre36 : ∀ t, Steps p.tables e below (T28.setTop (mkF m 108 #[.val (.int p0), .val (.int p1), .val (.int p2), .val (.int p3), .val (.int p4), .val (.int p5), .val (.int nn), .val (.ref b14), .val (.int kk), .val (.int jj), .val (.ref b_28), .val (.int lc), .unset, .unset, .unset, .unset, .unset] [])) t → Steps p.tables e below (s₁.setTop (entryFrame m #[(.int p0), (.int p1), (.int p2), (.int p3), (.int p4), (.int p5)] maxLocals)) t := fun t k => pre35 t (by
      refine XS.istore X28.here hx rfl (hb hby at_106) rfl (l' := #[.val (.int p0), .val (.int p1), .val (.int p2), .val (.int p3), .val (.int p4), .val (.int p5), .val (.int nn), .val (.ref b14), .val (.int kk), .val (.int jj), .val (.ref b_28), .val (.int lc), .unset, .unset, .unset, .unset, .unset]) rfl ?_
      exact k)
    rcases own_lb3 (hlc : lc = own_lb nn) with ⟨rfl, hz1⟩ | ⟨rfl, hz1⟩ | ⟨rfl, hz1⟩
    · have pre37 : ∀ t, Steps p.tables e below (T28.setTop (mkF m 110 #[.val (.int p0), .val (.int p1), .val (.int p2), .val (.int p3), .val (.int p4), .val (.int p5), .val (.int nn), .val (.ref b14), .val (.int kk), .val (.int jj), .val (.ref b_28), .val (.int (1 : Int32)), .unset, .unset, .unset, .unset, .unset] [(.ref b_28)])) t → Steps p.tables e below (s₁.setTop (entryFrame m #[(.int p0), (.int p1), (.int p2), (.int p3), (.int p4), (.int p5)] maxLocals)) t := fun t k => pre36 t (by
        refine XS.aload X28.here hx rfl (hb hby at_108) rfl rfl ?_
        exact k)
      have eL : own_lb nn = (1 : Int32) := by rw [own_lb, if_pos hz1]
      have hL : (1 : Int32) + own_lb nn = (2 : Int32) := by rw [eL]; rfl
      have hy : y_28 = (2 : Int32) + nn := u28_3.trans (by rw [hL])
      subst hy
      obtain ⟨cl38, Ar38, S38, M38, I38⟩ := id u28_2
      obtain ⟨cl39, Ar39, S39, M39, I39⟩ := id u28_2
      have hin39 : ¬ ((0 : Int32) < 0 ∨ cl39.slots.size ≤ ((0 : Int32)).toNatClampNeg) := inb_of S39 (own_in (by decide : 1 ≤ (2 : Int32).toInt ∧ (2 : Int32).toInt ≤ 4) Bn (by decide))
      have hat39 : cl39.slots[((0 : Int32)).toNatClampNeg]? = some (.int (g_28 ((0 : Int32)).toNatClampNeg)) := I39 _ (Nat.lt_of_not_le fun y => hin39 (Or.inr y))
      rw [show (g_28 ((0 : Int32)).toNatClampNeg) = (1 : Int32) from (u28_4.trans eL)] at hat39
      obtain ⟨cl40, Ar40, S40, M40, I40⟩ := id u28_2
      have hin40 : ¬ ((1 : Int32) < 0 ∨ cl40.slots.size ≤ ((1 : Int32)).toNatClampNeg) := inb_of S40 (own_in (by decide : 1 ≤ (2 : Int32).toInt ∧ (2 : Int32).toInt ≤ 4) Bn (by decide))
      have hat40 : cl40.slots[((1 : Int32)).toNatClampNeg]? = some (.int (g_28 ((1 : Int32)).toNatClampNeg)) := I40 _ (Nat.lt_of_not_le fun y => hin40 (Or.inr y))
      rw [show (g_28 ((1 : Int32)).toNatClampNeg) = (own_sb nn (0 : Int32)) from (u28_6.1 hz1)] at hat40
      have pre41 : ∀ t, Steps p.tables e below (T28.setTop (mkF m 251 #[.val (.int p0), .val (.int p1), .val (.int p2), .val (.int p3), .val (.int p4), .val (.int p5), .val (.int nn), .val (.ref b14), .val (.int kk), .val (.int jj), .val (.ref b_28), .val (.int (1 : Int32)), .val (.int ((own_sb nn (0 : Int32)) &&& (255 : Int32))), .val (.int (2 : Int32)), .val (.int (p3.toInt8.toInt32)), .unset, .unset] [(.int (nn - (1 : Int32))), (.int kk)])) t → Steps p.tables e below (s₁.setTop (entryFrame m #[(.int p0), (.int p1), (.int p2), (.int p3), (.int p4), (.int p5)] maxLocals)) t := fun t k => pre37 t (by
        refine X28.arraylength hx (id Ar38.1) (State.isArrayOf_alike hZ.alike Ar38.2.1) (g := (mkF m 110 #[.val (.int p0), .val (.int p1), .val (.int p2), .val (.int p3), .val (.int p4), .val (.int p5), .val (.int nn), .val (.ref b14), .val (.int kk), .val (.int jj), .val (.ref b_28), .val (.int (1 : Int32)), .unset, .unset, .unset, .unset, .unset] [(.ref b_28)])) rfl rfl (hb hby at_110) _ ?_
        rw [len_of S38 M38]
        show Steps p.tables e below (T28.setTop (mkF m 111 #[.val (.int p0), .val (.int p1), .val (.int p2), .val (.int p3), .val (.int p4), .val (.int p5), .val (.int nn), .val (.ref b14), .val (.int kk), .val (.int jj), .val (.ref b_28), .val (.int (1 : Int32)), .unset, .unset, .unset, .unset, .unset] [(.int ((2 : Int32) + nn))])) _
        refine XS.iconst X28.here hx rfl (hb hby at_111) ?_
        show Steps p.tables e below (T28.setTop (mkF m 112 #[.val (.int p0), .val (.int p1), .val (.int p2), .val (.int p3), .val (.int p4), .val (.int p5), .val (.int nn), .val (.ref b14), .val (.int kk), .val (.int jj), .val (.ref b_28), .val (.int (1 : Int32)), .unset, .unset, .unset, .unset, .unset] [(.int (1 : Int32)), (.int ((2 : Int32) + nn))])) _
        refine XS.iload X28.here hx rfl (hb hby at_112) rfl ?_
        show Steps p.tables e below (T28.setTop (mkF m 114 #[.val (.int p0), .val (.int p1), .val (.int p2), .val (.int p3), .val (.int p4), .val (.int p5), .val (.int nn), .val (.ref b14), .val (.int kk), .val (.int jj), .val (.ref b_28), .val (.int (1 : Int32)), .unset, .unset, .unset, .unset, .unset] [(.int (1 : Int32)), (.int (1 : Int32)), (.int ((2 : Int32) + nn))])) _
        refine XS.iadd X28.here hx rfl (hb hby at_114) rfl ?_
        show Steps p.tables e below (T28.setTop (mkF m 115 #[.val (.int p0), .val (.int p1), .val (.int p2), .val (.int p3), .val (.int p4), .val (.int p5), .val (.int nn), .val (.ref b14), .val (.int kk), .val (.int jj), .val (.ref b_28), .val (.int (1 : Int32)), .unset, .unset, .unset, .unset, .unset] [(.int (2 : Int32)), (.int ((2 : Int32) + nn))])) _
        refine XS.iload X28.here hx rfl (hb hby at_115) rfl ?_
        show Steps p.tables e below (T28.setTop (mkF m 117 #[.val (.int p0), .val (.int p1), .val (.int p2), .val (.int p3), .val (.int p4), .val (.int p5), .val (.int nn), .val (.ref b14), .val (.int kk), .val (.int jj), .val (.ref b_28), .val (.int (1 : Int32)), .unset, .unset, .unset, .unset, .unset] [(.int nn), (.int (2 : Int32)), (.int ((2 : Int32) + nn))])) _
        refine XS.iadd X28.here hx rfl (hb hby at_117) rfl ?_
        show Steps p.tables e below (T28.setTop (mkF m 118 #[.val (.int p0), .val (.int p1), .val (.int p2), .val (.int p3), .val (.int p4), .val (.int p5), .val (.int nn), .val (.ref b14), .val (.int kk), .val (.int jj), .val (.ref b_28), .val (.int (1 : Int32)), .unset, .unset, .unset, .unset, .unset] [(.int ((2 : Int32) + nn)), (.int ((2 : Int32) + nn))])) _
        refine XS.icmpYes X28.here hx rfl (pc0 := 118) (pc' := 123) rfl (hb hby at_118) rfl (teq (rfl : ((2 : Int32) + nn) = ((2 : Int32) + nn))).1 (by decide) (by decide) ?_
        show Steps p.tables e below (T28.setTop (mkF m 123 #[.val (.int p0), .val (.int p1), .val (.int p2), .val (.int p3), .val (.int p4), .val (.int p5), .val (.int nn), .val (.ref b14), .val (.int kk), .val (.int jj), .val (.ref b_28), .val (.int (1 : Int32)), .unset, .unset, .unset, .unset, .unset] [])) _
        refine XS.aload X28.here hx rfl (hb hby at_123) rfl rfl ?_
        show Steps p.tables e below (T28.setTop (mkF m 125 #[.val (.int p0), .val (.int p1), .val (.int p2), .val (.int p3), .val (.int p4), .val (.int p5), .val (.int nn), .val (.ref b14), .val (.int kk), .val (.int jj), .val (.ref b_28), .val (.int (1 : Int32)), .unset, .unset, .unset, .unset, .unset] [(.ref b_28)])) _
        refine XS.iconst X28.here hx rfl (hb hby at_125) ?_
        show Steps p.tables e below (T28.setTop (mkF m 126 #[.val (.int p0), .val (.int p1), .val (.int p2), .val (.int p3), .val (.int p4), .val (.int p5), .val (.int nn), .val (.ref b14), .val (.int kk), .val (.int jj), .val (.ref b_28), .val (.int (1 : Int32)), .unset, .unset, .unset, .unset, .unset] [(.int (0 : Int32)), (.ref b_28)])) _
        refine X28.baloadBytes hx (j := (0 : Int32)) (v := (.int (1 : Int32))) (id Ar39.1) (State.isArrayOf_alike hZ.alike Ar39.2.1) Ar39.2.2 hin39 hat39 (g := (mkF m 126 #[.val (.int p0), .val (.int p1), .val (.int p2), .val (.int p3), .val (.int p4), .val (.int p5), .val (.int nn), .val (.ref b14), .val (.int kk), .val (.int jj), .val (.ref b_28), .val (.int (1 : Int32)), .unset, .unset, .unset, .unset, .unset] [(.int (0 : Int32)), (.ref b_28)])) rfl rfl (hb hby at_126) _ ?_
        show Steps p.tables e below (T28.setTop (mkF m 127 #[.val (.int p0), .val (.int p1), .val (.int p2), .val (.int p3), .val (.int p4), .val (.int p5), .val (.int nn), .val (.ref b14), .val (.int kk), .val (.int jj), .val (.ref b_28), .val (.int (1 : Int32)), .unset, .unset, .unset, .unset, .unset] [(.int (1 : Int32))])) _
        refine XS.iload X28.here hx rfl (hb hby at_127) rfl ?_
        show Steps p.tables e below (T28.setTop (mkF m 129 #[.val (.int p0), .val (.int p1), .val (.int p2), .val (.int p3), .val (.int p4), .val (.int p5), .val (.int nn), .val (.ref b14), .val (.int kk), .val (.int jj), .val (.ref b_28), .val (.int (1 : Int32)), .unset, .unset, .unset, .unset, .unset] [(.int (1 : Int32)), (.int (1 : Int32))])) _
        refine XS.i2b X28.here hx rfl (hb hby at_129) rfl ?_
        show Steps p.tables e below (T28.setTop (mkF m 130 #[.val (.int p0), .val (.int p1), .val (.int p2), .val (.int p3), .val (.int p4), .val (.int p5), .val (.int nn), .val (.ref b14), .val (.int kk), .val (.int jj), .val (.ref b_28), .val (.int (1 : Int32)), .unset, .unset, .unset, .unset, .unset] [(.int ((1 : Int32).toInt8.toInt32)), (.int (1 : Int32))])) _
        refine XS.icmpYes X28.here hx rfl (pc0 := 130) (pc' := 135) rfl (hb hby at_130) rfl (teq (by decide)).1 (by decide) (by decide) ?_
        show Steps p.tables e below (T28.setTop (mkF m 135 #[.val (.int p0), .val (.int p1), .val (.int p2), .val (.int p3), .val (.int p4), .val (.int p5), .val (.int nn), .val (.ref b14), .val (.int kk), .val (.int jj), .val (.ref b_28), .val (.int (1 : Int32)), .unset, .unset, .unset, .unset, .unset] [])) _
        refine XS.iload X28.here hx rfl (hb hby at_135) rfl ?_
        show Steps p.tables e below (T28.setTop (mkF m 137 #[.val (.int p0), .val (.int p1), .val (.int p2), .val (.int p3), .val (.int p4), .val (.int p5), .val (.int nn), .val (.ref b14), .val (.int kk), .val (.int jj), .val (.ref b_28), .val (.int (1 : Int32)), .unset, .unset, .unset, .unset, .unset] [(.int (1 : Int32))])) _
        refine XS.iconst X28.here hx rfl (hb hby at_137) ?_
        show Steps p.tables e below (T28.setTop (mkF m 138 #[.val (.int p0), .val (.int p1), .val (.int p2), .val (.int p3), .val (.int p4), .val (.int p5), .val (.int nn), .val (.ref b14), .val (.int kk), .val (.int jj), .val (.ref b_28), .val (.int (1 : Int32)), .unset, .unset, .unset, .unset, .unset] [(.int (1 : Int32)), (.int (1 : Int32))])) _
        refine XS.icmpNo X28.here hx rfl (hb hby at_138) rfl (teq (by decide : (1 : Int32) = (1 : Int32))).2 ?_
        show Steps p.tables e below (T28.setTop (mkF m 141 #[.val (.int p0), .val (.int p1), .val (.int p2), .val (.int p3), .val (.int p4), .val (.int p5), .val (.int nn), .val (.ref b14), .val (.int kk), .val (.int jj), .val (.ref b_28), .val (.int (1 : Int32)), .unset, .unset, .unset, .unset, .unset] [])) _
        refine XS.aload X28.here hx rfl (hb hby at_141) rfl rfl ?_
        show Steps p.tables e below (T28.setTop (mkF m 143 #[.val (.int p0), .val (.int p1), .val (.int p2), .val (.int p3), .val (.int p4), .val (.int p5), .val (.int nn), .val (.ref b14), .val (.int kk), .val (.int jj), .val (.ref b_28), .val (.int (1 : Int32)), .unset, .unset, .unset, .unset, .unset] [(.ref b_28)])) _
        refine XS.iconst X28.here hx rfl (hb hby at_143) ?_
        show Steps p.tables e below (T28.setTop (mkF m 144 #[.val (.int p0), .val (.int p1), .val (.int p2), .val (.int p3), .val (.int p4), .val (.int p5), .val (.int nn), .val (.ref b14), .val (.int kk), .val (.int jj), .val (.ref b_28), .val (.int (1 : Int32)), .unset, .unset, .unset, .unset, .unset] [(.int (1 : Int32)), (.ref b_28)])) _
        refine X28.baloadBytes hx (j := (1 : Int32)) (v := (.int (own_sb nn (0 : Int32)))) (id Ar40.1) (State.isArrayOf_alike hZ.alike Ar40.2.1) Ar40.2.2 hin40 hat40 (g := (mkF m 144 #[.val (.int p0), .val (.int p1), .val (.int p2), .val (.int p3), .val (.int p4), .val (.int p5), .val (.int nn), .val (.ref b14), .val (.int kk), .val (.int jj), .val (.ref b_28), .val (.int (1 : Int32)), .unset, .unset, .unset, .unset, .unset] [(.int (1 : Int32)), (.ref b_28)])) rfl rfl (hb hby at_144) _ ?_
        show Steps p.tables e below (T28.setTop (mkF m 145 #[.val (.int p0), .val (.int p1), .val (.int p2), .val (.int p3), .val (.int p4), .val (.int p5), .val (.int nn), .val (.ref b14), .val (.int kk), .val (.int jj), .val (.ref b_28), .val (.int (1 : Int32)), .unset, .unset, .unset, .unset, .unset] [(.int (own_sb nn (0 : Int32)))])) _
        refine XS.sipush X28.here hx rfl (hb hby at_145) ?_
        show Steps p.tables e below (T28.setTop (mkF m 148 #[.val (.int p0), .val (.int p1), .val (.int p2), .val (.int p3), .val (.int p4), .val (.int p5), .val (.int nn), .val (.ref b14), .val (.int kk), .val (.int jj), .val (.ref b_28), .val (.int (1 : Int32)), .unset, .unset, .unset, .unset, .unset] [(.int (255 : Int32)), (.int (own_sb nn (0 : Int32)))])) _
        refine XS.iand X28.here hx rfl (hb hby at_148) rfl ?_
        show Steps p.tables e below (T28.setTop (mkF m 149 #[.val (.int p0), .val (.int p1), .val (.int p2), .val (.int p3), .val (.int p4), .val (.int p5), .val (.int nn), .val (.ref b14), .val (.int kk), .val (.int jj), .val (.ref b_28), .val (.int (1 : Int32)), .unset, .unset, .unset, .unset, .unset] [(.int ((own_sb nn (0 : Int32)) &&& (255 : Int32)))])) _
        refine XS.istore X28.here hx rfl (hb hby at_149) rfl (l' := #[.val (.int p0), .val (.int p1), .val (.int p2), .val (.int p3), .val (.int p4), .val (.int p5), .val (.int nn), .val (.ref b14), .val (.int kk), .val (.int jj), .val (.ref b_28), .val (.int (1 : Int32)), .val (.int ((own_sb nn (0 : Int32)) &&& (255 : Int32))), .unset, .unset, .unset, .unset]) rfl ?_
        show Steps p.tables e below (T28.setTop (mkF m 151 #[.val (.int p0), .val (.int p1), .val (.int p2), .val (.int p3), .val (.int p4), .val (.int p5), .val (.int nn), .val (.ref b14), .val (.int kk), .val (.int jj), .val (.ref b_28), .val (.int (1 : Int32)), .val (.int ((own_sb nn (0 : Int32)) &&& (255 : Int32))), .unset, .unset, .unset, .unset] [])) _
        refine XS.goto X28.here hx rfl (pc0 := 151) (pc' := 219) rfl (hb hby at_151) (by decide) (by decide) ?_
        show Steps p.tables e below (T28.setTop (mkF m 219 #[.val (.int p0), .val (.int p1), .val (.int p2), .val (.int p3), .val (.int p4), .val (.int p5), .val (.int nn), .val (.ref b14), .val (.int kk), .val (.int jj), .val (.ref b_28), .val (.int (1 : Int32)), .val (.int ((own_sb nn (0 : Int32)) &&& (255 : Int32))), .unset, .unset, .unset, .unset] [])) _
        refine XS.iload X28.here hx rfl (hb hby at_219) rfl ?_
        show Steps p.tables e below (T28.setTop (mkF m 221 #[.val (.int p0), .val (.int p1), .val (.int p2), .val (.int p3), .val (.int p4), .val (.int p5), .val (.int nn), .val (.ref b14), .val (.int kk), .val (.int jj), .val (.ref b_28), .val (.int (1 : Int32)), .val (.int ((own_sb nn (0 : Int32)) &&& (255 : Int32))), .unset, .unset, .unset, .unset] [(.int ((own_sb nn (0 : Int32)) &&& (255 : Int32)))])) _
        refine XS.iload X28.here hx rfl (hb hby at_221) rfl ?_
        show Steps p.tables e below (T28.setTop (mkF m 223 #[.val (.int p0), .val (.int p1), .val (.int p2), .val (.int p3), .val (.int p4), .val (.int p5), .val (.int nn), .val (.ref b14), .val (.int kk), .val (.int jj), .val (.ref b_28), .val (.int (1 : Int32)), .val (.int ((own_sb nn (0 : Int32)) &&& (255 : Int32))), .unset, .unset, .unset, .unset] [(.int nn), (.int ((own_sb nn (0 : Int32)) &&& (255 : Int32)))])) _
        refine XS.icmpYes X28.here hx rfl (pc0 := 223) (pc' := 228) rfl (hb hby at_223) rfl (teq (own_d1 Bn hz1)).1 (by decide) (by decide) ?_
        show Steps p.tables e below (T28.setTop (mkF m 228 #[.val (.int p0), .val (.int p1), .val (.int p2), .val (.int p3), .val (.int p4), .val (.int p5), .val (.int nn), .val (.ref b14), .val (.int kk), .val (.int jj), .val (.ref b_28), .val (.int (1 : Int32)), .val (.int ((own_sb nn (0 : Int32)) &&& (255 : Int32))), .unset, .unset, .unset, .unset] [])) _
        refine XS.iload X28.here hx rfl (hb hby at_228) rfl ?_
        show Steps p.tables e below (T28.setTop (mkF m 230 #[.val (.int p0), .val (.int p1), .val (.int p2), .val (.int p3), .val (.int p4), .val (.int p5), .val (.int nn), .val (.ref b14), .val (.int kk), .val (.int jj), .val (.ref b_28), .val (.int (1 : Int32)), .val (.int ((own_sb nn (0 : Int32)) &&& (255 : Int32))), .unset, .unset, .unset, .unset] [(.int nn)])) _
        refine XS.ifYes X28.here hx rfl (pc0 := 230) (pc' := 235) rfl (hb hby at_230) rfl ((if0 _ _).trans (feq hnz).2) (by decide) (by decide) ?_
        show Steps p.tables e below (T28.setTop (mkF m 235 #[.val (.int p0), .val (.int p1), .val (.int p2), .val (.int p3), .val (.int p4), .val (.int p5), .val (.int nn), .val (.ref b14), .val (.int kk), .val (.int jj), .val (.ref b_28), .val (.int (1 : Int32)), .val (.int ((own_sb nn (0 : Int32)) &&& (255 : Int32))), .unset, .unset, .unset, .unset] [])) _
        refine XS.iconst X28.here hx rfl (hb hby at_235) ?_
        show Steps p.tables e below (T28.setTop (mkF m 236 #[.val (.int p0), .val (.int p1), .val (.int p2), .val (.int p3), .val (.int p4), .val (.int p5), .val (.int nn), .val (.ref b14), .val (.int kk), .val (.int jj), .val (.ref b_28), .val (.int (1 : Int32)), .val (.int ((own_sb nn (0 : Int32)) &&& (255 : Int32))), .unset, .unset, .unset, .unset] [(.int (1 : Int32))])) _
        refine XS.iload X28.here hx rfl (hb hby at_236) rfl ?_
        show Steps p.tables e below (T28.setTop (mkF m 238 #[.val (.int p0), .val (.int p1), .val (.int p2), .val (.int p3), .val (.int p4), .val (.int p5), .val (.int nn), .val (.ref b14), .val (.int kk), .val (.int jj), .val (.ref b_28), .val (.int (1 : Int32)), .val (.int ((own_sb nn (0 : Int32)) &&& (255 : Int32))), .unset, .unset, .unset, .unset] [(.int (1 : Int32)), (.int (1 : Int32))])) _
        refine XS.iadd X28.here hx rfl (hb hby at_238) rfl ?_
        show Steps p.tables e below (T28.setTop (mkF m 239 #[.val (.int p0), .val (.int p1), .val (.int p2), .val (.int p3), .val (.int p4), .val (.int p5), .val (.int nn), .val (.ref b14), .val (.int kk), .val (.int jj), .val (.ref b_28), .val (.int (1 : Int32)), .val (.int ((own_sb nn (0 : Int32)) &&& (255 : Int32))), .unset, .unset, .unset, .unset] [(.int (2 : Int32))])) _
        refine XS.istore X28.here hx rfl (hb hby at_239) rfl (l' := #[.val (.int p0), .val (.int p1), .val (.int p2), .val (.int p3), .val (.int p4), .val (.int p5), .val (.int nn), .val (.ref b14), .val (.int kk), .val (.int jj), .val (.ref b_28), .val (.int (1 : Int32)), .val (.int ((own_sb nn (0 : Int32)) &&& (255 : Int32))), .val (.int (2 : Int32)), .unset, .unset, .unset]) rfl ?_
        show Steps p.tables e below (T28.setTop (mkF m 241 #[.val (.int p0), .val (.int p1), .val (.int p2), .val (.int p3), .val (.int p4), .val (.int p5), .val (.int nn), .val (.ref b14), .val (.int kk), .val (.int jj), .val (.ref b_28), .val (.int (1 : Int32)), .val (.int ((own_sb nn (0 : Int32)) &&& (255 : Int32))), .val (.int (2 : Int32)), .unset, .unset, .unset] [])) _
        refine XS.iloadN X28.here hx rfl (hb hby at_241) rfl ?_
        show Steps p.tables e below (T28.setTop (mkF m 242 #[.val (.int p0), .val (.int p1), .val (.int p2), .val (.int p3), .val (.int p4), .val (.int p5), .val (.int nn), .val (.ref b14), .val (.int kk), .val (.int jj), .val (.ref b_28), .val (.int (1 : Int32)), .val (.int ((own_sb nn (0 : Int32)) &&& (255 : Int32))), .val (.int (2 : Int32)), .unset, .unset, .unset] [(.int p3)])) _
        refine XS.i2b X28.here hx rfl (hb hby at_242) rfl ?_
        show Steps p.tables e below (T28.setTop (mkF m 243 #[.val (.int p0), .val (.int p1), .val (.int p2), .val (.int p3), .val (.int p4), .val (.int p5), .val (.int nn), .val (.ref b14), .val (.int kk), .val (.int jj), .val (.ref b_28), .val (.int (1 : Int32)), .val (.int ((own_sb nn (0 : Int32)) &&& (255 : Int32))), .val (.int (2 : Int32)), .unset, .unset, .unset] [(.int (p3.toInt8.toInt32))])) _
        refine XS.istore X28.here hx rfl (hb hby at_243) rfl (l' := #[.val (.int p0), .val (.int p1), .val (.int p2), .val (.int p3), .val (.int p4), .val (.int p5), .val (.int nn), .val (.ref b14), .val (.int kk), .val (.int jj), .val (.ref b_28), .val (.int (1 : Int32)), .val (.int ((own_sb nn (0 : Int32)) &&& (255 : Int32))), .val (.int (2 : Int32)), .val (.int (p3.toInt8.toInt32)), .unset, .unset]) rfl ?_
        show Steps p.tables e below (T28.setTop (mkF m 245 #[.val (.int p0), .val (.int p1), .val (.int p2), .val (.int p3), .val (.int p4), .val (.int p5), .val (.int nn), .val (.ref b14), .val (.int kk), .val (.int jj), .val (.ref b_28), .val (.int (1 : Int32)), .val (.int ((own_sb nn (0 : Int32)) &&& (255 : Int32))), .val (.int (2 : Int32)), .val (.int (p3.toInt8.toInt32)), .unset, .unset] [])) _
        refine XS.iload X28.here hx rfl (hb hby at_245) rfl ?_
        show Steps p.tables e below (T28.setTop (mkF m 247 #[.val (.int p0), .val (.int p1), .val (.int p2), .val (.int p3), .val (.int p4), .val (.int p5), .val (.int nn), .val (.ref b14), .val (.int kk), .val (.int jj), .val (.ref b_28), .val (.int (1 : Int32)), .val (.int ((own_sb nn (0 : Int32)) &&& (255 : Int32))), .val (.int (2 : Int32)), .val (.int (p3.toInt8.toInt32)), .unset, .unset] [(.int kk)])) _
        refine XS.iload X28.here hx rfl (hb hby at_247) rfl ?_
        show Steps p.tables e below (T28.setTop (mkF m 249 #[.val (.int p0), .val (.int p1), .val (.int p2), .val (.int p3), .val (.int p4), .val (.int p5), .val (.int nn), .val (.ref b14), .val (.int kk), .val (.int jj), .val (.ref b_28), .val (.int (1 : Int32)), .val (.int ((own_sb nn (0 : Int32)) &&& (255 : Int32))), .val (.int (2 : Int32)), .val (.int (p3.toInt8.toInt32)), .unset, .unset] [(.int nn), (.int kk)])) _
        refine XS.iconst X28.here hx rfl (hb hby at_249) ?_
        show Steps p.tables e below (T28.setTop (mkF m 250 #[.val (.int p0), .val (.int p1), .val (.int p2), .val (.int p3), .val (.int p4), .val (.int p5), .val (.int nn), .val (.ref b14), .val (.int kk), .val (.int jj), .val (.ref b_28), .val (.int (1 : Int32)), .val (.int ((own_sb nn (0 : Int32)) &&& (255 : Int32))), .val (.int (2 : Int32)), .val (.int (p3.toInt8.toInt32)), .unset, .unset] [(.int (1 : Int32)), (.int nn), (.int kk)])) _
        refine XS.isub X28.here hx rfl (hb hby at_250) rfl ?_
        exact k)
      obtain ⟨xl, hxl⟩ : ∃ z : Int32, z = (if kk = (nn - (1 : Int32)) then (p3.toInt8.toInt32) else (p4.toInt8.toInt32)) := ⟨_, rfl⟩
      have pre43 : ∀ t, Steps p.tables e below (T28.setTop (mkF m 262 #[.val (.int p0), .val (.int p1), .val (.int p2), .val (.int p3), .val (.int p4), .val (.int p5), .val (.int nn), .val (.ref b14), .val (.int kk), .val (.int jj), .val (.ref b_28), .val (.int (1 : Int32)), .val (.int ((own_sb nn (0 : Int32)) &&& (255 : Int32))), .val (.int (2 : Int32)), .val (.int (p3.toInt8.toInt32)), .unset, .unset] [(.int xl)])) t → Steps p.tables e below (s₁.setTop (entryFrame m #[(.int p0), (.int p1), (.int p2), (.int p3), (.int p4), (.int p5)] maxLocals)) t := fun t k => pre41 t (by
        by_cases hm42 : kk = (nn - (1 : Int32))
        · rw [show xl = (p3.toInt8.toInt32) from by rw [hxl, if_pos hm42]] at k
          refine XS.icmpNo X28.here hx rfl (hb hby at_251) rfl (teq hm42).2 ?_
          show Steps p.tables e below (T28.setTop (mkF m 254 #[.val (.int p0), .val (.int p1), .val (.int p2), .val (.int p3), .val (.int p4), .val (.int p5), .val (.int nn), .val (.ref b14), .val (.int kk), .val (.int jj), .val (.ref b_28), .val (.int (1 : Int32)), .val (.int ((own_sb nn (0 : Int32)) &&& (255 : Int32))), .val (.int (2 : Int32)), .val (.int (p3.toInt8.toInt32)), .unset, .unset] [])) _
          refine XS.iloadN X28.here hx rfl (hb hby at_254) rfl ?_
          show Steps p.tables e below (T28.setTop (mkF m 255 #[.val (.int p0), .val (.int p1), .val (.int p2), .val (.int p3), .val (.int p4), .val (.int p5), .val (.int nn), .val (.ref b14), .val (.int kk), .val (.int jj), .val (.ref b_28), .val (.int (1 : Int32)), .val (.int ((own_sb nn (0 : Int32)) &&& (255 : Int32))), .val (.int (2 : Int32)), .val (.int (p3.toInt8.toInt32)), .unset, .unset] [(.int p3)])) _
          refine XS.i2b X28.here hx rfl (hb hby at_255) rfl ?_
          show Steps p.tables e below (T28.setTop (mkF m 256 #[.val (.int p0), .val (.int p1), .val (.int p2), .val (.int p3), .val (.int p4), .val (.int p5), .val (.int nn), .val (.ref b14), .val (.int kk), .val (.int jj), .val (.ref b_28), .val (.int (1 : Int32)), .val (.int ((own_sb nn (0 : Int32)) &&& (255 : Int32))), .val (.int (2 : Int32)), .val (.int (p3.toInt8.toInt32)), .unset, .unset] [(.int (p3.toInt8.toInt32))])) _
          refine XS.goto X28.here hx rfl (pc0 := 256) (pc' := 262) rfl (hb hby at_256) (by decide) (by decide) ?_
          exact k
        · rw [show xl = (p4.toInt8.toInt32) from by rw [hxl, if_neg hm42]] at k
          refine XS.icmpYes X28.here hx rfl (pc0 := 251) (pc' := 259) rfl (hb hby at_251) rfl (feq hm42).2 (by decide) (by decide) ?_
          show Steps p.tables e below (T28.setTop (mkF m 259 #[.val (.int p0), .val (.int p1), .val (.int p2), .val (.int p3), .val (.int p4), .val (.int p5), .val (.int nn), .val (.ref b14), .val (.int kk), .val (.int jj), .val (.ref b_28), .val (.int (1 : Int32)), .val (.int ((own_sb nn (0 : Int32)) &&& (255 : Int32))), .val (.int (2 : Int32)), .val (.int (p3.toInt8.toInt32)), .unset, .unset] [])) _
          refine XS.iload X28.here hx rfl (hb hby at_259) rfl ?_
          show Steps p.tables e below (T28.setTop (mkF m 261 #[.val (.int p0), .val (.int p1), .val (.int p2), .val (.int p3), .val (.int p4), .val (.int p5), .val (.int nn), .val (.ref b14), .val (.int kk), .val (.int jj), .val (.ref b_28), .val (.int (1 : Int32)), .val (.int ((own_sb nn (0 : Int32)) &&& (255 : Int32))), .val (.int (2 : Int32)), .val (.int (p3.toInt8.toInt32)), .unset, .unset] [(.int p4)])) _
          refine XS.i2b X28.here hx rfl (hb hby at_261) rfl ?_
          exact k)
      have pre44 : ∀ t, Steps p.tables e below (T28.setTop (mkF m 268 #[.val (.int p0), .val (.int p1), .val (.int p2), .val (.int p3), .val (.int p4), .val (.int p5), .val (.int nn), .val (.ref b14), .val (.int kk), .val (.int jj), .val (.ref b_28), .val (.int (1 : Int32)), .val (.int ((own_sb nn (0 : Int32)) &&& (255 : Int32))), .val (.int (2 : Int32)), .val (.int (p3.toInt8.toInt32)), .val (.int xl), .unset] [(.int kk), (.int jj)])) t → Steps p.tables e below (s₁.setTop (entryFrame m #[(.int p0), (.int p1), (.int p2), (.int p3), (.int p4), (.int p5)] maxLocals)) t := fun t k => pre43 t (by
        refine XS.istore X28.here hx rfl (hb hby at_262) rfl (l' := #[.val (.int p0), .val (.int p1), .val (.int p2), .val (.int p3), .val (.int p4), .val (.int p5), .val (.int nn), .val (.ref b14), .val (.int kk), .val (.int jj), .val (.ref b_28), .val (.int (1 : Int32)), .val (.int ((own_sb nn (0 : Int32)) &&& (255 : Int32))), .val (.int (2 : Int32)), .val (.int (p3.toInt8.toInt32)), .val (.int xl), .unset]) rfl ?_
        show Steps p.tables e below (T28.setTop (mkF m 264 #[.val (.int p0), .val (.int p1), .val (.int p2), .val (.int p3), .val (.int p4), .val (.int p5), .val (.int nn), .val (.ref b14), .val (.int kk), .val (.int jj), .val (.ref b_28), .val (.int (1 : Int32)), .val (.int ((own_sb nn (0 : Int32)) &&& (255 : Int32))), .val (.int (2 : Int32)), .val (.int (p3.toInt8.toInt32)), .val (.int xl), .unset] [])) _
        refine XS.iload X28.here hx rfl (hb hby at_264) rfl ?_
        show Steps p.tables e below (T28.setTop (mkF m 266 #[.val (.int p0), .val (.int p1), .val (.int p2), .val (.int p3), .val (.int p4), .val (.int p5), .val (.int nn), .val (.ref b14), .val (.int kk), .val (.int jj), .val (.ref b_28), .val (.int (1 : Int32)), .val (.int ((own_sb nn (0 : Int32)) &&& (255 : Int32))), .val (.int (2 : Int32)), .val (.int (p3.toInt8.toInt32)), .val (.int xl), .unset] [(.int jj)])) _
        refine XS.iload X28.here hx rfl (hb hby at_266) rfl ?_
        exact k)
      obtain ⟨xj, hxj⟩ : ∃ z : Int32, z = (if jj = kk then (p3.toInt8.toInt32) else (if jj = (nn - (1 : Int32)) then (p4.toInt8.toInt32) else (0 : Int32))) := ⟨_, rfl⟩
      have pre47 : ∀ t, Steps p.tables e below (T28.setTop (mkF m 292 #[.val (.int p0), .val (.int p1), .val (.int p2), .val (.int p3), .val (.int p4), .val (.int p5), .val (.int nn), .val (.ref b14), .val (.int kk), .val (.int jj), .val (.ref b_28), .val (.int (1 : Int32)), .val (.int ((own_sb nn (0 : Int32)) &&& (255 : Int32))), .val (.int (2 : Int32)), .val (.int (p3.toInt8.toInt32)), .val (.int xl), .unset] [(.int xj)])) t → Steps p.tables e below (s₁.setTop (entryFrame m #[(.int p0), (.int p1), (.int p2), (.int p3), (.int p4), (.int p5)] maxLocals)) t := fun t k => pre44 t (by
        by_cases hm45 : jj = kk
        · rw [show xj = (p3.toInt8.toInt32) from by rw [hxj, if_pos hm45]] at k
          refine XS.icmpNo X28.here hx rfl (hb hby at_268) rfl (teq hm45).2 ?_
          show Steps p.tables e below (T28.setTop (mkF m 271 #[.val (.int p0), .val (.int p1), .val (.int p2), .val (.int p3), .val (.int p4), .val (.int p5), .val (.int nn), .val (.ref b14), .val (.int kk), .val (.int jj), .val (.ref b_28), .val (.int (1 : Int32)), .val (.int ((own_sb nn (0 : Int32)) &&& (255 : Int32))), .val (.int (2 : Int32)), .val (.int (p3.toInt8.toInt32)), .val (.int xl), .unset] [])) _
          refine XS.iloadN X28.here hx rfl (hb hby at_271) rfl ?_
          show Steps p.tables e below (T28.setTop (mkF m 272 #[.val (.int p0), .val (.int p1), .val (.int p2), .val (.int p3), .val (.int p4), .val (.int p5), .val (.int nn), .val (.ref b14), .val (.int kk), .val (.int jj), .val (.ref b_28), .val (.int (1 : Int32)), .val (.int ((own_sb nn (0 : Int32)) &&& (255 : Int32))), .val (.int (2 : Int32)), .val (.int (p3.toInt8.toInt32)), .val (.int xl), .unset] [(.int p3)])) _
          refine XS.i2b X28.here hx rfl (hb hby at_272) rfl ?_
          show Steps p.tables e below (T28.setTop (mkF m 273 #[.val (.int p0), .val (.int p1), .val (.int p2), .val (.int p3), .val (.int p4), .val (.int p5), .val (.int nn), .val (.ref b14), .val (.int kk), .val (.int jj), .val (.ref b_28), .val (.int (1 : Int32)), .val (.int ((own_sb nn (0 : Int32)) &&& (255 : Int32))), .val (.int (2 : Int32)), .val (.int (p3.toInt8.toInt32)), .val (.int xl), .unset] [(.int (p3.toInt8.toInt32))])) _
          refine XS.goto X28.here hx rfl (pc0 := 273) (pc' := 292) rfl (hb hby at_273) (by decide) (by decide) ?_
          exact k
        · refine XS.icmpYes X28.here hx rfl (pc0 := 268) (pc' := 276) rfl (hb hby at_268) rfl (feq hm45).2 (by decide) (by decide) ?_
          show Steps p.tables e below (T28.setTop (mkF m 276 #[.val (.int p0), .val (.int p1), .val (.int p2), .val (.int p3), .val (.int p4), .val (.int p5), .val (.int nn), .val (.ref b14), .val (.int kk), .val (.int jj), .val (.ref b_28), .val (.int (1 : Int32)), .val (.int ((own_sb nn (0 : Int32)) &&& (255 : Int32))), .val (.int (2 : Int32)), .val (.int (p3.toInt8.toInt32)), .val (.int xl), .unset] [])) _
          refine XS.iload X28.here hx rfl (hb hby at_276) rfl ?_
          show Steps p.tables e below (T28.setTop (mkF m 278 #[.val (.int p0), .val (.int p1), .val (.int p2), .val (.int p3), .val (.int p4), .val (.int p5), .val (.int nn), .val (.ref b14), .val (.int kk), .val (.int jj), .val (.ref b_28), .val (.int (1 : Int32)), .val (.int ((own_sb nn (0 : Int32)) &&& (255 : Int32))), .val (.int (2 : Int32)), .val (.int (p3.toInt8.toInt32)), .val (.int xl), .unset] [(.int jj)])) _
          refine XS.iload X28.here hx rfl (hb hby at_278) rfl ?_
          show Steps p.tables e below (T28.setTop (mkF m 280 #[.val (.int p0), .val (.int p1), .val (.int p2), .val (.int p3), .val (.int p4), .val (.int p5), .val (.int nn), .val (.ref b14), .val (.int kk), .val (.int jj), .val (.ref b_28), .val (.int (1 : Int32)), .val (.int ((own_sb nn (0 : Int32)) &&& (255 : Int32))), .val (.int (2 : Int32)), .val (.int (p3.toInt8.toInt32)), .val (.int xl), .unset] [(.int nn), (.int jj)])) _
          refine XS.iconst X28.here hx rfl (hb hby at_280) ?_
          show Steps p.tables e below (T28.setTop (mkF m 281 #[.val (.int p0), .val (.int p1), .val (.int p2), .val (.int p3), .val (.int p4), .val (.int p5), .val (.int nn), .val (.ref b14), .val (.int kk), .val (.int jj), .val (.ref b_28), .val (.int (1 : Int32)), .val (.int ((own_sb nn (0 : Int32)) &&& (255 : Int32))), .val (.int (2 : Int32)), .val (.int (p3.toInt8.toInt32)), .val (.int xl), .unset] [(.int (1 : Int32)), (.int nn), (.int jj)])) _
          refine XS.isub X28.here hx rfl (hb hby at_281) rfl ?_
          show Steps p.tables e below (T28.setTop (mkF m 282 #[.val (.int p0), .val (.int p1), .val (.int p2), .val (.int p3), .val (.int p4), .val (.int p5), .val (.int nn), .val (.ref b14), .val (.int kk), .val (.int jj), .val (.ref b_28), .val (.int (1 : Int32)), .val (.int ((own_sb nn (0 : Int32)) &&& (255 : Int32))), .val (.int (2 : Int32)), .val (.int (p3.toInt8.toInt32)), .val (.int xl), .unset] [(.int (nn - (1 : Int32))), (.int jj)])) _
          by_cases hm46 : jj = (nn - (1 : Int32))
          · rw [show xj = (p4.toInt8.toInt32) from by rw [hxj, if_neg hm45, if_pos hm46]] at k
            refine XS.icmpNo X28.here hx rfl (hb hby at_282) rfl (teq hm46).2 ?_
            show Steps p.tables e below (T28.setTop (mkF m 285 #[.val (.int p0), .val (.int p1), .val (.int p2), .val (.int p3), .val (.int p4), .val (.int p5), .val (.int nn), .val (.ref b14), .val (.int kk), .val (.int jj), .val (.ref b_28), .val (.int (1 : Int32)), .val (.int ((own_sb nn (0 : Int32)) &&& (255 : Int32))), .val (.int (2 : Int32)), .val (.int (p3.toInt8.toInt32)), .val (.int xl), .unset] [])) _
            refine XS.iload X28.here hx rfl (hb hby at_285) rfl ?_
            show Steps p.tables e below (T28.setTop (mkF m 287 #[.val (.int p0), .val (.int p1), .val (.int p2), .val (.int p3), .val (.int p4), .val (.int p5), .val (.int nn), .val (.ref b14), .val (.int kk), .val (.int jj), .val (.ref b_28), .val (.int (1 : Int32)), .val (.int ((own_sb nn (0 : Int32)) &&& (255 : Int32))), .val (.int (2 : Int32)), .val (.int (p3.toInt8.toInt32)), .val (.int xl), .unset] [(.int p4)])) _
            refine XS.i2b X28.here hx rfl (hb hby at_287) rfl ?_
            show Steps p.tables e below (T28.setTop (mkF m 288 #[.val (.int p0), .val (.int p1), .val (.int p2), .val (.int p3), .val (.int p4), .val (.int p5), .val (.int nn), .val (.ref b14), .val (.int kk), .val (.int jj), .val (.ref b_28), .val (.int (1 : Int32)), .val (.int ((own_sb nn (0 : Int32)) &&& (255 : Int32))), .val (.int (2 : Int32)), .val (.int (p3.toInt8.toInt32)), .val (.int xl), .unset] [(.int (p4.toInt8.toInt32))])) _
            refine XS.goto X28.here hx rfl (pc0 := 288) (pc' := 292) rfl (hb hby at_288) (by decide) (by decide) ?_
            exact k
          · rw [show xj = (0 : Int32) from by rw [hxj, if_neg hm45, if_neg hm46]] at k
            refine XS.icmpYes X28.here hx rfl (pc0 := 282) (pc' := 291) rfl (hb hby at_282) rfl (feq hm46).2 (by decide) (by decide) ?_
            show Steps p.tables e below (T28.setTop (mkF m 291 #[.val (.int p0), .val (.int p1), .val (.int p2), .val (.int p3), .val (.int p4), .val (.int p5), .val (.int nn), .val (.ref b14), .val (.int kk), .val (.int jj), .val (.ref b_28), .val (.int (1 : Int32)), .val (.int ((own_sb nn (0 : Int32)) &&& (255 : Int32))), .val (.int (2 : Int32)), .val (.int (p3.toInt8.toInt32)), .val (.int xl), .unset] [])) _
            refine XS.iconst X28.here hx rfl (hb hby at_291) ?_
            exact k)
      obtain ⟨cl48, Ar48, S48, M48, I48⟩ := id u28_2
      have hin48 : ¬ (((2 : Int32) + kk) < 0 ∨ cl48.slots.size ≤ (((2 : Int32) + kk)).toNatClampNeg) := inb_of S48 (own_ik (by decide : 1 ≤ (2 : Int32).toInt ∧ (2 : Int32).toInt ≤ 4) Bn Bkk).1
      have hat48 : cl48.slots[(((2 : Int32) + kk)).toNatClampNeg]? = some (.int (g_28 (((2 : Int32) + kk)).toNatClampNeg)) := I48 _ (Nat.lt_of_not_le fun y => hin48 (Or.inr y))
      rw [show (g_28 (((2 : Int32) + kk)).toNatClampNeg) = (p3.toInt8.toInt32) from ((own_rd (by decide : 1 ≤ (2 : Int32).toInt ∧ (2 : Int32).toInt ≤ 4) Bn Bkk hL u28_5).trans (own_fk hfx))] at hat48
      obtain ⟨cl49, Ar49, S49, M49, I49⟩ := id u28_2
      have hin49 : ¬ ((((2 : Int32) + nn) - (1 : Int32)) < 0 ∨ cl49.slots.size ≤ ((((2 : Int32) + nn) - (1 : Int32))).toNatClampNeg) := inb_of S49 (by rw [own_as]; exact (own_ik (by decide : 1 ≤ (2 : Int32).toInt ∧ (2 : Int32).toInt ≤ 4) Bn B1).1)
      have hat49 : cl49.slots[((((2 : Int32) + nn) - (1 : Int32))).toNatClampNeg]? = some (.int (g_28 ((((2 : Int32) + nn) - (1 : Int32))).toNatClampNeg)) := I49 _ (Nat.lt_of_not_le fun y => hin49 (Or.inr y))
      rw [show (g_28 ((((2 : Int32) + nn) - (1 : Int32))).toNatClampNeg) = xl from (by rw [own_as]; exact (own_rd (by decide : 1 ≤ (2 : Int32).toInt ∧ (2 : Int32).toInt ≤ 4) Bn B1 hL u28_5).trans (own_fl hfx Bkk B1 hxl))] at hat49
      obtain ⟨cl50, Ar50, S50, M50, I50⟩ := id u28_2
      have hin50 : ¬ (((2 : Int32) + jj) < 0 ∨ cl50.slots.size ≤ (((2 : Int32) + jj)).toNatClampNeg) := inb_of S50 (own_ik (by decide : 1 ≤ (2 : Int32).toInt ∧ (2 : Int32).toInt ≤ 4) Bn Bjj).1
      have hat50 : cl50.slots[(((2 : Int32) + jj)).toNatClampNeg]? = some (.int (g_28 (((2 : Int32) + jj)).toNatClampNeg)) := I50 _ (Nat.lt_of_not_le fun y => hin50 (Or.inr y))
      rw [show (g_28 (((2 : Int32) + jj)).toNatClampNeg) = xj from ((own_rd (by decide : 1 ≤ (2 : Int32).toInt ∧ (2 : Int32).toInt ≤ 4) Bn Bjj hL u28_5).trans (own_fj hfx Bkk B1 Bjj hxj))] at hat50
      obtain ⟨fs, hr, hrun, hended, hW, hsame⟩ := X28.leave (v := some (.int (1 : Int32))) (fun h => by rw [Bd.returns] at h; cases h)
      refine ⟨_, _, pre47 _ ?_, hrun, hended, _, _, rfl, ?_, ⟨_, rfl⟩, hW, hsame.mono (by decide) (by decide)⟩
      · refine XS.istore X28.here hx rfl (hb hby at_292) rfl (l' := #[.val (.int p0), .val (.int p1), .val (.int p2), .val (.int p3), .val (.int p4), .val (.int p5), .val (.int nn), .val (.ref b14), .val (.int kk), .val (.int jj), .val (.ref b_28), .val (.int (1 : Int32)), .val (.int ((own_sb nn (0 : Int32)) &&& (255 : Int32))), .val (.int (2 : Int32)), .val (.int (p3.toInt8.toInt32)), .val (.int xl), .val (.int xj)]) rfl ?_
        show Steps p.tables e below (T28.setTop (mkF m 294 #[.val (.int p0), .val (.int p1), .val (.int p2), .val (.int p3), .val (.int p4), .val (.int p5), .val (.int nn), .val (.ref b14), .val (.int kk), .val (.int jj), .val (.ref b_28), .val (.int (1 : Int32)), .val (.int ((own_sb nn (0 : Int32)) &&& (255 : Int32))), .val (.int (2 : Int32)), .val (.int (p3.toInt8.toInt32)), .val (.int xl), .val (.int xj)] [])) _
        refine XS.aload X28.here hx rfl (hb hby at_294) rfl rfl ?_
        show Steps p.tables e below (T28.setTop (mkF m 296 #[.val (.int p0), .val (.int p1), .val (.int p2), .val (.int p3), .val (.int p4), .val (.int p5), .val (.int nn), .val (.ref b14), .val (.int kk), .val (.int jj), .val (.ref b_28), .val (.int (1 : Int32)), .val (.int ((own_sb nn (0 : Int32)) &&& (255 : Int32))), .val (.int (2 : Int32)), .val (.int (p3.toInt8.toInt32)), .val (.int xl), .val (.int xj)] [(.ref b_28)])) _
        refine XS.iload X28.here hx rfl (hb hby at_296) rfl ?_
        show Steps p.tables e below (T28.setTop (mkF m 298 #[.val (.int p0), .val (.int p1), .val (.int p2), .val (.int p3), .val (.int p4), .val (.int p5), .val (.int nn), .val (.ref b14), .val (.int kk), .val (.int jj), .val (.ref b_28), .val (.int (1 : Int32)), .val (.int ((own_sb nn (0 : Int32)) &&& (255 : Int32))), .val (.int (2 : Int32)), .val (.int (p3.toInt8.toInt32)), .val (.int xl), .val (.int xj)] [(.int (2 : Int32)), (.ref b_28)])) _
        refine XS.iload X28.here hx rfl (hb hby at_298) rfl ?_
        show Steps p.tables e below (T28.setTop (mkF m 300 #[.val (.int p0), .val (.int p1), .val (.int p2), .val (.int p3), .val (.int p4), .val (.int p5), .val (.int nn), .val (.ref b14), .val (.int kk), .val (.int jj), .val (.ref b_28), .val (.int (1 : Int32)), .val (.int ((own_sb nn (0 : Int32)) &&& (255 : Int32))), .val (.int (2 : Int32)), .val (.int (p3.toInt8.toInt32)), .val (.int xl), .val (.int xj)] [(.int kk), (.int (2 : Int32)), (.ref b_28)])) _
        refine XS.iadd X28.here hx rfl (hb hby at_300) rfl ?_
        show Steps p.tables e below (T28.setTop (mkF m 301 #[.val (.int p0), .val (.int p1), .val (.int p2), .val (.int p3), .val (.int p4), .val (.int p5), .val (.int nn), .val (.ref b14), .val (.int kk), .val (.int jj), .val (.ref b_28), .val (.int (1 : Int32)), .val (.int ((own_sb nn (0 : Int32)) &&& (255 : Int32))), .val (.int (2 : Int32)), .val (.int (p3.toInt8.toInt32)), .val (.int xl), .val (.int xj)] [(.int ((2 : Int32) + kk)), (.ref b_28)])) _
        refine X28.baloadBytes hx (j := ((2 : Int32) + kk)) (v := (.int (p3.toInt8.toInt32))) (id Ar48.1) (State.isArrayOf_alike hZ.alike Ar48.2.1) Ar48.2.2 hin48 hat48 (g := (mkF m 301 #[.val (.int p0), .val (.int p1), .val (.int p2), .val (.int p3), .val (.int p4), .val (.int p5), .val (.int nn), .val (.ref b14), .val (.int kk), .val (.int jj), .val (.ref b_28), .val (.int (1 : Int32)), .val (.int ((own_sb nn (0 : Int32)) &&& (255 : Int32))), .val (.int (2 : Int32)), .val (.int (p3.toInt8.toInt32)), .val (.int xl), .val (.int xj)] [(.int ((2 : Int32) + kk)), (.ref b_28)])) rfl rfl (hb hby at_301) _ ?_
        show Steps p.tables e below (T28.setTop (mkF m 302 #[.val (.int p0), .val (.int p1), .val (.int p2), .val (.int p3), .val (.int p4), .val (.int p5), .val (.int nn), .val (.ref b14), .val (.int kk), .val (.int jj), .val (.ref b_28), .val (.int (1 : Int32)), .val (.int ((own_sb nn (0 : Int32)) &&& (255 : Int32))), .val (.int (2 : Int32)), .val (.int (p3.toInt8.toInt32)), .val (.int xl), .val (.int xj)] [(.int (p3.toInt8.toInt32))])) _
        refine XS.iload X28.here hx rfl (hb hby at_302) rfl ?_
        show Steps p.tables e below (T28.setTop (mkF m 304 #[.val (.int p0), .val (.int p1), .val (.int p2), .val (.int p3), .val (.int p4), .val (.int p5), .val (.int nn), .val (.ref b14), .val (.int kk), .val (.int jj), .val (.ref b_28), .val (.int (1 : Int32)), .val (.int ((own_sb nn (0 : Int32)) &&& (255 : Int32))), .val (.int (2 : Int32)), .val (.int (p3.toInt8.toInt32)), .val (.int xl), .val (.int xj)] [(.int (p3.toInt8.toInt32)), (.int (p3.toInt8.toInt32))])) _
        refine XS.icmpNo X28.here hx rfl (hb hby at_304) rfl (teq (rfl : (p3.toInt8.toInt32) = (p3.toInt8.toInt32))).2 ?_
        show Steps p.tables e below (T28.setTop (mkF m 307 #[.val (.int p0), .val (.int p1), .val (.int p2), .val (.int p3), .val (.int p4), .val (.int p5), .val (.int nn), .val (.ref b14), .val (.int kk), .val (.int jj), .val (.ref b_28), .val (.int (1 : Int32)), .val (.int ((own_sb nn (0 : Int32)) &&& (255 : Int32))), .val (.int (2 : Int32)), .val (.int (p3.toInt8.toInt32)), .val (.int xl), .val (.int xj)] [])) _
        refine XS.aload X28.here hx rfl (hb hby at_307) rfl rfl ?_
        show Steps p.tables e below (T28.setTop (mkF m 309 #[.val (.int p0), .val (.int p1), .val (.int p2), .val (.int p3), .val (.int p4), .val (.int p5), .val (.int nn), .val (.ref b14), .val (.int kk), .val (.int jj), .val (.ref b_28), .val (.int (1 : Int32)), .val (.int ((own_sb nn (0 : Int32)) &&& (255 : Int32))), .val (.int (2 : Int32)), .val (.int (p3.toInt8.toInt32)), .val (.int xl), .val (.int xj)] [(.ref b_28)])) _
        refine XS.iload X28.here hx rfl (hb hby at_309) rfl ?_
        show Steps p.tables e below (T28.setTop (mkF m 311 #[.val (.int p0), .val (.int p1), .val (.int p2), .val (.int p3), .val (.int p4), .val (.int p5), .val (.int nn), .val (.ref b14), .val (.int kk), .val (.int jj), .val (.ref b_28), .val (.int (1 : Int32)), .val (.int ((own_sb nn (0 : Int32)) &&& (255 : Int32))), .val (.int (2 : Int32)), .val (.int (p3.toInt8.toInt32)), .val (.int xl), .val (.int xj)] [(.int (2 : Int32)), (.ref b_28)])) _
        refine XS.iload X28.here hx rfl (hb hby at_311) rfl ?_
        show Steps p.tables e below (T28.setTop (mkF m 313 #[.val (.int p0), .val (.int p1), .val (.int p2), .val (.int p3), .val (.int p4), .val (.int p5), .val (.int nn), .val (.ref b14), .val (.int kk), .val (.int jj), .val (.ref b_28), .val (.int (1 : Int32)), .val (.int ((own_sb nn (0 : Int32)) &&& (255 : Int32))), .val (.int (2 : Int32)), .val (.int (p3.toInt8.toInt32)), .val (.int xl), .val (.int xj)] [(.int nn), (.int (2 : Int32)), (.ref b_28)])) _
        refine XS.iadd X28.here hx rfl (hb hby at_313) rfl ?_
        show Steps p.tables e below (T28.setTop (mkF m 314 #[.val (.int p0), .val (.int p1), .val (.int p2), .val (.int p3), .val (.int p4), .val (.int p5), .val (.int nn), .val (.ref b14), .val (.int kk), .val (.int jj), .val (.ref b_28), .val (.int (1 : Int32)), .val (.int ((own_sb nn (0 : Int32)) &&& (255 : Int32))), .val (.int (2 : Int32)), .val (.int (p3.toInt8.toInt32)), .val (.int xl), .val (.int xj)] [(.int ((2 : Int32) + nn)), (.ref b_28)])) _
        refine XS.iconst X28.here hx rfl (hb hby at_314) ?_
        show Steps p.tables e below (T28.setTop (mkF m 315 #[.val (.int p0), .val (.int p1), .val (.int p2), .val (.int p3), .val (.int p4), .val (.int p5), .val (.int nn), .val (.ref b14), .val (.int kk), .val (.int jj), .val (.ref b_28), .val (.int (1 : Int32)), .val (.int ((own_sb nn (0 : Int32)) &&& (255 : Int32))), .val (.int (2 : Int32)), .val (.int (p3.toInt8.toInt32)), .val (.int xl), .val (.int xj)] [(.int (1 : Int32)), (.int ((2 : Int32) + nn)), (.ref b_28)])) _
        refine XS.isub X28.here hx rfl (hb hby at_315) rfl ?_
        show Steps p.tables e below (T28.setTop (mkF m 316 #[.val (.int p0), .val (.int p1), .val (.int p2), .val (.int p3), .val (.int p4), .val (.int p5), .val (.int nn), .val (.ref b14), .val (.int kk), .val (.int jj), .val (.ref b_28), .val (.int (1 : Int32)), .val (.int ((own_sb nn (0 : Int32)) &&& (255 : Int32))), .val (.int (2 : Int32)), .val (.int (p3.toInt8.toInt32)), .val (.int xl), .val (.int xj)] [(.int (((2 : Int32) + nn) - (1 : Int32))), (.ref b_28)])) _
        refine X28.baloadBytes hx (j := (((2 : Int32) + nn) - (1 : Int32))) (v := (.int xl)) (id Ar49.1) (State.isArrayOf_alike hZ.alike Ar49.2.1) Ar49.2.2 hin49 hat49 (g := (mkF m 316 #[.val (.int p0), .val (.int p1), .val (.int p2), .val (.int p3), .val (.int p4), .val (.int p5), .val (.int nn), .val (.ref b14), .val (.int kk), .val (.int jj), .val (.ref b_28), .val (.int (1 : Int32)), .val (.int ((own_sb nn (0 : Int32)) &&& (255 : Int32))), .val (.int (2 : Int32)), .val (.int (p3.toInt8.toInt32)), .val (.int xl), .val (.int xj)] [(.int (((2 : Int32) + nn) - (1 : Int32))), (.ref b_28)])) rfl rfl (hb hby at_316) _ ?_
        show Steps p.tables e below (T28.setTop (mkF m 317 #[.val (.int p0), .val (.int p1), .val (.int p2), .val (.int p3), .val (.int p4), .val (.int p5), .val (.int nn), .val (.ref b14), .val (.int kk), .val (.int jj), .val (.ref b_28), .val (.int (1 : Int32)), .val (.int ((own_sb nn (0 : Int32)) &&& (255 : Int32))), .val (.int (2 : Int32)), .val (.int (p3.toInt8.toInt32)), .val (.int xl), .val (.int xj)] [(.int xl)])) _
        refine XS.iload X28.here hx rfl (hb hby at_317) rfl ?_
        show Steps p.tables e below (T28.setTop (mkF m 319 #[.val (.int p0), .val (.int p1), .val (.int p2), .val (.int p3), .val (.int p4), .val (.int p5), .val (.int nn), .val (.ref b14), .val (.int kk), .val (.int jj), .val (.ref b_28), .val (.int (1 : Int32)), .val (.int ((own_sb nn (0 : Int32)) &&& (255 : Int32))), .val (.int (2 : Int32)), .val (.int (p3.toInt8.toInt32)), .val (.int xl), .val (.int xj)] [(.int xl), (.int xl)])) _
        refine XS.icmpNo X28.here hx rfl (hb hby at_319) rfl (teq (rfl : xl = xl)).2 ?_
        show Steps p.tables e below (T28.setTop (mkF m 322 #[.val (.int p0), .val (.int p1), .val (.int p2), .val (.int p3), .val (.int p4), .val (.int p5), .val (.int nn), .val (.ref b14), .val (.int kk), .val (.int jj), .val (.ref b_28), .val (.int (1 : Int32)), .val (.int ((own_sb nn (0 : Int32)) &&& (255 : Int32))), .val (.int (2 : Int32)), .val (.int (p3.toInt8.toInt32)), .val (.int xl), .val (.int xj)] [])) _
        refine XS.aload X28.here hx rfl (hb hby at_322) rfl rfl ?_
        show Steps p.tables e below (T28.setTop (mkF m 324 #[.val (.int p0), .val (.int p1), .val (.int p2), .val (.int p3), .val (.int p4), .val (.int p5), .val (.int nn), .val (.ref b14), .val (.int kk), .val (.int jj), .val (.ref b_28), .val (.int (1 : Int32)), .val (.int ((own_sb nn (0 : Int32)) &&& (255 : Int32))), .val (.int (2 : Int32)), .val (.int (p3.toInt8.toInt32)), .val (.int xl), .val (.int xj)] [(.ref b_28)])) _
        refine XS.iload X28.here hx rfl (hb hby at_324) rfl ?_
        show Steps p.tables e below (T28.setTop (mkF m 326 #[.val (.int p0), .val (.int p1), .val (.int p2), .val (.int p3), .val (.int p4), .val (.int p5), .val (.int nn), .val (.ref b14), .val (.int kk), .val (.int jj), .val (.ref b_28), .val (.int (1 : Int32)), .val (.int ((own_sb nn (0 : Int32)) &&& (255 : Int32))), .val (.int (2 : Int32)), .val (.int (p3.toInt8.toInt32)), .val (.int xl), .val (.int xj)] [(.int (2 : Int32)), (.ref b_28)])) _
        refine XS.iload X28.here hx rfl (hb hby at_326) rfl ?_
        show Steps p.tables e below (T28.setTop (mkF m 328 #[.val (.int p0), .val (.int p1), .val (.int p2), .val (.int p3), .val (.int p4), .val (.int p5), .val (.int nn), .val (.ref b14), .val (.int kk), .val (.int jj), .val (.ref b_28), .val (.int (1 : Int32)), .val (.int ((own_sb nn (0 : Int32)) &&& (255 : Int32))), .val (.int (2 : Int32)), .val (.int (p3.toInt8.toInt32)), .val (.int xl), .val (.int xj)] [(.int jj), (.int (2 : Int32)), (.ref b_28)])) _
        refine XS.iadd X28.here hx rfl (hb hby at_328) rfl ?_
        show Steps p.tables e below (T28.setTop (mkF m 329 #[.val (.int p0), .val (.int p1), .val (.int p2), .val (.int p3), .val (.int p4), .val (.int p5), .val (.int nn), .val (.ref b14), .val (.int kk), .val (.int jj), .val (.ref b_28), .val (.int (1 : Int32)), .val (.int ((own_sb nn (0 : Int32)) &&& (255 : Int32))), .val (.int (2 : Int32)), .val (.int (p3.toInt8.toInt32)), .val (.int xl), .val (.int xj)] [(.int ((2 : Int32) + jj)), (.ref b_28)])) _
        refine X28.baloadBytes hx (j := ((2 : Int32) + jj)) (v := (.int xj)) (id Ar50.1) (State.isArrayOf_alike hZ.alike Ar50.2.1) Ar50.2.2 hin50 hat50 (g := (mkF m 329 #[.val (.int p0), .val (.int p1), .val (.int p2), .val (.int p3), .val (.int p4), .val (.int p5), .val (.int nn), .val (.ref b14), .val (.int kk), .val (.int jj), .val (.ref b_28), .val (.int (1 : Int32)), .val (.int ((own_sb nn (0 : Int32)) &&& (255 : Int32))), .val (.int (2 : Int32)), .val (.int (p3.toInt8.toInt32)), .val (.int xl), .val (.int xj)] [(.int ((2 : Int32) + jj)), (.ref b_28)])) rfl rfl (hb hby at_329) _ ?_
        show Steps p.tables e below (T28.setTop (mkF m 330 #[.val (.int p0), .val (.int p1), .val (.int p2), .val (.int p3), .val (.int p4), .val (.int p5), .val (.int nn), .val (.ref b14), .val (.int kk), .val (.int jj), .val (.ref b_28), .val (.int (1 : Int32)), .val (.int ((own_sb nn (0 : Int32)) &&& (255 : Int32))), .val (.int (2 : Int32)), .val (.int (p3.toInt8.toInt32)), .val (.int xl), .val (.int xj)] [(.int xj)])) _
        refine XS.iload X28.here hx rfl (hb hby at_330) rfl ?_
        show Steps p.tables e below (T28.setTop (mkF m 332 #[.val (.int p0), .val (.int p1), .val (.int p2), .val (.int p3), .val (.int p4), .val (.int p5), .val (.int nn), .val (.ref b14), .val (.int kk), .val (.int jj), .val (.ref b_28), .val (.int (1 : Int32)), .val (.int ((own_sb nn (0 : Int32)) &&& (255 : Int32))), .val (.int (2 : Int32)), .val (.int (p3.toInt8.toInt32)), .val (.int xl), .val (.int xj)] [(.int xj), (.int xj)])) _
        refine XS.icmpNo X28.here hx rfl (hb hby at_332) rfl (teq (rfl : xj = xj)).2 ?_
        show Steps p.tables e below (T28.setTop (mkF m 335 #[.val (.int p0), .val (.int p1), .val (.int p2), .val (.int p3), .val (.int p4), .val (.int p5), .val (.int nn), .val (.ref b14), .val (.int kk), .val (.int jj), .val (.ref b_28), .val (.int (1 : Int32)), .val (.int ((own_sb nn (0 : Int32)) &&& (255 : Int32))), .val (.int (2 : Int32)), .val (.int (p3.toInt8.toInt32)), .val (.int xl), .val (.int xj)] [])) _
        refine XS.iconst X28.here hx rfl (hb hby at_335) ?_
        show Steps p.tables e below (T28.setTop (mkF m 336 #[.val (.int p0), .val (.int p1), .val (.int p2), .val (.int p3), .val (.int p4), .val (.int p5), .val (.int nn), .val (.ref b14), .val (.int kk), .val (.int jj), .val (.ref b_28), .val (.int (1 : Int32)), .val (.int ((own_sb nn (0 : Int32)) &&& (255 : Int32))), .val (.int (2 : Int32)), .val (.int (p3.toInt8.toInt32)), .val (.int xl), .val (.int xj)] [(.int (1 : Int32))])) _
        refine XS.goto X28.here hx rfl (pc0 := 336) (pc' := 340) rfl (hb hby at_336) (by decide) (by decide) ?_
        show Steps p.tables e below (T28.setTop (mkF m 340 #[.val (.int p0), .val (.int p1), .val (.int p2), .val (.int p3), .val (.int p4), .val (.int p5), .val (.int nn), .val (.ref b14), .val (.int kk), .val (.int jj), .val (.ref b_28), .val (.int (1 : Int32)), .val (.int ((own_sb nn (0 : Int32)) &&& (255 : Int32))), .val (.int (2 : Int32)), .val (.int (p3.toInt8.toInt32)), .val (.int xl), .val (.int xj)] [(.int (1 : Int32))])) _
        exact retN X28 hx (t := .boolean) Bd.returns (by simp) (hb hby at_340) hr
      · show Q0 Z _ _ _ _ _ _ h0 n0 _ T28.heap _
        exact ⟨rfl, N28⟩
    · have pre51 : ∀ t, Steps p.tables e below (T28.setTop (mkF m 110 #[.val (.int p0), .val (.int p1), .val (.int p2), .val (.int p3), .val (.int p4), .val (.int p5), .val (.int nn), .val (.ref b14), .val (.int kk), .val (.int jj), .val (.ref b_28), .val (.int (2 : Int32)), .unset, .unset, .unset, .unset, .unset] [(.ref b_28)])) t → Steps p.tables e below (s₁.setTop (entryFrame m #[(.int p0), (.int p1), (.int p2), (.int p3), (.int p4), (.int p5)] maxLocals)) t := fun t k => pre36 t (by
        refine XS.aload X28.here hx rfl (hb hby at_108) rfl rfl ?_
        exact k)
      have eL : own_lb nn = (2 : Int32) := by rw [own_lb, if_neg hz1.1, if_pos hz1.2]
      have hL : (1 : Int32) + own_lb nn = (3 : Int32) := by rw [eL]; rfl
      have hy : y_28 = (3 : Int32) + nn := u28_3.trans (by rw [hL])
      subst hy
      obtain ⟨cl52, Ar52, S52, M52, I52⟩ := id u28_2
      obtain ⟨cl53, Ar53, S53, M53, I53⟩ := id u28_2
      have hin53 : ¬ ((0 : Int32) < 0 ∨ cl53.slots.size ≤ ((0 : Int32)).toNatClampNeg) := inb_of S53 (own_in (by decide : 1 ≤ (3 : Int32).toInt ∧ (3 : Int32).toInt ≤ 4) Bn (by decide))
      have hat53 : cl53.slots[((0 : Int32)).toNatClampNeg]? = some (.int (g_28 ((0 : Int32)).toNatClampNeg)) := I53 _ (Nat.lt_of_not_le fun y => hin53 (Or.inr y))
      rw [show (g_28 ((0 : Int32)).toNatClampNeg) = (2 : Int32) from (u28_4.trans eL)] at hat53
      obtain ⟨cl54, Ar54, S54, M54, I54⟩ := id u28_2
      have hin54 : ¬ ((1 : Int32) < 0 ∨ cl54.slots.size ≤ ((1 : Int32)).toNatClampNeg) := inb_of S54 (own_in (by decide : 1 ≤ (3 : Int32).toInt ∧ (3 : Int32).toInt ≤ 4) Bn (by decide))
      have hat54 : cl54.slots[((1 : Int32)).toNatClampNeg]? = some (.int (g_28 ((1 : Int32)).toNatClampNeg)) := I54 _ (Nat.lt_of_not_le fun y => hin54 (Or.inr y))
      rw [show (g_28 ((1 : Int32)).toNatClampNeg) = (own_sb nn (8 : Int32)) from (u28_6.2.1 hz1).1] at hat54
      obtain ⟨cl55, Ar55, S55, M55, I55⟩ := id u28_2
      have hin55 : ¬ ((2 : Int32) < 0 ∨ cl55.slots.size ≤ ((2 : Int32)).toNatClampNeg) := inb_of S55 (own_in (by decide : 1 ≤ (3 : Int32).toInt ∧ (3 : Int32).toInt ≤ 4) Bn (by decide))
      have hat55 : cl55.slots[((2 : Int32)).toNatClampNeg]? = some (.int (g_28 ((2 : Int32)).toNatClampNeg)) := I55 _ (Nat.lt_of_not_le fun y => hin55 (Or.inr y))
      rw [show (g_28 ((2 : Int32)).toNatClampNeg) = (own_sb nn (0 : Int32)) from (u28_6.2.1 hz1).2] at hat55
      have pre56 : ∀ t, Steps p.tables e below (T28.setTop (mkF m 251 #[.val (.int p0), .val (.int p1), .val (.int p2), .val (.int p3), .val (.int p4), .val (.int p5), .val (.int nn), .val (.ref b14), .val (.int kk), .val (.int jj), .val (.ref b_28), .val (.int (2 : Int32)), .val (.int ((((own_sb nn (8 : Int32)) &&& (255 : Int32)) <<< ((8 : Int32) &&& 31)) ||| ((own_sb nn (0 : Int32)) &&& (255 : Int32)))), .val (.int (3 : Int32)), .val (.int (p3.toInt8.toInt32)), .unset, .unset] [(.int (nn - (1 : Int32))), (.int kk)])) t → Steps p.tables e below (s₁.setTop (entryFrame m #[(.int p0), (.int p1), (.int p2), (.int p3), (.int p4), (.int p5)] maxLocals)) t := fun t k => pre51 t (by
        refine X28.arraylength hx (id Ar52.1) (State.isArrayOf_alike hZ.alike Ar52.2.1) (g := (mkF m 110 #[.val (.int p0), .val (.int p1), .val (.int p2), .val (.int p3), .val (.int p4), .val (.int p5), .val (.int nn), .val (.ref b14), .val (.int kk), .val (.int jj), .val (.ref b_28), .val (.int (2 : Int32)), .unset, .unset, .unset, .unset, .unset] [(.ref b_28)])) rfl rfl (hb hby at_110) _ ?_
        rw [len_of S52 M52]
        show Steps p.tables e below (T28.setTop (mkF m 111 #[.val (.int p0), .val (.int p1), .val (.int p2), .val (.int p3), .val (.int p4), .val (.int p5), .val (.int nn), .val (.ref b14), .val (.int kk), .val (.int jj), .val (.ref b_28), .val (.int (2 : Int32)), .unset, .unset, .unset, .unset, .unset] [(.int ((3 : Int32) + nn))])) _
        refine XS.iconst X28.here hx rfl (hb hby at_111) ?_
        show Steps p.tables e below (T28.setTop (mkF m 112 #[.val (.int p0), .val (.int p1), .val (.int p2), .val (.int p3), .val (.int p4), .val (.int p5), .val (.int nn), .val (.ref b14), .val (.int kk), .val (.int jj), .val (.ref b_28), .val (.int (2 : Int32)), .unset, .unset, .unset, .unset, .unset] [(.int (1 : Int32)), (.int ((3 : Int32) + nn))])) _
        refine XS.iload X28.here hx rfl (hb hby at_112) rfl ?_
        show Steps p.tables e below (T28.setTop (mkF m 114 #[.val (.int p0), .val (.int p1), .val (.int p2), .val (.int p3), .val (.int p4), .val (.int p5), .val (.int nn), .val (.ref b14), .val (.int kk), .val (.int jj), .val (.ref b_28), .val (.int (2 : Int32)), .unset, .unset, .unset, .unset, .unset] [(.int (2 : Int32)), (.int (1 : Int32)), (.int ((3 : Int32) + nn))])) _
        refine XS.iadd X28.here hx rfl (hb hby at_114) rfl ?_
        show Steps p.tables e below (T28.setTop (mkF m 115 #[.val (.int p0), .val (.int p1), .val (.int p2), .val (.int p3), .val (.int p4), .val (.int p5), .val (.int nn), .val (.ref b14), .val (.int kk), .val (.int jj), .val (.ref b_28), .val (.int (2 : Int32)), .unset, .unset, .unset, .unset, .unset] [(.int (3 : Int32)), (.int ((3 : Int32) + nn))])) _
        refine XS.iload X28.here hx rfl (hb hby at_115) rfl ?_
        show Steps p.tables e below (T28.setTop (mkF m 117 #[.val (.int p0), .val (.int p1), .val (.int p2), .val (.int p3), .val (.int p4), .val (.int p5), .val (.int nn), .val (.ref b14), .val (.int kk), .val (.int jj), .val (.ref b_28), .val (.int (2 : Int32)), .unset, .unset, .unset, .unset, .unset] [(.int nn), (.int (3 : Int32)), (.int ((3 : Int32) + nn))])) _
        refine XS.iadd X28.here hx rfl (hb hby at_117) rfl ?_
        show Steps p.tables e below (T28.setTop (mkF m 118 #[.val (.int p0), .val (.int p1), .val (.int p2), .val (.int p3), .val (.int p4), .val (.int p5), .val (.int nn), .val (.ref b14), .val (.int kk), .val (.int jj), .val (.ref b_28), .val (.int (2 : Int32)), .unset, .unset, .unset, .unset, .unset] [(.int ((3 : Int32) + nn)), (.int ((3 : Int32) + nn))])) _
        refine XS.icmpYes X28.here hx rfl (pc0 := 118) (pc' := 123) rfl (hb hby at_118) rfl (teq (rfl : ((3 : Int32) + nn) = ((3 : Int32) + nn))).1 (by decide) (by decide) ?_
        show Steps p.tables e below (T28.setTop (mkF m 123 #[.val (.int p0), .val (.int p1), .val (.int p2), .val (.int p3), .val (.int p4), .val (.int p5), .val (.int nn), .val (.ref b14), .val (.int kk), .val (.int jj), .val (.ref b_28), .val (.int (2 : Int32)), .unset, .unset, .unset, .unset, .unset] [])) _
        refine XS.aload X28.here hx rfl (hb hby at_123) rfl rfl ?_
        show Steps p.tables e below (T28.setTop (mkF m 125 #[.val (.int p0), .val (.int p1), .val (.int p2), .val (.int p3), .val (.int p4), .val (.int p5), .val (.int nn), .val (.ref b14), .val (.int kk), .val (.int jj), .val (.ref b_28), .val (.int (2 : Int32)), .unset, .unset, .unset, .unset, .unset] [(.ref b_28)])) _
        refine XS.iconst X28.here hx rfl (hb hby at_125) ?_
        show Steps p.tables e below (T28.setTop (mkF m 126 #[.val (.int p0), .val (.int p1), .val (.int p2), .val (.int p3), .val (.int p4), .val (.int p5), .val (.int nn), .val (.ref b14), .val (.int kk), .val (.int jj), .val (.ref b_28), .val (.int (2 : Int32)), .unset, .unset, .unset, .unset, .unset] [(.int (0 : Int32)), (.ref b_28)])) _
        refine X28.baloadBytes hx (j := (0 : Int32)) (v := (.int (2 : Int32))) (id Ar53.1) (State.isArrayOf_alike hZ.alike Ar53.2.1) Ar53.2.2 hin53 hat53 (g := (mkF m 126 #[.val (.int p0), .val (.int p1), .val (.int p2), .val (.int p3), .val (.int p4), .val (.int p5), .val (.int nn), .val (.ref b14), .val (.int kk), .val (.int jj), .val (.ref b_28), .val (.int (2 : Int32)), .unset, .unset, .unset, .unset, .unset] [(.int (0 : Int32)), (.ref b_28)])) rfl rfl (hb hby at_126) _ ?_
        show Steps p.tables e below (T28.setTop (mkF m 127 #[.val (.int p0), .val (.int p1), .val (.int p2), .val (.int p3), .val (.int p4), .val (.int p5), .val (.int nn), .val (.ref b14), .val (.int kk), .val (.int jj), .val (.ref b_28), .val (.int (2 : Int32)), .unset, .unset, .unset, .unset, .unset] [(.int (2 : Int32))])) _
        refine XS.iload X28.here hx rfl (hb hby at_127) rfl ?_
        show Steps p.tables e below (T28.setTop (mkF m 129 #[.val (.int p0), .val (.int p1), .val (.int p2), .val (.int p3), .val (.int p4), .val (.int p5), .val (.int nn), .val (.ref b14), .val (.int kk), .val (.int jj), .val (.ref b_28), .val (.int (2 : Int32)), .unset, .unset, .unset, .unset, .unset] [(.int (2 : Int32)), (.int (2 : Int32))])) _
        refine XS.i2b X28.here hx rfl (hb hby at_129) rfl ?_
        show Steps p.tables e below (T28.setTop (mkF m 130 #[.val (.int p0), .val (.int p1), .val (.int p2), .val (.int p3), .val (.int p4), .val (.int p5), .val (.int nn), .val (.ref b14), .val (.int kk), .val (.int jj), .val (.ref b_28), .val (.int (2 : Int32)), .unset, .unset, .unset, .unset, .unset] [(.int ((2 : Int32).toInt8.toInt32)), (.int (2 : Int32))])) _
        refine XS.icmpYes X28.here hx rfl (pc0 := 130) (pc' := 135) rfl (hb hby at_130) rfl (teq (by decide)).1 (by decide) (by decide) ?_
        show Steps p.tables e below (T28.setTop (mkF m 135 #[.val (.int p0), .val (.int p1), .val (.int p2), .val (.int p3), .val (.int p4), .val (.int p5), .val (.int nn), .val (.ref b14), .val (.int kk), .val (.int jj), .val (.ref b_28), .val (.int (2 : Int32)), .unset, .unset, .unset, .unset, .unset] [])) _
        refine XS.iload X28.here hx rfl (hb hby at_135) rfl ?_
        show Steps p.tables e below (T28.setTop (mkF m 137 #[.val (.int p0), .val (.int p1), .val (.int p2), .val (.int p3), .val (.int p4), .val (.int p5), .val (.int nn), .val (.ref b14), .val (.int kk), .val (.int jj), .val (.ref b_28), .val (.int (2 : Int32)), .unset, .unset, .unset, .unset, .unset] [(.int (2 : Int32))])) _
        refine XS.iconst X28.here hx rfl (hb hby at_137) ?_
        show Steps p.tables e below (T28.setTop (mkF m 138 #[.val (.int p0), .val (.int p1), .val (.int p2), .val (.int p3), .val (.int p4), .val (.int p5), .val (.int nn), .val (.ref b14), .val (.int kk), .val (.int jj), .val (.ref b_28), .val (.int (2 : Int32)), .unset, .unset, .unset, .unset, .unset] [(.int (1 : Int32)), (.int (2 : Int32))])) _
        refine XS.icmpYes X28.here hx rfl (pc0 := 138) (pc' := 154) rfl (hb hby at_138) rfl (feq (by decide : ¬ ((2 : Int32) = (1 : Int32)))).2 (by decide) (by decide) ?_
        show Steps p.tables e below (T28.setTop (mkF m 154 #[.val (.int p0), .val (.int p1), .val (.int p2), .val (.int p3), .val (.int p4), .val (.int p5), .val (.int nn), .val (.ref b14), .val (.int kk), .val (.int jj), .val (.ref b_28), .val (.int (2 : Int32)), .unset, .unset, .unset, .unset, .unset] [])) _
        refine XS.iload X28.here hx rfl (hb hby at_154) rfl ?_
        show Steps p.tables e below (T28.setTop (mkF m 156 #[.val (.int p0), .val (.int p1), .val (.int p2), .val (.int p3), .val (.int p4), .val (.int p5), .val (.int nn), .val (.ref b14), .val (.int kk), .val (.int jj), .val (.ref b_28), .val (.int (2 : Int32)), .unset, .unset, .unset, .unset, .unset] [(.int (2 : Int32))])) _
        refine XS.iconst X28.here hx rfl (hb hby at_156) ?_
        show Steps p.tables e below (T28.setTop (mkF m 157 #[.val (.int p0), .val (.int p1), .val (.int p2), .val (.int p3), .val (.int p4), .val (.int p5), .val (.int nn), .val (.ref b14), .val (.int kk), .val (.int jj), .val (.ref b_28), .val (.int (2 : Int32)), .unset, .unset, .unset, .unset, .unset] [(.int (2 : Int32)), (.int (2 : Int32))])) _
        refine XS.icmpNo X28.here hx rfl (hb hby at_157) rfl (teq (by decide : (2 : Int32) = (2 : Int32))).2 ?_
        show Steps p.tables e below (T28.setTop (mkF m 160 #[.val (.int p0), .val (.int p1), .val (.int p2), .val (.int p3), .val (.int p4), .val (.int p5), .val (.int nn), .val (.ref b14), .val (.int kk), .val (.int jj), .val (.ref b_28), .val (.int (2 : Int32)), .unset, .unset, .unset, .unset, .unset] [])) _
        refine XS.aload X28.here hx rfl (hb hby at_160) rfl rfl ?_
        show Steps p.tables e below (T28.setTop (mkF m 162 #[.val (.int p0), .val (.int p1), .val (.int p2), .val (.int p3), .val (.int p4), .val (.int p5), .val (.int nn), .val (.ref b14), .val (.int kk), .val (.int jj), .val (.ref b_28), .val (.int (2 : Int32)), .unset, .unset, .unset, .unset, .unset] [(.ref b_28)])) _
        refine XS.iconst X28.here hx rfl (hb hby at_162) ?_
        show Steps p.tables e below (T28.setTop (mkF m 163 #[.val (.int p0), .val (.int p1), .val (.int p2), .val (.int p3), .val (.int p4), .val (.int p5), .val (.int nn), .val (.ref b14), .val (.int kk), .val (.int jj), .val (.ref b_28), .val (.int (2 : Int32)), .unset, .unset, .unset, .unset, .unset] [(.int (1 : Int32)), (.ref b_28)])) _
        refine X28.baloadBytes hx (j := (1 : Int32)) (v := (.int (own_sb nn (8 : Int32)))) (id Ar54.1) (State.isArrayOf_alike hZ.alike Ar54.2.1) Ar54.2.2 hin54 hat54 (g := (mkF m 163 #[.val (.int p0), .val (.int p1), .val (.int p2), .val (.int p3), .val (.int p4), .val (.int p5), .val (.int nn), .val (.ref b14), .val (.int kk), .val (.int jj), .val (.ref b_28), .val (.int (2 : Int32)), .unset, .unset, .unset, .unset, .unset] [(.int (1 : Int32)), (.ref b_28)])) rfl rfl (hb hby at_163) _ ?_
        show Steps p.tables e below (T28.setTop (mkF m 164 #[.val (.int p0), .val (.int p1), .val (.int p2), .val (.int p3), .val (.int p4), .val (.int p5), .val (.int nn), .val (.ref b14), .val (.int kk), .val (.int jj), .val (.ref b_28), .val (.int (2 : Int32)), .unset, .unset, .unset, .unset, .unset] [(.int (own_sb nn (8 : Int32)))])) _
        refine XS.sipush X28.here hx rfl (hb hby at_164) ?_
        show Steps p.tables e below (T28.setTop (mkF m 167 #[.val (.int p0), .val (.int p1), .val (.int p2), .val (.int p3), .val (.int p4), .val (.int p5), .val (.int nn), .val (.ref b14), .val (.int kk), .val (.int jj), .val (.ref b_28), .val (.int (2 : Int32)), .unset, .unset, .unset, .unset, .unset] [(.int (255 : Int32)), (.int (own_sb nn (8 : Int32)))])) _
        refine XS.iand X28.here hx rfl (hb hby at_167) rfl ?_
        show Steps p.tables e below (T28.setTop (mkF m 168 #[.val (.int p0), .val (.int p1), .val (.int p2), .val (.int p3), .val (.int p4), .val (.int p5), .val (.int nn), .val (.ref b14), .val (.int kk), .val (.int jj), .val (.ref b_28), .val (.int (2 : Int32)), .unset, .unset, .unset, .unset, .unset] [(.int ((own_sb nn (8 : Int32)) &&& (255 : Int32)))])) _
        refine XS.bipush X28.here hx rfl (hb hby at_168) ?_
        show Steps p.tables e below (T28.setTop (mkF m 170 #[.val (.int p0), .val (.int p1), .val (.int p2), .val (.int p3), .val (.int p4), .val (.int p5), .val (.int nn), .val (.ref b14), .val (.int kk), .val (.int jj), .val (.ref b_28), .val (.int (2 : Int32)), .unset, .unset, .unset, .unset, .unset] [(.int (8 : Int32)), (.int ((own_sb nn (8 : Int32)) &&& (255 : Int32)))])) _
        refine XS.ishl X28.here hx rfl (hb hby at_170) rfl ?_
        show Steps p.tables e below (T28.setTop (mkF m 171 #[.val (.int p0), .val (.int p1), .val (.int p2), .val (.int p3), .val (.int p4), .val (.int p5), .val (.int nn), .val (.ref b14), .val (.int kk), .val (.int jj), .val (.ref b_28), .val (.int (2 : Int32)), .unset, .unset, .unset, .unset, .unset] [(.int (((own_sb nn (8 : Int32)) &&& (255 : Int32)) <<< ((8 : Int32) &&& 31)))])) _
        refine XS.aload X28.here hx rfl (hb hby at_171) rfl rfl ?_
        show Steps p.tables e below (T28.setTop (mkF m 173 #[.val (.int p0), .val (.int p1), .val (.int p2), .val (.int p3), .val (.int p4), .val (.int p5), .val (.int nn), .val (.ref b14), .val (.int kk), .val (.int jj), .val (.ref b_28), .val (.int (2 : Int32)), .unset, .unset, .unset, .unset, .unset] [(.ref b_28), (.int (((own_sb nn (8 : Int32)) &&& (255 : Int32)) <<< ((8 : Int32) &&& 31)))])) _
        refine XS.iconst X28.here hx rfl (hb hby at_173) ?_
        show Steps p.tables e below (T28.setTop (mkF m 174 #[.val (.int p0), .val (.int p1), .val (.int p2), .val (.int p3), .val (.int p4), .val (.int p5), .val (.int nn), .val (.ref b14), .val (.int kk), .val (.int jj), .val (.ref b_28), .val (.int (2 : Int32)), .unset, .unset, .unset, .unset, .unset] [(.int (2 : Int32)), (.ref b_28), (.int (((own_sb nn (8 : Int32)) &&& (255 : Int32)) <<< ((8 : Int32) &&& 31)))])) _
        refine X28.baloadBytes hx (j := (2 : Int32)) (v := (.int (own_sb nn (0 : Int32)))) (id Ar55.1) (State.isArrayOf_alike hZ.alike Ar55.2.1) Ar55.2.2 hin55 hat55 (g := (mkF m 174 #[.val (.int p0), .val (.int p1), .val (.int p2), .val (.int p3), .val (.int p4), .val (.int p5), .val (.int nn), .val (.ref b14), .val (.int kk), .val (.int jj), .val (.ref b_28), .val (.int (2 : Int32)), .unset, .unset, .unset, .unset, .unset] [(.int (2 : Int32)), (.ref b_28), (.int (((own_sb nn (8 : Int32)) &&& (255 : Int32)) <<< ((8 : Int32) &&& 31)))])) rfl rfl (hb hby at_174) _ ?_
        show Steps p.tables e below (T28.setTop (mkF m 175 #[.val (.int p0), .val (.int p1), .val (.int p2), .val (.int p3), .val (.int p4), .val (.int p5), .val (.int nn), .val (.ref b14), .val (.int kk), .val (.int jj), .val (.ref b_28), .val (.int (2 : Int32)), .unset, .unset, .unset, .unset, .unset] [(.int (own_sb nn (0 : Int32))), (.int (((own_sb nn (8 : Int32)) &&& (255 : Int32)) <<< ((8 : Int32) &&& 31)))])) _
        refine XS.sipush X28.here hx rfl (hb hby at_175) ?_
        show Steps p.tables e below (T28.setTop (mkF m 178 #[.val (.int p0), .val (.int p1), .val (.int p2), .val (.int p3), .val (.int p4), .val (.int p5), .val (.int nn), .val (.ref b14), .val (.int kk), .val (.int jj), .val (.ref b_28), .val (.int (2 : Int32)), .unset, .unset, .unset, .unset, .unset] [(.int (255 : Int32)), (.int (own_sb nn (0 : Int32))), (.int (((own_sb nn (8 : Int32)) &&& (255 : Int32)) <<< ((8 : Int32) &&& 31)))])) _
        refine XS.iand X28.here hx rfl (hb hby at_178) rfl ?_
        show Steps p.tables e below (T28.setTop (mkF m 179 #[.val (.int p0), .val (.int p1), .val (.int p2), .val (.int p3), .val (.int p4), .val (.int p5), .val (.int nn), .val (.ref b14), .val (.int kk), .val (.int jj), .val (.ref b_28), .val (.int (2 : Int32)), .unset, .unset, .unset, .unset, .unset] [(.int ((own_sb nn (0 : Int32)) &&& (255 : Int32))), (.int (((own_sb nn (8 : Int32)) &&& (255 : Int32)) <<< ((8 : Int32) &&& 31)))])) _
        refine XS.ior X28.here hx rfl (hb hby at_179) rfl ?_
        show Steps p.tables e below (T28.setTop (mkF m 180 #[.val (.int p0), .val (.int p1), .val (.int p2), .val (.int p3), .val (.int p4), .val (.int p5), .val (.int nn), .val (.ref b14), .val (.int kk), .val (.int jj), .val (.ref b_28), .val (.int (2 : Int32)), .unset, .unset, .unset, .unset, .unset] [(.int ((((own_sb nn (8 : Int32)) &&& (255 : Int32)) <<< ((8 : Int32) &&& 31)) ||| ((own_sb nn (0 : Int32)) &&& (255 : Int32))))])) _
        refine XS.istore X28.here hx rfl (hb hby at_180) rfl (l' := #[.val (.int p0), .val (.int p1), .val (.int p2), .val (.int p3), .val (.int p4), .val (.int p5), .val (.int nn), .val (.ref b14), .val (.int kk), .val (.int jj), .val (.ref b_28), .val (.int (2 : Int32)), .val (.int ((((own_sb nn (8 : Int32)) &&& (255 : Int32)) <<< ((8 : Int32) &&& 31)) ||| ((own_sb nn (0 : Int32)) &&& (255 : Int32)))), .unset, .unset, .unset, .unset]) rfl ?_
        show Steps p.tables e below (T28.setTop (mkF m 182 #[.val (.int p0), .val (.int p1), .val (.int p2), .val (.int p3), .val (.int p4), .val (.int p5), .val (.int nn), .val (.ref b14), .val (.int kk), .val (.int jj), .val (.ref b_28), .val (.int (2 : Int32)), .val (.int ((((own_sb nn (8 : Int32)) &&& (255 : Int32)) <<< ((8 : Int32) &&& 31)) ||| ((own_sb nn (0 : Int32)) &&& (255 : Int32)))), .unset, .unset, .unset, .unset] [])) _
        refine XS.goto X28.here hx rfl (pc0 := 182) (pc' := 219) rfl (hb hby at_182) (by decide) (by decide) ?_
        show Steps p.tables e below (T28.setTop (mkF m 219 #[.val (.int p0), .val (.int p1), .val (.int p2), .val (.int p3), .val (.int p4), .val (.int p5), .val (.int nn), .val (.ref b14), .val (.int kk), .val (.int jj), .val (.ref b_28), .val (.int (2 : Int32)), .val (.int ((((own_sb nn (8 : Int32)) &&& (255 : Int32)) <<< ((8 : Int32) &&& 31)) ||| ((own_sb nn (0 : Int32)) &&& (255 : Int32)))), .unset, .unset, .unset, .unset] [])) _
        refine XS.iload X28.here hx rfl (hb hby at_219) rfl ?_
        show Steps p.tables e below (T28.setTop (mkF m 221 #[.val (.int p0), .val (.int p1), .val (.int p2), .val (.int p3), .val (.int p4), .val (.int p5), .val (.int nn), .val (.ref b14), .val (.int kk), .val (.int jj), .val (.ref b_28), .val (.int (2 : Int32)), .val (.int ((((own_sb nn (8 : Int32)) &&& (255 : Int32)) <<< ((8 : Int32) &&& 31)) ||| ((own_sb nn (0 : Int32)) &&& (255 : Int32)))), .unset, .unset, .unset, .unset] [(.int ((((own_sb nn (8 : Int32)) &&& (255 : Int32)) <<< ((8 : Int32) &&& 31)) ||| ((own_sb nn (0 : Int32)) &&& (255 : Int32))))])) _
        refine XS.iload X28.here hx rfl (hb hby at_221) rfl ?_
        show Steps p.tables e below (T28.setTop (mkF m 223 #[.val (.int p0), .val (.int p1), .val (.int p2), .val (.int p3), .val (.int p4), .val (.int p5), .val (.int nn), .val (.ref b14), .val (.int kk), .val (.int jj), .val (.ref b_28), .val (.int (2 : Int32)), .val (.int ((((own_sb nn (8 : Int32)) &&& (255 : Int32)) <<< ((8 : Int32) &&& 31)) ||| ((own_sb nn (0 : Int32)) &&& (255 : Int32)))), .unset, .unset, .unset, .unset] [(.int nn), (.int ((((own_sb nn (8 : Int32)) &&& (255 : Int32)) <<< ((8 : Int32) &&& 31)) ||| ((own_sb nn (0 : Int32)) &&& (255 : Int32))))])) _
        refine XS.icmpYes X28.here hx rfl (pc0 := 223) (pc' := 228) rfl (hb hby at_223) rfl (teq (own_d2 Bn hz1)).1 (by decide) (by decide) ?_
        show Steps p.tables e below (T28.setTop (mkF m 228 #[.val (.int p0), .val (.int p1), .val (.int p2), .val (.int p3), .val (.int p4), .val (.int p5), .val (.int nn), .val (.ref b14), .val (.int kk), .val (.int jj), .val (.ref b_28), .val (.int (2 : Int32)), .val (.int ((((own_sb nn (8 : Int32)) &&& (255 : Int32)) <<< ((8 : Int32) &&& 31)) ||| ((own_sb nn (0 : Int32)) &&& (255 : Int32)))), .unset, .unset, .unset, .unset] [])) _
        refine XS.iload X28.here hx rfl (hb hby at_228) rfl ?_
        show Steps p.tables e below (T28.setTop (mkF m 230 #[.val (.int p0), .val (.int p1), .val (.int p2), .val (.int p3), .val (.int p4), .val (.int p5), .val (.int nn), .val (.ref b14), .val (.int kk), .val (.int jj), .val (.ref b_28), .val (.int (2 : Int32)), .val (.int ((((own_sb nn (8 : Int32)) &&& (255 : Int32)) <<< ((8 : Int32) &&& 31)) ||| ((own_sb nn (0 : Int32)) &&& (255 : Int32)))), .unset, .unset, .unset, .unset] [(.int nn)])) _
        refine XS.ifYes X28.here hx rfl (pc0 := 230) (pc' := 235) rfl (hb hby at_230) rfl ((if0 _ _).trans (feq hnz).2) (by decide) (by decide) ?_
        show Steps p.tables e below (T28.setTop (mkF m 235 #[.val (.int p0), .val (.int p1), .val (.int p2), .val (.int p3), .val (.int p4), .val (.int p5), .val (.int nn), .val (.ref b14), .val (.int kk), .val (.int jj), .val (.ref b_28), .val (.int (2 : Int32)), .val (.int ((((own_sb nn (8 : Int32)) &&& (255 : Int32)) <<< ((8 : Int32) &&& 31)) ||| ((own_sb nn (0 : Int32)) &&& (255 : Int32)))), .unset, .unset, .unset, .unset] [])) _
        refine XS.iconst X28.here hx rfl (hb hby at_235) ?_
        show Steps p.tables e below (T28.setTop (mkF m 236 #[.val (.int p0), .val (.int p1), .val (.int p2), .val (.int p3), .val (.int p4), .val (.int p5), .val (.int nn), .val (.ref b14), .val (.int kk), .val (.int jj), .val (.ref b_28), .val (.int (2 : Int32)), .val (.int ((((own_sb nn (8 : Int32)) &&& (255 : Int32)) <<< ((8 : Int32) &&& 31)) ||| ((own_sb nn (0 : Int32)) &&& (255 : Int32)))), .unset, .unset, .unset, .unset] [(.int (1 : Int32))])) _
        refine XS.iload X28.here hx rfl (hb hby at_236) rfl ?_
        show Steps p.tables e below (T28.setTop (mkF m 238 #[.val (.int p0), .val (.int p1), .val (.int p2), .val (.int p3), .val (.int p4), .val (.int p5), .val (.int nn), .val (.ref b14), .val (.int kk), .val (.int jj), .val (.ref b_28), .val (.int (2 : Int32)), .val (.int ((((own_sb nn (8 : Int32)) &&& (255 : Int32)) <<< ((8 : Int32) &&& 31)) ||| ((own_sb nn (0 : Int32)) &&& (255 : Int32)))), .unset, .unset, .unset, .unset] [(.int (2 : Int32)), (.int (1 : Int32))])) _
        refine XS.iadd X28.here hx rfl (hb hby at_238) rfl ?_
        show Steps p.tables e below (T28.setTop (mkF m 239 #[.val (.int p0), .val (.int p1), .val (.int p2), .val (.int p3), .val (.int p4), .val (.int p5), .val (.int nn), .val (.ref b14), .val (.int kk), .val (.int jj), .val (.ref b_28), .val (.int (2 : Int32)), .val (.int ((((own_sb nn (8 : Int32)) &&& (255 : Int32)) <<< ((8 : Int32) &&& 31)) ||| ((own_sb nn (0 : Int32)) &&& (255 : Int32)))), .unset, .unset, .unset, .unset] [(.int (3 : Int32))])) _
        refine XS.istore X28.here hx rfl (hb hby at_239) rfl (l' := #[.val (.int p0), .val (.int p1), .val (.int p2), .val (.int p3), .val (.int p4), .val (.int p5), .val (.int nn), .val (.ref b14), .val (.int kk), .val (.int jj), .val (.ref b_28), .val (.int (2 : Int32)), .val (.int ((((own_sb nn (8 : Int32)) &&& (255 : Int32)) <<< ((8 : Int32) &&& 31)) ||| ((own_sb nn (0 : Int32)) &&& (255 : Int32)))), .val (.int (3 : Int32)), .unset, .unset, .unset]) rfl ?_
        show Steps p.tables e below (T28.setTop (mkF m 241 #[.val (.int p0), .val (.int p1), .val (.int p2), .val (.int p3), .val (.int p4), .val (.int p5), .val (.int nn), .val (.ref b14), .val (.int kk), .val (.int jj), .val (.ref b_28), .val (.int (2 : Int32)), .val (.int ((((own_sb nn (8 : Int32)) &&& (255 : Int32)) <<< ((8 : Int32) &&& 31)) ||| ((own_sb nn (0 : Int32)) &&& (255 : Int32)))), .val (.int (3 : Int32)), .unset, .unset, .unset] [])) _
        refine XS.iloadN X28.here hx rfl (hb hby at_241) rfl ?_
        show Steps p.tables e below (T28.setTop (mkF m 242 #[.val (.int p0), .val (.int p1), .val (.int p2), .val (.int p3), .val (.int p4), .val (.int p5), .val (.int nn), .val (.ref b14), .val (.int kk), .val (.int jj), .val (.ref b_28), .val (.int (2 : Int32)), .val (.int ((((own_sb nn (8 : Int32)) &&& (255 : Int32)) <<< ((8 : Int32) &&& 31)) ||| ((own_sb nn (0 : Int32)) &&& (255 : Int32)))), .val (.int (3 : Int32)), .unset, .unset, .unset] [(.int p3)])) _
        refine XS.i2b X28.here hx rfl (hb hby at_242) rfl ?_
        show Steps p.tables e below (T28.setTop (mkF m 243 #[.val (.int p0), .val (.int p1), .val (.int p2), .val (.int p3), .val (.int p4), .val (.int p5), .val (.int nn), .val (.ref b14), .val (.int kk), .val (.int jj), .val (.ref b_28), .val (.int (2 : Int32)), .val (.int ((((own_sb nn (8 : Int32)) &&& (255 : Int32)) <<< ((8 : Int32) &&& 31)) ||| ((own_sb nn (0 : Int32)) &&& (255 : Int32)))), .val (.int (3 : Int32)), .unset, .unset, .unset] [(.int (p3.toInt8.toInt32))])) _
        refine XS.istore X28.here hx rfl (hb hby at_243) rfl (l' := #[.val (.int p0), .val (.int p1), .val (.int p2), .val (.int p3), .val (.int p4), .val (.int p5), .val (.int nn), .val (.ref b14), .val (.int kk), .val (.int jj), .val (.ref b_28), .val (.int (2 : Int32)), .val (.int ((((own_sb nn (8 : Int32)) &&& (255 : Int32)) <<< ((8 : Int32) &&& 31)) ||| ((own_sb nn (0 : Int32)) &&& (255 : Int32)))), .val (.int (3 : Int32)), .val (.int (p3.toInt8.toInt32)), .unset, .unset]) rfl ?_
        show Steps p.tables e below (T28.setTop (mkF m 245 #[.val (.int p0), .val (.int p1), .val (.int p2), .val (.int p3), .val (.int p4), .val (.int p5), .val (.int nn), .val (.ref b14), .val (.int kk), .val (.int jj), .val (.ref b_28), .val (.int (2 : Int32)), .val (.int ((((own_sb nn (8 : Int32)) &&& (255 : Int32)) <<< ((8 : Int32) &&& 31)) ||| ((own_sb nn (0 : Int32)) &&& (255 : Int32)))), .val (.int (3 : Int32)), .val (.int (p3.toInt8.toInt32)), .unset, .unset] [])) _
        refine XS.iload X28.here hx rfl (hb hby at_245) rfl ?_
        show Steps p.tables e below (T28.setTop (mkF m 247 #[.val (.int p0), .val (.int p1), .val (.int p2), .val (.int p3), .val (.int p4), .val (.int p5), .val (.int nn), .val (.ref b14), .val (.int kk), .val (.int jj), .val (.ref b_28), .val (.int (2 : Int32)), .val (.int ((((own_sb nn (8 : Int32)) &&& (255 : Int32)) <<< ((8 : Int32) &&& 31)) ||| ((own_sb nn (0 : Int32)) &&& (255 : Int32)))), .val (.int (3 : Int32)), .val (.int (p3.toInt8.toInt32)), .unset, .unset] [(.int kk)])) _
        refine XS.iload X28.here hx rfl (hb hby at_247) rfl ?_
        show Steps p.tables e below (T28.setTop (mkF m 249 #[.val (.int p0), .val (.int p1), .val (.int p2), .val (.int p3), .val (.int p4), .val (.int p5), .val (.int nn), .val (.ref b14), .val (.int kk), .val (.int jj), .val (.ref b_28), .val (.int (2 : Int32)), .val (.int ((((own_sb nn (8 : Int32)) &&& (255 : Int32)) <<< ((8 : Int32) &&& 31)) ||| ((own_sb nn (0 : Int32)) &&& (255 : Int32)))), .val (.int (3 : Int32)), .val (.int (p3.toInt8.toInt32)), .unset, .unset] [(.int nn), (.int kk)])) _
        refine XS.iconst X28.here hx rfl (hb hby at_249) ?_
        show Steps p.tables e below (T28.setTop (mkF m 250 #[.val (.int p0), .val (.int p1), .val (.int p2), .val (.int p3), .val (.int p4), .val (.int p5), .val (.int nn), .val (.ref b14), .val (.int kk), .val (.int jj), .val (.ref b_28), .val (.int (2 : Int32)), .val (.int ((((own_sb nn (8 : Int32)) &&& (255 : Int32)) <<< ((8 : Int32) &&& 31)) ||| ((own_sb nn (0 : Int32)) &&& (255 : Int32)))), .val (.int (3 : Int32)), .val (.int (p3.toInt8.toInt32)), .unset, .unset] [(.int (1 : Int32)), (.int nn), (.int kk)])) _
        refine XS.isub X28.here hx rfl (hb hby at_250) rfl ?_
        exact k)
      obtain ⟨xl, hxl⟩ : ∃ z : Int32, z = (if kk = (nn - (1 : Int32)) then (p3.toInt8.toInt32) else (p4.toInt8.toInt32)) := ⟨_, rfl⟩
      have pre58 : ∀ t, Steps p.tables e below (T28.setTop (mkF m 262 #[.val (.int p0), .val (.int p1), .val (.int p2), .val (.int p3), .val (.int p4), .val (.int p5), .val (.int nn), .val (.ref b14), .val (.int kk), .val (.int jj), .val (.ref b_28), .val (.int (2 : Int32)), .val (.int ((((own_sb nn (8 : Int32)) &&& (255 : Int32)) <<< ((8 : Int32) &&& 31)) ||| ((own_sb nn (0 : Int32)) &&& (255 : Int32)))), .val (.int (3 : Int32)), .val (.int (p3.toInt8.toInt32)), .unset, .unset] [(.int xl)])) t → Steps p.tables e below (s₁.setTop (entryFrame m #[(.int p0), (.int p1), (.int p2), (.int p3), (.int p4), (.int p5)] maxLocals)) t := fun t k => pre56 t (by
        by_cases hm57 : kk = (nn - (1 : Int32))
        · rw [show xl = (p3.toInt8.toInt32) from by rw [hxl, if_pos hm57]] at k
          refine XS.icmpNo X28.here hx rfl (hb hby at_251) rfl (teq hm57).2 ?_
          show Steps p.tables e below (T28.setTop (mkF m 254 #[.val (.int p0), .val (.int p1), .val (.int p2), .val (.int p3), .val (.int p4), .val (.int p5), .val (.int nn), .val (.ref b14), .val (.int kk), .val (.int jj), .val (.ref b_28), .val (.int (2 : Int32)), .val (.int ((((own_sb nn (8 : Int32)) &&& (255 : Int32)) <<< ((8 : Int32) &&& 31)) ||| ((own_sb nn (0 : Int32)) &&& (255 : Int32)))), .val (.int (3 : Int32)), .val (.int (p3.toInt8.toInt32)), .unset, .unset] [])) _
          refine XS.iloadN X28.here hx rfl (hb hby at_254) rfl ?_
          show Steps p.tables e below (T28.setTop (mkF m 255 #[.val (.int p0), .val (.int p1), .val (.int p2), .val (.int p3), .val (.int p4), .val (.int p5), .val (.int nn), .val (.ref b14), .val (.int kk), .val (.int jj), .val (.ref b_28), .val (.int (2 : Int32)), .val (.int ((((own_sb nn (8 : Int32)) &&& (255 : Int32)) <<< ((8 : Int32) &&& 31)) ||| ((own_sb nn (0 : Int32)) &&& (255 : Int32)))), .val (.int (3 : Int32)), .val (.int (p3.toInt8.toInt32)), .unset, .unset] [(.int p3)])) _
          refine XS.i2b X28.here hx rfl (hb hby at_255) rfl ?_
          show Steps p.tables e below (T28.setTop (mkF m 256 #[.val (.int p0), .val (.int p1), .val (.int p2), .val (.int p3), .val (.int p4), .val (.int p5), .val (.int nn), .val (.ref b14), .val (.int kk), .val (.int jj), .val (.ref b_28), .val (.int (2 : Int32)), .val (.int ((((own_sb nn (8 : Int32)) &&& (255 : Int32)) <<< ((8 : Int32) &&& 31)) ||| ((own_sb nn (0 : Int32)) &&& (255 : Int32)))), .val (.int (3 : Int32)), .val (.int (p3.toInt8.toInt32)), .unset, .unset] [(.int (p3.toInt8.toInt32))])) _
          refine XS.goto X28.here hx rfl (pc0 := 256) (pc' := 262) rfl (hb hby at_256) (by decide) (by decide) ?_
          exact k
        · rw [show xl = (p4.toInt8.toInt32) from by rw [hxl, if_neg hm57]] at k
          refine XS.icmpYes X28.here hx rfl (pc0 := 251) (pc' := 259) rfl (hb hby at_251) rfl (feq hm57).2 (by decide) (by decide) ?_
          show Steps p.tables e below (T28.setTop (mkF m 259 #[.val (.int p0), .val (.int p1), .val (.int p2), .val (.int p3), .val (.int p4), .val (.int p5), .val (.int nn), .val (.ref b14), .val (.int kk), .val (.int jj), .val (.ref b_28), .val (.int (2 : Int32)), .val (.int ((((own_sb nn (8 : Int32)) &&& (255 : Int32)) <<< ((8 : Int32) &&& 31)) ||| ((own_sb nn (0 : Int32)) &&& (255 : Int32)))), .val (.int (3 : Int32)), .val (.int (p3.toInt8.toInt32)), .unset, .unset] [])) _
          refine XS.iload X28.here hx rfl (hb hby at_259) rfl ?_
          show Steps p.tables e below (T28.setTop (mkF m 261 #[.val (.int p0), .val (.int p1), .val (.int p2), .val (.int p3), .val (.int p4), .val (.int p5), .val (.int nn), .val (.ref b14), .val (.int kk), .val (.int jj), .val (.ref b_28), .val (.int (2 : Int32)), .val (.int ((((own_sb nn (8 : Int32)) &&& (255 : Int32)) <<< ((8 : Int32) &&& 31)) ||| ((own_sb nn (0 : Int32)) &&& (255 : Int32)))), .val (.int (3 : Int32)), .val (.int (p3.toInt8.toInt32)), .unset, .unset] [(.int p4)])) _
          refine XS.i2b X28.here hx rfl (hb hby at_261) rfl ?_
          exact k)
      have pre59 : ∀ t, Steps p.tables e below (T28.setTop (mkF m 268 #[.val (.int p0), .val (.int p1), .val (.int p2), .val (.int p3), .val (.int p4), .val (.int p5), .val (.int nn), .val (.ref b14), .val (.int kk), .val (.int jj), .val (.ref b_28), .val (.int (2 : Int32)), .val (.int ((((own_sb nn (8 : Int32)) &&& (255 : Int32)) <<< ((8 : Int32) &&& 31)) ||| ((own_sb nn (0 : Int32)) &&& (255 : Int32)))), .val (.int (3 : Int32)), .val (.int (p3.toInt8.toInt32)), .val (.int xl), .unset] [(.int kk), (.int jj)])) t → Steps p.tables e below (s₁.setTop (entryFrame m #[(.int p0), (.int p1), (.int p2), (.int p3), (.int p4), (.int p5)] maxLocals)) t := fun t k => pre58 t (by
        refine XS.istore X28.here hx rfl (hb hby at_262) rfl (l' := #[.val (.int p0), .val (.int p1), .val (.int p2), .val (.int p3), .val (.int p4), .val (.int p5), .val (.int nn), .val (.ref b14), .val (.int kk), .val (.int jj), .val (.ref b_28), .val (.int (2 : Int32)), .val (.int ((((own_sb nn (8 : Int32)) &&& (255 : Int32)) <<< ((8 : Int32) &&& 31)) ||| ((own_sb nn (0 : Int32)) &&& (255 : Int32)))), .val (.int (3 : Int32)), .val (.int (p3.toInt8.toInt32)), .val (.int xl), .unset]) rfl ?_
        show Steps p.tables e below (T28.setTop (mkF m 264 #[.val (.int p0), .val (.int p1), .val (.int p2), .val (.int p3), .val (.int p4), .val (.int p5), .val (.int nn), .val (.ref b14), .val (.int kk), .val (.int jj), .val (.ref b_28), .val (.int (2 : Int32)), .val (.int ((((own_sb nn (8 : Int32)) &&& (255 : Int32)) <<< ((8 : Int32) &&& 31)) ||| ((own_sb nn (0 : Int32)) &&& (255 : Int32)))), .val (.int (3 : Int32)), .val (.int (p3.toInt8.toInt32)), .val (.int xl), .unset] [])) _
        refine XS.iload X28.here hx rfl (hb hby at_264) rfl ?_
        show Steps p.tables e below (T28.setTop (mkF m 266 #[.val (.int p0), .val (.int p1), .val (.int p2), .val (.int p3), .val (.int p4), .val (.int p5), .val (.int nn), .val (.ref b14), .val (.int kk), .val (.int jj), .val (.ref b_28), .val (.int (2 : Int32)), .val (.int ((((own_sb nn (8 : Int32)) &&& (255 : Int32)) <<< ((8 : Int32) &&& 31)) ||| ((own_sb nn (0 : Int32)) &&& (255 : Int32)))), .val (.int (3 : Int32)), .val (.int (p3.toInt8.toInt32)), .val (.int xl), .unset] [(.int jj)])) _
        refine XS.iload X28.here hx rfl (hb hby at_266) rfl ?_
        exact k)
      obtain ⟨xj, hxj⟩ : ∃ z : Int32, z = (if jj = kk then (p3.toInt8.toInt32) else (if jj = (nn - (1 : Int32)) then (p4.toInt8.toInt32) else (0 : Int32))) := ⟨_, rfl⟩
      have pre62 : ∀ t, Steps p.tables e below (T28.setTop (mkF m 292 #[.val (.int p0), .val (.int p1), .val (.int p2), .val (.int p3), .val (.int p4), .val (.int p5), .val (.int nn), .val (.ref b14), .val (.int kk), .val (.int jj), .val (.ref b_28), .val (.int (2 : Int32)), .val (.int ((((own_sb nn (8 : Int32)) &&& (255 : Int32)) <<< ((8 : Int32) &&& 31)) ||| ((own_sb nn (0 : Int32)) &&& (255 : Int32)))), .val (.int (3 : Int32)), .val (.int (p3.toInt8.toInt32)), .val (.int xl), .unset] [(.int xj)])) t → Steps p.tables e below (s₁.setTop (entryFrame m #[(.int p0), (.int p1), (.int p2), (.int p3), (.int p4), (.int p5)] maxLocals)) t := fun t k => pre59 t (by
        by_cases hm60 : jj = kk
        · rw [show xj = (p3.toInt8.toInt32) from by rw [hxj, if_pos hm60]] at k
          refine XS.icmpNo X28.here hx rfl (hb hby at_268) rfl (teq hm60).2 ?_
          show Steps p.tables e below (T28.setTop (mkF m 271 #[.val (.int p0), .val (.int p1), .val (.int p2), .val (.int p3), .val (.int p4), .val (.int p5), .val (.int nn), .val (.ref b14), .val (.int kk), .val (.int jj), .val (.ref b_28), .val (.int (2 : Int32)), .val (.int ((((own_sb nn (8 : Int32)) &&& (255 : Int32)) <<< ((8 : Int32) &&& 31)) ||| ((own_sb nn (0 : Int32)) &&& (255 : Int32)))), .val (.int (3 : Int32)), .val (.int (p3.toInt8.toInt32)), .val (.int xl), .unset] [])) _
          refine XS.iloadN X28.here hx rfl (hb hby at_271) rfl ?_
          show Steps p.tables e below (T28.setTop (mkF m 272 #[.val (.int p0), .val (.int p1), .val (.int p2), .val (.int p3), .val (.int p4), .val (.int p5), .val (.int nn), .val (.ref b14), .val (.int kk), .val (.int jj), .val (.ref b_28), .val (.int (2 : Int32)), .val (.int ((((own_sb nn (8 : Int32)) &&& (255 : Int32)) <<< ((8 : Int32) &&& 31)) ||| ((own_sb nn (0 : Int32)) &&& (255 : Int32)))), .val (.int (3 : Int32)), .val (.int (p3.toInt8.toInt32)), .val (.int xl), .unset] [(.int p3)])) _
          refine XS.i2b X28.here hx rfl (hb hby at_272) rfl ?_
          show Steps p.tables e below (T28.setTop (mkF m 273 #[.val (.int p0), .val (.int p1), .val (.int p2), .val (.int p3), .val (.int p4), .val (.int p5), .val (.int nn), .val (.ref b14), .val (.int kk), .val (.int jj), .val (.ref b_28), .val (.int (2 : Int32)), .val (.int ((((own_sb nn (8 : Int32)) &&& (255 : Int32)) <<< ((8 : Int32) &&& 31)) ||| ((own_sb nn (0 : Int32)) &&& (255 : Int32)))), .val (.int (3 : Int32)), .val (.int (p3.toInt8.toInt32)), .val (.int xl), .unset] [(.int (p3.toInt8.toInt32))])) _
          refine XS.goto X28.here hx rfl (pc0 := 273) (pc' := 292) rfl (hb hby at_273) (by decide) (by decide) ?_
          exact k
        · refine XS.icmpYes X28.here hx rfl (pc0 := 268) (pc' := 276) rfl (hb hby at_268) rfl (feq hm60).2 (by decide) (by decide) ?_
          show Steps p.tables e below (T28.setTop (mkF m 276 #[.val (.int p0), .val (.int p1), .val (.int p2), .val (.int p3), .val (.int p4), .val (.int p5), .val (.int nn), .val (.ref b14), .val (.int kk), .val (.int jj), .val (.ref b_28), .val (.int (2 : Int32)), .val (.int ((((own_sb nn (8 : Int32)) &&& (255 : Int32)) <<< ((8 : Int32) &&& 31)) ||| ((own_sb nn (0 : Int32)) &&& (255 : Int32)))), .val (.int (3 : Int32)), .val (.int (p3.toInt8.toInt32)), .val (.int xl), .unset] [])) _
          refine XS.iload X28.here hx rfl (hb hby at_276) rfl ?_
          show Steps p.tables e below (T28.setTop (mkF m 278 #[.val (.int p0), .val (.int p1), .val (.int p2), .val (.int p3), .val (.int p4), .val (.int p5), .val (.int nn), .val (.ref b14), .val (.int kk), .val (.int jj), .val (.ref b_28), .val (.int (2 : Int32)), .val (.int ((((own_sb nn (8 : Int32)) &&& (255 : Int32)) <<< ((8 : Int32) &&& 31)) ||| ((own_sb nn (0 : Int32)) &&& (255 : Int32)))), .val (.int (3 : Int32)), .val (.int (p3.toInt8.toInt32)), .val (.int xl), .unset] [(.int jj)])) _
          refine XS.iload X28.here hx rfl (hb hby at_278) rfl ?_
          show Steps p.tables e below (T28.setTop (mkF m 280 #[.val (.int p0), .val (.int p1), .val (.int p2), .val (.int p3), .val (.int p4), .val (.int p5), .val (.int nn), .val (.ref b14), .val (.int kk), .val (.int jj), .val (.ref b_28), .val (.int (2 : Int32)), .val (.int ((((own_sb nn (8 : Int32)) &&& (255 : Int32)) <<< ((8 : Int32) &&& 31)) ||| ((own_sb nn (0 : Int32)) &&& (255 : Int32)))), .val (.int (3 : Int32)), .val (.int (p3.toInt8.toInt32)), .val (.int xl), .unset] [(.int nn), (.int jj)])) _
          refine XS.iconst X28.here hx rfl (hb hby at_280) ?_
          show Steps p.tables e below (T28.setTop (mkF m 281 #[.val (.int p0), .val (.int p1), .val (.int p2), .val (.int p3), .val (.int p4), .val (.int p5), .val (.int nn), .val (.ref b14), .val (.int kk), .val (.int jj), .val (.ref b_28), .val (.int (2 : Int32)), .val (.int ((((own_sb nn (8 : Int32)) &&& (255 : Int32)) <<< ((8 : Int32) &&& 31)) ||| ((own_sb nn (0 : Int32)) &&& (255 : Int32)))), .val (.int (3 : Int32)), .val (.int (p3.toInt8.toInt32)), .val (.int xl), .unset] [(.int (1 : Int32)), (.int nn), (.int jj)])) _
          refine XS.isub X28.here hx rfl (hb hby at_281) rfl ?_
          show Steps p.tables e below (T28.setTop (mkF m 282 #[.val (.int p0), .val (.int p1), .val (.int p2), .val (.int p3), .val (.int p4), .val (.int p5), .val (.int nn), .val (.ref b14), .val (.int kk), .val (.int jj), .val (.ref b_28), .val (.int (2 : Int32)), .val (.int ((((own_sb nn (8 : Int32)) &&& (255 : Int32)) <<< ((8 : Int32) &&& 31)) ||| ((own_sb nn (0 : Int32)) &&& (255 : Int32)))), .val (.int (3 : Int32)), .val (.int (p3.toInt8.toInt32)), .val (.int xl), .unset] [(.int (nn - (1 : Int32))), (.int jj)])) _
          by_cases hm61 : jj = (nn - (1 : Int32))
          · rw [show xj = (p4.toInt8.toInt32) from by rw [hxj, if_neg hm60, if_pos hm61]] at k
            refine XS.icmpNo X28.here hx rfl (hb hby at_282) rfl (teq hm61).2 ?_
            show Steps p.tables e below (T28.setTop (mkF m 285 #[.val (.int p0), .val (.int p1), .val (.int p2), .val (.int p3), .val (.int p4), .val (.int p5), .val (.int nn), .val (.ref b14), .val (.int kk), .val (.int jj), .val (.ref b_28), .val (.int (2 : Int32)), .val (.int ((((own_sb nn (8 : Int32)) &&& (255 : Int32)) <<< ((8 : Int32) &&& 31)) ||| ((own_sb nn (0 : Int32)) &&& (255 : Int32)))), .val (.int (3 : Int32)), .val (.int (p3.toInt8.toInt32)), .val (.int xl), .unset] [])) _
            refine XS.iload X28.here hx rfl (hb hby at_285) rfl ?_
            show Steps p.tables e below (T28.setTop (mkF m 287 #[.val (.int p0), .val (.int p1), .val (.int p2), .val (.int p3), .val (.int p4), .val (.int p5), .val (.int nn), .val (.ref b14), .val (.int kk), .val (.int jj), .val (.ref b_28), .val (.int (2 : Int32)), .val (.int ((((own_sb nn (8 : Int32)) &&& (255 : Int32)) <<< ((8 : Int32) &&& 31)) ||| ((own_sb nn (0 : Int32)) &&& (255 : Int32)))), .val (.int (3 : Int32)), .val (.int (p3.toInt8.toInt32)), .val (.int xl), .unset] [(.int p4)])) _
            refine XS.i2b X28.here hx rfl (hb hby at_287) rfl ?_
            show Steps p.tables e below (T28.setTop (mkF m 288 #[.val (.int p0), .val (.int p1), .val (.int p2), .val (.int p3), .val (.int p4), .val (.int p5), .val (.int nn), .val (.ref b14), .val (.int kk), .val (.int jj), .val (.ref b_28), .val (.int (2 : Int32)), .val (.int ((((own_sb nn (8 : Int32)) &&& (255 : Int32)) <<< ((8 : Int32) &&& 31)) ||| ((own_sb nn (0 : Int32)) &&& (255 : Int32)))), .val (.int (3 : Int32)), .val (.int (p3.toInt8.toInt32)), .val (.int xl), .unset] [(.int (p4.toInt8.toInt32))])) _
            refine XS.goto X28.here hx rfl (pc0 := 288) (pc' := 292) rfl (hb hby at_288) (by decide) (by decide) ?_
            exact k
          · rw [show xj = (0 : Int32) from by rw [hxj, if_neg hm60, if_neg hm61]] at k
            refine XS.icmpYes X28.here hx rfl (pc0 := 282) (pc' := 291) rfl (hb hby at_282) rfl (feq hm61).2 (by decide) (by decide) ?_
            show Steps p.tables e below (T28.setTop (mkF m 291 #[.val (.int p0), .val (.int p1), .val (.int p2), .val (.int p3), .val (.int p4), .val (.int p5), .val (.int nn), .val (.ref b14), .val (.int kk), .val (.int jj), .val (.ref b_28), .val (.int (2 : Int32)), .val (.int ((((own_sb nn (8 : Int32)) &&& (255 : Int32)) <<< ((8 : Int32) &&& 31)) ||| ((own_sb nn (0 : Int32)) &&& (255 : Int32)))), .val (.int (3 : Int32)), .val (.int (p3.toInt8.toInt32)), .val (.int xl), .unset] [])) _
            refine XS.iconst X28.here hx rfl (hb hby at_291) ?_
            exact k)
      obtain ⟨cl63, Ar63, S63, M63, I63⟩ := id u28_2
      have hin63 : ¬ (((3 : Int32) + kk) < 0 ∨ cl63.slots.size ≤ (((3 : Int32) + kk)).toNatClampNeg) := inb_of S63 (own_ik (by decide : 1 ≤ (3 : Int32).toInt ∧ (3 : Int32).toInt ≤ 4) Bn Bkk).1
      have hat63 : cl63.slots[(((3 : Int32) + kk)).toNatClampNeg]? = some (.int (g_28 (((3 : Int32) + kk)).toNatClampNeg)) := I63 _ (Nat.lt_of_not_le fun y => hin63 (Or.inr y))
      rw [show (g_28 (((3 : Int32) + kk)).toNatClampNeg) = (p3.toInt8.toInt32) from ((own_rd (by decide : 1 ≤ (3 : Int32).toInt ∧ (3 : Int32).toInt ≤ 4) Bn Bkk hL u28_5).trans (own_fk hfx))] at hat63
      obtain ⟨cl64, Ar64, S64, M64, I64⟩ := id u28_2
      have hin64 : ¬ ((((3 : Int32) + nn) - (1 : Int32)) < 0 ∨ cl64.slots.size ≤ ((((3 : Int32) + nn) - (1 : Int32))).toNatClampNeg) := inb_of S64 (by rw [own_as]; exact (own_ik (by decide : 1 ≤ (3 : Int32).toInt ∧ (3 : Int32).toInt ≤ 4) Bn B1).1)
      have hat64 : cl64.slots[((((3 : Int32) + nn) - (1 : Int32))).toNatClampNeg]? = some (.int (g_28 ((((3 : Int32) + nn) - (1 : Int32))).toNatClampNeg)) := I64 _ (Nat.lt_of_not_le fun y => hin64 (Or.inr y))
      rw [show (g_28 ((((3 : Int32) + nn) - (1 : Int32))).toNatClampNeg) = xl from (by rw [own_as]; exact (own_rd (by decide : 1 ≤ (3 : Int32).toInt ∧ (3 : Int32).toInt ≤ 4) Bn B1 hL u28_5).trans (own_fl hfx Bkk B1 hxl))] at hat64
      obtain ⟨cl65, Ar65, S65, M65, I65⟩ := id u28_2
      have hin65 : ¬ (((3 : Int32) + jj) < 0 ∨ cl65.slots.size ≤ (((3 : Int32) + jj)).toNatClampNeg) := inb_of S65 (own_ik (by decide : 1 ≤ (3 : Int32).toInt ∧ (3 : Int32).toInt ≤ 4) Bn Bjj).1
      have hat65 : cl65.slots[(((3 : Int32) + jj)).toNatClampNeg]? = some (.int (g_28 (((3 : Int32) + jj)).toNatClampNeg)) := I65 _ (Nat.lt_of_not_le fun y => hin65 (Or.inr y))
      rw [show (g_28 (((3 : Int32) + jj)).toNatClampNeg) = xj from ((own_rd (by decide : 1 ≤ (3 : Int32).toInt ∧ (3 : Int32).toInt ≤ 4) Bn Bjj hL u28_5).trans (own_fj hfx Bkk B1 Bjj hxj))] at hat65
      obtain ⟨fs, hr, hrun, hended, hW, hsame⟩ := X28.leave (v := some (.int (1 : Int32))) (fun h => by rw [Bd.returns] at h; cases h)
      refine ⟨_, _, pre62 _ ?_, hrun, hended, _, _, rfl, ?_, ⟨_, rfl⟩, hW, hsame.mono (by decide) (by decide)⟩
      · refine XS.istore X28.here hx rfl (hb hby at_292) rfl (l' := #[.val (.int p0), .val (.int p1), .val (.int p2), .val (.int p3), .val (.int p4), .val (.int p5), .val (.int nn), .val (.ref b14), .val (.int kk), .val (.int jj), .val (.ref b_28), .val (.int (2 : Int32)), .val (.int ((((own_sb nn (8 : Int32)) &&& (255 : Int32)) <<< ((8 : Int32) &&& 31)) ||| ((own_sb nn (0 : Int32)) &&& (255 : Int32)))), .val (.int (3 : Int32)), .val (.int (p3.toInt8.toInt32)), .val (.int xl), .val (.int xj)]) rfl ?_
        show Steps p.tables e below (T28.setTop (mkF m 294 #[.val (.int p0), .val (.int p1), .val (.int p2), .val (.int p3), .val (.int p4), .val (.int p5), .val (.int nn), .val (.ref b14), .val (.int kk), .val (.int jj), .val (.ref b_28), .val (.int (2 : Int32)), .val (.int ((((own_sb nn (8 : Int32)) &&& (255 : Int32)) <<< ((8 : Int32) &&& 31)) ||| ((own_sb nn (0 : Int32)) &&& (255 : Int32)))), .val (.int (3 : Int32)), .val (.int (p3.toInt8.toInt32)), .val (.int xl), .val (.int xj)] [])) _
        refine XS.aload X28.here hx rfl (hb hby at_294) rfl rfl ?_
        show Steps p.tables e below (T28.setTop (mkF m 296 #[.val (.int p0), .val (.int p1), .val (.int p2), .val (.int p3), .val (.int p4), .val (.int p5), .val (.int nn), .val (.ref b14), .val (.int kk), .val (.int jj), .val (.ref b_28), .val (.int (2 : Int32)), .val (.int ((((own_sb nn (8 : Int32)) &&& (255 : Int32)) <<< ((8 : Int32) &&& 31)) ||| ((own_sb nn (0 : Int32)) &&& (255 : Int32)))), .val (.int (3 : Int32)), .val (.int (p3.toInt8.toInt32)), .val (.int xl), .val (.int xj)] [(.ref b_28)])) _
        refine XS.iload X28.here hx rfl (hb hby at_296) rfl ?_
        show Steps p.tables e below (T28.setTop (mkF m 298 #[.val (.int p0), .val (.int p1), .val (.int p2), .val (.int p3), .val (.int p4), .val (.int p5), .val (.int nn), .val (.ref b14), .val (.int kk), .val (.int jj), .val (.ref b_28), .val (.int (2 : Int32)), .val (.int ((((own_sb nn (8 : Int32)) &&& (255 : Int32)) <<< ((8 : Int32) &&& 31)) ||| ((own_sb nn (0 : Int32)) &&& (255 : Int32)))), .val (.int (3 : Int32)), .val (.int (p3.toInt8.toInt32)), .val (.int xl), .val (.int xj)] [(.int (3 : Int32)), (.ref b_28)])) _
        refine XS.iload X28.here hx rfl (hb hby at_298) rfl ?_
        show Steps p.tables e below (T28.setTop (mkF m 300 #[.val (.int p0), .val (.int p1), .val (.int p2), .val (.int p3), .val (.int p4), .val (.int p5), .val (.int nn), .val (.ref b14), .val (.int kk), .val (.int jj), .val (.ref b_28), .val (.int (2 : Int32)), .val (.int ((((own_sb nn (8 : Int32)) &&& (255 : Int32)) <<< ((8 : Int32) &&& 31)) ||| ((own_sb nn (0 : Int32)) &&& (255 : Int32)))), .val (.int (3 : Int32)), .val (.int (p3.toInt8.toInt32)), .val (.int xl), .val (.int xj)] [(.int kk), (.int (3 : Int32)), (.ref b_28)])) _
        refine XS.iadd X28.here hx rfl (hb hby at_300) rfl ?_
        show Steps p.tables e below (T28.setTop (mkF m 301 #[.val (.int p0), .val (.int p1), .val (.int p2), .val (.int p3), .val (.int p4), .val (.int p5), .val (.int nn), .val (.ref b14), .val (.int kk), .val (.int jj), .val (.ref b_28), .val (.int (2 : Int32)), .val (.int ((((own_sb nn (8 : Int32)) &&& (255 : Int32)) <<< ((8 : Int32) &&& 31)) ||| ((own_sb nn (0 : Int32)) &&& (255 : Int32)))), .val (.int (3 : Int32)), .val (.int (p3.toInt8.toInt32)), .val (.int xl), .val (.int xj)] [(.int ((3 : Int32) + kk)), (.ref b_28)])) _
        refine X28.baloadBytes hx (j := ((3 : Int32) + kk)) (v := (.int (p3.toInt8.toInt32))) (id Ar63.1) (State.isArrayOf_alike hZ.alike Ar63.2.1) Ar63.2.2 hin63 hat63 (g := (mkF m 301 #[.val (.int p0), .val (.int p1), .val (.int p2), .val (.int p3), .val (.int p4), .val (.int p5), .val (.int nn), .val (.ref b14), .val (.int kk), .val (.int jj), .val (.ref b_28), .val (.int (2 : Int32)), .val (.int ((((own_sb nn (8 : Int32)) &&& (255 : Int32)) <<< ((8 : Int32) &&& 31)) ||| ((own_sb nn (0 : Int32)) &&& (255 : Int32)))), .val (.int (3 : Int32)), .val (.int (p3.toInt8.toInt32)), .val (.int xl), .val (.int xj)] [(.int ((3 : Int32) + kk)), (.ref b_28)])) rfl rfl (hb hby at_301) _ ?_
        show Steps p.tables e below (T28.setTop (mkF m 302 #[.val (.int p0), .val (.int p1), .val (.int p2), .val (.int p3), .val (.int p4), .val (.int p5), .val (.int nn), .val (.ref b14), .val (.int kk), .val (.int jj), .val (.ref b_28), .val (.int (2 : Int32)), .val (.int ((((own_sb nn (8 : Int32)) &&& (255 : Int32)) <<< ((8 : Int32) &&& 31)) ||| ((own_sb nn (0 : Int32)) &&& (255 : Int32)))), .val (.int (3 : Int32)), .val (.int (p3.toInt8.toInt32)), .val (.int xl), .val (.int xj)] [(.int (p3.toInt8.toInt32))])) _
        refine XS.iload X28.here hx rfl (hb hby at_302) rfl ?_
        show Steps p.tables e below (T28.setTop (mkF m 304 #[.val (.int p0), .val (.int p1), .val (.int p2), .val (.int p3), .val (.int p4), .val (.int p5), .val (.int nn), .val (.ref b14), .val (.int kk), .val (.int jj), .val (.ref b_28), .val (.int (2 : Int32)), .val (.int ((((own_sb nn (8 : Int32)) &&& (255 : Int32)) <<< ((8 : Int32) &&& 31)) ||| ((own_sb nn (0 : Int32)) &&& (255 : Int32)))), .val (.int (3 : Int32)), .val (.int (p3.toInt8.toInt32)), .val (.int xl), .val (.int xj)] [(.int (p3.toInt8.toInt32)), (.int (p3.toInt8.toInt32))])) _
        refine XS.icmpNo X28.here hx rfl (hb hby at_304) rfl (teq (rfl : (p3.toInt8.toInt32) = (p3.toInt8.toInt32))).2 ?_
        show Steps p.tables e below (T28.setTop (mkF m 307 #[.val (.int p0), .val (.int p1), .val (.int p2), .val (.int p3), .val (.int p4), .val (.int p5), .val (.int nn), .val (.ref b14), .val (.int kk), .val (.int jj), .val (.ref b_28), .val (.int (2 : Int32)), .val (.int ((((own_sb nn (8 : Int32)) &&& (255 : Int32)) <<< ((8 : Int32) &&& 31)) ||| ((own_sb nn (0 : Int32)) &&& (255 : Int32)))), .val (.int (3 : Int32)), .val (.int (p3.toInt8.toInt32)), .val (.int xl), .val (.int xj)] [])) _
        refine XS.aload X28.here hx rfl (hb hby at_307) rfl rfl ?_
        show Steps p.tables e below (T28.setTop (mkF m 309 #[.val (.int p0), .val (.int p1), .val (.int p2), .val (.int p3), .val (.int p4), .val (.int p5), .val (.int nn), .val (.ref b14), .val (.int kk), .val (.int jj), .val (.ref b_28), .val (.int (2 : Int32)), .val (.int ((((own_sb nn (8 : Int32)) &&& (255 : Int32)) <<< ((8 : Int32) &&& 31)) ||| ((own_sb nn (0 : Int32)) &&& (255 : Int32)))), .val (.int (3 : Int32)), .val (.int (p3.toInt8.toInt32)), .val (.int xl), .val (.int xj)] [(.ref b_28)])) _
        refine XS.iload X28.here hx rfl (hb hby at_309) rfl ?_
        show Steps p.tables e below (T28.setTop (mkF m 311 #[.val (.int p0), .val (.int p1), .val (.int p2), .val (.int p3), .val (.int p4), .val (.int p5), .val (.int nn), .val (.ref b14), .val (.int kk), .val (.int jj), .val (.ref b_28), .val (.int (2 : Int32)), .val (.int ((((own_sb nn (8 : Int32)) &&& (255 : Int32)) <<< ((8 : Int32) &&& 31)) ||| ((own_sb nn (0 : Int32)) &&& (255 : Int32)))), .val (.int (3 : Int32)), .val (.int (p3.toInt8.toInt32)), .val (.int xl), .val (.int xj)] [(.int (3 : Int32)), (.ref b_28)])) _
        refine XS.iload X28.here hx rfl (hb hby at_311) rfl ?_
        show Steps p.tables e below (T28.setTop (mkF m 313 #[.val (.int p0), .val (.int p1), .val (.int p2), .val (.int p3), .val (.int p4), .val (.int p5), .val (.int nn), .val (.ref b14), .val (.int kk), .val (.int jj), .val (.ref b_28), .val (.int (2 : Int32)), .val (.int ((((own_sb nn (8 : Int32)) &&& (255 : Int32)) <<< ((8 : Int32) &&& 31)) ||| ((own_sb nn (0 : Int32)) &&& (255 : Int32)))), .val (.int (3 : Int32)), .val (.int (p3.toInt8.toInt32)), .val (.int xl), .val (.int xj)] [(.int nn), (.int (3 : Int32)), (.ref b_28)])) _
        refine XS.iadd X28.here hx rfl (hb hby at_313) rfl ?_
        show Steps p.tables e below (T28.setTop (mkF m 314 #[.val (.int p0), .val (.int p1), .val (.int p2), .val (.int p3), .val (.int p4), .val (.int p5), .val (.int nn), .val (.ref b14), .val (.int kk), .val (.int jj), .val (.ref b_28), .val (.int (2 : Int32)), .val (.int ((((own_sb nn (8 : Int32)) &&& (255 : Int32)) <<< ((8 : Int32) &&& 31)) ||| ((own_sb nn (0 : Int32)) &&& (255 : Int32)))), .val (.int (3 : Int32)), .val (.int (p3.toInt8.toInt32)), .val (.int xl), .val (.int xj)] [(.int ((3 : Int32) + nn)), (.ref b_28)])) _
        refine XS.iconst X28.here hx rfl (hb hby at_314) ?_
        show Steps p.tables e below (T28.setTop (mkF m 315 #[.val (.int p0), .val (.int p1), .val (.int p2), .val (.int p3), .val (.int p4), .val (.int p5), .val (.int nn), .val (.ref b14), .val (.int kk), .val (.int jj), .val (.ref b_28), .val (.int (2 : Int32)), .val (.int ((((own_sb nn (8 : Int32)) &&& (255 : Int32)) <<< ((8 : Int32) &&& 31)) ||| ((own_sb nn (0 : Int32)) &&& (255 : Int32)))), .val (.int (3 : Int32)), .val (.int (p3.toInt8.toInt32)), .val (.int xl), .val (.int xj)] [(.int (1 : Int32)), (.int ((3 : Int32) + nn)), (.ref b_28)])) _
        refine XS.isub X28.here hx rfl (hb hby at_315) rfl ?_
        show Steps p.tables e below (T28.setTop (mkF m 316 #[.val (.int p0), .val (.int p1), .val (.int p2), .val (.int p3), .val (.int p4), .val (.int p5), .val (.int nn), .val (.ref b14), .val (.int kk), .val (.int jj), .val (.ref b_28), .val (.int (2 : Int32)), .val (.int ((((own_sb nn (8 : Int32)) &&& (255 : Int32)) <<< ((8 : Int32) &&& 31)) ||| ((own_sb nn (0 : Int32)) &&& (255 : Int32)))), .val (.int (3 : Int32)), .val (.int (p3.toInt8.toInt32)), .val (.int xl), .val (.int xj)] [(.int (((3 : Int32) + nn) - (1 : Int32))), (.ref b_28)])) _
        refine X28.baloadBytes hx (j := (((3 : Int32) + nn) - (1 : Int32))) (v := (.int xl)) (id Ar64.1) (State.isArrayOf_alike hZ.alike Ar64.2.1) Ar64.2.2 hin64 hat64 (g := (mkF m 316 #[.val (.int p0), .val (.int p1), .val (.int p2), .val (.int p3), .val (.int p4), .val (.int p5), .val (.int nn), .val (.ref b14), .val (.int kk), .val (.int jj), .val (.ref b_28), .val (.int (2 : Int32)), .val (.int ((((own_sb nn (8 : Int32)) &&& (255 : Int32)) <<< ((8 : Int32) &&& 31)) ||| ((own_sb nn (0 : Int32)) &&& (255 : Int32)))), .val (.int (3 : Int32)), .val (.int (p3.toInt8.toInt32)), .val (.int xl), .val (.int xj)] [(.int (((3 : Int32) + nn) - (1 : Int32))), (.ref b_28)])) rfl rfl (hb hby at_316) _ ?_
        show Steps p.tables e below (T28.setTop (mkF m 317 #[.val (.int p0), .val (.int p1), .val (.int p2), .val (.int p3), .val (.int p4), .val (.int p5), .val (.int nn), .val (.ref b14), .val (.int kk), .val (.int jj), .val (.ref b_28), .val (.int (2 : Int32)), .val (.int ((((own_sb nn (8 : Int32)) &&& (255 : Int32)) <<< ((8 : Int32) &&& 31)) ||| ((own_sb nn (0 : Int32)) &&& (255 : Int32)))), .val (.int (3 : Int32)), .val (.int (p3.toInt8.toInt32)), .val (.int xl), .val (.int xj)] [(.int xl)])) _
        refine XS.iload X28.here hx rfl (hb hby at_317) rfl ?_
        show Steps p.tables e below (T28.setTop (mkF m 319 #[.val (.int p0), .val (.int p1), .val (.int p2), .val (.int p3), .val (.int p4), .val (.int p5), .val (.int nn), .val (.ref b14), .val (.int kk), .val (.int jj), .val (.ref b_28), .val (.int (2 : Int32)), .val (.int ((((own_sb nn (8 : Int32)) &&& (255 : Int32)) <<< ((8 : Int32) &&& 31)) ||| ((own_sb nn (0 : Int32)) &&& (255 : Int32)))), .val (.int (3 : Int32)), .val (.int (p3.toInt8.toInt32)), .val (.int xl), .val (.int xj)] [(.int xl), (.int xl)])) _
        refine XS.icmpNo X28.here hx rfl (hb hby at_319) rfl (teq (rfl : xl = xl)).2 ?_
        show Steps p.tables e below (T28.setTop (mkF m 322 #[.val (.int p0), .val (.int p1), .val (.int p2), .val (.int p3), .val (.int p4), .val (.int p5), .val (.int nn), .val (.ref b14), .val (.int kk), .val (.int jj), .val (.ref b_28), .val (.int (2 : Int32)), .val (.int ((((own_sb nn (8 : Int32)) &&& (255 : Int32)) <<< ((8 : Int32) &&& 31)) ||| ((own_sb nn (0 : Int32)) &&& (255 : Int32)))), .val (.int (3 : Int32)), .val (.int (p3.toInt8.toInt32)), .val (.int xl), .val (.int xj)] [])) _
        refine XS.aload X28.here hx rfl (hb hby at_322) rfl rfl ?_
        show Steps p.tables e below (T28.setTop (mkF m 324 #[.val (.int p0), .val (.int p1), .val (.int p2), .val (.int p3), .val (.int p4), .val (.int p5), .val (.int nn), .val (.ref b14), .val (.int kk), .val (.int jj), .val (.ref b_28), .val (.int (2 : Int32)), .val (.int ((((own_sb nn (8 : Int32)) &&& (255 : Int32)) <<< ((8 : Int32) &&& 31)) ||| ((own_sb nn (0 : Int32)) &&& (255 : Int32)))), .val (.int (3 : Int32)), .val (.int (p3.toInt8.toInt32)), .val (.int xl), .val (.int xj)] [(.ref b_28)])) _
        refine XS.iload X28.here hx rfl (hb hby at_324) rfl ?_
        show Steps p.tables e below (T28.setTop (mkF m 326 #[.val (.int p0), .val (.int p1), .val (.int p2), .val (.int p3), .val (.int p4), .val (.int p5), .val (.int nn), .val (.ref b14), .val (.int kk), .val (.int jj), .val (.ref b_28), .val (.int (2 : Int32)), .val (.int ((((own_sb nn (8 : Int32)) &&& (255 : Int32)) <<< ((8 : Int32) &&& 31)) ||| ((own_sb nn (0 : Int32)) &&& (255 : Int32)))), .val (.int (3 : Int32)), .val (.int (p3.toInt8.toInt32)), .val (.int xl), .val (.int xj)] [(.int (3 : Int32)), (.ref b_28)])) _
        refine XS.iload X28.here hx rfl (hb hby at_326) rfl ?_
        show Steps p.tables e below (T28.setTop (mkF m 328 #[.val (.int p0), .val (.int p1), .val (.int p2), .val (.int p3), .val (.int p4), .val (.int p5), .val (.int nn), .val (.ref b14), .val (.int kk), .val (.int jj), .val (.ref b_28), .val (.int (2 : Int32)), .val (.int ((((own_sb nn (8 : Int32)) &&& (255 : Int32)) <<< ((8 : Int32) &&& 31)) ||| ((own_sb nn (0 : Int32)) &&& (255 : Int32)))), .val (.int (3 : Int32)), .val (.int (p3.toInt8.toInt32)), .val (.int xl), .val (.int xj)] [(.int jj), (.int (3 : Int32)), (.ref b_28)])) _
        refine XS.iadd X28.here hx rfl (hb hby at_328) rfl ?_
        show Steps p.tables e below (T28.setTop (mkF m 329 #[.val (.int p0), .val (.int p1), .val (.int p2), .val (.int p3), .val (.int p4), .val (.int p5), .val (.int nn), .val (.ref b14), .val (.int kk), .val (.int jj), .val (.ref b_28), .val (.int (2 : Int32)), .val (.int ((((own_sb nn (8 : Int32)) &&& (255 : Int32)) <<< ((8 : Int32) &&& 31)) ||| ((own_sb nn (0 : Int32)) &&& (255 : Int32)))), .val (.int (3 : Int32)), .val (.int (p3.toInt8.toInt32)), .val (.int xl), .val (.int xj)] [(.int ((3 : Int32) + jj)), (.ref b_28)])) _
        refine X28.baloadBytes hx (j := ((3 : Int32) + jj)) (v := (.int xj)) (id Ar65.1) (State.isArrayOf_alike hZ.alike Ar65.2.1) Ar65.2.2 hin65 hat65 (g := (mkF m 329 #[.val (.int p0), .val (.int p1), .val (.int p2), .val (.int p3), .val (.int p4), .val (.int p5), .val (.int nn), .val (.ref b14), .val (.int kk), .val (.int jj), .val (.ref b_28), .val (.int (2 : Int32)), .val (.int ((((own_sb nn (8 : Int32)) &&& (255 : Int32)) <<< ((8 : Int32) &&& 31)) ||| ((own_sb nn (0 : Int32)) &&& (255 : Int32)))), .val (.int (3 : Int32)), .val (.int (p3.toInt8.toInt32)), .val (.int xl), .val (.int xj)] [(.int ((3 : Int32) + jj)), (.ref b_28)])) rfl rfl (hb hby at_329) _ ?_
        show Steps p.tables e below (T28.setTop (mkF m 330 #[.val (.int p0), .val (.int p1), .val (.int p2), .val (.int p3), .val (.int p4), .val (.int p5), .val (.int nn), .val (.ref b14), .val (.int kk), .val (.int jj), .val (.ref b_28), .val (.int (2 : Int32)), .val (.int ((((own_sb nn (8 : Int32)) &&& (255 : Int32)) <<< ((8 : Int32) &&& 31)) ||| ((own_sb nn (0 : Int32)) &&& (255 : Int32)))), .val (.int (3 : Int32)), .val (.int (p3.toInt8.toInt32)), .val (.int xl), .val (.int xj)] [(.int xj)])) _
        refine XS.iload X28.here hx rfl (hb hby at_330) rfl ?_
        show Steps p.tables e below (T28.setTop (mkF m 332 #[.val (.int p0), .val (.int p1), .val (.int p2), .val (.int p3), .val (.int p4), .val (.int p5), .val (.int nn), .val (.ref b14), .val (.int kk), .val (.int jj), .val (.ref b_28), .val (.int (2 : Int32)), .val (.int ((((own_sb nn (8 : Int32)) &&& (255 : Int32)) <<< ((8 : Int32) &&& 31)) ||| ((own_sb nn (0 : Int32)) &&& (255 : Int32)))), .val (.int (3 : Int32)), .val (.int (p3.toInt8.toInt32)), .val (.int xl), .val (.int xj)] [(.int xj), (.int xj)])) _
        refine XS.icmpNo X28.here hx rfl (hb hby at_332) rfl (teq (rfl : xj = xj)).2 ?_
        show Steps p.tables e below (T28.setTop (mkF m 335 #[.val (.int p0), .val (.int p1), .val (.int p2), .val (.int p3), .val (.int p4), .val (.int p5), .val (.int nn), .val (.ref b14), .val (.int kk), .val (.int jj), .val (.ref b_28), .val (.int (2 : Int32)), .val (.int ((((own_sb nn (8 : Int32)) &&& (255 : Int32)) <<< ((8 : Int32) &&& 31)) ||| ((own_sb nn (0 : Int32)) &&& (255 : Int32)))), .val (.int (3 : Int32)), .val (.int (p3.toInt8.toInt32)), .val (.int xl), .val (.int xj)] [])) _
        refine XS.iconst X28.here hx rfl (hb hby at_335) ?_
        show Steps p.tables e below (T28.setTop (mkF m 336 #[.val (.int p0), .val (.int p1), .val (.int p2), .val (.int p3), .val (.int p4), .val (.int p5), .val (.int nn), .val (.ref b14), .val (.int kk), .val (.int jj), .val (.ref b_28), .val (.int (2 : Int32)), .val (.int ((((own_sb nn (8 : Int32)) &&& (255 : Int32)) <<< ((8 : Int32) &&& 31)) ||| ((own_sb nn (0 : Int32)) &&& (255 : Int32)))), .val (.int (3 : Int32)), .val (.int (p3.toInt8.toInt32)), .val (.int xl), .val (.int xj)] [(.int (1 : Int32))])) _
        refine XS.goto X28.here hx rfl (pc0 := 336) (pc' := 340) rfl (hb hby at_336) (by decide) (by decide) ?_
        show Steps p.tables e below (T28.setTop (mkF m 340 #[.val (.int p0), .val (.int p1), .val (.int p2), .val (.int p3), .val (.int p4), .val (.int p5), .val (.int nn), .val (.ref b14), .val (.int kk), .val (.int jj), .val (.ref b_28), .val (.int (2 : Int32)), .val (.int ((((own_sb nn (8 : Int32)) &&& (255 : Int32)) <<< ((8 : Int32) &&& 31)) ||| ((own_sb nn (0 : Int32)) &&& (255 : Int32)))), .val (.int (3 : Int32)), .val (.int (p3.toInt8.toInt32)), .val (.int xl), .val (.int xj)] [(.int (1 : Int32))])) _
        exact retN X28 hx (t := .boolean) Bd.returns (by simp) (hb hby at_340) hr
      · show Q0 Z _ _ _ _ _ _ h0 n0 _ T28.heap _
        exact ⟨rfl, N28⟩
    · have pre66 : ∀ t, Steps p.tables e below (T28.setTop (mkF m 110 #[.val (.int p0), .val (.int p1), .val (.int p2), .val (.int p3), .val (.int p4), .val (.int p5), .val (.int nn), .val (.ref b14), .val (.int kk), .val (.int jj), .val (.ref b_28), .val (.int (3 : Int32)), .unset, .unset, .unset, .unset, .unset] [(.ref b_28)])) t → Steps p.tables e below (s₁.setTop (entryFrame m #[(.int p0), (.int p1), (.int p2), (.int p3), (.int p4), (.int p5)] maxLocals)) t := fun t k => pre36 t (by
        refine XS.aload X28.here hx rfl (hb hby at_108) rfl rfl ?_
        exact k)
      have eL : own_lb nn = (3 : Int32) := by rw [own_lb, if_neg hz1.1, if_neg hz1.2]
      have hL : (1 : Int32) + own_lb nn = (4 : Int32) := by rw [eL]; rfl
      have hy : y_28 = (4 : Int32) + nn := u28_3.trans (by rw [hL])
      subst hy
      obtain ⟨cl67, Ar67, S67, M67, I67⟩ := id u28_2
      obtain ⟨cl68, Ar68, S68, M68, I68⟩ := id u28_2
      have hin68 : ¬ ((0 : Int32) < 0 ∨ cl68.slots.size ≤ ((0 : Int32)).toNatClampNeg) := inb_of S68 (own_in (by decide : 1 ≤ (4 : Int32).toInt ∧ (4 : Int32).toInt ≤ 4) Bn (by decide))
      have hat68 : cl68.slots[((0 : Int32)).toNatClampNeg]? = some (.int (g_28 ((0 : Int32)).toNatClampNeg)) := I68 _ (Nat.lt_of_not_le fun y => hin68 (Or.inr y))
      rw [show (g_28 ((0 : Int32)).toNatClampNeg) = (3 : Int32) from (u28_4.trans eL)] at hat68
      obtain ⟨cl69, Ar69, S69, M69, I69⟩ := id u28_2
      have hin69 : ¬ ((1 : Int32) < 0 ∨ cl69.slots.size ≤ ((1 : Int32)).toNatClampNeg) := inb_of S69 (own_in (by decide : 1 ≤ (4 : Int32).toInt ∧ (4 : Int32).toInt ≤ 4) Bn (by decide))
      have hat69 : cl69.slots[((1 : Int32)).toNatClampNeg]? = some (.int (g_28 ((1 : Int32)).toNatClampNeg)) := I69 _ (Nat.lt_of_not_le fun y => hin69 (Or.inr y))
      rw [show (g_28 ((1 : Int32)).toNatClampNeg) = (own_sb nn (16 : Int32)) from (u28_6.2.2 hz1).1] at hat69
      obtain ⟨cl70, Ar70, S70, M70, I70⟩ := id u28_2
      have hin70 : ¬ ((2 : Int32) < 0 ∨ cl70.slots.size ≤ ((2 : Int32)).toNatClampNeg) := inb_of S70 (own_in (by decide : 1 ≤ (4 : Int32).toInt ∧ (4 : Int32).toInt ≤ 4) Bn (by decide))
      have hat70 : cl70.slots[((2 : Int32)).toNatClampNeg]? = some (.int (g_28 ((2 : Int32)).toNatClampNeg)) := I70 _ (Nat.lt_of_not_le fun y => hin70 (Or.inr y))
      rw [show (g_28 ((2 : Int32)).toNatClampNeg) = (own_sb nn (8 : Int32)) from (u28_6.2.2 hz1).2.1] at hat70
      obtain ⟨cl71, Ar71, S71, M71, I71⟩ := id u28_2
      have hin71 : ¬ ((3 : Int32) < 0 ∨ cl71.slots.size ≤ ((3 : Int32)).toNatClampNeg) := inb_of S71 (own_in (by decide : 1 ≤ (4 : Int32).toInt ∧ (4 : Int32).toInt ≤ 4) Bn (by decide))
      have hat71 : cl71.slots[((3 : Int32)).toNatClampNeg]? = some (.int (g_28 ((3 : Int32)).toNatClampNeg)) := I71 _ (Nat.lt_of_not_le fun y => hin71 (Or.inr y))
      rw [show (g_28 ((3 : Int32)).toNatClampNeg) = (own_sb nn (0 : Int32)) from (u28_6.2.2 hz1).2.2] at hat71
      have pre72 : ∀ t, Steps p.tables e below (T28.setTop (mkF m 251 #[.val (.int p0), .val (.int p1), .val (.int p2), .val (.int p3), .val (.int p4), .val (.int p5), .val (.int nn), .val (.ref b14), .val (.int kk), .val (.int jj), .val (.ref b_28), .val (.int (3 : Int32)), .val (.int (((((own_sb nn (16 : Int32)) &&& (255 : Int32)) <<< ((16 : Int32) &&& 31)) ||| (((own_sb nn (8 : Int32)) &&& (255 : Int32)) <<< ((8 : Int32) &&& 31))) ||| ((own_sb nn (0 : Int32)) &&& (255 : Int32)))), .val (.int (4 : Int32)), .val (.int (p3.toInt8.toInt32)), .unset, .unset] [(.int (nn - (1 : Int32))), (.int kk)])) t → Steps p.tables e below (s₁.setTop (entryFrame m #[(.int p0), (.int p1), (.int p2), (.int p3), (.int p4), (.int p5)] maxLocals)) t := fun t k => pre66 t (by
        refine X28.arraylength hx (id Ar67.1) (State.isArrayOf_alike hZ.alike Ar67.2.1) (g := (mkF m 110 #[.val (.int p0), .val (.int p1), .val (.int p2), .val (.int p3), .val (.int p4), .val (.int p5), .val (.int nn), .val (.ref b14), .val (.int kk), .val (.int jj), .val (.ref b_28), .val (.int (3 : Int32)), .unset, .unset, .unset, .unset, .unset] [(.ref b_28)])) rfl rfl (hb hby at_110) _ ?_
        rw [len_of S67 M67]
        show Steps p.tables e below (T28.setTop (mkF m 111 #[.val (.int p0), .val (.int p1), .val (.int p2), .val (.int p3), .val (.int p4), .val (.int p5), .val (.int nn), .val (.ref b14), .val (.int kk), .val (.int jj), .val (.ref b_28), .val (.int (3 : Int32)), .unset, .unset, .unset, .unset, .unset] [(.int ((4 : Int32) + nn))])) _
        refine XS.iconst X28.here hx rfl (hb hby at_111) ?_
        show Steps p.tables e below (T28.setTop (mkF m 112 #[.val (.int p0), .val (.int p1), .val (.int p2), .val (.int p3), .val (.int p4), .val (.int p5), .val (.int nn), .val (.ref b14), .val (.int kk), .val (.int jj), .val (.ref b_28), .val (.int (3 : Int32)), .unset, .unset, .unset, .unset, .unset] [(.int (1 : Int32)), (.int ((4 : Int32) + nn))])) _
        refine XS.iload X28.here hx rfl (hb hby at_112) rfl ?_
        show Steps p.tables e below (T28.setTop (mkF m 114 #[.val (.int p0), .val (.int p1), .val (.int p2), .val (.int p3), .val (.int p4), .val (.int p5), .val (.int nn), .val (.ref b14), .val (.int kk), .val (.int jj), .val (.ref b_28), .val (.int (3 : Int32)), .unset, .unset, .unset, .unset, .unset] [(.int (3 : Int32)), (.int (1 : Int32)), (.int ((4 : Int32) + nn))])) _
        refine XS.iadd X28.here hx rfl (hb hby at_114) rfl ?_
        show Steps p.tables e below (T28.setTop (mkF m 115 #[.val (.int p0), .val (.int p1), .val (.int p2), .val (.int p3), .val (.int p4), .val (.int p5), .val (.int nn), .val (.ref b14), .val (.int kk), .val (.int jj), .val (.ref b_28), .val (.int (3 : Int32)), .unset, .unset, .unset, .unset, .unset] [(.int (4 : Int32)), (.int ((4 : Int32) + nn))])) _
        refine XS.iload X28.here hx rfl (hb hby at_115) rfl ?_
        show Steps p.tables e below (T28.setTop (mkF m 117 #[.val (.int p0), .val (.int p1), .val (.int p2), .val (.int p3), .val (.int p4), .val (.int p5), .val (.int nn), .val (.ref b14), .val (.int kk), .val (.int jj), .val (.ref b_28), .val (.int (3 : Int32)), .unset, .unset, .unset, .unset, .unset] [(.int nn), (.int (4 : Int32)), (.int ((4 : Int32) + nn))])) _
        refine XS.iadd X28.here hx rfl (hb hby at_117) rfl ?_
        show Steps p.tables e below (T28.setTop (mkF m 118 #[.val (.int p0), .val (.int p1), .val (.int p2), .val (.int p3), .val (.int p4), .val (.int p5), .val (.int nn), .val (.ref b14), .val (.int kk), .val (.int jj), .val (.ref b_28), .val (.int (3 : Int32)), .unset, .unset, .unset, .unset, .unset] [(.int ((4 : Int32) + nn)), (.int ((4 : Int32) + nn))])) _
        refine XS.icmpYes X28.here hx rfl (pc0 := 118) (pc' := 123) rfl (hb hby at_118) rfl (teq (rfl : ((4 : Int32) + nn) = ((4 : Int32) + nn))).1 (by decide) (by decide) ?_
        show Steps p.tables e below (T28.setTop (mkF m 123 #[.val (.int p0), .val (.int p1), .val (.int p2), .val (.int p3), .val (.int p4), .val (.int p5), .val (.int nn), .val (.ref b14), .val (.int kk), .val (.int jj), .val (.ref b_28), .val (.int (3 : Int32)), .unset, .unset, .unset, .unset, .unset] [])) _
        refine XS.aload X28.here hx rfl (hb hby at_123) rfl rfl ?_
        show Steps p.tables e below (T28.setTop (mkF m 125 #[.val (.int p0), .val (.int p1), .val (.int p2), .val (.int p3), .val (.int p4), .val (.int p5), .val (.int nn), .val (.ref b14), .val (.int kk), .val (.int jj), .val (.ref b_28), .val (.int (3 : Int32)), .unset, .unset, .unset, .unset, .unset] [(.ref b_28)])) _
        refine XS.iconst X28.here hx rfl (hb hby at_125) ?_
        show Steps p.tables e below (T28.setTop (mkF m 126 #[.val (.int p0), .val (.int p1), .val (.int p2), .val (.int p3), .val (.int p4), .val (.int p5), .val (.int nn), .val (.ref b14), .val (.int kk), .val (.int jj), .val (.ref b_28), .val (.int (3 : Int32)), .unset, .unset, .unset, .unset, .unset] [(.int (0 : Int32)), (.ref b_28)])) _
        refine X28.baloadBytes hx (j := (0 : Int32)) (v := (.int (3 : Int32))) (id Ar68.1) (State.isArrayOf_alike hZ.alike Ar68.2.1) Ar68.2.2 hin68 hat68 (g := (mkF m 126 #[.val (.int p0), .val (.int p1), .val (.int p2), .val (.int p3), .val (.int p4), .val (.int p5), .val (.int nn), .val (.ref b14), .val (.int kk), .val (.int jj), .val (.ref b_28), .val (.int (3 : Int32)), .unset, .unset, .unset, .unset, .unset] [(.int (0 : Int32)), (.ref b_28)])) rfl rfl (hb hby at_126) _ ?_
        show Steps p.tables e below (T28.setTop (mkF m 127 #[.val (.int p0), .val (.int p1), .val (.int p2), .val (.int p3), .val (.int p4), .val (.int p5), .val (.int nn), .val (.ref b14), .val (.int kk), .val (.int jj), .val (.ref b_28), .val (.int (3 : Int32)), .unset, .unset, .unset, .unset, .unset] [(.int (3 : Int32))])) _
        refine XS.iload X28.here hx rfl (hb hby at_127) rfl ?_
        show Steps p.tables e below (T28.setTop (mkF m 129 #[.val (.int p0), .val (.int p1), .val (.int p2), .val (.int p3), .val (.int p4), .val (.int p5), .val (.int nn), .val (.ref b14), .val (.int kk), .val (.int jj), .val (.ref b_28), .val (.int (3 : Int32)), .unset, .unset, .unset, .unset, .unset] [(.int (3 : Int32)), (.int (3 : Int32))])) _
        refine XS.i2b X28.here hx rfl (hb hby at_129) rfl ?_
        show Steps p.tables e below (T28.setTop (mkF m 130 #[.val (.int p0), .val (.int p1), .val (.int p2), .val (.int p3), .val (.int p4), .val (.int p5), .val (.int nn), .val (.ref b14), .val (.int kk), .val (.int jj), .val (.ref b_28), .val (.int (3 : Int32)), .unset, .unset, .unset, .unset, .unset] [(.int ((3 : Int32).toInt8.toInt32)), (.int (3 : Int32))])) _
        refine XS.icmpYes X28.here hx rfl (pc0 := 130) (pc' := 135) rfl (hb hby at_130) rfl (teq (by decide)).1 (by decide) (by decide) ?_
        show Steps p.tables e below (T28.setTop (mkF m 135 #[.val (.int p0), .val (.int p1), .val (.int p2), .val (.int p3), .val (.int p4), .val (.int p5), .val (.int nn), .val (.ref b14), .val (.int kk), .val (.int jj), .val (.ref b_28), .val (.int (3 : Int32)), .unset, .unset, .unset, .unset, .unset] [])) _
        refine XS.iload X28.here hx rfl (hb hby at_135) rfl ?_
        show Steps p.tables e below (T28.setTop (mkF m 137 #[.val (.int p0), .val (.int p1), .val (.int p2), .val (.int p3), .val (.int p4), .val (.int p5), .val (.int nn), .val (.ref b14), .val (.int kk), .val (.int jj), .val (.ref b_28), .val (.int (3 : Int32)), .unset, .unset, .unset, .unset, .unset] [(.int (3 : Int32))])) _
        refine XS.iconst X28.here hx rfl (hb hby at_137) ?_
        show Steps p.tables e below (T28.setTop (mkF m 138 #[.val (.int p0), .val (.int p1), .val (.int p2), .val (.int p3), .val (.int p4), .val (.int p5), .val (.int nn), .val (.ref b14), .val (.int kk), .val (.int jj), .val (.ref b_28), .val (.int (3 : Int32)), .unset, .unset, .unset, .unset, .unset] [(.int (1 : Int32)), (.int (3 : Int32))])) _
        refine XS.icmpYes X28.here hx rfl (pc0 := 138) (pc' := 154) rfl (hb hby at_138) rfl (feq (by decide : ¬ ((3 : Int32) = (1 : Int32)))).2 (by decide) (by decide) ?_
        show Steps p.tables e below (T28.setTop (mkF m 154 #[.val (.int p0), .val (.int p1), .val (.int p2), .val (.int p3), .val (.int p4), .val (.int p5), .val (.int nn), .val (.ref b14), .val (.int kk), .val (.int jj), .val (.ref b_28), .val (.int (3 : Int32)), .unset, .unset, .unset, .unset, .unset] [])) _
        refine XS.iload X28.here hx rfl (hb hby at_154) rfl ?_
        show Steps p.tables e below (T28.setTop (mkF m 156 #[.val (.int p0), .val (.int p1), .val (.int p2), .val (.int p3), .val (.int p4), .val (.int p5), .val (.int nn), .val (.ref b14), .val (.int kk), .val (.int jj), .val (.ref b_28), .val (.int (3 : Int32)), .unset, .unset, .unset, .unset, .unset] [(.int (3 : Int32))])) _
        refine XS.iconst X28.here hx rfl (hb hby at_156) ?_
        show Steps p.tables e below (T28.setTop (mkF m 157 #[.val (.int p0), .val (.int p1), .val (.int p2), .val (.int p3), .val (.int p4), .val (.int p5), .val (.int nn), .val (.ref b14), .val (.int kk), .val (.int jj), .val (.ref b_28), .val (.int (3 : Int32)), .unset, .unset, .unset, .unset, .unset] [(.int (2 : Int32)), (.int (3 : Int32))])) _
        refine XS.icmpYes X28.here hx rfl (pc0 := 157) (pc' := 185) rfl (hb hby at_157) rfl (feq (by decide : ¬ ((3 : Int32) = (2 : Int32)))).2 (by decide) (by decide) ?_
        show Steps p.tables e below (T28.setTop (mkF m 185 #[.val (.int p0), .val (.int p1), .val (.int p2), .val (.int p3), .val (.int p4), .val (.int p5), .val (.int nn), .val (.ref b14), .val (.int kk), .val (.int jj), .val (.ref b_28), .val (.int (3 : Int32)), .unset, .unset, .unset, .unset, .unset] [])) _
        refine XS.aload X28.here hx rfl (hb hby at_185) rfl rfl ?_
        show Steps p.tables e below (T28.setTop (mkF m 187 #[.val (.int p0), .val (.int p1), .val (.int p2), .val (.int p3), .val (.int p4), .val (.int p5), .val (.int nn), .val (.ref b14), .val (.int kk), .val (.int jj), .val (.ref b_28), .val (.int (3 : Int32)), .unset, .unset, .unset, .unset, .unset] [(.ref b_28)])) _
        refine XS.iconst X28.here hx rfl (hb hby at_187) ?_
        show Steps p.tables e below (T28.setTop (mkF m 188 #[.val (.int p0), .val (.int p1), .val (.int p2), .val (.int p3), .val (.int p4), .val (.int p5), .val (.int nn), .val (.ref b14), .val (.int kk), .val (.int jj), .val (.ref b_28), .val (.int (3 : Int32)), .unset, .unset, .unset, .unset, .unset] [(.int (1 : Int32)), (.ref b_28)])) _
        refine X28.baloadBytes hx (j := (1 : Int32)) (v := (.int (own_sb nn (16 : Int32)))) (id Ar69.1) (State.isArrayOf_alike hZ.alike Ar69.2.1) Ar69.2.2 hin69 hat69 (g := (mkF m 188 #[.val (.int p0), .val (.int p1), .val (.int p2), .val (.int p3), .val (.int p4), .val (.int p5), .val (.int nn), .val (.ref b14), .val (.int kk), .val (.int jj), .val (.ref b_28), .val (.int (3 : Int32)), .unset, .unset, .unset, .unset, .unset] [(.int (1 : Int32)), (.ref b_28)])) rfl rfl (hb hby at_188) _ ?_
        show Steps p.tables e below (T28.setTop (mkF m 189 #[.val (.int p0), .val (.int p1), .val (.int p2), .val (.int p3), .val (.int p4), .val (.int p5), .val (.int nn), .val (.ref b14), .val (.int kk), .val (.int jj), .val (.ref b_28), .val (.int (3 : Int32)), .unset, .unset, .unset, .unset, .unset] [(.int (own_sb nn (16 : Int32)))])) _
        refine XS.sipush X28.here hx rfl (hb hby at_189) ?_
        show Steps p.tables e below (T28.setTop (mkF m 192 #[.val (.int p0), .val (.int p1), .val (.int p2), .val (.int p3), .val (.int p4), .val (.int p5), .val (.int nn), .val (.ref b14), .val (.int kk), .val (.int jj), .val (.ref b_28), .val (.int (3 : Int32)), .unset, .unset, .unset, .unset, .unset] [(.int (255 : Int32)), (.int (own_sb nn (16 : Int32)))])) _
        refine XS.iand X28.here hx rfl (hb hby at_192) rfl ?_
        show Steps p.tables e below (T28.setTop (mkF m 193 #[.val (.int p0), .val (.int p1), .val (.int p2), .val (.int p3), .val (.int p4), .val (.int p5), .val (.int nn), .val (.ref b14), .val (.int kk), .val (.int jj), .val (.ref b_28), .val (.int (3 : Int32)), .unset, .unset, .unset, .unset, .unset] [(.int ((own_sb nn (16 : Int32)) &&& (255 : Int32)))])) _
        refine XS.bipush X28.here hx rfl (hb hby at_193) ?_
        show Steps p.tables e below (T28.setTop (mkF m 195 #[.val (.int p0), .val (.int p1), .val (.int p2), .val (.int p3), .val (.int p4), .val (.int p5), .val (.int nn), .val (.ref b14), .val (.int kk), .val (.int jj), .val (.ref b_28), .val (.int (3 : Int32)), .unset, .unset, .unset, .unset, .unset] [(.int (16 : Int32)), (.int ((own_sb nn (16 : Int32)) &&& (255 : Int32)))])) _
        refine XS.ishl X28.here hx rfl (hb hby at_195) rfl ?_
        show Steps p.tables e below (T28.setTop (mkF m 196 #[.val (.int p0), .val (.int p1), .val (.int p2), .val (.int p3), .val (.int p4), .val (.int p5), .val (.int nn), .val (.ref b14), .val (.int kk), .val (.int jj), .val (.ref b_28), .val (.int (3 : Int32)), .unset, .unset, .unset, .unset, .unset] [(.int (((own_sb nn (16 : Int32)) &&& (255 : Int32)) <<< ((16 : Int32) &&& 31)))])) _
        refine XS.aload X28.here hx rfl (hb hby at_196) rfl rfl ?_
        show Steps p.tables e below (T28.setTop (mkF m 198 #[.val (.int p0), .val (.int p1), .val (.int p2), .val (.int p3), .val (.int p4), .val (.int p5), .val (.int nn), .val (.ref b14), .val (.int kk), .val (.int jj), .val (.ref b_28), .val (.int (3 : Int32)), .unset, .unset, .unset, .unset, .unset] [(.ref b_28), (.int (((own_sb nn (16 : Int32)) &&& (255 : Int32)) <<< ((16 : Int32) &&& 31)))])) _
        refine XS.iconst X28.here hx rfl (hb hby at_198) ?_
        show Steps p.tables e below (T28.setTop (mkF m 199 #[.val (.int p0), .val (.int p1), .val (.int p2), .val (.int p3), .val (.int p4), .val (.int p5), .val (.int nn), .val (.ref b14), .val (.int kk), .val (.int jj), .val (.ref b_28), .val (.int (3 : Int32)), .unset, .unset, .unset, .unset, .unset] [(.int (2 : Int32)), (.ref b_28), (.int (((own_sb nn (16 : Int32)) &&& (255 : Int32)) <<< ((16 : Int32) &&& 31)))])) _
        refine X28.baloadBytes hx (j := (2 : Int32)) (v := (.int (own_sb nn (8 : Int32)))) (id Ar70.1) (State.isArrayOf_alike hZ.alike Ar70.2.1) Ar70.2.2 hin70 hat70 (g := (mkF m 199 #[.val (.int p0), .val (.int p1), .val (.int p2), .val (.int p3), .val (.int p4), .val (.int p5), .val (.int nn), .val (.ref b14), .val (.int kk), .val (.int jj), .val (.ref b_28), .val (.int (3 : Int32)), .unset, .unset, .unset, .unset, .unset] [(.int (2 : Int32)), (.ref b_28), (.int (((own_sb nn (16 : Int32)) &&& (255 : Int32)) <<< ((16 : Int32) &&& 31)))])) rfl rfl (hb hby at_199) _ ?_
        show Steps p.tables e below (T28.setTop (mkF m 200 #[.val (.int p0), .val (.int p1), .val (.int p2), .val (.int p3), .val (.int p4), .val (.int p5), .val (.int nn), .val (.ref b14), .val (.int kk), .val (.int jj), .val (.ref b_28), .val (.int (3 : Int32)), .unset, .unset, .unset, .unset, .unset] [(.int (own_sb nn (8 : Int32))), (.int (((own_sb nn (16 : Int32)) &&& (255 : Int32)) <<< ((16 : Int32) &&& 31)))])) _
        refine XS.sipush X28.here hx rfl (hb hby at_200) ?_
        show Steps p.tables e below (T28.setTop (mkF m 203 #[.val (.int p0), .val (.int p1), .val (.int p2), .val (.int p3), .val (.int p4), .val (.int p5), .val (.int nn), .val (.ref b14), .val (.int kk), .val (.int jj), .val (.ref b_28), .val (.int (3 : Int32)), .unset, .unset, .unset, .unset, .unset] [(.int (255 : Int32)), (.int (own_sb nn (8 : Int32))), (.int (((own_sb nn (16 : Int32)) &&& (255 : Int32)) <<< ((16 : Int32) &&& 31)))])) _
        refine XS.iand X28.here hx rfl (hb hby at_203) rfl ?_
        show Steps p.tables e below (T28.setTop (mkF m 204 #[.val (.int p0), .val (.int p1), .val (.int p2), .val (.int p3), .val (.int p4), .val (.int p5), .val (.int nn), .val (.ref b14), .val (.int kk), .val (.int jj), .val (.ref b_28), .val (.int (3 : Int32)), .unset, .unset, .unset, .unset, .unset] [(.int ((own_sb nn (8 : Int32)) &&& (255 : Int32))), (.int (((own_sb nn (16 : Int32)) &&& (255 : Int32)) <<< ((16 : Int32) &&& 31)))])) _
        refine XS.bipush X28.here hx rfl (hb hby at_204) ?_
        show Steps p.tables e below (T28.setTop (mkF m 206 #[.val (.int p0), .val (.int p1), .val (.int p2), .val (.int p3), .val (.int p4), .val (.int p5), .val (.int nn), .val (.ref b14), .val (.int kk), .val (.int jj), .val (.ref b_28), .val (.int (3 : Int32)), .unset, .unset, .unset, .unset, .unset] [(.int (8 : Int32)), (.int ((own_sb nn (8 : Int32)) &&& (255 : Int32))), (.int (((own_sb nn (16 : Int32)) &&& (255 : Int32)) <<< ((16 : Int32) &&& 31)))])) _
        refine XS.ishl X28.here hx rfl (hb hby at_206) rfl ?_
        show Steps p.tables e below (T28.setTop (mkF m 207 #[.val (.int p0), .val (.int p1), .val (.int p2), .val (.int p3), .val (.int p4), .val (.int p5), .val (.int nn), .val (.ref b14), .val (.int kk), .val (.int jj), .val (.ref b_28), .val (.int (3 : Int32)), .unset, .unset, .unset, .unset, .unset] [(.int (((own_sb nn (8 : Int32)) &&& (255 : Int32)) <<< ((8 : Int32) &&& 31))), (.int (((own_sb nn (16 : Int32)) &&& (255 : Int32)) <<< ((16 : Int32) &&& 31)))])) _
        refine XS.ior X28.here hx rfl (hb hby at_207) rfl ?_
        show Steps p.tables e below (T28.setTop (mkF m 208 #[.val (.int p0), .val (.int p1), .val (.int p2), .val (.int p3), .val (.int p4), .val (.int p5), .val (.int nn), .val (.ref b14), .val (.int kk), .val (.int jj), .val (.ref b_28), .val (.int (3 : Int32)), .unset, .unset, .unset, .unset, .unset] [(.int ((((own_sb nn (16 : Int32)) &&& (255 : Int32)) <<< ((16 : Int32) &&& 31)) ||| (((own_sb nn (8 : Int32)) &&& (255 : Int32)) <<< ((8 : Int32) &&& 31))))])) _
        refine XS.aload X28.here hx rfl (hb hby at_208) rfl rfl ?_
        show Steps p.tables e below (T28.setTop (mkF m 210 #[.val (.int p0), .val (.int p1), .val (.int p2), .val (.int p3), .val (.int p4), .val (.int p5), .val (.int nn), .val (.ref b14), .val (.int kk), .val (.int jj), .val (.ref b_28), .val (.int (3 : Int32)), .unset, .unset, .unset, .unset, .unset] [(.ref b_28), (.int ((((own_sb nn (16 : Int32)) &&& (255 : Int32)) <<< ((16 : Int32) &&& 31)) ||| (((own_sb nn (8 : Int32)) &&& (255 : Int32)) <<< ((8 : Int32) &&& 31))))])) _
        refine XS.iconst X28.here hx rfl (hb hby at_210) ?_
        show Steps p.tables e below (T28.setTop (mkF m 211 #[.val (.int p0), .val (.int p1), .val (.int p2), .val (.int p3), .val (.int p4), .val (.int p5), .val (.int nn), .val (.ref b14), .val (.int kk), .val (.int jj), .val (.ref b_28), .val (.int (3 : Int32)), .unset, .unset, .unset, .unset, .unset] [(.int (3 : Int32)), (.ref b_28), (.int ((((own_sb nn (16 : Int32)) &&& (255 : Int32)) <<< ((16 : Int32) &&& 31)) ||| (((own_sb nn (8 : Int32)) &&& (255 : Int32)) <<< ((8 : Int32) &&& 31))))])) _
        refine X28.baloadBytes hx (j := (3 : Int32)) (v := (.int (own_sb nn (0 : Int32)))) (id Ar71.1) (State.isArrayOf_alike hZ.alike Ar71.2.1) Ar71.2.2 hin71 hat71 (g := (mkF m 211 #[.val (.int p0), .val (.int p1), .val (.int p2), .val (.int p3), .val (.int p4), .val (.int p5), .val (.int nn), .val (.ref b14), .val (.int kk), .val (.int jj), .val (.ref b_28), .val (.int (3 : Int32)), .unset, .unset, .unset, .unset, .unset] [(.int (3 : Int32)), (.ref b_28), (.int ((((own_sb nn (16 : Int32)) &&& (255 : Int32)) <<< ((16 : Int32) &&& 31)) ||| (((own_sb nn (8 : Int32)) &&& (255 : Int32)) <<< ((8 : Int32) &&& 31))))])) rfl rfl (hb hby at_211) _ ?_
        show Steps p.tables e below (T28.setTop (mkF m 212 #[.val (.int p0), .val (.int p1), .val (.int p2), .val (.int p3), .val (.int p4), .val (.int p5), .val (.int nn), .val (.ref b14), .val (.int kk), .val (.int jj), .val (.ref b_28), .val (.int (3 : Int32)), .unset, .unset, .unset, .unset, .unset] [(.int (own_sb nn (0 : Int32))), (.int ((((own_sb nn (16 : Int32)) &&& (255 : Int32)) <<< ((16 : Int32) &&& 31)) ||| (((own_sb nn (8 : Int32)) &&& (255 : Int32)) <<< ((8 : Int32) &&& 31))))])) _
        refine XS.sipush X28.here hx rfl (hb hby at_212) ?_
        show Steps p.tables e below (T28.setTop (mkF m 215 #[.val (.int p0), .val (.int p1), .val (.int p2), .val (.int p3), .val (.int p4), .val (.int p5), .val (.int nn), .val (.ref b14), .val (.int kk), .val (.int jj), .val (.ref b_28), .val (.int (3 : Int32)), .unset, .unset, .unset, .unset, .unset] [(.int (255 : Int32)), (.int (own_sb nn (0 : Int32))), (.int ((((own_sb nn (16 : Int32)) &&& (255 : Int32)) <<< ((16 : Int32) &&& 31)) ||| (((own_sb nn (8 : Int32)) &&& (255 : Int32)) <<< ((8 : Int32) &&& 31))))])) _
        refine XS.iand X28.here hx rfl (hb hby at_215) rfl ?_
        show Steps p.tables e below (T28.setTop (mkF m 216 #[.val (.int p0), .val (.int p1), .val (.int p2), .val (.int p3), .val (.int p4), .val (.int p5), .val (.int nn), .val (.ref b14), .val (.int kk), .val (.int jj), .val (.ref b_28), .val (.int (3 : Int32)), .unset, .unset, .unset, .unset, .unset] [(.int ((own_sb nn (0 : Int32)) &&& (255 : Int32))), (.int ((((own_sb nn (16 : Int32)) &&& (255 : Int32)) <<< ((16 : Int32) &&& 31)) ||| (((own_sb nn (8 : Int32)) &&& (255 : Int32)) <<< ((8 : Int32) &&& 31))))])) _
        refine XS.ior X28.here hx rfl (hb hby at_216) rfl ?_
        show Steps p.tables e below (T28.setTop (mkF m 217 #[.val (.int p0), .val (.int p1), .val (.int p2), .val (.int p3), .val (.int p4), .val (.int p5), .val (.int nn), .val (.ref b14), .val (.int kk), .val (.int jj), .val (.ref b_28), .val (.int (3 : Int32)), .unset, .unset, .unset, .unset, .unset] [(.int (((((own_sb nn (16 : Int32)) &&& (255 : Int32)) <<< ((16 : Int32) &&& 31)) ||| (((own_sb nn (8 : Int32)) &&& (255 : Int32)) <<< ((8 : Int32) &&& 31))) ||| ((own_sb nn (0 : Int32)) &&& (255 : Int32))))])) _
        refine XS.istore X28.here hx rfl (hb hby at_217) rfl (l' := #[.val (.int p0), .val (.int p1), .val (.int p2), .val (.int p3), .val (.int p4), .val (.int p5), .val (.int nn), .val (.ref b14), .val (.int kk), .val (.int jj), .val (.ref b_28), .val (.int (3 : Int32)), .val (.int (((((own_sb nn (16 : Int32)) &&& (255 : Int32)) <<< ((16 : Int32) &&& 31)) ||| (((own_sb nn (8 : Int32)) &&& (255 : Int32)) <<< ((8 : Int32) &&& 31))) ||| ((own_sb nn (0 : Int32)) &&& (255 : Int32)))), .unset, .unset, .unset, .unset]) rfl ?_
        show Steps p.tables e below (T28.setTop (mkF m 219 #[.val (.int p0), .val (.int p1), .val (.int p2), .val (.int p3), .val (.int p4), .val (.int p5), .val (.int nn), .val (.ref b14), .val (.int kk), .val (.int jj), .val (.ref b_28), .val (.int (3 : Int32)), .val (.int (((((own_sb nn (16 : Int32)) &&& (255 : Int32)) <<< ((16 : Int32) &&& 31)) ||| (((own_sb nn (8 : Int32)) &&& (255 : Int32)) <<< ((8 : Int32) &&& 31))) ||| ((own_sb nn (0 : Int32)) &&& (255 : Int32)))), .unset, .unset, .unset, .unset] [])) _
        refine XS.iload X28.here hx rfl (hb hby at_219) rfl ?_
        show Steps p.tables e below (T28.setTop (mkF m 221 #[.val (.int p0), .val (.int p1), .val (.int p2), .val (.int p3), .val (.int p4), .val (.int p5), .val (.int nn), .val (.ref b14), .val (.int kk), .val (.int jj), .val (.ref b_28), .val (.int (3 : Int32)), .val (.int (((((own_sb nn (16 : Int32)) &&& (255 : Int32)) <<< ((16 : Int32) &&& 31)) ||| (((own_sb nn (8 : Int32)) &&& (255 : Int32)) <<< ((8 : Int32) &&& 31))) ||| ((own_sb nn (0 : Int32)) &&& (255 : Int32)))), .unset, .unset, .unset, .unset] [(.int (((((own_sb nn (16 : Int32)) &&& (255 : Int32)) <<< ((16 : Int32) &&& 31)) ||| (((own_sb nn (8 : Int32)) &&& (255 : Int32)) <<< ((8 : Int32) &&& 31))) ||| ((own_sb nn (0 : Int32)) &&& (255 : Int32))))])) _
        refine XS.iload X28.here hx rfl (hb hby at_221) rfl ?_
        show Steps p.tables e below (T28.setTop (mkF m 223 #[.val (.int p0), .val (.int p1), .val (.int p2), .val (.int p3), .val (.int p4), .val (.int p5), .val (.int nn), .val (.ref b14), .val (.int kk), .val (.int jj), .val (.ref b_28), .val (.int (3 : Int32)), .val (.int (((((own_sb nn (16 : Int32)) &&& (255 : Int32)) <<< ((16 : Int32) &&& 31)) ||| (((own_sb nn (8 : Int32)) &&& (255 : Int32)) <<< ((8 : Int32) &&& 31))) ||| ((own_sb nn (0 : Int32)) &&& (255 : Int32)))), .unset, .unset, .unset, .unset] [(.int nn), (.int (((((own_sb nn (16 : Int32)) &&& (255 : Int32)) <<< ((16 : Int32) &&& 31)) ||| (((own_sb nn (8 : Int32)) &&& (255 : Int32)) <<< ((8 : Int32) &&& 31))) ||| ((own_sb nn (0 : Int32)) &&& (255 : Int32))))])) _
        refine XS.icmpYes X28.here hx rfl (pc0 := 223) (pc' := 228) rfl (hb hby at_223) rfl (teq (own_d3 Bn)).1 (by decide) (by decide) ?_
        show Steps p.tables e below (T28.setTop (mkF m 228 #[.val (.int p0), .val (.int p1), .val (.int p2), .val (.int p3), .val (.int p4), .val (.int p5), .val (.int nn), .val (.ref b14), .val (.int kk), .val (.int jj), .val (.ref b_28), .val (.int (3 : Int32)), .val (.int (((((own_sb nn (16 : Int32)) &&& (255 : Int32)) <<< ((16 : Int32) &&& 31)) ||| (((own_sb nn (8 : Int32)) &&& (255 : Int32)) <<< ((8 : Int32) &&& 31))) ||| ((own_sb nn (0 : Int32)) &&& (255 : Int32)))), .unset, .unset, .unset, .unset] [])) _
        refine XS.iload X28.here hx rfl (hb hby at_228) rfl ?_
        show Steps p.tables e below (T28.setTop (mkF m 230 #[.val (.int p0), .val (.int p1), .val (.int p2), .val (.int p3), .val (.int p4), .val (.int p5), .val (.int nn), .val (.ref b14), .val (.int kk), .val (.int jj), .val (.ref b_28), .val (.int (3 : Int32)), .val (.int (((((own_sb nn (16 : Int32)) &&& (255 : Int32)) <<< ((16 : Int32) &&& 31)) ||| (((own_sb nn (8 : Int32)) &&& (255 : Int32)) <<< ((8 : Int32) &&& 31))) ||| ((own_sb nn (0 : Int32)) &&& (255 : Int32)))), .unset, .unset, .unset, .unset] [(.int nn)])) _
        refine XS.ifYes X28.here hx rfl (pc0 := 230) (pc' := 235) rfl (hb hby at_230) rfl ((if0 _ _).trans (feq hnz).2) (by decide) (by decide) ?_
        show Steps p.tables e below (T28.setTop (mkF m 235 #[.val (.int p0), .val (.int p1), .val (.int p2), .val (.int p3), .val (.int p4), .val (.int p5), .val (.int nn), .val (.ref b14), .val (.int kk), .val (.int jj), .val (.ref b_28), .val (.int (3 : Int32)), .val (.int (((((own_sb nn (16 : Int32)) &&& (255 : Int32)) <<< ((16 : Int32) &&& 31)) ||| (((own_sb nn (8 : Int32)) &&& (255 : Int32)) <<< ((8 : Int32) &&& 31))) ||| ((own_sb nn (0 : Int32)) &&& (255 : Int32)))), .unset, .unset, .unset, .unset] [])) _
        refine XS.iconst X28.here hx rfl (hb hby at_235) ?_
        show Steps p.tables e below (T28.setTop (mkF m 236 #[.val (.int p0), .val (.int p1), .val (.int p2), .val (.int p3), .val (.int p4), .val (.int p5), .val (.int nn), .val (.ref b14), .val (.int kk), .val (.int jj), .val (.ref b_28), .val (.int (3 : Int32)), .val (.int (((((own_sb nn (16 : Int32)) &&& (255 : Int32)) <<< ((16 : Int32) &&& 31)) ||| (((own_sb nn (8 : Int32)) &&& (255 : Int32)) <<< ((8 : Int32) &&& 31))) ||| ((own_sb nn (0 : Int32)) &&& (255 : Int32)))), .unset, .unset, .unset, .unset] [(.int (1 : Int32))])) _
        refine XS.iload X28.here hx rfl (hb hby at_236) rfl ?_
        show Steps p.tables e below (T28.setTop (mkF m 238 #[.val (.int p0), .val (.int p1), .val (.int p2), .val (.int p3), .val (.int p4), .val (.int p5), .val (.int nn), .val (.ref b14), .val (.int kk), .val (.int jj), .val (.ref b_28), .val (.int (3 : Int32)), .val (.int (((((own_sb nn (16 : Int32)) &&& (255 : Int32)) <<< ((16 : Int32) &&& 31)) ||| (((own_sb nn (8 : Int32)) &&& (255 : Int32)) <<< ((8 : Int32) &&& 31))) ||| ((own_sb nn (0 : Int32)) &&& (255 : Int32)))), .unset, .unset, .unset, .unset] [(.int (3 : Int32)), (.int (1 : Int32))])) _
        refine XS.iadd X28.here hx rfl (hb hby at_238) rfl ?_
        show Steps p.tables e below (T28.setTop (mkF m 239 #[.val (.int p0), .val (.int p1), .val (.int p2), .val (.int p3), .val (.int p4), .val (.int p5), .val (.int nn), .val (.ref b14), .val (.int kk), .val (.int jj), .val (.ref b_28), .val (.int (3 : Int32)), .val (.int (((((own_sb nn (16 : Int32)) &&& (255 : Int32)) <<< ((16 : Int32) &&& 31)) ||| (((own_sb nn (8 : Int32)) &&& (255 : Int32)) <<< ((8 : Int32) &&& 31))) ||| ((own_sb nn (0 : Int32)) &&& (255 : Int32)))), .unset, .unset, .unset, .unset] [(.int (4 : Int32))])) _
        refine XS.istore X28.here hx rfl (hb hby at_239) rfl (l' := #[.val (.int p0), .val (.int p1), .val (.int p2), .val (.int p3), .val (.int p4), .val (.int p5), .val (.int nn), .val (.ref b14), .val (.int kk), .val (.int jj), .val (.ref b_28), .val (.int (3 : Int32)), .val (.int (((((own_sb nn (16 : Int32)) &&& (255 : Int32)) <<< ((16 : Int32) &&& 31)) ||| (((own_sb nn (8 : Int32)) &&& (255 : Int32)) <<< ((8 : Int32) &&& 31))) ||| ((own_sb nn (0 : Int32)) &&& (255 : Int32)))), .val (.int (4 : Int32)), .unset, .unset, .unset]) rfl ?_
        show Steps p.tables e below (T28.setTop (mkF m 241 #[.val (.int p0), .val (.int p1), .val (.int p2), .val (.int p3), .val (.int p4), .val (.int p5), .val (.int nn), .val (.ref b14), .val (.int kk), .val (.int jj), .val (.ref b_28), .val (.int (3 : Int32)), .val (.int (((((own_sb nn (16 : Int32)) &&& (255 : Int32)) <<< ((16 : Int32) &&& 31)) ||| (((own_sb nn (8 : Int32)) &&& (255 : Int32)) <<< ((8 : Int32) &&& 31))) ||| ((own_sb nn (0 : Int32)) &&& (255 : Int32)))), .val (.int (4 : Int32)), .unset, .unset, .unset] [])) _
        refine XS.iloadN X28.here hx rfl (hb hby at_241) rfl ?_
        show Steps p.tables e below (T28.setTop (mkF m 242 #[.val (.int p0), .val (.int p1), .val (.int p2), .val (.int p3), .val (.int p4), .val (.int p5), .val (.int nn), .val (.ref b14), .val (.int kk), .val (.int jj), .val (.ref b_28), .val (.int (3 : Int32)), .val (.int (((((own_sb nn (16 : Int32)) &&& (255 : Int32)) <<< ((16 : Int32) &&& 31)) ||| (((own_sb nn (8 : Int32)) &&& (255 : Int32)) <<< ((8 : Int32) &&& 31))) ||| ((own_sb nn (0 : Int32)) &&& (255 : Int32)))), .val (.int (4 : Int32)), .unset, .unset, .unset] [(.int p3)])) _
        refine XS.i2b X28.here hx rfl (hb hby at_242) rfl ?_
        show Steps p.tables e below (T28.setTop (mkF m 243 #[.val (.int p0), .val (.int p1), .val (.int p2), .val (.int p3), .val (.int p4), .val (.int p5), .val (.int nn), .val (.ref b14), .val (.int kk), .val (.int jj), .val (.ref b_28), .val (.int (3 : Int32)), .val (.int (((((own_sb nn (16 : Int32)) &&& (255 : Int32)) <<< ((16 : Int32) &&& 31)) ||| (((own_sb nn (8 : Int32)) &&& (255 : Int32)) <<< ((8 : Int32) &&& 31))) ||| ((own_sb nn (0 : Int32)) &&& (255 : Int32)))), .val (.int (4 : Int32)), .unset, .unset, .unset] [(.int (p3.toInt8.toInt32))])) _
        refine XS.istore X28.here hx rfl (hb hby at_243) rfl (l' := #[.val (.int p0), .val (.int p1), .val (.int p2), .val (.int p3), .val (.int p4), .val (.int p5), .val (.int nn), .val (.ref b14), .val (.int kk), .val (.int jj), .val (.ref b_28), .val (.int (3 : Int32)), .val (.int (((((own_sb nn (16 : Int32)) &&& (255 : Int32)) <<< ((16 : Int32) &&& 31)) ||| (((own_sb nn (8 : Int32)) &&& (255 : Int32)) <<< ((8 : Int32) &&& 31))) ||| ((own_sb nn (0 : Int32)) &&& (255 : Int32)))), .val (.int (4 : Int32)), .val (.int (p3.toInt8.toInt32)), .unset, .unset]) rfl ?_
        show Steps p.tables e below (T28.setTop (mkF m 245 #[.val (.int p0), .val (.int p1), .val (.int p2), .val (.int p3), .val (.int p4), .val (.int p5), .val (.int nn), .val (.ref b14), .val (.int kk), .val (.int jj), .val (.ref b_28), .val (.int (3 : Int32)), .val (.int (((((own_sb nn (16 : Int32)) &&& (255 : Int32)) <<< ((16 : Int32) &&& 31)) ||| (((own_sb nn (8 : Int32)) &&& (255 : Int32)) <<< ((8 : Int32) &&& 31))) ||| ((own_sb nn (0 : Int32)) &&& (255 : Int32)))), .val (.int (4 : Int32)), .val (.int (p3.toInt8.toInt32)), .unset, .unset] [])) _
        refine XS.iload X28.here hx rfl (hb hby at_245) rfl ?_
        show Steps p.tables e below (T28.setTop (mkF m 247 #[.val (.int p0), .val (.int p1), .val (.int p2), .val (.int p3), .val (.int p4), .val (.int p5), .val (.int nn), .val (.ref b14), .val (.int kk), .val (.int jj), .val (.ref b_28), .val (.int (3 : Int32)), .val (.int (((((own_sb nn (16 : Int32)) &&& (255 : Int32)) <<< ((16 : Int32) &&& 31)) ||| (((own_sb nn (8 : Int32)) &&& (255 : Int32)) <<< ((8 : Int32) &&& 31))) ||| ((own_sb nn (0 : Int32)) &&& (255 : Int32)))), .val (.int (4 : Int32)), .val (.int (p3.toInt8.toInt32)), .unset, .unset] [(.int kk)])) _
        refine XS.iload X28.here hx rfl (hb hby at_247) rfl ?_
        show Steps p.tables e below (T28.setTop (mkF m 249 #[.val (.int p0), .val (.int p1), .val (.int p2), .val (.int p3), .val (.int p4), .val (.int p5), .val (.int nn), .val (.ref b14), .val (.int kk), .val (.int jj), .val (.ref b_28), .val (.int (3 : Int32)), .val (.int (((((own_sb nn (16 : Int32)) &&& (255 : Int32)) <<< ((16 : Int32) &&& 31)) ||| (((own_sb nn (8 : Int32)) &&& (255 : Int32)) <<< ((8 : Int32) &&& 31))) ||| ((own_sb nn (0 : Int32)) &&& (255 : Int32)))), .val (.int (4 : Int32)), .val (.int (p3.toInt8.toInt32)), .unset, .unset] [(.int nn), (.int kk)])) _
        refine XS.iconst X28.here hx rfl (hb hby at_249) ?_
        show Steps p.tables e below (T28.setTop (mkF m 250 #[.val (.int p0), .val (.int p1), .val (.int p2), .val (.int p3), .val (.int p4), .val (.int p5), .val (.int nn), .val (.ref b14), .val (.int kk), .val (.int jj), .val (.ref b_28), .val (.int (3 : Int32)), .val (.int (((((own_sb nn (16 : Int32)) &&& (255 : Int32)) <<< ((16 : Int32) &&& 31)) ||| (((own_sb nn (8 : Int32)) &&& (255 : Int32)) <<< ((8 : Int32) &&& 31))) ||| ((own_sb nn (0 : Int32)) &&& (255 : Int32)))), .val (.int (4 : Int32)), .val (.int (p3.toInt8.toInt32)), .unset, .unset] [(.int (1 : Int32)), (.int nn), (.int kk)])) _
        refine XS.isub X28.here hx rfl (hb hby at_250) rfl ?_
        exact k)
      obtain ⟨xl, hxl⟩ : ∃ z : Int32, z = (if kk = (nn - (1 : Int32)) then (p3.toInt8.toInt32) else (p4.toInt8.toInt32)) := ⟨_, rfl⟩
      have pre74 : ∀ t, Steps p.tables e below (T28.setTop (mkF m 262 #[.val (.int p0), .val (.int p1), .val (.int p2), .val (.int p3), .val (.int p4), .val (.int p5), .val (.int nn), .val (.ref b14), .val (.int kk), .val (.int jj), .val (.ref b_28), .val (.int (3 : Int32)), .val (.int (((((own_sb nn (16 : Int32)) &&& (255 : Int32)) <<< ((16 : Int32) &&& 31)) ||| (((own_sb nn (8 : Int32)) &&& (255 : Int32)) <<< ((8 : Int32) &&& 31))) ||| ((own_sb nn (0 : Int32)) &&& (255 : Int32)))), .val (.int (4 : Int32)), .val (.int (p3.toInt8.toInt32)), .unset, .unset] [(.int xl)])) t → Steps p.tables e below (s₁.setTop (entryFrame m #[(.int p0), (.int p1), (.int p2), (.int p3), (.int p4), (.int p5)] maxLocals)) t := fun t k => pre72 t (by
        by_cases hm73 : kk = (nn - (1 : Int32))
        · rw [show xl = (p3.toInt8.toInt32) from by rw [hxl, if_pos hm73]] at k
          refine XS.icmpNo X28.here hx rfl (hb hby at_251) rfl (teq hm73).2 ?_
          show Steps p.tables e below (T28.setTop (mkF m 254 #[.val (.int p0), .val (.int p1), .val (.int p2), .val (.int p3), .val (.int p4), .val (.int p5), .val (.int nn), .val (.ref b14), .val (.int kk), .val (.int jj), .val (.ref b_28), .val (.int (3 : Int32)), .val (.int (((((own_sb nn (16 : Int32)) &&& (255 : Int32)) <<< ((16 : Int32) &&& 31)) ||| (((own_sb nn (8 : Int32)) &&& (255 : Int32)) <<< ((8 : Int32) &&& 31))) ||| ((own_sb nn (0 : Int32)) &&& (255 : Int32)))), .val (.int (4 : Int32)), .val (.int (p3.toInt8.toInt32)), .unset, .unset] [])) _
          refine XS.iloadN X28.here hx rfl (hb hby at_254) rfl ?_
          show Steps p.tables e below (T28.setTop (mkF m 255 #[.val (.int p0), .val (.int p1), .val (.int p2), .val (.int p3), .val (.int p4), .val (.int p5), .val (.int nn), .val (.ref b14), .val (.int kk), .val (.int jj), .val (.ref b_28), .val (.int (3 : Int32)), .val (.int (((((own_sb nn (16 : Int32)) &&& (255 : Int32)) <<< ((16 : Int32) &&& 31)) ||| (((own_sb nn (8 : Int32)) &&& (255 : Int32)) <<< ((8 : Int32) &&& 31))) ||| ((own_sb nn (0 : Int32)) &&& (255 : Int32)))), .val (.int (4 : Int32)), .val (.int (p3.toInt8.toInt32)), .unset, .unset] [(.int p3)])) _
          refine XS.i2b X28.here hx rfl (hb hby at_255) rfl ?_
          show Steps p.tables e below (T28.setTop (mkF m 256 #[.val (.int p0), .val (.int p1), .val (.int p2), .val (.int p3), .val (.int p4), .val (.int p5), .val (.int nn), .val (.ref b14), .val (.int kk), .val (.int jj), .val (.ref b_28), .val (.int (3 : Int32)), .val (.int (((((own_sb nn (16 : Int32)) &&& (255 : Int32)) <<< ((16 : Int32) &&& 31)) ||| (((own_sb nn (8 : Int32)) &&& (255 : Int32)) <<< ((8 : Int32) &&& 31))) ||| ((own_sb nn (0 : Int32)) &&& (255 : Int32)))), .val (.int (4 : Int32)), .val (.int (p3.toInt8.toInt32)), .unset, .unset] [(.int (p3.toInt8.toInt32))])) _
          refine XS.goto X28.here hx rfl (pc0 := 256) (pc' := 262) rfl (hb hby at_256) (by decide) (by decide) ?_
          exact k
        · rw [show xl = (p4.toInt8.toInt32) from by rw [hxl, if_neg hm73]] at k
          refine XS.icmpYes X28.here hx rfl (pc0 := 251) (pc' := 259) rfl (hb hby at_251) rfl (feq hm73).2 (by decide) (by decide) ?_
          show Steps p.tables e below (T28.setTop (mkF m 259 #[.val (.int p0), .val (.int p1), .val (.int p2), .val (.int p3), .val (.int p4), .val (.int p5), .val (.int nn), .val (.ref b14), .val (.int kk), .val (.int jj), .val (.ref b_28), .val (.int (3 : Int32)), .val (.int (((((own_sb nn (16 : Int32)) &&& (255 : Int32)) <<< ((16 : Int32) &&& 31)) ||| (((own_sb nn (8 : Int32)) &&& (255 : Int32)) <<< ((8 : Int32) &&& 31))) ||| ((own_sb nn (0 : Int32)) &&& (255 : Int32)))), .val (.int (4 : Int32)), .val (.int (p3.toInt8.toInt32)), .unset, .unset] [])) _
          refine XS.iload X28.here hx rfl (hb hby at_259) rfl ?_
          show Steps p.tables e below (T28.setTop (mkF m 261 #[.val (.int p0), .val (.int p1), .val (.int p2), .val (.int p3), .val (.int p4), .val (.int p5), .val (.int nn), .val (.ref b14), .val (.int kk), .val (.int jj), .val (.ref b_28), .val (.int (3 : Int32)), .val (.int (((((own_sb nn (16 : Int32)) &&& (255 : Int32)) <<< ((16 : Int32) &&& 31)) ||| (((own_sb nn (8 : Int32)) &&& (255 : Int32)) <<< ((8 : Int32) &&& 31))) ||| ((own_sb nn (0 : Int32)) &&& (255 : Int32)))), .val (.int (4 : Int32)), .val (.int (p3.toInt8.toInt32)), .unset, .unset] [(.int p4)])) _
          refine XS.i2b X28.here hx rfl (hb hby at_261) rfl ?_
          exact k)
      have pre75 : ∀ t, Steps p.tables e below (T28.setTop (mkF m 268 #[.val (.int p0), .val (.int p1), .val (.int p2), .val (.int p3), .val (.int p4), .val (.int p5), .val (.int nn), .val (.ref b14), .val (.int kk), .val (.int jj), .val (.ref b_28), .val (.int (3 : Int32)), .val (.int (((((own_sb nn (16 : Int32)) &&& (255 : Int32)) <<< ((16 : Int32) &&& 31)) ||| (((own_sb nn (8 : Int32)) &&& (255 : Int32)) <<< ((8 : Int32) &&& 31))) ||| ((own_sb nn (0 : Int32)) &&& (255 : Int32)))), .val (.int (4 : Int32)), .val (.int (p3.toInt8.toInt32)), .val (.int xl), .unset] [(.int kk), (.int jj)])) t → Steps p.tables e below (s₁.setTop (entryFrame m #[(.int p0), (.int p1), (.int p2), (.int p3), (.int p4), (.int p5)] maxLocals)) t := fun t k => pre74 t (by
        refine XS.istore X28.here hx rfl (hb hby at_262) rfl (l' := #[.val (.int p0), .val (.int p1), .val (.int p2), .val (.int p3), .val (.int p4), .val (.int p5), .val (.int nn), .val (.ref b14), .val (.int kk), .val (.int jj), .val (.ref b_28), .val (.int (3 : Int32)), .val (.int (((((own_sb nn (16 : Int32)) &&& (255 : Int32)) <<< ((16 : Int32) &&& 31)) ||| (((own_sb nn (8 : Int32)) &&& (255 : Int32)) <<< ((8 : Int32) &&& 31))) ||| ((own_sb nn (0 : Int32)) &&& (255 : Int32)))), .val (.int (4 : Int32)), .val (.int (p3.toInt8.toInt32)), .val (.int xl), .unset]) rfl ?_
        show Steps p.tables e below (T28.setTop (mkF m 264 #[.val (.int p0), .val (.int p1), .val (.int p2), .val (.int p3), .val (.int p4), .val (.int p5), .val (.int nn), .val (.ref b14), .val (.int kk), .val (.int jj), .val (.ref b_28), .val (.int (3 : Int32)), .val (.int (((((own_sb nn (16 : Int32)) &&& (255 : Int32)) <<< ((16 : Int32) &&& 31)) ||| (((own_sb nn (8 : Int32)) &&& (255 : Int32)) <<< ((8 : Int32) &&& 31))) ||| ((own_sb nn (0 : Int32)) &&& (255 : Int32)))), .val (.int (4 : Int32)), .val (.int (p3.toInt8.toInt32)), .val (.int xl), .unset] [])) _
        refine XS.iload X28.here hx rfl (hb hby at_264) rfl ?_
        show Steps p.tables e below (T28.setTop (mkF m 266 #[.val (.int p0), .val (.int p1), .val (.int p2), .val (.int p3), .val (.int p4), .val (.int p5), .val (.int nn), .val (.ref b14), .val (.int kk), .val (.int jj), .val (.ref b_28), .val (.int (3 : Int32)), .val (.int (((((own_sb nn (16 : Int32)) &&& (255 : Int32)) <<< ((16 : Int32) &&& 31)) ||| (((own_sb nn (8 : Int32)) &&& (255 : Int32)) <<< ((8 : Int32) &&& 31))) ||| ((own_sb nn (0 : Int32)) &&& (255 : Int32)))), .val (.int (4 : Int32)), .val (.int (p3.toInt8.toInt32)), .val (.int xl), .unset] [(.int jj)])) _
        refine XS.iload X28.here hx rfl (hb hby at_266) rfl ?_
        exact k)
      obtain ⟨xj, hxj⟩ : ∃ z : Int32, z = (if jj = kk then (p3.toInt8.toInt32) else (if jj = (nn - (1 : Int32)) then (p4.toInt8.toInt32) else (0 : Int32))) := ⟨_, rfl⟩
      have pre78 : ∀ t, Steps p.tables e below (T28.setTop (mkF m 292 #[.val (.int p0), .val (.int p1), .val (.int p2), .val (.int p3), .val (.int p4), .val (.int p5), .val (.int nn), .val (.ref b14), .val (.int kk), .val (.int jj), .val (.ref b_28), .val (.int (3 : Int32)), .val (.int (((((own_sb nn (16 : Int32)) &&& (255 : Int32)) <<< ((16 : Int32) &&& 31)) ||| (((own_sb nn (8 : Int32)) &&& (255 : Int32)) <<< ((8 : Int32) &&& 31))) ||| ((own_sb nn (0 : Int32)) &&& (255 : Int32)))), .val (.int (4 : Int32)), .val (.int (p3.toInt8.toInt32)), .val (.int xl), .unset] [(.int xj)])) t → Steps p.tables e below (s₁.setTop (entryFrame m #[(.int p0), (.int p1), (.int p2), (.int p3), (.int p4), (.int p5)] maxLocals)) t := fun t k => pre75 t (by
        by_cases hm76 : jj = kk
        · rw [show xj = (p3.toInt8.toInt32) from by rw [hxj, if_pos hm76]] at k
          refine XS.icmpNo X28.here hx rfl (hb hby at_268) rfl (teq hm76).2 ?_
          show Steps p.tables e below (T28.setTop (mkF m 271 #[.val (.int p0), .val (.int p1), .val (.int p2), .val (.int p3), .val (.int p4), .val (.int p5), .val (.int nn), .val (.ref b14), .val (.int kk), .val (.int jj), .val (.ref b_28), .val (.int (3 : Int32)), .val (.int (((((own_sb nn (16 : Int32)) &&& (255 : Int32)) <<< ((16 : Int32) &&& 31)) ||| (((own_sb nn (8 : Int32)) &&& (255 : Int32)) <<< ((8 : Int32) &&& 31))) ||| ((own_sb nn (0 : Int32)) &&& (255 : Int32)))), .val (.int (4 : Int32)), .val (.int (p3.toInt8.toInt32)), .val (.int xl), .unset] [])) _
          refine XS.iloadN X28.here hx rfl (hb hby at_271) rfl ?_
          show Steps p.tables e below (T28.setTop (mkF m 272 #[.val (.int p0), .val (.int p1), .val (.int p2), .val (.int p3), .val (.int p4), .val (.int p5), .val (.int nn), .val (.ref b14), .val (.int kk), .val (.int jj), .val (.ref b_28), .val (.int (3 : Int32)), .val (.int (((((own_sb nn (16 : Int32)) &&& (255 : Int32)) <<< ((16 : Int32) &&& 31)) ||| (((own_sb nn (8 : Int32)) &&& (255 : Int32)) <<< ((8 : Int32) &&& 31))) ||| ((own_sb nn (0 : Int32)) &&& (255 : Int32)))), .val (.int (4 : Int32)), .val (.int (p3.toInt8.toInt32)), .val (.int xl), .unset] [(.int p3)])) _
          refine XS.i2b X28.here hx rfl (hb hby at_272) rfl ?_
          show Steps p.tables e below (T28.setTop (mkF m 273 #[.val (.int p0), .val (.int p1), .val (.int p2), .val (.int p3), .val (.int p4), .val (.int p5), .val (.int nn), .val (.ref b14), .val (.int kk), .val (.int jj), .val (.ref b_28), .val (.int (3 : Int32)), .val (.int (((((own_sb nn (16 : Int32)) &&& (255 : Int32)) <<< ((16 : Int32) &&& 31)) ||| (((own_sb nn (8 : Int32)) &&& (255 : Int32)) <<< ((8 : Int32) &&& 31))) ||| ((own_sb nn (0 : Int32)) &&& (255 : Int32)))), .val (.int (4 : Int32)), .val (.int (p3.toInt8.toInt32)), .val (.int xl), .unset] [(.int (p3.toInt8.toInt32))])) _
          refine XS.goto X28.here hx rfl (pc0 := 273) (pc' := 292) rfl (hb hby at_273) (by decide) (by decide) ?_
          exact k
        · refine XS.icmpYes X28.here hx rfl (pc0 := 268) (pc' := 276) rfl (hb hby at_268) rfl (feq hm76).2 (by decide) (by decide) ?_
          show Steps p.tables e below (T28.setTop (mkF m 276 #[.val (.int p0), .val (.int p1), .val (.int p2), .val (.int p3), .val (.int p4), .val (.int p5), .val (.int nn), .val (.ref b14), .val (.int kk), .val (.int jj), .val (.ref b_28), .val (.int (3 : Int32)), .val (.int (((((own_sb nn (16 : Int32)) &&& (255 : Int32)) <<< ((16 : Int32) &&& 31)) ||| (((own_sb nn (8 : Int32)) &&& (255 : Int32)) <<< ((8 : Int32) &&& 31))) ||| ((own_sb nn (0 : Int32)) &&& (255 : Int32)))), .val (.int (4 : Int32)), .val (.int (p3.toInt8.toInt32)), .val (.int xl), .unset] [])) _
          refine XS.iload X28.here hx rfl (hb hby at_276) rfl ?_
          show Steps p.tables e below (T28.setTop (mkF m 278 #[.val (.int p0), .val (.int p1), .val (.int p2), .val (.int p3), .val (.int p4), .val (.int p5), .val (.int nn), .val (.ref b14), .val (.int kk), .val (.int jj), .val (.ref b_28), .val (.int (3 : Int32)), .val (.int (((((own_sb nn (16 : Int32)) &&& (255 : Int32)) <<< ((16 : Int32) &&& 31)) ||| (((own_sb nn (8 : Int32)) &&& (255 : Int32)) <<< ((8 : Int32) &&& 31))) ||| ((own_sb nn (0 : Int32)) &&& (255 : Int32)))), .val (.int (4 : Int32)), .val (.int (p3.toInt8.toInt32)), .val (.int xl), .unset] [(.int jj)])) _
          refine XS.iload X28.here hx rfl (hb hby at_278) rfl ?_
          show Steps p.tables e below (T28.setTop (mkF m 280 #[.val (.int p0), .val (.int p1), .val (.int p2), .val (.int p3), .val (.int p4), .val (.int p5), .val (.int nn), .val (.ref b14), .val (.int kk), .val (.int jj), .val (.ref b_28), .val (.int (3 : Int32)), .val (.int (((((own_sb nn (16 : Int32)) &&& (255 : Int32)) <<< ((16 : Int32) &&& 31)) ||| (((own_sb nn (8 : Int32)) &&& (255 : Int32)) <<< ((8 : Int32) &&& 31))) ||| ((own_sb nn (0 : Int32)) &&& (255 : Int32)))), .val (.int (4 : Int32)), .val (.int (p3.toInt8.toInt32)), .val (.int xl), .unset] [(.int nn), (.int jj)])) _
          refine XS.iconst X28.here hx rfl (hb hby at_280) ?_
          show Steps p.tables e below (T28.setTop (mkF m 281 #[.val (.int p0), .val (.int p1), .val (.int p2), .val (.int p3), .val (.int p4), .val (.int p5), .val (.int nn), .val (.ref b14), .val (.int kk), .val (.int jj), .val (.ref b_28), .val (.int (3 : Int32)), .val (.int (((((own_sb nn (16 : Int32)) &&& (255 : Int32)) <<< ((16 : Int32) &&& 31)) ||| (((own_sb nn (8 : Int32)) &&& (255 : Int32)) <<< ((8 : Int32) &&& 31))) ||| ((own_sb nn (0 : Int32)) &&& (255 : Int32)))), .val (.int (4 : Int32)), .val (.int (p3.toInt8.toInt32)), .val (.int xl), .unset] [(.int (1 : Int32)), (.int nn), (.int jj)])) _
          refine XS.isub X28.here hx rfl (hb hby at_281) rfl ?_
          show Steps p.tables e below (T28.setTop (mkF m 282 #[.val (.int p0), .val (.int p1), .val (.int p2), .val (.int p3), .val (.int p4), .val (.int p5), .val (.int nn), .val (.ref b14), .val (.int kk), .val (.int jj), .val (.ref b_28), .val (.int (3 : Int32)), .val (.int (((((own_sb nn (16 : Int32)) &&& (255 : Int32)) <<< ((16 : Int32) &&& 31)) ||| (((own_sb nn (8 : Int32)) &&& (255 : Int32)) <<< ((8 : Int32) &&& 31))) ||| ((own_sb nn (0 : Int32)) &&& (255 : Int32)))), .val (.int (4 : Int32)), .val (.int (p3.toInt8.toInt32)), .val (.int xl), .unset] [(.int (nn - (1 : Int32))), (.int jj)])) _
          by_cases hm77 : jj = (nn - (1 : Int32))
          · rw [show xj = (p4.toInt8.toInt32) from by rw [hxj, if_neg hm76, if_pos hm77]] at k
            refine XS.icmpNo X28.here hx rfl (hb hby at_282) rfl (teq hm77).2 ?_
            show Steps p.tables e below (T28.setTop (mkF m 285 #[.val (.int p0), .val (.int p1), .val (.int p2), .val (.int p3), .val (.int p4), .val (.int p5), .val (.int nn), .val (.ref b14), .val (.int kk), .val (.int jj), .val (.ref b_28), .val (.int (3 : Int32)), .val (.int (((((own_sb nn (16 : Int32)) &&& (255 : Int32)) <<< ((16 : Int32) &&& 31)) ||| (((own_sb nn (8 : Int32)) &&& (255 : Int32)) <<< ((8 : Int32) &&& 31))) ||| ((own_sb nn (0 : Int32)) &&& (255 : Int32)))), .val (.int (4 : Int32)), .val (.int (p3.toInt8.toInt32)), .val (.int xl), .unset] [])) _
            refine XS.iload X28.here hx rfl (hb hby at_285) rfl ?_
            show Steps p.tables e below (T28.setTop (mkF m 287 #[.val (.int p0), .val (.int p1), .val (.int p2), .val (.int p3), .val (.int p4), .val (.int p5), .val (.int nn), .val (.ref b14), .val (.int kk), .val (.int jj), .val (.ref b_28), .val (.int (3 : Int32)), .val (.int (((((own_sb nn (16 : Int32)) &&& (255 : Int32)) <<< ((16 : Int32) &&& 31)) ||| (((own_sb nn (8 : Int32)) &&& (255 : Int32)) <<< ((8 : Int32) &&& 31))) ||| ((own_sb nn (0 : Int32)) &&& (255 : Int32)))), .val (.int (4 : Int32)), .val (.int (p3.toInt8.toInt32)), .val (.int xl), .unset] [(.int p4)])) _
            refine XS.i2b X28.here hx rfl (hb hby at_287) rfl ?_
            show Steps p.tables e below (T28.setTop (mkF m 288 #[.val (.int p0), .val (.int p1), .val (.int p2), .val (.int p3), .val (.int p4), .val (.int p5), .val (.int nn), .val (.ref b14), .val (.int kk), .val (.int jj), .val (.ref b_28), .val (.int (3 : Int32)), .val (.int (((((own_sb nn (16 : Int32)) &&& (255 : Int32)) <<< ((16 : Int32) &&& 31)) ||| (((own_sb nn (8 : Int32)) &&& (255 : Int32)) <<< ((8 : Int32) &&& 31))) ||| ((own_sb nn (0 : Int32)) &&& (255 : Int32)))), .val (.int (4 : Int32)), .val (.int (p3.toInt8.toInt32)), .val (.int xl), .unset] [(.int (p4.toInt8.toInt32))])) _
            refine XS.goto X28.here hx rfl (pc0 := 288) (pc' := 292) rfl (hb hby at_288) (by decide) (by decide) ?_
            exact k
          · rw [show xj = (0 : Int32) from by rw [hxj, if_neg hm76, if_neg hm77]] at k
            refine XS.icmpYes X28.here hx rfl (pc0 := 282) (pc' := 291) rfl (hb hby at_282) rfl (feq hm77).2 (by decide) (by decide) ?_
            show Steps p.tables e below (T28.setTop (mkF m 291 #[.val (.int p0), .val (.int p1), .val (.int p2), .val (.int p3), .val (.int p4), .val (.int p5), .val (.int nn), .val (.ref b14), .val (.int kk), .val (.int jj), .val (.ref b_28), .val (.int (3 : Int32)), .val (.int (((((own_sb nn (16 : Int32)) &&& (255 : Int32)) <<< ((16 : Int32) &&& 31)) ||| (((own_sb nn (8 : Int32)) &&& (255 : Int32)) <<< ((8 : Int32) &&& 31))) ||| ((own_sb nn (0 : Int32)) &&& (255 : Int32)))), .val (.int (4 : Int32)), .val (.int (p3.toInt8.toInt32)), .val (.int xl), .unset] [])) _
            refine XS.iconst X28.here hx rfl (hb hby at_291) ?_
            exact k)
      obtain ⟨cl79, Ar79, S79, M79, I79⟩ := id u28_2
      have hin79 : ¬ (((4 : Int32) + kk) < 0 ∨ cl79.slots.size ≤ (((4 : Int32) + kk)).toNatClampNeg) := inb_of S79 (own_ik (by decide : 1 ≤ (4 : Int32).toInt ∧ (4 : Int32).toInt ≤ 4) Bn Bkk).1
      have hat79 : cl79.slots[(((4 : Int32) + kk)).toNatClampNeg]? = some (.int (g_28 (((4 : Int32) + kk)).toNatClampNeg)) := I79 _ (Nat.lt_of_not_le fun y => hin79 (Or.inr y))
      rw [show (g_28 (((4 : Int32) + kk)).toNatClampNeg) = (p3.toInt8.toInt32) from ((own_rd (by decide : 1 ≤ (4 : Int32).toInt ∧ (4 : Int32).toInt ≤ 4) Bn Bkk hL u28_5).trans (own_fk hfx))] at hat79
      obtain ⟨cl80, Ar80, S80, M80, I80⟩ := id u28_2
      have hin80 : ¬ ((((4 : Int32) + nn) - (1 : Int32)) < 0 ∨ cl80.slots.size ≤ ((((4 : Int32) + nn) - (1 : Int32))).toNatClampNeg) := inb_of S80 (by rw [own_as]; exact (own_ik (by decide : 1 ≤ (4 : Int32).toInt ∧ (4 : Int32).toInt ≤ 4) Bn B1).1)
      have hat80 : cl80.slots[((((4 : Int32) + nn) - (1 : Int32))).toNatClampNeg]? = some (.int (g_28 ((((4 : Int32) + nn) - (1 : Int32))).toNatClampNeg)) := I80 _ (Nat.lt_of_not_le fun y => hin80 (Or.inr y))
      rw [show (g_28 ((((4 : Int32) + nn) - (1 : Int32))).toNatClampNeg) = xl from (by rw [own_as]; exact (own_rd (by decide : 1 ≤ (4 : Int32).toInt ∧ (4 : Int32).toInt ≤ 4) Bn B1 hL u28_5).trans (own_fl hfx Bkk B1 hxl))] at hat80
      obtain ⟨cl81, Ar81, S81, M81, I81⟩ := id u28_2
      have hin81 : ¬ (((4 : Int32) + jj) < 0 ∨ cl81.slots.size ≤ (((4 : Int32) + jj)).toNatClampNeg) := inb_of S81 (own_ik (by decide : 1 ≤ (4 : Int32).toInt ∧ (4 : Int32).toInt ≤ 4) Bn Bjj).1
      have hat81 : cl81.slots[(((4 : Int32) + jj)).toNatClampNeg]? = some (.int (g_28 (((4 : Int32) + jj)).toNatClampNeg)) := I81 _ (Nat.lt_of_not_le fun y => hin81 (Or.inr y))
      rw [show (g_28 (((4 : Int32) + jj)).toNatClampNeg) = xj from ((own_rd (by decide : 1 ≤ (4 : Int32).toInt ∧ (4 : Int32).toInt ≤ 4) Bn Bjj hL u28_5).trans (own_fj hfx Bkk B1 Bjj hxj))] at hat81
      obtain ⟨fs, hr, hrun, hended, hW, hsame⟩ := X28.leave (v := some (.int (1 : Int32))) (fun h => by rw [Bd.returns] at h; cases h)
      refine ⟨_, _, pre78 _ ?_, hrun, hended, _, _, rfl, ?_, ⟨_, rfl⟩, hW, hsame.mono (by decide) (by decide)⟩
      · refine XS.istore X28.here hx rfl (hb hby at_292) rfl (l' := #[.val (.int p0), .val (.int p1), .val (.int p2), .val (.int p3), .val (.int p4), .val (.int p5), .val (.int nn), .val (.ref b14), .val (.int kk), .val (.int jj), .val (.ref b_28), .val (.int (3 : Int32)), .val (.int (((((own_sb nn (16 : Int32)) &&& (255 : Int32)) <<< ((16 : Int32) &&& 31)) ||| (((own_sb nn (8 : Int32)) &&& (255 : Int32)) <<< ((8 : Int32) &&& 31))) ||| ((own_sb nn (0 : Int32)) &&& (255 : Int32)))), .val (.int (4 : Int32)), .val (.int (p3.toInt8.toInt32)), .val (.int xl), .val (.int xj)]) rfl ?_
        show Steps p.tables e below (T28.setTop (mkF m 294 #[.val (.int p0), .val (.int p1), .val (.int p2), .val (.int p3), .val (.int p4), .val (.int p5), .val (.int nn), .val (.ref b14), .val (.int kk), .val (.int jj), .val (.ref b_28), .val (.int (3 : Int32)), .val (.int (((((own_sb nn (16 : Int32)) &&& (255 : Int32)) <<< ((16 : Int32) &&& 31)) ||| (((own_sb nn (8 : Int32)) &&& (255 : Int32)) <<< ((8 : Int32) &&& 31))) ||| ((own_sb nn (0 : Int32)) &&& (255 : Int32)))), .val (.int (4 : Int32)), .val (.int (p3.toInt8.toInt32)), .val (.int xl), .val (.int xj)] [])) _
        refine XS.aload X28.here hx rfl (hb hby at_294) rfl rfl ?_
        show Steps p.tables e below (T28.setTop (mkF m 296 #[.val (.int p0), .val (.int p1), .val (.int p2), .val (.int p3), .val (.int p4), .val (.int p5), .val (.int nn), .val (.ref b14), .val (.int kk), .val (.int jj), .val (.ref b_28), .val (.int (3 : Int32)), .val (.int (((((own_sb nn (16 : Int32)) &&& (255 : Int32)) <<< ((16 : Int32) &&& 31)) ||| (((own_sb nn (8 : Int32)) &&& (255 : Int32)) <<< ((8 : Int32) &&& 31))) ||| ((own_sb nn (0 : Int32)) &&& (255 : Int32)))), .val (.int (4 : Int32)), .val (.int (p3.toInt8.toInt32)), .val (.int xl), .val (.int xj)] [(.ref b_28)])) _
        refine XS.iload X28.here hx rfl (hb hby at_296) rfl ?_
        show Steps p.tables e below (T28.setTop (mkF m 298 #[.val (.int p0), .val (.int p1), .val (.int p2), .val (.int p3), .val (.int p4), .val (.int p5), .val (.int nn), .val (.ref b14), .val (.int kk), .val (.int jj), .val (.ref b_28), .val (.int (3 : Int32)), .val (.int (((((own_sb nn (16 : Int32)) &&& (255 : Int32)) <<< ((16 : Int32) &&& 31)) ||| (((own_sb nn (8 : Int32)) &&& (255 : Int32)) <<< ((8 : Int32) &&& 31))) ||| ((own_sb nn (0 : Int32)) &&& (255 : Int32)))), .val (.int (4 : Int32)), .val (.int (p3.toInt8.toInt32)), .val (.int xl), .val (.int xj)] [(.int (4 : Int32)), (.ref b_28)])) _
        refine XS.iload X28.here hx rfl (hb hby at_298) rfl ?_
        show Steps p.tables e below (T28.setTop (mkF m 300 #[.val (.int p0), .val (.int p1), .val (.int p2), .val (.int p3), .val (.int p4), .val (.int p5), .val (.int nn), .val (.ref b14), .val (.int kk), .val (.int jj), .val (.ref b_28), .val (.int (3 : Int32)), .val (.int (((((own_sb nn (16 : Int32)) &&& (255 : Int32)) <<< ((16 : Int32) &&& 31)) ||| (((own_sb nn (8 : Int32)) &&& (255 : Int32)) <<< ((8 : Int32) &&& 31))) ||| ((own_sb nn (0 : Int32)) &&& (255 : Int32)))), .val (.int (4 : Int32)), .val (.int (p3.toInt8.toInt32)), .val (.int xl), .val (.int xj)] [(.int kk), (.int (4 : Int32)), (.ref b_28)])) _
        refine XS.iadd X28.here hx rfl (hb hby at_300) rfl ?_
        show Steps p.tables e below (T28.setTop (mkF m 301 #[.val (.int p0), .val (.int p1), .val (.int p2), .val (.int p3), .val (.int p4), .val (.int p5), .val (.int nn), .val (.ref b14), .val (.int kk), .val (.int jj), .val (.ref b_28), .val (.int (3 : Int32)), .val (.int (((((own_sb nn (16 : Int32)) &&& (255 : Int32)) <<< ((16 : Int32) &&& 31)) ||| (((own_sb nn (8 : Int32)) &&& (255 : Int32)) <<< ((8 : Int32) &&& 31))) ||| ((own_sb nn (0 : Int32)) &&& (255 : Int32)))), .val (.int (4 : Int32)), .val (.int (p3.toInt8.toInt32)), .val (.int xl), .val (.int xj)] [(.int ((4 : Int32) + kk)), (.ref b_28)])) _
        refine X28.baloadBytes hx (j := ((4 : Int32) + kk)) (v := (.int (p3.toInt8.toInt32))) (id Ar79.1) (State.isArrayOf_alike hZ.alike Ar79.2.1) Ar79.2.2 hin79 hat79 (g := (mkF m 301 #[.val (.int p0), .val (.int p1), .val (.int p2), .val (.int p3), .val (.int p4), .val (.int p5), .val (.int nn), .val (.ref b14), .val (.int kk), .val (.int jj), .val (.ref b_28), .val (.int (3 : Int32)), .val (.int (((((own_sb nn (16 : Int32)) &&& (255 : Int32)) <<< ((16 : Int32) &&& 31)) ||| (((own_sb nn (8 : Int32)) &&& (255 : Int32)) <<< ((8 : Int32) &&& 31))) ||| ((own_sb nn (0 : Int32)) &&& (255 : Int32)))), .val (.int (4 : Int32)), .val (.int (p3.toInt8.toInt32)), .val (.int xl), .val (.int xj)] [(.int ((4 : Int32) + kk)), (.ref b_28)])) rfl rfl (hb hby at_301) _ ?_
        show Steps p.tables e below (T28.setTop (mkF m 302 #[.val (.int p0), .val (.int p1), .val (.int p2), .val (.int p3), .val (.int p4), .val (.int p5), .val (.int nn), .val (.ref b14), .val (.int kk), .val (.int jj), .val (.ref b_28), .val (.int (3 : Int32)), .val (.int (((((own_sb nn (16 : Int32)) &&& (255 : Int32)) <<< ((16 : Int32) &&& 31)) ||| (((own_sb nn (8 : Int32)) &&& (255 : Int32)) <<< ((8 : Int32) &&& 31))) ||| ((own_sb nn (0 : Int32)) &&& (255 : Int32)))), .val (.int (4 : Int32)), .val (.int (p3.toInt8.toInt32)), .val (.int xl), .val (.int xj)] [(.int (p3.toInt8.toInt32))])) _
        refine XS.iload X28.here hx rfl (hb hby at_302) rfl ?_
        show Steps p.tables e below (T28.setTop (mkF m 304 #[.val (.int p0), .val (.int p1), .val (.int p2), .val (.int p3), .val (.int p4), .val (.int p5), .val (.int nn), .val (.ref b14), .val (.int kk), .val (.int jj), .val (.ref b_28), .val (.int (3 : Int32)), .val (.int (((((own_sb nn (16 : Int32)) &&& (255 : Int32)) <<< ((16 : Int32) &&& 31)) ||| (((own_sb nn (8 : Int32)) &&& (255 : Int32)) <<< ((8 : Int32) &&& 31))) ||| ((own_sb nn (0 : Int32)) &&& (255 : Int32)))), .val (.int (4 : Int32)), .val (.int (p3.toInt8.toInt32)), .val (.int xl), .val (.int xj)] [(.int (p3.toInt8.toInt32)), (.int (p3.toInt8.toInt32))])) _
        refine XS.icmpNo X28.here hx rfl (hb hby at_304) rfl (teq (rfl : (p3.toInt8.toInt32) = (p3.toInt8.toInt32))).2 ?_
        show Steps p.tables e below (T28.setTop (mkF m 307 #[.val (.int p0), .val (.int p1), .val (.int p2), .val (.int p3), .val (.int p4), .val (.int p5), .val (.int nn), .val (.ref b14), .val (.int kk), .val (.int jj), .val (.ref b_28), .val (.int (3 : Int32)), .val (.int (((((own_sb nn (16 : Int32)) &&& (255 : Int32)) <<< ((16 : Int32) &&& 31)) ||| (((own_sb nn (8 : Int32)) &&& (255 : Int32)) <<< ((8 : Int32) &&& 31))) ||| ((own_sb nn (0 : Int32)) &&& (255 : Int32)))), .val (.int (4 : Int32)), .val (.int (p3.toInt8.toInt32)), .val (.int xl), .val (.int xj)] [])) _
        refine XS.aload X28.here hx rfl (hb hby at_307) rfl rfl ?_
        show Steps p.tables e below (T28.setTop (mkF m 309 #[.val (.int p0), .val (.int p1), .val (.int p2), .val (.int p3), .val (.int p4), .val (.int p5), .val (.int nn), .val (.ref b14), .val (.int kk), .val (.int jj), .val (.ref b_28), .val (.int (3 : Int32)), .val (.int (((((own_sb nn (16 : Int32)) &&& (255 : Int32)) <<< ((16 : Int32) &&& 31)) ||| (((own_sb nn (8 : Int32)) &&& (255 : Int32)) <<< ((8 : Int32) &&& 31))) ||| ((own_sb nn (0 : Int32)) &&& (255 : Int32)))), .val (.int (4 : Int32)), .val (.int (p3.toInt8.toInt32)), .val (.int xl), .val (.int xj)] [(.ref b_28)])) _
        refine XS.iload X28.here hx rfl (hb hby at_309) rfl ?_
        show Steps p.tables e below (T28.setTop (mkF m 311 #[.val (.int p0), .val (.int p1), .val (.int p2), .val (.int p3), .val (.int p4), .val (.int p5), .val (.int nn), .val (.ref b14), .val (.int kk), .val (.int jj), .val (.ref b_28), .val (.int (3 : Int32)), .val (.int (((((own_sb nn (16 : Int32)) &&& (255 : Int32)) <<< ((16 : Int32) &&& 31)) ||| (((own_sb nn (8 : Int32)) &&& (255 : Int32)) <<< ((8 : Int32) &&& 31))) ||| ((own_sb nn (0 : Int32)) &&& (255 : Int32)))), .val (.int (4 : Int32)), .val (.int (p3.toInt8.toInt32)), .val (.int xl), .val (.int xj)] [(.int (4 : Int32)), (.ref b_28)])) _
        refine XS.iload X28.here hx rfl (hb hby at_311) rfl ?_
        show Steps p.tables e below (T28.setTop (mkF m 313 #[.val (.int p0), .val (.int p1), .val (.int p2), .val (.int p3), .val (.int p4), .val (.int p5), .val (.int nn), .val (.ref b14), .val (.int kk), .val (.int jj), .val (.ref b_28), .val (.int (3 : Int32)), .val (.int (((((own_sb nn (16 : Int32)) &&& (255 : Int32)) <<< ((16 : Int32) &&& 31)) ||| (((own_sb nn (8 : Int32)) &&& (255 : Int32)) <<< ((8 : Int32) &&& 31))) ||| ((own_sb nn (0 : Int32)) &&& (255 : Int32)))), .val (.int (4 : Int32)), .val (.int (p3.toInt8.toInt32)), .val (.int xl), .val (.int xj)] [(.int nn), (.int (4 : Int32)), (.ref b_28)])) _
        refine XS.iadd X28.here hx rfl (hb hby at_313) rfl ?_
        show Steps p.tables e below (T28.setTop (mkF m 314 #[.val (.int p0), .val (.int p1), .val (.int p2), .val (.int p3), .val (.int p4), .val (.int p5), .val (.int nn), .val (.ref b14), .val (.int kk), .val (.int jj), .val (.ref b_28), .val (.int (3 : Int32)), .val (.int (((((own_sb nn (16 : Int32)) &&& (255 : Int32)) <<< ((16 : Int32) &&& 31)) ||| (((own_sb nn (8 : Int32)) &&& (255 : Int32)) <<< ((8 : Int32) &&& 31))) ||| ((own_sb nn (0 : Int32)) &&& (255 : Int32)))), .val (.int (4 : Int32)), .val (.int (p3.toInt8.toInt32)), .val (.int xl), .val (.int xj)] [(.int ((4 : Int32) + nn)), (.ref b_28)])) _
        refine XS.iconst X28.here hx rfl (hb hby at_314) ?_
        show Steps p.tables e below (T28.setTop (mkF m 315 #[.val (.int p0), .val (.int p1), .val (.int p2), .val (.int p3), .val (.int p4), .val (.int p5), .val (.int nn), .val (.ref b14), .val (.int kk), .val (.int jj), .val (.ref b_28), .val (.int (3 : Int32)), .val (.int (((((own_sb nn (16 : Int32)) &&& (255 : Int32)) <<< ((16 : Int32) &&& 31)) ||| (((own_sb nn (8 : Int32)) &&& (255 : Int32)) <<< ((8 : Int32) &&& 31))) ||| ((own_sb nn (0 : Int32)) &&& (255 : Int32)))), .val (.int (4 : Int32)), .val (.int (p3.toInt8.toInt32)), .val (.int xl), .val (.int xj)] [(.int (1 : Int32)), (.int ((4 : Int32) + nn)), (.ref b_28)])) _
        refine XS.isub X28.here hx rfl (hb hby at_315) rfl ?_
        show Steps p.tables e below (T28.setTop (mkF m 316 #[.val (.int p0), .val (.int p1), .val (.int p2), .val (.int p3), .val (.int p4), .val (.int p5), .val (.int nn), .val (.ref b14), .val (.int kk), .val (.int jj), .val (.ref b_28), .val (.int (3 : Int32)), .val (.int (((((own_sb nn (16 : Int32)) &&& (255 : Int32)) <<< ((16 : Int32) &&& 31)) ||| (((own_sb nn (8 : Int32)) &&& (255 : Int32)) <<< ((8 : Int32) &&& 31))) ||| ((own_sb nn (0 : Int32)) &&& (255 : Int32)))), .val (.int (4 : Int32)), .val (.int (p3.toInt8.toInt32)), .val (.int xl), .val (.int xj)] [(.int (((4 : Int32) + nn) - (1 : Int32))), (.ref b_28)])) _
        refine X28.baloadBytes hx (j := (((4 : Int32) + nn) - (1 : Int32))) (v := (.int xl)) (id Ar80.1) (State.isArrayOf_alike hZ.alike Ar80.2.1) Ar80.2.2 hin80 hat80 (g := (mkF m 316 #[.val (.int p0), .val (.int p1), .val (.int p2), .val (.int p3), .val (.int p4), .val (.int p5), .val (.int nn), .val (.ref b14), .val (.int kk), .val (.int jj), .val (.ref b_28), .val (.int (3 : Int32)), .val (.int (((((own_sb nn (16 : Int32)) &&& (255 : Int32)) <<< ((16 : Int32) &&& 31)) ||| (((own_sb nn (8 : Int32)) &&& (255 : Int32)) <<< ((8 : Int32) &&& 31))) ||| ((own_sb nn (0 : Int32)) &&& (255 : Int32)))), .val (.int (4 : Int32)), .val (.int (p3.toInt8.toInt32)), .val (.int xl), .val (.int xj)] [(.int (((4 : Int32) + nn) - (1 : Int32))), (.ref b_28)])) rfl rfl (hb hby at_316) _ ?_
        show Steps p.tables e below (T28.setTop (mkF m 317 #[.val (.int p0), .val (.int p1), .val (.int p2), .val (.int p3), .val (.int p4), .val (.int p5), .val (.int nn), .val (.ref b14), .val (.int kk), .val (.int jj), .val (.ref b_28), .val (.int (3 : Int32)), .val (.int (((((own_sb nn (16 : Int32)) &&& (255 : Int32)) <<< ((16 : Int32) &&& 31)) ||| (((own_sb nn (8 : Int32)) &&& (255 : Int32)) <<< ((8 : Int32) &&& 31))) ||| ((own_sb nn (0 : Int32)) &&& (255 : Int32)))), .val (.int (4 : Int32)), .val (.int (p3.toInt8.toInt32)), .val (.int xl), .val (.int xj)] [(.int xl)])) _
        refine XS.iload X28.here hx rfl (hb hby at_317) rfl ?_
        show Steps p.tables e below (T28.setTop (mkF m 319 #[.val (.int p0), .val (.int p1), .val (.int p2), .val (.int p3), .val (.int p4), .val (.int p5), .val (.int nn), .val (.ref b14), .val (.int kk), .val (.int jj), .val (.ref b_28), .val (.int (3 : Int32)), .val (.int (((((own_sb nn (16 : Int32)) &&& (255 : Int32)) <<< ((16 : Int32) &&& 31)) ||| (((own_sb nn (8 : Int32)) &&& (255 : Int32)) <<< ((8 : Int32) &&& 31))) ||| ((own_sb nn (0 : Int32)) &&& (255 : Int32)))), .val (.int (4 : Int32)), .val (.int (p3.toInt8.toInt32)), .val (.int xl), .val (.int xj)] [(.int xl), (.int xl)])) _
        refine XS.icmpNo X28.here hx rfl (hb hby at_319) rfl (teq (rfl : xl = xl)).2 ?_
        show Steps p.tables e below (T28.setTop (mkF m 322 #[.val (.int p0), .val (.int p1), .val (.int p2), .val (.int p3), .val (.int p4), .val (.int p5), .val (.int nn), .val (.ref b14), .val (.int kk), .val (.int jj), .val (.ref b_28), .val (.int (3 : Int32)), .val (.int (((((own_sb nn (16 : Int32)) &&& (255 : Int32)) <<< ((16 : Int32) &&& 31)) ||| (((own_sb nn (8 : Int32)) &&& (255 : Int32)) <<< ((8 : Int32) &&& 31))) ||| ((own_sb nn (0 : Int32)) &&& (255 : Int32)))), .val (.int (4 : Int32)), .val (.int (p3.toInt8.toInt32)), .val (.int xl), .val (.int xj)] [])) _
        refine XS.aload X28.here hx rfl (hb hby at_322) rfl rfl ?_
        show Steps p.tables e below (T28.setTop (mkF m 324 #[.val (.int p0), .val (.int p1), .val (.int p2), .val (.int p3), .val (.int p4), .val (.int p5), .val (.int nn), .val (.ref b14), .val (.int kk), .val (.int jj), .val (.ref b_28), .val (.int (3 : Int32)), .val (.int (((((own_sb nn (16 : Int32)) &&& (255 : Int32)) <<< ((16 : Int32) &&& 31)) ||| (((own_sb nn (8 : Int32)) &&& (255 : Int32)) <<< ((8 : Int32) &&& 31))) ||| ((own_sb nn (0 : Int32)) &&& (255 : Int32)))), .val (.int (4 : Int32)), .val (.int (p3.toInt8.toInt32)), .val (.int xl), .val (.int xj)] [(.ref b_28)])) _
        refine XS.iload X28.here hx rfl (hb hby at_324) rfl ?_
        show Steps p.tables e below (T28.setTop (mkF m 326 #[.val (.int p0), .val (.int p1), .val (.int p2), .val (.int p3), .val (.int p4), .val (.int p5), .val (.int nn), .val (.ref b14), .val (.int kk), .val (.int jj), .val (.ref b_28), .val (.int (3 : Int32)), .val (.int (((((own_sb nn (16 : Int32)) &&& (255 : Int32)) <<< ((16 : Int32) &&& 31)) ||| (((own_sb nn (8 : Int32)) &&& (255 : Int32)) <<< ((8 : Int32) &&& 31))) ||| ((own_sb nn (0 : Int32)) &&& (255 : Int32)))), .val (.int (4 : Int32)), .val (.int (p3.toInt8.toInt32)), .val (.int xl), .val (.int xj)] [(.int (4 : Int32)), (.ref b_28)])) _
        refine XS.iload X28.here hx rfl (hb hby at_326) rfl ?_
        show Steps p.tables e below (T28.setTop (mkF m 328 #[.val (.int p0), .val (.int p1), .val (.int p2), .val (.int p3), .val (.int p4), .val (.int p5), .val (.int nn), .val (.ref b14), .val (.int kk), .val (.int jj), .val (.ref b_28), .val (.int (3 : Int32)), .val (.int (((((own_sb nn (16 : Int32)) &&& (255 : Int32)) <<< ((16 : Int32) &&& 31)) ||| (((own_sb nn (8 : Int32)) &&& (255 : Int32)) <<< ((8 : Int32) &&& 31))) ||| ((own_sb nn (0 : Int32)) &&& (255 : Int32)))), .val (.int (4 : Int32)), .val (.int (p3.toInt8.toInt32)), .val (.int xl), .val (.int xj)] [(.int jj), (.int (4 : Int32)), (.ref b_28)])) _
        refine XS.iadd X28.here hx rfl (hb hby at_328) rfl ?_
        show Steps p.tables e below (T28.setTop (mkF m 329 #[.val (.int p0), .val (.int p1), .val (.int p2), .val (.int p3), .val (.int p4), .val (.int p5), .val (.int nn), .val (.ref b14), .val (.int kk), .val (.int jj), .val (.ref b_28), .val (.int (3 : Int32)), .val (.int (((((own_sb nn (16 : Int32)) &&& (255 : Int32)) <<< ((16 : Int32) &&& 31)) ||| (((own_sb nn (8 : Int32)) &&& (255 : Int32)) <<< ((8 : Int32) &&& 31))) ||| ((own_sb nn (0 : Int32)) &&& (255 : Int32)))), .val (.int (4 : Int32)), .val (.int (p3.toInt8.toInt32)), .val (.int xl), .val (.int xj)] [(.int ((4 : Int32) + jj)), (.ref b_28)])) _
        refine X28.baloadBytes hx (j := ((4 : Int32) + jj)) (v := (.int xj)) (id Ar81.1) (State.isArrayOf_alike hZ.alike Ar81.2.1) Ar81.2.2 hin81 hat81 (g := (mkF m 329 #[.val (.int p0), .val (.int p1), .val (.int p2), .val (.int p3), .val (.int p4), .val (.int p5), .val (.int nn), .val (.ref b14), .val (.int kk), .val (.int jj), .val (.ref b_28), .val (.int (3 : Int32)), .val (.int (((((own_sb nn (16 : Int32)) &&& (255 : Int32)) <<< ((16 : Int32) &&& 31)) ||| (((own_sb nn (8 : Int32)) &&& (255 : Int32)) <<< ((8 : Int32) &&& 31))) ||| ((own_sb nn (0 : Int32)) &&& (255 : Int32)))), .val (.int (4 : Int32)), .val (.int (p3.toInt8.toInt32)), .val (.int xl), .val (.int xj)] [(.int ((4 : Int32) + jj)), (.ref b_28)])) rfl rfl (hb hby at_329) _ ?_
        show Steps p.tables e below (T28.setTop (mkF m 330 #[.val (.int p0), .val (.int p1), .val (.int p2), .val (.int p3), .val (.int p4), .val (.int p5), .val (.int nn), .val (.ref b14), .val (.int kk), .val (.int jj), .val (.ref b_28), .val (.int (3 : Int32)), .val (.int (((((own_sb nn (16 : Int32)) &&& (255 : Int32)) <<< ((16 : Int32) &&& 31)) ||| (((own_sb nn (8 : Int32)) &&& (255 : Int32)) <<< ((8 : Int32) &&& 31))) ||| ((own_sb nn (0 : Int32)) &&& (255 : Int32)))), .val (.int (4 : Int32)), .val (.int (p3.toInt8.toInt32)), .val (.int xl), .val (.int xj)] [(.int xj)])) _
        refine XS.iload X28.here hx rfl (hb hby at_330) rfl ?_
        show Steps p.tables e below (T28.setTop (mkF m 332 #[.val (.int p0), .val (.int p1), .val (.int p2), .val (.int p3), .val (.int p4), .val (.int p5), .val (.int nn), .val (.ref b14), .val (.int kk), .val (.int jj), .val (.ref b_28), .val (.int (3 : Int32)), .val (.int (((((own_sb nn (16 : Int32)) &&& (255 : Int32)) <<< ((16 : Int32) &&& 31)) ||| (((own_sb nn (8 : Int32)) &&& (255 : Int32)) <<< ((8 : Int32) &&& 31))) ||| ((own_sb nn (0 : Int32)) &&& (255 : Int32)))), .val (.int (4 : Int32)), .val (.int (p3.toInt8.toInt32)), .val (.int xl), .val (.int xj)] [(.int xj), (.int xj)])) _
        refine XS.icmpNo X28.here hx rfl (hb hby at_332) rfl (teq (rfl : xj = xj)).2 ?_
        show Steps p.tables e below (T28.setTop (mkF m 335 #[.val (.int p0), .val (.int p1), .val (.int p2), .val (.int p3), .val (.int p4), .val (.int p5), .val (.int nn), .val (.ref b14), .val (.int kk), .val (.int jj), .val (.ref b_28), .val (.int (3 : Int32)), .val (.int (((((own_sb nn (16 : Int32)) &&& (255 : Int32)) <<< ((16 : Int32) &&& 31)) ||| (((own_sb nn (8 : Int32)) &&& (255 : Int32)) <<< ((8 : Int32) &&& 31))) ||| ((own_sb nn (0 : Int32)) &&& (255 : Int32)))), .val (.int (4 : Int32)), .val (.int (p3.toInt8.toInt32)), .val (.int xl), .val (.int xj)] [])) _
        refine XS.iconst X28.here hx rfl (hb hby at_335) ?_
        show Steps p.tables e below (T28.setTop (mkF m 336 #[.val (.int p0), .val (.int p1), .val (.int p2), .val (.int p3), .val (.int p4), .val (.int p5), .val (.int nn), .val (.ref b14), .val (.int kk), .val (.int jj), .val (.ref b_28), .val (.int (3 : Int32)), .val (.int (((((own_sb nn (16 : Int32)) &&& (255 : Int32)) <<< ((16 : Int32) &&& 31)) ||| (((own_sb nn (8 : Int32)) &&& (255 : Int32)) <<< ((8 : Int32) &&& 31))) ||| ((own_sb nn (0 : Int32)) &&& (255 : Int32)))), .val (.int (4 : Int32)), .val (.int (p3.toInt8.toInt32)), .val (.int xl), .val (.int xj)] [(.int (1 : Int32))])) _
        refine XS.goto X28.here hx rfl (pc0 := 336) (pc' := 340) rfl (hb hby at_336) (by decide) (by decide) ?_
        show Steps p.tables e below (T28.setTop (mkF m 340 #[.val (.int p0), .val (.int p1), .val (.int p2), .val (.int p3), .val (.int p4), .val (.int p5), .val (.int nn), .val (.ref b14), .val (.int kk), .val (.int jj), .val (.ref b_28), .val (.int (3 : Int32)), .val (.int (((((own_sb nn (16 : Int32)) &&& (255 : Int32)) <<< ((16 : Int32) &&& 31)) ||| (((own_sb nn (8 : Int32)) &&& (255 : Int32)) <<< ((8 : Int32) &&& 31))) ||| ((own_sb nn (0 : Int32)) &&& (255 : Int32)))), .val (.int (4 : Int32)), .val (.int (p3.toInt8.toInt32)), .val (.int xl), .val (.int xj)] [(.int (1 : Int32))])) _
        exact retN X28 hx (t := .boolean) Bd.returns (by simp) (hb hby at_340) hr
      · show Q0 Z _ _ _ _ _ _ h0 n0 _ T28.heap _
        exact ⟨rfl, N28⟩
  · obtain ⟨_, _, ⟨T82, L82, k82, n82⟩, -, X82, ⟨Lc82, hQ82, l82, y82, z82⟩, st82⟩ := Jvm.LawKit.callS X14 hx (y := (⟨"com/example/narada/narada/mariner/MarinerFrameEncoder", "block", "([B)[B"⟩ : MethodName)) hown (mvT hZ (hw _ (List.mem_of_getElem? (i := 2) rfl))) (mvT hZ (hw _ (List.mem_of_getElem? (i := 3) rfl))) (mvT hZ (hw _ (List.mem_of_getElem? (i := 4) rfl))) (mvT hZ (hw _ (List.mem_of_getElem? (i := 5) rfl))) (by decide) (backOf (W := 0) (rm1 l Z a0 hw [] b14 nn (fun _ => (0 : Int32)) h14 n0 Z16 V14 Bn (fun _ => rfl)) hZ (hw _ (List.mem_of_getElem? (i := 5) rfl)) (hw _ (List.mem_of_getElem? (i := 4) rfl)) (by decide) (by decide)) (g := (mkF m 77 #[.val (.int p0), .val (.int p1), .val (.int p2), .val (.int p3), .val (.int p4), .val (.int p5), .val (.int nn), .val (.ref b14), .val (.int (0 : Int32)), .val (.int (0 : Int32)), .unset, .unset, .unset, .unset, .unset, .unset, .unset] [(.ref b14)])) rfl (by rw [hml]; rfl) (argsL := [(.ref b14)]) (rest := []) (lenOf pd_2 rfl) rfl (by show 2 * 0 + _ ≤ _; exact Nat.le_of_eq rfl) (hb hby at_77) (fun _ _ => ⟨rfl, e14, (by decide : 1 + 1 ≤ _), (by decide : 65538 + 65542 ≤ _)⟩)
    dsimp only [Pt.U, Pt.locs, Pt.cells, Pt.slots] at X82 l82 y82 z82 st82 hQ82
    obtain ⟨b_82, y_82, g_82, rfl, Nq82, u82_0, u82_1, u82_2, u82_3, u82_4, u82_5, u82_6⟩ := hQ82
    obtain ⟨lc82, X82, N82⟩ : ∃ lc, Stand p l e room_1 s m #[(.int p0), (.int p1), (.int p2), (.int p3), (.int p4), (.int p5)] below meth c T82 lc 2 131080 ∧ Fr n0 lc := ⟨_, (by rw [y82, z82] at X82; exact X82), (by rw [l82]; exact Fr.app N0 Nq82)⟩
    have ne83 : b14 ≠ b_82 := Nat.ne_of_lt (Nat.lt_of_lt_of_le V14.lt u82_0)
    have g84 : n0 ≤ b_82 := Nat.le_trans Z16 u82_0
    have Z85 : n0 ≤ T82.heap.size := Nat.le_trans Z16 u82_1.1
    have pre86 : ∀ t, Steps p.tables e below (T82.setTop (mkF m 87 #[.val (.int p0), .val (.int p1), .val (.int p2), .val (.int p3), .val (.int p4), .val (.int p5), .val (.int nn), .val (.ref b14), .val (.int (0 : Int32)), .val (.int (0 : Int32)), .val (.ref b_82), .unset, .unset, .unset, .unset, .unset, .unset] [(.int (256 : Int32)), (.int nn)])) t → Steps p.tables e below (s₁.setTop (entryFrame m #[(.int p0), (.int p1), (.int p2), (.int p3), (.int p4), (.int p5)] maxLocals)) t := fun t k => pre17 t (by
      refine XS.ifYes X14.here hx rfl (pc0 := 36) (pc' := 75) rfl (hb hby at_36) rfl ((if0 _ _).trans (flt hc18).2.2.2) (by decide) (by decide) ?_
      show Steps p.tables e below (T14.setTop (mkF m 75 #[.val (.int p0), .val (.int p1), .val (.int p2), .val (.int p3), .val (.int p4), .val (.int p5), .val (.int nn), .val (.ref b14), .val (.int (0 : Int32)), .val (.int (0 : Int32)), .unset, .unset, .unset, .unset, .unset, .unset, .unset] [])) _
      refine XS.aload X14.here hx rfl (hb hby at_75) rfl rfl ?_
      show Steps p.tables e below (T14.setTop (mkF m 77 #[.val (.int p0), .val (.int p1), .val (.int p2), .val (.int p3), .val (.int p4), .val (.int p5), .val (.int nn), .val (.ref b14), .val (.int (0 : Int32)), .val (.int (0 : Int32)), .unset, .unset, .unset, .unset, .unset, .unset, .unset] [(.ref b14)])) _
      refine st82 _ ?_
      show Steps p.tables e below (T82.setTop (mkF m 80 #[.val (.int p0), .val (.int p1), .val (.int p2), .val (.int p3), .val (.int p4), .val (.int p5), .val (.int nn), .val (.ref b14), .val (.int (0 : Int32)), .val (.int (0 : Int32)), .unset, .unset, .unset, .unset, .unset, .unset, .unset] [(.ref b_82)])) _
      refine XS.astore X82.here hx rfl (hb hby at_80) rfl rfl (l' := #[.val (.int p0), .val (.int p1), .val (.int p2), .val (.int p3), .val (.int p4), .val (.int p5), .val (.int nn), .val (.ref b14), .val (.int (0 : Int32)), .val (.int (0 : Int32)), .val (.ref b_82), .unset, .unset, .unset, .unset, .unset, .unset]) rfl ?_
      show Steps p.tables e below (T82.setTop (mkF m 82 #[.val (.int p0), .val (.int p1), .val (.int p2), .val (.int p3), .val (.int p4), .val (.int p5), .val (.int nn), .val (.ref b14), .val (.int (0 : Int32)), .val (.int (0 : Int32)), .val (.ref b_82), .unset, .unset, .unset, .unset, .unset, .unset] [])) _
      refine XS.iload X82.here hx rfl (hb hby at_82) rfl ?_
      show Steps p.tables e below (T82.setTop (mkF m 84 #[.val (.int p0), .val (.int p1), .val (.int p2), .val (.int p3), .val (.int p4), .val (.int p5), .val (.int nn), .val (.ref b14), .val (.int (0 : Int32)), .val (.int (0 : Int32)), .val (.ref b_82), .unset, .unset, .unset, .unset, .unset, .unset] [(.int nn)])) _
      refine XS.sipush X82.here hx rfl (hb hby at_84) ?_
      exact k)
    obtain ⟨lc, hlc⟩ : ∃ z : Int32, z = (if nn < (256 : Int32) then (1 : Int32) else (if nn < (65536 : Int32) then (2 : Int32) else (3 : Int32))) := ⟨_, rfl⟩
    have pre89 : ∀ t, Steps p.tables e below (T82.setTop (mkF m 106 #[.val (.int p0), .val (.int p1), .val (.int p2), .val (.int p3), .val (.int p4), .val (.int p5), .val (.int nn), .val (.ref b14), .val (.int (0 : Int32)), .val (.int (0 : Int32)), .val (.ref b_82), .unset, .unset, .unset, .unset, .unset, .unset] [(.int lc)])) t → Steps p.tables e below (s₁.setTop (entryFrame m #[(.int p0), (.int p1), (.int p2), (.int p3), (.int p4), (.int p5)] maxLocals)) t := fun t k => pre86 t (by
      by_cases hm87 : nn < (256 : Int32)
      · rw [show lc = (1 : Int32) from by rw [hlc, if_pos hm87]] at k
        refine XS.icmpNo X82.here hx rfl (hb hby at_87) rfl (tlt hm87).2.1 ?_
        show Steps p.tables e below (T82.setTop (mkF m 90 #[.val (.int p0), .val (.int p1), .val (.int p2), .val (.int p3), .val (.int p4), .val (.int p5), .val (.int nn), .val (.ref b14), .val (.int (0 : Int32)), .val (.int (0 : Int32)), .val (.ref b_82), .unset, .unset, .unset, .unset, .unset, .unset] [])) _
        refine XS.iconst X82.here hx rfl (hb hby at_90) ?_
        show Steps p.tables e below (T82.setTop (mkF m 91 #[.val (.int p0), .val (.int p1), .val (.int p2), .val (.int p3), .val (.int p4), .val (.int p5), .val (.int nn), .val (.ref b14), .val (.int (0 : Int32)), .val (.int (0 : Int32)), .val (.ref b_82), .unset, .unset, .unset, .unset, .unset, .unset] [(.int (1 : Int32))])) _
        refine XS.goto X82.here hx rfl (pc0 := 91) (pc' := 106) rfl (hb hby at_91) (by decide) (by decide) ?_
        exact k
      · refine XS.icmpYes X82.here hx rfl (pc0 := 87) (pc' := 94) rfl (hb hby at_87) rfl (flt hm87).2.1 (by decide) (by decide) ?_
        show Steps p.tables e below (T82.setTop (mkF m 94 #[.val (.int p0), .val (.int p1), .val (.int p2), .val (.int p3), .val (.int p4), .val (.int p5), .val (.int nn), .val (.ref b14), .val (.int (0 : Int32)), .val (.int (0 : Int32)), .val (.ref b_82), .unset, .unset, .unset, .unset, .unset, .unset] [])) _
        refine XS.iload X82.here hx rfl (hb hby at_94) rfl ?_
        show Steps p.tables e below (T82.setTop (mkF m 96 #[.val (.int p0), .val (.int p1), .val (.int p2), .val (.int p3), .val (.int p4), .val (.int p5), .val (.int nn), .val (.ref b14), .val (.int (0 : Int32)), .val (.int (0 : Int32)), .val (.ref b_82), .unset, .unset, .unset, .unset, .unset, .unset] [(.int nn)])) _
        refine X82.ldcInt hx hown (mvT hZ (hw _ (List.mem_of_getElem? (i := 20) rfl))) (g := (mkF m 96 #[.val (.int p0), .val (.int p1), .val (.int p2), .val (.int p3), .val (.int p4), .val (.int p5), .val (.int nn), .val (.ref b14), .val (.int (0 : Int32)), .val (.int (0 : Int32)), .val (.ref b_82), .unset, .unset, .unset, .unset, .unset, .unset] [(.int nn)])) rfl (hb hby at_96) _ ?_
        show Steps p.tables e below (T82.setTop (mkF m 98 #[.val (.int p0), .val (.int p1), .val (.int p2), .val (.int p3), .val (.int p4), .val (.int p5), .val (.int nn), .val (.ref b14), .val (.int (0 : Int32)), .val (.int (0 : Int32)), .val (.ref b_82), .unset, .unset, .unset, .unset, .unset, .unset] [(.int (65536 : Int32)), (.int nn)])) _
        by_cases hm88 : nn < (65536 : Int32)
        · rw [show lc = (2 : Int32) from by rw [hlc, if_neg hm87, if_pos hm88]] at k
          refine XS.icmpNo X82.here hx rfl (hb hby at_98) rfl (tlt hm88).2.1 ?_
          show Steps p.tables e below (T82.setTop (mkF m 101 #[.val (.int p0), .val (.int p1), .val (.int p2), .val (.int p3), .val (.int p4), .val (.int p5), .val (.int nn), .val (.ref b14), .val (.int (0 : Int32)), .val (.int (0 : Int32)), .val (.ref b_82), .unset, .unset, .unset, .unset, .unset, .unset] [])) _
          refine XS.iconst X82.here hx rfl (hb hby at_101) ?_
          show Steps p.tables e below (T82.setTop (mkF m 102 #[.val (.int p0), .val (.int p1), .val (.int p2), .val (.int p3), .val (.int p4), .val (.int p5), .val (.int nn), .val (.ref b14), .val (.int (0 : Int32)), .val (.int (0 : Int32)), .val (.ref b_82), .unset, .unset, .unset, .unset, .unset, .unset] [(.int (2 : Int32))])) _
          refine XS.goto X82.here hx rfl (pc0 := 102) (pc' := 106) rfl (hb hby at_102) (by decide) (by decide) ?_
          exact k
        · rw [show lc = (3 : Int32) from by rw [hlc, if_neg hm87, if_neg hm88]] at k
          refine XS.icmpYes X82.here hx rfl (pc0 := 98) (pc' := 105) rfl (hb hby at_98) rfl (flt hm88).2.1 (by decide) (by decide) ?_
          show Steps p.tables e below (T82.setTop (mkF m 105 #[.val (.int p0), .val (.int p1), .val (.int p2), .val (.int p3), .val (.int p4), .val (.int p5), .val (.int nn), .val (.ref b14), .val (.int (0 : Int32)), .val (.int (0 : Int32)), .val (.ref b_82), .unset, .unset, .unset, .unset, .unset, .unset] [])) _
          refine XS.iconst X82.here hx rfl (hb hby at_105) ?_
          exact k)
    have pre90 : ∀ t, Steps p.tables e below (T82.setTop (mkF m 108 #[.val (.int p0), .val (.int p1), .val (.int p2), .val (.int p3), .val (.int p4), .val (.int p5), .val (.int nn), .val (.ref b14), .val (.int (0 : Int32)), .val (.int (0 : Int32)), .val (.ref b_82), .val (.int lc), .unset, .unset, .unset, .unset, .unset] [])) t → Steps p.tables e below (s₁.setTop (entryFrame m #[(.int p0), (.int p1), (.int p2), (.int p3), (.int p4), (.int p5)] maxLocals)) t := fun t k => pre89 t (by
      refine XS.istore X82.here hx rfl (hb hby at_106) rfl (l' := #[.val (.int p0), .val (.int p1), .val (.int p2), .val (.int p3), .val (.int p4), .val (.int p5), .val (.int nn), .val (.ref b14), .val (.int (0 : Int32)), .val (.int (0 : Int32)), .val (.ref b_82), .val (.int lc), .unset, .unset, .unset, .unset, .unset]) rfl ?_
      exact k)
    rcases own_lb3 (hlc : lc = own_lb nn) with ⟨rfl, hz1⟩ | ⟨rfl, hz1⟩ | ⟨rfl, hz1⟩
    · have pre91 : ∀ t, Steps p.tables e below (T82.setTop (mkF m 110 #[.val (.int p0), .val (.int p1), .val (.int p2), .val (.int p3), .val (.int p4), .val (.int p5), .val (.int nn), .val (.ref b14), .val (.int (0 : Int32)), .val (.int (0 : Int32)), .val (.ref b_82), .val (.int (1 : Int32)), .unset, .unset, .unset, .unset, .unset] [(.ref b_82)])) t → Steps p.tables e below (s₁.setTop (entryFrame m #[(.int p0), (.int p1), (.int p2), (.int p3), (.int p4), (.int p5)] maxLocals)) t := fun t k => pre90 t (by
        refine XS.aload X82.here hx rfl (hb hby at_108) rfl rfl ?_
        exact k)
      have eL : own_lb nn = (1 : Int32) := by rw [own_lb, if_pos hz1]
      have hL : (1 : Int32) + own_lb nn = (2 : Int32) := by rw [eL]; rfl
      have hy : y_82 = (2 : Int32) + nn := u82_3.trans (by rw [hL])
      subst hy
      obtain ⟨cl92, Ar92, S92, M92, I92⟩ := id u82_2
      obtain ⟨cl93, Ar93, S93, M93, I93⟩ := id u82_2
      have hin93 : ¬ ((0 : Int32) < 0 ∨ cl93.slots.size ≤ ((0 : Int32)).toNatClampNeg) := inb_of S93 (own_in (by decide : 1 ≤ (2 : Int32).toInt ∧ (2 : Int32).toInt ≤ 4) Bn (by decide))
      have hat93 : cl93.slots[((0 : Int32)).toNatClampNeg]? = some (.int (g_82 ((0 : Int32)).toNatClampNeg)) := I93 _ (Nat.lt_of_not_le fun y => hin93 (Or.inr y))
      rw [show (g_82 ((0 : Int32)).toNatClampNeg) = (1 : Int32) from (u82_4.trans eL)] at hat93
      obtain ⟨cl94, Ar94, S94, M94, I94⟩ := id u82_2
      have hin94 : ¬ ((1 : Int32) < 0 ∨ cl94.slots.size ≤ ((1 : Int32)).toNatClampNeg) := inb_of S94 (own_in (by decide : 1 ≤ (2 : Int32).toInt ∧ (2 : Int32).toInt ≤ 4) Bn (by decide))
      have hat94 : cl94.slots[((1 : Int32)).toNatClampNeg]? = some (.int (g_82 ((1 : Int32)).toNatClampNeg)) := I94 _ (Nat.lt_of_not_le fun y => hin94 (Or.inr y))
      rw [show (g_82 ((1 : Int32)).toNatClampNeg) = (own_sb nn (0 : Int32)) from (u82_6.1 hz1)] at hat94
      obtain ⟨fs, hr, hrun, hended, hW, hsame⟩ := X82.leave (v := some (.int (1 : Int32))) (fun h => by rw [Bd.returns] at h; cases h)
      refine ⟨_, _, pre91 _ ?_, hrun, hended, _, _, rfl, ?_, ⟨_, rfl⟩, hW, hsame.mono (by decide) (by decide)⟩
      · refine X82.arraylength hx (id Ar92.1) (State.isArrayOf_alike hZ.alike Ar92.2.1) (g := (mkF m 110 #[.val (.int p0), .val (.int p1), .val (.int p2), .val (.int p3), .val (.int p4), .val (.int p5), .val (.int nn), .val (.ref b14), .val (.int (0 : Int32)), .val (.int (0 : Int32)), .val (.ref b_82), .val (.int (1 : Int32)), .unset, .unset, .unset, .unset, .unset] [(.ref b_82)])) rfl rfl (hb hby at_110) _ ?_
        rw [len_of S92 M92]
        show Steps p.tables e below (T82.setTop (mkF m 111 #[.val (.int p0), .val (.int p1), .val (.int p2), .val (.int p3), .val (.int p4), .val (.int p5), .val (.int nn), .val (.ref b14), .val (.int (0 : Int32)), .val (.int (0 : Int32)), .val (.ref b_82), .val (.int (1 : Int32)), .unset, .unset, .unset, .unset, .unset] [(.int ((2 : Int32) + nn))])) _
        refine XS.iconst X82.here hx rfl (hb hby at_111) ?_
        show Steps p.tables e below (T82.setTop (mkF m 112 #[.val (.int p0), .val (.int p1), .val (.int p2), .val (.int p3), .val (.int p4), .val (.int p5), .val (.int nn), .val (.ref b14), .val (.int (0 : Int32)), .val (.int (0 : Int32)), .val (.ref b_82), .val (.int (1 : Int32)), .unset, .unset, .unset, .unset, .unset] [(.int (1 : Int32)), (.int ((2 : Int32) + nn))])) _
        refine XS.iload X82.here hx rfl (hb hby at_112) rfl ?_
        show Steps p.tables e below (T82.setTop (mkF m 114 #[.val (.int p0), .val (.int p1), .val (.int p2), .val (.int p3), .val (.int p4), .val (.int p5), .val (.int nn), .val (.ref b14), .val (.int (0 : Int32)), .val (.int (0 : Int32)), .val (.ref b_82), .val (.int (1 : Int32)), .unset, .unset, .unset, .unset, .unset] [(.int (1 : Int32)), (.int (1 : Int32)), (.int ((2 : Int32) + nn))])) _
        refine XS.iadd X82.here hx rfl (hb hby at_114) rfl ?_
        show Steps p.tables e below (T82.setTop (mkF m 115 #[.val (.int p0), .val (.int p1), .val (.int p2), .val (.int p3), .val (.int p4), .val (.int p5), .val (.int nn), .val (.ref b14), .val (.int (0 : Int32)), .val (.int (0 : Int32)), .val (.ref b_82), .val (.int (1 : Int32)), .unset, .unset, .unset, .unset, .unset] [(.int (2 : Int32)), (.int ((2 : Int32) + nn))])) _
        refine XS.iload X82.here hx rfl (hb hby at_115) rfl ?_
        show Steps p.tables e below (T82.setTop (mkF m 117 #[.val (.int p0), .val (.int p1), .val (.int p2), .val (.int p3), .val (.int p4), .val (.int p5), .val (.int nn), .val (.ref b14), .val (.int (0 : Int32)), .val (.int (0 : Int32)), .val (.ref b_82), .val (.int (1 : Int32)), .unset, .unset, .unset, .unset, .unset] [(.int nn), (.int (2 : Int32)), (.int ((2 : Int32) + nn))])) _
        refine XS.iadd X82.here hx rfl (hb hby at_117) rfl ?_
        show Steps p.tables e below (T82.setTop (mkF m 118 #[.val (.int p0), .val (.int p1), .val (.int p2), .val (.int p3), .val (.int p4), .val (.int p5), .val (.int nn), .val (.ref b14), .val (.int (0 : Int32)), .val (.int (0 : Int32)), .val (.ref b_82), .val (.int (1 : Int32)), .unset, .unset, .unset, .unset, .unset] [(.int ((2 : Int32) + nn)), (.int ((2 : Int32) + nn))])) _
        refine XS.icmpYes X82.here hx rfl (pc0 := 118) (pc' := 123) rfl (hb hby at_118) rfl (teq (rfl : ((2 : Int32) + nn) = ((2 : Int32) + nn))).1 (by decide) (by decide) ?_
        show Steps p.tables e below (T82.setTop (mkF m 123 #[.val (.int p0), .val (.int p1), .val (.int p2), .val (.int p3), .val (.int p4), .val (.int p5), .val (.int nn), .val (.ref b14), .val (.int (0 : Int32)), .val (.int (0 : Int32)), .val (.ref b_82), .val (.int (1 : Int32)), .unset, .unset, .unset, .unset, .unset] [])) _
        refine XS.aload X82.here hx rfl (hb hby at_123) rfl rfl ?_
        show Steps p.tables e below (T82.setTop (mkF m 125 #[.val (.int p0), .val (.int p1), .val (.int p2), .val (.int p3), .val (.int p4), .val (.int p5), .val (.int nn), .val (.ref b14), .val (.int (0 : Int32)), .val (.int (0 : Int32)), .val (.ref b_82), .val (.int (1 : Int32)), .unset, .unset, .unset, .unset, .unset] [(.ref b_82)])) _
        refine XS.iconst X82.here hx rfl (hb hby at_125) ?_
        show Steps p.tables e below (T82.setTop (mkF m 126 #[.val (.int p0), .val (.int p1), .val (.int p2), .val (.int p3), .val (.int p4), .val (.int p5), .val (.int nn), .val (.ref b14), .val (.int (0 : Int32)), .val (.int (0 : Int32)), .val (.ref b_82), .val (.int (1 : Int32)), .unset, .unset, .unset, .unset, .unset] [(.int (0 : Int32)), (.ref b_82)])) _
        refine X82.baloadBytes hx (j := (0 : Int32)) (v := (.int (1 : Int32))) (id Ar93.1) (State.isArrayOf_alike hZ.alike Ar93.2.1) Ar93.2.2 hin93 hat93 (g := (mkF m 126 #[.val (.int p0), .val (.int p1), .val (.int p2), .val (.int p3), .val (.int p4), .val (.int p5), .val (.int nn), .val (.ref b14), .val (.int (0 : Int32)), .val (.int (0 : Int32)), .val (.ref b_82), .val (.int (1 : Int32)), .unset, .unset, .unset, .unset, .unset] [(.int (0 : Int32)), (.ref b_82)])) rfl rfl (hb hby at_126) _ ?_
        show Steps p.tables e below (T82.setTop (mkF m 127 #[.val (.int p0), .val (.int p1), .val (.int p2), .val (.int p3), .val (.int p4), .val (.int p5), .val (.int nn), .val (.ref b14), .val (.int (0 : Int32)), .val (.int (0 : Int32)), .val (.ref b_82), .val (.int (1 : Int32)), .unset, .unset, .unset, .unset, .unset] [(.int (1 : Int32))])) _
        refine XS.iload X82.here hx rfl (hb hby at_127) rfl ?_
        show Steps p.tables e below (T82.setTop (mkF m 129 #[.val (.int p0), .val (.int p1), .val (.int p2), .val (.int p3), .val (.int p4), .val (.int p5), .val (.int nn), .val (.ref b14), .val (.int (0 : Int32)), .val (.int (0 : Int32)), .val (.ref b_82), .val (.int (1 : Int32)), .unset, .unset, .unset, .unset, .unset] [(.int (1 : Int32)), (.int (1 : Int32))])) _
        refine XS.i2b X82.here hx rfl (hb hby at_129) rfl ?_
        show Steps p.tables e below (T82.setTop (mkF m 130 #[.val (.int p0), .val (.int p1), .val (.int p2), .val (.int p3), .val (.int p4), .val (.int p5), .val (.int nn), .val (.ref b14), .val (.int (0 : Int32)), .val (.int (0 : Int32)), .val (.ref b_82), .val (.int (1 : Int32)), .unset, .unset, .unset, .unset, .unset] [(.int ((1 : Int32).toInt8.toInt32)), (.int (1 : Int32))])) _
        refine XS.icmpYes X82.here hx rfl (pc0 := 130) (pc' := 135) rfl (hb hby at_130) rfl (teq (by decide)).1 (by decide) (by decide) ?_
        show Steps p.tables e below (T82.setTop (mkF m 135 #[.val (.int p0), .val (.int p1), .val (.int p2), .val (.int p3), .val (.int p4), .val (.int p5), .val (.int nn), .val (.ref b14), .val (.int (0 : Int32)), .val (.int (0 : Int32)), .val (.ref b_82), .val (.int (1 : Int32)), .unset, .unset, .unset, .unset, .unset] [])) _
        refine XS.iload X82.here hx rfl (hb hby at_135) rfl ?_
        show Steps p.tables e below (T82.setTop (mkF m 137 #[.val (.int p0), .val (.int p1), .val (.int p2), .val (.int p3), .val (.int p4), .val (.int p5), .val (.int nn), .val (.ref b14), .val (.int (0 : Int32)), .val (.int (0 : Int32)), .val (.ref b_82), .val (.int (1 : Int32)), .unset, .unset, .unset, .unset, .unset] [(.int (1 : Int32))])) _
        refine XS.iconst X82.here hx rfl (hb hby at_137) ?_
        show Steps p.tables e below (T82.setTop (mkF m 138 #[.val (.int p0), .val (.int p1), .val (.int p2), .val (.int p3), .val (.int p4), .val (.int p5), .val (.int nn), .val (.ref b14), .val (.int (0 : Int32)), .val (.int (0 : Int32)), .val (.ref b_82), .val (.int (1 : Int32)), .unset, .unset, .unset, .unset, .unset] [(.int (1 : Int32)), (.int (1 : Int32))])) _
        refine XS.icmpNo X82.here hx rfl (hb hby at_138) rfl (teq (by decide : (1 : Int32) = (1 : Int32))).2 ?_
        show Steps p.tables e below (T82.setTop (mkF m 141 #[.val (.int p0), .val (.int p1), .val (.int p2), .val (.int p3), .val (.int p4), .val (.int p5), .val (.int nn), .val (.ref b14), .val (.int (0 : Int32)), .val (.int (0 : Int32)), .val (.ref b_82), .val (.int (1 : Int32)), .unset, .unset, .unset, .unset, .unset] [])) _
        refine XS.aload X82.here hx rfl (hb hby at_141) rfl rfl ?_
        show Steps p.tables e below (T82.setTop (mkF m 143 #[.val (.int p0), .val (.int p1), .val (.int p2), .val (.int p3), .val (.int p4), .val (.int p5), .val (.int nn), .val (.ref b14), .val (.int (0 : Int32)), .val (.int (0 : Int32)), .val (.ref b_82), .val (.int (1 : Int32)), .unset, .unset, .unset, .unset, .unset] [(.ref b_82)])) _
        refine XS.iconst X82.here hx rfl (hb hby at_143) ?_
        show Steps p.tables e below (T82.setTop (mkF m 144 #[.val (.int p0), .val (.int p1), .val (.int p2), .val (.int p3), .val (.int p4), .val (.int p5), .val (.int nn), .val (.ref b14), .val (.int (0 : Int32)), .val (.int (0 : Int32)), .val (.ref b_82), .val (.int (1 : Int32)), .unset, .unset, .unset, .unset, .unset] [(.int (1 : Int32)), (.ref b_82)])) _
        refine X82.baloadBytes hx (j := (1 : Int32)) (v := (.int (own_sb nn (0 : Int32)))) (id Ar94.1) (State.isArrayOf_alike hZ.alike Ar94.2.1) Ar94.2.2 hin94 hat94 (g := (mkF m 144 #[.val (.int p0), .val (.int p1), .val (.int p2), .val (.int p3), .val (.int p4), .val (.int p5), .val (.int nn), .val (.ref b14), .val (.int (0 : Int32)), .val (.int (0 : Int32)), .val (.ref b_82), .val (.int (1 : Int32)), .unset, .unset, .unset, .unset, .unset] [(.int (1 : Int32)), (.ref b_82)])) rfl rfl (hb hby at_144) _ ?_
        show Steps p.tables e below (T82.setTop (mkF m 145 #[.val (.int p0), .val (.int p1), .val (.int p2), .val (.int p3), .val (.int p4), .val (.int p5), .val (.int nn), .val (.ref b14), .val (.int (0 : Int32)), .val (.int (0 : Int32)), .val (.ref b_82), .val (.int (1 : Int32)), .unset, .unset, .unset, .unset, .unset] [(.int (own_sb nn (0 : Int32)))])) _
        refine XS.sipush X82.here hx rfl (hb hby at_145) ?_
        show Steps p.tables e below (T82.setTop (mkF m 148 #[.val (.int p0), .val (.int p1), .val (.int p2), .val (.int p3), .val (.int p4), .val (.int p5), .val (.int nn), .val (.ref b14), .val (.int (0 : Int32)), .val (.int (0 : Int32)), .val (.ref b_82), .val (.int (1 : Int32)), .unset, .unset, .unset, .unset, .unset] [(.int (255 : Int32)), (.int (own_sb nn (0 : Int32)))])) _
        refine XS.iand X82.here hx rfl (hb hby at_148) rfl ?_
        show Steps p.tables e below (T82.setTop (mkF m 149 #[.val (.int p0), .val (.int p1), .val (.int p2), .val (.int p3), .val (.int p4), .val (.int p5), .val (.int nn), .val (.ref b14), .val (.int (0 : Int32)), .val (.int (0 : Int32)), .val (.ref b_82), .val (.int (1 : Int32)), .unset, .unset, .unset, .unset, .unset] [(.int ((own_sb nn (0 : Int32)) &&& (255 : Int32)))])) _
        refine XS.istore X82.here hx rfl (hb hby at_149) rfl (l' := #[.val (.int p0), .val (.int p1), .val (.int p2), .val (.int p3), .val (.int p4), .val (.int p5), .val (.int nn), .val (.ref b14), .val (.int (0 : Int32)), .val (.int (0 : Int32)), .val (.ref b_82), .val (.int (1 : Int32)), .val (.int ((own_sb nn (0 : Int32)) &&& (255 : Int32))), .unset, .unset, .unset, .unset]) rfl ?_
        show Steps p.tables e below (T82.setTop (mkF m 151 #[.val (.int p0), .val (.int p1), .val (.int p2), .val (.int p3), .val (.int p4), .val (.int p5), .val (.int nn), .val (.ref b14), .val (.int (0 : Int32)), .val (.int (0 : Int32)), .val (.ref b_82), .val (.int (1 : Int32)), .val (.int ((own_sb nn (0 : Int32)) &&& (255 : Int32))), .unset, .unset, .unset, .unset] [])) _
        refine XS.goto X82.here hx rfl (pc0 := 151) (pc' := 219) rfl (hb hby at_151) (by decide) (by decide) ?_
        show Steps p.tables e below (T82.setTop (mkF m 219 #[.val (.int p0), .val (.int p1), .val (.int p2), .val (.int p3), .val (.int p4), .val (.int p5), .val (.int nn), .val (.ref b14), .val (.int (0 : Int32)), .val (.int (0 : Int32)), .val (.ref b_82), .val (.int (1 : Int32)), .val (.int ((own_sb nn (0 : Int32)) &&& (255 : Int32))), .unset, .unset, .unset, .unset] [])) _
        refine XS.iload X82.here hx rfl (hb hby at_219) rfl ?_
        show Steps p.tables e below (T82.setTop (mkF m 221 #[.val (.int p0), .val (.int p1), .val (.int p2), .val (.int p3), .val (.int p4), .val (.int p5), .val (.int nn), .val (.ref b14), .val (.int (0 : Int32)), .val (.int (0 : Int32)), .val (.ref b_82), .val (.int (1 : Int32)), .val (.int ((own_sb nn (0 : Int32)) &&& (255 : Int32))), .unset, .unset, .unset, .unset] [(.int ((own_sb nn (0 : Int32)) &&& (255 : Int32)))])) _
        refine XS.iload X82.here hx rfl (hb hby at_221) rfl ?_
        show Steps p.tables e below (T82.setTop (mkF m 223 #[.val (.int p0), .val (.int p1), .val (.int p2), .val (.int p3), .val (.int p4), .val (.int p5), .val (.int nn), .val (.ref b14), .val (.int (0 : Int32)), .val (.int (0 : Int32)), .val (.ref b_82), .val (.int (1 : Int32)), .val (.int ((own_sb nn (0 : Int32)) &&& (255 : Int32))), .unset, .unset, .unset, .unset] [(.int nn), (.int ((own_sb nn (0 : Int32)) &&& (255 : Int32)))])) _
        refine XS.icmpYes X82.here hx rfl (pc0 := 223) (pc' := 228) rfl (hb hby at_223) rfl (teq (own_d1 Bn hz1)).1 (by decide) (by decide) ?_
        show Steps p.tables e below (T82.setTop (mkF m 228 #[.val (.int p0), .val (.int p1), .val (.int p2), .val (.int p3), .val (.int p4), .val (.int p5), .val (.int nn), .val (.ref b14), .val (.int (0 : Int32)), .val (.int (0 : Int32)), .val (.ref b_82), .val (.int (1 : Int32)), .val (.int ((own_sb nn (0 : Int32)) &&& (255 : Int32))), .unset, .unset, .unset, .unset] [])) _
        refine XS.iload X82.here hx rfl (hb hby at_228) rfl ?_
        show Steps p.tables e below (T82.setTop (mkF m 230 #[.val (.int p0), .val (.int p1), .val (.int p2), .val (.int p3), .val (.int p4), .val (.int p5), .val (.int nn), .val (.ref b14), .val (.int (0 : Int32)), .val (.int (0 : Int32)), .val (.ref b_82), .val (.int (1 : Int32)), .val (.int ((own_sb nn (0 : Int32)) &&& (255 : Int32))), .unset, .unset, .unset, .unset] [(.int nn)])) _
        refine XS.ifNo X82.here hx rfl (hb hby at_230) rfl ((if0 _ _).trans (teq (own_z0 hc18 Bn)).2) ?_
        show Steps p.tables e below (T82.setTop (mkF m 233 #[.val (.int p0), .val (.int p1), .val (.int p2), .val (.int p3), .val (.int p4), .val (.int p5), .val (.int nn), .val (.ref b14), .val (.int (0 : Int32)), .val (.int (0 : Int32)), .val (.ref b_82), .val (.int (1 : Int32)), .val (.int ((own_sb nn (0 : Int32)) &&& (255 : Int32))), .unset, .unset, .unset, .unset] [])) _
        refine XS.iconst X82.here hx rfl (hb hby at_233) ?_
        show Steps p.tables e below (T82.setTop (mkF m 234 #[.val (.int p0), .val (.int p1), .val (.int p2), .val (.int p3), .val (.int p4), .val (.int p5), .val (.int nn), .val (.ref b14), .val (.int (0 : Int32)), .val (.int (0 : Int32)), .val (.ref b_82), .val (.int (1 : Int32)), .val (.int ((own_sb nn (0 : Int32)) &&& (255 : Int32))), .unset, .unset, .unset, .unset] [(.int (1 : Int32))])) _
        exact retN X82 hx (t := .boolean) Bd.returns (by simp) (hb hby at_234) hr
      · show Q0 Z _ _ _ _ _ _ h0 n0 _ T82.heap _
        exact ⟨rfl, N82⟩
    · have pre95 : ∀ t, Steps p.tables e below (T82.setTop (mkF m 110 #[.val (.int p0), .val (.int p1), .val (.int p2), .val (.int p3), .val (.int p4), .val (.int p5), .val (.int nn), .val (.ref b14), .val (.int (0 : Int32)), .val (.int (0 : Int32)), .val (.ref b_82), .val (.int (2 : Int32)), .unset, .unset, .unset, .unset, .unset] [(.ref b_82)])) t → Steps p.tables e below (s₁.setTop (entryFrame m #[(.int p0), (.int p1), (.int p2), (.int p3), (.int p4), (.int p5)] maxLocals)) t := fun t k => pre90 t (by
        refine XS.aload X82.here hx rfl (hb hby at_108) rfl rfl ?_
        exact k)
      have eL : own_lb nn = (2 : Int32) := by rw [own_lb, if_neg hz1.1, if_pos hz1.2]
      have hL : (1 : Int32) + own_lb nn = (3 : Int32) := by rw [eL]; rfl
      have hy : y_82 = (3 : Int32) + nn := u82_3.trans (by rw [hL])
      subst hy
      obtain ⟨cl96, Ar96, S96, M96, I96⟩ := id u82_2
      obtain ⟨cl97, Ar97, S97, M97, I97⟩ := id u82_2
      have hin97 : ¬ ((0 : Int32) < 0 ∨ cl97.slots.size ≤ ((0 : Int32)).toNatClampNeg) := inb_of S97 (own_in (by decide : 1 ≤ (3 : Int32).toInt ∧ (3 : Int32).toInt ≤ 4) Bn (by decide))
      have hat97 : cl97.slots[((0 : Int32)).toNatClampNeg]? = some (.int (g_82 ((0 : Int32)).toNatClampNeg)) := I97 _ (Nat.lt_of_not_le fun y => hin97 (Or.inr y))
      rw [show (g_82 ((0 : Int32)).toNatClampNeg) = (2 : Int32) from (u82_4.trans eL)] at hat97
      obtain ⟨cl98, Ar98, S98, M98, I98⟩ := id u82_2
      have hin98 : ¬ ((1 : Int32) < 0 ∨ cl98.slots.size ≤ ((1 : Int32)).toNatClampNeg) := inb_of S98 (own_in (by decide : 1 ≤ (3 : Int32).toInt ∧ (3 : Int32).toInt ≤ 4) Bn (by decide))
      have hat98 : cl98.slots[((1 : Int32)).toNatClampNeg]? = some (.int (g_82 ((1 : Int32)).toNatClampNeg)) := I98 _ (Nat.lt_of_not_le fun y => hin98 (Or.inr y))
      rw [show (g_82 ((1 : Int32)).toNatClampNeg) = (own_sb nn (8 : Int32)) from (u82_6.2.1 hz1).1] at hat98
      obtain ⟨cl99, Ar99, S99, M99, I99⟩ := id u82_2
      have hin99 : ¬ ((2 : Int32) < 0 ∨ cl99.slots.size ≤ ((2 : Int32)).toNatClampNeg) := inb_of S99 (own_in (by decide : 1 ≤ (3 : Int32).toInt ∧ (3 : Int32).toInt ≤ 4) Bn (by decide))
      have hat99 : cl99.slots[((2 : Int32)).toNatClampNeg]? = some (.int (g_82 ((2 : Int32)).toNatClampNeg)) := I99 _ (Nat.lt_of_not_le fun y => hin99 (Or.inr y))
      rw [show (g_82 ((2 : Int32)).toNatClampNeg) = (own_sb nn (0 : Int32)) from (u82_6.2.1 hz1).2] at hat99
      obtain ⟨fs, hr, hrun, hended, hW, hsame⟩ := X82.leave (v := some (.int (1 : Int32))) (fun h => by rw [Bd.returns] at h; cases h)
      refine ⟨_, _, pre95 _ ?_, hrun, hended, _, _, rfl, ?_, ⟨_, rfl⟩, hW, hsame.mono (by decide) (by decide)⟩
      · refine X82.arraylength hx (id Ar96.1) (State.isArrayOf_alike hZ.alike Ar96.2.1) (g := (mkF m 110 #[.val (.int p0), .val (.int p1), .val (.int p2), .val (.int p3), .val (.int p4), .val (.int p5), .val (.int nn), .val (.ref b14), .val (.int (0 : Int32)), .val (.int (0 : Int32)), .val (.ref b_82), .val (.int (2 : Int32)), .unset, .unset, .unset, .unset, .unset] [(.ref b_82)])) rfl rfl (hb hby at_110) _ ?_
        rw [len_of S96 M96]
        show Steps p.tables e below (T82.setTop (mkF m 111 #[.val (.int p0), .val (.int p1), .val (.int p2), .val (.int p3), .val (.int p4), .val (.int p5), .val (.int nn), .val (.ref b14), .val (.int (0 : Int32)), .val (.int (0 : Int32)), .val (.ref b_82), .val (.int (2 : Int32)), .unset, .unset, .unset, .unset, .unset] [(.int ((3 : Int32) + nn))])) _
        refine XS.iconst X82.here hx rfl (hb hby at_111) ?_
        show Steps p.tables e below (T82.setTop (mkF m 112 #[.val (.int p0), .val (.int p1), .val (.int p2), .val (.int p3), .val (.int p4), .val (.int p5), .val (.int nn), .val (.ref b14), .val (.int (0 : Int32)), .val (.int (0 : Int32)), .val (.ref b_82), .val (.int (2 : Int32)), .unset, .unset, .unset, .unset, .unset] [(.int (1 : Int32)), (.int ((3 : Int32) + nn))])) _
        refine XS.iload X82.here hx rfl (hb hby at_112) rfl ?_
        show Steps p.tables e below (T82.setTop (mkF m 114 #[.val (.int p0), .val (.int p1), .val (.int p2), .val (.int p3), .val (.int p4), .val (.int p5), .val (.int nn), .val (.ref b14), .val (.int (0 : Int32)), .val (.int (0 : Int32)), .val (.ref b_82), .val (.int (2 : Int32)), .unset, .unset, .unset, .unset, .unset] [(.int (2 : Int32)), (.int (1 : Int32)), (.int ((3 : Int32) + nn))])) _
        refine XS.iadd X82.here hx rfl (hb hby at_114) rfl ?_
        show Steps p.tables e below (T82.setTop (mkF m 115 #[.val (.int p0), .val (.int p1), .val (.int p2), .val (.int p3), .val (.int p4), .val (.int p5), .val (.int nn), .val (.ref b14), .val (.int (0 : Int32)), .val (.int (0 : Int32)), .val (.ref b_82), .val (.int (2 : Int32)), .unset, .unset, .unset, .unset, .unset] [(.int (3 : Int32)), (.int ((3 : Int32) + nn))])) _
        refine XS.iload X82.here hx rfl (hb hby at_115) rfl ?_
        show Steps p.tables e below (T82.setTop (mkF m 117 #[.val (.int p0), .val (.int p1), .val (.int p2), .val (.int p3), .val (.int p4), .val (.int p5), .val (.int nn), .val (.ref b14), .val (.int (0 : Int32)), .val (.int (0 : Int32)), .val (.ref b_82), .val (.int (2 : Int32)), .unset, .unset, .unset, .unset, .unset] [(.int nn), (.int (3 : Int32)), (.int ((3 : Int32) + nn))])) _
        refine XS.iadd X82.here hx rfl (hb hby at_117) rfl ?_
        show Steps p.tables e below (T82.setTop (mkF m 118 #[.val (.int p0), .val (.int p1), .val (.int p2), .val (.int p3), .val (.int p4), .val (.int p5), .val (.int nn), .val (.ref b14), .val (.int (0 : Int32)), .val (.int (0 : Int32)), .val (.ref b_82), .val (.int (2 : Int32)), .unset, .unset, .unset, .unset, .unset] [(.int ((3 : Int32) + nn)), (.int ((3 : Int32) + nn))])) _
        refine XS.icmpYes X82.here hx rfl (pc0 := 118) (pc' := 123) rfl (hb hby at_118) rfl (teq (rfl : ((3 : Int32) + nn) = ((3 : Int32) + nn))).1 (by decide) (by decide) ?_
        show Steps p.tables e below (T82.setTop (mkF m 123 #[.val (.int p0), .val (.int p1), .val (.int p2), .val (.int p3), .val (.int p4), .val (.int p5), .val (.int nn), .val (.ref b14), .val (.int (0 : Int32)), .val (.int (0 : Int32)), .val (.ref b_82), .val (.int (2 : Int32)), .unset, .unset, .unset, .unset, .unset] [])) _
        refine XS.aload X82.here hx rfl (hb hby at_123) rfl rfl ?_
        show Steps p.tables e below (T82.setTop (mkF m 125 #[.val (.int p0), .val (.int p1), .val (.int p2), .val (.int p3), .val (.int p4), .val (.int p5), .val (.int nn), .val (.ref b14), .val (.int (0 : Int32)), .val (.int (0 : Int32)), .val (.ref b_82), .val (.int (2 : Int32)), .unset, .unset, .unset, .unset, .unset] [(.ref b_82)])) _
        refine XS.iconst X82.here hx rfl (hb hby at_125) ?_
        show Steps p.tables e below (T82.setTop (mkF m 126 #[.val (.int p0), .val (.int p1), .val (.int p2), .val (.int p3), .val (.int p4), .val (.int p5), .val (.int nn), .val (.ref b14), .val (.int (0 : Int32)), .val (.int (0 : Int32)), .val (.ref b_82), .val (.int (2 : Int32)), .unset, .unset, .unset, .unset, .unset] [(.int (0 : Int32)), (.ref b_82)])) _
        refine X82.baloadBytes hx (j := (0 : Int32)) (v := (.int (2 : Int32))) (id Ar97.1) (State.isArrayOf_alike hZ.alike Ar97.2.1) Ar97.2.2 hin97 hat97 (g := (mkF m 126 #[.val (.int p0), .val (.int p1), .val (.int p2), .val (.int p3), .val (.int p4), .val (.int p5), .val (.int nn), .val (.ref b14), .val (.int (0 : Int32)), .val (.int (0 : Int32)), .val (.ref b_82), .val (.int (2 : Int32)), .unset, .unset, .unset, .unset, .unset] [(.int (0 : Int32)), (.ref b_82)])) rfl rfl (hb hby at_126) _ ?_
        show Steps p.tables e below (T82.setTop (mkF m 127 #[.val (.int p0), .val (.int p1), .val (.int p2), .val (.int p3), .val (.int p4), .val (.int p5), .val (.int nn), .val (.ref b14), .val (.int (0 : Int32)), .val (.int (0 : Int32)), .val (.ref b_82), .val (.int (2 : Int32)), .unset, .unset, .unset, .unset, .unset] [(.int (2 : Int32))])) _
        refine XS.iload X82.here hx rfl (hb hby at_127) rfl ?_
        show Steps p.tables e below (T82.setTop (mkF m 129 #[.val (.int p0), .val (.int p1), .val (.int p2), .val (.int p3), .val (.int p4), .val (.int p5), .val (.int nn), .val (.ref b14), .val (.int (0 : Int32)), .val (.int (0 : Int32)), .val (.ref b_82), .val (.int (2 : Int32)), .unset, .unset, .unset, .unset, .unset] [(.int (2 : Int32)), (.int (2 : Int32))])) _
        refine XS.i2b X82.here hx rfl (hb hby at_129) rfl ?_
        show Steps p.tables e below (T82.setTop (mkF m 130 #[.val (.int p0), .val (.int p1), .val (.int p2), .val (.int p3), .val (.int p4), .val (.int p5), .val (.int nn), .val (.ref b14), .val (.int (0 : Int32)), .val (.int (0 : Int32)), .val (.ref b_82), .val (.int (2 : Int32)), .unset, .unset, .unset, .unset, .unset] [(.int ((2 : Int32).toInt8.toInt32)), (.int (2 : Int32))])) _
        refine XS.icmpYes X82.here hx rfl (pc0 := 130) (pc' := 135) rfl (hb hby at_130) rfl (teq (by decide)).1 (by decide) (by decide) ?_
        show Steps p.tables e below (T82.setTop (mkF m 135 #[.val (.int p0), .val (.int p1), .val (.int p2), .val (.int p3), .val (.int p4), .val (.int p5), .val (.int nn), .val (.ref b14), .val (.int (0 : Int32)), .val (.int (0 : Int32)), .val (.ref b_82), .val (.int (2 : Int32)), .unset, .unset, .unset, .unset, .unset] [])) _
        refine XS.iload X82.here hx rfl (hb hby at_135) rfl ?_
        show Steps p.tables e below (T82.setTop (mkF m 137 #[.val (.int p0), .val (.int p1), .val (.int p2), .val (.int p3), .val (.int p4), .val (.int p5), .val (.int nn), .val (.ref b14), .val (.int (0 : Int32)), .val (.int (0 : Int32)), .val (.ref b_82), .val (.int (2 : Int32)), .unset, .unset, .unset, .unset, .unset] [(.int (2 : Int32))])) _
        refine XS.iconst X82.here hx rfl (hb hby at_137) ?_
        show Steps p.tables e below (T82.setTop (mkF m 138 #[.val (.int p0), .val (.int p1), .val (.int p2), .val (.int p3), .val (.int p4), .val (.int p5), .val (.int nn), .val (.ref b14), .val (.int (0 : Int32)), .val (.int (0 : Int32)), .val (.ref b_82), .val (.int (2 : Int32)), .unset, .unset, .unset, .unset, .unset] [(.int (1 : Int32)), (.int (2 : Int32))])) _
        refine XS.icmpYes X82.here hx rfl (pc0 := 138) (pc' := 154) rfl (hb hby at_138) rfl (feq (by decide : ¬ ((2 : Int32) = (1 : Int32)))).2 (by decide) (by decide) ?_
        show Steps p.tables e below (T82.setTop (mkF m 154 #[.val (.int p0), .val (.int p1), .val (.int p2), .val (.int p3), .val (.int p4), .val (.int p5), .val (.int nn), .val (.ref b14), .val (.int (0 : Int32)), .val (.int (0 : Int32)), .val (.ref b_82), .val (.int (2 : Int32)), .unset, .unset, .unset, .unset, .unset] [])) _
        refine XS.iload X82.here hx rfl (hb hby at_154) rfl ?_
        show Steps p.tables e below (T82.setTop (mkF m 156 #[.val (.int p0), .val (.int p1), .val (.int p2), .val (.int p3), .val (.int p4), .val (.int p5), .val (.int nn), .val (.ref b14), .val (.int (0 : Int32)), .val (.int (0 : Int32)), .val (.ref b_82), .val (.int (2 : Int32)), .unset, .unset, .unset, .unset, .unset] [(.int (2 : Int32))])) _
        refine XS.iconst X82.here hx rfl (hb hby at_156) ?_
        show Steps p.tables e below (T82.setTop (mkF m 157 #[.val (.int p0), .val (.int p1), .val (.int p2), .val (.int p3), .val (.int p4), .val (.int p5), .val (.int nn), .val (.ref b14), .val (.int (0 : Int32)), .val (.int (0 : Int32)), .val (.ref b_82), .val (.int (2 : Int32)), .unset, .unset, .unset, .unset, .unset] [(.int (2 : Int32)), (.int (2 : Int32))])) _
        refine XS.icmpNo X82.here hx rfl (hb hby at_157) rfl (teq (by decide : (2 : Int32) = (2 : Int32))).2 ?_
        show Steps p.tables e below (T82.setTop (mkF m 160 #[.val (.int p0), .val (.int p1), .val (.int p2), .val (.int p3), .val (.int p4), .val (.int p5), .val (.int nn), .val (.ref b14), .val (.int (0 : Int32)), .val (.int (0 : Int32)), .val (.ref b_82), .val (.int (2 : Int32)), .unset, .unset, .unset, .unset, .unset] [])) _
        refine XS.aload X82.here hx rfl (hb hby at_160) rfl rfl ?_
        show Steps p.tables e below (T82.setTop (mkF m 162 #[.val (.int p0), .val (.int p1), .val (.int p2), .val (.int p3), .val (.int p4), .val (.int p5), .val (.int nn), .val (.ref b14), .val (.int (0 : Int32)), .val (.int (0 : Int32)), .val (.ref b_82), .val (.int (2 : Int32)), .unset, .unset, .unset, .unset, .unset] [(.ref b_82)])) _
        refine XS.iconst X82.here hx rfl (hb hby at_162) ?_
        show Steps p.tables e below (T82.setTop (mkF m 163 #[.val (.int p0), .val (.int p1), .val (.int p2), .val (.int p3), .val (.int p4), .val (.int p5), .val (.int nn), .val (.ref b14), .val (.int (0 : Int32)), .val (.int (0 : Int32)), .val (.ref b_82), .val (.int (2 : Int32)), .unset, .unset, .unset, .unset, .unset] [(.int (1 : Int32)), (.ref b_82)])) _
        refine X82.baloadBytes hx (j := (1 : Int32)) (v := (.int (own_sb nn (8 : Int32)))) (id Ar98.1) (State.isArrayOf_alike hZ.alike Ar98.2.1) Ar98.2.2 hin98 hat98 (g := (mkF m 163 #[.val (.int p0), .val (.int p1), .val (.int p2), .val (.int p3), .val (.int p4), .val (.int p5), .val (.int nn), .val (.ref b14), .val (.int (0 : Int32)), .val (.int (0 : Int32)), .val (.ref b_82), .val (.int (2 : Int32)), .unset, .unset, .unset, .unset, .unset] [(.int (1 : Int32)), (.ref b_82)])) rfl rfl (hb hby at_163) _ ?_
        show Steps p.tables e below (T82.setTop (mkF m 164 #[.val (.int p0), .val (.int p1), .val (.int p2), .val (.int p3), .val (.int p4), .val (.int p5), .val (.int nn), .val (.ref b14), .val (.int (0 : Int32)), .val (.int (0 : Int32)), .val (.ref b_82), .val (.int (2 : Int32)), .unset, .unset, .unset, .unset, .unset] [(.int (own_sb nn (8 : Int32)))])) _
        refine XS.sipush X82.here hx rfl (hb hby at_164) ?_
        show Steps p.tables e below (T82.setTop (mkF m 167 #[.val (.int p0), .val (.int p1), .val (.int p2), .val (.int p3), .val (.int p4), .val (.int p5), .val (.int nn), .val (.ref b14), .val (.int (0 : Int32)), .val (.int (0 : Int32)), .val (.ref b_82), .val (.int (2 : Int32)), .unset, .unset, .unset, .unset, .unset] [(.int (255 : Int32)), (.int (own_sb nn (8 : Int32)))])) _
        refine XS.iand X82.here hx rfl (hb hby at_167) rfl ?_
        show Steps p.tables e below (T82.setTop (mkF m 168 #[.val (.int p0), .val (.int p1), .val (.int p2), .val (.int p3), .val (.int p4), .val (.int p5), .val (.int nn), .val (.ref b14), .val (.int (0 : Int32)), .val (.int (0 : Int32)), .val (.ref b_82), .val (.int (2 : Int32)), .unset, .unset, .unset, .unset, .unset] [(.int ((own_sb nn (8 : Int32)) &&& (255 : Int32)))])) _
        refine XS.bipush X82.here hx rfl (hb hby at_168) ?_
        show Steps p.tables e below (T82.setTop (mkF m 170 #[.val (.int p0), .val (.int p1), .val (.int p2), .val (.int p3), .val (.int p4), .val (.int p5), .val (.int nn), .val (.ref b14), .val (.int (0 : Int32)), .val (.int (0 : Int32)), .val (.ref b_82), .val (.int (2 : Int32)), .unset, .unset, .unset, .unset, .unset] [(.int (8 : Int32)), (.int ((own_sb nn (8 : Int32)) &&& (255 : Int32)))])) _
        refine XS.ishl X82.here hx rfl (hb hby at_170) rfl ?_
        show Steps p.tables e below (T82.setTop (mkF m 171 #[.val (.int p0), .val (.int p1), .val (.int p2), .val (.int p3), .val (.int p4), .val (.int p5), .val (.int nn), .val (.ref b14), .val (.int (0 : Int32)), .val (.int (0 : Int32)), .val (.ref b_82), .val (.int (2 : Int32)), .unset, .unset, .unset, .unset, .unset] [(.int (((own_sb nn (8 : Int32)) &&& (255 : Int32)) <<< ((8 : Int32) &&& 31)))])) _
        refine XS.aload X82.here hx rfl (hb hby at_171) rfl rfl ?_
        show Steps p.tables e below (T82.setTop (mkF m 173 #[.val (.int p0), .val (.int p1), .val (.int p2), .val (.int p3), .val (.int p4), .val (.int p5), .val (.int nn), .val (.ref b14), .val (.int (0 : Int32)), .val (.int (0 : Int32)), .val (.ref b_82), .val (.int (2 : Int32)), .unset, .unset, .unset, .unset, .unset] [(.ref b_82), (.int (((own_sb nn (8 : Int32)) &&& (255 : Int32)) <<< ((8 : Int32) &&& 31)))])) _
        refine XS.iconst X82.here hx rfl (hb hby at_173) ?_
        show Steps p.tables e below (T82.setTop (mkF m 174 #[.val (.int p0), .val (.int p1), .val (.int p2), .val (.int p3), .val (.int p4), .val (.int p5), .val (.int nn), .val (.ref b14), .val (.int (0 : Int32)), .val (.int (0 : Int32)), .val (.ref b_82), .val (.int (2 : Int32)), .unset, .unset, .unset, .unset, .unset] [(.int (2 : Int32)), (.ref b_82), (.int (((own_sb nn (8 : Int32)) &&& (255 : Int32)) <<< ((8 : Int32) &&& 31)))])) _
        refine X82.baloadBytes hx (j := (2 : Int32)) (v := (.int (own_sb nn (0 : Int32)))) (id Ar99.1) (State.isArrayOf_alike hZ.alike Ar99.2.1) Ar99.2.2 hin99 hat99 (g := (mkF m 174 #[.val (.int p0), .val (.int p1), .val (.int p2), .val (.int p3), .val (.int p4), .val (.int p5), .val (.int nn), .val (.ref b14), .val (.int (0 : Int32)), .val (.int (0 : Int32)), .val (.ref b_82), .val (.int (2 : Int32)), .unset, .unset, .unset, .unset, .unset] [(.int (2 : Int32)), (.ref b_82), (.int (((own_sb nn (8 : Int32)) &&& (255 : Int32)) <<< ((8 : Int32) &&& 31)))])) rfl rfl (hb hby at_174) _ ?_
        show Steps p.tables e below (T82.setTop (mkF m 175 #[.val (.int p0), .val (.int p1), .val (.int p2), .val (.int p3), .val (.int p4), .val (.int p5), .val (.int nn), .val (.ref b14), .val (.int (0 : Int32)), .val (.int (0 : Int32)), .val (.ref b_82), .val (.int (2 : Int32)), .unset, .unset, .unset, .unset, .unset] [(.int (own_sb nn (0 : Int32))), (.int (((own_sb nn (8 : Int32)) &&& (255 : Int32)) <<< ((8 : Int32) &&& 31)))])) _
        refine XS.sipush X82.here hx rfl (hb hby at_175) ?_
        show Steps p.tables e below (T82.setTop (mkF m 178 #[.val (.int p0), .val (.int p1), .val (.int p2), .val (.int p3), .val (.int p4), .val (.int p5), .val (.int nn), .val (.ref b14), .val (.int (0 : Int32)), .val (.int (0 : Int32)), .val (.ref b_82), .val (.int (2 : Int32)), .unset, .unset, .unset, .unset, .unset] [(.int (255 : Int32)), (.int (own_sb nn (0 : Int32))), (.int (((own_sb nn (8 : Int32)) &&& (255 : Int32)) <<< ((8 : Int32) &&& 31)))])) _
        refine XS.iand X82.here hx rfl (hb hby at_178) rfl ?_
        show Steps p.tables e below (T82.setTop (mkF m 179 #[.val (.int p0), .val (.int p1), .val (.int p2), .val (.int p3), .val (.int p4), .val (.int p5), .val (.int nn), .val (.ref b14), .val (.int (0 : Int32)), .val (.int (0 : Int32)), .val (.ref b_82), .val (.int (2 : Int32)), .unset, .unset, .unset, .unset, .unset] [(.int ((own_sb nn (0 : Int32)) &&& (255 : Int32))), (.int (((own_sb nn (8 : Int32)) &&& (255 : Int32)) <<< ((8 : Int32) &&& 31)))])) _
        refine XS.ior X82.here hx rfl (hb hby at_179) rfl ?_
        show Steps p.tables e below (T82.setTop (mkF m 180 #[.val (.int p0), .val (.int p1), .val (.int p2), .val (.int p3), .val (.int p4), .val (.int p5), .val (.int nn), .val (.ref b14), .val (.int (0 : Int32)), .val (.int (0 : Int32)), .val (.ref b_82), .val (.int (2 : Int32)), .unset, .unset, .unset, .unset, .unset] [(.int ((((own_sb nn (8 : Int32)) &&& (255 : Int32)) <<< ((8 : Int32) &&& 31)) ||| ((own_sb nn (0 : Int32)) &&& (255 : Int32))))])) _
        refine XS.istore X82.here hx rfl (hb hby at_180) rfl (l' := #[.val (.int p0), .val (.int p1), .val (.int p2), .val (.int p3), .val (.int p4), .val (.int p5), .val (.int nn), .val (.ref b14), .val (.int (0 : Int32)), .val (.int (0 : Int32)), .val (.ref b_82), .val (.int (2 : Int32)), .val (.int ((((own_sb nn (8 : Int32)) &&& (255 : Int32)) <<< ((8 : Int32) &&& 31)) ||| ((own_sb nn (0 : Int32)) &&& (255 : Int32)))), .unset, .unset, .unset, .unset]) rfl ?_
        show Steps p.tables e below (T82.setTop (mkF m 182 #[.val (.int p0), .val (.int p1), .val (.int p2), .val (.int p3), .val (.int p4), .val (.int p5), .val (.int nn), .val (.ref b14), .val (.int (0 : Int32)), .val (.int (0 : Int32)), .val (.ref b_82), .val (.int (2 : Int32)), .val (.int ((((own_sb nn (8 : Int32)) &&& (255 : Int32)) <<< ((8 : Int32) &&& 31)) ||| ((own_sb nn (0 : Int32)) &&& (255 : Int32)))), .unset, .unset, .unset, .unset] [])) _
        refine XS.goto X82.here hx rfl (pc0 := 182) (pc' := 219) rfl (hb hby at_182) (by decide) (by decide) ?_
        show Steps p.tables e below (T82.setTop (mkF m 219 #[.val (.int p0), .val (.int p1), .val (.int p2), .val (.int p3), .val (.int p4), .val (.int p5), .val (.int nn), .val (.ref b14), .val (.int (0 : Int32)), .val (.int (0 : Int32)), .val (.ref b_82), .val (.int (2 : Int32)), .val (.int ((((own_sb nn (8 : Int32)) &&& (255 : Int32)) <<< ((8 : Int32) &&& 31)) ||| ((own_sb nn (0 : Int32)) &&& (255 : Int32)))), .unset, .unset, .unset, .unset] [])) _
        refine XS.iload X82.here hx rfl (hb hby at_219) rfl ?_
        show Steps p.tables e below (T82.setTop (mkF m 221 #[.val (.int p0), .val (.int p1), .val (.int p2), .val (.int p3), .val (.int p4), .val (.int p5), .val (.int nn), .val (.ref b14), .val (.int (0 : Int32)), .val (.int (0 : Int32)), .val (.ref b_82), .val (.int (2 : Int32)), .val (.int ((((own_sb nn (8 : Int32)) &&& (255 : Int32)) <<< ((8 : Int32) &&& 31)) ||| ((own_sb nn (0 : Int32)) &&& (255 : Int32)))), .unset, .unset, .unset, .unset] [(.int ((((own_sb nn (8 : Int32)) &&& (255 : Int32)) <<< ((8 : Int32) &&& 31)) ||| ((own_sb nn (0 : Int32)) &&& (255 : Int32))))])) _
        refine XS.iload X82.here hx rfl (hb hby at_221) rfl ?_
        show Steps p.tables e below (T82.setTop (mkF m 223 #[.val (.int p0), .val (.int p1), .val (.int p2), .val (.int p3), .val (.int p4), .val (.int p5), .val (.int nn), .val (.ref b14), .val (.int (0 : Int32)), .val (.int (0 : Int32)), .val (.ref b_82), .val (.int (2 : Int32)), .val (.int ((((own_sb nn (8 : Int32)) &&& (255 : Int32)) <<< ((8 : Int32) &&& 31)) ||| ((own_sb nn (0 : Int32)) &&& (255 : Int32)))), .unset, .unset, .unset, .unset] [(.int nn), (.int ((((own_sb nn (8 : Int32)) &&& (255 : Int32)) <<< ((8 : Int32) &&& 31)) ||| ((own_sb nn (0 : Int32)) &&& (255 : Int32))))])) _
        refine XS.icmpYes X82.here hx rfl (pc0 := 223) (pc' := 228) rfl (hb hby at_223) rfl (teq (own_d2 Bn hz1)).1 (by decide) (by decide) ?_
        show Steps p.tables e below (T82.setTop (mkF m 228 #[.val (.int p0), .val (.int p1), .val (.int p2), .val (.int p3), .val (.int p4), .val (.int p5), .val (.int nn), .val (.ref b14), .val (.int (0 : Int32)), .val (.int (0 : Int32)), .val (.ref b_82), .val (.int (2 : Int32)), .val (.int ((((own_sb nn (8 : Int32)) &&& (255 : Int32)) <<< ((8 : Int32) &&& 31)) ||| ((own_sb nn (0 : Int32)) &&& (255 : Int32)))), .unset, .unset, .unset, .unset] [])) _
        refine XS.iload X82.here hx rfl (hb hby at_228) rfl ?_
        show Steps p.tables e below (T82.setTop (mkF m 230 #[.val (.int p0), .val (.int p1), .val (.int p2), .val (.int p3), .val (.int p4), .val (.int p5), .val (.int nn), .val (.ref b14), .val (.int (0 : Int32)), .val (.int (0 : Int32)), .val (.ref b_82), .val (.int (2 : Int32)), .val (.int ((((own_sb nn (8 : Int32)) &&& (255 : Int32)) <<< ((8 : Int32) &&& 31)) ||| ((own_sb nn (0 : Int32)) &&& (255 : Int32)))), .unset, .unset, .unset, .unset] [(.int nn)])) _
        refine XS.ifNo X82.here hx rfl (hb hby at_230) rfl ((if0 _ _).trans (teq (own_z0 hc18 Bn)).2) ?_
        show Steps p.tables e below (T82.setTop (mkF m 233 #[.val (.int p0), .val (.int p1), .val (.int p2), .val (.int p3), .val (.int p4), .val (.int p5), .val (.int nn), .val (.ref b14), .val (.int (0 : Int32)), .val (.int (0 : Int32)), .val (.ref b_82), .val (.int (2 : Int32)), .val (.int ((((own_sb nn (8 : Int32)) &&& (255 : Int32)) <<< ((8 : Int32) &&& 31)) ||| ((own_sb nn (0 : Int32)) &&& (255 : Int32)))), .unset, .unset, .unset, .unset] [])) _
        refine XS.iconst X82.here hx rfl (hb hby at_233) ?_
        show Steps p.tables e below (T82.setTop (mkF m 234 #[.val (.int p0), .val (.int p1), .val (.int p2), .val (.int p3), .val (.int p4), .val (.int p5), .val (.int nn), .val (.ref b14), .val (.int (0 : Int32)), .val (.int (0 : Int32)), .val (.ref b_82), .val (.int (2 : Int32)), .val (.int ((((own_sb nn (8 : Int32)) &&& (255 : Int32)) <<< ((8 : Int32) &&& 31)) ||| ((own_sb nn (0 : Int32)) &&& (255 : Int32)))), .unset, .unset, .unset, .unset] [(.int (1 : Int32))])) _
        exact retN X82 hx (t := .boolean) Bd.returns (by simp) (hb hby at_234) hr
      · show Q0 Z _ _ _ _ _ _ h0 n0 _ T82.heap _
        exact ⟨rfl, N82⟩
    · have pre100 : ∀ t, Steps p.tables e below (T82.setTop (mkF m 110 #[.val (.int p0), .val (.int p1), .val (.int p2), .val (.int p3), .val (.int p4), .val (.int p5), .val (.int nn), .val (.ref b14), .val (.int (0 : Int32)), .val (.int (0 : Int32)), .val (.ref b_82), .val (.int (3 : Int32)), .unset, .unset, .unset, .unset, .unset] [(.ref b_82)])) t → Steps p.tables e below (s₁.setTop (entryFrame m #[(.int p0), (.int p1), (.int p2), (.int p3), (.int p4), (.int p5)] maxLocals)) t := fun t k => pre90 t (by
        refine XS.aload X82.here hx rfl (hb hby at_108) rfl rfl ?_
        exact k)
      have eL : own_lb nn = (3 : Int32) := by rw [own_lb, if_neg hz1.1, if_neg hz1.2]
      have hL : (1 : Int32) + own_lb nn = (4 : Int32) := by rw [eL]; rfl
      have hy : y_82 = (4 : Int32) + nn := u82_3.trans (by rw [hL])
      subst hy
      obtain ⟨cl101, Ar101, S101, M101, I101⟩ := id u82_2
      obtain ⟨cl102, Ar102, S102, M102, I102⟩ := id u82_2
      have hin102 : ¬ ((0 : Int32) < 0 ∨ cl102.slots.size ≤ ((0 : Int32)).toNatClampNeg) := inb_of S102 (own_in (by decide : 1 ≤ (4 : Int32).toInt ∧ (4 : Int32).toInt ≤ 4) Bn (by decide))
      have hat102 : cl102.slots[((0 : Int32)).toNatClampNeg]? = some (.int (g_82 ((0 : Int32)).toNatClampNeg)) := I102 _ (Nat.lt_of_not_le fun y => hin102 (Or.inr y))
      rw [show (g_82 ((0 : Int32)).toNatClampNeg) = (3 : Int32) from (u82_4.trans eL)] at hat102
      obtain ⟨cl103, Ar103, S103, M103, I103⟩ := id u82_2
      have hin103 : ¬ ((1 : Int32) < 0 ∨ cl103.slots.size ≤ ((1 : Int32)).toNatClampNeg) := inb_of S103 (own_in (by decide : 1 ≤ (4 : Int32).toInt ∧ (4 : Int32).toInt ≤ 4) Bn (by decide))
      have hat103 : cl103.slots[((1 : Int32)).toNatClampNeg]? = some (.int (g_82 ((1 : Int32)).toNatClampNeg)) := I103 _ (Nat.lt_of_not_le fun y => hin103 (Or.inr y))
      rw [show (g_82 ((1 : Int32)).toNatClampNeg) = (own_sb nn (16 : Int32)) from (u82_6.2.2 hz1).1] at hat103
      obtain ⟨cl104, Ar104, S104, M104, I104⟩ := id u82_2
      have hin104 : ¬ ((2 : Int32) < 0 ∨ cl104.slots.size ≤ ((2 : Int32)).toNatClampNeg) := inb_of S104 (own_in (by decide : 1 ≤ (4 : Int32).toInt ∧ (4 : Int32).toInt ≤ 4) Bn (by decide))
      have hat104 : cl104.slots[((2 : Int32)).toNatClampNeg]? = some (.int (g_82 ((2 : Int32)).toNatClampNeg)) := I104 _ (Nat.lt_of_not_le fun y => hin104 (Or.inr y))
      rw [show (g_82 ((2 : Int32)).toNatClampNeg) = (own_sb nn (8 : Int32)) from (u82_6.2.2 hz1).2.1] at hat104
      obtain ⟨cl105, Ar105, S105, M105, I105⟩ := id u82_2
      have hin105 : ¬ ((3 : Int32) < 0 ∨ cl105.slots.size ≤ ((3 : Int32)).toNatClampNeg) := inb_of S105 (own_in (by decide : 1 ≤ (4 : Int32).toInt ∧ (4 : Int32).toInt ≤ 4) Bn (by decide))
      have hat105 : cl105.slots[((3 : Int32)).toNatClampNeg]? = some (.int (g_82 ((3 : Int32)).toNatClampNeg)) := I105 _ (Nat.lt_of_not_le fun y => hin105 (Or.inr y))
      rw [show (g_82 ((3 : Int32)).toNatClampNeg) = (own_sb nn (0 : Int32)) from (u82_6.2.2 hz1).2.2] at hat105
      obtain ⟨fs, hr, hrun, hended, hW, hsame⟩ := X82.leave (v := some (.int (1 : Int32))) (fun h => by rw [Bd.returns] at h; cases h)
      refine ⟨_, _, pre100 _ ?_, hrun, hended, _, _, rfl, ?_, ⟨_, rfl⟩, hW, hsame.mono (by decide) (by decide)⟩
      · refine X82.arraylength hx (id Ar101.1) (State.isArrayOf_alike hZ.alike Ar101.2.1) (g := (mkF m 110 #[.val (.int p0), .val (.int p1), .val (.int p2), .val (.int p3), .val (.int p4), .val (.int p5), .val (.int nn), .val (.ref b14), .val (.int (0 : Int32)), .val (.int (0 : Int32)), .val (.ref b_82), .val (.int (3 : Int32)), .unset, .unset, .unset, .unset, .unset] [(.ref b_82)])) rfl rfl (hb hby at_110) _ ?_
        rw [len_of S101 M101]
        show Steps p.tables e below (T82.setTop (mkF m 111 #[.val (.int p0), .val (.int p1), .val (.int p2), .val (.int p3), .val (.int p4), .val (.int p5), .val (.int nn), .val (.ref b14), .val (.int (0 : Int32)), .val (.int (0 : Int32)), .val (.ref b_82), .val (.int (3 : Int32)), .unset, .unset, .unset, .unset, .unset] [(.int ((4 : Int32) + nn))])) _
        refine XS.iconst X82.here hx rfl (hb hby at_111) ?_
        show Steps p.tables e below (T82.setTop (mkF m 112 #[.val (.int p0), .val (.int p1), .val (.int p2), .val (.int p3), .val (.int p4), .val (.int p5), .val (.int nn), .val (.ref b14), .val (.int (0 : Int32)), .val (.int (0 : Int32)), .val (.ref b_82), .val (.int (3 : Int32)), .unset, .unset, .unset, .unset, .unset] [(.int (1 : Int32)), (.int ((4 : Int32) + nn))])) _
        refine XS.iload X82.here hx rfl (hb hby at_112) rfl ?_
        show Steps p.tables e below (T82.setTop (mkF m 114 #[.val (.int p0), .val (.int p1), .val (.int p2), .val (.int p3), .val (.int p4), .val (.int p5), .val (.int nn), .val (.ref b14), .val (.int (0 : Int32)), .val (.int (0 : Int32)), .val (.ref b_82), .val (.int (3 : Int32)), .unset, .unset, .unset, .unset, .unset] [(.int (3 : Int32)), (.int (1 : Int32)), (.int ((4 : Int32) + nn))])) _
        refine XS.iadd X82.here hx rfl (hb hby at_114) rfl ?_
        show Steps p.tables e below (T82.setTop (mkF m 115 #[.val (.int p0), .val (.int p1), .val (.int p2), .val (.int p3), .val (.int p4), .val (.int p5), .val (.int nn), .val (.ref b14), .val (.int (0 : Int32)), .val (.int (0 : Int32)), .val (.ref b_82), .val (.int (3 : Int32)), .unset, .unset, .unset, .unset, .unset] [(.int (4 : Int32)), (.int ((4 : Int32) + nn))])) _
        refine XS.iload X82.here hx rfl (hb hby at_115) rfl ?_
        show Steps p.tables e below (T82.setTop (mkF m 117 #[.val (.int p0), .val (.int p1), .val (.int p2), .val (.int p3), .val (.int p4), .val (.int p5), .val (.int nn), .val (.ref b14), .val (.int (0 : Int32)), .val (.int (0 : Int32)), .val (.ref b_82), .val (.int (3 : Int32)), .unset, .unset, .unset, .unset, .unset] [(.int nn), (.int (4 : Int32)), (.int ((4 : Int32) + nn))])) _
        refine XS.iadd X82.here hx rfl (hb hby at_117) rfl ?_
        show Steps p.tables e below (T82.setTop (mkF m 118 #[.val (.int p0), .val (.int p1), .val (.int p2), .val (.int p3), .val (.int p4), .val (.int p5), .val (.int nn), .val (.ref b14), .val (.int (0 : Int32)), .val (.int (0 : Int32)), .val (.ref b_82), .val (.int (3 : Int32)), .unset, .unset, .unset, .unset, .unset] [(.int ((4 : Int32) + nn)), (.int ((4 : Int32) + nn))])) _
        refine XS.icmpYes X82.here hx rfl (pc0 := 118) (pc' := 123) rfl (hb hby at_118) rfl (teq (rfl : ((4 : Int32) + nn) = ((4 : Int32) + nn))).1 (by decide) (by decide) ?_
        show Steps p.tables e below (T82.setTop (mkF m 123 #[.val (.int p0), .val (.int p1), .val (.int p2), .val (.int p3), .val (.int p4), .val (.int p5), .val (.int nn), .val (.ref b14), .val (.int (0 : Int32)), .val (.int (0 : Int32)), .val (.ref b_82), .val (.int (3 : Int32)), .unset, .unset, .unset, .unset, .unset] [])) _
        refine XS.aload X82.here hx rfl (hb hby at_123) rfl rfl ?_
        show Steps p.tables e below (T82.setTop (mkF m 125 #[.val (.int p0), .val (.int p1), .val (.int p2), .val (.int p3), .val (.int p4), .val (.int p5), .val (.int nn), .val (.ref b14), .val (.int (0 : Int32)), .val (.int (0 : Int32)), .val (.ref b_82), .val (.int (3 : Int32)), .unset, .unset, .unset, .unset, .unset] [(.ref b_82)])) _
        refine XS.iconst X82.here hx rfl (hb hby at_125) ?_
        show Steps p.tables e below (T82.setTop (mkF m 126 #[.val (.int p0), .val (.int p1), .val (.int p2), .val (.int p3), .val (.int p4), .val (.int p5), .val (.int nn), .val (.ref b14), .val (.int (0 : Int32)), .val (.int (0 : Int32)), .val (.ref b_82), .val (.int (3 : Int32)), .unset, .unset, .unset, .unset, .unset] [(.int (0 : Int32)), (.ref b_82)])) _
        refine X82.baloadBytes hx (j := (0 : Int32)) (v := (.int (3 : Int32))) (id Ar102.1) (State.isArrayOf_alike hZ.alike Ar102.2.1) Ar102.2.2 hin102 hat102 (g := (mkF m 126 #[.val (.int p0), .val (.int p1), .val (.int p2), .val (.int p3), .val (.int p4), .val (.int p5), .val (.int nn), .val (.ref b14), .val (.int (0 : Int32)), .val (.int (0 : Int32)), .val (.ref b_82), .val (.int (3 : Int32)), .unset, .unset, .unset, .unset, .unset] [(.int (0 : Int32)), (.ref b_82)])) rfl rfl (hb hby at_126) _ ?_
        show Steps p.tables e below (T82.setTop (mkF m 127 #[.val (.int p0), .val (.int p1), .val (.int p2), .val (.int p3), .val (.int p4), .val (.int p5), .val (.int nn), .val (.ref b14), .val (.int (0 : Int32)), .val (.int (0 : Int32)), .val (.ref b_82), .val (.int (3 : Int32)), .unset, .unset, .unset, .unset, .unset] [(.int (3 : Int32))])) _
        refine XS.iload X82.here hx rfl (hb hby at_127) rfl ?_
        show Steps p.tables e below (T82.setTop (mkF m 129 #[.val (.int p0), .val (.int p1), .val (.int p2), .val (.int p3), .val (.int p4), .val (.int p5), .val (.int nn), .val (.ref b14), .val (.int (0 : Int32)), .val (.int (0 : Int32)), .val (.ref b_82), .val (.int (3 : Int32)), .unset, .unset, .unset, .unset, .unset] [(.int (3 : Int32)), (.int (3 : Int32))])) _
        refine XS.i2b X82.here hx rfl (hb hby at_129) rfl ?_
        show Steps p.tables e below (T82.setTop (mkF m 130 #[.val (.int p0), .val (.int p1), .val (.int p2), .val (.int p3), .val (.int p4), .val (.int p5), .val (.int nn), .val (.ref b14), .val (.int (0 : Int32)), .val (.int (0 : Int32)), .val (.ref b_82), .val (.int (3 : Int32)), .unset, .unset, .unset, .unset, .unset] [(.int ((3 : Int32).toInt8.toInt32)), (.int (3 : Int32))])) _
        refine XS.icmpYes X82.here hx rfl (pc0 := 130) (pc' := 135) rfl (hb hby at_130) rfl (teq (by decide)).1 (by decide) (by decide) ?_
        show Steps p.tables e below (T82.setTop (mkF m 135 #[.val (.int p0), .val (.int p1), .val (.int p2), .val (.int p3), .val (.int p4), .val (.int p5), .val (.int nn), .val (.ref b14), .val (.int (0 : Int32)), .val (.int (0 : Int32)), .val (.ref b_82), .val (.int (3 : Int32)), .unset, .unset, .unset, .unset, .unset] [])) _
        refine XS.iload X82.here hx rfl (hb hby at_135) rfl ?_
        show Steps p.tables e below (T82.setTop (mkF m 137 #[.val (.int p0), .val (.int p1), .val (.int p2), .val (.int p3), .val (.int p4), .val (.int p5), .val (.int nn), .val (.ref b14), .val (.int (0 : Int32)), .val (.int (0 : Int32)), .val (.ref b_82), .val (.int (3 : Int32)), .unset, .unset, .unset, .unset, .unset] [(.int (3 : Int32))])) _
        refine XS.iconst X82.here hx rfl (hb hby at_137) ?_
        show Steps p.tables e below (T82.setTop (mkF m 138 #[.val (.int p0), .val (.int p1), .val (.int p2), .val (.int p3), .val (.int p4), .val (.int p5), .val (.int nn), .val (.ref b14), .val (.int (0 : Int32)), .val (.int (0 : Int32)), .val (.ref b_82), .val (.int (3 : Int32)), .unset, .unset, .unset, .unset, .unset] [(.int (1 : Int32)), (.int (3 : Int32))])) _
        refine XS.icmpYes X82.here hx rfl (pc0 := 138) (pc' := 154) rfl (hb hby at_138) rfl (feq (by decide : ¬ ((3 : Int32) = (1 : Int32)))).2 (by decide) (by decide) ?_
        show Steps p.tables e below (T82.setTop (mkF m 154 #[.val (.int p0), .val (.int p1), .val (.int p2), .val (.int p3), .val (.int p4), .val (.int p5), .val (.int nn), .val (.ref b14), .val (.int (0 : Int32)), .val (.int (0 : Int32)), .val (.ref b_82), .val (.int (3 : Int32)), .unset, .unset, .unset, .unset, .unset] [])) _
        refine XS.iload X82.here hx rfl (hb hby at_154) rfl ?_
        show Steps p.tables e below (T82.setTop (mkF m 156 #[.val (.int p0), .val (.int p1), .val (.int p2), .val (.int p3), .val (.int p4), .val (.int p5), .val (.int nn), .val (.ref b14), .val (.int (0 : Int32)), .val (.int (0 : Int32)), .val (.ref b_82), .val (.int (3 : Int32)), .unset, .unset, .unset, .unset, .unset] [(.int (3 : Int32))])) _
        refine XS.iconst X82.here hx rfl (hb hby at_156) ?_
        show Steps p.tables e below (T82.setTop (mkF m 157 #[.val (.int p0), .val (.int p1), .val (.int p2), .val (.int p3), .val (.int p4), .val (.int p5), .val (.int nn), .val (.ref b14), .val (.int (0 : Int32)), .val (.int (0 : Int32)), .val (.ref b_82), .val (.int (3 : Int32)), .unset, .unset, .unset, .unset, .unset] [(.int (2 : Int32)), (.int (3 : Int32))])) _
        refine XS.icmpYes X82.here hx rfl (pc0 := 157) (pc' := 185) rfl (hb hby at_157) rfl (feq (by decide : ¬ ((3 : Int32) = (2 : Int32)))).2 (by decide) (by decide) ?_
        show Steps p.tables e below (T82.setTop (mkF m 185 #[.val (.int p0), .val (.int p1), .val (.int p2), .val (.int p3), .val (.int p4), .val (.int p5), .val (.int nn), .val (.ref b14), .val (.int (0 : Int32)), .val (.int (0 : Int32)), .val (.ref b_82), .val (.int (3 : Int32)), .unset, .unset, .unset, .unset, .unset] [])) _
        refine XS.aload X82.here hx rfl (hb hby at_185) rfl rfl ?_
        show Steps p.tables e below (T82.setTop (mkF m 187 #[.val (.int p0), .val (.int p1), .val (.int p2), .val (.int p3), .val (.int p4), .val (.int p5), .val (.int nn), .val (.ref b14), .val (.int (0 : Int32)), .val (.int (0 : Int32)), .val (.ref b_82), .val (.int (3 : Int32)), .unset, .unset, .unset, .unset, .unset] [(.ref b_82)])) _
        refine XS.iconst X82.here hx rfl (hb hby at_187) ?_
        show Steps p.tables e below (T82.setTop (mkF m 188 #[.val (.int p0), .val (.int p1), .val (.int p2), .val (.int p3), .val (.int p4), .val (.int p5), .val (.int nn), .val (.ref b14), .val (.int (0 : Int32)), .val (.int (0 : Int32)), .val (.ref b_82), .val (.int (3 : Int32)), .unset, .unset, .unset, .unset, .unset] [(.int (1 : Int32)), (.ref b_82)])) _
        refine X82.baloadBytes hx (j := (1 : Int32)) (v := (.int (own_sb nn (16 : Int32)))) (id Ar103.1) (State.isArrayOf_alike hZ.alike Ar103.2.1) Ar103.2.2 hin103 hat103 (g := (mkF m 188 #[.val (.int p0), .val (.int p1), .val (.int p2), .val (.int p3), .val (.int p4), .val (.int p5), .val (.int nn), .val (.ref b14), .val (.int (0 : Int32)), .val (.int (0 : Int32)), .val (.ref b_82), .val (.int (3 : Int32)), .unset, .unset, .unset, .unset, .unset] [(.int (1 : Int32)), (.ref b_82)])) rfl rfl (hb hby at_188) _ ?_
        show Steps p.tables e below (T82.setTop (mkF m 189 #[.val (.int p0), .val (.int p1), .val (.int p2), .val (.int p3), .val (.int p4), .val (.int p5), .val (.int nn), .val (.ref b14), .val (.int (0 : Int32)), .val (.int (0 : Int32)), .val (.ref b_82), .val (.int (3 : Int32)), .unset, .unset, .unset, .unset, .unset] [(.int (own_sb nn (16 : Int32)))])) _
        refine XS.sipush X82.here hx rfl (hb hby at_189) ?_
        show Steps p.tables e below (T82.setTop (mkF m 192 #[.val (.int p0), .val (.int p1), .val (.int p2), .val (.int p3), .val (.int p4), .val (.int p5), .val (.int nn), .val (.ref b14), .val (.int (0 : Int32)), .val (.int (0 : Int32)), .val (.ref b_82), .val (.int (3 : Int32)), .unset, .unset, .unset, .unset, .unset] [(.int (255 : Int32)), (.int (own_sb nn (16 : Int32)))])) _
        refine XS.iand X82.here hx rfl (hb hby at_192) rfl ?_
        show Steps p.tables e below (T82.setTop (mkF m 193 #[.val (.int p0), .val (.int p1), .val (.int p2), .val (.int p3), .val (.int p4), .val (.int p5), .val (.int nn), .val (.ref b14), .val (.int (0 : Int32)), .val (.int (0 : Int32)), .val (.ref b_82), .val (.int (3 : Int32)), .unset, .unset, .unset, .unset, .unset] [(.int ((own_sb nn (16 : Int32)) &&& (255 : Int32)))])) _
        refine XS.bipush X82.here hx rfl (hb hby at_193) ?_
        show Steps p.tables e below (T82.setTop (mkF m 195 #[.val (.int p0), .val (.int p1), .val (.int p2), .val (.int p3), .val (.int p4), .val (.int p5), .val (.int nn), .val (.ref b14), .val (.int (0 : Int32)), .val (.int (0 : Int32)), .val (.ref b_82), .val (.int (3 : Int32)), .unset, .unset, .unset, .unset, .unset] [(.int (16 : Int32)), (.int ((own_sb nn (16 : Int32)) &&& (255 : Int32)))])) _
        refine XS.ishl X82.here hx rfl (hb hby at_195) rfl ?_
        show Steps p.tables e below (T82.setTop (mkF m 196 #[.val (.int p0), .val (.int p1), .val (.int p2), .val (.int p3), .val (.int p4), .val (.int p5), .val (.int nn), .val (.ref b14), .val (.int (0 : Int32)), .val (.int (0 : Int32)), .val (.ref b_82), .val (.int (3 : Int32)), .unset, .unset, .unset, .unset, .unset] [(.int (((own_sb nn (16 : Int32)) &&& (255 : Int32)) <<< ((16 : Int32) &&& 31)))])) _
        refine XS.aload X82.here hx rfl (hb hby at_196) rfl rfl ?_
        show Steps p.tables e below (T82.setTop (mkF m 198 #[.val (.int p0), .val (.int p1), .val (.int p2), .val (.int p3), .val (.int p4), .val (.int p5), .val (.int nn), .val (.ref b14), .val (.int (0 : Int32)), .val (.int (0 : Int32)), .val (.ref b_82), .val (.int (3 : Int32)), .unset, .unset, .unset, .unset, .unset] [(.ref b_82), (.int (((own_sb nn (16 : Int32)) &&& (255 : Int32)) <<< ((16 : Int32) &&& 31)))])) _
        refine XS.iconst X82.here hx rfl (hb hby at_198) ?_
        show Steps p.tables e below (T82.setTop (mkF m 199 #[.val (.int p0), .val (.int p1), .val (.int p2), .val (.int p3), .val (.int p4), .val (.int p5), .val (.int nn), .val (.ref b14), .val (.int (0 : Int32)), .val (.int (0 : Int32)), .val (.ref b_82), .val (.int (3 : Int32)), .unset, .unset, .unset, .unset, .unset] [(.int (2 : Int32)), (.ref b_82), (.int (((own_sb nn (16 : Int32)) &&& (255 : Int32)) <<< ((16 : Int32) &&& 31)))])) _
        refine X82.baloadBytes hx (j := (2 : Int32)) (v := (.int (own_sb nn (8 : Int32)))) (id Ar104.1) (State.isArrayOf_alike hZ.alike Ar104.2.1) Ar104.2.2 hin104 hat104 (g := (mkF m 199 #[.val (.int p0), .val (.int p1), .val (.int p2), .val (.int p3), .val (.int p4), .val (.int p5), .val (.int nn), .val (.ref b14), .val (.int (0 : Int32)), .val (.int (0 : Int32)), .val (.ref b_82), .val (.int (3 : Int32)), .unset, .unset, .unset, .unset, .unset] [(.int (2 : Int32)), (.ref b_82), (.int (((own_sb nn (16 : Int32)) &&& (255 : Int32)) <<< ((16 : Int32) &&& 31)))])) rfl rfl (hb hby at_199) _ ?_
        show Steps p.tables e below (T82.setTop (mkF m 200 #[.val (.int p0), .val (.int p1), .val (.int p2), .val (.int p3), .val (.int p4), .val (.int p5), .val (.int nn), .val (.ref b14), .val (.int (0 : Int32)), .val (.int (0 : Int32)), .val (.ref b_82), .val (.int (3 : Int32)), .unset, .unset, .unset, .unset, .unset] [(.int (own_sb nn (8 : Int32))), (.int (((own_sb nn (16 : Int32)) &&& (255 : Int32)) <<< ((16 : Int32) &&& 31)))])) _
        refine XS.sipush X82.here hx rfl (hb hby at_200) ?_
        show Steps p.tables e below (T82.setTop (mkF m 203 #[.val (.int p0), .val (.int p1), .val (.int p2), .val (.int p3), .val (.int p4), .val (.int p5), .val (.int nn), .val (.ref b14), .val (.int (0 : Int32)), .val (.int (0 : Int32)), .val (.ref b_82), .val (.int (3 : Int32)), .unset, .unset, .unset, .unset, .unset] [(.int (255 : Int32)), (.int (own_sb nn (8 : Int32))), (.int (((own_sb nn (16 : Int32)) &&& (255 : Int32)) <<< ((16 : Int32) &&& 31)))])) _
        refine XS.iand X82.here hx rfl (hb hby at_203) rfl ?_
        show Steps p.tables e below (T82.setTop (mkF m 204 #[.val (.int p0), .val (.int p1), .val (.int p2), .val (.int p3), .val (.int p4), .val (.int p5), .val (.int nn), .val (.ref b14), .val (.int (0 : Int32)), .val (.int (0 : Int32)), .val (.ref b_82), .val (.int (3 : Int32)), .unset, .unset, .unset, .unset, .unset] [(.int ((own_sb nn (8 : Int32)) &&& (255 : Int32))), (.int (((own_sb nn (16 : Int32)) &&& (255 : Int32)) <<< ((16 : Int32) &&& 31)))])) _
        refine XS.bipush X82.here hx rfl (hb hby at_204) ?_
        show Steps p.tables e below (T82.setTop (mkF m 206 #[.val (.int p0), .val (.int p1), .val (.int p2), .val (.int p3), .val (.int p4), .val (.int p5), .val (.int nn), .val (.ref b14), .val (.int (0 : Int32)), .val (.int (0 : Int32)), .val (.ref b_82), .val (.int (3 : Int32)), .unset, .unset, .unset, .unset, .unset] [(.int (8 : Int32)), (.int ((own_sb nn (8 : Int32)) &&& (255 : Int32))), (.int (((own_sb nn (16 : Int32)) &&& (255 : Int32)) <<< ((16 : Int32) &&& 31)))])) _
        refine XS.ishl X82.here hx rfl (hb hby at_206) rfl ?_
        show Steps p.tables e below (T82.setTop (mkF m 207 #[.val (.int p0), .val (.int p1), .val (.int p2), .val (.int p3), .val (.int p4), .val (.int p5), .val (.int nn), .val (.ref b14), .val (.int (0 : Int32)), .val (.int (0 : Int32)), .val (.ref b_82), .val (.int (3 : Int32)), .unset, .unset, .unset, .unset, .unset] [(.int (((own_sb nn (8 : Int32)) &&& (255 : Int32)) <<< ((8 : Int32) &&& 31))), (.int (((own_sb nn (16 : Int32)) &&& (255 : Int32)) <<< ((16 : Int32) &&& 31)))])) _
        refine XS.ior X82.here hx rfl (hb hby at_207) rfl ?_
        show Steps p.tables e below (T82.setTop (mkF m 208 #[.val (.int p0), .val (.int p1), .val (.int p2), .val (.int p3), .val (.int p4), .val (.int p5), .val (.int nn), .val (.ref b14), .val (.int (0 : Int32)), .val (.int (0 : Int32)), .val (.ref b_82), .val (.int (3 : Int32)), .unset, .unset, .unset, .unset, .unset] [(.int ((((own_sb nn (16 : Int32)) &&& (255 : Int32)) <<< ((16 : Int32) &&& 31)) ||| (((own_sb nn (8 : Int32)) &&& (255 : Int32)) <<< ((8 : Int32) &&& 31))))])) _
        refine XS.aload X82.here hx rfl (hb hby at_208) rfl rfl ?_
        show Steps p.tables e below (T82.setTop (mkF m 210 #[.val (.int p0), .val (.int p1), .val (.int p2), .val (.int p3), .val (.int p4), .val (.int p5), .val (.int nn), .val (.ref b14), .val (.int (0 : Int32)), .val (.int (0 : Int32)), .val (.ref b_82), .val (.int (3 : Int32)), .unset, .unset, .unset, .unset, .unset] [(.ref b_82), (.int ((((own_sb nn (16 : Int32)) &&& (255 : Int32)) <<< ((16 : Int32) &&& 31)) ||| (((own_sb nn (8 : Int32)) &&& (255 : Int32)) <<< ((8 : Int32) &&& 31))))])) _
        refine XS.iconst X82.here hx rfl (hb hby at_210) ?_
        show Steps p.tables e below (T82.setTop (mkF m 211 #[.val (.int p0), .val (.int p1), .val (.int p2), .val (.int p3), .val (.int p4), .val (.int p5), .val (.int nn), .val (.ref b14), .val (.int (0 : Int32)), .val (.int (0 : Int32)), .val (.ref b_82), .val (.int (3 : Int32)), .unset, .unset, .unset, .unset, .unset] [(.int (3 : Int32)), (.ref b_82), (.int ((((own_sb nn (16 : Int32)) &&& (255 : Int32)) <<< ((16 : Int32) &&& 31)) ||| (((own_sb nn (8 : Int32)) &&& (255 : Int32)) <<< ((8 : Int32) &&& 31))))])) _
        refine X82.baloadBytes hx (j := (3 : Int32)) (v := (.int (own_sb nn (0 : Int32)))) (id Ar105.1) (State.isArrayOf_alike hZ.alike Ar105.2.1) Ar105.2.2 hin105 hat105 (g := (mkF m 211 #[.val (.int p0), .val (.int p1), .val (.int p2), .val (.int p3), .val (.int p4), .val (.int p5), .val (.int nn), .val (.ref b14), .val (.int (0 : Int32)), .val (.int (0 : Int32)), .val (.ref b_82), .val (.int (3 : Int32)), .unset, .unset, .unset, .unset, .unset] [(.int (3 : Int32)), (.ref b_82), (.int ((((own_sb nn (16 : Int32)) &&& (255 : Int32)) <<< ((16 : Int32) &&& 31)) ||| (((own_sb nn (8 : Int32)) &&& (255 : Int32)) <<< ((8 : Int32) &&& 31))))])) rfl rfl (hb hby at_211) _ ?_
        show Steps p.tables e below (T82.setTop (mkF m 212 #[.val (.int p0), .val (.int p1), .val (.int p2), .val (.int p3), .val (.int p4), .val (.int p5), .val (.int nn), .val (.ref b14), .val (.int (0 : Int32)), .val (.int (0 : Int32)), .val (.ref b_82), .val (.int (3 : Int32)), .unset, .unset, .unset, .unset, .unset] [(.int (own_sb nn (0 : Int32))), (.int ((((own_sb nn (16 : Int32)) &&& (255 : Int32)) <<< ((16 : Int32) &&& 31)) ||| (((own_sb nn (8 : Int32)) &&& (255 : Int32)) <<< ((8 : Int32) &&& 31))))])) _
        refine XS.sipush X82.here hx rfl (hb hby at_212) ?_
        show Steps p.tables e below (T82.setTop (mkF m 215 #[.val (.int p0), .val (.int p1), .val (.int p2), .val (.int p3), .val (.int p4), .val (.int p5), .val (.int nn), .val (.ref b14), .val (.int (0 : Int32)), .val (.int (0 : Int32)), .val (.ref b_82), .val (.int (3 : Int32)), .unset, .unset, .unset, .unset, .unset] [(.int (255 : Int32)), (.int (own_sb nn (0 : Int32))), (.int ((((own_sb nn (16 : Int32)) &&& (255 : Int32)) <<< ((16 : Int32) &&& 31)) ||| (((own_sb nn (8 : Int32)) &&& (255 : Int32)) <<< ((8 : Int32) &&& 31))))])) _
        refine XS.iand X82.here hx rfl (hb hby at_215) rfl ?_
        show Steps p.tables e below (T82.setTop (mkF m 216 #[.val (.int p0), .val (.int p1), .val (.int p2), .val (.int p3), .val (.int p4), .val (.int p5), .val (.int nn), .val (.ref b14), .val (.int (0 : Int32)), .val (.int (0 : Int32)), .val (.ref b_82), .val (.int (3 : Int32)), .unset, .unset, .unset, .unset, .unset] [(.int ((own_sb nn (0 : Int32)) &&& (255 : Int32))), (.int ((((own_sb nn (16 : Int32)) &&& (255 : Int32)) <<< ((16 : Int32) &&& 31)) ||| (((own_sb nn (8 : Int32)) &&& (255 : Int32)) <<< ((8 : Int32) &&& 31))))])) _
        refine XS.ior X82.here hx rfl (hb hby at_216) rfl ?_
        show Steps p.tables e below (T82.setTop (mkF m 217 #[.val (.int p0), .val (.int p1), .val (.int p2), .val (.int p3), .val (.int p4), .val (.int p5), .val (.int nn), .val (.ref b14), .val (.int (0 : Int32)), .val (.int (0 : Int32)), .val (.ref b_82), .val (.int (3 : Int32)), .unset, .unset, .unset, .unset, .unset] [(.int (((((own_sb nn (16 : Int32)) &&& (255 : Int32)) <<< ((16 : Int32) &&& 31)) ||| (((own_sb nn (8 : Int32)) &&& (255 : Int32)) <<< ((8 : Int32) &&& 31))) ||| ((own_sb nn (0 : Int32)) &&& (255 : Int32))))])) _
        refine XS.istore X82.here hx rfl (hb hby at_217) rfl (l' := #[.val (.int p0), .val (.int p1), .val (.int p2), .val (.int p3), .val (.int p4), .val (.int p5), .val (.int nn), .val (.ref b14), .val (.int (0 : Int32)), .val (.int (0 : Int32)), .val (.ref b_82), .val (.int (3 : Int32)), .val (.int (((((own_sb nn (16 : Int32)) &&& (255 : Int32)) <<< ((16 : Int32) &&& 31)) ||| (((own_sb nn (8 : Int32)) &&& (255 : Int32)) <<< ((8 : Int32) &&& 31))) ||| ((own_sb nn (0 : Int32)) &&& (255 : Int32)))), .unset, .unset, .unset, .unset]) rfl ?_
        show Steps p.tables e below (T82.setTop (mkF m 219 #[.val (.int p0), .val (.int p1), .val (.int p2), .val (.int p3), .val (.int p4), .val (.int p5), .val (.int nn), .val (.ref b14), .val (.int (0 : Int32)), .val (.int (0 : Int32)), .val (.ref b_82), .val (.int (3 : Int32)), .val (.int (((((own_sb nn (16 : Int32)) &&& (255 : Int32)) <<< ((16 : Int32) &&& 31)) ||| (((own_sb nn (8 : Int32)) &&& (255 : Int32)) <<< ((8 : Int32) &&& 31))) ||| ((own_sb nn (0 : Int32)) &&& (255 : Int32)))), .unset, .unset, .unset, .unset] [])) _
        refine XS.iload X82.here hx rfl (hb hby at_219) rfl ?_
        show Steps p.tables e below (T82.setTop (mkF m 221 #[.val (.int p0), .val (.int p1), .val (.int p2), .val (.int p3), .val (.int p4), .val (.int p5), .val (.int nn), .val (.ref b14), .val (.int (0 : Int32)), .val (.int (0 : Int32)), .val (.ref b_82), .val (.int (3 : Int32)), .val (.int (((((own_sb nn (16 : Int32)) &&& (255 : Int32)) <<< ((16 : Int32) &&& 31)) ||| (((own_sb nn (8 : Int32)) &&& (255 : Int32)) <<< ((8 : Int32) &&& 31))) ||| ((own_sb nn (0 : Int32)) &&& (255 : Int32)))), .unset, .unset, .unset, .unset] [(.int (((((own_sb nn (16 : Int32)) &&& (255 : Int32)) <<< ((16 : Int32) &&& 31)) ||| (((own_sb nn (8 : Int32)) &&& (255 : Int32)) <<< ((8 : Int32) &&& 31))) ||| ((own_sb nn (0 : Int32)) &&& (255 : Int32))))])) _
        refine XS.iload X82.here hx rfl (hb hby at_221) rfl ?_
        show Steps p.tables e below (T82.setTop (mkF m 223 #[.val (.int p0), .val (.int p1), .val (.int p2), .val (.int p3), .val (.int p4), .val (.int p5), .val (.int nn), .val (.ref b14), .val (.int (0 : Int32)), .val (.int (0 : Int32)), .val (.ref b_82), .val (.int (3 : Int32)), .val (.int (((((own_sb nn (16 : Int32)) &&& (255 : Int32)) <<< ((16 : Int32) &&& 31)) ||| (((own_sb nn (8 : Int32)) &&& (255 : Int32)) <<< ((8 : Int32) &&& 31))) ||| ((own_sb nn (0 : Int32)) &&& (255 : Int32)))), .unset, .unset, .unset, .unset] [(.int nn), (.int (((((own_sb nn (16 : Int32)) &&& (255 : Int32)) <<< ((16 : Int32) &&& 31)) ||| (((own_sb nn (8 : Int32)) &&& (255 : Int32)) <<< ((8 : Int32) &&& 31))) ||| ((own_sb nn (0 : Int32)) &&& (255 : Int32))))])) _
        refine XS.icmpYes X82.here hx rfl (pc0 := 223) (pc' := 228) rfl (hb hby at_223) rfl (teq (own_d3 Bn)).1 (by decide) (by decide) ?_
        show Steps p.tables e below (T82.setTop (mkF m 228 #[.val (.int p0), .val (.int p1), .val (.int p2), .val (.int p3), .val (.int p4), .val (.int p5), .val (.int nn), .val (.ref b14), .val (.int (0 : Int32)), .val (.int (0 : Int32)), .val (.ref b_82), .val (.int (3 : Int32)), .val (.int (((((own_sb nn (16 : Int32)) &&& (255 : Int32)) <<< ((16 : Int32) &&& 31)) ||| (((own_sb nn (8 : Int32)) &&& (255 : Int32)) <<< ((8 : Int32) &&& 31))) ||| ((own_sb nn (0 : Int32)) &&& (255 : Int32)))), .unset, .unset, .unset, .unset] [])) _
        refine XS.iload X82.here hx rfl (hb hby at_228) rfl ?_
        show Steps p.tables e below (T82.setTop (mkF m 230 #[.val (.int p0), .val (.int p1), .val (.int p2), .val (.int p3), .val (.int p4), .val (.int p5), .val (.int nn), .val (.ref b14), .val (.int (0 : Int32)), .val (.int (0 : Int32)), .val (.ref b_82), .val (.int (3 : Int32)), .val (.int (((((own_sb nn (16 : Int32)) &&& (255 : Int32)) <<< ((16 : Int32) &&& 31)) ||| (((own_sb nn (8 : Int32)) &&& (255 : Int32)) <<< ((8 : Int32) &&& 31))) ||| ((own_sb nn (0 : Int32)) &&& (255 : Int32)))), .unset, .unset, .unset, .unset] [(.int nn)])) _
        refine XS.ifNo X82.here hx rfl (hb hby at_230) rfl ((if0 _ _).trans (teq (own_z0 hc18 Bn)).2) ?_
        show Steps p.tables e below (T82.setTop (mkF m 233 #[.val (.int p0), .val (.int p1), .val (.int p2), .val (.int p3), .val (.int p4), .val (.int p5), .val (.int nn), .val (.ref b14), .val (.int (0 : Int32)), .val (.int (0 : Int32)), .val (.ref b_82), .val (.int (3 : Int32)), .val (.int (((((own_sb nn (16 : Int32)) &&& (255 : Int32)) <<< ((16 : Int32) &&& 31)) ||| (((own_sb nn (8 : Int32)) &&& (255 : Int32)) <<< ((8 : Int32) &&& 31))) ||| ((own_sb nn (0 : Int32)) &&& (255 : Int32)))), .unset, .unset, .unset, .unset] [])) _
        refine XS.iconst X82.here hx rfl (hb hby at_233) ?_
        show Steps p.tables e below (T82.setTop (mkF m 234 #[.val (.int p0), .val (.int p1), .val (.int p2), .val (.int p3), .val (.int p4), .val (.int p5), .val (.int nn), .val (.ref b14), .val (.int (0 : Int32)), .val (.int (0 : Int32)), .val (.ref b_82), .val (.int (3 : Int32)), .val (.int (((((own_sb nn (16 : Int32)) &&& (255 : Int32)) <<< ((16 : Int32) &&& 31)) ||| (((own_sb nn (8 : Int32)) &&& (255 : Int32)) <<< ((8 : Int32) &&& 31))) ||| ((own_sb nn (0 : Int32)) &&& (255 : Int32)))), .unset, .unset, .unset, .unset] [(.int (1 : Int32))])) _
        exact retN X82 hx (t := .boolean) Bd.returns (by simp) (hb hby at_234) hr
      · show Q0 Z _ _ _ _ _ _ h0 n0 _ T82.heap _
        exact ⟨rfl, N82⟩
set_option maxRecDepth 65536 in
set_option maxHeartbeats 40000000 in
theorem comes_1 {Post : Tables → Env → Array Value → State → Outcome → State → Prop} (hpost : ∀ tb e args s v u, (limb_1_1.after args s (.returned v) u = true ∧ limb_1_2.after args s (.returned v) u = true ∧ True) → FrameEnd s (.returned v) u (Jvm.fieldLocs frame_1_writes args s ++ Jvm.arrayLocs frame_1_arrays args s ++ Jvm.staticLocs frame_1_statics s) 16 157312 → Post tb e args s (.returned v) u) :
    ArmFor flags0 classFile x code maxLocals ret World_1 tables_1 room_1 Calls_1 rest_1 Pre_1 Post := by
  intro l hfl _ _ p e ha hc hk s m args below hf hA hF happ hP
  obtain ⟨hcalls, hrest, hpre⟩ := hP
  obtain ⟨-, -, -, hnamed, -, -, -, hat⟩ := (Spec.applies_iff hf).mp happ
  obtain ⟨hg, hn⟩ := and_e (Cond.before_iff.mp (show (Jvm.Cond.and given_1 narrow_1).before args s = true from hpre))
  obtain ⟨g1, g2⟩ := and_e hg
  obtain ⟨g3, g4⟩ := and_e g2
  obtain ⟨g5, g6⟩ := and_e g4
  obtain ⟨g7, g8⟩ := and_e g6
  obtain ⟨g9, g10⟩ := and_e g8
  obtain ⟨g11, g12⟩ := and_e g10
  obtain ⟨w0, w1, w2, w3, w4, w5, rfl⟩ : ∃ w0 w1 w2 w3 w4 w5 : Value, args = #[w0, w1, w2, w3, w4, w5] := by
    have hs : args.size = 6 := by simpa [Cond.value, given_1] using g1
    obtain ⟨L⟩ := args
    match L, hs with
    | [w0, w1, w2, w3, w4, w5], _ => exact ⟨w0, w1, w2, w3, w4, w5, rfl⟩
  have hw := fun d (hd : d ∈ tables_1) => atoms_spec (ws := Jvm.Cond.code x code maxLocals ret :: tables_1) hat d (List.mem_cons_of_mem _ hd)
  obtain ⟨i0, ei0⟩ := is_v g3
  obtain rfl : w0 = (.int i0) := Option.some.inj ei0
  obtain ⟨i1, ei1⟩ := is_v g5
  obtain rfl : w1 = (.int i1) := Option.some.inj ei1
  obtain ⟨i2, ei2⟩ := is_v g7
  obtain rfl : w2 = (.int i2) := Option.some.inj ei2
  obtain ⟨i3, ei3⟩ := is_v g9
  obtain rfl : w3 = (.int i3) := Option.some.inj ei3
  obtain ⟨i4, ei4⟩ := is_v g11
  obtain rfl : w4 = (.int i4) := Option.some.inj ei4
  obtain ⟨i5, ei5⟩ := is_v g12
  obtain rfl : w5 = (.int i5) := Option.some.inj ei5
  obtain ⟨n, o, h1, h2, h3, _, L, rfl, ⟨rfl, N⟩, hq⟩ := rm0 l s _ hw tables_1 i0 i1 i2 i3 i4 i5 s.heap s.heap.size (Nat.le_refl _) p e ha hc hk s m _ below hf ((Spec.applies_iff_loose hf).mp happ).1 ⟨rfl, State.Warmed39.refl s, rfl⟩ trivial
  refine ⟨n, _, h1, h2, h3, hpost _ _ _ _ _ _ ⟨Cond.after_iff.mpr rfl, Cond.after_iff.mpr (eq_i res_at (Term.int_eval (1)) rfl), trivial⟩ ⟨hq.1, hq.2.1, (hq.2.2.sift fun y hy => Or.inr (N y hy)).mono (by decide) (by decide)⟩⟩
theorem main_1_1 : Claimed_1_1 := comes_1 fun _ _ _ _ _ _ h hF => ⟨h.1, hF⟩
theorem main_1_2 : Claimed_1_2 := comes_1 fun _ _ _ _ _ _ h hF => ⟨h.2.1, hF⟩
end Jvm.Pilot.@@N@@
namespace Jvm.Pilot.@@N@@
open Jvm Jvm.ClassFile Sem Op Lib Jvm.Free Jvm.Stand Jvm.Pilot.@@N@@.Jvm.D
/-! MADE BY PROGRAM (witnessworld.py) out of the Statement's table words and the real class files: 16 classes; the members and pool entries that the words name. The judged class is class 1, her method 1. -/
namespace start1
open Jvm.ClassFile
def u (s : String) : CpInfo := .utf8 (stringToUtf16 s)
/-- a pool by its gaps: so many unusable entries, then the entry; so many at the end -/
def gap : Nat → List CpInfo → List CpInfo
  | 0, r => r
  | n + 1, r => .unusable :: gap n r
def poolList (es : List (Nat × CpInfo)) (last : Nat) : List CpInfo := es.foldr (fun e r => gap e.1 (e.2 :: r)) (gap last [])
def pool (es : List (Nat × CpInfo)) (last : Nat) : Array CpInfo := ⟨poolList es last⟩
def fileOf (pool : Array CpInfo) (this : Nat) (attrs : Array Attribute := #[]) (ms : Array MethodInfo := #[]) (fl : Nat := 33) (sup : Nat := 0) (ifs : Array Nat := #[]) (fds : Array FieldInfo := #[]) : ClassFile where
  minorVersion := 0
  majorVersion := 65
  constantPool := pool
  accessFlags := fl
  thisClass := this
  superClass := sup
  interfaces := ifs
  fields := fds
  methods := ms
  attributes := attrs
def plain (name : String) (sup : Option ClassId) : Class where
  name := name
  kind := .ordinary
  loader := none
  accessFlags := 33
  super := sup
  interfaces := #[]
  cf := none
  fields := #[]
  methods := #[]
  instanceTypes := #[]
  staticTypes := #[]
  resolved := #[]
  callSites := []
  init := .initialized
  statics := none
  mirror := none

def pool0 : Array CpInfo := pool [(5, u "<init>"), (0, u "()V"), (1, .class_ 10), (1, u "java/lang/Object")] 113

def k0m0 : Method := { name := "<init>", desc := "()V", sig := { parameters := [], returnType := none }, accessFlags := 1, code := none }
/-- java/lang/Object -/
def k0 : Class := { plain "java/lang/Object" none with
  accessFlags := 33
  interfaces := #[]
  cf := some (fileOf pool0 8 #[] #[{ accessFlags := 1, nameIndex := 5, descriptorIndex := 6, attributes := #[] }] 33 0 #[] #[])
  fields := #[]
  methods := #[k0m0]
  instanceTypes := #[]
  staticTypes := #[]
  resolved := Array.replicate 124 none
  statics := none }

def pool1 : Array CpInfo := pool [(2, .class_ 4), (1, u "java/lang/Object"), (0, u "<init>"), (0, u "()V"), (0, .integer 65535), (0, .integer 2147483647), (0, .methodref 10 11), (0, .class_ 12), (0, .nameAndType 13 14), (0, u "com/example/narada/narada/mariner/MarinerFrameEncoder"), (0, u "block"), (0, u "([B)[B"), (0, .integer 65536), (0, .class_ 17), (0, u "com/example/narada/narada/mariner/MarinerFrameEncoderBlockPinLaw"), (2, u "law"), (0, u "(IIIIII)Z")] 5

def k1m0 : Method := { name := "<init>", desc := "()V", sig := { parameters := [], returnType := none }, accessFlags := 2, code := none }
def k1c1 : Code := { maxStack := 3, maxLocals := 17, code := code, exceptionTable := #[], attributes := #[] }
def k1m1 : Method := { name := "law", desc := "(IIIIII)Z", sig := { parameters := [.int, .int, .int, .int, .int, .int], returnType := some .boolean }, accessFlags := 9, code := some k1c1 }
/-- com/example/narada/narada/mariner/MarinerFrameEncoderBlockPinLaw -/
def k1 : Class := { plain "com/example/narada/narada/mariner/MarinerFrameEncoderBlockPinLaw" (some 0) with
  accessFlags := 49
  interfaces := #[]
  cf := some (fileOf pool1 16 #[] #[{ accessFlags := 2, nameIndex := 5, descriptorIndex := 6, attributes := #[] }, { accessFlags := 9, nameIndex := 20, descriptorIndex := 21, attributes := #[] }] 49 2 #[] #[])
  fields := #[]
  methods := #[k1m0, k1m1]
  instanceTypes := #[]
  staticTypes := #[]
  resolved := Array.replicate 27 none
  statics := none }

def pool2 : Array CpInfo := pool [(2, .class_ 4), (1, u "java/lang/Object"), (0, u "<init>"), (0, u "()V"), (0, .class_ 8), (0, u "java/lang/Integer"), (0, .methodref 7 10), (0, .nameAndType 11 12), (0, u "numberOfLeadingZeros"), (0, u "(I)I"), (0, .methodref 14 15), (0, .class_ 16), (0, .nameAndType 17 18), (0, u "java/lang/Math"), (0, u "max"), (0, u "(II)I"), (0, .methodref 20 21), (0, .class_ 22), (0, .nameAndType 23 24), (0, u "java/lang/System"), (0, u "arraycopy"), (0, u "(Ljava/lang/Object;ILjava/lang/Object;II)V"), (0, .class_ 26), (0, u "com/example/narada/narada/mariner/MarinerFrameEncoder"), (2, u "block"), (0, u "([B)[B")] 5

def k2m0 : Method := { name := "<init>", desc := "()V", sig := { parameters := [], returnType := none }, accessFlags := 2, code := none }
def k2c1 : Code := { maxStack := 6, maxLocals := 5, code := prog_8_method_2_code, exceptionTable := #[], attributes := #[] }
def k2m1 : Method := { name := "block", desc := "([B)[B", sig := { parameters := [(.array .byte)], returnType := some (.array .byte) }, accessFlags := 8, code := some k2c1 }
/-- com/example/narada/narada/mariner/MarinerFrameEncoder -/
def k2 : Class := { plain "com/example/narada/narada/mariner/MarinerFrameEncoder" (some 0) with
  accessFlags := 32
  interfaces := #[]
  cf := some (fileOf pool2 25 #[] #[{ accessFlags := 2, nameIndex := 5, descriptorIndex := 6, attributes := #[] }, { accessFlags := 8, nameIndex := 29, descriptorIndex := 30, attributes := #[] }] 32 2 #[] #[])
  fields := #[]
  methods := #[k2m0, k2m1]
  instanceTypes := #[]
  staticTypes := #[]
  resolved := Array.replicate 36 none
  statics := none }

def pool3 : Array CpInfo := pool [(1, .class_ 2), (0, u "java/io/Serializable"), (0, .class_ 4), (0, u "java/lang/Object")] 2

/-- java/io/Serializable -/
def k3 : Class := { plain "java/io/Serializable" (some 0) with
  accessFlags := 1537
  interfaces := #[]
  cf := some (fileOf pool3 1 #[] #[] 1537 3 #[] #[])
  fields := #[]
  methods := #[]
  instanceTypes := #[]
  staticTypes := #[]
  resolved := Array.replicate 7 none
  statics := none }

def pool4 : Array CpInfo := pool [(2, .class_ 4), (1, u "java/lang/Object"), (0, u "<init>"), (0, u "()V"), (1, .class_ 10), (1, u "java/lang/Number"), (2, .class_ 14), (0, u "java/io/Serializable"), (0, u "serialVersionUID"), (0, u "J")] 20

def k4m0 : Method := { name := "<init>", desc := "()V", sig := { parameters := [], returnType := none }, accessFlags := 1, code := none }
/-- java/lang/Number -/
def k4 : Class := { plain "java/lang/Number" (some 0) with
  accessFlags := 1057
  interfaces := #[3]
  cf := some (fileOf pool4 8 #[] #[{ accessFlags := 1, nameIndex := 5, descriptorIndex := 6, attributes := #[] }] 1057 2 #[13] #[{ accessFlags := 26, nameIndex := 15, descriptorIndex := 16, attributes := #[] }])
  fields := #[{ name := "serialVersionUID", type := .long, accessFlags := 26, slot := 0, constantValue := 0 }]
  methods := #[k4m0]
  instanceTypes := #[]
  staticTypes := #[.long]
  resolved := Array.replicate 37 none
  statics := none }

def pool5 : Array CpInfo := pool [(1, .class_ 2), (0, u "java/lang/Comparable"), (0, .class_ 4), (0, u "java/lang/Object")] 7

/-- java/lang/Comparable -/
def k5 : Class := { plain "java/lang/Comparable" (some 0) with
  accessFlags := 1537
  interfaces := #[]
  cf := some (fileOf pool5 1 #[] #[] 1537 3 #[] #[])
  fields := #[]
  methods := #[]
  instanceTypes := #[]
  staticTypes := #[]
  resolved := Array.replicate 12 none
  statics := none }

def pool6 : Array CpInfo := pool [(1, .class_ 2), (0, u "java/lang/constant/Constable"), (0, .class_ 4), (0, u "java/lang/Object")] 6

/-- java/lang/constant/Constable -/
def k6 : Class := { plain "java/lang/constant/Constable" (some 0) with
  accessFlags := 1537
  interfaces := #[]
  cf := some (fileOf pool6 1 #[] #[] 1537 3 #[] #[])
  fields := #[]
  methods := #[]
  instanceTypes := #[]
  staticTypes := #[]
  resolved := Array.replicate 11 none
  statics := none }

def pool7 : Array CpInfo := pool [(1, .class_ 2), (0, u "java/lang/constant/ConstantDesc"), (0, .class_ 4), (0, u "java/lang/Object")] 32

/-- java/lang/constant/ConstantDesc -/
def k7 : Class := { plain "java/lang/constant/ConstantDesc" (some 0) with
  accessFlags := 1537
  interfaces := #[]
  cf := some (fileOf pool7 1 #[] #[] 1537 3 #[] #[])
  fields := #[]
  methods := #[]
  instanceTypes := #[]
  staticTypes := #[]
  resolved := Array.replicate 37 none
  statics := none }

def pool8 : Array CpInfo := pool [(1, .class_ 2), (0, u "java/lang/Integer"), (16, u "digits"), (0, u "[C"), (32, u "numberOfLeadingZeros"), (0, u "(I)I"), (30, u "DigitOnes"), (0, u "[B"), (2, u "DigitTens"), (99, .class_ 190), (0, u "java/lang/Integer$IntegerCache"), (3, u "I"), (8, .class_ 204), (0, u "java/lang/Number"), (2, u "value"), (56, .integer 65536), (37, u "TYPE"), (0, u "Ljava/lang/Class;"), (0, .class_ 305), (0, u "java/lang/Comparable"), (0, .class_ 307), (0, u "java/lang/constant/Constable"), (0, .class_ 309), (0, u "java/lang/constant/ConstantDesc"), (0, u "MIN_VALUE"), (1, u "MAX_VALUE"), (3, u "SIZE"), (1, u "BYTES"), (1, u "serialVersionUID"), (0, u "J")] 131

def k8c0 : Code := { maxStack := 3, maxLocals := 2, code := jdk_33_method_47_code, exceptionTable := #[], attributes := #[] }
def k8m0 : Method := { name := "numberOfLeadingZeros", desc := "(I)I", sig := { parameters := [.int], returnType := some .int }, accessFlags := 9, code := some k8c0 }
/-- java/lang/Integer -/
def k8 : Class := { plain "java/lang/Integer" (some 4) with
  accessFlags := 49
  interfaces := #[5, 6, 7]
  cf := some (fileOf pool8 1 #[.nestMembers #[189]] #[{ accessFlags := 9, nameIndex := 53, descriptorIndex := 54, attributes := #[] }] 49 203 #[304, 306, 308] #[{ accessFlags := 25, nameIndex := 310, descriptorIndex := 194, attributes := #[] }, { accessFlags := 25, nameIndex := 312, descriptorIndex := 194, attributes := #[] }, { accessFlags := 25, nameIndex := 302, descriptorIndex := 303, attributes := #[] }, { accessFlags := 24, nameIndex := 19, descriptorIndex := 20, attributes := #[] }, { accessFlags := 24, nameIndex := 89, descriptorIndex := 86, attributes := #[] }, { accessFlags := 24, nameIndex := 85, descriptorIndex := 86, attributes := #[] }, { accessFlags := 18, nameIndex := 207, descriptorIndex := 194, attributes := #[] }, { accessFlags := 25, nameIndex := 316, descriptorIndex := 194, attributes := #[] }, { accessFlags := 25, nameIndex := 318, descriptorIndex := 194, attributes := #[] }, { accessFlags := 26, nameIndex := 320, descriptorIndex := 321, attributes := #[] }])
  fields := #[{ name := "MIN_VALUE", type := .int, accessFlags := 25, slot := 0, constantValue := 0 }, { name := "MAX_VALUE", type := .int, accessFlags := 25, slot := 1, constantValue := 0 }, { name := "TYPE", type := (.object "java/lang/Class"), accessFlags := 25, slot := 2, constantValue := 0 }, { name := "digits", type := (.array .char), accessFlags := 24, slot := 3, constantValue := 0 }, { name := "DigitTens", type := (.array .byte), accessFlags := 24, slot := 4, constantValue := 0 }, { name := "DigitOnes", type := (.array .byte), accessFlags := 24, slot := 5, constantValue := 0 }, { name := "value", type := .int, accessFlags := 18, slot := 0, constantValue := 0 }, { name := "SIZE", type := .int, accessFlags := 25, slot := 6, constantValue := 0 }, { name := "BYTES", type := .int, accessFlags := 25, slot := 7, constantValue := 0 }, { name := "serialVersionUID", type := .long, accessFlags := 26, slot := 8, constantValue := 0 }]
  methods := #[k8m0]
  instanceTypes := #[.int]
  staticTypes := #[.int, .int, (.object "java/lang/Class"), (.array .char), (.array .byte), (.array .byte), .int, .int, .long]
  resolved := Array.replicate 453 none
  statics := none }

def pool9 : Array CpInfo := pool [(1, .class_ 2), (0, u "java/lang/Math"), (1, .class_ 6), (1, u "java/lang/Object"), (0, u "<init>"), (0, u "()V"), (89, .class_ 100), (1, u "java/lang/Math$RandomNumberGeneratorHolder"), (71, u "negativeZeroFloatBits"), (0, u "J"), (2, u "negativeZeroDoubleBits"), (21, u "max"), (46, u "$assertionsDisabled"), (0, u "Z"), (88, u "(II)I"), (2, u "twoToTheDoubleScaleDown"), (0, u "D"), (4, u "twoToTheDoubleScaleUp"), (9, u "E"), (3, u "PI"), (2, u "TAU"), (2, u "DEGREES_TO_RADIANS"), (0, u "RADIANS_TO_DEGREES")] 94

def k9m0 : Method := { name := "<init>", desc := "()V", sig := { parameters := [], returnType := none }, accessFlags := 2, code := none }
def k9c1 : Code := { maxStack := 2, maxLocals := 2, code := jdk_29_method_65_code, exceptionTable := #[], attributes := #[] }
def k9m1 : Method := { name := "max", desc := "(II)I", sig := { parameters := [.int, .int], returnType := some .int }, accessFlags := 9, code := some k9c1 }
/-- java/lang/Math -/
def k9 : Class := { plain "java/lang/Math" (some 0) with
  accessFlags := 49
  interfaces := #[]
  cf := some (fileOf pool9 1 #[.nestMembers #[98]] #[{ accessFlags := 2, nameIndex := 7, descriptorIndex := 8, attributes := #[] }, { accessFlags := 9, nameIndex := 198, descriptorIndex := 335, attributes := #[] }] 49 4 #[] #[{ accessFlags := 25, nameIndex := 354, descriptorIndex := 339, attributes := #[] }, { accessFlags := 25, nameIndex := 358, descriptorIndex := 339, attributes := #[] }, { accessFlags := 25, nameIndex := 361, descriptorIndex := 339, attributes := #[] }, { accessFlags := 26, nameIndex := 364, descriptorIndex := 339, attributes := #[] }, { accessFlags := 26, nameIndex := 365, descriptorIndex := 339, attributes := #[] }, { accessFlags := 26, nameIndex := 172, descriptorIndex := 173, attributes := #[] }, { accessFlags := 26, nameIndex := 176, descriptorIndex := 173, attributes := #[] }, { accessFlags := 8, nameIndex := 344, descriptorIndex := 339, attributes := #[] }, { accessFlags := 8, nameIndex := 338, descriptorIndex := 339, attributes := #[] }, { accessFlags := 4120, nameIndex := 245, descriptorIndex := 246, attributes := #[] }])
  fields := #[{ name := "E", type := .double, accessFlags := 25, slot := 0, constantValue := 0 }, { name := "PI", type := .double, accessFlags := 25, slot := 1, constantValue := 0 }, { name := "TAU", type := .double, accessFlags := 25, slot := 2, constantValue := 0 }, { name := "DEGREES_TO_RADIANS", type := .double, accessFlags := 26, slot := 3, constantValue := 0 }, { name := "RADIANS_TO_DEGREES", type := .double, accessFlags := 26, slot := 4, constantValue := 0 }, { name := "negativeZeroFloatBits", type := .long, accessFlags := 26, slot := 5, constantValue := 0 }, { name := "negativeZeroDoubleBits", type := .long, accessFlags := 26, slot := 6, constantValue := 0 }, { name := "twoToTheDoubleScaleUp", type := .double, accessFlags := 8, slot := 7, constantValue := 0 }, { name := "twoToTheDoubleScaleDown", type := .double, accessFlags := 8, slot := 8, constantValue := 0 }, { name := "$assertionsDisabled", type := .boolean, accessFlags := 4120, slot := 9, constantValue := 0 }]
  methods := #[k9m0, k9m1]
  instanceTypes := #[]
  staticTypes := #[.double, .double, .double, .double, .double, .long, .long, .double, .double, .boolean]
  resolved := Array.replicate 460 none
  statics := none }

def pool10 : Array CpInfo := pool [(2, .class_ 4), (1, u "java/lang/Object"), (0, u "<init>"), (0, u "()V"), (1, .class_ 10), (1, u "java/lang/System"), (0, u "allowSecurityManager"), (0, u "I"), (16, u "cons"), (0, u "Ljava/io/Console;"), (77, .class_ 110), (1, u "java/lang/System$CallersHolder"), (43, u "initialErrStream"), (0, u "Ljava/io/PrintStream;"), (19, u "security"), (0, u "Ljava/lang/SecurityManager;"), (31, .class_ 209), (0, u "java/lang/System$1"), (7, u "props"), (0, u "Ljava/util/Properties;"), (2, u "lineSeparator"), (0, u "Ljava/lang/String;"), (96, .class_ 321), (1, u "java/lang/System$LoggerFinder"), (5, .class_ 328), (0, u "java/lang/System$Logger"), (67, u "err"), (2, u "out"), (91, u "notSupportedJnuEncoding"), (15, u "in"), (17, u "initialIn"), (0, u "Ljava/io/InputStream;"), (35, u "bootLayer"), (0, u "Ljava/lang/ModuleLayer;"), (99, .class_ 664), (0, u "java/lang/System$2"), (9, u "NEVER"), (2, u "MAYBE"), (49, u "arraycopy"), (0, u "(Ljava/lang/Object;ILjava/lang/Object;II)V"), (72, .class_ 802), (0, u "java/lang/System$Logger$Level")] 31

def k10m0 : Method := { name := "<init>", desc := "()V", sig := { parameters := [], returnType := none }, accessFlags := 2, code := none }
def k10m1 : Method := { name := "arraycopy", desc := "(Ljava/lang/Object;ILjava/lang/Object;II)V", sig := { parameters := [(.object "java/lang/Object"), .int, (.object "java/lang/Object"), .int, .int], returnType := none }, accessFlags := 265, code := none }
/-- java/lang/System -/
def k10 : Class := { plain "java/lang/System" (some 0) with
  accessFlags := 49
  interfaces := #[]
  cf := some (fileOf pool10 8 #[.nestMembers #[319, 327, 801, 108, 663, 208]] #[{ accessFlags := 2, nameIndex := 5, descriptorIndex := 6, attributes := #[] }, { accessFlags := 265, nameIndex := 727, descriptorIndex := 728, attributes := #[] }] 49 2 #[] #[{ accessFlags := 25, nameIndex := 507, descriptorIndex := 526, attributes := #[] }, { accessFlags := 25, nameIndex := 399, descriptorIndex := 155, attributes := #[] }, { accessFlags := 25, nameIndex := 396, descriptorIndex := 155, attributes := #[] }, { accessFlags := 10, nameIndex := 525, descriptorIndex := 526, attributes := #[] }, { accessFlags := 26, nameIndex := 674, descriptorIndex := 12, attributes := #[] }, { accessFlags := 26, nameIndex := 677, descriptorIndex := 12, attributes := #[] }, { accessFlags := 10, nameIndex := 11, descriptorIndex := 12, attributes := #[] }, { accessFlags := 74, nameIndex := 175, descriptorIndex := 176, attributes := #[] }, { accessFlags := 10, nameIndex := 491, descriptorIndex := 222, attributes := #[] }, { accessFlags := 74, nameIndex := 29, descriptorIndex := 30, attributes := #[] }, { accessFlags := 74, nameIndex := 154, descriptorIndex := 155, attributes := #[] }, { accessFlags := 10, nameIndex := 217, descriptorIndex := 218, attributes := #[] }, { accessFlags := 10, nameIndex := 221, descriptorIndex := 222, attributes := #[] }, { accessFlags := 8, nameIndex := 562, descriptorIndex := 563, attributes := #[] }])
  fields := #[{ name := "in", type := (.object "java/io/InputStream"), accessFlags := 25, slot := 0, constantValue := 0 }, { name := "out", type := (.object "java/io/PrintStream"), accessFlags := 25, slot := 1, constantValue := 0 }, { name := "err", type := (.object "java/io/PrintStream"), accessFlags := 25, slot := 2, constantValue := 0 }, { name := "initialIn", type := (.object "java/io/InputStream"), accessFlags := 10, slot := 3, constantValue := 0 }, { name := "NEVER", type := .int, accessFlags := 26, slot := 4, constantValue := 0 }, { name := "MAYBE", type := .int, accessFlags := 26, slot := 5, constantValue := 0 }, { name := "allowSecurityManager", type := .int, accessFlags := 10, slot := 6, constantValue := 0 }, { name := "security", type := (.object "java/lang/SecurityManager"), accessFlags := 74, slot := 7, constantValue := 0 }, { name := "notSupportedJnuEncoding", type := (.object "java/lang/String"), accessFlags := 10, slot := 8, constantValue := 0 }, { name := "cons", type := (.object "java/io/Console"), accessFlags := 74, slot := 9, constantValue := 0 }, { name := "initialErrStream", type := (.object "java/io/PrintStream"), accessFlags := 74, slot := 10, constantValue := 0 }, { name := "props", type := (.object "java/util/Properties"), accessFlags := 10, slot := 11, constantValue := 0 }, { name := "lineSeparator", type := (.object "java/lang/String"), accessFlags := 10, slot := 12, constantValue := 0 }, { name := "bootLayer", type := (.object "java/lang/ModuleLayer"), accessFlags := 8, slot := 13, constantValue := 0 }]
  methods := #[k10m0, k10m1]
  instanceTypes := #[]
  staticTypes := #[(.object "java/io/InputStream"), (.object "java/io/PrintStream"), (.object "java/io/PrintStream"), (.object "java/io/InputStream"), .int, .int, .int, (.object "java/lang/SecurityManager"), (.object "java/lang/String"), (.object "java/io/Console"), (.object "java/io/PrintStream"), (.object "java/util/Properties"), (.object "java/lang/String"), (.object "java/lang/ModuleLayer")]
  resolved := Array.replicate 834 none
  statics := none }

def pool11 : Array CpInfo := pool [(1, u "java/lang/Cloneable"), (0, .class_ 1), (0, u "java/lang/Object"), (0, .class_ 3)] 3

/-- java/lang/Cloneable -/
def k11 : Class := { plain "java/lang/Cloneable" (some 0) with
  accessFlags := 1537
  interfaces := #[]
  cf := some (fileOf pool11 2 #[] #[] 1537 4 #[] #[])
  fields := #[]
  methods := #[]
  instanceTypes := #[]
  staticTypes := #[]
  resolved := Array.replicate 8 none
  statics := none }

/-- the primitive byte -/
def k12 : Class := { plain "byte" none with kind := .primitive 'B', accessFlags := 0x411 }
/-- [B -/
def k13 : Class := { plain "[B" (some 0) with kind := .array 12 .byte, interfaces := #[11, 3], accessFlags := 1041 }

/-- the primitive int -/
def k14 : Class := { plain "int" none with kind := .primitive 'I', accessFlags := 0x411 }
/-- [I -/
def k15 : Class := { plain "[I" (some 0) with kind := .array 14 .int, interfaces := #[11, 3], accessFlags := 1041 }

def heap : Heap := #[]
def classes : Array Class := #[k0, k1, k2, k3, k4, k5, k6, k7, k8, k9, k10, k11, k12, k13, k14, k15]
def interned : List (Array UInt16 × Addr) := []
def slotsUsed : Nat := 0
def theMethod : MethodId := ⟨1, 1⟩
def args0 : Array Value := #[.int 5, .int 6, .int 7, .int 8, .int 9, .int 10]
def aboutOver (below : List Frame) : State where
  vm := { classes := classes, interned := interned.toArray }
  heap := heap
  slotsUsed := slotsUsed
  threads := #[{ frames := .invoking theMethod args0 :: below }]
def below0 : List Frame := [.native { method := ⟨0, 0⟩, args := #[] }]
def about1 : State := aboutOver below0
def p0 : Program := .bare "" "" ""
def e0 : Env := launch0.env 0 0 0
theorem w_frames : about1.frames = Frame.invoking theMethod args0 :: below0 := rfl
set_option maxRecDepth 65536 in
theorem w_args : argsFit about1.vm theMethod args0 = true := by decide +kernel
set_option maxRecDepth 65536 in
theorem w_heap : heapFits about1 = true := by decide +kernel
set_option maxRecDepth 65536 in
theorem w_runnable : about1.curStatus? = some .runnable := by decide +kernel
set_option maxRecDepth 65536 in
theorem w_alone : about1.alone = true := by decide +kernel
set_option maxRecDepth 65536 in
theorem w_named : about1.methodNamed? x = some theMethod := by decide +kernel
set_option maxRecDepth 65536 in
theorem w_hears : about1.hears theMethod below0 = true := by decide +kernel
set_option maxRecDepth 65536 in
theorem w_ripe : about1.ripe theMethod args0 below0 = true := by decide +kernel
theorem w_running : about1.status = .running := rfl
set_option maxRecDepth 65536 in
theorem w_room : about1.hasRoom e0.platform room_1 = true :=
  launch0.hasRoom_least _ room_1 (by decide +kernel) (by decide +kernel) (by decide +kernel) (by decide +kernel) (by decide +kernel) (by decide +kernel)
theorem allAtoms_all (ts : List Jvm.Cond) (a : Array Jvm.Value) (st : Jvm.State) : (allAtoms ts).before a st = ts.all (fun c => c.before a st) := by
  induction ts with
  | nil => rfl
  | cons c t ih =>
    show (Jvm.Cond.and c (allAtoms t)).before a st = _
    rw [Jvm.Cond.before_and, ih, List.all_cons]
def words1 : List Jvm.Cond := Jvm.Cond.code x code maxLocals ret :: tables_1
/-- a 'code' word, met by the world's own term for the bytes: nothing is compared byte by byte -/
theorem code_word {y : MethodName} {bytes : ByteArray} {mx : Nat} {rt : Option FieldType} {a : Array Value} {s : State} {m : MethodId} {meth : Method} {c : Code} (h1 : s.methodNamed? y = some m) (h2 : s.vm.method? m = some meth) (h3 : meth.code = some c) (h4 : c.code = bytes)
    (h5 : (c.maxLocals == mx && c.exceptionTable.isEmpty && decide (c.maxStack ≤ mostOperands) && decide (meth.sig.returnType = rt) && !meth.locks && decide (parseMethodDescriptor y.desc = some meth.sig)) = true) : (Jvm.Cond.code y bytes mx rt).before a s = true := by
  simp only [Bool.and_eq_true, beq_iff_eq, Bool.not_eq_true', decide_eq_true_eq] at h5
  obtain ⟨⟨⟨⟨⟨g1, g2⟩, g3⟩, g4⟩, g5⟩, g6⟩ := h5
  simp [Cond.before, Cond.holds, Cond.value, h1, h2, h3, h4, g1, g2, g3, g4, g5, g6]
def isCode : Jvm.Cond → Bool
  | .code _ _ _ _ => true
  | _ => false
theorem all_split {L : List Jvm.Cond} {P : Jvm.Cond → Bool} (h1 : L.all (fun c => isCode c || P c) = true) (h2 : ∀ c ∈ L.filter isCode, P c = true) : L.all P = true := by
  refine List.all_eq_true.mpr fun c hc => ?_
  have h := List.all_eq_true.mp h1 c hc
  rcases Bool.eq_false_or_eq_true (isCode c) with hi | hi
  · exact h2 c (List.mem_filter.mpr ⟨hc, hi⟩)
  · simpa [hi] using h
set_option maxRecDepth 65536 in
theorem w_c0 : (Jvm.Cond.code x code maxLocals ret).before args0 about1 = true := code_word (m := ⟨1, 1⟩) (meth := k1m1) (c := k1c1) (by decide +kernel) rfl rfl rfl (by decide +kernel)
set_option maxRecDepth 65536 in
theorem w_c1 : (Jvm.Cond.code ({ cls := "com/example/narada/narada/mariner/MarinerFrameEncoder", name := "block", desc := "([B)[B" } : Jvm.MethodName) prog_8_method_2_code (5 : Nat) (Option.some (Jvm.ClassFile.FieldType.array Jvm.ClassFile.FieldType.byte))).before args0 about1 = true := code_word (m := ⟨2, 1⟩) (meth := k2m1) (c := k2c1) (by decide +kernel) rfl rfl rfl (by decide +kernel)
set_option maxRecDepth 65536 in
theorem w_c2 : (Jvm.Cond.code ({ cls := "java/lang/Integer", name := "numberOfLeadingZeros", desc := "(I)I" } : Jvm.MethodName) jdk_33_method_47_code (2 : Nat) (Option.some Jvm.ClassFile.FieldType.int)).before args0 about1 = true := code_word (m := ⟨8, 0⟩) (meth := k8m0) (c := k8c0) (by decide +kernel) rfl rfl rfl (by decide +kernel)
set_option maxRecDepth 65536 in
theorem w_c3 : (Jvm.Cond.code ({ cls := "java/lang/Math", name := "max", desc := "(II)I" } : Jvm.MethodName) jdk_29_method_65_code (2 : Nat) (Option.some Jvm.ClassFile.FieldType.int)).before args0 about1 = true := code_word (m := ⟨9, 1⟩) (meth := k9m1) (c := k9c1) (by decide +kernel) rfl rfl rfl (by decide +kernel)
def codes1 : List Jvm.Cond := [Jvm.Cond.code x code maxLocals ret, Jvm.Cond.code ({ cls := "com/example/narada/narada/mariner/MarinerFrameEncoder", name := "block", desc := "([B)[B" } : Jvm.MethodName) prog_8_method_2_code (5 : Nat) (Option.some (Jvm.ClassFile.FieldType.array Jvm.ClassFile.FieldType.byte)), Jvm.Cond.code ({ cls := "java/lang/Integer", name := "numberOfLeadingZeros", desc := "(I)I" } : Jvm.MethodName) jdk_33_method_47_code (2 : Nat) (Option.some Jvm.ClassFile.FieldType.int), Jvm.Cond.code ({ cls := "java/lang/Math", name := "max", desc := "(II)I" } : Jvm.MethodName) jdk_29_method_65_code (2 : Nat) (Option.some Jvm.ClassFile.FieldType.int)]
set_option maxRecDepth 65536 in
theorem codes_eq : words1.filter isCode = codes1 := rfl
theorem w_codes : ∀ c ∈ words1.filter isCode, c.before args0 about1 = true := by
  rw [codes_eq]
  intro c hc
  simp only [codes1, List.mem_cons, List.not_mem_nil, or_false] at hc
  rcases hc with rfl | rfl | rfl | rfl
  · exact w_c0
  · exact w_c1
  · exact w_c2
  · exact w_c3
set_option maxRecDepth 65536 in
theorem w_t1 : words1.all (fun c => isCode c || c.before args0 about1) = true := by decide +kernel
theorem w_tables : (allAtoms (Jvm.Cond.code x code maxLocals ret :: tables_1)).before args0 about1 = true := by
  rw [allAtoms_all]
  show words1.all (fun c => c.before args0 about1) = true
  refine all_split ?_ w_codes
  rw [w_t1]
set_option maxRecDepth 65536 in
theorem w_case : (Jvm.Cond.and given_1 narrow_1).before args0 about1 = true := by decide +kernel
theorem w_applies : (headSpec (Jvm.Cond.code x code maxLocals ret :: tables_1) room_1).applies x e0.platform about1 = true :=
  (Spec.applies_iff w_frames).mpr ⟨w_running, w_runnable, w_alone, w_named, w_hears, w_ripe, w_room, w_tables⟩
theorem atStart : AtStart classFile x code maxLocals ret World_1 tables_1 room_1 Calls_1 rest_1 Pre_1 launch0 p0 e0 about1 theMethod args0 below0 :=
  ⟨lists_1, trivial, launch0.admits_env _ _ _, launch0.least_env, fairChoices_fair.cas, fairChoices_fair.clock, w_frames, w_args, w_heap, w_applies, trivial, trivial, w_case⟩
end start1
theorem witness_1 : WitnessClaimed_1 := ⟨start1.p0, start1.e0, start1.about1, start1.theMethod, start1.args0, start1.below0, start1.atStart⟩
end Jvm.Pilot.@@N@@
