import JvmDerived
import JvmDerived.Pilot.@@N@@Statement
import JvmDerived.Pilot.@@N@@Code
set_option linter.unusedVariables false
set_option linter.unusedSimpArgs false
namespace Jvm.Pilot.@@N@@
open Jvm Jvm.ClassFile Sem Op Lib Jvm.Free Jvm.Stand Jvm.LawKit Jvm.RoadKit Bundle Jvm.Pilot.@@N@@.Jvm.D
theorem d1_0 : decode jdk_29_method_66_code 0 = .ok (.lload_n 0, 1) := by decide +kernel
theorem d1_1 : decode jdk_29_method_66_code 1 = .ok (.lload_n 2, 1) := by decide +kernel
theorem d1_2 : decode jdk_29_method_66_code 2 = .ok (.lcmp, 1) := by decide +kernel
theorem d1_3 : decode jdk_29_method_66_code 3 = .ok (.ifCond .lt 7, 3) := by decide +kernel
theorem d1_6 : decode jdk_29_method_66_code 6 = .ok (.lload_n 0, 1) := by decide +kernel
theorem d1_7 : decode jdk_29_method_66_code 7 = .ok (.goto 4, 3) := by decide +kernel
theorem d1_10 : decode jdk_29_method_66_code 10 = .ok (.lload_n 2, 1) := by decide +kernel
theorem d1_11 : decode jdk_29_method_66_code 11 = .ok (.lreturn, 1) := by decide +kernel
theorem ef_1 (m : MethodId) (q0 : Int64) (q1 : Int64) : entryFrame m #[(.long q0), (.long q1)] 4 = mkF m 0 #[.val (.long q0), .second, .val (.long q1), .second] [] := by first | (simp [entryFrame, mkF, argsToLocals, Value.category]; done) | rfl
def b1_0 (q0 : Int64) (q1 : Int64) : Int64 := (if q0 < q1 then q1 else q0)
set_option maxRecDepth 65536 in
set_option maxHeartbeats 40000000 in
theorem bl1_0 {p : Program} {l : Launch} {e : Env} {R : Room} {s : State} {m : MethodId} {args : Array Value} {below : List Frame} {meth : Method} {c : Code} {T : State} {locs : List Loc} {cells slots : Nat} {Z : State} {a0 : Array Value} (q0 : Int64) (q1 : Int64) (X0 : Stand p l e R s m args below meth c T locs cells slots) (hx : p.tables.exec = Jvm.exec) (hZ : Z.Warmed39 s.vm) (hw : ∀ d ∈ tables_1, d.before a0 Z = true) (hby : c.code = jdk_29_method_66_code) (hown : s.vm.findClass "java/lang/Math" = some m.cls) (hrt : meth.sig.returnType = some .long) {fs : List Frame} (hr : ∀ (f : JFrame) (acts : List Action), f.method = m → f.locked = none → f.entered = [] → (doReturn e (T.setTop f) acts (some (.long (b1_0 q0 q1)))).1 = T.setFrames fs) :
    Steps p.tables e below (T.setTop (mkF m 0 #[.val (.long q0), .second, .val (.long q1), .second] [])) (T.setFrames fs) := by
  refine XS.lloadN X0.here hx rfl (hb hby d1_0) rfl ?_
  show Steps p.tables e below (T.setTop (mkF m 1 #[.val (.long q0), .second, .val (.long q1), .second] [(.long q0)])) _
  refine XS.lloadN X0.here hx rfl (hb hby d1_1) rfl ?_
  show Steps p.tables e below (T.setTop (mkF m 2 #[.val (.long q0), .second, .val (.long q1), .second] [(.long q1), (.long q0)])) _
  refine XS.lcmp X0.here hx rfl (hb hby d1_2) rfl ?_
  show Steps p.tables e below (T.setTop (mkF m 3 #[.val (.long q0), .second, .val (.long q1), .second] [(.int (lcmpW q0 q1))])) _
  by_cases hc0 : q0 < q1
  · rw [show b1_0 q0 q1 = q1 from by rw [b1_0, if_pos hc0]] at hr
    refine XS.ifYes X0.here hx rfl (pc0 := 3) (pc' := 10) rfl (hb hby d1_3) rfl ((if0 _ _).trans (tlt ((lw_lt q0 q1).mpr hc0)).1) (by decide) (by decide) ?_
    show Steps p.tables e below (T.setTop (mkF m 10 #[.val (.long q0), .second, .val (.long q1), .second] [])) _
    refine XS.lloadN X0.here hx rfl (hb hby d1_10) rfl ?_
    show Steps p.tables e below (T.setTop (mkF m 11 #[.val (.long q0), .second, .val (.long q1), .second] [(.long q1)])) _
    exact retOut X0 hx hrt rfl (Or.inr (Or.inl ⟨rfl, rfl, _, rfl⟩)) (hb hby d1_11) hr
  · rw [show b1_0 q0 q1 = q0 from by rw [b1_0, if_neg hc0]] at hr
    refine XS.ifNo X0.here hx rfl (hb hby d1_3) rfl ((if0 _ _).trans (flt (fun q => hc0 ((lw_lt q0 q1).mp q))).1) ?_
    show Steps p.tables e below (T.setTop (mkF m 6 #[.val (.long q0), .second, .val (.long q1), .second] [])) _
    refine XS.lloadN X0.here hx rfl (hb hby d1_6) rfl ?_
    show Steps p.tables e below (T.setTop (mkF m 7 #[.val (.long q0), .second, .val (.long q1), .second] [(.long q0)])) _
    refine XS.goto X0.here hx rfl (pc0 := 7) (pc' := 11) rfl (hb hby d1_7) (by decide) (by decide) ?_
    show Steps p.tables e below (T.setTop (mkF m 11 #[.val (.long q0), .second, .val (.long q1), .second] [(.long q0)])) _
    exact retOut X0 hx hrt rfl (Or.inr (Or.inl ⟨rfl, rfl, _, rfl⟩)) (hb hby d1_11) hr
def Q1 (Z : State) (q0 : Int64) (q1 : Int64) (h0 : Heap) (n0 : Nat) (v : Option Value) (h : Heap) (L : List Loc) : Prop := v = some (.long (b1_0 q0 q1)) ∧ Fr n0 L ∧ h = h0
set_option maxRecDepth 65536 in
set_option maxHeartbeats 40000000 in
theorem rm1 (l : Launch) (Z : State) (a0 : Array Value) (hw : ∀ d ∈ tables_1, d.before a0 Z = true) (ws : List Jvm.Cond) (q0 : Int64) (q1 : Int64) (h0 : Heap) (n0 : Nat) (Z0 : n0 ≤ h0.size) :
    MetFree l (⟨"java/lang/Math", "max", "(JJ)J"⟩ : MethodName) (head1 (Jvm.Cond.code (⟨"java/lang/Math", "max", "(JJ)J"⟩ : MethodName) jdk_29_method_66_code 4 (some .long) :: ws) ({ frames := 0, cells := 0, slots := 0, locals := 0 } : Room)) (fun a U => a = #[(.long q0), (.long q1)] ∧ Z.Warmed39 U.vm ∧ U.heap = h0) (fun _ _ _ _ _ => True) (fun _ U o U' => ∃ v L, o = .returned v ∧ Q1 Z q0 q1 h0 n0 v U'.heap L ∧ FrameEnd U o U' L ({ frames := 0, cells := 0, slots := 0, locals := 0 } : Room).cells ({ frames := 0, cells := 0, slots := 0, locals := 0 } : Room).slots) := by
  refine MetFree.of_bodySF (Jvm.Free.JP.mathPlain rfl (by decide +kernel)) hisR ?_
  intro p e s m args below meth c s₁ Bd hml0 hP hK
  obtain ⟨rfl, hZ, hh⟩ := hP
  have hx := Bd.exec
  have hby := Bd.bytes
  have hml : c.maxLocals = 4 := hml0
  have hown : s.vm.findClass "java/lang/Math" = some m.cls := findClass_of_methodNamed Bd.named
  have hnm := (name_of_methodNamed Bd.named Bd.method).1
  have X0 : Stand p l e ({ frames := 0, cells := 0, slots := 0, locals := 0 } : Room) s m #[(.long q0), (.long q1)] below meth c s₁ [] 0 0 := Stand.of_body Bd
  have e0 : s₁.heap = h0 := by rw [← hh, Bd.state]; rfl
  have N0 := Fr.nil n0
  have pre0 : ∀ t, Steps p.tables e below (s₁.setTop (mkF m 0 #[.val (.long q0), .second, .val (.long q1), .second] [])) t → Steps p.tables e below (s₁.setTop (entryFrame m #[(.long q0), (.long q1)] 4)) t := fun t k => castTop (ef_1 m q0 q1) k
  obtain ⟨fs, hr, hrun, hended, hW, hsame⟩ := X0.leave (v := some (.long (b1_0 q0 q1))) (fun h => by rw [Bd.returns] at h; cases h)
  refine ⟨_, _, pre0 _ ?_, hrun, hended, _, _, rfl, ?_, ⟨_, rfl⟩, hW, hsame.mono (by decide) (by decide)⟩
  · exact bl1_0 q0 q1 X0 hx hZ hw hby hown Bd.returns hr
  · show Q1 Z q0 q1 h0 n0 _ s₁.heap _
    rw [e0]
    exact ⟨rfl, N0, rfl⟩
def own_ms (w : Int64) : Int64 := if (9223372036854775 : Int64) < w then (9223372036854775807 : Int64) else w * (1000 : Int64)
theorem own_max (y : Int64) : ¬ b1_0 (1 : Int64) y < (1 : Int64) := by
  rw [b1_0]
  split
  · rename_i h; exact fun q => Int64.lt_irrefl (Int64.lt_trans h q)
  · decide
theorem own_near (x : Int64) : ¬ ((9223372036854772 : Int64) + (x &&& (7 : Int64))) < (1 : Int64) := by
  have a := c_maskL x 7 3 (by decide) (by decide)
  have b := c_ladd 9223372036854772 (x &&& 7)
  have r := rng64 (9223372036854772 + (x &&& 7))
  have e1 : (9223372036854772 : Int64).toInt = 9223372036854772 := by decide
  have e2 : (1 : Int64).toInt = 1 := by decide
  rw [Int64.lt_iff_toInt_lt]
  omega
theorem own_mul (s : Int64) (h : ¬ (9223372036854775 : Int64) < s) (h1 : ¬ s < (1 : Int64)) : (own_ms s).toInt = s.toInt * 1000 ∧ 1 ≤ s.toInt := by
  have e1 : (9223372036854775 : Int64).toInt = 9223372036854775 := by decide
  have e2 : (1 : Int64).toInt = 1 := by decide
  have e3 : (1000 : Int64).toInt = 1000 := by decide
  rw [own_ms, if_neg h]
  rw [Int64.lt_iff_toInt_lt] at h h1
  have b := c_lmul s 1000
  rw [e3] at b
  have r := rng64 (s * 1000)
  omega
theorem own_rem (s : Int64) (h : ¬ (9223372036854775 : Int64) < s) (h1 : ¬ s < (1 : Int64)) : (own_ms s - (own_ms s / (1000 : Int64)) * (1000 : Int64)) = (0 : Int64) := by
  have a := own_mul s h h1
  have b := (c_lrem (own_ms s) 1000 1000 (by decide)).1 (by omega)
  apply Int64.toInt_inj.mp
  rw [b, a.1]
  have e : (0 : Int64).toInt = 0 := by decide
  omega
theorem own_div (s : Int64) (h : ¬ (9223372036854775 : Int64) < s) (h1 : ¬ s < (1 : Int64)) : (own_ms s / (1000 : Int64)) = s := by
  have a := own_mul s h h1
  have b := (c_ldiv (own_ms s) 1000 1000 (by decide) (by decide)).1 (by omega)
  apply Int64.toInt_inj.mp
  rw [b, a.1]
  omega
theorem d2_0 : decode prog_7_method_1_code 0 = .ok (.aload_n 0, 1) := by decide +kernel
theorem d2_1 : decode prog_7_method_1_code 1 = .ok (.invokespecial 1, 3) := by decide +kernel
theorem d2_4 : decode prog_7_method_1_code 4 = .ok (.lload_n 1, 1) := by decide +kernel
theorem d2_5 : decode prog_7_method_1_code 5 = .ok (.lconst 1, 1) := by decide +kernel
theorem d2_6 : decode prog_7_method_1_code 6 = .ok (.lcmp, 1) := by decide +kernel
theorem d2_7 : decode prog_7_method_1_code 7 = .ok (.ifCond .lt 9, 3) := by decide +kernel
theorem d2_10 : decode prog_7_method_1_code 10 = .ok (.lload_n 3, 1) := by decide +kernel
theorem d2_11 : decode prog_7_method_1_code 11 = .ok (.lconst 1, 1) := by decide +kernel
theorem d2_12 : decode prog_7_method_1_code 12 = .ok (.lcmp, 1) := by decide +kernel
theorem d2_13 : decode prog_7_method_1_code 13 = .ok (.ifCond .ge 18, 3) := by decide +kernel
theorem d2_31 : decode prog_7_method_1_code 31 = .ok (.aload_n 0, 1) := by decide +kernel
theorem d2_32 : decode prog_7_method_1_code 32 = .ok (.lload_n 1, 1) := by decide +kernel
theorem d2_33 : decode prog_7_method_1_code 33 = .ok (.putfield 16, 3) := by decide +kernel
theorem d2_36 : decode prog_7_method_1_code 36 = .ok (.aload_n 0, 1) := by decide +kernel
theorem d2_37 : decode prog_7_method_1_code 37 = .ok (.lload_n 3, 1) := by decide +kernel
theorem d2_38 : decode prog_7_method_1_code 38 = .ok (.putfield 22, 3) := by decide +kernel
theorem d2_41 : decode prog_7_method_1_code 41 = .ok (.return_, 1) := by decide +kernel
theorem pn_2 : plainName "com/example/narada/narada/eventlog/Retention" = true := by first | (simp [plainName, overriddenIn]; done) | decide +kernel
theorem ef_2 (m : MethodId) (r0 : Addr) (q1 : Int64) (q2 : Int64) : entryFrame m #[(.ref r0), (.long q1), (.long q2)] 5 = mkF m 0 #[.val (.ref r0), .val (.long q1), .second, .val (.long q2), .second] [] := by first | (simp [entryFrame, mkF, argsToLocals, Value.category]; done) | rfl
theorem sn_ventlog_RetentionmaxAgeSeconds_ada_eventlog_RetentionmaxBytes {Z : State} {a0 : Array Value} (hw : ∀ d ∈ tables_1, d.before a0 Z = true) : Jvm.RoadKit.slotOf Z "com/example/narada/narada/eventlog/Retention" "maxAgeSeconds" "J" ≠ Jvm.RoadKit.slotOf Z "com/example/narada/narada/eventlog/Retention" "maxBytes" "J" := slot_ne (Or.inr (hw _ (List.mem_of_getElem? (i := 17) rfl))) (Or.inr (hw _ (List.mem_of_getElem? (i := 15) rfl))) (by decide) (t := .long) (t' := .long) (by decide) (by decide)
def Q2 (Z : State) (r0 : Addr) (q1 : Int64) (q2 : Int64) (h0 : Heap) (n0 : Nat) (v : Option Value) (h : Heap) (L : List Loc) : Prop := v = none ∧ Fr n0 L ∧ Keep h0 h [r0] ∧ Exa Z h r0 "com/example/narada/narada/eventlog/Retention" ∧ Fld Z h r0 "com/example/narada/narada/eventlog/Retention" "maxAgeSeconds" "J" (.long q2)
set_option maxRecDepth 65536 in
set_option maxHeartbeats 40000000 in
theorem rm2 (l : Launch) (Z : State) (a0 : Array Value) (hw : ∀ d ∈ tables_1, d.before a0 Z = true) (ws : List Jvm.Cond) (r0 : Addr) (q1 : Int64) (q2 : Int64) (h0 : Heap) (n0 : Nat) (Z0 : n0 ≤ h0.size) (hp0 : Exa Z h0 r0 "com/example/narada/narada/eventlog/Retention") (hp1 : Fld Z h0 r0 "com/example/narada/narada/eventlog/Retention" "maxBytes" "J" (.long (0 : Int64))) (hp2 : Fld Z h0 r0 "com/example/narada/narada/eventlog/Retention" "maxAgeSeconds" "J" (.long (0 : Int64))) (hp3 : n0 ≤ r0) (hq1 : ¬ q1 < (1 : Int64)) (hq2 : ¬ q2 < (1 : Int64)) :
    MetFree l (⟨"com/example/narada/narada/eventlog/Retention", "<init>", "(JJ)V"⟩ : MethodName) (head1 (Jvm.Cond.code (⟨"com/example/narada/narada/eventlog/Retention", "<init>", "(JJ)V"⟩ : MethodName) prog_7_method_1_code 5 none :: ws) ({ frames := 1, cells := 0, slots := 0, locals := 12 } : Room)) (fun a U => a = #[(.ref r0), (.long q1), (.long q2)] ∧ Z.Warmed39 U.vm ∧ U.heap = h0) (fun _ _ _ _ _ => True) (fun _ U o U' => ∃ v L, o = .returned v ∧ Q2 Z r0 q1 q2 h0 n0 v U'.heap L ∧ FrameEnd U o U' L ({ frames := 1, cells := 0, slots := 0, locals := 12 } : Room).cells ({ frames := 1, cells := 0, slots := 0, locals := 12 } : Room).slots) := by
  refine MetFree.of_bodySF (plainFor_of_name pn_2) hisR ?_
  intro p e s m args below meth c s₁ Bd hml0 hP hK
  obtain ⟨rfl, hZ, hh⟩ := hP
  have hx := Bd.exec
  have hby := Bd.bytes
  have hml : c.maxLocals = 5 := hml0
  have hown : s.vm.findClass "com/example/narada/narada/eventlog/Retention" = some m.cls := findClass_of_methodNamed Bd.named
  have hnm := (name_of_methodNamed Bd.named Bd.method).1
  have X0 : Stand p l e ({ frames := 1, cells := 0, slots := 0, locals := 12 } : Room) s m #[(.ref r0), (.long q1), (.long q2)] below meth c s₁ [] 0 0 := Stand.of_body Bd
  have e0 : s₁.heap = h0 := by rw [← hh, Bd.state]; rfl
  have N0 := Fr.nil n0
  have pre0 : ∀ t, Steps p.tables e below (s₁.setTop (mkF m 0 #[.val (.ref r0), .val (.long q1), .second, .val (.long q2), .second] [])) t → Steps p.tables e below (s₁.setTop (entryFrame m #[(.ref r0), (.long q1), (.long q2)] 5)) t := fun t k => castTop (ef_2 m r0 q1 q2) k
  obtain ⟨T11, X11, e11, st11⟩ := initO X0 hx hZ hown (hw _ (List.mem_of_getElem? (i := 11) rfl)) (hw _ (List.mem_of_getElem? (i := 12) rfl)) (hw _ (List.mem_of_getElem? (i := 13) rfl)) e0 (g := (mkF m 1 #[.val (.ref r0), .val (.long q1), .second, .val (.long q2), .second] [(.ref r0)])) rfl (by rw [hml]; rfl) rfl (hb hby d2_1) (by decide) (W := 0) (by show 2 * 0 + _ ≤ _; exact Nat.le_of_eq rfl) (by decide)
  obtain ⟨T12, h12, X12, e12, W12, st12⟩ := putF X11 hx hZ hown (host := "") (Or.inl (hw _ (List.mem_of_getElem? (i := 14) rfl))) Via.refl e11 hp1 hp0 (Or.inr ⟨(hw _ (List.mem_of_getElem? (i := 15) rfl)), rfl, hnm⟩) (hw _ (List.mem_of_getElem? (i := 6) rfl)) (ty := .long) (by decide) rfl rfl (g := (mkF m 33 #[.val (.ref r0), .val (.long q1), .second, .val (.long q2), .second] [(.long q1), (.ref r0)])) rfl rfl (hb hby d2_33)
  have F12 : Fld Z h12 r0 "com/example/narada/narada/eventlog/Retention" "maxBytes" "J" (.long q1) := hp1.same W12
  have Z13 : n0 ≤ h12.size := Nat.le_trans Z0 (Keep.of_wr W12).1
  have K14 : Keep h0 h12 [r0] := (Keep.refl h0 [r0]).wr W12 (Or.inl (List.mem_of_getElem? (i := 0) rfl))
  have N12 := Fr.snoc X12 N0 hp3
  have E15 : Exa Z h12 r0 "com/example/narada/narada/eventlog/Retention" := (hp0.wr W12)
  have F16 : Fld Z h12 r0 "com/example/narada/narada/eventlog/Retention" "maxAgeSeconds" "J" (.long (0 : Int64)) := (hp2.other W12 (Or.inr (sn_ventlog_RetentionmaxAgeSeconds_ada_eventlog_RetentionmaxBytes hw)))
  obtain ⟨T17, h17, X17, e17, W17, st17⟩ := putF X12 hx hZ hown (host := "") (Or.inl (hw _ (List.mem_of_getElem? (i := 16) rfl))) Via.refl e12 F16 E15 (Or.inr ⟨(hw _ (List.mem_of_getElem? (i := 17) rfl)), rfl, hnm⟩) (hw _ (List.mem_of_getElem? (i := 6) rfl)) (ty := .long) (by decide) rfl rfl (g := (mkF m 38 #[.val (.ref r0), .val (.long q1), .second, .val (.long q2), .second] [(.long q2), (.ref r0)])) rfl rfl (hb hby d2_38)
  have F17 : Fld Z h17 r0 "com/example/narada/narada/eventlog/Retention" "maxAgeSeconds" "J" (.long q2) := F16.same W17
  have Z18 : n0 ≤ h17.size := Nat.le_trans Z13 (Keep.of_wr W17).1
  have K19 : Keep h0 h17 [r0] := K14.wr W17 (Or.inl (List.mem_of_getElem? (i := 0) rfl))
  have N17 := Fr.snoc X17 N12 hp3
  have E20 : Exa Z h17 r0 "com/example/narada/narada/eventlog/Retention" := (E15.wr W17)
  obtain ⟨fs, hr, hrun, hended, hW, hsame⟩ := X17.leave (v := none) (fun _ => rfl)
  refine ⟨_, _, pre0 _ ?_, hrun, hended, _, _, rfl, ?_, ⟨_, rfl⟩, hW, hsame.mono (by decide) (by decide)⟩
  · refine XS.aloadN X0.here hx rfl (hb hby d2_0) rfl rfl ?_
    show Steps p.tables e below (s₁.setTop (mkF m 1 #[.val (.ref r0), .val (.long q1), .second, .val (.long q2), .second] [(.ref r0)])) _
    refine st11 _ ?_
    show Steps p.tables e below (T11.setTop (mkF m 4 #[.val (.ref r0), .val (.long q1), .second, .val (.long q2), .second] [])) _
    refine XS.lloadN X11.here hx rfl (hb hby d2_4) rfl ?_
    show Steps p.tables e below (T11.setTop (mkF m 5 #[.val (.ref r0), .val (.long q1), .second, .val (.long q2), .second] [(.long q1)])) _
    refine XS.lconst X11.here hx rfl (hb hby d2_5) ?_
    show Steps p.tables e below (T11.setTop (mkF m 6 #[.val (.ref r0), .val (.long q1), .second, .val (.long q2), .second] [(.long (1 : Int64)), (.long q1)])) _
    refine XS.lcmp X11.here hx rfl (hb hby d2_6) rfl ?_
    show Steps p.tables e below (T11.setTop (mkF m 7 #[.val (.ref r0), .val (.long q1), .second, .val (.long q2), .second] [(.int (lcmpW q1 (1 : Int64)))])) _
    refine XS.ifNo X11.here hx rfl (hb hby d2_7) rfl ((if0 _ _).trans (flt (fun q => hq1 ((lw_lt q1 (1 : Int64)).mp q))).1) ?_
    show Steps p.tables e below (T11.setTop (mkF m 10 #[.val (.ref r0), .val (.long q1), .second, .val (.long q2), .second] [])) _
    refine XS.lloadN X11.here hx rfl (hb hby d2_10) rfl ?_
    show Steps p.tables e below (T11.setTop (mkF m 11 #[.val (.ref r0), .val (.long q1), .second, .val (.long q2), .second] [(.long q2)])) _
    refine XS.lconst X11.here hx rfl (hb hby d2_11) ?_
    show Steps p.tables e below (T11.setTop (mkF m 12 #[.val (.ref r0), .val (.long q1), .second, .val (.long q2), .second] [(.long (1 : Int64)), (.long q2)])) _
    refine XS.lcmp X11.here hx rfl (hb hby d2_12) rfl ?_
    show Steps p.tables e below (T11.setTop (mkF m 13 #[.val (.ref r0), .val (.long q1), .second, .val (.long q2), .second] [(.int (lcmpW q2 (1 : Int64)))])) _
    refine XS.ifYes X11.here hx rfl (pc0 := 13) (pc' := 31) rfl (hb hby d2_13) rfl ((if0 _ _).trans (flt (fun q => hq2 ((lw_lt q2 (1 : Int64)).mp q))).2.1) (by decide) (by decide) ?_
    show Steps p.tables e below (T11.setTop (mkF m 31 #[.val (.ref r0), .val (.long q1), .second, .val (.long q2), .second] [])) _
    refine XS.aloadN X11.here hx rfl (hb hby d2_31) rfl rfl ?_
    show Steps p.tables e below (T11.setTop (mkF m 32 #[.val (.ref r0), .val (.long q1), .second, .val (.long q2), .second] [(.ref r0)])) _
    refine XS.lloadN X11.here hx rfl (hb hby d2_32) rfl ?_
    show Steps p.tables e below (T11.setTop (mkF m 33 #[.val (.ref r0), .val (.long q1), .second, .val (.long q2), .second] [(.long q1), (.ref r0)])) _
    refine st12 _ ?_
    show Steps p.tables e below (T12.setTop (mkF m 36 #[.val (.ref r0), .val (.long q1), .second, .val (.long q2), .second] [])) _
    refine XS.aloadN X12.here hx rfl (hb hby d2_36) rfl rfl ?_
    show Steps p.tables e below (T12.setTop (mkF m 37 #[.val (.ref r0), .val (.long q1), .second, .val (.long q2), .second] [(.ref r0)])) _
    refine XS.lloadN X12.here hx rfl (hb hby d2_37) rfl ?_
    show Steps p.tables e below (T12.setTop (mkF m 38 #[.val (.ref r0), .val (.long q1), .second, .val (.long q2), .second] [(.long q2), (.ref r0)])) _
    refine st17 _ ?_
    show Steps p.tables e below (T17.setTop (mkF m 41 #[.val (.ref r0), .val (.long q1), .second, .val (.long q2), .second] [])) _
    exact X17.returnOut hx Bd.returns (hb hby d2_41) hr
  · show Q2 Z r0 q1 q2 h0 n0 _ T17.heap _
    rw [e17]
    exact ⟨rfl, N17, K19, E20, F17⟩
theorem d4_0 : decode prog_7_method_3_code 0 = .ok (.aload_n 0, 1) := by decide +kernel
theorem d4_1 : decode prog_7_method_3_code 1 = .ok (.getfield 22, 3) := by decide +kernel
theorem d4_4 : decode prog_7_method_3_code 4 = .ok (.ldc2_w 27, 3) := by decide +kernel
theorem d4_7 : decode prog_7_method_3_code 7 = .ok (.lcmp, 1) := by decide +kernel
theorem d4_8 : decode prog_7_method_3_code 8 = .ok (.ifCond .le 9, 3) := by decide +kernel
theorem d4_11 : decode prog_7_method_3_code 11 = .ok (.ldc2_w 29, 3) := by decide +kernel
theorem d4_14 : decode prog_7_method_3_code 14 = .ok (.goto 11, 3) := by decide +kernel
theorem d4_17 : decode prog_7_method_3_code 17 = .ok (.aload_n 0, 1) := by decide +kernel
theorem d4_18 : decode prog_7_method_3_code 18 = .ok (.getfield 22, 3) := by decide +kernel
theorem d4_21 : decode prog_7_method_3_code 21 = .ok (.ldc2_w 31, 3) := by decide +kernel
theorem d4_24 : decode prog_7_method_3_code 24 = .ok (.lmul, 1) := by decide +kernel
theorem d4_25 : decode prog_7_method_3_code 25 = .ok (.lreturn, 1) := by decide +kernel
theorem pn_4 : plainName "com/example/narada/narada/eventlog/Retention" = true := by first | (simp [plainName, overriddenIn]; done) | decide +kernel
theorem ef_4 (m : MethodId) (r0 : Addr) : entryFrame m #[(.ref r0)] 1 = mkF m 0 #[.val (.ref r0)] [] := by first | (simp [entryFrame, mkF, argsToLocals, Value.category]; done) | rfl
def Q4 (Z : State) (r0 : Addr) (w : Int64) (h0 : Heap) (n0 : Nat) (v : Option Value) (h : Heap) (L : List Loc) : Prop := v = some (.long (own_ms w)) ∧ Fr n0 L ∧ h = h0
set_option maxRecDepth 65536 in
set_option maxHeartbeats 40000000 in
theorem rm4 (l : Launch) (Z : State) (a0 : Array Value) (hw : ∀ d ∈ tables_1, d.before a0 Z = true) (ws : List Jvm.Cond) (r0 : Addr) (w : Int64) (h0 : Heap) (n0 : Nat) (Z0 : n0 ≤ h0.size) (hp0 : Fld Z h0 r0 "com/example/narada/narada/eventlog/Retention" "maxAgeSeconds" "J" (.long w)) :
    MetFree l (⟨"com/example/narada/narada/eventlog/Retention", "getMaxAgeMillis", "()J"⟩ : MethodName) (head1 (Jvm.Cond.code (⟨"com/example/narada/narada/eventlog/Retention", "getMaxAgeMillis", "()J"⟩ : MethodName) prog_7_method_3_code 1 (some .long) :: ws) ({ frames := 0, cells := 0, slots := 0, locals := 0 } : Room)) (fun a U => a = #[(.ref r0)] ∧ Z.Warmed39 U.vm ∧ U.heap = h0) (fun _ _ _ _ _ => True) (fun _ U o U' => ∃ v L, o = .returned v ∧ Q4 Z r0 w h0 n0 v U'.heap L ∧ FrameEnd U o U' L ({ frames := 0, cells := 0, slots := 0, locals := 0 } : Room).cells ({ frames := 0, cells := 0, slots := 0, locals := 0 } : Room).slots) := by
  refine MetFree.of_bodySF (plainFor_of_name pn_4) hisR ?_
  intro p e s m args below meth c s₁ Bd hml0 hP hK
  obtain ⟨rfl, hZ, hh⟩ := hP
  have hx := Bd.exec
  have hby := Bd.bytes
  have hml : c.maxLocals = 1 := hml0
  have hown : s.vm.findClass "com/example/narada/narada/eventlog/Retention" = some m.cls := findClass_of_methodNamed Bd.named
  have hnm := (name_of_methodNamed Bd.named Bd.method).1
  have X0 : Stand p l e ({ frames := 0, cells := 0, slots := 0, locals := 0 } : Room) s m #[(.ref r0)] below meth c s₁ [] 0 0 := Stand.of_body Bd
  have e0 : s₁.heap = h0 := by rw [← hh, Bd.state]; rfl
  have N0 := Fr.nil n0
  have pre0 : ∀ t, Steps p.tables e below (s₁.setTop (mkF m 0 #[.val (.ref r0)] [])) t → Steps p.tables e below (s₁.setTop (entryFrame m #[(.ref r0)] 1)) t := fun t k => castTop (ef_4 m r0) k
  obtain ⟨T11, X11, e11, st11⟩ := getF X0 hx hZ hown (host := "") (Or.inl (hw _ (List.mem_of_getElem? (i := 16) rfl))) Via.refl e0 hp0 (g := (mkF m 1 #[.val (.ref r0)] [(.ref r0)])) rfl rfl (hb hby d4_1)
  have pre12 : ∀ t, Steps p.tables e below (T11.setTop (mkF m 8 #[.val (.ref r0)] [(.int (lcmpW w (9223372036854775 : Int64)))])) t → Steps p.tables e below (s₁.setTop (entryFrame m #[(.ref r0)] 1)) t := fun t k => pre0 t (by
    refine XS.aloadN X0.here hx rfl (hb hby d4_0) rfl rfl ?_
    show Steps p.tables e below (s₁.setTop (mkF m 1 #[.val (.ref r0)] [(.ref r0)])) _
    refine st11 _ ?_
    show Steps p.tables e below (T11.setTop (mkF m 4 #[.val (.ref r0)] [(.long w)])) _
    refine X11.ldc2Long hx hown (mvT hZ (hw _ (List.mem_of_getElem? (i := 23) rfl))) (g := (mkF m 4 #[.val (.ref r0)] [(.long w)])) rfl (hb hby d4_4) _ ?_
    show Steps p.tables e below (T11.setTop (mkF m 7 #[.val (.ref r0)] [(.long (9223372036854775 : Int64)), (.long w)])) _
    refine XS.lcmp X11.here hx rfl (hb hby d4_7) rfl ?_
    exact k)
  by_cases hc13 : (9223372036854775 : Int64) < w
  · obtain ⟨fs, hr, hrun, hended, hW, hsame⟩ := X11.leave (v := some (.long (9223372036854775807 : Int64))) (fun h => by rw [Bd.returns] at h; cases h)
    refine ⟨_, _, pre12 _ ?_, hrun, hended, _, _, rfl, ?_, ⟨_, rfl⟩, hW, hsame.mono (by decide) (by decide)⟩
    · refine XS.ifNo X11.here hx rfl (hb hby d4_8) rfl ((if0 _ _).trans (tlt ((lw_gt w (9223372036854775 : Int64)).mpr hc13)).2.2.2) ?_
      show Steps p.tables e below (T11.setTop (mkF m 11 #[.val (.ref r0)] [])) _
      refine X11.ldc2Long hx hown (mvT hZ (hw _ (List.mem_of_getElem? (i := 29) rfl))) (g := (mkF m 11 #[.val (.ref r0)] [])) rfl (hb hby d4_11) _ ?_
      show Steps p.tables e below (T11.setTop (mkF m 14 #[.val (.ref r0)] [(.long (9223372036854775807 : Int64))])) _
      refine XS.goto X11.here hx rfl (pc0 := 14) (pc' := 25) rfl (hb hby d4_14) (by decide) (by decide) ?_
      show Steps p.tables e below (T11.setTop (mkF m 25 #[.val (.ref r0)] [(.long (9223372036854775807 : Int64))])) _
      exact retOut X11 hx Bd.returns rfl (Or.inr (Or.inl ⟨rfl, rfl, _, rfl⟩)) (hb hby d4_25) hr
    · show Q4 Z r0 w h0 n0 _ T11.heap _
      rw [e11]
      exact ⟨(by rw [own_ms, if_pos hc13]), N0, rfl⟩
  · obtain ⟨T14, X14, e14, st14⟩ := getF X11 hx hZ hown (host := "") (Or.inl (hw _ (List.mem_of_getElem? (i := 16) rfl))) Via.refl e11 hp0 (g := (mkF m 18 #[.val (.ref r0)] [(.ref r0)])) rfl rfl (hb hby d4_18)
    obtain ⟨fs, hr, hrun, hended, hW, hsame⟩ := X14.leave (v := some (.long (w * (1000 : Int64)))) (fun h => by rw [Bd.returns] at h; cases h)
    refine ⟨_, _, pre12 _ ?_, hrun, hended, _, _, rfl, ?_, ⟨_, rfl⟩, hW, hsame.mono (by decide) (by decide)⟩
    · refine XS.ifYes X11.here hx rfl (pc0 := 8) (pc' := 17) rfl (hb hby d4_8) rfl ((if0 _ _).trans (flt (fun q => hc13 ((lw_gt w (9223372036854775 : Int64)).mp q))).2.2.2) (by decide) (by decide) ?_
      show Steps p.tables e below (T11.setTop (mkF m 17 #[.val (.ref r0)] [])) _
      refine XS.aloadN X11.here hx rfl (hb hby d4_17) rfl rfl ?_
      show Steps p.tables e below (T11.setTop (mkF m 18 #[.val (.ref r0)] [(.ref r0)])) _
      refine st14 _ ?_
      show Steps p.tables e below (T14.setTop (mkF m 21 #[.val (.ref r0)] [(.long w)])) _
      refine X14.ldc2Long hx hown (mvT hZ (hw _ (List.mem_of_getElem? (i := 24) rfl))) (g := (mkF m 21 #[.val (.ref r0)] [(.long w)])) rfl (hb hby d4_21) _ ?_
      show Steps p.tables e below (T14.setTop (mkF m 24 #[.val (.ref r0)] [(.long (1000 : Int64)), (.long w)])) _
      refine XS.lmul X14.here hx rfl (hb hby d4_24) rfl ?_
      show Steps p.tables e below (T14.setTop (mkF m 25 #[.val (.ref r0)] [(.long (w * (1000 : Int64)))])) _
      exact retOut X14 hx Bd.returns rfl (Or.inr (Or.inl ⟨rfl, rfl, _, rfl⟩)) (hb hby d4_25) hr
    · show Q4 Z r0 w h0 n0 _ T14.heap _
      rw [e14]
      exact ⟨(by rw [own_ms, if_neg hc13]), N0, rfl⟩
theorem pn_0 : plainName "com/example/narada/narada/eventlog/RetentionGetMaxAgeMillisPinLaw" = true := by first | (simp [plainName, overriddenIn]; done) | decide +kernel
theorem ef_0 (m : MethodId) (q0 : Int64) (q1 : Int64) (p2 : Int32) : entryFrame m #[(.long q0), (.long q1), (.int p2)] maxLocals = mkF m 0 #[.val (.long q0), .second, .val (.long q1), .second, .val (.int p2), .unset, .unset, .unset, .unset, .unset, .unset, .unset] [] := by first | (simp [entryFrame, mkF, argsToLocals, Value.category, maxLocals]; done) | rfl
theorem pd_0 : parseMethodDescriptor "(JJ)J" = some ⟨[.long, .long], some .long⟩ := by decide +kernel
theorem pd_1 : parseMethodDescriptor "(JJ)V" = some ⟨[.long, .long], none⟩ := by decide +kernel
theorem pd_2 : parseMethodDescriptor "()J" = some ⟨[], some .long⟩ := by decide +kernel
def Q0 (Z : State) (q0 : Int64) (q1 : Int64) (p2 : Int32) (h0 : Heap) (n0 : Nat) (v : Option Value) (h : Heap) (L : List Loc) : Prop := v = some (.int 1) ∧ Fr n0 L
set_option maxRecDepth 65536 in
set_option maxHeartbeats 40000000 in
theorem rm0 (l : Launch) (Z : State) (a0 : Array Value) (hw : ∀ d ∈ tables_1, d.before a0 Z = true) (ws : List Jvm.Cond) (q0 : Int64) (q1 : Int64) (p2 : Int32) (h0 : Heap) (n0 : Nat) (Z0 : n0 ≤ h0.size)  :
    MetFree l x (head1 (Jvm.Cond.code x code maxLocals ret :: ws) room_1) (fun a U => a = #[(.long q0), (.long q1), (.int p2)] ∧ Z.Warmed39 U.vm ∧ U.heap = h0) (fun _ _ _ _ _ => True) (fun _ U o U' => ∃ v L, o = .returned v ∧ Q0 Z q0 q1 p2 h0 n0 v U'.heap L ∧ FrameEnd U o U' L room_1.cells room_1.slots) := by
  refine MetFree.of_bodySF (plainFor_of_name pn_0) hisR ?_
  intro p e s m args below meth c s₁ Bd hml0 hP hK
  obtain ⟨rfl, hZ, hh⟩ := hP
  have hx := Bd.exec
  have hby := Bd.bytes
  have hml : c.maxLocals = 12 := hml0
  have hown : s.vm.findClass "com/example/narada/narada/eventlog/RetentionGetMaxAgeMillisPinLaw" = some m.cls := findClass_of_methodNamed Bd.named
  have hnm := (name_of_methodNamed Bd.named Bd.method).1
  have X0 : Stand p l e room_1 s m #[(.long q0), (.long q1), (.int p2)] below meth c s₁ [] 0 0 := Stand.of_body Bd
  have e0 : s₁.heap = h0 := by rw [← hh, Bd.state]; rfl
  have N0 := Fr.nil n0
  have pre0 : ∀ t, Steps p.tables e below (s₁.setTop (mkF m 0 #[.val (.long q0), .second, .val (.long q1), .second, .val (.int p2), .unset, .unset, .unset, .unset, .unset, .unset, .unset] [])) t → Steps p.tables e below (s₁.setTop (entryFrame m #[(.long q0), (.long q1), (.int p2)] maxLocals)) t := fun t k => castTop (ef_0 m q0 q1 p2) k
  have pre11 : ∀ t, Steps p.tables e below (s₁.setTop (mkF m 4 #[.val (.long q0), .second, .val (.long q1), .second, .val (.int p2), .unset, .unset, .unset, .unset, .unset, .unset, .unset] [(.int (p2 &&& (1 : Int32)))])) t → Steps p.tables e below (s₁.setTop (entryFrame m #[(.long q0), (.long q1), (.int p2)] maxLocals)) t := fun t k => pre0 t (by
    refine XS.iload X0.here hx rfl (hb hby at_0) rfl ?_
    show Steps p.tables e below (s₁.setTop (mkF m 2 #[.val (.long q0), .second, .val (.long q1), .second, .val (.int p2), .unset, .unset, .unset, .unset, .unset, .unset, .unset] [(.int p2)])) _
    refine XS.iconst X0.here hx rfl (hb hby at_2) ?_
    show Steps p.tables e below (s₁.setTop (mkF m 3 #[.val (.long q0), .second, .val (.long q1), .second, .val (.int p2), .unset, .unset, .unset, .unset, .unset, .unset, .unset] [(.int (1 : Int32)), (.int p2)])) _
    refine XS.iand X0.here hx rfl (hb hby at_3) rfl ?_
    exact k)
  by_cases hc12 : (p2 &&& (1 : Int32)) = (0 : Int32)
  · obtain ⟨_, _, ⟨T13, L13, k13, n13⟩, -, X13, ⟨Lc13, hQ13, l13, y13, z13⟩, st13⟩ := Jvm.LawKit.callS X0 hx (y := (⟨"java/lang/Math", "max", "(JJ)J"⟩ : MethodName)) hown (mvT hZ (hw _ (List.mem_of_getElem? (i := 1) rfl))) (mvT hZ (hw _ (List.mem_of_getElem? (i := 2) rfl))) (mvT hZ (hw _ (List.mem_of_getElem? (i := 3) rfl))) (mvT hZ (hw _ (List.mem_of_getElem? (i := 4) rfl))) (by decide) (backOf (W := 0) (rm1 l Z a0 hw [] (1 : Int64) (q0 &&& (9223372036854775807 : Int64)) h0 n0 Z0) hZ (hw _ (List.mem_of_getElem? (i := 4) rfl)) (hw _ (List.mem_of_getElem? (i := 3) rfl)) (by decide) (by decide)) (g := (mkF m 13 #[.val (.long q0), .second, .val (.long q1), .second, .val (.int p2), .unset, .unset, .unset, .unset, .unset, .unset, .unset] [(.long (q0 &&& (9223372036854775807 : Int64))), (.long (1 : Int64))])) rfl (by rw [hml]; rfl) (argsL := [(.long (1 : Int64)), (.long (q0 &&& (9223372036854775807 : Int64)))]) (rest := []) (lenOf pd_0 rfl) rfl (by show 2 * 0 + _ ≤ _; exact Nat.le_of_eq rfl) (hb hby at_13) (fun _ _ => ⟨rfl, e0, (by decide : 0 + 0 ≤ _), (by decide : 0 + 0 ≤ _)⟩)
    dsimp only [Pt.U, Pt.locs, Pt.cells, Pt.slots] at X13 l13 y13 z13 st13 hQ13
    subst l13 y13 z13
    obtain ⟨rfl, Nq13, eh13⟩ := hQ13
    have N13 := Fr.app N0 Nq13
    obtain ⟨_, _, ⟨T14, L14, k14, n14⟩, -, X14, ⟨Lc14, hQ14, l14, y14, z14⟩, st14⟩ := Jvm.LawKit.callS X13 hx (y := (⟨"java/lang/Math", "max", "(JJ)J"⟩ : MethodName)) hown (mvT hZ (hw _ (List.mem_of_getElem? (i := 1) rfl))) (mvT hZ (hw _ (List.mem_of_getElem? (i := 2) rfl))) (mvT hZ (hw _ (List.mem_of_getElem? (i := 3) rfl))) (mvT hZ (hw _ (List.mem_of_getElem? (i := 4) rfl))) (by decide) (backOf (W := 0) (rm1 l Z a0 hw [] (1 : Int64) (q1 &&& (9223372036854775807 : Int64)) h0 n0 Z0) hZ (hw _ (List.mem_of_getElem? (i := 4) rfl)) (hw _ (List.mem_of_getElem? (i := 3) rfl)) (by decide) (by decide)) (g := (mkF m 38 #[.val (.long q0), .second, .val (.long q1), .second, .val (.int p2), .val (.long (b1_0 (1 : Int64) (q0 &&& (9223372036854775807 : Int64)))), .second, .unset, .unset, .unset, .unset, .unset] [(.long (q1 &&& (9223372036854775807 : Int64))), (.long (1 : Int64))])) rfl (by rw [hml]; rfl) (argsL := [(.long (1 : Int64)), (.long (q1 &&& (9223372036854775807 : Int64)))]) (rest := []) (lenOf pd_0 rfl) rfl (by show 2 * 0 + _ ≤ _; exact Nat.le_of_eq rfl) (hb hby at_38) (fun _ _ => ⟨rfl, eh13, (by decide : 0 + 0 ≤ _), (by decide : 0 + 0 ≤ _)⟩)
    dsimp only [Pt.U, Pt.locs, Pt.cells, Pt.slots] at X14 l14 y14 z14 st14 hQ14
    subst l14 y14 z14
    obtain ⟨rfl, Nq14, eh14⟩ := hQ14
    have N14 := Fr.app N13 Nq14
    obtain ⟨T15, h15, X15, e15, E15, A15, D15, -, st15⟩ := newO X14 hx hZ hown (hw _ (List.mem_of_getElem? (i := 5) rfl)) (hw _ (List.mem_of_getElem? (i := 6) rfl)) (hw _ (List.mem_of_getElem? (i := 7) rfl)) eh14 (g := (mkF m 43 #[.val (.long q0), .second, .val (.long q1), .second, .val (.int p2), .val (.long (b1_0 (1 : Int64) (q0 &&& (9223372036854775807 : Int64)))), .second, .val (.long (b1_0 (1 : Int64) (q1 &&& (9223372036854775807 : Int64)))), .second, .unset, .unset, .unset] [])) rfl (hb hby at_43) (by decide) (by decide)
    obtain ⟨b15, gb15⟩ : ∃ z, z = h0.size := ⟨_, rfl⟩
    rw [← gb15] at A15 D15 st15
    have g16 : n0 ≤ b15 := Nat.le_trans Z0 (Nat.le_of_eq gb15.symm)
    have Z17 : n0 ≤ h15.size := Nat.le_trans Z0 E15.1
    have F15_maxBytes : Fld Z h15 b15 "com/example/narada/narada/eventlog/Retention" "maxBytes" "J" (.long (0 : Int64)) := D15 (Or.inr (hw _ (List.mem_of_getElem? (i := 15) rfl))) (ty := .long) (by decide)
    have F15_maxAgeSeconds : Fld Z h15 b15 "com/example/narada/narada/eventlog/Retention" "maxAgeSeconds" "J" (.long (0 : Int64)) := D15 (Or.inr (hw _ (List.mem_of_getElem? (i := 17) rfl))) (ty := .long) (by decide)
    obtain ⟨_, _, ⟨T18, L18, k18, n18⟩, -, X18, ⟨Lc18, hQ18, l18, y18, z18⟩, st18⟩ := X15.specialBack hx (y := (⟨"com/example/narada/narada/eventlog/Retention", "<init>", "(JJ)V"⟩ : MethodName)) rfl hown (mvT hZ (hw _ (List.mem_of_getElem? (i := 8) rfl))) (mvT hZ (hw _ (List.mem_of_getElem? (i := 9) rfl))) (mvT hZ (hw _ (List.mem_of_getElem? (i := 10) rfl))) (by decide) (backOf (W := 1) (rm2 l Z a0 hw [] b15 (b1_0 (1 : Int64) (q1 &&& (9223372036854775807 : Int64))) (b1_0 (1 : Int64) (q0 &&& (9223372036854775807 : Int64)))  h15 n0 Z17 A15 F15_maxBytes F15_maxAgeSeconds g16 (own_max _) (own_max _)) hZ (hw _ (List.mem_of_getElem? (i := 10) rfl)) (hw _ (List.mem_of_getElem? (i := 7) rfl)) (by decide) (by decide)) (g := (mkF m 51 #[.val (.long q0), .second, .val (.long q1), .second, .val (.int p2), .val (.long (b1_0 (1 : Int64) (q0 &&& (9223372036854775807 : Int64)))), .second, .val (.long (b1_0 (1 : Int64) (q1 &&& (9223372036854775807 : Int64)))), .second, .unset, .unset, .unset] [(.long (b1_0 (1 : Int64) (q0 &&& (9223372036854775807 : Int64)))), (.long (b1_0 (1 : Int64) (q1 &&& (9223372036854775807 : Int64)))), (.ref b15), (.ref b15)])) rfl (by rw [hml]; rfl) (Steps.refl _) (a := b15) (argsL := [(.long (b1_0 (1 : Int64) (q1 &&& (9223372036854775807 : Int64)))), (.long (b1_0 (1 : Int64) (q0 &&& (9223372036854775807 : Int64))))]) (rest := [(.ref b15)]) (lenOf pd_1 rfl) rfl (by show 2 * 0 + _ ≤ _; exact Nat.le_of_eq rfl) (hb hby at_51) (fun _ _ => ⟨rfl, e15, (by decide : 1 + 0 ≤ _), (by decide : 2 + 0 ≤ _)⟩)
    dsimp only [Pt.U, Pt.locs, Pt.cells, Pt.slots] at X18 l18 y18 z18 st18 hQ18
    subst l18 y18 z18
    obtain ⟨rfl, Nq18, u18_0, u18_1, u18_2⟩ := hQ18
    have N18 := Fr.app N14 Nq18
    have Z19 : n0 ≤ T18.heap.size := Nat.le_trans Z17 u18_0.1
    obtain ⟨cq20, kq20, q20a, q20b, q20c⟩ := isOf hZ rfl u18_1
    obtain ⟨_, _, ⟨T20, L20, k20, n20⟩, -, X20, ⟨Lc20, hQ20, l20, y20, z20⟩, st20⟩ := X18.virtualBack hx (y := (⟨"com/example/narada/narada/eventlog/Retention", "getMaxAgeMillis", "()J"⟩ : MethodName)) (z := (⟨"com/example/narada/narada/eventlog/Retention", "getMaxAgeMillis", "()J"⟩ : MethodName)) hown (mvT hZ (hw _ (List.mem_of_getElem? (i := 18) rfl))) (mvT hZ (hw _ (List.mem_of_getElem? (i := 19) rfl))) (notFace_of_selects (args := #[]) (mvT hZ (hw _ (List.mem_of_getElem? (i := 21) rfl)))) (mvT hZ (hw _ (List.mem_of_getElem? (i := 21) rfl))) (mvT hZ (hw _ (List.mem_of_getElem? (i := 20) rfl))) (by decide) (backOf (W := 0) (rm4 l Z a0 hw [] b15 (b1_0 (1 : Int64) (q0 &&& (9223372036854775807 : Int64))) T18.heap n0 Z19 u18_2) hZ (hw _ (List.mem_of_getElem? (i := 22) rfl)) (hw _ (List.mem_of_getElem? (i := 7) rfl)) (by decide) (by decide)) q20a q20c (g := (mkF m 58 #[.val (.long q0), .second, .val (.long q1), .second, .val (.int p2), .val (.long (b1_0 (1 : Int64) (q0 &&& (9223372036854775807 : Int64)))), .second, .val (.long (b1_0 (1 : Int64) (q1 &&& (9223372036854775807 : Int64)))), .second, .val (.ref b15), .unset, .unset] [(.ref b15)])) rfl (by rw [hml]; rfl) (Steps.refl _) (argsL := []) (rest := []) (lenOf pd_2 rfl) rfl (by show 2 * 0 + _ ≤ _; exact Nat.le_of_eq rfl) (hb hby at_58) (fun _ _ => ⟨rfl, rfl, (by decide : 1 + 0 ≤ _), (by decide : 2 + 0 ≤ _)⟩)
    dsimp only [Pt.U, Pt.locs, Pt.cells, Pt.slots] at X20 l20 y20 z20 st20 hQ20
    subst l20 y20 z20
    obtain ⟨rfl, Nq20, u20_0⟩ := hQ20
    have N20 := Fr.app N18 Nq20
    have pre21 : ∀ t, Steps p.tables e below (T20.setTop (mkF m 69 #[.val (.long q0), .second, .val (.long q1), .second, .val (.int p2), .val (.long (b1_0 (1 : Int64) (q0 &&& (9223372036854775807 : Int64)))), .second, .val (.long (b1_0 (1 : Int64) (q1 &&& (9223372036854775807 : Int64)))), .second, .val (.ref b15), .val (.long (own_ms (b1_0 (1 : Int64) (q0 &&& (9223372036854775807 : Int64))))), .second] [(.int (lcmpW (b1_0 (1 : Int64) (q0 &&& (9223372036854775807 : Int64))) (9223372036854775 : Int64)))])) t → Steps p.tables e below (s₁.setTop (entryFrame m #[(.long q0), (.long q1), (.int p2)] maxLocals)) t := fun t k => pre11 t (by
      refine XS.ifNo X0.here hx rfl (hb hby at_4) rfl ((if0 _ _).trans (teq hc12).2) ?_
      show Steps p.tables e below (s₁.setTop (mkF m 7 #[.val (.long q0), .second, .val (.long q1), .second, .val (.int p2), .unset, .unset, .unset, .unset, .unset, .unset, .unset] [])) _
      refine XS.lconst X0.here hx rfl (hb hby at_7) ?_
      show Steps p.tables e below (s₁.setTop (mkF m 8 #[.val (.long q0), .second, .val (.long q1), .second, .val (.int p2), .unset, .unset, .unset, .unset, .unset, .unset, .unset] [(.long (1 : Int64))])) _
      refine XS.lloadN X0.here hx rfl (hb hby at_8) rfl ?_
      show Steps p.tables e below (s₁.setTop (mkF m 9 #[.val (.long q0), .second, .val (.long q1), .second, .val (.int p2), .unset, .unset, .unset, .unset, .unset, .unset, .unset] [(.long q0), (.long (1 : Int64))])) _
      refine X0.ldc2Long hx hown (mvT hZ (hw _ (List.mem_of_getElem? (i := 0) rfl))) (g := (mkF m 9 #[.val (.long q0), .second, .val (.long q1), .second, .val (.int p2), .unset, .unset, .unset, .unset, .unset, .unset, .unset] [(.long q0), (.long (1 : Int64))])) rfl (hb hby at_9) _ ?_
      show Steps p.tables e below (s₁.setTop (mkF m 12 #[.val (.long q0), .second, .val (.long q1), .second, .val (.int p2), .unset, .unset, .unset, .unset, .unset, .unset, .unset] [(.long (9223372036854775807 : Int64)), (.long q0), (.long (1 : Int64))])) _
      refine XS.land X0.here hx rfl (hb hby at_12) rfl ?_
      show Steps p.tables e below (s₁.setTop (mkF m 13 #[.val (.long q0), .second, .val (.long q1), .second, .val (.int p2), .unset, .unset, .unset, .unset, .unset, .unset, .unset] [(.long (q0 &&& (9223372036854775807 : Int64))), (.long (1 : Int64))])) _
      refine st13 _ ?_
      show Steps p.tables e below (T13.setTop (mkF m 16 #[.val (.long q0), .second, .val (.long q1), .second, .val (.int p2), .unset, .unset, .unset, .unset, .unset, .unset, .unset] [(.long (b1_0 (1 : Int64) (q0 &&& (9223372036854775807 : Int64))))])) _
      refine XS.lstore X13.here hx rfl (hb hby at_16) rfl (l' := #[.val (.long q0), .second, .val (.long q1), .second, .val (.int p2), .val (.long (b1_0 (1 : Int64) (q0 &&& (9223372036854775807 : Int64)))), .second, .unset, .unset, .unset, .unset, .unset]) rfl ?_
      show Steps p.tables e below (T13.setTop (mkF m 18 #[.val (.long q0), .second, .val (.long q1), .second, .val (.int p2), .val (.long (b1_0 (1 : Int64) (q0 &&& (9223372036854775807 : Int64)))), .second, .unset, .unset, .unset, .unset, .unset] [])) _
      refine XS.goto X13.here hx rfl (pc0 := 18) (pc' := 32) rfl (hb hby at_18) (by decide) (by decide) ?_
      show Steps p.tables e below (T13.setTop (mkF m 32 #[.val (.long q0), .second, .val (.long q1), .second, .val (.int p2), .val (.long (b1_0 (1 : Int64) (q0 &&& (9223372036854775807 : Int64)))), .second, .unset, .unset, .unset, .unset, .unset] [])) _
      refine XS.lconst X13.here hx rfl (hb hby at_32) ?_
      show Steps p.tables e below (T13.setTop (mkF m 33 #[.val (.long q0), .second, .val (.long q1), .second, .val (.int p2), .val (.long (b1_0 (1 : Int64) (q0 &&& (9223372036854775807 : Int64)))), .second, .unset, .unset, .unset, .unset, .unset] [(.long (1 : Int64))])) _
      refine XS.lloadN X13.here hx rfl (hb hby at_33) rfl ?_
      show Steps p.tables e below (T13.setTop (mkF m 34 #[.val (.long q0), .second, .val (.long q1), .second, .val (.int p2), .val (.long (b1_0 (1 : Int64) (q0 &&& (9223372036854775807 : Int64)))), .second, .unset, .unset, .unset, .unset, .unset] [(.long q1), (.long (1 : Int64))])) _
      refine X13.ldc2Long hx hown (mvT hZ (hw _ (List.mem_of_getElem? (i := 0) rfl))) (g := (mkF m 34 #[.val (.long q0), .second, .val (.long q1), .second, .val (.int p2), .val (.long (b1_0 (1 : Int64) (q0 &&& (9223372036854775807 : Int64)))), .second, .unset, .unset, .unset, .unset, .unset] [(.long q1), (.long (1 : Int64))])) rfl (hb hby at_34) _ ?_
      show Steps p.tables e below (T13.setTop (mkF m 37 #[.val (.long q0), .second, .val (.long q1), .second, .val (.int p2), .val (.long (b1_0 (1 : Int64) (q0 &&& (9223372036854775807 : Int64)))), .second, .unset, .unset, .unset, .unset, .unset] [(.long (9223372036854775807 : Int64)), (.long q1), (.long (1 : Int64))])) _
      refine XS.land X13.here hx rfl (hb hby at_37) rfl ?_
      show Steps p.tables e below (T13.setTop (mkF m 38 #[.val (.long q0), .second, .val (.long q1), .second, .val (.int p2), .val (.long (b1_0 (1 : Int64) (q0 &&& (9223372036854775807 : Int64)))), .second, .unset, .unset, .unset, .unset, .unset] [(.long (q1 &&& (9223372036854775807 : Int64))), (.long (1 : Int64))])) _
      refine st14 _ ?_
      show Steps p.tables e below (T14.setTop (mkF m 41 #[.val (.long q0), .second, .val (.long q1), .second, .val (.int p2), .val (.long (b1_0 (1 : Int64) (q0 &&& (9223372036854775807 : Int64)))), .second, .unset, .unset, .unset, .unset, .unset] [(.long (b1_0 (1 : Int64) (q1 &&& (9223372036854775807 : Int64))))])) _
      refine XS.lstore X14.here hx rfl (hb hby at_41) rfl (l' := #[.val (.long q0), .second, .val (.long q1), .second, .val (.int p2), .val (.long (b1_0 (1 : Int64) (q0 &&& (9223372036854775807 : Int64)))), .second, .val (.long (b1_0 (1 : Int64) (q1 &&& (9223372036854775807 : Int64)))), .second, .unset, .unset, .unset]) rfl ?_
      show Steps p.tables e below (T14.setTop (mkF m 43 #[.val (.long q0), .second, .val (.long q1), .second, .val (.int p2), .val (.long (b1_0 (1 : Int64) (q0 &&& (9223372036854775807 : Int64)))), .second, .val (.long (b1_0 (1 : Int64) (q1 &&& (9223372036854775807 : Int64)))), .second, .unset, .unset, .unset] [])) _
      refine st15 _ ?_
      show Steps p.tables e below (T15.setTop (mkF m 46 #[.val (.long q0), .second, .val (.long q1), .second, .val (.int p2), .val (.long (b1_0 (1 : Int64) (q0 &&& (9223372036854775807 : Int64)))), .second, .val (.long (b1_0 (1 : Int64) (q1 &&& (9223372036854775807 : Int64)))), .second, .unset, .unset, .unset] [(.ref b15)])) _
      refine XS.dup X15.here hx rfl (hb hby at_46) rfl rfl ?_
      show Steps p.tables e below (T15.setTop (mkF m 47 #[.val (.long q0), .second, .val (.long q1), .second, .val (.int p2), .val (.long (b1_0 (1 : Int64) (q0 &&& (9223372036854775807 : Int64)))), .second, .val (.long (b1_0 (1 : Int64) (q1 &&& (9223372036854775807 : Int64)))), .second, .unset, .unset, .unset] [(.ref b15), (.ref b15)])) _
      refine XS.lload X15.here hx rfl (hb hby at_47) rfl ?_
      show Steps p.tables e below (T15.setTop (mkF m 49 #[.val (.long q0), .second, .val (.long q1), .second, .val (.int p2), .val (.long (b1_0 (1 : Int64) (q0 &&& (9223372036854775807 : Int64)))), .second, .val (.long (b1_0 (1 : Int64) (q1 &&& (9223372036854775807 : Int64)))), .second, .unset, .unset, .unset] [(.long (b1_0 (1 : Int64) (q1 &&& (9223372036854775807 : Int64)))), (.ref b15), (.ref b15)])) _
      refine XS.lload X15.here hx rfl (hb hby at_49) rfl ?_
      show Steps p.tables e below (T15.setTop (mkF m 51 #[.val (.long q0), .second, .val (.long q1), .second, .val (.int p2), .val (.long (b1_0 (1 : Int64) (q0 &&& (9223372036854775807 : Int64)))), .second, .val (.long (b1_0 (1 : Int64) (q1 &&& (9223372036854775807 : Int64)))), .second, .unset, .unset, .unset] [(.long (b1_0 (1 : Int64) (q0 &&& (9223372036854775807 : Int64)))), (.long (b1_0 (1 : Int64) (q1 &&& (9223372036854775807 : Int64)))), (.ref b15), (.ref b15)])) _
      refine st18.trans ?_
      show Steps p.tables e below (T18.setTop (mkF m 54 #[.val (.long q0), .second, .val (.long q1), .second, .val (.int p2), .val (.long (b1_0 (1 : Int64) (q0 &&& (9223372036854775807 : Int64)))), .second, .val (.long (b1_0 (1 : Int64) (q1 &&& (9223372036854775807 : Int64)))), .second, .unset, .unset, .unset] [(.ref b15)])) _
      refine XS.astore X18.here hx rfl (hb hby at_54) rfl rfl (l' := #[.val (.long q0), .second, .val (.long q1), .second, .val (.int p2), .val (.long (b1_0 (1 : Int64) (q0 &&& (9223372036854775807 : Int64)))), .second, .val (.long (b1_0 (1 : Int64) (q1 &&& (9223372036854775807 : Int64)))), .second, .val (.ref b15), .unset, .unset]) rfl ?_
      show Steps p.tables e below (T18.setTop (mkF m 56 #[.val (.long q0), .second, .val (.long q1), .second, .val (.int p2), .val (.long (b1_0 (1 : Int64) (q0 &&& (9223372036854775807 : Int64)))), .second, .val (.long (b1_0 (1 : Int64) (q1 &&& (9223372036854775807 : Int64)))), .second, .val (.ref b15), .unset, .unset] [])) _
      refine XS.aload X18.here hx rfl (hb hby at_56) rfl rfl ?_
      show Steps p.tables e below (T18.setTop (mkF m 58 #[.val (.long q0), .second, .val (.long q1), .second, .val (.int p2), .val (.long (b1_0 (1 : Int64) (q0 &&& (9223372036854775807 : Int64)))), .second, .val (.long (b1_0 (1 : Int64) (q1 &&& (9223372036854775807 : Int64)))), .second, .val (.ref b15), .unset, .unset] [(.ref b15)])) _
      refine st20.trans ?_
      show Steps p.tables e below (T20.setTop (mkF m 61 #[.val (.long q0), .second, .val (.long q1), .second, .val (.int p2), .val (.long (b1_0 (1 : Int64) (q0 &&& (9223372036854775807 : Int64)))), .second, .val (.long (b1_0 (1 : Int64) (q1 &&& (9223372036854775807 : Int64)))), .second, .val (.ref b15), .unset, .unset] [(.long (own_ms (b1_0 (1 : Int64) (q0 &&& (9223372036854775807 : Int64)))))])) _
      refine XS.lstore X20.here hx rfl (hb hby at_61) rfl (l' := #[.val (.long q0), .second, .val (.long q1), .second, .val (.int p2), .val (.long (b1_0 (1 : Int64) (q0 &&& (9223372036854775807 : Int64)))), .second, .val (.long (b1_0 (1 : Int64) (q1 &&& (9223372036854775807 : Int64)))), .second, .val (.ref b15), .val (.long (own_ms (b1_0 (1 : Int64) (q0 &&& (9223372036854775807 : Int64))))), .second]) rfl ?_
      show Steps p.tables e below (T20.setTop (mkF m 63 #[.val (.long q0), .second, .val (.long q1), .second, .val (.int p2), .val (.long (b1_0 (1 : Int64) (q0 &&& (9223372036854775807 : Int64)))), .second, .val (.long (b1_0 (1 : Int64) (q1 &&& (9223372036854775807 : Int64)))), .second, .val (.ref b15), .val (.long (own_ms (b1_0 (1 : Int64) (q0 &&& (9223372036854775807 : Int64))))), .second] [])) _
      refine XS.lload X20.here hx rfl (hb hby at_63) rfl ?_
      show Steps p.tables e below (T20.setTop (mkF m 65 #[.val (.long q0), .second, .val (.long q1), .second, .val (.int p2), .val (.long (b1_0 (1 : Int64) (q0 &&& (9223372036854775807 : Int64)))), .second, .val (.long (b1_0 (1 : Int64) (q1 &&& (9223372036854775807 : Int64)))), .second, .val (.ref b15), .val (.long (own_ms (b1_0 (1 : Int64) (q0 &&& (9223372036854775807 : Int64))))), .second] [(.long (b1_0 (1 : Int64) (q0 &&& (9223372036854775807 : Int64))))])) _
      refine X20.ldc2Long hx hown (mvT hZ (hw _ (List.mem_of_getElem? (i := 25) rfl))) (g := (mkF m 65 #[.val (.long q0), .second, .val (.long q1), .second, .val (.int p2), .val (.long (b1_0 (1 : Int64) (q0 &&& (9223372036854775807 : Int64)))), .second, .val (.long (b1_0 (1 : Int64) (q1 &&& (9223372036854775807 : Int64)))), .second, .val (.ref b15), .val (.long (own_ms (b1_0 (1 : Int64) (q0 &&& (9223372036854775807 : Int64))))), .second] [(.long (b1_0 (1 : Int64) (q0 &&& (9223372036854775807 : Int64))))])) rfl (hb hby at_65) _ ?_
      show Steps p.tables e below (T20.setTop (mkF m 68 #[.val (.long q0), .second, .val (.long q1), .second, .val (.int p2), .val (.long (b1_0 (1 : Int64) (q0 &&& (9223372036854775807 : Int64)))), .second, .val (.long (b1_0 (1 : Int64) (q1 &&& (9223372036854775807 : Int64)))), .second, .val (.ref b15), .val (.long (own_ms (b1_0 (1 : Int64) (q0 &&& (9223372036854775807 : Int64))))), .second] [(.long (9223372036854775 : Int64)), (.long (b1_0 (1 : Int64) (q0 &&& (9223372036854775807 : Int64))))])) _
      refine XS.lcmp X20.here hx rfl (hb hby at_68) rfl ?_
      exact k)
    by_cases hc22 : (9223372036854775 : Int64) < (b1_0 (1 : Int64) (q0 &&& (9223372036854775807 : Int64)))
    · obtain ⟨fs, hr, hrun, hended, hW, hsame⟩ := X20.leave (v := some (.int (1 : Int32))) (fun h => by rw [Bd.returns] at h; cases h)
      refine ⟨_, _, pre21 _ ?_, hrun, hended, _, _, rfl, ?_, ⟨_, rfl⟩, hW, hsame.mono (by decide) (by decide)⟩
      · refine XS.ifYes X20.here hx rfl (pc0 := 69) (pc' := 101) rfl (hb hby at_69) rfl ((if0 _ _).trans (tlt ((lw_gt (b1_0 (1 : Int64) (q0 &&& (9223372036854775807 : Int64))) (9223372036854775 : Int64)).mpr hc22)).2.2.1) (by decide) (by decide) ?_
        show Steps p.tables e below (T20.setTop (mkF m 101 #[.val (.long q0), .second, .val (.long q1), .second, .val (.int p2), .val (.long (b1_0 (1 : Int64) (q0 &&& (9223372036854775807 : Int64)))), .second, .val (.long (b1_0 (1 : Int64) (q1 &&& (9223372036854775807 : Int64)))), .second, .val (.ref b15), .val (.long (own_ms (b1_0 (1 : Int64) (q0 &&& (9223372036854775807 : Int64))))), .second] [])) _
        refine XS.lload X20.here hx rfl (hb hby at_101) rfl ?_
        show Steps p.tables e below (T20.setTop (mkF m 103 #[.val (.long q0), .second, .val (.long q1), .second, .val (.int p2), .val (.long (b1_0 (1 : Int64) (q0 &&& (9223372036854775807 : Int64)))), .second, .val (.long (b1_0 (1 : Int64) (q1 &&& (9223372036854775807 : Int64)))), .second, .val (.ref b15), .val (.long (own_ms (b1_0 (1 : Int64) (q0 &&& (9223372036854775807 : Int64))))), .second] [(.long (own_ms (b1_0 (1 : Int64) (q0 &&& (9223372036854775807 : Int64)))))])) _
        refine X20.ldc2Long hx hown (mvT hZ (hw _ (List.mem_of_getElem? (i := 0) rfl))) (g := (mkF m 103 #[.val (.long q0), .second, .val (.long q1), .second, .val (.int p2), .val (.long (b1_0 (1 : Int64) (q0 &&& (9223372036854775807 : Int64)))), .second, .val (.long (b1_0 (1 : Int64) (q1 &&& (9223372036854775807 : Int64)))), .second, .val (.ref b15), .val (.long (own_ms (b1_0 (1 : Int64) (q0 &&& (9223372036854775807 : Int64))))), .second] [(.long (own_ms (b1_0 (1 : Int64) (q0 &&& (9223372036854775807 : Int64)))))])) rfl (hb hby at_103) _ ?_
        show Steps p.tables e below (T20.setTop (mkF m 106 #[.val (.long q0), .second, .val (.long q1), .second, .val (.int p2), .val (.long (b1_0 (1 : Int64) (q0 &&& (9223372036854775807 : Int64)))), .second, .val (.long (b1_0 (1 : Int64) (q1 &&& (9223372036854775807 : Int64)))), .second, .val (.ref b15), .val (.long (own_ms (b1_0 (1 : Int64) (q0 &&& (9223372036854775807 : Int64))))), .second] [(.long (9223372036854775807 : Int64)), (.long (own_ms (b1_0 (1 : Int64) (q0 &&& (9223372036854775807 : Int64)))))])) _
        refine XS.lcmp X20.here hx rfl (hb hby at_106) rfl ?_
        show Steps p.tables e below (T20.setTop (mkF m 107 #[.val (.long q0), .second, .val (.long q1), .second, .val (.int p2), .val (.long (b1_0 (1 : Int64) (q0 &&& (9223372036854775807 : Int64)))), .second, .val (.long (b1_0 (1 : Int64) (q1 &&& (9223372036854775807 : Int64)))), .second, .val (.ref b15), .val (.long (own_ms (b1_0 (1 : Int64) (q0 &&& (9223372036854775807 : Int64))))), .second] [(.int (lcmpW (own_ms (b1_0 (1 : Int64) (q0 &&& (9223372036854775807 : Int64)))) (9223372036854775807 : Int64)))])) _
        refine XS.ifNo X20.here hx rfl (hb hby at_107) rfl ((if0 _ _).trans (teq ((lw_eq (own_ms (b1_0 (1 : Int64) (q0 &&& (9223372036854775807 : Int64)))) (9223372036854775807 : Int64)).mpr (by rw [own_ms, if_pos hc22]))).2) ?_
        show Steps p.tables e below (T20.setTop (mkF m 110 #[.val (.long q0), .second, .val (.long q1), .second, .val (.int p2), .val (.long (b1_0 (1 : Int64) (q0 &&& (9223372036854775807 : Int64)))), .second, .val (.long (b1_0 (1 : Int64) (q1 &&& (9223372036854775807 : Int64)))), .second, .val (.ref b15), .val (.long (own_ms (b1_0 (1 : Int64) (q0 &&& (9223372036854775807 : Int64))))), .second] [])) _
        refine XS.iconst X20.here hx rfl (hb hby at_110) ?_
        show Steps p.tables e below (T20.setTop (mkF m 111 #[.val (.long q0), .second, .val (.long q1), .second, .val (.int p2), .val (.long (b1_0 (1 : Int64) (q0 &&& (9223372036854775807 : Int64)))), .second, .val (.long (b1_0 (1 : Int64) (q1 &&& (9223372036854775807 : Int64)))), .second, .val (.ref b15), .val (.long (own_ms (b1_0 (1 : Int64) (q0 &&& (9223372036854775807 : Int64))))), .second] [(.int (1 : Int32))])) _
        refine XS.goto X20.here hx rfl (pc0 := 111) (pc' := 115) rfl (hb hby at_111) (by decide) (by decide) ?_
        show Steps p.tables e below (T20.setTop (mkF m 115 #[.val (.long q0), .second, .val (.long q1), .second, .val (.int p2), .val (.long (b1_0 (1 : Int64) (q0 &&& (9223372036854775807 : Int64)))), .second, .val (.long (b1_0 (1 : Int64) (q1 &&& (9223372036854775807 : Int64)))), .second, .val (.ref b15), .val (.long (own_ms (b1_0 (1 : Int64) (q0 &&& (9223372036854775807 : Int64))))), .second] [(.int (1 : Int32))])) _
        exact retN X20 hx (t := .boolean) Bd.returns (by simp) (hb hby at_115) hr
      · show Q0 Z q0 q1 p2 h0 n0 _ T20.heap _
        rw [u20_0]
        exact ⟨rfl, N20⟩
    · obtain ⟨fs, hr, hrun, hended, hW, hsame⟩ := X20.leave (v := some (.int (1 : Int32))) (fun h => by rw [Bd.returns] at h; cases h)
      refine ⟨_, _, pre21 _ ?_, hrun, hended, _, _, rfl, ?_, ⟨_, rfl⟩, hW, hsame.mono (by decide) (by decide)⟩
      · refine XS.ifNo X20.here hx rfl (hb hby at_69) rfl ((if0 _ _).trans (flt (fun q => hc22 ((lw_gt (b1_0 (1 : Int64) (q0 &&& (9223372036854775807 : Int64))) (9223372036854775 : Int64)).mp q))).2.2.1) ?_
        show Steps p.tables e below (T20.setTop (mkF m 72 #[.val (.long q0), .second, .val (.long q1), .second, .val (.int p2), .val (.long (b1_0 (1 : Int64) (q0 &&& (9223372036854775807 : Int64)))), .second, .val (.long (b1_0 (1 : Int64) (q1 &&& (9223372036854775807 : Int64)))), .second, .val (.ref b15), .val (.long (own_ms (b1_0 (1 : Int64) (q0 &&& (9223372036854775807 : Int64))))), .second] [])) _
        refine XS.lload X20.here hx rfl (hb hby at_72) rfl ?_
        show Steps p.tables e below (T20.setTop (mkF m 74 #[.val (.long q0), .second, .val (.long q1), .second, .val (.int p2), .val (.long (b1_0 (1 : Int64) (q0 &&& (9223372036854775807 : Int64)))), .second, .val (.long (b1_0 (1 : Int64) (q1 &&& (9223372036854775807 : Int64)))), .second, .val (.ref b15), .val (.long (own_ms (b1_0 (1 : Int64) (q0 &&& (9223372036854775807 : Int64))))), .second] [(.long (own_ms (b1_0 (1 : Int64) (q0 &&& (9223372036854775807 : Int64)))))])) _
        refine X20.ldc2Long hx hown (mvT hZ (hw _ (List.mem_of_getElem? (i := 26) rfl))) (g := (mkF m 74 #[.val (.long q0), .second, .val (.long q1), .second, .val (.int p2), .val (.long (b1_0 (1 : Int64) (q0 &&& (9223372036854775807 : Int64)))), .second, .val (.long (b1_0 (1 : Int64) (q1 &&& (9223372036854775807 : Int64)))), .second, .val (.ref b15), .val (.long (own_ms (b1_0 (1 : Int64) (q0 &&& (9223372036854775807 : Int64))))), .second] [(.long (own_ms (b1_0 (1 : Int64) (q0 &&& (9223372036854775807 : Int64)))))])) rfl (hb hby at_74) _ ?_
        show Steps p.tables e below (T20.setTop (mkF m 77 #[.val (.long q0), .second, .val (.long q1), .second, .val (.int p2), .val (.long (b1_0 (1 : Int64) (q0 &&& (9223372036854775807 : Int64)))), .second, .val (.long (b1_0 (1 : Int64) (q1 &&& (9223372036854775807 : Int64)))), .second, .val (.ref b15), .val (.long (own_ms (b1_0 (1 : Int64) (q0 &&& (9223372036854775807 : Int64))))), .second] [(.long (1000 : Int64)), (.long (own_ms (b1_0 (1 : Int64) (q0 &&& (9223372036854775807 : Int64)))))])) _
        refine XS.lrem X20.here hx rfl (hb hby at_77) rfl (by decide) ?_
        show Steps p.tables e below (T20.setTop (mkF m 78 #[.val (.long q0), .second, .val (.long q1), .second, .val (.int p2), .val (.long (b1_0 (1 : Int64) (q0 &&& (9223372036854775807 : Int64)))), .second, .val (.long (b1_0 (1 : Int64) (q1 &&& (9223372036854775807 : Int64)))), .second, .val (.ref b15), .val (.long (own_ms (b1_0 (1 : Int64) (q0 &&& (9223372036854775807 : Int64))))), .second] [(.long ((own_ms (b1_0 (1 : Int64) (q0 &&& (9223372036854775807 : Int64)))) - ((own_ms (b1_0 (1 : Int64) (q0 &&& (9223372036854775807 : Int64)))) / (1000 : Int64)) * (1000 : Int64)))])) _
        refine XS.lconst X20.here hx rfl (hb hby at_78) ?_
        show Steps p.tables e below (T20.setTop (mkF m 79 #[.val (.long q0), .second, .val (.long q1), .second, .val (.int p2), .val (.long (b1_0 (1 : Int64) (q0 &&& (9223372036854775807 : Int64)))), .second, .val (.long (b1_0 (1 : Int64) (q1 &&& (9223372036854775807 : Int64)))), .second, .val (.ref b15), .val (.long (own_ms (b1_0 (1 : Int64) (q0 &&& (9223372036854775807 : Int64))))), .second] [(.long (0 : Int64)), (.long ((own_ms (b1_0 (1 : Int64) (q0 &&& (9223372036854775807 : Int64)))) - ((own_ms (b1_0 (1 : Int64) (q0 &&& (9223372036854775807 : Int64)))) / (1000 : Int64)) * (1000 : Int64)))])) _
        refine XS.lcmp X20.here hx rfl (hb hby at_79) rfl ?_
        show Steps p.tables e below (T20.setTop (mkF m 80 #[.val (.long q0), .second, .val (.long q1), .second, .val (.int p2), .val (.long (b1_0 (1 : Int64) (q0 &&& (9223372036854775807 : Int64)))), .second, .val (.long (b1_0 (1 : Int64) (q1 &&& (9223372036854775807 : Int64)))), .second, .val (.ref b15), .val (.long (own_ms (b1_0 (1 : Int64) (q0 &&& (9223372036854775807 : Int64))))), .second] [(.int (lcmpW ((own_ms (b1_0 (1 : Int64) (q0 &&& (9223372036854775807 : Int64)))) - ((own_ms (b1_0 (1 : Int64) (q0 &&& (9223372036854775807 : Int64)))) / (1000 : Int64)) * (1000 : Int64)) (0 : Int64)))])) _
        refine XS.ifNo X20.here hx rfl (hb hby at_80) rfl ((if0 _ _).trans (teq ((lw_eq ((own_ms (b1_0 (1 : Int64) (q0 &&& (9223372036854775807 : Int64)))) - ((own_ms (b1_0 (1 : Int64) (q0 &&& (9223372036854775807 : Int64)))) / (1000 : Int64)) * (1000 : Int64)) (0 : Int64)).mpr (own_rem _ hc22 (own_max _)))).2) ?_
        show Steps p.tables e below (T20.setTop (mkF m 83 #[.val (.long q0), .second, .val (.long q1), .second, .val (.int p2), .val (.long (b1_0 (1 : Int64) (q0 &&& (9223372036854775807 : Int64)))), .second, .val (.long (b1_0 (1 : Int64) (q1 &&& (9223372036854775807 : Int64)))), .second, .val (.ref b15), .val (.long (own_ms (b1_0 (1 : Int64) (q0 &&& (9223372036854775807 : Int64))))), .second] [])) _
        refine XS.lload X20.here hx rfl (hb hby at_83) rfl ?_
        show Steps p.tables e below (T20.setTop (mkF m 85 #[.val (.long q0), .second, .val (.long q1), .second, .val (.int p2), .val (.long (b1_0 (1 : Int64) (q0 &&& (9223372036854775807 : Int64)))), .second, .val (.long (b1_0 (1 : Int64) (q1 &&& (9223372036854775807 : Int64)))), .second, .val (.ref b15), .val (.long (own_ms (b1_0 (1 : Int64) (q0 &&& (9223372036854775807 : Int64))))), .second] [(.long (own_ms (b1_0 (1 : Int64) (q0 &&& (9223372036854775807 : Int64)))))])) _
        refine X20.ldc2Long hx hown (mvT hZ (hw _ (List.mem_of_getElem? (i := 26) rfl))) (g := (mkF m 85 #[.val (.long q0), .second, .val (.long q1), .second, .val (.int p2), .val (.long (b1_0 (1 : Int64) (q0 &&& (9223372036854775807 : Int64)))), .second, .val (.long (b1_0 (1 : Int64) (q1 &&& (9223372036854775807 : Int64)))), .second, .val (.ref b15), .val (.long (own_ms (b1_0 (1 : Int64) (q0 &&& (9223372036854775807 : Int64))))), .second] [(.long (own_ms (b1_0 (1 : Int64) (q0 &&& (9223372036854775807 : Int64)))))])) rfl (hb hby at_85) _ ?_
        show Steps p.tables e below (T20.setTop (mkF m 88 #[.val (.long q0), .second, .val (.long q1), .second, .val (.int p2), .val (.long (b1_0 (1 : Int64) (q0 &&& (9223372036854775807 : Int64)))), .second, .val (.long (b1_0 (1 : Int64) (q1 &&& (9223372036854775807 : Int64)))), .second, .val (.ref b15), .val (.long (own_ms (b1_0 (1 : Int64) (q0 &&& (9223372036854775807 : Int64))))), .second] [(.long (1000 : Int64)), (.long (own_ms (b1_0 (1 : Int64) (q0 &&& (9223372036854775807 : Int64)))))])) _
        refine XS.ldiv X20.here hx rfl (hb hby at_88) rfl (by decide) ?_
        show Steps p.tables e below (T20.setTop (mkF m 89 #[.val (.long q0), .second, .val (.long q1), .second, .val (.int p2), .val (.long (b1_0 (1 : Int64) (q0 &&& (9223372036854775807 : Int64)))), .second, .val (.long (b1_0 (1 : Int64) (q1 &&& (9223372036854775807 : Int64)))), .second, .val (.ref b15), .val (.long (own_ms (b1_0 (1 : Int64) (q0 &&& (9223372036854775807 : Int64))))), .second] [(.long ((own_ms (b1_0 (1 : Int64) (q0 &&& (9223372036854775807 : Int64)))) / (1000 : Int64)))])) _
        refine XS.lload X20.here hx rfl (hb hby at_89) rfl ?_
        show Steps p.tables e below (T20.setTop (mkF m 91 #[.val (.long q0), .second, .val (.long q1), .second, .val (.int p2), .val (.long (b1_0 (1 : Int64) (q0 &&& (9223372036854775807 : Int64)))), .second, .val (.long (b1_0 (1 : Int64) (q1 &&& (9223372036854775807 : Int64)))), .second, .val (.ref b15), .val (.long (own_ms (b1_0 (1 : Int64) (q0 &&& (9223372036854775807 : Int64))))), .second] [(.long (b1_0 (1 : Int64) (q0 &&& (9223372036854775807 : Int64)))), (.long ((own_ms (b1_0 (1 : Int64) (q0 &&& (9223372036854775807 : Int64)))) / (1000 : Int64)))])) _
        refine XS.lcmp X20.here hx rfl (hb hby at_91) rfl ?_
        show Steps p.tables e below (T20.setTop (mkF m 92 #[.val (.long q0), .second, .val (.long q1), .second, .val (.int p2), .val (.long (b1_0 (1 : Int64) (q0 &&& (9223372036854775807 : Int64)))), .second, .val (.long (b1_0 (1 : Int64) (q1 &&& (9223372036854775807 : Int64)))), .second, .val (.ref b15), .val (.long (own_ms (b1_0 (1 : Int64) (q0 &&& (9223372036854775807 : Int64))))), .second] [(.int (lcmpW ((own_ms (b1_0 (1 : Int64) (q0 &&& (9223372036854775807 : Int64)))) / (1000 : Int64)) (b1_0 (1 : Int64) (q0 &&& (9223372036854775807 : Int64)))))])) _
        refine XS.ifNo X20.here hx rfl (hb hby at_92) rfl ((if0 _ _).trans (teq ((lw_eq ((own_ms (b1_0 (1 : Int64) (q0 &&& (9223372036854775807 : Int64)))) / (1000 : Int64)) (b1_0 (1 : Int64) (q0 &&& (9223372036854775807 : Int64)))).mpr (own_div _ hc22 (own_max _)))).2) ?_
        show Steps p.tables e below (T20.setTop (mkF m 95 #[.val (.long q0), .second, .val (.long q1), .second, .val (.int p2), .val (.long (b1_0 (1 : Int64) (q0 &&& (9223372036854775807 : Int64)))), .second, .val (.long (b1_0 (1 : Int64) (q1 &&& (9223372036854775807 : Int64)))), .second, .val (.ref b15), .val (.long (own_ms (b1_0 (1 : Int64) (q0 &&& (9223372036854775807 : Int64))))), .second] [])) _
        refine XS.iconst X20.here hx rfl (hb hby at_95) ?_
        show Steps p.tables e below (T20.setTop (mkF m 96 #[.val (.long q0), .second, .val (.long q1), .second, .val (.int p2), .val (.long (b1_0 (1 : Int64) (q0 &&& (9223372036854775807 : Int64)))), .second, .val (.long (b1_0 (1 : Int64) (q1 &&& (9223372036854775807 : Int64)))), .second, .val (.ref b15), .val (.long (own_ms (b1_0 (1 : Int64) (q0 &&& (9223372036854775807 : Int64))))), .second] [(.int (1 : Int32))])) _
        refine XS.goto X20.here hx rfl (pc0 := 96) (pc' := 100) rfl (hb hby at_96) (by decide) (by decide) ?_
        show Steps p.tables e below (T20.setTop (mkF m 100 #[.val (.long q0), .second, .val (.long q1), .second, .val (.int p2), .val (.long (b1_0 (1 : Int64) (q0 &&& (9223372036854775807 : Int64)))), .second, .val (.long (b1_0 (1 : Int64) (q1 &&& (9223372036854775807 : Int64)))), .second, .val (.ref b15), .val (.long (own_ms (b1_0 (1 : Int64) (q0 &&& (9223372036854775807 : Int64))))), .second] [(.int (1 : Int32))])) _
        exact retN X20 hx (t := .boolean) Bd.returns (by simp) (hb hby at_100) hr
      · show Q0 Z q0 q1 p2 h0 n0 _ T20.heap _
        rw [u20_0]
        exact ⟨rfl, N20⟩
  · obtain ⟨_, _, ⟨T23, L23, k23, n23⟩, -, X23, ⟨Lc23, hQ23, l23, y23, z23⟩, st23⟩ := Jvm.LawKit.callS X0 hx (y := (⟨"java/lang/Math", "max", "(JJ)J"⟩ : MethodName)) hown (mvT hZ (hw _ (List.mem_of_getElem? (i := 1) rfl))) (mvT hZ (hw _ (List.mem_of_getElem? (i := 2) rfl))) (mvT hZ (hw _ (List.mem_of_getElem? (i := 3) rfl))) (mvT hZ (hw _ (List.mem_of_getElem? (i := 4) rfl))) (by decide) (backOf (W := 0) (rm1 l Z a0 hw [] (1 : Int64) (q1 &&& (9223372036854775807 : Int64)) h0 n0 Z0) hZ (hw _ (List.mem_of_getElem? (i := 4) rfl)) (hw _ (List.mem_of_getElem? (i := 3) rfl)) (by decide) (by decide)) (g := (mkF m 38 #[.val (.long q0), .second, .val (.long q1), .second, .val (.int p2), .val (.long ((9223372036854772 : Int64) + (q0 &&& (7 : Int64)))), .second, .unset, .unset, .unset, .unset, .unset] [(.long (q1 &&& (9223372036854775807 : Int64))), (.long (1 : Int64))])) rfl (by rw [hml]; rfl) (argsL := [(.long (1 : Int64)), (.long (q1 &&& (9223372036854775807 : Int64)))]) (rest := []) (lenOf pd_0 rfl) rfl (by show 2 * 0 + _ ≤ _; exact Nat.le_of_eq rfl) (hb hby at_38) (fun _ _ => ⟨rfl, e0, (by decide : 0 + 0 ≤ _), (by decide : 0 + 0 ≤ _)⟩)
    dsimp only [Pt.U, Pt.locs, Pt.cells, Pt.slots] at X23 l23 y23 z23 st23 hQ23
    subst l23 y23 z23
    obtain ⟨rfl, Nq23, eh23⟩ := hQ23
    have N23 := Fr.app N0 Nq23
    obtain ⟨T24, h24, X24, e24, E24, A24, D24, -, st24⟩ := newO X23 hx hZ hown (hw _ (List.mem_of_getElem? (i := 5) rfl)) (hw _ (List.mem_of_getElem? (i := 6) rfl)) (hw _ (List.mem_of_getElem? (i := 7) rfl)) eh23 (g := (mkF m 43 #[.val (.long q0), .second, .val (.long q1), .second, .val (.int p2), .val (.long ((9223372036854772 : Int64) + (q0 &&& (7 : Int64)))), .second, .val (.long (b1_0 (1 : Int64) (q1 &&& (9223372036854775807 : Int64)))), .second, .unset, .unset, .unset] [])) rfl (hb hby at_43) (by decide) (by decide)
    obtain ⟨b24, gb24⟩ : ∃ z, z = h0.size := ⟨_, rfl⟩
    rw [← gb24] at A24 D24 st24
    have g25 : n0 ≤ b24 := Nat.le_trans Z0 (Nat.le_of_eq gb24.symm)
    have Z26 : n0 ≤ h24.size := Nat.le_trans Z0 E24.1
    have F24_maxBytes : Fld Z h24 b24 "com/example/narada/narada/eventlog/Retention" "maxBytes" "J" (.long (0 : Int64)) := D24 (Or.inr (hw _ (List.mem_of_getElem? (i := 15) rfl))) (ty := .long) (by decide)
    have F24_maxAgeSeconds : Fld Z h24 b24 "com/example/narada/narada/eventlog/Retention" "maxAgeSeconds" "J" (.long (0 : Int64)) := D24 (Or.inr (hw _ (List.mem_of_getElem? (i := 17) rfl))) (ty := .long) (by decide)
    obtain ⟨_, _, ⟨T27, L27, k27, n27⟩, -, X27, ⟨Lc27, hQ27, l27, y27, z27⟩, st27⟩ := X24.specialBack hx (y := (⟨"com/example/narada/narada/eventlog/Retention", "<init>", "(JJ)V"⟩ : MethodName)) rfl hown (mvT hZ (hw _ (List.mem_of_getElem? (i := 8) rfl))) (mvT hZ (hw _ (List.mem_of_getElem? (i := 9) rfl))) (mvT hZ (hw _ (List.mem_of_getElem? (i := 10) rfl))) (by decide) (backOf (W := 1) (rm2 l Z a0 hw [] b24 (b1_0 (1 : Int64) (q1 &&& (9223372036854775807 : Int64))) ((9223372036854772 : Int64) + (q0 &&& (7 : Int64)))  h24 n0 Z26 A24 F24_maxBytes F24_maxAgeSeconds g25 (own_max _) (own_near _)) hZ (hw _ (List.mem_of_getElem? (i := 10) rfl)) (hw _ (List.mem_of_getElem? (i := 7) rfl)) (by decide) (by decide)) (g := (mkF m 51 #[.val (.long q0), .second, .val (.long q1), .second, .val (.int p2), .val (.long ((9223372036854772 : Int64) + (q0 &&& (7 : Int64)))), .second, .val (.long (b1_0 (1 : Int64) (q1 &&& (9223372036854775807 : Int64)))), .second, .unset, .unset, .unset] [(.long ((9223372036854772 : Int64) + (q0 &&& (7 : Int64)))), (.long (b1_0 (1 : Int64) (q1 &&& (9223372036854775807 : Int64)))), (.ref b24), (.ref b24)])) rfl (by rw [hml]; rfl) (Steps.refl _) (a := b24) (argsL := [(.long (b1_0 (1 : Int64) (q1 &&& (9223372036854775807 : Int64)))), (.long ((9223372036854772 : Int64) + (q0 &&& (7 : Int64))))]) (rest := [(.ref b24)]) (lenOf pd_1 rfl) rfl (by show 2 * 0 + _ ≤ _; exact Nat.le_of_eq rfl) (hb hby at_51) (fun _ _ => ⟨rfl, e24, (by decide : 1 + 0 ≤ _), (by decide : 2 + 0 ≤ _)⟩)
    dsimp only [Pt.U, Pt.locs, Pt.cells, Pt.slots] at X27 l27 y27 z27 st27 hQ27
    subst l27 y27 z27
    obtain ⟨rfl, Nq27, u27_0, u27_1, u27_2⟩ := hQ27
    have N27 := Fr.app N23 Nq27
    have Z28 : n0 ≤ T27.heap.size := Nat.le_trans Z26 u27_0.1
    obtain ⟨cq29, kq29, q29a, q29b, q29c⟩ := isOf hZ rfl u27_1
    obtain ⟨_, _, ⟨T29, L29, k29, n29⟩, -, X29, ⟨Lc29, hQ29, l29, y29, z29⟩, st29⟩ := X27.virtualBack hx (y := (⟨"com/example/narada/narada/eventlog/Retention", "getMaxAgeMillis", "()J"⟩ : MethodName)) (z := (⟨"com/example/narada/narada/eventlog/Retention", "getMaxAgeMillis", "()J"⟩ : MethodName)) hown (mvT hZ (hw _ (List.mem_of_getElem? (i := 18) rfl))) (mvT hZ (hw _ (List.mem_of_getElem? (i := 19) rfl))) (notFace_of_selects (args := #[]) (mvT hZ (hw _ (List.mem_of_getElem? (i := 21) rfl)))) (mvT hZ (hw _ (List.mem_of_getElem? (i := 21) rfl))) (mvT hZ (hw _ (List.mem_of_getElem? (i := 20) rfl))) (by decide) (backOf (W := 0) (rm4 l Z a0 hw [] b24 ((9223372036854772 : Int64) + (q0 &&& (7 : Int64))) T27.heap n0 Z28 u27_2) hZ (hw _ (List.mem_of_getElem? (i := 22) rfl)) (hw _ (List.mem_of_getElem? (i := 7) rfl)) (by decide) (by decide)) q29a q29c (g := (mkF m 58 #[.val (.long q0), .second, .val (.long q1), .second, .val (.int p2), .val (.long ((9223372036854772 : Int64) + (q0 &&& (7 : Int64)))), .second, .val (.long (b1_0 (1 : Int64) (q1 &&& (9223372036854775807 : Int64)))), .second, .val (.ref b24), .unset, .unset] [(.ref b24)])) rfl (by rw [hml]; rfl) (Steps.refl _) (argsL := []) (rest := []) (lenOf pd_2 rfl) rfl (by show 2 * 0 + _ ≤ _; exact Nat.le_of_eq rfl) (hb hby at_58) (fun _ _ => ⟨rfl, rfl, (by decide : 1 + 0 ≤ _), (by decide : 2 + 0 ≤ _)⟩)
    dsimp only [Pt.U, Pt.locs, Pt.cells, Pt.slots] at X29 l29 y29 z29 st29 hQ29
    subst l29 y29 z29
    obtain ⟨rfl, Nq29, u29_0⟩ := hQ29
    have N29 := Fr.app N27 Nq29
    have pre30 : ∀ t, Steps p.tables e below (T29.setTop (mkF m 69 #[.val (.long q0), .second, .val (.long q1), .second, .val (.int p2), .val (.long ((9223372036854772 : Int64) + (q0 &&& (7 : Int64)))), .second, .val (.long (b1_0 (1 : Int64) (q1 &&& (9223372036854775807 : Int64)))), .second, .val (.ref b24), .val (.long (own_ms ((9223372036854772 : Int64) + (q0 &&& (7 : Int64))))), .second] [(.int (lcmpW ((9223372036854772 : Int64) + (q0 &&& (7 : Int64))) (9223372036854775 : Int64)))])) t → Steps p.tables e below (s₁.setTop (entryFrame m #[(.long q0), (.long q1), (.int p2)] maxLocals)) t := fun t k => pre11 t (by
      refine XS.ifYes X0.here hx rfl (pc0 := 4) (pc' := 21) rfl (hb hby at_4) rfl ((if0 _ _).trans (feq hc12).2) (by decide) (by decide) ?_
      show Steps p.tables e below (s₁.setTop (mkF m 21 #[.val (.long q0), .second, .val (.long q1), .second, .val (.int p2), .unset, .unset, .unset, .unset, .unset, .unset, .unset] [])) _
      refine X0.ldc2Long hx hown (mvT hZ (hw _ (List.mem_of_getElem? (i := 27) rfl))) (g := (mkF m 21 #[.val (.long q0), .second, .val (.long q1), .second, .val (.int p2), .unset, .unset, .unset, .unset, .unset, .unset, .unset] [])) rfl (hb hby at_21) _ ?_
      show Steps p.tables e below (s₁.setTop (mkF m 24 #[.val (.long q0), .second, .val (.long q1), .second, .val (.int p2), .unset, .unset, .unset, .unset, .unset, .unset, .unset] [(.long (9223372036854772 : Int64))])) _
      refine XS.lloadN X0.here hx rfl (hb hby at_24) rfl ?_
      show Steps p.tables e below (s₁.setTop (mkF m 25 #[.val (.long q0), .second, .val (.long q1), .second, .val (.int p2), .unset, .unset, .unset, .unset, .unset, .unset, .unset] [(.long q0), (.long (9223372036854772 : Int64))])) _
      refine X0.ldc2Long hx hown (mvT hZ (hw _ (List.mem_of_getElem? (i := 28) rfl))) (g := (mkF m 25 #[.val (.long q0), .second, .val (.long q1), .second, .val (.int p2), .unset, .unset, .unset, .unset, .unset, .unset, .unset] [(.long q0), (.long (9223372036854772 : Int64))])) rfl (hb hby at_25) _ ?_
      show Steps p.tables e below (s₁.setTop (mkF m 28 #[.val (.long q0), .second, .val (.long q1), .second, .val (.int p2), .unset, .unset, .unset, .unset, .unset, .unset, .unset] [(.long (7 : Int64)), (.long q0), (.long (9223372036854772 : Int64))])) _
      refine XS.land X0.here hx rfl (hb hby at_28) rfl ?_
      show Steps p.tables e below (s₁.setTop (mkF m 29 #[.val (.long q0), .second, .val (.long q1), .second, .val (.int p2), .unset, .unset, .unset, .unset, .unset, .unset, .unset] [(.long (q0 &&& (7 : Int64))), (.long (9223372036854772 : Int64))])) _
      refine XS.ladd X0.here hx rfl (hb hby at_29) rfl ?_
      show Steps p.tables e below (s₁.setTop (mkF m 30 #[.val (.long q0), .second, .val (.long q1), .second, .val (.int p2), .unset, .unset, .unset, .unset, .unset, .unset, .unset] [(.long ((9223372036854772 : Int64) + (q0 &&& (7 : Int64))))])) _
      refine XS.lstore X0.here hx rfl (hb hby at_30) rfl (l' := #[.val (.long q0), .second, .val (.long q1), .second, .val (.int p2), .val (.long ((9223372036854772 : Int64) + (q0 &&& (7 : Int64)))), .second, .unset, .unset, .unset, .unset, .unset]) rfl ?_
      show Steps p.tables e below (s₁.setTop (mkF m 32 #[.val (.long q0), .second, .val (.long q1), .second, .val (.int p2), .val (.long ((9223372036854772 : Int64) + (q0 &&& (7 : Int64)))), .second, .unset, .unset, .unset, .unset, .unset] [])) _
      refine XS.lconst X0.here hx rfl (hb hby at_32) ?_
      show Steps p.tables e below (s₁.setTop (mkF m 33 #[.val (.long q0), .second, .val (.long q1), .second, .val (.int p2), .val (.long ((9223372036854772 : Int64) + (q0 &&& (7 : Int64)))), .second, .unset, .unset, .unset, .unset, .unset] [(.long (1 : Int64))])) _
      refine XS.lloadN X0.here hx rfl (hb hby at_33) rfl ?_
      show Steps p.tables e below (s₁.setTop (mkF m 34 #[.val (.long q0), .second, .val (.long q1), .second, .val (.int p2), .val (.long ((9223372036854772 : Int64) + (q0 &&& (7 : Int64)))), .second, .unset, .unset, .unset, .unset, .unset] [(.long q1), (.long (1 : Int64))])) _
      refine X0.ldc2Long hx hown (mvT hZ (hw _ (List.mem_of_getElem? (i := 0) rfl))) (g := (mkF m 34 #[.val (.long q0), .second, .val (.long q1), .second, .val (.int p2), .val (.long ((9223372036854772 : Int64) + (q0 &&& (7 : Int64)))), .second, .unset, .unset, .unset, .unset, .unset] [(.long q1), (.long (1 : Int64))])) rfl (hb hby at_34) _ ?_
      show Steps p.tables e below (s₁.setTop (mkF m 37 #[.val (.long q0), .second, .val (.long q1), .second, .val (.int p2), .val (.long ((9223372036854772 : Int64) + (q0 &&& (7 : Int64)))), .second, .unset, .unset, .unset, .unset, .unset] [(.long (9223372036854775807 : Int64)), (.long q1), (.long (1 : Int64))])) _
      refine XS.land X0.here hx rfl (hb hby at_37) rfl ?_
      show Steps p.tables e below (s₁.setTop (mkF m 38 #[.val (.long q0), .second, .val (.long q1), .second, .val (.int p2), .val (.long ((9223372036854772 : Int64) + (q0 &&& (7 : Int64)))), .second, .unset, .unset, .unset, .unset, .unset] [(.long (q1 &&& (9223372036854775807 : Int64))), (.long (1 : Int64))])) _
      refine st23 _ ?_
      show Steps p.tables e below (T23.setTop (mkF m 41 #[.val (.long q0), .second, .val (.long q1), .second, .val (.int p2), .val (.long ((9223372036854772 : Int64) + (q0 &&& (7 : Int64)))), .second, .unset, .unset, .unset, .unset, .unset] [(.long (b1_0 (1 : Int64) (q1 &&& (9223372036854775807 : Int64))))])) _
      refine XS.lstore X23.here hx rfl (hb hby at_41) rfl (l' := #[.val (.long q0), .second, .val (.long q1), .second, .val (.int p2), .val (.long ((9223372036854772 : Int64) + (q0 &&& (7 : Int64)))), .second, .val (.long (b1_0 (1 : Int64) (q1 &&& (9223372036854775807 : Int64)))), .second, .unset, .unset, .unset]) rfl ?_
      show Steps p.tables e below (T23.setTop (mkF m 43 #[.val (.long q0), .second, .val (.long q1), .second, .val (.int p2), .val (.long ((9223372036854772 : Int64) + (q0 &&& (7 : Int64)))), .second, .val (.long (b1_0 (1 : Int64) (q1 &&& (9223372036854775807 : Int64)))), .second, .unset, .unset, .unset] [])) _
      refine st24 _ ?_
      show Steps p.tables e below (T24.setTop (mkF m 46 #[.val (.long q0), .second, .val (.long q1), .second, .val (.int p2), .val (.long ((9223372036854772 : Int64) + (q0 &&& (7 : Int64)))), .second, .val (.long (b1_0 (1 : Int64) (q1 &&& (9223372036854775807 : Int64)))), .second, .unset, .unset, .unset] [(.ref b24)])) _
      refine XS.dup X24.here hx rfl (hb hby at_46) rfl rfl ?_
      show Steps p.tables e below (T24.setTop (mkF m 47 #[.val (.long q0), .second, .val (.long q1), .second, .val (.int p2), .val (.long ((9223372036854772 : Int64) + (q0 &&& (7 : Int64)))), .second, .val (.long (b1_0 (1 : Int64) (q1 &&& (9223372036854775807 : Int64)))), .second, .unset, .unset, .unset] [(.ref b24), (.ref b24)])) _
      refine XS.lload X24.here hx rfl (hb hby at_47) rfl ?_
      show Steps p.tables e below (T24.setTop (mkF m 49 #[.val (.long q0), .second, .val (.long q1), .second, .val (.int p2), .val (.long ((9223372036854772 : Int64) + (q0 &&& (7 : Int64)))), .second, .val (.long (b1_0 (1 : Int64) (q1 &&& (9223372036854775807 : Int64)))), .second, .unset, .unset, .unset] [(.long (b1_0 (1 : Int64) (q1 &&& (9223372036854775807 : Int64)))), (.ref b24), (.ref b24)])) _
      refine XS.lload X24.here hx rfl (hb hby at_49) rfl ?_
      show Steps p.tables e below (T24.setTop (mkF m 51 #[.val (.long q0), .second, .val (.long q1), .second, .val (.int p2), .val (.long ((9223372036854772 : Int64) + (q0 &&& (7 : Int64)))), .second, .val (.long (b1_0 (1 : Int64) (q1 &&& (9223372036854775807 : Int64)))), .second, .unset, .unset, .unset] [(.long ((9223372036854772 : Int64) + (q0 &&& (7 : Int64)))), (.long (b1_0 (1 : Int64) (q1 &&& (9223372036854775807 : Int64)))), (.ref b24), (.ref b24)])) _
      refine st27.trans ?_
      show Steps p.tables e below (T27.setTop (mkF m 54 #[.val (.long q0), .second, .val (.long q1), .second, .val (.int p2), .val (.long ((9223372036854772 : Int64) + (q0 &&& (7 : Int64)))), .second, .val (.long (b1_0 (1 : Int64) (q1 &&& (9223372036854775807 : Int64)))), .second, .unset, .unset, .unset] [(.ref b24)])) _
      refine XS.astore X27.here hx rfl (hb hby at_54) rfl rfl (l' := #[.val (.long q0), .second, .val (.long q1), .second, .val (.int p2), .val (.long ((9223372036854772 : Int64) + (q0 &&& (7 : Int64)))), .second, .val (.long (b1_0 (1 : Int64) (q1 &&& (9223372036854775807 : Int64)))), .second, .val (.ref b24), .unset, .unset]) rfl ?_
      show Steps p.tables e below (T27.setTop (mkF m 56 #[.val (.long q0), .second, .val (.long q1), .second, .val (.int p2), .val (.long ((9223372036854772 : Int64) + (q0 &&& (7 : Int64)))), .second, .val (.long (b1_0 (1 : Int64) (q1 &&& (9223372036854775807 : Int64)))), .second, .val (.ref b24), .unset, .unset] [])) _
      refine XS.aload X27.here hx rfl (hb hby at_56) rfl rfl ?_
      show Steps p.tables e below (T27.setTop (mkF m 58 #[.val (.long q0), .second, .val (.long q1), .second, .val (.int p2), .val (.long ((9223372036854772 : Int64) + (q0 &&& (7 : Int64)))), .second, .val (.long (b1_0 (1 : Int64) (q1 &&& (9223372036854775807 : Int64)))), .second, .val (.ref b24), .unset, .unset] [(.ref b24)])) _
      refine st29.trans ?_
      show Steps p.tables e below (T29.setTop (mkF m 61 #[.val (.long q0), .second, .val (.long q1), .second, .val (.int p2), .val (.long ((9223372036854772 : Int64) + (q0 &&& (7 : Int64)))), .second, .val (.long (b1_0 (1 : Int64) (q1 &&& (9223372036854775807 : Int64)))), .second, .val (.ref b24), .unset, .unset] [(.long (own_ms ((9223372036854772 : Int64) + (q0 &&& (7 : Int64)))))])) _
      refine XS.lstore X29.here hx rfl (hb hby at_61) rfl (l' := #[.val (.long q0), .second, .val (.long q1), .second, .val (.int p2), .val (.long ((9223372036854772 : Int64) + (q0 &&& (7 : Int64)))), .second, .val (.long (b1_0 (1 : Int64) (q1 &&& (9223372036854775807 : Int64)))), .second, .val (.ref b24), .val (.long (own_ms ((9223372036854772 : Int64) + (q0 &&& (7 : Int64))))), .second]) rfl ?_
      show Steps p.tables e below (T29.setTop (mkF m 63 #[.val (.long q0), .second, .val (.long q1), .second, .val (.int p2), .val (.long ((9223372036854772 : Int64) + (q0 &&& (7 : Int64)))), .second, .val (.long (b1_0 (1 : Int64) (q1 &&& (9223372036854775807 : Int64)))), .second, .val (.ref b24), .val (.long (own_ms ((9223372036854772 : Int64) + (q0 &&& (7 : Int64))))), .second] [])) _
      refine XS.lload X29.here hx rfl (hb hby at_63) rfl ?_
      show Steps p.tables e below (T29.setTop (mkF m 65 #[.val (.long q0), .second, .val (.long q1), .second, .val (.int p2), .val (.long ((9223372036854772 : Int64) + (q0 &&& (7 : Int64)))), .second, .val (.long (b1_0 (1 : Int64) (q1 &&& (9223372036854775807 : Int64)))), .second, .val (.ref b24), .val (.long (own_ms ((9223372036854772 : Int64) + (q0 &&& (7 : Int64))))), .second] [(.long ((9223372036854772 : Int64) + (q0 &&& (7 : Int64))))])) _
      refine X29.ldc2Long hx hown (mvT hZ (hw _ (List.mem_of_getElem? (i := 25) rfl))) (g := (mkF m 65 #[.val (.long q0), .second, .val (.long q1), .second, .val (.int p2), .val (.long ((9223372036854772 : Int64) + (q0 &&& (7 : Int64)))), .second, .val (.long (b1_0 (1 : Int64) (q1 &&& (9223372036854775807 : Int64)))), .second, .val (.ref b24), .val (.long (own_ms ((9223372036854772 : Int64) + (q0 &&& (7 : Int64))))), .second] [(.long ((9223372036854772 : Int64) + (q0 &&& (7 : Int64))))])) rfl (hb hby at_65) _ ?_
      show Steps p.tables e below (T29.setTop (mkF m 68 #[.val (.long q0), .second, .val (.long q1), .second, .val (.int p2), .val (.long ((9223372036854772 : Int64) + (q0 &&& (7 : Int64)))), .second, .val (.long (b1_0 (1 : Int64) (q1 &&& (9223372036854775807 : Int64)))), .second, .val (.ref b24), .val (.long (own_ms ((9223372036854772 : Int64) + (q0 &&& (7 : Int64))))), .second] [(.long (9223372036854775 : Int64)), (.long ((9223372036854772 : Int64) + (q0 &&& (7 : Int64))))])) _
      refine XS.lcmp X29.here hx rfl (hb hby at_68) rfl ?_
      exact k)
    by_cases hc31 : (9223372036854775 : Int64) < ((9223372036854772 : Int64) + (q0 &&& (7 : Int64)))
    · obtain ⟨fs, hr, hrun, hended, hW, hsame⟩ := X29.leave (v := some (.int (1 : Int32))) (fun h => by rw [Bd.returns] at h; cases h)
      refine ⟨_, _, pre30 _ ?_, hrun, hended, _, _, rfl, ?_, ⟨_, rfl⟩, hW, hsame.mono (by decide) (by decide)⟩
      · refine XS.ifYes X29.here hx rfl (pc0 := 69) (pc' := 101) rfl (hb hby at_69) rfl ((if0 _ _).trans (tlt ((lw_gt ((9223372036854772 : Int64) + (q0 &&& (7 : Int64))) (9223372036854775 : Int64)).mpr hc31)).2.2.1) (by decide) (by decide) ?_
        show Steps p.tables e below (T29.setTop (mkF m 101 #[.val (.long q0), .second, .val (.long q1), .second, .val (.int p2), .val (.long ((9223372036854772 : Int64) + (q0 &&& (7 : Int64)))), .second, .val (.long (b1_0 (1 : Int64) (q1 &&& (9223372036854775807 : Int64)))), .second, .val (.ref b24), .val (.long (own_ms ((9223372036854772 : Int64) + (q0 &&& (7 : Int64))))), .second] [])) _
        refine XS.lload X29.here hx rfl (hb hby at_101) rfl ?_
        show Steps p.tables e below (T29.setTop (mkF m 103 #[.val (.long q0), .second, .val (.long q1), .second, .val (.int p2), .val (.long ((9223372036854772 : Int64) + (q0 &&& (7 : Int64)))), .second, .val (.long (b1_0 (1 : Int64) (q1 &&& (9223372036854775807 : Int64)))), .second, .val (.ref b24), .val (.long (own_ms ((9223372036854772 : Int64) + (q0 &&& (7 : Int64))))), .second] [(.long (own_ms ((9223372036854772 : Int64) + (q0 &&& (7 : Int64)))))])) _
        refine X29.ldc2Long hx hown (mvT hZ (hw _ (List.mem_of_getElem? (i := 0) rfl))) (g := (mkF m 103 #[.val (.long q0), .second, .val (.long q1), .second, .val (.int p2), .val (.long ((9223372036854772 : Int64) + (q0 &&& (7 : Int64)))), .second, .val (.long (b1_0 (1 : Int64) (q1 &&& (9223372036854775807 : Int64)))), .second, .val (.ref b24), .val (.long (own_ms ((9223372036854772 : Int64) + (q0 &&& (7 : Int64))))), .second] [(.long (own_ms ((9223372036854772 : Int64) + (q0 &&& (7 : Int64)))))])) rfl (hb hby at_103) _ ?_
        show Steps p.tables e below (T29.setTop (mkF m 106 #[.val (.long q0), .second, .val (.long q1), .second, .val (.int p2), .val (.long ((9223372036854772 : Int64) + (q0 &&& (7 : Int64)))), .second, .val (.long (b1_0 (1 : Int64) (q1 &&& (9223372036854775807 : Int64)))), .second, .val (.ref b24), .val (.long (own_ms ((9223372036854772 : Int64) + (q0 &&& (7 : Int64))))), .second] [(.long (9223372036854775807 : Int64)), (.long (own_ms ((9223372036854772 : Int64) + (q0 &&& (7 : Int64)))))])) _
        refine XS.lcmp X29.here hx rfl (hb hby at_106) rfl ?_
        show Steps p.tables e below (T29.setTop (mkF m 107 #[.val (.long q0), .second, .val (.long q1), .second, .val (.int p2), .val (.long ((9223372036854772 : Int64) + (q0 &&& (7 : Int64)))), .second, .val (.long (b1_0 (1 : Int64) (q1 &&& (9223372036854775807 : Int64)))), .second, .val (.ref b24), .val (.long (own_ms ((9223372036854772 : Int64) + (q0 &&& (7 : Int64))))), .second] [(.int (lcmpW (own_ms ((9223372036854772 : Int64) + (q0 &&& (7 : Int64)))) (9223372036854775807 : Int64)))])) _
        refine XS.ifNo X29.here hx rfl (hb hby at_107) rfl ((if0 _ _).trans (teq ((lw_eq (own_ms ((9223372036854772 : Int64) + (q0 &&& (7 : Int64)))) (9223372036854775807 : Int64)).mpr (by rw [own_ms, if_pos hc31]))).2) ?_
        show Steps p.tables e below (T29.setTop (mkF m 110 #[.val (.long q0), .second, .val (.long q1), .second, .val (.int p2), .val (.long ((9223372036854772 : Int64) + (q0 &&& (7 : Int64)))), .second, .val (.long (b1_0 (1 : Int64) (q1 &&& (9223372036854775807 : Int64)))), .second, .val (.ref b24), .val (.long (own_ms ((9223372036854772 : Int64) + (q0 &&& (7 : Int64))))), .second] [])) _
        refine XS.iconst X29.here hx rfl (hb hby at_110) ?_
        show Steps p.tables e below (T29.setTop (mkF m 111 #[.val (.long q0), .second, .val (.long q1), .second, .val (.int p2), .val (.long ((9223372036854772 : Int64) + (q0 &&& (7 : Int64)))), .second, .val (.long (b1_0 (1 : Int64) (q1 &&& (9223372036854775807 : Int64)))), .second, .val (.ref b24), .val (.long (own_ms ((9223372036854772 : Int64) + (q0 &&& (7 : Int64))))), .second] [(.int (1 : Int32))])) _
        refine XS.goto X29.here hx rfl (pc0 := 111) (pc' := 115) rfl (hb hby at_111) (by decide) (by decide) ?_
        show Steps p.tables e below (T29.setTop (mkF m 115 #[.val (.long q0), .second, .val (.long q1), .second, .val (.int p2), .val (.long ((9223372036854772 : Int64) + (q0 &&& (7 : Int64)))), .second, .val (.long (b1_0 (1 : Int64) (q1 &&& (9223372036854775807 : Int64)))), .second, .val (.ref b24), .val (.long (own_ms ((9223372036854772 : Int64) + (q0 &&& (7 : Int64))))), .second] [(.int (1 : Int32))])) _
        exact retN X29 hx (t := .boolean) Bd.returns (by simp) (hb hby at_115) hr
      · show Q0 Z q0 q1 p2 h0 n0 _ T29.heap _
        rw [u29_0]
        exact ⟨rfl, N29⟩
    · obtain ⟨fs, hr, hrun, hended, hW, hsame⟩ := X29.leave (v := some (.int (1 : Int32))) (fun h => by rw [Bd.returns] at h; cases h)
      refine ⟨_, _, pre30 _ ?_, hrun, hended, _, _, rfl, ?_, ⟨_, rfl⟩, hW, hsame.mono (by decide) (by decide)⟩
      · refine XS.ifNo X29.here hx rfl (hb hby at_69) rfl ((if0 _ _).trans (flt (fun q => hc31 ((lw_gt ((9223372036854772 : Int64) + (q0 &&& (7 : Int64))) (9223372036854775 : Int64)).mp q))).2.2.1) ?_
        show Steps p.tables e below (T29.setTop (mkF m 72 #[.val (.long q0), .second, .val (.long q1), .second, .val (.int p2), .val (.long ((9223372036854772 : Int64) + (q0 &&& (7 : Int64)))), .second, .val (.long (b1_0 (1 : Int64) (q1 &&& (9223372036854775807 : Int64)))), .second, .val (.ref b24), .val (.long (own_ms ((9223372036854772 : Int64) + (q0 &&& (7 : Int64))))), .second] [])) _
        refine XS.lload X29.here hx rfl (hb hby at_72) rfl ?_
        show Steps p.tables e below (T29.setTop (mkF m 74 #[.val (.long q0), .second, .val (.long q1), .second, .val (.int p2), .val (.long ((9223372036854772 : Int64) + (q0 &&& (7 : Int64)))), .second, .val (.long (b1_0 (1 : Int64) (q1 &&& (9223372036854775807 : Int64)))), .second, .val (.ref b24), .val (.long (own_ms ((9223372036854772 : Int64) + (q0 &&& (7 : Int64))))), .second] [(.long (own_ms ((9223372036854772 : Int64) + (q0 &&& (7 : Int64)))))])) _
        refine X29.ldc2Long hx hown (mvT hZ (hw _ (List.mem_of_getElem? (i := 26) rfl))) (g := (mkF m 74 #[.val (.long q0), .second, .val (.long q1), .second, .val (.int p2), .val (.long ((9223372036854772 : Int64) + (q0 &&& (7 : Int64)))), .second, .val (.long (b1_0 (1 : Int64) (q1 &&& (9223372036854775807 : Int64)))), .second, .val (.ref b24), .val (.long (own_ms ((9223372036854772 : Int64) + (q0 &&& (7 : Int64))))), .second] [(.long (own_ms ((9223372036854772 : Int64) + (q0 &&& (7 : Int64)))))])) rfl (hb hby at_74) _ ?_
        show Steps p.tables e below (T29.setTop (mkF m 77 #[.val (.long q0), .second, .val (.long q1), .second, .val (.int p2), .val (.long ((9223372036854772 : Int64) + (q0 &&& (7 : Int64)))), .second, .val (.long (b1_0 (1 : Int64) (q1 &&& (9223372036854775807 : Int64)))), .second, .val (.ref b24), .val (.long (own_ms ((9223372036854772 : Int64) + (q0 &&& (7 : Int64))))), .second] [(.long (1000 : Int64)), (.long (own_ms ((9223372036854772 : Int64) + (q0 &&& (7 : Int64)))))])) _
        refine XS.lrem X29.here hx rfl (hb hby at_77) rfl (by decide) ?_
        show Steps p.tables e below (T29.setTop (mkF m 78 #[.val (.long q0), .second, .val (.long q1), .second, .val (.int p2), .val (.long ((9223372036854772 : Int64) + (q0 &&& (7 : Int64)))), .second, .val (.long (b1_0 (1 : Int64) (q1 &&& (9223372036854775807 : Int64)))), .second, .val (.ref b24), .val (.long (own_ms ((9223372036854772 : Int64) + (q0 &&& (7 : Int64))))), .second] [(.long ((own_ms ((9223372036854772 : Int64) + (q0 &&& (7 : Int64)))) - ((own_ms ((9223372036854772 : Int64) + (q0 &&& (7 : Int64)))) / (1000 : Int64)) * (1000 : Int64)))])) _
        refine XS.lconst X29.here hx rfl (hb hby at_78) ?_
        show Steps p.tables e below (T29.setTop (mkF m 79 #[.val (.long q0), .second, .val (.long q1), .second, .val (.int p2), .val (.long ((9223372036854772 : Int64) + (q0 &&& (7 : Int64)))), .second, .val (.long (b1_0 (1 : Int64) (q1 &&& (9223372036854775807 : Int64)))), .second, .val (.ref b24), .val (.long (own_ms ((9223372036854772 : Int64) + (q0 &&& (7 : Int64))))), .second] [(.long (0 : Int64)), (.long ((own_ms ((9223372036854772 : Int64) + (q0 &&& (7 : Int64)))) - ((own_ms ((9223372036854772 : Int64) + (q0 &&& (7 : Int64)))) / (1000 : Int64)) * (1000 : Int64)))])) _
        refine XS.lcmp X29.here hx rfl (hb hby at_79) rfl ?_
        show Steps p.tables e below (T29.setTop (mkF m 80 #[.val (.long q0), .second, .val (.long q1), .second, .val (.int p2), .val (.long ((9223372036854772 : Int64) + (q0 &&& (7 : Int64)))), .second, .val (.long (b1_0 (1 : Int64) (q1 &&& (9223372036854775807 : Int64)))), .second, .val (.ref b24), .val (.long (own_ms ((9223372036854772 : Int64) + (q0 &&& (7 : Int64))))), .second] [(.int (lcmpW ((own_ms ((9223372036854772 : Int64) + (q0 &&& (7 : Int64)))) - ((own_ms ((9223372036854772 : Int64) + (q0 &&& (7 : Int64)))) / (1000 : Int64)) * (1000 : Int64)) (0 : Int64)))])) _
        refine XS.ifNo X29.here hx rfl (hb hby at_80) rfl ((if0 _ _).trans (teq ((lw_eq ((own_ms ((9223372036854772 : Int64) + (q0 &&& (7 : Int64)))) - ((own_ms ((9223372036854772 : Int64) + (q0 &&& (7 : Int64)))) / (1000 : Int64)) * (1000 : Int64)) (0 : Int64)).mpr (own_rem _ hc31 (own_near _)))).2) ?_
        show Steps p.tables e below (T29.setTop (mkF m 83 #[.val (.long q0), .second, .val (.long q1), .second, .val (.int p2), .val (.long ((9223372036854772 : Int64) + (q0 &&& (7 : Int64)))), .second, .val (.long (b1_0 (1 : Int64) (q1 &&& (9223372036854775807 : Int64)))), .second, .val (.ref b24), .val (.long (own_ms ((9223372036854772 : Int64) + (q0 &&& (7 : Int64))))), .second] [])) _
        refine XS.lload X29.here hx rfl (hb hby at_83) rfl ?_
        show Steps p.tables e below (T29.setTop (mkF m 85 #[.val (.long q0), .second, .val (.long q1), .second, .val (.int p2), .val (.long ((9223372036854772 : Int64) + (q0 &&& (7 : Int64)))), .second, .val (.long (b1_0 (1 : Int64) (q1 &&& (9223372036854775807 : Int64)))), .second, .val (.ref b24), .val (.long (own_ms ((9223372036854772 : Int64) + (q0 &&& (7 : Int64))))), .second] [(.long (own_ms ((9223372036854772 : Int64) + (q0 &&& (7 : Int64)))))])) _
        refine X29.ldc2Long hx hown (mvT hZ (hw _ (List.mem_of_getElem? (i := 26) rfl))) (g := (mkF m 85 #[.val (.long q0), .second, .val (.long q1), .second, .val (.int p2), .val (.long ((9223372036854772 : Int64) + (q0 &&& (7 : Int64)))), .second, .val (.long (b1_0 (1 : Int64) (q1 &&& (9223372036854775807 : Int64)))), .second, .val (.ref b24), .val (.long (own_ms ((9223372036854772 : Int64) + (q0 &&& (7 : Int64))))), .second] [(.long (own_ms ((9223372036854772 : Int64) + (q0 &&& (7 : Int64)))))])) rfl (hb hby at_85) _ ?_
        show Steps p.tables e below (T29.setTop (mkF m 88 #[.val (.long q0), .second, .val (.long q1), .second, .val (.int p2), .val (.long ((9223372036854772 : Int64) + (q0 &&& (7 : Int64)))), .second, .val (.long (b1_0 (1 : Int64) (q1 &&& (9223372036854775807 : Int64)))), .second, .val (.ref b24), .val (.long (own_ms ((9223372036854772 : Int64) + (q0 &&& (7 : Int64))))), .second] [(.long (1000 : Int64)), (.long (own_ms ((9223372036854772 : Int64) + (q0 &&& (7 : Int64)))))])) _
        refine XS.ldiv X29.here hx rfl (hb hby at_88) rfl (by decide) ?_
        show Steps p.tables e below (T29.setTop (mkF m 89 #[.val (.long q0), .second, .val (.long q1), .second, .val (.int p2), .val (.long ((9223372036854772 : Int64) + (q0 &&& (7 : Int64)))), .second, .val (.long (b1_0 (1 : Int64) (q1 &&& (9223372036854775807 : Int64)))), .second, .val (.ref b24), .val (.long (own_ms ((9223372036854772 : Int64) + (q0 &&& (7 : Int64))))), .second] [(.long ((own_ms ((9223372036854772 : Int64) + (q0 &&& (7 : Int64)))) / (1000 : Int64)))])) _
        refine XS.lload X29.here hx rfl (hb hby at_89) rfl ?_
        show Steps p.tables e below (T29.setTop (mkF m 91 #[.val (.long q0), .second, .val (.long q1), .second, .val (.int p2), .val (.long ((9223372036854772 : Int64) + (q0 &&& (7 : Int64)))), .second, .val (.long (b1_0 (1 : Int64) (q1 &&& (9223372036854775807 : Int64)))), .second, .val (.ref b24), .val (.long (own_ms ((9223372036854772 : Int64) + (q0 &&& (7 : Int64))))), .second] [(.long ((9223372036854772 : Int64) + (q0 &&& (7 : Int64)))), (.long ((own_ms ((9223372036854772 : Int64) + (q0 &&& (7 : Int64)))) / (1000 : Int64)))])) _
        refine XS.lcmp X29.here hx rfl (hb hby at_91) rfl ?_
        show Steps p.tables e below (T29.setTop (mkF m 92 #[.val (.long q0), .second, .val (.long q1), .second, .val (.int p2), .val (.long ((9223372036854772 : Int64) + (q0 &&& (7 : Int64)))), .second, .val (.long (b1_0 (1 : Int64) (q1 &&& (9223372036854775807 : Int64)))), .second, .val (.ref b24), .val (.long (own_ms ((9223372036854772 : Int64) + (q0 &&& (7 : Int64))))), .second] [(.int (lcmpW ((own_ms ((9223372036854772 : Int64) + (q0 &&& (7 : Int64)))) / (1000 : Int64)) ((9223372036854772 : Int64) + (q0 &&& (7 : Int64)))))])) _
        refine XS.ifNo X29.here hx rfl (hb hby at_92) rfl ((if0 _ _).trans (teq ((lw_eq ((own_ms ((9223372036854772 : Int64) + (q0 &&& (7 : Int64)))) / (1000 : Int64)) ((9223372036854772 : Int64) + (q0 &&& (7 : Int64)))).mpr (own_div _ hc31 (own_near _)))).2) ?_
        show Steps p.tables e below (T29.setTop (mkF m 95 #[.val (.long q0), .second, .val (.long q1), .second, .val (.int p2), .val (.long ((9223372036854772 : Int64) + (q0 &&& (7 : Int64)))), .second, .val (.long (b1_0 (1 : Int64) (q1 &&& (9223372036854775807 : Int64)))), .second, .val (.ref b24), .val (.long (own_ms ((9223372036854772 : Int64) + (q0 &&& (7 : Int64))))), .second] [])) _
        refine XS.iconst X29.here hx rfl (hb hby at_95) ?_
        show Steps p.tables e below (T29.setTop (mkF m 96 #[.val (.long q0), .second, .val (.long q1), .second, .val (.int p2), .val (.long ((9223372036854772 : Int64) + (q0 &&& (7 : Int64)))), .second, .val (.long (b1_0 (1 : Int64) (q1 &&& (9223372036854775807 : Int64)))), .second, .val (.ref b24), .val (.long (own_ms ((9223372036854772 : Int64) + (q0 &&& (7 : Int64))))), .second] [(.int (1 : Int32))])) _
        refine XS.goto X29.here hx rfl (pc0 := 96) (pc' := 100) rfl (hb hby at_96) (by decide) (by decide) ?_
        show Steps p.tables e below (T29.setTop (mkF m 100 #[.val (.long q0), .second, .val (.long q1), .second, .val (.int p2), .val (.long ((9223372036854772 : Int64) + (q0 &&& (7 : Int64)))), .second, .val (.long (b1_0 (1 : Int64) (q1 &&& (9223372036854775807 : Int64)))), .second, .val (.ref b24), .val (.long (own_ms ((9223372036854772 : Int64) + (q0 &&& (7 : Int64))))), .second] [(.int (1 : Int32))])) _
        exact retN X29 hx (t := .boolean) Bd.returns (by simp) (hb hby at_100) hr
      · show Q0 Z q0 q1 p2 h0 n0 _ T29.heap _
        rw [u29_0]
        exact ⟨rfl, N29⟩
set_option maxRecDepth 65536 in
set_option maxHeartbeats 40000000 in
theorem comes_1 {Post : Tables → Env → Array Value → State → Outcome → State → Prop} (hpost : ∀ tb e args s v u, (limb_1_1.after args s (.returned v) u = true ∧ limb_1_2.after args s (.returned v) u = true ∧ True) → FrameEnd s (.returned v) u (Jvm.fieldLocs frame_1_writes args s ++ Jvm.arrayLocs frame_1_arrays args s ++ Jvm.staticLocs frame_1_statics s) 16 128 → Post tb e args s (.returned v) u) :
    ArmFor flags0 classFile x code maxLocals ret World_1 tables_1 room_1 Calls_1 rest_1 Pre_1 Post := by
  intro l hfl _ _ p e ha hc hk s m args below hf hA hF happ hP
  obtain ⟨hcalls, hrest, hpre⟩ := hP
  obtain ⟨-, -, -, hnamed, -, -, -, hat⟩ := (Spec.applies_iff hf).mp happ
  obtain ⟨hg, hn⟩ := and_e (Cond.before_iff.mp (show (Jvm.Cond.and given_1 narrow_1).before args s = true from hpre))
  obtain ⟨g1, g2⟩ := and_e hg
  obtain ⟨g3, g4⟩ := and_e g2
  obtain ⟨g5, g6⟩ := and_e g4
  obtain ⟨w0, w1, w2, rfl⟩ : ∃ w0 w1 w2 : Value, args = #[w0, w1, w2] := by
    have hs : args.size = 3 := by simpa [Cond.value, given_1] using g1
    obtain ⟨L⟩ := args
    match L, hs with
    | [w0, w1, w2], _ => exact ⟨w0, w1, w2, rfl⟩
  have hw := fun d (hd : d ∈ tables_1) => atoms_spec (ws := Jvm.Cond.code x code maxLocals ret :: tables_1) hat d (List.mem_cons_of_mem _ hd)
  obtain ⟨i0, ei0⟩ := isL_v g3
  obtain rfl : w0 = (.long i0) := Option.some.inj ei0
  obtain ⟨i1, ei1⟩ := isL_v g5
  obtain rfl : w1 = (.long i1) := Option.some.inj ei1
  obtain ⟨i2, ei2⟩ := is_v g6
  obtain rfl : w2 = (.int i2) := Option.some.inj ei2
  obtain ⟨n, o, h1, h2, h3, _, L, rfl, ⟨rfl, N⟩, hq⟩ := rm0 l s _ hw tables_1 i0 i1 i2 s.heap s.heap.size (Nat.le_refl _) p e ha hc hk s m _ below hf ((Spec.applies_iff_loose hf).mp happ).1 ⟨rfl, State.Warmed39.refl s, rfl⟩ trivial
  refine ⟨n, _, h1, h2, h3, hpost _ _ _ _ _ _ ⟨Cond.after_iff.mpr rfl, Cond.after_iff.mpr (eq_i res_at (Term.int_eval (1)) rfl), trivial⟩ ⟨hq.1, hq.2.1, (hq.2.2.sift fun y hy => Or.inr (N y hy)).mono (by decide) (by decide)⟩⟩
theorem main_1_1 : Claimed_1_1 := comes_1 fun _ _ _ _ _ _ h hF => ⟨h.1, hF⟩
theorem main_1_2 : Claimed_1_2 := comes_1 fun _ _ _ _ _ _ h hF => ⟨h.2.1, hF⟩
end Jvm.Pilot.@@N@@
namespace Jvm.Pilot.@@N@@
open Jvm Jvm.ClassFile Sem Op Lib Jvm.Free Jvm.Stand Jvm.Pilot.@@N@@.Jvm.D
/-! MADE BY PROGRAM (witnessworld.py) out of the Statement's table words and the real class files: 10 classes; the members and pool entries that the words name. The judged class is class 1, her method 1. -/
namespace start1
open Jvm.ClassFile
def u (s : String) : CpInfo := .utf8 (stringToUtf16 s)
/-- a pool by its gaps: so many unusable entries, then the entry; so many at the end -/
def gap : Nat → List CpInfo → List CpInfo
  | 0, r => r
  | n + 1, r => .unusable :: gap n r
def poolList (es : List (Nat × CpInfo)) (last : Nat) : List CpInfo := es.foldr (fun e r => gap e.1 (e.2 :: r)) (gap last [])
def pool (es : List (Nat × CpInfo)) (last : Nat) : Array CpInfo := ⟨poolList es last⟩
def fileOf (pool : Array CpInfo) (this : Nat) (attrs : Array Attribute := #[]) (ms : Array MethodInfo := #[]) (fl : Nat := 33) (sup : Nat := 0) (ifs : Array Nat := #[]) (fds : Array FieldInfo := #[]) : ClassFile where
  minorVersion := 0
  majorVersion := 65
  constantPool := pool
  accessFlags := fl
  thisClass := this
  superClass := sup
  interfaces := ifs
  fields := fds
  methods := ms
  attributes := attrs
def plain (name : String) (sup : Option ClassId) : Class where
  name := name
  kind := .ordinary
  loader := none
  accessFlags := 33
  super := sup
  interfaces := #[]
  cf := none
  fields := #[]
  methods := #[]
  instanceTypes := #[]
  staticTypes := #[]
  resolved := #[]
  callSites := []
  init := .initialized
  statics := none
  mirror := none

def pool0 : Array CpInfo := pool [(5, u "<init>"), (0, u "()V"), (1, .class_ 10), (1, u "java/lang/Object")] 113

def k0c0 : Code := { maxStack := 0, maxLocals := 1, code := object_method_1_code, exceptionTable := #[], attributes := #[] }
def k0m0 : Method := { name := "<init>", desc := "()V", sig := { parameters := [], returnType := none }, accessFlags := 1, code := some k0c0 }
/-- java/lang/Object -/
def k0 : Class := { plain "java/lang/Object" none with
  accessFlags := 33
  interfaces := #[]
  cf := some (fileOf pool0 8 #[] #[{ accessFlags := 1, nameIndex := 5, descriptorIndex := 6, attributes := #[] }] 33 0 #[] #[])
  fields := #[]
  methods := #[k0m0]
  instanceTypes := #[]
  staticTypes := #[]
  resolved := Array.replicate 124 none
  statics := none }

def pool1 : Array CpInfo := pool [(2, .class_ 4), (1, u "java/lang/Object"), (0, u "<init>"), (0, u "()V"), (2, .long 9223372036854775807), (1, .methodref 12 13), (0, .class_ 14), (0, .nameAndType 15 16), (0, u "java/lang/Math"), (0, u "max"), (0, u "(JJ)J"), (0, .class_ 18), (0, u "com/example/narada/narada/eventlog/RetentionGetMaxAgeMillisPinLaw"), (0, .long 9223372036854772), (1, .long 7), (1, .class_ 24), (0, u "com/example/narada/narada/eventlog/Retention"), (0, .methodref 23 26), (0, .nameAndType 5 27), (0, u "(JJ)V"), (0, .methodref 23 29), (0, .nameAndType 30 31), (0, u "getMaxAgeMillis"), (0, u "()J"), (0, .long 9223372036854775), (1, .long 1000), (1, u "LAST_EXACT"), (0, u "J"), (3, u "law"), (0, u "(JJI)Z")] 3

def k1m0 : Method := { name := "<init>", desc := "()V", sig := { parameters := [], returnType := none }, accessFlags := 1, code := none }
def k1c1 : Code := { maxStack := 6, maxLocals := 12, code := code, exceptionTable := #[], attributes := #[] }
def k1m1 : Method := { name := "law", desc := "(JJI)Z", sig := { parameters := [.long, .long, .int], returnType := some .boolean }, accessFlags := 9, code := some k1c1 }
/-- com/example/narada/narada/eventlog/RetentionGetMaxAgeMillisPinLaw -/
def k1 : Class := { plain "com/example/narada/narada/eventlog/RetentionGetMaxAgeMillisPinLaw" (some 0) with
  accessFlags := 49
  interfaces := #[]
  cf := some (fileOf pool1 17 #[] #[{ accessFlags := 1, nameIndex := 5, descriptorIndex := 6, attributes := #[] }, { accessFlags := 9, nameIndex := 41, descriptorIndex := 42, attributes := #[] }] 49 2 #[] #[{ accessFlags := 26, nameIndex := 36, descriptorIndex := 37, attributes := #[] }])
  fields := #[{ name := "LAST_EXACT", type := .long, accessFlags := 26, slot := 0, constantValue := 0 }]
  methods := #[k1m0, k1m1]
  instanceTypes := #[]
  staticTypes := #[.long]
  resolved := Array.replicate 46 none
  statics := none }

def pool2 : Array CpInfo := pool [(1, .class_ 2), (0, u "java/lang/Math"), (1, .class_ 6), (1, u "java/lang/Object"), (0, u "<init>"), (0, u "()V"), (89, .class_ 100), (1, u "java/lang/Math$RandomNumberGeneratorHolder"), (20, u "(JJ)J"), (50, u "negativeZeroFloatBits"), (0, u "J"), (2, u "negativeZeroDoubleBits"), (21, u "max"), (46, u "$assertionsDisabled"), (0, u "Z"), (91, u "twoToTheDoubleScaleDown"), (0, u "D"), (4, u "twoToTheDoubleScaleUp"), (9, u "E"), (3, u "PI"), (2, u "TAU"), (2, u "DEGREES_TO_RADIANS"), (0, u "RADIANS_TO_DEGREES")] 94

def k2m0 : Method := { name := "<init>", desc := "()V", sig := { parameters := [], returnType := none }, accessFlags := 2, code := none }
def k2c1 : Code := { maxStack := 4, maxLocals := 4, code := jdk_29_method_66_code, exceptionTable := #[], attributes := #[] }
def k2m1 : Method := { name := "max", desc := "(JJ)J", sig := { parameters := [.long, .long], returnType := some .long }, accessFlags := 9, code := some k2c1 }
/-- java/lang/Math -/
def k2 : Class := { plain "java/lang/Math" (some 0) with
  accessFlags := 49
  interfaces := #[]
  cf := some (fileOf pool2 1 #[.nestMembers #[98]] #[{ accessFlags := 2, nameIndex := 7, descriptorIndex := 8, attributes := #[] }, { accessFlags := 9, nameIndex := 198, descriptorIndex := 121, attributes := #[] }] 49 4 #[] #[{ accessFlags := 25, nameIndex := 354, descriptorIndex := 339, attributes := #[] }, { accessFlags := 25, nameIndex := 358, descriptorIndex := 339, attributes := #[] }, { accessFlags := 25, nameIndex := 361, descriptorIndex := 339, attributes := #[] }, { accessFlags := 26, nameIndex := 364, descriptorIndex := 339, attributes := #[] }, { accessFlags := 26, nameIndex := 365, descriptorIndex := 339, attributes := #[] }, { accessFlags := 26, nameIndex := 172, descriptorIndex := 173, attributes := #[] }, { accessFlags := 26, nameIndex := 176, descriptorIndex := 173, attributes := #[] }, { accessFlags := 8, nameIndex := 344, descriptorIndex := 339, attributes := #[] }, { accessFlags := 8, nameIndex := 338, descriptorIndex := 339, attributes := #[] }, { accessFlags := 4120, nameIndex := 245, descriptorIndex := 246, attributes := #[] }])
  fields := #[{ name := "E", type := .double, accessFlags := 25, slot := 0, constantValue := 0 }, { name := "PI", type := .double, accessFlags := 25, slot := 1, constantValue := 0 }, { name := "TAU", type := .double, accessFlags := 25, slot := 2, constantValue := 0 }, { name := "DEGREES_TO_RADIANS", type := .double, accessFlags := 26, slot := 3, constantValue := 0 }, { name := "RADIANS_TO_DEGREES", type := .double, accessFlags := 26, slot := 4, constantValue := 0 }, { name := "negativeZeroFloatBits", type := .long, accessFlags := 26, slot := 5, constantValue := 0 }, { name := "negativeZeroDoubleBits", type := .long, accessFlags := 26, slot := 6, constantValue := 0 }, { name := "twoToTheDoubleScaleUp", type := .double, accessFlags := 8, slot := 7, constantValue := 0 }, { name := "twoToTheDoubleScaleDown", type := .double, accessFlags := 8, slot := 8, constantValue := 0 }, { name := "$assertionsDisabled", type := .boolean, accessFlags := 4120, slot := 9, constantValue := 0 }]
  methods := #[k2m0, k2m1]
  instanceTypes := #[]
  staticTypes := #[.double, .double, .double, .double, .double, .long, .long, .double, .double, .boolean]
  resolved := Array.replicate 460 none
  statics := none }

def pool3 : Array CpInfo := pool [(1, .methodref 2 3), (0, .class_ 4), (0, .nameAndType 5 6), (0, u "java/lang/Object"), (0, u "<init>"), (0, u "()V"), (9, .fieldref 17 18), (0, .class_ 19), (0, .nameAndType 20 21), (0, u "com/example/narada/narada/eventlog/Retention"), (0, u "maxBytes"), (0, u "J"), (0, .fieldref 17 23), (0, .nameAndType 24 21), (0, u "maxAgeSeconds"), (2, .long 9223372036854775), (1, .long 9223372036854775807), (1, .long 1000), (33, u "(JJ)V"), (2, u "ALL"), (0, u "Lcom/example/narada/narada/eventlog/Retention;"), (4, u "()J"), (0, u "getMaxAgeMillis")] 26

def k3c0 : Code := { maxStack := 6, maxLocals := 5, code := prog_7_method_1_code, exceptionTable := #[], attributes := #[] }
def k3m0 : Method := { name := "<init>", desc := "(JJ)V", sig := { parameters := [.long, .long], returnType := none }, accessFlags := 1, code := some k3c0 }
def k3c1 : Code := { maxStack := 4, maxLocals := 1, code := prog_7_method_3_code, exceptionTable := #[], attributes := #[] }
def k3m1 : Method := { name := "getMaxAgeMillis", desc := "()J", sig := { parameters := [], returnType := some .long }, accessFlags := 0, code := some k3c1 }
/-- com/example/narada/narada/eventlog/Retention -/
def k3 : Class := { plain "com/example/narada/narada/eventlog/Retention" (some 0) with
  accessFlags := 33
  interfaces := #[]
  cf := some (fileOf pool3 17 #[] #[{ accessFlags := 1, nameIndex := 5, descriptorIndex := 65, attributes := #[] }, { accessFlags := 0, nameIndex := 75, descriptorIndex := 74, attributes := #[] }] 33 2 #[] #[{ accessFlags := 25, nameIndex := 68, descriptorIndex := 69, attributes := #[] }, { accessFlags := 18, nameIndex := 20, descriptorIndex := 21, attributes := #[] }, { accessFlags := 18, nameIndex := 24, descriptorIndex := 21, attributes := #[] }])
  fields := #[{ name := "ALL", type := (.object "com/example/narada/narada/eventlog/Retention"), accessFlags := 25, slot := 0, constantValue := 0 }, { name := "maxBytes", type := .long, accessFlags := 18, slot := 0, constantValue := 0 }, { name := "maxAgeSeconds", type := .long, accessFlags := 18, slot := 1, constantValue := 0 }]
  methods := #[k3m0, k3m1]
  instanceTypes := #[.long, .long]
  staticTypes := #[(.object "com/example/narada/narada/eventlog/Retention")]
  resolved := Array.replicate 102 none
  statics := none }

def pool4 : Array CpInfo := pool [(1, u "java/lang/Cloneable"), (0, .class_ 1), (0, u "java/lang/Object"), (0, .class_ 3)] 3

/-- java/lang/Cloneable -/
def k4 : Class := { plain "java/lang/Cloneable" (some 0) with
  accessFlags := 1537
  interfaces := #[]
  cf := some (fileOf pool4 2 #[] #[] 1537 4 #[] #[])
  fields := #[]
  methods := #[]
  instanceTypes := #[]
  staticTypes := #[]
  resolved := Array.replicate 8 none
  statics := none }

def pool5 : Array CpInfo := pool [(1, u "java/io/Serializable"), (0, .class_ 1), (0, u "java/lang/Object"), (0, .class_ 3)] 3

/-- java/io/Serializable -/
def k5 : Class := { plain "java/io/Serializable" (some 0) with
  accessFlags := 1537
  interfaces := #[]
  cf := some (fileOf pool5 2 #[] #[] 1537 4 #[] #[])
  fields := #[]
  methods := #[]
  instanceTypes := #[]
  staticTypes := #[]
  resolved := Array.replicate 8 none
  statics := none }

/-- the primitive byte -/
def k6 : Class := { plain "byte" none with kind := .primitive 'B', accessFlags := 0x411 }
/-- [B -/
def k7 : Class := { plain "[B" (some 0) with kind := .array 6 .byte, interfaces := #[4, 5], accessFlags := 1041 }

/-- the primitive int -/
def k8 : Class := { plain "int" none with kind := .primitive 'I', accessFlags := 0x411 }
/-- [I -/
def k9 : Class := { plain "[I" (some 0) with kind := .array 8 .int, interfaces := #[4, 5], accessFlags := 1041 }

def heap : Heap := #[]
def classes : Array Class := #[k0, k1, k2, k3, k4, k5, k6, k7, k8, k9]
def interned : List (Array UInt16 × Addr) := []
def slotsUsed : Nat := 0
def theMethod : MethodId := ⟨1, 1⟩
def args0 : Array Value := #[.long 5, .long 6, .int 7]
def aboutOver (below : List Frame) : State where
  vm := { classes := classes, interned := interned.toArray }
  heap := heap
  slotsUsed := slotsUsed
  threads := #[{ frames := .invoking theMethod args0 :: below }]
def below0 : List Frame := [.native { method := ⟨0, 0⟩, args := #[] }]
def about1 : State := aboutOver below0
def p0 : Program := .bare "" "" ""
def e0 : Env := launch0.env 0 0 0
theorem w_frames : about1.frames = Frame.invoking theMethod args0 :: below0 := rfl
set_option maxRecDepth 65536 in
theorem w_args : argsFit about1.vm theMethod args0 = true := by decide +kernel
set_option maxRecDepth 65536 in
theorem w_heap : heapFits about1 = true := by decide +kernel
set_option maxRecDepth 65536 in
theorem w_runnable : about1.curStatus? = some .runnable := by decide +kernel
set_option maxRecDepth 65536 in
theorem w_alone : about1.alone = true := by decide +kernel
set_option maxRecDepth 65536 in
theorem w_named : about1.methodNamed? x = some theMethod := by decide +kernel
set_option maxRecDepth 65536 in
theorem w_hears : about1.hears theMethod below0 = true := by decide +kernel
set_option maxRecDepth 65536 in
theorem w_ripe : about1.ripe theMethod args0 below0 = true := by decide +kernel
theorem w_running : about1.status = .running := rfl
set_option maxRecDepth 65536 in
theorem w_room : about1.hasRoom e0.platform room_1 = true :=
  launch0.hasRoom_least _ room_1 (by decide +kernel) (by decide +kernel) (by decide +kernel) (by decide +kernel) (by decide +kernel) (by decide +kernel)
theorem allAtoms_all (ts : List Jvm.Cond) (a : Array Jvm.Value) (st : Jvm.State) : (allAtoms ts).before a st = ts.all (fun c => c.before a st) := by
  induction ts with
  | nil => rfl
  | cons c t ih =>
    show (Jvm.Cond.and c (allAtoms t)).before a st = _
    rw [Jvm.Cond.before_and, ih, List.all_cons]
def words1 : List Jvm.Cond := Jvm.Cond.code x code maxLocals ret :: tables_1
/-- a 'code' word, met by the world's own term for the bytes: nothing is compared byte by byte -/
theorem code_word {y : MethodName} {bytes : ByteArray} {mx : Nat} {rt : Option FieldType} {a : Array Value} {s : State} {m : MethodId} {meth : Method} {c : Code} (h1 : s.methodNamed? y = some m) (h2 : s.vm.method? m = some meth) (h3 : meth.code = some c) (h4 : c.code = bytes)
    (h5 : (c.maxLocals == mx && c.exceptionTable.isEmpty && decide (c.maxStack ≤ mostOperands) && decide (meth.sig.returnType = rt) && !meth.locks && decide (parseMethodDescriptor y.desc = some meth.sig)) = true) : (Jvm.Cond.code y bytes mx rt).before a s = true := by
  simp only [Bool.and_eq_true, beq_iff_eq, Bool.not_eq_true', decide_eq_true_eq] at h5
  obtain ⟨⟨⟨⟨⟨g1, g2⟩, g3⟩, g4⟩, g5⟩, g6⟩ := h5
  simp [Cond.before, Cond.holds, Cond.value, h1, h2, h3, h4, g1, g2, g3, g4, g5, g6]
def isCode : Jvm.Cond → Bool
  | .code _ _ _ _ => true
  | _ => false
theorem all_split {L : List Jvm.Cond} {P : Jvm.Cond → Bool} (h1 : L.all (fun c => isCode c || P c) = true) (h2 : ∀ c ∈ L.filter isCode, P c = true) : L.all P = true := by
  refine List.all_eq_true.mpr fun c hc => ?_
  have h := List.all_eq_true.mp h1 c hc
  rcases Bool.eq_false_or_eq_true (isCode c) with hi | hi
  · exact h2 c (List.mem_filter.mpr ⟨hc, hi⟩)
  · simpa [hi] using h
set_option maxRecDepth 65536 in
theorem w_c0 : (Jvm.Cond.code x code maxLocals ret).before args0 about1 = true := code_word (m := ⟨1, 1⟩) (meth := k1m1) (c := k1c1) (by decide +kernel) rfl rfl rfl (by decide +kernel)
set_option maxRecDepth 65536 in
theorem w_c1 : (Jvm.Cond.code ({ cls := "java/lang/Math", name := "max", desc := "(JJ)J" } : Jvm.MethodName) jdk_29_method_66_code (4 : Nat) (Option.some Jvm.ClassFile.FieldType.long)).before args0 about1 = true := code_word (m := ⟨2, 1⟩) (meth := k2m1) (c := k2c1) (by decide +kernel) rfl rfl rfl (by decide +kernel)
set_option maxRecDepth 65536 in
theorem w_c2 : (Jvm.Cond.code ({ cls := "com/example/narada/narada/eventlog/Retention", name := "<init>", desc := "(JJ)V" } : Jvm.MethodName) prog_7_method_1_code (5 : Nat) (Option.none : Option Jvm.ClassFile.FieldType)).before args0 about1 = true := code_word (m := ⟨3, 0⟩) (meth := k3m0) (c := k3c0) (by decide +kernel) rfl rfl rfl (by decide +kernel)
set_option maxRecDepth 65536 in
theorem w_c3 : (Jvm.Cond.code ({ cls := "java/lang/Object", name := "<init>", desc := "()V" } : Jvm.MethodName) object_method_1_code (1 : Nat) (Option.none : Option Jvm.ClassFile.FieldType)).before args0 about1 = true := code_word (m := ⟨0, 0⟩) (meth := k0m0) (c := k0c0) (by decide +kernel) rfl rfl rfl (by decide +kernel)
set_option maxRecDepth 65536 in
theorem w_c4 : (Jvm.Cond.code ({ cls := "com/example/narada/narada/eventlog/Retention", name := "getMaxAgeMillis", desc := "()J" } : Jvm.MethodName) prog_7_method_3_code (1 : Nat) (Option.some Jvm.ClassFile.FieldType.long)).before args0 about1 = true := code_word (m := ⟨3, 1⟩) (meth := k3m1) (c := k3c1) (by decide +kernel) rfl rfl rfl (by decide +kernel)
def codes1 : List Jvm.Cond := [Jvm.Cond.code x code maxLocals ret, Jvm.Cond.code ({ cls := "java/lang/Math", name := "max", desc := "(JJ)J" } : Jvm.MethodName) jdk_29_method_66_code (4 : Nat) (Option.some Jvm.ClassFile.FieldType.long), Jvm.Cond.code ({ cls := "com/example/narada/narada/eventlog/Retention", name := "<init>", desc := "(JJ)V" } : Jvm.MethodName) prog_7_method_1_code (5 : Nat) (Option.none : Option Jvm.ClassFile.FieldType), Jvm.Cond.code ({ cls := "java/lang/Object", name := "<init>", desc := "()V" } : Jvm.MethodName) object_method_1_code (1 : Nat) (Option.none : Option Jvm.ClassFile.FieldType), Jvm.Cond.code ({ cls := "com/example/narada/narada/eventlog/Retention", name := "getMaxAgeMillis", desc := "()J" } : Jvm.MethodName) prog_7_method_3_code (1 : Nat) (Option.some Jvm.ClassFile.FieldType.long)]
set_option maxRecDepth 65536 in
theorem codes_eq : words1.filter isCode = codes1 := rfl
theorem w_codes : ∀ c ∈ words1.filter isCode, c.before args0 about1 = true := by
  rw [codes_eq]
  intro c hc
  simp only [codes1, List.mem_cons, List.not_mem_nil, or_false] at hc
  rcases hc with rfl | rfl | rfl | rfl | rfl
  · exact w_c0
  · exact w_c1
  · exact w_c2
  · exact w_c3
  · exact w_c4
set_option maxRecDepth 65536 in
theorem w_t1 : (words1.take 24).all (fun c => isCode c || c.before args0 about1) = true := by decide +kernel
set_option maxRecDepth 65536 in
theorem w_t2 : (words1.drop 24).all (fun c => isCode c || c.before args0 about1) = true := by decide +kernel
theorem w_tables : (allAtoms (Jvm.Cond.code x code maxLocals ret :: tables_1)).before args0 about1 = true := by
  rw [allAtoms_all]
  show words1.all (fun c => c.before args0 about1) = true
  refine all_split ?_ w_codes
  rw [← List.take_append_drop 24 words1, List.all_append, w_t1, w_t2]
  rfl
set_option maxRecDepth 65536 in
theorem w_case : (Jvm.Cond.and given_1 narrow_1).before args0 about1 = true := by decide +kernel
theorem w_applies : (headSpec (Jvm.Cond.code x code maxLocals ret :: tables_1) room_1).applies x e0.platform about1 = true :=
  (Spec.applies_iff w_frames).mpr ⟨w_running, w_runnable, w_alone, w_named, w_hears, w_ripe, w_room, w_tables⟩
theorem atStart : AtStart classFile x code maxLocals ret World_1 tables_1 room_1 Calls_1 rest_1 Pre_1 launch0 p0 e0 about1 theMethod args0 below0 :=
  ⟨lists_1, trivial, launch0.admits_env _ _ _, launch0.least_env, fairChoices_fair.cas, fairChoices_fair.clock, w_frames, w_args, w_heap, w_applies, trivial, trivial, w_case⟩
end start1
theorem witness_1 : WitnessClaimed_1 := ⟨start1.p0, start1.e0, start1.about1, start1.theMethod, start1.args0, start1.below0, start1.atStart⟩
end Jvm.Pilot.@@N@@
