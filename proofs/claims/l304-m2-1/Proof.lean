import JvmDerived
import JvmDerived.Pilot.@@N@@Statement
import JvmDerived.Pilot.@@N@@Code
set_option linter.unusedVariables false
set_option linter.unusedSimpArgs false
namespace Jvm.Pilot.@@N@@
open Jvm Jvm.ClassFile Sem Op Lib Jvm.Free Jvm.Stand Jvm.LawKit Jvm.RoadKit Bundle Jvm.Pilot.@@N@@.Jvm.D
theorem d1_0 : decode prog_82_method_15_code 0 = .ok (.iload_n 0, 1) := by decide +kernel
theorem d1_1 : decode prog_82_method_15_code 1 = .ok (.bipush 32, 2) := by decide +kernel
theorem d1_3 : decode prog_82_method_15_code 3 = .ok (.if_icmp .eq 33, 3) := by decide +kernel
theorem d1_6 : decode prog_82_method_15_code 6 = .ok (.iload_n 0, 1) := by decide +kernel
theorem d1_7 : decode prog_82_method_15_code 7 = .ok (.bipush 9, 2) := by decide +kernel
theorem d1_9 : decode prog_82_method_15_code 9 = .ok (.if_icmp .eq 27, 3) := by decide +kernel
theorem d1_12 : decode prog_82_method_15_code 12 = .ok (.iload_n 0, 1) := by decide +kernel
theorem d1_13 : decode prog_82_method_15_code 13 = .ok (.bipush 10, 2) := by decide +kernel
theorem d1_15 : decode prog_82_method_15_code 15 = .ok (.if_icmp .eq 21, 3) := by decide +kernel
theorem d1_18 : decode prog_82_method_15_code 18 = .ok (.iload_n 0, 1) := by decide +kernel
theorem d1_19 : decode prog_82_method_15_code 19 = .ok (.bipush 13, 2) := by decide +kernel
theorem d1_21 : decode prog_82_method_15_code 21 = .ok (.if_icmp .eq 15, 3) := by decide +kernel
theorem d1_24 : decode prog_82_method_15_code 24 = .ok (.iload_n 0, 1) := by decide +kernel
theorem d1_25 : decode prog_82_method_15_code 25 = .ok (.bipush 12, 2) := by decide +kernel
theorem d1_27 : decode prog_82_method_15_code 27 = .ok (.if_icmp .eq 9, 3) := by decide +kernel
theorem d1_30 : decode prog_82_method_15_code 30 = .ok (.iload_n 0, 1) := by decide +kernel
theorem d1_31 : decode prog_82_method_15_code 31 = .ok (.bipush 11, 2) := by decide +kernel
theorem d1_33 : decode prog_82_method_15_code 33 = .ok (.if_icmp .ne 7, 3) := by decide +kernel
theorem d1_36 : decode prog_82_method_15_code 36 = .ok (.iconst 1, 1) := by decide +kernel
theorem d1_37 : decode prog_82_method_15_code 37 = .ok (.goto 4, 3) := by decide +kernel
theorem d1_40 : decode prog_82_method_15_code 40 = .ok (.iconst 0, 1) := by decide +kernel
theorem d1_41 : decode prog_82_method_15_code 41 = .ok (.ireturn, 1) := by decide +kernel
theorem pn_1 : plainName "com/example/forward_ledger/forwardledger/StatementSplitter" = true := by first | (simp [plainName, overriddenIn]; done) | decide +kernel
theorem ef_1 (m : MethodId) (p0 : Int32) : entryFrame m #[(.int p0)] 1 = mkF m 0 #[.val (.int p0)] [] := by first | (simp [entryFrame, mkF, argsToLocals, Value.category]; done) | rfl
def b1_0 (p0 : Int32) : Int32 := (if p0 = (32 : Int32) then (1 : Int32) else (if p0 = (9 : Int32) then (1 : Int32) else (if p0 = (10 : Int32) then (1 : Int32) else (if p0 = (13 : Int32) then (1 : Int32) else (if p0 = (12 : Int32) then (1 : Int32) else (if p0 = (11 : Int32) then (1 : Int32) else (0 : Int32)))))))
set_option maxRecDepth 65536 in
set_option maxHeartbeats 40000000 in
theorem bl1_0 {p : Program} {l : Launch} {e : Env} {R : Room} {s : State} {m : MethodId} {args : Array Value} {below : List Frame} {meth : Method} {c : Code} {T : State} {locs : List Loc} {cells slots : Nat} {Z : State} {a0 : Array Value} (p0 : Int32) (X0 : Stand p l e R s m args below meth c T locs cells slots) (hx : p.tables.exec = Jvm.exec) (hZ : Z.Warmed39 s.vm) (hw : ∀ d ∈ tables_1, d.before a0 Z = true) (hby : c.code = prog_82_method_15_code) (hown : s.vm.findClass "com/example/forward_ledger/forwardledger/StatementSplitter" = some m.cls) (hrt : meth.sig.returnType = some .boolean) {fs : List Frame} (hr : ∀ (f : JFrame) (acts : List Action), f.method = m → f.locked = none → f.entered = [] → (doReturn e (T.setTop f) acts (some (.int (b1_0 p0)))).1 = T.setFrames fs) :
    Steps p.tables e below (T.setTop (mkF m 0 #[.val (.int p0)] [])) (T.setFrames fs) := by
  refine XS.iloadN X0.here hx rfl (hb hby d1_0) rfl ?_
  show Steps p.tables e below (T.setTop (mkF m 1 #[.val (.int p0)] [(.int p0)])) _
  refine XS.bipush X0.here hx rfl (hb hby d1_1) ?_
  show Steps p.tables e below (T.setTop (mkF m 3 #[.val (.int p0)] [(.int (32 : Int32)), (.int p0)])) _
  by_cases hc0 : p0 = (32 : Int32)
  · rw [show b1_0 p0 = (1 : Int32) from by rw [b1_0, if_pos hc0]] at hr
    refine XS.icmpYes X0.here hx rfl (pc0 := 3) (pc' := 36) rfl (hb hby d1_3) rfl (teq hc0).1 (by decide) (by decide) ?_
    show Steps p.tables e below (T.setTop (mkF m 36 #[.val (.int p0)] [])) _
    refine XS.iconst X0.here hx rfl (hb hby d1_36) ?_
    show Steps p.tables e below (T.setTop (mkF m 37 #[.val (.int p0)] [(.int (1 : Int32))])) _
    refine XS.goto X0.here hx rfl (pc0 := 37) (pc' := 41) rfl (hb hby d1_37) (by decide) (by decide) ?_
    show Steps p.tables e below (T.setTop (mkF m 41 #[.val (.int p0)] [(.int (1 : Int32))])) _
    exact retN X0 hx (t := .boolean) hrt (by simp) (hb hby d1_41) hr
  · refine XS.icmpNo X0.here hx rfl (hb hby d1_3) rfl (feq hc0).1 ?_
    show Steps p.tables e below (T.setTop (mkF m 6 #[.val (.int p0)] [])) _
    refine XS.iloadN X0.here hx rfl (hb hby d1_6) rfl ?_
    show Steps p.tables e below (T.setTop (mkF m 7 #[.val (.int p0)] [(.int p0)])) _
    refine XS.bipush X0.here hx rfl (hb hby d1_7) ?_
    show Steps p.tables e below (T.setTop (mkF m 9 #[.val (.int p0)] [(.int (9 : Int32)), (.int p0)])) _
    by_cases hc1 : p0 = (9 : Int32)
    · rw [show b1_0 p0 = (1 : Int32) from by rw [b1_0, if_neg hc0, if_pos hc1]] at hr
      refine XS.icmpYes X0.here hx rfl (pc0 := 9) (pc' := 36) rfl (hb hby d1_9) rfl (teq hc1).1 (by decide) (by decide) ?_
      show Steps p.tables e below (T.setTop (mkF m 36 #[.val (.int p0)] [])) _
      refine XS.iconst X0.here hx rfl (hb hby d1_36) ?_
      show Steps p.tables e below (T.setTop (mkF m 37 #[.val (.int p0)] [(.int (1 : Int32))])) _
      refine XS.goto X0.here hx rfl (pc0 := 37) (pc' := 41) rfl (hb hby d1_37) (by decide) (by decide) ?_
      show Steps p.tables e below (T.setTop (mkF m 41 #[.val (.int p0)] [(.int (1 : Int32))])) _
      exact retN X0 hx (t := .boolean) hrt (by simp) (hb hby d1_41) hr
    · refine XS.icmpNo X0.here hx rfl (hb hby d1_9) rfl (feq hc1).1 ?_
      show Steps p.tables e below (T.setTop (mkF m 12 #[.val (.int p0)] [])) _
      refine XS.iloadN X0.here hx rfl (hb hby d1_12) rfl ?_
      show Steps p.tables e below (T.setTop (mkF m 13 #[.val (.int p0)] [(.int p0)])) _
      refine XS.bipush X0.here hx rfl (hb hby d1_13) ?_
      show Steps p.tables e below (T.setTop (mkF m 15 #[.val (.int p0)] [(.int (10 : Int32)), (.int p0)])) _
      by_cases hc2 : p0 = (10 : Int32)
      · rw [show b1_0 p0 = (1 : Int32) from by rw [b1_0, if_neg hc0, if_neg hc1, if_pos hc2]] at hr
        refine XS.icmpYes X0.here hx rfl (pc0 := 15) (pc' := 36) rfl (hb hby d1_15) rfl (teq hc2).1 (by decide) (by decide) ?_
        show Steps p.tables e below (T.setTop (mkF m 36 #[.val (.int p0)] [])) _
        refine XS.iconst X0.here hx rfl (hb hby d1_36) ?_
        show Steps p.tables e below (T.setTop (mkF m 37 #[.val (.int p0)] [(.int (1 : Int32))])) _
        refine XS.goto X0.here hx rfl (pc0 := 37) (pc' := 41) rfl (hb hby d1_37) (by decide) (by decide) ?_
        show Steps p.tables e below (T.setTop (mkF m 41 #[.val (.int p0)] [(.int (1 : Int32))])) _
        exact retN X0 hx (t := .boolean) hrt (by simp) (hb hby d1_41) hr
      · refine XS.icmpNo X0.here hx rfl (hb hby d1_15) rfl (feq hc2).1 ?_
        show Steps p.tables e below (T.setTop (mkF m 18 #[.val (.int p0)] [])) _
        refine XS.iloadN X0.here hx rfl (hb hby d1_18) rfl ?_
        show Steps p.tables e below (T.setTop (mkF m 19 #[.val (.int p0)] [(.int p0)])) _
        refine XS.bipush X0.here hx rfl (hb hby d1_19) ?_
        show Steps p.tables e below (T.setTop (mkF m 21 #[.val (.int p0)] [(.int (13 : Int32)), (.int p0)])) _
        by_cases hc3 : p0 = (13 : Int32)
        · rw [show b1_0 p0 = (1 : Int32) from by rw [b1_0, if_neg hc0, if_neg hc1, if_neg hc2, if_pos hc3]] at hr
          refine XS.icmpYes X0.here hx rfl (pc0 := 21) (pc' := 36) rfl (hb hby d1_21) rfl (teq hc3).1 (by decide) (by decide) ?_
          show Steps p.tables e below (T.setTop (mkF m 36 #[.val (.int p0)] [])) _
          refine XS.iconst X0.here hx rfl (hb hby d1_36) ?_
          show Steps p.tables e below (T.setTop (mkF m 37 #[.val (.int p0)] [(.int (1 : Int32))])) _
          refine XS.goto X0.here hx rfl (pc0 := 37) (pc' := 41) rfl (hb hby d1_37) (by decide) (by decide) ?_
          show Steps p.tables e below (T.setTop (mkF m 41 #[.val (.int p0)] [(.int (1 : Int32))])) _
          exact retN X0 hx (t := .boolean) hrt (by simp) (hb hby d1_41) hr
        · refine XS.icmpNo X0.here hx rfl (hb hby d1_21) rfl (feq hc3).1 ?_
          show Steps p.tables e below (T.setTop (mkF m 24 #[.val (.int p0)] [])) _
          refine XS.iloadN X0.here hx rfl (hb hby d1_24) rfl ?_
          show Steps p.tables e below (T.setTop (mkF m 25 #[.val (.int p0)] [(.int p0)])) _
          refine XS.bipush X0.here hx rfl (hb hby d1_25) ?_
          show Steps p.tables e below (T.setTop (mkF m 27 #[.val (.int p0)] [(.int (12 : Int32)), (.int p0)])) _
          by_cases hc4 : p0 = (12 : Int32)
          · rw [show b1_0 p0 = (1 : Int32) from by rw [b1_0, if_neg hc0, if_neg hc1, if_neg hc2, if_neg hc3, if_pos hc4]] at hr
            refine XS.icmpYes X0.here hx rfl (pc0 := 27) (pc' := 36) rfl (hb hby d1_27) rfl (teq hc4).1 (by decide) (by decide) ?_
            show Steps p.tables e below (T.setTop (mkF m 36 #[.val (.int p0)] [])) _
            refine XS.iconst X0.here hx rfl (hb hby d1_36) ?_
            show Steps p.tables e below (T.setTop (mkF m 37 #[.val (.int p0)] [(.int (1 : Int32))])) _
            refine XS.goto X0.here hx rfl (pc0 := 37) (pc' := 41) rfl (hb hby d1_37) (by decide) (by decide) ?_
            show Steps p.tables e below (T.setTop (mkF m 41 #[.val (.int p0)] [(.int (1 : Int32))])) _
            exact retN X0 hx (t := .boolean) hrt (by simp) (hb hby d1_41) hr
          · refine XS.icmpNo X0.here hx rfl (hb hby d1_27) rfl (feq hc4).1 ?_
            show Steps p.tables e below (T.setTop (mkF m 30 #[.val (.int p0)] [])) _
            refine XS.iloadN X0.here hx rfl (hb hby d1_30) rfl ?_
            show Steps p.tables e below (T.setTop (mkF m 31 #[.val (.int p0)] [(.int p0)])) _
            refine XS.bipush X0.here hx rfl (hb hby d1_31) ?_
            show Steps p.tables e below (T.setTop (mkF m 33 #[.val (.int p0)] [(.int (11 : Int32)), (.int p0)])) _
            by_cases hc5 : p0 = (11 : Int32)
            · rw [show b1_0 p0 = (1 : Int32) from by rw [b1_0, if_neg hc0, if_neg hc1, if_neg hc2, if_neg hc3, if_neg hc4, if_pos hc5]] at hr
              refine XS.icmpNo X0.here hx rfl (hb hby d1_33) rfl (teq hc5).2 ?_
              show Steps p.tables e below (T.setTop (mkF m 36 #[.val (.int p0)] [])) _
              refine XS.iconst X0.here hx rfl (hb hby d1_36) ?_
              show Steps p.tables e below (T.setTop (mkF m 37 #[.val (.int p0)] [(.int (1 : Int32))])) _
              refine XS.goto X0.here hx rfl (pc0 := 37) (pc' := 41) rfl (hb hby d1_37) (by decide) (by decide) ?_
              show Steps p.tables e below (T.setTop (mkF m 41 #[.val (.int p0)] [(.int (1 : Int32))])) _
              exact retN X0 hx (t := .boolean) hrt (by simp) (hb hby d1_41) hr
            · rw [show b1_0 p0 = (0 : Int32) from by rw [b1_0, if_neg hc0, if_neg hc1, if_neg hc2, if_neg hc3, if_neg hc4, if_neg hc5]] at hr
              refine XS.icmpYes X0.here hx rfl (pc0 := 33) (pc' := 40) rfl (hb hby d1_33) rfl (feq hc5).2 (by decide) (by decide) ?_
              show Steps p.tables e below (T.setTop (mkF m 40 #[.val (.int p0)] [])) _
              refine XS.iconst X0.here hx rfl (hb hby d1_40) ?_
              show Steps p.tables e below (T.setTop (mkF m 41 #[.val (.int p0)] [(.int (0 : Int32))])) _
              exact retN X0 hx (t := .boolean) hrt (by simp) (hb hby d1_41) hr
def Q1 (Z : State) (p0 : Int32) (h0 : Heap) (n0 : Nat) (v : Option Value) (h : Heap) (L : List Loc) : Prop := v = some (.int (b1_0 p0)) ∧ Fr n0 L ∧ h = h0
set_option maxRecDepth 65536 in
set_option maxHeartbeats 40000000 in
theorem rm1 (l : Launch) (Z : State) (a0 : Array Value) (hw : ∀ d ∈ tables_1, d.before a0 Z = true) (ws : List Jvm.Cond) (p0 : Int32) (h0 : Heap) (n0 : Nat) (Z0 : n0 ≤ h0.size) :
    MetFree l (⟨"com/example/forward_ledger/forwardledger/StatementSplitter", "isSpace", "(C)Z"⟩ : MethodName) (head1 (Jvm.Cond.code (⟨"com/example/forward_ledger/forwardledger/StatementSplitter", "isSpace", "(C)Z"⟩ : MethodName) prog_82_method_15_code 1 (some .boolean) :: ws) ({ frames := 0, cells := 0, slots := 0, locals := 0 } : Room)) (fun a U => a = #[(.int p0)] ∧ Z.Warmed39 U.vm ∧ U.heap = h0) (fun _ _ _ _ _ => True) (fun _ U o U' => ∃ v L, o = .returned v ∧ Q1 Z p0 h0 n0 v U'.heap L ∧ FrameEnd U o U' L ({ frames := 0, cells := 0, slots := 0, locals := 0 } : Room).cells ({ frames := 0, cells := 0, slots := 0, locals := 0 } : Room).slots) := by
  refine MetFree.of_bodySF (plainFor_of_name pn_1) hisR ?_
  intro p e s m args below meth c s₁ Bd hml0 hP hK
  obtain ⟨rfl, hZ, hh⟩ := hP
  have hx := Bd.exec
  have hby := Bd.bytes
  have hml : c.maxLocals = 1 := hml0
  have hown : s.vm.findClass "com/example/forward_ledger/forwardledger/StatementSplitter" = some m.cls := findClass_of_methodNamed Bd.named
  have hnm := (name_of_methodNamed Bd.named Bd.method).1
  have X0 : Stand p l e ({ frames := 0, cells := 0, slots := 0, locals := 0 } : Room) s m #[(.int p0)] below meth c s₁ [] 0 0 := Stand.of_body Bd
  have e0 : s₁.heap = h0 := by rw [← hh, Bd.state]; rfl
  have N0 := Fr.nil n0
  have pre0 : ∀ t, Steps p.tables e below (s₁.setTop (mkF m 0 #[.val (.int p0)] [])) t → Steps p.tables e below (s₁.setTop (entryFrame m #[(.int p0)] 1)) t := fun t k => castTop (ef_1 m p0) k
  obtain ⟨fs, hr, hrun, hended, hW, hsame⟩ := X0.leave (v := some (.int (b1_0 p0))) (fun h => by rw [Bd.returns] at h; cases h)
  refine ⟨_, _, pre0 _ ?_, hrun, hended, _, _, rfl, ?_, ⟨_, rfl⟩, hW, hsame.mono (by decide) (by decide)⟩
  · exact bl1_0 p0 X0 hx hZ hw hby hown Bd.returns hr
  · show Q1 Z p0 h0 n0 _ s₁.heap _
    rw [e0]
    exact ⟨rfl, N0, rfl⟩
theorem own_s1 (c : Int32) (h1 : ¬ c < (9 : Int32)) (h2 : ¬ (13 : Int32) < c) : b1_0 c = (1 : Int32) := by
  have hn : ∀ n : Fin 14, 9 ≤ n.1 → b1_0 (Int32.ofNat n.1) = 1 := by decide +kernel
  have q1 : 9 ≤ c.toInt := by have := h1; rw [Int32.lt_iff_toInt_lt] at this; have e : (9 : Int32).toInt = 9 := by decide
                              omega
  have q2 : c.toInt ≤ 13 := by have := h2; rw [Int32.lt_iff_toInt_lt] at this; have e : (13 : Int32).toInt = 13 := by decide
                               omega
  have e : Int32.ofNat c.toInt.toNat = c := Int32.toInt_inj.mp (by rw [Int32.toInt_ofNat_of_lt (by omega)]; omega)
  have q := hn ⟨c.toInt.toNat, by omega⟩ (by show 9 ≤ c.toInt.toNat; omega)
  simp only [e] at q
  exact q
theorem own_s2 (c : Int32) (h : c = (32 : Int32)) : b1_0 c = (1 : Int32) := by subst h; decide
theorem own_s3 (c : Int32) (h1 : c < (9 : Int32)) (h : ¬ c = (32 : Int32)) : b1_0 c = (0 : Int32) := by
  have g : ∀ k : Int32, ¬ k < (9 : Int32) → ¬ c = k := fun k hk e => hk (e ▸ h1)
  rw [b1_0, if_neg h, if_neg (g 9 (by decide)), if_neg (g 10 (by decide)), if_neg (g 13 (by decide)), if_neg (g 12 (by decide)), if_neg (g 11 (by decide))]
theorem own_s4 (c : Int32) (h1 : (13 : Int32) < c) (h : ¬ c = (32 : Int32)) : b1_0 c = (0 : Int32) := by
  have g : ∀ k : Int32, ¬ (13 : Int32) < k → ¬ c = k := fun k hk e => hk (e ▸ h1)
  rw [b1_0, if_neg h, if_neg (g 9 (by decide)), if_neg (g 10 (by decide)), if_neg (g 13 (by decide)), if_neg (g 12 (by decide)), if_neg (g 11 (by decide))]
theorem pn_0 : plainName "com/example/forward_ledger/forwardledger/StatementSplitterIsSpacePinLaw" = true := by first | (simp [plainName, overriddenIn]; done) | decide +kernel
theorem ef_0 (m : MethodId) (p0 : Int32) (p1 : Int32) : entryFrame m #[(.int p0), (.int p1)] maxLocals = mkF m 0 #[.val (.int p0), .val (.int p1), .unset, .unset] [] := by first | (simp [entryFrame, mkF, argsToLocals, Value.category, maxLocals]; done) | rfl
theorem pd_0 : parseMethodDescriptor "(C)Z" = some ⟨[.char], some .boolean⟩ := by decide +kernel
def Q0 (Z : State) (p0 : Int32) (p1 : Int32) (h0 : Heap) (n0 : Nat) (v : Option Value) (h : Heap) (L : List Loc) : Prop := v = some (.int 1) ∧ Fr n0 L
set_option maxRecDepth 65536 in
set_option maxHeartbeats 40000000 in
theorem rm0 (l : Launch) (Z : State) (a0 : Array Value) (hw : ∀ d ∈ tables_1, d.before a0 Z = true) (ws : List Jvm.Cond) (p0 : Int32) (p1 : Int32) (h0 : Heap) (n0 : Nat) (Z0 : n0 ≤ h0.size)  :
    MetFree l x (head1 (Jvm.Cond.code x code maxLocals ret :: ws) room_1) (fun a U => a = #[(.int p0), (.int p1)] ∧ Z.Warmed39 U.vm ∧ U.heap = h0) (fun _ _ _ _ _ => True) (fun _ U o U' => ∃ v L, o = .returned v ∧ Q0 Z p0 p1 h0 n0 v U'.heap L ∧ FrameEnd U o U' L room_1.cells room_1.slots) := by
  refine MetFree.of_bodySF (plainFor_of_name pn_0) hisR ?_
  intro p e s m args below meth c s₁ Bd hml0 hP hK
  obtain ⟨rfl, hZ, hh⟩ := hP
  have hx := Bd.exec
  have hby := Bd.bytes
  have hml : c.maxLocals = 4 := hml0
  have hown : s.vm.findClass "com/example/forward_ledger/forwardledger/StatementSplitterIsSpacePinLaw" = some m.cls := findClass_of_methodNamed Bd.named
  have hnm := (name_of_methodNamed Bd.named Bd.method).1
  have X0 : Stand p l e room_1 s m #[(.int p0), (.int p1)] below meth c s₁ [] 0 0 := Stand.of_body Bd
  have e0 : s₁.heap = h0 := by rw [← hh, Bd.state]; rfl
  have N0 := Fr.nil n0
  have pre0 : ∀ t, Steps p.tables e below (s₁.setTop (mkF m 0 #[.val (.int p0), .val (.int p1), .unset, .unset] [])) t → Steps p.tables e below (s₁.setTop (entryFrame m #[(.int p0), (.int p1)] maxLocals)) t := fun t k => castTop (ef_0 m p0 p1) k
  have pre11 : ∀ t, Steps p.tables e below (s₁.setTop (mkF m 3 #[.val (.int p0), .val (.int p1), .unset, .unset] [(.int (p1 &&& (1 : Int32)))])) t → Steps p.tables e below (s₁.setTop (entryFrame m #[(.int p0), (.int p1)] maxLocals)) t := fun t k => pre0 t (by
    refine XS.iloadN X0.here hx rfl (hb hby at_0) rfl ?_
    show Steps p.tables e below (s₁.setTop (mkF m 1 #[.val (.int p0), .val (.int p1), .unset, .unset] [(.int p1)])) _
    refine XS.iconst X0.here hx rfl (hb hby at_1) ?_
    show Steps p.tables e below (s₁.setTop (mkF m 2 #[.val (.int p0), .val (.int p1), .unset, .unset] [(.int (1 : Int32)), (.int p1)])) _
    refine XS.iand X0.here hx rfl (hb hby at_2) rfl ?_
    exact k)
  obtain ⟨ch, hch⟩ : ∃ z : Int32, z = (if (p1 &&& (1 : Int32)) = (0 : Int32) then (p0.toUInt32.toUInt16.toUInt32.toInt32) else ((p0 &&& (63 : Int32)).toUInt32.toUInt16.toUInt32.toInt32)) := ⟨_, rfl⟩
  have pre13 : ∀ t, Steps p.tables e below (s₁.setTop (mkF m 18 #[.val (.int p0), .val (.int p1), .val (.int ch), .unset] [])) t → Steps p.tables e below (s₁.setTop (entryFrame m #[(.int p0), (.int p1)] maxLocals)) t := fun t k => pre11 t (by
    by_cases hm12 : (p1 &&& (1 : Int32)) = (0 : Int32)
    · rw [show ch = (p0.toUInt32.toUInt16.toUInt32.toInt32) from by rw [hch, if_pos hm12]] at k
      refine XS.ifYes X0.here hx rfl (pc0 := 3) (pc' := 15) rfl (hb hby at_3) rfl ((if0 _ _).trans (teq hm12).1) (by decide) (by decide) ?_
      show Steps p.tables e below (s₁.setTop (mkF m 15 #[.val (.int p0), .val (.int p1), .unset, .unset] [])) _
      refine XS.iloadN X0.here hx rfl (hb hby at_15) rfl ?_
      show Steps p.tables e below (s₁.setTop (mkF m 16 #[.val (.int p0), .val (.int p1), .unset, .unset] [(.int p0)])) _
      refine XS.i2c X0.here hx rfl (hb hby at_16) rfl ?_
      show Steps p.tables e below (s₁.setTop (mkF m 17 #[.val (.int p0), .val (.int p1), .unset, .unset] [(.int (p0.toUInt32.toUInt16.toUInt32.toInt32))])) _
      refine XS.istoreN X0.here hx rfl (hb hby at_17) rfl (l' := #[.val (.int p0), .val (.int p1), .val (.int (p0.toUInt32.toUInt16.toUInt32.toInt32)), .unset]) rfl ?_
      exact k
    · rw [show ch = ((p0 &&& (63 : Int32)).toUInt32.toUInt16.toUInt32.toInt32) from by rw [hch, if_neg hm12]] at k
      refine XS.ifNo X0.here hx rfl (hb hby at_3) rfl ((if0 _ _).trans (feq hm12).1) ?_
      show Steps p.tables e below (s₁.setTop (mkF m 6 #[.val (.int p0), .val (.int p1), .unset, .unset] [])) _
      refine XS.iloadN X0.here hx rfl (hb hby at_6) rfl ?_
      show Steps p.tables e below (s₁.setTop (mkF m 7 #[.val (.int p0), .val (.int p1), .unset, .unset] [(.int p0)])) _
      refine XS.bipush X0.here hx rfl (hb hby at_7) ?_
      show Steps p.tables e below (s₁.setTop (mkF m 9 #[.val (.int p0), .val (.int p1), .unset, .unset] [(.int (63 : Int32)), (.int p0)])) _
      refine XS.iand X0.here hx rfl (hb hby at_9) rfl ?_
      show Steps p.tables e below (s₁.setTop (mkF m 10 #[.val (.int p0), .val (.int p1), .unset, .unset] [(.int (p0 &&& (63 : Int32)))])) _
      refine XS.i2c X0.here hx rfl (hb hby at_10) rfl ?_
      show Steps p.tables e below (s₁.setTop (mkF m 11 #[.val (.int p0), .val (.int p1), .unset, .unset] [(.int ((p0 &&& (63 : Int32)).toUInt32.toUInt16.toUInt32.toInt32))])) _
      refine XS.istoreN X0.here hx rfl (hb hby at_11) rfl (l' := #[.val (.int p0), .val (.int p1), .val (.int ((p0 &&& (63 : Int32)).toUInt32.toUInt16.toUInt32.toInt32)), .unset]) rfl ?_
      show Steps p.tables e below (s₁.setTop (mkF m 12 #[.val (.int p0), .val (.int p1), .val (.int ((p0 &&& (63 : Int32)).toUInt32.toUInt16.toUInt32.toInt32)), .unset] [])) _
      refine XS.goto X0.here hx rfl (pc0 := 12) (pc' := 18) rfl (hb hby at_12) (by decide) (by decide) ?_
      exact k)
  have pre14 : ∀ t, Steps p.tables e below (s₁.setTop (mkF m 21 #[.val (.int p0), .val (.int p1), .val (.int ch), .unset] [(.int (9 : Int32)), (.int ch)])) t → Steps p.tables e below (s₁.setTop (entryFrame m #[(.int p0), (.int p1)] maxLocals)) t := fun t k => pre13 t (by
    refine XS.iloadN X0.here hx rfl (hb hby at_18) rfl ?_
    show Steps p.tables e below (s₁.setTop (mkF m 19 #[.val (.int p0), .val (.int p1), .val (.int ch), .unset] [(.int ch)])) _
    refine XS.bipush X0.here hx rfl (hb hby at_19) ?_
    exact k)
  by_cases hc15 : ch < (9 : Int32)
  · have pre16 : ∀ t, Steps p.tables e below (s₁.setTop (mkF m 33 #[.val (.int p0), .val (.int p1), .val (.int ch), .unset] [(.int (32 : Int32)), (.int ch)])) t → Steps p.tables e below (s₁.setTop (entryFrame m #[(.int p0), (.int p1)] maxLocals)) t := fun t k => pre14 t (by
      refine XS.icmpYes X0.here hx rfl (pc0 := 21) (pc' := 30) rfl (hb hby at_21) rfl (tlt hc15).1 (by decide) (by decide) ?_
      show Steps p.tables e below (s₁.setTop (mkF m 30 #[.val (.int p0), .val (.int p1), .val (.int ch), .unset] [])) _
      refine XS.iloadN X0.here hx rfl (hb hby at_30) rfl ?_
      show Steps p.tables e below (s₁.setTop (mkF m 31 #[.val (.int p0), .val (.int p1), .val (.int ch), .unset] [(.int ch)])) _
      refine XS.bipush X0.here hx rfl (hb hby at_31) ?_
      exact k)
    by_cases hc17 : ch = (32 : Int32)
    · obtain ⟨_, _, ⟨T18, L18, k18, n18⟩, -, X18, ⟨Lc18, hQ18, l18, y18, z18⟩, st18⟩ := Jvm.LawKit.callS X0 hx (y := (⟨"com/example/forward_ledger/forwardledger/StatementSplitter", "isSpace", "(C)Z"⟩ : MethodName)) hown (mvT hZ (hw _ (List.mem_of_getElem? (i := 0) rfl))) (mvT hZ (hw _ (List.mem_of_getElem? (i := 1) rfl))) (mvT hZ (hw _ (List.mem_of_getElem? (i := 2) rfl))) (mvT hZ (hw _ (List.mem_of_getElem? (i := 3) rfl))) (by decide) (backOf (W := 0) (rm1 l Z a0 hw [] ch h0 n0 Z0) hZ (hw _ (List.mem_of_getElem? (i := 3) rfl)) (hw _ (List.mem_of_getElem? (i := 2) rfl)) (by decide) (by decide)) (g := (mkF m 43 #[.val (.int p0), .val (.int p1), .val (.int ch), .val (.int (1 : Int32))] [(.int ch)])) rfl (by rw [hml]; rfl) (argsL := [(.int ch)]) (rest := []) (lenOf pd_0 rfl) rfl (by show 2 * 0 + _ ≤ _; exact Nat.le_of_eq rfl) (hb hby at_43) (fun _ _ => ⟨rfl, e0, (by decide : 0 + 0 ≤ _), (by decide : 0 + 0 ≤ _)⟩)
      dsimp only [Pt.U, Pt.locs, Pt.cells, Pt.slots] at X18 l18 y18 z18 st18 hQ18
      subst l18 y18 z18
      obtain ⟨rfl, Nq18, eh18⟩ := hQ18
      have N18 := Fr.app N0 Nq18
      obtain ⟨fs, hr, hrun, hended, hW, hsame⟩ := X18.leave (v := some (.int (1 : Int32))) (fun h => by rw [Bd.returns] at h; cases h)
      refine ⟨_, _, pre16 _ ?_, hrun, hended, _, _, rfl, ?_, ⟨_, rfl⟩, hW, hsame.mono (by decide) (by decide)⟩
      · refine XS.icmpNo X0.here hx rfl (hb hby at_33) rfl (teq hc17).2 ?_
        show Steps p.tables e below (s₁.setTop (mkF m 36 #[.val (.int p0), .val (.int p1), .val (.int ch), .unset] [])) _
        refine XS.iconst X0.here hx rfl (hb hby at_36) ?_
        show Steps p.tables e below (s₁.setTop (mkF m 37 #[.val (.int p0), .val (.int p1), .val (.int ch), .unset] [(.int (1 : Int32))])) _
        refine XS.goto X0.here hx rfl (pc0 := 37) (pc' := 41) rfl (hb hby at_37) (by decide) (by decide) ?_
        show Steps p.tables e below (s₁.setTop (mkF m 41 #[.val (.int p0), .val (.int p1), .val (.int ch), .unset] [(.int (1 : Int32))])) _
        refine XS.istoreN X0.here hx rfl (hb hby at_41) rfl (l' := #[.val (.int p0), .val (.int p1), .val (.int ch), .val (.int (1 : Int32))]) rfl ?_
        show Steps p.tables e below (s₁.setTop (mkF m 42 #[.val (.int p0), .val (.int p1), .val (.int ch), .val (.int (1 : Int32))] [])) _
        refine XS.iloadN X0.here hx rfl (hb hby at_42) rfl ?_
        show Steps p.tables e below (s₁.setTop (mkF m 43 #[.val (.int p0), .val (.int p1), .val (.int ch), .val (.int (1 : Int32))] [(.int ch)])) _
        refine st18 _ ?_
        show Steps p.tables e below (T18.setTop (mkF m 46 #[.val (.int p0), .val (.int p1), .val (.int ch), .val (.int (1 : Int32))] [(.int (b1_0 ch))])) _
        refine XS.iloadN X18.here hx rfl (hb hby at_46) rfl ?_
        show Steps p.tables e below (T18.setTop (mkF m 47 #[.val (.int p0), .val (.int p1), .val (.int ch), .val (.int (1 : Int32))] [(.int (1 : Int32)), (.int (b1_0 ch))])) _
        refine XS.icmpNo X18.here hx rfl (hb hby at_47) rfl (teq (own_s2 _ hc17)).2 ?_
        show Steps p.tables e below (T18.setTop (mkF m 50 #[.val (.int p0), .val (.int p1), .val (.int ch), .val (.int (1 : Int32))] [])) _
        refine XS.iconst X18.here hx rfl (hb hby at_50) ?_
        show Steps p.tables e below (T18.setTop (mkF m 51 #[.val (.int p0), .val (.int p1), .val (.int ch), .val (.int (1 : Int32))] [(.int (1 : Int32))])) _
        refine XS.goto X18.here hx rfl (pc0 := 51) (pc' := 55) rfl (hb hby at_51) (by decide) (by decide) ?_
        show Steps p.tables e below (T18.setTop (mkF m 55 #[.val (.int p0), .val (.int p1), .val (.int ch), .val (.int (1 : Int32))] [(.int (1 : Int32))])) _
        exact retN X18 hx (t := .boolean) Bd.returns (by simp) (hb hby at_55) hr
      · show Q0 Z p0 p1 h0 n0 _ T18.heap _
        rw [eh18]
        exact ⟨rfl, N18⟩
    · obtain ⟨_, _, ⟨T19, L19, k19, n19⟩, -, X19, ⟨Lc19, hQ19, l19, y19, z19⟩, st19⟩ := Jvm.LawKit.callS X0 hx (y := (⟨"com/example/forward_ledger/forwardledger/StatementSplitter", "isSpace", "(C)Z"⟩ : MethodName)) hown (mvT hZ (hw _ (List.mem_of_getElem? (i := 0) rfl))) (mvT hZ (hw _ (List.mem_of_getElem? (i := 1) rfl))) (mvT hZ (hw _ (List.mem_of_getElem? (i := 2) rfl))) (mvT hZ (hw _ (List.mem_of_getElem? (i := 3) rfl))) (by decide) (backOf (W := 0) (rm1 l Z a0 hw [] ch h0 n0 Z0) hZ (hw _ (List.mem_of_getElem? (i := 3) rfl)) (hw _ (List.mem_of_getElem? (i := 2) rfl)) (by decide) (by decide)) (g := (mkF m 43 #[.val (.int p0), .val (.int p1), .val (.int ch), .val (.int (0 : Int32))] [(.int ch)])) rfl (by rw [hml]; rfl) (argsL := [(.int ch)]) (rest := []) (lenOf pd_0 rfl) rfl (by show 2 * 0 + _ ≤ _; exact Nat.le_of_eq rfl) (hb hby at_43) (fun _ _ => ⟨rfl, e0, (by decide : 0 + 0 ≤ _), (by decide : 0 + 0 ≤ _)⟩)
      dsimp only [Pt.U, Pt.locs, Pt.cells, Pt.slots] at X19 l19 y19 z19 st19 hQ19
      subst l19 y19 z19
      obtain ⟨rfl, Nq19, eh19⟩ := hQ19
      have N19 := Fr.app N0 Nq19
      obtain ⟨fs, hr, hrun, hended, hW, hsame⟩ := X19.leave (v := some (.int (1 : Int32))) (fun h => by rw [Bd.returns] at h; cases h)
      refine ⟨_, _, pre16 _ ?_, hrun, hended, _, _, rfl, ?_, ⟨_, rfl⟩, hW, hsame.mono (by decide) (by decide)⟩
      · refine XS.icmpYes X0.here hx rfl (pc0 := 33) (pc' := 40) rfl (hb hby at_33) rfl (feq hc17).2 (by decide) (by decide) ?_
        show Steps p.tables e below (s₁.setTop (mkF m 40 #[.val (.int p0), .val (.int p1), .val (.int ch), .unset] [])) _
        refine XS.iconst X0.here hx rfl (hb hby at_40) ?_
        show Steps p.tables e below (s₁.setTop (mkF m 41 #[.val (.int p0), .val (.int p1), .val (.int ch), .unset] [(.int (0 : Int32))])) _
        refine XS.istoreN X0.here hx rfl (hb hby at_41) rfl (l' := #[.val (.int p0), .val (.int p1), .val (.int ch), .val (.int (0 : Int32))]) rfl ?_
        show Steps p.tables e below (s₁.setTop (mkF m 42 #[.val (.int p0), .val (.int p1), .val (.int ch), .val (.int (0 : Int32))] [])) _
        refine XS.iloadN X0.here hx rfl (hb hby at_42) rfl ?_
        show Steps p.tables e below (s₁.setTop (mkF m 43 #[.val (.int p0), .val (.int p1), .val (.int ch), .val (.int (0 : Int32))] [(.int ch)])) _
        refine st19 _ ?_
        show Steps p.tables e below (T19.setTop (mkF m 46 #[.val (.int p0), .val (.int p1), .val (.int ch), .val (.int (0 : Int32))] [(.int (b1_0 ch))])) _
        refine XS.iloadN X19.here hx rfl (hb hby at_46) rfl ?_
        show Steps p.tables e below (T19.setTop (mkF m 47 #[.val (.int p0), .val (.int p1), .val (.int ch), .val (.int (0 : Int32))] [(.int (0 : Int32)), (.int (b1_0 ch))])) _
        refine XS.icmpNo X19.here hx rfl (hb hby at_47) rfl (teq (own_s3 _ hc15 hc17)).2 ?_
        show Steps p.tables e below (T19.setTop (mkF m 50 #[.val (.int p0), .val (.int p1), .val (.int ch), .val (.int (0 : Int32))] [])) _
        refine XS.iconst X19.here hx rfl (hb hby at_50) ?_
        show Steps p.tables e below (T19.setTop (mkF m 51 #[.val (.int p0), .val (.int p1), .val (.int ch), .val (.int (0 : Int32))] [(.int (1 : Int32))])) _
        refine XS.goto X19.here hx rfl (pc0 := 51) (pc' := 55) rfl (hb hby at_51) (by decide) (by decide) ?_
        show Steps p.tables e below (T19.setTop (mkF m 55 #[.val (.int p0), .val (.int p1), .val (.int ch), .val (.int (0 : Int32))] [(.int (1 : Int32))])) _
        exact retN X19 hx (t := .boolean) Bd.returns (by simp) (hb hby at_55) hr
      · show Q0 Z p0 p1 h0 n0 _ T19.heap _
        rw [eh19]
        exact ⟨rfl, N19⟩
  · have pre20 : ∀ t, Steps p.tables e below (s₁.setTop (mkF m 27 #[.val (.int p0), .val (.int p1), .val (.int ch), .unset] [(.int (13 : Int32)), (.int ch)])) t → Steps p.tables e below (s₁.setTop (entryFrame m #[(.int p0), (.int p1)] maxLocals)) t := fun t k => pre14 t (by
      refine XS.icmpNo X0.here hx rfl (hb hby at_21) rfl (flt hc15).1 ?_
      show Steps p.tables e below (s₁.setTop (mkF m 24 #[.val (.int p0), .val (.int p1), .val (.int ch), .unset] [])) _
      refine XS.iloadN X0.here hx rfl (hb hby at_24) rfl ?_
      show Steps p.tables e below (s₁.setTop (mkF m 25 #[.val (.int p0), .val (.int p1), .val (.int ch), .unset] [(.int ch)])) _
      refine XS.bipush X0.here hx rfl (hb hby at_25) ?_
      exact k)
    by_cases hc21 : (13 : Int32) < ch
    · have pre22 : ∀ t, Steps p.tables e below (s₁.setTop (mkF m 33 #[.val (.int p0), .val (.int p1), .val (.int ch), .unset] [(.int (32 : Int32)), (.int ch)])) t → Steps p.tables e below (s₁.setTop (entryFrame m #[(.int p0), (.int p1)] maxLocals)) t := fun t k => pre20 t (by
        refine XS.icmpNo X0.here hx rfl (hb hby at_27) rfl (tlt hc21).2.2.2 ?_
        show Steps p.tables e below (s₁.setTop (mkF m 30 #[.val (.int p0), .val (.int p1), .val (.int ch), .unset] [])) _
        refine XS.iloadN X0.here hx rfl (hb hby at_30) rfl ?_
        show Steps p.tables e below (s₁.setTop (mkF m 31 #[.val (.int p0), .val (.int p1), .val (.int ch), .unset] [(.int ch)])) _
        refine XS.bipush X0.here hx rfl (hb hby at_31) ?_
        exact k)
      by_cases hc23 : ch = (32 : Int32)
      · obtain ⟨_, _, ⟨T24, L24, k24, n24⟩, -, X24, ⟨Lc24, hQ24, l24, y24, z24⟩, st24⟩ := Jvm.LawKit.callS X0 hx (y := (⟨"com/example/forward_ledger/forwardledger/StatementSplitter", "isSpace", "(C)Z"⟩ : MethodName)) hown (mvT hZ (hw _ (List.mem_of_getElem? (i := 0) rfl))) (mvT hZ (hw _ (List.mem_of_getElem? (i := 1) rfl))) (mvT hZ (hw _ (List.mem_of_getElem? (i := 2) rfl))) (mvT hZ (hw _ (List.mem_of_getElem? (i := 3) rfl))) (by decide) (backOf (W := 0) (rm1 l Z a0 hw [] ch h0 n0 Z0) hZ (hw _ (List.mem_of_getElem? (i := 3) rfl)) (hw _ (List.mem_of_getElem? (i := 2) rfl)) (by decide) (by decide)) (g := (mkF m 43 #[.val (.int p0), .val (.int p1), .val (.int ch), .val (.int (1 : Int32))] [(.int ch)])) rfl (by rw [hml]; rfl) (argsL := [(.int ch)]) (rest := []) (lenOf pd_0 rfl) rfl (by show 2 * 0 + _ ≤ _; exact Nat.le_of_eq rfl) (hb hby at_43) (fun _ _ => ⟨rfl, e0, (by decide : 0 + 0 ≤ _), (by decide : 0 + 0 ≤ _)⟩)
        dsimp only [Pt.U, Pt.locs, Pt.cells, Pt.slots] at X24 l24 y24 z24 st24 hQ24
        subst l24 y24 z24
        obtain ⟨rfl, Nq24, eh24⟩ := hQ24
        have N24 := Fr.app N0 Nq24
        obtain ⟨fs, hr, hrun, hended, hW, hsame⟩ := X24.leave (v := some (.int (1 : Int32))) (fun h => by rw [Bd.returns] at h; cases h)
        refine ⟨_, _, pre22 _ ?_, hrun, hended, _, _, rfl, ?_, ⟨_, rfl⟩, hW, hsame.mono (by decide) (by decide)⟩
        · refine XS.icmpNo X0.here hx rfl (hb hby at_33) rfl (teq hc23).2 ?_
          show Steps p.tables e below (s₁.setTop (mkF m 36 #[.val (.int p0), .val (.int p1), .val (.int ch), .unset] [])) _
          refine XS.iconst X0.here hx rfl (hb hby at_36) ?_
          show Steps p.tables e below (s₁.setTop (mkF m 37 #[.val (.int p0), .val (.int p1), .val (.int ch), .unset] [(.int (1 : Int32))])) _
          refine XS.goto X0.here hx rfl (pc0 := 37) (pc' := 41) rfl (hb hby at_37) (by decide) (by decide) ?_
          show Steps p.tables e below (s₁.setTop (mkF m 41 #[.val (.int p0), .val (.int p1), .val (.int ch), .unset] [(.int (1 : Int32))])) _
          refine XS.istoreN X0.here hx rfl (hb hby at_41) rfl (l' := #[.val (.int p0), .val (.int p1), .val (.int ch), .val (.int (1 : Int32))]) rfl ?_
          show Steps p.tables e below (s₁.setTop (mkF m 42 #[.val (.int p0), .val (.int p1), .val (.int ch), .val (.int (1 : Int32))] [])) _
          refine XS.iloadN X0.here hx rfl (hb hby at_42) rfl ?_
          show Steps p.tables e below (s₁.setTop (mkF m 43 #[.val (.int p0), .val (.int p1), .val (.int ch), .val (.int (1 : Int32))] [(.int ch)])) _
          refine st24 _ ?_
          show Steps p.tables e below (T24.setTop (mkF m 46 #[.val (.int p0), .val (.int p1), .val (.int ch), .val (.int (1 : Int32))] [(.int (b1_0 ch))])) _
          refine XS.iloadN X24.here hx rfl (hb hby at_46) rfl ?_
          show Steps p.tables e below (T24.setTop (mkF m 47 #[.val (.int p0), .val (.int p1), .val (.int ch), .val (.int (1 : Int32))] [(.int (1 : Int32)), (.int (b1_0 ch))])) _
          refine XS.icmpNo X24.here hx rfl (hb hby at_47) rfl (teq (own_s2 _ hc23)).2 ?_
          show Steps p.tables e below (T24.setTop (mkF m 50 #[.val (.int p0), .val (.int p1), .val (.int ch), .val (.int (1 : Int32))] [])) _
          refine XS.iconst X24.here hx rfl (hb hby at_50) ?_
          show Steps p.tables e below (T24.setTop (mkF m 51 #[.val (.int p0), .val (.int p1), .val (.int ch), .val (.int (1 : Int32))] [(.int (1 : Int32))])) _
          refine XS.goto X24.here hx rfl (pc0 := 51) (pc' := 55) rfl (hb hby at_51) (by decide) (by decide) ?_
          show Steps p.tables e below (T24.setTop (mkF m 55 #[.val (.int p0), .val (.int p1), .val (.int ch), .val (.int (1 : Int32))] [(.int (1 : Int32))])) _
          exact retN X24 hx (t := .boolean) Bd.returns (by simp) (hb hby at_55) hr
        · show Q0 Z p0 p1 h0 n0 _ T24.heap _
          rw [eh24]
          exact ⟨rfl, N24⟩
      · obtain ⟨_, _, ⟨T25, L25, k25, n25⟩, -, X25, ⟨Lc25, hQ25, l25, y25, z25⟩, st25⟩ := Jvm.LawKit.callS X0 hx (y := (⟨"com/example/forward_ledger/forwardledger/StatementSplitter", "isSpace", "(C)Z"⟩ : MethodName)) hown (mvT hZ (hw _ (List.mem_of_getElem? (i := 0) rfl))) (mvT hZ (hw _ (List.mem_of_getElem? (i := 1) rfl))) (mvT hZ (hw _ (List.mem_of_getElem? (i := 2) rfl))) (mvT hZ (hw _ (List.mem_of_getElem? (i := 3) rfl))) (by decide) (backOf (W := 0) (rm1 l Z a0 hw [] ch h0 n0 Z0) hZ (hw _ (List.mem_of_getElem? (i := 3) rfl)) (hw _ (List.mem_of_getElem? (i := 2) rfl)) (by decide) (by decide)) (g := (mkF m 43 #[.val (.int p0), .val (.int p1), .val (.int ch), .val (.int (0 : Int32))] [(.int ch)])) rfl (by rw [hml]; rfl) (argsL := [(.int ch)]) (rest := []) (lenOf pd_0 rfl) rfl (by show 2 * 0 + _ ≤ _; exact Nat.le_of_eq rfl) (hb hby at_43) (fun _ _ => ⟨rfl, e0, (by decide : 0 + 0 ≤ _), (by decide : 0 + 0 ≤ _)⟩)
        dsimp only [Pt.U, Pt.locs, Pt.cells, Pt.slots] at X25 l25 y25 z25 st25 hQ25
        subst l25 y25 z25
        obtain ⟨rfl, Nq25, eh25⟩ := hQ25
        have N25 := Fr.app N0 Nq25
        obtain ⟨fs, hr, hrun, hended, hW, hsame⟩ := X25.leave (v := some (.int (1 : Int32))) (fun h => by rw [Bd.returns] at h; cases h)
        refine ⟨_, _, pre22 _ ?_, hrun, hended, _, _, rfl, ?_, ⟨_, rfl⟩, hW, hsame.mono (by decide) (by decide)⟩
        · refine XS.icmpYes X0.here hx rfl (pc0 := 33) (pc' := 40) rfl (hb hby at_33) rfl (feq hc23).2 (by decide) (by decide) ?_
          show Steps p.tables e below (s₁.setTop (mkF m 40 #[.val (.int p0), .val (.int p1), .val (.int ch), .unset] [])) _
          refine XS.iconst X0.here hx rfl (hb hby at_40) ?_
          show Steps p.tables e below (s₁.setTop (mkF m 41 #[.val (.int p0), .val (.int p1), .val (.int ch), .unset] [(.int (0 : Int32))])) _
          refine XS.istoreN X0.here hx rfl (hb hby at_41) rfl (l' := #[.val (.int p0), .val (.int p1), .val (.int ch), .val (.int (0 : Int32))]) rfl ?_
          show Steps p.tables e below (s₁.setTop (mkF m 42 #[.val (.int p0), .val (.int p1), .val (.int ch), .val (.int (0 : Int32))] [])) _
          refine XS.iloadN X0.here hx rfl (hb hby at_42) rfl ?_
          show Steps p.tables e below (s₁.setTop (mkF m 43 #[.val (.int p0), .val (.int p1), .val (.int ch), .val (.int (0 : Int32))] [(.int ch)])) _
          refine st25 _ ?_
          show Steps p.tables e below (T25.setTop (mkF m 46 #[.val (.int p0), .val (.int p1), .val (.int ch), .val (.int (0 : Int32))] [(.int (b1_0 ch))])) _
          refine XS.iloadN X25.here hx rfl (hb hby at_46) rfl ?_
          show Steps p.tables e below (T25.setTop (mkF m 47 #[.val (.int p0), .val (.int p1), .val (.int ch), .val (.int (0 : Int32))] [(.int (0 : Int32)), (.int (b1_0 ch))])) _
          refine XS.icmpNo X25.here hx rfl (hb hby at_47) rfl (teq (own_s4 _ hc21 hc23)).2 ?_
          show Steps p.tables e below (T25.setTop (mkF m 50 #[.val (.int p0), .val (.int p1), .val (.int ch), .val (.int (0 : Int32))] [])) _
          refine XS.iconst X25.here hx rfl (hb hby at_50) ?_
          show Steps p.tables e below (T25.setTop (mkF m 51 #[.val (.int p0), .val (.int p1), .val (.int ch), .val (.int (0 : Int32))] [(.int (1 : Int32))])) _
          refine XS.goto X25.here hx rfl (pc0 := 51) (pc' := 55) rfl (hb hby at_51) (by decide) (by decide) ?_
          show Steps p.tables e below (T25.setTop (mkF m 55 #[.val (.int p0), .val (.int p1), .val (.int ch), .val (.int (0 : Int32))] [(.int (1 : Int32))])) _
          exact retN X25 hx (t := .boolean) Bd.returns (by simp) (hb hby at_55) hr
        · show Q0 Z p0 p1 h0 n0 _ T25.heap _
          rw [eh25]
          exact ⟨rfl, N25⟩
    · obtain ⟨_, _, ⟨T26, L26, k26, n26⟩, -, X26, ⟨Lc26, hQ26, l26, y26, z26⟩, st26⟩ := Jvm.LawKit.callS X0 hx (y := (⟨"com/example/forward_ledger/forwardledger/StatementSplitter", "isSpace", "(C)Z"⟩ : MethodName)) hown (mvT hZ (hw _ (List.mem_of_getElem? (i := 0) rfl))) (mvT hZ (hw _ (List.mem_of_getElem? (i := 1) rfl))) (mvT hZ (hw _ (List.mem_of_getElem? (i := 2) rfl))) (mvT hZ (hw _ (List.mem_of_getElem? (i := 3) rfl))) (by decide) (backOf (W := 0) (rm1 l Z a0 hw [] ch h0 n0 Z0) hZ (hw _ (List.mem_of_getElem? (i := 3) rfl)) (hw _ (List.mem_of_getElem? (i := 2) rfl)) (by decide) (by decide)) (g := (mkF m 43 #[.val (.int p0), .val (.int p1), .val (.int ch), .val (.int (1 : Int32))] [(.int ch)])) rfl (by rw [hml]; rfl) (argsL := [(.int ch)]) (rest := []) (lenOf pd_0 rfl) rfl (by show 2 * 0 + _ ≤ _; exact Nat.le_of_eq rfl) (hb hby at_43) (fun _ _ => ⟨rfl, e0, (by decide : 0 + 0 ≤ _), (by decide : 0 + 0 ≤ _)⟩)
      dsimp only [Pt.U, Pt.locs, Pt.cells, Pt.slots] at X26 l26 y26 z26 st26 hQ26
      subst l26 y26 z26
      obtain ⟨rfl, Nq26, eh26⟩ := hQ26
      have N26 := Fr.app N0 Nq26
      obtain ⟨fs, hr, hrun, hended, hW, hsame⟩ := X26.leave (v := some (.int (1 : Int32))) (fun h => by rw [Bd.returns] at h; cases h)
      refine ⟨_, _, pre20 _ ?_, hrun, hended, _, _, rfl, ?_, ⟨_, rfl⟩, hW, hsame.mono (by decide) (by decide)⟩
      · refine XS.icmpYes X0.here hx rfl (pc0 := 27) (pc' := 36) rfl (hb hby at_27) rfl (flt hc21).2.2.2 (by decide) (by decide) ?_
        show Steps p.tables e below (s₁.setTop (mkF m 36 #[.val (.int p0), .val (.int p1), .val (.int ch), .unset] [])) _
        refine XS.iconst X0.here hx rfl (hb hby at_36) ?_
        show Steps p.tables e below (s₁.setTop (mkF m 37 #[.val (.int p0), .val (.int p1), .val (.int ch), .unset] [(.int (1 : Int32))])) _
        refine XS.goto X0.here hx rfl (pc0 := 37) (pc' := 41) rfl (hb hby at_37) (by decide) (by decide) ?_
        show Steps p.tables e below (s₁.setTop (mkF m 41 #[.val (.int p0), .val (.int p1), .val (.int ch), .unset] [(.int (1 : Int32))])) _
        refine XS.istoreN X0.here hx rfl (hb hby at_41) rfl (l' := #[.val (.int p0), .val (.int p1), .val (.int ch), .val (.int (1 : Int32))]) rfl ?_
        show Steps p.tables e below (s₁.setTop (mkF m 42 #[.val (.int p0), .val (.int p1), .val (.int ch), .val (.int (1 : Int32))] [])) _
        refine XS.iloadN X0.here hx rfl (hb hby at_42) rfl ?_
        show Steps p.tables e below (s₁.setTop (mkF m 43 #[.val (.int p0), .val (.int p1), .val (.int ch), .val (.int (1 : Int32))] [(.int ch)])) _
        refine st26 _ ?_
        show Steps p.tables e below (T26.setTop (mkF m 46 #[.val (.int p0), .val (.int p1), .val (.int ch), .val (.int (1 : Int32))] [(.int (b1_0 ch))])) _
        refine XS.iloadN X26.here hx rfl (hb hby at_46) rfl ?_
        show Steps p.tables e below (T26.setTop (mkF m 47 #[.val (.int p0), .val (.int p1), .val (.int ch), .val (.int (1 : Int32))] [(.int (1 : Int32)), (.int (b1_0 ch))])) _
        refine XS.icmpNo X26.here hx rfl (hb hby at_47) rfl (teq (own_s1 _ hc15 hc21)).2 ?_
        show Steps p.tables e below (T26.setTop (mkF m 50 #[.val (.int p0), .val (.int p1), .val (.int ch), .val (.int (1 : Int32))] [])) _
        refine XS.iconst X26.here hx rfl (hb hby at_50) ?_
        show Steps p.tables e below (T26.setTop (mkF m 51 #[.val (.int p0), .val (.int p1), .val (.int ch), .val (.int (1 : Int32))] [(.int (1 : Int32))])) _
        refine XS.goto X26.here hx rfl (pc0 := 51) (pc' := 55) rfl (hb hby at_51) (by decide) (by decide) ?_
        show Steps p.tables e below (T26.setTop (mkF m 55 #[.val (.int p0), .val (.int p1), .val (.int ch), .val (.int (1 : Int32))] [(.int (1 : Int32))])) _
        exact retN X26 hx (t := .boolean) Bd.returns (by simp) (hb hby at_55) hr
      · show Q0 Z p0 p1 h0 n0 _ T26.heap _
        rw [eh26]
        exact ⟨rfl, N26⟩
set_option maxRecDepth 65536 in
set_option maxHeartbeats 40000000 in
theorem comes_1 {Post : Tables → Env → Array Value → State → Outcome → State → Prop} (hpost : ∀ tb e args s v u, (limb_1_1.after args s (.returned v) u = true ∧ limb_1_2.after args s (.returned v) u = true ∧ True) → FrameEnd s (.returned v) u (Jvm.fieldLocs frame_1_writes args s ++ Jvm.arrayLocs frame_1_arrays args s ++ Jvm.staticLocs frame_1_statics s) 0 0 → Post tb e args s (.returned v) u) :
    ArmFor flags0 classFile x code maxLocals ret World_1 tables_1 room_1 Calls_1 rest_1 Pre_1 Post := by
  intro l hfl _ _ p e ha hc hk s m args below hf hA hF happ hP
  obtain ⟨hcalls, hrest, hpre⟩ := hP
  obtain ⟨-, -, -, hnamed, -, -, -, hat⟩ := (Spec.applies_iff hf).mp happ
  obtain ⟨hg, hn⟩ := and_e (Cond.before_iff.mp (show (Jvm.Cond.and given_1 narrow_1).before args s = true from hpre))
  obtain ⟨g1, g2⟩ := and_e hg
  obtain ⟨g3, g4⟩ := and_e g2
  obtain ⟨w0, w1, rfl⟩ : ∃ w0 w1 : Value, args = #[w0, w1] := by
    have hs : args.size = 2 := by simpa [Cond.value, given_1] using g1
    obtain ⟨L⟩ := args
    match L, hs with
    | [w0, w1], _ => exact ⟨w0, w1, rfl⟩
  have hw := fun d (hd : d ∈ tables_1) => atoms_spec (ws := Jvm.Cond.code x code maxLocals ret :: tables_1) hat d (List.mem_cons_of_mem _ hd)
  obtain ⟨i0, ei0⟩ := is_v g3
  obtain rfl : w0 = (.int i0) := Option.some.inj ei0
  obtain ⟨i1, ei1⟩ := is_v g4
  obtain rfl : w1 = (.int i1) := Option.some.inj ei1
  obtain ⟨n, o, h1, h2, h3, _, L, rfl, ⟨rfl, N⟩, hq⟩ := rm0 l s _ hw tables_1 i0 i1 s.heap s.heap.size (Nat.le_refl _) p e ha hc hk s m _ below hf ((Spec.applies_iff_loose hf).mp happ).1 ⟨rfl, State.Warmed39.refl s, rfl⟩ trivial
  refine ⟨n, _, h1, h2, h3, hpost _ _ _ _ _ _ ⟨Cond.after_iff.mpr rfl, Cond.after_iff.mpr (eq_i res_at (Term.int_eval (1)) rfl), trivial⟩ ⟨hq.1, hq.2.1, (hq.2.2.sift fun y hy => Or.inr (N y hy)).mono (by decide) (by decide)⟩⟩
theorem main_1_1 : Claimed_1_1 := comes_1 fun _ _ _ _ _ _ h hF => ⟨h.1, hF⟩
theorem main_1_2 : Claimed_1_2 := comes_1 fun _ _ _ _ _ _ h hF => ⟨h.2.1, hF⟩
end Jvm.Pilot.@@N@@
namespace Jvm.Pilot.@@N@@
open Jvm Jvm.ClassFile Sem Op Lib Jvm.Free Jvm.Stand Jvm.Pilot.@@N@@.Jvm.D
/-! MADE BY PROGRAM (witnessworld.py) out of the Statement's table words and the real class files: 9 classes; the members and pool entries that the words name. The judged class is class 1, her method 1. -/
namespace start1
open Jvm.ClassFile
def u (s : String) : CpInfo := .utf8 (stringToUtf16 s)
/-- a pool by its gaps: so many unusable entries, then the entry; so many at the end -/
def gap : Nat → List CpInfo → List CpInfo
  | 0, r => r
  | n + 1, r => .unusable :: gap n r
def poolList (es : List (Nat × CpInfo)) (last : Nat) : List CpInfo := es.foldr (fun e r => gap e.1 (e.2 :: r)) (gap last [])
def pool (es : List (Nat × CpInfo)) (last : Nat) : Array CpInfo := ⟨poolList es last⟩
def fileOf (pool : Array CpInfo) (this : Nat) (attrs : Array Attribute := #[]) (ms : Array MethodInfo := #[]) (fl : Nat := 33) (sup : Nat := 0) (ifs : Array Nat := #[]) (fds : Array FieldInfo := #[]) : ClassFile where
  minorVersion := 0
  majorVersion := 65
  constantPool := pool
  accessFlags := fl
  thisClass := this
  superClass := sup
  interfaces := ifs
  fields := fds
  methods := ms
  attributes := attrs
def plain (name : String) (sup : Option ClassId) : Class where
  name := name
  kind := .ordinary
  loader := none
  accessFlags := 33
  super := sup
  interfaces := #[]
  cf := none
  fields := #[]
  methods := #[]
  instanceTypes := #[]
  staticTypes := #[]
  resolved := #[]
  callSites := []
  init := .initialized
  statics := none
  mirror := none

def pool0 : Array CpInfo := pool [(5, u "<init>"), (0, u "()V"), (1, .class_ 10), (1, u "java/lang/Object")] 113

def k0m0 : Method := { name := "<init>", desc := "()V", sig := { parameters := [], returnType := none }, accessFlags := 1, code := none }
/-- java/lang/Object -/
def k0 : Class := { plain "java/lang/Object" none with
  accessFlags := 33
  interfaces := #[]
  cf := some (fileOf pool0 8 #[] #[{ accessFlags := 1, nameIndex := 5, descriptorIndex := 6, attributes := #[] }] 33 0 #[] #[])
  fields := #[]
  methods := #[k0m0]
  instanceTypes := #[]
  staticTypes := #[]
  resolved := Array.replicate 124 none
  statics := none }

def pool1 : Array CpInfo := pool [(2, .class_ 4), (1, u "java/lang/Object"), (0, u "<init>"), (0, u "()V"), (0, .methodref 8 9), (0, .class_ 10), (0, .nameAndType 11 12), (0, u "com/example/forward_ledger/forwardledger/StatementSplitter"), (0, u "isSpace"), (0, u "(C)Z"), (0, .class_ 14), (0, u "com/example/forward_ledger/forwardledger/StatementSplitterIsSpacePinLaw"), (2, u "law"), (0, u "(II)Z")] 3

def k1m0 : Method := { name := "<init>", desc := "()V", sig := { parameters := [], returnType := none }, accessFlags := 2, code := none }
def k1c1 : Code := { maxStack := 2, maxLocals := 4, code := code, exceptionTable := #[], attributes := #[] }
def k1m1 : Method := { name := "law", desc := "(II)Z", sig := { parameters := [.int, .int], returnType := some .boolean }, accessFlags := 9, code := some k1c1 }
/-- com/example/forward_ledger/forwardledger/StatementSplitterIsSpacePinLaw -/
def k1 : Class := { plain "com/example/forward_ledger/forwardledger/StatementSplitterIsSpacePinLaw" (some 0) with
  accessFlags := 49
  interfaces := #[]
  cf := some (fileOf pool1 13 #[] #[{ accessFlags := 2, nameIndex := 5, descriptorIndex := 6, attributes := #[] }, { accessFlags := 9, nameIndex := 17, descriptorIndex := 18, attributes := #[] }] 49 2 #[] #[])
  fields := #[]
  methods := #[k1m0, k1m1]
  instanceTypes := #[]
  staticTypes := #[]
  resolved := Array.replicate 22 none
  statics := none }

def pool2 : Array CpInfo := pool [(2, .class_ 4), (1, u "java/lang/Object"), (0, u "<init>"), (0, u "()V"), (3, .class_ 11), (0, u "com/example/forward_ledger/forwardledger/StatementSplitter$SentText"), (4, .class_ 18), (1, u "com/example/forward_ledger/forwardledger/StatementSplitter"), (17, .class_ 38), (1, u "com/example/forward_ledger/forwardledger/StatementSplitter$Nesting"), (39, .class_ 79), (0, u "com/example/forward_ledger/forwardledger/StatementSplitter$Opening"), (48, u "(C)Z"), (7, u "isSpace")] 75

def k2m0 : Method := { name := "<init>", desc := "()V", sig := { parameters := [], returnType := none }, accessFlags := 0, code := none }
def k2c1 : Code := { maxStack := 2, maxLocals := 1, code := prog_82_method_15_code, exceptionTable := #[], attributes := #[] }
def k2m1 : Method := { name := "isSpace", desc := "(C)Z", sig := { parameters := [.char], returnType := some .boolean }, accessFlags := 12, code := some k2c1 }
/-- com/example/forward_ledger/forwardledger/StatementSplitter -/
def k2 : Class := { plain "com/example/forward_ledger/forwardledger/StatementSplitter" (some 0) with
  accessFlags := 1056
  interfaces := #[]
  cf := some (fileOf pool2 16 #[.nestMembers #[10, 78, 36]] #[{ accessFlags := 0, nameIndex := 5, descriptorIndex := 6, attributes := #[] }, { accessFlags := 12, nameIndex := 136, descriptorIndex := 128, attributes := #[] }] 1056 2 #[] #[])
  fields := #[]
  methods := #[k2m0, k2m1]
  instanceTypes := #[]
  staticTypes := #[]
  resolved := Array.replicate 212 none
  statics := none }

def pool3 : Array CpInfo := pool [(1, u "java/lang/Cloneable"), (0, .class_ 1), (0, u "java/lang/Object"), (0, .class_ 3)] 3

/-- java/lang/Cloneable -/
def k3 : Class := { plain "java/lang/Cloneable" (some 0) with
  accessFlags := 1537
  interfaces := #[]
  cf := some (fileOf pool3 2 #[] #[] 1537 4 #[] #[])
  fields := #[]
  methods := #[]
  instanceTypes := #[]
  staticTypes := #[]
  resolved := Array.replicate 8 none
  statics := none }

def pool4 : Array CpInfo := pool [(1, u "java/io/Serializable"), (0, .class_ 1), (0, u "java/lang/Object"), (0, .class_ 3)] 3

/-- java/io/Serializable -/
def k4 : Class := { plain "java/io/Serializable" (some 0) with
  accessFlags := 1537
  interfaces := #[]
  cf := some (fileOf pool4 2 #[] #[] 1537 4 #[] #[])
  fields := #[]
  methods := #[]
  instanceTypes := #[]
  staticTypes := #[]
  resolved := Array.replicate 8 none
  statics := none }

/-- the primitive byte -/
def k5 : Class := { plain "byte" none with kind := .primitive 'B', accessFlags := 0x411 }
/-- [B -/
def k6 : Class := { plain "[B" (some 0) with kind := .array 5 .byte, interfaces := #[3, 4], accessFlags := 1041 }

/-- the primitive int -/
def k7 : Class := { plain "int" none with kind := .primitive 'I', accessFlags := 0x411 }
/-- [I -/
def k8 : Class := { plain "[I" (some 0) with kind := .array 7 .int, interfaces := #[3, 4], accessFlags := 1041 }

def heap : Heap := #[]
def classes : Array Class := #[k0, k1, k2, k3, k4, k5, k6, k7, k8]
def interned : List (Array UInt16 × Addr) := []
def slotsUsed : Nat := 0
def theMethod : MethodId := ⟨1, 1⟩
def args0 : Array Value := #[.int 5, .int 6]
def aboutOver (below : List Frame) : State where
  vm := { classes := classes, interned := interned.toArray }
  heap := heap
  slotsUsed := slotsUsed
  threads := #[{ frames := .invoking theMethod args0 :: below }]
def below0 : List Frame := [.native { method := ⟨0, 0⟩, args := #[] }]
def about1 : State := aboutOver below0
def p0 : Program := .bare "" "" ""
def e0 : Env := launch0.env 0 0 0
theorem w_frames : about1.frames = Frame.invoking theMethod args0 :: below0 := rfl
set_option maxRecDepth 65536 in
theorem w_args : argsFit about1.vm theMethod args0 = true := by decide +kernel
set_option maxRecDepth 65536 in
theorem w_heap : heapFits about1 = true := by decide +kernel
set_option maxRecDepth 65536 in
theorem w_runnable : about1.curStatus? = some .runnable := by decide +kernel
set_option maxRecDepth 65536 in
theorem w_alone : about1.alone = true := by decide +kernel
set_option maxRecDepth 65536 in
theorem w_named : about1.methodNamed? x = some theMethod := by decide +kernel
set_option maxRecDepth 65536 in
theorem w_hears : about1.hears theMethod below0 = true := by decide +kernel
set_option maxRecDepth 65536 in
theorem w_ripe : about1.ripe theMethod args0 below0 = true := by decide +kernel
theorem w_running : about1.status = .running := rfl
set_option maxRecDepth 65536 in
theorem w_room : about1.hasRoom e0.platform room_1 = true :=
  launch0.hasRoom_least _ room_1 (by decide +kernel) (by decide +kernel) (by decide +kernel) (by decide +kernel) (by decide +kernel) (by decide +kernel)
theorem allAtoms_all (ts : List Jvm.Cond) (a : Array Jvm.Value) (st : Jvm.State) : (allAtoms ts).before a st = ts.all (fun c => c.before a st) := by
  induction ts with
  | nil => rfl
  | cons c t ih =>
    show (Jvm.Cond.and c (allAtoms t)).before a st = _
    rw [Jvm.Cond.before_and, ih, List.all_cons]
def words1 : List Jvm.Cond := Jvm.Cond.code x code maxLocals ret :: tables_1
/-- a 'code' word, met by the world's own term for the bytes: nothing is compared byte by byte -/
theorem code_word {y : MethodName} {bytes : ByteArray} {mx : Nat} {rt : Option FieldType} {a : Array Value} {s : State} {m : MethodId} {meth : Method} {c : Code} (h1 : s.methodNamed? y = some m) (h2 : s.vm.method? m = some meth) (h3 : meth.code = some c) (h4 : c.code = bytes)
    (h5 : (c.maxLocals == mx && c.exceptionTable.isEmpty && decide (c.maxStack ≤ mostOperands) && decide (meth.sig.returnType = rt) && !meth.locks && decide (parseMethodDescriptor y.desc = some meth.sig)) = true) : (Jvm.Cond.code y bytes mx rt).before a s = true := by
  simp only [Bool.and_eq_true, beq_iff_eq, Bool.not_eq_true', decide_eq_true_eq] at h5
  obtain ⟨⟨⟨⟨⟨g1, g2⟩, g3⟩, g4⟩, g5⟩, g6⟩ := h5
  simp [Cond.before, Cond.holds, Cond.value, h1, h2, h3, h4, g1, g2, g3, g4, g5, g6]
def isCode : Jvm.Cond → Bool
  | .code _ _ _ _ => true
  | _ => false
theorem all_split {L : List Jvm.Cond} {P : Jvm.Cond → Bool} (h1 : L.all (fun c => isCode c || P c) = true) (h2 : ∀ c ∈ L.filter isCode, P c = true) : L.all P = true := by
  refine List.all_eq_true.mpr fun c hc => ?_
  have h := List.all_eq_true.mp h1 c hc
  rcases Bool.eq_false_or_eq_true (isCode c) with hi | hi
  · exact h2 c (List.mem_filter.mpr ⟨hc, hi⟩)
  · simpa [hi] using h
set_option maxRecDepth 65536 in
theorem w_c0 : (Jvm.Cond.code x code maxLocals ret).before args0 about1 = true := code_word (m := ⟨1, 1⟩) (meth := k1m1) (c := k1c1) (by decide +kernel) rfl rfl rfl (by decide +kernel)
set_option maxRecDepth 65536 in
theorem w_c1 : (Jvm.Cond.code ({ cls := "com/example/forward_ledger/forwardledger/StatementSplitter", name := "isSpace", desc := "(C)Z" } : Jvm.MethodName) prog_82_method_15_code (1 : Nat) (Option.some Jvm.ClassFile.FieldType.boolean)).before args0 about1 = true := code_word (m := ⟨2, 1⟩) (meth := k2m1) (c := k2c1) (by decide +kernel) rfl rfl rfl (by decide +kernel)
def codes1 : List Jvm.Cond := [Jvm.Cond.code x code maxLocals ret, Jvm.Cond.code ({ cls := "com/example/forward_ledger/forwardledger/StatementSplitter", name := "isSpace", desc := "(C)Z" } : Jvm.MethodName) prog_82_method_15_code (1 : Nat) (Option.some Jvm.ClassFile.FieldType.boolean)]
set_option maxRecDepth 65536 in
theorem codes_eq : words1.filter isCode = codes1 := rfl
theorem w_codes : ∀ c ∈ words1.filter isCode, c.before args0 about1 = true := by
  rw [codes_eq]
  intro c hc
  simp only [codes1, List.mem_cons, List.not_mem_nil, or_false] at hc
  rcases hc with rfl | rfl
  · exact w_c0
  · exact w_c1
set_option maxRecDepth 65536 in
theorem w_t1 : words1.all (fun c => isCode c || c.before args0 about1) = true := by decide +kernel
theorem w_tables : (allAtoms (Jvm.Cond.code x code maxLocals ret :: tables_1)).before args0 about1 = true := by
  rw [allAtoms_all]
  show words1.all (fun c => c.before args0 about1) = true
  refine all_split ?_ w_codes
  rw [w_t1]
set_option maxRecDepth 65536 in
theorem w_case : (Jvm.Cond.and given_1 narrow_1).before args0 about1 = true := by decide +kernel
theorem w_applies : (headSpec (Jvm.Cond.code x code maxLocals ret :: tables_1) room_1).applies x e0.platform about1 = true :=
  (Spec.applies_iff w_frames).mpr ⟨w_running, w_runnable, w_alone, w_named, w_hears, w_ripe, w_room, w_tables⟩
theorem atStart : AtStart classFile x code maxLocals ret World_1 tables_1 room_1 Calls_1 rest_1 Pre_1 launch0 p0 e0 about1 theMethod args0 below0 :=
  ⟨lists_1, trivial, launch0.admits_env _ _ _, launch0.least_env, fairChoices_fair.cas, fairChoices_fair.clock, w_frames, w_args, w_heap, w_applies, trivial, trivial, w_case⟩
end start1
theorem witness_1 : WitnessClaimed_1 := ⟨start1.p0, start1.e0, start1.about1, start1.theMethod, start1.args0, start1.below0, start1.atStart⟩
end Jvm.Pilot.@@N@@
