import JvmDerived
import JvmDerived.Pilot.@@N@@Statement
import JvmDerived.Pilot.@@N@@Code
set_option linter.unusedVariables false
set_option linter.unusedSimpArgs false
namespace Jvm.Pilot.@@N@@
open Jvm Jvm.ClassFile Sem Op Lib Jvm.Free Jvm.Stand Jvm.LawKit Jvm.RoadKit Bundle Jvm.Pilot.@@N@@.Jvm.D
theorem d1_0 : decode method_3_code 0 = .ok (.iload_n 1, 1) := by decide +kernel
theorem d1_1 : decode method_3_code 1 = .ok (.bipush 15, 2) := by decide +kernel
theorem d1_3 : decode method_3_code 3 = .ok (.iand, 1) := by decide +kernel
theorem d1_4 : decode method_3_code 4 = .ok (.istore_n 2, 1) := by decide +kernel
theorem d1_5 : decode method_3_code 5 = .ok (.iload_n 2, 1) := by decide +kernel
theorem d1_6 : decode method_3_code 6 = .ok (.ifCond .ne 5, 3) := by decide +kernel
theorem d1_9 : decode method_3_code 9 = .ok (.iload_n 0, 1) := by decide +kernel
theorem d1_10 : decode method_3_code 10 = .ok (.ireturn, 1) := by decide +kernel
theorem d1_11 : decode method_3_code 11 = .ok (.iload_n 2, 1) := by decide +kernel
theorem d1_12 : decode method_3_code 12 = .ok (.iconst 1, 1) := by decide +kernel
theorem d1_13 : decode method_3_code 13 = .ok (.if_icmp .ne 6, 3) := by decide +kernel
theorem d1_16 : decode method_3_code 16 = .ok (.bipush 32, 2) := by decide +kernel
theorem d1_18 : decode method_3_code 18 = .ok (.ireturn, 1) := by decide +kernel
theorem d1_19 : decode method_3_code 19 = .ok (.iload_n 2, 1) := by decide +kernel
theorem d1_20 : decode method_3_code 20 = .ok (.iconst 2, 1) := by decide +kernel
theorem d1_21 : decode method_3_code 21 = .ok (.if_icmp .ne 6, 3) := by decide +kernel
theorem d1_24 : decode method_3_code 24 = .ok (.bipush 9, 2) := by decide +kernel
theorem d1_26 : decode method_3_code 26 = .ok (.ireturn, 1) := by decide +kernel
theorem d1_27 : decode method_3_code 27 = .ok (.iload_n 2, 1) := by decide +kernel
theorem d1_28 : decode method_3_code 28 = .ok (.iconst 3, 1) := by decide +kernel
theorem d1_29 : decode method_3_code 29 = .ok (.if_icmp .ne 6, 3) := by decide +kernel
theorem d1_32 : decode method_3_code 32 = .ok (.bipush 13, 2) := by decide +kernel
theorem d1_34 : decode method_3_code 34 = .ok (.ireturn, 1) := by decide +kernel
theorem d1_35 : decode method_3_code 35 = .ok (.iload_n 2, 1) := by decide +kernel
theorem d1_36 : decode method_3_code 36 = .ok (.iconst 4, 1) := by decide +kernel
theorem d1_37 : decode method_3_code 37 = .ok (.if_icmp .ne 6, 3) := by decide +kernel
theorem d1_40 : decode method_3_code 40 = .ok (.bipush 10, 2) := by decide +kernel
theorem d1_42 : decode method_3_code 42 = .ok (.ireturn, 1) := by decide +kernel
theorem d1_43 : decode method_3_code 43 = .ok (.iload_n 2, 1) := by decide +kernel
theorem d1_44 : decode method_3_code 44 = .ok (.iconst 5, 1) := by decide +kernel
theorem d1_45 : decode method_3_code 45 = .ok (.if_icmp .ne 6, 3) := by decide +kernel
theorem d1_48 : decode method_3_code 48 = .ok (.bipush 8, 2) := by decide +kernel
theorem d1_50 : decode method_3_code 50 = .ok (.ireturn, 1) := by decide +kernel
theorem d1_51 : decode method_3_code 51 = .ok (.iload_n 2, 1) := by decide +kernel
theorem d1_52 : decode method_3_code 52 = .ok (.bipush 6, 2) := by decide +kernel
theorem d1_54 : decode method_3_code 54 = .ok (.if_icmp .ne 6, 3) := by decide +kernel
theorem d1_57 : decode method_3_code 57 = .ok (.bipush 11, 2) := by decide +kernel
theorem d1_59 : decode method_3_code 59 = .ok (.ireturn, 1) := by decide +kernel
theorem d1_60 : decode method_3_code 60 = .ok (.iload_n 2, 1) := by decide +kernel
theorem d1_61 : decode method_3_code 61 = .ok (.bipush 7, 2) := by decide +kernel
theorem d1_63 : decode method_3_code 63 = .ok (.if_icmp .ne 6, 3) := by decide +kernel
theorem d1_66 : decode method_3_code 66 = .ok (.bipush 12, 2) := by decide +kernel
theorem d1_68 : decode method_3_code 68 = .ok (.ireturn, 1) := by decide +kernel
theorem d1_69 : decode method_3_code 69 = .ok (.iload_n 2, 1) := by decide +kernel
theorem d1_70 : decode method_3_code 70 = .ok (.bipush 8, 2) := by decide +kernel
theorem d1_72 : decode method_3_code 72 = .ok (.if_icmp .ne 6, 3) := by decide +kernel
theorem d1_75 : decode method_3_code 75 = .ok (.bipush 14, 2) := by decide +kernel
theorem d1_77 : decode method_3_code 77 = .ok (.ireturn, 1) := by decide +kernel
theorem d1_78 : decode method_3_code 78 = .ok (.iload_n 2, 1) := by decide +kernel
theorem d1_79 : decode method_3_code 79 = .ok (.bipush 9, 2) := by decide +kernel
theorem d1_81 : decode method_3_code 81 = .ok (.if_icmp .ne 6, 3) := by decide +kernel
theorem d1_84 : decode method_3_code 84 = .ok (.bipush 31, 2) := by decide +kernel
theorem d1_86 : decode method_3_code 86 = .ok (.ireturn, 1) := by decide +kernel
theorem d1_87 : decode method_3_code 87 = .ok (.iload_n 2, 1) := by decide +kernel
theorem d1_88 : decode method_3_code 88 = .ok (.bipush 10, 2) := by decide +kernel
theorem d1_90 : decode method_3_code 90 = .ok (.if_icmp .ne 6, 3) := by decide +kernel
theorem d1_93 : decode method_3_code 93 = .ok (.bipush 33, 2) := by decide +kernel
theorem d1_95 : decode method_3_code 95 = .ok (.ireturn, 1) := by decide +kernel
theorem d1_96 : decode method_3_code 96 = .ok (.iload_n 2, 1) := by decide +kernel
theorem d1_97 : decode method_3_code 97 = .ok (.bipush 11, 2) := by decide +kernel
theorem d1_99 : decode method_3_code 99 = .ok (.if_icmp .ne 5, 3) := by decide +kernel
theorem d1_102 : decode method_3_code 102 = .ok (.iconst (-1), 1) := by decide +kernel
theorem d1_103 : decode method_3_code 103 = .ok (.ireturn, 1) := by decide +kernel
theorem d1_104 : decode method_3_code 104 = .ok (.iload_n 2, 1) := by decide +kernel
theorem d1_105 : decode method_3_code 105 = .ok (.bipush 12, 2) := by decide +kernel
theorem d1_107 : decode method_3_code 107 = .ok (.if_icmp .ne 8, 3) := by decide +kernel
theorem d1_110 : decode method_3_code 110 = .ok (.iload_n 0, 1) := by decide +kernel
theorem d1_111 : decode method_3_code 111 = .ok (.ldc 9, 2) := by decide +kernel
theorem d1_113 : decode method_3_code 113 = .ok (.iand, 1) := by decide +kernel
theorem d1_114 : decode method_3_code 114 = .ok (.ireturn, 1) := by decide +kernel
theorem d1_115 : decode method_3_code 115 = .ok (.iload_n 2, 1) := by decide +kernel
theorem d1_116 : decode method_3_code 116 = .ok (.bipush 13, 2) := by decide +kernel
theorem d1_118 : decode method_3_code 118 = .ok (.if_icmp .ne 9, 3) := by decide +kernel
theorem d1_121 : decode method_3_code 121 = .ok (.iload_n 0, 1) := by decide +kernel
theorem d1_122 : decode method_3_code 122 = .ok (.sipush 255, 3) := by decide +kernel
theorem d1_125 : decode method_3_code 125 = .ok (.iand, 1) := by decide +kernel
theorem d1_126 : decode method_3_code 126 = .ok (.ireturn, 1) := by decide +kernel
theorem d1_127 : decode method_3_code 127 = .ok (.iload_n 2, 1) := by decide +kernel
theorem d1_128 : decode method_3_code 128 = .ok (.bipush 14, 2) := by decide +kernel
theorem d1_130 : decode method_3_code 130 = .ok (.if_icmp .ne 7, 3) := by decide +kernel
theorem d1_133 : decode method_3_code 133 = .ok (.sipush 12288, 3) := by decide +kernel
theorem d1_136 : decode method_3_code 136 = .ok (.ireturn, 1) := by decide +kernel
theorem d1_137 : decode method_3_code 137 = .ok (.sipush 160, 3) := by decide +kernel
theorem d1_140 : decode method_3_code 140 = .ok (.ireturn, 1) := by decide +kernel
theorem pn_1 : plainName "com/example/conceptary/conceptary/EclTextIsBlankPinLaw" = true := by first | (simp [plainName, overriddenIn]; done) | decide +kernel
theorem ef_1 (m : MethodId) (p0 : Int32) (p1 : Int32) : entryFrame m #[(.int p0), (.int p1)] 3 = mkF m 0 #[.val (.int p0), .val (.int p1), .unset] [] := by first | (simp [entryFrame, mkF, argsToLocals, Value.category]; done) | rfl
def b1_0 (p0 : Int32) (p1 : Int32) : Int32 := (if (p1 &&& (15 : Int32)) = (0 : Int32) then p0 else (if (p1 &&& (15 : Int32)) = (1 : Int32) then (32 : Int32) else (if (p1 &&& (15 : Int32)) = (2 : Int32) then (9 : Int32) else (if (p1 &&& (15 : Int32)) = (3 : Int32) then (13 : Int32) else (if (p1 &&& (15 : Int32)) = (4 : Int32) then (10 : Int32) else (if (p1 &&& (15 : Int32)) = (5 : Int32) then (8 : Int32) else (if (p1 &&& (15 : Int32)) = (6 : Int32) then (11 : Int32) else (if (p1 &&& (15 : Int32)) = (7 : Int32) then (12 : Int32) else (if (p1 &&& (15 : Int32)) = (8 : Int32) then (14 : Int32) else (if (p1 &&& (15 : Int32)) = (9 : Int32) then (31 : Int32) else (if (p1 &&& (15 : Int32)) = (10 : Int32) then (33 : Int32) else (if (p1 &&& (15 : Int32)) = (11 : Int32) then (-1 : Int32) else (if (p1 &&& (15 : Int32)) = (12 : Int32) then (p0 &&& (65535 : Int32)) else (if (p1 &&& (15 : Int32)) = (13 : Int32) then (p0 &&& (255 : Int32)) else (if (p1 &&& (15 : Int32)) = (14 : Int32) then (12288 : Int32) else (160 : Int32))))))))))))))))
set_option maxRecDepth 65536 in
set_option maxHeartbeats 40000000 in
theorem bl1_0 {p : Program} {l : Launch} {e : Env} {R : Room} {s : State} {m : MethodId} {args : Array Value} {below : List Frame} {meth : Method} {c : Code} {T : State} {locs : List Loc} {cells slots : Nat} {Z : State} {a0 : Array Value} (p0 : Int32) (p1 : Int32) (X0 : Stand p l e R s m args below meth c T locs cells slots) (hx : p.tables.exec = Jvm.exec) (hZ : Z.Warmed39 s.vm) (hw : ∀ d ∈ tables_1, d.before a0 Z = true) (hby : c.code = method_3_code) (hown : s.vm.findClass "com/example/conceptary/conceptary/EclTextIsBlankPinLaw" = some m.cls) (hrt : meth.sig.returnType = some .int) {fs : List Frame} (hr : ∀ (f : JFrame) (acts : List Action), f.method = m → f.locked = none → f.entered = [] → (doReturn e (T.setTop f) acts (some (.int (b1_0 p0 p1)))).1 = T.setFrames fs) :
    Steps p.tables e below (T.setTop (mkF m 0 #[.val (.int p0), .val (.int p1), .unset] [])) (T.setFrames fs) := by
  refine XS.iloadN X0.here hx rfl (hb hby d1_0) rfl ?_
  show Steps p.tables e below (T.setTop (mkF m 1 #[.val (.int p0), .val (.int p1), .unset] [(.int p1)])) _
  refine XS.bipush X0.here hx rfl (hb hby d1_1) ?_
  show Steps p.tables e below (T.setTop (mkF m 3 #[.val (.int p0), .val (.int p1), .unset] [(.int (15 : Int32)), (.int p1)])) _
  refine XS.iand X0.here hx rfl (hb hby d1_3) rfl ?_
  show Steps p.tables e below (T.setTop (mkF m 4 #[.val (.int p0), .val (.int p1), .unset] [(.int (p1 &&& (15 : Int32)))])) _
  refine XS.istoreN X0.here hx rfl (hb hby d1_4) rfl (l' := #[.val (.int p0), .val (.int p1), .val (.int (p1 &&& (15 : Int32)))]) rfl ?_
  show Steps p.tables e below (T.setTop (mkF m 5 #[.val (.int p0), .val (.int p1), .val (.int (p1 &&& (15 : Int32)))] [])) _
  refine XS.iloadN X0.here hx rfl (hb hby d1_5) rfl ?_
  show Steps p.tables e below (T.setTop (mkF m 6 #[.val (.int p0), .val (.int p1), .val (.int (p1 &&& (15 : Int32)))] [(.int (p1 &&& (15 : Int32)))])) _
  by_cases hc0 : (p1 &&& (15 : Int32)) = (0 : Int32)
  · rw [show b1_0 p0 p1 = p0 from by rw [b1_0, if_pos hc0]] at hr
    refine XS.ifNo X0.here hx rfl (hb hby d1_6) rfl ((if0 _ _).trans (teq hc0).2) ?_
    show Steps p.tables e below (T.setTop (mkF m 9 #[.val (.int p0), .val (.int p1), .val (.int (p1 &&& (15 : Int32)))] [])) _
    refine XS.iloadN X0.here hx rfl (hb hby d1_9) rfl ?_
    show Steps p.tables e below (T.setTop (mkF m 10 #[.val (.int p0), .val (.int p1), .val (.int (p1 &&& (15 : Int32)))] [(.int p0)])) _
    exact retOut X0 hx hrt rfl (Or.inl ⟨rfl, Or.inl rfl, _, rfl⟩) (hb hby d1_10) hr
  · refine XS.ifYes X0.here hx rfl (pc0 := 6) (pc' := 11) rfl (hb hby d1_6) rfl ((if0 _ _).trans (feq hc0).2) (by decide) (by decide) ?_
    show Steps p.tables e below (T.setTop (mkF m 11 #[.val (.int p0), .val (.int p1), .val (.int (p1 &&& (15 : Int32)))] [])) _
    refine XS.iloadN X0.here hx rfl (hb hby d1_11) rfl ?_
    show Steps p.tables e below (T.setTop (mkF m 12 #[.val (.int p0), .val (.int p1), .val (.int (p1 &&& (15 : Int32)))] [(.int (p1 &&& (15 : Int32)))])) _
    refine XS.iconst X0.here hx rfl (hb hby d1_12) ?_
    show Steps p.tables e below (T.setTop (mkF m 13 #[.val (.int p0), .val (.int p1), .val (.int (p1 &&& (15 : Int32)))] [(.int (1 : Int32)), (.int (p1 &&& (15 : Int32)))])) _
    by_cases hc1 : (p1 &&& (15 : Int32)) = (1 : Int32)
    · rw [show b1_0 p0 p1 = (32 : Int32) from by rw [b1_0, if_neg hc0, if_pos hc1]] at hr
      refine XS.icmpNo X0.here hx rfl (hb hby d1_13) rfl (teq hc1).2 ?_
      show Steps p.tables e below (T.setTop (mkF m 16 #[.val (.int p0), .val (.int p1), .val (.int (p1 &&& (15 : Int32)))] [])) _
      refine XS.bipush X0.here hx rfl (hb hby d1_16) ?_
      show Steps p.tables e below (T.setTop (mkF m 18 #[.val (.int p0), .val (.int p1), .val (.int (p1 &&& (15 : Int32)))] [(.int (32 : Int32))])) _
      exact retOut X0 hx hrt rfl (Or.inl ⟨rfl, Or.inl rfl, _, rfl⟩) (hb hby d1_18) hr
    · refine XS.icmpYes X0.here hx rfl (pc0 := 13) (pc' := 19) rfl (hb hby d1_13) rfl (feq hc1).2 (by decide) (by decide) ?_
      show Steps p.tables e below (T.setTop (mkF m 19 #[.val (.int p0), .val (.int p1), .val (.int (p1 &&& (15 : Int32)))] [])) _
      refine XS.iloadN X0.here hx rfl (hb hby d1_19) rfl ?_
      show Steps p.tables e below (T.setTop (mkF m 20 #[.val (.int p0), .val (.int p1), .val (.int (p1 &&& (15 : Int32)))] [(.int (p1 &&& (15 : Int32)))])) _
      refine XS.iconst X0.here hx rfl (hb hby d1_20) ?_
      show Steps p.tables e below (T.setTop (mkF m 21 #[.val (.int p0), .val (.int p1), .val (.int (p1 &&& (15 : Int32)))] [(.int (2 : Int32)), (.int (p1 &&& (15 : Int32)))])) _
      by_cases hc2 : (p1 &&& (15 : Int32)) = (2 : Int32)
      · rw [show b1_0 p0 p1 = (9 : Int32) from by rw [b1_0, if_neg hc0, if_neg hc1, if_pos hc2]] at hr
        refine XS.icmpNo X0.here hx rfl (hb hby d1_21) rfl (teq hc2).2 ?_
        show Steps p.tables e below (T.setTop (mkF m 24 #[.val (.int p0), .val (.int p1), .val (.int (p1 &&& (15 : Int32)))] [])) _
        refine XS.bipush X0.here hx rfl (hb hby d1_24) ?_
        show Steps p.tables e below (T.setTop (mkF m 26 #[.val (.int p0), .val (.int p1), .val (.int (p1 &&& (15 : Int32)))] [(.int (9 : Int32))])) _
        exact retOut X0 hx hrt rfl (Or.inl ⟨rfl, Or.inl rfl, _, rfl⟩) (hb hby d1_26) hr
      · refine XS.icmpYes X0.here hx rfl (pc0 := 21) (pc' := 27) rfl (hb hby d1_21) rfl (feq hc2).2 (by decide) (by decide) ?_
        show Steps p.tables e below (T.setTop (mkF m 27 #[.val (.int p0), .val (.int p1), .val (.int (p1 &&& (15 : Int32)))] [])) _
        refine XS.iloadN X0.here hx rfl (hb hby d1_27) rfl ?_
        show Steps p.tables e below (T.setTop (mkF m 28 #[.val (.int p0), .val (.int p1), .val (.int (p1 &&& (15 : Int32)))] [(.int (p1 &&& (15 : Int32)))])) _
        refine XS.iconst X0.here hx rfl (hb hby d1_28) ?_
        show Steps p.tables e below (T.setTop (mkF m 29 #[.val (.int p0), .val (.int p1), .val (.int (p1 &&& (15 : Int32)))] [(.int (3 : Int32)), (.int (p1 &&& (15 : Int32)))])) _
        by_cases hc3 : (p1 &&& (15 : Int32)) = (3 : Int32)
        · rw [show b1_0 p0 p1 = (13 : Int32) from by rw [b1_0, if_neg hc0, if_neg hc1, if_neg hc2, if_pos hc3]] at hr
          refine XS.icmpNo X0.here hx rfl (hb hby d1_29) rfl (teq hc3).2 ?_
          show Steps p.tables e below (T.setTop (mkF m 32 #[.val (.int p0), .val (.int p1), .val (.int (p1 &&& (15 : Int32)))] [])) _
          refine XS.bipush X0.here hx rfl (hb hby d1_32) ?_
          show Steps p.tables e below (T.setTop (mkF m 34 #[.val (.int p0), .val (.int p1), .val (.int (p1 &&& (15 : Int32)))] [(.int (13 : Int32))])) _
          exact retOut X0 hx hrt rfl (Or.inl ⟨rfl, Or.inl rfl, _, rfl⟩) (hb hby d1_34) hr
        · refine XS.icmpYes X0.here hx rfl (pc0 := 29) (pc' := 35) rfl (hb hby d1_29) rfl (feq hc3).2 (by decide) (by decide) ?_
          show Steps p.tables e below (T.setTop (mkF m 35 #[.val (.int p0), .val (.int p1), .val (.int (p1 &&& (15 : Int32)))] [])) _
          refine XS.iloadN X0.here hx rfl (hb hby d1_35) rfl ?_
          show Steps p.tables e below (T.setTop (mkF m 36 #[.val (.int p0), .val (.int p1), .val (.int (p1 &&& (15 : Int32)))] [(.int (p1 &&& (15 : Int32)))])) _
          refine XS.iconst X0.here hx rfl (hb hby d1_36) ?_
          show Steps p.tables e below (T.setTop (mkF m 37 #[.val (.int p0), .val (.int p1), .val (.int (p1 &&& (15 : Int32)))] [(.int (4 : Int32)), (.int (p1 &&& (15 : Int32)))])) _
          by_cases hc4 : (p1 &&& (15 : Int32)) = (4 : Int32)
          · rw [show b1_0 p0 p1 = (10 : Int32) from by rw [b1_0, if_neg hc0, if_neg hc1, if_neg hc2, if_neg hc3, if_pos hc4]] at hr
            refine XS.icmpNo X0.here hx rfl (hb hby d1_37) rfl (teq hc4).2 ?_
            show Steps p.tables e below (T.setTop (mkF m 40 #[.val (.int p0), .val (.int p1), .val (.int (p1 &&& (15 : Int32)))] [])) _
            refine XS.bipush X0.here hx rfl (hb hby d1_40) ?_
            show Steps p.tables e below (T.setTop (mkF m 42 #[.val (.int p0), .val (.int p1), .val (.int (p1 &&& (15 : Int32)))] [(.int (10 : Int32))])) _
            exact retOut X0 hx hrt rfl (Or.inl ⟨rfl, Or.inl rfl, _, rfl⟩) (hb hby d1_42) hr
          · refine XS.icmpYes X0.here hx rfl (pc0 := 37) (pc' := 43) rfl (hb hby d1_37) rfl (feq hc4).2 (by decide) (by decide) ?_
            show Steps p.tables e below (T.setTop (mkF m 43 #[.val (.int p0), .val (.int p1), .val (.int (p1 &&& (15 : Int32)))] [])) _
            refine XS.iloadN X0.here hx rfl (hb hby d1_43) rfl ?_
            show Steps p.tables e below (T.setTop (mkF m 44 #[.val (.int p0), .val (.int p1), .val (.int (p1 &&& (15 : Int32)))] [(.int (p1 &&& (15 : Int32)))])) _
            refine XS.iconst X0.here hx rfl (hb hby d1_44) ?_
            show Steps p.tables e below (T.setTop (mkF m 45 #[.val (.int p0), .val (.int p1), .val (.int (p1 &&& (15 : Int32)))] [(.int (5 : Int32)), (.int (p1 &&& (15 : Int32)))])) _
            by_cases hc5 : (p1 &&& (15 : Int32)) = (5 : Int32)
            · rw [show b1_0 p0 p1 = (8 : Int32) from by rw [b1_0, if_neg hc0, if_neg hc1, if_neg hc2, if_neg hc3, if_neg hc4, if_pos hc5]] at hr
              refine XS.icmpNo X0.here hx rfl (hb hby d1_45) rfl (teq hc5).2 ?_
              show Steps p.tables e below (T.setTop (mkF m 48 #[.val (.int p0), .val (.int p1), .val (.int (p1 &&& (15 : Int32)))] [])) _
              refine XS.bipush X0.here hx rfl (hb hby d1_48) ?_
              show Steps p.tables e below (T.setTop (mkF m 50 #[.val (.int p0), .val (.int p1), .val (.int (p1 &&& (15 : Int32)))] [(.int (8 : Int32))])) _
              exact retOut X0 hx hrt rfl (Or.inl ⟨rfl, Or.inl rfl, _, rfl⟩) (hb hby d1_50) hr
            · refine XS.icmpYes X0.here hx rfl (pc0 := 45) (pc' := 51) rfl (hb hby d1_45) rfl (feq hc5).2 (by decide) (by decide) ?_
              show Steps p.tables e below (T.setTop (mkF m 51 #[.val (.int p0), .val (.int p1), .val (.int (p1 &&& (15 : Int32)))] [])) _
              refine XS.iloadN X0.here hx rfl (hb hby d1_51) rfl ?_
              show Steps p.tables e below (T.setTop (mkF m 52 #[.val (.int p0), .val (.int p1), .val (.int (p1 &&& (15 : Int32)))] [(.int (p1 &&& (15 : Int32)))])) _
              refine XS.bipush X0.here hx rfl (hb hby d1_52) ?_
              show Steps p.tables e below (T.setTop (mkF m 54 #[.val (.int p0), .val (.int p1), .val (.int (p1 &&& (15 : Int32)))] [(.int (6 : Int32)), (.int (p1 &&& (15 : Int32)))])) _
              by_cases hc6 : (p1 &&& (15 : Int32)) = (6 : Int32)
              · rw [show b1_0 p0 p1 = (11 : Int32) from by rw [b1_0, if_neg hc0, if_neg hc1, if_neg hc2, if_neg hc3, if_neg hc4, if_neg hc5, if_pos hc6]] at hr
                refine XS.icmpNo X0.here hx rfl (hb hby d1_54) rfl (teq hc6).2 ?_
                show Steps p.tables e below (T.setTop (mkF m 57 #[.val (.int p0), .val (.int p1), .val (.int (p1 &&& (15 : Int32)))] [])) _
                refine XS.bipush X0.here hx rfl (hb hby d1_57) ?_
                show Steps p.tables e below (T.setTop (mkF m 59 #[.val (.int p0), .val (.int p1), .val (.int (p1 &&& (15 : Int32)))] [(.int (11 : Int32))])) _
                exact retOut X0 hx hrt rfl (Or.inl ⟨rfl, Or.inl rfl, _, rfl⟩) (hb hby d1_59) hr
              · refine XS.icmpYes X0.here hx rfl (pc0 := 54) (pc' := 60) rfl (hb hby d1_54) rfl (feq hc6).2 (by decide) (by decide) ?_
                show Steps p.tables e below (T.setTop (mkF m 60 #[.val (.int p0), .val (.int p1), .val (.int (p1 &&& (15 : Int32)))] [])) _
                refine XS.iloadN X0.here hx rfl (hb hby d1_60) rfl ?_
                show Steps p.tables e below (T.setTop (mkF m 61 #[.val (.int p0), .val (.int p1), .val (.int (p1 &&& (15 : Int32)))] [(.int (p1 &&& (15 : Int32)))])) _
                refine XS.bipush X0.here hx rfl (hb hby d1_61) ?_
                show Steps p.tables e below (T.setTop (mkF m 63 #[.val (.int p0), .val (.int p1), .val (.int (p1 &&& (15 : Int32)))] [(.int (7 : Int32)), (.int (p1 &&& (15 : Int32)))])) _
                by_cases hc7 : (p1 &&& (15 : Int32)) = (7 : Int32)
                · rw [show b1_0 p0 p1 = (12 : Int32) from by rw [b1_0, if_neg hc0, if_neg hc1, if_neg hc2, if_neg hc3, if_neg hc4, if_neg hc5, if_neg hc6, if_pos hc7]] at hr
                  refine XS.icmpNo X0.here hx rfl (hb hby d1_63) rfl (teq hc7).2 ?_
                  show Steps p.tables e below (T.setTop (mkF m 66 #[.val (.int p0), .val (.int p1), .val (.int (p1 &&& (15 : Int32)))] [])) _
                  refine XS.bipush X0.here hx rfl (hb hby d1_66) ?_
                  show Steps p.tables e below (T.setTop (mkF m 68 #[.val (.int p0), .val (.int p1), .val (.int (p1 &&& (15 : Int32)))] [(.int (12 : Int32))])) _
                  exact retOut X0 hx hrt rfl (Or.inl ⟨rfl, Or.inl rfl, _, rfl⟩) (hb hby d1_68) hr
                · refine XS.icmpYes X0.here hx rfl (pc0 := 63) (pc' := 69) rfl (hb hby d1_63) rfl (feq hc7).2 (by decide) (by decide) ?_
                  show Steps p.tables e below (T.setTop (mkF m 69 #[.val (.int p0), .val (.int p1), .val (.int (p1 &&& (15 : Int32)))] [])) _
                  refine XS.iloadN X0.here hx rfl (hb hby d1_69) rfl ?_
                  show Steps p.tables e below (T.setTop (mkF m 70 #[.val (.int p0), .val (.int p1), .val (.int (p1 &&& (15 : Int32)))] [(.int (p1 &&& (15 : Int32)))])) _
                  refine XS.bipush X0.here hx rfl (hb hby d1_70) ?_
                  show Steps p.tables e below (T.setTop (mkF m 72 #[.val (.int p0), .val (.int p1), .val (.int (p1 &&& (15 : Int32)))] [(.int (8 : Int32)), (.int (p1 &&& (15 : Int32)))])) _
                  by_cases hc8 : (p1 &&& (15 : Int32)) = (8 : Int32)
                  · rw [show b1_0 p0 p1 = (14 : Int32) from by rw [b1_0, if_neg hc0, if_neg hc1, if_neg hc2, if_neg hc3, if_neg hc4, if_neg hc5, if_neg hc6, if_neg hc7, if_pos hc8]] at hr
                    refine XS.icmpNo X0.here hx rfl (hb hby d1_72) rfl (teq hc8).2 ?_
                    show Steps p.tables e below (T.setTop (mkF m 75 #[.val (.int p0), .val (.int p1), .val (.int (p1 &&& (15 : Int32)))] [])) _
                    refine XS.bipush X0.here hx rfl (hb hby d1_75) ?_
                    show Steps p.tables e below (T.setTop (mkF m 77 #[.val (.int p0), .val (.int p1), .val (.int (p1 &&& (15 : Int32)))] [(.int (14 : Int32))])) _
                    exact retOut X0 hx hrt rfl (Or.inl ⟨rfl, Or.inl rfl, _, rfl⟩) (hb hby d1_77) hr
                  · refine XS.icmpYes X0.here hx rfl (pc0 := 72) (pc' := 78) rfl (hb hby d1_72) rfl (feq hc8).2 (by decide) (by decide) ?_
                    show Steps p.tables e below (T.setTop (mkF m 78 #[.val (.int p0), .val (.int p1), .val (.int (p1 &&& (15 : Int32)))] [])) _
                    refine XS.iloadN X0.here hx rfl (hb hby d1_78) rfl ?_
                    show Steps p.tables e below (T.setTop (mkF m 79 #[.val (.int p0), .val (.int p1), .val (.int (p1 &&& (15 : Int32)))] [(.int (p1 &&& (15 : Int32)))])) _
                    refine XS.bipush X0.here hx rfl (hb hby d1_79) ?_
                    show Steps p.tables e below (T.setTop (mkF m 81 #[.val (.int p0), .val (.int p1), .val (.int (p1 &&& (15 : Int32)))] [(.int (9 : Int32)), (.int (p1 &&& (15 : Int32)))])) _
                    by_cases hc9 : (p1 &&& (15 : Int32)) = (9 : Int32)
                    · rw [show b1_0 p0 p1 = (31 : Int32) from by rw [b1_0, if_neg hc0, if_neg hc1, if_neg hc2, if_neg hc3, if_neg hc4, if_neg hc5, if_neg hc6, if_neg hc7, if_neg hc8, if_pos hc9]] at hr
                      refine XS.icmpNo X0.here hx rfl (hb hby d1_81) rfl (teq hc9).2 ?_
                      show Steps p.tables e below (T.setTop (mkF m 84 #[.val (.int p0), .val (.int p1), .val (.int (p1 &&& (15 : Int32)))] [])) _
                      refine XS.bipush X0.here hx rfl (hb hby d1_84) ?_
                      show Steps p.tables e below (T.setTop (mkF m 86 #[.val (.int p0), .val (.int p1), .val (.int (p1 &&& (15 : Int32)))] [(.int (31 : Int32))])) _
                      exact retOut X0 hx hrt rfl (Or.inl ⟨rfl, Or.inl rfl, _, rfl⟩) (hb hby d1_86) hr
                    · refine XS.icmpYes X0.here hx rfl (pc0 := 81) (pc' := 87) rfl (hb hby d1_81) rfl (feq hc9).2 (by decide) (by decide) ?_
                      show Steps p.tables e below (T.setTop (mkF m 87 #[.val (.int p0), .val (.int p1), .val (.int (p1 &&& (15 : Int32)))] [])) _
                      refine XS.iloadN X0.here hx rfl (hb hby d1_87) rfl ?_
                      show Steps p.tables e below (T.setTop (mkF m 88 #[.val (.int p0), .val (.int p1), .val (.int (p1 &&& (15 : Int32)))] [(.int (p1 &&& (15 : Int32)))])) _
                      refine XS.bipush X0.here hx rfl (hb hby d1_88) ?_
                      show Steps p.tables e below (T.setTop (mkF m 90 #[.val (.int p0), .val (.int p1), .val (.int (p1 &&& (15 : Int32)))] [(.int (10 : Int32)), (.int (p1 &&& (15 : Int32)))])) _
                      by_cases hc10 : (p1 &&& (15 : Int32)) = (10 : Int32)
                      · rw [show b1_0 p0 p1 = (33 : Int32) from by rw [b1_0, if_neg hc0, if_neg hc1, if_neg hc2, if_neg hc3, if_neg hc4, if_neg hc5, if_neg hc6, if_neg hc7, if_neg hc8, if_neg hc9, if_pos hc10]] at hr
                        refine XS.icmpNo X0.here hx rfl (hb hby d1_90) rfl (teq hc10).2 ?_
                        show Steps p.tables e below (T.setTop (mkF m 93 #[.val (.int p0), .val (.int p1), .val (.int (p1 &&& (15 : Int32)))] [])) _
                        refine XS.bipush X0.here hx rfl (hb hby d1_93) ?_
                        show Steps p.tables e below (T.setTop (mkF m 95 #[.val (.int p0), .val (.int p1), .val (.int (p1 &&& (15 : Int32)))] [(.int (33 : Int32))])) _
                        exact retOut X0 hx hrt rfl (Or.inl ⟨rfl, Or.inl rfl, _, rfl⟩) (hb hby d1_95) hr
                      · refine XS.icmpYes X0.here hx rfl (pc0 := 90) (pc' := 96) rfl (hb hby d1_90) rfl (feq hc10).2 (by decide) (by decide) ?_
                        show Steps p.tables e below (T.setTop (mkF m 96 #[.val (.int p0), .val (.int p1), .val (.int (p1 &&& (15 : Int32)))] [])) _
                        refine XS.iloadN X0.here hx rfl (hb hby d1_96) rfl ?_
                        show Steps p.tables e below (T.setTop (mkF m 97 #[.val (.int p0), .val (.int p1), .val (.int (p1 &&& (15 : Int32)))] [(.int (p1 &&& (15 : Int32)))])) _
                        refine XS.bipush X0.here hx rfl (hb hby d1_97) ?_
                        show Steps p.tables e below (T.setTop (mkF m 99 #[.val (.int p0), .val (.int p1), .val (.int (p1 &&& (15 : Int32)))] [(.int (11 : Int32)), (.int (p1 &&& (15 : Int32)))])) _
                        by_cases hc11 : (p1 &&& (15 : Int32)) = (11 : Int32)
                        · rw [show b1_0 p0 p1 = (-1 : Int32) from by rw [b1_0, if_neg hc0, if_neg hc1, if_neg hc2, if_neg hc3, if_neg hc4, if_neg hc5, if_neg hc6, if_neg hc7, if_neg hc8, if_neg hc9, if_neg hc10, if_pos hc11]] at hr
                          refine XS.icmpNo X0.here hx rfl (hb hby d1_99) rfl (teq hc11).2 ?_
                          show Steps p.tables e below (T.setTop (mkF m 102 #[.val (.int p0), .val (.int p1), .val (.int (p1 &&& (15 : Int32)))] [])) _
                          refine XS.iconst X0.here hx rfl (hb hby d1_102) ?_
                          show Steps p.tables e below (T.setTop (mkF m 103 #[.val (.int p0), .val (.int p1), .val (.int (p1 &&& (15 : Int32)))] [(.int (-1 : Int32))])) _
                          exact retOut X0 hx hrt rfl (Or.inl ⟨rfl, Or.inl rfl, _, rfl⟩) (hb hby d1_103) hr
                        · refine XS.icmpYes X0.here hx rfl (pc0 := 99) (pc' := 104) rfl (hb hby d1_99) rfl (feq hc11).2 (by decide) (by decide) ?_
                          show Steps p.tables e below (T.setTop (mkF m 104 #[.val (.int p0), .val (.int p1), .val (.int (p1 &&& (15 : Int32)))] [])) _
                          refine XS.iloadN X0.here hx rfl (hb hby d1_104) rfl ?_
                          show Steps p.tables e below (T.setTop (mkF m 105 #[.val (.int p0), .val (.int p1), .val (.int (p1 &&& (15 : Int32)))] [(.int (p1 &&& (15 : Int32)))])) _
                          refine XS.bipush X0.here hx rfl (hb hby d1_105) ?_
                          show Steps p.tables e below (T.setTop (mkF m 107 #[.val (.int p0), .val (.int p1), .val (.int (p1 &&& (15 : Int32)))] [(.int (12 : Int32)), (.int (p1 &&& (15 : Int32)))])) _
                          by_cases hc12 : (p1 &&& (15 : Int32)) = (12 : Int32)
                          · rw [show b1_0 p0 p1 = (p0 &&& (65535 : Int32)) from by rw [b1_0, if_neg hc0, if_neg hc1, if_neg hc2, if_neg hc3, if_neg hc4, if_neg hc5, if_neg hc6, if_neg hc7, if_neg hc8, if_neg hc9, if_neg hc10, if_neg hc11, if_pos hc12]] at hr
                            refine XS.icmpNo X0.here hx rfl (hb hby d1_107) rfl (teq hc12).2 ?_
                            show Steps p.tables e below (T.setTop (mkF m 110 #[.val (.int p0), .val (.int p1), .val (.int (p1 &&& (15 : Int32)))] [])) _
                            refine XS.iloadN X0.here hx rfl (hb hby d1_110) rfl ?_
                            show Steps p.tables e below (T.setTop (mkF m 111 #[.val (.int p0), .val (.int p1), .val (.int (p1 &&& (15 : Int32)))] [(.int p0)])) _
                            refine X0.ldcInt hx hown (mvT hZ (hw _ (List.mem_of_getElem? (i := 12) rfl))) (g := (mkF m 111 #[.val (.int p0), .val (.int p1), .val (.int (p1 &&& (15 : Int32)))] [(.int p0)])) rfl (hb hby d1_111) _ ?_
                            show Steps p.tables e below (T.setTop (mkF m 113 #[.val (.int p0), .val (.int p1), .val (.int (p1 &&& (15 : Int32)))] [(.int (65535 : Int32)), (.int p0)])) _
                            refine XS.iand X0.here hx rfl (hb hby d1_113) rfl ?_
                            show Steps p.tables e below (T.setTop (mkF m 114 #[.val (.int p0), .val (.int p1), .val (.int (p1 &&& (15 : Int32)))] [(.int (p0 &&& (65535 : Int32)))])) _
                            exact retOut X0 hx hrt rfl (Or.inl ⟨rfl, Or.inl rfl, _, rfl⟩) (hb hby d1_114) hr
                          · refine XS.icmpYes X0.here hx rfl (pc0 := 107) (pc' := 115) rfl (hb hby d1_107) rfl (feq hc12).2 (by decide) (by decide) ?_
                            show Steps p.tables e below (T.setTop (mkF m 115 #[.val (.int p0), .val (.int p1), .val (.int (p1 &&& (15 : Int32)))] [])) _
                            refine XS.iloadN X0.here hx rfl (hb hby d1_115) rfl ?_
                            show Steps p.tables e below (T.setTop (mkF m 116 #[.val (.int p0), .val (.int p1), .val (.int (p1 &&& (15 : Int32)))] [(.int (p1 &&& (15 : Int32)))])) _
                            refine XS.bipush X0.here hx rfl (hb hby d1_116) ?_
                            show Steps p.tables e below (T.setTop (mkF m 118 #[.val (.int p0), .val (.int p1), .val (.int (p1 &&& (15 : Int32)))] [(.int (13 : Int32)), (.int (p1 &&& (15 : Int32)))])) _
                            by_cases hc13 : (p1 &&& (15 : Int32)) = (13 : Int32)
                            · rw [show b1_0 p0 p1 = (p0 &&& (255 : Int32)) from by rw [b1_0, if_neg hc0, if_neg hc1, if_neg hc2, if_neg hc3, if_neg hc4, if_neg hc5, if_neg hc6, if_neg hc7, if_neg hc8, if_neg hc9, if_neg hc10, if_neg hc11, if_neg hc12, if_pos hc13]] at hr
                              refine XS.icmpNo X0.here hx rfl (hb hby d1_118) rfl (teq hc13).2 ?_
                              show Steps p.tables e below (T.setTop (mkF m 121 #[.val (.int p0), .val (.int p1), .val (.int (p1 &&& (15 : Int32)))] [])) _
                              refine XS.iloadN X0.here hx rfl (hb hby d1_121) rfl ?_
                              show Steps p.tables e below (T.setTop (mkF m 122 #[.val (.int p0), .val (.int p1), .val (.int (p1 &&& (15 : Int32)))] [(.int p0)])) _
                              refine XS.sipush X0.here hx rfl (hb hby d1_122) ?_
                              show Steps p.tables e below (T.setTop (mkF m 125 #[.val (.int p0), .val (.int p1), .val (.int (p1 &&& (15 : Int32)))] [(.int (255 : Int32)), (.int p0)])) _
                              refine XS.iand X0.here hx rfl (hb hby d1_125) rfl ?_
                              show Steps p.tables e below (T.setTop (mkF m 126 #[.val (.int p0), .val (.int p1), .val (.int (p1 &&& (15 : Int32)))] [(.int (p0 &&& (255 : Int32)))])) _
                              exact retOut X0 hx hrt rfl (Or.inl ⟨rfl, Or.inl rfl, _, rfl⟩) (hb hby d1_126) hr
                            · refine XS.icmpYes X0.here hx rfl (pc0 := 118) (pc' := 127) rfl (hb hby d1_118) rfl (feq hc13).2 (by decide) (by decide) ?_
                              show Steps p.tables e below (T.setTop (mkF m 127 #[.val (.int p0), .val (.int p1), .val (.int (p1 &&& (15 : Int32)))] [])) _
                              refine XS.iloadN X0.here hx rfl (hb hby d1_127) rfl ?_
                              show Steps p.tables e below (T.setTop (mkF m 128 #[.val (.int p0), .val (.int p1), .val (.int (p1 &&& (15 : Int32)))] [(.int (p1 &&& (15 : Int32)))])) _
                              refine XS.bipush X0.here hx rfl (hb hby d1_128) ?_
                              show Steps p.tables e below (T.setTop (mkF m 130 #[.val (.int p0), .val (.int p1), .val (.int (p1 &&& (15 : Int32)))] [(.int (14 : Int32)), (.int (p1 &&& (15 : Int32)))])) _
                              by_cases hc14 : (p1 &&& (15 : Int32)) = (14 : Int32)
                              · rw [show b1_0 p0 p1 = (12288 : Int32) from by rw [b1_0, if_neg hc0, if_neg hc1, if_neg hc2, if_neg hc3, if_neg hc4, if_neg hc5, if_neg hc6, if_neg hc7, if_neg hc8, if_neg hc9, if_neg hc10, if_neg hc11, if_neg hc12, if_neg hc13, if_pos hc14]] at hr
                                refine XS.icmpNo X0.here hx rfl (hb hby d1_130) rfl (teq hc14).2 ?_
                                show Steps p.tables e below (T.setTop (mkF m 133 #[.val (.int p0), .val (.int p1), .val (.int (p1 &&& (15 : Int32)))] [])) _
                                refine XS.sipush X0.here hx rfl (hb hby d1_133) ?_
                                show Steps p.tables e below (T.setTop (mkF m 136 #[.val (.int p0), .val (.int p1), .val (.int (p1 &&& (15 : Int32)))] [(.int (12288 : Int32))])) _
                                exact retOut X0 hx hrt rfl (Or.inl ⟨rfl, Or.inl rfl, _, rfl⟩) (hb hby d1_136) hr
                              · rw [show b1_0 p0 p1 = (160 : Int32) from by rw [b1_0, if_neg hc0, if_neg hc1, if_neg hc2, if_neg hc3, if_neg hc4, if_neg hc5, if_neg hc6, if_neg hc7, if_neg hc8, if_neg hc9, if_neg hc10, if_neg hc11, if_neg hc12, if_neg hc13, if_neg hc14]] at hr
                                refine XS.icmpYes X0.here hx rfl (pc0 := 130) (pc' := 137) rfl (hb hby d1_130) rfl (feq hc14).2 (by decide) (by decide) ?_
                                show Steps p.tables e below (T.setTop (mkF m 137 #[.val (.int p0), .val (.int p1), .val (.int (p1 &&& (15 : Int32)))] [])) _
                                refine XS.sipush X0.here hx rfl (hb hby d1_137) ?_
                                show Steps p.tables e below (T.setTop (mkF m 140 #[.val (.int p0), .val (.int p1), .val (.int (p1 &&& (15 : Int32)))] [(.int (160 : Int32))])) _
                                exact retOut X0 hx hrt rfl (Or.inl ⟨rfl, Or.inl rfl, _, rfl⟩) (hb hby d1_140) hr
def Q1 (Z : State) (p0 : Int32) (p1 : Int32) (h0 : Heap) (n0 : Nat) (v : Option Value) (h : Heap) (L : List Loc) : Prop := v = some (.int (b1_0 p0 p1)) ∧ Fr n0 L ∧ h = h0
set_option maxRecDepth 65536 in
set_option maxHeartbeats 40000000 in
theorem rm1 (l : Launch) (Z : State) (a0 : Array Value) (hw : ∀ d ∈ tables_1, d.before a0 Z = true) (ws : List Jvm.Cond) (p0 : Int32) (p1 : Int32) (h0 : Heap) (n0 : Nat) (Z0 : n0 ≤ h0.size) :
    MetFree l (⟨"com/example/conceptary/conceptary/EclTextIsBlankPinLaw", "pick", "(II)I"⟩ : MethodName) (head1 (Jvm.Cond.code (⟨"com/example/conceptary/conceptary/EclTextIsBlankPinLaw", "pick", "(II)I"⟩ : MethodName) method_3_code 3 (some .int) :: ws) ({ frames := 0, cells := 0, slots := 0, locals := 0 } : Room)) (fun a U => a = #[(.int p0), (.int p1)] ∧ Z.Warmed39 U.vm ∧ U.heap = h0) (fun _ _ _ _ _ => True) (fun _ U o U' => ∃ v L, o = .returned v ∧ Q1 Z p0 p1 h0 n0 v U'.heap L ∧ FrameEnd U o U' L ({ frames := 0, cells := 0, slots := 0, locals := 0 } : Room).cells ({ frames := 0, cells := 0, slots := 0, locals := 0 } : Room).slots) := by
  refine MetFree.of_bodySF (plainFor_of_name pn_1) hisR ?_
  intro p e s m args below meth c s₁ Bd hml0 hP hK
  obtain ⟨rfl, hZ, hh⟩ := hP
  have hx := Bd.exec
  have hby := Bd.bytes
  have hml : c.maxLocals = 3 := hml0
  have hown : s.vm.findClass "com/example/conceptary/conceptary/EclTextIsBlankPinLaw" = some m.cls := findClass_of_methodNamed Bd.named
  have hnm := (name_of_methodNamed Bd.named Bd.method).1
  have X0 : Stand p l e ({ frames := 0, cells := 0, slots := 0, locals := 0 } : Room) s m #[(.int p0), (.int p1)] below meth c s₁ [] 0 0 := Stand.of_body Bd
  have e0 : s₁.heap = h0 := by rw [← hh, Bd.state]; rfl
  have N0 := Fr.nil n0
  have pre0 : ∀ t, Steps p.tables e below (s₁.setTop (mkF m 0 #[.val (.int p0), .val (.int p1), .unset] [])) t → Steps p.tables e below (s₁.setTop (entryFrame m #[(.int p0), (.int p1)] 3)) t := fun t k => castTop (ef_1 m p0 p1) k
  obtain ⟨fs, hr, hrun, hended, hW, hsame⟩ := X0.leave (v := some (.int (b1_0 p0 p1))) (fun h => by rw [Bd.returns] at h; cases h)
  refine ⟨_, _, pre0 _ ?_, hrun, hended, _, _, rfl, ?_, ⟨_, rfl⟩, hW, hsame.mono (by decide) (by decide)⟩
  · exact bl1_0 p0 p1 X0 hx hZ hw hby hown Bd.returns hr
  · show Q1 Z p0 p1 h0 n0 _ s₁.heap _
    rw [e0]
    exact ⟨rfl, N0, rfl⟩
theorem d2_0 : decode prog_20_method_59_code 0 = .ok (.iload_n 0, 1) := by decide +kernel
theorem d2_1 : decode prog_20_method_59_code 1 = .ok (.bipush 32, 2) := by decide +kernel
theorem d2_3 : decode prog_20_method_59_code 3 = .ok (.if_icmp .eq 21, 3) := by decide +kernel
theorem d2_6 : decode prog_20_method_59_code 6 = .ok (.iload_n 0, 1) := by decide +kernel
theorem d2_7 : decode prog_20_method_59_code 7 = .ok (.bipush 9, 2) := by decide +kernel
theorem d2_9 : decode prog_20_method_59_code 9 = .ok (.if_icmp .eq 15, 3) := by decide +kernel
theorem d2_12 : decode prog_20_method_59_code 12 = .ok (.iload_n 0, 1) := by decide +kernel
theorem d2_13 : decode prog_20_method_59_code 13 = .ok (.bipush 13, 2) := by decide +kernel
theorem d2_15 : decode prog_20_method_59_code 15 = .ok (.if_icmp .eq 9, 3) := by decide +kernel
theorem d2_18 : decode prog_20_method_59_code 18 = .ok (.iload_n 0, 1) := by decide +kernel
theorem d2_19 : decode prog_20_method_59_code 19 = .ok (.bipush 10, 2) := by decide +kernel
theorem d2_21 : decode prog_20_method_59_code 21 = .ok (.if_icmp .ne 7, 3) := by decide +kernel
theorem d2_24 : decode prog_20_method_59_code 24 = .ok (.iconst 1, 1) := by decide +kernel
theorem d2_25 : decode prog_20_method_59_code 25 = .ok (.goto 4, 3) := by decide +kernel
theorem d2_28 : decode prog_20_method_59_code 28 = .ok (.iconst 0, 1) := by decide +kernel
theorem d2_29 : decode prog_20_method_59_code 29 = .ok (.ireturn, 1) := by decide +kernel
theorem pn_2 : plainName "com/example/conceptary/conceptary/EclText" = true := by first | (simp [plainName, overriddenIn]; done) | decide +kernel
theorem ef_2 (m : MethodId) (p0 : Int32) : entryFrame m #[(.int p0)] 1 = mkF m 0 #[.val (.int p0)] [] := by first | (simp [entryFrame, mkF, argsToLocals, Value.category]; done) | rfl
def b2_0 (p0 : Int32) : Int32 := (if p0 = (32 : Int32) then (1 : Int32) else (if p0 = (9 : Int32) then (1 : Int32) else (if p0 = (13 : Int32) then (1 : Int32) else (if p0 = (10 : Int32) then (1 : Int32) else (0 : Int32)))))
set_option maxRecDepth 65536 in
set_option maxHeartbeats 40000000 in
theorem bl2_0 {p : Program} {l : Launch} {e : Env} {R : Room} {s : State} {m : MethodId} {args : Array Value} {below : List Frame} {meth : Method} {c : Code} {T : State} {locs : List Loc} {cells slots : Nat} {Z : State} {a0 : Array Value} (p0 : Int32) (X0 : Stand p l e R s m args below meth c T locs cells slots) (hx : p.tables.exec = Jvm.exec) (hZ : Z.Warmed39 s.vm) (hw : ∀ d ∈ tables_1, d.before a0 Z = true) (hby : c.code = prog_20_method_59_code) (hown : s.vm.findClass "com/example/conceptary/conceptary/EclText" = some m.cls) (hrt : meth.sig.returnType = some .boolean) {fs : List Frame} (hr : ∀ (f : JFrame) (acts : List Action), f.method = m → f.locked = none → f.entered = [] → (doReturn e (T.setTop f) acts (some (.int (b2_0 p0)))).1 = T.setFrames fs) :
    Steps p.tables e below (T.setTop (mkF m 0 #[.val (.int p0)] [])) (T.setFrames fs) := by
  refine XS.iloadN X0.here hx rfl (hb hby d2_0) rfl ?_
  show Steps p.tables e below (T.setTop (mkF m 1 #[.val (.int p0)] [(.int p0)])) _
  refine XS.bipush X0.here hx rfl (hb hby d2_1) ?_
  show Steps p.tables e below (T.setTop (mkF m 3 #[.val (.int p0)] [(.int (32 : Int32)), (.int p0)])) _
  by_cases hc0 : p0 = (32 : Int32)
  · rw [show b2_0 p0 = (1 : Int32) from by rw [b2_0, if_pos hc0]] at hr
    refine XS.icmpYes X0.here hx rfl (pc0 := 3) (pc' := 24) rfl (hb hby d2_3) rfl (teq hc0).1 (by decide) (by decide) ?_
    show Steps p.tables e below (T.setTop (mkF m 24 #[.val (.int p0)] [])) _
    refine XS.iconst X0.here hx rfl (hb hby d2_24) ?_
    show Steps p.tables e below (T.setTop (mkF m 25 #[.val (.int p0)] [(.int (1 : Int32))])) _
    refine XS.goto X0.here hx rfl (pc0 := 25) (pc' := 29) rfl (hb hby d2_25) (by decide) (by decide) ?_
    show Steps p.tables e below (T.setTop (mkF m 29 #[.val (.int p0)] [(.int (1 : Int32))])) _
    exact retN X0 hx (t := .boolean) hrt (by simp) (hb hby d2_29) hr
  · refine XS.icmpNo X0.here hx rfl (hb hby d2_3) rfl (feq hc0).1 ?_
    show Steps p.tables e below (T.setTop (mkF m 6 #[.val (.int p0)] [])) _
    refine XS.iloadN X0.here hx rfl (hb hby d2_6) rfl ?_
    show Steps p.tables e below (T.setTop (mkF m 7 #[.val (.int p0)] [(.int p0)])) _
    refine XS.bipush X0.here hx rfl (hb hby d2_7) ?_
    show Steps p.tables e below (T.setTop (mkF m 9 #[.val (.int p0)] [(.int (9 : Int32)), (.int p0)])) _
    by_cases hc1 : p0 = (9 : Int32)
    · rw [show b2_0 p0 = (1 : Int32) from by rw [b2_0, if_neg hc0, if_pos hc1]] at hr
      refine XS.icmpYes X0.here hx rfl (pc0 := 9) (pc' := 24) rfl (hb hby d2_9) rfl (teq hc1).1 (by decide) (by decide) ?_
      show Steps p.tables e below (T.setTop (mkF m 24 #[.val (.int p0)] [])) _
      refine XS.iconst X0.here hx rfl (hb hby d2_24) ?_
      show Steps p.tables e below (T.setTop (mkF m 25 #[.val (.int p0)] [(.int (1 : Int32))])) _
      refine XS.goto X0.here hx rfl (pc0 := 25) (pc' := 29) rfl (hb hby d2_25) (by decide) (by decide) ?_
      show Steps p.tables e below (T.setTop (mkF m 29 #[.val (.int p0)] [(.int (1 : Int32))])) _
      exact retN X0 hx (t := .boolean) hrt (by simp) (hb hby d2_29) hr
    · refine XS.icmpNo X0.here hx rfl (hb hby d2_9) rfl (feq hc1).1 ?_
      show Steps p.tables e below (T.setTop (mkF m 12 #[.val (.int p0)] [])) _
      refine XS.iloadN X0.here hx rfl (hb hby d2_12) rfl ?_
      show Steps p.tables e below (T.setTop (mkF m 13 #[.val (.int p0)] [(.int p0)])) _
      refine XS.bipush X0.here hx rfl (hb hby d2_13) ?_
      show Steps p.tables e below (T.setTop (mkF m 15 #[.val (.int p0)] [(.int (13 : Int32)), (.int p0)])) _
      by_cases hc2 : p0 = (13 : Int32)
      · rw [show b2_0 p0 = (1 : Int32) from by rw [b2_0, if_neg hc0, if_neg hc1, if_pos hc2]] at hr
        refine XS.icmpYes X0.here hx rfl (pc0 := 15) (pc' := 24) rfl (hb hby d2_15) rfl (teq hc2).1 (by decide) (by decide) ?_
        show Steps p.tables e below (T.setTop (mkF m 24 #[.val (.int p0)] [])) _
        refine XS.iconst X0.here hx rfl (hb hby d2_24) ?_
        show Steps p.tables e below (T.setTop (mkF m 25 #[.val (.int p0)] [(.int (1 : Int32))])) _
        refine XS.goto X0.here hx rfl (pc0 := 25) (pc' := 29) rfl (hb hby d2_25) (by decide) (by decide) ?_
        show Steps p.tables e below (T.setTop (mkF m 29 #[.val (.int p0)] [(.int (1 : Int32))])) _
        exact retN X0 hx (t := .boolean) hrt (by simp) (hb hby d2_29) hr
      · refine XS.icmpNo X0.here hx rfl (hb hby d2_15) rfl (feq hc2).1 ?_
        show Steps p.tables e below (T.setTop (mkF m 18 #[.val (.int p0)] [])) _
        refine XS.iloadN X0.here hx rfl (hb hby d2_18) rfl ?_
        show Steps p.tables e below (T.setTop (mkF m 19 #[.val (.int p0)] [(.int p0)])) _
        refine XS.bipush X0.here hx rfl (hb hby d2_19) ?_
        show Steps p.tables e below (T.setTop (mkF m 21 #[.val (.int p0)] [(.int (10 : Int32)), (.int p0)])) _
        by_cases hc3 : p0 = (10 : Int32)
        · rw [show b2_0 p0 = (1 : Int32) from by rw [b2_0, if_neg hc0, if_neg hc1, if_neg hc2, if_pos hc3]] at hr
          refine XS.icmpNo X0.here hx rfl (hb hby d2_21) rfl (teq hc3).2 ?_
          show Steps p.tables e below (T.setTop (mkF m 24 #[.val (.int p0)] [])) _
          refine XS.iconst X0.here hx rfl (hb hby d2_24) ?_
          show Steps p.tables e below (T.setTop (mkF m 25 #[.val (.int p0)] [(.int (1 : Int32))])) _
          refine XS.goto X0.here hx rfl (pc0 := 25) (pc' := 29) rfl (hb hby d2_25) (by decide) (by decide) ?_
          show Steps p.tables e below (T.setTop (mkF m 29 #[.val (.int p0)] [(.int (1 : Int32))])) _
          exact retN X0 hx (t := .boolean) hrt (by simp) (hb hby d2_29) hr
        · rw [show b2_0 p0 = (0 : Int32) from by rw [b2_0, if_neg hc0, if_neg hc1, if_neg hc2, if_neg hc3]] at hr
          refine XS.icmpYes X0.here hx rfl (pc0 := 21) (pc' := 28) rfl (hb hby d2_21) rfl (feq hc3).2 (by decide) (by decide) ?_
          show Steps p.tables e below (T.setTop (mkF m 28 #[.val (.int p0)] [])) _
          refine XS.iconst X0.here hx rfl (hb hby d2_28) ?_
          show Steps p.tables e below (T.setTop (mkF m 29 #[.val (.int p0)] [(.int (0 : Int32))])) _
          exact retN X0 hx (t := .boolean) hrt (by simp) (hb hby d2_29) hr
def Q2 (Z : State) (p0 : Int32) (h0 : Heap) (n0 : Nat) (v : Option Value) (h : Heap) (L : List Loc) : Prop := v = some (.int (b2_0 p0)) ∧ Fr n0 L ∧ h = h0
set_option maxRecDepth 65536 in
set_option maxHeartbeats 40000000 in
theorem rm2 (l : Launch) (Z : State) (a0 : Array Value) (hw : ∀ d ∈ tables_1, d.before a0 Z = true) (ws : List Jvm.Cond) (p0 : Int32) (h0 : Heap) (n0 : Nat) (Z0 : n0 ≤ h0.size) :
    MetFree l (⟨"com/example/conceptary/conceptary/EclText", "isBlank", "(I)Z"⟩ : MethodName) (head1 (Jvm.Cond.code (⟨"com/example/conceptary/conceptary/EclText", "isBlank", "(I)Z"⟩ : MethodName) prog_20_method_59_code 1 (some .boolean) :: ws) ({ frames := 0, cells := 0, slots := 0, locals := 0 } : Room)) (fun a U => a = #[(.int p0)] ∧ Z.Warmed39 U.vm ∧ U.heap = h0) (fun _ _ _ _ _ => True) (fun _ U o U' => ∃ v L, o = .returned v ∧ Q2 Z p0 h0 n0 v U'.heap L ∧ FrameEnd U o U' L ({ frames := 0, cells := 0, slots := 0, locals := 0 } : Room).cells ({ frames := 0, cells := 0, slots := 0, locals := 0 } : Room).slots) := by
  refine MetFree.of_bodySF (plainFor_of_name pn_2) hisR ?_
  intro p e s m args below meth c s₁ Bd hml0 hP hK
  obtain ⟨rfl, hZ, hh⟩ := hP
  have hx := Bd.exec
  have hby := Bd.bytes
  have hml : c.maxLocals = 1 := hml0
  have hown : s.vm.findClass "com/example/conceptary/conceptary/EclText" = some m.cls := findClass_of_methodNamed Bd.named
  have hnm := (name_of_methodNamed Bd.named Bd.method).1
  have X0 : Stand p l e ({ frames := 0, cells := 0, slots := 0, locals := 0 } : Room) s m #[(.int p0)] below meth c s₁ [] 0 0 := Stand.of_body Bd
  have e0 : s₁.heap = h0 := by rw [← hh, Bd.state]; rfl
  have N0 := Fr.nil n0
  have pre0 : ∀ t, Steps p.tables e below (s₁.setTop (mkF m 0 #[.val (.int p0)] [])) t → Steps p.tables e below (s₁.setTop (entryFrame m #[(.int p0)] 1)) t := fun t k => castTop (ef_2 m p0) k
  obtain ⟨fs, hr, hrun, hended, hW, hsame⟩ := X0.leave (v := some (.int (b2_0 p0))) (fun h => by rw [Bd.returns] at h; cases h)
  refine ⟨_, _, pre0 _ ?_, hrun, hended, _, _, rfl, ?_, ⟨_, rfl⟩, hW, hsame.mono (by decide) (by decide)⟩
  · exact bl2_0 p0 X0 hx hZ hw hby hown Bd.returns hr
  · show Q2 Z p0 h0 n0 _ s₁.heap _
    rw [e0]
    exact ⟨rfl, N0, rfl⟩
theorem d3_0 : decode method_2_code 0 = .ok (.iload_n 0, 1) := by decide +kernel
theorem d3_1 : decode method_2_code 1 = .ok (.ifCond .lt 9, 3) := by decide +kernel
theorem d3_4 : decode method_2_code 4 = .ok (.iload_n 0, 1) := by decide +kernel
theorem d3_5 : decode method_2_code 5 = .ok (.bipush 32, 2) := by decide +kernel
theorem d3_7 : decode method_2_code 7 = .ok (.if_icmp .le 5, 3) := by decide +kernel
theorem d3_10 : decode method_2_code 10 = .ok (.iconst 0, 1) := by decide +kernel
theorem d3_11 : decode method_2_code 11 = .ok (.ireturn, 1) := by decide +kernel
theorem d3_12 : decode method_2_code 12 = .ok (.ldc2_w 7, 3) := by decide +kernel
theorem d3_15 : decode method_2_code 15 = .ok (.iload_n 0, 1) := by decide +kernel
theorem d3_16 : decode method_2_code 16 = .ok (.lushr, 1) := by decide +kernel
theorem d3_17 : decode method_2_code 17 = .ok (.lconst 1, 1) := by decide +kernel
theorem d3_18 : decode method_2_code 18 = .ok (.land, 1) := by decide +kernel
theorem d3_19 : decode method_2_code 19 = .ok (.lconst 0, 1) := by decide +kernel
theorem d3_20 : decode method_2_code 20 = .ok (.lcmp, 1) := by decide +kernel
theorem d3_21 : decode method_2_code 21 = .ok (.ifCond .eq 7, 3) := by decide +kernel
theorem d3_24 : decode method_2_code 24 = .ok (.iconst 1, 1) := by decide +kernel
theorem d3_25 : decode method_2_code 25 = .ok (.goto 4, 3) := by decide +kernel
theorem d3_28 : decode method_2_code 28 = .ok (.iconst 0, 1) := by decide +kernel
theorem d3_29 : decode method_2_code 29 = .ok (.ireturn, 1) := by decide +kernel
theorem pn_3 : plainName "com/example/conceptary/conceptary/EclTextIsBlankPinLaw" = true := by first | (simp [plainName, overriddenIn]; done) | decide +kernel
theorem ef_3 (m : MethodId) (p0 : Int32) : entryFrame m #[(.int p0)] 1 = mkF m 0 #[.val (.int p0)] [] := by first | (simp [entryFrame, mkF, argsToLocals, Value.category]; done) | rfl
def b3_0 (p0 : Int32) : Int32 := (if p0 < (0 : Int32) then (0 : Int32) else (if (32 : Int32) < p0 then (0 : Int32) else (if ((((4294977024 : Int64).toUInt64 >>> (p0 &&& 0x3f).toInt64.toUInt64).toInt64) &&& (1 : Int64)) = (0 : Int64) then (0 : Int32) else (1 : Int32))))
set_option maxRecDepth 65536 in
set_option maxHeartbeats 40000000 in
theorem bl3_0 {p : Program} {l : Launch} {e : Env} {R : Room} {s : State} {m : MethodId} {args : Array Value} {below : List Frame} {meth : Method} {c : Code} {T : State} {locs : List Loc} {cells slots : Nat} {Z : State} {a0 : Array Value} (p0 : Int32) (X0 : Stand p l e R s m args below meth c T locs cells slots) (hx : p.tables.exec = Jvm.exec) (hZ : Z.Warmed39 s.vm) (hw : ∀ d ∈ tables_1, d.before a0 Z = true) (hby : c.code = method_2_code) (hown : s.vm.findClass "com/example/conceptary/conceptary/EclTextIsBlankPinLaw" = some m.cls) (hrt : meth.sig.returnType = some .boolean) {fs : List Frame} (hr : ∀ (f : JFrame) (acts : List Action), f.method = m → f.locked = none → f.entered = [] → (doReturn e (T.setTop f) acts (some (.int (b3_0 p0)))).1 = T.setFrames fs) :
    Steps p.tables e below (T.setTop (mkF m 0 #[.val (.int p0)] [])) (T.setFrames fs) := by
  refine XS.iloadN X0.here hx rfl (hb hby d3_0) rfl ?_
  show Steps p.tables e below (T.setTop (mkF m 1 #[.val (.int p0)] [(.int p0)])) _
  by_cases hc0 : p0 < (0 : Int32)
  · rw [show b3_0 p0 = (0 : Int32) from by rw [b3_0, if_pos hc0]] at hr
    refine XS.ifYes X0.here hx rfl (pc0 := 1) (pc' := 10) rfl (hb hby d3_1) rfl ((if0 _ _).trans (tlt hc0).1) (by decide) (by decide) ?_
    show Steps p.tables e below (T.setTop (mkF m 10 #[.val (.int p0)] [])) _
    refine XS.iconst X0.here hx rfl (hb hby d3_10) ?_
    show Steps p.tables e below (T.setTop (mkF m 11 #[.val (.int p0)] [(.int (0 : Int32))])) _
    exact retN X0 hx (t := .boolean) hrt (by simp) (hb hby d3_11) hr
  · refine XS.ifNo X0.here hx rfl (hb hby d3_1) rfl ((if0 _ _).trans (flt hc0).1) ?_
    show Steps p.tables e below (T.setTop (mkF m 4 #[.val (.int p0)] [])) _
    refine XS.iloadN X0.here hx rfl (hb hby d3_4) rfl ?_
    show Steps p.tables e below (T.setTop (mkF m 5 #[.val (.int p0)] [(.int p0)])) _
    refine XS.bipush X0.here hx rfl (hb hby d3_5) ?_
    show Steps p.tables e below (T.setTop (mkF m 7 #[.val (.int p0)] [(.int (32 : Int32)), (.int p0)])) _
    by_cases hc1 : (32 : Int32) < p0
    · rw [show b3_0 p0 = (0 : Int32) from by rw [b3_0, if_neg hc0, if_pos hc1]] at hr
      refine XS.icmpNo X0.here hx rfl (hb hby d3_7) rfl (tlt hc1).2.2.2 ?_
      show Steps p.tables e below (T.setTop (mkF m 10 #[.val (.int p0)] [])) _
      refine XS.iconst X0.here hx rfl (hb hby d3_10) ?_
      show Steps p.tables e below (T.setTop (mkF m 11 #[.val (.int p0)] [(.int (0 : Int32))])) _
      exact retN X0 hx (t := .boolean) hrt (by simp) (hb hby d3_11) hr
    · refine XS.icmpYes X0.here hx rfl (pc0 := 7) (pc' := 12) rfl (hb hby d3_7) rfl (flt hc1).2.2.2 (by decide) (by decide) ?_
      show Steps p.tables e below (T.setTop (mkF m 12 #[.val (.int p0)] [])) _
      refine X0.ldc2Long hx hown (mvT hZ (hw _ (List.mem_of_getElem? (i := 11) rfl))) (g := (mkF m 12 #[.val (.int p0)] [])) rfl (hb hby d3_12) _ ?_
      show Steps p.tables e below (T.setTop (mkF m 15 #[.val (.int p0)] [(.long (4294977024 : Int64))])) _
      refine XS.iloadN X0.here hx rfl (hb hby d3_15) rfl ?_
      show Steps p.tables e below (T.setTop (mkF m 16 #[.val (.int p0)] [(.int p0), (.long (4294977024 : Int64))])) _
      refine XS.lushr X0.here hx rfl (hb hby d3_16) rfl ?_
      show Steps p.tables e below (T.setTop (mkF m 17 #[.val (.int p0)] [(.long (((4294977024 : Int64).toUInt64 >>> (p0 &&& 0x3f).toInt64.toUInt64).toInt64))])) _
      refine XS.lconst X0.here hx rfl (hb hby d3_17) ?_
      show Steps p.tables e below (T.setTop (mkF m 18 #[.val (.int p0)] [(.long (1 : Int64)), (.long (((4294977024 : Int64).toUInt64 >>> (p0 &&& 0x3f).toInt64.toUInt64).toInt64))])) _
      refine XS.land X0.here hx rfl (hb hby d3_18) rfl ?_
      show Steps p.tables e below (T.setTop (mkF m 19 #[.val (.int p0)] [(.long ((((4294977024 : Int64).toUInt64 >>> (p0 &&& 0x3f).toInt64.toUInt64).toInt64) &&& (1 : Int64)))])) _
      refine XS.lconst X0.here hx rfl (hb hby d3_19) ?_
      show Steps p.tables e below (T.setTop (mkF m 20 #[.val (.int p0)] [(.long (0 : Int64)), (.long ((((4294977024 : Int64).toUInt64 >>> (p0 &&& 0x3f).toInt64.toUInt64).toInt64) &&& (1 : Int64)))])) _
      refine XS.lcmp X0.here hx rfl (hb hby d3_20) rfl ?_
      show Steps p.tables e below (T.setTop (mkF m 21 #[.val (.int p0)] [(.int (lcmpW ((((4294977024 : Int64).toUInt64 >>> (p0 &&& 0x3f).toInt64.toUInt64).toInt64) &&& (1 : Int64)) (0 : Int64)))])) _
      by_cases hc2 : ((((4294977024 : Int64).toUInt64 >>> (p0 &&& 0x3f).toInt64.toUInt64).toInt64) &&& (1 : Int64)) = (0 : Int64)
      · rw [show b3_0 p0 = (0 : Int32) from by rw [b3_0, if_neg hc0, if_neg hc1, if_pos hc2]] at hr
        refine XS.ifYes X0.here hx rfl (pc0 := 21) (pc' := 28) rfl (hb hby d3_21) rfl ((if0 _ _).trans (teq ((lw_eq ((((4294977024 : Int64).toUInt64 >>> (p0 &&& 0x3f).toInt64.toUInt64).toInt64) &&& (1 : Int64)) (0 : Int64)).mpr hc2)).1) (by decide) (by decide) ?_
        show Steps p.tables e below (T.setTop (mkF m 28 #[.val (.int p0)] [])) _
        refine XS.iconst X0.here hx rfl (hb hby d3_28) ?_
        show Steps p.tables e below (T.setTop (mkF m 29 #[.val (.int p0)] [(.int (0 : Int32))])) _
        exact retN X0 hx (t := .boolean) hrt (by simp) (hb hby d3_29) hr
      · rw [show b3_0 p0 = (1 : Int32) from by rw [b3_0, if_neg hc0, if_neg hc1, if_neg hc2]] at hr
        refine XS.ifNo X0.here hx rfl (hb hby d3_21) rfl ((if0 _ _).trans (feq (fun q => hc2 ((lw_eq ((((4294977024 : Int64).toUInt64 >>> (p0 &&& 0x3f).toInt64.toUInt64).toInt64) &&& (1 : Int64)) (0 : Int64)).mp q))).1) ?_
        show Steps p.tables e below (T.setTop (mkF m 24 #[.val (.int p0)] [])) _
        refine XS.iconst X0.here hx rfl (hb hby d3_24) ?_
        show Steps p.tables e below (T.setTop (mkF m 25 #[.val (.int p0)] [(.int (1 : Int32))])) _
        refine XS.goto X0.here hx rfl (pc0 := 25) (pc' := 29) rfl (hb hby d3_25) (by decide) (by decide) ?_
        show Steps p.tables e below (T.setTop (mkF m 29 #[.val (.int p0)] [(.int (1 : Int32))])) _
        exact retN X0 hx (t := .boolean) hrt (by simp) (hb hby d3_29) hr
def Q3 (Z : State) (p0 : Int32) (h0 : Heap) (n0 : Nat) (v : Option Value) (h : Heap) (L : List Loc) : Prop := v = some (.int (b3_0 p0)) ∧ Fr n0 L ∧ h = h0
set_option maxRecDepth 65536 in
set_option maxHeartbeats 40000000 in
theorem rm3 (l : Launch) (Z : State) (a0 : Array Value) (hw : ∀ d ∈ tables_1, d.before a0 Z = true) (ws : List Jvm.Cond) (p0 : Int32) (h0 : Heap) (n0 : Nat) (Z0 : n0 ≤ h0.size) :
    MetFree l (⟨"com/example/conceptary/conceptary/EclTextIsBlankPinLaw", "expected", "(I)Z"⟩ : MethodName) (head1 (Jvm.Cond.code (⟨"com/example/conceptary/conceptary/EclTextIsBlankPinLaw", "expected", "(I)Z"⟩ : MethodName) method_2_code 1 (some .boolean) :: ws) ({ frames := 0, cells := 0, slots := 0, locals := 0 } : Room)) (fun a U => a = #[(.int p0)] ∧ Z.Warmed39 U.vm ∧ U.heap = h0) (fun _ _ _ _ _ => True) (fun _ U o U' => ∃ v L, o = .returned v ∧ Q3 Z p0 h0 n0 v U'.heap L ∧ FrameEnd U o U' L ({ frames := 0, cells := 0, slots := 0, locals := 0 } : Room).cells ({ frames := 0, cells := 0, slots := 0, locals := 0 } : Room).slots) := by
  refine MetFree.of_bodySF (plainFor_of_name pn_3) hisR ?_
  intro p e s m args below meth c s₁ Bd hml0 hP hK
  obtain ⟨rfl, hZ, hh⟩ := hP
  have hx := Bd.exec
  have hby := Bd.bytes
  have hml : c.maxLocals = 1 := hml0
  have hown : s.vm.findClass "com/example/conceptary/conceptary/EclTextIsBlankPinLaw" = some m.cls := findClass_of_methodNamed Bd.named
  have hnm := (name_of_methodNamed Bd.named Bd.method).1
  have X0 : Stand p l e ({ frames := 0, cells := 0, slots := 0, locals := 0 } : Room) s m #[(.int p0)] below meth c s₁ [] 0 0 := Stand.of_body Bd
  have e0 : s₁.heap = h0 := by rw [← hh, Bd.state]; rfl
  have N0 := Fr.nil n0
  have pre0 : ∀ t, Steps p.tables e below (s₁.setTop (mkF m 0 #[.val (.int p0)] [])) t → Steps p.tables e below (s₁.setTop (entryFrame m #[(.int p0)] 1)) t := fun t k => castTop (ef_3 m p0) k
  obtain ⟨fs, hr, hrun, hended, hW, hsame⟩ := X0.leave (v := some (.int (b3_0 p0))) (fun h => by rw [Bd.returns] at h; cases h)
  refine ⟨_, _, pre0 _ ?_, hrun, hended, _, _, rfl, ?_, ⟨_, rfl⟩, hW, hsame.mono (by decide) (by decide)⟩
  · exact bl3_0 p0 X0 hx hZ hw hby hown Bd.returns hr
  · show Q3 Z p0 h0 n0 _ s₁.heap _
    rw [e0]
    exact ⟨rfl, N0, rfl⟩
theorem own_eq (c : Int32) : b2_0 c = b3_0 c := by
  by_cases h0 : c < (0 : Int32)
  · have g : ∀ k : Int32, ¬ k < (0 : Int32) → ¬ c = k := fun k hk e => hk (e ▸ h0)
    rw [b2_0, if_neg (g 32 (by decide)), if_neg (g 9 (by decide)), if_neg (g 13 (by decide)), if_neg (g 10 (by decide)), b3_0, if_pos h0]
  · by_cases h1 : (32 : Int32) < c
    · have g : ∀ k : Int32, ¬ (32 : Int32) < k → ¬ c = k := fun k hk e => hk (e ▸ h1)
      rw [b2_0, if_neg (g 32 (by decide)), if_neg (g 9 (by decide)), if_neg (g 13 (by decide)), if_neg (g 10 (by decide)), b3_0, if_neg h0, if_pos h1]
    · have hn : ∀ n : Fin 33, b2_0 (Int32.ofNat n.1) = b3_0 (Int32.ofNat n.1) := by decide +kernel
      have q1 : 0 ≤ c.toInt := by have := h0; rw [Int32.lt_iff_toInt_lt] at this; have e : (0 : Int32).toInt = 0 := by decide
                                  omega
      have q2 : c.toInt ≤ 32 := by have := h1; rw [Int32.lt_iff_toInt_lt] at this; have e : (32 : Int32).toInt = 32 := by decide
                                   omega
      have e : Int32.ofNat c.toInt.toNat = c := Int32.toInt_inj.mp (by rw [Int32.toInt_ofNat_of_lt (by omega)]; omega)
      have q := hn ⟨c.toInt.toNat, by omega⟩
      simp only [e] at q
      exact q
theorem pn_0 : plainName "com/example/conceptary/conceptary/EclTextIsBlankPinLaw" = true := by first | (simp [plainName, overriddenIn]; done) | decide +kernel
theorem ef_0 (m : MethodId) (p0 : Int32) (p1 : Int32) : entryFrame m #[(.int p0), (.int p1)] maxLocals = mkF m 0 #[.val (.int p0), .val (.int p1), .unset, .unset, .unset] [] := by first | (simp [entryFrame, mkF, argsToLocals, Value.category, maxLocals]; done) | rfl
theorem pd_0 : parseMethodDescriptor "(II)I" = some ⟨[.int, .int], some .int⟩ := by decide +kernel
theorem pd_1 : parseMethodDescriptor "(I)Z" = some ⟨[.int], some .boolean⟩ := by decide +kernel
def Q0 (Z : State) (p0 : Int32) (p1 : Int32) (h0 : Heap) (n0 : Nat) (v : Option Value) (h : Heap) (L : List Loc) : Prop := v = some (.int 1) ∧ Fr n0 L
set_option maxRecDepth 65536 in
set_option maxHeartbeats 40000000 in
theorem rm0 (l : Launch) (Z : State) (a0 : Array Value) (hw : ∀ d ∈ tables_1, d.before a0 Z = true) (ws : List Jvm.Cond) (p0 : Int32) (p1 : Int32) (h0 : Heap) (n0 : Nat) (Z0 : n0 ≤ h0.size)  :
    MetFree l x (head1 (Jvm.Cond.code x code maxLocals ret :: ws) room_1) (fun a U => a = #[(.int p0), (.int p1)] ∧ Z.Warmed39 U.vm ∧ U.heap = h0) (fun _ _ _ _ _ => True) (fun _ U o U' => ∃ v L, o = .returned v ∧ Q0 Z p0 p1 h0 n0 v U'.heap L ∧ FrameEnd U o U' L room_1.cells room_1.slots) := by
  refine MetFree.of_bodySF (plainFor_of_name pn_0) hisR ?_
  intro p e s m args below meth c s₁ Bd hml0 hP hK
  obtain ⟨rfl, hZ, hh⟩ := hP
  have hx := Bd.exec
  have hby := Bd.bytes
  have hml : c.maxLocals = 5 := hml0
  have hown : s.vm.findClass "com/example/conceptary/conceptary/EclTextIsBlankPinLaw" = some m.cls := findClass_of_methodNamed Bd.named
  have hnm := (name_of_methodNamed Bd.named Bd.method).1
  have X0 : Stand p l e room_1 s m #[(.int p0), (.int p1)] below meth c s₁ [] 0 0 := Stand.of_body Bd
  have e0 : s₁.heap = h0 := by rw [← hh, Bd.state]; rfl
  have N0 := Fr.nil n0
  have pre0 : ∀ t, Steps p.tables e below (s₁.setTop (mkF m 0 #[.val (.int p0), .val (.int p1), .unset, .unset, .unset] [])) t → Steps p.tables e below (s₁.setTop (entryFrame m #[(.int p0), (.int p1)] maxLocals)) t := fun t k => castTop (ef_0 m p0 p1) k
  obtain ⟨_, _, ⟨T11, L11, k11, n11⟩, -, X11, ⟨Lc11, hQ11, l11, y11, z11⟩, st11⟩ := Jvm.LawKit.callS X0 hx (y := (⟨"com/example/conceptary/conceptary/EclTextIsBlankPinLaw", "pick", "(II)I"⟩ : MethodName)) hown (mvT hZ (hw _ (List.mem_of_getElem? (i := 0) rfl))) (mvT hZ (hw _ (List.mem_of_getElem? (i := 1) rfl))) (mvT hZ (hw _ (List.mem_of_getElem? (i := 2) rfl))) (mvT hZ (hw _ (List.mem_of_getElem? (i := 3) rfl))) (by decide) (backOf (W := 0) (rm1 l Z a0 hw [] p0 p1 h0 n0 Z0) hZ (hw _ (List.mem_of_getElem? (i := 3) rfl)) (hw _ (List.mem_of_getElem? (i := 2) rfl)) (by decide) (by decide)) (g := (mkF m 2 #[.val (.int p0), .val (.int p1), .unset, .unset, .unset] [(.int p1), (.int p0)])) rfl (by rw [hml]; rfl) (argsL := [(.int p0), (.int p1)]) (rest := []) (lenOf pd_0 rfl) rfl (by show 2 * 0 + _ ≤ _; exact Nat.le_of_eq rfl) (hb hby at_2) (fun _ _ => ⟨rfl, e0, (by decide : 0 + 0 ≤ _), (by decide : 0 + 0 ≤ _)⟩)
  dsimp only [Pt.U, Pt.locs, Pt.cells, Pt.slots] at X11 l11 y11 z11 st11 hQ11
  subst l11 y11 z11
  obtain ⟨rfl, Nq11, eh11⟩ := hQ11
  have N11 := Fr.app N0 Nq11
  obtain ⟨_, _, ⟨T12, L12, k12, n12⟩, -, X12, ⟨Lc12, hQ12, l12, y12, z12⟩, st12⟩ := Jvm.LawKit.callS X11 hx (y := (⟨"com/example/conceptary/conceptary/EclText", "isBlank", "(I)Z"⟩ : MethodName)) hown (mvT hZ (hw _ (List.mem_of_getElem? (i := 4) rfl))) (mvT hZ (hw _ (List.mem_of_getElem? (i := 5) rfl))) (mvT hZ (hw _ (List.mem_of_getElem? (i := 6) rfl))) (mvT hZ (hw _ (List.mem_of_getElem? (i := 7) rfl))) (by decide) (backOf (W := 0) (rm2 l Z a0 hw [] (b1_0 p0 p1) h0 n0 Z0) hZ (hw _ (List.mem_of_getElem? (i := 7) rfl)) (hw _ (List.mem_of_getElem? (i := 6) rfl)) (by decide) (by decide)) (g := (mkF m 7 #[.val (.int p0), .val (.int p1), .val (.int (b1_0 p0 p1)), .unset, .unset] [(.int (b1_0 p0 p1))])) rfl (by rw [hml]; rfl) (argsL := [(.int (b1_0 p0 p1))]) (rest := []) (lenOf pd_1 rfl) rfl (by show 2 * 0 + _ ≤ _; exact Nat.le_of_eq rfl) (hb hby at_7) (fun _ _ => ⟨rfl, eh11, (by decide : 0 + 0 ≤ _), (by decide : 0 + 0 ≤ _)⟩)
  dsimp only [Pt.U, Pt.locs, Pt.cells, Pt.slots] at X12 l12 y12 z12 st12 hQ12
  subst l12 y12 z12
  obtain ⟨rfl, Nq12, eh12⟩ := hQ12
  have N12 := Fr.app N11 Nq12
  obtain ⟨_, _, ⟨T13, L13, k13, n13⟩, -, X13, ⟨Lc13, hQ13, l13, y13, z13⟩, st13⟩ := Jvm.LawKit.callS X12 hx (y := (⟨"com/example/conceptary/conceptary/EclTextIsBlankPinLaw", "expected", "(I)Z"⟩ : MethodName)) hown (mvT hZ (hw _ (List.mem_of_getElem? (i := 8) rfl))) (mvT hZ (hw _ (List.mem_of_getElem? (i := 9) rfl))) (mvT hZ (hw _ (List.mem_of_getElem? (i := 2) rfl))) (mvT hZ (hw _ (List.mem_of_getElem? (i := 10) rfl))) (by decide) (backOf (W := 1) (rm3 l Z a0 hw [] (b1_0 p0 p1) h0 n0 Z0) hZ (hw _ (List.mem_of_getElem? (i := 10) rfl)) (hw _ (List.mem_of_getElem? (i := 2) rfl)) (by decide) (by decide)) (g := (mkF m 11 #[.val (.int p0), .val (.int p1), .val (.int (b1_0 p0 p1)), .unset, .unset] [(.int (b1_0 p0 p1)), (.int (b2_0 (b1_0 p0 p1)))])) rfl (by rw [hml]; rfl) (argsL := [(.int (b1_0 p0 p1))]) (rest := [(.int (b2_0 (b1_0 p0 p1)))]) (lenOf pd_1 rfl) rfl (by show 2 * 0 + _ ≤ _; exact Nat.le_of_eq rfl) (hb hby at_11) (fun _ _ => ⟨rfl, eh12, (by decide : 0 + 0 ≤ _), (by decide : 0 + 0 ≤ _)⟩)
  dsimp only [Pt.U, Pt.locs, Pt.cells, Pt.slots] at X13 l13 y13 z13 st13 hQ13
  subst l13 y13 z13
  obtain ⟨rfl, Nq13, eh13⟩ := hQ13
  have N13 := Fr.app N12 Nq13
  obtain ⟨_, _, ⟨T14, L14, k14, n14⟩, -, X14, ⟨Lc14, hQ14, l14, y14, z14⟩, st14⟩ := Jvm.LawKit.callS X13 hx (y := (⟨"com/example/conceptary/conceptary/EclText", "isBlank", "(I)Z"⟩ : MethodName)) hown (mvT hZ (hw _ (List.mem_of_getElem? (i := 4) rfl))) (mvT hZ (hw _ (List.mem_of_getElem? (i := 5) rfl))) (mvT hZ (hw _ (List.mem_of_getElem? (i := 6) rfl))) (mvT hZ (hw _ (List.mem_of_getElem? (i := 7) rfl))) (by decide) (backOf (W := 0) (rm2 l Z a0 hw [] p0 h0 n0 Z0) hZ (hw _ (List.mem_of_getElem? (i := 7) rfl)) (hw _ (List.mem_of_getElem? (i := 6) rfl)) (by decide) (by decide)) (g := (mkF m 24 #[.val (.int p0), .val (.int p1), .val (.int (b1_0 p0 p1)), .val (.int (1 : Int32)), .unset] [(.int p0)])) rfl (by rw [hml]; rfl) (argsL := [(.int p0)]) (rest := []) (lenOf pd_1 rfl) rfl (by show 2 * 0 + _ ≤ _; exact Nat.le_of_eq rfl) (hb hby at_24) (fun _ _ => ⟨rfl, eh13, (by decide : 0 + 0 ≤ _), (by decide : 0 + 0 ≤ _)⟩)
  dsimp only [Pt.U, Pt.locs, Pt.cells, Pt.slots] at X14 l14 y14 z14 st14 hQ14
  subst l14 y14 z14
  obtain ⟨rfl, Nq14, eh14⟩ := hQ14
  have N14 := Fr.app N13 Nq14
  obtain ⟨_, _, ⟨T15, L15, k15, n15⟩, -, X15, ⟨Lc15, hQ15, l15, y15, z15⟩, st15⟩ := Jvm.LawKit.callS X14 hx (y := (⟨"com/example/conceptary/conceptary/EclTextIsBlankPinLaw", "expected", "(I)Z"⟩ : MethodName)) hown (mvT hZ (hw _ (List.mem_of_getElem? (i := 8) rfl))) (mvT hZ (hw _ (List.mem_of_getElem? (i := 9) rfl))) (mvT hZ (hw _ (List.mem_of_getElem? (i := 2) rfl))) (mvT hZ (hw _ (List.mem_of_getElem? (i := 10) rfl))) (by decide) (backOf (W := 1) (rm3 l Z a0 hw [] p0 h0 n0 Z0) hZ (hw _ (List.mem_of_getElem? (i := 10) rfl)) (hw _ (List.mem_of_getElem? (i := 2) rfl)) (by decide) (by decide)) (g := (mkF m 28 #[.val (.int p0), .val (.int p1), .val (.int (b1_0 p0 p1)), .val (.int (1 : Int32)), .unset] [(.int p0), (.int (b2_0 p0))])) rfl (by rw [hml]; rfl) (argsL := [(.int p0)]) (rest := [(.int (b2_0 p0))]) (lenOf pd_1 rfl) rfl (by show 2 * 0 + _ ≤ _; exact Nat.le_of_eq rfl) (hb hby at_28) (fun _ _ => ⟨rfl, eh14, (by decide : 0 + 0 ≤ _), (by decide : 0 + 0 ≤ _)⟩)
  dsimp only [Pt.U, Pt.locs, Pt.cells, Pt.slots] at X15 l15 y15 z15 st15 hQ15
  subst l15 y15 z15
  obtain ⟨rfl, Nq15, eh15⟩ := hQ15
  have N15 := Fr.app N14 Nq15
  obtain ⟨fs, hr, hrun, hended, hW, hsame⟩ := X15.leave (v := some (.int (1 : Int32))) (fun h => by rw [Bd.returns] at h; cases h)
  refine ⟨_, _, pre0 _ ?_, hrun, hended, _, _, rfl, ?_, ⟨_, rfl⟩, hW, hsame.mono (by decide) (by decide)⟩
  · refine XS.iloadN X0.here hx rfl (hb hby at_0) rfl ?_
    show Steps p.tables e below (s₁.setTop (mkF m 1 #[.val (.int p0), .val (.int p1), .unset, .unset, .unset] [(.int p0)])) _
    refine XS.iloadN X0.here hx rfl (hb hby at_1) rfl ?_
    show Steps p.tables e below (s₁.setTop (mkF m 2 #[.val (.int p0), .val (.int p1), .unset, .unset, .unset] [(.int p1), (.int p0)])) _
    refine st11 _ ?_
    show Steps p.tables e below (T11.setTop (mkF m 5 #[.val (.int p0), .val (.int p1), .unset, .unset, .unset] [(.int (b1_0 p0 p1))])) _
    refine XS.istoreN X11.here hx rfl (hb hby at_5) rfl (l' := #[.val (.int p0), .val (.int p1), .val (.int (b1_0 p0 p1)), .unset, .unset]) rfl ?_
    show Steps p.tables e below (T11.setTop (mkF m 6 #[.val (.int p0), .val (.int p1), .val (.int (b1_0 p0 p1)), .unset, .unset] [])) _
    refine XS.iloadN X11.here hx rfl (hb hby at_6) rfl ?_
    show Steps p.tables e below (T11.setTop (mkF m 7 #[.val (.int p0), .val (.int p1), .val (.int (b1_0 p0 p1)), .unset, .unset] [(.int (b1_0 p0 p1))])) _
    refine st12 _ ?_
    show Steps p.tables e below (T12.setTop (mkF m 10 #[.val (.int p0), .val (.int p1), .val (.int (b1_0 p0 p1)), .unset, .unset] [(.int (b2_0 (b1_0 p0 p1)))])) _
    refine XS.iloadN X12.here hx rfl (hb hby at_10) rfl ?_
    show Steps p.tables e below (T12.setTop (mkF m 11 #[.val (.int p0), .val (.int p1), .val (.int (b1_0 p0 p1)), .unset, .unset] [(.int (b1_0 p0 p1)), (.int (b2_0 (b1_0 p0 p1)))])) _
    refine st13 _ ?_
    show Steps p.tables e below (T13.setTop (mkF m 14 #[.val (.int p0), .val (.int p1), .val (.int (b1_0 p0 p1)), .unset, .unset] [(.int (b3_0 (b1_0 p0 p1))), (.int (b2_0 (b1_0 p0 p1)))])) _
    refine XS.icmpNo X13.here hx rfl (hb hby at_14) rfl (teq (own_eq _)).2 ?_
    show Steps p.tables e below (T13.setTop (mkF m 17 #[.val (.int p0), .val (.int p1), .val (.int (b1_0 p0 p1)), .unset, .unset] [])) _
    refine XS.iconst X13.here hx rfl (hb hby at_17) ?_
    show Steps p.tables e below (T13.setTop (mkF m 18 #[.val (.int p0), .val (.int p1), .val (.int (b1_0 p0 p1)), .unset, .unset] [(.int (1 : Int32))])) _
    refine XS.goto X13.here hx rfl (pc0 := 18) (pc' := 22) rfl (hb hby at_18) (by decide) (by decide) ?_
    show Steps p.tables e below (T13.setTop (mkF m 22 #[.val (.int p0), .val (.int p1), .val (.int (b1_0 p0 p1)), .unset, .unset] [(.int (1 : Int32))])) _
    refine XS.istoreN X13.here hx rfl (hb hby at_22) rfl (l' := #[.val (.int p0), .val (.int p1), .val (.int (b1_0 p0 p1)), .val (.int (1 : Int32)), .unset]) rfl ?_
    show Steps p.tables e below (T13.setTop (mkF m 23 #[.val (.int p0), .val (.int p1), .val (.int (b1_0 p0 p1)), .val (.int (1 : Int32)), .unset] [])) _
    refine XS.iloadN X13.here hx rfl (hb hby at_23) rfl ?_
    show Steps p.tables e below (T13.setTop (mkF m 24 #[.val (.int p0), .val (.int p1), .val (.int (b1_0 p0 p1)), .val (.int (1 : Int32)), .unset] [(.int p0)])) _
    refine st14 _ ?_
    show Steps p.tables e below (T14.setTop (mkF m 27 #[.val (.int p0), .val (.int p1), .val (.int (b1_0 p0 p1)), .val (.int (1 : Int32)), .unset] [(.int (b2_0 p0))])) _
    refine XS.iloadN X14.here hx rfl (hb hby at_27) rfl ?_
    show Steps p.tables e below (T14.setTop (mkF m 28 #[.val (.int p0), .val (.int p1), .val (.int (b1_0 p0 p1)), .val (.int (1 : Int32)), .unset] [(.int p0), (.int (b2_0 p0))])) _
    refine st15 _ ?_
    show Steps p.tables e below (T15.setTop (mkF m 31 #[.val (.int p0), .val (.int p1), .val (.int (b1_0 p0 p1)), .val (.int (1 : Int32)), .unset] [(.int (b3_0 p0)), (.int (b2_0 p0))])) _
    refine XS.icmpNo X15.here hx rfl (hb hby at_31) rfl (teq (own_eq _)).2 ?_
    show Steps p.tables e below (T15.setTop (mkF m 34 #[.val (.int p0), .val (.int p1), .val (.int (b1_0 p0 p1)), .val (.int (1 : Int32)), .unset] [])) _
    refine XS.iconst X15.here hx rfl (hb hby at_34) ?_
    show Steps p.tables e below (T15.setTop (mkF m 35 #[.val (.int p0), .val (.int p1), .val (.int (b1_0 p0 p1)), .val (.int (1 : Int32)), .unset] [(.int (1 : Int32))])) _
    refine XS.goto X15.here hx rfl (pc0 := 35) (pc' := 39) rfl (hb hby at_35) (by decide) (by decide) ?_
    show Steps p.tables e below (T15.setTop (mkF m 39 #[.val (.int p0), .val (.int p1), .val (.int (b1_0 p0 p1)), .val (.int (1 : Int32)), .unset] [(.int (1 : Int32))])) _
    refine XS.istore X15.here hx rfl (hb hby at_39) rfl (l' := #[.val (.int p0), .val (.int p1), .val (.int (b1_0 p0 p1)), .val (.int (1 : Int32)), .val (.int (1 : Int32))]) rfl ?_
    show Steps p.tables e below (T15.setTop (mkF m 41 #[.val (.int p0), .val (.int p1), .val (.int (b1_0 p0 p1)), .val (.int (1 : Int32)), .val (.int (1 : Int32))] [])) _
    refine XS.iloadN X15.here hx rfl (hb hby at_41) rfl ?_
    show Steps p.tables e below (T15.setTop (mkF m 42 #[.val (.int p0), .val (.int p1), .val (.int (b1_0 p0 p1)), .val (.int (1 : Int32)), .val (.int (1 : Int32))] [(.int (1 : Int32))])) _
    refine XS.ifNo X15.here hx rfl (hb hby at_42) rfl ((if0 _ _).trans (feq (by decide : ¬ ((1 : Int32) = (0 : Int32)))).1) ?_
    show Steps p.tables e below (T15.setTop (mkF m 45 #[.val (.int p0), .val (.int p1), .val (.int (b1_0 p0 p1)), .val (.int (1 : Int32)), .val (.int (1 : Int32))] [])) _
    refine XS.iload X15.here hx rfl (hb hby at_45) rfl ?_
    show Steps p.tables e below (T15.setTop (mkF m 47 #[.val (.int p0), .val (.int p1), .val (.int (b1_0 p0 p1)), .val (.int (1 : Int32)), .val (.int (1 : Int32))] [(.int (1 : Int32))])) _
    refine XS.ifNo X15.here hx rfl (hb hby at_47) rfl ((if0 _ _).trans (feq (by decide : ¬ ((1 : Int32) = (0 : Int32)))).1) ?_
    show Steps p.tables e below (T15.setTop (mkF m 50 #[.val (.int p0), .val (.int p1), .val (.int (b1_0 p0 p1)), .val (.int (1 : Int32)), .val (.int (1 : Int32))] [])) _
    refine XS.iconst X15.here hx rfl (hb hby at_50) ?_
    show Steps p.tables e below (T15.setTop (mkF m 51 #[.val (.int p0), .val (.int p1), .val (.int (b1_0 p0 p1)), .val (.int (1 : Int32)), .val (.int (1 : Int32))] [(.int (1 : Int32))])) _
    refine XS.goto X15.here hx rfl (pc0 := 51) (pc' := 55) rfl (hb hby at_51) (by decide) (by decide) ?_
    show Steps p.tables e below (T15.setTop (mkF m 55 #[.val (.int p0), .val (.int p1), .val (.int (b1_0 p0 p1)), .val (.int (1 : Int32)), .val (.int (1 : Int32))] [(.int (1 : Int32))])) _
    exact retN X15 hx (t := .boolean) Bd.returns (by simp) (hb hby at_55) hr
  · show Q0 Z p0 p1 h0 n0 _ T15.heap _
    rw [eh15]
    exact ⟨rfl, N15⟩
set_option maxRecDepth 65536 in
set_option maxHeartbeats 40000000 in
theorem comes_1 {Post : Tables → Env → Array Value → State → Outcome → State → Prop} (hpost : ∀ tb e args s v u, (limb_1_1.after args s (.returned v) u = true ∧ limb_1_2.after args s (.returned v) u = true ∧ True) → FrameEnd s (.returned v) u (Jvm.fieldLocs frame_1_writes args s ++ Jvm.arrayLocs frame_1_arrays args s ++ Jvm.staticLocs frame_1_statics s) 0 0 → Post tb e args s (.returned v) u) :
    ArmFor flags0 classFile x code maxLocals ret World_1 tables_1 room_1 Calls_1 rest_1 Pre_1 Post := by
  intro l hfl _ _ p e ha hc hk s m args below hf hA hF happ hP
  obtain ⟨hcalls, hrest, hpre⟩ := hP
  obtain ⟨-, -, -, hnamed, -, -, -, hat⟩ := (Spec.applies_iff hf).mp happ
  obtain ⟨hg, hn⟩ := and_e (Cond.before_iff.mp (show (Jvm.Cond.and given_1 narrow_1).before args s = true from hpre))
  obtain ⟨g1, g2⟩ := and_e hg
  obtain ⟨g3, g4⟩ := and_e g2
  obtain ⟨w0, w1, rfl⟩ : ∃ w0 w1 : Value, args = #[w0, w1] := by
    have hs : args.size = 2 := by simpa [Cond.value, given_1] using g1
    obtain ⟨L⟩ := args
    match L, hs with
    | [w0, w1], _ => exact ⟨w0, w1, rfl⟩
  have hw := fun d (hd : d ∈ tables_1) => atoms_spec (ws := Jvm.Cond.code x code maxLocals ret :: tables_1) hat d (List.mem_cons_of_mem _ hd)
  obtain ⟨i0, ei0⟩ := is_v g3
  obtain rfl : w0 = (.int i0) := Option.some.inj ei0
  obtain ⟨i1, ei1⟩ := is_v g4
  obtain rfl : w1 = (.int i1) := Option.some.inj ei1
  obtain ⟨n, o, h1, h2, h3, _, L, rfl, ⟨rfl, N⟩, hq⟩ := rm0 l s _ hw tables_1 i0 i1 s.heap s.heap.size (Nat.le_refl _) p e ha hc hk s m _ below hf ((Spec.applies_iff_loose hf).mp happ).1 ⟨rfl, State.Warmed39.refl s, rfl⟩ trivial
  refine ⟨n, _, h1, h2, h3, hpost _ _ _ _ _ _ ⟨Cond.after_iff.mpr rfl, Cond.after_iff.mpr (eq_i res_at (Term.int_eval (1)) rfl), trivial⟩ ⟨hq.1, hq.2.1, (hq.2.2.sift fun y hy => Or.inr (N y hy)).mono (by decide) (by decide)⟩⟩
theorem main_1_1 : Claimed_1_1 := comes_1 fun _ _ _ _ _ _ h hF => ⟨h.1, hF⟩
theorem main_1_2 : Claimed_1_2 := comes_1 fun _ _ _ _ _ _ h hF => ⟨h.2.1, hF⟩
end Jvm.Pilot.@@N@@
namespace Jvm.Pilot.@@N@@
open Jvm Jvm.ClassFile Sem Op Lib Jvm.Free Jvm.Stand Jvm.Pilot.@@N@@.Jvm.D
/-! MADE BY PROGRAM (witnessworld.py) out of the Statement's table words and the real class files: 9 classes; the members and pool entries that the words name. The judged class is class 1, her method 3. -/
namespace start1
open Jvm.ClassFile
def u (s : String) : CpInfo := .utf8 (stringToUtf16 s)
/-- a pool by its gaps: so many unusable entries, then the entry; so many at the end -/
def gap : Nat → List CpInfo → List CpInfo
  | 0, r => r
  | n + 1, r => .unusable :: gap n r
def poolList (es : List (Nat × CpInfo)) (last : Nat) : List CpInfo := es.foldr (fun e r => gap e.1 (e.2 :: r)) (gap last [])
def pool (es : List (Nat × CpInfo)) (last : Nat) : Array CpInfo := ⟨poolList es last⟩
def fileOf (pool : Array CpInfo) (this : Nat) (attrs : Array Attribute := #[]) (ms : Array MethodInfo := #[]) (fl : Nat := 33) (sup : Nat := 0) (ifs : Array Nat := #[]) (fds : Array FieldInfo := #[]) : ClassFile where
  minorVersion := 0
  majorVersion := 65
  constantPool := pool
  accessFlags := fl
  thisClass := this
  superClass := sup
  interfaces := ifs
  fields := fds
  methods := ms
  attributes := attrs
def plain (name : String) (sup : Option ClassId) : Class where
  name := name
  kind := .ordinary
  loader := none
  accessFlags := 33
  super := sup
  interfaces := #[]
  cf := none
  fields := #[]
  methods := #[]
  instanceTypes := #[]
  staticTypes := #[]
  resolved := #[]
  callSites := []
  init := .initialized
  statics := none
  mirror := none

def pool0 : Array CpInfo := pool [(5, u "<init>"), (0, u "()V"), (1, .class_ 10), (1, u "java/lang/Object")] 113

def k0m0 : Method := { name := "<init>", desc := "()V", sig := { parameters := [], returnType := none }, accessFlags := 1, code := none }
/-- java/lang/Object -/
def k0 : Class := { plain "java/lang/Object" none with
  accessFlags := 33
  interfaces := #[]
  cf := some (fileOf pool0 8 #[] #[{ accessFlags := 1, nameIndex := 5, descriptorIndex := 6, attributes := #[] }] 33 0 #[] #[])
  fields := #[]
  methods := #[k0m0]
  instanceTypes := #[]
  staticTypes := #[]
  resolved := Array.replicate 124 none
  statics := none }

def pool1 : Array CpInfo := pool [(2, .class_ 4), (1, u "java/lang/Object"), (0, u "<init>"), (0, u "()V"), (0, .long 4294977024), (1, .integer 65535), (0, .methodref 11 12), (0, .class_ 13), (0, .nameAndType 14 15), (0, u "com/example/conceptary/conceptary/EclTextIsBlankPinLaw"), (0, u "pick"), (0, u "(II)I"), (0, .methodref 17 18), (0, .class_ 19), (0, .nameAndType 20 21), (0, u "com/example/conceptary/conceptary/EclText"), (0, u "isBlank"), (0, u "(I)Z"), (0, .methodref 11 23), (0, .nameAndType 24 21), (0, u "expected"), (3, u "law"), (0, u "(II)Z")] 2

def k1m0 : Method := { name := "<init>", desc := "()V", sig := { parameters := [], returnType := none }, accessFlags := 1, code := none }
def k1c1 : Code := { maxStack := 4, maxLocals := 1, code := method_2_code, exceptionTable := #[], attributes := #[] }
def k1m1 : Method := { name := "expected", desc := "(I)Z", sig := { parameters := [.int], returnType := some .boolean }, accessFlags := 10, code := some k1c1 }
def k1c2 : Code := { maxStack := 2, maxLocals := 3, code := method_3_code, exceptionTable := #[], attributes := #[] }
def k1m2 : Method := { name := "pick", desc := "(II)I", sig := { parameters := [.int, .int], returnType := some .int }, accessFlags := 10, code := some k1c2 }
def k1c3 : Code := { maxStack := 2, maxLocals := 5, code := code, exceptionTable := #[], attributes := #[] }
def k1m3 : Method := { name := "law", desc := "(II)Z", sig := { parameters := [.int, .int], returnType := some .boolean }, accessFlags := 9, code := some k1c3 }
/-- com/example/conceptary/conceptary/EclTextIsBlankPinLaw -/
def k1 : Class := { plain "com/example/conceptary/conceptary/EclTextIsBlankPinLaw" (some 0) with
  accessFlags := 49
  interfaces := #[]
  cf := some (fileOf pool1 11 #[] #[{ accessFlags := 1, nameIndex := 5, descriptorIndex := 6, attributes := #[] }, { accessFlags := 10, nameIndex := 24, descriptorIndex := 21, attributes := #[] }, { accessFlags := 10, nameIndex := 14, descriptorIndex := 15, attributes := #[] }, { accessFlags := 9, nameIndex := 28, descriptorIndex := 29, attributes := #[] }] 49 2 #[] #[])
  fields := #[]
  methods := #[k1m0, k1m1, k1m2, k1m3]
  instanceTypes := #[]
  staticTypes := #[]
  resolved := Array.replicate 32 none
  statics := none }

def pool2 : Array CpInfo := pool [(2, .class_ 4), (1, u "java/lang/Object"), (6, .class_ 13), (1, u "com/example/conceptary/conceptary/EclText"), (0, u "reached"), (0, u "Ljava/util/Map;"), (2, u "text"), (0, u "Ljava/lang/String;"), (2, u "at"), (0, u "I"), (23, u "(I)Z"), (83, u "isBlank"), (15, u "COMMENT"), (0, u "Ljava/util/List;"), (97, .class_ 248), (1, u "com/example/conceptary/conceptary/EclText$Follow"), (59, u "SEARCH_KEYWORDS"), (107, .class_ 418), (1, u "com/example/conceptary/conceptary/EclText$Reader")] 153

def k2c0 : Code := { maxStack := 2, maxLocals := 1, code := prog_20_method_59_code, exceptionTable := #[], attributes := #[] }
def k2m0 : Method := { name := "isBlank", desc := "(I)Z", sig := { parameters := [.int], returnType := some .boolean }, accessFlags := 8, code := some k2c0 }
/-- com/example/conceptary/conceptary/EclText -/
def k2 : Class := { plain "com/example/conceptary/conceptary/EclText" (some 0) with
  accessFlags := 48
  interfaces := #[]
  cf := some (fileOf pool2 11 #[.nestMembers #[416, 246]] #[{ accessFlags := 8, nameIndex := 131, descriptorIndex := 47, attributes := #[] }] 48 2 #[] #[{ accessFlags := 26, nameIndex := 308, descriptorIndex := 148, attributes := #[] }, { accessFlags := 26, nameIndex := 147, descriptorIndex := 148, attributes := #[] }, { accessFlags := 18, nameIndex := 18, descriptorIndex := 19, attributes := #[] }, { accessFlags := 2, nameIndex := 22, descriptorIndex := 23, attributes := #[] }, { accessFlags := 18, nameIndex := 14, descriptorIndex := 15, attributes := #[] }])
  fields := #[{ name := "SEARCH_KEYWORDS", type := (.object "java/util/List"), accessFlags := 26, slot := 0, constantValue := 0 }, { name := "COMMENT", type := (.object "java/util/List"), accessFlags := 26, slot := 1, constantValue := 0 }, { name := "text", type := (.object "java/lang/String"), accessFlags := 18, slot := 0, constantValue := 0 }, { name := "at", type := .int, accessFlags := 2, slot := 1, constantValue := 0 }, { name := "reached", type := (.object "java/util/Map"), accessFlags := 18, slot := 2, constantValue := 0 }]
  methods := #[k2m0]
  instanceTypes := #[(.object "java/lang/String"), .int, (.object "java/util/Map")]
  staticTypes := #[(.object "java/util/List"), (.object "java/util/List")]
  resolved := Array.replicate 572 none
  statics := none }

def pool3 : Array CpInfo := pool [(1, u "java/lang/Cloneable"), (0, .class_ 1), (0, u "java/lang/Object"), (0, .class_ 3)] 3

/-- java/lang/Cloneable -/
def k3 : Class := { plain "java/lang/Cloneable" (some 0) with
  accessFlags := 1537
  interfaces := #[]
  cf := some (fileOf pool3 2 #[] #[] 1537 4 #[] #[])
  fields := #[]
  methods := #[]
  instanceTypes := #[]
  staticTypes := #[]
  resolved := Array.replicate 8 none
  statics := none }

def pool4 : Array CpInfo := pool [(1, u "java/io/Serializable"), (0, .class_ 1), (0, u "java/lang/Object"), (0, .class_ 3)] 3

/-- java/io/Serializable -/
def k4 : Class := { plain "java/io/Serializable" (some 0) with
  accessFlags := 1537
  interfaces := #[]
  cf := some (fileOf pool4 2 #[] #[] 1537 4 #[] #[])
  fields := #[]
  methods := #[]
  instanceTypes := #[]
  staticTypes := #[]
  resolved := Array.replicate 8 none
  statics := none }

/-- the primitive byte -/
def k5 : Class := { plain "byte" none with kind := .primitive 'B', accessFlags := 0x411 }
/-- [B -/
def k6 : Class := { plain "[B" (some 0) with kind := .array 5 .byte, interfaces := #[3, 4], accessFlags := 1041 }

/-- the primitive int -/
def k7 : Class := { plain "int" none with kind := .primitive 'I', accessFlags := 0x411 }
/-- [I -/
def k8 : Class := { plain "[I" (some 0) with kind := .array 7 .int, interfaces := #[3, 4], accessFlags := 1041 }

def heap : Heap := #[]
def classes : Array Class := #[k0, k1, k2, k3, k4, k5, k6, k7, k8]
def interned : List (Array UInt16 × Addr) := []
def slotsUsed : Nat := 0
def theMethod : MethodId := ⟨1, 3⟩
def args0 : Array Value := #[.int 5, .int 6]
def aboutOver (below : List Frame) : State where
  vm := { classes := classes, interned := interned.toArray }
  heap := heap
  slotsUsed := slotsUsed
  threads := #[{ frames := .invoking theMethod args0 :: below }]
def below0 : List Frame := [.native { method := ⟨0, 0⟩, args := #[] }]
def about1 : State := aboutOver below0
def p0 : Program := .bare "" "" ""
def e0 : Env := launch0.env 0 0 0
theorem w_frames : about1.frames = Frame.invoking theMethod args0 :: below0 := rfl
set_option maxRecDepth 65536 in
theorem w_args : argsFit about1.vm theMethod args0 = true := by decide +kernel
set_option maxRecDepth 65536 in
theorem w_heap : heapFits about1 = true := by decide +kernel
set_option maxRecDepth 65536 in
theorem w_runnable : about1.curStatus? = some .runnable := by decide +kernel
set_option maxRecDepth 65536 in
theorem w_alone : about1.alone = true := by decide +kernel
set_option maxRecDepth 65536 in
theorem w_named : about1.methodNamed? x = some theMethod := by decide +kernel
set_option maxRecDepth 65536 in
theorem w_hears : about1.hears theMethod below0 = true := by decide +kernel
set_option maxRecDepth 65536 in
theorem w_ripe : about1.ripe theMethod args0 below0 = true := by decide +kernel
theorem w_running : about1.status = .running := rfl
set_option maxRecDepth 65536 in
theorem w_room : about1.hasRoom e0.platform room_1 = true :=
  launch0.hasRoom_least _ room_1 (by decide +kernel) (by decide +kernel) (by decide +kernel) (by decide +kernel) (by decide +kernel) (by decide +kernel)
theorem allAtoms_all (ts : List Jvm.Cond) (a : Array Jvm.Value) (st : Jvm.State) : (allAtoms ts).before a st = ts.all (fun c => c.before a st) := by
  induction ts with
  | nil => rfl
  | cons c t ih =>
    show (Jvm.Cond.and c (allAtoms t)).before a st = _
    rw [Jvm.Cond.before_and, ih, List.all_cons]
def words1 : List Jvm.Cond := Jvm.Cond.code x code maxLocals ret :: tables_1
/-- a 'code' word, met by the world's own term for the bytes: nothing is compared byte by byte -/
theorem code_word {y : MethodName} {bytes : ByteArray} {mx : Nat} {rt : Option FieldType} {a : Array Value} {s : State} {m : MethodId} {meth : Method} {c : Code} (h1 : s.methodNamed? y = some m) (h2 : s.vm.method? m = some meth) (h3 : meth.code = some c) (h4 : c.code = bytes)
    (h5 : (c.maxLocals == mx && c.exceptionTable.isEmpty && decide (c.maxStack ≤ mostOperands) && decide (meth.sig.returnType = rt) && !meth.locks && decide (parseMethodDescriptor y.desc = some meth.sig)) = true) : (Jvm.Cond.code y bytes mx rt).before a s = true := by
  simp only [Bool.and_eq_true, beq_iff_eq, Bool.not_eq_true', decide_eq_true_eq] at h5
  obtain ⟨⟨⟨⟨⟨g1, g2⟩, g3⟩, g4⟩, g5⟩, g6⟩ := h5
  simp [Cond.before, Cond.holds, Cond.value, h1, h2, h3, h4, g1, g2, g3, g4, g5, g6]
def isCode : Jvm.Cond → Bool
  | .code _ _ _ _ => true
  | _ => false
theorem all_split {L : List Jvm.Cond} {P : Jvm.Cond → Bool} (h1 : L.all (fun c => isCode c || P c) = true) (h2 : ∀ c ∈ L.filter isCode, P c = true) : L.all P = true := by
  refine List.all_eq_true.mpr fun c hc => ?_
  have h := List.all_eq_true.mp h1 c hc
  rcases Bool.eq_false_or_eq_true (isCode c) with hi | hi
  · exact h2 c (List.mem_filter.mpr ⟨hc, hi⟩)
  · simpa [hi] using h
set_option maxRecDepth 65536 in
theorem w_c0 : (Jvm.Cond.code x code maxLocals ret).before args0 about1 = true := code_word (m := ⟨1, 3⟩) (meth := k1m3) (c := k1c3) (by decide +kernel) rfl rfl rfl (by decide +kernel)
set_option maxRecDepth 65536 in
theorem w_c1 : (Jvm.Cond.code ({ cls := "com/example/conceptary/conceptary/EclTextIsBlankPinLaw", name := "pick", desc := "(II)I" } : Jvm.MethodName) method_3_code (3 : Nat) (Option.some Jvm.ClassFile.FieldType.int)).before args0 about1 = true := code_word (m := ⟨1, 2⟩) (meth := k1m2) (c := k1c2) (by decide +kernel) rfl rfl rfl (by decide +kernel)
set_option maxRecDepth 65536 in
theorem w_c2 : (Jvm.Cond.code ({ cls := "com/example/conceptary/conceptary/EclText", name := "isBlank", desc := "(I)Z" } : Jvm.MethodName) prog_20_method_59_code (1 : Nat) (Option.some Jvm.ClassFile.FieldType.boolean)).before args0 about1 = true := code_word (m := ⟨2, 0⟩) (meth := k2m0) (c := k2c0) (by decide +kernel) rfl rfl rfl (by decide +kernel)
set_option maxRecDepth 65536 in
theorem w_c3 : (Jvm.Cond.code ({ cls := "com/example/conceptary/conceptary/EclTextIsBlankPinLaw", name := "expected", desc := "(I)Z" } : Jvm.MethodName) method_2_code (1 : Nat) (Option.some Jvm.ClassFile.FieldType.boolean)).before args0 about1 = true := code_word (m := ⟨1, 1⟩) (meth := k1m1) (c := k1c1) (by decide +kernel) rfl rfl rfl (by decide +kernel)
def codes1 : List Jvm.Cond := [Jvm.Cond.code x code maxLocals ret, Jvm.Cond.code ({ cls := "com/example/conceptary/conceptary/EclTextIsBlankPinLaw", name := "pick", desc := "(II)I" } : Jvm.MethodName) method_3_code (3 : Nat) (Option.some Jvm.ClassFile.FieldType.int), Jvm.Cond.code ({ cls := "com/example/conceptary/conceptary/EclText", name := "isBlank", desc := "(I)Z" } : Jvm.MethodName) prog_20_method_59_code (1 : Nat) (Option.some Jvm.ClassFile.FieldType.boolean), Jvm.Cond.code ({ cls := "com/example/conceptary/conceptary/EclTextIsBlankPinLaw", name := "expected", desc := "(I)Z" } : Jvm.MethodName) method_2_code (1 : Nat) (Option.some Jvm.ClassFile.FieldType.boolean)]
set_option maxRecDepth 65536 in
theorem codes_eq : words1.filter isCode = codes1 := rfl
theorem w_codes : ∀ c ∈ words1.filter isCode, c.before args0 about1 = true := by
  rw [codes_eq]
  intro c hc
  simp only [codes1, List.mem_cons, List.not_mem_nil, or_false] at hc
  rcases hc with rfl | rfl | rfl | rfl
  · exact w_c0
  · exact w_c1
  · exact w_c2
  · exact w_c3
set_option maxRecDepth 65536 in
theorem w_t1 : words1.all (fun c => isCode c || c.before args0 about1) = true := by decide +kernel
theorem w_tables : (allAtoms (Jvm.Cond.code x code maxLocals ret :: tables_1)).before args0 about1 = true := by
  rw [allAtoms_all]
  show words1.all (fun c => c.before args0 about1) = true
  refine all_split ?_ w_codes
  rw [w_t1]
set_option maxRecDepth 65536 in
theorem w_case : (Jvm.Cond.and given_1 narrow_1).before args0 about1 = true := by decide +kernel
theorem w_applies : (headSpec (Jvm.Cond.code x code maxLocals ret :: tables_1) room_1).applies x e0.platform about1 = true :=
  (Spec.applies_iff w_frames).mpr ⟨w_running, w_runnable, w_alone, w_named, w_hears, w_ripe, w_room, w_tables⟩
theorem atStart : AtStart classFile x code maxLocals ret World_1 tables_1 room_1 Calls_1 rest_1 Pre_1 launch0 p0 e0 about1 theMethod args0 below0 :=
  ⟨lists_1, trivial, launch0.admits_env _ _ _, launch0.least_env, fairChoices_fair.cas, fairChoices_fair.clock, w_frames, w_args, w_heap, w_applies, trivial, trivial, w_case⟩
end start1
theorem witness_1 : WitnessClaimed_1 := ⟨start1.p0, start1.e0, start1.about1, start1.theMethod, start1.args0, start1.below0, start1.atStart⟩
end Jvm.Pilot.@@N@@
