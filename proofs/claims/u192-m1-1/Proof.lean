import JvmDerived
import JvmDerived.Pilot.@@N@@Statement
import JvmDerived.Pilot.@@N@@Code
set_option linter.unusedVariables false
set_option linter.unusedSimpArgs false
namespace Jvm.Pilot.@@N@@
open Jvm Jvm.ClassFile Sem Op Lib Jvm.Free Jvm.Stand Jvm.LawKit Jvm.RoadKit Bundle Jvm.Pilot.@@N@@.Jvm.D
theorem d1_0 : decode prog_110_method_2_code 0 = .ok (.iload_n 0, 1) := by decide +kernel
theorem d1_1 : decode prog_110_method_2_code 1 = .ok (.bipush 32, 2) := by decide +kernel
theorem d1_3 : decode prog_110_method_2_code 3 = .ok (.if_icmp .lt 9, 3) := by decide +kernel
theorem d1_12 : decode prog_110_method_2_code 12 = .ok (.iload_n 0, 1) := by decide +kernel
theorem d1_13 : decode prog_110_method_2_code 13 = .ok (.bipush 9, 2) := by decide +kernel
theorem d1_15 : decode prog_110_method_2_code 15 = .ok (.if_icmp .eq 33, 3) := by decide +kernel
theorem d1_48 : decode prog_110_method_2_code 48 = .ok (.iconst 1, 1) := by decide +kernel
theorem d1_49 : decode prog_110_method_2_code 49 = .ok (.goto 4, 3) := by decide +kernel
theorem d1_53 : decode prog_110_method_2_code 53 = .ok (.ireturn, 1) := by decide +kernel
theorem d1_18 : decode prog_110_method_2_code 18 = .ok (.iload_n 0, 1) := by decide +kernel
theorem d1_19 : decode prog_110_method_2_code 19 = .ok (.bipush 10, 2) := by decide +kernel
theorem d1_21 : decode prog_110_method_2_code 21 = .ok (.if_icmp .eq 27, 3) := by decide +kernel
theorem d1_24 : decode prog_110_method_2_code 24 = .ok (.iload_n 0, 1) := by decide +kernel
theorem d1_25 : decode prog_110_method_2_code 25 = .ok (.bipush 13, 2) := by decide +kernel
theorem d1_27 : decode prog_110_method_2_code 27 = .ok (.if_icmp .eq 21, 3) := by decide +kernel
theorem d1_30 : decode prog_110_method_2_code 30 = .ok (.iload_n 0, 1) := by decide +kernel
theorem d1_31 : decode prog_110_method_2_code 31 = .ok (.ldc 8, 2) := by decide +kernel
theorem d1_33 : decode prog_110_method_2_code 33 = .ok (.if_icmp .lt 9, 3) := by decide +kernel
theorem d1_42 : decode prog_110_method_2_code 42 = .ok (.iload_n 0, 1) := by decide +kernel
theorem d1_43 : decode prog_110_method_2_code 43 = .ok (.ldc 10, 2) := by decide +kernel
theorem d1_45 : decode prog_110_method_2_code 45 = .ok (.if_icmp .lt 7, 3) := by decide +kernel
theorem d1_52 : decode prog_110_method_2_code 52 = .ok (.iconst 0, 1) := by decide +kernel
theorem d1_36 : decode prog_110_method_2_code 36 = .ok (.iload_n 0, 1) := by decide +kernel
theorem d1_37 : decode prog_110_method_2_code 37 = .ok (.ldc 9, 2) := by decide +kernel
theorem d1_39 : decode prog_110_method_2_code 39 = .ok (.if_icmp .le 9, 3) := by decide +kernel
theorem d1_6 : decode prog_110_method_2_code 6 = .ok (.iload_n 0, 1) := by decide +kernel
theorem d1_7 : decode prog_110_method_2_code 7 = .ok (.ldc 7, 2) := by decide +kernel
theorem d1_9 : decode prog_110_method_2_code 9 = .ok (.if_icmp .le 39, 3) := by decide +kernel
theorem ef_1_I (m : MethodId) (x0 : Int32) : entryFrame m #[(.int x0)] 1 = mkF m 0 #[.val (.int x0)] [] := by first | (simp [entryFrame, mkF, argsToLocals, Value.category]; done) | rfl
def own_xml (p1 : Int32) : Int32 := if p1 < (32 : Int32) then (if p1 = (9 : Int32) then (1 : Int32) else (if p1 = (10 : Int32) then (1 : Int32) else (if p1 = (13 : Int32) then (1 : Int32) else (if p1 < (57344 : Int32) then (if p1 < (65536 : Int32) then (0 : Int32) else (1 : Int32)) else (if (65533 : Int32) < p1 then (if p1 < (65536 : Int32) then (0 : Int32) else (1 : Int32)) else (1 : Int32)))))) else (if (55295 : Int32) < p1 then (if p1 = (9 : Int32) then (1 : Int32) else (if p1 = (10 : Int32) then (1 : Int32) else (if p1 = (13 : Int32) then (1 : Int32) else (if p1 < (57344 : Int32) then (if p1 < (65536 : Int32) then (0 : Int32) else (1 : Int32)) else (if (65533 : Int32) < p1 then (if p1 < (65536 : Int32) then (0 : Int32) else (1 : Int32)) else (1 : Int32)))))) else (1 : Int32))
def Q1 (p1 : Int32) (h0 : Heap) (n0 : Nat) (v : Option Value) (h : Heap) (L : List Loc) : Prop := v = some (.int (own_xml p1)) ∧ Fr n0 L ∧ h = h0
theorem pn_1 : plainName "com/example/entitle/entitle/value/Lexical" = true := by first | (simp [plainName, overriddenIn]; done) | decide +kernel
set_option maxRecDepth 65536 in
set_option maxHeartbeats 40000000 in
theorem rm1 (l : Launch) (Z : State) (a0 : Array Value) (hw : ∀ d ∈ tables_1, d.before a0 Z = true) (ws : List Jvm.Cond) (p1 : Int32) (h0 : Heap) (n0 : Nat) (Z0 : n0 ≤ h0.size)  :
    MetFree l (⟨"com/example/entitle/entitle/value/Lexical", "isXmlChar", "(I)Z"⟩ : MethodName) (head1 (Jvm.Cond.code (⟨"com/example/entitle/entitle/value/Lexical", "isXmlChar", "(I)Z"⟩ : MethodName) prog_110_method_2_code 1 (some .boolean) :: ws) ({ frames := 0, cells := 0, slots := 0, locals := 0 } : Room)) (fun a U => a = #[(.int p1)] ∧ Z.Warmed39 U.vm ∧ U.heap = h0) (fun _ _ _ _ _ => True) (fun _ U o U' => ∃ v L, o = .returned v ∧ Q1 p1 h0 n0 v U'.heap L ∧ FrameEnd U o U' L ({ frames := 0, cells := 0, slots := 0, locals := 0 } : Room).cells ({ frames := 0, cells := 0, slots := 0, locals := 0 } : Room).slots) := by
  refine MetFree.of_bodySF (plainFor_of_name pn_1) hisR ?_
  intro p e s m args below meth c s₁ Bd hml0 hP hK
  obtain ⟨rfl, hZ, hh⟩ := hP
  have hx := Bd.exec
  have hby := Bd.bytes
  have hml : c.maxLocals = 1 := hml0
  have hown : s.vm.findClass "com/example/entitle/entitle/value/Lexical" = some m.cls := findClass_of_methodNamed Bd.named
  have hnm := (name_of_methodNamed Bd.named Bd.method).1
  have X0 : Stand p l e ({ frames := 0, cells := 0, slots := 0, locals := 0 } : Room) s m #[(.int p1)] below meth c s₁ [] 0 0 := Stand.of_body Bd
  have e0 : s₁.heap = h0 := by rw [← hh, Bd.state]; rfl
  have N0 := Fr.nil n0
  have pre0 : ∀ t, Steps p.tables e below (s₁.setTop (mkF m 0 #[.val (.int p1)] [])) t → Steps p.tables e below (s₁.setTop (entryFrame m #[(.int p1)] 1)) t := fun t k => castTop (ef_1_I m p1) k
  have pr_1 : ∀ t, Steps p.tables e below (s₁.setTop (mkF m 3 #[.val (.int p1)] [(.int (32 : Int32)), (.int p1)])) t → Steps p.tables e below (s₁.setTop (entryFrame m #[(.int p1)] 1)) t := fun t k => by
    refine pre0 _ ?_
    show Steps p.tables e below (s₁.setTop (mkF m 0 #[.val (.int p1)] [])) _
    refine XS.iloadN X0.here hx rfl (hb hby d1_0) rfl ?_
    show Steps p.tables e below (s₁.setTop (mkF m 1 #[.val (.int p1)] [(.int p1)])) _
    refine XS.bipush X0.here hx rfl (hb hby d1_1) ?_
    exact k
  by_cases hc_2 : p1 < (32 : Int32)
  · have pr_3 : ∀ t, Steps p.tables e below (s₁.setTop (mkF m 15 #[.val (.int p1)] [(.int (9 : Int32)), (.int p1)])) t → Steps p.tables e below (s₁.setTop (entryFrame m #[(.int p1)] 1)) t := fun t k => by
      refine pr_1 _ ?_
      show Steps p.tables e below (s₁.setTop (mkF m 3 #[.val (.int p1)] [(.int (32 : Int32)), (.int p1)])) _
      refine XS.icmpYes X0.here hx rfl (pc0 := 3) (pc' := 12) rfl (hb hby d1_3) rfl (tlt hc_2).1 (by decide) (by decide) ?_
      show Steps p.tables e below (s₁.setTop (mkF m 12 #[.val (.int p1)] [])) _
      refine XS.iloadN X0.here hx rfl (hb hby d1_12) rfl ?_
      show Steps p.tables e below (s₁.setTop (mkF m 13 #[.val (.int p1)] [(.int p1)])) _
      refine XS.bipush X0.here hx rfl (hb hby d1_13) ?_
      exact k
    by_cases hc_4 : p1 = (9 : Int32)
    · obtain ⟨fs, hr, hrun, hended, hW, hsame⟩ := X0.leave (v := some (.int (1 : Int32))) (fun h => by rw [Bd.returns] at h; cases h)
      refine ⟨_, _, pr_3 _ ?_, hrun, hended, _, _, rfl, ?_, ⟨_, rfl⟩, hW, hsame.mono (by decide) (by decide)⟩
      · show Steps p.tables e below (s₁.setTop (mkF m 15 #[.val (.int p1)] [(.int (9 : Int32)), (.int p1)])) _
        refine XS.icmpYes X0.here hx rfl (pc0 := 15) (pc' := 48) rfl (hb hby d1_15) rfl (teq hc_4).1 (by decide) (by decide) ?_
        show Steps p.tables e below (s₁.setTop (mkF m 48 #[.val (.int p1)] [])) _
        refine XS.iconst X0.here hx rfl (hb hby d1_48) ?_
        show Steps p.tables e below (s₁.setTop (mkF m 49 #[.val (.int p1)] [(.int (1 : Int32))])) _
        refine XS.goto X0.here hx rfl (pc0 := 49) (pc' := 53) rfl (hb hby d1_49) (by decide) (by decide) ?_
        show Steps p.tables e below (s₁.setTop (mkF m 53 #[.val (.int p1)] [(.int (1 : Int32))])) _
        exact retN X0 hx (t := .boolean) Bd.returns (by simp) (hb hby d1_53) hr
      · show Q1 p1 h0 n0 _ s₁.heap _
        rw [e0]
        exact ⟨by rw [own_xml, if_pos hc_2, if_pos hc_4], N0, rfl⟩
    · have pr_5 : ∀ t, Steps p.tables e below (s₁.setTop (mkF m 21 #[.val (.int p1)] [(.int (10 : Int32)), (.int p1)])) t → Steps p.tables e below (s₁.setTop (entryFrame m #[(.int p1)] 1)) t := fun t k => by
        refine pr_3 _ ?_
        show Steps p.tables e below (s₁.setTop (mkF m 15 #[.val (.int p1)] [(.int (9 : Int32)), (.int p1)])) _
        refine XS.icmpNo X0.here hx rfl (hb hby d1_15) rfl (feq hc_4).1 ?_
        show Steps p.tables e below (s₁.setTop (mkF m 18 #[.val (.int p1)] [])) _
        refine XS.iloadN X0.here hx rfl (hb hby d1_18) rfl ?_
        show Steps p.tables e below (s₁.setTop (mkF m 19 #[.val (.int p1)] [(.int p1)])) _
        refine XS.bipush X0.here hx rfl (hb hby d1_19) ?_
        exact k
      by_cases hc_6 : p1 = (10 : Int32)
      · obtain ⟨fs, hr, hrun, hended, hW, hsame⟩ := X0.leave (v := some (.int (1 : Int32))) (fun h => by rw [Bd.returns] at h; cases h)
        refine ⟨_, _, pr_5 _ ?_, hrun, hended, _, _, rfl, ?_, ⟨_, rfl⟩, hW, hsame.mono (by decide) (by decide)⟩
        · show Steps p.tables e below (s₁.setTop (mkF m 21 #[.val (.int p1)] [(.int (10 : Int32)), (.int p1)])) _
          refine XS.icmpYes X0.here hx rfl (pc0 := 21) (pc' := 48) rfl (hb hby d1_21) rfl (teq hc_6).1 (by decide) (by decide) ?_
          show Steps p.tables e below (s₁.setTop (mkF m 48 #[.val (.int p1)] [])) _
          refine XS.iconst X0.here hx rfl (hb hby d1_48) ?_
          show Steps p.tables e below (s₁.setTop (mkF m 49 #[.val (.int p1)] [(.int (1 : Int32))])) _
          refine XS.goto X0.here hx rfl (pc0 := 49) (pc' := 53) rfl (hb hby d1_49) (by decide) (by decide) ?_
          show Steps p.tables e below (s₁.setTop (mkF m 53 #[.val (.int p1)] [(.int (1 : Int32))])) _
          exact retN X0 hx (t := .boolean) Bd.returns (by simp) (hb hby d1_53) hr
        · show Q1 p1 h0 n0 _ s₁.heap _
          rw [e0]
          exact ⟨by rw [own_xml, if_pos hc_2, if_neg hc_4, if_pos hc_6], N0, rfl⟩
      · have pr_7 : ∀ t, Steps p.tables e below (s₁.setTop (mkF m 27 #[.val (.int p1)] [(.int (13 : Int32)), (.int p1)])) t → Steps p.tables e below (s₁.setTop (entryFrame m #[(.int p1)] 1)) t := fun t k => by
          refine pr_5 _ ?_
          show Steps p.tables e below (s₁.setTop (mkF m 21 #[.val (.int p1)] [(.int (10 : Int32)), (.int p1)])) _
          refine XS.icmpNo X0.here hx rfl (hb hby d1_21) rfl (feq hc_6).1 ?_
          show Steps p.tables e below (s₁.setTop (mkF m 24 #[.val (.int p1)] [])) _
          refine XS.iloadN X0.here hx rfl (hb hby d1_24) rfl ?_
          show Steps p.tables e below (s₁.setTop (mkF m 25 #[.val (.int p1)] [(.int p1)])) _
          refine XS.bipush X0.here hx rfl (hb hby d1_25) ?_
          exact k
        by_cases hc_8 : p1 = (13 : Int32)
        · obtain ⟨fs, hr, hrun, hended, hW, hsame⟩ := X0.leave (v := some (.int (1 : Int32))) (fun h => by rw [Bd.returns] at h; cases h)
          refine ⟨_, _, pr_7 _ ?_, hrun, hended, _, _, rfl, ?_, ⟨_, rfl⟩, hW, hsame.mono (by decide) (by decide)⟩
          · show Steps p.tables e below (s₁.setTop (mkF m 27 #[.val (.int p1)] [(.int (13 : Int32)), (.int p1)])) _
            refine XS.icmpYes X0.here hx rfl (pc0 := 27) (pc' := 48) rfl (hb hby d1_27) rfl (teq hc_8).1 (by decide) (by decide) ?_
            show Steps p.tables e below (s₁.setTop (mkF m 48 #[.val (.int p1)] [])) _
            refine XS.iconst X0.here hx rfl (hb hby d1_48) ?_
            show Steps p.tables e below (s₁.setTop (mkF m 49 #[.val (.int p1)] [(.int (1 : Int32))])) _
            refine XS.goto X0.here hx rfl (pc0 := 49) (pc' := 53) rfl (hb hby d1_49) (by decide) (by decide) ?_
            show Steps p.tables e below (s₁.setTop (mkF m 53 #[.val (.int p1)] [(.int (1 : Int32))])) _
            exact retN X0 hx (t := .boolean) Bd.returns (by simp) (hb hby d1_53) hr
          · show Q1 p1 h0 n0 _ s₁.heap _
            rw [e0]
            exact ⟨by rw [own_xml, if_pos hc_2, if_neg hc_4, if_neg hc_6, if_pos hc_8], N0, rfl⟩
        · have pr_9 : ∀ t, Steps p.tables e below (s₁.setTop (mkF m 33 #[.val (.int p1)] [(.int (57344 : Int32)), (.int p1)])) t → Steps p.tables e below (s₁.setTop (entryFrame m #[(.int p1)] 1)) t := fun t k => by
            refine pr_7 _ ?_
            show Steps p.tables e below (s₁.setTop (mkF m 27 #[.val (.int p1)] [(.int (13 : Int32)), (.int p1)])) _
            refine XS.icmpNo X0.here hx rfl (hb hby d1_27) rfl (feq hc_8).1 ?_
            show Steps p.tables e below (s₁.setTop (mkF m 30 #[.val (.int p1)] [])) _
            refine XS.iloadN X0.here hx rfl (hb hby d1_30) rfl ?_
            show Steps p.tables e below (s₁.setTop (mkF m 31 #[.val (.int p1)] [(.int p1)])) _
            refine X0.ldcInt hx hown (mvT hZ (hw _ (List.mem_of_getElem? (i := 5) rfl))) (g := (mkF m 31 #[.val (.int p1)] [(.int p1)])) rfl (hb hby d1_31) _ ?_
            exact k
          by_cases hc_10 : p1 < (57344 : Int32)
          · have pr_11 : ∀ t, Steps p.tables e below (s₁.setTop (mkF m 45 #[.val (.int p1)] [(.int (65536 : Int32)), (.int p1)])) t → Steps p.tables e below (s₁.setTop (entryFrame m #[(.int p1)] 1)) t := fun t k => by
              refine pr_9 _ ?_
              show Steps p.tables e below (s₁.setTop (mkF m 33 #[.val (.int p1)] [(.int (57344 : Int32)), (.int p1)])) _
              refine XS.icmpYes X0.here hx rfl (pc0 := 33) (pc' := 42) rfl (hb hby d1_33) rfl (tlt hc_10).1 (by decide) (by decide) ?_
              show Steps p.tables e below (s₁.setTop (mkF m 42 #[.val (.int p1)] [])) _
              refine XS.iloadN X0.here hx rfl (hb hby d1_42) rfl ?_
              show Steps p.tables e below (s₁.setTop (mkF m 43 #[.val (.int p1)] [(.int p1)])) _
              refine X0.ldcInt hx hown (mvT hZ (hw _ (List.mem_of_getElem? (i := 6) rfl))) (g := (mkF m 43 #[.val (.int p1)] [(.int p1)])) rfl (hb hby d1_43) _ ?_
              exact k
            by_cases hc_12 : p1 < (65536 : Int32)
            · obtain ⟨fs, hr, hrun, hended, hW, hsame⟩ := X0.leave (v := some (.int (0 : Int32))) (fun h => by rw [Bd.returns] at h; cases h)
              refine ⟨_, _, pr_11 _ ?_, hrun, hended, _, _, rfl, ?_, ⟨_, rfl⟩, hW, hsame.mono (by decide) (by decide)⟩
              · show Steps p.tables e below (s₁.setTop (mkF m 45 #[.val (.int p1)] [(.int (65536 : Int32)), (.int p1)])) _
                refine XS.icmpYes X0.here hx rfl (pc0 := 45) (pc' := 52) rfl (hb hby d1_45) rfl (tlt hc_12).1 (by decide) (by decide) ?_
                show Steps p.tables e below (s₁.setTop (mkF m 52 #[.val (.int p1)] [])) _
                refine XS.iconst X0.here hx rfl (hb hby d1_52) ?_
                show Steps p.tables e below (s₁.setTop (mkF m 53 #[.val (.int p1)] [(.int (0 : Int32))])) _
                exact retN X0 hx (t := .boolean) Bd.returns (by simp) (hb hby d1_53) hr
              · show Q1 p1 h0 n0 _ s₁.heap _
                rw [e0]
                exact ⟨by rw [own_xml, if_pos hc_2, if_neg hc_4, if_neg hc_6, if_neg hc_8, if_pos hc_10, if_pos hc_12], N0, rfl⟩
            · obtain ⟨fs, hr, hrun, hended, hW, hsame⟩ := X0.leave (v := some (.int (1 : Int32))) (fun h => by rw [Bd.returns] at h; cases h)
              refine ⟨_, _, pr_11 _ ?_, hrun, hended, _, _, rfl, ?_, ⟨_, rfl⟩, hW, hsame.mono (by decide) (by decide)⟩
              · show Steps p.tables e below (s₁.setTop (mkF m 45 #[.val (.int p1)] [(.int (65536 : Int32)), (.int p1)])) _
                refine XS.icmpNo X0.here hx rfl (hb hby d1_45) rfl (flt hc_12).1 ?_
                show Steps p.tables e below (s₁.setTop (mkF m 48 #[.val (.int p1)] [])) _
                refine XS.iconst X0.here hx rfl (hb hby d1_48) ?_
                show Steps p.tables e below (s₁.setTop (mkF m 49 #[.val (.int p1)] [(.int (1 : Int32))])) _
                refine XS.goto X0.here hx rfl (pc0 := 49) (pc' := 53) rfl (hb hby d1_49) (by decide) (by decide) ?_
                show Steps p.tables e below (s₁.setTop (mkF m 53 #[.val (.int p1)] [(.int (1 : Int32))])) _
                exact retN X0 hx (t := .boolean) Bd.returns (by simp) (hb hby d1_53) hr
              · show Q1 p1 h0 n0 _ s₁.heap _
                rw [e0]
                exact ⟨by rw [own_xml, if_pos hc_2, if_neg hc_4, if_neg hc_6, if_neg hc_8, if_pos hc_10, if_neg hc_12], N0, rfl⟩
          · have pr_13 : ∀ t, Steps p.tables e below (s₁.setTop (mkF m 39 #[.val (.int p1)] [(.int (65533 : Int32)), (.int p1)])) t → Steps p.tables e below (s₁.setTop (entryFrame m #[(.int p1)] 1)) t := fun t k => by
              refine pr_9 _ ?_
              show Steps p.tables e below (s₁.setTop (mkF m 33 #[.val (.int p1)] [(.int (57344 : Int32)), (.int p1)])) _
              refine XS.icmpNo X0.here hx rfl (hb hby d1_33) rfl (flt hc_10).1 ?_
              show Steps p.tables e below (s₁.setTop (mkF m 36 #[.val (.int p1)] [])) _
              refine XS.iloadN X0.here hx rfl (hb hby d1_36) rfl ?_
              show Steps p.tables e below (s₁.setTop (mkF m 37 #[.val (.int p1)] [(.int p1)])) _
              refine X0.ldcInt hx hown (mvT hZ (hw _ (List.mem_of_getElem? (i := 16) rfl))) (g := (mkF m 37 #[.val (.int p1)] [(.int p1)])) rfl (hb hby d1_37) _ ?_
              exact k
            by_cases hc_14 : (65533 : Int32) < p1
            · have pr_15 : ∀ t, Steps p.tables e below (s₁.setTop (mkF m 45 #[.val (.int p1)] [(.int (65536 : Int32)), (.int p1)])) t → Steps p.tables e below (s₁.setTop (entryFrame m #[(.int p1)] 1)) t := fun t k => by
                refine pr_13 _ ?_
                show Steps p.tables e below (s₁.setTop (mkF m 39 #[.val (.int p1)] [(.int (65533 : Int32)), (.int p1)])) _
                refine XS.icmpNo X0.here hx rfl (hb hby d1_39) rfl (tlt hc_14).2.2.2 ?_
                show Steps p.tables e below (s₁.setTop (mkF m 42 #[.val (.int p1)] [])) _
                refine XS.iloadN X0.here hx rfl (hb hby d1_42) rfl ?_
                show Steps p.tables e below (s₁.setTop (mkF m 43 #[.val (.int p1)] [(.int p1)])) _
                refine X0.ldcInt hx hown (mvT hZ (hw _ (List.mem_of_getElem? (i := 6) rfl))) (g := (mkF m 43 #[.val (.int p1)] [(.int p1)])) rfl (hb hby d1_43) _ ?_
                exact k
              by_cases hc_16 : p1 < (65536 : Int32)
              · obtain ⟨fs, hr, hrun, hended, hW, hsame⟩ := X0.leave (v := some (.int (0 : Int32))) (fun h => by rw [Bd.returns] at h; cases h)
                refine ⟨_, _, pr_15 _ ?_, hrun, hended, _, _, rfl, ?_, ⟨_, rfl⟩, hW, hsame.mono (by decide) (by decide)⟩
                · show Steps p.tables e below (s₁.setTop (mkF m 45 #[.val (.int p1)] [(.int (65536 : Int32)), (.int p1)])) _
                  refine XS.icmpYes X0.here hx rfl (pc0 := 45) (pc' := 52) rfl (hb hby d1_45) rfl (tlt hc_16).1 (by decide) (by decide) ?_
                  show Steps p.tables e below (s₁.setTop (mkF m 52 #[.val (.int p1)] [])) _
                  refine XS.iconst X0.here hx rfl (hb hby d1_52) ?_
                  show Steps p.tables e below (s₁.setTop (mkF m 53 #[.val (.int p1)] [(.int (0 : Int32))])) _
                  exact retN X0 hx (t := .boolean) Bd.returns (by simp) (hb hby d1_53) hr
                · show Q1 p1 h0 n0 _ s₁.heap _
                  rw [e0]
                  exact ⟨by rw [own_xml, if_pos hc_2, if_neg hc_4, if_neg hc_6, if_neg hc_8, if_neg hc_10, if_pos hc_14, if_pos hc_16], N0, rfl⟩
              · obtain ⟨fs, hr, hrun, hended, hW, hsame⟩ := X0.leave (v := some (.int (1 : Int32))) (fun h => by rw [Bd.returns] at h; cases h)
                refine ⟨_, _, pr_15 _ ?_, hrun, hended, _, _, rfl, ?_, ⟨_, rfl⟩, hW, hsame.mono (by decide) (by decide)⟩
                · show Steps p.tables e below (s₁.setTop (mkF m 45 #[.val (.int p1)] [(.int (65536 : Int32)), (.int p1)])) _
                  refine XS.icmpNo X0.here hx rfl (hb hby d1_45) rfl (flt hc_16).1 ?_
                  show Steps p.tables e below (s₁.setTop (mkF m 48 #[.val (.int p1)] [])) _
                  refine XS.iconst X0.here hx rfl (hb hby d1_48) ?_
                  show Steps p.tables e below (s₁.setTop (mkF m 49 #[.val (.int p1)] [(.int (1 : Int32))])) _
                  refine XS.goto X0.here hx rfl (pc0 := 49) (pc' := 53) rfl (hb hby d1_49) (by decide) (by decide) ?_
                  show Steps p.tables e below (s₁.setTop (mkF m 53 #[.val (.int p1)] [(.int (1 : Int32))])) _
                  exact retN X0 hx (t := .boolean) Bd.returns (by simp) (hb hby d1_53) hr
                · show Q1 p1 h0 n0 _ s₁.heap _
                  rw [e0]
                  exact ⟨by rw [own_xml, if_pos hc_2, if_neg hc_4, if_neg hc_6, if_neg hc_8, if_neg hc_10, if_pos hc_14, if_neg hc_16], N0, rfl⟩
            · obtain ⟨fs, hr, hrun, hended, hW, hsame⟩ := X0.leave (v := some (.int (1 : Int32))) (fun h => by rw [Bd.returns] at h; cases h)
              refine ⟨_, _, pr_13 _ ?_, hrun, hended, _, _, rfl, ?_, ⟨_, rfl⟩, hW, hsame.mono (by decide) (by decide)⟩
              · show Steps p.tables e below (s₁.setTop (mkF m 39 #[.val (.int p1)] [(.int (65533 : Int32)), (.int p1)])) _
                refine XS.icmpYes X0.here hx rfl (pc0 := 39) (pc' := 48) rfl (hb hby d1_39) rfl (flt hc_14).2.2.2 (by decide) (by decide) ?_
                show Steps p.tables e below (s₁.setTop (mkF m 48 #[.val (.int p1)] [])) _
                refine XS.iconst X0.here hx rfl (hb hby d1_48) ?_
                show Steps p.tables e below (s₁.setTop (mkF m 49 #[.val (.int p1)] [(.int (1 : Int32))])) _
                refine XS.goto X0.here hx rfl (pc0 := 49) (pc' := 53) rfl (hb hby d1_49) (by decide) (by decide) ?_
                show Steps p.tables e below (s₁.setTop (mkF m 53 #[.val (.int p1)] [(.int (1 : Int32))])) _
                exact retN X0 hx (t := .boolean) Bd.returns (by simp) (hb hby d1_53) hr
              · show Q1 p1 h0 n0 _ s₁.heap _
                rw [e0]
                exact ⟨by rw [own_xml, if_pos hc_2, if_neg hc_4, if_neg hc_6, if_neg hc_8, if_neg hc_10, if_neg hc_14], N0, rfl⟩
  · have pr_17 : ∀ t, Steps p.tables e below (s₁.setTop (mkF m 9 #[.val (.int p1)] [(.int (55295 : Int32)), (.int p1)])) t → Steps p.tables e below (s₁.setTop (entryFrame m #[(.int p1)] 1)) t := fun t k => by
      refine pr_1 _ ?_
      show Steps p.tables e below (s₁.setTop (mkF m 3 #[.val (.int p1)] [(.int (32 : Int32)), (.int p1)])) _
      refine XS.icmpNo X0.here hx rfl (hb hby d1_3) rfl (flt hc_2).1 ?_
      show Steps p.tables e below (s₁.setTop (mkF m 6 #[.val (.int p1)] [])) _
      refine XS.iloadN X0.here hx rfl (hb hby d1_6) rfl ?_
      show Steps p.tables e below (s₁.setTop (mkF m 7 #[.val (.int p1)] [(.int p1)])) _
      refine X0.ldcInt hx hown (mvT hZ (hw _ (List.mem_of_getElem? (i := 11) rfl))) (g := (mkF m 7 #[.val (.int p1)] [(.int p1)])) rfl (hb hby d1_7) _ ?_
      exact k
    by_cases hc_18 : (55295 : Int32) < p1
    · have pr_19 : ∀ t, Steps p.tables e below (s₁.setTop (mkF m 15 #[.val (.int p1)] [(.int (9 : Int32)), (.int p1)])) t → Steps p.tables e below (s₁.setTop (entryFrame m #[(.int p1)] 1)) t := fun t k => by
        refine pr_17 _ ?_
        show Steps p.tables e below (s₁.setTop (mkF m 9 #[.val (.int p1)] [(.int (55295 : Int32)), (.int p1)])) _
        refine XS.icmpNo X0.here hx rfl (hb hby d1_9) rfl (tlt hc_18).2.2.2 ?_
        show Steps p.tables e below (s₁.setTop (mkF m 12 #[.val (.int p1)] [])) _
        refine XS.iloadN X0.here hx rfl (hb hby d1_12) rfl ?_
        show Steps p.tables e below (s₁.setTop (mkF m 13 #[.val (.int p1)] [(.int p1)])) _
        refine XS.bipush X0.here hx rfl (hb hby d1_13) ?_
        exact k
      by_cases hc_20 : p1 = (9 : Int32)
      · obtain ⟨fs, hr, hrun, hended, hW, hsame⟩ := X0.leave (v := some (.int (1 : Int32))) (fun h => by rw [Bd.returns] at h; cases h)
        refine ⟨_, _, pr_19 _ ?_, hrun, hended, _, _, rfl, ?_, ⟨_, rfl⟩, hW, hsame.mono (by decide) (by decide)⟩
        · show Steps p.tables e below (s₁.setTop (mkF m 15 #[.val (.int p1)] [(.int (9 : Int32)), (.int p1)])) _
          refine XS.icmpYes X0.here hx rfl (pc0 := 15) (pc' := 48) rfl (hb hby d1_15) rfl (teq hc_20).1 (by decide) (by decide) ?_
          show Steps p.tables e below (s₁.setTop (mkF m 48 #[.val (.int p1)] [])) _
          refine XS.iconst X0.here hx rfl (hb hby d1_48) ?_
          show Steps p.tables e below (s₁.setTop (mkF m 49 #[.val (.int p1)] [(.int (1 : Int32))])) _
          refine XS.goto X0.here hx rfl (pc0 := 49) (pc' := 53) rfl (hb hby d1_49) (by decide) (by decide) ?_
          show Steps p.tables e below (s₁.setTop (mkF m 53 #[.val (.int p1)] [(.int (1 : Int32))])) _
          exact retN X0 hx (t := .boolean) Bd.returns (by simp) (hb hby d1_53) hr
        · show Q1 p1 h0 n0 _ s₁.heap _
          rw [e0]
          exact ⟨by rw [own_xml, if_neg hc_2, if_pos hc_18, if_pos hc_20], N0, rfl⟩
      · have pr_21 : ∀ t, Steps p.tables e below (s₁.setTop (mkF m 21 #[.val (.int p1)] [(.int (10 : Int32)), (.int p1)])) t → Steps p.tables e below (s₁.setTop (entryFrame m #[(.int p1)] 1)) t := fun t k => by
          refine pr_19 _ ?_
          show Steps p.tables e below (s₁.setTop (mkF m 15 #[.val (.int p1)] [(.int (9 : Int32)), (.int p1)])) _
          refine XS.icmpNo X0.here hx rfl (hb hby d1_15) rfl (feq hc_20).1 ?_
          show Steps p.tables e below (s₁.setTop (mkF m 18 #[.val (.int p1)] [])) _
          refine XS.iloadN X0.here hx rfl (hb hby d1_18) rfl ?_
          show Steps p.tables e below (s₁.setTop (mkF m 19 #[.val (.int p1)] [(.int p1)])) _
          refine XS.bipush X0.here hx rfl (hb hby d1_19) ?_
          exact k
        by_cases hc_22 : p1 = (10 : Int32)
        · obtain ⟨fs, hr, hrun, hended, hW, hsame⟩ := X0.leave (v := some (.int (1 : Int32))) (fun h => by rw [Bd.returns] at h; cases h)
          refine ⟨_, _, pr_21 _ ?_, hrun, hended, _, _, rfl, ?_, ⟨_, rfl⟩, hW, hsame.mono (by decide) (by decide)⟩
          · show Steps p.tables e below (s₁.setTop (mkF m 21 #[.val (.int p1)] [(.int (10 : Int32)), (.int p1)])) _
            refine XS.icmpYes X0.here hx rfl (pc0 := 21) (pc' := 48) rfl (hb hby d1_21) rfl (teq hc_22).1 (by decide) (by decide) ?_
            show Steps p.tables e below (s₁.setTop (mkF m 48 #[.val (.int p1)] [])) _
            refine XS.iconst X0.here hx rfl (hb hby d1_48) ?_
            show Steps p.tables e below (s₁.setTop (mkF m 49 #[.val (.int p1)] [(.int (1 : Int32))])) _
            refine XS.goto X0.here hx rfl (pc0 := 49) (pc' := 53) rfl (hb hby d1_49) (by decide) (by decide) ?_
            show Steps p.tables e below (s₁.setTop (mkF m 53 #[.val (.int p1)] [(.int (1 : Int32))])) _
            exact retN X0 hx (t := .boolean) Bd.returns (by simp) (hb hby d1_53) hr
          · show Q1 p1 h0 n0 _ s₁.heap _
            rw [e0]
            exact ⟨by rw [own_xml, if_neg hc_2, if_pos hc_18, if_neg hc_20, if_pos hc_22], N0, rfl⟩
        · have pr_23 : ∀ t, Steps p.tables e below (s₁.setTop (mkF m 27 #[.val (.int p1)] [(.int (13 : Int32)), (.int p1)])) t → Steps p.tables e below (s₁.setTop (entryFrame m #[(.int p1)] 1)) t := fun t k => by
            refine pr_21 _ ?_
            show Steps p.tables e below (s₁.setTop (mkF m 21 #[.val (.int p1)] [(.int (10 : Int32)), (.int p1)])) _
            refine XS.icmpNo X0.here hx rfl (hb hby d1_21) rfl (feq hc_22).1 ?_
            show Steps p.tables e below (s₁.setTop (mkF m 24 #[.val (.int p1)] [])) _
            refine XS.iloadN X0.here hx rfl (hb hby d1_24) rfl ?_
            show Steps p.tables e below (s₁.setTop (mkF m 25 #[.val (.int p1)] [(.int p1)])) _
            refine XS.bipush X0.here hx rfl (hb hby d1_25) ?_
            exact k
          by_cases hc_24 : p1 = (13 : Int32)
          · obtain ⟨fs, hr, hrun, hended, hW, hsame⟩ := X0.leave (v := some (.int (1 : Int32))) (fun h => by rw [Bd.returns] at h; cases h)
            refine ⟨_, _, pr_23 _ ?_, hrun, hended, _, _, rfl, ?_, ⟨_, rfl⟩, hW, hsame.mono (by decide) (by decide)⟩
            · show Steps p.tables e below (s₁.setTop (mkF m 27 #[.val (.int p1)] [(.int (13 : Int32)), (.int p1)])) _
              refine XS.icmpYes X0.here hx rfl (pc0 := 27) (pc' := 48) rfl (hb hby d1_27) rfl (teq hc_24).1 (by decide) (by decide) ?_
              show Steps p.tables e below (s₁.setTop (mkF m 48 #[.val (.int p1)] [])) _
              refine XS.iconst X0.here hx rfl (hb hby d1_48) ?_
              show Steps p.tables e below (s₁.setTop (mkF m 49 #[.val (.int p1)] [(.int (1 : Int32))])) _
              refine XS.goto X0.here hx rfl (pc0 := 49) (pc' := 53) rfl (hb hby d1_49) (by decide) (by decide) ?_
              show Steps p.tables e below (s₁.setTop (mkF m 53 #[.val (.int p1)] [(.int (1 : Int32))])) _
              exact retN X0 hx (t := .boolean) Bd.returns (by simp) (hb hby d1_53) hr
            · show Q1 p1 h0 n0 _ s₁.heap _
              rw [e0]
              exact ⟨by rw [own_xml, if_neg hc_2, if_pos hc_18, if_neg hc_20, if_neg hc_22, if_pos hc_24], N0, rfl⟩
          · have pr_25 : ∀ t, Steps p.tables e below (s₁.setTop (mkF m 33 #[.val (.int p1)] [(.int (57344 : Int32)), (.int p1)])) t → Steps p.tables e below (s₁.setTop (entryFrame m #[(.int p1)] 1)) t := fun t k => by
              refine pr_23 _ ?_
              show Steps p.tables e below (s₁.setTop (mkF m 27 #[.val (.int p1)] [(.int (13 : Int32)), (.int p1)])) _
              refine XS.icmpNo X0.here hx rfl (hb hby d1_27) rfl (feq hc_24).1 ?_
              show Steps p.tables e below (s₁.setTop (mkF m 30 #[.val (.int p1)] [])) _
              refine XS.iloadN X0.here hx rfl (hb hby d1_30) rfl ?_
              show Steps p.tables e below (s₁.setTop (mkF m 31 #[.val (.int p1)] [(.int p1)])) _
              refine X0.ldcInt hx hown (mvT hZ (hw _ (List.mem_of_getElem? (i := 5) rfl))) (g := (mkF m 31 #[.val (.int p1)] [(.int p1)])) rfl (hb hby d1_31) _ ?_
              exact k
            by_cases hc_26 : p1 < (57344 : Int32)
            · have pr_27 : ∀ t, Steps p.tables e below (s₁.setTop (mkF m 45 #[.val (.int p1)] [(.int (65536 : Int32)), (.int p1)])) t → Steps p.tables e below (s₁.setTop (entryFrame m #[(.int p1)] 1)) t := fun t k => by
                refine pr_25 _ ?_
                show Steps p.tables e below (s₁.setTop (mkF m 33 #[.val (.int p1)] [(.int (57344 : Int32)), (.int p1)])) _
                refine XS.icmpYes X0.here hx rfl (pc0 := 33) (pc' := 42) rfl (hb hby d1_33) rfl (tlt hc_26).1 (by decide) (by decide) ?_
                show Steps p.tables e below (s₁.setTop (mkF m 42 #[.val (.int p1)] [])) _
                refine XS.iloadN X0.here hx rfl (hb hby d1_42) rfl ?_
                show Steps p.tables e below (s₁.setTop (mkF m 43 #[.val (.int p1)] [(.int p1)])) _
                refine X0.ldcInt hx hown (mvT hZ (hw _ (List.mem_of_getElem? (i := 6) rfl))) (g := (mkF m 43 #[.val (.int p1)] [(.int p1)])) rfl (hb hby d1_43) _ ?_
                exact k
              by_cases hc_28 : p1 < (65536 : Int32)
              · obtain ⟨fs, hr, hrun, hended, hW, hsame⟩ := X0.leave (v := some (.int (0 : Int32))) (fun h => by rw [Bd.returns] at h; cases h)
                refine ⟨_, _, pr_27 _ ?_, hrun, hended, _, _, rfl, ?_, ⟨_, rfl⟩, hW, hsame.mono (by decide) (by decide)⟩
                · show Steps p.tables e below (s₁.setTop (mkF m 45 #[.val (.int p1)] [(.int (65536 : Int32)), (.int p1)])) _
                  refine XS.icmpYes X0.here hx rfl (pc0 := 45) (pc' := 52) rfl (hb hby d1_45) rfl (tlt hc_28).1 (by decide) (by decide) ?_
                  show Steps p.tables e below (s₁.setTop (mkF m 52 #[.val (.int p1)] [])) _
                  refine XS.iconst X0.here hx rfl (hb hby d1_52) ?_
                  show Steps p.tables e below (s₁.setTop (mkF m 53 #[.val (.int p1)] [(.int (0 : Int32))])) _
                  exact retN X0 hx (t := .boolean) Bd.returns (by simp) (hb hby d1_53) hr
                · show Q1 p1 h0 n0 _ s₁.heap _
                  rw [e0]
                  exact ⟨by rw [own_xml, if_neg hc_2, if_pos hc_18, if_neg hc_20, if_neg hc_22, if_neg hc_24, if_pos hc_26, if_pos hc_28], N0, rfl⟩
              · obtain ⟨fs, hr, hrun, hended, hW, hsame⟩ := X0.leave (v := some (.int (1 : Int32))) (fun h => by rw [Bd.returns] at h; cases h)
                refine ⟨_, _, pr_27 _ ?_, hrun, hended, _, _, rfl, ?_, ⟨_, rfl⟩, hW, hsame.mono (by decide) (by decide)⟩
                · show Steps p.tables e below (s₁.setTop (mkF m 45 #[.val (.int p1)] [(.int (65536 : Int32)), (.int p1)])) _
                  refine XS.icmpNo X0.here hx rfl (hb hby d1_45) rfl (flt hc_28).1 ?_
                  show Steps p.tables e below (s₁.setTop (mkF m 48 #[.val (.int p1)] [])) _
                  refine XS.iconst X0.here hx rfl (hb hby d1_48) ?_
                  show Steps p.tables e below (s₁.setTop (mkF m 49 #[.val (.int p1)] [(.int (1 : Int32))])) _
                  refine XS.goto X0.here hx rfl (pc0 := 49) (pc' := 53) rfl (hb hby d1_49) (by decide) (by decide) ?_
                  show Steps p.tables e below (s₁.setTop (mkF m 53 #[.val (.int p1)] [(.int (1 : Int32))])) _
                  exact retN X0 hx (t := .boolean) Bd.returns (by simp) (hb hby d1_53) hr
                · show Q1 p1 h0 n0 _ s₁.heap _
                  rw [e0]
                  exact ⟨by rw [own_xml, if_neg hc_2, if_pos hc_18, if_neg hc_20, if_neg hc_22, if_neg hc_24, if_pos hc_26, if_neg hc_28], N0, rfl⟩
            · have pr_29 : ∀ t, Steps p.tables e below (s₁.setTop (mkF m 39 #[.val (.int p1)] [(.int (65533 : Int32)), (.int p1)])) t → Steps p.tables e below (s₁.setTop (entryFrame m #[(.int p1)] 1)) t := fun t k => by
                refine pr_25 _ ?_
                show Steps p.tables e below (s₁.setTop (mkF m 33 #[.val (.int p1)] [(.int (57344 : Int32)), (.int p1)])) _
                refine XS.icmpNo X0.here hx rfl (hb hby d1_33) rfl (flt hc_26).1 ?_
                show Steps p.tables e below (s₁.setTop (mkF m 36 #[.val (.int p1)] [])) _
                refine XS.iloadN X0.here hx rfl (hb hby d1_36) rfl ?_
                show Steps p.tables e below (s₁.setTop (mkF m 37 #[.val (.int p1)] [(.int p1)])) _
                refine X0.ldcInt hx hown (mvT hZ (hw _ (List.mem_of_getElem? (i := 16) rfl))) (g := (mkF m 37 #[.val (.int p1)] [(.int p1)])) rfl (hb hby d1_37) _ ?_
                exact k
              by_cases hc_30 : (65533 : Int32) < p1
              · have pr_31 : ∀ t, Steps p.tables e below (s₁.setTop (mkF m 45 #[.val (.int p1)] [(.int (65536 : Int32)), (.int p1)])) t → Steps p.tables e below (s₁.setTop (entryFrame m #[(.int p1)] 1)) t := fun t k => by
                  refine pr_29 _ ?_
                  show Steps p.tables e below (s₁.setTop (mkF m 39 #[.val (.int p1)] [(.int (65533 : Int32)), (.int p1)])) _
                  refine XS.icmpNo X0.here hx rfl (hb hby d1_39) rfl (tlt hc_30).2.2.2 ?_
                  show Steps p.tables e below (s₁.setTop (mkF m 42 #[.val (.int p1)] [])) _
                  refine XS.iloadN X0.here hx rfl (hb hby d1_42) rfl ?_
                  show Steps p.tables e below (s₁.setTop (mkF m 43 #[.val (.int p1)] [(.int p1)])) _
                  refine X0.ldcInt hx hown (mvT hZ (hw _ (List.mem_of_getElem? (i := 6) rfl))) (g := (mkF m 43 #[.val (.int p1)] [(.int p1)])) rfl (hb hby d1_43) _ ?_
                  exact k
                by_cases hc_32 : p1 < (65536 : Int32)
                · obtain ⟨fs, hr, hrun, hended, hW, hsame⟩ := X0.leave (v := some (.int (0 : Int32))) (fun h => by rw [Bd.returns] at h; cases h)
                  refine ⟨_, _, pr_31 _ ?_, hrun, hended, _, _, rfl, ?_, ⟨_, rfl⟩, hW, hsame.mono (by decide) (by decide)⟩
                  · show Steps p.tables e below (s₁.setTop (mkF m 45 #[.val (.int p1)] [(.int (65536 : Int32)), (.int p1)])) _
                    refine XS.icmpYes X0.here hx rfl (pc0 := 45) (pc' := 52) rfl (hb hby d1_45) rfl (tlt hc_32).1 (by decide) (by decide) ?_
                    show Steps p.tables e below (s₁.setTop (mkF m 52 #[.val (.int p1)] [])) _
                    refine XS.iconst X0.here hx rfl (hb hby d1_52) ?_
                    show Steps p.tables e below (s₁.setTop (mkF m 53 #[.val (.int p1)] [(.int (0 : Int32))])) _
                    exact retN X0 hx (t := .boolean) Bd.returns (by simp) (hb hby d1_53) hr
                  · show Q1 p1 h0 n0 _ s₁.heap _
                    rw [e0]
                    exact ⟨by rw [own_xml, if_neg hc_2, if_pos hc_18, if_neg hc_20, if_neg hc_22, if_neg hc_24, if_neg hc_26, if_pos hc_30, if_pos hc_32], N0, rfl⟩
                · obtain ⟨fs, hr, hrun, hended, hW, hsame⟩ := X0.leave (v := some (.int (1 : Int32))) (fun h => by rw [Bd.returns] at h; cases h)
                  refine ⟨_, _, pr_31 _ ?_, hrun, hended, _, _, rfl, ?_, ⟨_, rfl⟩, hW, hsame.mono (by decide) (by decide)⟩
                  · show Steps p.tables e below (s₁.setTop (mkF m 45 #[.val (.int p1)] [(.int (65536 : Int32)), (.int p1)])) _
                    refine XS.icmpNo X0.here hx rfl (hb hby d1_45) rfl (flt hc_32).1 ?_
                    show Steps p.tables e below (s₁.setTop (mkF m 48 #[.val (.int p1)] [])) _
                    refine XS.iconst X0.here hx rfl (hb hby d1_48) ?_
                    show Steps p.tables e below (s₁.setTop (mkF m 49 #[.val (.int p1)] [(.int (1 : Int32))])) _
                    refine XS.goto X0.here hx rfl (pc0 := 49) (pc' := 53) rfl (hb hby d1_49) (by decide) (by decide) ?_
                    show Steps p.tables e below (s₁.setTop (mkF m 53 #[.val (.int p1)] [(.int (1 : Int32))])) _
                    exact retN X0 hx (t := .boolean) Bd.returns (by simp) (hb hby d1_53) hr
                  · show Q1 p1 h0 n0 _ s₁.heap _
                    rw [e0]
                    exact ⟨by rw [own_xml, if_neg hc_2, if_pos hc_18, if_neg hc_20, if_neg hc_22, if_neg hc_24, if_neg hc_26, if_pos hc_30, if_neg hc_32], N0, rfl⟩
              · obtain ⟨fs, hr, hrun, hended, hW, hsame⟩ := X0.leave (v := some (.int (1 : Int32))) (fun h => by rw [Bd.returns] at h; cases h)
                refine ⟨_, _, pr_29 _ ?_, hrun, hended, _, _, rfl, ?_, ⟨_, rfl⟩, hW, hsame.mono (by decide) (by decide)⟩
                · show Steps p.tables e below (s₁.setTop (mkF m 39 #[.val (.int p1)] [(.int (65533 : Int32)), (.int p1)])) _
                  refine XS.icmpYes X0.here hx rfl (pc0 := 39) (pc' := 48) rfl (hb hby d1_39) rfl (flt hc_30).2.2.2 (by decide) (by decide) ?_
                  show Steps p.tables e below (s₁.setTop (mkF m 48 #[.val (.int p1)] [])) _
                  refine XS.iconst X0.here hx rfl (hb hby d1_48) ?_
                  show Steps p.tables e below (s₁.setTop (mkF m 49 #[.val (.int p1)] [(.int (1 : Int32))])) _
                  refine XS.goto X0.here hx rfl (pc0 := 49) (pc' := 53) rfl (hb hby d1_49) (by decide) (by decide) ?_
                  show Steps p.tables e below (s₁.setTop (mkF m 53 #[.val (.int p1)] [(.int (1 : Int32))])) _
                  exact retN X0 hx (t := .boolean) Bd.returns (by simp) (hb hby d1_53) hr
                · show Q1 p1 h0 n0 _ s₁.heap _
                  rw [e0]
                  exact ⟨by rw [own_xml, if_neg hc_2, if_pos hc_18, if_neg hc_20, if_neg hc_22, if_neg hc_24, if_neg hc_26, if_neg hc_30], N0, rfl⟩
    · obtain ⟨fs, hr, hrun, hended, hW, hsame⟩ := X0.leave (v := some (.int (1 : Int32))) (fun h => by rw [Bd.returns] at h; cases h)
      refine ⟨_, _, pr_17 _ ?_, hrun, hended, _, _, rfl, ?_, ⟨_, rfl⟩, hW, hsame.mono (by decide) (by decide)⟩
      · show Steps p.tables e below (s₁.setTop (mkF m 9 #[.val (.int p1)] [(.int (55295 : Int32)), (.int p1)])) _
        refine XS.icmpYes X0.here hx rfl (pc0 := 9) (pc' := 48) rfl (hb hby d1_9) rfl (flt hc_18).2.2.2 (by decide) (by decide) ?_
        show Steps p.tables e below (s₁.setTop (mkF m 48 #[.val (.int p1)] [])) _
        refine XS.iconst X0.here hx rfl (hb hby d1_48) ?_
        show Steps p.tables e below (s₁.setTop (mkF m 49 #[.val (.int p1)] [(.int (1 : Int32))])) _
        refine XS.goto X0.here hx rfl (pc0 := 49) (pc' := 53) rfl (hb hby d1_49) (by decide) (by decide) ?_
        show Steps p.tables e below (s₁.setTop (mkF m 53 #[.val (.int p1)] [(.int (1 : Int32))])) _
        exact retN X0 hx (t := .boolean) Bd.returns (by simp) (hb hby d1_53) hr
      · show Q1 p1 h0 n0 _ s₁.heap _
        rw [e0]
        exact ⟨by rw [own_xml, if_neg hc_2, if_neg hc_18], N0, rfl⟩
theorem d2_0 : decode method_2_code 0 = .ok (.iload_n 0, 1) := by decide +kernel
theorem d2_1 : decode method_2_code 1 = .ok (.ifCond .ge 5, 3) := by decide +kernel
theorem d2_4 : decode method_2_code 4 = .ok (.iconst 1, 1) := by decide +kernel
theorem d2_5 : decode method_2_code 5 = .ok (.ireturn, 1) := by decide +kernel
theorem d2_6 : decode method_2_code 6 = .ok (.iload_n 0, 1) := by decide +kernel
theorem d2_7 : decode method_2_code 7 = .ok (.bipush 32, 2) := by decide +kernel
theorem d2_9 : decode method_2_code 9 = .ok (.if_icmp .ge 27, 3) := by decide +kernel
theorem d2_12 : decode method_2_code 12 = .ok (.iload_n 0, 1) := by decide +kernel
theorem d2_13 : decode method_2_code 13 = .ok (.bipush 9, 2) := by decide +kernel
theorem d2_15 : decode method_2_code 15 = .ok (.if_icmp .eq 19, 3) := by decide +kernel
theorem d2_34 : decode method_2_code 34 = .ok (.iconst 0, 1) := by decide +kernel
theorem d2_35 : decode method_2_code 35 = .ok (.ireturn, 1) := by decide +kernel
theorem d2_18 : decode method_2_code 18 = .ok (.iload_n 0, 1) := by decide +kernel
theorem d2_19 : decode method_2_code 19 = .ok (.bipush 10, 2) := by decide +kernel
theorem d2_21 : decode method_2_code 21 = .ok (.if_icmp .eq 13, 3) := by decide +kernel
theorem d2_24 : decode method_2_code 24 = .ok (.iload_n 0, 1) := by decide +kernel
theorem d2_25 : decode method_2_code 25 = .ok (.bipush 13, 2) := by decide +kernel
theorem d2_27 : decode method_2_code 27 = .ok (.if_icmp .eq 7, 3) := by decide +kernel
theorem d2_30 : decode method_2_code 30 = .ok (.iconst 1, 1) := by decide +kernel
theorem d2_31 : decode method_2_code 31 = .ok (.goto 4, 3) := by decide +kernel
theorem d2_36 : decode method_2_code 36 = .ok (.iload_n 0, 1) := by decide +kernel
theorem d2_37 : decode method_2_code 37 = .ok (.ldc 7, 2) := by decide +kernel
theorem d2_39 : decode method_2_code 39 = .ok (.if_icmp .lt 11, 3) := by decide +kernel
theorem d2_50 : decode method_2_code 50 = .ok (.iload_n 0, 1) := by decide +kernel
theorem d2_51 : decode method_2_code 51 = .ok (.ldc 9, 2) := by decide +kernel
theorem d2_53 : decode method_2_code 53 = .ok (.if_icmp .eq 9, 3) := by decide +kernel
theorem d2_62 : decode method_2_code 62 = .ok (.iconst 1, 1) := by decide +kernel
theorem d2_63 : decode method_2_code 63 = .ok (.goto 4, 3) := by decide +kernel
theorem d2_67 : decode method_2_code 67 = .ok (.ireturn, 1) := by decide +kernel
theorem d2_56 : decode method_2_code 56 = .ok (.iload_n 0, 1) := by decide +kernel
theorem d2_57 : decode method_2_code 57 = .ok (.ldc 10, 2) := by decide +kernel
theorem d2_59 : decode method_2_code 59 = .ok (.if_icmp .ne 7, 3) := by decide +kernel
theorem d2_66 : decode method_2_code 66 = .ok (.iconst 0, 1) := by decide +kernel
theorem d2_42 : decode method_2_code 42 = .ok (.iload_n 0, 1) := by decide +kernel
theorem d2_43 : decode method_2_code 43 = .ok (.ldc 8, 2) := by decide +kernel
theorem d2_45 : decode method_2_code 45 = .ok (.if_icmp .gt 5, 3) := by decide +kernel
theorem d2_48 : decode method_2_code 48 = .ok (.iconst 1, 1) := by decide +kernel
theorem d2_49 : decode method_2_code 49 = .ok (.ireturn, 1) := by decide +kernel
theorem ef_2_I (m : MethodId) (x0 : Int32) : entryFrame m #[(.int x0)] 1 = mkF m 0 #[.val (.int x0)] [] := by first | (simp [entryFrame, mkF, argsToLocals, Value.category]; done) | rfl
def own_exc (p1 : Int32) : Int32 := if p1 < (0 : Int32) then (1 : Int32) else (if p1 < (32 : Int32) then (if p1 = (9 : Int32) then (0 : Int32) else (if p1 = (10 : Int32) then (0 : Int32) else (if p1 = (13 : Int32) then (0 : Int32) else (1 : Int32)))) else (if p1 < (55296 : Int32) then (if p1 = (65534 : Int32) then (1 : Int32) else (if p1 = (65535 : Int32) then (1 : Int32) else (0 : Int32))) else (if (57343 : Int32) < p1 then (if p1 = (65534 : Int32) then (1 : Int32) else (if p1 = (65535 : Int32) then (1 : Int32) else (0 : Int32))) else (1 : Int32))))
def Q2 (p1 : Int32) (h0 : Heap) (n0 : Nat) (v : Option Value) (h : Heap) (L : List Loc) : Prop := v = some (.int (own_exc p1)) ∧ Fr n0 L ∧ h = h0
theorem pn_2 : plainName "com/example/entitle/entitle/value/LexicalIsXmlCharPinLaw" = true := by first | (simp [plainName, overriddenIn]; done) | decide +kernel
set_option maxRecDepth 65536 in
set_option maxHeartbeats 40000000 in
theorem rm2 (l : Launch) (Z : State) (a0 : Array Value) (hw : ∀ d ∈ tables_1, d.before a0 Z = true) (ws : List Jvm.Cond) (p1 : Int32) (h0 : Heap) (n0 : Nat) (Z0 : n0 ≤ h0.size)  :
    MetFree l (⟨"com/example/entitle/entitle/value/LexicalIsXmlCharPinLaw", "excluded", "(I)Z"⟩ : MethodName) (head1 (Jvm.Cond.code (⟨"com/example/entitle/entitle/value/LexicalIsXmlCharPinLaw", "excluded", "(I)Z"⟩ : MethodName) method_2_code 1 (some .boolean) :: ws) ({ frames := 0, cells := 0, slots := 0, locals := 0 } : Room)) (fun a U => a = #[(.int p1)] ∧ Z.Warmed39 U.vm ∧ U.heap = h0) (fun _ _ _ _ _ => True) (fun _ U o U' => ∃ v L, o = .returned v ∧ Q2 p1 h0 n0 v U'.heap L ∧ FrameEnd U o U' L ({ frames := 0, cells := 0, slots := 0, locals := 0 } : Room).cells ({ frames := 0, cells := 0, slots := 0, locals := 0 } : Room).slots) := by
  refine MetFree.of_bodySF (plainFor_of_name pn_2) hisR ?_
  intro p e s m args below meth c s₁ Bd hml0 hP hK
  obtain ⟨rfl, hZ, hh⟩ := hP
  have hx := Bd.exec
  have hby := Bd.bytes
  have hml : c.maxLocals = 1 := hml0
  have hown : s.vm.findClass "com/example/entitle/entitle/value/LexicalIsXmlCharPinLaw" = some m.cls := findClass_of_methodNamed Bd.named
  have hnm := (name_of_methodNamed Bd.named Bd.method).1
  have X0 : Stand p l e ({ frames := 0, cells := 0, slots := 0, locals := 0 } : Room) s m #[(.int p1)] below meth c s₁ [] 0 0 := Stand.of_body Bd
  have e0 : s₁.heap = h0 := by rw [← hh, Bd.state]; rfl
  have N0 := Fr.nil n0
  have pre0 : ∀ t, Steps p.tables e below (s₁.setTop (mkF m 0 #[.val (.int p1)] [])) t → Steps p.tables e below (s₁.setTop (entryFrame m #[(.int p1)] 1)) t := fun t k => castTop (ef_2_I m p1) k
  have pr_1 : ∀ t, Steps p.tables e below (s₁.setTop (mkF m 1 #[.val (.int p1)] [(.int p1)])) t → Steps p.tables e below (s₁.setTop (entryFrame m #[(.int p1)] 1)) t := fun t k => by
    refine pre0 _ ?_
    show Steps p.tables e below (s₁.setTop (mkF m 0 #[.val (.int p1)] [])) _
    refine XS.iloadN X0.here hx rfl (hb hby d2_0) rfl ?_
    exact k
  by_cases hc_2 : p1 < (0 : Int32)
  · obtain ⟨fs, hr, hrun, hended, hW, hsame⟩ := X0.leave (v := some (.int (1 : Int32))) (fun h => by rw [Bd.returns] at h; cases h)
    refine ⟨_, _, pr_1 _ ?_, hrun, hended, _, _, rfl, ?_, ⟨_, rfl⟩, hW, hsame.mono (by decide) (by decide)⟩
    · show Steps p.tables e below (s₁.setTop (mkF m 1 #[.val (.int p1)] [(.int p1)])) _
      refine XS.ifNo X0.here hx rfl (hb hby d2_1) rfl ((if0 _ _).trans (tlt hc_2).2.1) ?_
      show Steps p.tables e below (s₁.setTop (mkF m 4 #[.val (.int p1)] [])) _
      refine XS.iconst X0.here hx rfl (hb hby d2_4) ?_
      show Steps p.tables e below (s₁.setTop (mkF m 5 #[.val (.int p1)] [(.int (1 : Int32))])) _
      exact retN X0 hx (t := .boolean) Bd.returns (by simp) (hb hby d2_5) hr
    · show Q2 p1 h0 n0 _ s₁.heap _
      rw [e0]
      exact ⟨by rw [own_exc, if_pos hc_2], N0, rfl⟩
  · have pr_3 : ∀ t, Steps p.tables e below (s₁.setTop (mkF m 9 #[.val (.int p1)] [(.int (32 : Int32)), (.int p1)])) t → Steps p.tables e below (s₁.setTop (entryFrame m #[(.int p1)] 1)) t := fun t k => by
      refine pr_1 _ ?_
      show Steps p.tables e below (s₁.setTop (mkF m 1 #[.val (.int p1)] [(.int p1)])) _
      refine XS.ifYes X0.here hx rfl (pc0 := 1) (pc' := 6) rfl (hb hby d2_1) rfl ((if0 _ _).trans (flt hc_2).2.1) (by decide) (by decide) ?_
      show Steps p.tables e below (s₁.setTop (mkF m 6 #[.val (.int p1)] [])) _
      refine XS.iloadN X0.here hx rfl (hb hby d2_6) rfl ?_
      show Steps p.tables e below (s₁.setTop (mkF m 7 #[.val (.int p1)] [(.int p1)])) _
      refine XS.bipush X0.here hx rfl (hb hby d2_7) ?_
      exact k
    by_cases hc_4 : p1 < (32 : Int32)
    · have pr_5 : ∀ t, Steps p.tables e below (s₁.setTop (mkF m 15 #[.val (.int p1)] [(.int (9 : Int32)), (.int p1)])) t → Steps p.tables e below (s₁.setTop (entryFrame m #[(.int p1)] 1)) t := fun t k => by
        refine pr_3 _ ?_
        show Steps p.tables e below (s₁.setTop (mkF m 9 #[.val (.int p1)] [(.int (32 : Int32)), (.int p1)])) _
        refine XS.icmpNo X0.here hx rfl (hb hby d2_9) rfl (tlt hc_4).2.1 ?_
        show Steps p.tables e below (s₁.setTop (mkF m 12 #[.val (.int p1)] [])) _
        refine XS.iloadN X0.here hx rfl (hb hby d2_12) rfl ?_
        show Steps p.tables e below (s₁.setTop (mkF m 13 #[.val (.int p1)] [(.int p1)])) _
        refine XS.bipush X0.here hx rfl (hb hby d2_13) ?_
        exact k
      by_cases hc_6 : p1 = (9 : Int32)
      · obtain ⟨fs, hr, hrun, hended, hW, hsame⟩ := X0.leave (v := some (.int (0 : Int32))) (fun h => by rw [Bd.returns] at h; cases h)
        refine ⟨_, _, pr_5 _ ?_, hrun, hended, _, _, rfl, ?_, ⟨_, rfl⟩, hW, hsame.mono (by decide) (by decide)⟩
        · show Steps p.tables e below (s₁.setTop (mkF m 15 #[.val (.int p1)] [(.int (9 : Int32)), (.int p1)])) _
          refine XS.icmpYes X0.here hx rfl (pc0 := 15) (pc' := 34) rfl (hb hby d2_15) rfl (teq hc_6).1 (by decide) (by decide) ?_
          show Steps p.tables e below (s₁.setTop (mkF m 34 #[.val (.int p1)] [])) _
          refine XS.iconst X0.here hx rfl (hb hby d2_34) ?_
          show Steps p.tables e below (s₁.setTop (mkF m 35 #[.val (.int p1)] [(.int (0 : Int32))])) _
          exact retN X0 hx (t := .boolean) Bd.returns (by simp) (hb hby d2_35) hr
        · show Q2 p1 h0 n0 _ s₁.heap _
          rw [e0]
          exact ⟨by rw [own_exc, if_neg hc_2, if_pos hc_4, if_pos hc_6], N0, rfl⟩
      · have pr_7 : ∀ t, Steps p.tables e below (s₁.setTop (mkF m 21 #[.val (.int p1)] [(.int (10 : Int32)), (.int p1)])) t → Steps p.tables e below (s₁.setTop (entryFrame m #[(.int p1)] 1)) t := fun t k => by
          refine pr_5 _ ?_
          show Steps p.tables e below (s₁.setTop (mkF m 15 #[.val (.int p1)] [(.int (9 : Int32)), (.int p1)])) _
          refine XS.icmpNo X0.here hx rfl (hb hby d2_15) rfl (feq hc_6).1 ?_
          show Steps p.tables e below (s₁.setTop (mkF m 18 #[.val (.int p1)] [])) _
          refine XS.iloadN X0.here hx rfl (hb hby d2_18) rfl ?_
          show Steps p.tables e below (s₁.setTop (mkF m 19 #[.val (.int p1)] [(.int p1)])) _
          refine XS.bipush X0.here hx rfl (hb hby d2_19) ?_
          exact k
        by_cases hc_8 : p1 = (10 : Int32)
        · obtain ⟨fs, hr, hrun, hended, hW, hsame⟩ := X0.leave (v := some (.int (0 : Int32))) (fun h => by rw [Bd.returns] at h; cases h)
          refine ⟨_, _, pr_7 _ ?_, hrun, hended, _, _, rfl, ?_, ⟨_, rfl⟩, hW, hsame.mono (by decide) (by decide)⟩
          · show Steps p.tables e below (s₁.setTop (mkF m 21 #[.val (.int p1)] [(.int (10 : Int32)), (.int p1)])) _
            refine XS.icmpYes X0.here hx rfl (pc0 := 21) (pc' := 34) rfl (hb hby d2_21) rfl (teq hc_8).1 (by decide) (by decide) ?_
            show Steps p.tables e below (s₁.setTop (mkF m 34 #[.val (.int p1)] [])) _
            refine XS.iconst X0.here hx rfl (hb hby d2_34) ?_
            show Steps p.tables e below (s₁.setTop (mkF m 35 #[.val (.int p1)] [(.int (0 : Int32))])) _
            exact retN X0 hx (t := .boolean) Bd.returns (by simp) (hb hby d2_35) hr
          · show Q2 p1 h0 n0 _ s₁.heap _
            rw [e0]
            exact ⟨by rw [own_exc, if_neg hc_2, if_pos hc_4, if_neg hc_6, if_pos hc_8], N0, rfl⟩
        · have pr_9 : ∀ t, Steps p.tables e below (s₁.setTop (mkF m 27 #[.val (.int p1)] [(.int (13 : Int32)), (.int p1)])) t → Steps p.tables e below (s₁.setTop (entryFrame m #[(.int p1)] 1)) t := fun t k => by
            refine pr_7 _ ?_
            show Steps p.tables e below (s₁.setTop (mkF m 21 #[.val (.int p1)] [(.int (10 : Int32)), (.int p1)])) _
            refine XS.icmpNo X0.here hx rfl (hb hby d2_21) rfl (feq hc_8).1 ?_
            show Steps p.tables e below (s₁.setTop (mkF m 24 #[.val (.int p1)] [])) _
            refine XS.iloadN X0.here hx rfl (hb hby d2_24) rfl ?_
            show Steps p.tables e below (s₁.setTop (mkF m 25 #[.val (.int p1)] [(.int p1)])) _
            refine XS.bipush X0.here hx rfl (hb hby d2_25) ?_
            exact k
          by_cases hc_10 : p1 = (13 : Int32)
          · obtain ⟨fs, hr, hrun, hended, hW, hsame⟩ := X0.leave (v := some (.int (0 : Int32))) (fun h => by rw [Bd.returns] at h; cases h)
            refine ⟨_, _, pr_9 _ ?_, hrun, hended, _, _, rfl, ?_, ⟨_, rfl⟩, hW, hsame.mono (by decide) (by decide)⟩
            · show Steps p.tables e below (s₁.setTop (mkF m 27 #[.val (.int p1)] [(.int (13 : Int32)), (.int p1)])) _
              refine XS.icmpYes X0.here hx rfl (pc0 := 27) (pc' := 34) rfl (hb hby d2_27) rfl (teq hc_10).1 (by decide) (by decide) ?_
              show Steps p.tables e below (s₁.setTop (mkF m 34 #[.val (.int p1)] [])) _
              refine XS.iconst X0.here hx rfl (hb hby d2_34) ?_
              show Steps p.tables e below (s₁.setTop (mkF m 35 #[.val (.int p1)] [(.int (0 : Int32))])) _
              exact retN X0 hx (t := .boolean) Bd.returns (by simp) (hb hby d2_35) hr
            · show Q2 p1 h0 n0 _ s₁.heap _
              rw [e0]
              exact ⟨by rw [own_exc, if_neg hc_2, if_pos hc_4, if_neg hc_6, if_neg hc_8, if_pos hc_10], N0, rfl⟩
          · obtain ⟨fs, hr, hrun, hended, hW, hsame⟩ := X0.leave (v := some (.int (1 : Int32))) (fun h => by rw [Bd.returns] at h; cases h)
            refine ⟨_, _, pr_9 _ ?_, hrun, hended, _, _, rfl, ?_, ⟨_, rfl⟩, hW, hsame.mono (by decide) (by decide)⟩
            · show Steps p.tables e below (s₁.setTop (mkF m 27 #[.val (.int p1)] [(.int (13 : Int32)), (.int p1)])) _
              refine XS.icmpNo X0.here hx rfl (hb hby d2_27) rfl (feq hc_10).1 ?_
              show Steps p.tables e below (s₁.setTop (mkF m 30 #[.val (.int p1)] [])) _
              refine XS.iconst X0.here hx rfl (hb hby d2_30) ?_
              show Steps p.tables e below (s₁.setTop (mkF m 31 #[.val (.int p1)] [(.int (1 : Int32))])) _
              refine XS.goto X0.here hx rfl (pc0 := 31) (pc' := 35) rfl (hb hby d2_31) (by decide) (by decide) ?_
              show Steps p.tables e below (s₁.setTop (mkF m 35 #[.val (.int p1)] [(.int (1 : Int32))])) _
              exact retN X0 hx (t := .boolean) Bd.returns (by simp) (hb hby d2_35) hr
            · show Q2 p1 h0 n0 _ s₁.heap _
              rw [e0]
              exact ⟨by rw [own_exc, if_neg hc_2, if_pos hc_4, if_neg hc_6, if_neg hc_8, if_neg hc_10], N0, rfl⟩
    · have pr_11 : ∀ t, Steps p.tables e below (s₁.setTop (mkF m 39 #[.val (.int p1)] [(.int (55296 : Int32)), (.int p1)])) t → Steps p.tables e below (s₁.setTop (entryFrame m #[(.int p1)] 1)) t := fun t k => by
        refine pr_3 _ ?_
        show Steps p.tables e below (s₁.setTop (mkF m 9 #[.val (.int p1)] [(.int (32 : Int32)), (.int p1)])) _
        refine XS.icmpYes X0.here hx rfl (pc0 := 9) (pc' := 36) rfl (hb hby d2_9) rfl (flt hc_4).2.1 (by decide) (by decide) ?_
        show Steps p.tables e below (s₁.setTop (mkF m 36 #[.val (.int p1)] [])) _
        refine XS.iloadN X0.here hx rfl (hb hby d2_36) rfl ?_
        show Steps p.tables e below (s₁.setTop (mkF m 37 #[.val (.int p1)] [(.int p1)])) _
        refine X0.ldcInt hx hown (mvT hZ (hw _ (List.mem_of_getElem? (i := 12) rfl))) (g := (mkF m 37 #[.val (.int p1)] [(.int p1)])) rfl (hb hby d2_37) _ ?_
        exact k
      by_cases hc_12 : p1 < (55296 : Int32)
      · have pr_13 : ∀ t, Steps p.tables e below (s₁.setTop (mkF m 53 #[.val (.int p1)] [(.int (65534 : Int32)), (.int p1)])) t → Steps p.tables e below (s₁.setTop (entryFrame m #[(.int p1)] 1)) t := fun t k => by
          refine pr_11 _ ?_
          show Steps p.tables e below (s₁.setTop (mkF m 39 #[.val (.int p1)] [(.int (55296 : Int32)), (.int p1)])) _
          refine XS.icmpYes X0.here hx rfl (pc0 := 39) (pc' := 50) rfl (hb hby d2_39) rfl (tlt hc_12).1 (by decide) (by decide) ?_
          show Steps p.tables e below (s₁.setTop (mkF m 50 #[.val (.int p1)] [])) _
          refine XS.iloadN X0.here hx rfl (hb hby d2_50) rfl ?_
          show Steps p.tables e below (s₁.setTop (mkF m 51 #[.val (.int p1)] [(.int p1)])) _
          refine X0.ldcInt hx hown (mvT hZ (hw _ (List.mem_of_getElem? (i := 13) rfl))) (g := (mkF m 51 #[.val (.int p1)] [(.int p1)])) rfl (hb hby d2_51) _ ?_
          exact k
        by_cases hc_14 : p1 = (65534 : Int32)
        · obtain ⟨fs, hr, hrun, hended, hW, hsame⟩ := X0.leave (v := some (.int (1 : Int32))) (fun h => by rw [Bd.returns] at h; cases h)
          refine ⟨_, _, pr_13 _ ?_, hrun, hended, _, _, rfl, ?_, ⟨_, rfl⟩, hW, hsame.mono (by decide) (by decide)⟩
          · show Steps p.tables e below (s₁.setTop (mkF m 53 #[.val (.int p1)] [(.int (65534 : Int32)), (.int p1)])) _
            refine XS.icmpYes X0.here hx rfl (pc0 := 53) (pc' := 62) rfl (hb hby d2_53) rfl (teq hc_14).1 (by decide) (by decide) ?_
            show Steps p.tables e below (s₁.setTop (mkF m 62 #[.val (.int p1)] [])) _
            refine XS.iconst X0.here hx rfl (hb hby d2_62) ?_
            show Steps p.tables e below (s₁.setTop (mkF m 63 #[.val (.int p1)] [(.int (1 : Int32))])) _
            refine XS.goto X0.here hx rfl (pc0 := 63) (pc' := 67) rfl (hb hby d2_63) (by decide) (by decide) ?_
            show Steps p.tables e below (s₁.setTop (mkF m 67 #[.val (.int p1)] [(.int (1 : Int32))])) _
            exact retN X0 hx (t := .boolean) Bd.returns (by simp) (hb hby d2_67) hr
          · show Q2 p1 h0 n0 _ s₁.heap _
            rw [e0]
            exact ⟨by rw [own_exc, if_neg hc_2, if_neg hc_4, if_pos hc_12, if_pos hc_14], N0, rfl⟩
        · have pr_15 : ∀ t, Steps p.tables e below (s₁.setTop (mkF m 59 #[.val (.int p1)] [(.int (65535 : Int32)), (.int p1)])) t → Steps p.tables e below (s₁.setTop (entryFrame m #[(.int p1)] 1)) t := fun t k => by
            refine pr_13 _ ?_
            show Steps p.tables e below (s₁.setTop (mkF m 53 #[.val (.int p1)] [(.int (65534 : Int32)), (.int p1)])) _
            refine XS.icmpNo X0.here hx rfl (hb hby d2_53) rfl (feq hc_14).1 ?_
            show Steps p.tables e below (s₁.setTop (mkF m 56 #[.val (.int p1)] [])) _
            refine XS.iloadN X0.here hx rfl (hb hby d2_56) rfl ?_
            show Steps p.tables e below (s₁.setTop (mkF m 57 #[.val (.int p1)] [(.int p1)])) _
            refine X0.ldcInt hx hown (mvT hZ (hw _ (List.mem_of_getElem? (i := 14) rfl))) (g := (mkF m 57 #[.val (.int p1)] [(.int p1)])) rfl (hb hby d2_57) _ ?_
            exact k
          by_cases hc_16 : p1 = (65535 : Int32)
          · obtain ⟨fs, hr, hrun, hended, hW, hsame⟩ := X0.leave (v := some (.int (1 : Int32))) (fun h => by rw [Bd.returns] at h; cases h)
            refine ⟨_, _, pr_15 _ ?_, hrun, hended, _, _, rfl, ?_, ⟨_, rfl⟩, hW, hsame.mono (by decide) (by decide)⟩
            · show Steps p.tables e below (s₁.setTop (mkF m 59 #[.val (.int p1)] [(.int (65535 : Int32)), (.int p1)])) _
              refine XS.icmpNo X0.here hx rfl (hb hby d2_59) rfl (teq hc_16).2 ?_
              show Steps p.tables e below (s₁.setTop (mkF m 62 #[.val (.int p1)] [])) _
              refine XS.iconst X0.here hx rfl (hb hby d2_62) ?_
              show Steps p.tables e below (s₁.setTop (mkF m 63 #[.val (.int p1)] [(.int (1 : Int32))])) _
              refine XS.goto X0.here hx rfl (pc0 := 63) (pc' := 67) rfl (hb hby d2_63) (by decide) (by decide) ?_
              show Steps p.tables e below (s₁.setTop (mkF m 67 #[.val (.int p1)] [(.int (1 : Int32))])) _
              exact retN X0 hx (t := .boolean) Bd.returns (by simp) (hb hby d2_67) hr
            · show Q2 p1 h0 n0 _ s₁.heap _
              rw [e0]
              exact ⟨by rw [own_exc, if_neg hc_2, if_neg hc_4, if_pos hc_12, if_neg hc_14, if_pos hc_16], N0, rfl⟩
          · obtain ⟨fs, hr, hrun, hended, hW, hsame⟩ := X0.leave (v := some (.int (0 : Int32))) (fun h => by rw [Bd.returns] at h; cases h)
            refine ⟨_, _, pr_15 _ ?_, hrun, hended, _, _, rfl, ?_, ⟨_, rfl⟩, hW, hsame.mono (by decide) (by decide)⟩
            · show Steps p.tables e below (s₁.setTop (mkF m 59 #[.val (.int p1)] [(.int (65535 : Int32)), (.int p1)])) _
              refine XS.icmpYes X0.here hx rfl (pc0 := 59) (pc' := 66) rfl (hb hby d2_59) rfl (feq hc_16).2 (by decide) (by decide) ?_
              show Steps p.tables e below (s₁.setTop (mkF m 66 #[.val (.int p1)] [])) _
              refine XS.iconst X0.here hx rfl (hb hby d2_66) ?_
              show Steps p.tables e below (s₁.setTop (mkF m 67 #[.val (.int p1)] [(.int (0 : Int32))])) _
              exact retN X0 hx (t := .boolean) Bd.returns (by simp) (hb hby d2_67) hr
            · show Q2 p1 h0 n0 _ s₁.heap _
              rw [e0]
              exact ⟨by rw [own_exc, if_neg hc_2, if_neg hc_4, if_pos hc_12, if_neg hc_14, if_neg hc_16], N0, rfl⟩
      · have pr_17 : ∀ t, Steps p.tables e below (s₁.setTop (mkF m 45 #[.val (.int p1)] [(.int (57343 : Int32)), (.int p1)])) t → Steps p.tables e below (s₁.setTop (entryFrame m #[(.int p1)] 1)) t := fun t k => by
          refine pr_11 _ ?_
          show Steps p.tables e below (s₁.setTop (mkF m 39 #[.val (.int p1)] [(.int (55296 : Int32)), (.int p1)])) _
          refine XS.icmpNo X0.here hx rfl (hb hby d2_39) rfl (flt hc_12).1 ?_
          show Steps p.tables e below (s₁.setTop (mkF m 42 #[.val (.int p1)] [])) _
          refine XS.iloadN X0.here hx rfl (hb hby d2_42) rfl ?_
          show Steps p.tables e below (s₁.setTop (mkF m 43 #[.val (.int p1)] [(.int p1)])) _
          refine X0.ldcInt hx hown (mvT hZ (hw _ (List.mem_of_getElem? (i := 17) rfl))) (g := (mkF m 43 #[.val (.int p1)] [(.int p1)])) rfl (hb hby d2_43) _ ?_
          exact k
        by_cases hc_18 : (57343 : Int32) < p1
        · have pr_19 : ∀ t, Steps p.tables e below (s₁.setTop (mkF m 53 #[.val (.int p1)] [(.int (65534 : Int32)), (.int p1)])) t → Steps p.tables e below (s₁.setTop (entryFrame m #[(.int p1)] 1)) t := fun t k => by
            refine pr_17 _ ?_
            show Steps p.tables e below (s₁.setTop (mkF m 45 #[.val (.int p1)] [(.int (57343 : Int32)), (.int p1)])) _
            refine XS.icmpYes X0.here hx rfl (pc0 := 45) (pc' := 50) rfl (hb hby d2_45) rfl (tlt hc_18).2.2.1 (by decide) (by decide) ?_
            show Steps p.tables e below (s₁.setTop (mkF m 50 #[.val (.int p1)] [])) _
            refine XS.iloadN X0.here hx rfl (hb hby d2_50) rfl ?_
            show Steps p.tables e below (s₁.setTop (mkF m 51 #[.val (.int p1)] [(.int p1)])) _
            refine X0.ldcInt hx hown (mvT hZ (hw _ (List.mem_of_getElem? (i := 13) rfl))) (g := (mkF m 51 #[.val (.int p1)] [(.int p1)])) rfl (hb hby d2_51) _ ?_
            exact k
          by_cases hc_20 : p1 = (65534 : Int32)
          · obtain ⟨fs, hr, hrun, hended, hW, hsame⟩ := X0.leave (v := some (.int (1 : Int32))) (fun h => by rw [Bd.returns] at h; cases h)
            refine ⟨_, _, pr_19 _ ?_, hrun, hended, _, _, rfl, ?_, ⟨_, rfl⟩, hW, hsame.mono (by decide) (by decide)⟩
            · show Steps p.tables e below (s₁.setTop (mkF m 53 #[.val (.int p1)] [(.int (65534 : Int32)), (.int p1)])) _
              refine XS.icmpYes X0.here hx rfl (pc0 := 53) (pc' := 62) rfl (hb hby d2_53) rfl (teq hc_20).1 (by decide) (by decide) ?_
              show Steps p.tables e below (s₁.setTop (mkF m 62 #[.val (.int p1)] [])) _
              refine XS.iconst X0.here hx rfl (hb hby d2_62) ?_
              show Steps p.tables e below (s₁.setTop (mkF m 63 #[.val (.int p1)] [(.int (1 : Int32))])) _
              refine XS.goto X0.here hx rfl (pc0 := 63) (pc' := 67) rfl (hb hby d2_63) (by decide) (by decide) ?_
              show Steps p.tables e below (s₁.setTop (mkF m 67 #[.val (.int p1)] [(.int (1 : Int32))])) _
              exact retN X0 hx (t := .boolean) Bd.returns (by simp) (hb hby d2_67) hr
            · show Q2 p1 h0 n0 _ s₁.heap _
              rw [e0]
              exact ⟨by rw [own_exc, if_neg hc_2, if_neg hc_4, if_neg hc_12, if_pos hc_18, if_pos hc_20], N0, rfl⟩
          · have pr_21 : ∀ t, Steps p.tables e below (s₁.setTop (mkF m 59 #[.val (.int p1)] [(.int (65535 : Int32)), (.int p1)])) t → Steps p.tables e below (s₁.setTop (entryFrame m #[(.int p1)] 1)) t := fun t k => by
              refine pr_19 _ ?_
              show Steps p.tables e below (s₁.setTop (mkF m 53 #[.val (.int p1)] [(.int (65534 : Int32)), (.int p1)])) _
              refine XS.icmpNo X0.here hx rfl (hb hby d2_53) rfl (feq hc_20).1 ?_
              show Steps p.tables e below (s₁.setTop (mkF m 56 #[.val (.int p1)] [])) _
              refine XS.iloadN X0.here hx rfl (hb hby d2_56) rfl ?_
              show Steps p.tables e below (s₁.setTop (mkF m 57 #[.val (.int p1)] [(.int p1)])) _
              refine X0.ldcInt hx hown (mvT hZ (hw _ (List.mem_of_getElem? (i := 14) rfl))) (g := (mkF m 57 #[.val (.int p1)] [(.int p1)])) rfl (hb hby d2_57) _ ?_
              exact k
            by_cases hc_22 : p1 = (65535 : Int32)
            · obtain ⟨fs, hr, hrun, hended, hW, hsame⟩ := X0.leave (v := some (.int (1 : Int32))) (fun h => by rw [Bd.returns] at h; cases h)
              refine ⟨_, _, pr_21 _ ?_, hrun, hended, _, _, rfl, ?_, ⟨_, rfl⟩, hW, hsame.mono (by decide) (by decide)⟩
              · show Steps p.tables e below (s₁.setTop (mkF m 59 #[.val (.int p1)] [(.int (65535 : Int32)), (.int p1)])) _
                refine XS.icmpNo X0.here hx rfl (hb hby d2_59) rfl (teq hc_22).2 ?_
                show Steps p.tables e below (s₁.setTop (mkF m 62 #[.val (.int p1)] [])) _
                refine XS.iconst X0.here hx rfl (hb hby d2_62) ?_
                show Steps p.tables e below (s₁.setTop (mkF m 63 #[.val (.int p1)] [(.int (1 : Int32))])) _
                refine XS.goto X0.here hx rfl (pc0 := 63) (pc' := 67) rfl (hb hby d2_63) (by decide) (by decide) ?_
                show Steps p.tables e below (s₁.setTop (mkF m 67 #[.val (.int p1)] [(.int (1 : Int32))])) _
                exact retN X0 hx (t := .boolean) Bd.returns (by simp) (hb hby d2_67) hr
              · show Q2 p1 h0 n0 _ s₁.heap _
                rw [e0]
                exact ⟨by rw [own_exc, if_neg hc_2, if_neg hc_4, if_neg hc_12, if_pos hc_18, if_neg hc_20, if_pos hc_22], N0, rfl⟩
            · obtain ⟨fs, hr, hrun, hended, hW, hsame⟩ := X0.leave (v := some (.int (0 : Int32))) (fun h => by rw [Bd.returns] at h; cases h)
              refine ⟨_, _, pr_21 _ ?_, hrun, hended, _, _, rfl, ?_, ⟨_, rfl⟩, hW, hsame.mono (by decide) (by decide)⟩
              · show Steps p.tables e below (s₁.setTop (mkF m 59 #[.val (.int p1)] [(.int (65535 : Int32)), (.int p1)])) _
                refine XS.icmpYes X0.here hx rfl (pc0 := 59) (pc' := 66) rfl (hb hby d2_59) rfl (feq hc_22).2 (by decide) (by decide) ?_
                show Steps p.tables e below (s₁.setTop (mkF m 66 #[.val (.int p1)] [])) _
                refine XS.iconst X0.here hx rfl (hb hby d2_66) ?_
                show Steps p.tables e below (s₁.setTop (mkF m 67 #[.val (.int p1)] [(.int (0 : Int32))])) _
                exact retN X0 hx (t := .boolean) Bd.returns (by simp) (hb hby d2_67) hr
              · show Q2 p1 h0 n0 _ s₁.heap _
                rw [e0]
                exact ⟨by rw [own_exc, if_neg hc_2, if_neg hc_4, if_neg hc_12, if_pos hc_18, if_neg hc_20, if_neg hc_22], N0, rfl⟩
        · obtain ⟨fs, hr, hrun, hended, hW, hsame⟩ := X0.leave (v := some (.int (1 : Int32))) (fun h => by rw [Bd.returns] at h; cases h)
          refine ⟨_, _, pr_17 _ ?_, hrun, hended, _, _, rfl, ?_, ⟨_, rfl⟩, hW, hsame.mono (by decide) (by decide)⟩
          · show Steps p.tables e below (s₁.setTop (mkF m 45 #[.val (.int p1)] [(.int (57343 : Int32)), (.int p1)])) _
            refine XS.icmpNo X0.here hx rfl (hb hby d2_45) rfl (flt hc_18).2.2.1 ?_
            show Steps p.tables e below (s₁.setTop (mkF m 48 #[.val (.int p1)] [])) _
            refine XS.iconst X0.here hx rfl (hb hby d2_48) ?_
            show Steps p.tables e below (s₁.setTop (mkF m 49 #[.val (.int p1)] [(.int (1 : Int32))])) _
            exact retN X0 hx (t := .boolean) Bd.returns (by simp) (hb hby d2_49) hr
          · show Q2 p1 h0 n0 _ s₁.heap _
            rw [e0]
            exact ⟨by rw [own_exc, if_neg hc_2, if_neg hc_4, if_neg hc_12, if_neg hc_18], N0, rfl⟩
theorem own_lits : (0 : Int32).toInt = 0 ∧ (32 : Int32).toInt = 32 ∧ (9 : Int32).toInt = 9 ∧ (10 : Int32).toInt = 10 ∧ (13 : Int32).toInt = 13 ∧ (55295 : Int32).toInt = 55295 ∧ (55296 : Int32).toInt = 55296 ∧ (57343 : Int32).toInt = 57343 ∧ (57344 : Int32).toInt = 57344 ∧ (65533 : Int32).toInt = 65533 ∧ (65534 : Int32).toInt = 65534 ∧ (65535 : Int32).toInt = 65535 ∧ (65536 : Int32).toInt = 65536 := by decide
set_option maxHeartbeats 40000000 in
theorem own_in (p1 : Int32) (h : own_exc p1 = 0) : own_xml p1 = 1 := by
  obtain ⟨k1, k2, k3, k4, k5, k6, k7, k8, k9, k10, k11, k12, k13⟩ := own_lits
  revert h
  unfold own_xml own_exc
  simp only [Int32.lt_iff_toInt_lt, ← Int32.toInt_inj (x := p1), k1, k2, k3, k4, k5, k6, k7, k8, k9, k10, k11, k12, k13]
  generalize p1.toInt = n
  (repeat' split) <;> first | (intro _; rfl) | (intro h; exact absurd h (by decide)) | (exfalso; omega)
set_option maxHeartbeats 40000000 in
theorem own_out (p1 : Int32) (h : ¬ (own_exc p1 = 0)) : own_xml p1 = 0 := by
  obtain ⟨k1, k2, k3, k4, k5, k6, k7, k8, k9, k10, k11, k12, k13⟩ := own_lits
  revert h
  unfold own_xml own_exc
  simp only [Int32.lt_iff_toInt_lt, ← Int32.toInt_inj (x := p1), k1, k2, k3, k4, k5, k6, k7, k8, k9, k10, k11, k12, k13]
  generalize p1.toInt = n
  (repeat' split) <;> first | (intro _; rfl) | (intro h; exact absurd rfl h) | (exfalso; omega)
theorem pd_1 : parseMethodDescriptor "(I)Z" = some ⟨[.int], some .boolean⟩ := by decide +kernel
theorem ef_0_I (m : MethodId) (x0 : Int32) : entryFrame m #[(.int x0)] maxLocals = mkF m 0 #[.val (.int x0), .unset] [] := by first | (simp [entryFrame, mkF, argsToLocals, Value.category, maxLocals]; done) | rfl
def Q0 (n0 : Nat) (v : Option Value) (h : Heap) (L : List Loc) : Prop := v = some (.int (1 : Int32)) ∧ Fr n0 L
theorem pn_0 : plainName "com/example/entitle/entitle/value/LexicalIsXmlCharPinLaw" = true := by first | (simp [plainName, overriddenIn]; done) | decide +kernel
set_option maxRecDepth 65536 in
set_option maxHeartbeats 40000000 in
theorem rm0 (l : Launch) (Z : State) (a0 : Array Value) (hw : ∀ d ∈ tables_1, d.before a0 Z = true) (ws : List Jvm.Cond) (p1 : Int32) (h0 : Heap) (n0 : Nat) (Z0 : n0 ≤ h0.size)  :
    MetFree l x (head1 (Jvm.Cond.code x code maxLocals ret :: ws) room_1) (fun a U => a = #[(.int p1)] ∧ Z.Warmed39 U.vm ∧ U.heap = h0) (fun _ _ _ _ _ => True) (fun _ U o U' => ∃ v L, o = .returned v ∧ Q0 n0 v U'.heap L ∧ FrameEnd U o U' L room_1.cells room_1.slots) := by
  refine MetFree.of_bodySF (plainFor_of_name pn_0) hisR ?_
  intro p e s m args below meth c s₁ Bd hml0 hP hK
  obtain ⟨rfl, hZ, hh⟩ := hP
  have hx := Bd.exec
  have hby := Bd.bytes
  have hml : c.maxLocals = 2 := hml0
  have hown : s.vm.findClass "com/example/entitle/entitle/value/LexicalIsXmlCharPinLaw" = some m.cls := findClass_of_methodNamed Bd.named
  have hnm := (name_of_methodNamed Bd.named Bd.method).1
  have X0 : Stand p l e room_1 s m #[(.int p1)] below meth c s₁ [] 0 0 := Stand.of_body Bd
  have e0 : s₁.heap = h0 := by rw [← hh, Bd.state]; rfl
  have N0 := Fr.nil n0
  have pre0 : ∀ t, Steps p.tables e below (s₁.setTop (mkF m 0 #[.val (.int p1), .unset] [])) t → Steps p.tables e below (s₁.setTop (entryFrame m #[(.int p1)] maxLocals)) t := fun t k => castTop (ef_0_I m p1) k
  have pr_1 : ∀ t, Steps p.tables e below (s₁.setTop (mkF m 3 #[.val (.int p1), .unset] [(.int (1114111 : Int32)), (.int p1)])) t → Steps p.tables e below (s₁.setTop (entryFrame m #[(.int p1)] maxLocals)) t := fun t k => by
    refine pre0 _ ?_
    show Steps p.tables e below (s₁.setTop (mkF m 0 #[.val (.int p1), .unset] [])) _
    refine XS.iloadN X0.here hx rfl (hb hby at_0) rfl ?_
    show Steps p.tables e below (s₁.setTop (mkF m 1 #[.val (.int p1), .unset] [(.int p1)])) _
    refine X0.ldcInt hx hown (mvT hZ (hw _ (List.mem_of_getElem? (i := 0) rfl))) (g := (mkF m 1 #[.val (.int p1), .unset] [(.int p1)])) rfl (hb hby at_1) _ ?_
    exact k
  by_cases hc_2 : (1114111 : Int32) < p1
  · obtain ⟨_, _, ⟨T_3, L_3, k_3, n_3⟩, -, X_3, ⟨Lc_3, hQ_3, l_3, y_3, z_3⟩, st_3⟩ := Jvm.LawKit.callS X0 hx (y := (⟨"com/example/entitle/entitle/value/Lexical", "isXmlChar", "(I)Z"⟩ : MethodName)) hown (mvT hZ (hw _ (List.mem_of_getElem? (i := 1) rfl))) (mvT hZ (hw _ (List.mem_of_getElem? (i := 2) rfl))) (mvT hZ (hw _ (List.mem_of_getElem? (i := 3) rfl))) (mvT hZ (hw _ (List.mem_of_getElem? (i := 4) rfl))) (by decide) (backOf (W := 0) (rm1 l Z a0 hw [] (p1 % (1114112 : Int32)) h0 n0 Z0) hZ (hw _ (List.mem_of_getElem? (i := 4) rfl)) (hw _ (List.mem_of_getElem? (i := 3) rfl)) (by decide) (by decide)) (g := (mkF m 16 #[.val (.int p1), .val (.int (p1 % (1114112 : Int32)))] [(.int (p1 % (1114112 : Int32)))])) rfl (by rw [hml]; rfl) (argsL := [(.int (p1 % (1114112 : Int32)))]) (rest := []) (lenOf pd_1 rfl) rfl (by show 2 * 0 + _ ≤ _; exact Nat.le_of_eq rfl) (hb hby at_16) (fun _ _ => ⟨rfl, e0, (by decide : 0 + 0 ≤ _), (by decide : 0 + 0 ≤ _)⟩)
    dsimp only [Pt.U, Pt.locs, Pt.cells, Pt.slots] at X_3 l_3 y_3 z_3 st_3 hQ_3
    subst l_3 y_3 z_3
    obtain ⟨rfl, N_3q, e_3⟩ := hQ_3
    have N_3 := Fr.app N0 N_3q
    obtain ⟨_, _, ⟨T_4, L_4, k_4, n_4⟩, -, X_4, ⟨Lc_4, hQ_4, l_4, y_4, z_4⟩, st_4⟩ := Jvm.LawKit.callS X_3 hx (y := (⟨"com/example/entitle/entitle/value/LexicalIsXmlCharPinLaw", "excluded", "(I)Z"⟩ : MethodName)) hown (mvT hZ (hw _ (List.mem_of_getElem? (i := 7) rfl))) (mvT hZ (hw _ (List.mem_of_getElem? (i := 8) rfl))) (mvT hZ (hw _ (List.mem_of_getElem? (i := 9) rfl))) (mvT hZ (hw _ (List.mem_of_getElem? (i := 10) rfl))) (by decide) (backOf (W := 1) (rm2 l Z a0 hw [] (p1 % (1114112 : Int32)) h0 n0 Z0) hZ (hw _ (List.mem_of_getElem? (i := 10) rfl)) (hw _ (List.mem_of_getElem? (i := 9) rfl)) (by decide) (by decide)) (g := (mkF m 20 #[.val (.int p1), .val (.int (p1 % (1114112 : Int32)))] [(.int (p1 % (1114112 : Int32))), (.int (own_xml (p1 % (1114112 : Int32))))])) rfl (by rw [hml]; rfl) (argsL := [(.int (p1 % (1114112 : Int32)))]) (rest := [(.int (own_xml (p1 % (1114112 : Int32))))]) (lenOf pd_1 rfl) rfl (by show 2 * 0 + _ ≤ _; exact Nat.le_of_eq rfl) (hb hby at_20) (fun _ _ => ⟨rfl, e_3, (by decide : 0 + 0 ≤ _), (by decide : 0 + 0 ≤ _)⟩)
    dsimp only [Pt.U, Pt.locs, Pt.cells, Pt.slots] at X_4 l_4 y_4 z_4 st_4 hQ_4
    subst l_4 y_4 z_4
    obtain ⟨rfl, N_4q, e_4⟩ := hQ_4
    have N_4 := Fr.app N_3 N_4q
    have pr_5 : ∀ t, Steps p.tables e below (T_4.setTop (mkF m 23 #[.val (.int p1), .val (.int (p1 % (1114112 : Int32)))] [(.int (own_exc (p1 % (1114112 : Int32)))), (.int (own_xml (p1 % (1114112 : Int32))))])) t → Steps p.tables e below (s₁.setTop (entryFrame m #[(.int p1)] maxLocals)) t := fun t k => by
      refine pr_1 _ ?_
      show Steps p.tables e below (s₁.setTop (mkF m 3 #[.val (.int p1), .unset] [(.int (1114111 : Int32)), (.int p1)])) _
      refine XS.icmpNo X0.here hx rfl (hb hby at_3) rfl (tlt hc_2).2.2.2 ?_
      show Steps p.tables e below (s₁.setTop (mkF m 6 #[.val (.int p1), .unset] [])) _
      refine XS.iloadN X0.here hx rfl (hb hby at_6) rfl ?_
      show Steps p.tables e below (s₁.setTop (mkF m 7 #[.val (.int p1), .unset] [(.int p1)])) _
      refine X0.ldcInt hx hown (mvT hZ (hw _ (List.mem_of_getElem? (i := 15) rfl))) (g := (mkF m 7 #[.val (.int p1), .unset] [(.int p1)])) rfl (hb hby at_7) _ ?_
      show Steps p.tables e below (s₁.setTop (mkF m 9 #[.val (.int p1), .unset] [(.int (1114112 : Int32)), (.int p1)])) _
      refine iremM X0 hx rfl (hb hby at_9) rfl (by decide) ?_
      show Steps p.tables e below (s₁.setTop (mkF m 10 #[.val (.int p1), .unset] [(.int (p1 % (1114112 : Int32)))])) _
      refine XS.goto X0.here hx rfl (pc0 := 10) (pc' := 14) rfl (hb hby at_10) (by decide) (by decide) ?_
      show Steps p.tables e below (s₁.setTop (mkF m 14 #[.val (.int p1), .unset] [(.int (p1 % (1114112 : Int32)))])) _
      refine XS.istoreN X0.here hx rfl (hb hby at_14) rfl (l' := #[.val (.int p1), .val (.int (p1 % (1114112 : Int32)))]) rfl ?_
      show Steps p.tables e below (s₁.setTop (mkF m 15 #[.val (.int p1), .val (.int (p1 % (1114112 : Int32)))] [])) _
      refine XS.iloadN X0.here hx rfl (hb hby at_15) rfl ?_
      show Steps p.tables e below (s₁.setTop (mkF m 16 #[.val (.int p1), .val (.int (p1 % (1114112 : Int32)))] [(.int (p1 % (1114112 : Int32)))])) _
      refine st_3 _ ?_
      show Steps p.tables e below (T_3.setTop (mkF m 19 #[.val (.int p1), .val (.int (p1 % (1114112 : Int32)))] [(.int (own_xml (p1 % (1114112 : Int32))))])) _
      refine XS.iloadN X_3.here hx rfl (hb hby at_19) rfl ?_
      show Steps p.tables e below (T_3.setTop (mkF m 20 #[.val (.int p1), .val (.int (p1 % (1114112 : Int32)))] [(.int (p1 % (1114112 : Int32))), (.int (own_xml (p1 % (1114112 : Int32))))])) _
      refine st_4 _ ?_
      exact k
    by_cases hc_6 : (own_exc (p1 % (1114112 : Int32))) = (0 : Int32)
    · obtain ⟨fs, hr, hrun, hended, hW, hsame⟩ := X_4.leave (v := some (.int (1 : Int32))) (fun h => by rw [Bd.returns] at h; cases h)
      refine ⟨_, _, pr_5 _ ?_, hrun, hended, _, _, rfl, ?_, ⟨_, rfl⟩, hW, hsame.mono (by decide) (by decide)⟩
      · show Steps p.tables e below (T_4.setTop (mkF m 23 #[.val (.int p1), .val (.int (p1 % (1114112 : Int32)))] [(.int (own_exc (p1 % (1114112 : Int32)))), (.int (own_xml (p1 % (1114112 : Int32))))])) _
        refine XS.ifNo X_4.here hx rfl (hb hby at_23) rfl ((if0 _ _).trans (teq hc_6).2) ?_
        show Steps p.tables e below (T_4.setTop (mkF m 26 #[.val (.int p1), .val (.int (p1 % (1114112 : Int32)))] [(.int (own_xml (p1 % (1114112 : Int32))))])) _
        refine XS.iconst X_4.here hx rfl (hb hby at_26) ?_
        show Steps p.tables e below (T_4.setTop (mkF m 27 #[.val (.int p1), .val (.int (p1 % (1114112 : Int32)))] [(.int (1 : Int32)), (.int (own_xml (p1 % (1114112 : Int32))))])) _
        refine XS.goto X_4.here hx rfl (pc0 := 27) (pc' := 31) rfl (hb hby at_27) (by decide) (by decide) ?_
        show Steps p.tables e below (T_4.setTop (mkF m 31 #[.val (.int p1), .val (.int (p1 % (1114112 : Int32)))] [(.int (1 : Int32)), (.int (own_xml (p1 % (1114112 : Int32))))])) _
        refine XS.icmpNo X_4.here hx rfl (hb hby at_31) rfl (teq ((own_in _ hc_6) : (own_xml (p1 % (1114112 : Int32))) = (1 : Int32))).2 ?_
        show Steps p.tables e below (T_4.setTop (mkF m 34 #[.val (.int p1), .val (.int (p1 % (1114112 : Int32)))] [])) _
        refine XS.iconst X_4.here hx rfl (hb hby at_34) ?_
        show Steps p.tables e below (T_4.setTop (mkF m 35 #[.val (.int p1), .val (.int (p1 % (1114112 : Int32)))] [(.int (1 : Int32))])) _
        refine XS.goto X_4.here hx rfl (pc0 := 35) (pc' := 39) rfl (hb hby at_35) (by decide) (by decide) ?_
        show Steps p.tables e below (T_4.setTop (mkF m 39 #[.val (.int p1), .val (.int (p1 % (1114112 : Int32)))] [(.int (1 : Int32))])) _
        exact retN X_4 hx (t := .boolean) Bd.returns (by simp) (hb hby at_39) hr
      · exact ⟨rfl, N_4⟩
    · obtain ⟨fs, hr, hrun, hended, hW, hsame⟩ := X_4.leave (v := some (.int (1 : Int32))) (fun h => by rw [Bd.returns] at h; cases h)
      refine ⟨_, _, pr_5 _ ?_, hrun, hended, _, _, rfl, ?_, ⟨_, rfl⟩, hW, hsame.mono (by decide) (by decide)⟩
      · show Steps p.tables e below (T_4.setTop (mkF m 23 #[.val (.int p1), .val (.int (p1 % (1114112 : Int32)))] [(.int (own_exc (p1 % (1114112 : Int32)))), (.int (own_xml (p1 % (1114112 : Int32))))])) _
        refine XS.ifYes X_4.here hx rfl (pc0 := 23) (pc' := 30) rfl (hb hby at_23) rfl ((if0 _ _).trans (feq hc_6).2) (by decide) (by decide) ?_
        show Steps p.tables e below (T_4.setTop (mkF m 30 #[.val (.int p1), .val (.int (p1 % (1114112 : Int32)))] [(.int (own_xml (p1 % (1114112 : Int32))))])) _
        refine XS.iconst X_4.here hx rfl (hb hby at_30) ?_
        show Steps p.tables e below (T_4.setTop (mkF m 31 #[.val (.int p1), .val (.int (p1 % (1114112 : Int32)))] [(.int (0 : Int32)), (.int (own_xml (p1 % (1114112 : Int32))))])) _
        refine XS.icmpNo X_4.here hx rfl (hb hby at_31) rfl (teq ((own_out _ hc_6) : (own_xml (p1 % (1114112 : Int32))) = (0 : Int32))).2 ?_
        show Steps p.tables e below (T_4.setTop (mkF m 34 #[.val (.int p1), .val (.int (p1 % (1114112 : Int32)))] [])) _
        refine XS.iconst X_4.here hx rfl (hb hby at_34) ?_
        show Steps p.tables e below (T_4.setTop (mkF m 35 #[.val (.int p1), .val (.int (p1 % (1114112 : Int32)))] [(.int (1 : Int32))])) _
        refine XS.goto X_4.here hx rfl (pc0 := 35) (pc' := 39) rfl (hb hby at_35) (by decide) (by decide) ?_
        show Steps p.tables e below (T_4.setTop (mkF m 39 #[.val (.int p1), .val (.int (p1 % (1114112 : Int32)))] [(.int (1 : Int32))])) _
        exact retN X_4 hx (t := .boolean) Bd.returns (by simp) (hb hby at_39) hr
      · exact ⟨rfl, N_4⟩
  · obtain ⟨_, _, ⟨T_7, L_7, k_7, n_7⟩, -, X_7, ⟨Lc_7, hQ_7, l_7, y_7, z_7⟩, st_7⟩ := Jvm.LawKit.callS X0 hx (y := (⟨"com/example/entitle/entitle/value/Lexical", "isXmlChar", "(I)Z"⟩ : MethodName)) hown (mvT hZ (hw _ (List.mem_of_getElem? (i := 1) rfl))) (mvT hZ (hw _ (List.mem_of_getElem? (i := 2) rfl))) (mvT hZ (hw _ (List.mem_of_getElem? (i := 3) rfl))) (mvT hZ (hw _ (List.mem_of_getElem? (i := 4) rfl))) (by decide) (backOf (W := 0) (rm1 l Z a0 hw [] p1 h0 n0 Z0) hZ (hw _ (List.mem_of_getElem? (i := 4) rfl)) (hw _ (List.mem_of_getElem? (i := 3) rfl)) (by decide) (by decide)) (g := (mkF m 16 #[.val (.int p1), .val (.int p1)] [(.int p1)])) rfl (by rw [hml]; rfl) (argsL := [(.int p1)]) (rest := []) (lenOf pd_1 rfl) rfl (by show 2 * 0 + _ ≤ _; exact Nat.le_of_eq rfl) (hb hby at_16) (fun _ _ => ⟨rfl, e0, (by decide : 0 + 0 ≤ _), (by decide : 0 + 0 ≤ _)⟩)
    dsimp only [Pt.U, Pt.locs, Pt.cells, Pt.slots] at X_7 l_7 y_7 z_7 st_7 hQ_7
    subst l_7 y_7 z_7
    obtain ⟨rfl, N_7q, e_7⟩ := hQ_7
    have N_7 := Fr.app N0 N_7q
    obtain ⟨_, _, ⟨T_8, L_8, k_8, n_8⟩, -, X_8, ⟨Lc_8, hQ_8, l_8, y_8, z_8⟩, st_8⟩ := Jvm.LawKit.callS X_7 hx (y := (⟨"com/example/entitle/entitle/value/LexicalIsXmlCharPinLaw", "excluded", "(I)Z"⟩ : MethodName)) hown (mvT hZ (hw _ (List.mem_of_getElem? (i := 7) rfl))) (mvT hZ (hw _ (List.mem_of_getElem? (i := 8) rfl))) (mvT hZ (hw _ (List.mem_of_getElem? (i := 9) rfl))) (mvT hZ (hw _ (List.mem_of_getElem? (i := 10) rfl))) (by decide) (backOf (W := 1) (rm2 l Z a0 hw [] p1 h0 n0 Z0) hZ (hw _ (List.mem_of_getElem? (i := 10) rfl)) (hw _ (List.mem_of_getElem? (i := 9) rfl)) (by decide) (by decide)) (g := (mkF m 20 #[.val (.int p1), .val (.int p1)] [(.int p1), (.int (own_xml p1))])) rfl (by rw [hml]; rfl) (argsL := [(.int p1)]) (rest := [(.int (own_xml p1))]) (lenOf pd_1 rfl) rfl (by show 2 * 0 + _ ≤ _; exact Nat.le_of_eq rfl) (hb hby at_20) (fun _ _ => ⟨rfl, e_7, (by decide : 0 + 0 ≤ _), (by decide : 0 + 0 ≤ _)⟩)
    dsimp only [Pt.U, Pt.locs, Pt.cells, Pt.slots] at X_8 l_8 y_8 z_8 st_8 hQ_8
    subst l_8 y_8 z_8
    obtain ⟨rfl, N_8q, e_8⟩ := hQ_8
    have N_8 := Fr.app N_7 N_8q
    have pr_9 : ∀ t, Steps p.tables e below (T_8.setTop (mkF m 23 #[.val (.int p1), .val (.int p1)] [(.int (own_exc p1)), (.int (own_xml p1))])) t → Steps p.tables e below (s₁.setTop (entryFrame m #[(.int p1)] maxLocals)) t := fun t k => by
      refine pr_1 _ ?_
      show Steps p.tables e below (s₁.setTop (mkF m 3 #[.val (.int p1), .unset] [(.int (1114111 : Int32)), (.int p1)])) _
      refine XS.icmpYes X0.here hx rfl (pc0 := 3) (pc' := 13) rfl (hb hby at_3) rfl (flt hc_2).2.2.2 (by decide) (by decide) ?_
      show Steps p.tables e below (s₁.setTop (mkF m 13 #[.val (.int p1), .unset] [])) _
      refine XS.iloadN X0.here hx rfl (hb hby at_13) rfl ?_
      show Steps p.tables e below (s₁.setTop (mkF m 14 #[.val (.int p1), .unset] [(.int p1)])) _
      refine XS.istoreN X0.here hx rfl (hb hby at_14) rfl (l' := #[.val (.int p1), .val (.int p1)]) rfl ?_
      show Steps p.tables e below (s₁.setTop (mkF m 15 #[.val (.int p1), .val (.int p1)] [])) _
      refine XS.iloadN X0.here hx rfl (hb hby at_15) rfl ?_
      show Steps p.tables e below (s₁.setTop (mkF m 16 #[.val (.int p1), .val (.int p1)] [(.int p1)])) _
      refine st_7 _ ?_
      show Steps p.tables e below (T_7.setTop (mkF m 19 #[.val (.int p1), .val (.int p1)] [(.int (own_xml p1))])) _
      refine XS.iloadN X_7.here hx rfl (hb hby at_19) rfl ?_
      show Steps p.tables e below (T_7.setTop (mkF m 20 #[.val (.int p1), .val (.int p1)] [(.int p1), (.int (own_xml p1))])) _
      refine st_8 _ ?_
      exact k
    by_cases hc_10 : (own_exc p1) = (0 : Int32)
    · obtain ⟨fs, hr, hrun, hended, hW, hsame⟩ := X_8.leave (v := some (.int (1 : Int32))) (fun h => by rw [Bd.returns] at h; cases h)
      refine ⟨_, _, pr_9 _ ?_, hrun, hended, _, _, rfl, ?_, ⟨_, rfl⟩, hW, hsame.mono (by decide) (by decide)⟩
      · show Steps p.tables e below (T_8.setTop (mkF m 23 #[.val (.int p1), .val (.int p1)] [(.int (own_exc p1)), (.int (own_xml p1))])) _
        refine XS.ifNo X_8.here hx rfl (hb hby at_23) rfl ((if0 _ _).trans (teq hc_10).2) ?_
        show Steps p.tables e below (T_8.setTop (mkF m 26 #[.val (.int p1), .val (.int p1)] [(.int (own_xml p1))])) _
        refine XS.iconst X_8.here hx rfl (hb hby at_26) ?_
        show Steps p.tables e below (T_8.setTop (mkF m 27 #[.val (.int p1), .val (.int p1)] [(.int (1 : Int32)), (.int (own_xml p1))])) _
        refine XS.goto X_8.here hx rfl (pc0 := 27) (pc' := 31) rfl (hb hby at_27) (by decide) (by decide) ?_
        show Steps p.tables e below (T_8.setTop (mkF m 31 #[.val (.int p1), .val (.int p1)] [(.int (1 : Int32)), (.int (own_xml p1))])) _
        refine XS.icmpNo X_8.here hx rfl (hb hby at_31) rfl (teq ((own_in _ hc_10) : (own_xml p1) = (1 : Int32))).2 ?_
        show Steps p.tables e below (T_8.setTop (mkF m 34 #[.val (.int p1), .val (.int p1)] [])) _
        refine XS.iconst X_8.here hx rfl (hb hby at_34) ?_
        show Steps p.tables e below (T_8.setTop (mkF m 35 #[.val (.int p1), .val (.int p1)] [(.int (1 : Int32))])) _
        refine XS.goto X_8.here hx rfl (pc0 := 35) (pc' := 39) rfl (hb hby at_35) (by decide) (by decide) ?_
        show Steps p.tables e below (T_8.setTop (mkF m 39 #[.val (.int p1), .val (.int p1)] [(.int (1 : Int32))])) _
        exact retN X_8 hx (t := .boolean) Bd.returns (by simp) (hb hby at_39) hr
      · exact ⟨rfl, N_8⟩
    · obtain ⟨fs, hr, hrun, hended, hW, hsame⟩ := X_8.leave (v := some (.int (1 : Int32))) (fun h => by rw [Bd.returns] at h; cases h)
      refine ⟨_, _, pr_9 _ ?_, hrun, hended, _, _, rfl, ?_, ⟨_, rfl⟩, hW, hsame.mono (by decide) (by decide)⟩
      · show Steps p.tables e below (T_8.setTop (mkF m 23 #[.val (.int p1), .val (.int p1)] [(.int (own_exc p1)), (.int (own_xml p1))])) _
        refine XS.ifYes X_8.here hx rfl (pc0 := 23) (pc' := 30) rfl (hb hby at_23) rfl ((if0 _ _).trans (feq hc_10).2) (by decide) (by decide) ?_
        show Steps p.tables e below (T_8.setTop (mkF m 30 #[.val (.int p1), .val (.int p1)] [(.int (own_xml p1))])) _
        refine XS.iconst X_8.here hx rfl (hb hby at_30) ?_
        show Steps p.tables e below (T_8.setTop (mkF m 31 #[.val (.int p1), .val (.int p1)] [(.int (0 : Int32)), (.int (own_xml p1))])) _
        refine XS.icmpNo X_8.here hx rfl (hb hby at_31) rfl (teq ((own_out _ hc_10) : (own_xml p1) = (0 : Int32))).2 ?_
        show Steps p.tables e below (T_8.setTop (mkF m 34 #[.val (.int p1), .val (.int p1)] [])) _
        refine XS.iconst X_8.here hx rfl (hb hby at_34) ?_
        show Steps p.tables e below (T_8.setTop (mkF m 35 #[.val (.int p1), .val (.int p1)] [(.int (1 : Int32))])) _
        refine XS.goto X_8.here hx rfl (pc0 := 35) (pc' := 39) rfl (hb hby at_35) (by decide) (by decide) ?_
        show Steps p.tables e below (T_8.setTop (mkF m 39 #[.val (.int p1), .val (.int p1)] [(.int (1 : Int32))])) _
        exact retN X_8 hx (t := .boolean) Bd.returns (by simp) (hb hby at_39) hr
      · exact ⟨rfl, N_8⟩
set_option maxRecDepth 65536 in
set_option maxHeartbeats 40000000 in
theorem comes_1 {Post : Tables → Env → Array Value → State → Outcome → State → Prop} (hpost : ∀ tb e args s v u, (limb_1_1.after args s (.returned v) u = true ∧ limb_1_2.after args s (.returned v) u = true ∧ True) → FrameEnd s (.returned v) u (Jvm.fieldLocs frame_1_writes args s ++ Jvm.arrayLocs frame_1_arrays args s ++ Jvm.staticLocs frame_1_statics s) 0 0 → Post tb e args s (.returned v) u) :
    ArmFor flags0 classFile x code maxLocals ret World_1 tables_1 room_1 Calls_1 rest_1 Pre_1 Post := by
  intro l hfl _ _ p e ha hc hk s m args below hf hA hF happ hP
  obtain ⟨hcalls, hrest, hpre⟩ := hP
  obtain ⟨-, -, -, hnamed, -, -, -, hat⟩ := (Spec.applies_iff hf).mp happ
  obtain ⟨hg, hn⟩ := and_e (Cond.before_iff.mp (show (Jvm.Cond.and given_1 narrow_1).before args s = true from hpre))
  obtain ⟨g0, r0⟩ := and_e hg
  obtain ⟨w0, rfl⟩ : ∃ w0 : Value, args = #[w0] := by
    have hs : args.size = 1 := by simpa [Cond.value, given_1] using g0
    obtain ⟨L⟩ := args
    match L, hs with
    | [w0], _ => exact ⟨w0, rfl⟩
  have hw := fun d (hd : d ∈ tables_1) => atoms_spec (ws := Jvm.Cond.code x code maxLocals ret :: tables_1) hat d (List.mem_cons_of_mem _ hd)
  obtain ⟨i0, ei0⟩ := is_v r0
  obtain rfl : w0 = (.int i0) := Option.some.inj ei0
  obtain ⟨n, o, h1, h2, h3, _, L, rfl, ⟨rfl, N⟩, hq⟩ := rm0 l s _ hw tables_1 i0 s.heap s.heap.size (Nat.le_refl _)  p e ha hc hk s m _ below hf ((Spec.applies_iff_loose hf).mp happ).1 ⟨rfl, State.Warmed39.refl s, rfl⟩ trivial
  refine ⟨n, _, h1, h2, h3, hpost _ _ _ _ _ _ ⟨Cond.after_iff.mpr rfl, Cond.after_iff.mpr (eq_i res_at (Term.int_eval (1)) rfl), trivial⟩ ⟨hq.1, hq.2.1, (hq.2.2.sift fun y hy => Or.inr (N y hy)).mono (by decide) (by decide)⟩⟩
theorem main_1_1 : Claimed_1_1 := comes_1 fun _ _ _ _ _ _ h hF => ⟨h.1, hF⟩
theorem main_1_2 : Claimed_1_2 := comes_1 fun _ _ _ _ _ _ h hF => ⟨h.2.1, hF⟩
end Jvm.Pilot.@@N@@
namespace Jvm.Pilot.@@N@@
open Jvm Jvm.ClassFile Sem Op Lib Jvm.Free Jvm.Stand Jvm.Pilot.@@N@@.Jvm.D
/-! MADE BY PROGRAM (witnessworld.py) out of the Statement's table words and the real class files: 9 classes; the members and pool entries that the words name. The judged class is class 1, her method 2. -/
namespace start1
open Jvm.ClassFile
def u (s : String) : CpInfo := .utf8 (stringToUtf16 s)
/-- a pool by its gaps: so many unusable entries, then the entry; so many at the end -/
def gap : Nat → List CpInfo → List CpInfo
  | 0, r => r
  | n + 1, r => .unusable :: gap n r
def poolList (es : List (Nat × CpInfo)) (last : Nat) : List CpInfo := es.foldr (fun e r => gap e.1 (e.2 :: r)) (gap last [])
def pool (es : List (Nat × CpInfo)) (last : Nat) : Array CpInfo := ⟨poolList es last⟩
def fileOf (pool : Array CpInfo) (this : Nat) (attrs : Array Attribute := #[]) (ms : Array MethodInfo := #[]) (fl : Nat := 33) (sup : Nat := 0) (ifs : Array Nat := #[]) (fds : Array FieldInfo := #[]) : ClassFile where
  minorVersion := 0
  majorVersion := 65
  constantPool := pool
  accessFlags := fl
  thisClass := this
  superClass := sup
  interfaces := ifs
  fields := fds
  methods := ms
  attributes := attrs
def plain (name : String) (sup : Option ClassId) : Class where
  name := name
  kind := .ordinary
  loader := none
  accessFlags := 33
  super := sup
  interfaces := #[]
  cf := none
  fields := #[]
  methods := #[]
  instanceTypes := #[]
  staticTypes := #[]
  resolved := #[]
  callSites := []
  init := .initialized
  statics := none
  mirror := none

def pool0 : Array CpInfo := pool [(5, u "<init>"), (0, u "()V"), (1, .class_ 10), (1, u "java/lang/Object")] 113

def k0m0 : Method := { name := "<init>", desc := "()V", sig := { parameters := [], returnType := none }, accessFlags := 1, code := none }
/-- java/lang/Object -/
def k0 : Class := { plain "java/lang/Object" none with
  accessFlags := 33
  interfaces := #[]
  cf := some (fileOf pool0 8 #[] #[{ accessFlags := 1, nameIndex := 5, descriptorIndex := 6, attributes := #[] }] 33 0 #[] #[])
  fields := #[]
  methods := #[k0m0]
  instanceTypes := #[]
  staticTypes := #[]
  resolved := Array.replicate 124 none
  statics := none }

def pool1 : Array CpInfo := pool [(2, .class_ 4), (1, u "java/lang/Object"), (0, u "<init>"), (0, u "()V"), (0, .integer 55296), (0, .integer 57343), (0, .integer 65534), (0, .integer 65535), (0, .integer 1114111), (0, .integer 1114112), (0, .methodref 14 15), (0, .class_ 16), (0, .nameAndType 17 18), (0, u "com/example/entitle/entitle/value/Lexical"), (0, u "isXmlChar"), (0, u "(I)Z"), (0, .methodref 20 21), (0, .class_ 22), (0, .nameAndType 23 18), (0, u "com/example/entitle/entitle/value/LexicalIsXmlCharPinLaw"), (0, u "excluded"), (3, u "law")] 2

def k1m0 : Method := { name := "<init>", desc := "()V", sig := { parameters := [], returnType := none }, accessFlags := 2, code := none }
def k1c1 : Code := { maxStack := 2, maxLocals := 1, code := method_2_code, exceptionTable := #[], attributes := #[] }
def k1m1 : Method := { name := "excluded", desc := "(I)Z", sig := { parameters := [.int], returnType := some .boolean }, accessFlags := 10, code := some k1c1 }
def k1c2 : Code := { maxStack := 2, maxLocals := 2, code := code, exceptionTable := #[], attributes := #[] }
def k1m2 : Method := { name := "law", desc := "(I)Z", sig := { parameters := [.int], returnType := some .boolean }, accessFlags := 9, code := some k1c2 }
/-- com/example/entitle/entitle/value/LexicalIsXmlCharPinLaw -/
def k1 : Class := { plain "com/example/entitle/entitle/value/LexicalIsXmlCharPinLaw" (some 0) with
  accessFlags := 49
  interfaces := #[]
  cf := some (fileOf pool1 20 #[] #[{ accessFlags := 2, nameIndex := 5, descriptorIndex := 6, attributes := #[] }, { accessFlags := 10, nameIndex := 23, descriptorIndex := 18, attributes := #[] }, { accessFlags := 9, nameIndex := 27, descriptorIndex := 18, attributes := #[] }] 49 2 #[] #[])
  fields := #[]
  methods := #[k1m0, k1m1, k1m2]
  instanceTypes := #[]
  staticTypes := #[]
  resolved := Array.replicate 30 none
  statics := none }

def pool2 : Array CpInfo := pool [(2, .class_ 4), (1, u "java/lang/Object"), (0, u "<init>"), (0, u "()V"), (0, .integer 55295), (0, .integer 57344), (0, .integer 65533), (0, .integer 65536), (1, .class_ 14), (1, u "com/example/entitle/entitle/value/Lexical"), (0, u "WHITE_SPACE_RUN"), (0, u "Ljava/util/regex/Pattern;"), (122, u "MAX_QUOTED_LENGTH"), (0, u "I"), (2, u "MAX_FRACTION_DIGITS"), (1, u "UNFIT_FOR_URIS"), (0, u "Ljava/lang/String;"), (0, u "HEX_DIGITS"), (2, u "isXmlChar"), (0, u "(I)Z")] 38

def k2m0 : Method := { name := "<init>", desc := "()V", sig := { parameters := [], returnType := none }, accessFlags := 2, code := none }
def k2c1 : Code := { maxStack := 2, maxLocals := 1, code := prog_110_method_2_code, exceptionTable := #[], attributes := #[] }
def k2m1 : Method := { name := "isXmlChar", desc := "(I)Z", sig := { parameters := [.int], returnType := some .boolean }, accessFlags := 9, code := some k2c1 }
/-- com/example/entitle/entitle/value/Lexical -/
def k2 : Class := { plain "com/example/entitle/entitle/value/Lexical" (some 0) with
  accessFlags := 33
  interfaces := #[]
  cf := some (fileOf pool2 12 #[] #[{ accessFlags := 2, nameIndex := 5, descriptorIndex := 6, attributes := #[] }, { accessFlags := 9, nameIndex := 150, descriptorIndex := 151, attributes := #[] }] 33 2 #[] #[{ accessFlags := 26, nameIndex := 139, descriptorIndex := 140, attributes := #[] }, { accessFlags := 26, nameIndex := 143, descriptorIndex := 140, attributes := #[] }, { accessFlags := 26, nameIndex := 15, descriptorIndex := 16, attributes := #[] }, { accessFlags := 26, nameIndex := 145, descriptorIndex := 146, attributes := #[] }, { accessFlags := 26, nameIndex := 147, descriptorIndex := 146, attributes := #[] }])
  fields := #[{ name := "MAX_QUOTED_LENGTH", type := .int, accessFlags := 26, slot := 0, constantValue := 0 }, { name := "MAX_FRACTION_DIGITS", type := .int, accessFlags := 26, slot := 1, constantValue := 0 }, { name := "WHITE_SPACE_RUN", type := (.object "java/util/regex/Pattern"), accessFlags := 26, slot := 2, constantValue := 0 }, { name := "UNFIT_FOR_URIS", type := (.object "java/lang/String"), accessFlags := 26, slot := 3, constantValue := 0 }, { name := "HEX_DIGITS", type := (.object "java/lang/String"), accessFlags := 26, slot := 4, constantValue := 0 }]
  methods := #[k2m0, k2m1]
  instanceTypes := #[]
  staticTypes := #[.int, .int, (.object "java/util/regex/Pattern"), (.object "java/lang/String"), (.object "java/lang/String")]
  resolved := Array.replicate 190 none
  statics := none }

def pool3 : Array CpInfo := pool [(1, u "java/lang/Cloneable"), (0, .class_ 1), (0, u "java/lang/Object"), (0, .class_ 3)] 3

/-- java/lang/Cloneable -/
def k3 : Class := { plain "java/lang/Cloneable" (some 0) with
  accessFlags := 1537
  interfaces := #[]
  cf := some (fileOf pool3 2 #[] #[] 1537 4 #[] #[])
  fields := #[]
  methods := #[]
  instanceTypes := #[]
  staticTypes := #[]
  resolved := Array.replicate 8 none
  statics := none }

def pool4 : Array CpInfo := pool [(1, u "java/io/Serializable"), (0, .class_ 1), (0, u "java/lang/Object"), (0, .class_ 3)] 3

/-- java/io/Serializable -/
def k4 : Class := { plain "java/io/Serializable" (some 0) with
  accessFlags := 1537
  interfaces := #[]
  cf := some (fileOf pool4 2 #[] #[] 1537 4 #[] #[])
  fields := #[]
  methods := #[]
  instanceTypes := #[]
  staticTypes := #[]
  resolved := Array.replicate 8 none
  statics := none }

/-- the primitive byte -/
def k5 : Class := { plain "byte" none with kind := .primitive 'B', accessFlags := 0x411 }
/-- [B -/
def k6 : Class := { plain "[B" (some 0) with kind := .array 5 .byte, interfaces := #[3, 4], accessFlags := 1041 }

/-- the primitive int -/
def k7 : Class := { plain "int" none with kind := .primitive 'I', accessFlags := 0x411 }
/-- [I -/
def k8 : Class := { plain "[I" (some 0) with kind := .array 7 .int, interfaces := #[3, 4], accessFlags := 1041 }

def heap : Heap := #[]
def classes : Array Class := #[k0, k1, k2, k3, k4, k5, k6, k7, k8]
def interned : List (Array UInt16 × Addr) := []
def slotsUsed : Nat := 0
def theMethod : MethodId := ⟨1, 2⟩
def args0 : Array Value := #[.int 65]
def aboutOver (below : List Frame) : State where
  vm := { classes := classes, interned := interned.toArray }
  heap := heap
  slotsUsed := slotsUsed
  threads := #[{ frames := .invoking theMethod args0 :: below }]
def below0 : List Frame := [.native { method := ⟨0, 0⟩, args := #[] }]
def about1 : State := aboutOver below0
def p0 : Program := .bare "" "" ""
def e0 : Env := launch0.env 0 0 0
theorem w_frames : about1.frames = Frame.invoking theMethod args0 :: below0 := rfl
set_option maxRecDepth 65536 in
theorem w_args : argsFit about1.vm theMethod args0 = true := by decide +kernel
set_option maxRecDepth 65536 in
theorem w_heap : heapFits about1 = true := by decide +kernel
set_option maxRecDepth 65536 in
theorem w_runnable : about1.curStatus? = some .runnable := by decide +kernel
set_option maxRecDepth 65536 in
theorem w_alone : about1.alone = true := by decide +kernel
set_option maxRecDepth 65536 in
theorem w_named : about1.methodNamed? x = some theMethod := by decide +kernel
set_option maxRecDepth 65536 in
theorem w_hears : about1.hears theMethod below0 = true := by decide +kernel
set_option maxRecDepth 65536 in
theorem w_ripe : about1.ripe theMethod args0 below0 = true := by decide +kernel
theorem w_running : about1.status = .running := rfl
set_option maxRecDepth 65536 in
theorem w_room : about1.hasRoom e0.platform room_1 = true :=
  launch0.hasRoom_least _ room_1 (by decide +kernel) (by decide +kernel) (by decide +kernel) (by decide +kernel) (by decide +kernel) (by decide +kernel)
theorem allAtoms_all (ts : List Jvm.Cond) (a : Array Jvm.Value) (st : Jvm.State) : (allAtoms ts).before a st = ts.all (fun c => c.before a st) := by
  induction ts with
  | nil => rfl
  | cons c t ih =>
    show (Jvm.Cond.and c (allAtoms t)).before a st = _
    rw [Jvm.Cond.before_and, ih, List.all_cons]
def words1 : List Jvm.Cond := Jvm.Cond.code x code maxLocals ret :: tables_1
/-- a 'code' word, met by the world's own term for the bytes: nothing is compared byte by byte -/
theorem code_word {y : MethodName} {bytes : ByteArray} {mx : Nat} {rt : Option FieldType} {a : Array Value} {s : State} {m : MethodId} {meth : Method} {c : Code} (h1 : s.methodNamed? y = some m) (h2 : s.vm.method? m = some meth) (h3 : meth.code = some c) (h4 : c.code = bytes)
    (h5 : (c.maxLocals == mx && c.exceptionTable.isEmpty && decide (c.maxStack ≤ mostOperands) && decide (meth.sig.returnType = rt) && !meth.locks && decide (parseMethodDescriptor y.desc = some meth.sig)) = true) : (Jvm.Cond.code y bytes mx rt).before a s = true := by
  simp only [Bool.and_eq_true, beq_iff_eq, Bool.not_eq_true', decide_eq_true_eq] at h5
  obtain ⟨⟨⟨⟨⟨g1, g2⟩, g3⟩, g4⟩, g5⟩, g6⟩ := h5
  simp [Cond.before, Cond.holds, Cond.value, h1, h2, h3, h4, g1, g2, g3, g4, g5, g6]
def isCode : Jvm.Cond → Bool
  | .code _ _ _ _ => true
  | _ => false
theorem all_split {L : List Jvm.Cond} {P : Jvm.Cond → Bool} (h1 : L.all (fun c => isCode c || P c) = true) (h2 : ∀ c ∈ L.filter isCode, P c = true) : L.all P = true := by
  refine List.all_eq_true.mpr fun c hc => ?_
  have h := List.all_eq_true.mp h1 c hc
  rcases Bool.eq_false_or_eq_true (isCode c) with hi | hi
  · exact h2 c (List.mem_filter.mpr ⟨hc, hi⟩)
  · simpa [hi] using h
set_option maxRecDepth 65536 in
theorem w_c0 : (Jvm.Cond.code x code maxLocals ret).before args0 about1 = true := code_word (m := ⟨1, 2⟩) (meth := k1m2) (c := k1c2) (by decide +kernel) rfl rfl rfl (by decide +kernel)
set_option maxRecDepth 65536 in
theorem w_c1 : (Jvm.Cond.code ({ cls := "com/example/entitle/entitle/value/Lexical", name := "isXmlChar", desc := "(I)Z" } : Jvm.MethodName) prog_110_method_2_code (1 : Nat) (Option.some Jvm.ClassFile.FieldType.boolean)).before args0 about1 = true := code_word (m := ⟨2, 1⟩) (meth := k2m1) (c := k2c1) (by decide +kernel) rfl rfl rfl (by decide +kernel)
set_option maxRecDepth 65536 in
theorem w_c2 : (Jvm.Cond.code ({ cls := "com/example/entitle/entitle/value/LexicalIsXmlCharPinLaw", name := "excluded", desc := "(I)Z" } : Jvm.MethodName) method_2_code (1 : Nat) (Option.some Jvm.ClassFile.FieldType.boolean)).before args0 about1 = true := code_word (m := ⟨1, 1⟩) (meth := k1m1) (c := k1c1) (by decide +kernel) rfl rfl rfl (by decide +kernel)
def codes1 : List Jvm.Cond := [Jvm.Cond.code x code maxLocals ret, Jvm.Cond.code ({ cls := "com/example/entitle/entitle/value/Lexical", name := "isXmlChar", desc := "(I)Z" } : Jvm.MethodName) prog_110_method_2_code (1 : Nat) (Option.some Jvm.ClassFile.FieldType.boolean), Jvm.Cond.code ({ cls := "com/example/entitle/entitle/value/LexicalIsXmlCharPinLaw", name := "excluded", desc := "(I)Z" } : Jvm.MethodName) method_2_code (1 : Nat) (Option.some Jvm.ClassFile.FieldType.boolean)]
set_option maxRecDepth 65536 in
theorem codes_eq : words1.filter isCode = codes1 := rfl
theorem w_codes : ∀ c ∈ words1.filter isCode, c.before args0 about1 = true := by
  rw [codes_eq]
  intro c hc
  simp only [codes1, List.mem_cons, List.not_mem_nil, or_false] at hc
  rcases hc with rfl | rfl | rfl
  · exact w_c0
  · exact w_c1
  · exact w_c2
set_option maxRecDepth 65536 in
theorem w_t1 : words1.all (fun c => isCode c || c.before args0 about1) = true := by decide +kernel
theorem w_tables : (allAtoms (Jvm.Cond.code x code maxLocals ret :: tables_1)).before args0 about1 = true := by
  rw [allAtoms_all]
  show words1.all (fun c => c.before args0 about1) = true
  refine all_split ?_ w_codes
  rw [w_t1]
set_option maxRecDepth 65536 in
theorem w_case : (Jvm.Cond.and given_1 narrow_1).before args0 about1 = true := by decide +kernel
theorem w_applies : (headSpec (Jvm.Cond.code x code maxLocals ret :: tables_1) room_1).applies x e0.platform about1 = true :=
  (Spec.applies_iff w_frames).mpr ⟨w_running, w_runnable, w_alone, w_named, w_hears, w_ripe, w_room, w_tables⟩
theorem atStart : AtStart classFile x code maxLocals ret World_1 tables_1 room_1 Calls_1 rest_1 Pre_1 launch0 p0 e0 about1 theMethod args0 below0 :=
  ⟨lists_1, trivial, launch0.admits_env _ _ _, launch0.least_env, fairChoices_fair.cas, fairChoices_fair.clock, w_frames, w_args, w_heap, w_applies, trivial, trivial, w_case⟩
end start1
theorem witness_1 : WitnessClaimed_1 := ⟨start1.p0, start1.e0, start1.about1, start1.theMethod, start1.args0, start1.below0, start1.atStart⟩
end Jvm.Pilot.@@N@@
