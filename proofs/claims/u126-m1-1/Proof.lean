import JvmDerived
import JvmDerived.Pilot.@@N@@Statement
import JvmDerived.Pilot.@@N@@Code
set_option linter.unusedVariables false
set_option linter.unusedSimpArgs false
@@BLOCK:NumsL.lean.txt@@
namespace Jvm.Pilot.@@N@@
open Jvm Jvm.ClassFile Sem Op Lib Jvm.Free Jvm.Stand Jvm.LawKit Jvm.RoadKit Bundle Jvm.Pilot.@@N@@.Jvm.D
theorem d1_0 : decode prog_3_method_4_code 0 = .ok (.lload_n 0, 1) := by decide +kernel
theorem d1_1 : decode prog_3_method_4_code 1 = .ok (.lconst 0, 1) := by decide +kernel
theorem d1_2 : decode prog_3_method_4_code 2 = .ok (.lcmp, 1) := by decide +kernel
theorem d1_3 : decode prog_3_method_4_code 3 = .ok (.ifCond .lt 29, 3) := by decide +kernel
theorem d1_32 : decode prog_3_method_4_code 32 = .ok (.iconst 0, 1) := by decide +kernel
theorem d1_33 : decode prog_3_method_4_code 33 = .ok (.ireturn, 1) := by decide +kernel
theorem d1_6 : decode prog_3_method_4_code 6 = .ok (.lload_n 2, 1) := by decide +kernel
theorem d1_7 : decode prog_3_method_4_code 7 = .ok (.lconst 0, 1) := by decide +kernel
theorem d1_8 : decode prog_3_method_4_code 8 = .ok (.lcmp, 1) := by decide +kernel
theorem d1_9 : decode prog_3_method_4_code 9 = .ok (.ifCond .lt 23, 3) := by decide +kernel
theorem d1_12 : decode prog_3_method_4_code 12 = .ok (.lload_n 0, 1) := by decide +kernel
theorem d1_13 : decode prog_3_method_4_code 13 = .ok (.lload 4, 2) := by decide +kernel
theorem d1_15 : decode prog_3_method_4_code 15 = .ok (.lcmp, 1) := by decide +kernel
theorem d1_16 : decode prog_3_method_4_code 16 = .ok (.ifCond .gt 16, 3) := by decide +kernel
theorem d1_19 : decode prog_3_method_4_code 19 = .ok (.lload_n 2, 1) := by decide +kernel
theorem d1_20 : decode prog_3_method_4_code 20 = .ok (.lload 4, 2) := by decide +kernel
theorem d1_22 : decode prog_3_method_4_code 22 = .ok (.lload_n 0, 1) := by decide +kernel
theorem d1_23 : decode prog_3_method_4_code 23 = .ok (.lsub, 1) := by decide +kernel
theorem d1_24 : decode prog_3_method_4_code 24 = .ok (.lcmp, 1) := by decide +kernel
theorem d1_25 : decode prog_3_method_4_code 25 = .ok (.ifCond .gt 7, 3) := by decide +kernel
theorem d1_28 : decode prog_3_method_4_code 28 = .ok (.iconst 1, 1) := by decide +kernel
theorem d1_29 : decode prog_3_method_4_code 29 = .ok (.goto 4, 3) := by decide +kernel
theorem ef_1_JJJ (m : MethodId) (x0 : Int64) (x1 : Int64) (x2 : Int64) : entryFrame m #[(.long x0), (.long x1), (.long x2)] 6 = mkF m 0 #[.val (.long x0), .second, .val (.long x1), .second, .val (.long x2), .second] [] := by first | (simp [entryFrame, mkF, argsToLocals, Value.category]; done) | rfl
def own_fits (p1 : Int64) (p2 : Int64) (p3 : Int64) : Int32 := if p1 < (0 : Int64) then (0 : Int32) else (if p2 < (0 : Int64) then (0 : Int32) else (if p3 < p1 then (0 : Int32) else (if (p3 - p1) < p2 then (0 : Int32) else (1 : Int32))))
def Q1 (p1 : Int64) (p2 : Int64) (p3 : Int64) (h0 : Heap) (n0 : Nat) (v : Option Value) (h : Heap) (L : List Loc) : Prop := v = some (.int (own_fits p1 p2 p3)) ∧ Fr n0 L ∧ h = h0
theorem pn_1 : plainName "com/example/cato/cato/elf/FileWindow" = true := by first | (simp [plainName, overriddenIn]; done) | decide +kernel
set_option maxRecDepth 65536 in
set_option maxHeartbeats 40000000 in
theorem rm1 (l : Launch) (Z : State) (a0 : Array Value) (hw : ∀ d ∈ tables_1, d.before a0 Z = true) (ws : List Jvm.Cond) (p1 : Int64) (p2 : Int64) (p3 : Int64) (h0 : Heap) (n0 : Nat) (Z0 : n0 ≤ h0.size)  :
    MetFree l (⟨"com/example/cato/cato/elf/FileWindow", "fits", "(JJJ)Z"⟩ : MethodName) (head1 (Jvm.Cond.code (⟨"com/example/cato/cato/elf/FileWindow", "fits", "(JJJ)Z"⟩ : MethodName) prog_3_method_4_code 6 (some .boolean) :: ws) ({ frames := 0, cells := 0, slots := 0, locals := 0 } : Room)) (fun a U => a = #[(.long p1), (.long p2), (.long p3)] ∧ Z.Warmed39 U.vm ∧ U.heap = h0) (fun _ _ _ _ _ => True) (fun _ U o U' => ∃ v L, o = .returned v ∧ Q1 p1 p2 p3 h0 n0 v U'.heap L ∧ FrameEnd U o U' L ({ frames := 0, cells := 0, slots := 0, locals := 0 } : Room).cells ({ frames := 0, cells := 0, slots := 0, locals := 0 } : Room).slots) := by
  refine MetFree.of_bodySF (plainFor_of_name pn_1) hisR ?_
  intro p e s m args below meth c s₁ Bd hml0 hP hK
  obtain ⟨rfl, hZ, hh⟩ := hP
  have hx := Bd.exec
  have hby := Bd.bytes
  have hml : c.maxLocals = 6 := hml0
  have hown : s.vm.findClass "com/example/cato/cato/elf/FileWindow" = some m.cls := findClass_of_methodNamed Bd.named
  have hnm := (name_of_methodNamed Bd.named Bd.method).1
  have X0 : Stand p l e ({ frames := 0, cells := 0, slots := 0, locals := 0 } : Room) s m #[(.long p1), (.long p2), (.long p3)] below meth c s₁ [] 0 0 := Stand.of_body Bd
  have e0 : s₁.heap = h0 := by rw [← hh, Bd.state]; rfl
  have N0 := Fr.nil n0
  have pre0 : ∀ t, Steps p.tables e below (s₁.setTop (mkF m 0 #[.val (.long p1), .second, .val (.long p2), .second, .val (.long p3), .second] [])) t → Steps p.tables e below (s₁.setTop (entryFrame m #[(.long p1), (.long p2), (.long p3)] 6)) t := fun t k => castTop (ef_1_JJJ m p1 p2 p3) k
  have pr_1 : ∀ t, Steps p.tables e below (s₁.setTop (mkF m 3 #[.val (.long p1), .second, .val (.long p2), .second, .val (.long p3), .second] [(.int (lcmpW p1 (0 : Int64)))])) t → Steps p.tables e below (s₁.setTop (entryFrame m #[(.long p1), (.long p2), (.long p3)] 6)) t := fun t k => by
    refine pre0 _ ?_
    show Steps p.tables e below (s₁.setTop (mkF m 0 #[.val (.long p1), .second, .val (.long p2), .second, .val (.long p3), .second] [])) _
    refine XS.lloadN X0.here hx rfl (hb hby d1_0) rfl ?_
    show Steps p.tables e below (s₁.setTop (mkF m 1 #[.val (.long p1), .second, .val (.long p2), .second, .val (.long p3), .second] [(.long p1)])) _
    refine XS.lconst X0.here hx rfl (hb hby d1_1) ?_
    show Steps p.tables e below (s₁.setTop (mkF m 2 #[.val (.long p1), .second, .val (.long p2), .second, .val (.long p3), .second] [(.long (0 : Int64)), (.long p1)])) _
    refine XS.lcmp X0.here hx rfl (hb hby d1_2) rfl ?_
    exact k
  by_cases hc_2 : p1 < (0 : Int64)
  · obtain ⟨fs, hr, hrun, hended, hW, hsame⟩ := X0.leave (v := some (.int (0 : Int32))) (fun h => by rw [Bd.returns] at h; cases h)
    refine ⟨_, _, pr_1 _ ?_, hrun, hended, _, _, rfl, ?_, ⟨_, rfl⟩, hW, hsame.mono (by decide) (by decide)⟩
    · show Steps p.tables e below (s₁.setTop (mkF m 3 #[.val (.long p1), .second, .val (.long p2), .second, .val (.long p3), .second] [(.int (lcmpW p1 (0 : Int64)))])) _
      refine XS.ifYes X0.here hx rfl (pc0 := 3) (pc' := 32) rfl (hb hby d1_3) rfl ((if0 _ _).trans (tlt ((lw_lt _ _).mpr hc_2)).1) (by decide) (by decide) ?_
      show Steps p.tables e below (s₁.setTop (mkF m 32 #[.val (.long p1), .second, .val (.long p2), .second, .val (.long p3), .second] [])) _
      refine XS.iconst X0.here hx rfl (hb hby d1_32) ?_
      show Steps p.tables e below (s₁.setTop (mkF m 33 #[.val (.long p1), .second, .val (.long p2), .second, .val (.long p3), .second] [(.int (0 : Int32))])) _
      exact retN X0 hx (t := .boolean) Bd.returns (by simp) (hb hby d1_33) hr
    · show Q1 p1 p2 p3 h0 n0 _ s₁.heap _
      rw [e0]
      exact ⟨by rw [own_fits, if_pos hc_2], N0, rfl⟩
  · have pr_3 : ∀ t, Steps p.tables e below (s₁.setTop (mkF m 9 #[.val (.long p1), .second, .val (.long p2), .second, .val (.long p3), .second] [(.int (lcmpW p2 (0 : Int64)))])) t → Steps p.tables e below (s₁.setTop (entryFrame m #[(.long p1), (.long p2), (.long p3)] 6)) t := fun t k => by
      refine pr_1 _ ?_
      show Steps p.tables e below (s₁.setTop (mkF m 3 #[.val (.long p1), .second, .val (.long p2), .second, .val (.long p3), .second] [(.int (lcmpW p1 (0 : Int64)))])) _
      refine XS.ifNo X0.here hx rfl (hb hby d1_3) rfl ((if0 _ _).trans (flt (mt (lw_lt _ _).mp hc_2)).1) ?_
      show Steps p.tables e below (s₁.setTop (mkF m 6 #[.val (.long p1), .second, .val (.long p2), .second, .val (.long p3), .second] [])) _
      refine XS.lloadN X0.here hx rfl (hb hby d1_6) rfl ?_
      show Steps p.tables e below (s₁.setTop (mkF m 7 #[.val (.long p1), .second, .val (.long p2), .second, .val (.long p3), .second] [(.long p2)])) _
      refine XS.lconst X0.here hx rfl (hb hby d1_7) ?_
      show Steps p.tables e below (s₁.setTop (mkF m 8 #[.val (.long p1), .second, .val (.long p2), .second, .val (.long p3), .second] [(.long (0 : Int64)), (.long p2)])) _
      refine XS.lcmp X0.here hx rfl (hb hby d1_8) rfl ?_
      exact k
    by_cases hc_4 : p2 < (0 : Int64)
    · obtain ⟨fs, hr, hrun, hended, hW, hsame⟩ := X0.leave (v := some (.int (0 : Int32))) (fun h => by rw [Bd.returns] at h; cases h)
      refine ⟨_, _, pr_3 _ ?_, hrun, hended, _, _, rfl, ?_, ⟨_, rfl⟩, hW, hsame.mono (by decide) (by decide)⟩
      · show Steps p.tables e below (s₁.setTop (mkF m 9 #[.val (.long p1), .second, .val (.long p2), .second, .val (.long p3), .second] [(.int (lcmpW p2 (0 : Int64)))])) _
        refine XS.ifYes X0.here hx rfl (pc0 := 9) (pc' := 32) rfl (hb hby d1_9) rfl ((if0 _ _).trans (tlt ((lw_lt _ _).mpr hc_4)).1) (by decide) (by decide) ?_
        show Steps p.tables e below (s₁.setTop (mkF m 32 #[.val (.long p1), .second, .val (.long p2), .second, .val (.long p3), .second] [])) _
        refine XS.iconst X0.here hx rfl (hb hby d1_32) ?_
        show Steps p.tables e below (s₁.setTop (mkF m 33 #[.val (.long p1), .second, .val (.long p2), .second, .val (.long p3), .second] [(.int (0 : Int32))])) _
        exact retN X0 hx (t := .boolean) Bd.returns (by simp) (hb hby d1_33) hr
      · show Q1 p1 p2 p3 h0 n0 _ s₁.heap _
        rw [e0]
        exact ⟨by rw [own_fits, if_neg hc_2, if_pos hc_4], N0, rfl⟩
    · have pr_5 : ∀ t, Steps p.tables e below (s₁.setTop (mkF m 16 #[.val (.long p1), .second, .val (.long p2), .second, .val (.long p3), .second] [(.int (lcmpW p1 p3))])) t → Steps p.tables e below (s₁.setTop (entryFrame m #[(.long p1), (.long p2), (.long p3)] 6)) t := fun t k => by
        refine pr_3 _ ?_
        show Steps p.tables e below (s₁.setTop (mkF m 9 #[.val (.long p1), .second, .val (.long p2), .second, .val (.long p3), .second] [(.int (lcmpW p2 (0 : Int64)))])) _
        refine XS.ifNo X0.here hx rfl (hb hby d1_9) rfl ((if0 _ _).trans (flt (mt (lw_lt _ _).mp hc_4)).1) ?_
        show Steps p.tables e below (s₁.setTop (mkF m 12 #[.val (.long p1), .second, .val (.long p2), .second, .val (.long p3), .second] [])) _
        refine XS.lloadN X0.here hx rfl (hb hby d1_12) rfl ?_
        show Steps p.tables e below (s₁.setTop (mkF m 13 #[.val (.long p1), .second, .val (.long p2), .second, .val (.long p3), .second] [(.long p1)])) _
        refine XS.lload X0.here hx rfl (hb hby d1_13) rfl ?_
        show Steps p.tables e below (s₁.setTop (mkF m 15 #[.val (.long p1), .second, .val (.long p2), .second, .val (.long p3), .second] [(.long p3), (.long p1)])) _
        refine XS.lcmp X0.here hx rfl (hb hby d1_15) rfl ?_
        exact k
      by_cases hc_6 : p3 < p1
      · obtain ⟨fs, hr, hrun, hended, hW, hsame⟩ := X0.leave (v := some (.int (0 : Int32))) (fun h => by rw [Bd.returns] at h; cases h)
        refine ⟨_, _, pr_5 _ ?_, hrun, hended, _, _, rfl, ?_, ⟨_, rfl⟩, hW, hsame.mono (by decide) (by decide)⟩
        · show Steps p.tables e below (s₁.setTop (mkF m 16 #[.val (.long p1), .second, .val (.long p2), .second, .val (.long p3), .second] [(.int (lcmpW p1 p3))])) _
          refine XS.ifYes X0.here hx rfl (pc0 := 16) (pc' := 32) rfl (hb hby d1_16) rfl ((if0 _ _).trans (tlt ((lw_gt _ _).mpr hc_6)).2.2.1) (by decide) (by decide) ?_
          show Steps p.tables e below (s₁.setTop (mkF m 32 #[.val (.long p1), .second, .val (.long p2), .second, .val (.long p3), .second] [])) _
          refine XS.iconst X0.here hx rfl (hb hby d1_32) ?_
          show Steps p.tables e below (s₁.setTop (mkF m 33 #[.val (.long p1), .second, .val (.long p2), .second, .val (.long p3), .second] [(.int (0 : Int32))])) _
          exact retN X0 hx (t := .boolean) Bd.returns (by simp) (hb hby d1_33) hr
        · show Q1 p1 p2 p3 h0 n0 _ s₁.heap _
          rw [e0]
          exact ⟨by rw [own_fits, if_neg hc_2, if_neg hc_4, if_pos hc_6], N0, rfl⟩
      · have pr_7 : ∀ t, Steps p.tables e below (s₁.setTop (mkF m 25 #[.val (.long p1), .second, .val (.long p2), .second, .val (.long p3), .second] [(.int (lcmpW p2 (p3 - p1)))])) t → Steps p.tables e below (s₁.setTop (entryFrame m #[(.long p1), (.long p2), (.long p3)] 6)) t := fun t k => by
          refine pr_5 _ ?_
          show Steps p.tables e below (s₁.setTop (mkF m 16 #[.val (.long p1), .second, .val (.long p2), .second, .val (.long p3), .second] [(.int (lcmpW p1 p3))])) _
          refine XS.ifNo X0.here hx rfl (hb hby d1_16) rfl ((if0 _ _).trans (flt (mt (lw_gt _ _).mp hc_6)).2.2.1) ?_
          show Steps p.tables e below (s₁.setTop (mkF m 19 #[.val (.long p1), .second, .val (.long p2), .second, .val (.long p3), .second] [])) _
          refine XS.lloadN X0.here hx rfl (hb hby d1_19) rfl ?_
          show Steps p.tables e below (s₁.setTop (mkF m 20 #[.val (.long p1), .second, .val (.long p2), .second, .val (.long p3), .second] [(.long p2)])) _
          refine XS.lload X0.here hx rfl (hb hby d1_20) rfl ?_
          show Steps p.tables e below (s₁.setTop (mkF m 22 #[.val (.long p1), .second, .val (.long p2), .second, .val (.long p3), .second] [(.long p3), (.long p2)])) _
          refine XS.lloadN X0.here hx rfl (hb hby d1_22) rfl ?_
          show Steps p.tables e below (s₁.setTop (mkF m 23 #[.val (.long p1), .second, .val (.long p2), .second, .val (.long p3), .second] [(.long p1), (.long p3), (.long p2)])) _
          refine XS.lsub X0.here hx rfl (hb hby d1_23) rfl ?_
          show Steps p.tables e below (s₁.setTop (mkF m 24 #[.val (.long p1), .second, .val (.long p2), .second, .val (.long p3), .second] [(.long (p3 - p1)), (.long p2)])) _
          refine XS.lcmp X0.here hx rfl (hb hby d1_24) rfl ?_
          exact k
        by_cases hc_8 : (p3 - p1) < p2
        · obtain ⟨fs, hr, hrun, hended, hW, hsame⟩ := X0.leave (v := some (.int (0 : Int32))) (fun h => by rw [Bd.returns] at h; cases h)
          refine ⟨_, _, pr_7 _ ?_, hrun, hended, _, _, rfl, ?_, ⟨_, rfl⟩, hW, hsame.mono (by decide) (by decide)⟩
          · show Steps p.tables e below (s₁.setTop (mkF m 25 #[.val (.long p1), .second, .val (.long p2), .second, .val (.long p3), .second] [(.int (lcmpW p2 (p3 - p1)))])) _
            refine XS.ifYes X0.here hx rfl (pc0 := 25) (pc' := 32) rfl (hb hby d1_25) rfl ((if0 _ _).trans (tlt ((lw_gt _ _).mpr hc_8)).2.2.1) (by decide) (by decide) ?_
            show Steps p.tables e below (s₁.setTop (mkF m 32 #[.val (.long p1), .second, .val (.long p2), .second, .val (.long p3), .second] [])) _
            refine XS.iconst X0.here hx rfl (hb hby d1_32) ?_
            show Steps p.tables e below (s₁.setTop (mkF m 33 #[.val (.long p1), .second, .val (.long p2), .second, .val (.long p3), .second] [(.int (0 : Int32))])) _
            exact retN X0 hx (t := .boolean) Bd.returns (by simp) (hb hby d1_33) hr
          · show Q1 p1 p2 p3 h0 n0 _ s₁.heap _
            rw [e0]
            exact ⟨by rw [own_fits, if_neg hc_2, if_neg hc_4, if_neg hc_6, if_pos hc_8], N0, rfl⟩
        · obtain ⟨fs, hr, hrun, hended, hW, hsame⟩ := X0.leave (v := some (.int (1 : Int32))) (fun h => by rw [Bd.returns] at h; cases h)
          refine ⟨_, _, pr_7 _ ?_, hrun, hended, _, _, rfl, ?_, ⟨_, rfl⟩, hW, hsame.mono (by decide) (by decide)⟩
          · show Steps p.tables e below (s₁.setTop (mkF m 25 #[.val (.long p1), .second, .val (.long p2), .second, .val (.long p3), .second] [(.int (lcmpW p2 (p3 - p1)))])) _
            refine XS.ifNo X0.here hx rfl (hb hby d1_25) rfl ((if0 _ _).trans (flt (mt (lw_gt _ _).mp hc_8)).2.2.1) ?_
            show Steps p.tables e below (s₁.setTop (mkF m 28 #[.val (.long p1), .second, .val (.long p2), .second, .val (.long p3), .second] [])) _
            refine XS.iconst X0.here hx rfl (hb hby d1_28) ?_
            show Steps p.tables e below (s₁.setTop (mkF m 29 #[.val (.long p1), .second, .val (.long p2), .second, .val (.long p3), .second] [(.int (1 : Int32))])) _
            refine XS.goto X0.here hx rfl (pc0 := 29) (pc' := 33) rfl (hb hby d1_29) (by decide) (by decide) ?_
            show Steps p.tables e below (s₁.setTop (mkF m 33 #[.val (.long p1), .second, .val (.long p2), .second, .val (.long p3), .second] [(.int (1 : Int32))])) _
            exact retN X0 hx (t := .boolean) Bd.returns (by simp) (hb hby d1_33) hr
          · show Q1 p1 p2 p3 h0 n0 _ s₁.heap _
            rw [e0]
            exact ⟨by rw [own_fits, if_neg hc_2, if_neg hc_4, if_neg hc_6, if_neg hc_8], N0, rfl⟩
theorem d2_0 : decode method_3_code 0 = .ok (.lload_n 0, 1) := by decide +kernel
theorem d2_1 : decode method_3_code 1 = .ok (.lconst 0, 1) := by decide +kernel
theorem d2_2 : decode method_3_code 2 = .ok (.lcmp, 1) := by decide +kernel
theorem d2_3 : decode method_3_code 3 = .ok (.ifCond .ge 5, 3) := by decide +kernel
theorem d2_6 : decode method_3_code 6 = .ok (.iconst 0, 1) := by decide +kernel
theorem d2_7 : decode method_3_code 7 = .ok (.ireturn, 1) := by decide +kernel
theorem d2_8 : decode method_3_code 8 = .ok (.lload_n 2, 1) := by decide +kernel
theorem d2_9 : decode method_3_code 9 = .ok (.lconst 0, 1) := by decide +kernel
theorem d2_10 : decode method_3_code 10 = .ok (.lcmp, 1) := by decide +kernel
theorem d2_11 : decode method_3_code 11 = .ok (.ifCond .ge 5, 3) := by decide +kernel
theorem d2_14 : decode method_3_code 14 = .ok (.iconst 0, 1) := by decide +kernel
theorem d2_15 : decode method_3_code 15 = .ok (.ireturn, 1) := by decide +kernel
theorem d2_16 : decode method_3_code 16 = .ok (.lload_n 0, 1) := by decide +kernel
theorem d2_17 : decode method_3_code 17 = .ok (.lload_n 2, 1) := by decide +kernel
theorem d2_18 : decode method_3_code 18 = .ok (.ladd, 1) := by decide +kernel
theorem d2_19 : decode method_3_code 19 = .ok (.lstore 6, 2) := by decide +kernel
theorem d2_21 : decode method_3_code 21 = .ok (.lload 6, 2) := by decide +kernel
theorem d2_23 : decode method_3_code 23 = .ok (.lconst 0, 1) := by decide +kernel
theorem d2_24 : decode method_3_code 24 = .ok (.lcmp, 1) := by decide +kernel
theorem d2_25 : decode method_3_code 25 = .ok (.ifCond .ge 5, 3) := by decide +kernel
theorem d2_28 : decode method_3_code 28 = .ok (.iconst 0, 1) := by decide +kernel
theorem d2_29 : decode method_3_code 29 = .ok (.ireturn, 1) := by decide +kernel
theorem d2_30 : decode method_3_code 30 = .ok (.lload 6, 2) := by decide +kernel
theorem d2_32 : decode method_3_code 32 = .ok (.lload 4, 2) := by decide +kernel
theorem d2_34 : decode method_3_code 34 = .ok (.lcmp, 1) := by decide +kernel
theorem d2_35 : decode method_3_code 35 = .ok (.ifCond .gt 7, 3) := by decide +kernel
theorem d2_42 : decode method_3_code 42 = .ok (.iconst 0, 1) := by decide +kernel
theorem d2_43 : decode method_3_code 43 = .ok (.ireturn, 1) := by decide +kernel
theorem d2_38 : decode method_3_code 38 = .ok (.iconst 1, 1) := by decide +kernel
theorem d2_39 : decode method_3_code 39 = .ok (.goto 4, 3) := by decide +kernel
theorem ef_2_JJJ (m : MethodId) (x0 : Int64) (x1 : Int64) (x2 : Int64) : entryFrame m #[(.long x0), (.long x1), (.long x2)] 8 = mkF m 0 #[.val (.long x0), .second, .val (.long x1), .second, .val (.long x2), .second, .unset, .unset] [] := by first | (simp [entryFrame, mkF, argsToLocals, Value.category]; done) | rfl
def own_exp (p1 : Int64) (p2 : Int64) (p3 : Int64) : Int32 := if p1 < (0 : Int64) then (0 : Int32) else (if p2 < (0 : Int64) then (0 : Int32) else (if (p1 + p2) < (0 : Int64) then (0 : Int32) else (if p3 < (p1 + p2) then (0 : Int32) else (1 : Int32))))
def Q2 (p1 : Int64) (p2 : Int64) (p3 : Int64) (h0 : Heap) (n0 : Nat) (v : Option Value) (h : Heap) (L : List Loc) : Prop := v = some (.int (own_exp p1 p2 p3)) ∧ Fr n0 L ∧ h = h0
theorem pn_2 : plainName "com/example/cato/cato/elf/FileWindowFitsPinLaw" = true := by first | (simp [plainName, overriddenIn]; done) | decide +kernel
set_option maxRecDepth 65536 in
set_option maxHeartbeats 40000000 in
theorem rm2 (l : Launch) (Z : State) (a0 : Array Value) (hw : ∀ d ∈ tables_1, d.before a0 Z = true) (ws : List Jvm.Cond) (p1 : Int64) (p2 : Int64) (p3 : Int64) (h0 : Heap) (n0 : Nat) (Z0 : n0 ≤ h0.size)  :
    MetFree l (⟨"com/example/cato/cato/elf/FileWindowFitsPinLaw", "expected", "(JJJ)Z"⟩ : MethodName) (head1 (Jvm.Cond.code (⟨"com/example/cato/cato/elf/FileWindowFitsPinLaw", "expected", "(JJJ)Z"⟩ : MethodName) method_3_code 8 (some .boolean) :: ws) ({ frames := 0, cells := 0, slots := 0, locals := 0 } : Room)) (fun a U => a = #[(.long p1), (.long p2), (.long p3)] ∧ Z.Warmed39 U.vm ∧ U.heap = h0) (fun _ _ _ _ _ => True) (fun _ U o U' => ∃ v L, o = .returned v ∧ Q2 p1 p2 p3 h0 n0 v U'.heap L ∧ FrameEnd U o U' L ({ frames := 0, cells := 0, slots := 0, locals := 0 } : Room).cells ({ frames := 0, cells := 0, slots := 0, locals := 0 } : Room).slots) := by
  refine MetFree.of_bodySF (plainFor_of_name pn_2) hisR ?_
  intro p e s m args below meth c s₁ Bd hml0 hP hK
  obtain ⟨rfl, hZ, hh⟩ := hP
  have hx := Bd.exec
  have hby := Bd.bytes
  have hml : c.maxLocals = 8 := hml0
  have hown : s.vm.findClass "com/example/cato/cato/elf/FileWindowFitsPinLaw" = some m.cls := findClass_of_methodNamed Bd.named
  have hnm := (name_of_methodNamed Bd.named Bd.method).1
  have X0 : Stand p l e ({ frames := 0, cells := 0, slots := 0, locals := 0 } : Room) s m #[(.long p1), (.long p2), (.long p3)] below meth c s₁ [] 0 0 := Stand.of_body Bd
  have e0 : s₁.heap = h0 := by rw [← hh, Bd.state]; rfl
  have N0 := Fr.nil n0
  have pre0 : ∀ t, Steps p.tables e below (s₁.setTop (mkF m 0 #[.val (.long p1), .second, .val (.long p2), .second, .val (.long p3), .second, .unset, .unset] [])) t → Steps p.tables e below (s₁.setTop (entryFrame m #[(.long p1), (.long p2), (.long p3)] 8)) t := fun t k => castTop (ef_2_JJJ m p1 p2 p3) k
  have pr_1 : ∀ t, Steps p.tables e below (s₁.setTop (mkF m 3 #[.val (.long p1), .second, .val (.long p2), .second, .val (.long p3), .second, .unset, .unset] [(.int (lcmpW p1 (0 : Int64)))])) t → Steps p.tables e below (s₁.setTop (entryFrame m #[(.long p1), (.long p2), (.long p3)] 8)) t := fun t k => by
    refine pre0 _ ?_
    show Steps p.tables e below (s₁.setTop (mkF m 0 #[.val (.long p1), .second, .val (.long p2), .second, .val (.long p3), .second, .unset, .unset] [])) _
    refine XS.lloadN X0.here hx rfl (hb hby d2_0) rfl ?_
    show Steps p.tables e below (s₁.setTop (mkF m 1 #[.val (.long p1), .second, .val (.long p2), .second, .val (.long p3), .second, .unset, .unset] [(.long p1)])) _
    refine XS.lconst X0.here hx rfl (hb hby d2_1) ?_
    show Steps p.tables e below (s₁.setTop (mkF m 2 #[.val (.long p1), .second, .val (.long p2), .second, .val (.long p3), .second, .unset, .unset] [(.long (0 : Int64)), (.long p1)])) _
    refine XS.lcmp X0.here hx rfl (hb hby d2_2) rfl ?_
    exact k
  by_cases hc_2 : p1 < (0 : Int64)
  · obtain ⟨fs, hr, hrun, hended, hW, hsame⟩ := X0.leave (v := some (.int (0 : Int32))) (fun h => by rw [Bd.returns] at h; cases h)
    refine ⟨_, _, pr_1 _ ?_, hrun, hended, _, _, rfl, ?_, ⟨_, rfl⟩, hW, hsame.mono (by decide) (by decide)⟩
    · show Steps p.tables e below (s₁.setTop (mkF m 3 #[.val (.long p1), .second, .val (.long p2), .second, .val (.long p3), .second, .unset, .unset] [(.int (lcmpW p1 (0 : Int64)))])) _
      refine XS.ifNo X0.here hx rfl (hb hby d2_3) rfl ((if0 _ _).trans (tlt ((lw_lt _ _).mpr hc_2)).2.1) ?_
      show Steps p.tables e below (s₁.setTop (mkF m 6 #[.val (.long p1), .second, .val (.long p2), .second, .val (.long p3), .second, .unset, .unset] [])) _
      refine XS.iconst X0.here hx rfl (hb hby d2_6) ?_
      show Steps p.tables e below (s₁.setTop (mkF m 7 #[.val (.long p1), .second, .val (.long p2), .second, .val (.long p3), .second, .unset, .unset] [(.int (0 : Int32))])) _
      exact retN X0 hx (t := .boolean) Bd.returns (by simp) (hb hby d2_7) hr
    · show Q2 p1 p2 p3 h0 n0 _ s₁.heap _
      rw [e0]
      exact ⟨by rw [own_exp, if_pos hc_2], N0, rfl⟩
  · have pr_3 : ∀ t, Steps p.tables e below (s₁.setTop (mkF m 11 #[.val (.long p1), .second, .val (.long p2), .second, .val (.long p3), .second, .unset, .unset] [(.int (lcmpW p2 (0 : Int64)))])) t → Steps p.tables e below (s₁.setTop (entryFrame m #[(.long p1), (.long p2), (.long p3)] 8)) t := fun t k => by
      refine pr_1 _ ?_
      show Steps p.tables e below (s₁.setTop (mkF m 3 #[.val (.long p1), .second, .val (.long p2), .second, .val (.long p3), .second, .unset, .unset] [(.int (lcmpW p1 (0 : Int64)))])) _
      refine XS.ifYes X0.here hx rfl (pc0 := 3) (pc' := 8) rfl (hb hby d2_3) rfl ((if0 _ _).trans (flt (mt (lw_lt _ _).mp hc_2)).2.1) (by decide) (by decide) ?_
      show Steps p.tables e below (s₁.setTop (mkF m 8 #[.val (.long p1), .second, .val (.long p2), .second, .val (.long p3), .second, .unset, .unset] [])) _
      refine XS.lloadN X0.here hx rfl (hb hby d2_8) rfl ?_
      show Steps p.tables e below (s₁.setTop (mkF m 9 #[.val (.long p1), .second, .val (.long p2), .second, .val (.long p3), .second, .unset, .unset] [(.long p2)])) _
      refine XS.lconst X0.here hx rfl (hb hby d2_9) ?_
      show Steps p.tables e below (s₁.setTop (mkF m 10 #[.val (.long p1), .second, .val (.long p2), .second, .val (.long p3), .second, .unset, .unset] [(.long (0 : Int64)), (.long p2)])) _
      refine XS.lcmp X0.here hx rfl (hb hby d2_10) rfl ?_
      exact k
    by_cases hc_4 : p2 < (0 : Int64)
    · obtain ⟨fs, hr, hrun, hended, hW, hsame⟩ := X0.leave (v := some (.int (0 : Int32))) (fun h => by rw [Bd.returns] at h; cases h)
      refine ⟨_, _, pr_3 _ ?_, hrun, hended, _, _, rfl, ?_, ⟨_, rfl⟩, hW, hsame.mono (by decide) (by decide)⟩
      · show Steps p.tables e below (s₁.setTop (mkF m 11 #[.val (.long p1), .second, .val (.long p2), .second, .val (.long p3), .second, .unset, .unset] [(.int (lcmpW p2 (0 : Int64)))])) _
        refine XS.ifNo X0.here hx rfl (hb hby d2_11) rfl ((if0 _ _).trans (tlt ((lw_lt _ _).mpr hc_4)).2.1) ?_
        show Steps p.tables e below (s₁.setTop (mkF m 14 #[.val (.long p1), .second, .val (.long p2), .second, .val (.long p3), .second, .unset, .unset] [])) _
        refine XS.iconst X0.here hx rfl (hb hby d2_14) ?_
        show Steps p.tables e below (s₁.setTop (mkF m 15 #[.val (.long p1), .second, .val (.long p2), .second, .val (.long p3), .second, .unset, .unset] [(.int (0 : Int32))])) _
        exact retN X0 hx (t := .boolean) Bd.returns (by simp) (hb hby d2_15) hr
      · show Q2 p1 p2 p3 h0 n0 _ s₁.heap _
        rw [e0]
        exact ⟨by rw [own_exp, if_neg hc_2, if_pos hc_4], N0, rfl⟩
    · have pr_5 : ∀ t, Steps p.tables e below (s₁.setTop (mkF m 25 #[.val (.long p1), .second, .val (.long p2), .second, .val (.long p3), .second, .val (.long (p1 + p2)), .second] [(.int (lcmpW (p1 + p2) (0 : Int64)))])) t → Steps p.tables e below (s₁.setTop (entryFrame m #[(.long p1), (.long p2), (.long p3)] 8)) t := fun t k => by
        refine pr_3 _ ?_
        show Steps p.tables e below (s₁.setTop (mkF m 11 #[.val (.long p1), .second, .val (.long p2), .second, .val (.long p3), .second, .unset, .unset] [(.int (lcmpW p2 (0 : Int64)))])) _
        refine XS.ifYes X0.here hx rfl (pc0 := 11) (pc' := 16) rfl (hb hby d2_11) rfl ((if0 _ _).trans (flt (mt (lw_lt _ _).mp hc_4)).2.1) (by decide) (by decide) ?_
        show Steps p.tables e below (s₁.setTop (mkF m 16 #[.val (.long p1), .second, .val (.long p2), .second, .val (.long p3), .second, .unset, .unset] [])) _
        refine XS.lloadN X0.here hx rfl (hb hby d2_16) rfl ?_
        show Steps p.tables e below (s₁.setTop (mkF m 17 #[.val (.long p1), .second, .val (.long p2), .second, .val (.long p3), .second, .unset, .unset] [(.long p1)])) _
        refine XS.lloadN X0.here hx rfl (hb hby d2_17) rfl ?_
        show Steps p.tables e below (s₁.setTop (mkF m 18 #[.val (.long p1), .second, .val (.long p2), .second, .val (.long p3), .second, .unset, .unset] [(.long p2), (.long p1)])) _
        refine XS.ladd X0.here hx rfl (hb hby d2_18) rfl ?_
        show Steps p.tables e below (s₁.setTop (mkF m 19 #[.val (.long p1), .second, .val (.long p2), .second, .val (.long p3), .second, .unset, .unset] [(.long (p1 + p2))])) _
        refine XS.lstore X0.here hx rfl (hb hby d2_19) rfl (l' := #[.val (.long p1), .second, .val (.long p2), .second, .val (.long p3), .second, .val (.long (p1 + p2)), .second]) rfl ?_
        show Steps p.tables e below (s₁.setTop (mkF m 21 #[.val (.long p1), .second, .val (.long p2), .second, .val (.long p3), .second, .val (.long (p1 + p2)), .second] [])) _
        refine XS.lload X0.here hx rfl (hb hby d2_21) rfl ?_
        show Steps p.tables e below (s₁.setTop (mkF m 23 #[.val (.long p1), .second, .val (.long p2), .second, .val (.long p3), .second, .val (.long (p1 + p2)), .second] [(.long (p1 + p2))])) _
        refine XS.lconst X0.here hx rfl (hb hby d2_23) ?_
        show Steps p.tables e below (s₁.setTop (mkF m 24 #[.val (.long p1), .second, .val (.long p2), .second, .val (.long p3), .second, .val (.long (p1 + p2)), .second] [(.long (0 : Int64)), (.long (p1 + p2))])) _
        refine XS.lcmp X0.here hx rfl (hb hby d2_24) rfl ?_
        exact k
      by_cases hc_6 : (p1 + p2) < (0 : Int64)
      · obtain ⟨fs, hr, hrun, hended, hW, hsame⟩ := X0.leave (v := some (.int (0 : Int32))) (fun h => by rw [Bd.returns] at h; cases h)
        refine ⟨_, _, pr_5 _ ?_, hrun, hended, _, _, rfl, ?_, ⟨_, rfl⟩, hW, hsame.mono (by decide) (by decide)⟩
        · show Steps p.tables e below (s₁.setTop (mkF m 25 #[.val (.long p1), .second, .val (.long p2), .second, .val (.long p3), .second, .val (.long (p1 + p2)), .second] [(.int (lcmpW (p1 + p2) (0 : Int64)))])) _
          refine XS.ifNo X0.here hx rfl (hb hby d2_25) rfl ((if0 _ _).trans (tlt ((lw_lt _ _).mpr hc_6)).2.1) ?_
          show Steps p.tables e below (s₁.setTop (mkF m 28 #[.val (.long p1), .second, .val (.long p2), .second, .val (.long p3), .second, .val (.long (p1 + p2)), .second] [])) _
          refine XS.iconst X0.here hx rfl (hb hby d2_28) ?_
          show Steps p.tables e below (s₁.setTop (mkF m 29 #[.val (.long p1), .second, .val (.long p2), .second, .val (.long p3), .second, .val (.long (p1 + p2)), .second] [(.int (0 : Int32))])) _
          exact retN X0 hx (t := .boolean) Bd.returns (by simp) (hb hby d2_29) hr
        · show Q2 p1 p2 p3 h0 n0 _ s₁.heap _
          rw [e0]
          exact ⟨by rw [own_exp, if_neg hc_2, if_neg hc_4, if_pos hc_6], N0, rfl⟩
      · have pr_7 : ∀ t, Steps p.tables e below (s₁.setTop (mkF m 35 #[.val (.long p1), .second, .val (.long p2), .second, .val (.long p3), .second, .val (.long (p1 + p2)), .second] [(.int (lcmpW (p1 + p2) p3))])) t → Steps p.tables e below (s₁.setTop (entryFrame m #[(.long p1), (.long p2), (.long p3)] 8)) t := fun t k => by
          refine pr_5 _ ?_
          show Steps p.tables e below (s₁.setTop (mkF m 25 #[.val (.long p1), .second, .val (.long p2), .second, .val (.long p3), .second, .val (.long (p1 + p2)), .second] [(.int (lcmpW (p1 + p2) (0 : Int64)))])) _
          refine XS.ifYes X0.here hx rfl (pc0 := 25) (pc' := 30) rfl (hb hby d2_25) rfl ((if0 _ _).trans (flt (mt (lw_lt _ _).mp hc_6)).2.1) (by decide) (by decide) ?_
          show Steps p.tables e below (s₁.setTop (mkF m 30 #[.val (.long p1), .second, .val (.long p2), .second, .val (.long p3), .second, .val (.long (p1 + p2)), .second] [])) _
          refine XS.lload X0.here hx rfl (hb hby d2_30) rfl ?_
          show Steps p.tables e below (s₁.setTop (mkF m 32 #[.val (.long p1), .second, .val (.long p2), .second, .val (.long p3), .second, .val (.long (p1 + p2)), .second] [(.long (p1 + p2))])) _
          refine XS.lload X0.here hx rfl (hb hby d2_32) rfl ?_
          show Steps p.tables e below (s₁.setTop (mkF m 34 #[.val (.long p1), .second, .val (.long p2), .second, .val (.long p3), .second, .val (.long (p1 + p2)), .second] [(.long p3), (.long (p1 + p2))])) _
          refine XS.lcmp X0.here hx rfl (hb hby d2_34) rfl ?_
          exact k
        by_cases hc_8 : p3 < (p1 + p2)
        · obtain ⟨fs, hr, hrun, hended, hW, hsame⟩ := X0.leave (v := some (.int (0 : Int32))) (fun h => by rw [Bd.returns] at h; cases h)
          refine ⟨_, _, pr_7 _ ?_, hrun, hended, _, _, rfl, ?_, ⟨_, rfl⟩, hW, hsame.mono (by decide) (by decide)⟩
          · show Steps p.tables e below (s₁.setTop (mkF m 35 #[.val (.long p1), .second, .val (.long p2), .second, .val (.long p3), .second, .val (.long (p1 + p2)), .second] [(.int (lcmpW (p1 + p2) p3))])) _
            refine XS.ifYes X0.here hx rfl (pc0 := 35) (pc' := 42) rfl (hb hby d2_35) rfl ((if0 _ _).trans (tlt ((lw_gt _ _).mpr hc_8)).2.2.1) (by decide) (by decide) ?_
            show Steps p.tables e below (s₁.setTop (mkF m 42 #[.val (.long p1), .second, .val (.long p2), .second, .val (.long p3), .second, .val (.long (p1 + p2)), .second] [])) _
            refine XS.iconst X0.here hx rfl (hb hby d2_42) ?_
            show Steps p.tables e below (s₁.setTop (mkF m 43 #[.val (.long p1), .second, .val (.long p2), .second, .val (.long p3), .second, .val (.long (p1 + p2)), .second] [(.int (0 : Int32))])) _
            exact retN X0 hx (t := .boolean) Bd.returns (by simp) (hb hby d2_43) hr
          · show Q2 p1 p2 p3 h0 n0 _ s₁.heap _
            rw [e0]
            exact ⟨by rw [own_exp, if_neg hc_2, if_neg hc_4, if_neg hc_6, if_pos hc_8], N0, rfl⟩
        · obtain ⟨fs, hr, hrun, hended, hW, hsame⟩ := X0.leave (v := some (.int (1 : Int32))) (fun h => by rw [Bd.returns] at h; cases h)
          refine ⟨_, _, pr_7 _ ?_, hrun, hended, _, _, rfl, ?_, ⟨_, rfl⟩, hW, hsame.mono (by decide) (by decide)⟩
          · show Steps p.tables e below (s₁.setTop (mkF m 35 #[.val (.long p1), .second, .val (.long p2), .second, .val (.long p3), .second, .val (.long (p1 + p2)), .second] [(.int (lcmpW (p1 + p2) p3))])) _
            refine XS.ifNo X0.here hx rfl (hb hby d2_35) rfl ((if0 _ _).trans (flt (mt (lw_gt _ _).mp hc_8)).2.2.1) ?_
            show Steps p.tables e below (s₁.setTop (mkF m 38 #[.val (.long p1), .second, .val (.long p2), .second, .val (.long p3), .second, .val (.long (p1 + p2)), .second] [])) _
            refine XS.iconst X0.here hx rfl (hb hby d2_38) ?_
            show Steps p.tables e below (s₁.setTop (mkF m 39 #[.val (.long p1), .second, .val (.long p2), .second, .val (.long p3), .second, .val (.long (p1 + p2)), .second] [(.int (1 : Int32))])) _
            refine XS.goto X0.here hx rfl (pc0 := 39) (pc' := 43) rfl (hb hby d2_39) (by decide) (by decide) ?_
            show Steps p.tables e below (s₁.setTop (mkF m 43 #[.val (.long p1), .second, .val (.long p2), .second, .val (.long p3), .second, .val (.long (p1 + p2)), .second] [(.int (1 : Int32))])) _
            exact retN X0 hx (t := .boolean) Bd.returns (by simp) (hb hby d2_43) hr
          · show Q2 p1 p2 p3 h0 n0 _ s₁.heap _
            rw [e0]
            exact ⟨by rw [own_exp, if_neg hc_2, if_neg hc_4, if_neg hc_6, if_neg hc_8], N0, rfl⟩
theorem own_wrap {x y : Int64} (h1 : ¬ x.toInt < 0) (h2 : ¬ y.toInt < 0) (h : ¬ x.toInt + y.toInt < 2 ^ 63) : (x + y).toInt = x.toInt + y.toInt - 2 ^ 64 := by
  have a1 := Int64.toInt_lt x
  have b1 := Int64.toInt_lt y
  rw [Int64.toInt_add, Int.bmod_def]
  have e : (x.toInt + y.toInt) % ((2 ^ 64 : Nat) : Int) = x.toInt + y.toInt := Int.emod_eq_of_lt (by omega) (by omega)
  rw [e, if_neg (by omega)]
  omega
theorem own_same (p1 p2 p3 : Int64) : own_fits p1 p2 p3 = own_exp p1 p2 p3 := by
  have a1 := Int64.toInt_lt p1
  have a2 := Int64.le_toInt p1
  have b1 := Int64.toInt_lt p2
  have b2 := Int64.le_toInt p2
  have c1 := Int64.toInt_lt p3
  have c2 := Int64.le_toInt p3
  have z : (0 : Int64).toInt = 0 := rfl
  unfold own_fits own_exp
  by_cases h1 : p1 < 0
  · rw [if_pos h1, if_pos h1]
  rw [if_neg h1, if_neg h1]
  by_cases h2 : p2 < 0
  · rw [if_pos h2, if_pos h2]
  rw [if_neg h2, if_neg h2]
  rw [Int64.lt_iff_toInt_lt, z] at h1 h2
  by_cases hov : p1.toInt + p2.toInt < 2 ^ 63
  · have e := Jvm.Kit.i64_add (x := p1) (y := p2) (by omega) hov
    rw [if_neg (show ¬ (p1 + p2) < 0 by rw [Int64.lt_iff_toInt_lt, e, z]; omega)]
    by_cases h3 : p3 < p1
    · rw [if_pos h3, if_pos (show p3 < p1 + p2 by rw [Int64.lt_iff_toInt_lt] at h3 ⊢; omega)]
    · rw [if_neg h3]
      rw [Int64.lt_iff_toInt_lt] at h3
      have e2 := Jvm.Kit.i64_sub (x := p3) (y := p1) (by omega) (by omega)
      by_cases h4 : p3 - p1 < p2
      · rw [if_pos h4, if_pos (show p3 < p1 + p2 by rw [Int64.lt_iff_toInt_lt] at h4 ⊢; omega)]
      · rw [if_neg h4, if_neg (show ¬ p3 < p1 + p2 by rw [Int64.lt_iff_toInt_lt] at h4 ⊢; omega)]
  · have e := own_wrap h1 h2 hov
    rw [if_pos (show (p1 + p2) < 0 by rw [Int64.lt_iff_toInt_lt, e, z]; omega)]
    by_cases h3 : p3 < p1
    · rw [if_pos h3]
    · rw [if_neg h3]
      rw [Int64.lt_iff_toInt_lt] at h3
      have e2 := Jvm.Kit.i64_sub (x := p3) (y := p1) (by omega) (by omega)
      rw [if_pos (show p3 - p1 < p2 by rw [Int64.lt_iff_toInt_lt]; omega)]
theorem pd_1 : parseMethodDescriptor "(JJJ)Z" = some ⟨[.long, .long, .long], some .boolean⟩ := by decide +kernel
theorem ef_0_JJJI (m : MethodId) (x0 : Int64) (x1 : Int64) (x2 : Int64) (x3 : Int32) : entryFrame m #[(.long x0), (.long x1), (.long x2), (.int x3)] maxLocals = mkF m 0 #[.val (.long x0), .second, .val (.long x1), .second, .val (.long x2), .second, .val (.int x3), .unset, .unset, .unset] [] := by first | (simp [entryFrame, mkF, argsToLocals, Value.category, maxLocals]; done) | rfl
def Q0 (n0 : Nat) (v : Option Value) (h : Heap) (L : List Loc) : Prop := v = some (.int (1 : Int32)) ∧ Fr n0 L
theorem pn_0 : plainName "com/example/cato/cato/elf/FileWindowFitsPinLaw" = true := by first | (simp [plainName, overriddenIn]; done) | decide +kernel
set_option maxRecDepth 65536 in
set_option maxHeartbeats 40000000 in
theorem rm0 (l : Launch) (Z : State) (a0 : Array Value) (hw : ∀ d ∈ tables_1, d.before a0 Z = true) (ws : List Jvm.Cond) (q1 : Int64) (q2 : Int64) (q3 : Int64) (p4 : Int32) (h0 : Heap) (n0 : Nat) (Z0 : n0 ≤ h0.size)  :
    MetFree l x (head1 (Jvm.Cond.code x code maxLocals ret :: ws) room_1) (fun a U => a = #[(.long q1), (.long q2), (.long q3), (.int p4)] ∧ Z.Warmed39 U.vm ∧ U.heap = h0) (fun _ _ _ _ _ => True) (fun _ U o U' => ∃ v L, o = .returned v ∧ Q0 n0 v U'.heap L ∧ FrameEnd U o U' L room_1.cells room_1.slots) := by
  refine MetFree.of_bodySF (plainFor_of_name pn_0) hisR ?_
  intro p e s m args below meth c s₁ Bd hml0 hP hK
  obtain ⟨rfl, hZ, hh⟩ := hP
  have hx := Bd.exec
  have hby := Bd.bytes
  have hml : c.maxLocals = 10 := hml0
  have hown : s.vm.findClass "com/example/cato/cato/elf/FileWindowFitsPinLaw" = some m.cls := findClass_of_methodNamed Bd.named
  have hnm := (name_of_methodNamed Bd.named Bd.method).1
  have X0 : Stand p l e room_1 s m #[(.long q1), (.long q2), (.long q3), (.int p4)] below meth c s₁ [] 0 0 := Stand.of_body Bd
  have e0 : s₁.heap = h0 := by rw [← hh, Bd.state]; rfl
  have N0 := Fr.nil n0
  have pre0 : ∀ t, Steps p.tables e below (s₁.setTop (mkF m 0 #[.val (.long q1), .second, .val (.long q2), .second, .val (.long q3), .second, .val (.int p4), .unset, .unset, .unset] [])) t → Steps p.tables e below (s₁.setTop (entryFrame m #[(.long q1), (.long q2), (.long q3), (.int p4)] maxLocals)) t := fun t k => castTop (ef_0_JJJI m q1 q2 q3 p4) k
  have pr_1 : ∀ t, Steps p.tables e below (s₁.setTop (mkF m 8 #[.val (.long q1), .second, .val (.long q2), .second, .val (.long q3), .second, .val (.int p4), .val (.long q3), .second, .unset] [(.int (p4 &&& (1 : Int32)))])) t → Steps p.tables e below (s₁.setTop (entryFrame m #[(.long q1), (.long q2), (.long q3), (.int p4)] maxLocals)) t := fun t k => by
    refine pre0 _ ?_
    show Steps p.tables e below (s₁.setTop (mkF m 0 #[.val (.long q1), .second, .val (.long q2), .second, .val (.long q3), .second, .val (.int p4), .unset, .unset, .unset] [])) _
    refine XS.lload X0.here hx rfl (hb hby at_0) rfl ?_
    show Steps p.tables e below (s₁.setTop (mkF m 2 #[.val (.long q1), .second, .val (.long q2), .second, .val (.long q3), .second, .val (.int p4), .unset, .unset, .unset] [(.long q3)])) _
    refine XS.lstore X0.here hx rfl (hb hby at_2) rfl (l' := #[.val (.long q1), .second, .val (.long q2), .second, .val (.long q3), .second, .val (.int p4), .val (.long q3), .second, .unset]) rfl ?_
    show Steps p.tables e below (s₁.setTop (mkF m 4 #[.val (.long q1), .second, .val (.long q2), .second, .val (.long q3), .second, .val (.int p4), .val (.long q3), .second, .unset] [])) _
    refine XS.iload X0.here hx rfl (hb hby at_4) rfl ?_
    show Steps p.tables e below (s₁.setTop (mkF m 6 #[.val (.long q1), .second, .val (.long q2), .second, .val (.long q3), .second, .val (.int p4), .val (.long q3), .second, .unset] [(.int p4)])) _
    refine XS.iconst X0.here hx rfl (hb hby at_6) ?_
    show Steps p.tables e below (s₁.setTop (mkF m 7 #[.val (.long q1), .second, .val (.long q2), .second, .val (.long q3), .second, .val (.int p4), .val (.long q3), .second, .unset] [(.int (1 : Int32)), (.int p4)])) _
    refine XS.iand X0.here hx rfl (hb hby at_7) rfl ?_
    exact k
  by_cases hc_2 : (p4 &&& (1 : Int32)) = (0 : Int32)
  · obtain ⟨_, _, ⟨T_3, L_3, k_3, n_3⟩, -, X_3, ⟨Lc_3, hQ_3, l_3, y_3, z_3⟩, st_3⟩ := Jvm.LawKit.callS X0 hx (y := (⟨"com/example/cato/cato/elf/FileWindow", "fits", "(JJJ)Z"⟩ : MethodName)) hown (mvT hZ (hw _ (List.mem_of_getElem? (i := 0) rfl))) (mvT hZ (hw _ (List.mem_of_getElem? (i := 1) rfl))) (mvT hZ (hw _ (List.mem_of_getElem? (i := 2) rfl))) (mvT hZ (hw _ (List.mem_of_getElem? (i := 3) rfl))) (by decide) (backOf (W := 0) (rm1 l Z a0 hw [] q1 q2 q3 h0 n0 Z0) hZ (hw _ (List.mem_of_getElem? (i := 3) rfl)) (hw _ (List.mem_of_getElem? (i := 2) rfl)) (by decide) (by decide)) (g := (mkF m 28 #[.val (.long q1), .second, .val (.long q2), .second, .val (.long q3), .second, .val (.int p4), .val (.long q3), .second, .unset] [(.long q3), (.long q2), (.long q1)])) rfl (by rw [hml]; rfl) (argsL := [(.long q1), (.long q2), (.long q3)]) (rest := []) (lenOf pd_1 rfl) rfl (by show 2 * 0 + _ ≤ _; exact Nat.le_of_eq rfl) (hb hby at_28) (fun _ _ => ⟨rfl, e0, (by decide : 0 + 0 ≤ _), (by decide : 0 + 0 ≤ _)⟩)
    dsimp only [Pt.U, Pt.locs, Pt.cells, Pt.slots] at X_3 l_3 y_3 z_3 st_3 hQ_3
    subst l_3 y_3 z_3
    obtain ⟨rfl, N_3q, e_3⟩ := hQ_3
    have N_3 := Fr.app N0 N_3q
    obtain ⟨_, _, ⟨T_4, L_4, k_4, n_4⟩, -, X_4, ⟨Lc_4, hQ_4, l_4, y_4, z_4⟩, st_4⟩ := Jvm.LawKit.callS X_3 hx (y := (⟨"com/example/cato/cato/elf/FileWindowFitsPinLaw", "expected", "(JJJ)Z"⟩ : MethodName)) hown (mvT hZ (hw _ (List.mem_of_getElem? (i := 4) rfl))) (mvT hZ (hw _ (List.mem_of_getElem? (i := 5) rfl))) (mvT hZ (hw _ (List.mem_of_getElem? (i := 6) rfl))) (mvT hZ (hw _ (List.mem_of_getElem? (i := 7) rfl))) (by decide) (backOf (W := 1) (rm2 l Z a0 hw [] q1 q2 q3 h0 n0 Z0) hZ (hw _ (List.mem_of_getElem? (i := 7) rfl)) (hw _ (List.mem_of_getElem? (i := 6) rfl)) (by decide) (by decide)) (g := (mkF m 39 #[.val (.long q1), .second, .val (.long q2), .second, .val (.long q3), .second, .val (.int p4), .val (.long q3), .second, .val (.int (own_fits q1 q2 q3))] [(.long q3), (.long q2), (.long q1), (.int (own_fits q1 q2 q3))])) rfl (by rw [hml]; rfl) (argsL := [(.long q1), (.long q2), (.long q3)]) (rest := [(.int (own_fits q1 q2 q3))]) (lenOf pd_1 rfl) rfl (by show 2 * 0 + _ ≤ _; exact Nat.le_of_eq rfl) (hb hby at_39) (fun _ _ => ⟨rfl, e_3, (by decide : 0 + 0 ≤ _), (by decide : 0 + 0 ≤ _)⟩)
    dsimp only [Pt.U, Pt.locs, Pt.cells, Pt.slots] at X_4 l_4 y_4 z_4 st_4 hQ_4
    subst l_4 y_4 z_4
    obtain ⟨rfl, N_4q, e_4⟩ := hQ_4
    have N_4 := Fr.app N_3 N_4q
    obtain ⟨fs, hr, hrun, hended, hW, hsame⟩ := X_4.leave (v := some (.int (1 : Int32))) (fun h => by rw [Bd.returns] at h; cases h)
    refine ⟨_, _, pr_1 _ ?_, hrun, hended, _, _, rfl, ?_, ⟨_, rfl⟩, hW, hsame.mono (by decide) (by decide)⟩
    · show Steps p.tables e below (s₁.setTop (mkF m 8 #[.val (.long q1), .second, .val (.long q2), .second, .val (.long q3), .second, .val (.int p4), .val (.long q3), .second, .unset] [(.int (p4 &&& (1 : Int32)))])) _
      refine XS.ifYes X0.here hx rfl (pc0 := 8) (pc' := 24) rfl (hb hby at_8) rfl ((if0 _ _).trans (teq hc_2).1) (by decide) (by decide) ?_
      show Steps p.tables e below (s₁.setTop (mkF m 24 #[.val (.long q1), .second, .val (.long q2), .second, .val (.long q3), .second, .val (.int p4), .val (.long q3), .second, .unset] [])) _
      refine XS.lloadN X0.here hx rfl (hb hby at_24) rfl ?_
      show Steps p.tables e below (s₁.setTop (mkF m 25 #[.val (.long q1), .second, .val (.long q2), .second, .val (.long q3), .second, .val (.int p4), .val (.long q3), .second, .unset] [(.long q1)])) _
      refine XS.lloadN X0.here hx rfl (hb hby at_25) rfl ?_
      show Steps p.tables e below (s₁.setTop (mkF m 26 #[.val (.long q1), .second, .val (.long q2), .second, .val (.long q3), .second, .val (.int p4), .val (.long q3), .second, .unset] [(.long q2), (.long q1)])) _
      refine XS.lload X0.here hx rfl (hb hby at_26) rfl ?_
      show Steps p.tables e below (s₁.setTop (mkF m 28 #[.val (.long q1), .second, .val (.long q2), .second, .val (.long q3), .second, .val (.int p4), .val (.long q3), .second, .unset] [(.long q3), (.long q2), (.long q1)])) _
      refine st_3 _ ?_
      show Steps p.tables e below (T_3.setTop (mkF m 31 #[.val (.long q1), .second, .val (.long q2), .second, .val (.long q3), .second, .val (.int p4), .val (.long q3), .second, .unset] [(.int (own_fits q1 q2 q3))])) _
      refine XS.istore X_3.here hx rfl (hb hby at_31) rfl (l' := #[.val (.long q1), .second, .val (.long q2), .second, .val (.long q3), .second, .val (.int p4), .val (.long q3), .second, .val (.int (own_fits q1 q2 q3))]) rfl ?_
      show Steps p.tables e below (T_3.setTop (mkF m 33 #[.val (.long q1), .second, .val (.long q2), .second, .val (.long q3), .second, .val (.int p4), .val (.long q3), .second, .val (.int (own_fits q1 q2 q3))] [])) _
      refine XS.iload X_3.here hx rfl (hb hby at_33) rfl ?_
      show Steps p.tables e below (T_3.setTop (mkF m 35 #[.val (.long q1), .second, .val (.long q2), .second, .val (.long q3), .second, .val (.int p4), .val (.long q3), .second, .val (.int (own_fits q1 q2 q3))] [(.int (own_fits q1 q2 q3))])) _
      refine XS.lloadN X_3.here hx rfl (hb hby at_35) rfl ?_
      show Steps p.tables e below (T_3.setTop (mkF m 36 #[.val (.long q1), .second, .val (.long q2), .second, .val (.long q3), .second, .val (.int p4), .val (.long q3), .second, .val (.int (own_fits q1 q2 q3))] [(.long q1), (.int (own_fits q1 q2 q3))])) _
      refine XS.lloadN X_3.here hx rfl (hb hby at_36) rfl ?_
      show Steps p.tables e below (T_3.setTop (mkF m 37 #[.val (.long q1), .second, .val (.long q2), .second, .val (.long q3), .second, .val (.int p4), .val (.long q3), .second, .val (.int (own_fits q1 q2 q3))] [(.long q2), (.long q1), (.int (own_fits q1 q2 q3))])) _
      refine XS.lload X_3.here hx rfl (hb hby at_37) rfl ?_
      show Steps p.tables e below (T_3.setTop (mkF m 39 #[.val (.long q1), .second, .val (.long q2), .second, .val (.long q3), .second, .val (.int p4), .val (.long q3), .second, .val (.int (own_fits q1 q2 q3))] [(.long q3), (.long q2), (.long q1), (.int (own_fits q1 q2 q3))])) _
      refine st_4 _ ?_
      show Steps p.tables e below (T_4.setTop (mkF m 42 #[.val (.long q1), .second, .val (.long q2), .second, .val (.long q3), .second, .val (.int p4), .val (.long q3), .second, .val (.int (own_fits q1 q2 q3))] [(.int (own_exp q1 q2 q3)), (.int (own_fits q1 q2 q3))])) _
      refine XS.icmpNo X_4.here hx rfl (hb hby at_42) rfl (teq ((own_same _ _ _) : (own_fits q1 q2 q3) = (own_exp q1 q2 q3))).2 ?_
      show Steps p.tables e below (T_4.setTop (mkF m 45 #[.val (.long q1), .second, .val (.long q2), .second, .val (.long q3), .second, .val (.int p4), .val (.long q3), .second, .val (.int (own_fits q1 q2 q3))] [])) _
      refine XS.iconst X_4.here hx rfl (hb hby at_45) ?_
      show Steps p.tables e below (T_4.setTop (mkF m 46 #[.val (.long q1), .second, .val (.long q2), .second, .val (.long q3), .second, .val (.int p4), .val (.long q3), .second, .val (.int (own_fits q1 q2 q3))] [(.int (1 : Int32))])) _
      refine XS.goto X_4.here hx rfl (pc0 := 46) (pc' := 50) rfl (hb hby at_46) (by decide) (by decide) ?_
      show Steps p.tables e below (T_4.setTop (mkF m 50 #[.val (.long q1), .second, .val (.long q2), .second, .val (.long q3), .second, .val (.int p4), .val (.long q3), .second, .val (.int (own_fits q1 q2 q3))] [(.int (1 : Int32))])) _
      exact retN X_4 hx (t := .boolean) Bd.returns (by simp) (hb hby at_50) hr
    · exact ⟨rfl, N_4⟩
  · obtain ⟨_, _, ⟨T_5, L_5, k_5, n_5⟩, -, X_5, ⟨Lc_5, hQ_5, l_5, y_5, z_5⟩, st_5⟩ := Jvm.LawKit.callS X0 hx (y := (⟨"com/example/cato/cato/elf/FileWindow", "fits", "(JJJ)Z"⟩ : MethodName)) hown (mvT hZ (hw _ (List.mem_of_getElem? (i := 0) rfl))) (mvT hZ (hw _ (List.mem_of_getElem? (i := 1) rfl))) (mvT hZ (hw _ (List.mem_of_getElem? (i := 2) rfl))) (mvT hZ (hw _ (List.mem_of_getElem? (i := 3) rfl))) (by decide) (backOf (W := 0) (rm1 l Z a0 hw [] q1 q2 ((q1 + q2) + (((p4 >>> ((1 : Int32) &&& 31)) % (3 : Int32)).toInt64)) h0 n0 Z0) hZ (hw _ (List.mem_of_getElem? (i := 3) rfl)) (hw _ (List.mem_of_getElem? (i := 2) rfl)) (by decide) (by decide)) (g := (mkF m 28 #[.val (.long q1), .second, .val (.long q2), .second, .val (.long q3), .second, .val (.int p4), .val (.long ((q1 + q2) + (((p4 >>> ((1 : Int32) &&& 31)) % (3 : Int32)).toInt64))), .second, .unset] [(.long ((q1 + q2) + (((p4 >>> ((1 : Int32) &&& 31)) % (3 : Int32)).toInt64))), (.long q2), (.long q1)])) rfl (by rw [hml]; rfl) (argsL := [(.long q1), (.long q2), (.long ((q1 + q2) + (((p4 >>> ((1 : Int32) &&& 31)) % (3 : Int32)).toInt64)))]) (rest := []) (lenOf pd_1 rfl) rfl (by show 2 * 0 + _ ≤ _; exact Nat.le_of_eq rfl) (hb hby at_28) (fun _ _ => ⟨rfl, e0, (by decide : 0 + 0 ≤ _), (by decide : 0 + 0 ≤ _)⟩)
    dsimp only [Pt.U, Pt.locs, Pt.cells, Pt.slots] at X_5 l_5 y_5 z_5 st_5 hQ_5
    subst l_5 y_5 z_5
    obtain ⟨rfl, N_5q, e_5⟩ := hQ_5
    have N_5 := Fr.app N0 N_5q
    obtain ⟨_, _, ⟨T_6, L_6, k_6, n_6⟩, -, X_6, ⟨Lc_6, hQ_6, l_6, y_6, z_6⟩, st_6⟩ := Jvm.LawKit.callS X_5 hx (y := (⟨"com/example/cato/cato/elf/FileWindowFitsPinLaw", "expected", "(JJJ)Z"⟩ : MethodName)) hown (mvT hZ (hw _ (List.mem_of_getElem? (i := 4) rfl))) (mvT hZ (hw _ (List.mem_of_getElem? (i := 5) rfl))) (mvT hZ (hw _ (List.mem_of_getElem? (i := 6) rfl))) (mvT hZ (hw _ (List.mem_of_getElem? (i := 7) rfl))) (by decide) (backOf (W := 1) (rm2 l Z a0 hw [] q1 q2 ((q1 + q2) + (((p4 >>> ((1 : Int32) &&& 31)) % (3 : Int32)).toInt64)) h0 n0 Z0) hZ (hw _ (List.mem_of_getElem? (i := 7) rfl)) (hw _ (List.mem_of_getElem? (i := 6) rfl)) (by decide) (by decide)) (g := (mkF m 39 #[.val (.long q1), .second, .val (.long q2), .second, .val (.long q3), .second, .val (.int p4), .val (.long ((q1 + q2) + (((p4 >>> ((1 : Int32) &&& 31)) % (3 : Int32)).toInt64))), .second, .val (.int (own_fits q1 q2 ((q1 + q2) + (((p4 >>> ((1 : Int32) &&& 31)) % (3 : Int32)).toInt64))))] [(.long ((q1 + q2) + (((p4 >>> ((1 : Int32) &&& 31)) % (3 : Int32)).toInt64))), (.long q2), (.long q1), (.int (own_fits q1 q2 ((q1 + q2) + (((p4 >>> ((1 : Int32) &&& 31)) % (3 : Int32)).toInt64))))])) rfl (by rw [hml]; rfl) (argsL := [(.long q1), (.long q2), (.long ((q1 + q2) + (((p4 >>> ((1 : Int32) &&& 31)) % (3 : Int32)).toInt64)))]) (rest := [(.int (own_fits q1 q2 ((q1 + q2) + (((p4 >>> ((1 : Int32) &&& 31)) % (3 : Int32)).toInt64))))]) (lenOf pd_1 rfl) rfl (by show 2 * 0 + _ ≤ _; exact Nat.le_of_eq rfl) (hb hby at_39) (fun _ _ => ⟨rfl, e_5, (by decide : 0 + 0 ≤ _), (by decide : 0 + 0 ≤ _)⟩)
    dsimp only [Pt.U, Pt.locs, Pt.cells, Pt.slots] at X_6 l_6 y_6 z_6 st_6 hQ_6
    subst l_6 y_6 z_6
    obtain ⟨rfl, N_6q, e_6⟩ := hQ_6
    have N_6 := Fr.app N_5 N_6q
    obtain ⟨fs, hr, hrun, hended, hW, hsame⟩ := X_6.leave (v := some (.int (1 : Int32))) (fun h => by rw [Bd.returns] at h; cases h)
    refine ⟨_, _, pr_1 _ ?_, hrun, hended, _, _, rfl, ?_, ⟨_, rfl⟩, hW, hsame.mono (by decide) (by decide)⟩
    · show Steps p.tables e below (s₁.setTop (mkF m 8 #[.val (.long q1), .second, .val (.long q2), .second, .val (.long q3), .second, .val (.int p4), .val (.long q3), .second, .unset] [(.int (p4 &&& (1 : Int32)))])) _
      refine XS.ifNo X0.here hx rfl (hb hby at_8) rfl ((if0 _ _).trans (feq hc_2).1) ?_
      show Steps p.tables e below (s₁.setTop (mkF m 11 #[.val (.long q1), .second, .val (.long q2), .second, .val (.long q3), .second, .val (.int p4), .val (.long q3), .second, .unset] [])) _
      refine XS.lloadN X0.here hx rfl (hb hby at_11) rfl ?_
      show Steps p.tables e below (s₁.setTop (mkF m 12 #[.val (.long q1), .second, .val (.long q2), .second, .val (.long q3), .second, .val (.int p4), .val (.long q3), .second, .unset] [(.long q1)])) _
      refine XS.lloadN X0.here hx rfl (hb hby at_12) rfl ?_
      show Steps p.tables e below (s₁.setTop (mkF m 13 #[.val (.long q1), .second, .val (.long q2), .second, .val (.long q3), .second, .val (.int p4), .val (.long q3), .second, .unset] [(.long q2), (.long q1)])) _
      refine XS.ladd X0.here hx rfl (hb hby at_13) rfl ?_
      show Steps p.tables e below (s₁.setTop (mkF m 14 #[.val (.long q1), .second, .val (.long q2), .second, .val (.long q3), .second, .val (.int p4), .val (.long q3), .second, .unset] [(.long (q1 + q2))])) _
      refine XS.iload X0.here hx rfl (hb hby at_14) rfl ?_
      show Steps p.tables e below (s₁.setTop (mkF m 16 #[.val (.long q1), .second, .val (.long q2), .second, .val (.long q3), .second, .val (.int p4), .val (.long q3), .second, .unset] [(.int p4), (.long (q1 + q2))])) _
      refine XS.iconst X0.here hx rfl (hb hby at_16) ?_
      show Steps p.tables e below (s₁.setTop (mkF m 17 #[.val (.long q1), .second, .val (.long q2), .second, .val (.long q3), .second, .val (.int p4), .val (.long q3), .second, .unset] [(.int (1 : Int32)), (.int p4), (.long (q1 + q2))])) _
      refine XS.ishr X0.here hx rfl (hb hby at_17) rfl ?_
      show Steps p.tables e below (s₁.setTop (mkF m 18 #[.val (.long q1), .second, .val (.long q2), .second, .val (.long q3), .second, .val (.int p4), .val (.long q3), .second, .unset] [(.int (p4 >>> ((1 : Int32) &&& 31))), (.long (q1 + q2))])) _
      refine XS.iconst X0.here hx rfl (hb hby at_18) ?_
      show Steps p.tables e below (s₁.setTop (mkF m 19 #[.val (.long q1), .second, .val (.long q2), .second, .val (.long q3), .second, .val (.int p4), .val (.long q3), .second, .unset] [(.int (3 : Int32)), (.int (p4 >>> ((1 : Int32) &&& 31))), (.long (q1 + q2))])) _
      refine iremM X0 hx rfl (hb hby at_19) rfl (by decide) ?_
      show Steps p.tables e below (s₁.setTop (mkF m 20 #[.val (.long q1), .second, .val (.long q2), .second, .val (.long q3), .second, .val (.int p4), .val (.long q3), .second, .unset] [(.int ((p4 >>> ((1 : Int32) &&& 31)) % (3 : Int32))), (.long (q1 + q2))])) _
      refine XS.i2l X0.here hx rfl (hb hby at_20) rfl ?_
      show Steps p.tables e below (s₁.setTop (mkF m 21 #[.val (.long q1), .second, .val (.long q2), .second, .val (.long q3), .second, .val (.int p4), .val (.long q3), .second, .unset] [(.long (((p4 >>> ((1 : Int32) &&& 31)) % (3 : Int32)).toInt64)), (.long (q1 + q2))])) _
      refine XS.ladd X0.here hx rfl (hb hby at_21) rfl ?_
      show Steps p.tables e below (s₁.setTop (mkF m 22 #[.val (.long q1), .second, .val (.long q2), .second, .val (.long q3), .second, .val (.int p4), .val (.long q3), .second, .unset] [(.long ((q1 + q2) + (((p4 >>> ((1 : Int32) &&& 31)) % (3 : Int32)).toInt64)))])) _
      refine XS.lstore X0.here hx rfl (hb hby at_22) rfl (l' := #[.val (.long q1), .second, .val (.long q2), .second, .val (.long q3), .second, .val (.int p4), .val (.long ((q1 + q2) + (((p4 >>> ((1 : Int32) &&& 31)) % (3 : Int32)).toInt64))), .second, .unset]) rfl ?_
      show Steps p.tables e below (s₁.setTop (mkF m 24 #[.val (.long q1), .second, .val (.long q2), .second, .val (.long q3), .second, .val (.int p4), .val (.long ((q1 + q2) + (((p4 >>> ((1 : Int32) &&& 31)) % (3 : Int32)).toInt64))), .second, .unset] [])) _
      refine XS.lloadN X0.here hx rfl (hb hby at_24) rfl ?_
      show Steps p.tables e below (s₁.setTop (mkF m 25 #[.val (.long q1), .second, .val (.long q2), .second, .val (.long q3), .second, .val (.int p4), .val (.long ((q1 + q2) + (((p4 >>> ((1 : Int32) &&& 31)) % (3 : Int32)).toInt64))), .second, .unset] [(.long q1)])) _
      refine XS.lloadN X0.here hx rfl (hb hby at_25) rfl ?_
      show Steps p.tables e below (s₁.setTop (mkF m 26 #[.val (.long q1), .second, .val (.long q2), .second, .val (.long q3), .second, .val (.int p4), .val (.long ((q1 + q2) + (((p4 >>> ((1 : Int32) &&& 31)) % (3 : Int32)).toInt64))), .second, .unset] [(.long q2), (.long q1)])) _
      refine XS.lload X0.here hx rfl (hb hby at_26) rfl ?_
      show Steps p.tables e below (s₁.setTop (mkF m 28 #[.val (.long q1), .second, .val (.long q2), .second, .val (.long q3), .second, .val (.int p4), .val (.long ((q1 + q2) + (((p4 >>> ((1 : Int32) &&& 31)) % (3 : Int32)).toInt64))), .second, .unset] [(.long ((q1 + q2) + (((p4 >>> ((1 : Int32) &&& 31)) % (3 : Int32)).toInt64))), (.long q2), (.long q1)])) _
      refine st_5 _ ?_
      show Steps p.tables e below (T_5.setTop (mkF m 31 #[.val (.long q1), .second, .val (.long q2), .second, .val (.long q3), .second, .val (.int p4), .val (.long ((q1 + q2) + (((p4 >>> ((1 : Int32) &&& 31)) % (3 : Int32)).toInt64))), .second, .unset] [(.int (own_fits q1 q2 ((q1 + q2) + (((p4 >>> ((1 : Int32) &&& 31)) % (3 : Int32)).toInt64))))])) _
      refine XS.istore X_5.here hx rfl (hb hby at_31) rfl (l' := #[.val (.long q1), .second, .val (.long q2), .second, .val (.long q3), .second, .val (.int p4), .val (.long ((q1 + q2) + (((p4 >>> ((1 : Int32) &&& 31)) % (3 : Int32)).toInt64))), .second, .val (.int (own_fits q1 q2 ((q1 + q2) + (((p4 >>> ((1 : Int32) &&& 31)) % (3 : Int32)).toInt64))))]) rfl ?_
      show Steps p.tables e below (T_5.setTop (mkF m 33 #[.val (.long q1), .second, .val (.long q2), .second, .val (.long q3), .second, .val (.int p4), .val (.long ((q1 + q2) + (((p4 >>> ((1 : Int32) &&& 31)) % (3 : Int32)).toInt64))), .second, .val (.int (own_fits q1 q2 ((q1 + q2) + (((p4 >>> ((1 : Int32) &&& 31)) % (3 : Int32)).toInt64))))] [])) _
      refine XS.iload X_5.here hx rfl (hb hby at_33) rfl ?_
      show Steps p.tables e below (T_5.setTop (mkF m 35 #[.val (.long q1), .second, .val (.long q2), .second, .val (.long q3), .second, .val (.int p4), .val (.long ((q1 + q2) + (((p4 >>> ((1 : Int32) &&& 31)) % (3 : Int32)).toInt64))), .second, .val (.int (own_fits q1 q2 ((q1 + q2) + (((p4 >>> ((1 : Int32) &&& 31)) % (3 : Int32)).toInt64))))] [(.int (own_fits q1 q2 ((q1 + q2) + (((p4 >>> ((1 : Int32) &&& 31)) % (3 : Int32)).toInt64))))])) _
      refine XS.lloadN X_5.here hx rfl (hb hby at_35) rfl ?_
      show Steps p.tables e below (T_5.setTop (mkF m 36 #[.val (.long q1), .second, .val (.long q2), .second, .val (.long q3), .second, .val (.int p4), .val (.long ((q1 + q2) + (((p4 >>> ((1 : Int32) &&& 31)) % (3 : Int32)).toInt64))), .second, .val (.int (own_fits q1 q2 ((q1 + q2) + (((p4 >>> ((1 : Int32) &&& 31)) % (3 : Int32)).toInt64))))] [(.long q1), (.int (own_fits q1 q2 ((q1 + q2) + (((p4 >>> ((1 : Int32) &&& 31)) % (3 : Int32)).toInt64))))])) _
      refine XS.lloadN X_5.here hx rfl (hb hby at_36) rfl ?_
      show Steps p.tables e below (T_5.setTop (mkF m 37 #[.val (.long q1), .second, .val (.long q2), .second, .val (.long q3), .second, .val (.int p4), .val (.long ((q1 + q2) + (((p4 >>> ((1 : Int32) &&& 31)) % (3 : Int32)).toInt64))), .second, .val (.int (own_fits q1 q2 ((q1 + q2) + (((p4 >>> ((1 : Int32) &&& 31)) % (3 : Int32)).toInt64))))] [(.long q2), (.long q1), (.int (own_fits q1 q2 ((q1 + q2) + (((p4 >>> ((1 : Int32) &&& 31)) % (3 : Int32)).toInt64))))])) _
      refine XS.lload X_5.here hx rfl (hb hby at_37) rfl ?_
      show Steps p.tables e below (T_5.setTop (mkF m 39 #[.val (.long q1), .second, .val (.long q2), .second, .val (.long q3), .second, .val (.int p4), .val (.long ((q1 + q2) + (((p4 >>> ((1 : Int32) &&& 31)) % (3 : Int32)).toInt64))), .second, .val (.int (own_fits q1 q2 ((q1 + q2) + (((p4 >>> ((1 : Int32) &&& 31)) % (3 : Int32)).toInt64))))] [(.long ((q1 + q2) + (((p4 >>> ((1 : Int32) &&& 31)) % (3 : Int32)).toInt64))), (.long q2), (.long q1), (.int (own_fits q1 q2 ((q1 + q2) + (((p4 >>> ((1 : Int32) &&& 31)) % (3 : Int32)).toInt64))))])) _
      refine st_6 _ ?_
      show Steps p.tables e below (T_6.setTop (mkF m 42 #[.val (.long q1), .second, .val (.long q2), .second, .val (.long q3), .second, .val (.int p4), .val (.long ((q1 + q2) + (((p4 >>> ((1 : Int32) &&& 31)) % (3 : Int32)).toInt64))), .second, .val (.int (own_fits q1 q2 ((q1 + q2) + (((p4 >>> ((1 : Int32) &&& 31)) % (3 : Int32)).toInt64))))] [(.int (own_exp q1 q2 ((q1 + q2) + (((p4 >>> ((1 : Int32) &&& 31)) % (3 : Int32)).toInt64)))), (.int (own_fits q1 q2 ((q1 + q2) + (((p4 >>> ((1 : Int32) &&& 31)) % (3 : Int32)).toInt64))))])) _
      refine XS.icmpNo X_6.here hx rfl (hb hby at_42) rfl (teq ((own_same _ _ _) : (own_fits q1 q2 ((q1 + q2) + (((p4 >>> ((1 : Int32) &&& 31)) % (3 : Int32)).toInt64))) = (own_exp q1 q2 ((q1 + q2) + (((p4 >>> ((1 : Int32) &&& 31)) % (3 : Int32)).toInt64))))).2 ?_
      show Steps p.tables e below (T_6.setTop (mkF m 45 #[.val (.long q1), .second, .val (.long q2), .second, .val (.long q3), .second, .val (.int p4), .val (.long ((q1 + q2) + (((p4 >>> ((1 : Int32) &&& 31)) % (3 : Int32)).toInt64))), .second, .val (.int (own_fits q1 q2 ((q1 + q2) + (((p4 >>> ((1 : Int32) &&& 31)) % (3 : Int32)).toInt64))))] [])) _
      refine XS.iconst X_6.here hx rfl (hb hby at_45) ?_
      show Steps p.tables e below (T_6.setTop (mkF m 46 #[.val (.long q1), .second, .val (.long q2), .second, .val (.long q3), .second, .val (.int p4), .val (.long ((q1 + q2) + (((p4 >>> ((1 : Int32) &&& 31)) % (3 : Int32)).toInt64))), .second, .val (.int (own_fits q1 q2 ((q1 + q2) + (((p4 >>> ((1 : Int32) &&& 31)) % (3 : Int32)).toInt64))))] [(.int (1 : Int32))])) _
      refine XS.goto X_6.here hx rfl (pc0 := 46) (pc' := 50) rfl (hb hby at_46) (by decide) (by decide) ?_
      show Steps p.tables e below (T_6.setTop (mkF m 50 #[.val (.long q1), .second, .val (.long q2), .second, .val (.long q3), .second, .val (.int p4), .val (.long ((q1 + q2) + (((p4 >>> ((1 : Int32) &&& 31)) % (3 : Int32)).toInt64))), .second, .val (.int (own_fits q1 q2 ((q1 + q2) + (((p4 >>> ((1 : Int32) &&& 31)) % (3 : Int32)).toInt64))))] [(.int (1 : Int32))])) _
      exact retN X_6 hx (t := .boolean) Bd.returns (by simp) (hb hby at_50) hr
    · exact ⟨rfl, N_6⟩
set_option maxRecDepth 65536 in
set_option maxHeartbeats 40000000 in
theorem comes_1 {Post : Tables → Env → Array Value → State → Outcome → State → Prop} (hpost : ∀ tb e args s v u, (limb_1_1.after args s (.returned v) u = true ∧ limb_1_2.after args s (.returned v) u = true ∧ True) → FrameEnd s (.returned v) u (Jvm.fieldLocs frame_1_writes args s ++ Jvm.arrayLocs frame_1_arrays args s ++ Jvm.staticLocs frame_1_statics s) 0 0 → Post tb e args s (.returned v) u) :
    ArmFor flags0 classFile x code maxLocals ret World_1 tables_1 room_1 Calls_1 rest_1 Pre_1 Post := by
  intro l hfl _ _ p e ha hc hk s m args below hf hA hF happ hP
  obtain ⟨hcalls, hrest, hpre⟩ := hP
  obtain ⟨-, -, -, hnamed, -, -, -, hat⟩ := (Spec.applies_iff hf).mp happ
  obtain ⟨hg, hn⟩ := and_e (Cond.before_iff.mp (show (Jvm.Cond.and given_1 narrow_1).before args s = true from hpre))
  obtain ⟨g0, r0⟩ := and_e hg
  obtain ⟨g1, r1⟩ := and_e r0
  obtain ⟨g2, r2⟩ := and_e r1
  obtain ⟨g3, r3⟩ := and_e r2
  obtain ⟨w0, w1, w2, w3, rfl⟩ : ∃ w0 w1 w2 w3 : Value, args = #[w0, w1, w2, w3] := by
    have hs : args.size = 4 := by simpa [Cond.value, given_1] using g0
    obtain ⟨L⟩ := args
    match L, hs with
    | [w0, w1, w2, w3], _ => exact ⟨w0, w1, w2, w3, rfl⟩
  have hw := fun d (hd : d ∈ tables_1) => atoms_spec (ws := Jvm.Cond.code x code maxLocals ret :: tables_1) hat d (List.mem_cons_of_mem _ hd)
  obtain ⟨i0, ei0⟩ := isL_v g1
  obtain rfl : w0 = (.long i0) := Option.some.inj ei0
  obtain ⟨i1, ei1⟩ := isL_v g2
  obtain rfl : w1 = (.long i1) := Option.some.inj ei1
  obtain ⟨i2, ei2⟩ := isL_v g3
  obtain rfl : w2 = (.long i2) := Option.some.inj ei2
  obtain ⟨i3, ei3⟩ := is_v r3
  obtain rfl : w3 = (.int i3) := Option.some.inj ei3
  obtain ⟨n, o, h1, h2, h3, _, L, rfl, ⟨rfl, N⟩, hq⟩ := rm0 l s _ hw tables_1 i0 i1 i2 i3 s.heap s.heap.size (Nat.le_refl _)  p e ha hc hk s m _ below hf ((Spec.applies_iff_loose hf).mp happ).1 ⟨rfl, State.Warmed39.refl s, rfl⟩ trivial
  refine ⟨n, _, h1, h2, h3, hpost _ _ _ _ _ _ ⟨Cond.after_iff.mpr rfl, Cond.after_iff.mpr (eq_i res_at (Term.int_eval (1)) rfl), trivial⟩ ⟨hq.1, hq.2.1, (hq.2.2.sift fun y hy => Or.inr (N y hy)).mono (by decide) (by decide)⟩⟩
theorem main_1_1 : Claimed_1_1 := comes_1 fun _ _ _ _ _ _ h hF => ⟨h.1, hF⟩
theorem main_1_2 : Claimed_1_2 := comes_1 fun _ _ _ _ _ _ h hF => ⟨h.2.1, hF⟩
end Jvm.Pilot.@@N@@
namespace Jvm.Pilot.@@N@@
open Jvm Jvm.ClassFile Sem Op Lib Jvm.Free Jvm.Stand Jvm.Pilot.@@N@@.Jvm.D
/-! MADE BY PROGRAM (witnessworld.py) out of the Statement's table words and the real class files: 9 classes; the members and pool entries that the words name. The judged class is class 1, her method 1. -/
namespace start1
open Jvm.ClassFile
def u (s : String) : CpInfo := .utf8 (stringToUtf16 s)
/-- a pool by its gaps: so many unusable entries, then the entry; so many at the end -/
def gap : Nat → List CpInfo → List CpInfo
  | 0, r => r
  | n + 1, r => .unusable :: gap n r
def poolList (es : List (Nat × CpInfo)) (last : Nat) : List CpInfo := es.foldr (fun e r => gap e.1 (e.2 :: r)) (gap last [])
def pool (es : List (Nat × CpInfo)) (last : Nat) : Array CpInfo := ⟨poolList es last⟩
def fileOf (pool : Array CpInfo) (this : Nat) (attrs : Array Attribute := #[]) (ms : Array MethodInfo := #[]) (fl : Nat := 33) (sup : Nat := 0) (ifs : Array Nat := #[]) (fds : Array FieldInfo := #[]) : ClassFile where
  minorVersion := 0
  majorVersion := 65
  constantPool := pool
  accessFlags := fl
  thisClass := this
  superClass := sup
  interfaces := ifs
  fields := fds
  methods := ms
  attributes := attrs
def plain (name : String) (sup : Option ClassId) : Class where
  name := name
  kind := .ordinary
  loader := none
  accessFlags := 33
  super := sup
  interfaces := #[]
  cf := none
  fields := #[]
  methods := #[]
  instanceTypes := #[]
  staticTypes := #[]
  resolved := #[]
  callSites := []
  init := .initialized
  statics := none
  mirror := none

def pool0 : Array CpInfo := pool [(5, u "<init>"), (0, u "()V"), (1, .class_ 10), (1, u "java/lang/Object")] 113

def k0m0 : Method := { name := "<init>", desc := "()V", sig := { parameters := [], returnType := none }, accessFlags := 1, code := none }
/-- java/lang/Object -/
def k0 : Class := { plain "java/lang/Object" none with
  accessFlags := 33
  interfaces := #[]
  cf := some (fileOf pool0 8 #[] #[{ accessFlags := 1, nameIndex := 5, descriptorIndex := 6, attributes := #[] }] 33 0 #[] #[])
  fields := #[]
  methods := #[k0m0]
  instanceTypes := #[]
  staticTypes := #[]
  resolved := Array.replicate 124 none
  statics := none }

def pool1 : Array CpInfo := pool [(2, .class_ 4), (1, u "java/lang/Object"), (0, u "<init>"), (0, u "()V"), (0, .methodref 8 9), (0, .class_ 10), (0, .nameAndType 11 12), (0, u "com/example/cato/cato/elf/FileWindow"), (0, u "fits"), (0, u "(JJJ)Z"), (0, .methodref 14 15), (0, .class_ 16), (0, .nameAndType 17 12), (0, u "com/example/cato/cato/elf/FileWindowFitsPinLaw"), (0, u "expected"), (2, u "law"), (0, u "(JJJI)Z")] 3

def k1m0 : Method := { name := "<init>", desc := "()V", sig := { parameters := [], returnType := none }, accessFlags := 2, code := none }
def k1c1 : Code := { maxStack := 7, maxLocals := 10, code := code, exceptionTable := #[], attributes := #[] }
def k1m1 : Method := { name := "law", desc := "(JJJI)Z", sig := { parameters := [.long, .long, .long, .int], returnType := some .boolean }, accessFlags := 9, code := some k1c1 }
def k1c2 : Code := { maxStack := 4, maxLocals := 8, code := method_3_code, exceptionTable := #[], attributes := #[] }
def k1m2 : Method := { name := "expected", desc := "(JJJ)Z", sig := { parameters := [.long, .long, .long], returnType := some .boolean }, accessFlags := 10, code := some k1c2 }
/-- com/example/cato/cato/elf/FileWindowFitsPinLaw -/
def k1 : Class := { plain "com/example/cato/cato/elf/FileWindowFitsPinLaw" (some 0) with
  accessFlags := 49
  interfaces := #[]
  cf := some (fileOf pool1 14 #[] #[{ accessFlags := 2, nameIndex := 5, descriptorIndex := 6, attributes := #[] }, { accessFlags := 9, nameIndex := 20, descriptorIndex := 21, attributes := #[] }, { accessFlags := 10, nameIndex := 17, descriptorIndex := 12, attributes := #[] }] 49 2 #[] #[])
  fields := #[]
  methods := #[k1m0, k1m1, k1m2]
  instanceTypes := #[]
  staticTypes := #[]
  resolved := Array.replicate 25 none
  statics := none }

def pool2 : Array CpInfo := pool [(2, .class_ 4), (1, u "java/lang/Object"), (7, u "Ljava/nio/ByteOrder;"), (1, .class_ 16), (1, u "com/example/cato/cato/elf/FileWindow"), (0, u "order"), (4, u "start"), (0, u "J"), (2, u "channel"), (0, u "Ljava/nio/channels/FileChannel;"), (2, u "fileSize"), (2, u "capacity"), (0, u "I"), (11, u "fits"), (0, u "(JJJ)Z"), (8, u "buffer"), (0, u "Ljava/nio/ByteBuffer;")] 89

def k2c0 : Code := { maxStack := 6, maxLocals := 6, code := prog_3_method_4_code, exceptionTable := #[], attributes := #[] }
def k2m0 : Method := { name := "fits", desc := "(JJJ)Z", sig := { parameters := [.long, .long, .long], returnType := some .boolean }, accessFlags := 8, code := some k2c0 }
/-- com/example/cato/cato/elf/FileWindow -/
def k2 : Class := { plain "com/example/cato/cato/elf/FileWindow" (some 0) with
  accessFlags := 48
  interfaces := #[]
  cf := some (fileOf pool2 14 #[] #[{ accessFlags := 8, nameIndex := 46, descriptorIndex := 47, attributes := #[] }] 48 2 #[] #[{ accessFlags := 18, nameIndex := 26, descriptorIndex := 27, attributes := #[] }, { accessFlags := 18, nameIndex := 30, descriptorIndex := 23, attributes := #[] }, { accessFlags := 18, nameIndex := 33, descriptorIndex := 34, attributes := #[] }, { accessFlags := 2, nameIndex := 56, descriptorIndex := 57, attributes := #[] }, { accessFlags := 2, nameIndex := 17, descriptorIndex := 12, attributes := #[] }, { accessFlags := 2, nameIndex := 22, descriptorIndex := 23, attributes := #[] }])
  fields := #[{ name := "channel", type := (.object "java/nio/channels/FileChannel"), accessFlags := 18, slot := 0, constantValue := 0 }, { name := "fileSize", type := .long, accessFlags := 18, slot := 1, constantValue := 0 }, { name := "capacity", type := .int, accessFlags := 18, slot := 2, constantValue := 0 }, { name := "buffer", type := (.object "java/nio/ByteBuffer"), accessFlags := 2, slot := 3, constantValue := 0 }, { name := "order", type := (.object "java/nio/ByteOrder"), accessFlags := 2, slot := 4, constantValue := 0 }, { name := "start", type := .long, accessFlags := 2, slot := 5, constantValue := 0 }]
  methods := #[k2m0]
  instanceTypes := #[(.object "java/nio/channels/FileChannel"), .long, .int, (.object "java/nio/ByteBuffer"), (.object "java/nio/ByteOrder"), .long]
  staticTypes := #[]
  resolved := Array.replicate 147 none
  statics := none }

def pool3 : Array CpInfo := pool [(1, u "java/lang/Cloneable"), (0, .class_ 1), (0, u "java/lang/Object"), (0, .class_ 3)] 3

/-- java/lang/Cloneable -/
def k3 : Class := { plain "java/lang/Cloneable" (some 0) with
  accessFlags := 1537
  interfaces := #[]
  cf := some (fileOf pool3 2 #[] #[] 1537 4 #[] #[])
  fields := #[]
  methods := #[]
  instanceTypes := #[]
  staticTypes := #[]
  resolved := Array.replicate 8 none
  statics := none }

def pool4 : Array CpInfo := pool [(1, u "java/io/Serializable"), (0, .class_ 1), (0, u "java/lang/Object"), (0, .class_ 3)] 3

/-- java/io/Serializable -/
def k4 : Class := { plain "java/io/Serializable" (some 0) with
  accessFlags := 1537
  interfaces := #[]
  cf := some (fileOf pool4 2 #[] #[] 1537 4 #[] #[])
  fields := #[]
  methods := #[]
  instanceTypes := #[]
  staticTypes := #[]
  resolved := Array.replicate 8 none
  statics := none }

/-- the primitive byte -/
def k5 : Class := { plain "byte" none with kind := .primitive 'B', accessFlags := 0x411 }
/-- [B -/
def k6 : Class := { plain "[B" (some 0) with kind := .array 5 .byte, interfaces := #[3, 4], accessFlags := 1041 }

/-- the primitive int -/
def k7 : Class := { plain "int" none with kind := .primitive 'I', accessFlags := 0x411 }
/-- [I -/
def k8 : Class := { plain "[I" (some 0) with kind := .array 7 .int, interfaces := #[3, 4], accessFlags := 1041 }

def heap : Heap := #[]
def classes : Array Class := #[k0, k1, k2, k3, k4, k5, k6, k7, k8]
def interned : List (Array UInt16 × Addr) := []
def slotsUsed : Nat := 0
def theMethod : MethodId := ⟨1, 1⟩
def args0 : Array Value := #[.long 5, .long 3, .long 10, .int 0]
def aboutOver (below : List Frame) : State where
  vm := { classes := classes, interned := interned.toArray }
  heap := heap
  slotsUsed := slotsUsed
  threads := #[{ frames := .invoking theMethod args0 :: below }]
def below0 : List Frame := [.native { method := ⟨0, 0⟩, args := #[] }]
def about1 : State := aboutOver below0
def p0 : Program := .bare "" "" ""
def e0 : Env := launch0.env 0 0 0
theorem w_frames : about1.frames = Frame.invoking theMethod args0 :: below0 := rfl
set_option maxRecDepth 65536 in
theorem w_args : argsFit about1.vm theMethod args0 = true := by decide +kernel
set_option maxRecDepth 65536 in
theorem w_heap : heapFits about1 = true := by decide +kernel
set_option maxRecDepth 65536 in
theorem w_runnable : about1.curStatus? = some .runnable := by decide +kernel
set_option maxRecDepth 65536 in
theorem w_alone : about1.alone = true := by decide +kernel
set_option maxRecDepth 65536 in
theorem w_named : about1.methodNamed? x = some theMethod := by decide +kernel
set_option maxRecDepth 65536 in
theorem w_hears : about1.hears theMethod below0 = true := by decide +kernel
set_option maxRecDepth 65536 in
theorem w_ripe : about1.ripe theMethod args0 below0 = true := by decide +kernel
theorem w_running : about1.status = .running := rfl
set_option maxRecDepth 65536 in
theorem w_room : about1.hasRoom e0.platform room_1 = true :=
  launch0.hasRoom_least _ room_1 (by decide +kernel) (by decide +kernel) (by decide +kernel) (by decide +kernel) (by decide +kernel) (by decide +kernel)
theorem allAtoms_all (ts : List Jvm.Cond) (a : Array Jvm.Value) (st : Jvm.State) : (allAtoms ts).before a st = ts.all (fun c => c.before a st) := by
  induction ts with
  | nil => rfl
  | cons c t ih =>
    show (Jvm.Cond.and c (allAtoms t)).before a st = _
    rw [Jvm.Cond.before_and, ih, List.all_cons]
def words1 : List Jvm.Cond := Jvm.Cond.code x code maxLocals ret :: tables_1
/-- a 'code' word, met by the world's own term for the bytes: nothing is compared byte by byte -/
theorem code_word {y : MethodName} {bytes : ByteArray} {mx : Nat} {rt : Option FieldType} {a : Array Value} {s : State} {m : MethodId} {meth : Method} {c : Code} (h1 : s.methodNamed? y = some m) (h2 : s.vm.method? m = some meth) (h3 : meth.code = some c) (h4 : c.code = bytes)
    (h5 : (c.maxLocals == mx && c.exceptionTable.isEmpty && decide (c.maxStack ≤ mostOperands) && decide (meth.sig.returnType = rt) && !meth.locks && decide (parseMethodDescriptor y.desc = some meth.sig)) = true) : (Jvm.Cond.code y bytes mx rt).before a s = true := by
  simp only [Bool.and_eq_true, beq_iff_eq, Bool.not_eq_true', decide_eq_true_eq] at h5
  obtain ⟨⟨⟨⟨⟨g1, g2⟩, g3⟩, g4⟩, g5⟩, g6⟩ := h5
  simp [Cond.before, Cond.holds, Cond.value, h1, h2, h3, h4, g1, g2, g3, g4, g5, g6]
def isCode : Jvm.Cond → Bool
  | .code _ _ _ _ => true
  | _ => false
theorem all_split {L : List Jvm.Cond} {P : Jvm.Cond → Bool} (h1 : L.all (fun c => isCode c || P c) = true) (h2 : ∀ c ∈ L.filter isCode, P c = true) : L.all P = true := by
  refine List.all_eq_true.mpr fun c hc => ?_
  have h := List.all_eq_true.mp h1 c hc
  rcases Bool.eq_false_or_eq_true (isCode c) with hi | hi
  · exact h2 c (List.mem_filter.mpr ⟨hc, hi⟩)
  · simpa [hi] using h
set_option maxRecDepth 65536 in
theorem w_c0 : (Jvm.Cond.code x code maxLocals ret).before args0 about1 = true := code_word (m := ⟨1, 1⟩) (meth := k1m1) (c := k1c1) (by decide +kernel) rfl rfl rfl (by decide +kernel)
set_option maxRecDepth 65536 in
theorem w_c1 : (Jvm.Cond.code ({ cls := "com/example/cato/cato/elf/FileWindow", name := "fits", desc := "(JJJ)Z" } : Jvm.MethodName) prog_3_method_4_code (6 : Nat) (Option.some Jvm.ClassFile.FieldType.boolean)).before args0 about1 = true := code_word (m := ⟨2, 0⟩) (meth := k2m0) (c := k2c0) (by decide +kernel) rfl rfl rfl (by decide +kernel)
set_option maxRecDepth 65536 in
theorem w_c2 : (Jvm.Cond.code ({ cls := "com/example/cato/cato/elf/FileWindowFitsPinLaw", name := "expected", desc := "(JJJ)Z" } : Jvm.MethodName) method_3_code (8 : Nat) (Option.some Jvm.ClassFile.FieldType.boolean)).before args0 about1 = true := code_word (m := ⟨1, 2⟩) (meth := k1m2) (c := k1c2) (by decide +kernel) rfl rfl rfl (by decide +kernel)
def codes1 : List Jvm.Cond := [Jvm.Cond.code x code maxLocals ret, Jvm.Cond.code ({ cls := "com/example/cato/cato/elf/FileWindow", name := "fits", desc := "(JJJ)Z" } : Jvm.MethodName) prog_3_method_4_code (6 : Nat) (Option.some Jvm.ClassFile.FieldType.boolean), Jvm.Cond.code ({ cls := "com/example/cato/cato/elf/FileWindowFitsPinLaw", name := "expected", desc := "(JJJ)Z" } : Jvm.MethodName) method_3_code (8 : Nat) (Option.some Jvm.ClassFile.FieldType.boolean)]
set_option maxRecDepth 65536 in
theorem codes_eq : words1.filter isCode = codes1 := rfl
theorem w_codes : ∀ c ∈ words1.filter isCode, c.before args0 about1 = true := by
  rw [codes_eq]
  intro c hc
  simp only [codes1, List.mem_cons, List.not_mem_nil, or_false] at hc
  rcases hc with rfl | rfl | rfl
  · exact w_c0
  · exact w_c1
  · exact w_c2
set_option maxRecDepth 65536 in
theorem w_t1 : words1.all (fun c => isCode c || c.before args0 about1) = true := by decide +kernel
theorem w_tables : (allAtoms (Jvm.Cond.code x code maxLocals ret :: tables_1)).before args0 about1 = true := by
  rw [allAtoms_all]
  show words1.all (fun c => c.before args0 about1) = true
  refine all_split ?_ w_codes
  rw [w_t1]
set_option maxRecDepth 65536 in
theorem w_case : (Jvm.Cond.and given_1 narrow_1).before args0 about1 = true := by decide +kernel
theorem w_applies : (headSpec (Jvm.Cond.code x code maxLocals ret :: tables_1) room_1).applies x e0.platform about1 = true :=
  (Spec.applies_iff w_frames).mpr ⟨w_running, w_runnable, w_alone, w_named, w_hears, w_ripe, w_room, w_tables⟩
theorem atStart : AtStart classFile x code maxLocals ret World_1 tables_1 room_1 Calls_1 rest_1 Pre_1 launch0 p0 e0 about1 theMethod args0 below0 :=
  ⟨lists_1, trivial, launch0.admits_env _ _ _, launch0.least_env, fairChoices_fair.cas, fairChoices_fair.clock, w_frames, w_args, w_heap, w_applies, trivial, trivial, w_case⟩
end start1
theorem witness_1 : WitnessClaimed_1 := ⟨start1.p0, start1.e0, start1.about1, start1.theMethod, start1.args0, start1.below0, start1.atStart⟩
end Jvm.Pilot.@@N@@
