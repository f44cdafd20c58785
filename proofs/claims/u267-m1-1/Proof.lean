import JvmDerived
import JvmDerived.Pilot.@@N@@Statement
import JvmDerived.Pilot.@@N@@Code
set_option linter.unusedVariables false
set_option linter.unusedSimpArgs false
@@BLOCK:NumsL.lean.txt@@
namespace Jvm.Pilot.@@N@@
open Jvm Jvm.ClassFile Sem Op Lib Jvm.Free Jvm.Stand Jvm.LawKit Jvm.RoadKit Bundle Jvm.Pilot.@@N@@.Jvm.D
theorem d3_0 : decode prog_30_method_1_code 0 = .ok (.aload_n 0, 1) := by decide +kernel
theorem d3_1 : decode prog_30_method_1_code 1 = .ok (.invokespecial 1, 3) := by decide +kernel
theorem d3_4 : decode prog_30_method_1_code 4 = .ok (.aload_n 0, 1) := by decide +kernel
theorem d3_5 : decode prog_30_method_1_code 5 = .ok (.lload_n 1, 1) := by decide +kernel
theorem d3_6 : decode prog_30_method_1_code 6 = .ok (.putfield 7, 3) := by decide +kernel
theorem d3_9 : decode prog_30_method_1_code 9 = .ok (.aload_n 0, 1) := by decide +kernel
theorem d3_10 : decode prog_30_method_1_code 10 = .ok (.lload_n 3, 1) := by decide +kernel
theorem d3_11 : decode prog_30_method_1_code 11 = .ok (.putfield 13, 3) := by decide +kernel
theorem d3_14 : decode prog_30_method_1_code 14 = .ok (.aload_n 0, 1) := by decide +kernel
theorem d3_15 : decode prog_30_method_1_code 15 = .ok (.aload 5, 2) := by decide +kernel
theorem d3_17 : decode prog_30_method_1_code 17 = .ok (.putfield 16, 3) := by decide +kernel
theorem d3_20 : decode prog_30_method_1_code 20 = .ok (.return_, 1) := by decide +kernel
theorem ef_3_RJJN (m : MethodId) (x0 : Addr) (x1 : Int64) (x2 : Int64) : entryFrame m #[(.ref x0), (.long x1), (.long x2), .null] 6 = mkF m 0 #[.val (.ref x0), .val (.long x1), .second, .val (.long x2), .second, .val .null] [] := by first | (simp [entryFrame, mkF, argsToLocals, Value.category]; done) | rfl
def Q3 (Z : State) (a1 : Addr) (q2 : Int64) (q3 : Int64) (h0 : Heap) (n0 : Nat) (v : Option Value) (h : Heap) (L : List Loc) : Prop := v = none ∧ Fr n0 L ∧ Keep h0 h [a1]
theorem pn_3 : plainName "portcullis/check/PatternAutomaton$Room" = true := by first | (simp [plainName, overriddenIn]; done) | decide +kernel
set_option maxRecDepth 65536 in
set_option maxHeartbeats 40000000 in
theorem rm3 (l : Launch) (Z : State) (a0 : Array Value) (hw : ∀ d ∈ tables_1, d.before a0 Z = true) (ws : List Jvm.Cond) (a1 : Addr) (q2 : Int64) (q3 : Int64) (h0 : Heap) (n0 : Nat) (Z0 : n0 ≤ h0.size) (g_a1 : n0 ≤ a1) (F0 : Exa Z h0 a1 "portcullis/check/PatternAutomaton$Room") (F1 : Fld Z h0 a1 "portcullis/check/PatternAutomaton$Room" "statesLeft" "J" (.long (0 : Int64))) (F2 : Fld Z h0 a1 "portcullis/check/PatternAutomaton$Room" "stepsLeft" "J" (.long (0 : Int64))) (F3 : Fld Z h0 a1 "portcullis/check/PatternAutomaton$Room" "whole" "Lportcullis/check/PatternAutomaton$Room;" .null) :
    MetFree l (⟨"portcullis/check/PatternAutomaton$Room", "<init>", "(JJLportcullis/check/PatternAutomaton$Room;)V"⟩ : MethodName) (head1 (Jvm.Cond.code (⟨"portcullis/check/PatternAutomaton$Room", "<init>", "(JJLportcullis/check/PatternAutomaton$Room;)V"⟩ : MethodName) prog_30_method_1_code 6 none :: ws) ({ frames := 1, cells := 0, slots := 0, locals := 12 } : Room)) (fun a U => a = #[(.ref a1), (.long q2), (.long q3), .null] ∧ Z.Warmed39 U.vm ∧ U.heap = h0) (fun _ _ _ _ _ => True) (fun _ U o U' => ∃ v L, o = .returned v ∧ Q3 Z a1 q2 q3 h0 n0 v U'.heap L ∧ FrameEnd U o U' L ({ frames := 1, cells := 0, slots := 0, locals := 12 } : Room).cells ({ frames := 1, cells := 0, slots := 0, locals := 12 } : Room).slots) := by
  refine MetFree.of_bodySF (plainFor_of_name pn_3) hisR ?_
  intro p e s m args below meth c s₁ Bd hml0 hP hK
  obtain ⟨rfl, hZ, hh⟩ := hP
  have hx := Bd.exec
  have hby := Bd.bytes
  have hml : c.maxLocals = 6 := hml0
  have hown : s.vm.findClass "portcullis/check/PatternAutomaton$Room" = some m.cls := findClass_of_methodNamed Bd.named
  have hnm := (name_of_methodNamed Bd.named Bd.method).1
  have X0 : Stand p l e ({ frames := 1, cells := 0, slots := 0, locals := 12 } : Room) s m #[(.ref a1), (.long q2), (.long q3), .null] below meth c s₁ [] 0 0 := Stand.of_body Bd
  have e0 : s₁.heap = h0 := by rw [← hh, Bd.state]; rfl
  have N0 := Fr.nil n0
  have pre0 : ∀ t, Steps p.tables e below (s₁.setTop (mkF m 0 #[.val (.ref a1), .val (.long q2), .second, .val (.long q3), .second, .val .null] [])) t → Steps p.tables e below (s₁.setTop (entryFrame m #[(.ref a1), (.long q2), (.long q3), .null] 6)) t := fun t k => castTop (ef_3_RJJN m a1 q2 q3) k
  obtain ⟨T_1, X_1, e_1, st_1⟩ := initO X0 hx hZ hown (hw _ (List.mem_of_getElem? (i := 23) rfl)) (hw _ (List.mem_of_getElem? (i := 9) rfl)) (hw _ (List.mem_of_getElem? (i := 10) rfl)) e0 (g := (mkF m 1 #[.val (.ref a1), .val (.long q2), .second, .val (.long q3), .second, .val .null] [(.ref a1)])) rfl (by rw [hml]; rfl) rfl (hb hby d3_1) (by decide) (W := 0) (by show 2 * 0 + _ ≤ _; exact Nat.le_of_eq rfl) (by decide)
  obtain ⟨T_2, h_2, X_2, e_2, W_2, st_2⟩ := putF X_1 hx hZ hown (host := "") (Or.inl (hw _ (List.mem_of_getElem? (i := 24) rfl))) Via.refl e_1 F1 F0 (Or.inl (hw _ (List.mem_of_getElem? (i := 25) rfl))) (hw _ (List.mem_of_getElem? (i := 17) rfl)) (ty := .long) (by decide) rfl rfl (g := (mkF m 6 #[.val (.ref a1), .val (.long q2), .second, .val (.long q3), .second, .val .null] [(.long q2), (.ref a1)])) rfl rfl (hb hby d3_6)
  have N_2 := Fr.snoc X_2 N0 g_a1
  have fw_2 : Fld Z h_2 a1 "portcullis/check/PatternAutomaton$Room" "statesLeft" "J" (.long q2) := F1.same W_2
  have f_2_0 : Exa Z h_2 a1 "portcullis/check/PatternAutomaton$Room" := F0.wr W_2
  have f_2_2 : Fld Z h_2 a1 "portcullis/check/PatternAutomaton$Room" "stepsLeft" "J" (.long (0 : Int64)) := F2.other W_2 (Or.inr (slot_ne (Or.inl (hw _ (List.mem_of_getElem? (i := 27) rfl))) (Or.inl (hw _ (List.mem_of_getElem? (i := 25) rfl))) (by decide) (t := .long) (t' := .long) (by decide) (by decide)))
  have f_2_3 : Fld Z h_2 a1 "portcullis/check/PatternAutomaton$Room" "whole" "Lportcullis/check/PatternAutomaton$Room;" .null := F3.other W_2 (Or.inr (slot_ne (Or.inr (hw _ (List.mem_of_getElem? (i := 29) rfl))) (Or.inl (hw _ (List.mem_of_getElem? (i := 25) rfl))) (by decide) (t := (.object "portcullis/check/PatternAutomaton$Room")) (t' := .long) (by decide) (by decide)))
  have Z_2 : n0 ≤ h_2.size := Nat.le_trans Z0 (Keep.of_wr W_2).1
  have K_2 : Keep h0 h_2 [a1] := (Keep.refl h0 [a1]).wr W_2 (Or.inl (List.mem_of_getElem? (i := 0) rfl))
  obtain ⟨T_3, h_3, X_3, e_3, W_3, st_3⟩ := putF X_2 hx hZ hown (host := "") (Or.inl (hw _ (List.mem_of_getElem? (i := 26) rfl))) Via.refl e_2 f_2_2 f_2_0 (Or.inl (hw _ (List.mem_of_getElem? (i := 27) rfl))) (hw _ (List.mem_of_getElem? (i := 17) rfl)) (ty := .long) (by decide) rfl rfl (g := (mkF m 11 #[.val (.ref a1), .val (.long q2), .second, .val (.long q3), .second, .val .null] [(.long q3), (.ref a1)])) rfl rfl (hb hby d3_11)
  have N_3 := Fr.snoc X_3 N_2 g_a1
  have fw_3 : Fld Z h_3 a1 "portcullis/check/PatternAutomaton$Room" "stepsLeft" "J" (.long q3) := f_2_2.same W_3
  have f_3_0 : Exa Z h_3 a1 "portcullis/check/PatternAutomaton$Room" := f_2_0.wr W_3
  have f_3_2 : Fld Z h_3 a1 "portcullis/check/PatternAutomaton$Room" "whole" "Lportcullis/check/PatternAutomaton$Room;" .null := f_2_3.other W_3 (Or.inr (slot_ne (Or.inr (hw _ (List.mem_of_getElem? (i := 29) rfl))) (Or.inl (hw _ (List.mem_of_getElem? (i := 27) rfl))) (by decide) (t := (.object "portcullis/check/PatternAutomaton$Room")) (t' := .long) (by decide) (by decide)))
  have f_3_3 : Fld Z h_3 a1 "portcullis/check/PatternAutomaton$Room" "statesLeft" "J" (.long q2) := fw_2.other W_3 (Or.inr (slot_ne (Or.inl (hw _ (List.mem_of_getElem? (i := 25) rfl))) (Or.inl (hw _ (List.mem_of_getElem? (i := 27) rfl))) (by decide) (t := .long) (t' := .long) (by decide) (by decide)))
  have Z_3 : n0 ≤ h_3.size := Nat.le_trans Z_2 (Keep.of_wr W_3).1
  have K_3 : Keep h0 h_3 [a1] := K_2.wr W_3 (Or.inl (List.mem_of_getElem? (i := 0) rfl))
  obtain ⟨T_4, h_4, X_4, e_4, W_4, st_4⟩ := putF X_3 hx hZ hown (host := "") (Or.inl (hw _ (List.mem_of_getElem? (i := 28) rfl))) Via.refl e_3 f_3_2 f_3_0 (Or.inr ⟨(hw _ (List.mem_of_getElem? (i := 29) rfl)), rfl, hnm⟩) (hw _ (List.mem_of_getElem? (i := 17) rfl)) (ty := (.object "portcullis/check/PatternAutomaton$Room")) (by decide) rfl rfl (g := (mkF m 17 #[.val (.ref a1), .val (.long q2), .second, .val (.long q3), .second, .val .null] [.null, (.ref a1)])) rfl rfl (hb hby d3_17)
  have N_4 := Fr.snoc X_4 N_3 g_a1
  have fw_4 : Fld Z h_4 a1 "portcullis/check/PatternAutomaton$Room" "whole" "Lportcullis/check/PatternAutomaton$Room;" .null := f_3_2.same W_4
  have f_4_0 : Exa Z h_4 a1 "portcullis/check/PatternAutomaton$Room" := f_3_0.wr W_4
  have f_4_2 : Fld Z h_4 a1 "portcullis/check/PatternAutomaton$Room" "statesLeft" "J" (.long q2) := f_3_3.other W_4 (Or.inr (slot_ne (Or.inl (hw _ (List.mem_of_getElem? (i := 25) rfl))) (Or.inr (hw _ (List.mem_of_getElem? (i := 29) rfl))) (by decide) (t := .long) (t' := (.object "portcullis/check/PatternAutomaton$Room")) (by decide) (by decide)))
  have f_4_3 : Fld Z h_4 a1 "portcullis/check/PatternAutomaton$Room" "stepsLeft" "J" (.long q3) := fw_3.other W_4 (Or.inr (slot_ne (Or.inl (hw _ (List.mem_of_getElem? (i := 27) rfl))) (Or.inr (hw _ (List.mem_of_getElem? (i := 29) rfl))) (by decide) (t := .long) (t' := (.object "portcullis/check/PatternAutomaton$Room")) (by decide) (by decide)))
  have Z_4 : n0 ≤ h_4.size := Nat.le_trans Z_3 (Keep.of_wr W_4).1
  have K_4 : Keep h0 h_4 [a1] := K_3.wr W_4 (Or.inl (List.mem_of_getElem? (i := 0) rfl))
  obtain ⟨fs, hr, hrun, hended, hW, hsame⟩ := X_4.leave (v := none) (fun _ => rfl)
  refine ⟨_, _, pre0 _ ?_, hrun, hended, _, _, rfl, ?_, ⟨_, rfl⟩, hW, hsame.mono (by decide) (by decide)⟩
  · show Steps p.tables e below (s₁.setTop (mkF m 0 #[.val (.ref a1), .val (.long q2), .second, .val (.long q3), .second, .val .null] [])) _
    refine XS.aloadN X0.here hx rfl (hb hby d3_0) rfl rfl ?_
    show Steps p.tables e below (s₁.setTop (mkF m 1 #[.val (.ref a1), .val (.long q2), .second, .val (.long q3), .second, .val .null] [(.ref a1)])) _
    refine st_1 _ ?_
    show Steps p.tables e below (T_1.setTop (mkF m 4 #[.val (.ref a1), .val (.long q2), .second, .val (.long q3), .second, .val .null] [])) _
    refine XS.aloadN X_1.here hx rfl (hb hby d3_4) rfl rfl ?_
    show Steps p.tables e below (T_1.setTop (mkF m 5 #[.val (.ref a1), .val (.long q2), .second, .val (.long q3), .second, .val .null] [(.ref a1)])) _
    refine XS.lloadN X_1.here hx rfl (hb hby d3_5) rfl ?_
    show Steps p.tables e below (T_1.setTop (mkF m 6 #[.val (.ref a1), .val (.long q2), .second, .val (.long q3), .second, .val .null] [(.long q2), (.ref a1)])) _
    refine st_2 _ ?_
    show Steps p.tables e below (T_2.setTop (mkF m 9 #[.val (.ref a1), .val (.long q2), .second, .val (.long q3), .second, .val .null] [])) _
    refine XS.aloadN X_2.here hx rfl (hb hby d3_9) rfl rfl ?_
    show Steps p.tables e below (T_2.setTop (mkF m 10 #[.val (.ref a1), .val (.long q2), .second, .val (.long q3), .second, .val .null] [(.ref a1)])) _
    refine XS.lloadN X_2.here hx rfl (hb hby d3_10) rfl ?_
    show Steps p.tables e below (T_2.setTop (mkF m 11 #[.val (.ref a1), .val (.long q2), .second, .val (.long q3), .second, .val .null] [(.long q3), (.ref a1)])) _
    refine st_3 _ ?_
    show Steps p.tables e below (T_3.setTop (mkF m 14 #[.val (.ref a1), .val (.long q2), .second, .val (.long q3), .second, .val .null] [])) _
    refine XS.aloadN X_3.here hx rfl (hb hby d3_14) rfl rfl ?_
    show Steps p.tables e below (T_3.setTop (mkF m 15 #[.val (.ref a1), .val (.long q2), .second, .val (.long q3), .second, .val .null] [(.ref a1)])) _
    refine XS.aload X_3.here hx rfl (hb hby d3_15) rfl rfl ?_
    show Steps p.tables e below (T_3.setTop (mkF m 17 #[.val (.ref a1), .val (.long q2), .second, .val (.long q3), .second, .val .null] [.null, (.ref a1)])) _
    refine st_4 _ ?_
    show Steps p.tables e below (T_4.setTop (mkF m 20 #[.val (.ref a1), .val (.long q2), .second, .val (.long q3), .second, .val .null] [])) _
    exact X_4.returnOut hx Bd.returns (hb hby d3_20) hr
  · show Q3 Z a1 q2 q3 h0 n0 _ T_4.heap _
    rw [e_4]
    exact ⟨rfl, N_4, K_4⟩
theorem d1_0 : decode prog_33_method_1_code 0 = .ok (.aload_n 0, 1) := by decide +kernel
theorem d1_1 : decode prog_33_method_1_code 1 = .ok (.invokespecial 1, 3) := by decide +kernel
theorem d1_4 : decode prog_33_method_1_code 4 = .ok (.iload_n 1, 1) := by decide +kernel
theorem d1_5 : decode prog_33_method_1_code 5 = .ok (.iconst 1, 1) := by decide +kernel
theorem d1_6 : decode prog_33_method_1_code 6 = .ok (.if_icmp .ge 17, 3) := by decide +kernel
theorem d1_23 : decode prog_33_method_1_code 23 = .ok (.aload_n 0, 1) := by decide +kernel
theorem d1_24 : decode prog_33_method_1_code 24 = .ok (.iload_n 1, 1) := by decide +kernel
theorem d1_25 : decode prog_33_method_1_code 25 = .ok (.putfield 16, 3) := by decide +kernel
theorem d1_28 : decode prog_33_method_1_code 28 = .ok (.aload_n 0, 1) := by decide +kernel
theorem d1_29 : decode prog_33_method_1_code 29 = .ok (.iload_n 1, 1) := by decide +kernel
theorem d1_30 : decode prog_33_method_1_code 30 = .ok (.i2l, 1) := by decide +kernel
theorem d1_31 : decode prog_33_method_1_code 31 = .ok (.ldc2_w 24, 3) := by decide +kernel
theorem d1_34 : decode prog_33_method_1_code 34 = .ok (.lmul, 1) := by decide +kernel
theorem d1_35 : decode prog_33_method_1_code 35 = .ok (.putfield 26, 3) := by decide +kernel
theorem d1_38 : decode prog_33_method_1_code 38 = .ok (.aload_n 0, 1) := by decide +kernel
theorem d1_39 : decode prog_33_method_1_code 39 = .ok (.new 30, 3) := by decide +kernel
theorem d1_42 : decode prog_33_method_1_code 42 = .ok (.dup, 1) := by decide +kernel
theorem d1_43 : decode prog_33_method_1_code 43 = .ok (.iload_n 1, 1) := by decide +kernel
theorem d1_44 : decode prog_33_method_1_code 44 = .ok (.i2l, 1) := by decide +kernel
theorem d1_45 : decode prog_33_method_1_code 45 = .ok (.ldc2_w 32, 3) := by decide +kernel
theorem d1_48 : decode prog_33_method_1_code 48 = .ok (.lmul, 1) := by decide +kernel
theorem d1_49 : decode prog_33_method_1_code 49 = .ok (.iload_n 1, 1) := by decide +kernel
theorem d1_50 : decode prog_33_method_1_code 50 = .ok (.i2l, 1) := by decide +kernel
theorem d1_51 : decode prog_33_method_1_code 51 = .ok (.ldc2_w 24, 3) := by decide +kernel
theorem d1_54 : decode prog_33_method_1_code 54 = .ok (.lmul, 1) := by decide +kernel
theorem d1_55 : decode prog_33_method_1_code 55 = .ok (.aconst_null, 1) := by decide +kernel
theorem d1_56 : decode prog_33_method_1_code 56 = .ok (.invokespecial 34, 3) := by decide +kernel
theorem pd_1 : parseMethodDescriptor "(JJLportcullis/check/PatternAutomaton$Room;)V" = some ⟨[.long, .long, (.object "portcullis/check/PatternAutomaton$Room")], none⟩ := by decide +kernel
theorem d1_59 : decode prog_33_method_1_code 59 = .ok (.putfield 37, 3) := by decide +kernel
theorem d1_62 : decode prog_33_method_1_code 62 = .ok (.return_, 1) := by decide +kernel
theorem ef_1_RI (m : MethodId) (x0 : Addr) (x1 : Int32) : entryFrame m #[(.ref x0), (.int x1)] 2 = mkF m 0 #[.val (.ref x0), .val (.int x1)] [] := by first | (simp [entryFrame, mkF, argsToLocals, Value.category]; done) | rfl
def Q1 (Z : State) (a1 : Addr) (p2 : Int32) (h0 : Heap) (n0 : Nat) (v : Option Value) (h : Heap) (L : List Loc) : Prop := v = none ∧ Fr n0 L ∧ Keep h0 h [a1] ∧ Exa Z h a1 "portcullis/check/PatternBudget" ∧ Fld Z h a1 "portcullis/check/PatternBudget" "stepsLeft" "J" (.long ((p2.toInt64) * (100000 : Int64)))
theorem pn_1 : plainName "portcullis/check/PatternBudget" = true := by first | (simp [plainName, overriddenIn]; done) | decide +kernel
set_option maxRecDepth 65536 in
set_option maxHeartbeats 40000000 in
theorem rm1 (l : Launch) (Z : State) (a0 : Array Value) (hw : ∀ d ∈ tables_1, d.before a0 Z = true) (ws : List Jvm.Cond) (a1 : Addr) (p2 : Int32) (h0 : Heap) (n0 : Nat) (Z0 : n0 ≤ h0.size) (g_a1 : n0 ≤ a1) (F0 : Exa Z h0 a1 "portcullis/check/PatternBudget") (F1 : Fld Z h0 a1 "portcullis/check/PatternBudget" "checks" "I" (.int (0 : Int32))) (F2 : Fld Z h0 a1 "portcullis/check/PatternBudget" "stepsLeft" "J" (.long (0 : Int64))) (F3 : Fld Z h0 a1 "portcullis/check/PatternBudget" "room" "Lportcullis/check/PatternAutomaton$Room;" .null) (hpos : ¬ (p2 < (1 : Int32))) :
    MetFree l (⟨"portcullis/check/PatternBudget", "<init>", "(I)V"⟩ : MethodName) (head1 (Jvm.Cond.code (⟨"portcullis/check/PatternBudget", "<init>", "(I)V"⟩ : MethodName) prog_33_method_1_code 2 none :: ws) ({ frames := 2, cells := 1, slots := 3, locals := 31 } : Room)) (fun a U => a = #[(.ref a1), (.int p2)] ∧ Z.Warmed39 U.vm ∧ U.heap = h0) (fun _ _ _ _ _ => True) (fun _ U o U' => ∃ v L, o = .returned v ∧ Q1 Z a1 p2 h0 n0 v U'.heap L ∧ FrameEnd U o U' L ({ frames := 2, cells := 1, slots := 3, locals := 31 } : Room).cells ({ frames := 2, cells := 1, slots := 3, locals := 31 } : Room).slots) := by
  refine MetFree.of_bodySF (plainFor_of_name pn_1) hisR ?_
  intro p e s m args below meth c s₁ Bd hml0 hP hK
  obtain ⟨rfl, hZ, hh⟩ := hP
  have hx := Bd.exec
  have hby := Bd.bytes
  have hml : c.maxLocals = 2 := hml0
  have hown : s.vm.findClass "portcullis/check/PatternBudget" = some m.cls := findClass_of_methodNamed Bd.named
  have hnm := (name_of_methodNamed Bd.named Bd.method).1
  have X0 : Stand p l e ({ frames := 2, cells := 1, slots := 3, locals := 31 } : Room) s m #[(.ref a1), (.int p2)] below meth c s₁ [] 0 0 := Stand.of_body Bd
  have e0 : s₁.heap = h0 := by rw [← hh, Bd.state]; rfl
  have N0 := Fr.nil n0
  have pre0 : ∀ t, Steps p.tables e below (s₁.setTop (mkF m 0 #[.val (.ref a1), .val (.int p2)] [])) t → Steps p.tables e below (s₁.setTop (entryFrame m #[(.ref a1), (.int p2)] 2)) t := fun t k => castTop (ef_1_RI m a1 p2) k
  obtain ⟨T_1, X_1, e_1, st_1⟩ := initO X0 hx hZ hown (hw _ (List.mem_of_getElem? (i := 8) rfl)) (hw _ (List.mem_of_getElem? (i := 9) rfl)) (hw _ (List.mem_of_getElem? (i := 10) rfl)) e0 (g := (mkF m 1 #[.val (.ref a1), .val (.int p2)] [(.ref a1)])) rfl (by rw [hml]; rfl) rfl (hb hby d1_1) (by decide) (W := 0) (by show 2 * 0 + _ ≤ _; exact Nat.le_of_eq rfl) (by decide)
  obtain ⟨T_2, h_2, X_2, e_2, W_2, st_2⟩ := putF X_1 hx hZ hown (host := "") (Or.inl (hw _ (List.mem_of_getElem? (i := 11) rfl))) Via.refl e_1 F1 F0 (Or.inr ⟨(hw _ (List.mem_of_getElem? (i := 12) rfl)), rfl, hnm⟩) (hw _ (List.mem_of_getElem? (i := 3) rfl)) (ty := .int) (by decide) rfl rfl (g := (mkF m 25 #[.val (.ref a1), .val (.int p2)] [(.int p2), (.ref a1)])) rfl rfl (hb hby d1_25)
  have N_2 := Fr.snoc X_2 N0 g_a1
  have fw_2 : Fld Z h_2 a1 "portcullis/check/PatternBudget" "checks" "I" (.int p2) := F1.same W_2
  have f_2_0 : Exa Z h_2 a1 "portcullis/check/PatternBudget" := F0.wr W_2
  have f_2_2 : Fld Z h_2 a1 "portcullis/check/PatternBudget" "stepsLeft" "J" (.long (0 : Int64)) := F2.other W_2 (Or.inr (slot_ne (Or.inl (hw _ (List.mem_of_getElem? (i := 15) rfl))) (Or.inr (hw _ (List.mem_of_getElem? (i := 12) rfl))) (by decide) (t := .long) (t' := .int) (by decide) (by decide)))
  have f_2_3 : Fld Z h_2 a1 "portcullis/check/PatternBudget" "room" "Lportcullis/check/PatternAutomaton$Room;" .null := F3.other W_2 (Or.inr (slot_ne (Or.inr (hw _ (List.mem_of_getElem? (i := 31) rfl))) (Or.inr (hw _ (List.mem_of_getElem? (i := 12) rfl))) (by decide) (t := (.object "portcullis/check/PatternAutomaton$Room")) (t' := .int) (by decide) (by decide)))
  have Z_2 : n0 ≤ h_2.size := Nat.le_trans Z0 (Keep.of_wr W_2).1
  have K_2 : Keep h0 h_2 [a1] := (Keep.refl h0 [a1]).wr W_2 (Or.inl (List.mem_of_getElem? (i := 0) rfl))
  obtain ⟨T_3, h_3, X_3, e_3, W_3, st_3⟩ := putF X_2 hx hZ hown (host := "") (Or.inl (hw _ (List.mem_of_getElem? (i := 14) rfl))) Via.refl e_2 f_2_2 f_2_0 (Or.inl (hw _ (List.mem_of_getElem? (i := 15) rfl))) (hw _ (List.mem_of_getElem? (i := 3) rfl)) (ty := .long) (by decide) rfl rfl (g := (mkF m 35 #[.val (.ref a1), .val (.int p2)] [(.long ((p2.toInt64) * (100000 : Int64))), (.ref a1)])) rfl rfl (hb hby d1_35)
  have N_3 := Fr.snoc X_3 N_2 g_a1
  have fw_3 : Fld Z h_3 a1 "portcullis/check/PatternBudget" "stepsLeft" "J" (.long ((p2.toInt64) * (100000 : Int64))) := f_2_2.same W_3
  have f_3_0 : Exa Z h_3 a1 "portcullis/check/PatternBudget" := f_2_0.wr W_3
  have f_3_2 : Fld Z h_3 a1 "portcullis/check/PatternBudget" "room" "Lportcullis/check/PatternAutomaton$Room;" .null := f_2_3.other W_3 (Or.inr (slot_ne (Or.inr (hw _ (List.mem_of_getElem? (i := 31) rfl))) (Or.inl (hw _ (List.mem_of_getElem? (i := 15) rfl))) (by decide) (t := (.object "portcullis/check/PatternAutomaton$Room")) (t' := .long) (by decide) (by decide)))
  have f_3_3 : Fld Z h_3 a1 "portcullis/check/PatternBudget" "checks" "I" (.int p2) := fw_2.other W_3 (Or.inr (slot_ne (Or.inr (hw _ (List.mem_of_getElem? (i := 12) rfl))) (Or.inl (hw _ (List.mem_of_getElem? (i := 15) rfl))) (by decide) (t := .int) (t' := .long) (by decide) (by decide)))
  have Z_3 : n0 ≤ h_3.size := Nat.le_trans Z_2 (Keep.of_wr W_3).1
  have K_3 : Keep h0 h_3 [a1] := K_2.wr W_3 (Or.inl (List.mem_of_getElem? (i := 0) rfl))
  obtain ⟨T_4, h_4, X_4, e_4, E_4, A_4, D_4, -, st_4⟩ := newO X_3 hx hZ hown (hw _ (List.mem_of_getElem? (i := 16) rfl)) (hw _ (List.mem_of_getElem? (i := 17) rfl)) (hw _ (List.mem_of_getElem? (i := 18) rfl)) e_3 (g := (mkF m 39 #[.val (.ref a1), .val (.int p2)] [(.ref a1)])) rfl (hb hby d1_39) (by decide) (by decide)
  obtain ⟨b_4, g_4⟩ : ∃ z, z = h_3.size := ⟨_, rfl⟩
  rw [← g_4] at A_4 D_4 st_4
  have ne_a1_b_4 : a1 ≠ b_4 := Nat.ne_of_lt (Nat.lt_of_lt_of_le f_3_0.lt (Nat.le_of_eq g_4.symm))
  have g_b_4 : n0 ≤ b_4 := Nat.le_trans Z_3 (Nat.le_of_eq g_4.symm)
  have sz_b_4 : h0.size ≤ b_4 := Nat.le_trans (K_3).1 (Nat.le_of_eq g_4.symm)
  have f_4_0 : Exa Z h_4 a1 "portcullis/check/PatternBudget" := f_3_0.ext E_4
  have f_4_1 : Fld Z h_4 a1 "portcullis/check/PatternBudget" "room" "Lportcullis/check/PatternAutomaton$Room;" .null := f_3_2.ext E_4
  have f_4_2 : Fld Z h_4 a1 "portcullis/check/PatternBudget" "checks" "I" (.int p2) := f_3_3.ext E_4
  have f_4_3 : Fld Z h_4 a1 "portcullis/check/PatternBudget" "stepsLeft" "J" (.long ((p2.toInt64) * (100000 : Int64))) := fw_3.ext E_4
  have Z_4 : n0 ≤ h_4.size := Nat.le_trans Z_3 E_4.1
  have K_4 : Keep h0 h_4 [a1] := K_3.ext E_4
  have fd_4_25 : Fld Z h_4 b_4 "portcullis/check/PatternAutomaton$Room" "statesLeft" "J" (.long (0 : Int64)) := D_4 (Or.inl (hw _ (List.mem_of_getElem? (i := 25) rfl))) (ty := .long) (by decide)
  have fd_4_27 : Fld Z h_4 b_4 "portcullis/check/PatternAutomaton$Room" "stepsLeft" "J" (.long (0 : Int64)) := D_4 (Or.inl (hw _ (List.mem_of_getElem? (i := 27) rfl))) (ty := .long) (by decide)
  have fd_4_29 : Fld Z h_4 b_4 "portcullis/check/PatternAutomaton$Room" "whole" "Lportcullis/check/PatternAutomaton$Room;" .null := D_4 (Or.inr (hw _ (List.mem_of_getElem? (i := 29) rfl))) (ty := (.object "portcullis/check/PatternAutomaton$Room")) (by decide)
  obtain ⟨_, _, ⟨T_5, L_5, k_5, n_5⟩, -, X_5, ⟨Lc_5, hQ_5, l_5, y_5, z_5⟩, st_5⟩ := X_4.specialBack hx (y := (⟨"portcullis/check/PatternAutomaton$Room", "<init>", "(JJLportcullis/check/PatternAutomaton$Room;)V"⟩ : MethodName)) rfl hown (mvT hZ (hw _ (List.mem_of_getElem? (i := 20) rfl))) (mvT hZ (hw _ (List.mem_of_getElem? (i := 21) rfl))) (mvT hZ (hw _ (List.mem_of_getElem? (i := 22) rfl))) (by decide) (backOf (W := 2) (rm3 l Z a0 hw [] b_4 ((p2.toInt64) * (1000 : Int64)) ((p2.toInt64) * (100000 : Int64)) h_4 n0 Z_4 g_b_4 A_4 fd_4_25 fd_4_27 fd_4_29) hZ (hw _ (List.mem_of_getElem? (i := 22) rfl)) (hw _ (List.mem_of_getElem? (i := 18) rfl)) (by decide) (by decide)) (g := (mkF m 56 #[.val (.ref a1), .val (.int p2)] [.null, (.long ((p2.toInt64) * (100000 : Int64))), (.long ((p2.toInt64) * (1000 : Int64))), (.ref b_4), (.ref b_4), (.ref a1)])) rfl (by rw [hml]; rfl) (Steps.refl _) (a := b_4) (argsL := [(.long ((p2.toInt64) * (1000 : Int64))), (.long ((p2.toInt64) * (100000 : Int64))), .null]) (rest := [(.ref b_4), (.ref a1)]) (lenOf pd_1 rfl) rfl (by show 2 * 0 + _ ≤ _; exact Nat.le_of_eq rfl) (hb hby d1_56) (fun _ _ => ⟨rfl, e_4, (by decide : 1 + 0 ≤ _), (by decide : 3 + 0 ≤ _)⟩)
  dsimp only [Pt.U, Pt.locs, Pt.cells, Pt.slots] at X_5 l_5 y_5 z_5 st_5 hQ_5
  subst l_5 y_5 z_5
  obtain ⟨rfl, N_5q, Kc_5⟩ := hQ_5
  have f_5_0 : Exa Z T_5.heap a1 "portcullis/check/PatternBudget" := f_4_0.keep Kc_5
  have f_5_1 : Fld Z T_5.heap a1 "portcullis/check/PatternBudget" "room" "Lportcullis/check/PatternAutomaton$Room;" .null := f_4_1.keep Kc_5 (by simp [ne_a1_b_4])
  have f_5_2 : Fld Z T_5.heap a1 "portcullis/check/PatternBudget" "checks" "I" (.int p2) := f_4_2.keep Kc_5 (by simp [ne_a1_b_4])
  have f_5_3 : Fld Z T_5.heap a1 "portcullis/check/PatternBudget" "stepsLeft" "J" (.long ((p2.toInt64) * (100000 : Int64))) := f_4_3.keep Kc_5 (by simp [ne_a1_b_4])
  have f_5_4 : Exa Z T_5.heap b_4 "portcullis/check/PatternAutomaton$Room" := A_4.keep Kc_5
  have Z_5 : n0 ≤ T_5.heap.size := Nat.le_trans Z_4 Kc_5.1
  have K_5 : Keep h0 T_5.heap [a1] := K_4.trans Kc_5 (fun x hx => by cases List.mem_singleton.mp hx; exact Or.inr sz_b_4)
  have N_5 := Fr.app N_3 N_5q
  obtain ⟨T_6, h_6, X_6, e_6, W_6, st_6⟩ := putF X_5 hx hZ hown (host := "") (Or.inl (hw _ (List.mem_of_getElem? (i := 30) rfl))) Via.refl rfl f_5_1 f_5_0 (Or.inr ⟨(hw _ (List.mem_of_getElem? (i := 31) rfl)), rfl, hnm⟩) (hw _ (List.mem_of_getElem? (i := 3) rfl)) (ty := (.object "portcullis/check/PatternAutomaton$Room")) (by decide) rfl rfl (g := (mkF m 59 #[.val (.ref a1), .val (.int p2)] [(.ref b_4), (.ref a1)])) rfl rfl (hb hby d1_59)
  have N_6 := Fr.snoc X_6 N_5 g_a1
  have fw_6 : Fld Z h_6 a1 "portcullis/check/PatternBudget" "room" "Lportcullis/check/PatternAutomaton$Room;" (.ref b_4) := f_5_1.same W_6
  have f_6_0 : Exa Z h_6 a1 "portcullis/check/PatternBudget" := f_5_0.wr W_6
  have f_6_2 : Fld Z h_6 a1 "portcullis/check/PatternBudget" "checks" "I" (.int p2) := f_5_2.other W_6 (Or.inr (slot_ne (Or.inr (hw _ (List.mem_of_getElem? (i := 12) rfl))) (Or.inr (hw _ (List.mem_of_getElem? (i := 31) rfl))) (by decide) (t := .int) (t' := (.object "portcullis/check/PatternAutomaton$Room")) (by decide) (by decide)))
  have f_6_3 : Fld Z h_6 a1 "portcullis/check/PatternBudget" "stepsLeft" "J" (.long ((p2.toInt64) * (100000 : Int64))) := f_5_3.other W_6 (Or.inr (slot_ne (Or.inl (hw _ (List.mem_of_getElem? (i := 15) rfl))) (Or.inr (hw _ (List.mem_of_getElem? (i := 31) rfl))) (by decide) (t := .long) (t' := (.object "portcullis/check/PatternAutomaton$Room")) (by decide) (by decide)))
  have f_6_4 : Exa Z h_6 b_4 "portcullis/check/PatternAutomaton$Room" := f_5_4.wr W_6
  have Z_6 : n0 ≤ h_6.size := Nat.le_trans Z_5 (Keep.of_wr W_6).1
  have K_6 : Keep h0 h_6 [a1] := K_5.wr W_6 (Or.inl (List.mem_of_getElem? (i := 0) rfl))
  obtain ⟨fs, hr, hrun, hended, hW, hsame⟩ := X_6.leave (v := none) (fun _ => rfl)
  refine ⟨_, _, pre0 _ ?_, hrun, hended, _, _, rfl, ?_, ⟨_, rfl⟩, hW, hsame.mono (by decide) (by decide)⟩
  · show Steps p.tables e below (s₁.setTop (mkF m 0 #[.val (.ref a1), .val (.int p2)] [])) _
    refine XS.aloadN X0.here hx rfl (hb hby d1_0) rfl rfl ?_
    show Steps p.tables e below (s₁.setTop (mkF m 1 #[.val (.ref a1), .val (.int p2)] [(.ref a1)])) _
    refine st_1 _ ?_
    show Steps p.tables e below (T_1.setTop (mkF m 4 #[.val (.ref a1), .val (.int p2)] [])) _
    refine XS.iloadN X_1.here hx rfl (hb hby d1_4) rfl ?_
    show Steps p.tables e below (T_1.setTop (mkF m 5 #[.val (.ref a1), .val (.int p2)] [(.int p2)])) _
    refine XS.iconst X_1.here hx rfl (hb hby d1_5) ?_
    show Steps p.tables e below (T_1.setTop (mkF m 6 #[.val (.ref a1), .val (.int p2)] [(.int (1 : Int32)), (.int p2)])) _
    refine XS.icmpYes X_1.here hx rfl (pc0 := 6) (pc' := 23) rfl (hb hby d1_6) rfl (flt (hpos : ¬ (p2 < (1 : Int32)))).2.1 (by decide) (by decide) ?_
    show Steps p.tables e below (T_1.setTop (mkF m 23 #[.val (.ref a1), .val (.int p2)] [])) _
    refine XS.aloadN X_1.here hx rfl (hb hby d1_23) rfl rfl ?_
    show Steps p.tables e below (T_1.setTop (mkF m 24 #[.val (.ref a1), .val (.int p2)] [(.ref a1)])) _
    refine XS.iloadN X_1.here hx rfl (hb hby d1_24) rfl ?_
    show Steps p.tables e below (T_1.setTop (mkF m 25 #[.val (.ref a1), .val (.int p2)] [(.int p2), (.ref a1)])) _
    refine st_2 _ ?_
    show Steps p.tables e below (T_2.setTop (mkF m 28 #[.val (.ref a1), .val (.int p2)] [])) _
    refine XS.aloadN X_2.here hx rfl (hb hby d1_28) rfl rfl ?_
    show Steps p.tables e below (T_2.setTop (mkF m 29 #[.val (.ref a1), .val (.int p2)] [(.ref a1)])) _
    refine XS.iloadN X_2.here hx rfl (hb hby d1_29) rfl ?_
    show Steps p.tables e below (T_2.setTop (mkF m 30 #[.val (.ref a1), .val (.int p2)] [(.int p2), (.ref a1)])) _
    refine XS.i2l X_2.here hx rfl (hb hby d1_30) rfl ?_
    show Steps p.tables e below (T_2.setTop (mkF m 31 #[.val (.ref a1), .val (.int p2)] [(.long (p2.toInt64)), (.ref a1)])) _
    refine X_2.ldc2Long hx hown (mvT hZ (hw _ (List.mem_of_getElem? (i := 13) rfl))) (g := (mkF m 31 #[.val (.ref a1), .val (.int p2)] [(.long (p2.toInt64)), (.ref a1)])) rfl (hb hby d1_31) _ ?_
    show Steps p.tables e below (T_2.setTop (mkF m 34 #[.val (.ref a1), .val (.int p2)] [(.long (100000 : Int64)), (.long (p2.toInt64)), (.ref a1)])) _
    refine XS.lmul X_2.here hx rfl (hb hby d1_34) rfl ?_
    show Steps p.tables e below (T_2.setTop (mkF m 35 #[.val (.ref a1), .val (.int p2)] [(.long ((p2.toInt64) * (100000 : Int64))), (.ref a1)])) _
    refine st_3 _ ?_
    show Steps p.tables e below (T_3.setTop (mkF m 38 #[.val (.ref a1), .val (.int p2)] [])) _
    refine XS.aloadN X_3.here hx rfl (hb hby d1_38) rfl rfl ?_
    show Steps p.tables e below (T_3.setTop (mkF m 39 #[.val (.ref a1), .val (.int p2)] [(.ref a1)])) _
    refine st_4 _ ?_
    show Steps p.tables e below (T_4.setTop (mkF m 42 #[.val (.ref a1), .val (.int p2)] [(.ref b_4), (.ref a1)])) _
    refine XS.dup X_4.here hx rfl (hb hby d1_42) rfl rfl ?_
    show Steps p.tables e below (T_4.setTop (mkF m 43 #[.val (.ref a1), .val (.int p2)] [(.ref b_4), (.ref b_4), (.ref a1)])) _
    refine XS.iloadN X_4.here hx rfl (hb hby d1_43) rfl ?_
    show Steps p.tables e below (T_4.setTop (mkF m 44 #[.val (.ref a1), .val (.int p2)] [(.int p2), (.ref b_4), (.ref b_4), (.ref a1)])) _
    refine XS.i2l X_4.here hx rfl (hb hby d1_44) rfl ?_
    show Steps p.tables e below (T_4.setTop (mkF m 45 #[.val (.ref a1), .val (.int p2)] [(.long (p2.toInt64)), (.ref b_4), (.ref b_4), (.ref a1)])) _
    refine X_4.ldc2Long hx hown (mvT hZ (hw _ (List.mem_of_getElem? (i := 19) rfl))) (g := (mkF m 45 #[.val (.ref a1), .val (.int p2)] [(.long (p2.toInt64)), (.ref b_4), (.ref b_4), (.ref a1)])) rfl (hb hby d1_45) _ ?_
    show Steps p.tables e below (T_4.setTop (mkF m 48 #[.val (.ref a1), .val (.int p2)] [(.long (1000 : Int64)), (.long (p2.toInt64)), (.ref b_4), (.ref b_4), (.ref a1)])) _
    refine XS.lmul X_4.here hx rfl (hb hby d1_48) rfl ?_
    show Steps p.tables e below (T_4.setTop (mkF m 49 #[.val (.ref a1), .val (.int p2)] [(.long ((p2.toInt64) * (1000 : Int64))), (.ref b_4), (.ref b_4), (.ref a1)])) _
    refine XS.iloadN X_4.here hx rfl (hb hby d1_49) rfl ?_
    show Steps p.tables e below (T_4.setTop (mkF m 50 #[.val (.ref a1), .val (.int p2)] [(.int p2), (.long ((p2.toInt64) * (1000 : Int64))), (.ref b_4), (.ref b_4), (.ref a1)])) _
    refine XS.i2l X_4.here hx rfl (hb hby d1_50) rfl ?_
    show Steps p.tables e below (T_4.setTop (mkF m 51 #[.val (.ref a1), .val (.int p2)] [(.long (p2.toInt64)), (.long ((p2.toInt64) * (1000 : Int64))), (.ref b_4), (.ref b_4), (.ref a1)])) _
    refine X_4.ldc2Long hx hown (mvT hZ (hw _ (List.mem_of_getElem? (i := 13) rfl))) (g := (mkF m 51 #[.val (.ref a1), .val (.int p2)] [(.long (p2.toInt64)), (.long ((p2.toInt64) * (1000 : Int64))), (.ref b_4), (.ref b_4), (.ref a1)])) rfl (hb hby d1_51) _ ?_
    show Steps p.tables e below (T_4.setTop (mkF m 54 #[.val (.ref a1), .val (.int p2)] [(.long (100000 : Int64)), (.long (p2.toInt64)), (.long ((p2.toInt64) * (1000 : Int64))), (.ref b_4), (.ref b_4), (.ref a1)])) _
    refine XS.lmul X_4.here hx rfl (hb hby d1_54) rfl ?_
    show Steps p.tables e below (T_4.setTop (mkF m 55 #[.val (.ref a1), .val (.int p2)] [(.long ((p2.toInt64) * (100000 : Int64))), (.long ((p2.toInt64) * (1000 : Int64))), (.ref b_4), (.ref b_4), (.ref a1)])) _
    refine XS.aconstNull X_4.here hx rfl (hb hby d1_55) ?_
    show Steps p.tables e below (T_4.setTop (mkF m 56 #[.val (.ref a1), .val (.int p2)] [.null, (.long ((p2.toInt64) * (100000 : Int64))), (.long ((p2.toInt64) * (1000 : Int64))), (.ref b_4), (.ref b_4), (.ref a1)])) _
    refine st_5.trans ?_
    show Steps p.tables e below (T_5.setTop (mkF m 59 #[.val (.ref a1), .val (.int p2)] [(.ref b_4), (.ref a1)])) _
    refine st_6 _ ?_
    show Steps p.tables e below (T_6.setTop (mkF m 62 #[.val (.ref a1), .val (.int p2)] [])) _
    exact X_6.returnOut hx Bd.returns (hb hby d1_62) hr
  · show Q1 Z a1 p2 h0 n0 _ T_6.heap _
    rw [e_6]
    exact ⟨rfl, N_6, K_6, f_6_0, f_6_3⟩
theorem d4_0 : decode prog_33_method_2_code 0 = .ok (.iload_n 1, 1) := by decide +kernel
theorem d4_1 : decode prog_33_method_2_code 1 = .ok (.i2l, 1) := by decide +kernel
theorem d4_2 : decode prog_33_method_2_code 2 = .ok (.aload_n 0, 1) := by decide +kernel
theorem d4_3 : decode prog_33_method_2_code 3 = .ok (.getfield 26, 3) := by decide +kernel
theorem d4_6 : decode prog_33_method_2_code 6 = .ok (.lcmp, 1) := by decide +kernel
theorem d4_7 : decode prog_33_method_2_code 7 = .ok (.ifCond .le 25, 3) := by decide +kernel
theorem d4_32 : decode prog_33_method_2_code 32 = .ok (.aload_n 0, 1) := by decide +kernel
theorem d4_33 : decode prog_33_method_2_code 33 = .ok (.dup, 1) := by decide +kernel
theorem d4_34 : decode prog_33_method_2_code 34 = .ok (.getfield 26, 3) := by decide +kernel
theorem d4_37 : decode prog_33_method_2_code 37 = .ok (.iload_n 1, 1) := by decide +kernel
theorem d4_38 : decode prog_33_method_2_code 38 = .ok (.i2l, 1) := by decide +kernel
theorem d4_39 : decode prog_33_method_2_code 39 = .ok (.lsub, 1) := by decide +kernel
theorem d4_40 : decode prog_33_method_2_code 40 = .ok (.putfield 26, 3) := by decide +kernel
theorem d4_43 : decode prog_33_method_2_code 43 = .ok (.return_, 1) := by decide +kernel
theorem ef_4_RI (m : MethodId) (x0 : Addr) (x1 : Int32) : entryFrame m #[(.ref x0), (.int x1)] 2 = mkF m 0 #[.val (.ref x0), .val (.int x1)] [] := by first | (simp [entryFrame, mkF, argsToLocals, Value.category]; done) | rfl
def Q4 (Z : State) (a1 : Addr) (p2 : Int32) (q3 : Int64) (h0 : Heap) (n0 : Nat) (v : Option Value) (h : Heap) (L : List Loc) : Prop := v = none ∧ Fr n0 L ∧ Keep h0 h [a1] ∧ Exa Z h a1 "portcullis/check/PatternBudget" ∧ Fld Z h a1 "portcullis/check/PatternBudget" "stepsLeft" "J" (.long (q3 - (p2.toInt64)))
theorem pn_4 : plainName "portcullis/check/PatternBudget" = true := by first | (simp [plainName, overriddenIn]; done) | decide +kernel
set_option maxRecDepth 65536 in
set_option maxHeartbeats 40000000 in
theorem rm4 (l : Launch) (Z : State) (a0 : Array Value) (hw : ∀ d ∈ tables_1, d.before a0 Z = true) (ws : List Jvm.Cond) (a1 : Addr) (p2 : Int32) (q3 : Int64) (h0 : Heap) (n0 : Nat) (Z0 : n0 ≤ h0.size) (g_a1 : n0 ≤ a1) (F0 : Exa Z h0 a1 "portcullis/check/PatternBudget") (F1 : Fld Z h0 a1 "portcullis/check/PatternBudget" "stepsLeft" "J" (.long q3)) (hle : ¬ (q3 < (p2.toInt64))) :
    MetFree l (⟨"portcullis/check/PatternBudget", "take", "(I)V"⟩ : MethodName) (head1 (Jvm.Cond.code (⟨"portcullis/check/PatternBudget", "take", "(I)V"⟩ : MethodName) prog_33_method_2_code 2 none :: ws) ({ frames := 0, cells := 0, slots := 0, locals := 0 } : Room)) (fun a U => a = #[(.ref a1), (.int p2)] ∧ Z.Warmed39 U.vm ∧ U.heap = h0) (fun _ _ _ _ _ => True) (fun _ U o U' => ∃ v L, o = .returned v ∧ Q4 Z a1 p2 q3 h0 n0 v U'.heap L ∧ FrameEnd U o U' L ({ frames := 0, cells := 0, slots := 0, locals := 0 } : Room).cells ({ frames := 0, cells := 0, slots := 0, locals := 0 } : Room).slots) := by
  refine MetFree.of_bodySF (plainFor_of_name pn_4) hisR ?_
  intro p e s m args below meth c s₁ Bd hml0 hP hK
  obtain ⟨rfl, hZ, hh⟩ := hP
  have hx := Bd.exec
  have hby := Bd.bytes
  have hml : c.maxLocals = 2 := hml0
  have hown : s.vm.findClass "portcullis/check/PatternBudget" = some m.cls := findClass_of_methodNamed Bd.named
  have hnm := (name_of_methodNamed Bd.named Bd.method).1
  have X0 : Stand p l e ({ frames := 0, cells := 0, slots := 0, locals := 0 } : Room) s m #[(.ref a1), (.int p2)] below meth c s₁ [] 0 0 := Stand.of_body Bd
  have e0 : s₁.heap = h0 := by rw [← hh, Bd.state]; rfl
  have N0 := Fr.nil n0
  have pre0 : ∀ t, Steps p.tables e below (s₁.setTop (mkF m 0 #[.val (.ref a1), .val (.int p2)] [])) t → Steps p.tables e below (s₁.setTop (entryFrame m #[(.ref a1), (.int p2)] 2)) t := fun t k => castTop (ef_4_RI m a1 p2) k
  obtain ⟨T_1, X_1, e_1, st_1⟩ := getF X0 hx hZ hown (host := "") (Or.inl (hw _ (List.mem_of_getElem? (i := 14) rfl))) Via.refl e0 F1 (g := (mkF m 3 #[.val (.ref a1), .val (.int p2)] [(.ref a1), (.long (p2.toInt64))])) rfl rfl (hb hby d4_3)
  obtain ⟨T_2, X_2, e_2, st_2⟩ := getF X_1 hx hZ hown (host := "") (Or.inl (hw _ (List.mem_of_getElem? (i := 14) rfl))) Via.refl e_1 F1 (g := (mkF m 34 #[.val (.ref a1), .val (.int p2)] [(.ref a1), (.ref a1)])) rfl rfl (hb hby d4_34)
  obtain ⟨T_3, h_3, X_3, e_3, W_3, st_3⟩ := putF X_2 hx hZ hown (host := "") (Or.inl (hw _ (List.mem_of_getElem? (i := 14) rfl))) Via.refl e_2 F1 F0 (Or.inl (hw _ (List.mem_of_getElem? (i := 15) rfl))) (hw _ (List.mem_of_getElem? (i := 3) rfl)) (ty := .long) (by decide) rfl rfl (g := (mkF m 40 #[.val (.ref a1), .val (.int p2)] [(.long (q3 - (p2.toInt64))), (.ref a1)])) rfl rfl (hb hby d4_40)
  have N_3 := Fr.snoc X_3 N0 g_a1
  have fw_3 : Fld Z h_3 a1 "portcullis/check/PatternBudget" "stepsLeft" "J" (.long (q3 - (p2.toInt64))) := F1.same W_3
  have f_3_0 : Exa Z h_3 a1 "portcullis/check/PatternBudget" := F0.wr W_3
  have Z_3 : n0 ≤ h_3.size := Nat.le_trans Z0 (Keep.of_wr W_3).1
  have K_3 : Keep h0 h_3 [a1] := (Keep.refl h0 [a1]).wr W_3 (Or.inl (List.mem_of_getElem? (i := 0) rfl))
  obtain ⟨fs, hr, hrun, hended, hW, hsame⟩ := X_3.leave (v := none) (fun _ => rfl)
  refine ⟨_, _, pre0 _ ?_, hrun, hended, _, _, rfl, ?_, ⟨_, rfl⟩, hW, hsame.mono (by decide) (by decide)⟩
  · show Steps p.tables e below (s₁.setTop (mkF m 0 #[.val (.ref a1), .val (.int p2)] [])) _
    refine XS.iloadN X0.here hx rfl (hb hby d4_0) rfl ?_
    show Steps p.tables e below (s₁.setTop (mkF m 1 #[.val (.ref a1), .val (.int p2)] [(.int p2)])) _
    refine XS.i2l X0.here hx rfl (hb hby d4_1) rfl ?_
    show Steps p.tables e below (s₁.setTop (mkF m 2 #[.val (.ref a1), .val (.int p2)] [(.long (p2.toInt64))])) _
    refine XS.aloadN X0.here hx rfl (hb hby d4_2) rfl rfl ?_
    show Steps p.tables e below (s₁.setTop (mkF m 3 #[.val (.ref a1), .val (.int p2)] [(.ref a1), (.long (p2.toInt64))])) _
    refine st_1 _ ?_
    show Steps p.tables e below (T_1.setTop (mkF m 6 #[.val (.ref a1), .val (.int p2)] [(.long q3), (.long (p2.toInt64))])) _
    refine XS.lcmp X_1.here hx rfl (hb hby d4_6) rfl ?_
    show Steps p.tables e below (T_1.setTop (mkF m 7 #[.val (.ref a1), .val (.int p2)] [(.int (lcmpW (p2.toInt64) q3))])) _
    refine XS.ifYes X_1.here hx rfl (pc0 := 7) (pc' := 32) rfl (hb hby d4_7) rfl ((if0 _ _).trans (flt (mt (lw_gt _ _).mp (hle : ¬ (q3 < (p2.toInt64))))).2.2.2) (by decide) (by decide) ?_
    show Steps p.tables e below (T_1.setTop (mkF m 32 #[.val (.ref a1), .val (.int p2)] [])) _
    refine XS.aloadN X_1.here hx rfl (hb hby d4_32) rfl rfl ?_
    show Steps p.tables e below (T_1.setTop (mkF m 33 #[.val (.ref a1), .val (.int p2)] [(.ref a1)])) _
    refine XS.dup X_1.here hx rfl (hb hby d4_33) rfl rfl ?_
    show Steps p.tables e below (T_1.setTop (mkF m 34 #[.val (.ref a1), .val (.int p2)] [(.ref a1), (.ref a1)])) _
    refine st_2 _ ?_
    show Steps p.tables e below (T_2.setTop (mkF m 37 #[.val (.ref a1), .val (.int p2)] [(.long q3), (.ref a1)])) _
    refine XS.iloadN X_2.here hx rfl (hb hby d4_37) rfl ?_
    show Steps p.tables e below (T_2.setTop (mkF m 38 #[.val (.ref a1), .val (.int p2)] [(.int p2), (.long q3), (.ref a1)])) _
    refine XS.i2l X_2.here hx rfl (hb hby d4_38) rfl ?_
    show Steps p.tables e below (T_2.setTop (mkF m 39 #[.val (.ref a1), .val (.int p2)] [(.long (p2.toInt64)), (.long q3), (.ref a1)])) _
    refine XS.lsub X_2.here hx rfl (hb hby d4_39) rfl ?_
    show Steps p.tables e below (T_2.setTop (mkF m 40 #[.val (.ref a1), .val (.int p2)] [(.long (q3 - (p2.toInt64))), (.ref a1)])) _
    refine st_3 _ ?_
    show Steps p.tables e below (T_3.setTop (mkF m 43 #[.val (.ref a1), .val (.int p2)] [])) _
    exact X_3.returnOut hx Bd.returns (hb hby d4_43) hr
  · show Q4 Z a1 p2 q3 h0 n0 _ T_3.heap _
    rw [e_3]
    exact ⟨rfl, N_3, K_3, f_3_0, fw_3⟩
theorem own_c (p2 c : Int32) (h5 : c = ((p2 &&& (2147483647 : Int32)) % (21474 : Int32)) + (1 : Int32)) : 1 ≤ c.toInt ∧ c.toInt ≤ 21474 := by
  have e1 : (p2 &&& (2147483647 : Int32)).toInt = p2.toInt % 2 ^ 31 := Jvm.Kit.i32_mask p2 _ (k := 31) (by decide) (by decide)
  have e2 : ((p2 &&& (2147483647 : Int32)) % (21474 : Int32)).toInt = (p2 &&& (2147483647 : Int32)).toInt % (21474 : Int32).toInt := Jvm.Kit.i32_rem_nonneg (by omega)
  have e3 : (21474 : Int32).toInt = 21474 := rfl
  rw [e3] at e2
  have e4 : (1 : Int32).toInt = 1 := rfl
  have e5 : c.toInt = ((p2 &&& (2147483647 : Int32)) % (21474 : Int32)).toInt + (1 : Int32).toInt := by
    rw [h5]; exact Jvm.Kit.i32_add (by omega) (by omega)
  omega
theorem own_t (p2 c t : Int32) (h5 : c = ((p2 &&& (2147483647 : Int32)) % (21474 : Int32)) + (1 : Int32)) (h6 : t = c * (100000 : Int32)) : t.toInt = c.toInt * 100000 := by
  have q := own_c p2 c h5
  have e3 : (100000 : Int32).toInt = 100000 := rfl
  rw [h6, ← e3]; exact Jvm.Kit.i32_mul (by rw [e3]; omega) (by rw [e3]; omega)
theorem own_t1 (p2 c t : Int32) (h5 : c = ((p2 &&& (2147483647 : Int32)) % (21474 : Int32)) + (1 : Int32)) (h6 : t = c * (100000 : Int32)) : (t + (1 : Int32)).toInt = c.toInt * 100000 + 1 := by
  have q := own_c p2 c h5
  have r := own_t p2 c t h5 h6
  have e4 : (1 : Int32).toInt = 1 := rfl
  have := Jvm.Kit.i32_add (p := t) (q := 1) (by omega) (by omega)
  omega
theorem own_ne0 {x : Int32} (h : x.toInt ≠ 0) : x ≠ 0 := fun e => h (by rw [e]; rfl)
theorem own_nz1 (p2 c t : Int32) (h5 : c = ((p2 &&& (2147483647 : Int32)) % (21474 : Int32)) + (1 : Int32)) (h6 : t = c * (100000 : Int32)) : (t + (1 : Int32)) ≠ 0 := by
  have q := own_c p2 c h5
  have r := own_t1 p2 c t h5 h6
  exact own_ne0 (by omega)
theorem own_a (p2 p3 c t a : Int32) (h5 : c = ((p2 &&& (2147483647 : Int32)) % (21474 : Int32)) + (1 : Int32)) (h6 : t = c * (100000 : Int32)) (h7 : a = (p3 &&& (2147483647 : Int32)) % (t + (1 : Int32))) : 0 ≤ a.toInt ∧ a.toInt ≤ t.toInt := by
  have q := own_c p2 c h5
  have r := own_t p2 c t h5 h6
  have r1 := own_t1 p2 c t h5 h6
  have e1 : (p3 &&& (2147483647 : Int32)).toInt = p3.toInt % 2 ^ 31 := Jvm.Kit.i32_mask p3 _ (k := 31) (by decide) (by decide)
  have e2 : a.toInt = (p3 &&& (2147483647 : Int32)).toInt % (t + (1 : Int32)).toInt := by rw [h7]; exact Jvm.Kit.i32_rem_nonneg (by omega)
  have u1 := Int.emod_nonneg (p3 &&& (2147483647 : Int32)).toInt (b := (t + (1 : Int32)).toInt) (by omega)
  have u2 := Int.emod_lt_of_pos (p3 &&& (2147483647 : Int32)).toInt (b := (t + (1 : Int32)).toInt) (by omega)
  omega
theorem own_d (p2 p3 c t a : Int32) (h5 : c = ((p2 &&& (2147483647 : Int32)) % (21474 : Int32)) + (1 : Int32)) (h6 : t = c * (100000 : Int32)) (h7 : a = (p3 &&& (2147483647 : Int32)) % (t + (1 : Int32))) : ((t - a) + (1 : Int32)).toInt = t.toInt - a.toInt + 1 ∧ (t - a).toInt = t.toInt - a.toInt := by
  have q := own_c p2 c h5
  have r := own_t p2 c t h5 h6
  have u := own_a p2 p3 c t a h5 h6 h7
  have e4 : (1 : Int32).toInt = 1 := rfl
  have w1 := Jvm.Kit.i32_sub (p := t) (q := a) (by omega) (by omega)
  have w2 := Jvm.Kit.i32_add (p := t - a) (q := 1) (by omega) (by omega)
  omega
theorem own_nz2 (p2 p3 c t a : Int32) (h5 : c = ((p2 &&& (2147483647 : Int32)) % (21474 : Int32)) + (1 : Int32)) (h6 : t = c * (100000 : Int32)) (h7 : a = (p3 &&& (2147483647 : Int32)) % (t + (1 : Int32))) : ((t - a) + (1 : Int32)) ≠ 0 := by
  have u := own_a p2 p3 c t a h5 h6 h7
  have w := own_d p2 p3 c t a h5 h6 h7
  exact own_ne0 (by omega)
theorem own_small (p2 p3 p4 c t a b r : Int32) (h5 : c = ((p2 &&& (2147483647 : Int32)) % (21474 : Int32)) + (1 : Int32)) (h6 : t = c * (100000 : Int32)) (h7 : a = (p3 &&& (2147483647 : Int32)) % (t + (1 : Int32)))
    (h8 : b = (p4 &&& (2147483647 : Int32)) % ((t - a) + (1 : Int32))) (h9 : r = (t - a) - b) :
    ¬ (c < (1 : Int32)) ∧ ¬ (((c.toInt64) * (100000 : Int64)) < (a.toInt64)) ∧ ¬ ((((c.toInt64) * (100000 : Int64)) - (a.toInt64)) < (b.toInt64)) ∧ ¬ (((((c.toInt64) * (100000 : Int64)) - (a.toInt64)) - (b.toInt64)) < (r.toInt64)) ∧ ¬ ((((((c.toInt64) * (100000 : Int64)) - (a.toInt64)) - (b.toInt64)) - (r.toInt64)) < ((0 : Int32).toInt64)) := by
  have q := own_c p2 c h5
  have q1 := own_t p2 c t h5 h6
  have u := own_a p2 p3 c t a h5 h6 h7
  have w := own_d p2 p3 c t a h5 h6 h7
  have e1 : (p4 &&& (2147483647 : Int32)).toInt = p4.toInt % 2 ^ 31 := Jvm.Kit.i32_mask p4 _ (k := 31) (by decide) (by decide)
  have e2 : b.toInt = (p4 &&& (2147483647 : Int32)).toInt % ((t - a) + (1 : Int32)).toInt := by rw [h8]; exact Jvm.Kit.i32_rem_nonneg (by omega)
  have u1 := Int.emod_nonneg (p4 &&& (2147483647 : Int32)).toInt (b := ((t - a) + (1 : Int32)).toInt) (by omega)
  have u2 := Int.emod_lt_of_pos (p4 &&& (2147483647 : Int32)).toInt (b := ((t - a) + (1 : Int32)).toInt) (by omega)
  have e3 : r.toInt = (t - a).toInt - b.toInt := by rw [h9]; exact Jvm.Kit.i32_sub (by omega) (by omega)
  have k1 : (100000 : Int64).toInt = 100000 := rfl
  have k2 : (1 : Int32).toInt = 1 := rfl
  have k3 : (0 : Int32).toInt64.toInt = 0 := rfl
  have c6 := Jvm.Kit.i64_of_i32 c
  have a6 := Jvm.Kit.i64_of_i32 a
  have b6 := Jvm.Kit.i64_of_i32 b
  have r6 := Jvm.Kit.i64_of_i32 r
  have s1 := Jvm.Kit.i64_mul (x := c.toInt64) (y := 100000) (by rw [k1, c6]; omega) (by rw [k1, c6]; omega)
  rw [k1, c6] at s1
  have s2 := Jvm.Kit.i64_sub (x := c.toInt64 * 100000) (y := a.toInt64) (by omega) (by omega)
  have s3 := Jvm.Kit.i64_sub (x := c.toInt64 * 100000 - a.toInt64) (y := b.toInt64) (by omega) (by omega)
  have s4 := Jvm.Kit.i64_sub (x := c.toInt64 * 100000 - a.toInt64 - b.toInt64) (y := r.toInt64) (by omega) (by omega)
  refine ⟨?_, ?_, ?_, ?_, ?_⟩
  · rw [Int32.lt_iff_toInt_lt]; omega
  · rw [Int64.lt_iff_toInt_lt]; omega
  · rw [Int64.lt_iff_toInt_lt]; omega
  · rw [Int64.lt_iff_toInt_lt]; omega
  · rw [Int64.lt_iff_toInt_lt]; omega
theorem own_big (p2 p3 c : Int32) (h5 : c = (21475 : Int32) + (p2 &&& (1073741823 : Int32))) :
    ¬ (c < (1 : Int32)) ∧ ¬ (((c.toInt64) * (100000 : Int64)) < ((p3 &&& (2147483647 : Int32)).toInt64)) ∧ ¬ ((((c.toInt64) * (100000 : Int64)) - ((p3 &&& (2147483647 : Int32)).toInt64)) < ((0 : Int32).toInt64)) := by
  have e1 : (p2 &&& (1073741823 : Int32)).toInt = p2.toInt % 2 ^ 30 := Jvm.Kit.i32_mask p2 _ (k := 30) (by decide) (by decide)
  have e2 : (p3 &&& (2147483647 : Int32)).toInt = p3.toInt % 2 ^ 31 := Jvm.Kit.i32_mask p3 _ (k := 31) (by decide) (by decide)
  have e3 : (21475 : Int32).toInt = 21475 := rfl
  have e4 : c.toInt = (21475 : Int32).toInt + (p2 &&& (1073741823 : Int32)).toInt := by rw [h5]; exact Jvm.Kit.i32_add (by omega) (by omega)
  have k1 : (100000 : Int64).toInt = 100000 := rfl
  have k2 : (1 : Int32).toInt = 1 := rfl
  have k3 : (0 : Int32).toInt64.toInt = 0 := rfl
  have c6 := Jvm.Kit.i64_of_i32 c
  have a6 := Jvm.Kit.i64_of_i32 (p3 &&& (2147483647 : Int32))
  have s1 := Jvm.Kit.i64_mul (x := c.toInt64) (y := 100000) (by rw [k1, c6]; omega) (by rw [k1, c6]; omega)
  rw [k1, c6] at s1
  have s2 := Jvm.Kit.i64_sub (x := c.toInt64 * 100000) (y := (p3 &&& (2147483647 : Int32)).toInt64) (by omega) (by omega)
  refine ⟨?_, ?_, ?_⟩
  · rw [Int32.lt_iff_toInt_lt]; omega
  · rw [Int64.lt_iff_toInt_lt]; omega
  · rw [Int64.lt_iff_toInt_lt]; omega
theorem pd_2 : parseMethodDescriptor "(I)V" = some ⟨[.int], none⟩ := by decide +kernel
theorem ef_0_IIII (m : MethodId) (x0 : Int32) (x1 : Int32) (x2 : Int32) (x3 : Int32) : entryFrame m #[(.int x0), (.int x1), (.int x2), (.int x3)] maxLocals = mkF m 0 #[.val (.int x0), .val (.int x1), .val (.int x2), .val (.int x3), .unset, .unset, .unset, .unset, .unset, .unset, .unset] [] := by first | (simp [entryFrame, mkF, argsToLocals, Value.category, maxLocals]; done) | rfl
def Q0 (n0 : Nat) (v : Option Value) (h : Heap) (L : List Loc) : Prop := v = some (.int (1 : Int32)) ∧ Fr n0 L
theorem pn_0 : plainName "portcullis/check/PatternBudgetTakePinLaw" = true := by first | (simp [plainName, overriddenIn]; done) | decide +kernel
set_option maxRecDepth 65536 in
set_option maxHeartbeats 40000000 in
theorem rm0 (l : Launch) (Z : State) (a0 : Array Value) (hw : ∀ d ∈ tables_1, d.before a0 Z = true) (ws : List Jvm.Cond) (p1 : Int32) (p2 : Int32) (p3 : Int32) (p4 : Int32) (h0 : Heap) (n0 : Nat) (Z0 : n0 ≤ h0.size)  :
    MetFree l x (head1 (Jvm.Cond.code x code maxLocals ret :: ws) room_1) (fun a U => a = #[(.int p1), (.int p2), (.int p3), (.int p4)] ∧ Z.Warmed39 U.vm ∧ U.heap = h0) (fun _ _ _ _ _ => True) (fun _ U o U' => ∃ v L, o = .returned v ∧ Q0 n0 v U'.heap L ∧ FrameEnd U o U' L room_1.cells room_1.slots) := by
  refine MetFree.of_bodySF (plainFor_of_name pn_0) hisR ?_
  intro p e s m args below meth c s₁ Bd hml0 hP hK
  obtain ⟨rfl, hZ, hh⟩ := hP
  have hx := Bd.exec
  have hby := Bd.bytes
  have hml : c.maxLocals = 11 := hml0
  have hown : s.vm.findClass "portcullis/check/PatternBudgetTakePinLaw" = some m.cls := findClass_of_methodNamed Bd.named
  have hnm := (name_of_methodNamed Bd.named Bd.method).1
  have X0 : Stand p l e room_1 s m #[(.int p1), (.int p2), (.int p3), (.int p4)] below meth c s₁ [] 0 0 := Stand.of_body Bd
  have e0 : s₁.heap = h0 := by rw [← hh, Bd.state]; rfl
  have N0 := Fr.nil n0
  have pre0 : ∀ t, Steps p.tables e below (s₁.setTop (mkF m 0 #[.val (.int p1), .val (.int p2), .val (.int p3), .val (.int p4), .unset, .unset, .unset, .unset, .unset, .unset, .unset] [])) t → Steps p.tables e below (s₁.setTop (entryFrame m #[(.int p1), (.int p2), (.int p3), (.int p4)] maxLocals)) t := fun t k => castTop (ef_0_IIII m p1 p2 p3 p4) k
  have pr_1 : ∀ t, Steps p.tables e below (s₁.setTop (mkF m 3 #[.val (.int p1), .val (.int p2), .val (.int p3), .val (.int p4), .unset, .unset, .unset, .unset, .unset, .unset, .unset] [(.int (p1 &&& (1 : Int32)))])) t → Steps p.tables e below (s₁.setTop (entryFrame m #[(.int p1), (.int p2), (.int p3), (.int p4)] maxLocals)) t := fun t k => by
    refine pre0 _ ?_
    show Steps p.tables e below (s₁.setTop (mkF m 0 #[.val (.int p1), .val (.int p2), .val (.int p3), .val (.int p4), .unset, .unset, .unset, .unset, .unset, .unset, .unset] [])) _
    refine XS.iloadN X0.here hx rfl (hb hby at_0) rfl ?_
    show Steps p.tables e below (s₁.setTop (mkF m 1 #[.val (.int p1), .val (.int p2), .val (.int p3), .val (.int p4), .unset, .unset, .unset, .unset, .unset, .unset, .unset] [(.int p1)])) _
    refine XS.iconst X0.here hx rfl (hb hby at_1) ?_
    show Steps p.tables e below (s₁.setTop (mkF m 2 #[.val (.int p1), .val (.int p2), .val (.int p3), .val (.int p4), .unset, .unset, .unset, .unset, .unset, .unset, .unset] [(.int (1 : Int32)), (.int p1)])) _
    refine XS.iand X0.here hx rfl (hb hby at_2) rfl ?_
    exact k
  by_cases hc_2 : (p1 &&& (1 : Int32)) = (0 : Int32)
  · have pr_3 : ∀ t, Steps p.tables e below (s₁.setTop (mkF m 68 #[.val (.int p1), .val (.int p2), .val (.int p3), .val (.int p4), .val (.int (0 : Int32)), .val (.int (((p2 &&& (2147483647 : Int32)) % (21474 : Int32)) + (1 : Int32))), .unset, .unset, .unset, .unset, .unset] [])) t → Steps p.tables e below (s₁.setTop (entryFrame m #[(.int p1), (.int p2), (.int p3), (.int p4)] maxLocals)) t := fun t k => by
      refine pr_1 _ ?_
      show Steps p.tables e below (s₁.setTop (mkF m 3 #[.val (.int p1), .val (.int p2), .val (.int p3), .val (.int p4), .unset, .unset, .unset, .unset, .unset, .unset, .unset] [(.int (p1 &&& (1 : Int32)))])) _
      refine XS.ifYes X0.here hx rfl (pc0 := 3) (pc' := 10) rfl (hb hby at_3) rfl ((if0 _ _).trans (teq hc_2).1) (by decide) (by decide) ?_
      show Steps p.tables e below (s₁.setTop (mkF m 10 #[.val (.int p1), .val (.int p2), .val (.int p3), .val (.int p4), .unset, .unset, .unset, .unset, .unset, .unset, .unset] [])) _
      refine XS.iconst X0.here hx rfl (hb hby at_10) ?_
      show Steps p.tables e below (s₁.setTop (mkF m 11 #[.val (.int p1), .val (.int p2), .val (.int p3), .val (.int p4), .unset, .unset, .unset, .unset, .unset, .unset, .unset] [(.int (0 : Int32))])) _
      refine XS.istore X0.here hx rfl (hb hby at_11) rfl (l' := #[.val (.int p1), .val (.int p2), .val (.int p3), .val (.int p4), .val (.int (0 : Int32)), .unset, .unset, .unset, .unset, .unset, .unset]) rfl ?_
      show Steps p.tables e below (s₁.setTop (mkF m 13 #[.val (.int p1), .val (.int p2), .val (.int p3), .val (.int p4), .val (.int (0 : Int32)), .unset, .unset, .unset, .unset, .unset, .unset] [])) _
      refine XS.iload X0.here hx rfl (hb hby at_13) rfl ?_
      show Steps p.tables e below (s₁.setTop (mkF m 15 #[.val (.int p1), .val (.int p2), .val (.int p3), .val (.int p4), .val (.int (0 : Int32)), .unset, .unset, .unset, .unset, .unset, .unset] [(.int (0 : Int32))])) _
      refine XS.ifYes X0.here hx rfl (pc0 := 15) (pc' := 56) rfl (hb hby at_15) rfl ((if0 _ _).trans (teq (by decide : (0 : Int32) = (0 : Int32))).1) (by decide) (by decide) ?_
      show Steps p.tables e below (s₁.setTop (mkF m 56 #[.val (.int p1), .val (.int p2), .val (.int p3), .val (.int p4), .val (.int (0 : Int32)), .unset, .unset, .unset, .unset, .unset, .unset] [])) _
      refine XS.iloadN X0.here hx rfl (hb hby at_56) rfl ?_
      show Steps p.tables e below (s₁.setTop (mkF m 57 #[.val (.int p1), .val (.int p2), .val (.int p3), .val (.int p4), .val (.int (0 : Int32)), .unset, .unset, .unset, .unset, .unset, .unset] [(.int p2)])) _
      refine X0.ldcInt hx hown (mvT hZ (hw _ (List.mem_of_getElem? (i := 0) rfl))) (g := (mkF m 57 #[.val (.int p1), .val (.int p2), .val (.int p3), .val (.int p4), .val (.int (0 : Int32)), .unset, .unset, .unset, .unset, .unset, .unset] [(.int p2)])) rfl (hb hby at_57) _ ?_
      show Steps p.tables e below (s₁.setTop (mkF m 59 #[.val (.int p1), .val (.int p2), .val (.int p3), .val (.int p4), .val (.int (0 : Int32)), .unset, .unset, .unset, .unset, .unset, .unset] [(.int (2147483647 : Int32)), (.int p2)])) _
      refine XS.iand X0.here hx rfl (hb hby at_59) rfl ?_
      show Steps p.tables e below (s₁.setTop (mkF m 60 #[.val (.int p1), .val (.int p2), .val (.int p3), .val (.int p4), .val (.int (0 : Int32)), .unset, .unset, .unset, .unset, .unset, .unset] [(.int (p2 &&& (2147483647 : Int32)))])) _
      refine XS.sipush X0.here hx rfl (hb hby at_60) ?_
      show Steps p.tables e below (s₁.setTop (mkF m 63 #[.val (.int p1), .val (.int p2), .val (.int p3), .val (.int p4), .val (.int (0 : Int32)), .unset, .unset, .unset, .unset, .unset, .unset] [(.int (21474 : Int32)), (.int (p2 &&& (2147483647 : Int32)))])) _
      refine iremM X0 hx rfl (hb hby at_63) rfl (by decide) ?_
      show Steps p.tables e below (s₁.setTop (mkF m 64 #[.val (.int p1), .val (.int p2), .val (.int p3), .val (.int p4), .val (.int (0 : Int32)), .unset, .unset, .unset, .unset, .unset, .unset] [(.int ((p2 &&& (2147483647 : Int32)) % (21474 : Int32)))])) _
      refine XS.iconst X0.here hx rfl (hb hby at_64) ?_
      show Steps p.tables e below (s₁.setTop (mkF m 65 #[.val (.int p1), .val (.int p2), .val (.int p3), .val (.int p4), .val (.int (0 : Int32)), .unset, .unset, .unset, .unset, .unset, .unset] [(.int (1 : Int32)), (.int ((p2 &&& (2147483647 : Int32)) % (21474 : Int32)))])) _
      refine XS.iadd X0.here hx rfl (hb hby at_65) rfl ?_
      show Steps p.tables e below (s₁.setTop (mkF m 66 #[.val (.int p1), .val (.int p2), .val (.int p3), .val (.int p4), .val (.int (0 : Int32)), .unset, .unset, .unset, .unset, .unset, .unset] [(.int (((p2 &&& (2147483647 : Int32)) % (21474 : Int32)) + (1 : Int32)))])) _
      refine XS.istore X0.here hx rfl (hb hby at_66) rfl (l' := #[.val (.int p1), .val (.int p2), .val (.int p3), .val (.int p4), .val (.int (0 : Int32)), .val (.int (((p2 &&& (2147483647 : Int32)) % (21474 : Int32)) + (1 : Int32))), .unset, .unset, .unset, .unset, .unset]) rfl ?_
      exact k
    obtain ⟨c5, hc5⟩ : ∃ z, z = (((p2 &&& (2147483647 : Int32)) % (21474 : Int32)) + (1 : Int32)) := ⟨_, rfl⟩
    rw [← hc5] at pr_3
    have pr_4 : ∀ t, Steps p.tables e below (s₁.setTop (mkF m 75 #[.val (.int p1), .val (.int p2), .val (.int p3), .val (.int p4), .val (.int (0 : Int32)), .val (.int c5), .val (.int (c5 * (100000 : Int32))), .unset, .unset, .unset, .unset] [])) t → Steps p.tables e below (s₁.setTop (entryFrame m #[(.int p1), (.int p2), (.int p3), (.int p4)] maxLocals)) t := fun t k => by
      refine pr_3 _ ?_
      show Steps p.tables e below (s₁.setTop (mkF m 68 #[.val (.int p1), .val (.int p2), .val (.int p3), .val (.int p4), .val (.int (0 : Int32)), .val (.int c5), .unset, .unset, .unset, .unset, .unset] [])) _
      refine XS.iload X0.here hx rfl (hb hby at_68) rfl ?_
      show Steps p.tables e below (s₁.setTop (mkF m 70 #[.val (.int p1), .val (.int p2), .val (.int p3), .val (.int p4), .val (.int (0 : Int32)), .val (.int c5), .unset, .unset, .unset, .unset, .unset] [(.int c5)])) _
      refine X0.ldcInt hx hown (mvT hZ (hw _ (List.mem_of_getElem? (i := 1) rfl))) (g := (mkF m 70 #[.val (.int p1), .val (.int p2), .val (.int p3), .val (.int p4), .val (.int (0 : Int32)), .val (.int c5), .unset, .unset, .unset, .unset, .unset] [(.int c5)])) rfl (hb hby at_70) _ ?_
      show Steps p.tables e below (s₁.setTop (mkF m 72 #[.val (.int p1), .val (.int p2), .val (.int p3), .val (.int p4), .val (.int (0 : Int32)), .val (.int c5), .unset, .unset, .unset, .unset, .unset] [(.int (100000 : Int32)), (.int c5)])) _
      refine XS.imul X0.here hx rfl (hb hby at_72) rfl ?_
      show Steps p.tables e below (s₁.setTop (mkF m 73 #[.val (.int p1), .val (.int p2), .val (.int p3), .val (.int p4), .val (.int (0 : Int32)), .val (.int c5), .unset, .unset, .unset, .unset, .unset] [(.int (c5 * (100000 : Int32)))])) _
      refine XS.istore X0.here hx rfl (hb hby at_73) rfl (l' := #[.val (.int p1), .val (.int p2), .val (.int p3), .val (.int p4), .val (.int (0 : Int32)), .val (.int c5), .val (.int (c5 * (100000 : Int32))), .unset, .unset, .unset, .unset]) rfl ?_
      exact k
    obtain ⟨t6, ht6⟩ : ∃ z, z = (c5 * (100000 : Int32)) := ⟨_, rfl⟩
    rw [← ht6] at pr_4
    have pr_5 : ∀ t, Steps p.tables e below (s₁.setTop (mkF m 86 #[.val (.int p1), .val (.int p2), .val (.int p3), .val (.int p4), .val (.int (0 : Int32)), .val (.int c5), .val (.int t6), .val (.int ((p3 &&& (2147483647 : Int32)) % (t6 + (1 : Int32)))), .unset, .unset, .unset] [])) t → Steps p.tables e below (s₁.setTop (entryFrame m #[(.int p1), (.int p2), (.int p3), (.int p4)] maxLocals)) t := fun t k => by
      refine pr_4 _ ?_
      show Steps p.tables e below (s₁.setTop (mkF m 75 #[.val (.int p1), .val (.int p2), .val (.int p3), .val (.int p4), .val (.int (0 : Int32)), .val (.int c5), .val (.int t6), .unset, .unset, .unset, .unset] [])) _
      refine XS.iloadN X0.here hx rfl (hb hby at_75) rfl ?_
      show Steps p.tables e below (s₁.setTop (mkF m 76 #[.val (.int p1), .val (.int p2), .val (.int p3), .val (.int p4), .val (.int (0 : Int32)), .val (.int c5), .val (.int t6), .unset, .unset, .unset, .unset] [(.int p3)])) _
      refine X0.ldcInt hx hown (mvT hZ (hw _ (List.mem_of_getElem? (i := 0) rfl))) (g := (mkF m 76 #[.val (.int p1), .val (.int p2), .val (.int p3), .val (.int p4), .val (.int (0 : Int32)), .val (.int c5), .val (.int t6), .unset, .unset, .unset, .unset] [(.int p3)])) rfl (hb hby at_76) _ ?_
      show Steps p.tables e below (s₁.setTop (mkF m 78 #[.val (.int p1), .val (.int p2), .val (.int p3), .val (.int p4), .val (.int (0 : Int32)), .val (.int c5), .val (.int t6), .unset, .unset, .unset, .unset] [(.int (2147483647 : Int32)), (.int p3)])) _
      refine XS.iand X0.here hx rfl (hb hby at_78) rfl ?_
      show Steps p.tables e below (s₁.setTop (mkF m 79 #[.val (.int p1), .val (.int p2), .val (.int p3), .val (.int p4), .val (.int (0 : Int32)), .val (.int c5), .val (.int t6), .unset, .unset, .unset, .unset] [(.int (p3 &&& (2147483647 : Int32)))])) _
      refine XS.iload X0.here hx rfl (hb hby at_79) rfl ?_
      show Steps p.tables e below (s₁.setTop (mkF m 81 #[.val (.int p1), .val (.int p2), .val (.int p3), .val (.int p4), .val (.int (0 : Int32)), .val (.int c5), .val (.int t6), .unset, .unset, .unset, .unset] [(.int t6), (.int (p3 &&& (2147483647 : Int32)))])) _
      refine XS.iconst X0.here hx rfl (hb hby at_81) ?_
      show Steps p.tables e below (s₁.setTop (mkF m 82 #[.val (.int p1), .val (.int p2), .val (.int p3), .val (.int p4), .val (.int (0 : Int32)), .val (.int c5), .val (.int t6), .unset, .unset, .unset, .unset] [(.int (1 : Int32)), (.int t6), (.int (p3 &&& (2147483647 : Int32)))])) _
      refine XS.iadd X0.here hx rfl (hb hby at_82) rfl ?_
      show Steps p.tables e below (s₁.setTop (mkF m 83 #[.val (.int p1), .val (.int p2), .val (.int p3), .val (.int p4), .val (.int (0 : Int32)), .val (.int c5), .val (.int t6), .unset, .unset, .unset, .unset] [(.int (t6 + (1 : Int32))), (.int (p3 &&& (2147483647 : Int32)))])) _
      refine iremM X0 hx rfl (hb hby at_83) rfl (own_nz1 p2 c5 t6 hc5 ht6) ?_
      show Steps p.tables e below (s₁.setTop (mkF m 84 #[.val (.int p1), .val (.int p2), .val (.int p3), .val (.int p4), .val (.int (0 : Int32)), .val (.int c5), .val (.int t6), .unset, .unset, .unset, .unset] [(.int ((p3 &&& (2147483647 : Int32)) % (t6 + (1 : Int32))))])) _
      refine XS.istore X0.here hx rfl (hb hby at_84) rfl (l' := #[.val (.int p1), .val (.int p2), .val (.int p3), .val (.int p4), .val (.int (0 : Int32)), .val (.int c5), .val (.int t6), .val (.int ((p3 &&& (2147483647 : Int32)) % (t6 + (1 : Int32)))), .unset, .unset, .unset]) rfl ?_
      exact k
    obtain ⟨a7, ha7⟩ : ∃ z, z = ((p3 &&& (2147483647 : Int32)) % (t6 + (1 : Int32))) := ⟨_, rfl⟩
    rw [← ha7] at pr_5
    have pr_6 : ∀ t, Steps p.tables e below (s₁.setTop (mkF m 100 #[.val (.int p1), .val (.int p2), .val (.int p3), .val (.int p4), .val (.int (0 : Int32)), .val (.int c5), .val (.int t6), .val (.int a7), .val (.int ((p4 &&& (2147483647 : Int32)) % ((t6 - a7) + (1 : Int32)))), .unset, .unset] [])) t → Steps p.tables e below (s₁.setTop (entryFrame m #[(.int p1), (.int p2), (.int p3), (.int p4)] maxLocals)) t := fun t k => by
      refine pr_5 _ ?_
      show Steps p.tables e below (s₁.setTop (mkF m 86 #[.val (.int p1), .val (.int p2), .val (.int p3), .val (.int p4), .val (.int (0 : Int32)), .val (.int c5), .val (.int t6), .val (.int a7), .unset, .unset, .unset] [])) _
      refine XS.iloadN X0.here hx rfl (hb hby at_86) rfl ?_
      show Steps p.tables e below (s₁.setTop (mkF m 87 #[.val (.int p1), .val (.int p2), .val (.int p3), .val (.int p4), .val (.int (0 : Int32)), .val (.int c5), .val (.int t6), .val (.int a7), .unset, .unset, .unset] [(.int p4)])) _
      refine X0.ldcInt hx hown (mvT hZ (hw _ (List.mem_of_getElem? (i := 0) rfl))) (g := (mkF m 87 #[.val (.int p1), .val (.int p2), .val (.int p3), .val (.int p4), .val (.int (0 : Int32)), .val (.int c5), .val (.int t6), .val (.int a7), .unset, .unset, .unset] [(.int p4)])) rfl (hb hby at_87) _ ?_
      show Steps p.tables e below (s₁.setTop (mkF m 89 #[.val (.int p1), .val (.int p2), .val (.int p3), .val (.int p4), .val (.int (0 : Int32)), .val (.int c5), .val (.int t6), .val (.int a7), .unset, .unset, .unset] [(.int (2147483647 : Int32)), (.int p4)])) _
      refine XS.iand X0.here hx rfl (hb hby at_89) rfl ?_
      show Steps p.tables e below (s₁.setTop (mkF m 90 #[.val (.int p1), .val (.int p2), .val (.int p3), .val (.int p4), .val (.int (0 : Int32)), .val (.int c5), .val (.int t6), .val (.int a7), .unset, .unset, .unset] [(.int (p4 &&& (2147483647 : Int32)))])) _
      refine XS.iload X0.here hx rfl (hb hby at_90) rfl ?_
      show Steps p.tables e below (s₁.setTop (mkF m 92 #[.val (.int p1), .val (.int p2), .val (.int p3), .val (.int p4), .val (.int (0 : Int32)), .val (.int c5), .val (.int t6), .val (.int a7), .unset, .unset, .unset] [(.int t6), (.int (p4 &&& (2147483647 : Int32)))])) _
      refine XS.iload X0.here hx rfl (hb hby at_92) rfl ?_
      show Steps p.tables e below (s₁.setTop (mkF m 94 #[.val (.int p1), .val (.int p2), .val (.int p3), .val (.int p4), .val (.int (0 : Int32)), .val (.int c5), .val (.int t6), .val (.int a7), .unset, .unset, .unset] [(.int a7), (.int t6), (.int (p4 &&& (2147483647 : Int32)))])) _
      refine XS.isub X0.here hx rfl (hb hby at_94) rfl ?_
      show Steps p.tables e below (s₁.setTop (mkF m 95 #[.val (.int p1), .val (.int p2), .val (.int p3), .val (.int p4), .val (.int (0 : Int32)), .val (.int c5), .val (.int t6), .val (.int a7), .unset, .unset, .unset] [(.int (t6 - a7)), (.int (p4 &&& (2147483647 : Int32)))])) _
      refine XS.iconst X0.here hx rfl (hb hby at_95) ?_
      show Steps p.tables e below (s₁.setTop (mkF m 96 #[.val (.int p1), .val (.int p2), .val (.int p3), .val (.int p4), .val (.int (0 : Int32)), .val (.int c5), .val (.int t6), .val (.int a7), .unset, .unset, .unset] [(.int (1 : Int32)), (.int (t6 - a7)), (.int (p4 &&& (2147483647 : Int32)))])) _
      refine XS.iadd X0.here hx rfl (hb hby at_96) rfl ?_
      show Steps p.tables e below (s₁.setTop (mkF m 97 #[.val (.int p1), .val (.int p2), .val (.int p3), .val (.int p4), .val (.int (0 : Int32)), .val (.int c5), .val (.int t6), .val (.int a7), .unset, .unset, .unset] [(.int ((t6 - a7) + (1 : Int32))), (.int (p4 &&& (2147483647 : Int32)))])) _
      refine iremM X0 hx rfl (hb hby at_97) rfl (own_nz2 p2 p3 c5 t6 a7 hc5 ht6 ha7) ?_
      show Steps p.tables e below (s₁.setTop (mkF m 98 #[.val (.int p1), .val (.int p2), .val (.int p3), .val (.int p4), .val (.int (0 : Int32)), .val (.int c5), .val (.int t6), .val (.int a7), .unset, .unset, .unset] [(.int ((p4 &&& (2147483647 : Int32)) % ((t6 - a7) + (1 : Int32))))])) _
      refine XS.istore X0.here hx rfl (hb hby at_98) rfl (l' := #[.val (.int p1), .val (.int p2), .val (.int p3), .val (.int p4), .val (.int (0 : Int32)), .val (.int c5), .val (.int t6), .val (.int a7), .val (.int ((p4 &&& (2147483647 : Int32)) % ((t6 - a7) + (1 : Int32)))), .unset, .unset]) rfl ?_
      exact k
    obtain ⟨b8, hb8⟩ : ∃ z, z = ((p4 &&& (2147483647 : Int32)) % ((t6 - a7) + (1 : Int32))) := ⟨_, rfl⟩
    rw [← hb8] at pr_6
    have pr_7 : ∀ t, Steps p.tables e below (s₁.setTop (mkF m 110 #[.val (.int p1), .val (.int p2), .val (.int p3), .val (.int p4), .val (.int (0 : Int32)), .val (.int c5), .val (.int t6), .val (.int a7), .val (.int b8), .val (.int ((t6 - a7) - b8)), .unset] [])) t → Steps p.tables e below (s₁.setTop (entryFrame m #[(.int p1), (.int p2), (.int p3), (.int p4)] maxLocals)) t := fun t k => by
      refine pr_6 _ ?_
      show Steps p.tables e below (s₁.setTop (mkF m 100 #[.val (.int p1), .val (.int p2), .val (.int p3), .val (.int p4), .val (.int (0 : Int32)), .val (.int c5), .val (.int t6), .val (.int a7), .val (.int b8), .unset, .unset] [])) _
      refine XS.iload X0.here hx rfl (hb hby at_100) rfl ?_
      show Steps p.tables e below (s₁.setTop (mkF m 102 #[.val (.int p1), .val (.int p2), .val (.int p3), .val (.int p4), .val (.int (0 : Int32)), .val (.int c5), .val (.int t6), .val (.int a7), .val (.int b8), .unset, .unset] [(.int t6)])) _
      refine XS.iload X0.here hx rfl (hb hby at_102) rfl ?_
      show Steps p.tables e below (s₁.setTop (mkF m 104 #[.val (.int p1), .val (.int p2), .val (.int p3), .val (.int p4), .val (.int (0 : Int32)), .val (.int c5), .val (.int t6), .val (.int a7), .val (.int b8), .unset, .unset] [(.int a7), (.int t6)])) _
      refine XS.isub X0.here hx rfl (hb hby at_104) rfl ?_
      show Steps p.tables e below (s₁.setTop (mkF m 105 #[.val (.int p1), .val (.int p2), .val (.int p3), .val (.int p4), .val (.int (0 : Int32)), .val (.int c5), .val (.int t6), .val (.int a7), .val (.int b8), .unset, .unset] [(.int (t6 - a7))])) _
      refine XS.iload X0.here hx rfl (hb hby at_105) rfl ?_
      show Steps p.tables e below (s₁.setTop (mkF m 107 #[.val (.int p1), .val (.int p2), .val (.int p3), .val (.int p4), .val (.int (0 : Int32)), .val (.int c5), .val (.int t6), .val (.int a7), .val (.int b8), .unset, .unset] [(.int b8), (.int (t6 - a7))])) _
      refine XS.isub X0.here hx rfl (hb hby at_107) rfl ?_
      show Steps p.tables e below (s₁.setTop (mkF m 108 #[.val (.int p1), .val (.int p2), .val (.int p3), .val (.int p4), .val (.int (0 : Int32)), .val (.int c5), .val (.int t6), .val (.int a7), .val (.int b8), .unset, .unset] [(.int ((t6 - a7) - b8))])) _
      refine XS.istore X0.here hx rfl (hb hby at_108) rfl (l' := #[.val (.int p1), .val (.int p2), .val (.int p3), .val (.int p4), .val (.int (0 : Int32)), .val (.int c5), .val (.int t6), .val (.int a7), .val (.int b8), .val (.int ((t6 - a7) - b8)), .unset]) rfl ?_
      exact k
    obtain ⟨r9, hr9⟩ : ∃ z, z = ((t6 - a7) - b8) := ⟨_, rfl⟩
    rw [← hr9] at pr_7
    obtain ⟨v1, v2, v3, v4, v5⟩ := own_small p2 p3 p4 c5 t6 a7 b8 r9 hc5 ht6 ha7 hb8 hr9
    obtain ⟨T_8, h_8, X_8, e_8, E_8, A_8, D_8, -, st_8⟩ := newO X0 hx hZ hown (hw _ (List.mem_of_getElem? (i := 2) rfl)) (hw _ (List.mem_of_getElem? (i := 3) rfl)) (hw _ (List.mem_of_getElem? (i := 4) rfl)) e0 (g := (mkF m 110 #[.val (.int p1), .val (.int p2), .val (.int p3), .val (.int p4), .val (.int (0 : Int32)), .val (.int c5), .val (.int t6), .val (.int a7), .val (.int b8), .val (.int r9), .unset] [])) rfl (hb hby at_110) (by decide) (by decide)
    obtain ⟨b_8, g_8⟩ : ∃ z, z = h0.size := ⟨_, rfl⟩
    rw [← g_8] at A_8 D_8 st_8
    have g_b_8 : n0 ≤ b_8 := Nat.le_trans Z0 (Nat.le_of_eq g_8.symm)
    have sz_b_8 : h0.size ≤ b_8 := Nat.le_trans ((Keep.refl h0 [])).1 (Nat.le_of_eq g_8.symm)
    have Z_8 : n0 ≤ h_8.size := Nat.le_trans Z0 E_8.1
    have K_8 : Keep h0 h_8 [] := (Keep.refl h0 []).ext E_8
    have fd_8_12 : Fld Z h_8 b_8 "portcullis/check/PatternBudget" "checks" "I" (.int (0 : Int32)) := D_8 (Or.inr (hw _ (List.mem_of_getElem? (i := 12) rfl))) (ty := .int) (by decide)
    have fd_8_15 : Fld Z h_8 b_8 "portcullis/check/PatternBudget" "stepsLeft" "J" (.long (0 : Int64)) := D_8 (Or.inl (hw _ (List.mem_of_getElem? (i := 15) rfl))) (ty := .long) (by decide)
    have fd_8_31 : Fld Z h_8 b_8 "portcullis/check/PatternBudget" "room" "Lportcullis/check/PatternAutomaton$Room;" .null := D_8 (Or.inr (hw _ (List.mem_of_getElem? (i := 31) rfl))) (ty := (.object "portcullis/check/PatternAutomaton$Room")) (by decide)
    obtain ⟨_, _, ⟨T_9, L_9, k_9, n_9⟩, -, X_9, ⟨Lc_9, hQ_9, l_9, y_9, z_9⟩, st_9⟩ := X_8.specialBack hx (y := (⟨"portcullis/check/PatternBudget", "<init>", "(I)V"⟩ : MethodName)) rfl hown (mvT hZ (hw _ (List.mem_of_getElem? (i := 5) rfl))) (mvT hZ (hw _ (List.mem_of_getElem? (i := 6) rfl))) (mvT hZ (hw _ (List.mem_of_getElem? (i := 7) rfl))) (by decide) (backOf (W := 1) (rm1 l Z a0 hw [] b_8 c5 h_8 n0 Z_8 g_b_8 A_8 fd_8_12 fd_8_15 fd_8_31 v1) hZ (hw _ (List.mem_of_getElem? (i := 7) rfl)) (hw _ (List.mem_of_getElem? (i := 4) rfl)) (by decide) (by decide)) (g := (mkF m 116 #[.val (.int p1), .val (.int p2), .val (.int p3), .val (.int p4), .val (.int (0 : Int32)), .val (.int c5), .val (.int t6), .val (.int a7), .val (.int b8), .val (.int r9), .unset] [(.int c5), (.ref b_8), (.ref b_8)])) rfl (by rw [hml]; rfl) (Steps.refl _) (a := b_8) (argsL := [(.int c5)]) (rest := [(.ref b_8)]) (lenOf pd_2 rfl) rfl (by show 2 * 0 + _ ≤ _; exact Nat.le_of_eq rfl) (hb hby at_116) (fun _ _ => ⟨rfl, e_8, (by decide : 1 + 1 ≤ _), (by decide : 3 + 3 ≤ _)⟩)
    dsimp only [Pt.U, Pt.locs, Pt.cells, Pt.slots] at X_9 l_9 y_9 z_9 st_9 hQ_9
    subst l_9 y_9 z_9
    obtain ⟨rfl, N_9q, Kc_9, o_9_0, o_9_1⟩ := hQ_9
    have f_9_0 : Exa Z T_9.heap b_8 "portcullis/check/PatternBudget" := A_8.keep Kc_9
    have Z_9 : n0 ≤ T_9.heap.size := Nat.le_trans Z_8 Kc_9.1
    have K_9 : Keep h0 T_9.heap [] := K_8.trans Kc_9 (fun x hx => by cases List.mem_singleton.mp hx; exact Or.inr sz_b_8)
    have N_9 := Fr.app N0 N_9q
    obtain ⟨cq_10, kq_10, q_10a, q_10b, q_10c⟩ := isOf hZ rfl o_9_0
    obtain ⟨_, _, ⟨T_10, L_10, k_10, n_10⟩, -, X_10, ⟨Lc_10, hQ_10, l_10, y_10, z_10⟩, st_10⟩ := X_9.virtualBack hx (y := (⟨"portcullis/check/PatternBudget", "take", "(I)V"⟩ : MethodName)) (z := (⟨"portcullis/check/PatternBudget", "take", "(I)V"⟩ : MethodName)) hown (mvT hZ (hw _ (List.mem_of_getElem? (i := 32) rfl))) (mvT hZ (hw _ (List.mem_of_getElem? (i := 33) rfl))) (notFace_of_selects (args := #[]) (mvT hZ (hw _ (List.mem_of_getElem? (i := 35) rfl)))) (mvT hZ (hw _ (List.mem_of_getElem? (i := 35) rfl))) (mvT hZ (hw _ (List.mem_of_getElem? (i := 34) rfl))) (by decide) (backOf (W := 0) (rm4 l Z a0 hw [] b_8 a7 ((c5.toInt64) * (100000 : Int64)) T_9.heap n0 Z_9 g_b_8 o_9_0 o_9_1 v2) hZ (hw _ (List.mem_of_getElem? (i := 36) rfl)) (hw _ (List.mem_of_getElem? (i := 4) rfl)) (by decide) (by decide)) q_10a q_10c (g := (mkF m 125 #[.val (.int p1), .val (.int p2), .val (.int p3), .val (.int p4), .val (.int (0 : Int32)), .val (.int c5), .val (.int t6), .val (.int a7), .val (.int b8), .val (.int r9), .val (.ref b_8)] [(.int a7), (.ref b_8)])) rfl (by rw [hml]; rfl) (Steps.refl _) (argsL := [(.int a7)]) (rest := []) (lenOf pd_2 rfl) rfl (by show 2 * 0 + _ ≤ _; exact Nat.le_of_eq rfl) (hb hby at_125) (fun _ _ => ⟨rfl, rfl, (by decide : 2 + 0 ≤ _), (by decide : 6 + 0 ≤ _)⟩)
    dsimp only [Pt.U, Pt.locs, Pt.cells, Pt.slots] at X_10 l_10 y_10 z_10 st_10 hQ_10
    subst l_10 y_10 z_10
    obtain ⟨rfl, N_10q, Kc_10, o_10_0, o_10_1⟩ := hQ_10
    have f_10_0 : Exa Z T_10.heap b_8 "portcullis/check/PatternBudget" := o_9_0.keep Kc_10
    have Z_10 : n0 ≤ T_10.heap.size := Nat.le_trans Z_9 Kc_10.1
    have K_10 : Keep h0 T_10.heap [] := K_9.trans Kc_10 (fun x hx => by cases List.mem_singleton.mp hx; exact Or.inr sz_b_8)
    have N_10 := Fr.app N_9 N_10q
    obtain ⟨cq_11, kq_11, q_11a, q_11b, q_11c⟩ := isOf hZ rfl o_10_0
    obtain ⟨_, _, ⟨T_11, L_11, k_11, n_11⟩, -, X_11, ⟨Lc_11, hQ_11, l_11, y_11, z_11⟩, st_11⟩ := X_10.virtualBack hx (y := (⟨"portcullis/check/PatternBudget", "take", "(I)V"⟩ : MethodName)) (z := (⟨"portcullis/check/PatternBudget", "take", "(I)V"⟩ : MethodName)) hown (mvT hZ (hw _ (List.mem_of_getElem? (i := 32) rfl))) (mvT hZ (hw _ (List.mem_of_getElem? (i := 33) rfl))) (notFace_of_selects (args := #[]) (mvT hZ (hw _ (List.mem_of_getElem? (i := 35) rfl)))) (mvT hZ (hw _ (List.mem_of_getElem? (i := 35) rfl))) (mvT hZ (hw _ (List.mem_of_getElem? (i := 34) rfl))) (by decide) (backOf (W := 0) (rm4 l Z a0 hw [] b_8 b8 (((c5.toInt64) * (100000 : Int64)) - (a7.toInt64)) T_10.heap n0 Z_10 g_b_8 o_10_0 o_10_1 v3) hZ (hw _ (List.mem_of_getElem? (i := 36) rfl)) (hw _ (List.mem_of_getElem? (i := 4) rfl)) (by decide) (by decide)) q_11a q_11c (g := (mkF m 132 #[.val (.int p1), .val (.int p2), .val (.int p3), .val (.int p4), .val (.int (0 : Int32)), .val (.int c5), .val (.int t6), .val (.int a7), .val (.int b8), .val (.int r9), .val (.ref b_8)] [(.int b8), (.ref b_8)])) rfl (by rw [hml]; rfl) (Steps.refl _) (argsL := [(.int b8)]) (rest := []) (lenOf pd_2 rfl) rfl (by show 2 * 0 + _ ≤ _; exact Nat.le_of_eq rfl) (hb hby at_132) (fun _ _ => ⟨rfl, rfl, (by decide : 2 + 0 ≤ _), (by decide : 6 + 0 ≤ _)⟩)
    dsimp only [Pt.U, Pt.locs, Pt.cells, Pt.slots] at X_11 l_11 y_11 z_11 st_11 hQ_11
    subst l_11 y_11 z_11
    obtain ⟨rfl, N_11q, Kc_11, o_11_0, o_11_1⟩ := hQ_11
    have f_11_0 : Exa Z T_11.heap b_8 "portcullis/check/PatternBudget" := o_10_0.keep Kc_11
    have Z_11 : n0 ≤ T_11.heap.size := Nat.le_trans Z_10 Kc_11.1
    have K_11 : Keep h0 T_11.heap [] := K_10.trans Kc_11 (fun x hx => by cases List.mem_singleton.mp hx; exact Or.inr sz_b_8)
    have N_11 := Fr.app N_10 N_11q
    obtain ⟨cq_12, kq_12, q_12a, q_12b, q_12c⟩ := isOf hZ rfl o_11_0
    obtain ⟨_, _, ⟨T_12, L_12, k_12, n_12⟩, -, X_12, ⟨Lc_12, hQ_12, l_12, y_12, z_12⟩, st_12⟩ := X_11.virtualBack hx (y := (⟨"portcullis/check/PatternBudget", "take", "(I)V"⟩ : MethodName)) (z := (⟨"portcullis/check/PatternBudget", "take", "(I)V"⟩ : MethodName)) hown (mvT hZ (hw _ (List.mem_of_getElem? (i := 32) rfl))) (mvT hZ (hw _ (List.mem_of_getElem? (i := 33) rfl))) (notFace_of_selects (args := #[]) (mvT hZ (hw _ (List.mem_of_getElem? (i := 35) rfl)))) (mvT hZ (hw _ (List.mem_of_getElem? (i := 35) rfl))) (mvT hZ (hw _ (List.mem_of_getElem? (i := 34) rfl))) (by decide) (backOf (W := 0) (rm4 l Z a0 hw [] b_8 r9 ((((c5.toInt64) * (100000 : Int64)) - (a7.toInt64)) - (b8.toInt64)) T_11.heap n0 Z_11 g_b_8 o_11_0 o_11_1 v4) hZ (hw _ (List.mem_of_getElem? (i := 36) rfl)) (hw _ (List.mem_of_getElem? (i := 4) rfl)) (by decide) (by decide)) q_12a q_12c (g := (mkF m 139 #[.val (.int p1), .val (.int p2), .val (.int p3), .val (.int p4), .val (.int (0 : Int32)), .val (.int c5), .val (.int t6), .val (.int a7), .val (.int b8), .val (.int r9), .val (.ref b_8)] [(.int r9), (.ref b_8)])) rfl (by rw [hml]; rfl) (Steps.refl _) (argsL := [(.int r9)]) (rest := []) (lenOf pd_2 rfl) rfl (by show 2 * 0 + _ ≤ _; exact Nat.le_of_eq rfl) (hb hby at_139) (fun _ _ => ⟨rfl, rfl, (by decide : 2 + 0 ≤ _), (by decide : 6 + 0 ≤ _)⟩)
    dsimp only [Pt.U, Pt.locs, Pt.cells, Pt.slots] at X_12 l_12 y_12 z_12 st_12 hQ_12
    subst l_12 y_12 z_12
    obtain ⟨rfl, N_12q, Kc_12, o_12_0, o_12_1⟩ := hQ_12
    have f_12_0 : Exa Z T_12.heap b_8 "portcullis/check/PatternBudget" := o_11_0.keep Kc_12
    have Z_12 : n0 ≤ T_12.heap.size := Nat.le_trans Z_11 Kc_12.1
    have K_12 : Keep h0 T_12.heap [] := K_11.trans Kc_12 (fun x hx => by cases List.mem_singleton.mp hx; exact Or.inr sz_b_8)
    have N_12 := Fr.app N_11 N_12q
    obtain ⟨cq_13, kq_13, q_13a, q_13b, q_13c⟩ := isOf hZ rfl o_12_0
    obtain ⟨_, _, ⟨T_13, L_13, k_13, n_13⟩, -, X_13, ⟨Lc_13, hQ_13, l_13, y_13, z_13⟩, st_13⟩ := X_12.virtualBack hx (y := (⟨"portcullis/check/PatternBudget", "take", "(I)V"⟩ : MethodName)) (z := (⟨"portcullis/check/PatternBudget", "take", "(I)V"⟩ : MethodName)) hown (mvT hZ (hw _ (List.mem_of_getElem? (i := 32) rfl))) (mvT hZ (hw _ (List.mem_of_getElem? (i := 33) rfl))) (notFace_of_selects (args := #[]) (mvT hZ (hw _ (List.mem_of_getElem? (i := 35) rfl)))) (mvT hZ (hw _ (List.mem_of_getElem? (i := 35) rfl))) (mvT hZ (hw _ (List.mem_of_getElem? (i := 34) rfl))) (by decide) (backOf (W := 0) (rm4 l Z a0 hw [] b_8 (0 : Int32) (((((c5.toInt64) * (100000 : Int64)) - (a7.toInt64)) - (b8.toInt64)) - (r9.toInt64)) T_12.heap n0 Z_12 g_b_8 o_12_0 o_12_1 v5) hZ (hw _ (List.mem_of_getElem? (i := 36) rfl)) (hw _ (List.mem_of_getElem? (i := 4) rfl)) (by decide) (by decide)) q_13a q_13c (g := (mkF m 145 #[.val (.int p1), .val (.int p2), .val (.int p3), .val (.int p4), .val (.int (0 : Int32)), .val (.int c5), .val (.int t6), .val (.int a7), .val (.int b8), .val (.int r9), .val (.ref b_8)] [(.int (0 : Int32)), (.ref b_8)])) rfl (by rw [hml]; rfl) (Steps.refl _) (argsL := [(.int (0 : Int32))]) (rest := []) (lenOf pd_2 rfl) rfl (by show 2 * 0 + _ ≤ _; exact Nat.le_of_eq rfl) (hb hby at_145) (fun _ _ => ⟨rfl, rfl, (by decide : 2 + 0 ≤ _), (by decide : 6 + 0 ≤ _)⟩)
    dsimp only [Pt.U, Pt.locs, Pt.cells, Pt.slots] at X_13 l_13 y_13 z_13 st_13 hQ_13
    subst l_13 y_13 z_13
    obtain ⟨rfl, N_13q, Kc_13, o_13_0, o_13_1⟩ := hQ_13
    have f_13_0 : Exa Z T_13.heap b_8 "portcullis/check/PatternBudget" := o_12_0.keep Kc_13
    have Z_13 : n0 ≤ T_13.heap.size := Nat.le_trans Z_12 Kc_13.1
    have K_13 : Keep h0 T_13.heap [] := K_12.trans Kc_13 (fun x hx => by cases List.mem_singleton.mp hx; exact Or.inr sz_b_8)
    have N_13 := Fr.app N_12 N_13q
    obtain ⟨fs, hr, hrun, hended, hW, hsame⟩ := X_13.leave (v := some (.int (1 : Int32))) (fun h => by rw [Bd.returns] at h; cases h)
    refine ⟨_, _, pr_7 _ ?_, hrun, hended, _, _, rfl, ?_, ⟨_, rfl⟩, hW, hsame.mono (by decide) (by decide)⟩
    · show Steps p.tables e below (s₁.setTop (mkF m 110 #[.val (.int p1), .val (.int p2), .val (.int p3), .val (.int p4), .val (.int (0 : Int32)), .val (.int c5), .val (.int t6), .val (.int a7), .val (.int b8), .val (.int r9), .unset] [])) _
      refine st_8 _ ?_
      show Steps p.tables e below (T_8.setTop (mkF m 113 #[.val (.int p1), .val (.int p2), .val (.int p3), .val (.int p4), .val (.int (0 : Int32)), .val (.int c5), .val (.int t6), .val (.int a7), .val (.int b8), .val (.int r9), .unset] [(.ref b_8)])) _
      refine XS.dup X_8.here hx rfl (hb hby at_113) rfl rfl ?_
      show Steps p.tables e below (T_8.setTop (mkF m 114 #[.val (.int p1), .val (.int p2), .val (.int p3), .val (.int p4), .val (.int (0 : Int32)), .val (.int c5), .val (.int t6), .val (.int a7), .val (.int b8), .val (.int r9), .unset] [(.ref b_8), (.ref b_8)])) _
      refine XS.iload X_8.here hx rfl (hb hby at_114) rfl ?_
      show Steps p.tables e below (T_8.setTop (mkF m 116 #[.val (.int p1), .val (.int p2), .val (.int p3), .val (.int p4), .val (.int (0 : Int32)), .val (.int c5), .val (.int t6), .val (.int a7), .val (.int b8), .val (.int r9), .unset] [(.int c5), (.ref b_8), (.ref b_8)])) _
      refine st_9.trans ?_
      show Steps p.tables e below (T_9.setTop (mkF m 119 #[.val (.int p1), .val (.int p2), .val (.int p3), .val (.int p4), .val (.int (0 : Int32)), .val (.int c5), .val (.int t6), .val (.int a7), .val (.int b8), .val (.int r9), .unset] [(.ref b_8)])) _
      refine XS.astore X_9.here hx rfl (hb hby at_119) rfl rfl (l' := #[.val (.int p1), .val (.int p2), .val (.int p3), .val (.int p4), .val (.int (0 : Int32)), .val (.int c5), .val (.int t6), .val (.int a7), .val (.int b8), .val (.int r9), .val (.ref b_8)]) rfl ?_
      show Steps p.tables e below (T_9.setTop (mkF m 121 #[.val (.int p1), .val (.int p2), .val (.int p3), .val (.int p4), .val (.int (0 : Int32)), .val (.int c5), .val (.int t6), .val (.int a7), .val (.int b8), .val (.int r9), .val (.ref b_8)] [])) _
      refine XS.aload X_9.here hx rfl (hb hby at_121) rfl rfl ?_
      show Steps p.tables e below (T_9.setTop (mkF m 123 #[.val (.int p1), .val (.int p2), .val (.int p3), .val (.int p4), .val (.int (0 : Int32)), .val (.int c5), .val (.int t6), .val (.int a7), .val (.int b8), .val (.int r9), .val (.ref b_8)] [(.ref b_8)])) _
      refine XS.iload X_9.here hx rfl (hb hby at_123) rfl ?_
      show Steps p.tables e below (T_9.setTop (mkF m 125 #[.val (.int p1), .val (.int p2), .val (.int p3), .val (.int p4), .val (.int (0 : Int32)), .val (.int c5), .val (.int t6), .val (.int a7), .val (.int b8), .val (.int r9), .val (.ref b_8)] [(.int a7), (.ref b_8)])) _
      refine st_10.trans ?_
      show Steps p.tables e below (T_10.setTop (mkF m 128 #[.val (.int p1), .val (.int p2), .val (.int p3), .val (.int p4), .val (.int (0 : Int32)), .val (.int c5), .val (.int t6), .val (.int a7), .val (.int b8), .val (.int r9), .val (.ref b_8)] [])) _
      refine XS.aload X_10.here hx rfl (hb hby at_128) rfl rfl ?_
      show Steps p.tables e below (T_10.setTop (mkF m 130 #[.val (.int p1), .val (.int p2), .val (.int p3), .val (.int p4), .val (.int (0 : Int32)), .val (.int c5), .val (.int t6), .val (.int a7), .val (.int b8), .val (.int r9), .val (.ref b_8)] [(.ref b_8)])) _
      refine XS.iload X_10.here hx rfl (hb hby at_130) rfl ?_
      show Steps p.tables e below (T_10.setTop (mkF m 132 #[.val (.int p1), .val (.int p2), .val (.int p3), .val (.int p4), .val (.int (0 : Int32)), .val (.int c5), .val (.int t6), .val (.int a7), .val (.int b8), .val (.int r9), .val (.ref b_8)] [(.int b8), (.ref b_8)])) _
      refine st_11.trans ?_
      show Steps p.tables e below (T_11.setTop (mkF m 135 #[.val (.int p1), .val (.int p2), .val (.int p3), .val (.int p4), .val (.int (0 : Int32)), .val (.int c5), .val (.int t6), .val (.int a7), .val (.int b8), .val (.int r9), .val (.ref b_8)] [])) _
      refine XS.aload X_11.here hx rfl (hb hby at_135) rfl rfl ?_
      show Steps p.tables e below (T_11.setTop (mkF m 137 #[.val (.int p1), .val (.int p2), .val (.int p3), .val (.int p4), .val (.int (0 : Int32)), .val (.int c5), .val (.int t6), .val (.int a7), .val (.int b8), .val (.int r9), .val (.ref b_8)] [(.ref b_8)])) _
      refine XS.iload X_11.here hx rfl (hb hby at_137) rfl ?_
      show Steps p.tables e below (T_11.setTop (mkF m 139 #[.val (.int p1), .val (.int p2), .val (.int p3), .val (.int p4), .val (.int (0 : Int32)), .val (.int c5), .val (.int t6), .val (.int a7), .val (.int b8), .val (.int r9), .val (.ref b_8)] [(.int r9), (.ref b_8)])) _
      refine st_12.trans ?_
      show Steps p.tables e below (T_12.setTop (mkF m 142 #[.val (.int p1), .val (.int p2), .val (.int p3), .val (.int p4), .val (.int (0 : Int32)), .val (.int c5), .val (.int t6), .val (.int a7), .val (.int b8), .val (.int r9), .val (.ref b_8)] [])) _
      refine XS.aload X_12.here hx rfl (hb hby at_142) rfl rfl ?_
      show Steps p.tables e below (T_12.setTop (mkF m 144 #[.val (.int p1), .val (.int p2), .val (.int p3), .val (.int p4), .val (.int (0 : Int32)), .val (.int c5), .val (.int t6), .val (.int a7), .val (.int b8), .val (.int r9), .val (.ref b_8)] [(.ref b_8)])) _
      refine XS.iconst X_12.here hx rfl (hb hby at_144) ?_
      show Steps p.tables e below (T_12.setTop (mkF m 145 #[.val (.int p1), .val (.int p2), .val (.int p3), .val (.int p4), .val (.int (0 : Int32)), .val (.int c5), .val (.int t6), .val (.int a7), .val (.int b8), .val (.int r9), .val (.ref b_8)] [(.int (0 : Int32)), (.ref b_8)])) _
      refine st_13.trans ?_
      show Steps p.tables e below (T_13.setTop (mkF m 148 #[.val (.int p1), .val (.int p2), .val (.int p3), .val (.int p4), .val (.int (0 : Int32)), .val (.int c5), .val (.int t6), .val (.int a7), .val (.int b8), .val (.int r9), .val (.ref b_8)] [])) _
      refine XS.iconst X_13.here hx rfl (hb hby at_148) ?_
      show Steps p.tables e below (T_13.setTop (mkF m 149 #[.val (.int p1), .val (.int p2), .val (.int p3), .val (.int p4), .val (.int (0 : Int32)), .val (.int c5), .val (.int t6), .val (.int a7), .val (.int b8), .val (.int r9), .val (.ref b_8)] [(.int (1 : Int32))])) _
      exact retN X_13 hx (t := .boolean) Bd.returns (by simp) (hb hby at_149) hr
    · exact ⟨rfl, N_13⟩
  · have pr_14 : ∀ t, Steps p.tables e below (s₁.setTop (mkF m 28 #[.val (.int p1), .val (.int p2), .val (.int p3), .val (.int p4), .val (.int (1 : Int32)), .val (.int ((21475 : Int32) + (p2 &&& (1073741823 : Int32)))), .unset, .unset, .unset, .unset, .unset] [])) t → Steps p.tables e below (s₁.setTop (entryFrame m #[(.int p1), (.int p2), (.int p3), (.int p4)] maxLocals)) t := fun t k => by
      refine pr_1 _ ?_
      show Steps p.tables e below (s₁.setTop (mkF m 3 #[.val (.int p1), .val (.int p2), .val (.int p3), .val (.int p4), .unset, .unset, .unset, .unset, .unset, .unset, .unset] [(.int (p1 &&& (1 : Int32)))])) _
      refine XS.ifNo X0.here hx rfl (hb hby at_3) rfl ((if0 _ _).trans (feq hc_2).1) ?_
      show Steps p.tables e below (s₁.setTop (mkF m 6 #[.val (.int p1), .val (.int p2), .val (.int p3), .val (.int p4), .unset, .unset, .unset, .unset, .unset, .unset, .unset] [])) _
      refine XS.iconst X0.here hx rfl (hb hby at_6) ?_
      show Steps p.tables e below (s₁.setTop (mkF m 7 #[.val (.int p1), .val (.int p2), .val (.int p3), .val (.int p4), .unset, .unset, .unset, .unset, .unset, .unset, .unset] [(.int (1 : Int32))])) _
      refine XS.goto X0.here hx rfl (pc0 := 7) (pc' := 11) rfl (hb hby at_7) (by decide) (by decide) ?_
      show Steps p.tables e below (s₁.setTop (mkF m 11 #[.val (.int p1), .val (.int p2), .val (.int p3), .val (.int p4), .unset, .unset, .unset, .unset, .unset, .unset, .unset] [(.int (1 : Int32))])) _
      refine XS.istore X0.here hx rfl (hb hby at_11) rfl (l' := #[.val (.int p1), .val (.int p2), .val (.int p3), .val (.int p4), .val (.int (1 : Int32)), .unset, .unset, .unset, .unset, .unset, .unset]) rfl ?_
      show Steps p.tables e below (s₁.setTop (mkF m 13 #[.val (.int p1), .val (.int p2), .val (.int p3), .val (.int p4), .val (.int (1 : Int32)), .unset, .unset, .unset, .unset, .unset, .unset] [])) _
      refine XS.iload X0.here hx rfl (hb hby at_13) rfl ?_
      show Steps p.tables e below (s₁.setTop (mkF m 15 #[.val (.int p1), .val (.int p2), .val (.int p3), .val (.int p4), .val (.int (1 : Int32)), .unset, .unset, .unset, .unset, .unset, .unset] [(.int (1 : Int32))])) _
      refine XS.ifNo X0.here hx rfl (hb hby at_15) rfl ((if0 _ _).trans (feq (by decide : ¬ ((1 : Int32) = (0 : Int32)))).1) ?_
      show Steps p.tables e below (s₁.setTop (mkF m 18 #[.val (.int p1), .val (.int p2), .val (.int p3), .val (.int p4), .val (.int (1 : Int32)), .unset, .unset, .unset, .unset, .unset, .unset] [])) _
      refine XS.sipush X0.here hx rfl (hb hby at_18) ?_
      show Steps p.tables e below (s₁.setTop (mkF m 21 #[.val (.int p1), .val (.int p2), .val (.int p3), .val (.int p4), .val (.int (1 : Int32)), .unset, .unset, .unset, .unset, .unset, .unset] [(.int (21475 : Int32))])) _
      refine XS.iloadN X0.here hx rfl (hb hby at_21) rfl ?_
      show Steps p.tables e below (s₁.setTop (mkF m 22 #[.val (.int p1), .val (.int p2), .val (.int p3), .val (.int p4), .val (.int (1 : Int32)), .unset, .unset, .unset, .unset, .unset, .unset] [(.int p2), (.int (21475 : Int32))])) _
      refine X0.ldcInt hx hown (mvT hZ (hw _ (List.mem_of_getElem? (i := 37) rfl))) (g := (mkF m 22 #[.val (.int p1), .val (.int p2), .val (.int p3), .val (.int p4), .val (.int (1 : Int32)), .unset, .unset, .unset, .unset, .unset, .unset] [(.int p2), (.int (21475 : Int32))])) rfl (hb hby at_22) _ ?_
      show Steps p.tables e below (s₁.setTop (mkF m 24 #[.val (.int p1), .val (.int p2), .val (.int p3), .val (.int p4), .val (.int (1 : Int32)), .unset, .unset, .unset, .unset, .unset, .unset] [(.int (1073741823 : Int32)), (.int p2), (.int (21475 : Int32))])) _
      refine XS.iand X0.here hx rfl (hb hby at_24) rfl ?_
      show Steps p.tables e below (s₁.setTop (mkF m 25 #[.val (.int p1), .val (.int p2), .val (.int p3), .val (.int p4), .val (.int (1 : Int32)), .unset, .unset, .unset, .unset, .unset, .unset] [(.int (p2 &&& (1073741823 : Int32))), (.int (21475 : Int32))])) _
      refine XS.iadd X0.here hx rfl (hb hby at_25) rfl ?_
      show Steps p.tables e below (s₁.setTop (mkF m 26 #[.val (.int p1), .val (.int p2), .val (.int p3), .val (.int p4), .val (.int (1 : Int32)), .unset, .unset, .unset, .unset, .unset, .unset] [(.int ((21475 : Int32) + (p2 &&& (1073741823 : Int32))))])) _
      refine XS.istore X0.here hx rfl (hb hby at_26) rfl (l' := #[.val (.int p1), .val (.int p2), .val (.int p3), .val (.int p4), .val (.int (1 : Int32)), .val (.int ((21475 : Int32) + (p2 &&& (1073741823 : Int32)))), .unset, .unset, .unset, .unset, .unset]) rfl ?_
      exact k
    obtain ⟨c5, hc5⟩ : ∃ z, z = ((21475 : Int32) + (p2 &&& (1073741823 : Int32))) := ⟨_, rfl⟩
    rw [← hc5] at pr_14
    obtain ⟨v1, v2, v3⟩ := own_big p2 p3 c5 hc5
    obtain ⟨T_15, h_15, X_15, e_15, E_15, A_15, D_15, -, st_15⟩ := newO X0 hx hZ hown (hw _ (List.mem_of_getElem? (i := 2) rfl)) (hw _ (List.mem_of_getElem? (i := 3) rfl)) (hw _ (List.mem_of_getElem? (i := 4) rfl)) e0 (g := (mkF m 28 #[.val (.int p1), .val (.int p2), .val (.int p3), .val (.int p4), .val (.int (1 : Int32)), .val (.int c5), .unset, .unset, .unset, .unset, .unset] [])) rfl (hb hby at_28) (by decide) (by decide)
    obtain ⟨b_15, g_15⟩ : ∃ z, z = h0.size := ⟨_, rfl⟩
    rw [← g_15] at A_15 D_15 st_15
    have g_b_15 : n0 ≤ b_15 := Nat.le_trans Z0 (Nat.le_of_eq g_15.symm)
    have sz_b_15 : h0.size ≤ b_15 := Nat.le_trans ((Keep.refl h0 [])).1 (Nat.le_of_eq g_15.symm)
    have Z_15 : n0 ≤ h_15.size := Nat.le_trans Z0 E_15.1
    have K_15 : Keep h0 h_15 [] := (Keep.refl h0 []).ext E_15
    have fd_15_12 : Fld Z h_15 b_15 "portcullis/check/PatternBudget" "checks" "I" (.int (0 : Int32)) := D_15 (Or.inr (hw _ (List.mem_of_getElem? (i := 12) rfl))) (ty := .int) (by decide)
    have fd_15_15 : Fld Z h_15 b_15 "portcullis/check/PatternBudget" "stepsLeft" "J" (.long (0 : Int64)) := D_15 (Or.inl (hw _ (List.mem_of_getElem? (i := 15) rfl))) (ty := .long) (by decide)
    have fd_15_31 : Fld Z h_15 b_15 "portcullis/check/PatternBudget" "room" "Lportcullis/check/PatternAutomaton$Room;" .null := D_15 (Or.inr (hw _ (List.mem_of_getElem? (i := 31) rfl))) (ty := (.object "portcullis/check/PatternAutomaton$Room")) (by decide)
    obtain ⟨_, _, ⟨T_16, L_16, k_16, n_16⟩, -, X_16, ⟨Lc_16, hQ_16, l_16, y_16, z_16⟩, st_16⟩ := X_15.specialBack hx (y := (⟨"portcullis/check/PatternBudget", "<init>", "(I)V"⟩ : MethodName)) rfl hown (mvT hZ (hw _ (List.mem_of_getElem? (i := 5) rfl))) (mvT hZ (hw _ (List.mem_of_getElem? (i := 6) rfl))) (mvT hZ (hw _ (List.mem_of_getElem? (i := 7) rfl))) (by decide) (backOf (W := 1) (rm1 l Z a0 hw [] b_15 c5 h_15 n0 Z_15 g_b_15 A_15 fd_15_12 fd_15_15 fd_15_31 v1) hZ (hw _ (List.mem_of_getElem? (i := 7) rfl)) (hw _ (List.mem_of_getElem? (i := 4) rfl)) (by decide) (by decide)) (g := (mkF m 34 #[.val (.int p1), .val (.int p2), .val (.int p3), .val (.int p4), .val (.int (1 : Int32)), .val (.int c5), .unset, .unset, .unset, .unset, .unset] [(.int c5), (.ref b_15), (.ref b_15)])) rfl (by rw [hml]; rfl) (Steps.refl _) (a := b_15) (argsL := [(.int c5)]) (rest := [(.ref b_15)]) (lenOf pd_2 rfl) rfl (by show 2 * 0 + _ ≤ _; exact Nat.le_of_eq rfl) (hb hby at_34) (fun _ _ => ⟨rfl, e_15, (by decide : 1 + 1 ≤ _), (by decide : 3 + 3 ≤ _)⟩)
    dsimp only [Pt.U, Pt.locs, Pt.cells, Pt.slots] at X_16 l_16 y_16 z_16 st_16 hQ_16
    subst l_16 y_16 z_16
    obtain ⟨rfl, N_16q, Kc_16, o_16_0, o_16_1⟩ := hQ_16
    have f_16_0 : Exa Z T_16.heap b_15 "portcullis/check/PatternBudget" := A_15.keep Kc_16
    have Z_16 : n0 ≤ T_16.heap.size := Nat.le_trans Z_15 Kc_16.1
    have K_16 : Keep h0 T_16.heap [] := K_15.trans Kc_16 (fun x hx => by cases List.mem_singleton.mp hx; exact Or.inr sz_b_15)
    have N_16 := Fr.app N0 N_16q
    obtain ⟨cq_17, kq_17, q_17a, q_17b, q_17c⟩ := isOf hZ rfl o_16_0
    obtain ⟨_, _, ⟨T_17, L_17, k_17, n_17⟩, -, X_17, ⟨Lc_17, hQ_17, l_17, y_17, z_17⟩, st_17⟩ := X_16.virtualBack hx (y := (⟨"portcullis/check/PatternBudget", "take", "(I)V"⟩ : MethodName)) (z := (⟨"portcullis/check/PatternBudget", "take", "(I)V"⟩ : MethodName)) hown (mvT hZ (hw _ (List.mem_of_getElem? (i := 32) rfl))) (mvT hZ (hw _ (List.mem_of_getElem? (i := 33) rfl))) (notFace_of_selects (args := #[]) (mvT hZ (hw _ (List.mem_of_getElem? (i := 35) rfl)))) (mvT hZ (hw _ (List.mem_of_getElem? (i := 35) rfl))) (mvT hZ (hw _ (List.mem_of_getElem? (i := 34) rfl))) (by decide) (backOf (W := 0) (rm4 l Z a0 hw [] b_15 (p3 &&& (2147483647 : Int32)) ((c5.toInt64) * (100000 : Int64)) T_16.heap n0 Z_16 g_b_15 o_16_0 o_16_1 v2) hZ (hw _ (List.mem_of_getElem? (i := 36) rfl)) (hw _ (List.mem_of_getElem? (i := 4) rfl)) (by decide) (by decide)) q_17a q_17c (g := (mkF m 45 #[.val (.int p1), .val (.int p2), .val (.int p3), .val (.int p4), .val (.int (1 : Int32)), .val (.int c5), .val (.ref b_15), .unset, .unset, .unset, .unset] [(.int (p3 &&& (2147483647 : Int32))), (.ref b_15)])) rfl (by rw [hml]; rfl) (Steps.refl _) (argsL := [(.int (p3 &&& (2147483647 : Int32)))]) (rest := []) (lenOf pd_2 rfl) rfl (by show 2 * 0 + _ ≤ _; exact Nat.le_of_eq rfl) (hb hby at_45) (fun _ _ => ⟨rfl, rfl, (by decide : 2 + 0 ≤ _), (by decide : 6 + 0 ≤ _)⟩)
    dsimp only [Pt.U, Pt.locs, Pt.cells, Pt.slots] at X_17 l_17 y_17 z_17 st_17 hQ_17
    subst l_17 y_17 z_17
    obtain ⟨rfl, N_17q, Kc_17, o_17_0, o_17_1⟩ := hQ_17
    have f_17_0 : Exa Z T_17.heap b_15 "portcullis/check/PatternBudget" := o_16_0.keep Kc_17
    have Z_17 : n0 ≤ T_17.heap.size := Nat.le_trans Z_16 Kc_17.1
    have K_17 : Keep h0 T_17.heap [] := K_16.trans Kc_17 (fun x hx => by cases List.mem_singleton.mp hx; exact Or.inr sz_b_15)
    have N_17 := Fr.app N_16 N_17q
    obtain ⟨cq_18, kq_18, q_18a, q_18b, q_18c⟩ := isOf hZ rfl o_17_0
    obtain ⟨_, _, ⟨T_18, L_18, k_18, n_18⟩, -, X_18, ⟨Lc_18, hQ_18, l_18, y_18, z_18⟩, st_18⟩ := X_17.virtualBack hx (y := (⟨"portcullis/check/PatternBudget", "take", "(I)V"⟩ : MethodName)) (z := (⟨"portcullis/check/PatternBudget", "take", "(I)V"⟩ : MethodName)) hown (mvT hZ (hw _ (List.mem_of_getElem? (i := 32) rfl))) (mvT hZ (hw _ (List.mem_of_getElem? (i := 33) rfl))) (notFace_of_selects (args := #[]) (mvT hZ (hw _ (List.mem_of_getElem? (i := 35) rfl)))) (mvT hZ (hw _ (List.mem_of_getElem? (i := 35) rfl))) (mvT hZ (hw _ (List.mem_of_getElem? (i := 34) rfl))) (by decide) (backOf (W := 0) (rm4 l Z a0 hw [] b_15 (0 : Int32) (((c5.toInt64) * (100000 : Int64)) - ((p3 &&& (2147483647 : Int32)).toInt64)) T_17.heap n0 Z_17 g_b_15 o_17_0 o_17_1 v3) hZ (hw _ (List.mem_of_getElem? (i := 36) rfl)) (hw _ (List.mem_of_getElem? (i := 4) rfl)) (by decide) (by decide)) q_18a q_18c (g := (mkF m 51 #[.val (.int p1), .val (.int p2), .val (.int p3), .val (.int p4), .val (.int (1 : Int32)), .val (.int c5), .val (.ref b_15), .unset, .unset, .unset, .unset] [(.int (0 : Int32)), (.ref b_15)])) rfl (by rw [hml]; rfl) (Steps.refl _) (argsL := [(.int (0 : Int32))]) (rest := []) (lenOf pd_2 rfl) rfl (by show 2 * 0 + _ ≤ _; exact Nat.le_of_eq rfl) (hb hby at_51) (fun _ _ => ⟨rfl, rfl, (by decide : 2 + 0 ≤ _), (by decide : 6 + 0 ≤ _)⟩)
    dsimp only [Pt.U, Pt.locs, Pt.cells, Pt.slots] at X_18 l_18 y_18 z_18 st_18 hQ_18
    subst l_18 y_18 z_18
    obtain ⟨rfl, N_18q, Kc_18, o_18_0, o_18_1⟩ := hQ_18
    have f_18_0 : Exa Z T_18.heap b_15 "portcullis/check/PatternBudget" := o_17_0.keep Kc_18
    have Z_18 : n0 ≤ T_18.heap.size := Nat.le_trans Z_17 Kc_18.1
    have K_18 : Keep h0 T_18.heap [] := K_17.trans Kc_18 (fun x hx => by cases List.mem_singleton.mp hx; exact Or.inr sz_b_15)
    have N_18 := Fr.app N_17 N_18q
    obtain ⟨fs, hr, hrun, hended, hW, hsame⟩ := X_18.leave (v := some (.int (1 : Int32))) (fun h => by rw [Bd.returns] at h; cases h)
    refine ⟨_, _, pr_14 _ ?_, hrun, hended, _, _, rfl, ?_, ⟨_, rfl⟩, hW, hsame.mono (by decide) (by decide)⟩
    · show Steps p.tables e below (s₁.setTop (mkF m 28 #[.val (.int p1), .val (.int p2), .val (.int p3), .val (.int p4), .val (.int (1 : Int32)), .val (.int c5), .unset, .unset, .unset, .unset, .unset] [])) _
      refine st_15 _ ?_
      show Steps p.tables e below (T_15.setTop (mkF m 31 #[.val (.int p1), .val (.int p2), .val (.int p3), .val (.int p4), .val (.int (1 : Int32)), .val (.int c5), .unset, .unset, .unset, .unset, .unset] [(.ref b_15)])) _
      refine XS.dup X_15.here hx rfl (hb hby at_31) rfl rfl ?_
      show Steps p.tables e below (T_15.setTop (mkF m 32 #[.val (.int p1), .val (.int p2), .val (.int p3), .val (.int p4), .val (.int (1 : Int32)), .val (.int c5), .unset, .unset, .unset, .unset, .unset] [(.ref b_15), (.ref b_15)])) _
      refine XS.iload X_15.here hx rfl (hb hby at_32) rfl ?_
      show Steps p.tables e below (T_15.setTop (mkF m 34 #[.val (.int p1), .val (.int p2), .val (.int p3), .val (.int p4), .val (.int (1 : Int32)), .val (.int c5), .unset, .unset, .unset, .unset, .unset] [(.int c5), (.ref b_15), (.ref b_15)])) _
      refine st_16.trans ?_
      show Steps p.tables e below (T_16.setTop (mkF m 37 #[.val (.int p1), .val (.int p2), .val (.int p3), .val (.int p4), .val (.int (1 : Int32)), .val (.int c5), .unset, .unset, .unset, .unset, .unset] [(.ref b_15)])) _
      refine XS.astore X_16.here hx rfl (hb hby at_37) rfl rfl (l' := #[.val (.int p1), .val (.int p2), .val (.int p3), .val (.int p4), .val (.int (1 : Int32)), .val (.int c5), .val (.ref b_15), .unset, .unset, .unset, .unset]) rfl ?_
      show Steps p.tables e below (T_16.setTop (mkF m 39 #[.val (.int p1), .val (.int p2), .val (.int p3), .val (.int p4), .val (.int (1 : Int32)), .val (.int c5), .val (.ref b_15), .unset, .unset, .unset, .unset] [])) _
      refine XS.aload X_16.here hx rfl (hb hby at_39) rfl rfl ?_
      show Steps p.tables e below (T_16.setTop (mkF m 41 #[.val (.int p1), .val (.int p2), .val (.int p3), .val (.int p4), .val (.int (1 : Int32)), .val (.int c5), .val (.ref b_15), .unset, .unset, .unset, .unset] [(.ref b_15)])) _
      refine XS.iloadN X_16.here hx rfl (hb hby at_41) rfl ?_
      show Steps p.tables e below (T_16.setTop (mkF m 42 #[.val (.int p1), .val (.int p2), .val (.int p3), .val (.int p4), .val (.int (1 : Int32)), .val (.int c5), .val (.ref b_15), .unset, .unset, .unset, .unset] [(.int p3), (.ref b_15)])) _
      refine X_16.ldcInt hx hown (mvT hZ (hw _ (List.mem_of_getElem? (i := 0) rfl))) (g := (mkF m 42 #[.val (.int p1), .val (.int p2), .val (.int p3), .val (.int p4), .val (.int (1 : Int32)), .val (.int c5), .val (.ref b_15), .unset, .unset, .unset, .unset] [(.int p3), (.ref b_15)])) rfl (hb hby at_42) _ ?_
      show Steps p.tables e below (T_16.setTop (mkF m 44 #[.val (.int p1), .val (.int p2), .val (.int p3), .val (.int p4), .val (.int (1 : Int32)), .val (.int c5), .val (.ref b_15), .unset, .unset, .unset, .unset] [(.int (2147483647 : Int32)), (.int p3), (.ref b_15)])) _
      refine XS.iand X_16.here hx rfl (hb hby at_44) rfl ?_
      show Steps p.tables e below (T_16.setTop (mkF m 45 #[.val (.int p1), .val (.int p2), .val (.int p3), .val (.int p4), .val (.int (1 : Int32)), .val (.int c5), .val (.ref b_15), .unset, .unset, .unset, .unset] [(.int (p3 &&& (2147483647 : Int32))), (.ref b_15)])) _
      refine st_17.trans ?_
      show Steps p.tables e below (T_17.setTop (mkF m 48 #[.val (.int p1), .val (.int p2), .val (.int p3), .val (.int p4), .val (.int (1 : Int32)), .val (.int c5), .val (.ref b_15), .unset, .unset, .unset, .unset] [])) _
      refine XS.aload X_17.here hx rfl (hb hby at_48) rfl rfl ?_
      show Steps p.tables e below (T_17.setTop (mkF m 50 #[.val (.int p1), .val (.int p2), .val (.int p3), .val (.int p4), .val (.int (1 : Int32)), .val (.int c5), .val (.ref b_15), .unset, .unset, .unset, .unset] [(.ref b_15)])) _
      refine XS.iconst X_17.here hx rfl (hb hby at_50) ?_
      show Steps p.tables e below (T_17.setTop (mkF m 51 #[.val (.int p1), .val (.int p2), .val (.int p3), .val (.int p4), .val (.int (1 : Int32)), .val (.int c5), .val (.ref b_15), .unset, .unset, .unset, .unset] [(.int (0 : Int32)), (.ref b_15)])) _
      refine st_18.trans ?_
      show Steps p.tables e below (T_18.setTop (mkF m 54 #[.val (.int p1), .val (.int p2), .val (.int p3), .val (.int p4), .val (.int (1 : Int32)), .val (.int c5), .val (.ref b_15), .unset, .unset, .unset, .unset] [])) _
      refine XS.iconst X_18.here hx rfl (hb hby at_54) ?_
      show Steps p.tables e below (T_18.setTop (mkF m 55 #[.val (.int p1), .val (.int p2), .val (.int p3), .val (.int p4), .val (.int (1 : Int32)), .val (.int c5), .val (.ref b_15), .unset, .unset, .unset, .unset] [(.int (1 : Int32))])) _
      exact retN X_18 hx (t := .boolean) Bd.returns (by simp) (hb hby at_55) hr
    · exact ⟨rfl, N_18⟩
set_option maxRecDepth 65536 in
set_option maxHeartbeats 40000000 in
theorem comes_1 {Post : Tables → Env → Array Value → State → Outcome → State → Prop} (hpost : ∀ tb e args s v u, (limb_1_1.after args s (.returned v) u = true ∧ limb_1_2.after args s (.returned v) u = true ∧ True) → FrameEnd s (.returned v) u (Jvm.fieldLocs frame_1_writes args s ++ Jvm.arrayLocs frame_1_arrays args s ++ Jvm.staticLocs frame_1_statics s) 16 128 → Post tb e args s (.returned v) u) :
    ArmFor flags0 classFile x code maxLocals ret World_1 tables_1 room_1 Calls_1 rest_1 Pre_1 Post := by
  intro l hfl _ _ p e ha hc hk s m args below hf hA hF happ hP
  obtain ⟨hcalls, hrest, hpre⟩ := hP
  obtain ⟨-, -, -, hnamed, -, -, -, hat⟩ := (Spec.applies_iff hf).mp happ
  obtain ⟨hg, hn⟩ := and_e (Cond.before_iff.mp (show (Jvm.Cond.and given_1 narrow_1).before args s = true from hpre))
  obtain ⟨g0, r0⟩ := and_e hg
  obtain ⟨g1, r1⟩ := and_e r0
  obtain ⟨g2, r2⟩ := and_e r1
  obtain ⟨g3, r3⟩ := and_e r2
  obtain ⟨w0, w1, w2, w3, rfl⟩ : ∃ w0 w1 w2 w3 : Value, args = #[w0, w1, w2, w3] := by
    have hs : args.size = 4 := by simpa [Cond.value, given_1] using g0
    obtain ⟨L⟩ := args
    match L, hs with
    | [w0, w1, w2, w3], _ => exact ⟨w0, w1, w2, w3, rfl⟩
  have hw := fun d (hd : d ∈ tables_1) => atoms_spec (ws := Jvm.Cond.code x code maxLocals ret :: tables_1) hat d (List.mem_cons_of_mem _ hd)
  obtain ⟨i0, ei0⟩ := is_v g1
  obtain rfl : w0 = (.int i0) := Option.some.inj ei0
  obtain ⟨i1, ei1⟩ := is_v g2
  obtain rfl : w1 = (.int i1) := Option.some.inj ei1
  obtain ⟨i2, ei2⟩ := is_v g3
  obtain rfl : w2 = (.int i2) := Option.some.inj ei2
  obtain ⟨i3, ei3⟩ := is_v r3
  obtain rfl : w3 = (.int i3) := Option.some.inj ei3
  obtain ⟨n, o, h1, h2, h3, _, L, rfl, ⟨rfl, N⟩, hq⟩ := rm0 l s _ hw tables_1 i0 i1 i2 i3 s.heap s.heap.size (Nat.le_refl _)  p e ha hc hk s m _ below hf ((Spec.applies_iff_loose hf).mp happ).1 ⟨rfl, State.Warmed39.refl s, rfl⟩ trivial
  refine ⟨n, _, h1, h2, h3, hpost _ _ _ _ _ _ ⟨Cond.after_iff.mpr rfl, Cond.after_iff.mpr (eq_i res_at (Term.int_eval (1)) rfl), trivial⟩ ⟨hq.1, hq.2.1, (hq.2.2.sift fun y hy => Or.inr (N y hy)).mono (by decide) (by decide)⟩⟩
theorem main_1_1 : Claimed_1_1 := comes_1 fun _ _ _ _ _ _ h hF => ⟨h.1, hF⟩
theorem main_1_2 : Claimed_1_2 := comes_1 fun _ _ _ _ _ _ h hF => ⟨h.2.1, hF⟩
end Jvm.Pilot.@@N@@
namespace Jvm.Pilot.@@N@@
open Jvm Jvm.ClassFile Sem Op Lib Jvm.Free Jvm.Stand Jvm.Pilot.@@N@@.Jvm.D
/-! MADE BY PROGRAM (witnessworld.py) out of the Statement's table words and the real class files: 10 classes; the members and pool entries that the words name. The judged class is class 1, her method 1. -/
namespace start1
open Jvm.ClassFile
def u (s : String) : CpInfo := .utf8 (stringToUtf16 s)
/-- a pool by its gaps: so many unusable entries, then the entry; so many at the end -/
def gap : Nat → List CpInfo → List CpInfo
  | 0, r => r
  | n + 1, r => .unusable :: gap n r
def poolList (es : List (Nat × CpInfo)) (last : Nat) : List CpInfo := es.foldr (fun e r => gap e.1 (e.2 :: r)) (gap last [])
def pool (es : List (Nat × CpInfo)) (last : Nat) : Array CpInfo := ⟨poolList es last⟩
def fileOf (pool : Array CpInfo) (this : Nat) (attrs : Array Attribute := #[]) (ms : Array MethodInfo := #[]) (fl : Nat := 33) (sup : Nat := 0) (ifs : Array Nat := #[]) (fds : Array FieldInfo := #[]) : ClassFile where
  minorVersion := 0
  majorVersion := 65
  constantPool := pool
  accessFlags := fl
  thisClass := this
  superClass := sup
  interfaces := ifs
  fields := fds
  methods := ms
  attributes := attrs
def plain (name : String) (sup : Option ClassId) : Class where
  name := name
  kind := .ordinary
  loader := none
  accessFlags := 33
  super := sup
  interfaces := #[]
  cf := none
  fields := #[]
  methods := #[]
  instanceTypes := #[]
  staticTypes := #[]
  resolved := #[]
  callSites := []
  init := .initialized
  statics := none
  mirror := none

def pool0 : Array CpInfo := pool [(5, u "<init>"), (0, u "()V"), (1, .class_ 10), (1, u "java/lang/Object")] 113

def k0c0 : Code := { maxStack := 0, maxLocals := 1, code := object_method_1_code, exceptionTable := #[], attributes := #[] }
def k0m0 : Method := { name := "<init>", desc := "()V", sig := { parameters := [], returnType := none }, accessFlags := 1, code := some k0c0 }
/-- java/lang/Object -/
def k0 : Class := { plain "java/lang/Object" none with
  accessFlags := 33
  interfaces := #[]
  cf := some (fileOf pool0 8 #[] #[{ accessFlags := 1, nameIndex := 5, descriptorIndex := 6, attributes := #[] }] 33 0 #[] #[])
  fields := #[]
  methods := #[k0m0]
  instanceTypes := #[]
  staticTypes := #[]
  resolved := Array.replicate 124 none
  statics := none }

def pool1 : Array CpInfo := pool [(2, .class_ 4), (1, u "java/lang/Object"), (0, u "<init>"), (0, u "()V"), (0, .integer 1073741823), (0, .class_ 9), (0, u "portcullis/check/PatternBudget"), (0, .methodref 8 11), (0, .nameAndType 5 12), (0, u "(I)V"), (0, .integer 2147483647), (0, .methodref 8 15), (0, .nameAndType 16 12), (0, u "take"), (0, .integer 100000), (0, .class_ 19), (0, u "portcullis/check/PatternBudgetTakePinLaw"), (2, u "law"), (0, u "(IIII)Z")] 3

def k1m0 : Method := { name := "<init>", desc := "()V", sig := { parameters := [], returnType := none }, accessFlags := 2, code := none }
def k1c1 : Code := { maxStack := 3, maxLocals := 11, code := code, exceptionTable := #[], attributes := #[] }
def k1m1 : Method := { name := "law", desc := "(IIII)Z", sig := { parameters := [.int, .int, .int, .int], returnType := some .boolean }, accessFlags := 9, code := some k1c1 }
/-- portcullis/check/PatternBudgetTakePinLaw -/
def k1 : Class := { plain "portcullis/check/PatternBudgetTakePinLaw" (some 0) with
  accessFlags := 49
  interfaces := #[]
  cf := some (fileOf pool1 18 #[] #[{ accessFlags := 2, nameIndex := 5, descriptorIndex := 6, attributes := #[] }, { accessFlags := 9, nameIndex := 22, descriptorIndex := 23, attributes := #[] }] 49 2 #[] #[])
  fields := #[]
  methods := #[k1m0, k1m1]
  instanceTypes := #[]
  staticTypes := #[]
  resolved := Array.replicate 27 none
  statics := none }

def pool2 : Array CpInfo := pool [(1, .methodref 2 3), (0, .class_ 4), (0, .nameAndType 5 6), (0, u "java/lang/Object"), (0, u "<init>"), (0, u "()V"), (9, .fieldref 17 18), (0, .class_ 19), (0, .nameAndType 20 21), (0, u "portcullis/check/PatternBudget"), (0, u "checks"), (0, u "I"), (2, .long 100000), (1, .fieldref 17 27), (0, .nameAndType 28 29), (0, u "stepsLeft"), (0, u "J"), (0, .class_ 31), (0, u "portcullis/check/PatternAutomaton$Room"), (0, .long 1000), (1, .methodref 30 35), (0, .nameAndType 5 36), (0, u "(JJLportcullis/check/PatternAutomaton$Room;)V"), (0, .fieldref 17 38), (0, .nameAndType 39 40), (0, u "room"), (0, u "Lportcullis/check/PatternAutomaton$Room;"), (3, u "(I)V"), (3, u "take")] 21

def k2c0 : Code := { maxStack := 9, maxLocals := 2, code := prog_33_method_1_code, exceptionTable := #[], attributes := #[] }
def k2m0 : Method := { name := "<init>", desc := "(I)V", sig := { parameters := [.int], returnType := none }, accessFlags := 1, code := some k2c0 }
def k2c1 : Code := { maxStack := 6, maxLocals := 2, code := prog_33_method_2_code, exceptionTable := #[], attributes := #[] }
def k2m1 : Method := { name := "take", desc := "(I)V", sig := { parameters := [.int], returnType := none }, accessFlags := 0, code := some k2c1 }
/-- portcullis/check/PatternBudget -/
def k2 : Class := { plain "portcullis/check/PatternBudget" (some 0) with
  accessFlags := 49
  interfaces := #[]
  cf := some (fileOf pool2 17 #[] #[{ accessFlags := 1, nameIndex := 5, descriptorIndex := 44, attributes := #[] }, { accessFlags := 0, nameIndex := 48, descriptorIndex := 44, attributes := #[] }] 49 2 #[] #[{ accessFlags := 18, nameIndex := 20, descriptorIndex := 21, attributes := #[] }, { accessFlags := 2, nameIndex := 28, descriptorIndex := 29, attributes := #[] }, { accessFlags := 18, nameIndex := 39, descriptorIndex := 40, attributes := #[] }])
  fields := #[{ name := "checks", type := .int, accessFlags := 18, slot := 0, constantValue := 0 }, { name := "stepsLeft", type := .long, accessFlags := 2, slot := 1, constantValue := 0 }, { name := "room", type := (.object "portcullis/check/PatternAutomaton$Room"), accessFlags := 18, slot := 2, constantValue := 0 }]
  methods := #[k2m0, k2m1]
  instanceTypes := #[.int, .long, (.object "portcullis/check/PatternAutomaton$Room")]
  staticTypes := #[]
  resolved := Array.replicate 70 none
  statics := none }

def pool3 : Array CpInfo := pool [(1, .methodref 2 3), (0, .class_ 4), (0, .nameAndType 5 6), (0, u "java/lang/Object"), (0, u "<init>"), (0, u "()V"), (0, .fieldref 8 9), (0, .class_ 10), (0, .nameAndType 11 12), (0, u "portcullis/check/PatternAutomaton$Room"), (0, u "statesLeft"), (0, u "J"), (0, .fieldref 8 14), (0, .nameAndType 15 12), (0, u "stepsLeft"), (0, .fieldref 8 17), (0, .nameAndType 18 19), (0, u "whole"), (0, u "Lportcullis/check/PatternAutomaton$Room;"), (36, u "(JJLportcullis/check/PatternAutomaton$Room;)V"), (12, .class_ 70), (0, u "portcullis/check/PatternAutomaton")] 3

def k3c0 : Code := { maxStack := 3, maxLocals := 6, code := prog_30_method_1_code, exceptionTable := #[], attributes := #[] }
def k3m0 : Method := { name := "<init>", desc := "(JJLportcullis/check/PatternAutomaton$Room;)V", sig := { parameters := [.long, .long, (.object "portcullis/check/PatternAutomaton$Room")], returnType := none }, accessFlags := 0, code := some k3c0 }
/-- portcullis/check/PatternAutomaton$Room -/
def k3 : Class := { plain "portcullis/check/PatternAutomaton$Room" (some 0) with
  accessFlags := 48
  interfaces := #[]
  cf := some (fileOf pool3 8 #[.nestHost 69] #[{ accessFlags := 0, nameIndex := 5, descriptorIndex := 56, attributes := #[] }] 48 2 #[] #[{ accessFlags := 66, nameIndex := 11, descriptorIndex := 12, attributes := #[] }, { accessFlags := 66, nameIndex := 15, descriptorIndex := 12, attributes := #[] }, { accessFlags := 18, nameIndex := 18, descriptorIndex := 19, attributes := #[] }])
  fields := #[{ name := "statesLeft", type := .long, accessFlags := 66, slot := 0, constantValue := 0 }, { name := "stepsLeft", type := .long, accessFlags := 66, slot := 1, constantValue := 0 }, { name := "whole", type := (.object "portcullis/check/PatternAutomaton$Room"), accessFlags := 18, slot := 2, constantValue := 0 }]
  methods := #[k3m0]
  instanceTypes := #[.long, .long, (.object "portcullis/check/PatternAutomaton$Room")]
  staticTypes := #[]
  resolved := Array.replicate 74 none
  statics := none }

def pool4 : Array CpInfo := pool [(1, u "java/lang/Cloneable"), (0, .class_ 1), (0, u "java/lang/Object"), (0, .class_ 3)] 3

/-- java/lang/Cloneable -/
def k4 : Class := { plain "java/lang/Cloneable" (some 0) with
  accessFlags := 1537
  interfaces := #[]
  cf := some (fileOf pool4 2 #[] #[] 1537 4 #[] #[])
  fields := #[]
  methods := #[]
  instanceTypes := #[]
  staticTypes := #[]
  resolved := Array.replicate 8 none
  statics := none }

def pool5 : Array CpInfo := pool [(1, u "java/io/Serializable"), (0, .class_ 1), (0, u "java/lang/Object"), (0, .class_ 3)] 3

/-- java/io/Serializable -/
def k5 : Class := { plain "java/io/Serializable" (some 0) with
  accessFlags := 1537
  interfaces := #[]
  cf := some (fileOf pool5 2 #[] #[] 1537 4 #[] #[])
  fields := #[]
  methods := #[]
  instanceTypes := #[]
  staticTypes := #[]
  resolved := Array.replicate 8 none
  statics := none }

/-- the primitive byte -/
def k6 : Class := { plain "byte" none with kind := .primitive 'B', accessFlags := 0x411 }
/-- [B -/
def k7 : Class := { plain "[B" (some 0) with kind := .array 6 .byte, interfaces := #[4, 5], accessFlags := 1041 }

/-- the primitive int -/
def k8 : Class := { plain "int" none with kind := .primitive 'I', accessFlags := 0x411 }
/-- [I -/
def k9 : Class := { plain "[I" (some 0) with kind := .array 8 .int, interfaces := #[4, 5], accessFlags := 1041 }

def heap : Heap := #[]
def classes : Array Class := #[k0, k1, k2, k3, k4, k5, k6, k7, k8, k9]
def interned : List (Array UInt16 × Addr) := []
def slotsUsed : Nat := 0
def theMethod : MethodId := ⟨1, 1⟩
def args0 : Array Value := #[.int 0, .int 5, .int 7, .int 9]
def aboutOver (below : List Frame) : State where
  vm := { classes := classes, interned := interned.toArray }
  heap := heap
  slotsUsed := slotsUsed
  threads := #[{ frames := .invoking theMethod args0 :: below }]
def below0 : List Frame := [.native { method := ⟨0, 0⟩, args := #[] }]
def about1 : State := aboutOver below0
def p0 : Program := .bare "" "" ""
def e0 : Env := launch0.env 0 0 0
theorem w_frames : about1.frames = Frame.invoking theMethod args0 :: below0 := rfl
set_option maxRecDepth 65536 in
theorem w_args : argsFit about1.vm theMethod args0 = true := by decide +kernel
set_option maxRecDepth 65536 in
theorem w_heap : heapFits about1 = true := by decide +kernel
set_option maxRecDepth 65536 in
theorem w_runnable : about1.curStatus? = some .runnable := by decide +kernel
set_option maxRecDepth 65536 in
theorem w_alone : about1.alone = true := by decide +kernel
set_option maxRecDepth 65536 in
theorem w_named : about1.methodNamed? x = some theMethod := by decide +kernel
set_option maxRecDepth 65536 in
theorem w_hears : about1.hears theMethod below0 = true := by decide +kernel
set_option maxRecDepth 65536 in
theorem w_ripe : about1.ripe theMethod args0 below0 = true := by decide +kernel
theorem w_running : about1.status = .running := rfl
set_option maxRecDepth 65536 in
theorem w_room : about1.hasRoom e0.platform room_1 = true :=
  launch0.hasRoom_least _ room_1 (by decide +kernel) (by decide +kernel) (by decide +kernel) (by decide +kernel) (by decide +kernel) (by decide +kernel)
theorem allAtoms_all (ts : List Jvm.Cond) (a : Array Jvm.Value) (st : Jvm.State) : (allAtoms ts).before a st = ts.all (fun c => c.before a st) := by
  induction ts with
  | nil => rfl
  | cons c t ih =>
    show (Jvm.Cond.and c (allAtoms t)).before a st = _
    rw [Jvm.Cond.before_and, ih, List.all_cons]
def words1 : List Jvm.Cond := Jvm.Cond.code x code maxLocals ret :: tables_1
/-- a 'code' word, met by the world's own term for the bytes: nothing is compared byte by byte -/
theorem code_word {y : MethodName} {bytes : ByteArray} {mx : Nat} {rt : Option FieldType} {a : Array Value} {s : State} {m : MethodId} {meth : Method} {c : Code} (h1 : s.methodNamed? y = some m) (h2 : s.vm.method? m = some meth) (h3 : meth.code = some c) (h4 : c.code = bytes)
    (h5 : (c.maxLocals == mx && c.exceptionTable.isEmpty && decide (c.maxStack ≤ mostOperands) && decide (meth.sig.returnType = rt) && !meth.locks && decide (parseMethodDescriptor y.desc = some meth.sig)) = true) : (Jvm.Cond.code y bytes mx rt).before a s = true := by
  simp only [Bool.and_eq_true, beq_iff_eq, Bool.not_eq_true', decide_eq_true_eq] at h5
  obtain ⟨⟨⟨⟨⟨g1, g2⟩, g3⟩, g4⟩, g5⟩, g6⟩ := h5
  simp [Cond.before, Cond.holds, Cond.value, h1, h2, h3, h4, g1, g2, g3, g4, g5, g6]
def isCode : Jvm.Cond → Bool
  | .code _ _ _ _ => true
  | _ => false
theorem all_split {L : List Jvm.Cond} {P : Jvm.Cond → Bool} (h1 : L.all (fun c => isCode c || P c) = true) (h2 : ∀ c ∈ L.filter isCode, P c = true) : L.all P = true := by
  refine List.all_eq_true.mpr fun c hc => ?_
  have h := List.all_eq_true.mp h1 c hc
  rcases Bool.eq_false_or_eq_true (isCode c) with hi | hi
  · exact h2 c (List.mem_filter.mpr ⟨hc, hi⟩)
  · simpa [hi] using h
set_option maxRecDepth 65536 in
theorem w_c0 : (Jvm.Cond.code x code maxLocals ret).before args0 about1 = true := code_word (m := ⟨1, 1⟩) (meth := k1m1) (c := k1c1) (by decide +kernel) rfl rfl rfl (by decide +kernel)
set_option maxRecDepth 65536 in
theorem w_c1 : (Jvm.Cond.code ({ cls := "portcullis/check/PatternBudget", name := "<init>", desc := "(I)V" } : Jvm.MethodName) prog_33_method_1_code (2 : Nat) (Option.none : Option Jvm.ClassFile.FieldType)).before args0 about1 = true := code_word (m := ⟨2, 0⟩) (meth := k2m0) (c := k2c0) (by decide +kernel) rfl rfl rfl (by decide +kernel)
set_option maxRecDepth 65536 in
theorem w_c2 : (Jvm.Cond.code ({ cls := "java/lang/Object", name := "<init>", desc := "()V" } : Jvm.MethodName) object_method_1_code (1 : Nat) (Option.none : Option Jvm.ClassFile.FieldType)).before args0 about1 = true := code_word (m := ⟨0, 0⟩) (meth := k0m0) (c := k0c0) (by decide +kernel) rfl rfl rfl (by decide +kernel)
set_option maxRecDepth 65536 in
theorem w_c3 : (Jvm.Cond.code ({ cls := "portcullis/check/PatternAutomaton$Room", name := "<init>", desc := "(JJLportcullis/check/PatternAutomaton$Room;)V" } : Jvm.MethodName) prog_30_method_1_code (6 : Nat) (Option.none : Option Jvm.ClassFile.FieldType)).before args0 about1 = true := code_word (m := ⟨3, 0⟩) (meth := k3m0) (c := k3c0) (by decide +kernel) rfl rfl rfl (by decide +kernel)
set_option maxRecDepth 65536 in
theorem w_c4 : (Jvm.Cond.code ({ cls := "portcullis/check/PatternBudget", name := "take", desc := "(I)V" } : Jvm.MethodName) prog_33_method_2_code (2 : Nat) (Option.none : Option Jvm.ClassFile.FieldType)).before args0 about1 = true := code_word (m := ⟨2, 1⟩) (meth := k2m1) (c := k2c1) (by decide +kernel) rfl rfl rfl (by decide +kernel)
def codes1 : List Jvm.Cond := [Jvm.Cond.code x code maxLocals ret, Jvm.Cond.code ({ cls := "portcullis/check/PatternBudget", name := "<init>", desc := "(I)V" } : Jvm.MethodName) prog_33_method_1_code (2 : Nat) (Option.none : Option Jvm.ClassFile.FieldType), Jvm.Cond.code ({ cls := "java/lang/Object", name := "<init>", desc := "()V" } : Jvm.MethodName) object_method_1_code (1 : Nat) (Option.none : Option Jvm.ClassFile.FieldType), Jvm.Cond.code ({ cls := "portcullis/check/PatternAutomaton$Room", name := "<init>", desc := "(JJLportcullis/check/PatternAutomaton$Room;)V" } : Jvm.MethodName) prog_30_method_1_code (6 : Nat) (Option.none : Option Jvm.ClassFile.FieldType), Jvm.Cond.code ({ cls := "portcullis/check/PatternBudget", name := "take", desc := "(I)V" } : Jvm.MethodName) prog_33_method_2_code (2 : Nat) (Option.none : Option Jvm.ClassFile.FieldType)]
set_option maxRecDepth 65536 in
theorem codes_eq : words1.filter isCode = codes1 := rfl
theorem w_codes : ∀ c ∈ words1.filter isCode, c.before args0 about1 = true := by
  rw [codes_eq]
  intro c hc
  simp only [codes1, List.mem_cons, List.not_mem_nil, or_false] at hc
  rcases hc with rfl | rfl | rfl | rfl | rfl
  · exact w_c0
  · exact w_c1
  · exact w_c2
  · exact w_c3
  · exact w_c4
set_option maxRecDepth 65536 in
theorem w_t1 : (words1.take 24).all (fun c => isCode c || c.before args0 about1) = true := by decide +kernel
set_option maxRecDepth 65536 in
theorem w_t2 : (words1.drop 24).all (fun c => isCode c || c.before args0 about1) = true := by decide +kernel
theorem w_tables : (allAtoms (Jvm.Cond.code x code maxLocals ret :: tables_1)).before args0 about1 = true := by
  rw [allAtoms_all]
  show words1.all (fun c => c.before args0 about1) = true
  refine all_split ?_ w_codes
  rw [← List.take_append_drop 24 words1, List.all_append, w_t1, w_t2]
  rfl
set_option maxRecDepth 65536 in
theorem w_case : (Jvm.Cond.and given_1 narrow_1).before args0 about1 = true := by decide +kernel
theorem w_applies : (headSpec (Jvm.Cond.code x code maxLocals ret :: tables_1) room_1).applies x e0.platform about1 = true :=
  (Spec.applies_iff w_frames).mpr ⟨w_running, w_runnable, w_alone, w_named, w_hears, w_ripe, w_room, w_tables⟩
theorem atStart : AtStart classFile x code maxLocals ret World_1 tables_1 room_1 Calls_1 rest_1 Pre_1 launch0 p0 e0 about1 theMethod args0 below0 :=
  ⟨lists_1, trivial, launch0.admits_env _ _ _, launch0.least_env, fairChoices_fair.cas, fairChoices_fair.clock, w_frames, w_args, w_heap, w_applies, trivial, trivial, w_case⟩
end start1
theorem witness_1 : WitnessClaimed_1 := ⟨start1.p0, start1.e0, start1.about1, start1.theMethod, start1.args0, start1.below0, start1.atStart⟩
end Jvm.Pilot.@@N@@
