import JvmDerived
import JvmDerived.Pilot.@@N@@Statement
import JvmDerived.Pilot.@@N@@Code
set_option linter.unusedVariables false
set_option linter.unusedSimpArgs false
@@BLOCK:NumsL.lean.txt@@
namespace Jvm.RoadKit
open Sem ClassFile Op Lib Jvm.Stand Jvm.Free Jvm.LawKit
section New
variable {p : Program} {l : Launch} {e : Env} {R : Room} {s : State} {m : MethodId} {args : Array Value} {below : List Frame} {meth : Method} {c : Code} {T : State} {locs : List Loc} {cells slots : Nat}
theorem retI (X : Stand p l e R s m args below meth c T locs cells slots) (hx : p.tables.exec = Jvm.exec) {pc : Nat} {Ls : Array Slot} {z : Int32} {rest : List Value} (hret : meth.sig.returnType = some .int) (hd : decode c.code pc = .ok (.ireturn, 1)) {fs : List Frame}
    (hl : ∀ (f : JFrame) (acts : List Action), f.method = m → f.locked = none → f.entered = [] → (doReturn e (T.setTop f) acts (some (.int z))).1 = T.setFrames fs) : Steps p.tables e below (T.setTop (mkF m pc Ls (.int z :: rest))) (T.setFrames fs) := by
  have hm' : T.vm.method? m = some meth := X.method'
  have hn : narrow .int (.int z) = .int z := rfl
  show Steps p.tables e below (T.setTop { method := m, pc := pc, locals := Ls, stack := _ :: rest, locked := none }) _
  jvm_step X.here [X.here.top, hx, hd, hm', hret, hn]
  first | (intro acts; rw [hl _ acts rfl rfl rfl]) | rw [hl _ _ rfl rfl rfl]
  exact Steps.refl _
end New
end Jvm.RoadKit
namespace Jvm.Pilot.@@N@@
open Jvm Jvm.ClassFile Sem Op Lib Jvm.Free Jvm.Stand Jvm.LawKit Jvm.RoadKit Bundle Jvm.Pilot.@@N@@.Jvm.D
theorem d1_0 : decode prog_1_method_1_code 0 = .ok (.aload_n 0, 1) := by decide +kernel
theorem d1_1 : decode prog_1_method_1_code 1 = .ok (.invokespecial 1, 3) := by decide +kernel
theorem d1_4 : decode prog_1_method_1_code 4 = .ok (.return_, 1) := by decide +kernel
theorem ef_1_R (m : MethodId) (x0 : Addr) : entryFrame m #[(.ref x0)] 1 = mkF m 0 #[.val (.ref x0)] [] := by first | (simp [entryFrame, mkF, argsToLocals, Value.category]; done) | rfl
def Q1 (Z : State) (a1 : Addr) (h0 : Heap) (n0 : Nat) (v : Option Value) (h : Heap) (L : List Loc) : Prop := v = none ∧ Fr n0 L ∧ h = h0
theorem pn_1 : plainName "com/example/imply/imply/CheckStatistics" = true := by first | (simp [plainName, overriddenIn]; done) | decide +kernel
set_option maxRecDepth 65536 in
set_option maxHeartbeats 40000000 in
theorem rm1 (l : Launch) (Z : State) (a0 : Array Value) (hw : ∀ d ∈ tables_1, d.before a0 Z = true) (ws : List Jvm.Cond) (a1 : Addr) (h0 : Heap) (n0 : Nat) (Z0 : n0 ≤ h0.size) (F0 : Exa Z h0 a1 "com/example/imply/imply/CheckStatistics") :
    MetFree l (⟨"com/example/imply/imply/CheckStatistics", "<init>", "()V"⟩ : MethodName) (head1 (Jvm.Cond.code (⟨"com/example/imply/imply/CheckStatistics", "<init>", "()V"⟩ : MethodName) prog_1_method_1_code 1 none :: ws) ({ frames := 1, cells := 0, slots := 0, locals := 12 } : Room)) (fun a U => a = #[(.ref a1)] ∧ Z.Warmed39 U.vm ∧ U.heap = h0) (fun _ _ _ _ _ => True) (fun _ U o U' => ∃ v L, o = .returned v ∧ Q1 Z a1 h0 n0 v U'.heap L ∧ FrameEnd U o U' L ({ frames := 1, cells := 0, slots := 0, locals := 12 } : Room).cells ({ frames := 1, cells := 0, slots := 0, locals := 12 } : Room).slots) := by
  refine MetFree.of_bodySF (plainFor_of_name pn_1) hisR ?_
  intro p e s m args below meth c s₁ Bd hml0 hP hK
  obtain ⟨rfl, hZ, hh⟩ := hP
  have hx := Bd.exec
  have hby := Bd.bytes
  have hml : c.maxLocals = 1 := hml0
  have hown : s.vm.findClass "com/example/imply/imply/CheckStatistics" = some m.cls := findClass_of_methodNamed Bd.named
  have hnm := (name_of_methodNamed Bd.named Bd.method).1
  have X0 : Stand p l e ({ frames := 1, cells := 0, slots := 0, locals := 12 } : Room) s m #[(.ref a1)] below meth c s₁ [] 0 0 := Stand.of_body Bd
  have e0 : s₁.heap = h0 := by rw [← hh, Bd.state]; rfl
  have N0 := Fr.nil n0
  have pre0 : ∀ t, Steps p.tables e below (s₁.setTop (mkF m 0 #[.val (.ref a1)] [])) t → Steps p.tables e below (s₁.setTop (entryFrame m #[(.ref a1)] 1)) t := fun t k => castTop (ef_1_R m a1) k
  obtain ⟨T_1, X_1, e_1, st_1⟩ := initO X0 hx hZ hown (hw _ (List.mem_of_getElem? (i := 6) rfl)) (hw _ (List.mem_of_getElem? (i := 7) rfl)) (hw _ (List.mem_of_getElem? (i := 8) rfl)) e0 (g := (mkF m 1 #[.val (.ref a1)] [(.ref a1)])) rfl (by rw [hml]; rfl) rfl (hb hby d1_1) (by decide) (W := 0) (by show 2 * 0 + _ ≤ _; exact Nat.le_of_eq rfl) (by decide)
  obtain ⟨fs, hr, hrun, hended, hW, hsame⟩ := X_1.leave (v := none) (fun _ => rfl)
  refine ⟨_, _, pre0 _ ?_, hrun, hended, _, _, rfl, ?_, ⟨_, rfl⟩, hW, hsame.mono (by decide) (by decide)⟩
  · show Steps p.tables e below (s₁.setTop (mkF m 0 #[.val (.ref a1)] [])) _
    refine XS.aloadN X0.here hx rfl (hb hby d1_0) rfl rfl ?_
    show Steps p.tables e below (s₁.setTop (mkF m 1 #[.val (.ref a1)] [(.ref a1)])) _
    refine st_1 _ ?_
    show Steps p.tables e below (T_1.setTop (mkF m 4 #[.val (.ref a1)] [])) _
    exact X_1.returnOut hx Bd.returns (hb hby d1_4) hr
  · show Q1 Z a1 h0 n0 _ T_1.heap _
    rw [e_1]
    exact ⟨rfl, N0, rfl⟩
theorem d4_0 : decode jdk_29_method_65_code 0 = .ok (.iload_n 0, 1) := by decide +kernel
theorem d4_1 : decode jdk_29_method_65_code 1 = .ok (.iload_n 1, 1) := by decide +kernel
theorem d4_2 : decode jdk_29_method_65_code 2 = .ok (.if_icmp .lt 7, 3) := by decide +kernel
theorem d4_9 : decode jdk_29_method_65_code 9 = .ok (.iload_n 1, 1) := by decide +kernel
theorem d4_10 : decode jdk_29_method_65_code 10 = .ok (.ireturn, 1) := by decide +kernel
theorem d4_5 : decode jdk_29_method_65_code 5 = .ok (.iload_n 0, 1) := by decide +kernel
theorem d4_6 : decode jdk_29_method_65_code 6 = .ok (.goto 4, 3) := by decide +kernel
theorem ef_4_II (m : MethodId) (x0 : Int32) (x1 : Int32) : entryFrame m #[(.int x0), (.int x1)] 2 = mkF m 0 #[.val (.int x0), .val (.int x1)] [] := by first | (simp [entryFrame, mkF, argsToLocals, Value.category]; done) | rfl
def own_max (p1 : Int32) (p2 : Int32) : Int32 := if p1 < p2 then p2 else p1
def Q4 (p1 : Int32) (p2 : Int32) (h0 : Heap) (n0 : Nat) (v : Option Value) (h : Heap) (L : List Loc) : Prop := v = some (.int (own_max p1 p2)) ∧ Fr n0 L ∧ h = h0
set_option maxRecDepth 65536 in
set_option maxHeartbeats 40000000 in
theorem rm4 (l : Launch) (Z : State) (a0 : Array Value) (hw : ∀ d ∈ tables_1, d.before a0 Z = true) (ws : List Jvm.Cond) (p1 : Int32) (p2 : Int32) (h0 : Heap) (n0 : Nat) (Z0 : n0 ≤ h0.size)  :
    MetFree l (⟨"java/lang/Math", "max", "(II)I"⟩ : MethodName) (head1 (Jvm.Cond.code (⟨"java/lang/Math", "max", "(II)I"⟩ : MethodName) jdk_29_method_65_code 2 (some .int) :: ws) ({ frames := 0, cells := 0, slots := 0, locals := 0 } : Room)) (fun a U => a = #[(.int p1), (.int p2)] ∧ Z.Warmed39 U.vm ∧ U.heap = h0) (fun _ _ _ _ _ => True) (fun _ U o U' => ∃ v L, o = .returned v ∧ Q4 p1 p2 h0 n0 v U'.heap L ∧ FrameEnd U o U' L ({ frames := 0, cells := 0, slots := 0, locals := 0 } : Room).cells ({ frames := 0, cells := 0, slots := 0, locals := 0 } : Room).slots) := by
  refine MetFree.of_bodySF (Jvm.Free.JP.mathPlain rfl (by decide +kernel)) hisR ?_
  intro p e s m args below meth c s₁ Bd hml0 hP hK
  obtain ⟨rfl, hZ, hh⟩ := hP
  have hx := Bd.exec
  have hby := Bd.bytes
  have hml : c.maxLocals = 2 := hml0
  have hown : s.vm.findClass "java/lang/Math" = some m.cls := findClass_of_methodNamed Bd.named
  have hnm := (name_of_methodNamed Bd.named Bd.method).1
  have X0 : Stand p l e ({ frames := 0, cells := 0, slots := 0, locals := 0 } : Room) s m #[(.int p1), (.int p2)] below meth c s₁ [] 0 0 := Stand.of_body Bd
  have e0 : s₁.heap = h0 := by rw [← hh, Bd.state]; rfl
  have N0 := Fr.nil n0
  have pre0 : ∀ t, Steps p.tables e below (s₁.setTop (mkF m 0 #[.val (.int p1), .val (.int p2)] [])) t → Steps p.tables e below (s₁.setTop (entryFrame m #[(.int p1), (.int p2)] 2)) t := fun t k => castTop (ef_4_II m p1 p2) k
  have pr_1 : ∀ t, Steps p.tables e below (s₁.setTop (mkF m 2 #[.val (.int p1), .val (.int p2)] [(.int p2), (.int p1)])) t → Steps p.tables e below (s₁.setTop (entryFrame m #[(.int p1), (.int p2)] 2)) t := fun t k => by
    refine pre0 _ ?_
    show Steps p.tables e below (s₁.setTop (mkF m 0 #[.val (.int p1), .val (.int p2)] [])) _
    refine XS.iloadN X0.here hx rfl (hb hby d4_0) rfl ?_
    show Steps p.tables e below (s₁.setTop (mkF m 1 #[.val (.int p1), .val (.int p2)] [(.int p1)])) _
    refine XS.iloadN X0.here hx rfl (hb hby d4_1) rfl ?_
    exact k
  by_cases hc_2 : p1 < p2
  · obtain ⟨fs, hr, hrun, hended, hW, hsame⟩ := X0.leave (v := some (.int p2)) (fun h => by rw [Bd.returns] at h; cases h)
    refine ⟨_, _, pr_1 _ ?_, hrun, hended, _, _, rfl, ?_, ⟨_, rfl⟩, hW, hsame.mono (by decide) (by decide)⟩
    · show Steps p.tables e below (s₁.setTop (mkF m 2 #[.val (.int p1), .val (.int p2)] [(.int p2), (.int p1)])) _
      refine XS.icmpYes X0.here hx rfl (pc0 := 2) (pc' := 9) rfl (hb hby d4_2) rfl (tlt hc_2).1 (by decide) (by decide) ?_
      show Steps p.tables e below (s₁.setTop (mkF m 9 #[.val (.int p1), .val (.int p2)] [])) _
      refine XS.iloadN X0.here hx rfl (hb hby d4_9) rfl ?_
      show Steps p.tables e below (s₁.setTop (mkF m 10 #[.val (.int p1), .val (.int p2)] [(.int p2)])) _
      exact retI X0 hx Bd.returns (hb hby d4_10) hr
    · show Q4 p1 p2 h0 n0 _ s₁.heap _
      rw [e0]
      exact ⟨by rw [own_max, if_pos hc_2], N0, rfl⟩
  · obtain ⟨fs, hr, hrun, hended, hW, hsame⟩ := X0.leave (v := some (.int p1)) (fun h => by rw [Bd.returns] at h; cases h)
    refine ⟨_, _, pr_1 _ ?_, hrun, hended, _, _, rfl, ?_, ⟨_, rfl⟩, hW, hsame.mono (by decide) (by decide)⟩
    · show Steps p.tables e below (s₁.setTop (mkF m 2 #[.val (.int p1), .val (.int p2)] [(.int p2), (.int p1)])) _
      refine XS.icmpNo X0.here hx rfl (hb hby d4_2) rfl (flt hc_2).1 ?_
      show Steps p.tables e below (s₁.setTop (mkF m 5 #[.val (.int p1), .val (.int p2)] [])) _
      refine XS.iloadN X0.here hx rfl (hb hby d4_5) rfl ?_
      show Steps p.tables e below (s₁.setTop (mkF m 6 #[.val (.int p1), .val (.int p2)] [(.int p1)])) _
      refine XS.goto X0.here hx rfl (pc0 := 6) (pc' := 10) rfl (hb hby d4_6) (by decide) (by decide) ?_
      show Steps p.tables e below (s₁.setTop (mkF m 10 #[.val (.int p1), .val (.int p2)] [(.int p1)])) _
      exact retI X0 hx Bd.returns (hb hby d4_10) hr
    · show Q4 p1 p2 h0 n0 _ s₁.heap _
      rw [e0]
      exact ⟨by rw [own_max, if_neg hc_2], N0, rfl⟩
theorem d3_0 : decode prog_1_method_2_code 0 = .ok (.aload_n 0, 1) := by decide +kernel
theorem d3_1 : decode prog_1_method_2_code 1 = .ok (.dup, 1) := by decide +kernel
theorem d3_2 : decode prog_1_method_2_code 2 = .ok (.getfield 7, 3) := by decide +kernel
theorem d3_5 : decode prog_1_method_2_code 5 = .ok (.iconst 1, 1) := by decide +kernel
theorem d3_6 : decode prog_1_method_2_code 6 = .ok (.iadd, 1) := by decide +kernel
theorem d3_7 : decode prog_1_method_2_code 7 = .ok (.putfield 7, 3) := by decide +kernel
theorem d3_10 : decode prog_1_method_2_code 10 = .ok (.aload_n 0, 1) := by decide +kernel
theorem d3_11 : decode prog_1_method_2_code 11 = .ok (.aload_n 0, 1) := by decide +kernel
theorem d3_12 : decode prog_1_method_2_code 12 = .ok (.getfield 13, 3) := by decide +kernel
theorem d3_15 : decode prog_1_method_2_code 15 = .ok (.iload_n 1, 1) := by decide +kernel
theorem pd_1 : parseMethodDescriptor "(II)I" = some ⟨[.int, .int], some .int⟩ := by decide +kernel
theorem d3_16 : decode prog_1_method_2_code 16 = .ok (.invokestatic 16, 3) := by decide +kernel
theorem d3_19 : decode prog_1_method_2_code 19 = .ok (.putfield 13, 3) := by decide +kernel
theorem d3_22 : decode prog_1_method_2_code 22 = .ok (.return_, 1) := by decide +kernel
theorem ef_3_RI (m : MethodId) (x0 : Addr) (x1 : Int32) : entryFrame m #[(.ref x0), (.int x1)] 2 = mkF m 0 #[.val (.ref x0), .val (.int x1)] [] := by first | (simp [entryFrame, mkF, argsToLocals, Value.category]; done) | rfl
def Q3 (Z : State) (a1 : Addr) (p2 : Int32) (k3 : Int32) (k4 : Int32) (h0 : Heap) (n0 : Nat) (v : Option Value) (h : Heap) (L : List Loc) : Prop := v = none ∧ Fr n0 L ∧ Keep h0 h [a1] ∧ Exa Z h a1 "com/example/imply/imply/CheckStatistics" ∧ Fld Z h a1 "com/example/imply/imply/CheckStatistics" "checks" "I" (.int (k3 + (1 : Int32))) ∧ Fld Z h a1 "com/example/imply/imply/CheckStatistics" "maxIndividuals" "I" (.int (own_max k4 p2))
theorem pn_3 : plainName "com/example/imply/imply/CheckStatistics" = true := by first | (simp [plainName, overriddenIn]; done) | decide +kernel
set_option maxRecDepth 65536 in
set_option maxHeartbeats 40000000 in
theorem rm3 (l : Launch) (Z : State) (a0 : Array Value) (hw : ∀ d ∈ tables_1, d.before a0 Z = true) (ws : List Jvm.Cond) (a1 : Addr) (p2 : Int32) (k3 : Int32) (k4 : Int32) (h0 : Heap) (n0 : Nat) (Z0 : n0 ≤ h0.size) (g_a1 : n0 ≤ a1) (F0 : Exa Z h0 a1 "com/example/imply/imply/CheckStatistics") (F1 : Fld Z h0 a1 "com/example/imply/imply/CheckStatistics" "checks" "I" (.int k3)) (F2 : Fld Z h0 a1 "com/example/imply/imply/CheckStatistics" "maxIndividuals" "I" (.int k4)) :
    MetFree l (⟨"com/example/imply/imply/CheckStatistics", "add", "(I)V"⟩ : MethodName) (head1 (Jvm.Cond.code (⟨"com/example/imply/imply/CheckStatistics", "add", "(I)V"⟩ : MethodName) prog_1_method_2_code 2 none :: ws) ({ frames := 1, cells := 0, slots := 0, locals := 14 } : Room)) (fun a U => a = #[(.ref a1), (.int p2)] ∧ Z.Warmed39 U.vm ∧ U.heap = h0) (fun _ _ _ _ _ => True) (fun _ U o U' => ∃ v L, o = .returned v ∧ Q3 Z a1 p2 k3 k4 h0 n0 v U'.heap L ∧ FrameEnd U o U' L ({ frames := 1, cells := 0, slots := 0, locals := 14 } : Room).cells ({ frames := 1, cells := 0, slots := 0, locals := 14 } : Room).slots) := by
  refine MetFree.of_bodySF (plainFor_of_name pn_3) hisR ?_
  intro p e s m args below meth c s₁ Bd hml0 hP hK
  obtain ⟨rfl, hZ, hh⟩ := hP
  have hx := Bd.exec
  have hby := Bd.bytes
  have hml : c.maxLocals = 2 := hml0
  have hown : s.vm.findClass "com/example/imply/imply/CheckStatistics" = some m.cls := findClass_of_methodNamed Bd.named
  have hnm := (name_of_methodNamed Bd.named Bd.method).1
  have X0 : Stand p l e ({ frames := 1, cells := 0, slots := 0, locals := 14 } : Room) s m #[(.ref a1), (.int p2)] below meth c s₁ [] 0 0 := Stand.of_body Bd
  have e0 : s₁.heap = h0 := by rw [← hh, Bd.state]; rfl
  have N0 := Fr.nil n0
  have pre0 : ∀ t, Steps p.tables e below (s₁.setTop (mkF m 0 #[.val (.ref a1), .val (.int p2)] [])) t → Steps p.tables e below (s₁.setTop (entryFrame m #[(.ref a1), (.int p2)] 2)) t := fun t k => castTop (ef_3_RI m a1 p2) k
  obtain ⟨T_1, X_1, e_1, st_1⟩ := getF X0 hx hZ hown (host := "") (Or.inl (hw _ (List.mem_of_getElem? (i := 14) rfl))) Via.refl e0 F1 (g := (mkF m 2 #[.val (.ref a1), .val (.int p2)] [(.ref a1), (.ref a1)])) rfl rfl (hb hby d3_2)
  obtain ⟨T_2, h_2, X_2, e_2, W_2, st_2⟩ := putF X_1 hx hZ hown (host := "") (Or.inl (hw _ (List.mem_of_getElem? (i := 14) rfl))) Via.refl e_1 F1 F0 (Or.inl (hw _ (List.mem_of_getElem? (i := 15) rfl))) (hw _ (List.mem_of_getElem? (i := 1) rfl)) (ty := .int) (by decide) rfl rfl (g := (mkF m 7 #[.val (.ref a1), .val (.int p2)] [(.int (k3 + (1 : Int32))), (.ref a1)])) rfl rfl (hb hby d3_7)
  have N_2 := Fr.snoc X_2 N0 g_a1
  have fw_2 : Fld Z h_2 a1 "com/example/imply/imply/CheckStatistics" "checks" "I" (.int (k3 + (1 : Int32))) := F1.same W_2
  have f_2_0 : Exa Z h_2 a1 "com/example/imply/imply/CheckStatistics" := F0.wr W_2
  have f_2_2 : Fld Z h_2 a1 "com/example/imply/imply/CheckStatistics" "maxIndividuals" "I" (.int k4) := F2.other W_2 (Or.inr (slot_ne (Or.inl (hw _ (List.mem_of_getElem? (i := 17) rfl))) (Or.inl (hw _ (List.mem_of_getElem? (i := 15) rfl))) (by decide) (t := .int) (t' := .int) (by decide) (by decide)))
  have Z_2 : n0 ≤ h_2.size := Nat.le_trans Z0 (Keep.of_wr W_2).1
  have K_2 : Keep h0 h_2 [a1] := (Keep.refl h0 [a1]).wr W_2 (Or.inl (List.mem_of_getElem? (i := 0) rfl))
  obtain ⟨T_3, X_3, e_3, st_3⟩ := getF X_2 hx hZ hown (host := "") (Or.inl (hw _ (List.mem_of_getElem? (i := 16) rfl))) Via.refl e_2 f_2_2 (g := (mkF m 12 #[.val (.ref a1), .val (.int p2)] [(.ref a1), (.ref a1)])) rfl rfl (hb hby d3_12)
  obtain ⟨_, _, ⟨T_4, L_4, k_4, n_4⟩, -, X_4, ⟨Lc_4, hQ_4, l_4, y_4, z_4⟩, st_4⟩ := Jvm.LawKit.callS X_3 hx (y := (⟨"java/lang/Math", "max", "(II)I"⟩ : MethodName)) hown (mvT hZ (hw _ (List.mem_of_getElem? (i := 18) rfl))) (mvT hZ (hw _ (List.mem_of_getElem? (i := 19) rfl))) (mvT hZ (hw _ (List.mem_of_getElem? (i := 20) rfl))) (mvT hZ (hw _ (List.mem_of_getElem? (i := 21) rfl))) (by decide) (backOf (W := 1) (rm4 l Z a0 hw [] k4 p2 h_2 n0 Z_2) hZ (hw _ (List.mem_of_getElem? (i := 21) rfl)) (hw _ (List.mem_of_getElem? (i := 20) rfl)) (by decide) (by decide)) (g := (mkF m 16 #[.val (.ref a1), .val (.int p2)] [(.int p2), (.int k4), (.ref a1)])) rfl (by rw [hml]; rfl) (argsL := [(.int k4), (.int p2)]) (rest := [(.ref a1)]) (lenOf pd_1 rfl) rfl (by show 2 * 0 + _ ≤ _; exact Nat.le_of_eq rfl) (hb hby d3_16) (fun _ _ => ⟨rfl, e_3, (by decide : 0 + 0 ≤ _), (by decide : 0 + 0 ≤ _)⟩)
  dsimp only [Pt.U, Pt.locs, Pt.cells, Pt.slots] at X_4 l_4 y_4 z_4 st_4 hQ_4
  subst l_4 y_4 z_4
  obtain ⟨rfl, N_4q, e_4⟩ := hQ_4
  have N_4 := Fr.app N_2 N_4q
  obtain ⟨T_5, h_5, X_5, e_5, W_5, st_5⟩ := putF X_4 hx hZ hown (host := "") (Or.inl (hw _ (List.mem_of_getElem? (i := 16) rfl))) Via.refl e_4 f_2_2 f_2_0 (Or.inl (hw _ (List.mem_of_getElem? (i := 17) rfl))) (hw _ (List.mem_of_getElem? (i := 1) rfl)) (ty := .int) (by decide) rfl rfl (g := (mkF m 19 #[.val (.ref a1), .val (.int p2)] [(.int (own_max k4 p2)), (.ref a1)])) rfl rfl (hb hby d3_19)
  have N_5 := Fr.snoc X_5 N_4 g_a1
  have fw_5 : Fld Z h_5 a1 "com/example/imply/imply/CheckStatistics" "maxIndividuals" "I" (.int (own_max k4 p2)) := f_2_2.same W_5
  have f_5_0 : Exa Z h_5 a1 "com/example/imply/imply/CheckStatistics" := f_2_0.wr W_5
  have f_5_2 : Fld Z h_5 a1 "com/example/imply/imply/CheckStatistics" "checks" "I" (.int (k3 + (1 : Int32))) := fw_2.other W_5 (Or.inr (slot_ne (Or.inl (hw _ (List.mem_of_getElem? (i := 15) rfl))) (Or.inl (hw _ (List.mem_of_getElem? (i := 17) rfl))) (by decide) (t := .int) (t' := .int) (by decide) (by decide)))
  have Z_5 : n0 ≤ h_5.size := Nat.le_trans Z_2 (Keep.of_wr W_5).1
  have K_5 : Keep h0 h_5 [a1] := K_2.wr W_5 (Or.inl (List.mem_of_getElem? (i := 0) rfl))
  obtain ⟨fs, hr, hrun, hended, hW, hsame⟩ := X_5.leave (v := none) (fun _ => rfl)
  refine ⟨_, _, pre0 _ ?_, hrun, hended, _, _, rfl, ?_, ⟨_, rfl⟩, hW, hsame.mono (by decide) (by decide)⟩
  · show Steps p.tables e below (s₁.setTop (mkF m 0 #[.val (.ref a1), .val (.int p2)] [])) _
    refine XS.aloadN X0.here hx rfl (hb hby d3_0) rfl rfl ?_
    show Steps p.tables e below (s₁.setTop (mkF m 1 #[.val (.ref a1), .val (.int p2)] [(.ref a1)])) _
    refine XS.dup X0.here hx rfl (hb hby d3_1) rfl rfl ?_
    show Steps p.tables e below (s₁.setTop (mkF m 2 #[.val (.ref a1), .val (.int p2)] [(.ref a1), (.ref a1)])) _
    refine st_1 _ ?_
    show Steps p.tables e below (T_1.setTop (mkF m 5 #[.val (.ref a1), .val (.int p2)] [(.int k3), (.ref a1)])) _
    refine XS.iconst X_1.here hx rfl (hb hby d3_5) ?_
    show Steps p.tables e below (T_1.setTop (mkF m 6 #[.val (.ref a1), .val (.int p2)] [(.int (1 : Int32)), (.int k3), (.ref a1)])) _
    refine XS.iadd X_1.here hx rfl (hb hby d3_6) rfl ?_
    show Steps p.tables e below (T_1.setTop (mkF m 7 #[.val (.ref a1), .val (.int p2)] [(.int (k3 + (1 : Int32))), (.ref a1)])) _
    refine st_2 _ ?_
    show Steps p.tables e below (T_2.setTop (mkF m 10 #[.val (.ref a1), .val (.int p2)] [])) _
    refine XS.aloadN X_2.here hx rfl (hb hby d3_10) rfl rfl ?_
    show Steps p.tables e below (T_2.setTop (mkF m 11 #[.val (.ref a1), .val (.int p2)] [(.ref a1)])) _
    refine XS.aloadN X_2.here hx rfl (hb hby d3_11) rfl rfl ?_
    show Steps p.tables e below (T_2.setTop (mkF m 12 #[.val (.ref a1), .val (.int p2)] [(.ref a1), (.ref a1)])) _
    refine st_3 _ ?_
    show Steps p.tables e below (T_3.setTop (mkF m 15 #[.val (.ref a1), .val (.int p2)] [(.int k4), (.ref a1)])) _
    refine XS.iloadN X_3.here hx rfl (hb hby d3_15) rfl ?_
    show Steps p.tables e below (T_3.setTop (mkF m 16 #[.val (.ref a1), .val (.int p2)] [(.int p2), (.int k4), (.ref a1)])) _
    refine st_4 _ ?_
    show Steps p.tables e below (T_4.setTop (mkF m 19 #[.val (.ref a1), .val (.int p2)] [(.int (own_max k4 p2)), (.ref a1)])) _
    refine st_5 _ ?_
    show Steps p.tables e below (T_5.setTop (mkF m 22 #[.val (.ref a1), .val (.int p2)] [])) _
    exact X_5.returnOut hx Bd.returns (hb hby d3_22) hr
  · show Q3 Z a1 p2 k3 k4 h0 n0 _ T_5.heap _
    rw [e_5]
    exact ⟨rfl, N_5, K_5, f_5_0, f_5_2, fw_5⟩
theorem d5_0 : decode prog_1_method_3_code 0 = .ok (.aload_n 0, 1) := by decide +kernel
theorem d5_1 : decode prog_1_method_3_code 1 = .ok (.getfield 7, 3) := by decide +kernel
theorem d5_4 : decode prog_1_method_3_code 4 = .ok (.ireturn, 1) := by decide +kernel
theorem ef_5_R (m : MethodId) (x0 : Addr) : entryFrame m #[(.ref x0)] 1 = mkF m 0 #[.val (.ref x0)] [] := by first | (simp [entryFrame, mkF, argsToLocals, Value.category]; done) | rfl
def Q5 (Z : State) (a1 : Addr) (k3 : Int32) (h0 : Heap) (n0 : Nat) (v : Option Value) (h : Heap) (L : List Loc) : Prop := v = some (.int k3) ∧ Fr n0 L ∧ h = h0
theorem pn_5 : plainName "com/example/imply/imply/CheckStatistics" = true := by first | (simp [plainName, overriddenIn]; done) | decide +kernel
set_option maxRecDepth 65536 in
set_option maxHeartbeats 40000000 in
theorem rm5 (l : Launch) (Z : State) (a0 : Array Value) (hw : ∀ d ∈ tables_1, d.before a0 Z = true) (ws : List Jvm.Cond) (a1 : Addr) (k3 : Int32) (h0 : Heap) (n0 : Nat) (Z0 : n0 ≤ h0.size) (F0 : Fld Z h0 a1 "com/example/imply/imply/CheckStatistics" "checks" "I" (.int k3)) :
    MetFree l (⟨"com/example/imply/imply/CheckStatistics", "checks", "()I"⟩ : MethodName) (head1 (Jvm.Cond.code (⟨"com/example/imply/imply/CheckStatistics", "checks", "()I"⟩ : MethodName) prog_1_method_3_code 1 (some .int) :: ws) ({ frames := 0, cells := 0, slots := 0, locals := 0 } : Room)) (fun a U => a = #[(.ref a1)] ∧ Z.Warmed39 U.vm ∧ U.heap = h0) (fun _ _ _ _ _ => True) (fun _ U o U' => ∃ v L, o = .returned v ∧ Q5 Z a1 k3 h0 n0 v U'.heap L ∧ FrameEnd U o U' L ({ frames := 0, cells := 0, slots := 0, locals := 0 } : Room).cells ({ frames := 0, cells := 0, slots := 0, locals := 0 } : Room).slots) := by
  refine MetFree.of_bodySF (plainFor_of_name pn_5) hisR ?_
  intro p e s m args below meth c s₁ Bd hml0 hP hK
  obtain ⟨rfl, hZ, hh⟩ := hP
  have hx := Bd.exec
  have hby := Bd.bytes
  have hml : c.maxLocals = 1 := hml0
  have hown : s.vm.findClass "com/example/imply/imply/CheckStatistics" = some m.cls := findClass_of_methodNamed Bd.named
  have hnm := (name_of_methodNamed Bd.named Bd.method).1
  have X0 : Stand p l e ({ frames := 0, cells := 0, slots := 0, locals := 0 } : Room) s m #[(.ref a1)] below meth c s₁ [] 0 0 := Stand.of_body Bd
  have e0 : s₁.heap = h0 := by rw [← hh, Bd.state]; rfl
  have N0 := Fr.nil n0
  have pre0 : ∀ t, Steps p.tables e below (s₁.setTop (mkF m 0 #[.val (.ref a1)] [])) t → Steps p.tables e below (s₁.setTop (entryFrame m #[(.ref a1)] 1)) t := fun t k => castTop (ef_5_R m a1) k
  obtain ⟨T_1, X_1, e_1, st_1⟩ := getF X0 hx hZ hown (host := "") (Or.inl (hw _ (List.mem_of_getElem? (i := 14) rfl))) Via.refl e0 F0 (g := (mkF m 1 #[.val (.ref a1)] [(.ref a1)])) rfl rfl (hb hby d5_1)
  obtain ⟨fs, hr, hrun, hended, hW, hsame⟩ := X_1.leave (v := some (.int k3)) (fun h => by rw [Bd.returns] at h; cases h)
  refine ⟨_, _, pre0 _ ?_, hrun, hended, _, _, rfl, ?_, ⟨_, rfl⟩, hW, hsame.mono (by decide) (by decide)⟩
  · show Steps p.tables e below (s₁.setTop (mkF m 0 #[.val (.ref a1)] [])) _
    refine XS.aloadN X0.here hx rfl (hb hby d5_0) rfl rfl ?_
    show Steps p.tables e below (s₁.setTop (mkF m 1 #[.val (.ref a1)] [(.ref a1)])) _
    refine st_1 _ ?_
    show Steps p.tables e below (T_1.setTop (mkF m 4 #[.val (.ref a1)] [(.int k3)])) _
    exact retI X_1 hx Bd.returns (hb hby d5_4) hr
  · show Q5 Z a1 k3 h0 n0 _ T_1.heap _
    rw [e_1]
    exact ⟨rfl, N0, rfl⟩
theorem d6_0 : decode prog_1_method_4_code 0 = .ok (.aload_n 0, 1) := by decide +kernel
theorem d6_1 : decode prog_1_method_4_code 1 = .ok (.getfield 13, 3) := by decide +kernel
theorem d6_4 : decode prog_1_method_4_code 4 = .ok (.ireturn, 1) := by decide +kernel
theorem ef_6_R (m : MethodId) (x0 : Addr) : entryFrame m #[(.ref x0)] 1 = mkF m 0 #[.val (.ref x0)] [] := by first | (simp [entryFrame, mkF, argsToLocals, Value.category]; done) | rfl
def Q6 (Z : State) (a1 : Addr) (k3 : Int32) (h0 : Heap) (n0 : Nat) (v : Option Value) (h : Heap) (L : List Loc) : Prop := v = some (.int k3) ∧ Fr n0 L ∧ h = h0
theorem pn_6 : plainName "com/example/imply/imply/CheckStatistics" = true := by first | (simp [plainName, overriddenIn]; done) | decide +kernel
set_option maxRecDepth 65536 in
set_option maxHeartbeats 40000000 in
theorem rm6 (l : Launch) (Z : State) (a0 : Array Value) (hw : ∀ d ∈ tables_1, d.before a0 Z = true) (ws : List Jvm.Cond) (a1 : Addr) (k3 : Int32) (h0 : Heap) (n0 : Nat) (Z0 : n0 ≤ h0.size) (F0 : Fld Z h0 a1 "com/example/imply/imply/CheckStatistics" "maxIndividuals" "I" (.int k3)) :
    MetFree l (⟨"com/example/imply/imply/CheckStatistics", "maxIndividuals", "()I"⟩ : MethodName) (head1 (Jvm.Cond.code (⟨"com/example/imply/imply/CheckStatistics", "maxIndividuals", "()I"⟩ : MethodName) prog_1_method_4_code 1 (some .int) :: ws) ({ frames := 0, cells := 0, slots := 0, locals := 0 } : Room)) (fun a U => a = #[(.ref a1)] ∧ Z.Warmed39 U.vm ∧ U.heap = h0) (fun _ _ _ _ _ => True) (fun _ U o U' => ∃ v L, o = .returned v ∧ Q6 Z a1 k3 h0 n0 v U'.heap L ∧ FrameEnd U o U' L ({ frames := 0, cells := 0, slots := 0, locals := 0 } : Room).cells ({ frames := 0, cells := 0, slots := 0, locals := 0 } : Room).slots) := by
  refine MetFree.of_bodySF (plainFor_of_name pn_6) hisR ?_
  intro p e s m args below meth c s₁ Bd hml0 hP hK
  obtain ⟨rfl, hZ, hh⟩ := hP
  have hx := Bd.exec
  have hby := Bd.bytes
  have hml : c.maxLocals = 1 := hml0
  have hown : s.vm.findClass "com/example/imply/imply/CheckStatistics" = some m.cls := findClass_of_methodNamed Bd.named
  have hnm := (name_of_methodNamed Bd.named Bd.method).1
  have X0 : Stand p l e ({ frames := 0, cells := 0, slots := 0, locals := 0 } : Room) s m #[(.ref a1)] below meth c s₁ [] 0 0 := Stand.of_body Bd
  have e0 : s₁.heap = h0 := by rw [← hh, Bd.state]; rfl
  have N0 := Fr.nil n0
  have pre0 : ∀ t, Steps p.tables e below (s₁.setTop (mkF m 0 #[.val (.ref a1)] [])) t → Steps p.tables e below (s₁.setTop (entryFrame m #[(.ref a1)] 1)) t := fun t k => castTop (ef_6_R m a1) k
  obtain ⟨T_1, X_1, e_1, st_1⟩ := getF X0 hx hZ hown (host := "") (Or.inl (hw _ (List.mem_of_getElem? (i := 16) rfl))) Via.refl e0 F0 (g := (mkF m 1 #[.val (.ref a1)] [(.ref a1)])) rfl rfl (hb hby d6_1)
  obtain ⟨fs, hr, hrun, hended, hW, hsame⟩ := X_1.leave (v := some (.int k3)) (fun h => by rw [Bd.returns] at h; cases h)
  refine ⟨_, _, pre0 _ ?_, hrun, hended, _, _, rfl, ?_, ⟨_, rfl⟩, hW, hsame.mono (by decide) (by decide)⟩
  · show Steps p.tables e below (s₁.setTop (mkF m 0 #[.val (.ref a1)] [])) _
    refine XS.aloadN X0.here hx rfl (hb hby d6_0) rfl rfl ?_
    show Steps p.tables e below (s₁.setTop (mkF m 1 #[.val (.ref a1)] [(.ref a1)])) _
    refine st_1 _ ?_
    show Steps p.tables e below (T_1.setTop (mkF m 4 #[.val (.ref a1)] [(.int k3)])) _
    exact retI X_1 hx Bd.returns (hb hby d6_4) hr
  · show Q6 Z a1 k3 h0 n0 _ T_1.heap _
    rw [e_1]
    exact ⟨rfl, N0, rfl⟩
theorem own_k (p4 k : Int32) (h : k = p4 &&& (3 : Int32)) : k = (0 : Int32) ∨ k = (1 : Int32) ∨ k = (2 : Int32) ∨ k = (3 : Int32) := by
  have e1 : (p4 &&& (3 : Int32)).toInt = p4.toInt % 2 ^ 2 := Jvm.Kit.i32_mask p4 _ (k := 2) (by decide) (by decide)
  rw [← h] at e1
  simp only [← Int32.toInt_inj, show (0 : Int32).toInt = 0 from rfl, show (1 : Int32).toInt = 1 from rfl, show (2 : Int32).toInt = 2 from rfl, show (3 : Int32).toInt = 3 from rfl]
  omega
theorem pd_2 : parseMethodDescriptor "()V" = some ⟨[], none⟩ := by decide +kernel
theorem pd_3 : parseMethodDescriptor "()I" = some ⟨[], some .int⟩ := by decide +kernel
theorem pd_4 : parseMethodDescriptor "(I)V" = some ⟨[.int], none⟩ := by decide +kernel
theorem ef_0_IIII (m : MethodId) (x0 : Int32) (x1 : Int32) (x2 : Int32) (x3 : Int32) : entryFrame m #[(.int x0), (.int x1), (.int x2), (.int x3)] maxLocals = mkF m 0 #[.val (.int x0), .val (.int x1), .val (.int x2), .val (.int x3), .unset, .unset, .unset] [] := by first | (simp [entryFrame, mkF, argsToLocals, Value.category, maxLocals]; done) | rfl
def Q0 (n0 : Nat) (v : Option Value) (h : Heap) (L : List Loc) : Prop := v = some (.int (1 : Int32)) ∧ Fr n0 L
theorem pn_0 : plainName "com/example/imply/imply/CheckStatisticsAddPinLaw" = true := by first | (simp [plainName, overriddenIn]; done) | decide +kernel
set_option maxRecDepth 65536 in
set_option maxHeartbeats 40000000 in
theorem rm0 (l : Launch) (Z : State) (a0 : Array Value) (hw : ∀ d ∈ tables_1, d.before a0 Z = true) (ws : List Jvm.Cond) (p1 : Int32) (p2 : Int32) (p3 : Int32) (p4 : Int32) (h0 : Heap) (n0 : Nat) (Z0 : n0 ≤ h0.size)  :
    MetFree l x (head1 (Jvm.Cond.code x code maxLocals ret :: ws) room_1) (fun a U => a = #[(.int p1), (.int p2), (.int p3), (.int p4)] ∧ Z.Warmed39 U.vm ∧ U.heap = h0) (fun _ _ _ _ _ => True) (fun _ U o U' => ∃ v L, o = .returned v ∧ Q0 n0 v U'.heap L ∧ FrameEnd U o U' L room_1.cells room_1.slots) := by
  refine MetFree.of_bodySF (plainFor_of_name pn_0) hisR ?_
  intro p e s m args below meth c s₁ Bd hml0 hP hK
  obtain ⟨rfl, hZ, hh⟩ := hP
  have hx := Bd.exec
  have hby := Bd.bytes
  have hml : c.maxLocals = 7 := hml0
  have hown : s.vm.findClass "com/example/imply/imply/CheckStatisticsAddPinLaw" = some m.cls := findClass_of_methodNamed Bd.named
  have hnm := (name_of_methodNamed Bd.named Bd.method).1
  have X0 : Stand p l e room_1 s m #[(.int p1), (.int p2), (.int p3), (.int p4)] below meth c s₁ [] 0 0 := Stand.of_body Bd
  have e0 : s₁.heap = h0 := by rw [← hh, Bd.state]; rfl
  have N0 := Fr.nil n0
  have pre0 : ∀ t, Steps p.tables e below (s₁.setTop (mkF m 0 #[.val (.int p1), .val (.int p2), .val (.int p3), .val (.int p4), .unset, .unset, .unset] [])) t → Steps p.tables e below (s₁.setTop (entryFrame m #[(.int p1), (.int p2), (.int p3), (.int p4)] maxLocals)) t := fun t k => castTop (ef_0_IIII m p1 p2 p3 p4) k
  obtain ⟨T_1, h_1, X_1, e_1, E_1, A_1, D_1, -, st_1⟩ := newO X0 hx hZ hown (hw _ (List.mem_of_getElem? (i := 0) rfl)) (hw _ (List.mem_of_getElem? (i := 1) rfl)) (hw _ (List.mem_of_getElem? (i := 2) rfl)) e0 (g := (mkF m 5 #[.val (.int p1), .val (.int p2), .val (.int p3), .val (.int p4), .val (.int (p4 &&& (3 : Int32))), .unset, .unset] [])) rfl (hb hby at_5) (by decide) (by decide)
  obtain ⟨b_1, g_1⟩ : ∃ z, z = h0.size := ⟨_, rfl⟩
  rw [← g_1] at A_1 D_1 st_1
  have g_b_1 : n0 ≤ b_1 := Nat.le_trans Z0 (Nat.le_of_eq g_1.symm)
  have sz_b_1 : h0.size ≤ b_1 := Nat.le_trans ((Keep.refl h0 [])).1 (Nat.le_of_eq g_1.symm)
  have Z_1 : n0 ≤ h_1.size := Nat.le_trans Z0 E_1.1
  have K_1 : Keep h0 h_1 [] := (Keep.refl h0 []).ext E_1
  have fd_1_15 : Fld Z h_1 b_1 "com/example/imply/imply/CheckStatistics" "checks" "I" (.int (0 : Int32)) := D_1 (Or.inl (hw _ (List.mem_of_getElem? (i := 15) rfl))) (ty := .int) (by decide)
  have fd_1_17 : Fld Z h_1 b_1 "com/example/imply/imply/CheckStatistics" "maxIndividuals" "I" (.int (0 : Int32)) := D_1 (Or.inl (hw _ (List.mem_of_getElem? (i := 17) rfl))) (ty := .int) (by decide)
  obtain ⟨_, _, ⟨T_2, L_2, k_2, n_2⟩, -, X_2, ⟨Lc_2, hQ_2, l_2, y_2, z_2⟩, st_2⟩ := X_1.specialBack hx (y := (⟨"com/example/imply/imply/CheckStatistics", "<init>", "()V"⟩ : MethodName)) rfl hown (mvT hZ (hw _ (List.mem_of_getElem? (i := 3) rfl))) (mvT hZ (hw _ (List.mem_of_getElem? (i := 4) rfl))) (mvT hZ (hw _ (List.mem_of_getElem? (i := 5) rfl))) (by decide) (backOf (W := 1) (rm1 l Z a0 hw [] b_1 h_1 n0 Z_1 A_1) hZ (hw _ (List.mem_of_getElem? (i := 5) rfl)) (hw _ (List.mem_of_getElem? (i := 2) rfl)) (by decide) (by decide)) (g := (mkF m 9 #[.val (.int p1), .val (.int p2), .val (.int p3), .val (.int p4), .val (.int (p4 &&& (3 : Int32))), .unset, .unset] [(.ref b_1), (.ref b_1)])) rfl (by rw [hml]; rfl) (Steps.refl _) (a := b_1) (argsL := []) (rest := [(.ref b_1)]) (lenOf pd_2 rfl) rfl (by show 2 * 0 + _ ≤ _; exact Nat.le_of_eq rfl) (hb hby at_9) (fun _ _ => ⟨rfl, e_1, (by decide : 1 + 0 ≤ _), (by decide : 2 + 0 ≤ _)⟩)
  dsimp only [Pt.U, Pt.locs, Pt.cells, Pt.slots] at X_2 l_2 y_2 z_2 st_2 hQ_2
  subst l_2 y_2 z_2
  obtain ⟨rfl, N_2q, e_2⟩ := hQ_2
  have N_2 := Fr.app N0 N_2q
  have pr_3 : ∀ t, Steps p.tables e below (T_2.setTop (mkF m 14 #[.val (.int p1), .val (.int p2), .val (.int p3), .val (.int p4), .val (.int (p4 &&& (3 : Int32))), .val (.ref b_1), .unset] [])) t → Steps p.tables e below (s₁.setTop (entryFrame m #[(.int p1), (.int p2), (.int p3), (.int p4)] maxLocals)) t := fun t k => by
    refine pre0 _ ?_
    show Steps p.tables e below (s₁.setTop (mkF m 0 #[.val (.int p1), .val (.int p2), .val (.int p3), .val (.int p4), .unset, .unset, .unset] [])) _
    refine XS.iloadN X0.here hx rfl (hb hby at_0) rfl ?_
    show Steps p.tables e below (s₁.setTop (mkF m 1 #[.val (.int p1), .val (.int p2), .val (.int p3), .val (.int p4), .unset, .unset, .unset] [(.int p4)])) _
    refine XS.iconst X0.here hx rfl (hb hby at_1) ?_
    show Steps p.tables e below (s₁.setTop (mkF m 2 #[.val (.int p1), .val (.int p2), .val (.int p3), .val (.int p4), .unset, .unset, .unset] [(.int (3 : Int32)), (.int p4)])) _
    refine XS.iand X0.here hx rfl (hb hby at_2) rfl ?_
    show Steps p.tables e below (s₁.setTop (mkF m 3 #[.val (.int p1), .val (.int p2), .val (.int p3), .val (.int p4), .unset, .unset, .unset] [(.int (p4 &&& (3 : Int32)))])) _
    refine XS.istore X0.here hx rfl (hb hby at_3) rfl (l' := #[.val (.int p1), .val (.int p2), .val (.int p3), .val (.int p4), .val (.int (p4 &&& (3 : Int32))), .unset, .unset]) rfl ?_
    show Steps p.tables e below (s₁.setTop (mkF m 5 #[.val (.int p1), .val (.int p2), .val (.int p3), .val (.int p4), .val (.int (p4 &&& (3 : Int32))), .unset, .unset] [])) _
    refine st_1 _ ?_
    show Steps p.tables e below (T_1.setTop (mkF m 8 #[.val (.int p1), .val (.int p2), .val (.int p3), .val (.int p4), .val (.int (p4 &&& (3 : Int32))), .unset, .unset] [(.ref b_1)])) _
    refine XS.dup X_1.here hx rfl (hb hby at_8) rfl rfl ?_
    show Steps p.tables e below (T_1.setTop (mkF m 9 #[.val (.int p1), .val (.int p2), .val (.int p3), .val (.int p4), .val (.int (p4 &&& (3 : Int32))), .unset, .unset] [(.ref b_1), (.ref b_1)])) _
    refine st_2.trans ?_
    show Steps p.tables e below (T_2.setTop (mkF m 12 #[.val (.int p1), .val (.int p2), .val (.int p3), .val (.int p4), .val (.int (p4 &&& (3 : Int32))), .unset, .unset] [(.ref b_1)])) _
    refine XS.astore X_2.here hx rfl (hb hby at_12) rfl rfl (l' := #[.val (.int p1), .val (.int p2), .val (.int p3), .val (.int p4), .val (.int (p4 &&& (3 : Int32))), .val (.ref b_1), .unset]) rfl ?_
    exact k
  obtain ⟨k4, hk4⟩ : ∃ z, z = (p4 &&& (3 : Int32)) := ⟨_, rfl⟩
  rw [← hk4] at pr_3
  rcases own_k p4 k4 hk4 with rfl | rfl | rfl | rfl
  · obtain ⟨cq_4, kq_4, q_4a, q_4b, q_4c⟩ := isOf hZ e_2 A_1
    obtain ⟨_, _, ⟨T_4, L_4, k_4, n_4⟩, -, X_4, ⟨Lc_4, hQ_4, l_4, y_4, z_4⟩, st_4⟩ := X_2.virtualBack hx (y := (⟨"com/example/imply/imply/CheckStatistics", "checks", "()I"⟩ : MethodName)) (z := (⟨"com/example/imply/imply/CheckStatistics", "checks", "()I"⟩ : MethodName)) hown (mvT hZ (hw _ (List.mem_of_getElem? (i := 22) rfl))) (mvT hZ (hw _ (List.mem_of_getElem? (i := 23) rfl))) (notFace_of_selects (args := #[]) (mvT hZ (hw _ (List.mem_of_getElem? (i := 25) rfl)))) (mvT hZ (hw _ (List.mem_of_getElem? (i := 25) rfl))) (mvT hZ (hw _ (List.mem_of_getElem? (i := 24) rfl))) (by decide) (backOf (W := 0) (rm5 l Z a0 hw [] b_1 (0 : Int32) h_1 n0 Z_1 fd_1_15) hZ (hw _ (List.mem_of_getElem? (i := 26) rfl)) (hw _ (List.mem_of_getElem? (i := 2) rfl)) (by decide) (by decide)) q_4a q_4c (g := (mkF m 100 #[.val (.int p1), .val (.int p2), .val (.int p3), .val (.int p4), .val (.int (0 : Int32)), .val (.ref b_1), .val (.int (0 : Int32))] [(.ref b_1)])) rfl (by rw [hml]; rfl) (Steps.refl _) (argsL := []) (rest := []) (lenOf pd_3 rfl) rfl (by show 2 * 0 + _ ≤ _; exact Nat.le_of_eq rfl) (hb hby at_100) (fun _ _ => ⟨rfl, e_2, (by decide : 1 + 0 ≤ _), (by decide : 2 + 0 ≤ _)⟩)
    dsimp only [Pt.U, Pt.locs, Pt.cells, Pt.slots] at X_4 l_4 y_4 z_4 st_4 hQ_4
    subst l_4 y_4 z_4
    obtain ⟨rfl, N_4q, e_4⟩ := hQ_4
    have N_4 := Fr.app N_2 N_4q
    obtain ⟨cq_5, kq_5, q_5a, q_5b, q_5c⟩ := isOf hZ e_4 A_1
    obtain ⟨_, _, ⟨T_5, L_5, k_5, n_5⟩, -, X_5, ⟨Lc_5, hQ_5, l_5, y_5, z_5⟩, st_5⟩ := X_4.virtualBack hx (y := (⟨"com/example/imply/imply/CheckStatistics", "maxIndividuals", "()I"⟩ : MethodName)) (z := (⟨"com/example/imply/imply/CheckStatistics", "maxIndividuals", "()I"⟩ : MethodName)) hown (mvT hZ (hw _ (List.mem_of_getElem? (i := 27) rfl))) (mvT hZ (hw _ (List.mem_of_getElem? (i := 28) rfl))) (notFace_of_selects (args := #[]) (mvT hZ (hw _ (List.mem_of_getElem? (i := 30) rfl)))) (mvT hZ (hw _ (List.mem_of_getElem? (i := 30) rfl))) (mvT hZ (hw _ (List.mem_of_getElem? (i := 29) rfl))) (by decide) (backOf (W := 0) (rm6 l Z a0 hw [] b_1 (0 : Int32) h_1 n0 Z_1 fd_1_17) hZ (hw _ (List.mem_of_getElem? (i := 31) rfl)) (hw _ (List.mem_of_getElem? (i := 2) rfl)) (by decide) (by decide)) q_5a q_5c (g := (mkF m 110 #[.val (.int p1), .val (.int p2), .val (.int p3), .val (.int p4), .val (.int (0 : Int32)), .val (.ref b_1), .val (.int (0 : Int32))] [(.ref b_1)])) rfl (by rw [hml]; rfl) (Steps.refl _) (argsL := []) (rest := []) (lenOf pd_3 rfl) rfl (by show 2 * 0 + _ ≤ _; exact Nat.le_of_eq rfl) (hb hby at_110) (fun _ _ => ⟨rfl, e_4, (by decide : 1 + 0 ≤ _), (by decide : 2 + 0 ≤ _)⟩)
    dsimp only [Pt.U, Pt.locs, Pt.cells, Pt.slots] at X_5 l_5 y_5 z_5 st_5 hQ_5
    subst l_5 y_5 z_5
    obtain ⟨rfl, N_5q, e_5⟩ := hQ_5
    have N_5 := Fr.app N_4 N_5q
    obtain ⟨fs, hr, hrun, hended, hW, hsame⟩ := X_5.leave (v := some (.int (1 : Int32))) (fun h => by rw [Bd.returns] at h; cases h)
    refine ⟨_, _, pr_3 _ ?_, hrun, hended, _, _, rfl, ?_, ⟨_, rfl⟩, hW, hsame.mono (by decide) (by decide)⟩
    · show Steps p.tables e below (T_2.setTop (mkF m 14 #[.val (.int p1), .val (.int p2), .val (.int p3), .val (.int p4), .val (.int (0 : Int32)), .val (.ref b_1), .unset] [])) _
      refine XS.iload X_2.here hx rfl (hb hby at_14) rfl ?_
      show Steps p.tables e below (T_2.setTop (mkF m 16 #[.val (.int p1), .val (.int p2), .val (.int p3), .val (.int p4), .val (.int (0 : Int32)), .val (.ref b_1), .unset] [(.int (0 : Int32))])) _
      refine XS.iconst X_2.here hx rfl (hb hby at_16) ?_
      show Steps p.tables e below (T_2.setTop (mkF m 17 #[.val (.int p1), .val (.int p2), .val (.int p3), .val (.int p4), .val (.int (0 : Int32)), .val (.ref b_1), .unset] [(.int (1 : Int32)), (.int (0 : Int32))])) _
      refine XS.icmpYes X_2.here hx rfl (pc0 := 17) (pc' := 26) rfl (hb hby at_17) rfl (tlt (by decide : (0 : Int32) < (1 : Int32))).1 (by decide) (by decide) ?_
      show Steps p.tables e below (T_2.setTop (mkF m 26 #[.val (.int p1), .val (.int p2), .val (.int p3), .val (.int p4), .val (.int (0 : Int32)), .val (.ref b_1), .unset] [])) _
      refine XS.iload X_2.here hx rfl (hb hby at_26) rfl ?_
      show Steps p.tables e below (T_2.setTop (mkF m 28 #[.val (.int p1), .val (.int p2), .val (.int p3), .val (.int p4), .val (.int (0 : Int32)), .val (.ref b_1), .unset] [(.int (0 : Int32))])) _
      refine XS.iconst X_2.here hx rfl (hb hby at_28) ?_
      show Steps p.tables e below (T_2.setTop (mkF m 29 #[.val (.int p1), .val (.int p2), .val (.int p3), .val (.int p4), .val (.int (0 : Int32)), .val (.ref b_1), .unset] [(.int (2 : Int32)), (.int (0 : Int32))])) _
      refine XS.icmpYes X_2.here hx rfl (pc0 := 29) (pc' := 38) rfl (hb hby at_29) rfl (tlt (by decide : (0 : Int32) < (2 : Int32))).1 (by decide) (by decide) ?_
      show Steps p.tables e below (T_2.setTop (mkF m 38 #[.val (.int p1), .val (.int p2), .val (.int p3), .val (.int p4), .val (.int (0 : Int32)), .val (.ref b_1), .unset] [])) _
      refine XS.iload X_2.here hx rfl (hb hby at_38) rfl ?_
      show Steps p.tables e below (T_2.setTop (mkF m 40 #[.val (.int p1), .val (.int p2), .val (.int p3), .val (.int p4), .val (.int (0 : Int32)), .val (.ref b_1), .unset] [(.int (0 : Int32))])) _
      refine XS.iconst X_2.here hx rfl (hb hby at_40) ?_
      show Steps p.tables e below (T_2.setTop (mkF m 41 #[.val (.int p1), .val (.int p2), .val (.int p3), .val (.int p4), .val (.int (0 : Int32)), .val (.ref b_1), .unset] [(.int (3 : Int32)), (.int (0 : Int32))])) _
      refine XS.icmpYes X_2.here hx rfl (pc0 := 41) (pc' := 50) rfl (hb hby at_41) rfl (tlt (by decide : (0 : Int32) < (3 : Int32))).1 (by decide) (by decide) ?_
      show Steps p.tables e below (T_2.setTop (mkF m 50 #[.val (.int p1), .val (.int p2), .val (.int p3), .val (.int p4), .val (.int (0 : Int32)), .val (.ref b_1), .unset] [])) _
      refine XS.iconst X_2.here hx rfl (hb hby at_50) ?_
      show Steps p.tables e below (T_2.setTop (mkF m 51 #[.val (.int p1), .val (.int p2), .val (.int p3), .val (.int p4), .val (.int (0 : Int32)), .val (.ref b_1), .unset] [(.int (0 : Int32))])) _
      refine XS.istore X_2.here hx rfl (hb hby at_51) rfl (l' := #[.val (.int p1), .val (.int p2), .val (.int p3), .val (.int p4), .val (.int (0 : Int32)), .val (.ref b_1), .val (.int (0 : Int32))]) rfl ?_
      show Steps p.tables e below (T_2.setTop (mkF m 53 #[.val (.int p1), .val (.int p2), .val (.int p3), .val (.int p4), .val (.int (0 : Int32)), .val (.ref b_1), .val (.int (0 : Int32))] [])) _
      refine XS.iload X_2.here hx rfl (hb hby at_53) rfl ?_
      show Steps p.tables e below (T_2.setTop (mkF m 55 #[.val (.int p1), .val (.int p2), .val (.int p3), .val (.int p4), .val (.int (0 : Int32)), .val (.ref b_1), .val (.int (0 : Int32))] [(.int (0 : Int32))])) _
      refine XS.iconst X_2.here hx rfl (hb hby at_55) ?_
      show Steps p.tables e below (T_2.setTop (mkF m 56 #[.val (.int p1), .val (.int p2), .val (.int p3), .val (.int p4), .val (.int (0 : Int32)), .val (.ref b_1), .val (.int (0 : Int32))] [(.int (1 : Int32)), (.int (0 : Int32))])) _
      refine XS.icmpYes X_2.here hx rfl (pc0 := 56) (pc' := 68) rfl (hb hby at_56) rfl (tlt (by decide : (0 : Int32) < (1 : Int32))).1 (by decide) (by decide) ?_
      show Steps p.tables e below (T_2.setTop (mkF m 68 #[.val (.int p1), .val (.int p2), .val (.int p3), .val (.int p4), .val (.int (0 : Int32)), .val (.ref b_1), .val (.int (0 : Int32))] [])) _
      refine XS.iload X_2.here hx rfl (hb hby at_68) rfl ?_
      show Steps p.tables e below (T_2.setTop (mkF m 70 #[.val (.int p1), .val (.int p2), .val (.int p3), .val (.int p4), .val (.int (0 : Int32)), .val (.ref b_1), .val (.int (0 : Int32))] [(.int (0 : Int32))])) _
      refine XS.iconst X_2.here hx rfl (hb hby at_70) ?_
      show Steps p.tables e below (T_2.setTop (mkF m 71 #[.val (.int p1), .val (.int p2), .val (.int p3), .val (.int p4), .val (.int (0 : Int32)), .val (.ref b_1), .val (.int (0 : Int32))] [(.int (2 : Int32)), (.int (0 : Int32))])) _
      refine XS.icmpYes X_2.here hx rfl (pc0 := 71) (pc' := 83) rfl (hb hby at_71) rfl (tlt (by decide : (0 : Int32) < (2 : Int32))).1 (by decide) (by decide) ?_
      show Steps p.tables e below (T_2.setTop (mkF m 83 #[.val (.int p1), .val (.int p2), .val (.int p3), .val (.int p4), .val (.int (0 : Int32)), .val (.ref b_1), .val (.int (0 : Int32))] [])) _
      refine XS.iload X_2.here hx rfl (hb hby at_83) rfl ?_
      show Steps p.tables e below (T_2.setTop (mkF m 85 #[.val (.int p1), .val (.int p2), .val (.int p3), .val (.int p4), .val (.int (0 : Int32)), .val (.ref b_1), .val (.int (0 : Int32))] [(.int (0 : Int32))])) _
      refine XS.iconst X_2.here hx rfl (hb hby at_85) ?_
      show Steps p.tables e below (T_2.setTop (mkF m 86 #[.val (.int p1), .val (.int p2), .val (.int p3), .val (.int p4), .val (.int (0 : Int32)), .val (.ref b_1), .val (.int (0 : Int32))] [(.int (3 : Int32)), (.int (0 : Int32))])) _
      refine XS.icmpYes X_2.here hx rfl (pc0 := 86) (pc' := 98) rfl (hb hby at_86) rfl (tlt (by decide : (0 : Int32) < (3 : Int32))).1 (by decide) (by decide) ?_
      show Steps p.tables e below (T_2.setTop (mkF m 98 #[.val (.int p1), .val (.int p2), .val (.int p3), .val (.int p4), .val (.int (0 : Int32)), .val (.ref b_1), .val (.int (0 : Int32))] [])) _
      refine XS.aload X_2.here hx rfl (hb hby at_98) rfl rfl ?_
      show Steps p.tables e below (T_2.setTop (mkF m 100 #[.val (.int p1), .val (.int p2), .val (.int p3), .val (.int p4), .val (.int (0 : Int32)), .val (.ref b_1), .val (.int (0 : Int32))] [(.ref b_1)])) _
      refine st_4.trans ?_
      show Steps p.tables e below (T_4.setTop (mkF m 103 #[.val (.int p1), .val (.int p2), .val (.int p3), .val (.int p4), .val (.int (0 : Int32)), .val (.ref b_1), .val (.int (0 : Int32))] [(.int (0 : Int32))])) _
      refine XS.iload X_4.here hx rfl (hb hby at_103) rfl ?_
      show Steps p.tables e below (T_4.setTop (mkF m 105 #[.val (.int p1), .val (.int p2), .val (.int p3), .val (.int p4), .val (.int (0 : Int32)), .val (.ref b_1), .val (.int (0 : Int32))] [(.int (0 : Int32)), (.int (0 : Int32))])) _
      refine XS.icmpNo X_4.here hx rfl (hb hby at_105) rfl (teq (by decide : (0 : Int32) = (0 : Int32))).2 ?_
      show Steps p.tables e below (T_4.setTop (mkF m 108 #[.val (.int p1), .val (.int p2), .val (.int p3), .val (.int p4), .val (.int (0 : Int32)), .val (.ref b_1), .val (.int (0 : Int32))] [])) _
      refine XS.aload X_4.here hx rfl (hb hby at_108) rfl rfl ?_
      show Steps p.tables e below (T_4.setTop (mkF m 110 #[.val (.int p1), .val (.int p2), .val (.int p3), .val (.int p4), .val (.int (0 : Int32)), .val (.ref b_1), .val (.int (0 : Int32))] [(.ref b_1)])) _
      refine st_5.trans ?_
      show Steps p.tables e below (T_5.setTop (mkF m 113 #[.val (.int p1), .val (.int p2), .val (.int p3), .val (.int p4), .val (.int (0 : Int32)), .val (.ref b_1), .val (.int (0 : Int32))] [(.int (0 : Int32))])) _
      refine XS.iload X_5.here hx rfl (hb hby at_113) rfl ?_
      show Steps p.tables e below (T_5.setTop (mkF m 115 #[.val (.int p1), .val (.int p2), .val (.int p3), .val (.int p4), .val (.int (0 : Int32)), .val (.ref b_1), .val (.int (0 : Int32))] [(.int (0 : Int32)), (.int (0 : Int32))])) _
      refine XS.icmpNo X_5.here hx rfl (hb hby at_115) rfl (teq (by decide : (0 : Int32) = (0 : Int32))).2 ?_
      show Steps p.tables e below (T_5.setTop (mkF m 118 #[.val (.int p1), .val (.int p2), .val (.int p3), .val (.int p4), .val (.int (0 : Int32)), .val (.ref b_1), .val (.int (0 : Int32))] [])) _
      refine XS.iconst X_5.here hx rfl (hb hby at_118) ?_
      show Steps p.tables e below (T_5.setTop (mkF m 119 #[.val (.int p1), .val (.int p2), .val (.int p3), .val (.int p4), .val (.int (0 : Int32)), .val (.ref b_1), .val (.int (0 : Int32))] [(.int (1 : Int32))])) _
      refine XS.goto X_5.here hx rfl (pc0 := 119) (pc' := 123) rfl (hb hby at_119) (by decide) (by decide) ?_
      show Steps p.tables e below (T_5.setTop (mkF m 123 #[.val (.int p1), .val (.int p2), .val (.int p3), .val (.int p4), .val (.int (0 : Int32)), .val (.ref b_1), .val (.int (0 : Int32))] [(.int (1 : Int32))])) _
      exact retN X_5 hx (t := .boolean) Bd.returns (by simp) (hb hby at_123) hr
    · exact ⟨rfl, N_5⟩
  · obtain ⟨cq_6, kq_6, q_6a, q_6b, q_6c⟩ := isOf hZ e_2 A_1
    obtain ⟨_, _, ⟨T_6, L_6, k_6, n_6⟩, -, X_6, ⟨Lc_6, hQ_6, l_6, y_6, z_6⟩, st_6⟩ := X_2.virtualBack hx (y := (⟨"com/example/imply/imply/CheckStatistics", "add", "(I)V"⟩ : MethodName)) (z := (⟨"com/example/imply/imply/CheckStatistics", "add", "(I)V"⟩ : MethodName)) hown (mvT hZ (hw _ (List.mem_of_getElem? (i := 9) rfl))) (mvT hZ (hw _ (List.mem_of_getElem? (i := 10) rfl))) (notFace_of_selects (args := #[]) (mvT hZ (hw _ (List.mem_of_getElem? (i := 12) rfl)))) (mvT hZ (hw _ (List.mem_of_getElem? (i := 12) rfl))) (mvT hZ (hw _ (List.mem_of_getElem? (i := 11) rfl))) (by decide) (backOf (W := 0) (rm3 l Z a0 hw [] b_1 p1 (0 : Int32) (0 : Int32) h_1 n0 Z_1 g_b_1 A_1 fd_1_15 fd_1_17) hZ (hw _ (List.mem_of_getElem? (i := 13) rfl)) (hw _ (List.mem_of_getElem? (i := 2) rfl)) (by decide) (by decide)) q_6a q_6c (g := (mkF m 23 #[.val (.int p1), .val (.int p2), .val (.int p3), .val (.int p4), .val (.int (1 : Int32)), .val (.ref b_1), .unset] [(.int p1), (.ref b_1)])) rfl (by rw [hml]; rfl) (Steps.refl _) (argsL := [(.int p1)]) (rest := []) (lenOf pd_4 rfl) rfl (by show 2 * 0 + _ ≤ _; exact Nat.le_of_eq rfl) (hb hby at_23) (fun _ _ => ⟨rfl, e_2, (by decide : 1 + 0 ≤ _), (by decide : 2 + 0 ≤ _)⟩)
    dsimp only [Pt.U, Pt.locs, Pt.cells, Pt.slots] at X_6 l_6 y_6 z_6 st_6 hQ_6
    subst l_6 y_6 z_6
    obtain ⟨rfl, N_6q, Kc_6, o_6_0, o_6_1, o_6_2⟩ := hQ_6
    have f_6_0 : Exa Z T_6.heap b_1 "com/example/imply/imply/CheckStatistics" := A_1.keep Kc_6
    have Z_6 : n0 ≤ T_6.heap.size := Nat.le_trans Z_1 Kc_6.1
    have K_6 : Keep h0 T_6.heap [] := K_1.trans Kc_6 (fun x hx => by cases List.mem_singleton.mp hx; exact Or.inr sz_b_1)
    have N_6 := Fr.app N_2 N_6q
    have pr_7 : ∀ t, Steps p.tables e below (T_6.setTop (mkF m 62 #[.val (.int p1), .val (.int p2), .val (.int p3), .val (.int p4), .val (.int (1 : Int32)), .val (.ref b_1), .val (.int (0 : Int32))] [(.int (0 : Int32)), (.int p1)])) t → Steps p.tables e below (s₁.setTop (entryFrame m #[(.int p1), (.int p2), (.int p3), (.int p4)] maxLocals)) t := fun t k => by
      refine pr_3 _ ?_
      show Steps p.tables e below (T_2.setTop (mkF m 14 #[.val (.int p1), .val (.int p2), .val (.int p3), .val (.int p4), .val (.int (1 : Int32)), .val (.ref b_1), .unset] [])) _
      refine XS.iload X_2.here hx rfl (hb hby at_14) rfl ?_
      show Steps p.tables e below (T_2.setTop (mkF m 16 #[.val (.int p1), .val (.int p2), .val (.int p3), .val (.int p4), .val (.int (1 : Int32)), .val (.ref b_1), .unset] [(.int (1 : Int32))])) _
      refine XS.iconst X_2.here hx rfl (hb hby at_16) ?_
      show Steps p.tables e below (T_2.setTop (mkF m 17 #[.val (.int p1), .val (.int p2), .val (.int p3), .val (.int p4), .val (.int (1 : Int32)), .val (.ref b_1), .unset] [(.int (1 : Int32)), (.int (1 : Int32))])) _
      refine XS.icmpNo X_2.here hx rfl (hb hby at_17) rfl (flt (by decide : ¬ ((1 : Int32) < (1 : Int32)))).1 ?_
      show Steps p.tables e below (T_2.setTop (mkF m 20 #[.val (.int p1), .val (.int p2), .val (.int p3), .val (.int p4), .val (.int (1 : Int32)), .val (.ref b_1), .unset] [])) _
      refine XS.aload X_2.here hx rfl (hb hby at_20) rfl rfl ?_
      show Steps p.tables e below (T_2.setTop (mkF m 22 #[.val (.int p1), .val (.int p2), .val (.int p3), .val (.int p4), .val (.int (1 : Int32)), .val (.ref b_1), .unset] [(.ref b_1)])) _
      refine XS.iloadN X_2.here hx rfl (hb hby at_22) rfl ?_
      show Steps p.tables e below (T_2.setTop (mkF m 23 #[.val (.int p1), .val (.int p2), .val (.int p3), .val (.int p4), .val (.int (1 : Int32)), .val (.ref b_1), .unset] [(.int p1), (.ref b_1)])) _
      refine st_6.trans ?_
      show Steps p.tables e below (T_6.setTop (mkF m 26 #[.val (.int p1), .val (.int p2), .val (.int p3), .val (.int p4), .val (.int (1 : Int32)), .val (.ref b_1), .unset] [])) _
      refine XS.iload X_6.here hx rfl (hb hby at_26) rfl ?_
      show Steps p.tables e below (T_6.setTop (mkF m 28 #[.val (.int p1), .val (.int p2), .val (.int p3), .val (.int p4), .val (.int (1 : Int32)), .val (.ref b_1), .unset] [(.int (1 : Int32))])) _
      refine XS.iconst X_6.here hx rfl (hb hby at_28) ?_
      show Steps p.tables e below (T_6.setTop (mkF m 29 #[.val (.int p1), .val (.int p2), .val (.int p3), .val (.int p4), .val (.int (1 : Int32)), .val (.ref b_1), .unset] [(.int (2 : Int32)), (.int (1 : Int32))])) _
      refine XS.icmpYes X_6.here hx rfl (pc0 := 29) (pc' := 38) rfl (hb hby at_29) rfl (tlt (by decide : (1 : Int32) < (2 : Int32))).1 (by decide) (by decide) ?_
      show Steps p.tables e below (T_6.setTop (mkF m 38 #[.val (.int p1), .val (.int p2), .val (.int p3), .val (.int p4), .val (.int (1 : Int32)), .val (.ref b_1), .unset] [])) _
      refine XS.iload X_6.here hx rfl (hb hby at_38) rfl ?_
      show Steps p.tables e below (T_6.setTop (mkF m 40 #[.val (.int p1), .val (.int p2), .val (.int p3), .val (.int p4), .val (.int (1 : Int32)), .val (.ref b_1), .unset] [(.int (1 : Int32))])) _
      refine XS.iconst X_6.here hx rfl (hb hby at_40) ?_
      show Steps p.tables e below (T_6.setTop (mkF m 41 #[.val (.int p1), .val (.int p2), .val (.int p3), .val (.int p4), .val (.int (1 : Int32)), .val (.ref b_1), .unset] [(.int (3 : Int32)), (.int (1 : Int32))])) _
      refine XS.icmpYes X_6.here hx rfl (pc0 := 41) (pc' := 50) rfl (hb hby at_41) rfl (tlt (by decide : (1 : Int32) < (3 : Int32))).1 (by decide) (by decide) ?_
      show Steps p.tables e below (T_6.setTop (mkF m 50 #[.val (.int p1), .val (.int p2), .val (.int p3), .val (.int p4), .val (.int (1 : Int32)), .val (.ref b_1), .unset] [])) _
      refine XS.iconst X_6.here hx rfl (hb hby at_50) ?_
      show Steps p.tables e below (T_6.setTop (mkF m 51 #[.val (.int p1), .val (.int p2), .val (.int p3), .val (.int p4), .val (.int (1 : Int32)), .val (.ref b_1), .unset] [(.int (0 : Int32))])) _
      refine XS.istore X_6.here hx rfl (hb hby at_51) rfl (l' := #[.val (.int p1), .val (.int p2), .val (.int p3), .val (.int p4), .val (.int (1 : Int32)), .val (.ref b_1), .val (.int (0 : Int32))]) rfl ?_
      show Steps p.tables e below (T_6.setTop (mkF m 53 #[.val (.int p1), .val (.int p2), .val (.int p3), .val (.int p4), .val (.int (1 : Int32)), .val (.ref b_1), .val (.int (0 : Int32))] [])) _
      refine XS.iload X_6.here hx rfl (hb hby at_53) rfl ?_
      show Steps p.tables e below (T_6.setTop (mkF m 55 #[.val (.int p1), .val (.int p2), .val (.int p3), .val (.int p4), .val (.int (1 : Int32)), .val (.ref b_1), .val (.int (0 : Int32))] [(.int (1 : Int32))])) _
      refine XS.iconst X_6.here hx rfl (hb hby at_55) ?_
      show Steps p.tables e below (T_6.setTop (mkF m 56 #[.val (.int p1), .val (.int p2), .val (.int p3), .val (.int p4), .val (.int (1 : Int32)), .val (.ref b_1), .val (.int (0 : Int32))] [(.int (1 : Int32)), (.int (1 : Int32))])) _
      refine XS.icmpNo X_6.here hx rfl (hb hby at_56) rfl (flt (by decide : ¬ ((1 : Int32) < (1 : Int32)))).1 ?_
      show Steps p.tables e below (T_6.setTop (mkF m 59 #[.val (.int p1), .val (.int p2), .val (.int p3), .val (.int p4), .val (.int (1 : Int32)), .val (.ref b_1), .val (.int (0 : Int32))] [])) _
      refine XS.iloadN X_6.here hx rfl (hb hby at_59) rfl ?_
      show Steps p.tables e below (T_6.setTop (mkF m 60 #[.val (.int p1), .val (.int p2), .val (.int p3), .val (.int p4), .val (.int (1 : Int32)), .val (.ref b_1), .val (.int (0 : Int32))] [(.int p1)])) _
      refine XS.iload X_6.here hx rfl (hb hby at_60) rfl ?_
      exact k
    by_cases hc_8 : (0 : Int32) < p1
    · obtain ⟨cq_9, kq_9, q_9a, q_9b, q_9c⟩ := isOf hZ rfl o_6_0
      obtain ⟨_, _, ⟨T_9, L_9, k_9, n_9⟩, -, X_9, ⟨Lc_9, hQ_9, l_9, y_9, z_9⟩, st_9⟩ := X_6.virtualBack hx (y := (⟨"com/example/imply/imply/CheckStatistics", "checks", "()I"⟩ : MethodName)) (z := (⟨"com/example/imply/imply/CheckStatistics", "checks", "()I"⟩ : MethodName)) hown (mvT hZ (hw _ (List.mem_of_getElem? (i := 22) rfl))) (mvT hZ (hw _ (List.mem_of_getElem? (i := 23) rfl))) (notFace_of_selects (args := #[]) (mvT hZ (hw _ (List.mem_of_getElem? (i := 25) rfl)))) (mvT hZ (hw _ (List.mem_of_getElem? (i := 25) rfl))) (mvT hZ (hw _ (List.mem_of_getElem? (i := 24) rfl))) (by decide) (backOf (W := 0) (rm5 l Z a0 hw [] b_1 ((0 : Int32) + (1 : Int32)) T_6.heap n0 Z_6 o_6_1) hZ (hw _ (List.mem_of_getElem? (i := 26) rfl)) (hw _ (List.mem_of_getElem? (i := 2) rfl)) (by decide) (by decide)) q_9a q_9c (g := (mkF m 100 #[.val (.int p1), .val (.int p2), .val (.int p3), .val (.int p4), .val (.int (1 : Int32)), .val (.ref b_1), .val (.int p1)] [(.ref b_1)])) rfl (by rw [hml]; rfl) (Steps.refl _) (argsL := []) (rest := []) (lenOf pd_3 rfl) rfl (by show 2 * 0 + _ ≤ _; exact Nat.le_of_eq rfl) (hb hby at_100) (fun _ _ => ⟨rfl, rfl, (by decide : 1 + 0 ≤ _), (by decide : 2 + 0 ≤ _)⟩)
      dsimp only [Pt.U, Pt.locs, Pt.cells, Pt.slots] at X_9 l_9 y_9 z_9 st_9 hQ_9
      subst l_9 y_9 z_9
      obtain ⟨rfl, N_9q, e_9⟩ := hQ_9
      have N_9 := Fr.app N_6 N_9q
      obtain ⟨cq_10, kq_10, q_10a, q_10b, q_10c⟩ := isOf hZ e_9 o_6_0
      obtain ⟨_, _, ⟨T_10, L_10, k_10, n_10⟩, -, X_10, ⟨Lc_10, hQ_10, l_10, y_10, z_10⟩, st_10⟩ := X_9.virtualBack hx (y := (⟨"com/example/imply/imply/CheckStatistics", "maxIndividuals", "()I"⟩ : MethodName)) (z := (⟨"com/example/imply/imply/CheckStatistics", "maxIndividuals", "()I"⟩ : MethodName)) hown (mvT hZ (hw _ (List.mem_of_getElem? (i := 27) rfl))) (mvT hZ (hw _ (List.mem_of_getElem? (i := 28) rfl))) (notFace_of_selects (args := #[]) (mvT hZ (hw _ (List.mem_of_getElem? (i := 30) rfl)))) (mvT hZ (hw _ (List.mem_of_getElem? (i := 30) rfl))) (mvT hZ (hw _ (List.mem_of_getElem? (i := 29) rfl))) (by decide) (backOf (W := 0) (rm6 l Z a0 hw [] b_1 (own_max (0 : Int32) p1) T_6.heap n0 Z_6 o_6_2) hZ (hw _ (List.mem_of_getElem? (i := 31) rfl)) (hw _ (List.mem_of_getElem? (i := 2) rfl)) (by decide) (by decide)) q_10a q_10c (g := (mkF m 110 #[.val (.int p1), .val (.int p2), .val (.int p3), .val (.int p4), .val (.int (1 : Int32)), .val (.ref b_1), .val (.int p1)] [(.ref b_1)])) rfl (by rw [hml]; rfl) (Steps.refl _) (argsL := []) (rest := []) (lenOf pd_3 rfl) rfl (by show 2 * 0 + _ ≤ _; exact Nat.le_of_eq rfl) (hb hby at_110) (fun _ _ => ⟨rfl, e_9, (by decide : 1 + 0 ≤ _), (by decide : 2 + 0 ≤ _)⟩)
      dsimp only [Pt.U, Pt.locs, Pt.cells, Pt.slots] at X_10 l_10 y_10 z_10 st_10 hQ_10
      subst l_10 y_10 z_10
      obtain ⟨rfl, N_10q, e_10⟩ := hQ_10
      have N_10 := Fr.app N_9 N_10q
      obtain ⟨fs, hr, hrun, hended, hW, hsame⟩ := X_10.leave (v := some (.int (1 : Int32))) (fun h => by rw [Bd.returns] at h; cases h)
      refine ⟨_, _, pr_7 _ ?_, hrun, hended, _, _, rfl, ?_, ⟨_, rfl⟩, hW, hsame.mono (by decide) (by decide)⟩
      · show Steps p.tables e below (T_6.setTop (mkF m 62 #[.val (.int p1), .val (.int p2), .val (.int p3), .val (.int p4), .val (.int (1 : Int32)), .val (.ref b_1), .val (.int (0 : Int32))] [(.int (0 : Int32)), (.int p1)])) _
        refine XS.icmpNo X_6.here hx rfl (hb hby at_62) rfl (tlt hc_8).2.2.2 ?_
        show Steps p.tables e below (T_6.setTop (mkF m 65 #[.val (.int p1), .val (.int p2), .val (.int p3), .val (.int p4), .val (.int (1 : Int32)), .val (.ref b_1), .val (.int (0 : Int32))] [])) _
        refine XS.iloadN X_6.here hx rfl (hb hby at_65) rfl ?_
        show Steps p.tables e below (T_6.setTop (mkF m 66 #[.val (.int p1), .val (.int p2), .val (.int p3), .val (.int p4), .val (.int (1 : Int32)), .val (.ref b_1), .val (.int (0 : Int32))] [(.int p1)])) _
        refine XS.istore X_6.here hx rfl (hb hby at_66) rfl (l' := #[.val (.int p1), .val (.int p2), .val (.int p3), .val (.int p4), .val (.int (1 : Int32)), .val (.ref b_1), .val (.int p1)]) rfl ?_
        show Steps p.tables e below (T_6.setTop (mkF m 68 #[.val (.int p1), .val (.int p2), .val (.int p3), .val (.int p4), .val (.int (1 : Int32)), .val (.ref b_1), .val (.int p1)] [])) _
        refine XS.iload X_6.here hx rfl (hb hby at_68) rfl ?_
        show Steps p.tables e below (T_6.setTop (mkF m 70 #[.val (.int p1), .val (.int p2), .val (.int p3), .val (.int p4), .val (.int (1 : Int32)), .val (.ref b_1), .val (.int p1)] [(.int (1 : Int32))])) _
        refine XS.iconst X_6.here hx rfl (hb hby at_70) ?_
        show Steps p.tables e below (T_6.setTop (mkF m 71 #[.val (.int p1), .val (.int p2), .val (.int p3), .val (.int p4), .val (.int (1 : Int32)), .val (.ref b_1), .val (.int p1)] [(.int (2 : Int32)), (.int (1 : Int32))])) _
        refine XS.icmpYes X_6.here hx rfl (pc0 := 71) (pc' := 83) rfl (hb hby at_71) rfl (tlt (by decide : (1 : Int32) < (2 : Int32))).1 (by decide) (by decide) ?_
        show Steps p.tables e below (T_6.setTop (mkF m 83 #[.val (.int p1), .val (.int p2), .val (.int p3), .val (.int p4), .val (.int (1 : Int32)), .val (.ref b_1), .val (.int p1)] [])) _
        refine XS.iload X_6.here hx rfl (hb hby at_83) rfl ?_
        show Steps p.tables e below (T_6.setTop (mkF m 85 #[.val (.int p1), .val (.int p2), .val (.int p3), .val (.int p4), .val (.int (1 : Int32)), .val (.ref b_1), .val (.int p1)] [(.int (1 : Int32))])) _
        refine XS.iconst X_6.here hx rfl (hb hby at_85) ?_
        show Steps p.tables e below (T_6.setTop (mkF m 86 #[.val (.int p1), .val (.int p2), .val (.int p3), .val (.int p4), .val (.int (1 : Int32)), .val (.ref b_1), .val (.int p1)] [(.int (3 : Int32)), (.int (1 : Int32))])) _
        refine XS.icmpYes X_6.here hx rfl (pc0 := 86) (pc' := 98) rfl (hb hby at_86) rfl (tlt (by decide : (1 : Int32) < (3 : Int32))).1 (by decide) (by decide) ?_
        show Steps p.tables e below (T_6.setTop (mkF m 98 #[.val (.int p1), .val (.int p2), .val (.int p3), .val (.int p4), .val (.int (1 : Int32)), .val (.ref b_1), .val (.int p1)] [])) _
        refine XS.aload X_6.here hx rfl (hb hby at_98) rfl rfl ?_
        show Steps p.tables e below (T_6.setTop (mkF m 100 #[.val (.int p1), .val (.int p2), .val (.int p3), .val (.int p4), .val (.int (1 : Int32)), .val (.ref b_1), .val (.int p1)] [(.ref b_1)])) _
        refine st_9.trans ?_
        show Steps p.tables e below (T_9.setTop (mkF m 103 #[.val (.int p1), .val (.int p2), .val (.int p3), .val (.int p4), .val (.int (1 : Int32)), .val (.ref b_1), .val (.int p1)] [(.int ((0 : Int32) + (1 : Int32)))])) _
        refine XS.iload X_9.here hx rfl (hb hby at_103) rfl ?_
        show Steps p.tables e below (T_9.setTop (mkF m 105 #[.val (.int p1), .val (.int p2), .val (.int p3), .val (.int p4), .val (.int (1 : Int32)), .val (.ref b_1), .val (.int p1)] [(.int (1 : Int32)), (.int ((0 : Int32) + (1 : Int32)))])) _
        refine XS.icmpNo X_9.here hx rfl (hb hby at_105) rfl (teq (by decide : ((0 : Int32) + (1 : Int32)) = (1 : Int32))).2 ?_
        show Steps p.tables e below (T_9.setTop (mkF m 108 #[.val (.int p1), .val (.int p2), .val (.int p3), .val (.int p4), .val (.int (1 : Int32)), .val (.ref b_1), .val (.int p1)] [])) _
        refine XS.aload X_9.here hx rfl (hb hby at_108) rfl rfl ?_
        show Steps p.tables e below (T_9.setTop (mkF m 110 #[.val (.int p1), .val (.int p2), .val (.int p3), .val (.int p4), .val (.int (1 : Int32)), .val (.ref b_1), .val (.int p1)] [(.ref b_1)])) _
        refine st_10.trans ?_
        show Steps p.tables e below (T_10.setTop (mkF m 113 #[.val (.int p1), .val (.int p2), .val (.int p3), .val (.int p4), .val (.int (1 : Int32)), .val (.ref b_1), .val (.int p1)] [(.int (own_max (0 : Int32) p1))])) _
        refine XS.iload X_10.here hx rfl (hb hby at_113) rfl ?_
        show Steps p.tables e below (T_10.setTop (mkF m 115 #[.val (.int p1), .val (.int p2), .val (.int p3), .val (.int p4), .val (.int (1 : Int32)), .val (.ref b_1), .val (.int p1)] [(.int p1), (.int (own_max (0 : Int32) p1))])) _
        refine XS.icmpNo X_10.here hx rfl (hb hby at_115) rfl (teq (by simp only [own_max, if_pos hc_8] : (own_max (0 : Int32) p1) = p1)).2 ?_
        show Steps p.tables e below (T_10.setTop (mkF m 118 #[.val (.int p1), .val (.int p2), .val (.int p3), .val (.int p4), .val (.int (1 : Int32)), .val (.ref b_1), .val (.int p1)] [])) _
        refine XS.iconst X_10.here hx rfl (hb hby at_118) ?_
        show Steps p.tables e below (T_10.setTop (mkF m 119 #[.val (.int p1), .val (.int p2), .val (.int p3), .val (.int p4), .val (.int (1 : Int32)), .val (.ref b_1), .val (.int p1)] [(.int (1 : Int32))])) _
        refine XS.goto X_10.here hx rfl (pc0 := 119) (pc' := 123) rfl (hb hby at_119) (by decide) (by decide) ?_
        show Steps p.tables e below (T_10.setTop (mkF m 123 #[.val (.int p1), .val (.int p2), .val (.int p3), .val (.int p4), .val (.int (1 : Int32)), .val (.ref b_1), .val (.int p1)] [(.int (1 : Int32))])) _
        exact retN X_10 hx (t := .boolean) Bd.returns (by simp) (hb hby at_123) hr
      · exact ⟨rfl, N_10⟩
    · obtain ⟨cq_11, kq_11, q_11a, q_11b, q_11c⟩ := isOf hZ rfl o_6_0
      obtain ⟨_, _, ⟨T_11, L_11, k_11, n_11⟩, -, X_11, ⟨Lc_11, hQ_11, l_11, y_11, z_11⟩, st_11⟩ := X_6.virtualBack hx (y := (⟨"com/example/imply/imply/CheckStatistics", "checks", "()I"⟩ : MethodName)) (z := (⟨"com/example/imply/imply/CheckStatistics", "checks", "()I"⟩ : MethodName)) hown (mvT hZ (hw _ (List.mem_of_getElem? (i := 22) rfl))) (mvT hZ (hw _ (List.mem_of_getElem? (i := 23) rfl))) (notFace_of_selects (args := #[]) (mvT hZ (hw _ (List.mem_of_getElem? (i := 25) rfl)))) (mvT hZ (hw _ (List.mem_of_getElem? (i := 25) rfl))) (mvT hZ (hw _ (List.mem_of_getElem? (i := 24) rfl))) (by decide) (backOf (W := 0) (rm5 l Z a0 hw [] b_1 ((0 : Int32) + (1 : Int32)) T_6.heap n0 Z_6 o_6_1) hZ (hw _ (List.mem_of_getElem? (i := 26) rfl)) (hw _ (List.mem_of_getElem? (i := 2) rfl)) (by decide) (by decide)) q_11a q_11c (g := (mkF m 100 #[.val (.int p1), .val (.int p2), .val (.int p3), .val (.int p4), .val (.int (1 : Int32)), .val (.ref b_1), .val (.int (0 : Int32))] [(.ref b_1)])) rfl (by rw [hml]; rfl) (Steps.refl _) (argsL := []) (rest := []) (lenOf pd_3 rfl) rfl (by show 2 * 0 + _ ≤ _; exact Nat.le_of_eq rfl) (hb hby at_100) (fun _ _ => ⟨rfl, rfl, (by decide : 1 + 0 ≤ _), (by decide : 2 + 0 ≤ _)⟩)
      dsimp only [Pt.U, Pt.locs, Pt.cells, Pt.slots] at X_11 l_11 y_11 z_11 st_11 hQ_11
      subst l_11 y_11 z_11
      obtain ⟨rfl, N_11q, e_11⟩ := hQ_11
      have N_11 := Fr.app N_6 N_11q
      obtain ⟨cq_12, kq_12, q_12a, q_12b, q_12c⟩ := isOf hZ e_11 o_6_0
      obtain ⟨_, _, ⟨T_12, L_12, k_12, n_12⟩, -, X_12, ⟨Lc_12, hQ_12, l_12, y_12, z_12⟩, st_12⟩ := X_11.virtualBack hx (y := (⟨"com/example/imply/imply/CheckStatistics", "maxIndividuals", "()I"⟩ : MethodName)) (z := (⟨"com/example/imply/imply/CheckStatistics", "maxIndividuals", "()I"⟩ : MethodName)) hown (mvT hZ (hw _ (List.mem_of_getElem? (i := 27) rfl))) (mvT hZ (hw _ (List.mem_of_getElem? (i := 28) rfl))) (notFace_of_selects (args := #[]) (mvT hZ (hw _ (List.mem_of_getElem? (i := 30) rfl)))) (mvT hZ (hw _ (List.mem_of_getElem? (i := 30) rfl))) (mvT hZ (hw _ (List.mem_of_getElem? (i := 29) rfl))) (by decide) (backOf (W := 0) (rm6 l Z a0 hw [] b_1 (own_max (0 : Int32) p1) T_6.heap n0 Z_6 o_6_2) hZ (hw _ (List.mem_of_getElem? (i := 31) rfl)) (hw _ (List.mem_of_getElem? (i := 2) rfl)) (by decide) (by decide)) q_12a q_12c (g := (mkF m 110 #[.val (.int p1), .val (.int p2), .val (.int p3), .val (.int p4), .val (.int (1 : Int32)), .val (.ref b_1), .val (.int (0 : Int32))] [(.ref b_1)])) rfl (by rw [hml]; rfl) (Steps.refl _) (argsL := []) (rest := []) (lenOf pd_3 rfl) rfl (by show 2 * 0 + _ ≤ _; exact Nat.le_of_eq rfl) (hb hby at_110) (fun _ _ => ⟨rfl, e_11, (by decide : 1 + 0 ≤ _), (by decide : 2 + 0 ≤ _)⟩)
      dsimp only [Pt.U, Pt.locs, Pt.cells, Pt.slots] at X_12 l_12 y_12 z_12 st_12 hQ_12
      subst l_12 y_12 z_12
      obtain ⟨rfl, N_12q, e_12⟩ := hQ_12
      have N_12 := Fr.app N_11 N_12q
      obtain ⟨fs, hr, hrun, hended, hW, hsame⟩ := X_12.leave (v := some (.int (1 : Int32))) (fun h => by rw [Bd.returns] at h; cases h)
      refine ⟨_, _, pr_7 _ ?_, hrun, hended, _, _, rfl, ?_, ⟨_, rfl⟩, hW, hsame.mono (by decide) (by decide)⟩
      · show Steps p.tables e below (T_6.setTop (mkF m 62 #[.val (.int p1), .val (.int p2), .val (.int p3), .val (.int p4), .val (.int (1 : Int32)), .val (.ref b_1), .val (.int (0 : Int32))] [(.int (0 : Int32)), (.int p1)])) _
        refine XS.icmpYes X_6.here hx rfl (pc0 := 62) (pc' := 68) rfl (hb hby at_62) rfl (flt hc_8).2.2.2 (by decide) (by decide) ?_
        show Steps p.tables e below (T_6.setTop (mkF m 68 #[.val (.int p1), .val (.int p2), .val (.int p3), .val (.int p4), .val (.int (1 : Int32)), .val (.ref b_1), .val (.int (0 : Int32))] [])) _
        refine XS.iload X_6.here hx rfl (hb hby at_68) rfl ?_
        show Steps p.tables e below (T_6.setTop (mkF m 70 #[.val (.int p1), .val (.int p2), .val (.int p3), .val (.int p4), .val (.int (1 : Int32)), .val (.ref b_1), .val (.int (0 : Int32))] [(.int (1 : Int32))])) _
        refine XS.iconst X_6.here hx rfl (hb hby at_70) ?_
        show Steps p.tables e below (T_6.setTop (mkF m 71 #[.val (.int p1), .val (.int p2), .val (.int p3), .val (.int p4), .val (.int (1 : Int32)), .val (.ref b_1), .val (.int (0 : Int32))] [(.int (2 : Int32)), (.int (1 : Int32))])) _
        refine XS.icmpYes X_6.here hx rfl (pc0 := 71) (pc' := 83) rfl (hb hby at_71) rfl (tlt (by decide : (1 : Int32) < (2 : Int32))).1 (by decide) (by decide) ?_
        show Steps p.tables e below (T_6.setTop (mkF m 83 #[.val (.int p1), .val (.int p2), .val (.int p3), .val (.int p4), .val (.int (1 : Int32)), .val (.ref b_1), .val (.int (0 : Int32))] [])) _
        refine XS.iload X_6.here hx rfl (hb hby at_83) rfl ?_
        show Steps p.tables e below (T_6.setTop (mkF m 85 #[.val (.int p1), .val (.int p2), .val (.int p3), .val (.int p4), .val (.int (1 : Int32)), .val (.ref b_1), .val (.int (0 : Int32))] [(.int (1 : Int32))])) _
        refine XS.iconst X_6.here hx rfl (hb hby at_85) ?_
        show Steps p.tables e below (T_6.setTop (mkF m 86 #[.val (.int p1), .val (.int p2), .val (.int p3), .val (.int p4), .val (.int (1 : Int32)), .val (.ref b_1), .val (.int (0 : Int32))] [(.int (3 : Int32)), (.int (1 : Int32))])) _
        refine XS.icmpYes X_6.here hx rfl (pc0 := 86) (pc' := 98) rfl (hb hby at_86) rfl (tlt (by decide : (1 : Int32) < (3 : Int32))).1 (by decide) (by decide) ?_
        show Steps p.tables e below (T_6.setTop (mkF m 98 #[.val (.int p1), .val (.int p2), .val (.int p3), .val (.int p4), .val (.int (1 : Int32)), .val (.ref b_1), .val (.int (0 : Int32))] [])) _
        refine XS.aload X_6.here hx rfl (hb hby at_98) rfl rfl ?_
        show Steps p.tables e below (T_6.setTop (mkF m 100 #[.val (.int p1), .val (.int p2), .val (.int p3), .val (.int p4), .val (.int (1 : Int32)), .val (.ref b_1), .val (.int (0 : Int32))] [(.ref b_1)])) _
        refine st_11.trans ?_
        show Steps p.tables e below (T_11.setTop (mkF m 103 #[.val (.int p1), .val (.int p2), .val (.int p3), .val (.int p4), .val (.int (1 : Int32)), .val (.ref b_1), .val (.int (0 : Int32))] [(.int ((0 : Int32) + (1 : Int32)))])) _
        refine XS.iload X_11.here hx rfl (hb hby at_103) rfl ?_
        show Steps p.tables e below (T_11.setTop (mkF m 105 #[.val (.int p1), .val (.int p2), .val (.int p3), .val (.int p4), .val (.int (1 : Int32)), .val (.ref b_1), .val (.int (0 : Int32))] [(.int (1 : Int32)), (.int ((0 : Int32) + (1 : Int32)))])) _
        refine XS.icmpNo X_11.here hx rfl (hb hby at_105) rfl (teq (by decide : ((0 : Int32) + (1 : Int32)) = (1 : Int32))).2 ?_
        show Steps p.tables e below (T_11.setTop (mkF m 108 #[.val (.int p1), .val (.int p2), .val (.int p3), .val (.int p4), .val (.int (1 : Int32)), .val (.ref b_1), .val (.int (0 : Int32))] [])) _
        refine XS.aload X_11.here hx rfl (hb hby at_108) rfl rfl ?_
        show Steps p.tables e below (T_11.setTop (mkF m 110 #[.val (.int p1), .val (.int p2), .val (.int p3), .val (.int p4), .val (.int (1 : Int32)), .val (.ref b_1), .val (.int (0 : Int32))] [(.ref b_1)])) _
        refine st_12.trans ?_
        show Steps p.tables e below (T_12.setTop (mkF m 113 #[.val (.int p1), .val (.int p2), .val (.int p3), .val (.int p4), .val (.int (1 : Int32)), .val (.ref b_1), .val (.int (0 : Int32))] [(.int (own_max (0 : Int32) p1))])) _
        refine XS.iload X_12.here hx rfl (hb hby at_113) rfl ?_
        show Steps p.tables e below (T_12.setTop (mkF m 115 #[.val (.int p1), .val (.int p2), .val (.int p3), .val (.int p4), .val (.int (1 : Int32)), .val (.ref b_1), .val (.int (0 : Int32))] [(.int (0 : Int32)), (.int (own_max (0 : Int32) p1))])) _
        refine XS.icmpNo X_12.here hx rfl (hb hby at_115) rfl (teq (by simp only [own_max, if_neg hc_8] : (own_max (0 : Int32) p1) = (0 : Int32))).2 ?_
        show Steps p.tables e below (T_12.setTop (mkF m 118 #[.val (.int p1), .val (.int p2), .val (.int p3), .val (.int p4), .val (.int (1 : Int32)), .val (.ref b_1), .val (.int (0 : Int32))] [])) _
        refine XS.iconst X_12.here hx rfl (hb hby at_118) ?_
        show Steps p.tables e below (T_12.setTop (mkF m 119 #[.val (.int p1), .val (.int p2), .val (.int p3), .val (.int p4), .val (.int (1 : Int32)), .val (.ref b_1), .val (.int (0 : Int32))] [(.int (1 : Int32))])) _
        refine XS.goto X_12.here hx rfl (pc0 := 119) (pc' := 123) rfl (hb hby at_119) (by decide) (by decide) ?_
        show Steps p.tables e below (T_12.setTop (mkF m 123 #[.val (.int p1), .val (.int p2), .val (.int p3), .val (.int p4), .val (.int (1 : Int32)), .val (.ref b_1), .val (.int (0 : Int32))] [(.int (1 : Int32))])) _
        exact retN X_12 hx (t := .boolean) Bd.returns (by simp) (hb hby at_123) hr
      · exact ⟨rfl, N_12⟩
  · obtain ⟨cq_13, kq_13, q_13a, q_13b, q_13c⟩ := isOf hZ e_2 A_1
    obtain ⟨_, _, ⟨T_13, L_13, k_13, n_13⟩, -, X_13, ⟨Lc_13, hQ_13, l_13, y_13, z_13⟩, st_13⟩ := X_2.virtualBack hx (y := (⟨"com/example/imply/imply/CheckStatistics", "add", "(I)V"⟩ : MethodName)) (z := (⟨"com/example/imply/imply/CheckStatistics", "add", "(I)V"⟩ : MethodName)) hown (mvT hZ (hw _ (List.mem_of_getElem? (i := 9) rfl))) (mvT hZ (hw _ (List.mem_of_getElem? (i := 10) rfl))) (notFace_of_selects (args := #[]) (mvT hZ (hw _ (List.mem_of_getElem? (i := 12) rfl)))) (mvT hZ (hw _ (List.mem_of_getElem? (i := 12) rfl))) (mvT hZ (hw _ (List.mem_of_getElem? (i := 11) rfl))) (by decide) (backOf (W := 0) (rm3 l Z a0 hw [] b_1 p1 (0 : Int32) (0 : Int32) h_1 n0 Z_1 g_b_1 A_1 fd_1_15 fd_1_17) hZ (hw _ (List.mem_of_getElem? (i := 13) rfl)) (hw _ (List.mem_of_getElem? (i := 2) rfl)) (by decide) (by decide)) q_13a q_13c (g := (mkF m 23 #[.val (.int p1), .val (.int p2), .val (.int p3), .val (.int p4), .val (.int (2 : Int32)), .val (.ref b_1), .unset] [(.int p1), (.ref b_1)])) rfl (by rw [hml]; rfl) (Steps.refl _) (argsL := [(.int p1)]) (rest := []) (lenOf pd_4 rfl) rfl (by show 2 * 0 + _ ≤ _; exact Nat.le_of_eq rfl) (hb hby at_23) (fun _ _ => ⟨rfl, e_2, (by decide : 1 + 0 ≤ _), (by decide : 2 + 0 ≤ _)⟩)
    dsimp only [Pt.U, Pt.locs, Pt.cells, Pt.slots] at X_13 l_13 y_13 z_13 st_13 hQ_13
    subst l_13 y_13 z_13
    obtain ⟨rfl, N_13q, Kc_13, o_13_0, o_13_1, o_13_2⟩ := hQ_13
    have f_13_0 : Exa Z T_13.heap b_1 "com/example/imply/imply/CheckStatistics" := A_1.keep Kc_13
    have Z_13 : n0 ≤ T_13.heap.size := Nat.le_trans Z_1 Kc_13.1
    have K_13 : Keep h0 T_13.heap [] := K_1.trans Kc_13 (fun x hx => by cases List.mem_singleton.mp hx; exact Or.inr sz_b_1)
    have N_13 := Fr.app N_2 N_13q
    obtain ⟨cq_14, kq_14, q_14a, q_14b, q_14c⟩ := isOf hZ rfl o_13_0
    obtain ⟨_, _, ⟨T_14, L_14, k_14, n_14⟩, -, X_14, ⟨Lc_14, hQ_14, l_14, y_14, z_14⟩, st_14⟩ := X_13.virtualBack hx (y := (⟨"com/example/imply/imply/CheckStatistics", "add", "(I)V"⟩ : MethodName)) (z := (⟨"com/example/imply/imply/CheckStatistics", "add", "(I)V"⟩ : MethodName)) hown (mvT hZ (hw _ (List.mem_of_getElem? (i := 9) rfl))) (mvT hZ (hw _ (List.mem_of_getElem? (i := 10) rfl))) (notFace_of_selects (args := #[]) (mvT hZ (hw _ (List.mem_of_getElem? (i := 12) rfl)))) (mvT hZ (hw _ (List.mem_of_getElem? (i := 12) rfl))) (mvT hZ (hw _ (List.mem_of_getElem? (i := 11) rfl))) (by decide) (backOf (W := 0) (rm3 l Z a0 hw [] b_1 p2 ((0 : Int32) + (1 : Int32)) (own_max (0 : Int32) p1) T_13.heap n0 Z_13 g_b_1 o_13_0 o_13_1 o_13_2) hZ (hw _ (List.mem_of_getElem? (i := 13) rfl)) (hw _ (List.mem_of_getElem? (i := 2) rfl)) (by decide) (by decide)) q_14a q_14c (g := (mkF m 35 #[.val (.int p1), .val (.int p2), .val (.int p3), .val (.int p4), .val (.int (2 : Int32)), .val (.ref b_1), .unset] [(.int p2), (.ref b_1)])) rfl (by rw [hml]; rfl) (Steps.refl _) (argsL := [(.int p2)]) (rest := []) (lenOf pd_4 rfl) rfl (by show 2 * 0 + _ ≤ _; exact Nat.le_of_eq rfl) (hb hby at_35) (fun _ _ => ⟨rfl, rfl, (by decide : 1 + 0 ≤ _), (by decide : 2 + 0 ≤ _)⟩)
    dsimp only [Pt.U, Pt.locs, Pt.cells, Pt.slots] at X_14 l_14 y_14 z_14 st_14 hQ_14
    subst l_14 y_14 z_14
    obtain ⟨rfl, N_14q, Kc_14, o_14_0, o_14_1, o_14_2⟩ := hQ_14
    have f_14_0 : Exa Z T_14.heap b_1 "com/example/imply/imply/CheckStatistics" := o_13_0.keep Kc_14
    have Z_14 : n0 ≤ T_14.heap.size := Nat.le_trans Z_13 Kc_14.1
    have K_14 : Keep h0 T_14.heap [] := K_13.trans Kc_14 (fun x hx => by cases List.mem_singleton.mp hx; exact Or.inr sz_b_1)
    have N_14 := Fr.app N_13 N_14q
    have pr_15 : ∀ t, Steps p.tables e below (T_14.setTop (mkF m 62 #[.val (.int p1), .val (.int p2), .val (.int p3), .val (.int p4), .val (.int (2 : Int32)), .val (.ref b_1), .val (.int (0 : Int32))] [(.int (0 : Int32)), (.int p1)])) t → Steps p.tables e below (s₁.setTop (entryFrame m #[(.int p1), (.int p2), (.int p3), (.int p4)] maxLocals)) t := fun t k => by
      refine pr_3 _ ?_
      show Steps p.tables e below (T_2.setTop (mkF m 14 #[.val (.int p1), .val (.int p2), .val (.int p3), .val (.int p4), .val (.int (2 : Int32)), .val (.ref b_1), .unset] [])) _
      refine XS.iload X_2.here hx rfl (hb hby at_14) rfl ?_
      show Steps p.tables e below (T_2.setTop (mkF m 16 #[.val (.int p1), .val (.int p2), .val (.int p3), .val (.int p4), .val (.int (2 : Int32)), .val (.ref b_1), .unset] [(.int (2 : Int32))])) _
      refine XS.iconst X_2.here hx rfl (hb hby at_16) ?_
      show Steps p.tables e below (T_2.setTop (mkF m 17 #[.val (.int p1), .val (.int p2), .val (.int p3), .val (.int p4), .val (.int (2 : Int32)), .val (.ref b_1), .unset] [(.int (1 : Int32)), (.int (2 : Int32))])) _
      refine XS.icmpNo X_2.here hx rfl (hb hby at_17) rfl (flt (by decide : ¬ ((2 : Int32) < (1 : Int32)))).1 ?_
      show Steps p.tables e below (T_2.setTop (mkF m 20 #[.val (.int p1), .val (.int p2), .val (.int p3), .val (.int p4), .val (.int (2 : Int32)), .val (.ref b_1), .unset] [])) _
      refine XS.aload X_2.here hx rfl (hb hby at_20) rfl rfl ?_
      show Steps p.tables e below (T_2.setTop (mkF m 22 #[.val (.int p1), .val (.int p2), .val (.int p3), .val (.int p4), .val (.int (2 : Int32)), .val (.ref b_1), .unset] [(.ref b_1)])) _
      refine XS.iloadN X_2.here hx rfl (hb hby at_22) rfl ?_
      show Steps p.tables e below (T_2.setTop (mkF m 23 #[.val (.int p1), .val (.int p2), .val (.int p3), .val (.int p4), .val (.int (2 : Int32)), .val (.ref b_1), .unset] [(.int p1), (.ref b_1)])) _
      refine st_13.trans ?_
      show Steps p.tables e below (T_13.setTop (mkF m 26 #[.val (.int p1), .val (.int p2), .val (.int p3), .val (.int p4), .val (.int (2 : Int32)), .val (.ref b_1), .unset] [])) _
      refine XS.iload X_13.here hx rfl (hb hby at_26) rfl ?_
      show Steps p.tables e below (T_13.setTop (mkF m 28 #[.val (.int p1), .val (.int p2), .val (.int p3), .val (.int p4), .val (.int (2 : Int32)), .val (.ref b_1), .unset] [(.int (2 : Int32))])) _
      refine XS.iconst X_13.here hx rfl (hb hby at_28) ?_
      show Steps p.tables e below (T_13.setTop (mkF m 29 #[.val (.int p1), .val (.int p2), .val (.int p3), .val (.int p4), .val (.int (2 : Int32)), .val (.ref b_1), .unset] [(.int (2 : Int32)), (.int (2 : Int32))])) _
      refine XS.icmpNo X_13.here hx rfl (hb hby at_29) rfl (flt (by decide : ¬ ((2 : Int32) < (2 : Int32)))).1 ?_
      show Steps p.tables e below (T_13.setTop (mkF m 32 #[.val (.int p1), .val (.int p2), .val (.int p3), .val (.int p4), .val (.int (2 : Int32)), .val (.ref b_1), .unset] [])) _
      refine XS.aload X_13.here hx rfl (hb hby at_32) rfl rfl ?_
      show Steps p.tables e below (T_13.setTop (mkF m 34 #[.val (.int p1), .val (.int p2), .val (.int p3), .val (.int p4), .val (.int (2 : Int32)), .val (.ref b_1), .unset] [(.ref b_1)])) _
      refine XS.iloadN X_13.here hx rfl (hb hby at_34) rfl ?_
      show Steps p.tables e below (T_13.setTop (mkF m 35 #[.val (.int p1), .val (.int p2), .val (.int p3), .val (.int p4), .val (.int (2 : Int32)), .val (.ref b_1), .unset] [(.int p2), (.ref b_1)])) _
      refine st_14.trans ?_
      show Steps p.tables e below (T_14.setTop (mkF m 38 #[.val (.int p1), .val (.int p2), .val (.int p3), .val (.int p4), .val (.int (2 : Int32)), .val (.ref b_1), .unset] [])) _
      refine XS.iload X_14.here hx rfl (hb hby at_38) rfl ?_
      show Steps p.tables e below (T_14.setTop (mkF m 40 #[.val (.int p1), .val (.int p2), .val (.int p3), .val (.int p4), .val (.int (2 : Int32)), .val (.ref b_1), .unset] [(.int (2 : Int32))])) _
      refine XS.iconst X_14.here hx rfl (hb hby at_40) ?_
      show Steps p.tables e below (T_14.setTop (mkF m 41 #[.val (.int p1), .val (.int p2), .val (.int p3), .val (.int p4), .val (.int (2 : Int32)), .val (.ref b_1), .unset] [(.int (3 : Int32)), (.int (2 : Int32))])) _
      refine XS.icmpYes X_14.here hx rfl (pc0 := 41) (pc' := 50) rfl (hb hby at_41) rfl (tlt (by decide : (2 : Int32) < (3 : Int32))).1 (by decide) (by decide) ?_
      show Steps p.tables e below (T_14.setTop (mkF m 50 #[.val (.int p1), .val (.int p2), .val (.int p3), .val (.int p4), .val (.int (2 : Int32)), .val (.ref b_1), .unset] [])) _
      refine XS.iconst X_14.here hx rfl (hb hby at_50) ?_
      show Steps p.tables e below (T_14.setTop (mkF m 51 #[.val (.int p1), .val (.int p2), .val (.int p3), .val (.int p4), .val (.int (2 : Int32)), .val (.ref b_1), .unset] [(.int (0 : Int32))])) _
      refine XS.istore X_14.here hx rfl (hb hby at_51) rfl (l' := #[.val (.int p1), .val (.int p2), .val (.int p3), .val (.int p4), .val (.int (2 : Int32)), .val (.ref b_1), .val (.int (0 : Int32))]) rfl ?_
      show Steps p.tables e below (T_14.setTop (mkF m 53 #[.val (.int p1), .val (.int p2), .val (.int p3), .val (.int p4), .val (.int (2 : Int32)), .val (.ref b_1), .val (.int (0 : Int32))] [])) _
      refine XS.iload X_14.here hx rfl (hb hby at_53) rfl ?_
      show Steps p.tables e below (T_14.setTop (mkF m 55 #[.val (.int p1), .val (.int p2), .val (.int p3), .val (.int p4), .val (.int (2 : Int32)), .val (.ref b_1), .val (.int (0 : Int32))] [(.int (2 : Int32))])) _
      refine XS.iconst X_14.here hx rfl (hb hby at_55) ?_
      show Steps p.tables e below (T_14.setTop (mkF m 56 #[.val (.int p1), .val (.int p2), .val (.int p3), .val (.int p4), .val (.int (2 : Int32)), .val (.ref b_1), .val (.int (0 : Int32))] [(.int (1 : Int32)), (.int (2 : Int32))])) _
      refine XS.icmpNo X_14.here hx rfl (hb hby at_56) rfl (flt (by decide : ¬ ((2 : Int32) < (1 : Int32)))).1 ?_
      show Steps p.tables e below (T_14.setTop (mkF m 59 #[.val (.int p1), .val (.int p2), .val (.int p3), .val (.int p4), .val (.int (2 : Int32)), .val (.ref b_1), .val (.int (0 : Int32))] [])) _
      refine XS.iloadN X_14.here hx rfl (hb hby at_59) rfl ?_
      show Steps p.tables e below (T_14.setTop (mkF m 60 #[.val (.int p1), .val (.int p2), .val (.int p3), .val (.int p4), .val (.int (2 : Int32)), .val (.ref b_1), .val (.int (0 : Int32))] [(.int p1)])) _
      refine XS.iload X_14.here hx rfl (hb hby at_60) rfl ?_
      exact k
    by_cases hc_16 : (0 : Int32) < p1
    · have pr_17 : ∀ t, Steps p.tables e below (T_14.setTop (mkF m 77 #[.val (.int p1), .val (.int p2), .val (.int p3), .val (.int p4), .val (.int (2 : Int32)), .val (.ref b_1), .val (.int p1)] [(.int p1), (.int p2)])) t → Steps p.tables e below (s₁.setTop (entryFrame m #[(.int p1), (.int p2), (.int p3), (.int p4)] maxLocals)) t := fun t k => by
        refine pr_15 _ ?_
        show Steps p.tables e below (T_14.setTop (mkF m 62 #[.val (.int p1), .val (.int p2), .val (.int p3), .val (.int p4), .val (.int (2 : Int32)), .val (.ref b_1), .val (.int (0 : Int32))] [(.int (0 : Int32)), (.int p1)])) _
        refine XS.icmpNo X_14.here hx rfl (hb hby at_62) rfl (tlt hc_16).2.2.2 ?_
        show Steps p.tables e below (T_14.setTop (mkF m 65 #[.val (.int p1), .val (.int p2), .val (.int p3), .val (.int p4), .val (.int (2 : Int32)), .val (.ref b_1), .val (.int (0 : Int32))] [])) _
        refine XS.iloadN X_14.here hx rfl (hb hby at_65) rfl ?_
        show Steps p.tables e below (T_14.setTop (mkF m 66 #[.val (.int p1), .val (.int p2), .val (.int p3), .val (.int p4), .val (.int (2 : Int32)), .val (.ref b_1), .val (.int (0 : Int32))] [(.int p1)])) _
        refine XS.istore X_14.here hx rfl (hb hby at_66) rfl (l' := #[.val (.int p1), .val (.int p2), .val (.int p3), .val (.int p4), .val (.int (2 : Int32)), .val (.ref b_1), .val (.int p1)]) rfl ?_
        show Steps p.tables e below (T_14.setTop (mkF m 68 #[.val (.int p1), .val (.int p2), .val (.int p3), .val (.int p4), .val (.int (2 : Int32)), .val (.ref b_1), .val (.int p1)] [])) _
        refine XS.iload X_14.here hx rfl (hb hby at_68) rfl ?_
        show Steps p.tables e below (T_14.setTop (mkF m 70 #[.val (.int p1), .val (.int p2), .val (.int p3), .val (.int p4), .val (.int (2 : Int32)), .val (.ref b_1), .val (.int p1)] [(.int (2 : Int32))])) _
        refine XS.iconst X_14.here hx rfl (hb hby at_70) ?_
        show Steps p.tables e below (T_14.setTop (mkF m 71 #[.val (.int p1), .val (.int p2), .val (.int p3), .val (.int p4), .val (.int (2 : Int32)), .val (.ref b_1), .val (.int p1)] [(.int (2 : Int32)), (.int (2 : Int32))])) _
        refine XS.icmpNo X_14.here hx rfl (hb hby at_71) rfl (flt (by decide : ¬ ((2 : Int32) < (2 : Int32)))).1 ?_
        show Steps p.tables e below (T_14.setTop (mkF m 74 #[.val (.int p1), .val (.int p2), .val (.int p3), .val (.int p4), .val (.int (2 : Int32)), .val (.ref b_1), .val (.int p1)] [])) _
        refine XS.iloadN X_14.here hx rfl (hb hby at_74) rfl ?_
        show Steps p.tables e below (T_14.setTop (mkF m 75 #[.val (.int p1), .val (.int p2), .val (.int p3), .val (.int p4), .val (.int (2 : Int32)), .val (.ref b_1), .val (.int p1)] [(.int p2)])) _
        refine XS.iload X_14.here hx rfl (hb hby at_75) rfl ?_
        exact k
      by_cases hc_18 : p1 < p2
      · obtain ⟨cq_19, kq_19, q_19a, q_19b, q_19c⟩ := isOf hZ rfl o_14_0
        obtain ⟨_, _, ⟨T_19, L_19, k_19, n_19⟩, -, X_19, ⟨Lc_19, hQ_19, l_19, y_19, z_19⟩, st_19⟩ := X_14.virtualBack hx (y := (⟨"com/example/imply/imply/CheckStatistics", "checks", "()I"⟩ : MethodName)) (z := (⟨"com/example/imply/imply/CheckStatistics", "checks", "()I"⟩ : MethodName)) hown (mvT hZ (hw _ (List.mem_of_getElem? (i := 22) rfl))) (mvT hZ (hw _ (List.mem_of_getElem? (i := 23) rfl))) (notFace_of_selects (args := #[]) (mvT hZ (hw _ (List.mem_of_getElem? (i := 25) rfl)))) (mvT hZ (hw _ (List.mem_of_getElem? (i := 25) rfl))) (mvT hZ (hw _ (List.mem_of_getElem? (i := 24) rfl))) (by decide) (backOf (W := 0) (rm5 l Z a0 hw [] b_1 (((0 : Int32) + (1 : Int32)) + (1 : Int32)) T_14.heap n0 Z_14 o_14_1) hZ (hw _ (List.mem_of_getElem? (i := 26) rfl)) (hw _ (List.mem_of_getElem? (i := 2) rfl)) (by decide) (by decide)) q_19a q_19c (g := (mkF m 100 #[.val (.int p1), .val (.int p2), .val (.int p3), .val (.int p4), .val (.int (2 : Int32)), .val (.ref b_1), .val (.int p2)] [(.ref b_1)])) rfl (by rw [hml]; rfl) (Steps.refl _) (argsL := []) (rest := []) (lenOf pd_3 rfl) rfl (by show 2 * 0 + _ ≤ _; exact Nat.le_of_eq rfl) (hb hby at_100) (fun _ _ => ⟨rfl, rfl, (by decide : 1 + 0 ≤ _), (by decide : 2 + 0 ≤ _)⟩)
        dsimp only [Pt.U, Pt.locs, Pt.cells, Pt.slots] at X_19 l_19 y_19 z_19 st_19 hQ_19
        subst l_19 y_19 z_19
        obtain ⟨rfl, N_19q, e_19⟩ := hQ_19
        have N_19 := Fr.app N_14 N_19q
        obtain ⟨cq_20, kq_20, q_20a, q_20b, q_20c⟩ := isOf hZ e_19 o_14_0
        obtain ⟨_, _, ⟨T_20, L_20, k_20, n_20⟩, -, X_20, ⟨Lc_20, hQ_20, l_20, y_20, z_20⟩, st_20⟩ := X_19.virtualBack hx (y := (⟨"com/example/imply/imply/CheckStatistics", "maxIndividuals", "()I"⟩ : MethodName)) (z := (⟨"com/example/imply/imply/CheckStatistics", "maxIndividuals", "()I"⟩ : MethodName)) hown (mvT hZ (hw _ (List.mem_of_getElem? (i := 27) rfl))) (mvT hZ (hw _ (List.mem_of_getElem? (i := 28) rfl))) (notFace_of_selects (args := #[]) (mvT hZ (hw _ (List.mem_of_getElem? (i := 30) rfl)))) (mvT hZ (hw _ (List.mem_of_getElem? (i := 30) rfl))) (mvT hZ (hw _ (List.mem_of_getElem? (i := 29) rfl))) (by decide) (backOf (W := 0) (rm6 l Z a0 hw [] b_1 (own_max (own_max (0 : Int32) p1) p2) T_14.heap n0 Z_14 o_14_2) hZ (hw _ (List.mem_of_getElem? (i := 31) rfl)) (hw _ (List.mem_of_getElem? (i := 2) rfl)) (by decide) (by decide)) q_20a q_20c (g := (mkF m 110 #[.val (.int p1), .val (.int p2), .val (.int p3), .val (.int p4), .val (.int (2 : Int32)), .val (.ref b_1), .val (.int p2)] [(.ref b_1)])) rfl (by rw [hml]; rfl) (Steps.refl _) (argsL := []) (rest := []) (lenOf pd_3 rfl) rfl (by show 2 * 0 + _ ≤ _; exact Nat.le_of_eq rfl) (hb hby at_110) (fun _ _ => ⟨rfl, e_19, (by decide : 1 + 0 ≤ _), (by decide : 2 + 0 ≤ _)⟩)
        dsimp only [Pt.U, Pt.locs, Pt.cells, Pt.slots] at X_20 l_20 y_20 z_20 st_20 hQ_20
        subst l_20 y_20 z_20
        obtain ⟨rfl, N_20q, e_20⟩ := hQ_20
        have N_20 := Fr.app N_19 N_20q
        obtain ⟨fs, hr, hrun, hended, hW, hsame⟩ := X_20.leave (v := some (.int (1 : Int32))) (fun h => by rw [Bd.returns] at h; cases h)
        refine ⟨_, _, pr_17 _ ?_, hrun, hended, _, _, rfl, ?_, ⟨_, rfl⟩, hW, hsame.mono (by decide) (by decide)⟩
        · show Steps p.tables e below (T_14.setTop (mkF m 77 #[.val (.int p1), .val (.int p2), .val (.int p3), .val (.int p4), .val (.int (2 : Int32)), .val (.ref b_1), .val (.int p1)] [(.int p1), (.int p2)])) _
          refine XS.icmpNo X_14.here hx rfl (hb hby at_77) rfl (tlt hc_18).2.2.2 ?_
          show Steps p.tables e below (T_14.setTop (mkF m 80 #[.val (.int p1), .val (.int p2), .val (.int p3), .val (.int p4), .val (.int (2 : Int32)), .val (.ref b_1), .val (.int p1)] [])) _
          refine XS.iloadN X_14.here hx rfl (hb hby at_80) rfl ?_
          show Steps p.tables e below (T_14.setTop (mkF m 81 #[.val (.int p1), .val (.int p2), .val (.int p3), .val (.int p4), .val (.int (2 : Int32)), .val (.ref b_1), .val (.int p1)] [(.int p2)])) _
          refine XS.istore X_14.here hx rfl (hb hby at_81) rfl (l' := #[.val (.int p1), .val (.int p2), .val (.int p3), .val (.int p4), .val (.int (2 : Int32)), .val (.ref b_1), .val (.int p2)]) rfl ?_
          show Steps p.tables e below (T_14.setTop (mkF m 83 #[.val (.int p1), .val (.int p2), .val (.int p3), .val (.int p4), .val (.int (2 : Int32)), .val (.ref b_1), .val (.int p2)] [])) _
          refine XS.iload X_14.here hx rfl (hb hby at_83) rfl ?_
          show Steps p.tables e below (T_14.setTop (mkF m 85 #[.val (.int p1), .val (.int p2), .val (.int p3), .val (.int p4), .val (.int (2 : Int32)), .val (.ref b_1), .val (.int p2)] [(.int (2 : Int32))])) _
          refine XS.iconst X_14.here hx rfl (hb hby at_85) ?_
          show Steps p.tables e below (T_14.setTop (mkF m 86 #[.val (.int p1), .val (.int p2), .val (.int p3), .val (.int p4), .val (.int (2 : Int32)), .val (.ref b_1), .val (.int p2)] [(.int (3 : Int32)), (.int (2 : Int32))])) _
          refine XS.icmpYes X_14.here hx rfl (pc0 := 86) (pc' := 98) rfl (hb hby at_86) rfl (tlt (by decide : (2 : Int32) < (3 : Int32))).1 (by decide) (by decide) ?_
          show Steps p.tables e below (T_14.setTop (mkF m 98 #[.val (.int p1), .val (.int p2), .val (.int p3), .val (.int p4), .val (.int (2 : Int32)), .val (.ref b_1), .val (.int p2)] [])) _
          refine XS.aload X_14.here hx rfl (hb hby at_98) rfl rfl ?_
          show Steps p.tables e below (T_14.setTop (mkF m 100 #[.val (.int p1), .val (.int p2), .val (.int p3), .val (.int p4), .val (.int (2 : Int32)), .val (.ref b_1), .val (.int p2)] [(.ref b_1)])) _
          refine st_19.trans ?_
          show Steps p.tables e below (T_19.setTop (mkF m 103 #[.val (.int p1), .val (.int p2), .val (.int p3), .val (.int p4), .val (.int (2 : Int32)), .val (.ref b_1), .val (.int p2)] [(.int (((0 : Int32) + (1 : Int32)) + (1 : Int32)))])) _
          refine XS.iload X_19.here hx rfl (hb hby at_103) rfl ?_
          show Steps p.tables e below (T_19.setTop (mkF m 105 #[.val (.int p1), .val (.int p2), .val (.int p3), .val (.int p4), .val (.int (2 : Int32)), .val (.ref b_1), .val (.int p2)] [(.int (2 : Int32)), (.int (((0 : Int32) + (1 : Int32)) + (1 : Int32)))])) _
          refine XS.icmpNo X_19.here hx rfl (hb hby at_105) rfl (teq (by decide : (((0 : Int32) + (1 : Int32)) + (1 : Int32)) = (2 : Int32))).2 ?_
          show Steps p.tables e below (T_19.setTop (mkF m 108 #[.val (.int p1), .val (.int p2), .val (.int p3), .val (.int p4), .val (.int (2 : Int32)), .val (.ref b_1), .val (.int p2)] [])) _
          refine XS.aload X_19.here hx rfl (hb hby at_108) rfl rfl ?_
          show Steps p.tables e below (T_19.setTop (mkF m 110 #[.val (.int p1), .val (.int p2), .val (.int p3), .val (.int p4), .val (.int (2 : Int32)), .val (.ref b_1), .val (.int p2)] [(.ref b_1)])) _
          refine st_20.trans ?_
          show Steps p.tables e below (T_20.setTop (mkF m 113 #[.val (.int p1), .val (.int p2), .val (.int p3), .val (.int p4), .val (.int (2 : Int32)), .val (.ref b_1), .val (.int p2)] [(.int (own_max (own_max (0 : Int32) p1) p2))])) _
          refine XS.iload X_20.here hx rfl (hb hby at_113) rfl ?_
          show Steps p.tables e below (T_20.setTop (mkF m 115 #[.val (.int p1), .val (.int p2), .val (.int p3), .val (.int p4), .val (.int (2 : Int32)), .val (.ref b_1), .val (.int p2)] [(.int p2), (.int (own_max (own_max (0 : Int32) p1) p2))])) _
          refine XS.icmpNo X_20.here hx rfl (hb hby at_115) rfl (teq (by simp only [own_max, if_pos hc_16, if_pos hc_18] : (own_max (own_max (0 : Int32) p1) p2) = p2)).2 ?_
          show Steps p.tables e below (T_20.setTop (mkF m 118 #[.val (.int p1), .val (.int p2), .val (.int p3), .val (.int p4), .val (.int (2 : Int32)), .val (.ref b_1), .val (.int p2)] [])) _
          refine XS.iconst X_20.here hx rfl (hb hby at_118) ?_
          show Steps p.tables e below (T_20.setTop (mkF m 119 #[.val (.int p1), .val (.int p2), .val (.int p3), .val (.int p4), .val (.int (2 : Int32)), .val (.ref b_1), .val (.int p2)] [(.int (1 : Int32))])) _
          refine XS.goto X_20.here hx rfl (pc0 := 119) (pc' := 123) rfl (hb hby at_119) (by decide) (by decide) ?_
          show Steps p.tables e below (T_20.setTop (mkF m 123 #[.val (.int p1), .val (.int p2), .val (.int p3), .val (.int p4), .val (.int (2 : Int32)), .val (.ref b_1), .val (.int p2)] [(.int (1 : Int32))])) _
          exact retN X_20 hx (t := .boolean) Bd.returns (by simp) (hb hby at_123) hr
        · exact ⟨rfl, N_20⟩
      · obtain ⟨cq_21, kq_21, q_21a, q_21b, q_21c⟩ := isOf hZ rfl o_14_0
        obtain ⟨_, _, ⟨T_21, L_21, k_21, n_21⟩, -, X_21, ⟨Lc_21, hQ_21, l_21, y_21, z_21⟩, st_21⟩ := X_14.virtualBack hx (y := (⟨"com/example/imply/imply/CheckStatistics", "checks", "()I"⟩ : MethodName)) (z := (⟨"com/example/imply/imply/CheckStatistics", "checks", "()I"⟩ : MethodName)) hown (mvT hZ (hw _ (List.mem_of_getElem? (i := 22) rfl))) (mvT hZ (hw _ (List.mem_of_getElem? (i := 23) rfl))) (notFace_of_selects (args := #[]) (mvT hZ (hw _ (List.mem_of_getElem? (i := 25) rfl)))) (mvT hZ (hw _ (List.mem_of_getElem? (i := 25) rfl))) (mvT hZ (hw _ (List.mem_of_getElem? (i := 24) rfl))) (by decide) (backOf (W := 0) (rm5 l Z a0 hw [] b_1 (((0 : Int32) + (1 : Int32)) + (1 : Int32)) T_14.heap n0 Z_14 o_14_1) hZ (hw _ (List.mem_of_getElem? (i := 26) rfl)) (hw _ (List.mem_of_getElem? (i := 2) rfl)) (by decide) (by decide)) q_21a q_21c (g := (mkF m 100 #[.val (.int p1), .val (.int p2), .val (.int p3), .val (.int p4), .val (.int (2 : Int32)), .val (.ref b_1), .val (.int p1)] [(.ref b_1)])) rfl (by rw [hml]; rfl) (Steps.refl _) (argsL := []) (rest := []) (lenOf pd_3 rfl) rfl (by show 2 * 0 + _ ≤ _; exact Nat.le_of_eq rfl) (hb hby at_100) (fun _ _ => ⟨rfl, rfl, (by decide : 1 + 0 ≤ _), (by decide : 2 + 0 ≤ _)⟩)
        dsimp only [Pt.U, Pt.locs, Pt.cells, Pt.slots] at X_21 l_21 y_21 z_21 st_21 hQ_21
        subst l_21 y_21 z_21
        obtain ⟨rfl, N_21q, e_21⟩ := hQ_21
        have N_21 := Fr.app N_14 N_21q
        obtain ⟨cq_22, kq_22, q_22a, q_22b, q_22c⟩ := isOf hZ e_21 o_14_0
        obtain ⟨_, _, ⟨T_22, L_22, k_22, n_22⟩, -, X_22, ⟨Lc_22, hQ_22, l_22, y_22, z_22⟩, st_22⟩ := X_21.virtualBack hx (y := (⟨"com/example/imply/imply/CheckStatistics", "maxIndividuals", "()I"⟩ : MethodName)) (z := (⟨"com/example/imply/imply/CheckStatistics", "maxIndividuals", "()I"⟩ : MethodName)) hown (mvT hZ (hw _ (List.mem_of_getElem? (i := 27) rfl))) (mvT hZ (hw _ (List.mem_of_getElem? (i := 28) rfl))) (notFace_of_selects (args := #[]) (mvT hZ (hw _ (List.mem_of_getElem? (i := 30) rfl)))) (mvT hZ (hw _ (List.mem_of_getElem? (i := 30) rfl))) (mvT hZ (hw _ (List.mem_of_getElem? (i := 29) rfl))) (by decide) (backOf (W := 0) (rm6 l Z a0 hw [] b_1 (own_max (own_max (0 : Int32) p1) p2) T_14.heap n0 Z_14 o_14_2) hZ (hw _ (List.mem_of_getElem? (i := 31) rfl)) (hw _ (List.mem_of_getElem? (i := 2) rfl)) (by decide) (by decide)) q_22a q_22c (g := (mkF m 110 #[.val (.int p1), .val (.int p2), .val (.int p3), .val (.int p4), .val (.int (2 : Int32)), .val (.ref b_1), .val (.int p1)] [(.ref b_1)])) rfl (by rw [hml]; rfl) (Steps.refl _) (argsL := []) (rest := []) (lenOf pd_3 rfl) rfl (by show 2 * 0 + _ ≤ _; exact Nat.le_of_eq rfl) (hb hby at_110) (fun _ _ => ⟨rfl, e_21, (by decide : 1 + 0 ≤ _), (by decide : 2 + 0 ≤ _)⟩)
        dsimp only [Pt.U, Pt.locs, Pt.cells, Pt.slots] at X_22 l_22 y_22 z_22 st_22 hQ_22
        subst l_22 y_22 z_22
        obtain ⟨rfl, N_22q, e_22⟩ := hQ_22
        have N_22 := Fr.app N_21 N_22q
        obtain ⟨fs, hr, hrun, hended, hW, hsame⟩ := X_22.leave (v := some (.int (1 : Int32))) (fun h => by rw [Bd.returns] at h; cases h)
        refine ⟨_, _, pr_17 _ ?_, hrun, hended, _, _, rfl, ?_, ⟨_, rfl⟩, hW, hsame.mono (by decide) (by decide)⟩
        · show Steps p.tables e below (T_14.setTop (mkF m 77 #[.val (.int p1), .val (.int p2), .val (.int p3), .val (.int p4), .val (.int (2 : Int32)), .val (.ref b_1), .val (.int p1)] [(.int p1), (.int p2)])) _
          refine XS.icmpYes X_14.here hx rfl (pc0 := 77) (pc' := 83) rfl (hb hby at_77) rfl (flt hc_18).2.2.2 (by decide) (by decide) ?_
          show Steps p.tables e below (T_14.setTop (mkF m 83 #[.val (.int p1), .val (.int p2), .val (.int p3), .val (.int p4), .val (.int (2 : Int32)), .val (.ref b_1), .val (.int p1)] [])) _
          refine XS.iload X_14.here hx rfl (hb hby at_83) rfl ?_
          show Steps p.tables e below (T_14.setTop (mkF m 85 #[.val (.int p1), .val (.int p2), .val (.int p3), .val (.int p4), .val (.int (2 : Int32)), .val (.ref b_1), .val (.int p1)] [(.int (2 : Int32))])) _
          refine XS.iconst X_14.here hx rfl (hb hby at_85) ?_
          show Steps p.tables e below (T_14.setTop (mkF m 86 #[.val (.int p1), .val (.int p2), .val (.int p3), .val (.int p4), .val (.int (2 : Int32)), .val (.ref b_1), .val (.int p1)] [(.int (3 : Int32)), (.int (2 : Int32))])) _
          refine XS.icmpYes X_14.here hx rfl (pc0 := 86) (pc' := 98) rfl (hb hby at_86) rfl (tlt (by decide : (2 : Int32) < (3 : Int32))).1 (by decide) (by decide) ?_
          show Steps p.tables e below (T_14.setTop (mkF m 98 #[.val (.int p1), .val (.int p2), .val (.int p3), .val (.int p4), .val (.int (2 : Int32)), .val (.ref b_1), .val (.int p1)] [])) _
          refine XS.aload X_14.here hx rfl (hb hby at_98) rfl rfl ?_
          show Steps p.tables e below (T_14.setTop (mkF m 100 #[.val (.int p1), .val (.int p2), .val (.int p3), .val (.int p4), .val (.int (2 : Int32)), .val (.ref b_1), .val (.int p1)] [(.ref b_1)])) _
          refine st_21.trans ?_
          show Steps p.tables e below (T_21.setTop (mkF m 103 #[.val (.int p1), .val (.int p2), .val (.int p3), .val (.int p4), .val (.int (2 : Int32)), .val (.ref b_1), .val (.int p1)] [(.int (((0 : Int32) + (1 : Int32)) + (1 : Int32)))])) _
          refine XS.iload X_21.here hx rfl (hb hby at_103) rfl ?_
          show Steps p.tables e below (T_21.setTop (mkF m 105 #[.val (.int p1), .val (.int p2), .val (.int p3), .val (.int p4), .val (.int (2 : Int32)), .val (.ref b_1), .val (.int p1)] [(.int (2 : Int32)), (.int (((0 : Int32) + (1 : Int32)) + (1 : Int32)))])) _
          refine XS.icmpNo X_21.here hx rfl (hb hby at_105) rfl (teq (by decide : (((0 : Int32) + (1 : Int32)) + (1 : Int32)) = (2 : Int32))).2 ?_
          show Steps p.tables e below (T_21.setTop (mkF m 108 #[.val (.int p1), .val (.int p2), .val (.int p3), .val (.int p4), .val (.int (2 : Int32)), .val (.ref b_1), .val (.int p1)] [])) _
          refine XS.aload X_21.here hx rfl (hb hby at_108) rfl rfl ?_
          show Steps p.tables e below (T_21.setTop (mkF m 110 #[.val (.int p1), .val (.int p2), .val (.int p3), .val (.int p4), .val (.int (2 : Int32)), .val (.ref b_1), .val (.int p1)] [(.ref b_1)])) _
          refine st_22.trans ?_
          show Steps p.tables e below (T_22.setTop (mkF m 113 #[.val (.int p1), .val (.int p2), .val (.int p3), .val (.int p4), .val (.int (2 : Int32)), .val (.ref b_1), .val (.int p1)] [(.int (own_max (own_max (0 : Int32) p1) p2))])) _
          refine XS.iload X_22.here hx rfl (hb hby at_113) rfl ?_
          show Steps p.tables e below (T_22.setTop (mkF m 115 #[.val (.int p1), .val (.int p2), .val (.int p3), .val (.int p4), .val (.int (2 : Int32)), .val (.ref b_1), .val (.int p1)] [(.int p1), (.int (own_max (own_max (0 : Int32) p1) p2))])) _
          refine XS.icmpNo X_22.here hx rfl (hb hby at_115) rfl (teq (by simp only [own_max, if_pos hc_16, if_neg hc_18] : (own_max (own_max (0 : Int32) p1) p2) = p1)).2 ?_
          show Steps p.tables e below (T_22.setTop (mkF m 118 #[.val (.int p1), .val (.int p2), .val (.int p3), .val (.int p4), .val (.int (2 : Int32)), .val (.ref b_1), .val (.int p1)] [])) _
          refine XS.iconst X_22.here hx rfl (hb hby at_118) ?_
          show Steps p.tables e below (T_22.setTop (mkF m 119 #[.val (.int p1), .val (.int p2), .val (.int p3), .val (.int p4), .val (.int (2 : Int32)), .val (.ref b_1), .val (.int p1)] [(.int (1 : Int32))])) _
          refine XS.goto X_22.here hx rfl (pc0 := 119) (pc' := 123) rfl (hb hby at_119) (by decide) (by decide) ?_
          show Steps p.tables e below (T_22.setTop (mkF m 123 #[.val (.int p1), .val (.int p2), .val (.int p3), .val (.int p4), .val (.int (2 : Int32)), .val (.ref b_1), .val (.int p1)] [(.int (1 : Int32))])) _
          exact retN X_22 hx (t := .boolean) Bd.returns (by simp) (hb hby at_123) hr
        · exact ⟨rfl, N_22⟩
    · have pr_23 : ∀ t, Steps p.tables e below (T_14.setTop (mkF m 77 #[.val (.int p1), .val (.int p2), .val (.int p3), .val (.int p4), .val (.int (2 : Int32)), .val (.ref b_1), .val (.int (0 : Int32))] [(.int (0 : Int32)), (.int p2)])) t → Steps p.tables e below (s₁.setTop (entryFrame m #[(.int p1), (.int p2), (.int p3), (.int p4)] maxLocals)) t := fun t k => by
        refine pr_15 _ ?_
        show Steps p.tables e below (T_14.setTop (mkF m 62 #[.val (.int p1), .val (.int p2), .val (.int p3), .val (.int p4), .val (.int (2 : Int32)), .val (.ref b_1), .val (.int (0 : Int32))] [(.int (0 : Int32)), (.int p1)])) _
        refine XS.icmpYes X_14.here hx rfl (pc0 := 62) (pc' := 68) rfl (hb hby at_62) rfl (flt hc_16).2.2.2 (by decide) (by decide) ?_
        show Steps p.tables e below (T_14.setTop (mkF m 68 #[.val (.int p1), .val (.int p2), .val (.int p3), .val (.int p4), .val (.int (2 : Int32)), .val (.ref b_1), .val (.int (0 : Int32))] [])) _
        refine XS.iload X_14.here hx rfl (hb hby at_68) rfl ?_
        show Steps p.tables e below (T_14.setTop (mkF m 70 #[.val (.int p1), .val (.int p2), .val (.int p3), .val (.int p4), .val (.int (2 : Int32)), .val (.ref b_1), .val (.int (0 : Int32))] [(.int (2 : Int32))])) _
        refine XS.iconst X_14.here hx rfl (hb hby at_70) ?_
        show Steps p.tables e below (T_14.setTop (mkF m 71 #[.val (.int p1), .val (.int p2), .val (.int p3), .val (.int p4), .val (.int (2 : Int32)), .val (.ref b_1), .val (.int (0 : Int32))] [(.int (2 : Int32)), (.int (2 : Int32))])) _
        refine XS.icmpNo X_14.here hx rfl (hb hby at_71) rfl (flt (by decide : ¬ ((2 : Int32) < (2 : Int32)))).1 ?_
        show Steps p.tables e below (T_14.setTop (mkF m 74 #[.val (.int p1), .val (.int p2), .val (.int p3), .val (.int p4), .val (.int (2 : Int32)), .val (.ref b_1), .val (.int (0 : Int32))] [])) _
        refine XS.iloadN X_14.here hx rfl (hb hby at_74) rfl ?_
        show Steps p.tables e below (T_14.setTop (mkF m 75 #[.val (.int p1), .val (.int p2), .val (.int p3), .val (.int p4), .val (.int (2 : Int32)), .val (.ref b_1), .val (.int (0 : Int32))] [(.int p2)])) _
        refine XS.iload X_14.here hx rfl (hb hby at_75) rfl ?_
        exact k
      by_cases hc_24 : (0 : Int32) < p2
      · obtain ⟨cq_25, kq_25, q_25a, q_25b, q_25c⟩ := isOf hZ rfl o_14_0
        obtain ⟨_, _, ⟨T_25, L_25, k_25, n_25⟩, -, X_25, ⟨Lc_25, hQ_25, l_25, y_25, z_25⟩, st_25⟩ := X_14.virtualBack hx (y := (⟨"com/example/imply/imply/CheckStatistics", "checks", "()I"⟩ : MethodName)) (z := (⟨"com/example/imply/imply/CheckStatistics", "checks", "()I"⟩ : MethodName)) hown (mvT hZ (hw _ (List.mem_of_getElem? (i := 22) rfl))) (mvT hZ (hw _ (List.mem_of_getElem? (i := 23) rfl))) (notFace_of_selects (args := #[]) (mvT hZ (hw _ (List.mem_of_getElem? (i := 25) rfl)))) (mvT hZ (hw _ (List.mem_of_getElem? (i := 25) rfl))) (mvT hZ (hw _ (List.mem_of_getElem? (i := 24) rfl))) (by decide) (backOf (W := 0) (rm5 l Z a0 hw [] b_1 (((0 : Int32) + (1 : Int32)) + (1 : Int32)) T_14.heap n0 Z_14 o_14_1) hZ (hw _ (List.mem_of_getElem? (i := 26) rfl)) (hw _ (List.mem_of_getElem? (i := 2) rfl)) (by decide) (by decide)) q_25a q_25c (g := (mkF m 100 #[.val (.int p1), .val (.int p2), .val (.int p3), .val (.int p4), .val (.int (2 : Int32)), .val (.ref b_1), .val (.int p2)] [(.ref b_1)])) rfl (by rw [hml]; rfl) (Steps.refl _) (argsL := []) (rest := []) (lenOf pd_3 rfl) rfl (by show 2 * 0 + _ ≤ _; exact Nat.le_of_eq rfl) (hb hby at_100) (fun _ _ => ⟨rfl, rfl, (by decide : 1 + 0 ≤ _), (by decide : 2 + 0 ≤ _)⟩)
        dsimp only [Pt.U, Pt.locs, Pt.cells, Pt.slots] at X_25 l_25 y_25 z_25 st_25 hQ_25
        subst l_25 y_25 z_25
        obtain ⟨rfl, N_25q, e_25⟩ := hQ_25
        have N_25 := Fr.app N_14 N_25q
        obtain ⟨cq_26, kq_26, q_26a, q_26b, q_26c⟩ := isOf hZ e_25 o_14_0
        obtain ⟨_, _, ⟨T_26, L_26, k_26, n_26⟩, -, X_26, ⟨Lc_26, hQ_26, l_26, y_26, z_26⟩, st_26⟩ := X_25.virtualBack hx (y := (⟨"com/example/imply/imply/CheckStatistics", "maxIndividuals", "()I"⟩ : MethodName)) (z := (⟨"com/example/imply/imply/CheckStatistics", "maxIndividuals", "()I"⟩ : MethodName)) hown (mvT hZ (hw _ (List.mem_of_getElem? (i := 27) rfl))) (mvT hZ (hw _ (List.mem_of_getElem? (i := 28) rfl))) (notFace_of_selects (args := #[]) (mvT hZ (hw _ (List.mem_of_getElem? (i := 30) rfl)))) (mvT hZ (hw _ (List.mem_of_getElem? (i := 30) rfl))) (mvT hZ (hw _ (List.mem_of_getElem? (i := 29) rfl))) (by decide) (backOf (W := 0) (rm6 l Z a0 hw [] b_1 (own_max (own_max (0 : Int32) p1) p2) T_14.heap n0 Z_14 o_14_2) hZ (hw _ (List.mem_of_getElem? (i := 31) rfl)) (hw _ (List.mem_of_getElem? (i := 2) rfl)) (by decide) (by decide)) q_26a q_26c (g := (mkF m 110 #[.val (.int p1), .val (.int p2), .val (.int p3), .val (.int p4), .val (.int (2 : Int32)), .val (.ref b_1), .val (.int p2)] [(.ref b_1)])) rfl (by rw [hml]; rfl) (Steps.refl _) (argsL := []) (rest := []) (lenOf pd_3 rfl) rfl (by show 2 * 0 + _ ≤ _; exact Nat.le_of_eq rfl) (hb hby at_110) (fun _ _ => ⟨rfl, e_25, (by decide : 1 + 0 ≤ _), (by decide : 2 + 0 ≤ _)⟩)
        dsimp only [Pt.U, Pt.locs, Pt.cells, Pt.slots] at X_26 l_26 y_26 z_26 st_26 hQ_26
        subst l_26 y_26 z_26
        obtain ⟨rfl, N_26q, e_26⟩ := hQ_26
        have N_26 := Fr.app N_25 N_26q
        obtain ⟨fs, hr, hrun, hended, hW, hsame⟩ := X_26.leave (v := some (.int (1 : Int32))) (fun h => by rw [Bd.returns] at h; cases h)
        refine ⟨_, _, pr_23 _ ?_, hrun, hended, _, _, rfl, ?_, ⟨_, rfl⟩, hW, hsame.mono (by decide) (by decide)⟩
        · show Steps p.tables e below (T_14.setTop (mkF m 77 #[.val (.int p1), .val (.int p2), .val (.int p3), .val (.int p4), .val (.int (2 : Int32)), .val (.ref b_1), .val (.int (0 : Int32))] [(.int (0 : Int32)), (.int p2)])) _
          refine XS.icmpNo X_14.here hx rfl (hb hby at_77) rfl (tlt hc_24).2.2.2 ?_
          show Steps p.tables e below (T_14.setTop (mkF m 80 #[.val (.int p1), .val (.int p2), .val (.int p3), .val (.int p4), .val (.int (2 : Int32)), .val (.ref b_1), .val (.int (0 : Int32))] [])) _
          refine XS.iloadN X_14.here hx rfl (hb hby at_80) rfl ?_
          show Steps p.tables e below (T_14.setTop (mkF m 81 #[.val (.int p1), .val (.int p2), .val (.int p3), .val (.int p4), .val (.int (2 : Int32)), .val (.ref b_1), .val (.int (0 : Int32))] [(.int p2)])) _
          refine XS.istore X_14.here hx rfl (hb hby at_81) rfl (l' := #[.val (.int p1), .val (.int p2), .val (.int p3), .val (.int p4), .val (.int (2 : Int32)), .val (.ref b_1), .val (.int p2)]) rfl ?_
          show Steps p.tables e below (T_14.setTop (mkF m 83 #[.val (.int p1), .val (.int p2), .val (.int p3), .val (.int p4), .val (.int (2 : Int32)), .val (.ref b_1), .val (.int p2)] [])) _
          refine XS.iload X_14.here hx rfl (hb hby at_83) rfl ?_
          show Steps p.tables e below (T_14.setTop (mkF m 85 #[.val (.int p1), .val (.int p2), .val (.int p3), .val (.int p4), .val (.int (2 : Int32)), .val (.ref b_1), .val (.int p2)] [(.int (2 : Int32))])) _
          refine XS.iconst X_14.here hx rfl (hb hby at_85) ?_
          show Steps p.tables e below (T_14.setTop (mkF m 86 #[.val (.int p1), .val (.int p2), .val (.int p3), .val (.int p4), .val (.int (2 : Int32)), .val (.ref b_1), .val (.int p2)] [(.int (3 : Int32)), (.int (2 : Int32))])) _
          refine XS.icmpYes X_14.here hx rfl (pc0 := 86) (pc' := 98) rfl (hb hby at_86) rfl (tlt (by decide : (2 : Int32) < (3 : Int32))).1 (by decide) (by decide) ?_
          show Steps p.tables e below (T_14.setTop (mkF m 98 #[.val (.int p1), .val (.int p2), .val (.int p3), .val (.int p4), .val (.int (2 : Int32)), .val (.ref b_1), .val (.int p2)] [])) _
          refine XS.aload X_14.here hx rfl (hb hby at_98) rfl rfl ?_
          show Steps p.tables e below (T_14.setTop (mkF m 100 #[.val (.int p1), .val (.int p2), .val (.int p3), .val (.int p4), .val (.int (2 : Int32)), .val (.ref b_1), .val (.int p2)] [(.ref b_1)])) _
          refine st_25.trans ?_
          show Steps p.tables e below (T_25.setTop (mkF m 103 #[.val (.int p1), .val (.int p2), .val (.int p3), .val (.int p4), .val (.int (2 : Int32)), .val (.ref b_1), .val (.int p2)] [(.int (((0 : Int32) + (1 : Int32)) + (1 : Int32)))])) _
          refine XS.iload X_25.here hx rfl (hb hby at_103) rfl ?_
          show Steps p.tables e below (T_25.setTop (mkF m 105 #[.val (.int p1), .val (.int p2), .val (.int p3), .val (.int p4), .val (.int (2 : Int32)), .val (.ref b_1), .val (.int p2)] [(.int (2 : Int32)), (.int (((0 : Int32) + (1 : Int32)) + (1 : Int32)))])) _
          refine XS.icmpNo X_25.here hx rfl (hb hby at_105) rfl (teq (by decide : (((0 : Int32) + (1 : Int32)) + (1 : Int32)) = (2 : Int32))).2 ?_
          show Steps p.tables e below (T_25.setTop (mkF m 108 #[.val (.int p1), .val (.int p2), .val (.int p3), .val (.int p4), .val (.int (2 : Int32)), .val (.ref b_1), .val (.int p2)] [])) _
          refine XS.aload X_25.here hx rfl (hb hby at_108) rfl rfl ?_
          show Steps p.tables e below (T_25.setTop (mkF m 110 #[.val (.int p1), .val (.int p2), .val (.int p3), .val (.int p4), .val (.int (2 : Int32)), .val (.ref b_1), .val (.int p2)] [(.ref b_1)])) _
          refine st_26.trans ?_
          show Steps p.tables e below (T_26.setTop (mkF m 113 #[.val (.int p1), .val (.int p2), .val (.int p3), .val (.int p4), .val (.int (2 : Int32)), .val (.ref b_1), .val (.int p2)] [(.int (own_max (own_max (0 : Int32) p1) p2))])) _
          refine XS.iload X_26.here hx rfl (hb hby at_113) rfl ?_
          show Steps p.tables e below (T_26.setTop (mkF m 115 #[.val (.int p1), .val (.int p2), .val (.int p3), .val (.int p4), .val (.int (2 : Int32)), .val (.ref b_1), .val (.int p2)] [(.int p2), (.int (own_max (own_max (0 : Int32) p1) p2))])) _
          refine XS.icmpNo X_26.here hx rfl (hb hby at_115) rfl (teq (by simp only [own_max, if_neg hc_16, if_pos hc_24] : (own_max (own_max (0 : Int32) p1) p2) = p2)).2 ?_
          show Steps p.tables e below (T_26.setTop (mkF m 118 #[.val (.int p1), .val (.int p2), .val (.int p3), .val (.int p4), .val (.int (2 : Int32)), .val (.ref b_1), .val (.int p2)] [])) _
          refine XS.iconst X_26.here hx rfl (hb hby at_118) ?_
          show Steps p.tables e below (T_26.setTop (mkF m 119 #[.val (.int p1), .val (.int p2), .val (.int p3), .val (.int p4), .val (.int (2 : Int32)), .val (.ref b_1), .val (.int p2)] [(.int (1 : Int32))])) _
          refine XS.goto X_26.here hx rfl (pc0 := 119) (pc' := 123) rfl (hb hby at_119) (by decide) (by decide) ?_
          show Steps p.tables e below (T_26.setTop (mkF m 123 #[.val (.int p1), .val (.int p2), .val (.int p3), .val (.int p4), .val (.int (2 : Int32)), .val (.ref b_1), .val (.int p2)] [(.int (1 : Int32))])) _
          exact retN X_26 hx (t := .boolean) Bd.returns (by simp) (hb hby at_123) hr
        · exact ⟨rfl, N_26⟩
      · obtain ⟨cq_27, kq_27, q_27a, q_27b, q_27c⟩ := isOf hZ rfl o_14_0
        obtain ⟨_, _, ⟨T_27, L_27, k_27, n_27⟩, -, X_27, ⟨Lc_27, hQ_27, l_27, y_27, z_27⟩, st_27⟩ := X_14.virtualBack hx (y := (⟨"com/example/imply/imply/CheckStatistics", "checks", "()I"⟩ : MethodName)) (z := (⟨"com/example/imply/imply/CheckStatistics", "checks", "()I"⟩ : MethodName)) hown (mvT hZ (hw _ (List.mem_of_getElem? (i := 22) rfl))) (mvT hZ (hw _ (List.mem_of_getElem? (i := 23) rfl))) (notFace_of_selects (args := #[]) (mvT hZ (hw _ (List.mem_of_getElem? (i := 25) rfl)))) (mvT hZ (hw _ (List.mem_of_getElem? (i := 25) rfl))) (mvT hZ (hw _ (List.mem_of_getElem? (i := 24) rfl))) (by decide) (backOf (W := 0) (rm5 l Z a0 hw [] b_1 (((0 : Int32) + (1 : Int32)) + (1 : Int32)) T_14.heap n0 Z_14 o_14_1) hZ (hw _ (List.mem_of_getElem? (i := 26) rfl)) (hw _ (List.mem_of_getElem? (i := 2) rfl)) (by decide) (by decide)) q_27a q_27c (g := (mkF m 100 #[.val (.int p1), .val (.int p2), .val (.int p3), .val (.int p4), .val (.int (2 : Int32)), .val (.ref b_1), .val (.int (0 : Int32))] [(.ref b_1)])) rfl (by rw [hml]; rfl) (Steps.refl _) (argsL := []) (rest := []) (lenOf pd_3 rfl) rfl (by show 2 * 0 + _ ≤ _; exact Nat.le_of_eq rfl) (hb hby at_100) (fun _ _ => ⟨rfl, rfl, (by decide : 1 + 0 ≤ _), (by decide : 2 + 0 ≤ _)⟩)
        dsimp only [Pt.U, Pt.locs, Pt.cells, Pt.slots] at X_27 l_27 y_27 z_27 st_27 hQ_27
        subst l_27 y_27 z_27
        obtain ⟨rfl, N_27q, e_27⟩ := hQ_27
        have N_27 := Fr.app N_14 N_27q
        obtain ⟨cq_28, kq_28, q_28a, q_28b, q_28c⟩ := isOf hZ e_27 o_14_0
        obtain ⟨_, _, ⟨T_28, L_28, k_28, n_28⟩, -, X_28, ⟨Lc_28, hQ_28, l_28, y_28, z_28⟩, st_28⟩ := X_27.virtualBack hx (y := (⟨"com/example/imply/imply/CheckStatistics", "maxIndividuals", "()I"⟩ : MethodName)) (z := (⟨"com/example/imply/imply/CheckStatistics", "maxIndividuals", "()I"⟩ : MethodName)) hown (mvT hZ (hw _ (List.mem_of_getElem? (i := 27) rfl))) (mvT hZ (hw _ (List.mem_of_getElem? (i := 28) rfl))) (notFace_of_selects (args := #[]) (mvT hZ (hw _ (List.mem_of_getElem? (i := 30) rfl)))) (mvT hZ (hw _ (List.mem_of_getElem? (i := 30) rfl))) (mvT hZ (hw _ (List.mem_of_getElem? (i := 29) rfl))) (by decide) (backOf (W := 0) (rm6 l Z a0 hw [] b_1 (own_max (own_max (0 : Int32) p1) p2) T_14.heap n0 Z_14 o_14_2) hZ (hw _ (List.mem_of_getElem? (i := 31) rfl)) (hw _ (List.mem_of_getElem? (i := 2) rfl)) (by decide) (by decide)) q_28a q_28c (g := (mkF m 110 #[.val (.int p1), .val (.int p2), .val (.int p3), .val (.int p4), .val (.int (2 : Int32)), .val (.ref b_1), .val (.int (0 : Int32))] [(.ref b_1)])) rfl (by rw [hml]; rfl) (Steps.refl _) (argsL := []) (rest := []) (lenOf pd_3 rfl) rfl (by show 2 * 0 + _ ≤ _; exact Nat.le_of_eq rfl) (hb hby at_110) (fun _ _ => ⟨rfl, e_27, (by decide : 1 + 0 ≤ _), (by decide : 2 + 0 ≤ _)⟩)
        dsimp only [Pt.U, Pt.locs, Pt.cells, Pt.slots] at X_28 l_28 y_28 z_28 st_28 hQ_28
        subst l_28 y_28 z_28
        obtain ⟨rfl, N_28q, e_28⟩ := hQ_28
        have N_28 := Fr.app N_27 N_28q
        obtain ⟨fs, hr, hrun, hended, hW, hsame⟩ := X_28.leave (v := some (.int (1 : Int32))) (fun h => by rw [Bd.returns] at h; cases h)
        refine ⟨_, _, pr_23 _ ?_, hrun, hended, _, _, rfl, ?_, ⟨_, rfl⟩, hW, hsame.mono (by decide) (by decide)⟩
        · show Steps p.tables e below (T_14.setTop (mkF m 77 #[.val (.int p1), .val (.int p2), .val (.int p3), .val (.int p4), .val (.int (2 : Int32)), .val (.ref b_1), .val (.int (0 : Int32))] [(.int (0 : Int32)), (.int p2)])) _
          refine XS.icmpYes X_14.here hx rfl (pc0 := 77) (pc' := 83) rfl (hb hby at_77) rfl (flt hc_24).2.2.2 (by decide) (by decide) ?_
          show Steps p.tables e below (T_14.setTop (mkF m 83 #[.val (.int p1), .val (.int p2), .val (.int p3), .val (.int p4), .val (.int (2 : Int32)), .val (.ref b_1), .val (.int (0 : Int32))] [])) _
          refine XS.iload X_14.here hx rfl (hb hby at_83) rfl ?_
          show Steps p.tables e below (T_14.setTop (mkF m 85 #[.val (.int p1), .val (.int p2), .val (.int p3), .val (.int p4), .val (.int (2 : Int32)), .val (.ref b_1), .val (.int (0 : Int32))] [(.int (2 : Int32))])) _
          refine XS.iconst X_14.here hx rfl (hb hby at_85) ?_
          show Steps p.tables e below (T_14.setTop (mkF m 86 #[.val (.int p1), .val (.int p2), .val (.int p3), .val (.int p4), .val (.int (2 : Int32)), .val (.ref b_1), .val (.int (0 : Int32))] [(.int (3 : Int32)), (.int (2 : Int32))])) _
          refine XS.icmpYes X_14.here hx rfl (pc0 := 86) (pc' := 98) rfl (hb hby at_86) rfl (tlt (by decide : (2 : Int32) < (3 : Int32))).1 (by decide) (by decide) ?_
          show Steps p.tables e below (T_14.setTop (mkF m 98 #[.val (.int p1), .val (.int p2), .val (.int p3), .val (.int p4), .val (.int (2 : Int32)), .val (.ref b_1), .val (.int (0 : Int32))] [])) _
          refine XS.aload X_14.here hx rfl (hb hby at_98) rfl rfl ?_
          show Steps p.tables e below (T_14.setTop (mkF m 100 #[.val (.int p1), .val (.int p2), .val (.int p3), .val (.int p4), .val (.int (2 : Int32)), .val (.ref b_1), .val (.int (0 : Int32))] [(.ref b_1)])) _
          refine st_27.trans ?_
          show Steps p.tables e below (T_27.setTop (mkF m 103 #[.val (.int p1), .val (.int p2), .val (.int p3), .val (.int p4), .val (.int (2 : Int32)), .val (.ref b_1), .val (.int (0 : Int32))] [(.int (((0 : Int32) + (1 : Int32)) + (1 : Int32)))])) _
          refine XS.iload X_27.here hx rfl (hb hby at_103) rfl ?_
          show Steps p.tables e below (T_27.setTop (mkF m 105 #[.val (.int p1), .val (.int p2), .val (.int p3), .val (.int p4), .val (.int (2 : Int32)), .val (.ref b_1), .val (.int (0 : Int32))] [(.int (2 : Int32)), (.int (((0 : Int32) + (1 : Int32)) + (1 : Int32)))])) _
          refine XS.icmpNo X_27.here hx rfl (hb hby at_105) rfl (teq (by decide : (((0 : Int32) + (1 : Int32)) + (1 : Int32)) = (2 : Int32))).2 ?_
          show Steps p.tables e below (T_27.setTop (mkF m 108 #[.val (.int p1), .val (.int p2), .val (.int p3), .val (.int p4), .val (.int (2 : Int32)), .val (.ref b_1), .val (.int (0 : Int32))] [])) _
          refine XS.aload X_27.here hx rfl (hb hby at_108) rfl rfl ?_
          show Steps p.tables e below (T_27.setTop (mkF m 110 #[.val (.int p1), .val (.int p2), .val (.int p3), .val (.int p4), .val (.int (2 : Int32)), .val (.ref b_1), .val (.int (0 : Int32))] [(.ref b_1)])) _
          refine st_28.trans ?_
          show Steps p.tables e below (T_28.setTop (mkF m 113 #[.val (.int p1), .val (.int p2), .val (.int p3), .val (.int p4), .val (.int (2 : Int32)), .val (.ref b_1), .val (.int (0 : Int32))] [(.int (own_max (own_max (0 : Int32) p1) p2))])) _
          refine XS.iload X_28.here hx rfl (hb hby at_113) rfl ?_
          show Steps p.tables e below (T_28.setTop (mkF m 115 #[.val (.int p1), .val (.int p2), .val (.int p3), .val (.int p4), .val (.int (2 : Int32)), .val (.ref b_1), .val (.int (0 : Int32))] [(.int (0 : Int32)), (.int (own_max (own_max (0 : Int32) p1) p2))])) _
          refine XS.icmpNo X_28.here hx rfl (hb hby at_115) rfl (teq (by simp only [own_max, if_neg hc_16, if_neg hc_24] : (own_max (own_max (0 : Int32) p1) p2) = (0 : Int32))).2 ?_
          show Steps p.tables e below (T_28.setTop (mkF m 118 #[.val (.int p1), .val (.int p2), .val (.int p3), .val (.int p4), .val (.int (2 : Int32)), .val (.ref b_1), .val (.int (0 : Int32))] [])) _
          refine XS.iconst X_28.here hx rfl (hb hby at_118) ?_
          show Steps p.tables e below (T_28.setTop (mkF m 119 #[.val (.int p1), .val (.int p2), .val (.int p3), .val (.int p4), .val (.int (2 : Int32)), .val (.ref b_1), .val (.int (0 : Int32))] [(.int (1 : Int32))])) _
          refine XS.goto X_28.here hx rfl (pc0 := 119) (pc' := 123) rfl (hb hby at_119) (by decide) (by decide) ?_
          show Steps p.tables e below (T_28.setTop (mkF m 123 #[.val (.int p1), .val (.int p2), .val (.int p3), .val (.int p4), .val (.int (2 : Int32)), .val (.ref b_1), .val (.int (0 : Int32))] [(.int (1 : Int32))])) _
          exact retN X_28 hx (t := .boolean) Bd.returns (by simp) (hb hby at_123) hr
        · exact ⟨rfl, N_28⟩
  · obtain ⟨cq_29, kq_29, q_29a, q_29b, q_29c⟩ := isOf hZ e_2 A_1
    obtain ⟨_, _, ⟨T_29, L_29, k_29, n_29⟩, -, X_29, ⟨Lc_29, hQ_29, l_29, y_29, z_29⟩, st_29⟩ := X_2.virtualBack hx (y := (⟨"com/example/imply/imply/CheckStatistics", "add", "(I)V"⟩ : MethodName)) (z := (⟨"com/example/imply/imply/CheckStatistics", "add", "(I)V"⟩ : MethodName)) hown (mvT hZ (hw _ (List.mem_of_getElem? (i := 9) rfl))) (mvT hZ (hw _ (List.mem_of_getElem? (i := 10) rfl))) (notFace_of_selects (args := #[]) (mvT hZ (hw _ (List.mem_of_getElem? (i := 12) rfl)))) (mvT hZ (hw _ (List.mem_of_getElem? (i := 12) rfl))) (mvT hZ (hw _ (List.mem_of_getElem? (i := 11) rfl))) (by decide) (backOf (W := 0) (rm3 l Z a0 hw [] b_1 p1 (0 : Int32) (0 : Int32) h_1 n0 Z_1 g_b_1 A_1 fd_1_15 fd_1_17) hZ (hw _ (List.mem_of_getElem? (i := 13) rfl)) (hw _ (List.mem_of_getElem? (i := 2) rfl)) (by decide) (by decide)) q_29a q_29c (g := (mkF m 23 #[.val (.int p1), .val (.int p2), .val (.int p3), .val (.int p4), .val (.int (3 : Int32)), .val (.ref b_1), .unset] [(.int p1), (.ref b_1)])) rfl (by rw [hml]; rfl) (Steps.refl _) (argsL := [(.int p1)]) (rest := []) (lenOf pd_4 rfl) rfl (by show 2 * 0 + _ ≤ _; exact Nat.le_of_eq rfl) (hb hby at_23) (fun _ _ => ⟨rfl, e_2, (by decide : 1 + 0 ≤ _), (by decide : 2 + 0 ≤ _)⟩)
    dsimp only [Pt.U, Pt.locs, Pt.cells, Pt.slots] at X_29 l_29 y_29 z_29 st_29 hQ_29
    subst l_29 y_29 z_29
    obtain ⟨rfl, N_29q, Kc_29, o_29_0, o_29_1, o_29_2⟩ := hQ_29
    have f_29_0 : Exa Z T_29.heap b_1 "com/example/imply/imply/CheckStatistics" := A_1.keep Kc_29
    have Z_29 : n0 ≤ T_29.heap.size := Nat.le_trans Z_1 Kc_29.1
    have K_29 : Keep h0 T_29.heap [] := K_1.trans Kc_29 (fun x hx => by cases List.mem_singleton.mp hx; exact Or.inr sz_b_1)
    have N_29 := Fr.app N_2 N_29q
    obtain ⟨cq_30, kq_30, q_30a, q_30b, q_30c⟩ := isOf hZ rfl o_29_0
    obtain ⟨_, _, ⟨T_30, L_30, k_30, n_30⟩, -, X_30, ⟨Lc_30, hQ_30, l_30, y_30, z_30⟩, st_30⟩ := X_29.virtualBack hx (y := (⟨"com/example/imply/imply/CheckStatistics", "add", "(I)V"⟩ : MethodName)) (z := (⟨"com/example/imply/imply/CheckStatistics", "add", "(I)V"⟩ : MethodName)) hown (mvT hZ (hw _ (List.mem_of_getElem? (i := 9) rfl))) (mvT hZ (hw _ (List.mem_of_getElem? (i := 10) rfl))) (notFace_of_selects (args := #[]) (mvT hZ (hw _ (List.mem_of_getElem? (i := 12) rfl)))) (mvT hZ (hw _ (List.mem_of_getElem? (i := 12) rfl))) (mvT hZ (hw _ (List.mem_of_getElem? (i := 11) rfl))) (by decide) (backOf (W := 0) (rm3 l Z a0 hw [] b_1 p2 ((0 : Int32) + (1 : Int32)) (own_max (0 : Int32) p1) T_29.heap n0 Z_29 g_b_1 o_29_0 o_29_1 o_29_2) hZ (hw _ (List.mem_of_getElem? (i := 13) rfl)) (hw _ (List.mem_of_getElem? (i := 2) rfl)) (by decide) (by decide)) q_30a q_30c (g := (mkF m 35 #[.val (.int p1), .val (.int p2), .val (.int p3), .val (.int p4), .val (.int (3 : Int32)), .val (.ref b_1), .unset] [(.int p2), (.ref b_1)])) rfl (by rw [hml]; rfl) (Steps.refl _) (argsL := [(.int p2)]) (rest := []) (lenOf pd_4 rfl) rfl (by show 2 * 0 + _ ≤ _; exact Nat.le_of_eq rfl) (hb hby at_35) (fun _ _ => ⟨rfl, rfl, (by decide : 1 + 0 ≤ _), (by decide : 2 + 0 ≤ _)⟩)
    dsimp only [Pt.U, Pt.locs, Pt.cells, Pt.slots] at X_30 l_30 y_30 z_30 st_30 hQ_30
    subst l_30 y_30 z_30
    obtain ⟨rfl, N_30q, Kc_30, o_30_0, o_30_1, o_30_2⟩ := hQ_30
    have f_30_0 : Exa Z T_30.heap b_1 "com/example/imply/imply/CheckStatistics" := o_29_0.keep Kc_30
    have Z_30 : n0 ≤ T_30.heap.size := Nat.le_trans Z_29 Kc_30.1
    have K_30 : Keep h0 T_30.heap [] := K_29.trans Kc_30 (fun x hx => by cases List.mem_singleton.mp hx; exact Or.inr sz_b_1)
    have N_30 := Fr.app N_29 N_30q
    obtain ⟨cq_31, kq_31, q_31a, q_31b, q_31c⟩ := isOf hZ rfl o_30_0
    obtain ⟨_, _, ⟨T_31, L_31, k_31, n_31⟩, -, X_31, ⟨Lc_31, hQ_31, l_31, y_31, z_31⟩, st_31⟩ := X_30.virtualBack hx (y := (⟨"com/example/imply/imply/CheckStatistics", "add", "(I)V"⟩ : MethodName)) (z := (⟨"com/example/imply/imply/CheckStatistics", "add", "(I)V"⟩ : MethodName)) hown (mvT hZ (hw _ (List.mem_of_getElem? (i := 9) rfl))) (mvT hZ (hw _ (List.mem_of_getElem? (i := 10) rfl))) (notFace_of_selects (args := #[]) (mvT hZ (hw _ (List.mem_of_getElem? (i := 12) rfl)))) (mvT hZ (hw _ (List.mem_of_getElem? (i := 12) rfl))) (mvT hZ (hw _ (List.mem_of_getElem? (i := 11) rfl))) (by decide) (backOf (W := 0) (rm3 l Z a0 hw [] b_1 p3 (((0 : Int32) + (1 : Int32)) + (1 : Int32)) (own_max (own_max (0 : Int32) p1) p2) T_30.heap n0 Z_30 g_b_1 o_30_0 o_30_1 o_30_2) hZ (hw _ (List.mem_of_getElem? (i := 13) rfl)) (hw _ (List.mem_of_getElem? (i := 2) rfl)) (by decide) (by decide)) q_31a q_31c (g := (mkF m 47 #[.val (.int p1), .val (.int p2), .val (.int p3), .val (.int p4), .val (.int (3 : Int32)), .val (.ref b_1), .unset] [(.int p3), (.ref b_1)])) rfl (by rw [hml]; rfl) (Steps.refl _) (argsL := [(.int p3)]) (rest := []) (lenOf pd_4 rfl) rfl (by show 2 * 0 + _ ≤ _; exact Nat.le_of_eq rfl) (hb hby at_47) (fun _ _ => ⟨rfl, rfl, (by decide : 1 + 0 ≤ _), (by decide : 2 + 0 ≤ _)⟩)
    dsimp only [Pt.U, Pt.locs, Pt.cells, Pt.slots] at X_31 l_31 y_31 z_31 st_31 hQ_31
    subst l_31 y_31 z_31
    obtain ⟨rfl, N_31q, Kc_31, o_31_0, o_31_1, o_31_2⟩ := hQ_31
    have f_31_0 : Exa Z T_31.heap b_1 "com/example/imply/imply/CheckStatistics" := o_30_0.keep Kc_31
    have Z_31 : n0 ≤ T_31.heap.size := Nat.le_trans Z_30 Kc_31.1
    have K_31 : Keep h0 T_31.heap [] := K_30.trans Kc_31 (fun x hx => by cases List.mem_singleton.mp hx; exact Or.inr sz_b_1)
    have N_31 := Fr.app N_30 N_31q
    have pr_32 : ∀ t, Steps p.tables e below (T_31.setTop (mkF m 62 #[.val (.int p1), .val (.int p2), .val (.int p3), .val (.int p4), .val (.int (3 : Int32)), .val (.ref b_1), .val (.int (0 : Int32))] [(.int (0 : Int32)), (.int p1)])) t → Steps p.tables e below (s₁.setTop (entryFrame m #[(.int p1), (.int p2), (.int p3), (.int p4)] maxLocals)) t := fun t k => by
      refine pr_3 _ ?_
      show Steps p.tables e below (T_2.setTop (mkF m 14 #[.val (.int p1), .val (.int p2), .val (.int p3), .val (.int p4), .val (.int (3 : Int32)), .val (.ref b_1), .unset] [])) _
      refine XS.iload X_2.here hx rfl (hb hby at_14) rfl ?_
      show Steps p.tables e below (T_2.setTop (mkF m 16 #[.val (.int p1), .val (.int p2), .val (.int p3), .val (.int p4), .val (.int (3 : Int32)), .val (.ref b_1), .unset] [(.int (3 : Int32))])) _
      refine XS.iconst X_2.here hx rfl (hb hby at_16) ?_
      show Steps p.tables e below (T_2.setTop (mkF m 17 #[.val (.int p1), .val (.int p2), .val (.int p3), .val (.int p4), .val (.int (3 : Int32)), .val (.ref b_1), .unset] [(.int (1 : Int32)), (.int (3 : Int32))])) _
      refine XS.icmpNo X_2.here hx rfl (hb hby at_17) rfl (flt (by decide : ¬ ((3 : Int32) < (1 : Int32)))).1 ?_
      show Steps p.tables e below (T_2.setTop (mkF m 20 #[.val (.int p1), .val (.int p2), .val (.int p3), .val (.int p4), .val (.int (3 : Int32)), .val (.ref b_1), .unset] [])) _
      refine XS.aload X_2.here hx rfl (hb hby at_20) rfl rfl ?_
      show Steps p.tables e below (T_2.setTop (mkF m 22 #[.val (.int p1), .val (.int p2), .val (.int p3), .val (.int p4), .val (.int (3 : Int32)), .val (.ref b_1), .unset] [(.ref b_1)])) _
      refine XS.iloadN X_2.here hx rfl (hb hby at_22) rfl ?_
      show Steps p.tables e below (T_2.setTop (mkF m 23 #[.val (.int p1), .val (.int p2), .val (.int p3), .val (.int p4), .val (.int (3 : Int32)), .val (.ref b_1), .unset] [(.int p1), (.ref b_1)])) _
      refine st_29.trans ?_
      show Steps p.tables e below (T_29.setTop (mkF m 26 #[.val (.int p1), .val (.int p2), .val (.int p3), .val (.int p4), .val (.int (3 : Int32)), .val (.ref b_1), .unset] [])) _
      refine XS.iload X_29.here hx rfl (hb hby at_26) rfl ?_
      show Steps p.tables e below (T_29.setTop (mkF m 28 #[.val (.int p1), .val (.int p2), .val (.int p3), .val (.int p4), .val (.int (3 : Int32)), .val (.ref b_1), .unset] [(.int (3 : Int32))])) _
      refine XS.iconst X_29.here hx rfl (hb hby at_28) ?_
      show Steps p.tables e below (T_29.setTop (mkF m 29 #[.val (.int p1), .val (.int p2), .val (.int p3), .val (.int p4), .val (.int (3 : Int32)), .val (.ref b_1), .unset] [(.int (2 : Int32)), (.int (3 : Int32))])) _
      refine XS.icmpNo X_29.here hx rfl (hb hby at_29) rfl (flt (by decide : ¬ ((3 : Int32) < (2 : Int32)))).1 ?_
      show Steps p.tables e below (T_29.setTop (mkF m 32 #[.val (.int p1), .val (.int p2), .val (.int p3), .val (.int p4), .val (.int (3 : Int32)), .val (.ref b_1), .unset] [])) _
      refine XS.aload X_29.here hx rfl (hb hby at_32) rfl rfl ?_
      show Steps p.tables e below (T_29.setTop (mkF m 34 #[.val (.int p1), .val (.int p2), .val (.int p3), .val (.int p4), .val (.int (3 : Int32)), .val (.ref b_1), .unset] [(.ref b_1)])) _
      refine XS.iloadN X_29.here hx rfl (hb hby at_34) rfl ?_
      show Steps p.tables e below (T_29.setTop (mkF m 35 #[.val (.int p1), .val (.int p2), .val (.int p3), .val (.int p4), .val (.int (3 : Int32)), .val (.ref b_1), .unset] [(.int p2), (.ref b_1)])) _
      refine st_30.trans ?_
      show Steps p.tables e below (T_30.setTop (mkF m 38 #[.val (.int p1), .val (.int p2), .val (.int p3), .val (.int p4), .val (.int (3 : Int32)), .val (.ref b_1), .unset] [])) _
      refine XS.iload X_30.here hx rfl (hb hby at_38) rfl ?_
      show Steps p.tables e below (T_30.setTop (mkF m 40 #[.val (.int p1), .val (.int p2), .val (.int p3), .val (.int p4), .val (.int (3 : Int32)), .val (.ref b_1), .unset] [(.int (3 : Int32))])) _
      refine XS.iconst X_30.here hx rfl (hb hby at_40) ?_
      show Steps p.tables e below (T_30.setTop (mkF m 41 #[.val (.int p1), .val (.int p2), .val (.int p3), .val (.int p4), .val (.int (3 : Int32)), .val (.ref b_1), .unset] [(.int (3 : Int32)), (.int (3 : Int32))])) _
      refine XS.icmpNo X_30.here hx rfl (hb hby at_41) rfl (flt (by decide : ¬ ((3 : Int32) < (3 : Int32)))).1 ?_
      show Steps p.tables e below (T_30.setTop (mkF m 44 #[.val (.int p1), .val (.int p2), .val (.int p3), .val (.int p4), .val (.int (3 : Int32)), .val (.ref b_1), .unset] [])) _
      refine XS.aload X_30.here hx rfl (hb hby at_44) rfl rfl ?_
      show Steps p.tables e below (T_30.setTop (mkF m 46 #[.val (.int p1), .val (.int p2), .val (.int p3), .val (.int p4), .val (.int (3 : Int32)), .val (.ref b_1), .unset] [(.ref b_1)])) _
      refine XS.iloadN X_30.here hx rfl (hb hby at_46) rfl ?_
      show Steps p.tables e below (T_30.setTop (mkF m 47 #[.val (.int p1), .val (.int p2), .val (.int p3), .val (.int p4), .val (.int (3 : Int32)), .val (.ref b_1), .unset] [(.int p3), (.ref b_1)])) _
      refine st_31.trans ?_
      show Steps p.tables e below (T_31.setTop (mkF m 50 #[.val (.int p1), .val (.int p2), .val (.int p3), .val (.int p4), .val (.int (3 : Int32)), .val (.ref b_1), .unset] [])) _
      refine XS.iconst X_31.here hx rfl (hb hby at_50) ?_
      show Steps p.tables e below (T_31.setTop (mkF m 51 #[.val (.int p1), .val (.int p2), .val (.int p3), .val (.int p4), .val (.int (3 : Int32)), .val (.ref b_1), .unset] [(.int (0 : Int32))])) _
      refine XS.istore X_31.here hx rfl (hb hby at_51) rfl (l' := #[.val (.int p1), .val (.int p2), .val (.int p3), .val (.int p4), .val (.int (3 : Int32)), .val (.ref b_1), .val (.int (0 : Int32))]) rfl ?_
      show Steps p.tables e below (T_31.setTop (mkF m 53 #[.val (.int p1), .val (.int p2), .val (.int p3), .val (.int p4), .val (.int (3 : Int32)), .val (.ref b_1), .val (.int (0 : Int32))] [])) _
      refine XS.iload X_31.here hx rfl (hb hby at_53) rfl ?_
      show Steps p.tables e below (T_31.setTop (mkF m 55 #[.val (.int p1), .val (.int p2), .val (.int p3), .val (.int p4), .val (.int (3 : Int32)), .val (.ref b_1), .val (.int (0 : Int32))] [(.int (3 : Int32))])) _
      refine XS.iconst X_31.here hx rfl (hb hby at_55) ?_
      show Steps p.tables e below (T_31.setTop (mkF m 56 #[.val (.int p1), .val (.int p2), .val (.int p3), .val (.int p4), .val (.int (3 : Int32)), .val (.ref b_1), .val (.int (0 : Int32))] [(.int (1 : Int32)), (.int (3 : Int32))])) _
      refine XS.icmpNo X_31.here hx rfl (hb hby at_56) rfl (flt (by decide : ¬ ((3 : Int32) < (1 : Int32)))).1 ?_
      show Steps p.tables e below (T_31.setTop (mkF m 59 #[.val (.int p1), .val (.int p2), .val (.int p3), .val (.int p4), .val (.int (3 : Int32)), .val (.ref b_1), .val (.int (0 : Int32))] [])) _
      refine XS.iloadN X_31.here hx rfl (hb hby at_59) rfl ?_
      show Steps p.tables e below (T_31.setTop (mkF m 60 #[.val (.int p1), .val (.int p2), .val (.int p3), .val (.int p4), .val (.int (3 : Int32)), .val (.ref b_1), .val (.int (0 : Int32))] [(.int p1)])) _
      refine XS.iload X_31.here hx rfl (hb hby at_60) rfl ?_
      exact k
    by_cases hc_33 : (0 : Int32) < p1
    · have pr_34 : ∀ t, Steps p.tables e below (T_31.setTop (mkF m 77 #[.val (.int p1), .val (.int p2), .val (.int p3), .val (.int p4), .val (.int (3 : Int32)), .val (.ref b_1), .val (.int p1)] [(.int p1), (.int p2)])) t → Steps p.tables e below (s₁.setTop (entryFrame m #[(.int p1), (.int p2), (.int p3), (.int p4)] maxLocals)) t := fun t k => by
        refine pr_32 _ ?_
        show Steps p.tables e below (T_31.setTop (mkF m 62 #[.val (.int p1), .val (.int p2), .val (.int p3), .val (.int p4), .val (.int (3 : Int32)), .val (.ref b_1), .val (.int (0 : Int32))] [(.int (0 : Int32)), (.int p1)])) _
        refine XS.icmpNo X_31.here hx rfl (hb hby at_62) rfl (tlt hc_33).2.2.2 ?_
        show Steps p.tables e below (T_31.setTop (mkF m 65 #[.val (.int p1), .val (.int p2), .val (.int p3), .val (.int p4), .val (.int (3 : Int32)), .val (.ref b_1), .val (.int (0 : Int32))] [])) _
        refine XS.iloadN X_31.here hx rfl (hb hby at_65) rfl ?_
        show Steps p.tables e below (T_31.setTop (mkF m 66 #[.val (.int p1), .val (.int p2), .val (.int p3), .val (.int p4), .val (.int (3 : Int32)), .val (.ref b_1), .val (.int (0 : Int32))] [(.int p1)])) _
        refine XS.istore X_31.here hx rfl (hb hby at_66) rfl (l' := #[.val (.int p1), .val (.int p2), .val (.int p3), .val (.int p4), .val (.int (3 : Int32)), .val (.ref b_1), .val (.int p1)]) rfl ?_
        show Steps p.tables e below (T_31.setTop (mkF m 68 #[.val (.int p1), .val (.int p2), .val (.int p3), .val (.int p4), .val (.int (3 : Int32)), .val (.ref b_1), .val (.int p1)] [])) _
        refine XS.iload X_31.here hx rfl (hb hby at_68) rfl ?_
        show Steps p.tables e below (T_31.setTop (mkF m 70 #[.val (.int p1), .val (.int p2), .val (.int p3), .val (.int p4), .val (.int (3 : Int32)), .val (.ref b_1), .val (.int p1)] [(.int (3 : Int32))])) _
        refine XS.iconst X_31.here hx rfl (hb hby at_70) ?_
        show Steps p.tables e below (T_31.setTop (mkF m 71 #[.val (.int p1), .val (.int p2), .val (.int p3), .val (.int p4), .val (.int (3 : Int32)), .val (.ref b_1), .val (.int p1)] [(.int (2 : Int32)), (.int (3 : Int32))])) _
        refine XS.icmpNo X_31.here hx rfl (hb hby at_71) rfl (flt (by decide : ¬ ((3 : Int32) < (2 : Int32)))).1 ?_
        show Steps p.tables e below (T_31.setTop (mkF m 74 #[.val (.int p1), .val (.int p2), .val (.int p3), .val (.int p4), .val (.int (3 : Int32)), .val (.ref b_1), .val (.int p1)] [])) _
        refine XS.iloadN X_31.here hx rfl (hb hby at_74) rfl ?_
        show Steps p.tables e below (T_31.setTop (mkF m 75 #[.val (.int p1), .val (.int p2), .val (.int p3), .val (.int p4), .val (.int (3 : Int32)), .val (.ref b_1), .val (.int p1)] [(.int p2)])) _
        refine XS.iload X_31.here hx rfl (hb hby at_75) rfl ?_
        exact k
      by_cases hc_35 : p1 < p2
      · have pr_36 : ∀ t, Steps p.tables e below (T_31.setTop (mkF m 92 #[.val (.int p1), .val (.int p2), .val (.int p3), .val (.int p4), .val (.int (3 : Int32)), .val (.ref b_1), .val (.int p2)] [(.int p2), (.int p3)])) t → Steps p.tables e below (s₁.setTop (entryFrame m #[(.int p1), (.int p2), (.int p3), (.int p4)] maxLocals)) t := fun t k => by
          refine pr_34 _ ?_
          show Steps p.tables e below (T_31.setTop (mkF m 77 #[.val (.int p1), .val (.int p2), .val (.int p3), .val (.int p4), .val (.int (3 : Int32)), .val (.ref b_1), .val (.int p1)] [(.int p1), (.int p2)])) _
          refine XS.icmpNo X_31.here hx rfl (hb hby at_77) rfl (tlt hc_35).2.2.2 ?_
          show Steps p.tables e below (T_31.setTop (mkF m 80 #[.val (.int p1), .val (.int p2), .val (.int p3), .val (.int p4), .val (.int (3 : Int32)), .val (.ref b_1), .val (.int p1)] [])) _
          refine XS.iloadN X_31.here hx rfl (hb hby at_80) rfl ?_
          show Steps p.tables e below (T_31.setTop (mkF m 81 #[.val (.int p1), .val (.int p2), .val (.int p3), .val (.int p4), .val (.int (3 : Int32)), .val (.ref b_1), .val (.int p1)] [(.int p2)])) _
          refine XS.istore X_31.here hx rfl (hb hby at_81) rfl (l' := #[.val (.int p1), .val (.int p2), .val (.int p3), .val (.int p4), .val (.int (3 : Int32)), .val (.ref b_1), .val (.int p2)]) rfl ?_
          show Steps p.tables e below (T_31.setTop (mkF m 83 #[.val (.int p1), .val (.int p2), .val (.int p3), .val (.int p4), .val (.int (3 : Int32)), .val (.ref b_1), .val (.int p2)] [])) _
          refine XS.iload X_31.here hx rfl (hb hby at_83) rfl ?_
          show Steps p.tables e below (T_31.setTop (mkF m 85 #[.val (.int p1), .val (.int p2), .val (.int p3), .val (.int p4), .val (.int (3 : Int32)), .val (.ref b_1), .val (.int p2)] [(.int (3 : Int32))])) _
          refine XS.iconst X_31.here hx rfl (hb hby at_85) ?_
          show Steps p.tables e below (T_31.setTop (mkF m 86 #[.val (.int p1), .val (.int p2), .val (.int p3), .val (.int p4), .val (.int (3 : Int32)), .val (.ref b_1), .val (.int p2)] [(.int (3 : Int32)), (.int (3 : Int32))])) _
          refine XS.icmpNo X_31.here hx rfl (hb hby at_86) rfl (flt (by decide : ¬ ((3 : Int32) < (3 : Int32)))).1 ?_
          show Steps p.tables e below (T_31.setTop (mkF m 89 #[.val (.int p1), .val (.int p2), .val (.int p3), .val (.int p4), .val (.int (3 : Int32)), .val (.ref b_1), .val (.int p2)] [])) _
          refine XS.iloadN X_31.here hx rfl (hb hby at_89) rfl ?_
          show Steps p.tables e below (T_31.setTop (mkF m 90 #[.val (.int p1), .val (.int p2), .val (.int p3), .val (.int p4), .val (.int (3 : Int32)), .val (.ref b_1), .val (.int p2)] [(.int p3)])) _
          refine XS.iload X_31.here hx rfl (hb hby at_90) rfl ?_
          exact k
        by_cases hc_37 : p2 < p3
        · obtain ⟨cq_38, kq_38, q_38a, q_38b, q_38c⟩ := isOf hZ rfl o_31_0
          obtain ⟨_, _, ⟨T_38, L_38, k_38, n_38⟩, -, X_38, ⟨Lc_38, hQ_38, l_38, y_38, z_38⟩, st_38⟩ := X_31.virtualBack hx (y := (⟨"com/example/imply/imply/CheckStatistics", "checks", "()I"⟩ : MethodName)) (z := (⟨"com/example/imply/imply/CheckStatistics", "checks", "()I"⟩ : MethodName)) hown (mvT hZ (hw _ (List.mem_of_getElem? (i := 22) rfl))) (mvT hZ (hw _ (List.mem_of_getElem? (i := 23) rfl))) (notFace_of_selects (args := #[]) (mvT hZ (hw _ (List.mem_of_getElem? (i := 25) rfl)))) (mvT hZ (hw _ (List.mem_of_getElem? (i := 25) rfl))) (mvT hZ (hw _ (List.mem_of_getElem? (i := 24) rfl))) (by decide) (backOf (W := 0) (rm5 l Z a0 hw [] b_1 ((((0 : Int32) + (1 : Int32)) + (1 : Int32)) + (1 : Int32)) T_31.heap n0 Z_31 o_31_1) hZ (hw _ (List.mem_of_getElem? (i := 26) rfl)) (hw _ (List.mem_of_getElem? (i := 2) rfl)) (by decide) (by decide)) q_38a q_38c (g := (mkF m 100 #[.val (.int p1), .val (.int p2), .val (.int p3), .val (.int p4), .val (.int (3 : Int32)), .val (.ref b_1), .val (.int p3)] [(.ref b_1)])) rfl (by rw [hml]; rfl) (Steps.refl _) (argsL := []) (rest := []) (lenOf pd_3 rfl) rfl (by show 2 * 0 + _ ≤ _; exact Nat.le_of_eq rfl) (hb hby at_100) (fun _ _ => ⟨rfl, rfl, (by decide : 1 + 0 ≤ _), (by decide : 2 + 0 ≤ _)⟩)
          dsimp only [Pt.U, Pt.locs, Pt.cells, Pt.slots] at X_38 l_38 y_38 z_38 st_38 hQ_38
          subst l_38 y_38 z_38
          obtain ⟨rfl, N_38q, e_38⟩ := hQ_38
          have N_38 := Fr.app N_31 N_38q
          obtain ⟨cq_39, kq_39, q_39a, q_39b, q_39c⟩ := isOf hZ e_38 o_31_0
          obtain ⟨_, _, ⟨T_39, L_39, k_39, n_39⟩, -, X_39, ⟨Lc_39, hQ_39, l_39, y_39, z_39⟩, st_39⟩ := X_38.virtualBack hx (y := (⟨"com/example/imply/imply/CheckStatistics", "maxIndividuals", "()I"⟩ : MethodName)) (z := (⟨"com/example/imply/imply/CheckStatistics", "maxIndividuals", "()I"⟩ : MethodName)) hown (mvT hZ (hw _ (List.mem_of_getElem? (i := 27) rfl))) (mvT hZ (hw _ (List.mem_of_getElem? (i := 28) rfl))) (notFace_of_selects (args := #[]) (mvT hZ (hw _ (List.mem_of_getElem? (i := 30) rfl)))) (mvT hZ (hw _ (List.mem_of_getElem? (i := 30) rfl))) (mvT hZ (hw _ (List.mem_of_getElem? (i := 29) rfl))) (by decide) (backOf (W := 0) (rm6 l Z a0 hw [] b_1 (own_max (own_max (own_max (0 : Int32) p1) p2) p3) T_31.heap n0 Z_31 o_31_2) hZ (hw _ (List.mem_of_getElem? (i := 31) rfl)) (hw _ (List.mem_of_getElem? (i := 2) rfl)) (by decide) (by decide)) q_39a q_39c (g := (mkF m 110 #[.val (.int p1), .val (.int p2), .val (.int p3), .val (.int p4), .val (.int (3 : Int32)), .val (.ref b_1), .val (.int p3)] [(.ref b_1)])) rfl (by rw [hml]; rfl) (Steps.refl _) (argsL := []) (rest := []) (lenOf pd_3 rfl) rfl (by show 2 * 0 + _ ≤ _; exact Nat.le_of_eq rfl) (hb hby at_110) (fun _ _ => ⟨rfl, e_38, (by decide : 1 + 0 ≤ _), (by decide : 2 + 0 ≤ _)⟩)
          dsimp only [Pt.U, Pt.locs, Pt.cells, Pt.slots] at X_39 l_39 y_39 z_39 st_39 hQ_39
          subst l_39 y_39 z_39
          obtain ⟨rfl, N_39q, e_39⟩ := hQ_39
          have N_39 := Fr.app N_38 N_39q
          obtain ⟨fs, hr, hrun, hended, hW, hsame⟩ := X_39.leave (v := some (.int (1 : Int32))) (fun h => by rw [Bd.returns] at h; cases h)
          refine ⟨_, _, pr_36 _ ?_, hrun, hended, _, _, rfl, ?_, ⟨_, rfl⟩, hW, hsame.mono (by decide) (by decide)⟩
          · show Steps p.tables e below (T_31.setTop (mkF m 92 #[.val (.int p1), .val (.int p2), .val (.int p3), .val (.int p4), .val (.int (3 : Int32)), .val (.ref b_1), .val (.int p2)] [(.int p2), (.int p3)])) _
            refine XS.icmpNo X_31.here hx rfl (hb hby at_92) rfl (tlt hc_37).2.2.2 ?_
            show Steps p.tables e below (T_31.setTop (mkF m 95 #[.val (.int p1), .val (.int p2), .val (.int p3), .val (.int p4), .val (.int (3 : Int32)), .val (.ref b_1), .val (.int p2)] [])) _
            refine XS.iloadN X_31.here hx rfl (hb hby at_95) rfl ?_
            show Steps p.tables e below (T_31.setTop (mkF m 96 #[.val (.int p1), .val (.int p2), .val (.int p3), .val (.int p4), .val (.int (3 : Int32)), .val (.ref b_1), .val (.int p2)] [(.int p3)])) _
            refine XS.istore X_31.here hx rfl (hb hby at_96) rfl (l' := #[.val (.int p1), .val (.int p2), .val (.int p3), .val (.int p4), .val (.int (3 : Int32)), .val (.ref b_1), .val (.int p3)]) rfl ?_
            show Steps p.tables e below (T_31.setTop (mkF m 98 #[.val (.int p1), .val (.int p2), .val (.int p3), .val (.int p4), .val (.int (3 : Int32)), .val (.ref b_1), .val (.int p3)] [])) _
            refine XS.aload X_31.here hx rfl (hb hby at_98) rfl rfl ?_
            show Steps p.tables e below (T_31.setTop (mkF m 100 #[.val (.int p1), .val (.int p2), .val (.int p3), .val (.int p4), .val (.int (3 : Int32)), .val (.ref b_1), .val (.int p3)] [(.ref b_1)])) _
            refine st_38.trans ?_
            show Steps p.tables e below (T_38.setTop (mkF m 103 #[.val (.int p1), .val (.int p2), .val (.int p3), .val (.int p4), .val (.int (3 : Int32)), .val (.ref b_1), .val (.int p3)] [(.int ((((0 : Int32) + (1 : Int32)) + (1 : Int32)) + (1 : Int32)))])) _
            refine XS.iload X_38.here hx rfl (hb hby at_103) rfl ?_
            show Steps p.tables e below (T_38.setTop (mkF m 105 #[.val (.int p1), .val (.int p2), .val (.int p3), .val (.int p4), .val (.int (3 : Int32)), .val (.ref b_1), .val (.int p3)] [(.int (3 : Int32)), (.int ((((0 : Int32) + (1 : Int32)) + (1 : Int32)) + (1 : Int32)))])) _
            refine XS.icmpNo X_38.here hx rfl (hb hby at_105) rfl (teq (by decide : ((((0 : Int32) + (1 : Int32)) + (1 : Int32)) + (1 : Int32)) = (3 : Int32))).2 ?_
            show Steps p.tables e below (T_38.setTop (mkF m 108 #[.val (.int p1), .val (.int p2), .val (.int p3), .val (.int p4), .val (.int (3 : Int32)), .val (.ref b_1), .val (.int p3)] [])) _
            refine XS.aload X_38.here hx rfl (hb hby at_108) rfl rfl ?_
            show Steps p.tables e below (T_38.setTop (mkF m 110 #[.val (.int p1), .val (.int p2), .val (.int p3), .val (.int p4), .val (.int (3 : Int32)), .val (.ref b_1), .val (.int p3)] [(.ref b_1)])) _
            refine st_39.trans ?_
            show Steps p.tables e below (T_39.setTop (mkF m 113 #[.val (.int p1), .val (.int p2), .val (.int p3), .val (.int p4), .val (.int (3 : Int32)), .val (.ref b_1), .val (.int p3)] [(.int (own_max (own_max (own_max (0 : Int32) p1) p2) p3))])) _
            refine XS.iload X_39.here hx rfl (hb hby at_113) rfl ?_
            show Steps p.tables e below (T_39.setTop (mkF m 115 #[.val (.int p1), .val (.int p2), .val (.int p3), .val (.int p4), .val (.int (3 : Int32)), .val (.ref b_1), .val (.int p3)] [(.int p3), (.int (own_max (own_max (own_max (0 : Int32) p1) p2) p3))])) _
            refine XS.icmpNo X_39.here hx rfl (hb hby at_115) rfl (teq (by simp only [own_max, if_pos hc_33, if_pos hc_35, if_pos hc_37] : (own_max (own_max (own_max (0 : Int32) p1) p2) p3) = p3)).2 ?_
            show Steps p.tables e below (T_39.setTop (mkF m 118 #[.val (.int p1), .val (.int p2), .val (.int p3), .val (.int p4), .val (.int (3 : Int32)), .val (.ref b_1), .val (.int p3)] [])) _
            refine XS.iconst X_39.here hx rfl (hb hby at_118) ?_
            show Steps p.tables e below (T_39.setTop (mkF m 119 #[.val (.int p1), .val (.int p2), .val (.int p3), .val (.int p4), .val (.int (3 : Int32)), .val (.ref b_1), .val (.int p3)] [(.int (1 : Int32))])) _
            refine XS.goto X_39.here hx rfl (pc0 := 119) (pc' := 123) rfl (hb hby at_119) (by decide) (by decide) ?_
            show Steps p.tables e below (T_39.setTop (mkF m 123 #[.val (.int p1), .val (.int p2), .val (.int p3), .val (.int p4), .val (.int (3 : Int32)), .val (.ref b_1), .val (.int p3)] [(.int (1 : Int32))])) _
            exact retN X_39 hx (t := .boolean) Bd.returns (by simp) (hb hby at_123) hr
          · exact ⟨rfl, N_39⟩
        · obtain ⟨cq_40, kq_40, q_40a, q_40b, q_40c⟩ := isOf hZ rfl o_31_0
          obtain ⟨_, _, ⟨T_40, L_40, k_40, n_40⟩, -, X_40, ⟨Lc_40, hQ_40, l_40, y_40, z_40⟩, st_40⟩ := X_31.virtualBack hx (y := (⟨"com/example/imply/imply/CheckStatistics", "checks", "()I"⟩ : MethodName)) (z := (⟨"com/example/imply/imply/CheckStatistics", "checks", "()I"⟩ : MethodName)) hown (mvT hZ (hw _ (List.mem_of_getElem? (i := 22) rfl))) (mvT hZ (hw _ (List.mem_of_getElem? (i := 23) rfl))) (notFace_of_selects (args := #[]) (mvT hZ (hw _ (List.mem_of_getElem? (i := 25) rfl)))) (mvT hZ (hw _ (List.mem_of_getElem? (i := 25) rfl))) (mvT hZ (hw _ (List.mem_of_getElem? (i := 24) rfl))) (by decide) (backOf (W := 0) (rm5 l Z a0 hw [] b_1 ((((0 : Int32) + (1 : Int32)) + (1 : Int32)) + (1 : Int32)) T_31.heap n0 Z_31 o_31_1) hZ (hw _ (List.mem_of_getElem? (i := 26) rfl)) (hw _ (List.mem_of_getElem? (i := 2) rfl)) (by decide) (by decide)) q_40a q_40c (g := (mkF m 100 #[.val (.int p1), .val (.int p2), .val (.int p3), .val (.int p4), .val (.int (3 : Int32)), .val (.ref b_1), .val (.int p2)] [(.ref b_1)])) rfl (by rw [hml]; rfl) (Steps.refl _) (argsL := []) (rest := []) (lenOf pd_3 rfl) rfl (by show 2 * 0 + _ ≤ _; exact Nat.le_of_eq rfl) (hb hby at_100) (fun _ _ => ⟨rfl, rfl, (by decide : 1 + 0 ≤ _), (by decide : 2 + 0 ≤ _)⟩)
          dsimp only [Pt.U, Pt.locs, Pt.cells, Pt.slots] at X_40 l_40 y_40 z_40 st_40 hQ_40
          subst l_40 y_40 z_40
          obtain ⟨rfl, N_40q, e_40⟩ := hQ_40
          have N_40 := Fr.app N_31 N_40q
          obtain ⟨cq_41, kq_41, q_41a, q_41b, q_41c⟩ := isOf hZ e_40 o_31_0
          obtain ⟨_, _, ⟨T_41, L_41, k_41, n_41⟩, -, X_41, ⟨Lc_41, hQ_41, l_41, y_41, z_41⟩, st_41⟩ := X_40.virtualBack hx (y := (⟨"com/example/imply/imply/CheckStatistics", "maxIndividuals", "()I"⟩ : MethodName)) (z := (⟨"com/example/imply/imply/CheckStatistics", "maxIndividuals", "()I"⟩ : MethodName)) hown (mvT hZ (hw _ (List.mem_of_getElem? (i := 27) rfl))) (mvT hZ (hw _ (List.mem_of_getElem? (i := 28) rfl))) (notFace_of_selects (args := #[]) (mvT hZ (hw _ (List.mem_of_getElem? (i := 30) rfl)))) (mvT hZ (hw _ (List.mem_of_getElem? (i := 30) rfl))) (mvT hZ (hw _ (List.mem_of_getElem? (i := 29) rfl))) (by decide) (backOf (W := 0) (rm6 l Z a0 hw [] b_1 (own_max (own_max (own_max (0 : Int32) p1) p2) p3) T_31.heap n0 Z_31 o_31_2) hZ (hw _ (List.mem_of_getElem? (i := 31) rfl)) (hw _ (List.mem_of_getElem? (i := 2) rfl)) (by decide) (by decide)) q_41a q_41c (g := (mkF m 110 #[.val (.int p1), .val (.int p2), .val (.int p3), .val (.int p4), .val (.int (3 : Int32)), .val (.ref b_1), .val (.int p2)] [(.ref b_1)])) rfl (by rw [hml]; rfl) (Steps.refl _) (argsL := []) (rest := []) (lenOf pd_3 rfl) rfl (by show 2 * 0 + _ ≤ _; exact Nat.le_of_eq rfl) (hb hby at_110) (fun _ _ => ⟨rfl, e_40, (by decide : 1 + 0 ≤ _), (by decide : 2 + 0 ≤ _)⟩)
          dsimp only [Pt.U, Pt.locs, Pt.cells, Pt.slots] at X_41 l_41 y_41 z_41 st_41 hQ_41
          subst l_41 y_41 z_41
          obtain ⟨rfl, N_41q, e_41⟩ := hQ_41
          have N_41 := Fr.app N_40 N_41q
          obtain ⟨fs, hr, hrun, hended, hW, hsame⟩ := X_41.leave (v := some (.int (1 : Int32))) (fun h => by rw [Bd.returns] at h; cases h)
          refine ⟨_, _, pr_36 _ ?_, hrun, hended, _, _, rfl, ?_, ⟨_, rfl⟩, hW, hsame.mono (by decide) (by decide)⟩
          · show Steps p.tables e below (T_31.setTop (mkF m 92 #[.val (.int p1), .val (.int p2), .val (.int p3), .val (.int p4), .val (.int (3 : Int32)), .val (.ref b_1), .val (.int p2)] [(.int p2), (.int p3)])) _
            refine XS.icmpYes X_31.here hx rfl (pc0 := 92) (pc' := 98) rfl (hb hby at_92) rfl (flt hc_37).2.2.2 (by decide) (by decide) ?_
            show Steps p.tables e below (T_31.setTop (mkF m 98 #[.val (.int p1), .val (.int p2), .val (.int p3), .val (.int p4), .val (.int (3 : Int32)), .val (.ref b_1), .val (.int p2)] [])) _
            refine XS.aload X_31.here hx rfl (hb hby at_98) rfl rfl ?_
            show Steps p.tables e below (T_31.setTop (mkF m 100 #[.val (.int p1), .val (.int p2), .val (.int p3), .val (.int p4), .val (.int (3 : Int32)), .val (.ref b_1), .val (.int p2)] [(.ref b_1)])) _
            refine st_40.trans ?_
            show Steps p.tables e below (T_40.setTop (mkF m 103 #[.val (.int p1), .val (.int p2), .val (.int p3), .val (.int p4), .val (.int (3 : Int32)), .val (.ref b_1), .val (.int p2)] [(.int ((((0 : Int32) + (1 : Int32)) + (1 : Int32)) + (1 : Int32)))])) _
            refine XS.iload X_40.here hx rfl (hb hby at_103) rfl ?_
            show Steps p.tables e below (T_40.setTop (mkF m 105 #[.val (.int p1), .val (.int p2), .val (.int p3), .val (.int p4), .val (.int (3 : Int32)), .val (.ref b_1), .val (.int p2)] [(.int (3 : Int32)), (.int ((((0 : Int32) + (1 : Int32)) + (1 : Int32)) + (1 : Int32)))])) _
            refine XS.icmpNo X_40.here hx rfl (hb hby at_105) rfl (teq (by decide : ((((0 : Int32) + (1 : Int32)) + (1 : Int32)) + (1 : Int32)) = (3 : Int32))).2 ?_
            show Steps p.tables e below (T_40.setTop (mkF m 108 #[.val (.int p1), .val (.int p2), .val (.int p3), .val (.int p4), .val (.int (3 : Int32)), .val (.ref b_1), .val (.int p2)] [])) _
            refine XS.aload X_40.here hx rfl (hb hby at_108) rfl rfl ?_
            show Steps p.tables e below (T_40.setTop (mkF m 110 #[.val (.int p1), .val (.int p2), .val (.int p3), .val (.int p4), .val (.int (3 : Int32)), .val (.ref b_1), .val (.int p2)] [(.ref b_1)])) _
            refine st_41.trans ?_
            show Steps p.tables e below (T_41.setTop (mkF m 113 #[.val (.int p1), .val (.int p2), .val (.int p3), .val (.int p4), .val (.int (3 : Int32)), .val (.ref b_1), .val (.int p2)] [(.int (own_max (own_max (own_max (0 : Int32) p1) p2) p3))])) _
            refine XS.iload X_41.here hx rfl (hb hby at_113) rfl ?_
            show Steps p.tables e below (T_41.setTop (mkF m 115 #[.val (.int p1), .val (.int p2), .val (.int p3), .val (.int p4), .val (.int (3 : Int32)), .val (.ref b_1), .val (.int p2)] [(.int p2), (.int (own_max (own_max (own_max (0 : Int32) p1) p2) p3))])) _
            refine XS.icmpNo X_41.here hx rfl (hb hby at_115) rfl (teq (by simp only [own_max, if_pos hc_33, if_pos hc_35, if_neg hc_37] : (own_max (own_max (own_max (0 : Int32) p1) p2) p3) = p2)).2 ?_
            show Steps p.tables e below (T_41.setTop (mkF m 118 #[.val (.int p1), .val (.int p2), .val (.int p3), .val (.int p4), .val (.int (3 : Int32)), .val (.ref b_1), .val (.int p2)] [])) _
            refine XS.iconst X_41.here hx rfl (hb hby at_118) ?_
            show Steps p.tables e below (T_41.setTop (mkF m 119 #[.val (.int p1), .val (.int p2), .val (.int p3), .val (.int p4), .val (.int (3 : Int32)), .val (.ref b_1), .val (.int p2)] [(.int (1 : Int32))])) _
            refine XS.goto X_41.here hx rfl (pc0 := 119) (pc' := 123) rfl (hb hby at_119) (by decide) (by decide) ?_
            show Steps p.tables e below (T_41.setTop (mkF m 123 #[.val (.int p1), .val (.int p2), .val (.int p3), .val (.int p4), .val (.int (3 : Int32)), .val (.ref b_1), .val (.int p2)] [(.int (1 : Int32))])) _
            exact retN X_41 hx (t := .boolean) Bd.returns (by simp) (hb hby at_123) hr
          · exact ⟨rfl, N_41⟩
      · have pr_42 : ∀ t, Steps p.tables e below (T_31.setTop (mkF m 92 #[.val (.int p1), .val (.int p2), .val (.int p3), .val (.int p4), .val (.int (3 : Int32)), .val (.ref b_1), .val (.int p1)] [(.int p1), (.int p3)])) t → Steps p.tables e below (s₁.setTop (entryFrame m #[(.int p1), (.int p2), (.int p3), (.int p4)] maxLocals)) t := fun t k => by
          refine pr_34 _ ?_
          show Steps p.tables e below (T_31.setTop (mkF m 77 #[.val (.int p1), .val (.int p2), .val (.int p3), .val (.int p4), .val (.int (3 : Int32)), .val (.ref b_1), .val (.int p1)] [(.int p1), (.int p2)])) _
          refine XS.icmpYes X_31.here hx rfl (pc0 := 77) (pc' := 83) rfl (hb hby at_77) rfl (flt hc_35).2.2.2 (by decide) (by decide) ?_
          show Steps p.tables e below (T_31.setTop (mkF m 83 #[.val (.int p1), .val (.int p2), .val (.int p3), .val (.int p4), .val (.int (3 : Int32)), .val (.ref b_1), .val (.int p1)] [])) _
          refine XS.iload X_31.here hx rfl (hb hby at_83) rfl ?_
          show Steps p.tables e below (T_31.setTop (mkF m 85 #[.val (.int p1), .val (.int p2), .val (.int p3), .val (.int p4), .val (.int (3 : Int32)), .val (.ref b_1), .val (.int p1)] [(.int (3 : Int32))])) _
          refine XS.iconst X_31.here hx rfl (hb hby at_85) ?_
          show Steps p.tables e below (T_31.setTop (mkF m 86 #[.val (.int p1), .val (.int p2), .val (.int p3), .val (.int p4), .val (.int (3 : Int32)), .val (.ref b_1), .val (.int p1)] [(.int (3 : Int32)), (.int (3 : Int32))])) _
          refine XS.icmpNo X_31.here hx rfl (hb hby at_86) rfl (flt (by decide : ¬ ((3 : Int32) < (3 : Int32)))).1 ?_
          show Steps p.tables e below (T_31.setTop (mkF m 89 #[.val (.int p1), .val (.int p2), .val (.int p3), .val (.int p4), .val (.int (3 : Int32)), .val (.ref b_1), .val (.int p1)] [])) _
          refine XS.iloadN X_31.here hx rfl (hb hby at_89) rfl ?_
          show Steps p.tables e below (T_31.setTop (mkF m 90 #[.val (.int p1), .val (.int p2), .val (.int p3), .val (.int p4), .val (.int (3 : Int32)), .val (.ref b_1), .val (.int p1)] [(.int p3)])) _
          refine XS.iload X_31.here hx rfl (hb hby at_90) rfl ?_
          exact k
        by_cases hc_43 : p1 < p3
        · obtain ⟨cq_44, kq_44, q_44a, q_44b, q_44c⟩ := isOf hZ rfl o_31_0
          obtain ⟨_, _, ⟨T_44, L_44, k_44, n_44⟩, -, X_44, ⟨Lc_44, hQ_44, l_44, y_44, z_44⟩, st_44⟩ := X_31.virtualBack hx (y := (⟨"com/example/imply/imply/CheckStatistics", "checks", "()I"⟩ : MethodName)) (z := (⟨"com/example/imply/imply/CheckStatistics", "checks", "()I"⟩ : MethodName)) hown (mvT hZ (hw _ (List.mem_of_getElem? (i := 22) rfl))) (mvT hZ (hw _ (List.mem_of_getElem? (i := 23) rfl))) (notFace_of_selects (args := #[]) (mvT hZ (hw _ (List.mem_of_getElem? (i := 25) rfl)))) (mvT hZ (hw _ (List.mem_of_getElem? (i := 25) rfl))) (mvT hZ (hw _ (List.mem_of_getElem? (i := 24) rfl))) (by decide) (backOf (W := 0) (rm5 l Z a0 hw [] b_1 ((((0 : Int32) + (1 : Int32)) + (1 : Int32)) + (1 : Int32)) T_31.heap n0 Z_31 o_31_1) hZ (hw _ (List.mem_of_getElem? (i := 26) rfl)) (hw _ (List.mem_of_getElem? (i := 2) rfl)) (by decide) (by decide)) q_44a q_44c (g := (mkF m 100 #[.val (.int p1), .val (.int p2), .val (.int p3), .val (.int p4), .val (.int (3 : Int32)), .val (.ref b_1), .val (.int p3)] [(.ref b_1)])) rfl (by rw [hml]; rfl) (Steps.refl _) (argsL := []) (rest := []) (lenOf pd_3 rfl) rfl (by show 2 * 0 + _ ≤ _; exact Nat.le_of_eq rfl) (hb hby at_100) (fun _ _ => ⟨rfl, rfl, (by decide : 1 + 0 ≤ _), (by decide : 2 + 0 ≤ _)⟩)
          dsimp only [Pt.U, Pt.locs, Pt.cells, Pt.slots] at X_44 l_44 y_44 z_44 st_44 hQ_44
          subst l_44 y_44 z_44
          obtain ⟨rfl, N_44q, e_44⟩ := hQ_44
          have N_44 := Fr.app N_31 N_44q
          obtain ⟨cq_45, kq_45, q_45a, q_45b, q_45c⟩ := isOf hZ e_44 o_31_0
          obtain ⟨_, _, ⟨T_45, L_45, k_45, n_45⟩, -, X_45, ⟨Lc_45, hQ_45, l_45, y_45, z_45⟩, st_45⟩ := X_44.virtualBack hx (y := (⟨"com/example/imply/imply/CheckStatistics", "maxIndividuals", "()I"⟩ : MethodName)) (z := (⟨"com/example/imply/imply/CheckStatistics", "maxIndividuals", "()I"⟩ : MethodName)) hown (mvT hZ (hw _ (List.mem_of_getElem? (i := 27) rfl))) (mvT hZ (hw _ (List.mem_of_getElem? (i := 28) rfl))) (notFace_of_selects (args := #[]) (mvT hZ (hw _ (List.mem_of_getElem? (i := 30) rfl)))) (mvT hZ (hw _ (List.mem_of_getElem? (i := 30) rfl))) (mvT hZ (hw _ (List.mem_of_getElem? (i := 29) rfl))) (by decide) (backOf (W := 0) (rm6 l Z a0 hw [] b_1 (own_max (own_max (own_max (0 : Int32) p1) p2) p3) T_31.heap n0 Z_31 o_31_2) hZ (hw _ (List.mem_of_getElem? (i := 31) rfl)) (hw _ (List.mem_of_getElem? (i := 2) rfl)) (by decide) (by decide)) q_45a q_45c (g := (mkF m 110 #[.val (.int p1), .val (.int p2), .val (.int p3), .val (.int p4), .val (.int (3 : Int32)), .val (.ref b_1), .val (.int p3)] [(.ref b_1)])) rfl (by rw [hml]; rfl) (Steps.refl _) (argsL := []) (rest := []) (lenOf pd_3 rfl) rfl (by show 2 * 0 + _ ≤ _; exact Nat.le_of_eq rfl) (hb hby at_110) (fun _ _ => ⟨rfl, e_44, (by decide : 1 + 0 ≤ _), (by decide : 2 + 0 ≤ _)⟩)
          dsimp only [Pt.U, Pt.locs, Pt.cells, Pt.slots] at X_45 l_45 y_45 z_45 st_45 hQ_45
          subst l_45 y_45 z_45
          obtain ⟨rfl, N_45q, e_45⟩ := hQ_45
          have N_45 := Fr.app N_44 N_45q
          obtain ⟨fs, hr, hrun, hended, hW, hsame⟩ := X_45.leave (v := some (.int (1 : Int32))) (fun h => by rw [Bd.returns] at h; cases h)
          refine ⟨_, _, pr_42 _ ?_, hrun, hended, _, _, rfl, ?_, ⟨_, rfl⟩, hW, hsame.mono (by decide) (by decide)⟩
          · show Steps p.tables e below (T_31.setTop (mkF m 92 #[.val (.int p1), .val (.int p2), .val (.int p3), .val (.int p4), .val (.int (3 : Int32)), .val (.ref b_1), .val (.int p1)] [(.int p1), (.int p3)])) _
            refine XS.icmpNo X_31.here hx rfl (hb hby at_92) rfl (tlt hc_43).2.2.2 ?_
            show Steps p.tables e below (T_31.setTop (mkF m 95 #[.val (.int p1), .val (.int p2), .val (.int p3), .val (.int p4), .val (.int (3 : Int32)), .val (.ref b_1), .val (.int p1)] [])) _
            refine XS.iloadN X_31.here hx rfl (hb hby at_95) rfl ?_
            show Steps p.tables e below (T_31.setTop (mkF m 96 #[.val (.int p1), .val (.int p2), .val (.int p3), .val (.int p4), .val (.int (3 : Int32)), .val (.ref b_1), .val (.int p1)] [(.int p3)])) _
            refine XS.istore X_31.here hx rfl (hb hby at_96) rfl (l' := #[.val (.int p1), .val (.int p2), .val (.int p3), .val (.int p4), .val (.int (3 : Int32)), .val (.ref b_1), .val (.int p3)]) rfl ?_
            show Steps p.tables e below (T_31.setTop (mkF m 98 #[.val (.int p1), .val (.int p2), .val (.int p3), .val (.int p4), .val (.int (3 : Int32)), .val (.ref b_1), .val (.int p3)] [])) _
            refine XS.aload X_31.here hx rfl (hb hby at_98) rfl rfl ?_
            show Steps p.tables e below (T_31.setTop (mkF m 100 #[.val (.int p1), .val (.int p2), .val (.int p3), .val (.int p4), .val (.int (3 : Int32)), .val (.ref b_1), .val (.int p3)] [(.ref b_1)])) _
            refine st_44.trans ?_
            show Steps p.tables e below (T_44.setTop (mkF m 103 #[.val (.int p1), .val (.int p2), .val (.int p3), .val (.int p4), .val (.int (3 : Int32)), .val (.ref b_1), .val (.int p3)] [(.int ((((0 : Int32) + (1 : Int32)) + (1 : Int32)) + (1 : Int32)))])) _
            refine XS.iload X_44.here hx rfl (hb hby at_103) rfl ?_
            show Steps p.tables e below (T_44.setTop (mkF m 105 #[.val (.int p1), .val (.int p2), .val (.int p3), .val (.int p4), .val (.int (3 : Int32)), .val (.ref b_1), .val (.int p3)] [(.int (3 : Int32)), (.int ((((0 : Int32) + (1 : Int32)) + (1 : Int32)) + (1 : Int32)))])) _
            refine XS.icmpNo X_44.here hx rfl (hb hby at_105) rfl (teq (by decide : ((((0 : Int32) + (1 : Int32)) + (1 : Int32)) + (1 : Int32)) = (3 : Int32))).2 ?_
            show Steps p.tables e below (T_44.setTop (mkF m 108 #[.val (.int p1), .val (.int p2), .val (.int p3), .val (.int p4), .val (.int (3 : Int32)), .val (.ref b_1), .val (.int p3)] [])) _
            refine XS.aload X_44.here hx rfl (hb hby at_108) rfl rfl ?_
            show Steps p.tables e below (T_44.setTop (mkF m 110 #[.val (.int p1), .val (.int p2), .val (.int p3), .val (.int p4), .val (.int (3 : Int32)), .val (.ref b_1), .val (.int p3)] [(.ref b_1)])) _
            refine st_45.trans ?_
            show Steps p.tables e below (T_45.setTop (mkF m 113 #[.val (.int p1), .val (.int p2), .val (.int p3), .val (.int p4), .val (.int (3 : Int32)), .val (.ref b_1), .val (.int p3)] [(.int (own_max (own_max (own_max (0 : Int32) p1) p2) p3))])) _
            refine XS.iload X_45.here hx rfl (hb hby at_113) rfl ?_
            show Steps p.tables e below (T_45.setTop (mkF m 115 #[.val (.int p1), .val (.int p2), .val (.int p3), .val (.int p4), .val (.int (3 : Int32)), .val (.ref b_1), .val (.int p3)] [(.int p3), (.int (own_max (own_max (own_max (0 : Int32) p1) p2) p3))])) _
            refine XS.icmpNo X_45.here hx rfl (hb hby at_115) rfl (teq (by simp only [own_max, if_pos hc_33, if_neg hc_35, if_pos hc_43] : (own_max (own_max (own_max (0 : Int32) p1) p2) p3) = p3)).2 ?_
            show Steps p.tables e below (T_45.setTop (mkF m 118 #[.val (.int p1), .val (.int p2), .val (.int p3), .val (.int p4), .val (.int (3 : Int32)), .val (.ref b_1), .val (.int p3)] [])) _
            refine XS.iconst X_45.here hx rfl (hb hby at_118) ?_
            show Steps p.tables e below (T_45.setTop (mkF m 119 #[.val (.int p1), .val (.int p2), .val (.int p3), .val (.int p4), .val (.int (3 : Int32)), .val (.ref b_1), .val (.int p3)] [(.int (1 : Int32))])) _
            refine XS.goto X_45.here hx rfl (pc0 := 119) (pc' := 123) rfl (hb hby at_119) (by decide) (by decide) ?_
            show Steps p.tables e below (T_45.setTop (mkF m 123 #[.val (.int p1), .val (.int p2), .val (.int p3), .val (.int p4), .val (.int (3 : Int32)), .val (.ref b_1), .val (.int p3)] [(.int (1 : Int32))])) _
            exact retN X_45 hx (t := .boolean) Bd.returns (by simp) (hb hby at_123) hr
          · exact ⟨rfl, N_45⟩
        · obtain ⟨cq_46, kq_46, q_46a, q_46b, q_46c⟩ := isOf hZ rfl o_31_0
          obtain ⟨_, _, ⟨T_46, L_46, k_46, n_46⟩, -, X_46, ⟨Lc_46, hQ_46, l_46, y_46, z_46⟩, st_46⟩ := X_31.virtualBack hx (y := (⟨"com/example/imply/imply/CheckStatistics", "checks", "()I"⟩ : MethodName)) (z := (⟨"com/example/imply/imply/CheckStatistics", "checks", "()I"⟩ : MethodName)) hown (mvT hZ (hw _ (List.mem_of_getElem? (i := 22) rfl))) (mvT hZ (hw _ (List.mem_of_getElem? (i := 23) rfl))) (notFace_of_selects (args := #[]) (mvT hZ (hw _ (List.mem_of_getElem? (i := 25) rfl)))) (mvT hZ (hw _ (List.mem_of_getElem? (i := 25) rfl))) (mvT hZ (hw _ (List.mem_of_getElem? (i := 24) rfl))) (by decide) (backOf (W := 0) (rm5 l Z a0 hw [] b_1 ((((0 : Int32) + (1 : Int32)) + (1 : Int32)) + (1 : Int32)) T_31.heap n0 Z_31 o_31_1) hZ (hw _ (List.mem_of_getElem? (i := 26) rfl)) (hw _ (List.mem_of_getElem? (i := 2) rfl)) (by decide) (by decide)) q_46a q_46c (g := (mkF m 100 #[.val (.int p1), .val (.int p2), .val (.int p3), .val (.int p4), .val (.int (3 : Int32)), .val (.ref b_1), .val (.int p1)] [(.ref b_1)])) rfl (by rw [hml]; rfl) (Steps.refl _) (argsL := []) (rest := []) (lenOf pd_3 rfl) rfl (by show 2 * 0 + _ ≤ _; exact Nat.le_of_eq rfl) (hb hby at_100) (fun _ _ => ⟨rfl, rfl, (by decide : 1 + 0 ≤ _), (by decide : 2 + 0 ≤ _)⟩)
          dsimp only [Pt.U, Pt.locs, Pt.cells, Pt.slots] at X_46 l_46 y_46 z_46 st_46 hQ_46
          subst l_46 y_46 z_46
          obtain ⟨rfl, N_46q, e_46⟩ := hQ_46
          have N_46 := Fr.app N_31 N_46q
          obtain ⟨cq_47, kq_47, q_47a, q_47b, q_47c⟩ := isOf hZ e_46 o_31_0
          obtain ⟨_, _, ⟨T_47, L_47, k_47, n_47⟩, -, X_47, ⟨Lc_47, hQ_47, l_47, y_47, z_47⟩, st_47⟩ := X_46.virtualBack hx (y := (⟨"com/example/imply/imply/CheckStatistics", "maxIndividuals", "()I"⟩ : MethodName)) (z := (⟨"com/example/imply/imply/CheckStatistics", "maxIndividuals", "()I"⟩ : MethodName)) hown (mvT hZ (hw _ (List.mem_of_getElem? (i := 27) rfl))) (mvT hZ (hw _ (List.mem_of_getElem? (i := 28) rfl))) (notFace_of_selects (args := #[]) (mvT hZ (hw _ (List.mem_of_getElem? (i := 30) rfl)))) (mvT hZ (hw _ (List.mem_of_getElem? (i := 30) rfl))) (mvT hZ (hw _ (List.mem_of_getElem? (i := 29) rfl))) (by decide) (backOf (W := 0) (rm6 l Z a0 hw [] b_1 (own_max (own_max (own_max (0 : Int32) p1) p2) p3) T_31.heap n0 Z_31 o_31_2) hZ (hw _ (List.mem_of_getElem? (i := 31) rfl)) (hw _ (List.mem_of_getElem? (i := 2) rfl)) (by decide) (by decide)) q_47a q_47c (g := (mkF m 110 #[.val (.int p1), .val (.int p2), .val (.int p3), .val (.int p4), .val (.int (3 : Int32)), .val (.ref b_1), .val (.int p1)] [(.ref b_1)])) rfl (by rw [hml]; rfl) (Steps.refl _) (argsL := []) (rest := []) (lenOf pd_3 rfl) rfl (by show 2 * 0 + _ ≤ _; exact Nat.le_of_eq rfl) (hb hby at_110) (fun _ _ => ⟨rfl, e_46, (by decide : 1 + 0 ≤ _), (by decide : 2 + 0 ≤ _)⟩)
          dsimp only [Pt.U, Pt.locs, Pt.cells, Pt.slots] at X_47 l_47 y_47 z_47 st_47 hQ_47
          subst l_47 y_47 z_47
          obtain ⟨rfl, N_47q, e_47⟩ := hQ_47
          have N_47 := Fr.app N_46 N_47q
          obtain ⟨fs, hr, hrun, hended, hW, hsame⟩ := X_47.leave (v := some (.int (1 : Int32))) (fun h => by rw [Bd.returns] at h; cases h)
          refine ⟨_, _, pr_42 _ ?_, hrun, hended, _, _, rfl, ?_, ⟨_, rfl⟩, hW, hsame.mono (by decide) (by decide)⟩
          · show Steps p.tables e below (T_31.setTop (mkF m 92 #[.val (.int p1), .val (.int p2), .val (.int p3), .val (.int p4), .val (.int (3 : Int32)), .val (.ref b_1), .val (.int p1)] [(.int p1), (.int p3)])) _
            refine XS.icmpYes X_31.here hx rfl (pc0 := 92) (pc' := 98) rfl (hb hby at_92) rfl (flt hc_43).2.2.2 (by decide) (by decide) ?_
            show Steps p.tables e below (T_31.setTop (mkF m 98 #[.val (.int p1), .val (.int p2), .val (.int p3), .val (.int p4), .val (.int (3 : Int32)), .val (.ref b_1), .val (.int p1)] [])) _
            refine XS.aload X_31.here hx rfl (hb hby at_98) rfl rfl ?_
            show Steps p.tables e below (T_31.setTop (mkF m 100 #[.val (.int p1), .val (.int p2), .val (.int p3), .val (.int p4), .val (.int (3 : Int32)), .val (.ref b_1), .val (.int p1)] [(.ref b_1)])) _
            refine st_46.trans ?_
            show Steps p.tables e below (T_46.setTop (mkF m 103 #[.val (.int p1), .val (.int p2), .val (.int p3), .val (.int p4), .val (.int (3 : Int32)), .val (.ref b_1), .val (.int p1)] [(.int ((((0 : Int32) + (1 : Int32)) + (1 : Int32)) + (1 : Int32)))])) _
            refine XS.iload X_46.here hx rfl (hb hby at_103) rfl ?_
            show Steps p.tables e below (T_46.setTop (mkF m 105 #[.val (.int p1), .val (.int p2), .val (.int p3), .val (.int p4), .val (.int (3 : Int32)), .val (.ref b_1), .val (.int p1)] [(.int (3 : Int32)), (.int ((((0 : Int32) + (1 : Int32)) + (1 : Int32)) + (1 : Int32)))])) _
            refine XS.icmpNo X_46.here hx rfl (hb hby at_105) rfl (teq (by decide : ((((0 : Int32) + (1 : Int32)) + (1 : Int32)) + (1 : Int32)) = (3 : Int32))).2 ?_
            show Steps p.tables e below (T_46.setTop (mkF m 108 #[.val (.int p1), .val (.int p2), .val (.int p3), .val (.int p4), .val (.int (3 : Int32)), .val (.ref b_1), .val (.int p1)] [])) _
            refine XS.aload X_46.here hx rfl (hb hby at_108) rfl rfl ?_
            show Steps p.tables e below (T_46.setTop (mkF m 110 #[.val (.int p1), .val (.int p2), .val (.int p3), .val (.int p4), .val (.int (3 : Int32)), .val (.ref b_1), .val (.int p1)] [(.ref b_1)])) _
            refine st_47.trans ?_
            show Steps p.tables e below (T_47.setTop (mkF m 113 #[.val (.int p1), .val (.int p2), .val (.int p3), .val (.int p4), .val (.int (3 : Int32)), .val (.ref b_1), .val (.int p1)] [(.int (own_max (own_max (own_max (0 : Int32) p1) p2) p3))])) _
            refine XS.iload X_47.here hx rfl (hb hby at_113) rfl ?_
            show Steps p.tables e below (T_47.setTop (mkF m 115 #[.val (.int p1), .val (.int p2), .val (.int p3), .val (.int p4), .val (.int (3 : Int32)), .val (.ref b_1), .val (.int p1)] [(.int p1), (.int (own_max (own_max (own_max (0 : Int32) p1) p2) p3))])) _
            refine XS.icmpNo X_47.here hx rfl (hb hby at_115) rfl (teq (by simp only [own_max, if_pos hc_33, if_neg hc_35, if_neg hc_43] : (own_max (own_max (own_max (0 : Int32) p1) p2) p3) = p1)).2 ?_
            show Steps p.tables e below (T_47.setTop (mkF m 118 #[.val (.int p1), .val (.int p2), .val (.int p3), .val (.int p4), .val (.int (3 : Int32)), .val (.ref b_1), .val (.int p1)] [])) _
            refine XS.iconst X_47.here hx rfl (hb hby at_118) ?_
            show Steps p.tables e below (T_47.setTop (mkF m 119 #[.val (.int p1), .val (.int p2), .val (.int p3), .val (.int p4), .val (.int (3 : Int32)), .val (.ref b_1), .val (.int p1)] [(.int (1 : Int32))])) _
            refine XS.goto X_47.here hx rfl (pc0 := 119) (pc' := 123) rfl (hb hby at_119) (by decide) (by decide) ?_
            show Steps p.tables e below (T_47.setTop (mkF m 123 #[.val (.int p1), .val (.int p2), .val (.int p3), .val (.int p4), .val (.int (3 : Int32)), .val (.ref b_1), .val (.int p1)] [(.int (1 : Int32))])) _
            exact retN X_47 hx (t := .boolean) Bd.returns (by simp) (hb hby at_123) hr
          · exact ⟨rfl, N_47⟩
    · have pr_48 : ∀ t, Steps p.tables e below (T_31.setTop (mkF m 77 #[.val (.int p1), .val (.int p2), .val (.int p3), .val (.int p4), .val (.int (3 : Int32)), .val (.ref b_1), .val (.int (0 : Int32))] [(.int (0 : Int32)), (.int p2)])) t → Steps p.tables e below (s₁.setTop (entryFrame m #[(.int p1), (.int p2), (.int p3), (.int p4)] maxLocals)) t := fun t k => by
        refine pr_32 _ ?_
        show Steps p.tables e below (T_31.setTop (mkF m 62 #[.val (.int p1), .val (.int p2), .val (.int p3), .val (.int p4), .val (.int (3 : Int32)), .val (.ref b_1), .val (.int (0 : Int32))] [(.int (0 : Int32)), (.int p1)])) _
        refine XS.icmpYes X_31.here hx rfl (pc0 := 62) (pc' := 68) rfl (hb hby at_62) rfl (flt hc_33).2.2.2 (by decide) (by decide) ?_
        show Steps p.tables e below (T_31.setTop (mkF m 68 #[.val (.int p1), .val (.int p2), .val (.int p3), .val (.int p4), .val (.int (3 : Int32)), .val (.ref b_1), .val (.int (0 : Int32))] [])) _
        refine XS.iload X_31.here hx rfl (hb hby at_68) rfl ?_
        show Steps p.tables e below (T_31.setTop (mkF m 70 #[.val (.int p1), .val (.int p2), .val (.int p3), .val (.int p4), .val (.int (3 : Int32)), .val (.ref b_1), .val (.int (0 : Int32))] [(.int (3 : Int32))])) _
        refine XS.iconst X_31.here hx rfl (hb hby at_70) ?_
        show Steps p.tables e below (T_31.setTop (mkF m 71 #[.val (.int p1), .val (.int p2), .val (.int p3), .val (.int p4), .val (.int (3 : Int32)), .val (.ref b_1), .val (.int (0 : Int32))] [(.int (2 : Int32)), (.int (3 : Int32))])) _
        refine XS.icmpNo X_31.here hx rfl (hb hby at_71) rfl (flt (by decide : ¬ ((3 : Int32) < (2 : Int32)))).1 ?_
        show Steps p.tables e below (T_31.setTop (mkF m 74 #[.val (.int p1), .val (.int p2), .val (.int p3), .val (.int p4), .val (.int (3 : Int32)), .val (.ref b_1), .val (.int (0 : Int32))] [])) _
        refine XS.iloadN X_31.here hx rfl (hb hby at_74) rfl ?_
        show Steps p.tables e below (T_31.setTop (mkF m 75 #[.val (.int p1), .val (.int p2), .val (.int p3), .val (.int p4), .val (.int (3 : Int32)), .val (.ref b_1), .val (.int (0 : Int32))] [(.int p2)])) _
        refine XS.iload X_31.here hx rfl (hb hby at_75) rfl ?_
        exact k
      by_cases hc_49 : (0 : Int32) < p2
      · have pr_50 : ∀ t, Steps p.tables e below (T_31.setTop (mkF m 92 #[.val (.int p1), .val (.int p2), .val (.int p3), .val (.int p4), .val (.int (3 : Int32)), .val (.ref b_1), .val (.int p2)] [(.int p2), (.int p3)])) t → Steps p.tables e below (s₁.setTop (entryFrame m #[(.int p1), (.int p2), (.int p3), (.int p4)] maxLocals)) t := fun t k => by
          refine pr_48 _ ?_
          show Steps p.tables e below (T_31.setTop (mkF m 77 #[.val (.int p1), .val (.int p2), .val (.int p3), .val (.int p4), .val (.int (3 : Int32)), .val (.ref b_1), .val (.int (0 : Int32))] [(.int (0 : Int32)), (.int p2)])) _
          refine XS.icmpNo X_31.here hx rfl (hb hby at_77) rfl (tlt hc_49).2.2.2 ?_
          show Steps p.tables e below (T_31.setTop (mkF m 80 #[.val (.int p1), .val (.int p2), .val (.int p3), .val (.int p4), .val (.int (3 : Int32)), .val (.ref b_1), .val (.int (0 : Int32))] [])) _
          refine XS.iloadN X_31.here hx rfl (hb hby at_80) rfl ?_
          show Steps p.tables e below (T_31.setTop (mkF m 81 #[.val (.int p1), .val (.int p2), .val (.int p3), .val (.int p4), .val (.int (3 : Int32)), .val (.ref b_1), .val (.int (0 : Int32))] [(.int p2)])) _
          refine XS.istore X_31.here hx rfl (hb hby at_81) rfl (l' := #[.val (.int p1), .val (.int p2), .val (.int p3), .val (.int p4), .val (.int (3 : Int32)), .val (.ref b_1), .val (.int p2)]) rfl ?_
          show Steps p.tables e below (T_31.setTop (mkF m 83 #[.val (.int p1), .val (.int p2), .val (.int p3), .val (.int p4), .val (.int (3 : Int32)), .val (.ref b_1), .val (.int p2)] [])) _
          refine XS.iload X_31.here hx rfl (hb hby at_83) rfl ?_
          show Steps p.tables e below (T_31.setTop (mkF m 85 #[.val (.int p1), .val (.int p2), .val (.int p3), .val (.int p4), .val (.int (3 : Int32)), .val (.ref b_1), .val (.int p2)] [(.int (3 : Int32))])) _
          refine XS.iconst X_31.here hx rfl (hb hby at_85) ?_
          show Steps p.tables e below (T_31.setTop (mkF m 86 #[.val (.int p1), .val (.int p2), .val (.int p3), .val (.int p4), .val (.int (3 : Int32)), .val (.ref b_1), .val (.int p2)] [(.int (3 : Int32)), (.int (3 : Int32))])) _
          refine XS.icmpNo X_31.here hx rfl (hb hby at_86) rfl (flt (by decide : ¬ ((3 : Int32) < (3 : Int32)))).1 ?_
          show Steps p.tables e below (T_31.setTop (mkF m 89 #[.val (.int p1), .val (.int p2), .val (.int p3), .val (.int p4), .val (.int (3 : Int32)), .val (.ref b_1), .val (.int p2)] [])) _
          refine XS.iloadN X_31.here hx rfl (hb hby at_89) rfl ?_
          show Steps p.tables e below (T_31.setTop (mkF m 90 #[.val (.int p1), .val (.int p2), .val (.int p3), .val (.int p4), .val (.int (3 : Int32)), .val (.ref b_1), .val (.int p2)] [(.int p3)])) _
          refine XS.iload X_31.here hx rfl (hb hby at_90) rfl ?_
          exact k
        by_cases hc_51 : p2 < p3
        · obtain ⟨cq_52, kq_52, q_52a, q_52b, q_52c⟩ := isOf hZ rfl o_31_0
          obtain ⟨_, _, ⟨T_52, L_52, k_52, n_52⟩, -, X_52, ⟨Lc_52, hQ_52, l_52, y_52, z_52⟩, st_52⟩ := X_31.virtualBack hx (y := (⟨"com/example/imply/imply/CheckStatistics", "checks", "()I"⟩ : MethodName)) (z := (⟨"com/example/imply/imply/CheckStatistics", "checks", "()I"⟩ : MethodName)) hown (mvT hZ (hw _ (List.mem_of_getElem? (i := 22) rfl))) (mvT hZ (hw _ (List.mem_of_getElem? (i := 23) rfl))) (notFace_of_selects (args := #[]) (mvT hZ (hw _ (List.mem_of_getElem? (i := 25) rfl)))) (mvT hZ (hw _ (List.mem_of_getElem? (i := 25) rfl))) (mvT hZ (hw _ (List.mem_of_getElem? (i := 24) rfl))) (by decide) (backOf (W := 0) (rm5 l Z a0 hw [] b_1 ((((0 : Int32) + (1 : Int32)) + (1 : Int32)) + (1 : Int32)) T_31.heap n0 Z_31 o_31_1) hZ (hw _ (List.mem_of_getElem? (i := 26) rfl)) (hw _ (List.mem_of_getElem? (i := 2) rfl)) (by decide) (by decide)) q_52a q_52c (g := (mkF m 100 #[.val (.int p1), .val (.int p2), .val (.int p3), .val (.int p4), .val (.int (3 : Int32)), .val (.ref b_1), .val (.int p3)] [(.ref b_1)])) rfl (by rw [hml]; rfl) (Steps.refl _) (argsL := []) (rest := []) (lenOf pd_3 rfl) rfl (by show 2 * 0 + _ ≤ _; exact Nat.le_of_eq rfl) (hb hby at_100) (fun _ _ => ⟨rfl, rfl, (by decide : 1 + 0 ≤ _), (by decide : 2 + 0 ≤ _)⟩)
          dsimp only [Pt.U, Pt.locs, Pt.cells, Pt.slots] at X_52 l_52 y_52 z_52 st_52 hQ_52
          subst l_52 y_52 z_52
          obtain ⟨rfl, N_52q, e_52⟩ := hQ_52
          have N_52 := Fr.app N_31 N_52q
          obtain ⟨cq_53, kq_53, q_53a, q_53b, q_53c⟩ := isOf hZ e_52 o_31_0
          obtain ⟨_, _, ⟨T_53, L_53, k_53, n_53⟩, -, X_53, ⟨Lc_53, hQ_53, l_53, y_53, z_53⟩, st_53⟩ := X_52.virtualBack hx (y := (⟨"com/example/imply/imply/CheckStatistics", "maxIndividuals", "()I"⟩ : MethodName)) (z := (⟨"com/example/imply/imply/CheckStatistics", "maxIndividuals", "()I"⟩ : MethodName)) hown (mvT hZ (hw _ (List.mem_of_getElem? (i := 27) rfl))) (mvT hZ (hw _ (List.mem_of_getElem? (i := 28) rfl))) (notFace_of_selects (args := #[]) (mvT hZ (hw _ (List.mem_of_getElem? (i := 30) rfl)))) (mvT hZ (hw _ (List.mem_of_getElem? (i := 30) rfl))) (mvT hZ (hw _ (List.mem_of_getElem? (i := 29) rfl))) (by decide) (backOf (W := 0) (rm6 l Z a0 hw [] b_1 (own_max (own_max (own_max (0 : Int32) p1) p2) p3) T_31.heap n0 Z_31 o_31_2) hZ (hw _ (List.mem_of_getElem? (i := 31) rfl)) (hw _ (List.mem_of_getElem? (i := 2) rfl)) (by decide) (by decide)) q_53a q_53c (g := (mkF m 110 #[.val (.int p1), .val (.int p2), .val (.int p3), .val (.int p4), .val (.int (3 : Int32)), .val (.ref b_1), .val (.int p3)] [(.ref b_1)])) rfl (by rw [hml]; rfl) (Steps.refl _) (argsL := []) (rest := []) (lenOf pd_3 rfl) rfl (by show 2 * 0 + _ ≤ _; exact Nat.le_of_eq rfl) (hb hby at_110) (fun _ _ => ⟨rfl, e_52, (by decide : 1 + 0 ≤ _), (by decide : 2 + 0 ≤ _)⟩)
          dsimp only [Pt.U, Pt.locs, Pt.cells, Pt.slots] at X_53 l_53 y_53 z_53 st_53 hQ_53
          subst l_53 y_53 z_53
          obtain ⟨rfl, N_53q, e_53⟩ := hQ_53
          have N_53 := Fr.app N_52 N_53q
          obtain ⟨fs, hr, hrun, hended, hW, hsame⟩ := X_53.leave (v := some (.int (1 : Int32))) (fun h => by rw [Bd.returns] at h; cases h)
          refine ⟨_, _, pr_50 _ ?_, hrun, hended, _, _, rfl, ?_, ⟨_, rfl⟩, hW, hsame.mono (by decide) (by decide)⟩
          · show Steps p.tables e below (T_31.setTop (mkF m 92 #[.val (.int p1), .val (.int p2), .val (.int p3), .val (.int p4), .val (.int (3 : Int32)), .val (.ref b_1), .val (.int p2)] [(.int p2), (.int p3)])) _
            refine XS.icmpNo X_31.here hx rfl (hb hby at_92) rfl (tlt hc_51).2.2.2 ?_
            show Steps p.tables e below (T_31.setTop (mkF m 95 #[.val (.int p1), .val (.int p2), .val (.int p3), .val (.int p4), .val (.int (3 : Int32)), .val (.ref b_1), .val (.int p2)] [])) _
            refine XS.iloadN X_31.here hx rfl (hb hby at_95) rfl ?_
            show Steps p.tables e below (T_31.setTop (mkF m 96 #[.val (.int p1), .val (.int p2), .val (.int p3), .val (.int p4), .val (.int (3 : Int32)), .val (.ref b_1), .val (.int p2)] [(.int p3)])) _
            refine XS.istore X_31.here hx rfl (hb hby at_96) rfl (l' := #[.val (.int p1), .val (.int p2), .val (.int p3), .val (.int p4), .val (.int (3 : Int32)), .val (.ref b_1), .val (.int p3)]) rfl ?_
            show Steps p.tables e below (T_31.setTop (mkF m 98 #[.val (.int p1), .val (.int p2), .val (.int p3), .val (.int p4), .val (.int (3 : Int32)), .val (.ref b_1), .val (.int p3)] [])) _
            refine XS.aload X_31.here hx rfl (hb hby at_98) rfl rfl ?_
            show Steps p.tables e below (T_31.setTop (mkF m 100 #[.val (.int p1), .val (.int p2), .val (.int p3), .val (.int p4), .val (.int (3 : Int32)), .val (.ref b_1), .val (.int p3)] [(.ref b_1)])) _
            refine st_52.trans ?_
            show Steps p.tables e below (T_52.setTop (mkF m 103 #[.val (.int p1), .val (.int p2), .val (.int p3), .val (.int p4), .val (.int (3 : Int32)), .val (.ref b_1), .val (.int p3)] [(.int ((((0 : Int32) + (1 : Int32)) + (1 : Int32)) + (1 : Int32)))])) _
            refine XS.iload X_52.here hx rfl (hb hby at_103) rfl ?_
            show Steps p.tables e below (T_52.setTop (mkF m 105 #[.val (.int p1), .val (.int p2), .val (.int p3), .val (.int p4), .val (.int (3 : Int32)), .val (.ref b_1), .val (.int p3)] [(.int (3 : Int32)), (.int ((((0 : Int32) + (1 : Int32)) + (1 : Int32)) + (1 : Int32)))])) _
            refine XS.icmpNo X_52.here hx rfl (hb hby at_105) rfl (teq (by decide : ((((0 : Int32) + (1 : Int32)) + (1 : Int32)) + (1 : Int32)) = (3 : Int32))).2 ?_
            show Steps p.tables e below (T_52.setTop (mkF m 108 #[.val (.int p1), .val (.int p2), .val (.int p3), .val (.int p4), .val (.int (3 : Int32)), .val (.ref b_1), .val (.int p3)] [])) _
            refine XS.aload X_52.here hx rfl (hb hby at_108) rfl rfl ?_
            show Steps p.tables e below (T_52.setTop (mkF m 110 #[.val (.int p1), .val (.int p2), .val (.int p3), .val (.int p4), .val (.int (3 : Int32)), .val (.ref b_1), .val (.int p3)] [(.ref b_1)])) _
            refine st_53.trans ?_
            show Steps p.tables e below (T_53.setTop (mkF m 113 #[.val (.int p1), .val (.int p2), .val (.int p3), .val (.int p4), .val (.int (3 : Int32)), .val (.ref b_1), .val (.int p3)] [(.int (own_max (own_max (own_max (0 : Int32) p1) p2) p3))])) _
            refine XS.iload X_53.here hx rfl (hb hby at_113) rfl ?_
            show Steps p.tables e below (T_53.setTop (mkF m 115 #[.val (.int p1), .val (.int p2), .val (.int p3), .val (.int p4), .val (.int (3 : Int32)), .val (.ref b_1), .val (.int p3)] [(.int p3), (.int (own_max (own_max (own_max (0 : Int32) p1) p2) p3))])) _
            refine XS.icmpNo X_53.here hx rfl (hb hby at_115) rfl (teq (by simp only [own_max, if_neg hc_33, if_pos hc_49, if_pos hc_51] : (own_max (own_max (own_max (0 : Int32) p1) p2) p3) = p3)).2 ?_
            show Steps p.tables e below (T_53.setTop (mkF m 118 #[.val (.int p1), .val (.int p2), .val (.int p3), .val (.int p4), .val (.int (3 : Int32)), .val (.ref b_1), .val (.int p3)] [])) _
            refine XS.iconst X_53.here hx rfl (hb hby at_118) ?_
            show Steps p.tables e below (T_53.setTop (mkF m 119 #[.val (.int p1), .val (.int p2), .val (.int p3), .val (.int p4), .val (.int (3 : Int32)), .val (.ref b_1), .val (.int p3)] [(.int (1 : Int32))])) _
            refine XS.goto X_53.here hx rfl (pc0 := 119) (pc' := 123) rfl (hb hby at_119) (by decide) (by decide) ?_
            show Steps p.tables e below (T_53.setTop (mkF m 123 #[.val (.int p1), .val (.int p2), .val (.int p3), .val (.int p4), .val (.int (3 : Int32)), .val (.ref b_1), .val (.int p3)] [(.int (1 : Int32))])) _
            exact retN X_53 hx (t := .boolean) Bd.returns (by simp) (hb hby at_123) hr
          · exact ⟨rfl, N_53⟩
        · obtain ⟨cq_54, kq_54, q_54a, q_54b, q_54c⟩ := isOf hZ rfl o_31_0
          obtain ⟨_, _, ⟨T_54, L_54, k_54, n_54⟩, -, X_54, ⟨Lc_54, hQ_54, l_54, y_54, z_54⟩, st_54⟩ := X_31.virtualBack hx (y := (⟨"com/example/imply/imply/CheckStatistics", "checks", "()I"⟩ : MethodName)) (z := (⟨"com/example/imply/imply/CheckStatistics", "checks", "()I"⟩ : MethodName)) hown (mvT hZ (hw _ (List.mem_of_getElem? (i := 22) rfl))) (mvT hZ (hw _ (List.mem_of_getElem? (i := 23) rfl))) (notFace_of_selects (args := #[]) (mvT hZ (hw _ (List.mem_of_getElem? (i := 25) rfl)))) (mvT hZ (hw _ (List.mem_of_getElem? (i := 25) rfl))) (mvT hZ (hw _ (List.mem_of_getElem? (i := 24) rfl))) (by decide) (backOf (W := 0) (rm5 l Z a0 hw [] b_1 ((((0 : Int32) + (1 : Int32)) + (1 : Int32)) + (1 : Int32)) T_31.heap n0 Z_31 o_31_1) hZ (hw _ (List.mem_of_getElem? (i := 26) rfl)) (hw _ (List.mem_of_getElem? (i := 2) rfl)) (by decide) (by decide)) q_54a q_54c (g := (mkF m 100 #[.val (.int p1), .val (.int p2), .val (.int p3), .val (.int p4), .val (.int (3 : Int32)), .val (.ref b_1), .val (.int p2)] [(.ref b_1)])) rfl (by rw [hml]; rfl) (Steps.refl _) (argsL := []) (rest := []) (lenOf pd_3 rfl) rfl (by show 2 * 0 + _ ≤ _; exact Nat.le_of_eq rfl) (hb hby at_100) (fun _ _ => ⟨rfl, rfl, (by decide : 1 + 0 ≤ _), (by decide : 2 + 0 ≤ _)⟩)
          dsimp only [Pt.U, Pt.locs, Pt.cells, Pt.slots] at X_54 l_54 y_54 z_54 st_54 hQ_54
          subst l_54 y_54 z_54
          obtain ⟨rfl, N_54q, e_54⟩ := hQ_54
          have N_54 := Fr.app N_31 N_54q
          obtain ⟨cq_55, kq_55, q_55a, q_55b, q_55c⟩ := isOf hZ e_54 o_31_0
          obtain ⟨_, _, ⟨T_55, L_55, k_55, n_55⟩, -, X_55, ⟨Lc_55, hQ_55, l_55, y_55, z_55⟩, st_55⟩ := X_54.virtualBack hx (y := (⟨"com/example/imply/imply/CheckStatistics", "maxIndividuals", "()I"⟩ : MethodName)) (z := (⟨"com/example/imply/imply/CheckStatistics", "maxIndividuals", "()I"⟩ : MethodName)) hown (mvT hZ (hw _ (List.mem_of_getElem? (i := 27) rfl))) (mvT hZ (hw _ (List.mem_of_getElem? (i := 28) rfl))) (notFace_of_selects (args := #[]) (mvT hZ (hw _ (List.mem_of_getElem? (i := 30) rfl)))) (mvT hZ (hw _ (List.mem_of_getElem? (i := 30) rfl))) (mvT hZ (hw _ (List.mem_of_getElem? (i := 29) rfl))) (by decide) (backOf (W := 0) (rm6 l Z a0 hw [] b_1 (own_max (own_max (own_max (0 : Int32) p1) p2) p3) T_31.heap n0 Z_31 o_31_2) hZ (hw _ (List.mem_of_getElem? (i := 31) rfl)) (hw _ (List.mem_of_getElem? (i := 2) rfl)) (by decide) (by decide)) q_55a q_55c (g := (mkF m 110 #[.val (.int p1), .val (.int p2), .val (.int p3), .val (.int p4), .val (.int (3 : Int32)), .val (.ref b_1), .val (.int p2)] [(.ref b_1)])) rfl (by rw [hml]; rfl) (Steps.refl _) (argsL := []) (rest := []) (lenOf pd_3 rfl) rfl (by show 2 * 0 + _ ≤ _; exact Nat.le_of_eq rfl) (hb hby at_110) (fun _ _ => ⟨rfl, e_54, (by decide : 1 + 0 ≤ _), (by decide : 2 + 0 ≤ _)⟩)
          dsimp only [Pt.U, Pt.locs, Pt.cells, Pt.slots] at X_55 l_55 y_55 z_55 st_55 hQ_55
          subst l_55 y_55 z_55
          obtain ⟨rfl, N_55q, e_55⟩ := hQ_55
          have N_55 := Fr.app N_54 N_55q
          obtain ⟨fs, hr, hrun, hended, hW, hsame⟩ := X_55.leave (v := some (.int (1 : Int32))) (fun h => by rw [Bd.returns] at h; cases h)
          refine ⟨_, _, pr_50 _ ?_, hrun, hended, _, _, rfl, ?_, ⟨_, rfl⟩, hW, hsame.mono (by decide) (by decide)⟩
          · show Steps p.tables e below (T_31.setTop (mkF m 92 #[.val (.int p1), .val (.int p2), .val (.int p3), .val (.int p4), .val (.int (3 : Int32)), .val (.ref b_1), .val (.int p2)] [(.int p2), (.int p3)])) _
            refine XS.icmpYes X_31.here hx rfl (pc0 := 92) (pc' := 98) rfl (hb hby at_92) rfl (flt hc_51).2.2.2 (by decide) (by decide) ?_
            show Steps p.tables e below (T_31.setTop (mkF m 98 #[.val (.int p1), .val (.int p2), .val (.int p3), .val (.int p4), .val (.int (3 : Int32)), .val (.ref b_1), .val (.int p2)] [])) _
            refine XS.aload X_31.here hx rfl (hb hby at_98) rfl rfl ?_
            show Steps p.tables e below (T_31.setTop (mkF m 100 #[.val (.int p1), .val (.int p2), .val (.int p3), .val (.int p4), .val (.int (3 : Int32)), .val (.ref b_1), .val (.int p2)] [(.ref b_1)])) _
            refine st_54.trans ?_
            show Steps p.tables e below (T_54.setTop (mkF m 103 #[.val (.int p1), .val (.int p2), .val (.int p3), .val (.int p4), .val (.int (3 : Int32)), .val (.ref b_1), .val (.int p2)] [(.int ((((0 : Int32) + (1 : Int32)) + (1 : Int32)) + (1 : Int32)))])) _
            refine XS.iload X_54.here hx rfl (hb hby at_103) rfl ?_
            show Steps p.tables e below (T_54.setTop (mkF m 105 #[.val (.int p1), .val (.int p2), .val (.int p3), .val (.int p4), .val (.int (3 : Int32)), .val (.ref b_1), .val (.int p2)] [(.int (3 : Int32)), (.int ((((0 : Int32) + (1 : Int32)) + (1 : Int32)) + (1 : Int32)))])) _
            refine XS.icmpNo X_54.here hx rfl (hb hby at_105) rfl (teq (by decide : ((((0 : Int32) + (1 : Int32)) + (1 : Int32)) + (1 : Int32)) = (3 : Int32))).2 ?_
            show Steps p.tables e below (T_54.setTop (mkF m 108 #[.val (.int p1), .val (.int p2), .val (.int p3), .val (.int p4), .val (.int (3 : Int32)), .val (.ref b_1), .val (.int p2)] [])) _
            refine XS.aload X_54.here hx rfl (hb hby at_108) rfl rfl ?_
            show Steps p.tables e below (T_54.setTop (mkF m 110 #[.val (.int p1), .val (.int p2), .val (.int p3), .val (.int p4), .val (.int (3 : Int32)), .val (.ref b_1), .val (.int p2)] [(.ref b_1)])) _
            refine st_55.trans ?_
            show Steps p.tables e below (T_55.setTop (mkF m 113 #[.val (.int p1), .val (.int p2), .val (.int p3), .val (.int p4), .val (.int (3 : Int32)), .val (.ref b_1), .val (.int p2)] [(.int (own_max (own_max (own_max (0 : Int32) p1) p2) p3))])) _
            refine XS.iload X_55.here hx rfl (hb hby at_113) rfl ?_
            show Steps p.tables e below (T_55.setTop (mkF m 115 #[.val (.int p1), .val (.int p2), .val (.int p3), .val (.int p4), .val (.int (3 : Int32)), .val (.ref b_1), .val (.int p2)] [(.int p2), (.int (own_max (own_max (own_max (0 : Int32) p1) p2) p3))])) _
            refine XS.icmpNo X_55.here hx rfl (hb hby at_115) rfl (teq (by simp only [own_max, if_neg hc_33, if_pos hc_49, if_neg hc_51] : (own_max (own_max (own_max (0 : Int32) p1) p2) p3) = p2)).2 ?_
            show Steps p.tables e below (T_55.setTop (mkF m 118 #[.val (.int p1), .val (.int p2), .val (.int p3), .val (.int p4), .val (.int (3 : Int32)), .val (.ref b_1), .val (.int p2)] [])) _
            refine XS.iconst X_55.here hx rfl (hb hby at_118) ?_
            show Steps p.tables e below (T_55.setTop (mkF m 119 #[.val (.int p1), .val (.int p2), .val (.int p3), .val (.int p4), .val (.int (3 : Int32)), .val (.ref b_1), .val (.int p2)] [(.int (1 : Int32))])) _
            refine XS.goto X_55.here hx rfl (pc0 := 119) (pc' := 123) rfl (hb hby at_119) (by decide) (by decide) ?_
            show Steps p.tables e below (T_55.setTop (mkF m 123 #[.val (.int p1), .val (.int p2), .val (.int p3), .val (.int p4), .val (.int (3 : Int32)), .val (.ref b_1), .val (.int p2)] [(.int (1 : Int32))])) _
            exact retN X_55 hx (t := .boolean) Bd.returns (by simp) (hb hby at_123) hr
          · exact ⟨rfl, N_55⟩
      · have pr_56 : ∀ t, Steps p.tables e below (T_31.setTop (mkF m 92 #[.val (.int p1), .val (.int p2), .val (.int p3), .val (.int p4), .val (.int (3 : Int32)), .val (.ref b_1), .val (.int (0 : Int32))] [(.int (0 : Int32)), (.int p3)])) t → Steps p.tables e below (s₁.setTop (entryFrame m #[(.int p1), (.int p2), (.int p3), (.int p4)] maxLocals)) t := fun t k => by
          refine pr_48 _ ?_
          show Steps p.tables e below (T_31.setTop (mkF m 77 #[.val (.int p1), .val (.int p2), .val (.int p3), .val (.int p4), .val (.int (3 : Int32)), .val (.ref b_1), .val (.int (0 : Int32))] [(.int (0 : Int32)), (.int p2)])) _
          refine XS.icmpYes X_31.here hx rfl (pc0 := 77) (pc' := 83) rfl (hb hby at_77) rfl (flt hc_49).2.2.2 (by decide) (by decide) ?_
          show Steps p.tables e below (T_31.setTop (mkF m 83 #[.val (.int p1), .val (.int p2), .val (.int p3), .val (.int p4), .val (.int (3 : Int32)), .val (.ref b_1), .val (.int (0 : Int32))] [])) _
          refine XS.iload X_31.here hx rfl (hb hby at_83) rfl ?_
          show Steps p.tables e below (T_31.setTop (mkF m 85 #[.val (.int p1), .val (.int p2), .val (.int p3), .val (.int p4), .val (.int (3 : Int32)), .val (.ref b_1), .val (.int (0 : Int32))] [(.int (3 : Int32))])) _
          refine XS.iconst X_31.here hx rfl (hb hby at_85) ?_
          show Steps p.tables e below (T_31.setTop (mkF m 86 #[.val (.int p1), .val (.int p2), .val (.int p3), .val (.int p4), .val (.int (3 : Int32)), .val (.ref b_1), .val (.int (0 : Int32))] [(.int (3 : Int32)), (.int (3 : Int32))])) _
          refine XS.icmpNo X_31.here hx rfl (hb hby at_86) rfl (flt (by decide : ¬ ((3 : Int32) < (3 : Int32)))).1 ?_
          show Steps p.tables e below (T_31.setTop (mkF m 89 #[.val (.int p1), .val (.int p2), .val (.int p3), .val (.int p4), .val (.int (3 : Int32)), .val (.ref b_1), .val (.int (0 : Int32))] [])) _
          refine XS.iloadN X_31.here hx rfl (hb hby at_89) rfl ?_
          show Steps p.tables e below (T_31.setTop (mkF m 90 #[.val (.int p1), .val (.int p2), .val (.int p3), .val (.int p4), .val (.int (3 : Int32)), .val (.ref b_1), .val (.int (0 : Int32))] [(.int p3)])) _
          refine XS.iload X_31.here hx rfl (hb hby at_90) rfl ?_
          exact k
        by_cases hc_57 : (0 : Int32) < p3
        · obtain ⟨cq_58, kq_58, q_58a, q_58b, q_58c⟩ := isOf hZ rfl o_31_0
          obtain ⟨_, _, ⟨T_58, L_58, k_58, n_58⟩, -, X_58, ⟨Lc_58, hQ_58, l_58, y_58, z_58⟩, st_58⟩ := X_31.virtualBack hx (y := (⟨"com/example/imply/imply/CheckStatistics", "checks", "()I"⟩ : MethodName)) (z := (⟨"com/example/imply/imply/CheckStatistics", "checks", "()I"⟩ : MethodName)) hown (mvT hZ (hw _ (List.mem_of_getElem? (i := 22) rfl))) (mvT hZ (hw _ (List.mem_of_getElem? (i := 23) rfl))) (notFace_of_selects (args := #[]) (mvT hZ (hw _ (List.mem_of_getElem? (i := 25) rfl)))) (mvT hZ (hw _ (List.mem_of_getElem? (i := 25) rfl))) (mvT hZ (hw _ (List.mem_of_getElem? (i := 24) rfl))) (by decide) (backOf (W := 0) (rm5 l Z a0 hw [] b_1 ((((0 : Int32) + (1 : Int32)) + (1 : Int32)) + (1 : Int32)) T_31.heap n0 Z_31 o_31_1) hZ (hw _ (List.mem_of_getElem? (i := 26) rfl)) (hw _ (List.mem_of_getElem? (i := 2) rfl)) (by decide) (by decide)) q_58a q_58c (g := (mkF m 100 #[.val (.int p1), .val (.int p2), .val (.int p3), .val (.int p4), .val (.int (3 : Int32)), .val (.ref b_1), .val (.int p3)] [(.ref b_1)])) rfl (by rw [hml]; rfl) (Steps.refl _) (argsL := []) (rest := []) (lenOf pd_3 rfl) rfl (by show 2 * 0 + _ ≤ _; exact Nat.le_of_eq rfl) (hb hby at_100) (fun _ _ => ⟨rfl, rfl, (by decide : 1 + 0 ≤ _), (by decide : 2 + 0 ≤ _)⟩)
          dsimp only [Pt.U, Pt.locs, Pt.cells, Pt.slots] at X_58 l_58 y_58 z_58 st_58 hQ_58
          subst l_58 y_58 z_58
          obtain ⟨rfl, N_58q, e_58⟩ := hQ_58
          have N_58 := Fr.app N_31 N_58q
          obtain ⟨cq_59, kq_59, q_59a, q_59b, q_59c⟩ := isOf hZ e_58 o_31_0
          obtain ⟨_, _, ⟨T_59, L_59, k_59, n_59⟩, -, X_59, ⟨Lc_59, hQ_59, l_59, y_59, z_59⟩, st_59⟩ := X_58.virtualBack hx (y := (⟨"com/example/imply/imply/CheckStatistics", "maxIndividuals", "()I"⟩ : MethodName)) (z := (⟨"com/example/imply/imply/CheckStatistics", "maxIndividuals", "()I"⟩ : MethodName)) hown (mvT hZ (hw _ (List.mem_of_getElem? (i := 27) rfl))) (mvT hZ (hw _ (List.mem_of_getElem? (i := 28) rfl))) (notFace_of_selects (args := #[]) (mvT hZ (hw _ (List.mem_of_getElem? (i := 30) rfl)))) (mvT hZ (hw _ (List.mem_of_getElem? (i := 30) rfl))) (mvT hZ (hw _ (List.mem_of_getElem? (i := 29) rfl))) (by decide) (backOf (W := 0) (rm6 l Z a0 hw [] b_1 (own_max (own_max (own_max (0 : Int32) p1) p2) p3) T_31.heap n0 Z_31 o_31_2) hZ (hw _ (List.mem_of_getElem? (i := 31) rfl)) (hw _ (List.mem_of_getElem? (i := 2) rfl)) (by decide) (by decide)) q_59a q_59c (g := (mkF m 110 #[.val (.int p1), .val (.int p2), .val (.int p3), .val (.int p4), .val (.int (3 : Int32)), .val (.ref b_1), .val (.int p3)] [(.ref b_1)])) rfl (by rw [hml]; rfl) (Steps.refl _) (argsL := []) (rest := []) (lenOf pd_3 rfl) rfl (by show 2 * 0 + _ ≤ _; exact Nat.le_of_eq rfl) (hb hby at_110) (fun _ _ => ⟨rfl, e_58, (by decide : 1 + 0 ≤ _), (by decide : 2 + 0 ≤ _)⟩)
          dsimp only [Pt.U, Pt.locs, Pt.cells, Pt.slots] at X_59 l_59 y_59 z_59 st_59 hQ_59
          subst l_59 y_59 z_59
          obtain ⟨rfl, N_59q, e_59⟩ := hQ_59
          have N_59 := Fr.app N_58 N_59q
          obtain ⟨fs, hr, hrun, hended, hW, hsame⟩ := X_59.leave (v := some (.int (1 : Int32))) (fun h => by rw [Bd.returns] at h; cases h)
          refine ⟨_, _, pr_56 _ ?_, hrun, hended, _, _, rfl, ?_, ⟨_, rfl⟩, hW, hsame.mono (by decide) (by decide)⟩
          · show Steps p.tables e below (T_31.setTop (mkF m 92 #[.val (.int p1), .val (.int p2), .val (.int p3), .val (.int p4), .val (.int (3 : Int32)), .val (.ref b_1), .val (.int (0 : Int32))] [(.int (0 : Int32)), (.int p3)])) _
            refine XS.icmpNo X_31.here hx rfl (hb hby at_92) rfl (tlt hc_57).2.2.2 ?_
            show Steps p.tables e below (T_31.setTop (mkF m 95 #[.val (.int p1), .val (.int p2), .val (.int p3), .val (.int p4), .val (.int (3 : Int32)), .val (.ref b_1), .val (.int (0 : Int32))] [])) _
            refine XS.iloadN X_31.here hx rfl (hb hby at_95) rfl ?_
            show Steps p.tables e below (T_31.setTop (mkF m 96 #[.val (.int p1), .val (.int p2), .val (.int p3), .val (.int p4), .val (.int (3 : Int32)), .val (.ref b_1), .val (.int (0 : Int32))] [(.int p3)])) _
            refine XS.istore X_31.here hx rfl (hb hby at_96) rfl (l' := #[.val (.int p1), .val (.int p2), .val (.int p3), .val (.int p4), .val (.int (3 : Int32)), .val (.ref b_1), .val (.int p3)]) rfl ?_
            show Steps p.tables e below (T_31.setTop (mkF m 98 #[.val (.int p1), .val (.int p2), .val (.int p3), .val (.int p4), .val (.int (3 : Int32)), .val (.ref b_1), .val (.int p3)] [])) _
            refine XS.aload X_31.here hx rfl (hb hby at_98) rfl rfl ?_
            show Steps p.tables e below (T_31.setTop (mkF m 100 #[.val (.int p1), .val (.int p2), .val (.int p3), .val (.int p4), .val (.int (3 : Int32)), .val (.ref b_1), .val (.int p3)] [(.ref b_1)])) _
            refine st_58.trans ?_
            show Steps p.tables e below (T_58.setTop (mkF m 103 #[.val (.int p1), .val (.int p2), .val (.int p3), .val (.int p4), .val (.int (3 : Int32)), .val (.ref b_1), .val (.int p3)] [(.int ((((0 : Int32) + (1 : Int32)) + (1 : Int32)) + (1 : Int32)))])) _
            refine XS.iload X_58.here hx rfl (hb hby at_103) rfl ?_
            show Steps p.tables e below (T_58.setTop (mkF m 105 #[.val (.int p1), .val (.int p2), .val (.int p3), .val (.int p4), .val (.int (3 : Int32)), .val (.ref b_1), .val (.int p3)] [(.int (3 : Int32)), (.int ((((0 : Int32) + (1 : Int32)) + (1 : Int32)) + (1 : Int32)))])) _
            refine XS.icmpNo X_58.here hx rfl (hb hby at_105) rfl (teq (by decide : ((((0 : Int32) + (1 : Int32)) + (1 : Int32)) + (1 : Int32)) = (3 : Int32))).2 ?_
            show Steps p.tables e below (T_58.setTop (mkF m 108 #[.val (.int p1), .val (.int p2), .val (.int p3), .val (.int p4), .val (.int (3 : Int32)), .val (.ref b_1), .val (.int p3)] [])) _
            refine XS.aload X_58.here hx rfl (hb hby at_108) rfl rfl ?_
            show Steps p.tables e below (T_58.setTop (mkF m 110 #[.val (.int p1), .val (.int p2), .val (.int p3), .val (.int p4), .val (.int (3 : Int32)), .val (.ref b_1), .val (.int p3)] [(.ref b_1)])) _
            refine st_59.trans ?_
            show Steps p.tables e below (T_59.setTop (mkF m 113 #[.val (.int p1), .val (.int p2), .val (.int p3), .val (.int p4), .val (.int (3 : Int32)), .val (.ref b_1), .val (.int p3)] [(.int (own_max (own_max (own_max (0 : Int32) p1) p2) p3))])) _
            refine XS.iload X_59.here hx rfl (hb hby at_113) rfl ?_
            show Steps p.tables e below (T_59.setTop (mkF m 115 #[.val (.int p1), .val (.int p2), .val (.int p3), .val (.int p4), .val (.int (3 : Int32)), .val (.ref b_1), .val (.int p3)] [(.int p3), (.int (own_max (own_max (own_max (0 : Int32) p1) p2) p3))])) _
            refine XS.icmpNo X_59.here hx rfl (hb hby at_115) rfl (teq (by simp only [own_max, if_neg hc_33, if_neg hc_49, if_pos hc_57] : (own_max (own_max (own_max (0 : Int32) p1) p2) p3) = p3)).2 ?_
            show Steps p.tables e below (T_59.setTop (mkF m 118 #[.val (.int p1), .val (.int p2), .val (.int p3), .val (.int p4), .val (.int (3 : Int32)), .val (.ref b_1), .val (.int p3)] [])) _
            refine XS.iconst X_59.here hx rfl (hb hby at_118) ?_
            show Steps p.tables e below (T_59.setTop (mkF m 119 #[.val (.int p1), .val (.int p2), .val (.int p3), .val (.int p4), .val (.int (3 : Int32)), .val (.ref b_1), .val (.int p3)] [(.int (1 : Int32))])) _
            refine XS.goto X_59.here hx rfl (pc0 := 119) (pc' := 123) rfl (hb hby at_119) (by decide) (by decide) ?_
            show Steps p.tables e below (T_59.setTop (mkF m 123 #[.val (.int p1), .val (.int p2), .val (.int p3), .val (.int p4), .val (.int (3 : Int32)), .val (.ref b_1), .val (.int p3)] [(.int (1 : Int32))])) _
            exact retN X_59 hx (t := .boolean) Bd.returns (by simp) (hb hby at_123) hr
          · exact ⟨rfl, N_59⟩
        · obtain ⟨cq_60, kq_60, q_60a, q_60b, q_60c⟩ := isOf hZ rfl o_31_0
          obtain ⟨_, _, ⟨T_60, L_60, k_60, n_60⟩, -, X_60, ⟨Lc_60, hQ_60, l_60, y_60, z_60⟩, st_60⟩ := X_31.virtualBack hx (y := (⟨"com/example/imply/imply/CheckStatistics", "checks", "()I"⟩ : MethodName)) (z := (⟨"com/example/imply/imply/CheckStatistics", "checks", "()I"⟩ : MethodName)) hown (mvT hZ (hw _ (List.mem_of_getElem? (i := 22) rfl))) (mvT hZ (hw _ (List.mem_of_getElem? (i := 23) rfl))) (notFace_of_selects (args := #[]) (mvT hZ (hw _ (List.mem_of_getElem? (i := 25) rfl)))) (mvT hZ (hw _ (List.mem_of_getElem? (i := 25) rfl))) (mvT hZ (hw _ (List.mem_of_getElem? (i := 24) rfl))) (by decide) (backOf (W := 0) (rm5 l Z a0 hw [] b_1 ((((0 : Int32) + (1 : Int32)) + (1 : Int32)) + (1 : Int32)) T_31.heap n0 Z_31 o_31_1) hZ (hw _ (List.mem_of_getElem? (i := 26) rfl)) (hw _ (List.mem_of_getElem? (i := 2) rfl)) (by decide) (by decide)) q_60a q_60c (g := (mkF m 100 #[.val (.int p1), .val (.int p2), .val (.int p3), .val (.int p4), .val (.int (3 : Int32)), .val (.ref b_1), .val (.int (0 : Int32))] [(.ref b_1)])) rfl (by rw [hml]; rfl) (Steps.refl _) (argsL := []) (rest := []) (lenOf pd_3 rfl) rfl (by show 2 * 0 + _ ≤ _; exact Nat.le_of_eq rfl) (hb hby at_100) (fun _ _ => ⟨rfl, rfl, (by decide : 1 + 0 ≤ _), (by decide : 2 + 0 ≤ _)⟩)
          dsimp only [Pt.U, Pt.locs, Pt.cells, Pt.slots] at X_60 l_60 y_60 z_60 st_60 hQ_60
          subst l_60 y_60 z_60
          obtain ⟨rfl, N_60q, e_60⟩ := hQ_60
          have N_60 := Fr.app N_31 N_60q
          obtain ⟨cq_61, kq_61, q_61a, q_61b, q_61c⟩ := isOf hZ e_60 o_31_0
          obtain ⟨_, _, ⟨T_61, L_61, k_61, n_61⟩, -, X_61, ⟨Lc_61, hQ_61, l_61, y_61, z_61⟩, st_61⟩ := X_60.virtualBack hx (y := (⟨"com/example/imply/imply/CheckStatistics", "maxIndividuals", "()I"⟩ : MethodName)) (z := (⟨"com/example/imply/imply/CheckStatistics", "maxIndividuals", "()I"⟩ : MethodName)) hown (mvT hZ (hw _ (List.mem_of_getElem? (i := 27) rfl))) (mvT hZ (hw _ (List.mem_of_getElem? (i := 28) rfl))) (notFace_of_selects (args := #[]) (mvT hZ (hw _ (List.mem_of_getElem? (i := 30) rfl)))) (mvT hZ (hw _ (List.mem_of_getElem? (i := 30) rfl))) (mvT hZ (hw _ (List.mem_of_getElem? (i := 29) rfl))) (by decide) (backOf (W := 0) (rm6 l Z a0 hw [] b_1 (own_max (own_max (own_max (0 : Int32) p1) p2) p3) T_31.heap n0 Z_31 o_31_2) hZ (hw _ (List.mem_of_getElem? (i := 31) rfl)) (hw _ (List.mem_of_getElem? (i := 2) rfl)) (by decide) (by decide)) q_61a q_61c (g := (mkF m 110 #[.val (.int p1), .val (.int p2), .val (.int p3), .val (.int p4), .val (.int (3 : Int32)), .val (.ref b_1), .val (.int (0 : Int32))] [(.ref b_1)])) rfl (by rw [hml]; rfl) (Steps.refl _) (argsL := []) (rest := []) (lenOf pd_3 rfl) rfl (by show 2 * 0 + _ ≤ _; exact Nat.le_of_eq rfl) (hb hby at_110) (fun _ _ => ⟨rfl, e_60, (by decide : 1 + 0 ≤ _), (by decide : 2 + 0 ≤ _)⟩)
          dsimp only [Pt.U, Pt.locs, Pt.cells, Pt.slots] at X_61 l_61 y_61 z_61 st_61 hQ_61
          subst l_61 y_61 z_61
          obtain ⟨rfl, N_61q, e_61⟩ := hQ_61
          have N_61 := Fr.app N_60 N_61q
          obtain ⟨fs, hr, hrun, hended, hW, hsame⟩ := X_61.leave (v := some (.int (1 : Int32))) (fun h => by rw [Bd.returns] at h; cases h)
          refine ⟨_, _, pr_56 _ ?_, hrun, hended, _, _, rfl, ?_, ⟨_, rfl⟩, hW, hsame.mono (by decide) (by decide)⟩
          · show Steps p.tables e below (T_31.setTop (mkF m 92 #[.val (.int p1), .val (.int p2), .val (.int p3), .val (.int p4), .val (.int (3 : Int32)), .val (.ref b_1), .val (.int (0 : Int32))] [(.int (0 : Int32)), (.int p3)])) _
            refine XS.icmpYes X_31.here hx rfl (pc0 := 92) (pc' := 98) rfl (hb hby at_92) rfl (flt hc_57).2.2.2 (by decide) (by decide) ?_
            show Steps p.tables e below (T_31.setTop (mkF m 98 #[.val (.int p1), .val (.int p2), .val (.int p3), .val (.int p4), .val (.int (3 : Int32)), .val (.ref b_1), .val (.int (0 : Int32))] [])) _
            refine XS.aload X_31.here hx rfl (hb hby at_98) rfl rfl ?_
            show Steps p.tables e below (T_31.setTop (mkF m 100 #[.val (.int p1), .val (.int p2), .val (.int p3), .val (.int p4), .val (.int (3 : Int32)), .val (.ref b_1), .val (.int (0 : Int32))] [(.ref b_1)])) _
            refine st_60.trans ?_
            show Steps p.tables e below (T_60.setTop (mkF m 103 #[.val (.int p1), .val (.int p2), .val (.int p3), .val (.int p4), .val (.int (3 : Int32)), .val (.ref b_1), .val (.int (0 : Int32))] [(.int ((((0 : Int32) + (1 : Int32)) + (1 : Int32)) + (1 : Int32)))])) _
            refine XS.iload X_60.here hx rfl (hb hby at_103) rfl ?_
            show Steps p.tables e below (T_60.setTop (mkF m 105 #[.val (.int p1), .val (.int p2), .val (.int p3), .val (.int p4), .val (.int (3 : Int32)), .val (.ref b_1), .val (.int (0 : Int32))] [(.int (3 : Int32)), (.int ((((0 : Int32) + (1 : Int32)) + (1 : Int32)) + (1 : Int32)))])) _
            refine XS.icmpNo X_60.here hx rfl (hb hby at_105) rfl (teq (by decide : ((((0 : Int32) + (1 : Int32)) + (1 : Int32)) + (1 : Int32)) = (3 : Int32))).2 ?_
            show Steps p.tables e below (T_60.setTop (mkF m 108 #[.val (.int p1), .val (.int p2), .val (.int p3), .val (.int p4), .val (.int (3 : Int32)), .val (.ref b_1), .val (.int (0 : Int32))] [])) _
            refine XS.aload X_60.here hx rfl (hb hby at_108) rfl rfl ?_
            show Steps p.tables e below (T_60.setTop (mkF m 110 #[.val (.int p1), .val (.int p2), .val (.int p3), .val (.int p4), .val (.int (3 : Int32)), .val (.ref b_1), .val (.int (0 : Int32))] [(.ref b_1)])) _
            refine st_61.trans ?_
            show Steps p.tables e below (T_61.setTop (mkF m 113 #[.val (.int p1), .val (.int p2), .val (.int p3), .val (.int p4), .val (.int (3 : Int32)), .val (.ref b_1), .val (.int (0 : Int32))] [(.int (own_max (own_max (own_max (0 : Int32) p1) p2) p3))])) _
            refine XS.iload X_61.here hx rfl (hb hby at_113) rfl ?_
            show Steps p.tables e below (T_61.setTop (mkF m 115 #[.val (.int p1), .val (.int p2), .val (.int p3), .val (.int p4), .val (.int (3 : Int32)), .val (.ref b_1), .val (.int (0 : Int32))] [(.int (0 : Int32)), (.int (own_max (own_max (own_max (0 : Int32) p1) p2) p3))])) _
            refine XS.icmpNo X_61.here hx rfl (hb hby at_115) rfl (teq (by simp only [own_max, if_neg hc_33, if_neg hc_49, if_neg hc_57] : (own_max (own_max (own_max (0 : Int32) p1) p2) p3) = (0 : Int32))).2 ?_
            show Steps p.tables e below (T_61.setTop (mkF m 118 #[.val (.int p1), .val (.int p2), .val (.int p3), .val (.int p4), .val (.int (3 : Int32)), .val (.ref b_1), .val (.int (0 : Int32))] [])) _
            refine XS.iconst X_61.here hx rfl (hb hby at_118) ?_
            show Steps p.tables e below (T_61.setTop (mkF m 119 #[.val (.int p1), .val (.int p2), .val (.int p3), .val (.int p4), .val (.int (3 : Int32)), .val (.ref b_1), .val (.int (0 : Int32))] [(.int (1 : Int32))])) _
            refine XS.goto X_61.here hx rfl (pc0 := 119) (pc' := 123) rfl (hb hby at_119) (by decide) (by decide) ?_
            show Steps p.tables e below (T_61.setTop (mkF m 123 #[.val (.int p1), .val (.int p2), .val (.int p3), .val (.int p4), .val (.int (3 : Int32)), .val (.ref b_1), .val (.int (0 : Int32))] [(.int (1 : Int32))])) _
            exact retN X_61 hx (t := .boolean) Bd.returns (by simp) (hb hby at_123) hr
          · exact ⟨rfl, N_61⟩
set_option maxRecDepth 65536 in
set_option maxHeartbeats 40000000 in
theorem comes_1 {Post : Tables → Env → Array Value → State → Outcome → State → Prop} (hpost : ∀ tb e args s v u, (limb_1_1.after args s (.returned v) u = true ∧ limb_1_2.after args s (.returned v) u = true ∧ True) → FrameEnd s (.returned v) u (Jvm.fieldLocs frame_1_writes args s ++ Jvm.arrayLocs frame_1_arrays args s ++ Jvm.staticLocs frame_1_statics s) 16 128 → Post tb e args s (.returned v) u) :
    ArmFor flags0 classFile x code maxLocals ret World_1 tables_1 room_1 Calls_1 rest_1 Pre_1 Post := by
  intro l hfl _ _ p e ha hc hk s m args below hf hA hF happ hP
  obtain ⟨hcalls, hrest, hpre⟩ := hP
  obtain ⟨-, -, -, hnamed, -, -, -, hat⟩ := (Spec.applies_iff hf).mp happ
  obtain ⟨hg, hn⟩ := and_e (Cond.before_iff.mp (show (Jvm.Cond.and given_1 narrow_1).before args s = true from hpre))
  obtain ⟨g0, r0⟩ := and_e hg
  obtain ⟨g1, r1⟩ := and_e r0
  obtain ⟨g2, r2⟩ := and_e r1
  obtain ⟨g3, r3⟩ := and_e r2
  obtain ⟨w0, w1, w2, w3, rfl⟩ : ∃ w0 w1 w2 w3 : Value, args = #[w0, w1, w2, w3] := by
    have hs : args.size = 4 := by simpa [Cond.value, given_1] using g0
    obtain ⟨L⟩ := args
    match L, hs with
    | [w0, w1, w2, w3], _ => exact ⟨w0, w1, w2, w3, rfl⟩
  have hw := fun d (hd : d ∈ tables_1) => atoms_spec (ws := Jvm.Cond.code x code maxLocals ret :: tables_1) hat d (List.mem_cons_of_mem _ hd)
  obtain ⟨i0, ei0⟩ := is_v g1
  obtain rfl : w0 = (.int i0) := Option.some.inj ei0
  obtain ⟨i1, ei1⟩ := is_v g2
  obtain rfl : w1 = (.int i1) := Option.some.inj ei1
  obtain ⟨i2, ei2⟩ := is_v g3
  obtain rfl : w2 = (.int i2) := Option.some.inj ei2
  obtain ⟨i3, ei3⟩ := is_v r3
  obtain rfl : w3 = (.int i3) := Option.some.inj ei3
  obtain ⟨n, o, h1, h2, h3, _, L, rfl, ⟨rfl, N⟩, hq⟩ := rm0 l s _ hw tables_1 i0 i1 i2 i3 s.heap s.heap.size (Nat.le_refl _)  p e ha hc hk s m _ below hf ((Spec.applies_iff_loose hf).mp happ).1 ⟨rfl, State.Warmed39.refl s, rfl⟩ trivial
  refine ⟨n, _, h1, h2, h3, hpost _ _ _ _ _ _ ⟨Cond.after_iff.mpr rfl, Cond.after_iff.mpr (eq_i res_at (Term.int_eval (1)) rfl), trivial⟩ ⟨hq.1, hq.2.1, (hq.2.2.sift fun y hy => Or.inr (N y hy)).mono (by decide) (by decide)⟩⟩
theorem main_1_1 : Claimed_1_1 := comes_1 fun _ _ _ _ _ _ h hF => ⟨h.1, hF⟩
theorem main_1_2 : Claimed_1_2 := comes_1 fun _ _ _ _ _ _ h hF => ⟨h.2.1, hF⟩
end Jvm.Pilot.@@N@@
namespace Jvm.Pilot.@@N@@
open Jvm Jvm.ClassFile Sem Op Lib Jvm.Free Jvm.Stand Jvm.Pilot.@@N@@.Jvm.D
/-! MADE BY PROGRAM (witnessworld.py) out of the Statement's table words and the real class files: 10 classes; the members and pool entries that the words name. The judged class is class 1, her method 1. -/
namespace start1
open Jvm.ClassFile
def u (s : String) : CpInfo := .utf8 (stringToUtf16 s)
/-- a pool by its gaps: so many unusable entries, then the entry; so many at the end -/
def gap : Nat → List CpInfo → List CpInfo
  | 0, r => r
  | n + 1, r => .unusable :: gap n r
def poolList (es : List (Nat × CpInfo)) (last : Nat) : List CpInfo := es.foldr (fun e r => gap e.1 (e.2 :: r)) (gap last [])
def pool (es : List (Nat × CpInfo)) (last : Nat) : Array CpInfo := ⟨poolList es last⟩
def fileOf (pool : Array CpInfo) (this : Nat) (attrs : Array Attribute := #[]) (ms : Array MethodInfo := #[]) (fl : Nat := 33) (sup : Nat := 0) (ifs : Array Nat := #[]) (fds : Array FieldInfo := #[]) : ClassFile where
  minorVersion := 0
  majorVersion := 65
  constantPool := pool
  accessFlags := fl
  thisClass := this
  superClass := sup
  interfaces := ifs
  fields := fds
  methods := ms
  attributes := attrs
def plain (name : String) (sup : Option ClassId) : Class where
  name := name
  kind := .ordinary
  loader := none
  accessFlags := 33
  super := sup
  interfaces := #[]
  cf := none
  fields := #[]
  methods := #[]
  instanceTypes := #[]
  staticTypes := #[]
  resolved := #[]
  callSites := []
  init := .initialized
  statics := none
  mirror := none

def pool0 : Array CpInfo := pool [(5, u "<init>"), (0, u "()V"), (1, .class_ 10), (1, u "java/lang/Object")] 113

def k0c0 : Code := { maxStack := 0, maxLocals := 1, code := object_method_1_code, exceptionTable := #[], attributes := #[] }
def k0m0 : Method := { name := "<init>", desc := "()V", sig := { parameters := [], returnType := none }, accessFlags := 1, code := some k0c0 }
/-- java/lang/Object -/
def k0 : Class := { plain "java/lang/Object" none with
  accessFlags := 33
  interfaces := #[]
  cf := some (fileOf pool0 8 #[] #[{ accessFlags := 1, nameIndex := 5, descriptorIndex := 6, attributes := #[] }] 33 0 #[] #[])
  fields := #[]
  methods := #[k0m0]
  instanceTypes := #[]
  staticTypes := #[]
  resolved := Array.replicate 124 none
  statics := none }

def pool1 : Array CpInfo := pool [(2, .class_ 4), (0, .nameAndType 5 6), (0, u "java/lang/Object"), (0, u "<init>"), (0, u "()V"), (0, .class_ 8), (0, u "com/example/imply/imply/CheckStatistics"), (0, .methodref 7 3), (0, .methodref 7 11), (0, .nameAndType 12 13), (0, u "add"), (0, u "(I)V"), (0, .methodref 7 15), (0, .nameAndType 16 17), (0, u "checks"), (0, u "()I"), (0, .methodref 7 19), (0, .nameAndType 20 17), (0, u "maxIndividuals"), (0, .class_ 22), (0, u "com/example/imply/imply/CheckStatisticsAddPinLaw"), (2, u "law"), (0, u "(IIII)Z")] 3

def k1m0 : Method := { name := "<init>", desc := "()V", sig := { parameters := [], returnType := none }, accessFlags := 2, code := none }
def k1c1 : Code := { maxStack := 2, maxLocals := 7, code := code, exceptionTable := #[], attributes := #[] }
def k1m1 : Method := { name := "law", desc := "(IIII)Z", sig := { parameters := [.int, .int, .int, .int], returnType := some .boolean }, accessFlags := 9, code := some k1c1 }
/-- com/example/imply/imply/CheckStatisticsAddPinLaw -/
def k1 : Class := { plain "com/example/imply/imply/CheckStatisticsAddPinLaw" (some 0) with
  accessFlags := 49
  interfaces := #[]
  cf := some (fileOf pool1 21 #[] #[{ accessFlags := 2, nameIndex := 5, descriptorIndex := 6, attributes := #[] }, { accessFlags := 9, nameIndex := 25, descriptorIndex := 26, attributes := #[] }] 49 2 #[] #[])
  fields := #[]
  methods := #[k1m0, k1m1]
  instanceTypes := #[]
  staticTypes := #[]
  resolved := Array.replicate 30 none
  statics := none }

def pool2 : Array CpInfo := pool [(1, .methodref 2 3), (0, .class_ 4), (0, .nameAndType 5 6), (0, u "java/lang/Object"), (0, u "<init>"), (0, u "()V"), (0, .fieldref 8 9), (0, .class_ 10), (0, .nameAndType 11 12), (0, u "com/example/imply/imply/CheckStatistics"), (0, u "checks"), (0, u "I"), (0, .fieldref 8 14), (0, .nameAndType 15 12), (0, u "maxIndividuals"), (0, .methodref 17 18), (0, .class_ 19), (0, .nameAndType 20 21), (0, u "java/lang/Math"), (0, u "max"), (0, u "(II)I"), (2, u "add"), (0, u "(I)V"), (0, u "()I")] 2

def k2c0 : Code := { maxStack := 1, maxLocals := 1, code := prog_1_method_1_code, exceptionTable := #[], attributes := #[] }
def k2m0 : Method := { name := "<init>", desc := "()V", sig := { parameters := [], returnType := none }, accessFlags := 0, code := some k2c0 }
def k2c1 : Code := { maxStack := 3, maxLocals := 2, code := prog_1_method_2_code, exceptionTable := #[], attributes := #[] }
def k2m1 : Method := { name := "add", desc := "(I)V", sig := { parameters := [.int], returnType := none }, accessFlags := 0, code := some k2c1 }
def k2c2 : Code := { maxStack := 1, maxLocals := 1, code := prog_1_method_3_code, exceptionTable := #[], attributes := #[] }
def k2m2 : Method := { name := "checks", desc := "()I", sig := { parameters := [], returnType := some .int }, accessFlags := 0, code := some k2c2 }
def k2c3 : Code := { maxStack := 1, maxLocals := 1, code := prog_1_method_4_code, exceptionTable := #[], attributes := #[] }
def k2m3 : Method := { name := "maxIndividuals", desc := "()I", sig := { parameters := [], returnType := some .int }, accessFlags := 0, code := some k2c3 }
/-- com/example/imply/imply/CheckStatistics -/
def k2 : Class := { plain "com/example/imply/imply/CheckStatistics" (some 0) with
  accessFlags := 32
  interfaces := #[]
  cf := some (fileOf pool2 8 #[] #[{ accessFlags := 0, nameIndex := 5, descriptorIndex := 6, attributes := #[] }, { accessFlags := 0, nameIndex := 24, descriptorIndex := 25, attributes := #[] }, { accessFlags := 0, nameIndex := 11, descriptorIndex := 26, attributes := #[] }, { accessFlags := 0, nameIndex := 15, descriptorIndex := 26, attributes := #[] }] 32 2 #[] #[{ accessFlags := 2, nameIndex := 11, descriptorIndex := 12, attributes := #[] }, { accessFlags := 2, nameIndex := 15, descriptorIndex := 12, attributes := #[] }])
  fields := #[{ name := "checks", type := .int, accessFlags := 2, slot := 0, constantValue := 0 }, { name := "maxIndividuals", type := .int, accessFlags := 2, slot := 1, constantValue := 0 }]
  methods := #[k2m0, k2m1, k2m2, k2m3]
  instanceTypes := #[.int, .int]
  staticTypes := #[]
  resolved := Array.replicate 29 none
  statics := none }

def pool3 : Array CpInfo := pool [(1, .class_ 2), (0, u "java/lang/Math"), (1, .class_ 6), (1, u "java/lang/Object"), (0, u "<init>"), (0, u "()V"), (89, .class_ 100), (1, u "java/lang/Math$RandomNumberGeneratorHolder"), (71, u "negativeZeroFloatBits"), (0, u "J"), (2, u "negativeZeroDoubleBits"), (21, u "max"), (46, u "$assertionsDisabled"), (0, u "Z"), (88, u "(II)I"), (2, u "twoToTheDoubleScaleDown"), (0, u "D"), (4, u "twoToTheDoubleScaleUp"), (9, u "E"), (3, u "PI"), (2, u "TAU"), (2, u "DEGREES_TO_RADIANS"), (0, u "RADIANS_TO_DEGREES")] 94

def k3m0 : Method := { name := "<init>", desc := "()V", sig := { parameters := [], returnType := none }, accessFlags := 2, code := none }
def k3c1 : Code := { maxStack := 2, maxLocals := 2, code := jdk_29_method_65_code, exceptionTable := #[], attributes := #[] }
def k3m1 : Method := { name := "max", desc := "(II)I", sig := { parameters := [.int, .int], returnType := some .int }, accessFlags := 9, code := some k3c1 }
/-- java/lang/Math -/
def k3 : Class := { plain "java/lang/Math" (some 0) with
  accessFlags := 49
  interfaces := #[]
  cf := some (fileOf pool3 1 #[.nestMembers #[98]] #[{ accessFlags := 2, nameIndex := 7, descriptorIndex := 8, attributes := #[] }, { accessFlags := 9, nameIndex := 198, descriptorIndex := 335, attributes := #[] }] 49 4 #[] #[{ accessFlags := 25, nameIndex := 354, descriptorIndex := 339, attributes := #[] }, { accessFlags := 25, nameIndex := 358, descriptorIndex := 339, attributes := #[] }, { accessFlags := 25, nameIndex := 361, descriptorIndex := 339, attributes := #[] }, { accessFlags := 26, nameIndex := 364, descriptorIndex := 339, attributes := #[] }, { accessFlags := 26, nameIndex := 365, descriptorIndex := 339, attributes := #[] }, { accessFlags := 26, nameIndex := 172, descriptorIndex := 173, attributes := #[] }, { accessFlags := 26, nameIndex := 176, descriptorIndex := 173, attributes := #[] }, { accessFlags := 8, nameIndex := 344, descriptorIndex := 339, attributes := #[] }, { accessFlags := 8, nameIndex := 338, descriptorIndex := 339, attributes := #[] }, { accessFlags := 4120, nameIndex := 245, descriptorIndex := 246, attributes := #[] }])
  fields := #[{ name := "E", type := .double, accessFlags := 25, slot := 0, constantValue := 0 }, { name := "PI", type := .double, accessFlags := 25, slot := 1, constantValue := 0 }, { name := "TAU", type := .double, accessFlags := 25, slot := 2, constantValue := 0 }, { name := "DEGREES_TO_RADIANS", type := .double, accessFlags := 26, slot := 3, constantValue := 0 }, { name := "RADIANS_TO_DEGREES", type := .double, accessFlags := 26, slot := 4, constantValue := 0 }, { name := "negativeZeroFloatBits", type := .long, accessFlags := 26, slot := 5, constantValue := 0 }, { name := "negativeZeroDoubleBits", type := .long, accessFlags := 26, slot := 6, constantValue := 0 }, { name := "twoToTheDoubleScaleUp", type := .double, accessFlags := 8, slot := 7, constantValue := 0 }, { name := "twoToTheDoubleScaleDown", type := .double, accessFlags := 8, slot := 8, constantValue := 0 }, { name := "$assertionsDisabled", type := .boolean, accessFlags := 4120, slot := 9, constantValue := 0 }]
  methods := #[k3m0, k3m1]
  instanceTypes := #[]
  staticTypes := #[.double, .double, .double, .double, .double, .long, .long, .double, .double, .boolean]
  resolved := Array.replicate 460 none
  statics := none }

def pool4 : Array CpInfo := pool [(1, u "java/lang/Cloneable"), (0, .class_ 1), (0, u "java/lang/Object"), (0, .class_ 3)] 3

/-- java/lang/Cloneable -/
def k4 : Class := { plain "java/lang/Cloneable" (some 0) with
  accessFlags := 1537
  interfaces := #[]
  cf := some (fileOf pool4 2 #[] #[] 1537 4 #[] #[])
  fields := #[]
  methods := #[]
  instanceTypes := #[]
  staticTypes := #[]
  resolved := Array.replicate 8 none
  statics := none }

def pool5 : Array CpInfo := pool [(1, u "java/io/Serializable"), (0, .class_ 1), (0, u "java/lang/Object"), (0, .class_ 3)] 3

/-- java/io/Serializable -/
def k5 : Class := { plain "java/io/Serializable" (some 0) with
  accessFlags := 1537
  interfaces := #[]
  cf := some (fileOf pool5 2 #[] #[] 1537 4 #[] #[])
  fields := #[]
  methods := #[]
  instanceTypes := #[]
  staticTypes := #[]
  resolved := Array.replicate 8 none
  statics := none }

/-- the primitive byte -/
def k6 : Class := { plain "byte" none with kind := .primitive 'B', accessFlags := 0x411 }
/-- [B -/
def k7 : Class := { plain "[B" (some 0) with kind := .array 6 .byte, interfaces := #[4, 5], accessFlags := 1041 }

/-- the primitive int -/
def k8 : Class := { plain "int" none with kind := .primitive 'I', accessFlags := 0x411 }
/-- [I -/
def k9 : Class := { plain "[I" (some 0) with kind := .array 8 .int, interfaces := #[4, 5], accessFlags := 1041 }

def heap : Heap := #[]
def classes : Array Class := #[k0, k1, k2, k3, k4, k5, k6, k7, k8, k9]
def interned : List (Array UInt16 × Addr) := []
def slotsUsed : Nat := 0
def theMethod : MethodId := ⟨1, 1⟩
def args0 : Array Value := #[.int 3, .int 5, .int 4, .int 3]
def aboutOver (below : List Frame) : State where
  vm := { classes := classes, interned := interned.toArray }
  heap := heap
  slotsUsed := slotsUsed
  threads := #[{ frames := .invoking theMethod args0 :: below }]
def below0 : List Frame := [.native { method := ⟨0, 0⟩, args := #[] }]
def about1 : State := aboutOver below0
def p0 : Program := .bare "" "" ""
def e0 : Env := launch0.env 0 0 0
theorem w_frames : about1.frames = Frame.invoking theMethod args0 :: below0 := rfl
set_option maxRecDepth 65536 in
theorem w_args : argsFit about1.vm theMethod args0 = true := by decide +kernel
set_option maxRecDepth 65536 in
theorem w_heap : heapFits about1 = true := by decide +kernel
set_option maxRecDepth 65536 in
theorem w_runnable : about1.curStatus? = some .runnable := by decide +kernel
set_option maxRecDepth 65536 in
theorem w_alone : about1.alone = true := by decide +kernel
set_option maxRecDepth 65536 in
theorem w_named : about1.methodNamed? x = some theMethod := by decide +kernel
set_option maxRecDepth 65536 in
theorem w_hears : about1.hears theMethod below0 = true := by decide +kernel
set_option maxRecDepth 65536 in
theorem w_ripe : about1.ripe theMethod args0 below0 = true := by decide +kernel
theorem w_running : about1.status = .running := rfl
set_option maxRecDepth 65536 in
theorem w_room : about1.hasRoom e0.platform room_1 = true :=
  launch0.hasRoom_least _ room_1 (by decide +kernel) (by decide +kernel) (by decide +kernel) (by decide +kernel) (by decide +kernel) (by decide +kernel)
theorem allAtoms_all (ts : List Jvm.Cond) (a : Array Jvm.Value) (st : Jvm.State) : (allAtoms ts).before a st = ts.all (fun c => c.before a st) := by
  induction ts with
  | nil => rfl
  | cons c t ih =>
    show (Jvm.Cond.and c (allAtoms t)).before a st = _
    rw [Jvm.Cond.before_and, ih, List.all_cons]
def words1 : List Jvm.Cond := Jvm.Cond.code x code maxLocals ret :: tables_1
/-- a 'code' word, met by the world's own term for the bytes: nothing is compared byte by byte -/
theorem code_word {y : MethodName} {bytes : ByteArray} {mx : Nat} {rt : Option FieldType} {a : Array Value} {s : State} {m : MethodId} {meth : Method} {c : Code} (h1 : s.methodNamed? y = some m) (h2 : s.vm.method? m = some meth) (h3 : meth.code = some c) (h4 : c.code = bytes)
    (h5 : (c.maxLocals == mx && c.exceptionTable.isEmpty && decide (c.maxStack ≤ mostOperands) && decide (meth.sig.returnType = rt) && !meth.locks && decide (parseMethodDescriptor y.desc = some meth.sig)) = true) : (Jvm.Cond.code y bytes mx rt).before a s = true := by
  simp only [Bool.and_eq_true, beq_iff_eq, Bool.not_eq_true', decide_eq_true_eq] at h5
  obtain ⟨⟨⟨⟨⟨g1, g2⟩, g3⟩, g4⟩, g5⟩, g6⟩ := h5
  simp [Cond.before, Cond.holds, Cond.value, h1, h2, h3, h4, g1, g2, g3, g4, g5, g6]
def isCode : Jvm.Cond → Bool
  | .code _ _ _ _ => true
  | _ => false
theorem all_split {L : List Jvm.Cond} {P : Jvm.Cond → Bool} (h1 : L.all (fun c => isCode c || P c) = true) (h2 : ∀ c ∈ L.filter isCode, P c = true) : L.all P = true := by
  refine List.all_eq_true.mpr fun c hc => ?_
  have h := List.all_eq_true.mp h1 c hc
  rcases Bool.eq_false_or_eq_true (isCode c) with hi | hi
  · exact h2 c (List.mem_filter.mpr ⟨hc, hi⟩)
  · simpa [hi] using h
set_option maxRecDepth 65536 in
theorem w_c0 : (Jvm.Cond.code x code maxLocals ret).before args0 about1 = true := code_word (m := ⟨1, 1⟩) (meth := k1m1) (c := k1c1) (by decide +kernel) rfl rfl rfl (by decide +kernel)
set_option maxRecDepth 65536 in
theorem w_c1 : (Jvm.Cond.code ({ cls := "com/example/imply/imply/CheckStatistics", name := "<init>", desc := "()V" } : Jvm.MethodName) prog_1_method_1_code (1 : Nat) (Option.none : Option Jvm.ClassFile.FieldType)).before args0 about1 = true := code_word (m := ⟨2, 0⟩) (meth := k2m0) (c := k2c0) (by decide +kernel) rfl rfl rfl (by decide +kernel)
set_option maxRecDepth 65536 in
theorem w_c2 : (Jvm.Cond.code ({ cls := "java/lang/Object", name := "<init>", desc := "()V" } : Jvm.MethodName) object_method_1_code (1 : Nat) (Option.none : Option Jvm.ClassFile.FieldType)).before args0 about1 = true := code_word (m := ⟨0, 0⟩) (meth := k0m0) (c := k0c0) (by decide +kernel) rfl rfl rfl (by decide +kernel)
set_option maxRecDepth 65536 in
theorem w_c3 : (Jvm.Cond.code ({ cls := "com/example/imply/imply/CheckStatistics", name := "add", desc := "(I)V" } : Jvm.MethodName) prog_1_method_2_code (2 : Nat) (Option.none : Option Jvm.ClassFile.FieldType)).before args0 about1 = true := code_word (m := ⟨2, 1⟩) (meth := k2m1) (c := k2c1) (by decide +kernel) rfl rfl rfl (by decide +kernel)
set_option maxRecDepth 65536 in
theorem w_c4 : (Jvm.Cond.code ({ cls := "java/lang/Math", name := "max", desc := "(II)I" } : Jvm.MethodName) jdk_29_method_65_code (2 : Nat) (Option.some Jvm.ClassFile.FieldType.int)).before args0 about1 = true := code_word (m := ⟨3, 1⟩) (meth := k3m1) (c := k3c1) (by decide +kernel) rfl rfl rfl (by decide +kernel)
set_option maxRecDepth 65536 in
theorem w_c5 : (Jvm.Cond.code ({ cls := "com/example/imply/imply/CheckStatistics", name := "checks", desc := "()I" } : Jvm.MethodName) prog_1_method_3_code (1 : Nat) (Option.some Jvm.ClassFile.FieldType.int)).before args0 about1 = true := code_word (m := ⟨2, 2⟩) (meth := k2m2) (c := k2c2) (by decide +kernel) rfl rfl rfl (by decide +kernel)
set_option maxRecDepth 65536 in
theorem w_c6 : (Jvm.Cond.code ({ cls := "com/example/imply/imply/CheckStatistics", name := "maxIndividuals", desc := "()I" } : Jvm.MethodName) prog_1_method_4_code (1 : Nat) (Option.some Jvm.ClassFile.FieldType.int)).before args0 about1 = true := code_word (m := ⟨2, 3⟩) (meth := k2m3) (c := k2c3) (by decide +kernel) rfl rfl rfl (by decide +kernel)
def codes1 : List Jvm.Cond := [Jvm.Cond.code x code maxLocals ret, Jvm.Cond.code ({ cls := "com/example/imply/imply/CheckStatistics", name := "<init>", desc := "()V" } : Jvm.MethodName) prog_1_method_1_code (1 : Nat) (Option.none : Option Jvm.ClassFile.FieldType), Jvm.Cond.code ({ cls := "java/lang/Object", name := "<init>", desc := "()V" } : Jvm.MethodName) object_method_1_code (1 : Nat) (Option.none : Option Jvm.ClassFile.FieldType), Jvm.Cond.code ({ cls := "com/example/imply/imply/CheckStatistics", name := "add", desc := "(I)V" } : Jvm.MethodName) prog_1_method_2_code (2 : Nat) (Option.none : Option Jvm.ClassFile.FieldType), Jvm.Cond.code ({ cls := "java/lang/Math", name := "max", desc := "(II)I" } : Jvm.MethodName) jdk_29_method_65_code (2 : Nat) (Option.some Jvm.ClassFile.FieldType.int), Jvm.Cond.code ({ cls := "com/example/imply/imply/CheckStatistics", name := "checks", desc := "()I" } : Jvm.MethodName) prog_1_method_3_code (1 : Nat) (Option.some Jvm.ClassFile.FieldType.int), Jvm.Cond.code ({ cls := "com/example/imply/imply/CheckStatistics", name := "maxIndividuals", desc := "()I" } : Jvm.MethodName) prog_1_method_4_code (1 : Nat) (Option.some Jvm.ClassFile.FieldType.int)]
set_option maxRecDepth 65536 in
theorem codes_eq : words1.filter isCode = codes1 := rfl
theorem w_codes : ∀ c ∈ words1.filter isCode, c.before args0 about1 = true := by
  rw [codes_eq]
  intro c hc
  simp only [codes1, List.mem_cons, List.not_mem_nil, or_false] at hc
  rcases hc with rfl | rfl | rfl | rfl | rfl | rfl | rfl
  · exact w_c0
  · exact w_c1
  · exact w_c2
  · exact w_c3
  · exact w_c4
  · exact w_c5
  · exact w_c6
set_option maxRecDepth 65536 in
theorem w_t1 : (words1.take 24).all (fun c => isCode c || c.before args0 about1) = true := by decide +kernel
set_option maxRecDepth 65536 in
theorem w_t2 : (words1.drop 24).all (fun c => isCode c || c.before args0 about1) = true := by decide +kernel
theorem w_tables : (allAtoms (Jvm.Cond.code x code maxLocals ret :: tables_1)).before args0 about1 = true := by
  rw [allAtoms_all]
  show words1.all (fun c => c.before args0 about1) = true
  refine all_split ?_ w_codes
  rw [← List.take_append_drop 24 words1, List.all_append, w_t1, w_t2]
  rfl
set_option maxRecDepth 65536 in
theorem w_case : (Jvm.Cond.and given_1 narrow_1).before args0 about1 = true := by decide +kernel
theorem w_applies : (headSpec (Jvm.Cond.code x code maxLocals ret :: tables_1) room_1).applies x e0.platform about1 = true :=
  (Spec.applies_iff w_frames).mpr ⟨w_running, w_runnable, w_alone, w_named, w_hears, w_ripe, w_room, w_tables⟩
theorem atStart : AtStart classFile x code maxLocals ret World_1 tables_1 room_1 Calls_1 rest_1 Pre_1 launch0 p0 e0 about1 theMethod args0 below0 :=
  ⟨lists_1, trivial, launch0.admits_env _ _ _, launch0.least_env, fairChoices_fair.cas, fairChoices_fair.clock, w_frames, w_args, w_heap, w_applies, trivial, trivial, w_case⟩
end start1
theorem witness_1 : WitnessClaimed_1 := ⟨start1.p0, start1.e0, start1.about1, start1.theMethod, start1.args0, start1.below0, start1.atStart⟩
end Jvm.Pilot.@@N@@
