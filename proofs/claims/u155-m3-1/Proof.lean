import JvmDerived
import JvmDerived.Pilot.@@N@@Statement
import JvmDerived.Pilot.@@N@@Code
set_option linter.unusedVariables false
set_option linter.unusedSimpArgs false
@@BLOCK:NumsL.lean.txt@@
namespace Jvm.Pilot.@@N@@
open Jvm Jvm.ClassFile Sem Op Lib Jvm.Free Jvm.Stand Jvm.LawKit Jvm.RoadKit Bundle Jvm.Pilot.@@N@@.Jvm.D
def own_upd (f : Nat → Int32) (j : Nat) (v : Int32) : Nat → Int32 := fun i => if i = j then v else f i
/-- in heap h an array of n ints (bytes) lies at a; place j holds f j -/
def own_arr (ty : FieldType) (Z : State) (h : Heap) (a : Addr) (n : Nat) (f : Nat → Int32) : Prop := ∃ c : Cell, Arr Z h a c ty ∧ c.slots.size = n ∧ ∀ j, j < n → c.slots[j]? = some (.int (f j))
theorem own_arr.lt {ty : FieldType} {Z : State} {h : Heap} {a : Addr} {n : Nat} {f : Nat → Int32} (F : own_arr ty Z h a n f) : a < h.size := by obtain ⟨c, A, -⟩ := F; exact A.lt
theorem own_arr.ext {ty : FieldType} {Z : State} {h h' : Heap} {a : Addr} {n : Nat} {f : Nat → Int32} (F : own_arr ty Z h a n f) (E : Ext h h') : own_arr ty Z h' a n f := by obtain ⟨c, A, r⟩ := F; exact ⟨c, A.ext E, r⟩
theorem own_arr.other {ty : FieldType} {Z : State} {h h' : Heap} {a b : Addr} {sl : Nat} {v : Value} {n : Nat} {f : Nat → Int32} (F : own_arr ty Z h b n f) (W : Wr h h' a sl v) (q : b ≠ a) : own_arr ty Z h' b n f := by obtain ⟨c, A, r⟩ := F; exact ⟨c, A.other W q, r⟩
theorem own_arr.keep {ty : FieldType} {Z : State} {h h' : Heap} {a : Addr} {ws : List Addr} {n : Nat} {f : Nat → Int32} (F : own_arr ty Z h a n f) (K : Keep h h' ws) (q : a ∉ ws) : own_arr ty Z h' a n f := by obtain ⟨c, A, r⟩ := F; exact ⟨c, ⟨K.2.1 a c A.1 q, A.2⟩, r⟩
theorem own_arr.eqv {ty : FieldType} {Z : State} {h : Heap} {a : Addr} {n : Nat} {f g : Nat → Int32} (F : own_arr ty Z h a n f) (q : ∀ j, j < n → g j = f j) : own_arr ty Z h a n g := by obtain ⟨c, A, S, r⟩ := F; exact ⟨c, A, S, fun j hj => by rw [q j hj]; exact r j hj⟩
theorem own_arr.newI {Z : State} {h : Heap} {a : Addr} {k : ClassId} {z : Int32} {n : Nat} (A : Arr Z h a (newA k .int z) .int) (hn : z.toNatClampNeg = n) : own_arr .int Z h a n (fun _ => 0) := ⟨_, A, by rw [sz_new]; exact hn, fun j hj => by
  subst hn
  simp only [newA]
  rw [Array.getElem?_replicate, if_pos hj]
  rfl⟩
theorem own_arr.newB {Z : State} {h : Heap} {a : Addr} {k : ClassId} {z : Int32} {n : Nat} (A : Arr Z h a (newA k .byte z) .byte) (hn : z.toNatClampNeg = n) : own_arr .byte Z h a n (fun _ => 0) := ⟨_, A, by rw [sz_new]; exact hn, fun j hj => by
  subst hn
  simp only [newA]
  rw [Array.getElem?_replicate, if_pos hj]
  rfl⟩
theorem own_arr.set {ty : FieldType} {Z : State} {h h' : Heap} {a : Addr} {c : Cell} {n j : Nat} {f : Nat → Int32} {v : Int32} (A : Arr Z h a c ty) (S : c.slots.size = n) (H : ∀ j, j < n → c.slots[j]? = some (.int (f j))) (W : Wr h h' a j (.int v)) : own_arr ty Z h' a n (own_upd f j v) :=
  ⟨_, A.same W, by rw [sz_set]; exact S, fun i hi => by
    simp only [Cell.setSlot, own_upd]
    by_cases q : i = j
    · subst q
      rw [Array.getElem?_setIfInBounds_self, if_pos (by omega), if_pos rfl]
    · rw [Array.getElem?_setIfInBounds_ne (Ne.symm q), if_neg q]
      exact H i hi⟩
theorem own_inb {c : Cell} {n : Nat} {j : Int32} (S : c.slots.size = n) (q : ¬ (j < 0 ∨ n ≤ j.toNatClampNeg)) : ¬ (j < 0 ∨ c.slots.size ≤ j.toNatClampNeg) := by rw [S]; exact q
theorem own_ltn {j : Int32} {n : Nat} (q : ¬ (j < 0 ∨ n ≤ j.toNatClampNeg)) : j.toNatClampNeg < n := Nat.lt_of_not_le fun k => q (Or.inr k)
theorem own_place {j : Int32} {n : Nat} (h0 : 0 ≤ j.toInt) (h1 : j.toInt < n) : ¬ (j < 0 ∨ n ≤ j.toNatClampNeg) := by
  have e : j.toNatClampNeg = j.toInt.toNat := rfl
  rw [Int32.lt_iff_toInt_lt, e, show (0 : Int32).toInt = 0 from rfl]
  omega
theorem own_sta_keep0 {Z : State} {h h' : Heap} {C n d : String} {v : Value} (F : Sta Z h C n d v) (K : Keep h h' []) : Sta Z h' C n d v := by
  obtain ⟨cf, i, k, f, st, cell, h1, h2, h3, h4, h5, r⟩ := F
  exact ⟨cf, i, k, f, st, cell, h1, h2, h3, h4, K.2.1 st cell h5 List.not_mem_nil, r⟩
theorem own_sta_keep {Z : State} {h h' : Heap} {C n d K' : String} {v : Value} {a : Addr} (F : Sta Z h C n d v) (E : Exa Z h a K') (K : Keep h h' [a]) : Sta Z h' C n d v := by
  obtain ⟨cf, i, k, f, st, cell, h1, h2, h3, h4, h5, h6, r⟩ := F
  obtain ⟨cell', k', q1, q2, q3, q4, q5⟩ := E
  have hne : st ∉ [a] := by
    intro q
    cases List.mem_singleton.mp q
    rw [q1] at h5
    cases h5
    rw [h6] at q4
    cases q4
  exact ⟨cf, i, k, f, st, cell, h1, h2, h3, h4, K.2.1 st cell h5 hne, h6, r⟩
theorem d2_0 : decode jdk_43_method_3_code 0 = .ok (.iload_n 0, 1) := by decide +kernel
theorem d2_1 : decode jdk_43_method_3_code 1 = .ok (.sipush 255, 3) := by decide +kernel
theorem d2_4 : decode jdk_43_method_3_code 4 = .ok (.if_icmp .gt 7, 3) := by decide +kernel
theorem d2_11 : decode jdk_43_method_3_code 11 = .ok (.iconst 0, 1) := by decide +kernel
theorem d2_12 : decode jdk_43_method_3_code 12 = .ok (.ireturn, 1) := by decide +kernel
theorem d2_7 : decode jdk_43_method_3_code 7 = .ok (.iconst 1, 1) := by decide +kernel
theorem d2_8 : decode jdk_43_method_3_code 8 = .ok (.goto 4, 3) := by decide +kernel
theorem ef_2_I (m : MethodId) (x0 : Int32) : entryFrame m #[(.int x0)] 1 = mkF m 0 #[.val (.int x0)] [] := by first | (simp [entryFrame, mkF, argsToLocals, Value.category]; done) | rfl
def own_enc (p1 : Int32) : Int32 := if (255 : Int32) < p1 then (0 : Int32) else (1 : Int32)
def Q2 (p1 : Int32) (h0 : Heap) (n0 : Nat) (v : Option Value) (h : Heap) (L : List Loc) : Prop := v = some (.int (own_enc p1)) ∧ Fr n0 L ∧ h = h0
theorem pn_2 : plainName "java/lang/StringLatin1" = true := by first | (simp [plainName, overriddenIn]; done) | decide +kernel
set_option maxRecDepth 65536 in
set_option maxHeartbeats 40000000 in
theorem rm2 (l : Launch) (Z : State) (a0 : Array Value) (hw : ∀ d ∈ tables_1, d.before a0 Z = true) (ws : List Jvm.Cond) (p1 : Int32) (h0 : Heap) (n0 : Nat) (Z0 : n0 ≤ h0.size)  :
    MetFree l (⟨"java/lang/StringLatin1", "canEncode", "(C)Z"⟩ : MethodName) (head1 (Jvm.Cond.code (⟨"java/lang/StringLatin1", "canEncode", "(C)Z"⟩ : MethodName) jdk_43_method_3_code 1 (some .boolean) :: ws) ({ frames := 0, cells := 0, slots := 0, locals := 0 } : Room)) (fun a U => a = #[(.int p1)] ∧ Z.Warmed39 U.vm ∧ U.heap = h0) (fun _ _ _ _ _ => True) (fun _ U o U' => ∃ v L, o = .returned v ∧ Q2 p1 h0 n0 v U'.heap L ∧ FrameEnd U o U' L ({ frames := 0, cells := 0, slots := 0, locals := 0 } : Room).cells ({ frames := 0, cells := 0, slots := 0, locals := 0 } : Room).slots) := by
  refine MetFree.of_bodySF (plainFor_of_name pn_2) hisR ?_
  intro p e s m args below meth c s₁ Bd hml0 hP hK
  obtain ⟨rfl, hZ, hh⟩ := hP
  have hx := Bd.exec
  have hby := Bd.bytes
  have hml : c.maxLocals = 1 := hml0
  have hown : s.vm.findClass "java/lang/StringLatin1" = some m.cls := findClass_of_methodNamed Bd.named
  have hnm := (name_of_methodNamed Bd.named Bd.method).1
  have X0 : Stand p l e ({ frames := 0, cells := 0, slots := 0, locals := 0 } : Room) s m #[(.int p1)] below meth c s₁ [] 0 0 := Stand.of_body Bd
  have e0 : s₁.heap = h0 := by rw [← hh, Bd.state]; rfl
  have N0 := Fr.nil n0
  have pre0 : ∀ t, Steps p.tables e below (s₁.setTop (mkF m 0 #[.val (.int p1)] [])) t → Steps p.tables e below (s₁.setTop (entryFrame m #[(.int p1)] 1)) t := fun t k => castTop (ef_2_I m p1) k
  have pr_1 : ∀ t, Steps p.tables e below (s₁.setTop (mkF m 4 #[.val (.int p1)] [(.int (255 : Int32)), (.int p1)])) t → Steps p.tables e below (s₁.setTop (entryFrame m #[(.int p1)] 1)) t := fun t k => by
    refine pre0 _ ?_
    show Steps p.tables e below (s₁.setTop (mkF m 0 #[.val (.int p1)] [])) _
    refine XS.iloadN X0.here hx rfl (hb hby d2_0) rfl ?_
    show Steps p.tables e below (s₁.setTop (mkF m 1 #[.val (.int p1)] [(.int p1)])) _
    refine XS.sipush X0.here hx rfl (hb hby d2_1) ?_
    exact k
  by_cases hc_2 : (255 : Int32) < p1
  · obtain ⟨fs, hr, hrun, hended, hW, hsame⟩ := X0.leave (v := some (.int (0 : Int32))) (fun h => by rw [Bd.returns] at h; cases h)
    refine ⟨_, _, pr_1 _ ?_, hrun, hended, _, _, rfl, ?_, ⟨_, rfl⟩, hW, hsame.mono (by decide) (by decide)⟩
    · show Steps p.tables e below (s₁.setTop (mkF m 4 #[.val (.int p1)] [(.int (255 : Int32)), (.int p1)])) _
      refine XS.icmpYes X0.here hx rfl (pc0 := 4) (pc' := 11) rfl (hb hby d2_4) rfl (tlt hc_2).2.2.1 (by decide) (by decide) ?_
      show Steps p.tables e below (s₁.setTop (mkF m 11 #[.val (.int p1)] [])) _
      refine XS.iconst X0.here hx rfl (hb hby d2_11) ?_
      show Steps p.tables e below (s₁.setTop (mkF m 12 #[.val (.int p1)] [(.int (0 : Int32))])) _
      exact retN X0 hx (t := .boolean) Bd.returns (by simp) (hb hby d2_12) hr
    · show Q2 p1 h0 n0 _ s₁.heap _
      rw [e0]
      exact ⟨by rw [own_enc, if_pos hc_2], N0, rfl⟩
  · obtain ⟨fs, hr, hrun, hended, hW, hsame⟩ := X0.leave (v := some (.int (1 : Int32))) (fun h => by rw [Bd.returns] at h; cases h)
    refine ⟨_, _, pr_1 _ ?_, hrun, hended, _, _, rfl, ?_, ⟨_, rfl⟩, hW, hsame.mono (by decide) (by decide)⟩
    · show Steps p.tables e below (s₁.setTop (mkF m 4 #[.val (.int p1)] [(.int (255 : Int32)), (.int p1)])) _
      refine XS.icmpNo X0.here hx rfl (hb hby d2_4) rfl (flt hc_2).2.2.1 ?_
      show Steps p.tables e below (s₁.setTop (mkF m 7 #[.val (.int p1)] [])) _
      refine XS.iconst X0.here hx rfl (hb hby d2_7) ?_
      show Steps p.tables e below (s₁.setTop (mkF m 8 #[.val (.int p1)] [(.int (1 : Int32))])) _
      refine XS.goto X0.here hx rfl (pc0 := 8) (pc' := 12) rfl (hb hby d2_8) (by decide) (by decide) ?_
      show Steps p.tables e below (s₁.setTop (mkF m 12 #[.val (.int p1)] [(.int (1 : Int32))])) _
      exact retN X0 hx (t := .boolean) Bd.returns (by simp) (hb hby d2_12) hr
    · show Q2 p1 h0 n0 _ s₁.heap _
      rw [e0]
      exact ⟨by rw [own_enc, if_neg hc_2], N0, rfl⟩
theorem own_ch (y : Int32) : own_enc ((y &&& (255 : Int32)).toUInt32.toUInt16.toUInt32.toInt32) = 1 := by
  have e1 : (y &&& (255 : Int32)).toBitVec.toNat < 256 := by
    show (y.toBitVec &&& 255#32).toNat < 256
    rw [BitVec.toNat_and]
    exact Nat.lt_of_le_of_lt Nat.and_le_right (by decide)
  have hb : ((y &&& (255 : Int32)).toUInt32.toUInt16.toUInt32.toInt32).toBitVec = ((y &&& (255 : Int32)).toBitVec.setWidth 16).setWidth 32 := rfl
  have e2 : ((y &&& (255 : Int32)).toUInt32.toUInt16.toUInt32.toInt32).toBitVec.toNat < 256 := by
    rw [hb, BitVec.toNat_setWidth, BitVec.toNat_setWidth]
    exact Nat.lt_of_le_of_lt (Nat.mod_le _ _) (Nat.lt_of_le_of_lt (Nat.mod_le _ _) e1)
  have e3 : ((y &&& (255 : Int32)).toUInt32.toUInt16.toUInt32.toInt32).toInt = ((y &&& (255 : Int32)).toUInt32.toUInt16.toUInt32.toInt32).toBitVec.toNat := BitVec.toInt_eq_toNat_of_lt (by omega)
  have k : (255 : Int32).toInt = 255 := rfl
  rw [own_enc, if_neg]
  rw [Int32.lt_iff_toInt_lt]
  omega
theorem own_ch1 (p2 : Int32) : own_enc (((p2 &&& (255 : Int32)).toUInt32.toUInt16.toUInt32.toInt32)) = 1 := own_ch p2
theorem own_ch2 (p2 : Int32) : own_enc ((((((p2.toUInt32 >>> ((8 : Int32) &&& 31).toUInt32).toInt32) &&& (255 : Int32)).toUInt32.toUInt16.toUInt32.toInt32))) = 1 := own_ch _
theorem d3_0 : decode jdk_43_method_46_code 0 = .ok (.iconst 1, 1) := by decide +kernel
theorem d3_1 : decode jdk_43_method_46_code 1 = .ok (.newarray .byte, 2) := by decide +kernel
theorem d3_3 : decode jdk_43_method_46_code 3 = .ok (.dup, 1) := by decide +kernel
theorem d3_4 : decode jdk_43_method_46_code 4 = .ok (.iconst 0, 1) := by decide +kernel
theorem d3_5 : decode jdk_43_method_46_code 5 = .ok (.iload_n 0, 1) := by decide +kernel
theorem d3_6 : decode jdk_43_method_46_code 6 = .ok (.i2b, 1) := by decide +kernel
theorem d3_7 : decode jdk_43_method_46_code 7 = .ok (.bastore, 1) := by decide +kernel
theorem d3_8 : decode jdk_43_method_46_code 8 = .ok (.areturn, 1) := by decide +kernel
theorem ef_3_I (m : MethodId) (x0 : Int32) : entryFrame m #[(.int x0)] 1 = mkF m 0 #[.val (.int x0)] [] := by first | (simp [entryFrame, mkF, argsToLocals, Value.category]; done) | rfl
def Q3 (Z : State) (p1 : Int32) (h0 : Heap) (n0 : Nat) (v : Option Value) (h : Heap) (L : List Loc) : Prop := ∃ r, v = some (.ref r) ∧ Fr n0 L ∧ Keep h0 h []
theorem pn_3 : plainName "java/lang/StringLatin1" = true := by first | (simp [plainName, overriddenIn]; done) | decide +kernel
set_option maxRecDepth 65536 in
set_option maxHeartbeats 40000000 in
theorem rm3 (l : Launch) (Z : State) (a0 : Array Value) (hw : ∀ d ∈ tables_1, d.before a0 Z = true) (ws : List Jvm.Cond) (p1 : Int32) (h0 : Heap) (n0 : Nat) (Z0 : n0 ≤ h0.size)  :
    MetFree l (⟨"java/lang/StringLatin1", "toBytes", "(C)[B"⟩ : MethodName) (head1 (Jvm.Cond.code (⟨"java/lang/StringLatin1", "toBytes", "(C)[B"⟩ : MethodName) jdk_43_method_46_code 1 (some (.array .byte)) :: ws) ({ frames := 0, cells := 1, slots := 1, locals := 0 } : Room)) (fun a U => a = #[(.int p1)] ∧ Z.Warmed39 U.vm ∧ U.heap = h0) (fun _ _ _ _ _ => True) (fun _ U o U' => ∃ v L, o = .returned v ∧ Q3 Z p1 h0 n0 v U'.heap L ∧ FrameEnd U o U' L ({ frames := 0, cells := 1, slots := 1, locals := 0 } : Room).cells ({ frames := 0, cells := 1, slots := 1, locals := 0 } : Room).slots) := by
  refine MetFree.of_bodySF (plainFor_of_name pn_3) hisR ?_
  intro p e s m args below meth c s₁ Bd hml0 hP hK
  obtain ⟨rfl, hZ, hh⟩ := hP
  have hx := Bd.exec
  have hby := Bd.bytes
  have hml : c.maxLocals = 1 := hml0
  have hown : s.vm.findClass "java/lang/StringLatin1" = some m.cls := findClass_of_methodNamed Bd.named
  have hnm := (name_of_methodNamed Bd.named Bd.method).1
  have X0 : Stand p l e ({ frames := 0, cells := 1, slots := 1, locals := 0 } : Room) s m #[(.int p1)] below meth c s₁ [] 0 0 := Stand.of_body Bd
  have e0 : s₁.heap = h0 := by rw [← hh, Bd.state]; rfl
  have N0 := Fr.nil n0
  have pre0 : ∀ t, Steps p.tables e below (s₁.setTop (mkF m 0 #[.val (.int p1)] [])) t → Steps p.tables e below (s₁.setTop (entryFrame m #[(.int p1)] 1)) t := fun t k => castTop (ef_3_I m p1) k
  obtain ⟨T_1, h_1, k_1, X_1, e_1, E_1, A_1, st_1⟩ := newP X0 hx hZ (hw _ (List.mem_of_getElem? (i := 17) rfl)) e0 (g := (mkF m 1 #[.val (.int p1)] [(.int (1 : Int32))])) rfl (hb hby d3_1) rfl (by decide) (cap := 1) (by decide) (by decide) (by decide) (by decide)
  obtain ⟨b_1, g_1⟩ : ∃ z, z = h0.size := ⟨_, rfl⟩
  rw [← g_1] at A_1 st_1
  have g_b_1 : n0 ≤ b_1 := Nat.le_trans Z0 (Nat.le_of_eq g_1.symm)
  have sz_b_1 : h0.size ≤ b_1 := Nat.le_trans ((Keep.refl h0 [])).1 (Nat.le_of_eq g_1.symm)
  have Z_1 : n0 ≤ h_1.size := Nat.le_trans Z0 E_1.1
  have K_1 : Keep h0 h_1 [] := (Keep.refl h0 []).ext E_1
  have fa_1 : own_arr .byte Z h_1 b_1 1 (fun _ => 0) := own_arr.newB A_1 rfl
  obtain ⟨cl_2, Ar_2, Sz_2, At_2⟩ := fa_1
  obtain ⟨T_2, h_2, X_2, e_2, W_2, st_2⟩ := stB X_1 hx hZ e_1 Ar_2 (j := (0 : Int32)) (own_inb Sz_2 (by decide)) (g := (mkF m 7 #[.val (.int p1)] [(.int (p1.toInt8.toInt32)), (.int (0 : Int32)), (.ref b_1), (.ref b_1)])) rfl rfl (hb hby d3_7)
  have N_2 := Fr.snoc X_2 N0 g_b_1
  have fw_2 : own_arr .byte Z h_2 b_1 1 (own_upd (fun _ => 0) 0 (nar .byte (p1.toInt8.toInt32))) := own_arr.set Ar_2 Sz_2 At_2 W_2
  have Z_2 : n0 ≤ h_2.size := Nat.le_trans Z_1 (Keep.of_wr W_2).1
  have K_2 : Keep h0 h_2 [] := K_1.wr W_2 (Or.inr sz_b_1)
  obtain ⟨fs, hr, hrun, hended, hW, hsame⟩ := X_2.leave (v := some (.ref b_1)) (fun h => by rw [Bd.returns] at h; cases h)
  refine ⟨_, _, pre0 _ ?_, hrun, hended, _, _, rfl, ?_, ⟨_, rfl⟩, hW, hsame.mono (by decide) (by decide)⟩
  · show Steps p.tables e below (s₁.setTop (mkF m 0 #[.val (.int p1)] [])) _
    refine XS.iconst X0.here hx rfl (hb hby d3_0) ?_
    show Steps p.tables e below (s₁.setTop (mkF m 1 #[.val (.int p1)] [(.int (1 : Int32))])) _
    refine st_1 _ ?_
    show Steps p.tables e below (T_1.setTop (mkF m 3 #[.val (.int p1)] [(.ref b_1)])) _
    refine XS.dup X_1.here hx rfl (hb hby d3_3) rfl rfl ?_
    show Steps p.tables e below (T_1.setTop (mkF m 4 #[.val (.int p1)] [(.ref b_1), (.ref b_1)])) _
    refine XS.iconst X_1.here hx rfl (hb hby d3_4) ?_
    show Steps p.tables e below (T_1.setTop (mkF m 5 #[.val (.int p1)] [(.int (0 : Int32)), (.ref b_1), (.ref b_1)])) _
    refine XS.iloadN X_1.here hx rfl (hb hby d3_5) rfl ?_
    show Steps p.tables e below (T_1.setTop (mkF m 6 #[.val (.int p1)] [(.int p1), (.int (0 : Int32)), (.ref b_1), (.ref b_1)])) _
    refine XS.i2b X_1.here hx rfl (hb hby d3_6) rfl ?_
    show Steps p.tables e below (T_1.setTop (mkF m 7 #[.val (.int p1)] [(.int (p1.toInt8.toInt32)), (.int (0 : Int32)), (.ref b_1), (.ref b_1)])) _
    refine st_2 _ ?_
    show Steps p.tables e below (T_2.setTop (mkF m 8 #[.val (.int p1)] [(.ref b_1)])) _
    exact retOut X_2 hx Bd.returns rfl (Or.inr (Or.inr (Or.inr (Or.inr ⟨rfl, rfl, rfl⟩)))) (hb hby d3_8) hr
  · show Q3 Z p1 h0 n0 _ T_2.heap _
    rw [e_2]
    exact ⟨b_1, rfl, N_2, K_2⟩
theorem d4_0 : decode jdk_42_method_151_code 0 = .ok (.aload_n 0, 1) := by decide +kernel
theorem d4_1 : decode jdk_42_method_151_code 1 = .ok (.invokespecial 1, 3) := by decide +kernel
theorem d4_4 : decode jdk_42_method_151_code 4 = .ok (.aload_n 0, 1) := by decide +kernel
theorem d4_5 : decode jdk_42_method_151_code 5 = .ok (.aload_n 1, 1) := by decide +kernel
theorem d4_6 : decode jdk_42_method_151_code 6 = .ok (.putfield 9, 3) := by decide +kernel
theorem d4_9 : decode jdk_42_method_151_code 9 = .ok (.aload_n 0, 1) := by decide +kernel
theorem d4_10 : decode jdk_42_method_151_code 10 = .ok (.iload_n 2, 1) := by decide +kernel
theorem d4_11 : decode jdk_42_method_151_code 11 = .ok (.putfield 15, 3) := by decide +kernel
theorem d4_14 : decode jdk_42_method_151_code 14 = .ok (.return_, 1) := by decide +kernel
theorem ef_4_RRI (m : MethodId) (x0 : Addr) (x1 : Addr) (x2 : Int32) : entryFrame m #[(.ref x0), (.ref x1), (.int x2)] 3 = mkF m 0 #[.val (.ref x0), .val (.ref x1), .val (.int x2)] [] := by first | (simp [entryFrame, mkF, argsToLocals, Value.category]; done) | rfl
def Q4 (Z : State) (a1 : Addr) (a2 : Addr) (p3 : Int32) (h0 : Heap) (n0 : Nat) (v : Option Value) (h : Heap) (L : List Loc) : Prop := v = none ∧ Fr n0 L ∧ Keep h0 h [a1]
theorem pn_4 : plainName "java/lang/String" = true := by first | (simp [plainName, overriddenIn]; done) | decide +kernel
set_option maxRecDepth 65536 in
set_option maxHeartbeats 40000000 in
theorem rm4 (l : Launch) (Z : State) (a0 : Array Value) (hw : ∀ d ∈ tables_1, d.before a0 Z = true) (ws : List Jvm.Cond) (a1 : Addr) (a2 : Addr) (p3 : Int32) (h0 : Heap) (n0 : Nat) (Z0 : n0 ≤ h0.size) (g_a1 : n0 ≤ a1) (F0 : Exa Z h0 a1 "java/lang/String") (F1 : Fld Z h0 a1 "java/lang/String" "value" "[B" .null) (F2 : Fld Z h0 a1 "java/lang/String" "coder" "B" (.int (0 : Int32))) :
    MetFree l (⟨"java/lang/String", "<init>", "([BB)V"⟩ : MethodName) (head1 (Jvm.Cond.code (⟨"java/lang/String", "<init>", "([BB)V"⟩ : MethodName) jdk_42_method_151_code 3 none :: ws) ({ frames := 1, cells := 0, slots := 0, locals := 12 } : Room)) (fun a U => a = #[(.ref a1), (.ref a2), (.int p3)] ∧ Z.Warmed39 U.vm ∧ U.heap = h0) (fun _ _ _ _ _ => True) (fun _ U o U' => ∃ v L, o = .returned v ∧ Q4 Z a1 a2 p3 h0 n0 v U'.heap L ∧ FrameEnd U o U' L ({ frames := 1, cells := 0, slots := 0, locals := 12 } : Room).cells ({ frames := 1, cells := 0, slots := 0, locals := 12 } : Room).slots) := by
  refine MetFree.of_bodySF (plainFor_of_name pn_4) hisR ?_
  intro p e s m args below meth c s₁ Bd hml0 hP hK
  obtain ⟨rfl, hZ, hh⟩ := hP
  have hx := Bd.exec
  have hby := Bd.bytes
  have hml : c.maxLocals = 3 := hml0
  have hown : s.vm.findClass "java/lang/String" = some m.cls := findClass_of_methodNamed Bd.named
  have hnm := (name_of_methodNamed Bd.named Bd.method).1
  have X0 : Stand p l e ({ frames := 1, cells := 0, slots := 0, locals := 12 } : Room) s m #[(.ref a1), (.ref a2), (.int p3)] below meth c s₁ [] 0 0 := Stand.of_body Bd
  have e0 : s₁.heap = h0 := by rw [← hh, Bd.state]; rfl
  have N0 := Fr.nil n0
  have pre0 : ∀ t, Steps p.tables e below (s₁.setTop (mkF m 0 #[.val (.ref a1), .val (.ref a2), .val (.int p3)] [])) t → Steps p.tables e below (s₁.setTop (entryFrame m #[(.ref a1), (.ref a2), (.int p3)] 3)) t := fun t k => castTop (ef_4_RRI m a1 a2 p3) k
  obtain ⟨T_1, X_1, e_1, st_1⟩ := initO X0 hx hZ hown (hw _ (List.mem_of_getElem? (i := 22) rfl)) (hw _ (List.mem_of_getElem? (i := 23) rfl)) (hw _ (List.mem_of_getElem? (i := 24) rfl)) e0 (g := (mkF m 1 #[.val (.ref a1), .val (.ref a2), .val (.int p3)] [(.ref a1)])) rfl (by rw [hml]; rfl) rfl (hb hby d4_1) (by decide) (W := 0) (by show 2 * 0 + _ ≤ _; exact Nat.le_of_eq rfl) (by decide)
  obtain ⟨T_2, h_2, X_2, e_2, W_2, st_2⟩ := putF X_1 hx hZ hown (host := "") (Or.inl (hw _ (List.mem_of_getElem? (i := 25) rfl))) Via.refl e_1 F1 F0 (Or.inr ⟨(hw _ (List.mem_of_getElem? (i := 26) rfl)), rfl, hnm⟩) (hw _ (List.mem_of_getElem? (i := 13) rfl)) (ty := (.array .byte)) (by decide) rfl rfl (g := (mkF m 6 #[.val (.ref a1), .val (.ref a2), .val (.int p3)] [(.ref a2), (.ref a1)])) rfl rfl (hb hby d4_6)
  have N_2 := Fr.snoc X_2 N0 g_a1
  have fw_2 : Fld Z h_2 a1 "java/lang/String" "value" "[B" (.ref a2) := F1.same W_2
  have f_2_0 : Exa Z h_2 a1 "java/lang/String" := F0.wr W_2
  have f_2_2 : Fld Z h_2 a1 "java/lang/String" "coder" "B" (.int (0 : Int32)) := F2.other W_2 (Or.inr (slot_ne (Or.inr (hw _ (List.mem_of_getElem? (i := 28) rfl))) (Or.inr (hw _ (List.mem_of_getElem? (i := 26) rfl))) (by decide) (t := .byte) (t' := (.array .byte)) (by decide) (by decide)))
  have Z_2 : n0 ≤ h_2.size := Nat.le_trans Z0 (Keep.of_wr W_2).1
  have K_2 : Keep h0 h_2 [a1] := (Keep.refl h0 [a1]).wr W_2 (Or.inl (List.mem_of_getElem? (i := 0) rfl))
  obtain ⟨T_3, h_3, X_3, e_3, W_3, st_3⟩ := putFN X_2 hx hZ hown (hw _ (List.mem_of_getElem? (i := 27) rfl)) Via.refl e_2 f_2_2 f_2_0 (Or.inr ⟨(hw _ (List.mem_of_getElem? (i := 28) rfl)), rfl, hnm⟩) (hw _ (List.mem_of_getElem? (i := 13) rfl)) (ty := .byte) (v' := (.int (nar .byte p3))) (by decide) rfl (fits_nar_byte _) (g := (mkF m 11 #[.val (.ref a1), .val (.ref a2), .val (.int p3)] [(.int p3), (.ref a1)])) rfl rfl (hb hby d4_11)
  have N_3 := Fr.snoc X_3 N_2 g_a1
  have fw_3 : Fld Z h_3 a1 "java/lang/String" "coder" "B" (.int (nar .byte p3)) := f_2_2.same W_3
  have f_3_0 : Exa Z h_3 a1 "java/lang/String" := f_2_0.wr W_3
  have f_3_2 : Fld Z h_3 a1 "java/lang/String" "value" "[B" (.ref a2) := fw_2.other W_3 (Or.inr (slot_ne (Or.inr (hw _ (List.mem_of_getElem? (i := 26) rfl))) (Or.inr (hw _ (List.mem_of_getElem? (i := 28) rfl))) (by decide) (t := (.array .byte)) (t' := .byte) (by decide) (by decide)))
  have Z_3 : n0 ≤ h_3.size := Nat.le_trans Z_2 (Keep.of_wr W_3).1
  have K_3 : Keep h0 h_3 [a1] := K_2.wr W_3 (Or.inl (List.mem_of_getElem? (i := 0) rfl))
  obtain ⟨fs, hr, hrun, hended, hW, hsame⟩ := X_3.leave (v := none) (fun _ => rfl)
  refine ⟨_, _, pre0 _ ?_, hrun, hended, _, _, rfl, ?_, ⟨_, rfl⟩, hW, hsame.mono (by decide) (by decide)⟩
  · show Steps p.tables e below (s₁.setTop (mkF m 0 #[.val (.ref a1), .val (.ref a2), .val (.int p3)] [])) _
    refine XS.aloadN X0.here hx rfl (hb hby d4_0) rfl rfl ?_
    show Steps p.tables e below (s₁.setTop (mkF m 1 #[.val (.ref a1), .val (.ref a2), .val (.int p3)] [(.ref a1)])) _
    refine st_1 _ ?_
    show Steps p.tables e below (T_1.setTop (mkF m 4 #[.val (.ref a1), .val (.ref a2), .val (.int p3)] [])) _
    refine XS.aloadN X_1.here hx rfl (hb hby d4_4) rfl rfl ?_
    show Steps p.tables e below (T_1.setTop (mkF m 5 #[.val (.ref a1), .val (.ref a2), .val (.int p3)] [(.ref a1)])) _
    refine XS.aloadN X_1.here hx rfl (hb hby d4_5) rfl rfl ?_
    show Steps p.tables e below (T_1.setTop (mkF m 6 #[.val (.ref a1), .val (.ref a2), .val (.int p3)] [(.ref a2), (.ref a1)])) _
    refine st_2 _ ?_
    show Steps p.tables e below (T_2.setTop (mkF m 9 #[.val (.ref a1), .val (.ref a2), .val (.int p3)] [])) _
    refine XS.aloadN X_2.here hx rfl (hb hby d4_9) rfl rfl ?_
    show Steps p.tables e below (T_2.setTop (mkF m 10 #[.val (.ref a1), .val (.ref a2), .val (.int p3)] [(.ref a1)])) _
    refine XS.iloadN X_2.here hx rfl (hb hby d4_10) rfl ?_
    show Steps p.tables e below (T_2.setTop (mkF m 11 #[.val (.ref a1), .val (.ref a2), .val (.int p3)] [(.int p3), (.ref a1)])) _
    refine st_3 _ ?_
    show Steps p.tables e below (T_3.setTop (mkF m 14 #[.val (.ref a1), .val (.ref a2), .val (.int p3)] [])) _
    exact X_3.returnOut hx Bd.returns (hb hby d4_14) hr
  · show Q4 Z a1 a2 p3 h0 n0 _ T_3.heap _
    rw [e_3]
    exact ⟨rfl, N_3, K_3⟩
theorem d1_0 : decode jdk_42_method_139_code 0 = .ok (.getstatic 38, 3) := by decide +kernel
theorem d1_3 : decode jdk_42_method_139_code 3 = .ok (.ifCond .eq 23, 3) := by decide +kernel
theorem d1_6 : decode jdk_42_method_139_code 6 = .ok (.iload_n 0, 1) := by decide +kernel
theorem pd_1 : parseMethodDescriptor "(C)Z" = some ⟨[.char], some .boolean⟩ := by decide +kernel
theorem d1_7 : decode jdk_42_method_139_code 7 = .ok (.invokestatic 1015, 3) := by decide +kernel
theorem d1_10 : decode jdk_42_method_139_code 10 = .ok (.ifCond .eq 16, 3) := by decide +kernel
theorem d1_13 : decode jdk_42_method_139_code 13 = .ok (.new 10, 3) := by decide +kernel
theorem d1_16 : decode jdk_42_method_139_code 16 = .ok (.dup, 1) := by decide +kernel
theorem d1_17 : decode jdk_42_method_139_code 17 = .ok (.iload_n 0, 1) := by decide +kernel
theorem pd_2 : parseMethodDescriptor "(C)[B" = some ⟨[.char], some (.array .byte)⟩ := by decide +kernel
theorem d1_18 : decode jdk_42_method_139_code 18 = .ok (.invokestatic 1018, 3) := by decide +kernel
theorem d1_21 : decode jdk_42_method_139_code 21 = .ok (.iconst 0, 1) := by decide +kernel
theorem d1_22 : decode jdk_42_method_139_code 22 = .ok (.invokespecial 209, 3) := by decide +kernel
theorem pd_3 : parseMethodDescriptor "([BB)V" = some ⟨[(.array .byte), .byte], none⟩ := by decide +kernel
theorem d1_25 : decode jdk_42_method_139_code 25 = .ok (.areturn, 1) := by decide +kernel
theorem ef_1_I (m : MethodId) (x0 : Int32) : entryFrame m #[(.int x0)] 1 = mkF m 0 #[.val (.int x0)] [] := by first | (simp [entryFrame, mkF, argsToLocals, Value.category]; done) | rfl
def Q1 (Z : State) (p1 : Int32) (w9 : Int32) (h0 : Heap) (n0 : Nat) (v : Option Value) (h : Heap) (L : List Loc) : Prop := ∃ r, v = some (.ref r) ∧ Fr n0 L ∧ Keep h0 h []
theorem pn_1 : plainName "java/lang/String" = true := by first | (simp [plainName, overriddenIn]; done) | decide +kernel
set_option maxRecDepth 65536 in
set_option maxHeartbeats 40000000 in
theorem rm1 (l : Launch) (Z : State) (a0 : Array Value) (hw : ∀ d ∈ tables_1, d.before a0 Z = true) (ws : List Jvm.Cond) (p1 : Int32) (w9 : Int32) (h0 : Heap) (n0 : Nat) (Z0 : n0 ≤ h0.size) (F0 : Sta Z h0 "java/lang/String" "COMPACT_STRINGS" "Z" (.int w9)) (hw9 : ¬ (w9 = (0 : Int32))) (hen : own_enc p1 = 1) :
    MetFree l (⟨"java/lang/String", "valueOf", "(C)Ljava/lang/String;"⟩ : MethodName) (head1 (Jvm.Cond.code (⟨"java/lang/String", "valueOf", "(C)Ljava/lang/String;"⟩ : MethodName) jdk_42_method_139_code 1 (some (.object "java/lang/String")) :: ws) ({ frames := 2, cells := 2, slots := 5, locals := 27 } : Room)) (fun a U => a = #[(.int p1)] ∧ Z.Warmed39 U.vm ∧ U.heap = h0) (fun _ _ _ _ _ => True) (fun _ U o U' => ∃ v L, o = .returned v ∧ Q1 Z p1 w9 h0 n0 v U'.heap L ∧ FrameEnd U o U' L ({ frames := 2, cells := 2, slots := 5, locals := 27 } : Room).cells ({ frames := 2, cells := 2, slots := 5, locals := 27 } : Room).slots) := by
  refine MetFree.of_bodySF (plainFor_of_name pn_1) hisR ?_
  intro p e s m args below meth c s₁ Bd hml0 hP hK
  obtain ⟨rfl, hZ, hh⟩ := hP
  have hx := Bd.exec
  have hby := Bd.bytes
  have hml : c.maxLocals = 1 := hml0
  have hown : s.vm.findClass "java/lang/String" = some m.cls := findClass_of_methodNamed Bd.named
  have hnm := (name_of_methodNamed Bd.named Bd.method).1
  have X0 : Stand p l e ({ frames := 2, cells := 2, slots := 5, locals := 27 } : Room) s m #[(.int p1)] below meth c s₁ [] 0 0 := Stand.of_body Bd
  have e0 : s₁.heap = h0 := by rw [← hh, Bd.state]; rfl
  have N0 := Fr.nil n0
  have pre0 : ∀ t, Steps p.tables e below (s₁.setTop (mkF m 0 #[.val (.int p1)] [])) t → Steps p.tables e below (s₁.setTop (entryFrame m #[(.int p1)] 1)) t := fun t k => castTop (ef_1_I m p1) k
  obtain ⟨T_1, X_1, e_1, st_1⟩ := getS2 X0 hx hZ hown (host := "") (Or.inl (hw _ (List.mem_of_getElem? (i := 7) rfl))) Via.refl e0 F0 (g := (mkF m 0 #[.val (.int p1)] [])) rfl (hb hby d1_0)
  obtain ⟨_, _, ⟨T_2, L_2, k_2, n_2⟩, -, X_2, ⟨Lc_2, hQ_2, l_2, y_2, z_2⟩, st_2⟩ := Jvm.LawKit.callS X_1 hx (y := (⟨"java/lang/StringLatin1", "canEncode", "(C)Z"⟩ : MethodName)) hown (mvT hZ (hw _ (List.mem_of_getElem? (i := 8) rfl))) (mvT hZ (hw _ (List.mem_of_getElem? (i := 9) rfl))) (mvT hZ (hw _ (List.mem_of_getElem? (i := 10) rfl))) (mvT hZ (hw _ (List.mem_of_getElem? (i := 11) rfl))) (by decide) (backOf (W := 0) (rm2 l Z a0 hw [] p1 h0 n0 Z0) hZ (hw _ (List.mem_of_getElem? (i := 11) rfl)) (hw _ (List.mem_of_getElem? (i := 10) rfl)) (by decide) (by decide)) (g := (mkF m 7 #[.val (.int p1)] [(.int p1)])) rfl (by rw [hml]; rfl) (argsL := [(.int p1)]) (rest := []) (lenOf pd_1 rfl) rfl (by show 2 * 0 + _ ≤ _; exact Nat.le_of_eq rfl) (hb hby d1_7) (fun _ _ => ⟨rfl, e_1, (by decide : 0 + 0 ≤ _), (by decide : 0 + 0 ≤ _)⟩)
  dsimp only [Pt.U, Pt.locs, Pt.cells, Pt.slots] at X_2 l_2 y_2 z_2 st_2 hQ_2
  subst l_2 y_2 z_2
  obtain ⟨rfl, N_2q, e_2⟩ := hQ_2
  have N_2 := Fr.app N0 N_2q
  obtain ⟨T_3, h_3, X_3, e_3, E_3, A_3, D_3, -, st_3⟩ := newO X_2 hx hZ hown (hw _ (List.mem_of_getElem? (i := 12) rfl)) (hw _ (List.mem_of_getElem? (i := 13) rfl)) (hw _ (List.mem_of_getElem? (i := 5) rfl)) e_2 (g := (mkF m 13 #[.val (.int p1)] [])) rfl (hb hby d1_13) (by decide) (by decide)
  obtain ⟨b_3, g_3⟩ : ∃ z, z = h0.size := ⟨_, rfl⟩
  rw [← g_3] at A_3 D_3 st_3
  have g_b_3 : n0 ≤ b_3 := Nat.le_trans Z0 (Nat.le_of_eq g_3.symm)
  have sz_b_3 : h0.size ≤ b_3 := Nat.le_trans ((Keep.refl h0 [])).1 (Nat.le_of_eq g_3.symm)
  have f_3_0 : Sta Z h_3 "java/lang/String" "COMPACT_STRINGS" "Z" (.int w9) := F0.ext E_3
  have Z_3 : n0 ≤ h_3.size := Nat.le_trans Z0 E_3.1
  have K_3 : Keep h0 h_3 [] := (Keep.refl h0 []).ext E_3
  have fd_3_26 : Fld Z h_3 b_3 "java/lang/String" "value" "[B" .null := D_3 (Or.inr (hw _ (List.mem_of_getElem? (i := 26) rfl))) (ty := (.array .byte)) (by decide)
  have fd_3_28 : Fld Z h_3 b_3 "java/lang/String" "coder" "B" (.int (0 : Int32)) := D_3 (Or.inr (hw _ (List.mem_of_getElem? (i := 28) rfl))) (ty := .byte) (by decide)
  obtain ⟨_, _, ⟨T_4, L_4, k_4, n_4⟩, -, X_4, ⟨Lc_4, hQ_4, l_4, y_4, z_4⟩, st_4⟩ := Jvm.LawKit.callS X_3 hx (y := (⟨"java/lang/StringLatin1", "toBytes", "(C)[B"⟩ : MethodName)) hown (mvT hZ (hw _ (List.mem_of_getElem? (i := 14) rfl))) (mvT hZ (hw _ (List.mem_of_getElem? (i := 15) rfl))) (mvT hZ (hw _ (List.mem_of_getElem? (i := 10) rfl))) (mvT hZ (hw _ (List.mem_of_getElem? (i := 16) rfl))) (by decide) (backOf (W := 2) (rm3 l Z a0 hw [] p1 h_3 n0 Z_3 ) hZ (hw _ (List.mem_of_getElem? (i := 16) rfl)) (hw _ (List.mem_of_getElem? (i := 10) rfl)) (by decide) (by decide)) (g := (mkF m 18 #[.val (.int p1)] [(.int p1), (.ref b_3), (.ref b_3)])) rfl (by rw [hml]; rfl) (argsL := [(.int p1)]) (rest := [(.ref b_3), (.ref b_3)]) (lenOf pd_2 rfl) rfl (by show 2 * 0 + _ ≤ _; exact Nat.le_of_eq rfl) (hb hby d1_18) (fun _ _ => ⟨rfl, e_3, (by decide : 1 + 1 ≤ _), (by decide : 4 + 1 ≤ _)⟩)
  dsimp only [Pt.U, Pt.locs, Pt.cells, Pt.slots] at X_4 l_4 y_4 z_4 st_4 hQ_4
  subst l_4 y_4 z_4
  obtain ⟨r_4, rfl, N_4q, Kc_4⟩ := hQ_4
  have f_4_0 : Sta Z T_4.heap "java/lang/String" "COMPACT_STRINGS" "Z" (.int w9) := own_sta_keep0 f_3_0 Kc_4
  have f_4_1 : Exa Z T_4.heap b_3 "java/lang/String" := A_3.keep Kc_4
  have f_4_2 : Fld Z T_4.heap b_3 "java/lang/String" "value" "[B" .null := fd_3_26.keep Kc_4 (List.not_mem_nil)
  have f_4_3 : Fld Z T_4.heap b_3 "java/lang/String" "coder" "B" (.int (0 : Int32)) := fd_3_28.keep Kc_4 (List.not_mem_nil)
  have Z_4 : n0 ≤ T_4.heap.size := Nat.le_trans Z_3 Kc_4.1
  have K_4 : Keep h0 T_4.heap [] := K_3.trans Kc_4 (fun x hx => nomatch hx)
  have N_4 := Fr.app N_2 N_4q
  obtain ⟨_, _, ⟨T_5, L_5, k_5, n_5⟩, -, X_5, ⟨Lc_5, hQ_5, l_5, y_5, z_5⟩, st_5⟩ := X_4.specialBack hx (y := (⟨"java/lang/String", "<init>", "([BB)V"⟩ : MethodName)) rfl hown (mvT hZ (hw _ (List.mem_of_getElem? (i := 18) rfl))) (mvT hZ (hw _ (List.mem_of_getElem? (i := 19) rfl))) (mvT hZ (hw _ (List.mem_of_getElem? (i := 21) rfl))) (by decide) (backOf (W := 1) (rm4 l Z a0 hw [] b_3 r_4 (0 : Int32) T_4.heap n0 Z_4 g_b_3 f_4_1 f_4_2 f_4_3) hZ (hw _ (List.mem_of_getElem? (i := 21) rfl)) (hw _ (List.mem_of_getElem? (i := 5) rfl)) (by decide) (by decide)) (g := (mkF m 22 #[.val (.int p1)] [(.int (0 : Int32)), (.ref r_4), (.ref b_3), (.ref b_3)])) rfl (by rw [hml]; rfl) (Steps.refl _) (a := b_3) (argsL := [(.ref r_4), (.int (0 : Int32))]) (rest := [(.ref b_3)]) (lenOf pd_3 rfl) rfl (by show 2 * 0 + _ ≤ _; exact Nat.le_of_eq rfl) (hb hby d1_22) (fun _ _ => ⟨rfl, rfl, (by decide : 2 + 0 ≤ _), (by decide : 5 + 0 ≤ _)⟩)
  dsimp only [Pt.U, Pt.locs, Pt.cells, Pt.slots] at X_5 l_5 y_5 z_5 st_5 hQ_5
  subst l_5 y_5 z_5
  obtain ⟨rfl, N_5q, Kc_5⟩ := hQ_5
  have f_5_0 : Sta Z T_5.heap "java/lang/String" "COMPACT_STRINGS" "Z" (.int w9) := own_sta_keep f_4_0 f_4_1 Kc_5
  have f_5_1 : Exa Z T_5.heap b_3 "java/lang/String" := f_4_1.keep Kc_5
  have Z_5 : n0 ≤ T_5.heap.size := Nat.le_trans Z_4 Kc_5.1
  have K_5 : Keep h0 T_5.heap [] := K_4.trans Kc_5 (fun x hx => by cases List.mem_singleton.mp hx; exact Or.inr sz_b_3)
  have N_5 := Fr.app N_4 N_5q
  obtain ⟨fs, hr, hrun, hended, hW, hsame⟩ := X_5.leave (v := some (.ref b_3)) (fun h => by rw [Bd.returns] at h; cases h)
  refine ⟨_, _, pre0 _ ?_, hrun, hended, _, _, rfl, ?_, ⟨_, rfl⟩, hW, hsame.mono (by decide) (by decide)⟩
  · show Steps p.tables e below (s₁.setTop (mkF m 0 #[.val (.int p1)] [])) _
    refine st_1 _ ?_
    show Steps p.tables e below (T_1.setTop (mkF m 3 #[.val (.int p1)] [(.int w9)])) _
    refine XS.ifNo X_1.here hx rfl (hb hby d1_3) rfl ((if0 _ _).trans (feq (hw9 : ¬ (w9 = (0 : Int32)))).1) ?_
    show Steps p.tables e below (T_1.setTop (mkF m 6 #[.val (.int p1)] [])) _
    refine XS.iloadN X_1.here hx rfl (hb hby d1_6) rfl ?_
    show Steps p.tables e below (T_1.setTop (mkF m 7 #[.val (.int p1)] [(.int p1)])) _
    refine st_2 _ ?_
    show Steps p.tables e below (T_2.setTop (mkF m 10 #[.val (.int p1)] [(.int (own_enc p1))])) _
    refine XS.ifNo X_2.here hx rfl (hb hby d1_10) rfl ((if0 _ _).trans (feq ((by rw [hen]; decide) : ¬ ((own_enc p1) = (0 : Int32)))).1) ?_
    show Steps p.tables e below (T_2.setTop (mkF m 13 #[.val (.int p1)] [])) _
    refine st_3 _ ?_
    show Steps p.tables e below (T_3.setTop (mkF m 16 #[.val (.int p1)] [(.ref b_3)])) _
    refine XS.dup X_3.here hx rfl (hb hby d1_16) rfl rfl ?_
    show Steps p.tables e below (T_3.setTop (mkF m 17 #[.val (.int p1)] [(.ref b_3), (.ref b_3)])) _
    refine XS.iloadN X_3.here hx rfl (hb hby d1_17) rfl ?_
    show Steps p.tables e below (T_3.setTop (mkF m 18 #[.val (.int p1)] [(.int p1), (.ref b_3), (.ref b_3)])) _
    refine st_4 _ ?_
    show Steps p.tables e below (T_4.setTop (mkF m 21 #[.val (.int p1)] [(.ref r_4), (.ref b_3), (.ref b_3)])) _
    refine XS.iconst X_4.here hx rfl (hb hby d1_21) ?_
    show Steps p.tables e below (T_4.setTop (mkF m 22 #[.val (.int p1)] [(.int (0 : Int32)), (.ref r_4), (.ref b_3), (.ref b_3)])) _
    refine st_5.trans ?_
    show Steps p.tables e below (T_5.setTop (mkF m 25 #[.val (.int p1)] [(.ref b_3)])) _
    exact retOut X_5 hx Bd.returns rfl (Or.inr (Or.inr (Or.inr (Or.inr ⟨rfl, rfl, rfl⟩)))) (hb hby d1_25) hr
  · show Q1 Z p1 w9 h0 n0 _ T_5.heap _
    exact ⟨b_3, rfl, N_5, K_5⟩
theorem d7_0 : decode prog_43_method_1_code 0 = .ok (.aload_n 0, 1) := by decide +kernel
theorem d7_1 : decode prog_43_method_1_code 1 = .ok (.invokespecial 1, 3) := by decide +kernel
theorem d7_4 : decode prog_43_method_1_code 4 = .ok (.return_, 1) := by decide +kernel
theorem ef_7_R (m : MethodId) (x0 : Addr) : entryFrame m #[(.ref x0)] 1 = mkF m 0 #[.val (.ref x0)] [] := by first | (simp [entryFrame, mkF, argsToLocals, Value.category]; done) | rfl
def Q7 (Z : State) (a1 : Addr) (h0 : Heap) (n0 : Nat) (v : Option Value) (h : Heap) (L : List Loc) : Prop := v = none ∧ Fr n0 L ∧ h = h0
theorem pn_7 : plainName "com/example/pathlatch/pathlatch/Node" = true := by first | (simp [plainName, overriddenIn]; done) | decide +kernel
set_option maxRecDepth 65536 in
set_option maxHeartbeats 40000000 in
theorem rm7 (l : Launch) (Z : State) (a0 : Array Value) (hw : ∀ d ∈ tables_1, d.before a0 Z = true) (ws : List Jvm.Cond) (a1 : Addr) (h0 : Heap) (n0 : Nat) (Z0 : n0 ≤ h0.size)  :
    MetFree l (⟨"com/example/pathlatch/pathlatch/Node", "<init>", "()V"⟩ : MethodName) (head1 (Jvm.Cond.code (⟨"com/example/pathlatch/pathlatch/Node", "<init>", "()V"⟩ : MethodName) prog_43_method_1_code 1 none :: ws) ({ frames := 1, cells := 0, slots := 0, locals := 12 } : Room)) (fun a U => a = #[(.ref a1)] ∧ Z.Warmed39 U.vm ∧ U.heap = h0) (fun _ _ _ _ _ => True) (fun _ U o U' => ∃ v L, o = .returned v ∧ Q7 Z a1 h0 n0 v U'.heap L ∧ FrameEnd U o U' L ({ frames := 1, cells := 0, slots := 0, locals := 12 } : Room).cells ({ frames := 1, cells := 0, slots := 0, locals := 12 } : Room).slots) := by
  refine MetFree.of_bodySF (plainFor_of_name pn_7) hisR ?_
  intro p e s m args below meth c s₁ Bd hml0 hP hK
  obtain ⟨rfl, hZ, hh⟩ := hP
  have hx := Bd.exec
  have hby := Bd.bytes
  have hml : c.maxLocals = 1 := hml0
  have hown : s.vm.findClass "com/example/pathlatch/pathlatch/Node" = some m.cls := findClass_of_methodNamed Bd.named
  have hnm := (name_of_methodNamed Bd.named Bd.method).1
  have X0 : Stand p l e ({ frames := 1, cells := 0, slots := 0, locals := 12 } : Room) s m #[(.ref a1)] below meth c s₁ [] 0 0 := Stand.of_body Bd
  have e0 : s₁.heap = h0 := by rw [← hh, Bd.state]; rfl
  have N0 := Fr.nil n0
  have pre0 : ∀ t, Steps p.tables e below (s₁.setTop (mkF m 0 #[.val (.ref a1)] [])) t → Steps p.tables e below (s₁.setTop (entryFrame m #[(.ref a1)] 1)) t := fun t k => castTop (ef_7_R m a1) k
  obtain ⟨T_1, X_1, e_1, st_1⟩ := initO X0 hx hZ hown (hw _ (List.mem_of_getElem? (i := 37) rfl)) (hw _ (List.mem_of_getElem? (i := 23) rfl)) (hw _ (List.mem_of_getElem? (i := 24) rfl)) e0 (g := (mkF m 1 #[.val (.ref a1)] [(.ref a1)])) rfl (by rw [hml]; rfl) rfl (hb hby d7_1) (by decide) (W := 0) (by show 2 * 0 + _ ≤ _; exact Nat.le_of_eq rfl) (by decide)
  obtain ⟨fs, hr, hrun, hended, hW, hsame⟩ := X_1.leave (v := none) (fun _ => rfl)
  refine ⟨_, _, pre0 _ ?_, hrun, hended, _, _, rfl, ?_, ⟨_, rfl⟩, hW, hsame.mono (by decide) (by decide)⟩
  · show Steps p.tables e below (s₁.setTop (mkF m 0 #[.val (.ref a1)] [])) _
    refine XS.aloadN X0.here hx rfl (hb hby d7_0) rfl rfl ?_
    show Steps p.tables e below (s₁.setTop (mkF m 1 #[.val (.ref a1)] [(.ref a1)])) _
    refine st_1 _ ?_
    show Steps p.tables e below (T_1.setTop (mkF m 4 #[.val (.ref a1)] [])) _
    exact X_1.returnOut hx Bd.returns (hb hby d7_4) hr
  · show Q7 Z a1 h0 n0 _ T_1.heap _
    rw [e_1]
    exact ⟨rfl, N0, rfl⟩
theorem d6_0 : decode prog_81_method_1_code 0 = .ok (.aload_n 0, 1) := by decide +kernel
theorem d6_1 : decode prog_81_method_1_code 1 = .ok (.invokespecial 1, 3) := by decide +kernel
theorem pd_4 : parseMethodDescriptor "()V" = some ⟨[], none⟩ := by decide +kernel
theorem d6_4 : decode prog_81_method_1_code 4 = .ok (.aload_n 0, 1) := by decide +kernel
theorem d6_5 : decode prog_81_method_1_code 5 = .ok (.aload_n 1, 1) := by decide +kernel
theorem d6_6 : decode prog_81_method_1_code 6 = .ok (.putfield 7, 3) := by decide +kernel
theorem d6_9 : decode prog_81_method_1_code 9 = .ok (.return_, 1) := by decide +kernel
theorem ef_6_RR (m : MethodId) (x0 : Addr) (x1 : Addr) : entryFrame m #[(.ref x0), (.ref x1)] 2 = mkF m 0 #[.val (.ref x0), .val (.ref x1)] [] := by first | (simp [entryFrame, mkF, argsToLocals, Value.category]; done) | rfl
def Q6 (Z : State) (a1 : Addr) (a2 : Addr) (h0 : Heap) (n0 : Nat) (v : Option Value) (h : Heap) (L : List Loc) : Prop := v = none ∧ Fr n0 L ∧ Keep h0 h [a1] ∧ Exa Z h a1 "com/example/pathlatch/pathlatch/Text"
theorem pn_6 : plainName "com/example/pathlatch/pathlatch/Text" = true := by first | (simp [plainName, overriddenIn]; done) | decide +kernel
set_option maxRecDepth 65536 in
set_option maxHeartbeats 40000000 in
theorem rm6 (l : Launch) (Z : State) (a0 : Array Value) (hw : ∀ d ∈ tables_1, d.before a0 Z = true) (ws : List Jvm.Cond) (a1 : Addr) (a2 : Addr) (h0 : Heap) (n0 : Nat) (Z0 : n0 ≤ h0.size) (g_a1 : n0 ≤ a1) (F0 : Exa Z h0 a1 "com/example/pathlatch/pathlatch/Text") (F1 : Fld Z h0 a1 "com/example/pathlatch/pathlatch/Text" "value" "Ljava/lang/String;" .null) :
    MetFree l (⟨"com/example/pathlatch/pathlatch/Text", "<init>", "(Ljava/lang/String;)V"⟩ : MethodName) (head1 (Jvm.Cond.code (⟨"com/example/pathlatch/pathlatch/Text", "<init>", "(Ljava/lang/String;)V"⟩ : MethodName) prog_81_method_1_code 2 none :: ws) ({ frames := 2, cells := 0, slots := 0, locals := 24 } : Room)) (fun a U => a = #[(.ref a1), (.ref a2)] ∧ Z.Warmed39 U.vm ∧ U.heap = h0) (fun _ _ _ _ _ => True) (fun _ U o U' => ∃ v L, o = .returned v ∧ Q6 Z a1 a2 h0 n0 v U'.heap L ∧ FrameEnd U o U' L ({ frames := 2, cells := 0, slots := 0, locals := 24 } : Room).cells ({ frames := 2, cells := 0, slots := 0, locals := 24 } : Room).slots) := by
  refine MetFree.of_bodySF (plainFor_of_name pn_6) hisR ?_
  intro p e s m args below meth c s₁ Bd hml0 hP hK
  obtain ⟨rfl, hZ, hh⟩ := hP
  have hx := Bd.exec
  have hby := Bd.bytes
  have hml : c.maxLocals = 2 := hml0
  have hown : s.vm.findClass "com/example/pathlatch/pathlatch/Text" = some m.cls := findClass_of_methodNamed Bd.named
  have hnm := (name_of_methodNamed Bd.named Bd.method).1
  have X0 : Stand p l e ({ frames := 2, cells := 0, slots := 0, locals := 24 } : Room) s m #[(.ref a1), (.ref a2)] below meth c s₁ [] 0 0 := Stand.of_body Bd
  have e0 : s₁.heap = h0 := by rw [← hh, Bd.state]; rfl
  have N0 := Fr.nil n0
  have pre0 : ∀ t, Steps p.tables e below (s₁.setTop (mkF m 0 #[.val (.ref a1), .val (.ref a2)] [])) t → Steps p.tables e below (s₁.setTop (entryFrame m #[(.ref a1), (.ref a2)] 2)) t := fun t k => castTop (ef_6_RR m a1 a2) k
  obtain ⟨_, _, ⟨T_1, L_1, k_1, n_1⟩, -, X_1, ⟨Lc_1, hQ_1, l_1, y_1, z_1⟩, st_1⟩ := X0.specialBack hx (y := (⟨"com/example/pathlatch/pathlatch/Node", "<init>", "()V"⟩ : MethodName)) rfl hown (mvT hZ (hw _ (List.mem_of_getElem? (i := 32) rfl))) (mvT hZ (hw _ (List.mem_of_getElem? (i := 33) rfl))) (mvT hZ (hw _ (List.mem_of_getElem? (i := 36) rfl))) (by decide) (backOf (W := 0) (rm7 l Z a0 hw [] a1 h0 n0 Z0 ) hZ (hw _ (List.mem_of_getElem? (i := 36) rfl)) (hw _ (List.mem_of_getElem? (i := 35) rfl)) (by decide) (by decide)) (g := (mkF m 1 #[.val (.ref a1), .val (.ref a2)] [(.ref a1)])) rfl (by rw [hml]; rfl) (Steps.refl _) (a := a1) (argsL := []) (rest := []) (lenOf pd_4 rfl) rfl (by show 2 * 0 + _ ≤ _; exact Nat.le_of_eq rfl) (hb hby d6_1) (fun _ _ => ⟨rfl, e0, (by decide : 0 + 0 ≤ _), (by decide : 0 + 0 ≤ _)⟩)
  dsimp only [Pt.U, Pt.locs, Pt.cells, Pt.slots] at X_1 l_1 y_1 z_1 st_1 hQ_1
  subst l_1 y_1 z_1
  obtain ⟨rfl, N_1q, e_1⟩ := hQ_1
  have N_1 := Fr.app N0 N_1q
  obtain ⟨T_2, h_2, X_2, e_2, W_2, st_2⟩ := putF X_1 hx hZ hown (host := "") (Or.inl (hw _ (List.mem_of_getElem? (i := 38) rfl))) Via.refl e_1 F1 F0 (Or.inl (hw _ (List.mem_of_getElem? (i := 39) rfl))) (hw _ (List.mem_of_getElem? (i := 1) rfl)) (ty := (.object "java/lang/String")) (by decide) rfl rfl (g := (mkF m 6 #[.val (.ref a1), .val (.ref a2)] [(.ref a2), (.ref a1)])) rfl rfl (hb hby d6_6)
  have N_2 := Fr.snoc X_2 N_1 g_a1
  have fw_2 : Fld Z h_2 a1 "com/example/pathlatch/pathlatch/Text" "value" "Ljava/lang/String;" (.ref a2) := F1.same W_2
  have f_2_0 : Exa Z h_2 a1 "com/example/pathlatch/pathlatch/Text" := F0.wr W_2
  have Z_2 : n0 ≤ h_2.size := Nat.le_trans Z0 (Keep.of_wr W_2).1
  have K_2 : Keep h0 h_2 [a1] := (Keep.refl h0 [a1]).wr W_2 (Or.inl (List.mem_of_getElem? (i := 0) rfl))
  obtain ⟨fs, hr, hrun, hended, hW, hsame⟩ := X_2.leave (v := none) (fun _ => rfl)
  refine ⟨_, _, pre0 _ ?_, hrun, hended, _, _, rfl, ?_, ⟨_, rfl⟩, hW, hsame.mono (by decide) (by decide)⟩
  · show Steps p.tables e below (s₁.setTop (mkF m 0 #[.val (.ref a1), .val (.ref a2)] [])) _
    refine XS.aloadN X0.here hx rfl (hb hby d6_0) rfl rfl ?_
    show Steps p.tables e below (s₁.setTop (mkF m 1 #[.val (.ref a1), .val (.ref a2)] [(.ref a1)])) _
    refine st_1.trans ?_
    show Steps p.tables e below (T_1.setTop (mkF m 4 #[.val (.ref a1), .val (.ref a2)] [])) _
    refine XS.aloadN X_1.here hx rfl (hb hby d6_4) rfl rfl ?_
    show Steps p.tables e below (T_1.setTop (mkF m 5 #[.val (.ref a1), .val (.ref a2)] [(.ref a1)])) _
    refine XS.aloadN X_1.here hx rfl (hb hby d6_5) rfl rfl ?_
    show Steps p.tables e below (T_1.setTop (mkF m 6 #[.val (.ref a1), .val (.ref a2)] [(.ref a2), (.ref a1)])) _
    refine st_2 _ ?_
    show Steps p.tables e below (T_2.setTop (mkF m 9 #[.val (.ref a1), .val (.ref a2)] [])) _
    exact X_2.returnOut hx Bd.returns (hb hby d6_9) hr
  · show Q6 Z a1 a2 h0 n0 _ T_2.heap _
    rw [e_2]
    exact ⟨rfl, N_2, K_2, f_2_0⟩
theorem d9_0 : decode jdk_30_method_1_code 0 = .ok (.aload_n 0, 1) := by decide +kernel
theorem d9_1 : decode jdk_30_method_1_code 1 = .ok (.invokespecial 1, 3) := by decide +kernel
theorem d9_4 : decode jdk_30_method_1_code 4 = .ok (.return_, 1) := by decide +kernel
theorem ef_9_R (m : MethodId) (x0 : Addr) : entryFrame m #[(.ref x0)] 1 = mkF m 0 #[.val (.ref x0)] [] := by first | (simp [entryFrame, mkF, argsToLocals, Value.category]; done) | rfl
def Q9 (Z : State) (a1 : Addr) (h0 : Heap) (n0 : Nat) (v : Option Value) (h : Heap) (L : List Loc) : Prop := v = none ∧ Fr n0 L ∧ h = h0
theorem pn_9 : plainName "java/lang/Record" = true := by first | (simp [plainName, overriddenIn]; done) | decide +kernel
set_option maxRecDepth 65536 in
set_option maxHeartbeats 40000000 in
theorem rm9 (l : Launch) (Z : State) (a0 : Array Value) (hw : ∀ d ∈ tables_1, d.before a0 Z = true) (ws : List Jvm.Cond) (a1 : Addr) (h0 : Heap) (n0 : Nat) (Z0 : n0 ≤ h0.size)  :
    MetFree l (⟨"java/lang/Record", "<init>", "()V"⟩ : MethodName) (head1 (Jvm.Cond.code (⟨"java/lang/Record", "<init>", "()V"⟩ : MethodName) jdk_30_method_1_code 1 none :: ws) ({ frames := 1, cells := 0, slots := 0, locals := 12 } : Room)) (fun a U => a = #[(.ref a1)] ∧ Z.Warmed39 U.vm ∧ U.heap = h0) (fun _ _ _ _ _ => True) (fun _ U o U' => ∃ v L, o = .returned v ∧ Q9 Z a1 h0 n0 v U'.heap L ∧ FrameEnd U o U' L ({ frames := 1, cells := 0, slots := 0, locals := 12 } : Room).cells ({ frames := 1, cells := 0, slots := 0, locals := 12 } : Room).slots) := by
  refine MetFree.of_bodySF (plainFor_of_name pn_9) hisR ?_
  intro p e s m args below meth c s₁ Bd hml0 hP hK
  obtain ⟨rfl, hZ, hh⟩ := hP
  have hx := Bd.exec
  have hby := Bd.bytes
  have hml : c.maxLocals = 1 := hml0
  have hown : s.vm.findClass "java/lang/Record" = some m.cls := findClass_of_methodNamed Bd.named
  have hnm := (name_of_methodNamed Bd.named Bd.method).1
  have X0 : Stand p l e ({ frames := 1, cells := 0, slots := 0, locals := 12 } : Room) s m #[(.ref a1)] below meth c s₁ [] 0 0 := Stand.of_body Bd
  have e0 : s₁.heap = h0 := by rw [← hh, Bd.state]; rfl
  have N0 := Fr.nil n0
  have pre0 : ∀ t, Steps p.tables e below (s₁.setTop (mkF m 0 #[.val (.ref a1)] [])) t → Steps p.tables e below (s₁.setTop (entryFrame m #[(.ref a1)] 1)) t := fun t k => castTop (ef_9_R m a1) k
  obtain ⟨T_1, X_1, e_1, st_1⟩ := initO X0 hx hZ hown (hw _ (List.mem_of_getElem? (i := 51) rfl)) (hw _ (List.mem_of_getElem? (i := 23) rfl)) (hw _ (List.mem_of_getElem? (i := 24) rfl)) e0 (g := (mkF m 1 #[.val (.ref a1)] [(.ref a1)])) rfl (by rw [hml]; rfl) rfl (hb hby d9_1) (by decide) (W := 0) (by show 2 * 0 + _ ≤ _; exact Nat.le_of_eq rfl) (by decide)
  obtain ⟨fs, hr, hrun, hended, hW, hsame⟩ := X_1.leave (v := none) (fun _ => rfl)
  refine ⟨_, _, pre0 _ ?_, hrun, hended, _, _, rfl, ?_, ⟨_, rfl⟩, hW, hsame.mono (by decide) (by decide)⟩
  · show Steps p.tables e below (s₁.setTop (mkF m 0 #[.val (.ref a1)] [])) _
    refine XS.aloadN X0.here hx rfl (hb hby d9_0) rfl rfl ?_
    show Steps p.tables e below (s₁.setTop (mkF m 1 #[.val (.ref a1)] [(.ref a1)])) _
    refine st_1 _ ?_
    show Steps p.tables e below (T_1.setTop (mkF m 4 #[.val (.ref a1)] [])) _
    exact X_1.returnOut hx Bd.returns (hb hby d9_4) hr
  · show Q9 Z a1 h0 n0 _ T_1.heap _
    rw [e_1]
    exact ⟨rfl, N0, rfl⟩
theorem d8_0 : decode prog_62_method_1_code 0 = .ok (.aload_n 0, 1) := by decide +kernel
theorem d8_1 : decode prog_62_method_1_code 1 = .ok (.invokespecial 1, 3) := by decide +kernel
theorem d8_4 : decode prog_62_method_1_code 4 = .ok (.aload_n 0, 1) := by decide +kernel
theorem d8_5 : decode prog_62_method_1_code 5 = .ok (.aload_n 1, 1) := by decide +kernel
theorem d8_6 : decode prog_62_method_1_code 6 = .ok (.putfield 7, 3) := by decide +kernel
theorem d8_9 : decode prog_62_method_1_code 9 = .ok (.aload_n 0, 1) := by decide +kernel
theorem d8_10 : decode prog_62_method_1_code 10 = .ok (.aload_n 2, 1) := by decide +kernel
theorem d8_11 : decode prog_62_method_1_code 11 = .ok (.putfield 13, 3) := by decide +kernel
theorem d8_14 : decode prog_62_method_1_code 14 = .ok (.return_, 1) := by decide +kernel
theorem ef_8_RRR (m : MethodId) (x0 : Addr) (x1 : Addr) (x2 : Addr) : entryFrame m #[(.ref x0), (.ref x1), (.ref x2)] 3 = mkF m 0 #[.val (.ref x0), .val (.ref x1), .val (.ref x2)] [] := by first | (simp [entryFrame, mkF, argsToLocals, Value.category]; done) | rfl
def Q8_ (Z : State) (a1 : Addr) (a2 : Addr) (a3 : Addr) (h0 : Heap) (n0 : Nat) (v : Option Value) (h : Heap) (L : List Loc) : Prop := v = none ∧ Fr n0 L ∧ Keep h0 h [a1] ∧ Exa Z h a1 "com/example/pathlatch/pathlatch/ParentNode$TextBeside" ∧ Fld Z h a1 "com/example/pathlatch/pathlatch/ParentNode$TextBeside" "before" "Lcom/example/pathlatch/pathlatch/Text;" (.ref a2) ∧ Fld Z h a1 "com/example/pathlatch/pathlatch/ParentNode$TextBeside" "after" "Lcom/example/pathlatch/pathlatch/Text;" (.ref a3)
theorem pn_8 : plainName "com/example/pathlatch/pathlatch/ParentNode$TextBeside" = true := by first | (simp [plainName, overriddenIn]; done) | decide +kernel
set_option maxRecDepth 65536 in
set_option maxHeartbeats 40000000 in
theorem rm8_ (l : Launch) (Z : State) (a0 : Array Value) (hw : ∀ d ∈ tables_1, d.before a0 Z = true) (ws : List Jvm.Cond) (a1 : Addr) (a2 : Addr) (a3 : Addr) (h0 : Heap) (n0 : Nat) (Z0 : n0 ≤ h0.size) (g_a1 : n0 ≤ a1) (F0 : Exa Z h0 a1 "com/example/pathlatch/pathlatch/ParentNode$TextBeside") (F1 : Fld Z h0 a1 "com/example/pathlatch/pathlatch/ParentNode$TextBeside" "before" "Lcom/example/pathlatch/pathlatch/Text;" .null) (F2 : Fld Z h0 a1 "com/example/pathlatch/pathlatch/ParentNode$TextBeside" "after" "Lcom/example/pathlatch/pathlatch/Text;" .null) :
    MetFree l (⟨"com/example/pathlatch/pathlatch/ParentNode$TextBeside", "<init>", "(Lcom/example/pathlatch/pathlatch/Text;Lcom/example/pathlatch/pathlatch/Text;)V"⟩ : MethodName) (head1 (Jvm.Cond.code (⟨"com/example/pathlatch/pathlatch/ParentNode$TextBeside", "<init>", "(Lcom/example/pathlatch/pathlatch/Text;Lcom/example/pathlatch/pathlatch/Text;)V"⟩ : MethodName) prog_62_method_1_code 3 none :: ws) ({ frames := 2, cells := 0, slots := 0, locals := 24 } : Room)) (fun a U => a = #[(.ref a1), (.ref a2), (.ref a3)] ∧ Z.Warmed39 U.vm ∧ U.heap = h0) (fun _ _ _ _ _ => True) (fun _ U o U' => ∃ v L, o = .returned v ∧ Q8_ Z a1 a2 a3 h0 n0 v U'.heap L ∧ FrameEnd U o U' L ({ frames := 2, cells := 0, slots := 0, locals := 24 } : Room).cells ({ frames := 2, cells := 0, slots := 0, locals := 24 } : Room).slots) := by
  refine MetFree.of_bodySF (plainFor_of_name pn_8) hisR ?_
  intro p e s m args below meth c s₁ Bd hml0 hP hK
  obtain ⟨rfl, hZ, hh⟩ := hP
  have hx := Bd.exec
  have hby := Bd.bytes
  have hml : c.maxLocals = 3 := hml0
  have hown : s.vm.findClass "com/example/pathlatch/pathlatch/ParentNode$TextBeside" = some m.cls := findClass_of_methodNamed Bd.named
  have hnm := (name_of_methodNamed Bd.named Bd.method).1
  have X0 : Stand p l e ({ frames := 2, cells := 0, slots := 0, locals := 24 } : Room) s m #[(.ref a1), (.ref a2), (.ref a3)] below meth c s₁ [] 0 0 := Stand.of_body Bd
  have e0 : s₁.heap = h0 := by rw [← hh, Bd.state]; rfl
  have N0 := Fr.nil n0
  have pre0 : ∀ t, Steps p.tables e below (s₁.setTop (mkF m 0 #[.val (.ref a1), .val (.ref a2), .val (.ref a3)] [])) t → Steps p.tables e below (s₁.setTop (entryFrame m #[(.ref a1), (.ref a2), (.ref a3)] 3)) t := fun t k => castTop (ef_8_RRR m a1 a2 a3) k
  obtain ⟨_, _, ⟨T_1, L_1, k_1, n_1⟩, -, X_1, ⟨Lc_1, hQ_1, l_1, y_1, z_1⟩, st_1⟩ := X0.specialBack hx (y := (⟨"java/lang/Record", "<init>", "()V"⟩ : MethodName)) rfl hown (mvT hZ (hw _ (List.mem_of_getElem? (i := 46) rfl))) (mvT hZ (hw _ (List.mem_of_getElem? (i := 47) rfl))) (mvT hZ (hw _ (List.mem_of_getElem? (i := 50) rfl))) (by decide) (backOf (W := 0) (rm9 l Z a0 hw [] a1 h0 n0 Z0 ) hZ (hw _ (List.mem_of_getElem? (i := 50) rfl)) (hw _ (List.mem_of_getElem? (i := 49) rfl)) (by decide) (by decide)) (g := (mkF m 1 #[.val (.ref a1), .val (.ref a2), .val (.ref a3)] [(.ref a1)])) rfl (by rw [hml]; rfl) (Steps.refl _) (a := a1) (argsL := []) (rest := []) (lenOf pd_4 rfl) rfl (by show 2 * 0 + _ ≤ _; exact Nat.le_of_eq rfl) (hb hby d8_1) (fun _ _ => ⟨rfl, e0, (by decide : 0 + 0 ≤ _), (by decide : 0 + 0 ≤ _)⟩)
  dsimp only [Pt.U, Pt.locs, Pt.cells, Pt.slots] at X_1 l_1 y_1 z_1 st_1 hQ_1
  subst l_1 y_1 z_1
  obtain ⟨rfl, N_1q, e_1⟩ := hQ_1
  have N_1 := Fr.app N0 N_1q
  obtain ⟨T_2, h_2, X_2, e_2, W_2, st_2⟩ := putF X_1 hx hZ hown (host := "") (Or.inl (hw _ (List.mem_of_getElem? (i := 52) rfl))) Via.refl e_1 F1 F0 (Or.inr ⟨(hw _ (List.mem_of_getElem? (i := 53) rfl)), rfl, hnm⟩) (hw _ (List.mem_of_getElem? (i := 41) rfl)) (ty := (.object "com/example/pathlatch/pathlatch/Text")) (by decide) rfl rfl (g := (mkF m 6 #[.val (.ref a1), .val (.ref a2), .val (.ref a3)] [(.ref a2), (.ref a1)])) rfl rfl (hb hby d8_6)
  have N_2 := Fr.snoc X_2 N_1 g_a1
  have fw_2 : Fld Z h_2 a1 "com/example/pathlatch/pathlatch/ParentNode$TextBeside" "before" "Lcom/example/pathlatch/pathlatch/Text;" (.ref a2) := F1.same W_2
  have f_2_0 : Exa Z h_2 a1 "com/example/pathlatch/pathlatch/ParentNode$TextBeside" := F0.wr W_2
  have f_2_2 : Fld Z h_2 a1 "com/example/pathlatch/pathlatch/ParentNode$TextBeside" "after" "Lcom/example/pathlatch/pathlatch/Text;" .null := F2.other W_2 (Or.inr (slot_ne (Or.inr (hw _ (List.mem_of_getElem? (i := 55) rfl))) (Or.inr (hw _ (List.mem_of_getElem? (i := 53) rfl))) (by decide) (t := (.object "com/example/pathlatch/pathlatch/Text")) (t' := (.object "com/example/pathlatch/pathlatch/Text")) (by decide) (by decide)))
  have Z_2 : n0 ≤ h_2.size := Nat.le_trans Z0 (Keep.of_wr W_2).1
  have K_2 : Keep h0 h_2 [a1] := (Keep.refl h0 [a1]).wr W_2 (Or.inl (List.mem_of_getElem? (i := 0) rfl))
  obtain ⟨T_3, h_3, X_3, e_3, W_3, st_3⟩ := putF X_2 hx hZ hown (host := "") (Or.inl (hw _ (List.mem_of_getElem? (i := 54) rfl))) Via.refl e_2 f_2_2 f_2_0 (Or.inr ⟨(hw _ (List.mem_of_getElem? (i := 55) rfl)), rfl, hnm⟩) (hw _ (List.mem_of_getElem? (i := 41) rfl)) (ty := (.object "com/example/pathlatch/pathlatch/Text")) (by decide) rfl rfl (g := (mkF m 11 #[.val (.ref a1), .val (.ref a2), .val (.ref a3)] [(.ref a3), (.ref a1)])) rfl rfl (hb hby d8_11)
  have N_3 := Fr.snoc X_3 N_2 g_a1
  have fw_3 : Fld Z h_3 a1 "com/example/pathlatch/pathlatch/ParentNode$TextBeside" "after" "Lcom/example/pathlatch/pathlatch/Text;" (.ref a3) := f_2_2.same W_3
  have f_3_0 : Exa Z h_3 a1 "com/example/pathlatch/pathlatch/ParentNode$TextBeside" := f_2_0.wr W_3
  have f_3_2 : Fld Z h_3 a1 "com/example/pathlatch/pathlatch/ParentNode$TextBeside" "before" "Lcom/example/pathlatch/pathlatch/Text;" (.ref a2) := fw_2.other W_3 (Or.inr (slot_ne (Or.inr (hw _ (List.mem_of_getElem? (i := 53) rfl))) (Or.inr (hw _ (List.mem_of_getElem? (i := 55) rfl))) (by decide) (t := (.object "com/example/pathlatch/pathlatch/Text")) (t' := (.object "com/example/pathlatch/pathlatch/Text")) (by decide) (by decide)))
  have Z_3 : n0 ≤ h_3.size := Nat.le_trans Z_2 (Keep.of_wr W_3).1
  have K_3 : Keep h0 h_3 [a1] := K_2.wr W_3 (Or.inl (List.mem_of_getElem? (i := 0) rfl))
  obtain ⟨fs, hr, hrun, hended, hW, hsame⟩ := X_3.leave (v := none) (fun _ => rfl)
  refine ⟨_, _, pre0 _ ?_, hrun, hended, _, _, rfl, ?_, ⟨_, rfl⟩, hW, hsame.mono (by decide) (by decide)⟩
  · show Steps p.tables e below (s₁.setTop (mkF m 0 #[.val (.ref a1), .val (.ref a2), .val (.ref a3)] [])) _
    refine XS.aloadN X0.here hx rfl (hb hby d8_0) rfl rfl ?_
    show Steps p.tables e below (s₁.setTop (mkF m 1 #[.val (.ref a1), .val (.ref a2), .val (.ref a3)] [(.ref a1)])) _
    refine st_1.trans ?_
    show Steps p.tables e below (T_1.setTop (mkF m 4 #[.val (.ref a1), .val (.ref a2), .val (.ref a3)] [])) _
    refine XS.aloadN X_1.here hx rfl (hb hby d8_4) rfl rfl ?_
    show Steps p.tables e below (T_1.setTop (mkF m 5 #[.val (.ref a1), .val (.ref a2), .val (.ref a3)] [(.ref a1)])) _
    refine XS.aloadN X_1.here hx rfl (hb hby d8_5) rfl rfl ?_
    show Steps p.tables e below (T_1.setTop (mkF m 6 #[.val (.ref a1), .val (.ref a2), .val (.ref a3)] [(.ref a2), (.ref a1)])) _
    refine st_2 _ ?_
    show Steps p.tables e below (T_2.setTop (mkF m 9 #[.val (.ref a1), .val (.ref a2), .val (.ref a3)] [])) _
    refine XS.aloadN X_2.here hx rfl (hb hby d8_9) rfl rfl ?_
    show Steps p.tables e below (T_2.setTop (mkF m 10 #[.val (.ref a1), .val (.ref a2), .val (.ref a3)] [(.ref a1)])) _
    refine XS.aloadN X_2.here hx rfl (hb hby d8_10) rfl rfl ?_
    show Steps p.tables e below (T_2.setTop (mkF m 11 #[.val (.ref a1), .val (.ref a2), .val (.ref a3)] [(.ref a3), (.ref a1)])) _
    refine st_3 _ ?_
    show Steps p.tables e below (T_3.setTop (mkF m 14 #[.val (.ref a1), .val (.ref a2), .val (.ref a3)] [])) _
    exact X_3.returnOut hx Bd.returns (hb hby d8_14) hr
  · show Q8_ Z a1 a2 a3 h0 n0 _ T_3.heap _
    rw [e_3]
    exact ⟨rfl, N_3, K_3, f_3_0, f_3_2, fw_3⟩
theorem ef_8_RNR (m : MethodId) (x0 : Addr) (x2 : Addr) : entryFrame m #[(.ref x0), .null, (.ref x2)] 3 = mkF m 0 #[.val (.ref x0), .val .null, .val (.ref x2)] [] := by first | (simp [entryFrame, mkF, argsToLocals, Value.category]; done) | rfl
def Q8_1 (Z : State) (a1 : Addr) (a3 : Addr) (h0 : Heap) (n0 : Nat) (v : Option Value) (h : Heap) (L : List Loc) : Prop := v = none ∧ Fr n0 L ∧ Keep h0 h [a1] ∧ Exa Z h a1 "com/example/pathlatch/pathlatch/ParentNode$TextBeside" ∧ Fld Z h a1 "com/example/pathlatch/pathlatch/ParentNode$TextBeside" "before" "Lcom/example/pathlatch/pathlatch/Text;" .null ∧ Fld Z h a1 "com/example/pathlatch/pathlatch/ParentNode$TextBeside" "after" "Lcom/example/pathlatch/pathlatch/Text;" (.ref a3)
set_option maxRecDepth 65536 in
set_option maxHeartbeats 40000000 in
theorem rm8_1 (l : Launch) (Z : State) (a0 : Array Value) (hw : ∀ d ∈ tables_1, d.before a0 Z = true) (ws : List Jvm.Cond) (a1 : Addr) (a3 : Addr) (h0 : Heap) (n0 : Nat) (Z0 : n0 ≤ h0.size) (g_a1 : n0 ≤ a1) (F0 : Exa Z h0 a1 "com/example/pathlatch/pathlatch/ParentNode$TextBeside") (F1 : Fld Z h0 a1 "com/example/pathlatch/pathlatch/ParentNode$TextBeside" "before" "Lcom/example/pathlatch/pathlatch/Text;" .null) (F2 : Fld Z h0 a1 "com/example/pathlatch/pathlatch/ParentNode$TextBeside" "after" "Lcom/example/pathlatch/pathlatch/Text;" .null) :
    MetFree l (⟨"com/example/pathlatch/pathlatch/ParentNode$TextBeside", "<init>", "(Lcom/example/pathlatch/pathlatch/Text;Lcom/example/pathlatch/pathlatch/Text;)V"⟩ : MethodName) (head1 (Jvm.Cond.code (⟨"com/example/pathlatch/pathlatch/ParentNode$TextBeside", "<init>", "(Lcom/example/pathlatch/pathlatch/Text;Lcom/example/pathlatch/pathlatch/Text;)V"⟩ : MethodName) prog_62_method_1_code 3 none :: ws) ({ frames := 2, cells := 0, slots := 0, locals := 24 } : Room)) (fun a U => a = #[(.ref a1), .null, (.ref a3)] ∧ Z.Warmed39 U.vm ∧ U.heap = h0) (fun _ _ _ _ _ => True) (fun _ U o U' => ∃ v L, o = .returned v ∧ Q8_1 Z a1 a3 h0 n0 v U'.heap L ∧ FrameEnd U o U' L ({ frames := 2, cells := 0, slots := 0, locals := 24 } : Room).cells ({ frames := 2, cells := 0, slots := 0, locals := 24 } : Room).slots) := by
  refine MetFree.of_bodySF (plainFor_of_name pn_8) hisR ?_
  intro p e s m args below meth c s₁ Bd hml0 hP hK
  obtain ⟨rfl, hZ, hh⟩ := hP
  have hx := Bd.exec
  have hby := Bd.bytes
  have hml : c.maxLocals = 3 := hml0
  have hown : s.vm.findClass "com/example/pathlatch/pathlatch/ParentNode$TextBeside" = some m.cls := findClass_of_methodNamed Bd.named
  have hnm := (name_of_methodNamed Bd.named Bd.method).1
  have X0 : Stand p l e ({ frames := 2, cells := 0, slots := 0, locals := 24 } : Room) s m #[(.ref a1), .null, (.ref a3)] below meth c s₁ [] 0 0 := Stand.of_body Bd
  have e0 : s₁.heap = h0 := by rw [← hh, Bd.state]; rfl
  have N0 := Fr.nil n0
  have pre0 : ∀ t, Steps p.tables e below (s₁.setTop (mkF m 0 #[.val (.ref a1), .val .null, .val (.ref a3)] [])) t → Steps p.tables e below (s₁.setTop (entryFrame m #[(.ref a1), .null, (.ref a3)] 3)) t := fun t k => castTop (ef_8_RNR m a1 a3) k
  obtain ⟨_, _, ⟨T_1, L_1, k_1, n_1⟩, -, X_1, ⟨Lc_1, hQ_1, l_1, y_1, z_1⟩, st_1⟩ := X0.specialBack hx (y := (⟨"java/lang/Record", "<init>", "()V"⟩ : MethodName)) rfl hown (mvT hZ (hw _ (List.mem_of_getElem? (i := 46) rfl))) (mvT hZ (hw _ (List.mem_of_getElem? (i := 47) rfl))) (mvT hZ (hw _ (List.mem_of_getElem? (i := 50) rfl))) (by decide) (backOf (W := 0) (rm9 l Z a0 hw [] a1 h0 n0 Z0 ) hZ (hw _ (List.mem_of_getElem? (i := 50) rfl)) (hw _ (List.mem_of_getElem? (i := 49) rfl)) (by decide) (by decide)) (g := (mkF m 1 #[.val (.ref a1), .val .null, .val (.ref a3)] [(.ref a1)])) rfl (by rw [hml]; rfl) (Steps.refl _) (a := a1) (argsL := []) (rest := []) (lenOf pd_4 rfl) rfl (by show 2 * 0 + _ ≤ _; exact Nat.le_of_eq rfl) (hb hby d8_1) (fun _ _ => ⟨rfl, e0, (by decide : 0 + 0 ≤ _), (by decide : 0 + 0 ≤ _)⟩)
  dsimp only [Pt.U, Pt.locs, Pt.cells, Pt.slots] at X_1 l_1 y_1 z_1 st_1 hQ_1
  subst l_1 y_1 z_1
  obtain ⟨rfl, N_1q, e_1⟩ := hQ_1
  have N_1 := Fr.app N0 N_1q
  obtain ⟨T_2, h_2, X_2, e_2, W_2, st_2⟩ := putF X_1 hx hZ hown (host := "") (Or.inl (hw _ (List.mem_of_getElem? (i := 52) rfl))) Via.refl e_1 F1 F0 (Or.inr ⟨(hw _ (List.mem_of_getElem? (i := 53) rfl)), rfl, hnm⟩) (hw _ (List.mem_of_getElem? (i := 41) rfl)) (ty := (.object "com/example/pathlatch/pathlatch/Text")) (by decide) rfl rfl (g := (mkF m 6 #[.val (.ref a1), .val .null, .val (.ref a3)] [.null, (.ref a1)])) rfl rfl (hb hby d8_6)
  have N_2 := Fr.snoc X_2 N_1 g_a1
  have fw_2 : Fld Z h_2 a1 "com/example/pathlatch/pathlatch/ParentNode$TextBeside" "before" "Lcom/example/pathlatch/pathlatch/Text;" .null := F1.same W_2
  have f_2_0 : Exa Z h_2 a1 "com/example/pathlatch/pathlatch/ParentNode$TextBeside" := F0.wr W_2
  have f_2_2 : Fld Z h_2 a1 "com/example/pathlatch/pathlatch/ParentNode$TextBeside" "after" "Lcom/example/pathlatch/pathlatch/Text;" .null := F2.other W_2 (Or.inr (slot_ne (Or.inr (hw _ (List.mem_of_getElem? (i := 55) rfl))) (Or.inr (hw _ (List.mem_of_getElem? (i := 53) rfl))) (by decide) (t := (.object "com/example/pathlatch/pathlatch/Text")) (t' := (.object "com/example/pathlatch/pathlatch/Text")) (by decide) (by decide)))
  have Z_2 : n0 ≤ h_2.size := Nat.le_trans Z0 (Keep.of_wr W_2).1
  have K_2 : Keep h0 h_2 [a1] := (Keep.refl h0 [a1]).wr W_2 (Or.inl (List.mem_of_getElem? (i := 0) rfl))
  obtain ⟨T_3, h_3, X_3, e_3, W_3, st_3⟩ := putF X_2 hx hZ hown (host := "") (Or.inl (hw _ (List.mem_of_getElem? (i := 54) rfl))) Via.refl e_2 f_2_2 f_2_0 (Or.inr ⟨(hw _ (List.mem_of_getElem? (i := 55) rfl)), rfl, hnm⟩) (hw _ (List.mem_of_getElem? (i := 41) rfl)) (ty := (.object "com/example/pathlatch/pathlatch/Text")) (by decide) rfl rfl (g := (mkF m 11 #[.val (.ref a1), .val .null, .val (.ref a3)] [(.ref a3), (.ref a1)])) rfl rfl (hb hby d8_11)
  have N_3 := Fr.snoc X_3 N_2 g_a1
  have fw_3 : Fld Z h_3 a1 "com/example/pathlatch/pathlatch/ParentNode$TextBeside" "after" "Lcom/example/pathlatch/pathlatch/Text;" (.ref a3) := f_2_2.same W_3
  have f_3_0 : Exa Z h_3 a1 "com/example/pathlatch/pathlatch/ParentNode$TextBeside" := f_2_0.wr W_3
  have f_3_2 : Fld Z h_3 a1 "com/example/pathlatch/pathlatch/ParentNode$TextBeside" "before" "Lcom/example/pathlatch/pathlatch/Text;" .null := fw_2.other W_3 (Or.inr (slot_ne (Or.inr (hw _ (List.mem_of_getElem? (i := 53) rfl))) (Or.inr (hw _ (List.mem_of_getElem? (i := 55) rfl))) (by decide) (t := (.object "com/example/pathlatch/pathlatch/Text")) (t' := (.object "com/example/pathlatch/pathlatch/Text")) (by decide) (by decide)))
  have Z_3 : n0 ≤ h_3.size := Nat.le_trans Z_2 (Keep.of_wr W_3).1
  have K_3 : Keep h0 h_3 [a1] := K_2.wr W_3 (Or.inl (List.mem_of_getElem? (i := 0) rfl))
  obtain ⟨fs, hr, hrun, hended, hW, hsame⟩ := X_3.leave (v := none) (fun _ => rfl)
  refine ⟨_, _, pre0 _ ?_, hrun, hended, _, _, rfl, ?_, ⟨_, rfl⟩, hW, hsame.mono (by decide) (by decide)⟩
  · show Steps p.tables e below (s₁.setTop (mkF m 0 #[.val (.ref a1), .val .null, .val (.ref a3)] [])) _
    refine XS.aloadN X0.here hx rfl (hb hby d8_0) rfl rfl ?_
    show Steps p.tables e below (s₁.setTop (mkF m 1 #[.val (.ref a1), .val .null, .val (.ref a3)] [(.ref a1)])) _
    refine st_1.trans ?_
    show Steps p.tables e below (T_1.setTop (mkF m 4 #[.val (.ref a1), .val .null, .val (.ref a3)] [])) _
    refine XS.aloadN X_1.here hx rfl (hb hby d8_4) rfl rfl ?_
    show Steps p.tables e below (T_1.setTop (mkF m 5 #[.val (.ref a1), .val .null, .val (.ref a3)] [(.ref a1)])) _
    refine XS.aloadN X_1.here hx rfl (hb hby d8_5) rfl rfl ?_
    show Steps p.tables e below (T_1.setTop (mkF m 6 #[.val (.ref a1), .val .null, .val (.ref a3)] [.null, (.ref a1)])) _
    refine st_2 _ ?_
    show Steps p.tables e below (T_2.setTop (mkF m 9 #[.val (.ref a1), .val .null, .val (.ref a3)] [])) _
    refine XS.aloadN X_2.here hx rfl (hb hby d8_9) rfl rfl ?_
    show Steps p.tables e below (T_2.setTop (mkF m 10 #[.val (.ref a1), .val .null, .val (.ref a3)] [(.ref a1)])) _
    refine XS.aloadN X_2.here hx rfl (hb hby d8_10) rfl rfl ?_
    show Steps p.tables e below (T_2.setTop (mkF m 11 #[.val (.ref a1), .val .null, .val (.ref a3)] [(.ref a3), (.ref a1)])) _
    refine st_3 _ ?_
    show Steps p.tables e below (T_3.setTop (mkF m 14 #[.val (.ref a1), .val .null, .val (.ref a3)] [])) _
    exact X_3.returnOut hx Bd.returns (hb hby d8_14) hr
  · show Q8_1 Z a1 a3 h0 n0 _ T_3.heap _
    rw [e_3]
    exact ⟨rfl, N_3, K_3, f_3_0, f_3_2, fw_3⟩
theorem ef_8_RRN (m : MethodId) (x0 : Addr) (x1 : Addr) : entryFrame m #[(.ref x0), (.ref x1), .null] 3 = mkF m 0 #[.val (.ref x0), .val (.ref x1), .val .null] [] := by first | (simp [entryFrame, mkF, argsToLocals, Value.category]; done) | rfl
def Q8_2 (Z : State) (a1 : Addr) (a2 : Addr) (h0 : Heap) (n0 : Nat) (v : Option Value) (h : Heap) (L : List Loc) : Prop := v = none ∧ Fr n0 L ∧ Keep h0 h [a1] ∧ Exa Z h a1 "com/example/pathlatch/pathlatch/ParentNode$TextBeside" ∧ Fld Z h a1 "com/example/pathlatch/pathlatch/ParentNode$TextBeside" "before" "Lcom/example/pathlatch/pathlatch/Text;" (.ref a2) ∧ Fld Z h a1 "com/example/pathlatch/pathlatch/ParentNode$TextBeside" "after" "Lcom/example/pathlatch/pathlatch/Text;" .null
set_option maxRecDepth 65536 in
set_option maxHeartbeats 40000000 in
theorem rm8_2 (l : Launch) (Z : State) (a0 : Array Value) (hw : ∀ d ∈ tables_1, d.before a0 Z = true) (ws : List Jvm.Cond) (a1 : Addr) (a2 : Addr) (h0 : Heap) (n0 : Nat) (Z0 : n0 ≤ h0.size) (g_a1 : n0 ≤ a1) (F0 : Exa Z h0 a1 "com/example/pathlatch/pathlatch/ParentNode$TextBeside") (F1 : Fld Z h0 a1 "com/example/pathlatch/pathlatch/ParentNode$TextBeside" "before" "Lcom/example/pathlatch/pathlatch/Text;" .null) (F2 : Fld Z h0 a1 "com/example/pathlatch/pathlatch/ParentNode$TextBeside" "after" "Lcom/example/pathlatch/pathlatch/Text;" .null) :
    MetFree l (⟨"com/example/pathlatch/pathlatch/ParentNode$TextBeside", "<init>", "(Lcom/example/pathlatch/pathlatch/Text;Lcom/example/pathlatch/pathlatch/Text;)V"⟩ : MethodName) (head1 (Jvm.Cond.code (⟨"com/example/pathlatch/pathlatch/ParentNode$TextBeside", "<init>", "(Lcom/example/pathlatch/pathlatch/Text;Lcom/example/pathlatch/pathlatch/Text;)V"⟩ : MethodName) prog_62_method_1_code 3 none :: ws) ({ frames := 2, cells := 0, slots := 0, locals := 24 } : Room)) (fun a U => a = #[(.ref a1), (.ref a2), .null] ∧ Z.Warmed39 U.vm ∧ U.heap = h0) (fun _ _ _ _ _ => True) (fun _ U o U' => ∃ v L, o = .returned v ∧ Q8_2 Z a1 a2 h0 n0 v U'.heap L ∧ FrameEnd U o U' L ({ frames := 2, cells := 0, slots := 0, locals := 24 } : Room).cells ({ frames := 2, cells := 0, slots := 0, locals := 24 } : Room).slots) := by
  refine MetFree.of_bodySF (plainFor_of_name pn_8) hisR ?_
  intro p e s m args below meth c s₁ Bd hml0 hP hK
  obtain ⟨rfl, hZ, hh⟩ := hP
  have hx := Bd.exec
  have hby := Bd.bytes
  have hml : c.maxLocals = 3 := hml0
  have hown : s.vm.findClass "com/example/pathlatch/pathlatch/ParentNode$TextBeside" = some m.cls := findClass_of_methodNamed Bd.named
  have hnm := (name_of_methodNamed Bd.named Bd.method).1
  have X0 : Stand p l e ({ frames := 2, cells := 0, slots := 0, locals := 24 } : Room) s m #[(.ref a1), (.ref a2), .null] below meth c s₁ [] 0 0 := Stand.of_body Bd
  have e0 : s₁.heap = h0 := by rw [← hh, Bd.state]; rfl
  have N0 := Fr.nil n0
  have pre0 : ∀ t, Steps p.tables e below (s₁.setTop (mkF m 0 #[.val (.ref a1), .val (.ref a2), .val .null] [])) t → Steps p.tables e below (s₁.setTop (entryFrame m #[(.ref a1), (.ref a2), .null] 3)) t := fun t k => castTop (ef_8_RRN m a1 a2) k
  obtain ⟨_, _, ⟨T_1, L_1, k_1, n_1⟩, -, X_1, ⟨Lc_1, hQ_1, l_1, y_1, z_1⟩, st_1⟩ := X0.specialBack hx (y := (⟨"java/lang/Record", "<init>", "()V"⟩ : MethodName)) rfl hown (mvT hZ (hw _ (List.mem_of_getElem? (i := 46) rfl))) (mvT hZ (hw _ (List.mem_of_getElem? (i := 47) rfl))) (mvT hZ (hw _ (List.mem_of_getElem? (i := 50) rfl))) (by decide) (backOf (W := 0) (rm9 l Z a0 hw [] a1 h0 n0 Z0 ) hZ (hw _ (List.mem_of_getElem? (i := 50) rfl)) (hw _ (List.mem_of_getElem? (i := 49) rfl)) (by decide) (by decide)) (g := (mkF m 1 #[.val (.ref a1), .val (.ref a2), .val .null] [(.ref a1)])) rfl (by rw [hml]; rfl) (Steps.refl _) (a := a1) (argsL := []) (rest := []) (lenOf pd_4 rfl) rfl (by show 2 * 0 + _ ≤ _; exact Nat.le_of_eq rfl) (hb hby d8_1) (fun _ _ => ⟨rfl, e0, (by decide : 0 + 0 ≤ _), (by decide : 0 + 0 ≤ _)⟩)
  dsimp only [Pt.U, Pt.locs, Pt.cells, Pt.slots] at X_1 l_1 y_1 z_1 st_1 hQ_1
  subst l_1 y_1 z_1
  obtain ⟨rfl, N_1q, e_1⟩ := hQ_1
  have N_1 := Fr.app N0 N_1q
  obtain ⟨T_2, h_2, X_2, e_2, W_2, st_2⟩ := putF X_1 hx hZ hown (host := "") (Or.inl (hw _ (List.mem_of_getElem? (i := 52) rfl))) Via.refl e_1 F1 F0 (Or.inr ⟨(hw _ (List.mem_of_getElem? (i := 53) rfl)), rfl, hnm⟩) (hw _ (List.mem_of_getElem? (i := 41) rfl)) (ty := (.object "com/example/pathlatch/pathlatch/Text")) (by decide) rfl rfl (g := (mkF m 6 #[.val (.ref a1), .val (.ref a2), .val .null] [(.ref a2), (.ref a1)])) rfl rfl (hb hby d8_6)
  have N_2 := Fr.snoc X_2 N_1 g_a1
  have fw_2 : Fld Z h_2 a1 "com/example/pathlatch/pathlatch/ParentNode$TextBeside" "before" "Lcom/example/pathlatch/pathlatch/Text;" (.ref a2) := F1.same W_2
  have f_2_0 : Exa Z h_2 a1 "com/example/pathlatch/pathlatch/ParentNode$TextBeside" := F0.wr W_2
  have f_2_2 : Fld Z h_2 a1 "com/example/pathlatch/pathlatch/ParentNode$TextBeside" "after" "Lcom/example/pathlatch/pathlatch/Text;" .null := F2.other W_2 (Or.inr (slot_ne (Or.inr (hw _ (List.mem_of_getElem? (i := 55) rfl))) (Or.inr (hw _ (List.mem_of_getElem? (i := 53) rfl))) (by decide) (t := (.object "com/example/pathlatch/pathlatch/Text")) (t' := (.object "com/example/pathlatch/pathlatch/Text")) (by decide) (by decide)))
  have Z_2 : n0 ≤ h_2.size := Nat.le_trans Z0 (Keep.of_wr W_2).1
  have K_2 : Keep h0 h_2 [a1] := (Keep.refl h0 [a1]).wr W_2 (Or.inl (List.mem_of_getElem? (i := 0) rfl))
  obtain ⟨T_3, h_3, X_3, e_3, W_3, st_3⟩ := putF X_2 hx hZ hown (host := "") (Or.inl (hw _ (List.mem_of_getElem? (i := 54) rfl))) Via.refl e_2 f_2_2 f_2_0 (Or.inr ⟨(hw _ (List.mem_of_getElem? (i := 55) rfl)), rfl, hnm⟩) (hw _ (List.mem_of_getElem? (i := 41) rfl)) (ty := (.object "com/example/pathlatch/pathlatch/Text")) (by decide) rfl rfl (g := (mkF m 11 #[.val (.ref a1), .val (.ref a2), .val .null] [.null, (.ref a1)])) rfl rfl (hb hby d8_11)
  have N_3 := Fr.snoc X_3 N_2 g_a1
  have fw_3 : Fld Z h_3 a1 "com/example/pathlatch/pathlatch/ParentNode$TextBeside" "after" "Lcom/example/pathlatch/pathlatch/Text;" .null := f_2_2.same W_3
  have f_3_0 : Exa Z h_3 a1 "com/example/pathlatch/pathlatch/ParentNode$TextBeside" := f_2_0.wr W_3
  have f_3_2 : Fld Z h_3 a1 "com/example/pathlatch/pathlatch/ParentNode$TextBeside" "before" "Lcom/example/pathlatch/pathlatch/Text;" (.ref a2) := fw_2.other W_3 (Or.inr (slot_ne (Or.inr (hw _ (List.mem_of_getElem? (i := 53) rfl))) (Or.inr (hw _ (List.mem_of_getElem? (i := 55) rfl))) (by decide) (t := (.object "com/example/pathlatch/pathlatch/Text")) (t' := (.object "com/example/pathlatch/pathlatch/Text")) (by decide) (by decide)))
  have Z_3 : n0 ≤ h_3.size := Nat.le_trans Z_2 (Keep.of_wr W_3).1
  have K_3 : Keep h0 h_3 [a1] := K_2.wr W_3 (Or.inl (List.mem_of_getElem? (i := 0) rfl))
  obtain ⟨fs, hr, hrun, hended, hW, hsame⟩ := X_3.leave (v := none) (fun _ => rfl)
  refine ⟨_, _, pre0 _ ?_, hrun, hended, _, _, rfl, ?_, ⟨_, rfl⟩, hW, hsame.mono (by decide) (by decide)⟩
  · show Steps p.tables e below (s₁.setTop (mkF m 0 #[.val (.ref a1), .val (.ref a2), .val .null] [])) _
    refine XS.aloadN X0.here hx rfl (hb hby d8_0) rfl rfl ?_
    show Steps p.tables e below (s₁.setTop (mkF m 1 #[.val (.ref a1), .val (.ref a2), .val .null] [(.ref a1)])) _
    refine st_1.trans ?_
    show Steps p.tables e below (T_1.setTop (mkF m 4 #[.val (.ref a1), .val (.ref a2), .val .null] [])) _
    refine XS.aloadN X_1.here hx rfl (hb hby d8_4) rfl rfl ?_
    show Steps p.tables e below (T_1.setTop (mkF m 5 #[.val (.ref a1), .val (.ref a2), .val .null] [(.ref a1)])) _
    refine XS.aloadN X_1.here hx rfl (hb hby d8_5) rfl rfl ?_
    show Steps p.tables e below (T_1.setTop (mkF m 6 #[.val (.ref a1), .val (.ref a2), .val .null] [(.ref a2), (.ref a1)])) _
    refine st_2 _ ?_
    show Steps p.tables e below (T_2.setTop (mkF m 9 #[.val (.ref a1), .val (.ref a2), .val .null] [])) _
    refine XS.aloadN X_2.here hx rfl (hb hby d8_9) rfl rfl ?_
    show Steps p.tables e below (T_2.setTop (mkF m 10 #[.val (.ref a1), .val (.ref a2), .val .null] [(.ref a1)])) _
    refine XS.aloadN X_2.here hx rfl (hb hby d8_10) rfl rfl ?_
    show Steps p.tables e below (T_2.setTop (mkF m 11 #[.val (.ref a1), .val (.ref a2), .val .null] [.null, (.ref a1)])) _
    refine st_3 _ ?_
    show Steps p.tables e below (T_3.setTop (mkF m 14 #[.val (.ref a1), .val (.ref a2), .val .null] [])) _
    exact X_3.returnOut hx Bd.returns (hb hby d8_14) hr
  · show Q8_2 Z a1 a2 h0 n0 _ T_3.heap _
    rw [e_3]
    exact ⟨rfl, N_3, K_3, f_3_0, f_3_2, fw_3⟩
theorem ef_8_RNN (m : MethodId) (x0 : Addr) : entryFrame m #[(.ref x0), .null, .null] 3 = mkF m 0 #[.val (.ref x0), .val .null, .val .null] [] := by first | (simp [entryFrame, mkF, argsToLocals, Value.category]; done) | rfl
def Q8_12 (Z : State) (a1 : Addr) (h0 : Heap) (n0 : Nat) (v : Option Value) (h : Heap) (L : List Loc) : Prop := v = none ∧ Fr n0 L ∧ Keep h0 h [a1] ∧ Exa Z h a1 "com/example/pathlatch/pathlatch/ParentNode$TextBeside" ∧ Fld Z h a1 "com/example/pathlatch/pathlatch/ParentNode$TextBeside" "before" "Lcom/example/pathlatch/pathlatch/Text;" .null ∧ Fld Z h a1 "com/example/pathlatch/pathlatch/ParentNode$TextBeside" "after" "Lcom/example/pathlatch/pathlatch/Text;" .null
set_option maxRecDepth 65536 in
set_option maxHeartbeats 40000000 in
theorem rm8_12 (l : Launch) (Z : State) (a0 : Array Value) (hw : ∀ d ∈ tables_1, d.before a0 Z = true) (ws : List Jvm.Cond) (a1 : Addr) (h0 : Heap) (n0 : Nat) (Z0 : n0 ≤ h0.size) (g_a1 : n0 ≤ a1) (F0 : Exa Z h0 a1 "com/example/pathlatch/pathlatch/ParentNode$TextBeside") (F1 : Fld Z h0 a1 "com/example/pathlatch/pathlatch/ParentNode$TextBeside" "before" "Lcom/example/pathlatch/pathlatch/Text;" .null) (F2 : Fld Z h0 a1 "com/example/pathlatch/pathlatch/ParentNode$TextBeside" "after" "Lcom/example/pathlatch/pathlatch/Text;" .null) :
    MetFree l (⟨"com/example/pathlatch/pathlatch/ParentNode$TextBeside", "<init>", "(Lcom/example/pathlatch/pathlatch/Text;Lcom/example/pathlatch/pathlatch/Text;)V"⟩ : MethodName) (head1 (Jvm.Cond.code (⟨"com/example/pathlatch/pathlatch/ParentNode$TextBeside", "<init>", "(Lcom/example/pathlatch/pathlatch/Text;Lcom/example/pathlatch/pathlatch/Text;)V"⟩ : MethodName) prog_62_method_1_code 3 none :: ws) ({ frames := 2, cells := 0, slots := 0, locals := 24 } : Room)) (fun a U => a = #[(.ref a1), .null, .null] ∧ Z.Warmed39 U.vm ∧ U.heap = h0) (fun _ _ _ _ _ => True) (fun _ U o U' => ∃ v L, o = .returned v ∧ Q8_12 Z a1 h0 n0 v U'.heap L ∧ FrameEnd U o U' L ({ frames := 2, cells := 0, slots := 0, locals := 24 } : Room).cells ({ frames := 2, cells := 0, slots := 0, locals := 24 } : Room).slots) := by
  refine MetFree.of_bodySF (plainFor_of_name pn_8) hisR ?_
  intro p e s m args below meth c s₁ Bd hml0 hP hK
  obtain ⟨rfl, hZ, hh⟩ := hP
  have hx := Bd.exec
  have hby := Bd.bytes
  have hml : c.maxLocals = 3 := hml0
  have hown : s.vm.findClass "com/example/pathlatch/pathlatch/ParentNode$TextBeside" = some m.cls := findClass_of_methodNamed Bd.named
  have hnm := (name_of_methodNamed Bd.named Bd.method).1
  have X0 : Stand p l e ({ frames := 2, cells := 0, slots := 0, locals := 24 } : Room) s m #[(.ref a1), .null, .null] below meth c s₁ [] 0 0 := Stand.of_body Bd
  have e0 : s₁.heap = h0 := by rw [← hh, Bd.state]; rfl
  have N0 := Fr.nil n0
  have pre0 : ∀ t, Steps p.tables e below (s₁.setTop (mkF m 0 #[.val (.ref a1), .val .null, .val .null] [])) t → Steps p.tables e below (s₁.setTop (entryFrame m #[(.ref a1), .null, .null] 3)) t := fun t k => castTop (ef_8_RNN m a1) k
  obtain ⟨_, _, ⟨T_1, L_1, k_1, n_1⟩, -, X_1, ⟨Lc_1, hQ_1, l_1, y_1, z_1⟩, st_1⟩ := X0.specialBack hx (y := (⟨"java/lang/Record", "<init>", "()V"⟩ : MethodName)) rfl hown (mvT hZ (hw _ (List.mem_of_getElem? (i := 46) rfl))) (mvT hZ (hw _ (List.mem_of_getElem? (i := 47) rfl))) (mvT hZ (hw _ (List.mem_of_getElem? (i := 50) rfl))) (by decide) (backOf (W := 0) (rm9 l Z a0 hw [] a1 h0 n0 Z0 ) hZ (hw _ (List.mem_of_getElem? (i := 50) rfl)) (hw _ (List.mem_of_getElem? (i := 49) rfl)) (by decide) (by decide)) (g := (mkF m 1 #[.val (.ref a1), .val .null, .val .null] [(.ref a1)])) rfl (by rw [hml]; rfl) (Steps.refl _) (a := a1) (argsL := []) (rest := []) (lenOf pd_4 rfl) rfl (by show 2 * 0 + _ ≤ _; exact Nat.le_of_eq rfl) (hb hby d8_1) (fun _ _ => ⟨rfl, e0, (by decide : 0 + 0 ≤ _), (by decide : 0 + 0 ≤ _)⟩)
  dsimp only [Pt.U, Pt.locs, Pt.cells, Pt.slots] at X_1 l_1 y_1 z_1 st_1 hQ_1
  subst l_1 y_1 z_1
  obtain ⟨rfl, N_1q, e_1⟩ := hQ_1
  have N_1 := Fr.app N0 N_1q
  obtain ⟨T_2, h_2, X_2, e_2, W_2, st_2⟩ := putF X_1 hx hZ hown (host := "") (Or.inl (hw _ (List.mem_of_getElem? (i := 52) rfl))) Via.refl e_1 F1 F0 (Or.inr ⟨(hw _ (List.mem_of_getElem? (i := 53) rfl)), rfl, hnm⟩) (hw _ (List.mem_of_getElem? (i := 41) rfl)) (ty := (.object "com/example/pathlatch/pathlatch/Text")) (by decide) rfl rfl (g := (mkF m 6 #[.val (.ref a1), .val .null, .val .null] [.null, (.ref a1)])) rfl rfl (hb hby d8_6)
  have N_2 := Fr.snoc X_2 N_1 g_a1
  have fw_2 : Fld Z h_2 a1 "com/example/pathlatch/pathlatch/ParentNode$TextBeside" "before" "Lcom/example/pathlatch/pathlatch/Text;" .null := F1.same W_2
  have f_2_0 : Exa Z h_2 a1 "com/example/pathlatch/pathlatch/ParentNode$TextBeside" := F0.wr W_2
  have f_2_2 : Fld Z h_2 a1 "com/example/pathlatch/pathlatch/ParentNode$TextBeside" "after" "Lcom/example/pathlatch/pathlatch/Text;" .null := F2.other W_2 (Or.inr (slot_ne (Or.inr (hw _ (List.mem_of_getElem? (i := 55) rfl))) (Or.inr (hw _ (List.mem_of_getElem? (i := 53) rfl))) (by decide) (t := (.object "com/example/pathlatch/pathlatch/Text")) (t' := (.object "com/example/pathlatch/pathlatch/Text")) (by decide) (by decide)))
  have Z_2 : n0 ≤ h_2.size := Nat.le_trans Z0 (Keep.of_wr W_2).1
  have K_2 : Keep h0 h_2 [a1] := (Keep.refl h0 [a1]).wr W_2 (Or.inl (List.mem_of_getElem? (i := 0) rfl))
  obtain ⟨T_3, h_3, X_3, e_3, W_3, st_3⟩ := putF X_2 hx hZ hown (host := "") (Or.inl (hw _ (List.mem_of_getElem? (i := 54) rfl))) Via.refl e_2 f_2_2 f_2_0 (Or.inr ⟨(hw _ (List.mem_of_getElem? (i := 55) rfl)), rfl, hnm⟩) (hw _ (List.mem_of_getElem? (i := 41) rfl)) (ty := (.object "com/example/pathlatch/pathlatch/Text")) (by decide) rfl rfl (g := (mkF m 11 #[.val (.ref a1), .val .null, .val .null] [.null, (.ref a1)])) rfl rfl (hb hby d8_11)
  have N_3 := Fr.snoc X_3 N_2 g_a1
  have fw_3 : Fld Z h_3 a1 "com/example/pathlatch/pathlatch/ParentNode$TextBeside" "after" "Lcom/example/pathlatch/pathlatch/Text;" .null := f_2_2.same W_3
  have f_3_0 : Exa Z h_3 a1 "com/example/pathlatch/pathlatch/ParentNode$TextBeside" := f_2_0.wr W_3
  have f_3_2 : Fld Z h_3 a1 "com/example/pathlatch/pathlatch/ParentNode$TextBeside" "before" "Lcom/example/pathlatch/pathlatch/Text;" .null := fw_2.other W_3 (Or.inr (slot_ne (Or.inr (hw _ (List.mem_of_getElem? (i := 53) rfl))) (Or.inr (hw _ (List.mem_of_getElem? (i := 55) rfl))) (by decide) (t := (.object "com/example/pathlatch/pathlatch/Text")) (t' := (.object "com/example/pathlatch/pathlatch/Text")) (by decide) (by decide)))
  have Z_3 : n0 ≤ h_3.size := Nat.le_trans Z_2 (Keep.of_wr W_3).1
  have K_3 : Keep h0 h_3 [a1] := K_2.wr W_3 (Or.inl (List.mem_of_getElem? (i := 0) rfl))
  obtain ⟨fs, hr, hrun, hended, hW, hsame⟩ := X_3.leave (v := none) (fun _ => rfl)
  refine ⟨_, _, pre0 _ ?_, hrun, hended, _, _, rfl, ?_, ⟨_, rfl⟩, hW, hsame.mono (by decide) (by decide)⟩
  · show Steps p.tables e below (s₁.setTop (mkF m 0 #[.val (.ref a1), .val .null, .val .null] [])) _
    refine XS.aloadN X0.here hx rfl (hb hby d8_0) rfl rfl ?_
    show Steps p.tables e below (s₁.setTop (mkF m 1 #[.val (.ref a1), .val .null, .val .null] [(.ref a1)])) _
    refine st_1.trans ?_
    show Steps p.tables e below (T_1.setTop (mkF m 4 #[.val (.ref a1), .val .null, .val .null] [])) _
    refine XS.aloadN X_1.here hx rfl (hb hby d8_4) rfl rfl ?_
    show Steps p.tables e below (T_1.setTop (mkF m 5 #[.val (.ref a1), .val .null, .val .null] [(.ref a1)])) _
    refine XS.aloadN X_1.here hx rfl (hb hby d8_5) rfl rfl ?_
    show Steps p.tables e below (T_1.setTop (mkF m 6 #[.val (.ref a1), .val .null, .val .null] [.null, (.ref a1)])) _
    refine st_2 _ ?_
    show Steps p.tables e below (T_2.setTop (mkF m 9 #[.val (.ref a1), .val .null, .val .null] [])) _
    refine XS.aloadN X_2.here hx rfl (hb hby d8_9) rfl rfl ?_
    show Steps p.tables e below (T_2.setTop (mkF m 10 #[.val (.ref a1), .val .null, .val .null] [(.ref a1)])) _
    refine XS.aloadN X_2.here hx rfl (hb hby d8_10) rfl rfl ?_
    show Steps p.tables e below (T_2.setTop (mkF m 11 #[.val (.ref a1), .val .null, .val .null] [.null, (.ref a1)])) _
    refine st_3 _ ?_
    show Steps p.tables e below (T_3.setTop (mkF m 14 #[.val (.ref a1), .val .null, .val .null] [])) _
    exact X_3.returnOut hx Bd.returns (hb hby d8_14) hr
  · show Q8_12 Z a1 h0 n0 _ T_3.heap _
    rw [e_3]
    exact ⟨rfl, N_3, K_3, f_3_0, f_3_2, fw_3⟩
theorem d10_0 : decode prog_62_method_3_code 0 = .ok (.aload_n 0, 1) := by decide +kernel
theorem d10_1 : decode prog_62_method_3_code 1 = .ok (.getfield 7, 3) := by decide +kernel
theorem d10_4 : decode prog_62_method_3_code 4 = .ok (.ifnonnull 10, 3) := by decide +kernel
theorem d10_14 : decode prog_62_method_3_code 14 = .ok (.iconst 1, 1) := by decide +kernel
theorem d10_15 : decode prog_62_method_3_code 15 = .ok (.goto 4, 3) := by decide +kernel
theorem d10_19 : decode prog_62_method_3_code 19 = .ok (.ireturn, 1) := by decide +kernel
theorem ef_10_R (m : MethodId) (x0 : Addr) : entryFrame m #[(.ref x0)] 1 = mkF m 0 #[.val (.ref x0)] [] := by first | (simp [entryFrame, mkF, argsToLocals, Value.category]; done) | rfl
def Q10_1 (Z : State) (a1 : Addr) (u3 : Addr) (h0 : Heap) (n0 : Nat) (v : Option Value) (h : Heap) (L : List Loc) : Prop := v = some (.int (1 : Int32)) ∧ Fr n0 L ∧ h = h0
theorem pn_10 : plainName "com/example/pathlatch/pathlatch/ParentNode$TextBeside" = true := by first | (simp [plainName, overriddenIn]; done) | decide +kernel
set_option maxRecDepth 65536 in
set_option maxHeartbeats 40000000 in
theorem rm10_1 (l : Launch) (Z : State) (a0 : Array Value) (hw : ∀ d ∈ tables_1, d.before a0 Z = true) (ws : List Jvm.Cond) (a1 : Addr) (u3 : Addr) (h0 : Heap) (n0 : Nat) (Z0 : n0 ≤ h0.size) (F0 : Fld Z h0 a1 "com/example/pathlatch/pathlatch/ParentNode$TextBeside" "before" "Lcom/example/pathlatch/pathlatch/Text;" (.ref u3)) :
    MetFree l (⟨"com/example/pathlatch/pathlatch/ParentNode$TextBeside", "any", "()Z"⟩ : MethodName) (head1 (Jvm.Cond.code (⟨"com/example/pathlatch/pathlatch/ParentNode$TextBeside", "any", "()Z"⟩ : MethodName) prog_62_method_3_code 1 (some .boolean) :: ws) ({ frames := 0, cells := 0, slots := 0, locals := 0 } : Room)) (fun a U => a = #[(.ref a1)] ∧ Z.Warmed39 U.vm ∧ U.heap = h0) (fun _ _ _ _ _ => True) (fun _ U o U' => ∃ v L, o = .returned v ∧ Q10_1 Z a1 u3 h0 n0 v U'.heap L ∧ FrameEnd U o U' L ({ frames := 0, cells := 0, slots := 0, locals := 0 } : Room).cells ({ frames := 0, cells := 0, slots := 0, locals := 0 } : Room).slots) := by
  refine MetFree.of_bodySF (plainFor_of_name pn_10) hisR ?_
  intro p e s m args below meth c s₁ Bd hml0 hP hK
  obtain ⟨rfl, hZ, hh⟩ := hP
  have hx := Bd.exec
  have hby := Bd.bytes
  have hml : c.maxLocals = 1 := hml0
  have hown : s.vm.findClass "com/example/pathlatch/pathlatch/ParentNode$TextBeside" = some m.cls := findClass_of_methodNamed Bd.named
  have hnm := (name_of_methodNamed Bd.named Bd.method).1
  have X0 : Stand p l e ({ frames := 0, cells := 0, slots := 0, locals := 0 } : Room) s m #[(.ref a1)] below meth c s₁ [] 0 0 := Stand.of_body Bd
  have e0 : s₁.heap = h0 := by rw [← hh, Bd.state]; rfl
  have N0 := Fr.nil n0
  have pre0 : ∀ t, Steps p.tables e below (s₁.setTop (mkF m 0 #[.val (.ref a1)] [])) t → Steps p.tables e below (s₁.setTop (entryFrame m #[(.ref a1)] 1)) t := fun t k => castTop (ef_10_R m a1) k
  obtain ⟨T_1, X_1, e_1, st_1⟩ := getF X0 hx hZ hown (host := "") (Or.inl (hw _ (List.mem_of_getElem? (i := 52) rfl))) Via.refl e0 F0 (g := (mkF m 1 #[.val (.ref a1)] [(.ref a1)])) rfl rfl (hb hby d10_1)
  obtain ⟨fs, hr, hrun, hended, hW, hsame⟩ := X_1.leave (v := some (.int (1 : Int32))) (fun h => by rw [Bd.returns] at h; cases h)
  refine ⟨_, _, pre0 _ ?_, hrun, hended, _, _, rfl, ?_, ⟨_, rfl⟩, hW, hsame.mono (by decide) (by decide)⟩
  · show Steps p.tables e below (s₁.setTop (mkF m 0 #[.val (.ref a1)] [])) _
    refine XS.aloadN X0.here hx rfl (hb hby d10_0) rfl rfl ?_
    show Steps p.tables e below (s₁.setTop (mkF m 1 #[.val (.ref a1)] [(.ref a1)])) _
    refine st_1 _ ?_
    show Steps p.tables e below (T_1.setTop (mkF m 4 #[.val (.ref a1)] [(.ref u3)])) _
    refine XS.ifnonnullYes X_1.here hx rfl (pc0 := 4) (pc' := 14) rfl (hb hby d10_4) rfl (by decide) (by decide) ?_
    show Steps p.tables e below (T_1.setTop (mkF m 14 #[.val (.ref a1)] [])) _
    refine XS.iconst X_1.here hx rfl (hb hby d10_14) ?_
    show Steps p.tables e below (T_1.setTop (mkF m 15 #[.val (.ref a1)] [(.int (1 : Int32))])) _
    refine XS.goto X_1.here hx rfl (pc0 := 15) (pc' := 19) rfl (hb hby d10_15) (by decide) (by decide) ?_
    show Steps p.tables e below (T_1.setTop (mkF m 19 #[.val (.ref a1)] [(.int (1 : Int32))])) _
    exact retN X_1 hx (t := .boolean) Bd.returns (by simp) (hb hby d10_19) hr
  · show Q10_1 Z a1 u3 h0 n0 _ T_1.heap _
    rw [e_1]
    exact ⟨rfl, N0, rfl⟩
theorem d10_7 : decode prog_62_method_3_code 7 = .ok (.aload_n 0, 1) := by decide +kernel
theorem d10_8 : decode prog_62_method_3_code 8 = .ok (.getfield 13, 3) := by decide +kernel
theorem d10_11 : decode prog_62_method_3_code 11 = .ok (.ifnull 7, 3) := by decide +kernel
def Q10_2 (Z : State) (a1 : Addr) (u3 : Addr) (h0 : Heap) (n0 : Nat) (v : Option Value) (h : Heap) (L : List Loc) : Prop := v = some (.int (1 : Int32)) ∧ Fr n0 L ∧ h = h0
set_option maxRecDepth 65536 in
set_option maxHeartbeats 40000000 in
theorem rm10_2 (l : Launch) (Z : State) (a0 : Array Value) (hw : ∀ d ∈ tables_1, d.before a0 Z = true) (ws : List Jvm.Cond) (a1 : Addr) (u3 : Addr) (h0 : Heap) (n0 : Nat) (Z0 : n0 ≤ h0.size) (F0 : Fld Z h0 a1 "com/example/pathlatch/pathlatch/ParentNode$TextBeside" "before" "Lcom/example/pathlatch/pathlatch/Text;" .null) (F1 : Fld Z h0 a1 "com/example/pathlatch/pathlatch/ParentNode$TextBeside" "after" "Lcom/example/pathlatch/pathlatch/Text;" (.ref u3)) :
    MetFree l (⟨"com/example/pathlatch/pathlatch/ParentNode$TextBeside", "any", "()Z"⟩ : MethodName) (head1 (Jvm.Cond.code (⟨"com/example/pathlatch/pathlatch/ParentNode$TextBeside", "any", "()Z"⟩ : MethodName) prog_62_method_3_code 1 (some .boolean) :: ws) ({ frames := 0, cells := 0, slots := 0, locals := 0 } : Room)) (fun a U => a = #[(.ref a1)] ∧ Z.Warmed39 U.vm ∧ U.heap = h0) (fun _ _ _ _ _ => True) (fun _ U o U' => ∃ v L, o = .returned v ∧ Q10_2 Z a1 u3 h0 n0 v U'.heap L ∧ FrameEnd U o U' L ({ frames := 0, cells := 0, slots := 0, locals := 0 } : Room).cells ({ frames := 0, cells := 0, slots := 0, locals := 0 } : Room).slots) := by
  refine MetFree.of_bodySF (plainFor_of_name pn_10) hisR ?_
  intro p e s m args below meth c s₁ Bd hml0 hP hK
  obtain ⟨rfl, hZ, hh⟩ := hP
  have hx := Bd.exec
  have hby := Bd.bytes
  have hml : c.maxLocals = 1 := hml0
  have hown : s.vm.findClass "com/example/pathlatch/pathlatch/ParentNode$TextBeside" = some m.cls := findClass_of_methodNamed Bd.named
  have hnm := (name_of_methodNamed Bd.named Bd.method).1
  have X0 : Stand p l e ({ frames := 0, cells := 0, slots := 0, locals := 0 } : Room) s m #[(.ref a1)] below meth c s₁ [] 0 0 := Stand.of_body Bd
  have e0 : s₁.heap = h0 := by rw [← hh, Bd.state]; rfl
  have N0 := Fr.nil n0
  have pre0 : ∀ t, Steps p.tables e below (s₁.setTop (mkF m 0 #[.val (.ref a1)] [])) t → Steps p.tables e below (s₁.setTop (entryFrame m #[(.ref a1)] 1)) t := fun t k => castTop (ef_10_R m a1) k
  obtain ⟨T_1, X_1, e_1, st_1⟩ := getF X0 hx hZ hown (host := "") (Or.inl (hw _ (List.mem_of_getElem? (i := 52) rfl))) Via.refl e0 F0 (g := (mkF m 1 #[.val (.ref a1)] [(.ref a1)])) rfl rfl (hb hby d10_1)
  obtain ⟨T_2, X_2, e_2, st_2⟩ := getF X_1 hx hZ hown (host := "") (Or.inl (hw _ (List.mem_of_getElem? (i := 54) rfl))) Via.refl e_1 F1 (g := (mkF m 8 #[.val (.ref a1)] [(.ref a1)])) rfl rfl (hb hby d10_8)
  obtain ⟨fs, hr, hrun, hended, hW, hsame⟩ := X_2.leave (v := some (.int (1 : Int32))) (fun h => by rw [Bd.returns] at h; cases h)
  refine ⟨_, _, pre0 _ ?_, hrun, hended, _, _, rfl, ?_, ⟨_, rfl⟩, hW, hsame.mono (by decide) (by decide)⟩
  · show Steps p.tables e below (s₁.setTop (mkF m 0 #[.val (.ref a1)] [])) _
    refine XS.aloadN X0.here hx rfl (hb hby d10_0) rfl rfl ?_
    show Steps p.tables e below (s₁.setTop (mkF m 1 #[.val (.ref a1)] [(.ref a1)])) _
    refine st_1 _ ?_
    show Steps p.tables e below (T_1.setTop (mkF m 4 #[.val (.ref a1)] [.null])) _
    refine XS.ifnonnullNo X_1.here hx rfl (hb hby d10_4) rfl ?_
    show Steps p.tables e below (T_1.setTop (mkF m 7 #[.val (.ref a1)] [])) _
    refine XS.aloadN X_1.here hx rfl (hb hby d10_7) rfl rfl ?_
    show Steps p.tables e below (T_1.setTop (mkF m 8 #[.val (.ref a1)] [(.ref a1)])) _
    refine st_2 _ ?_
    show Steps p.tables e below (T_2.setTop (mkF m 11 #[.val (.ref a1)] [(.ref u3)])) _
    refine XS.ifnullNo X_2.here hx rfl (hb hby d10_11) rfl ?_
    show Steps p.tables e below (T_2.setTop (mkF m 14 #[.val (.ref a1)] [])) _
    refine XS.iconst X_2.here hx rfl (hb hby d10_14) ?_
    show Steps p.tables e below (T_2.setTop (mkF m 15 #[.val (.ref a1)] [(.int (1 : Int32))])) _
    refine XS.goto X_2.here hx rfl (pc0 := 15) (pc' := 19) rfl (hb hby d10_15) (by decide) (by decide) ?_
    show Steps p.tables e below (T_2.setTop (mkF m 19 #[.val (.ref a1)] [(.int (1 : Int32))])) _
    exact retN X_2 hx (t := .boolean) Bd.returns (by simp) (hb hby d10_19) hr
  · show Q10_2 Z a1 u3 h0 n0 _ T_2.heap _
    rw [e_2]
    exact ⟨rfl, N0, rfl⟩
theorem d10_18 : decode prog_62_method_3_code 18 = .ok (.iconst 0, 1) := by decide +kernel
def Q10_3 (Z : State) (a1 : Addr) (h0 : Heap) (n0 : Nat) (v : Option Value) (h : Heap) (L : List Loc) : Prop := v = some (.int (0 : Int32)) ∧ Fr n0 L ∧ h = h0
set_option maxRecDepth 65536 in
set_option maxHeartbeats 40000000 in
theorem rm10_3 (l : Launch) (Z : State) (a0 : Array Value) (hw : ∀ d ∈ tables_1, d.before a0 Z = true) (ws : List Jvm.Cond) (a1 : Addr) (h0 : Heap) (n0 : Nat) (Z0 : n0 ≤ h0.size) (F0 : Fld Z h0 a1 "com/example/pathlatch/pathlatch/ParentNode$TextBeside" "before" "Lcom/example/pathlatch/pathlatch/Text;" .null) (F1 : Fld Z h0 a1 "com/example/pathlatch/pathlatch/ParentNode$TextBeside" "after" "Lcom/example/pathlatch/pathlatch/Text;" .null) :
    MetFree l (⟨"com/example/pathlatch/pathlatch/ParentNode$TextBeside", "any", "()Z"⟩ : MethodName) (head1 (Jvm.Cond.code (⟨"com/example/pathlatch/pathlatch/ParentNode$TextBeside", "any", "()Z"⟩ : MethodName) prog_62_method_3_code 1 (some .boolean) :: ws) ({ frames := 0, cells := 0, slots := 0, locals := 0 } : Room)) (fun a U => a = #[(.ref a1)] ∧ Z.Warmed39 U.vm ∧ U.heap = h0) (fun _ _ _ _ _ => True) (fun _ U o U' => ∃ v L, o = .returned v ∧ Q10_3 Z a1 h0 n0 v U'.heap L ∧ FrameEnd U o U' L ({ frames := 0, cells := 0, slots := 0, locals := 0 } : Room).cells ({ frames := 0, cells := 0, slots := 0, locals := 0 } : Room).slots) := by
  refine MetFree.of_bodySF (plainFor_of_name pn_10) hisR ?_
  intro p e s m args below meth c s₁ Bd hml0 hP hK
  obtain ⟨rfl, hZ, hh⟩ := hP
  have hx := Bd.exec
  have hby := Bd.bytes
  have hml : c.maxLocals = 1 := hml0
  have hown : s.vm.findClass "com/example/pathlatch/pathlatch/ParentNode$TextBeside" = some m.cls := findClass_of_methodNamed Bd.named
  have hnm := (name_of_methodNamed Bd.named Bd.method).1
  have X0 : Stand p l e ({ frames := 0, cells := 0, slots := 0, locals := 0 } : Room) s m #[(.ref a1)] below meth c s₁ [] 0 0 := Stand.of_body Bd
  have e0 : s₁.heap = h0 := by rw [← hh, Bd.state]; rfl
  have N0 := Fr.nil n0
  have pre0 : ∀ t, Steps p.tables e below (s₁.setTop (mkF m 0 #[.val (.ref a1)] [])) t → Steps p.tables e below (s₁.setTop (entryFrame m #[(.ref a1)] 1)) t := fun t k => castTop (ef_10_R m a1) k
  obtain ⟨T_1, X_1, e_1, st_1⟩ := getF X0 hx hZ hown (host := "") (Or.inl (hw _ (List.mem_of_getElem? (i := 52) rfl))) Via.refl e0 F0 (g := (mkF m 1 #[.val (.ref a1)] [(.ref a1)])) rfl rfl (hb hby d10_1)
  obtain ⟨T_2, X_2, e_2, st_2⟩ := getF X_1 hx hZ hown (host := "") (Or.inl (hw _ (List.mem_of_getElem? (i := 54) rfl))) Via.refl e_1 F1 (g := (mkF m 8 #[.val (.ref a1)] [(.ref a1)])) rfl rfl (hb hby d10_8)
  obtain ⟨fs, hr, hrun, hended, hW, hsame⟩ := X_2.leave (v := some (.int (0 : Int32))) (fun h => by rw [Bd.returns] at h; cases h)
  refine ⟨_, _, pre0 _ ?_, hrun, hended, _, _, rfl, ?_, ⟨_, rfl⟩, hW, hsame.mono (by decide) (by decide)⟩
  · show Steps p.tables e below (s₁.setTop (mkF m 0 #[.val (.ref a1)] [])) _
    refine XS.aloadN X0.here hx rfl (hb hby d10_0) rfl rfl ?_
    show Steps p.tables e below (s₁.setTop (mkF m 1 #[.val (.ref a1)] [(.ref a1)])) _
    refine st_1 _ ?_
    show Steps p.tables e below (T_1.setTop (mkF m 4 #[.val (.ref a1)] [.null])) _
    refine XS.ifnonnullNo X_1.here hx rfl (hb hby d10_4) rfl ?_
    show Steps p.tables e below (T_1.setTop (mkF m 7 #[.val (.ref a1)] [])) _
    refine XS.aloadN X_1.here hx rfl (hb hby d10_7) rfl rfl ?_
    show Steps p.tables e below (T_1.setTop (mkF m 8 #[.val (.ref a1)] [(.ref a1)])) _
    refine st_2 _ ?_
    show Steps p.tables e below (T_2.setTop (mkF m 11 #[.val (.ref a1)] [.null])) _
    refine XS.ifnullYes X_2.here hx rfl (pc0 := 11) (pc' := 18) rfl (hb hby d10_11) rfl (by decide) (by decide) ?_
    show Steps p.tables e below (T_2.setTop (mkF m 18 #[.val (.ref a1)] [])) _
    refine XS.iconst X_2.here hx rfl (hb hby d10_18) ?_
    show Steps p.tables e below (T_2.setTop (mkF m 19 #[.val (.ref a1)] [(.int (0 : Int32))])) _
    exact retN X_2 hx (t := .boolean) Bd.returns (by simp) (hb hby d10_19) hr
  · show Q10_3 Z a1 h0 n0 _ T_2.heap _
    rw [e_2]
    exact ⟨rfl, N0, rfl⟩
theorem pd_5 : parseMethodDescriptor "(C)Ljava/lang/String;" = some ⟨[.char], some (.object "java/lang/String")⟩ := by decide +kernel
theorem pd_6 : parseMethodDescriptor "(Ljava/lang/String;)V" = some ⟨[(.object "java/lang/String")], none⟩ := by decide +kernel
theorem pd_7 : parseMethodDescriptor "(Lcom/example/pathlatch/pathlatch/Text;Lcom/example/pathlatch/pathlatch/Text;)V" = some ⟨[(.object "com/example/pathlatch/pathlatch/Text"), (.object "com/example/pathlatch/pathlatch/Text")], none⟩ := by decide +kernel
theorem pd_8 : parseMethodDescriptor "()Z" = some ⟨[], some .boolean⟩ := by decide +kernel
theorem ef_0_II (m : MethodId) (x0 : Int32) (x1 : Int32) : entryFrame m #[(.int x0), (.int x1)] maxLocals = mkF m 0 #[.val (.int x0), .val (.int x1), .unset, .unset, .unset, .unset, .unset, .unset, .unset, .unset, .unset] [] := by first | (simp [entryFrame, mkF, argsToLocals, Value.category, maxLocals]; done) | rfl
def Q0 (n0 : Nat) (v : Option Value) (h : Heap) (L : List Loc) : Prop := v = some (.int (1 : Int32)) ∧ Fr n0 L
theorem pn_0 : plainName "com/example/pathlatch/pathlatch/TextBesideAnyPinLaw" = true := by first | (simp [plainName, overriddenIn]; done) | decide +kernel
set_option maxRecDepth 65536 in
set_option maxHeartbeats 40000000 in
theorem rm0 (l : Launch) (Z : State) (a0 : Array Value) (hw : ∀ d ∈ tables_1, d.before a0 Z = true) (ws : List Jvm.Cond) (p1 : Int32) (p2 : Int32) (w9 : Int32) (h0 : Heap) (n0 : Nat) (Z0 : n0 ≤ h0.size) (F0 : Sta Z h0 "java/lang/String" "COMPACT_STRINGS" "Z" (.int w9)) (hw9 : ¬ (w9 = (0 : Int32))) :
    MetFree l x (head1 (Jvm.Cond.code x code maxLocals ret :: ws) room_1) (fun a U => a = #[(.int p1), (.int p2)] ∧ Z.Warmed39 U.vm ∧ U.heap = h0) (fun _ _ _ _ _ => True) (fun _ U o U' => ∃ v L, o = .returned v ∧ Q0 n0 v U'.heap L ∧ FrameEnd U o U' L room_1.cells room_1.slots) := by
  refine MetFree.of_bodySF (plainFor_of_name pn_0) hisR ?_
  intro p e s m args below meth c s₁ Bd hml0 hP hK
  obtain ⟨rfl, hZ, hh⟩ := hP
  have hx := Bd.exec
  have hby := Bd.bytes
  have hml : c.maxLocals = 11 := hml0
  have hown : s.vm.findClass "com/example/pathlatch/pathlatch/TextBesideAnyPinLaw" = some m.cls := findClass_of_methodNamed Bd.named
  have hnm := (name_of_methodNamed Bd.named Bd.method).1
  have X0 : Stand p l e room_1 s m #[(.int p1), (.int p2)] below meth c s₁ [] 0 0 := Stand.of_body Bd
  have e0 : s₁.heap = h0 := by rw [← hh, Bd.state]; rfl
  have N0 := Fr.nil n0
  have pre0 : ∀ t, Steps p.tables e below (s₁.setTop (mkF m 0 #[.val (.int p1), .val (.int p2), .unset, .unset, .unset, .unset, .unset, .unset, .unset, .unset, .unset] [])) t → Steps p.tables e below (s₁.setTop (entryFrame m #[(.int p1), (.int p2)] maxLocals)) t := fun t k => castTop (ef_0_II m p1 p2) k
  have pr_1 : ∀ t, Steps p.tables e below (s₁.setTop (mkF m 3 #[.val (.int p1), .val (.int p2), .unset, .unset, .unset, .unset, .unset, .unset, .unset, .unset, .unset] [(.int (p1 &&& (1 : Int32)))])) t → Steps p.tables e below (s₁.setTop (entryFrame m #[(.int p1), (.int p2)] maxLocals)) t := fun t k => by
    refine pre0 _ ?_
    show Steps p.tables e below (s₁.setTop (mkF m 0 #[.val (.int p1), .val (.int p2), .unset, .unset, .unset, .unset, .unset, .unset, .unset, .unset, .unset] [])) _
    refine XS.iloadN X0.here hx rfl (hb hby at_0) rfl ?_
    show Steps p.tables e below (s₁.setTop (mkF m 1 #[.val (.int p1), .val (.int p2), .unset, .unset, .unset, .unset, .unset, .unset, .unset, .unset, .unset] [(.int p1)])) _
    refine XS.iconst X0.here hx rfl (hb hby at_1) ?_
    show Steps p.tables e below (s₁.setTop (mkF m 2 #[.val (.int p1), .val (.int p2), .unset, .unset, .unset, .unset, .unset, .unset, .unset, .unset, .unset] [(.int (1 : Int32)), (.int p1)])) _
    refine XS.iand X0.here hx rfl (hb hby at_2) rfl ?_
    exact k
  by_cases hc_2 : (p1 &&& (1 : Int32)) = (0 : Int32)
  · have pr_3 : ∀ t, Steps p.tables e below (s₁.setTop (mkF m 15 #[.val (.int p1), .val (.int p2), .val (.int (0 : Int32)), .unset, .unset, .unset, .unset, .unset, .unset, .unset, .unset] [(.int (p1 &&& (2 : Int32)))])) t → Steps p.tables e below (s₁.setTop (entryFrame m #[(.int p1), (.int p2)] maxLocals)) t := fun t k => by
      refine pr_1 _ ?_
      show Steps p.tables e below (s₁.setTop (mkF m 3 #[.val (.int p1), .val (.int p2), .unset, .unset, .unset, .unset, .unset, .unset, .unset, .unset, .unset] [(.int (p1 &&& (1 : Int32)))])) _
      refine XS.ifYes X0.here hx rfl (pc0 := 3) (pc' := 10) rfl (hb hby at_3) rfl ((if0 _ _).trans (teq hc_2).1) (by decide) (by decide) ?_
      show Steps p.tables e below (s₁.setTop (mkF m 10 #[.val (.int p1), .val (.int p2), .unset, .unset, .unset, .unset, .unset, .unset, .unset, .unset, .unset] [])) _
      refine XS.iconst X0.here hx rfl (hb hby at_10) ?_
      show Steps p.tables e below (s₁.setTop (mkF m 11 #[.val (.int p1), .val (.int p2), .unset, .unset, .unset, .unset, .unset, .unset, .unset, .unset, .unset] [(.int (0 : Int32))])) _
      refine XS.istoreN X0.here hx rfl (hb hby at_11) rfl (l' := #[.val (.int p1), .val (.int p2), .val (.int (0 : Int32)), .unset, .unset, .unset, .unset, .unset, .unset, .unset, .unset]) rfl ?_
      show Steps p.tables e below (s₁.setTop (mkF m 12 #[.val (.int p1), .val (.int p2), .val (.int (0 : Int32)), .unset, .unset, .unset, .unset, .unset, .unset, .unset, .unset] [])) _
      refine XS.iloadN X0.here hx rfl (hb hby at_12) rfl ?_
      show Steps p.tables e below (s₁.setTop (mkF m 13 #[.val (.int p1), .val (.int p2), .val (.int (0 : Int32)), .unset, .unset, .unset, .unset, .unset, .unset, .unset, .unset] [(.int p1)])) _
      refine XS.iconst X0.here hx rfl (hb hby at_13) ?_
      show Steps p.tables e below (s₁.setTop (mkF m 14 #[.val (.int p1), .val (.int p2), .val (.int (0 : Int32)), .unset, .unset, .unset, .unset, .unset, .unset, .unset, .unset] [(.int (2 : Int32)), (.int p1)])) _
      refine XS.iand X0.here hx rfl (hb hby at_14) rfl ?_
      exact k
    by_cases hc_4 : (p1 &&& (2 : Int32)) = (0 : Int32)
    · have pr_5 : ∀ t, Steps p.tables e below (s₁.setTop (mkF m 27 #[.val (.int p1), .val (.int p2), .val (.int (0 : Int32)), .val (.int (0 : Int32)), .unset, .unset, .unset, .unset, .unset, .unset, .unset] [(.int (p1 &&& (4 : Int32)))])) t → Steps p.tables e below (s₁.setTop (entryFrame m #[(.int p1), (.int p2)] maxLocals)) t := fun t k => by
        refine pr_3 _ ?_
        show Steps p.tables e below (s₁.setTop (mkF m 15 #[.val (.int p1), .val (.int p2), .val (.int (0 : Int32)), .unset, .unset, .unset, .unset, .unset, .unset, .unset, .unset] [(.int (p1 &&& (2 : Int32)))])) _
        refine XS.ifYes X0.here hx rfl (pc0 := 15) (pc' := 22) rfl (hb hby at_15) rfl ((if0 _ _).trans (teq hc_4).1) (by decide) (by decide) ?_
        show Steps p.tables e below (s₁.setTop (mkF m 22 #[.val (.int p1), .val (.int p2), .val (.int (0 : Int32)), .unset, .unset, .unset, .unset, .unset, .unset, .unset, .unset] [])) _
        refine XS.iconst X0.here hx rfl (hb hby at_22) ?_
        show Steps p.tables e below (s₁.setTop (mkF m 23 #[.val (.int p1), .val (.int p2), .val (.int (0 : Int32)), .unset, .unset, .unset, .unset, .unset, .unset, .unset, .unset] [(.int (0 : Int32))])) _
        refine XS.istoreN X0.here hx rfl (hb hby at_23) rfl (l' := #[.val (.int p1), .val (.int p2), .val (.int (0 : Int32)), .val (.int (0 : Int32)), .unset, .unset, .unset, .unset, .unset, .unset, .unset]) rfl ?_
        show Steps p.tables e below (s₁.setTop (mkF m 24 #[.val (.int p1), .val (.int p2), .val (.int (0 : Int32)), .val (.int (0 : Int32)), .unset, .unset, .unset, .unset, .unset, .unset, .unset] [])) _
        refine XS.iloadN X0.here hx rfl (hb hby at_24) rfl ?_
        show Steps p.tables e below (s₁.setTop (mkF m 25 #[.val (.int p1), .val (.int p2), .val (.int (0 : Int32)), .val (.int (0 : Int32)), .unset, .unset, .unset, .unset, .unset, .unset, .unset] [(.int p1)])) _
        refine XS.iconst X0.here hx rfl (hb hby at_25) ?_
        show Steps p.tables e below (s₁.setTop (mkF m 26 #[.val (.int p1), .val (.int p2), .val (.int (0 : Int32)), .val (.int (0 : Int32)), .unset, .unset, .unset, .unset, .unset, .unset, .unset] [(.int (4 : Int32)), (.int p1)])) _
        refine XS.iand X0.here hx rfl (hb hby at_26) rfl ?_
        exact k
      by_cases hc_6 : (p1 &&& (4 : Int32)) = (0 : Int32)
      · obtain ⟨T_7, h_7, X_7, e_7, E_7, A_7, D_7, -, st_7⟩ := newO X0 hx hZ hown (hw _ (List.mem_of_getElem? (i := 0) rfl)) (hw _ (List.mem_of_getElem? (i := 1) rfl)) (hw _ (List.mem_of_getElem? (i := 2) rfl)) e0 (g := (mkF m 37 #[.val (.int p1), .val (.int p2), .val (.int (0 : Int32)), .val (.int (0 : Int32)), .val (.int (0 : Int32)), .unset, .unset, .unset, .unset, .unset, .unset] [])) rfl (hb hby at_37) (by decide) (by decide)
        obtain ⟨b_7, g_7⟩ : ∃ z, z = h0.size := ⟨_, rfl⟩
        rw [← g_7] at A_7 D_7 st_7
        have g_b_7 : n0 ≤ b_7 := Nat.le_trans Z0 (Nat.le_of_eq g_7.symm)
        have sz_b_7 : h0.size ≤ b_7 := Nat.le_trans ((Keep.refl h0 [])).1 (Nat.le_of_eq g_7.symm)
        have f_7_0 : Sta Z h_7 "java/lang/String" "COMPACT_STRINGS" "Z" (.int w9) := F0.ext E_7
        have Z_7 : n0 ≤ h_7.size := Nat.le_trans Z0 E_7.1
        have K_7 : Keep h0 h_7 [] := (Keep.refl h0 []).ext E_7
        have fd_7_39 : Fld Z h_7 b_7 "com/example/pathlatch/pathlatch/Text" "value" "Ljava/lang/String;" .null := D_7 (Or.inl (hw _ (List.mem_of_getElem? (i := 39) rfl))) (ty := (.object "java/lang/String")) (by decide)
        obtain ⟨_, _, ⟨T_8, L_8, k_8, n_8⟩, -, X_8, ⟨Lc_8, hQ_8, l_8, y_8, z_8⟩, st_8⟩ := Jvm.LawKit.callS X_7 hx (y := (⟨"java/lang/String", "valueOf", "(C)Ljava/lang/String;"⟩ : MethodName)) hown (mvT hZ (hw _ (List.mem_of_getElem? (i := 3) rfl))) (mvT hZ (hw _ (List.mem_of_getElem? (i := 4) rfl))) (mvT hZ (hw _ (List.mem_of_getElem? (i := 5) rfl))) (mvT hZ (hw _ (List.mem_of_getElem? (i := 6) rfl))) (by decide) (backOf (W := 2) (rm1 l Z a0 hw [] ((p2 &&& (255 : Int32)).toUInt32.toUInt16.toUInt32.toInt32) w9 h_7 n0 Z_7 f_7_0 hw9 (own_ch1 p2)) hZ (hw _ (List.mem_of_getElem? (i := 6) rfl)) (hw _ (List.mem_of_getElem? (i := 5) rfl)) (by decide) (by decide)) (g := (mkF m 47 #[.val (.int p1), .val (.int p2), .val (.int (0 : Int32)), .val (.int (0 : Int32)), .val (.int (0 : Int32)), .unset, .unset, .unset, .unset, .unset, .unset] [(.int ((p2 &&& (255 : Int32)).toUInt32.toUInt16.toUInt32.toInt32)), (.ref b_7), (.ref b_7)])) rfl (by rw [hml]; rfl) (argsL := [(.int ((p2 &&& (255 : Int32)).toUInt32.toUInt16.toUInt32.toInt32))]) (rest := [(.ref b_7), (.ref b_7)]) (lenOf pd_5 rfl) rfl (by show 2 * 0 + _ ≤ _; exact Nat.le_of_eq rfl) (hb hby at_47) (fun _ _ => ⟨rfl, e_7, (by decide : 1 + 2 ≤ _), (by decide : 4 + 5 ≤ _)⟩)
        dsimp only [Pt.U, Pt.locs, Pt.cells, Pt.slots] at X_8 l_8 y_8 z_8 st_8 hQ_8
        subst l_8 y_8 z_8
        obtain ⟨r_8, rfl, N_8q, Kc_8⟩ := hQ_8
        have f_8_0 : Sta Z T_8.heap "java/lang/String" "COMPACT_STRINGS" "Z" (.int w9) := own_sta_keep0 f_7_0 Kc_8
        have f_8_1 : Exa Z T_8.heap b_7 "com/example/pathlatch/pathlatch/Text" := A_7.keep Kc_8
        have f_8_2 : Fld Z T_8.heap b_7 "com/example/pathlatch/pathlatch/Text" "value" "Ljava/lang/String;" .null := fd_7_39.keep Kc_8 (List.not_mem_nil)
        have Z_8 : n0 ≤ T_8.heap.size := Nat.le_trans Z_7 Kc_8.1
        have K_8 : Keep h0 T_8.heap [] := K_7.trans Kc_8 (fun x hx => nomatch hx)
        have N_8 := Fr.app N0 N_8q
        obtain ⟨_, _, ⟨T_9, L_9, k_9, n_9⟩, -, X_9, ⟨Lc_9, hQ_9, l_9, y_9, z_9⟩, st_9⟩ := X_8.specialBack hx (y := (⟨"com/example/pathlatch/pathlatch/Text", "<init>", "(Ljava/lang/String;)V"⟩ : MethodName)) rfl hown (mvT hZ (hw _ (List.mem_of_getElem? (i := 29) rfl))) (mvT hZ (hw _ (List.mem_of_getElem? (i := 30) rfl))) (mvT hZ (hw _ (List.mem_of_getElem? (i := 31) rfl))) (by decide) (backOf (W := 1) (rm6 l Z a0 hw [] b_7 r_8 T_8.heap n0 Z_8 g_b_7 f_8_1 f_8_2) hZ (hw _ (List.mem_of_getElem? (i := 31) rfl)) (hw _ (List.mem_of_getElem? (i := 2) rfl)) (by decide) (by decide)) (g := (mkF m 50 #[.val (.int p1), .val (.int p2), .val (.int (0 : Int32)), .val (.int (0 : Int32)), .val (.int (0 : Int32)), .unset, .unset, .unset, .unset, .unset, .unset] [(.ref r_8), (.ref b_7), (.ref b_7)])) rfl (by rw [hml]; rfl) (Steps.refl _) (a := b_7) (argsL := [(.ref r_8)]) (rest := [(.ref b_7)]) (lenOf pd_6 rfl) rfl (by show 2 * 0 + _ ≤ _; exact Nat.le_of_eq rfl) (hb hby at_50) (fun _ _ => ⟨rfl, rfl, (by decide : 3 + 0 ≤ _), (by decide : 9 + 0 ≤ _)⟩)
        dsimp only [Pt.U, Pt.locs, Pt.cells, Pt.slots] at X_9 l_9 y_9 z_9 st_9 hQ_9
        subst l_9 y_9 z_9
        obtain ⟨rfl, N_9q, Kc_9, o_9_0⟩ := hQ_9
        have f_9_0 : Sta Z T_9.heap "java/lang/String" "COMPACT_STRINGS" "Z" (.int w9) := own_sta_keep f_8_0 f_8_1 Kc_9
        have f_9_1 : Exa Z T_9.heap b_7 "com/example/pathlatch/pathlatch/Text" := f_8_1.keep Kc_9
        have Z_9 : n0 ≤ T_9.heap.size := Nat.le_trans Z_8 Kc_9.1
        have K_9 : Keep h0 T_9.heap [] := K_8.trans Kc_9 (fun x hx => by cases List.mem_singleton.mp hx; exact Or.inr sz_b_7)
        have N_9 := Fr.app N_8 N_9q
        obtain ⟨T_10, h_10, X_10, e_10, E_10, A_10, D_10, -, st_10⟩ := newO X_9 hx hZ hown (hw _ (List.mem_of_getElem? (i := 0) rfl)) (hw _ (List.mem_of_getElem? (i := 1) rfl)) (hw _ (List.mem_of_getElem? (i := 2) rfl)) rfl (g := (mkF m 65 #[.val (.int p1), .val (.int p2), .val (.int (0 : Int32)), .val (.int (0 : Int32)), .val (.int (0 : Int32)), .val (.ref b_7), .unset, .unset, .unset, .unset, .unset] [])) rfl (hb hby at_65) (by decide) (by decide)
        obtain ⟨b_10, g_10⟩ : ∃ z, z = T_9.heap.size := ⟨_, rfl⟩
        rw [← g_10] at A_10 D_10 st_10
        have ne_b_7_b_10 : b_7 ≠ b_10 := Nat.ne_of_lt (Nat.lt_of_lt_of_le o_9_0.lt (Nat.le_of_eq g_10.symm))
        have g_b_10 : n0 ≤ b_10 := Nat.le_trans Z_9 (Nat.le_of_eq g_10.symm)
        have sz_b_10 : h0.size ≤ b_10 := Nat.le_trans (K_9).1 (Nat.le_of_eq g_10.symm)
        have f_10_0 : Sta Z h_10 "java/lang/String" "COMPACT_STRINGS" "Z" (.int w9) := f_9_0.ext E_10
        have f_10_1 : Exa Z h_10 b_7 "com/example/pathlatch/pathlatch/Text" := o_9_0.ext E_10
        have Z_10 : n0 ≤ h_10.size := Nat.le_trans Z_9 E_10.1
        have K_10 : Keep h0 h_10 [] := K_9.ext E_10
        have fd_10_39 : Fld Z h_10 b_10 "com/example/pathlatch/pathlatch/Text" "value" "Ljava/lang/String;" .null := D_10 (Or.inl (hw _ (List.mem_of_getElem? (i := 39) rfl))) (ty := (.object "java/lang/String")) (by decide)
        obtain ⟨_, _, ⟨T_11, L_11, k_11, n_11⟩, -, X_11, ⟨Lc_11, hQ_11, l_11, y_11, z_11⟩, st_11⟩ := Jvm.LawKit.callS X_10 hx (y := (⟨"java/lang/String", "valueOf", "(C)Ljava/lang/String;"⟩ : MethodName)) hown (mvT hZ (hw _ (List.mem_of_getElem? (i := 3) rfl))) (mvT hZ (hw _ (List.mem_of_getElem? (i := 4) rfl))) (mvT hZ (hw _ (List.mem_of_getElem? (i := 5) rfl))) (mvT hZ (hw _ (List.mem_of_getElem? (i := 6) rfl))) (by decide) (backOf (W := 2) (rm1 l Z a0 hw [] ((((p2.toUInt32 >>> ((8 : Int32) &&& 31).toUInt32).toInt32) &&& (255 : Int32)).toUInt32.toUInt16.toUInt32.toInt32) w9 h_10 n0 Z_10 f_10_0 hw9 (own_ch2 p2)) hZ (hw _ (List.mem_of_getElem? (i := 6) rfl)) (hw _ (List.mem_of_getElem? (i := 5) rfl)) (by decide) (by decide)) (g := (mkF m 78 #[.val (.int p1), .val (.int p2), .val (.int (0 : Int32)), .val (.int (0 : Int32)), .val (.int (0 : Int32)), .val (.ref b_7), .unset, .unset, .unset, .unset, .unset] [(.int ((((p2.toUInt32 >>> ((8 : Int32) &&& 31).toUInt32).toInt32) &&& (255 : Int32)).toUInt32.toUInt16.toUInt32.toInt32)), (.ref b_10), (.ref b_10)])) rfl (by rw [hml]; rfl) (argsL := [(.int ((((p2.toUInt32 >>> ((8 : Int32) &&& 31).toUInt32).toInt32) &&& (255 : Int32)).toUInt32.toUInt16.toUInt32.toInt32))]) (rest := [(.ref b_10), (.ref b_10)]) (lenOf pd_5 rfl) rfl (by show 2 * 0 + _ ≤ _; exact Nat.le_of_eq rfl) (hb hby at_78) (fun _ _ => ⟨rfl, e_10, (by decide : 4 + 2 ≤ _), (by decide : 13 + 5 ≤ _)⟩)
        dsimp only [Pt.U, Pt.locs, Pt.cells, Pt.slots] at X_11 l_11 y_11 z_11 st_11 hQ_11
        subst l_11 y_11 z_11
        obtain ⟨r_11, rfl, N_11q, Kc_11⟩ := hQ_11
        have f_11_0 : Sta Z T_11.heap "java/lang/String" "COMPACT_STRINGS" "Z" (.int w9) := own_sta_keep0 f_10_0 Kc_11
        have f_11_1 : Exa Z T_11.heap b_7 "com/example/pathlatch/pathlatch/Text" := f_10_1.keep Kc_11
        have f_11_2 : Exa Z T_11.heap b_10 "com/example/pathlatch/pathlatch/Text" := A_10.keep Kc_11
        have f_11_3 : Fld Z T_11.heap b_10 "com/example/pathlatch/pathlatch/Text" "value" "Ljava/lang/String;" .null := fd_10_39.keep Kc_11 (List.not_mem_nil)
        have Z_11 : n0 ≤ T_11.heap.size := Nat.le_trans Z_10 Kc_11.1
        have K_11 : Keep h0 T_11.heap [] := K_10.trans Kc_11 (fun x hx => nomatch hx)
        have N_11 := Fr.app N_9 N_11q
        obtain ⟨_, _, ⟨T_12, L_12, k_12, n_12⟩, -, X_12, ⟨Lc_12, hQ_12, l_12, y_12, z_12⟩, st_12⟩ := X_11.specialBack hx (y := (⟨"com/example/pathlatch/pathlatch/Text", "<init>", "(Ljava/lang/String;)V"⟩ : MethodName)) rfl hown (mvT hZ (hw _ (List.mem_of_getElem? (i := 29) rfl))) (mvT hZ (hw _ (List.mem_of_getElem? (i := 30) rfl))) (mvT hZ (hw _ (List.mem_of_getElem? (i := 31) rfl))) (by decide) (backOf (W := 1) (rm6 l Z a0 hw [] b_10 r_11 T_11.heap n0 Z_11 g_b_10 f_11_2 f_11_3) hZ (hw _ (List.mem_of_getElem? (i := 31) rfl)) (hw _ (List.mem_of_getElem? (i := 2) rfl)) (by decide) (by decide)) (g := (mkF m 81 #[.val (.int p1), .val (.int p2), .val (.int (0 : Int32)), .val (.int (0 : Int32)), .val (.int (0 : Int32)), .val (.ref b_7), .unset, .unset, .unset, .unset, .unset] [(.ref r_11), (.ref b_10), (.ref b_10)])) rfl (by rw [hml]; rfl) (Steps.refl _) (a := b_10) (argsL := [(.ref r_11)]) (rest := [(.ref b_10)]) (lenOf pd_6 rfl) rfl (by show 2 * 0 + _ ≤ _; exact Nat.le_of_eq rfl) (hb hby at_81) (fun _ _ => ⟨rfl, rfl, (by decide : 6 + 0 ≤ _), (by decide : 18 + 0 ≤ _)⟩)
        dsimp only [Pt.U, Pt.locs, Pt.cells, Pt.slots] at X_12 l_12 y_12 z_12 st_12 hQ_12
        subst l_12 y_12 z_12
        obtain ⟨rfl, N_12q, Kc_12, o_12_0⟩ := hQ_12
        have f_12_0 : Sta Z T_12.heap "java/lang/String" "COMPACT_STRINGS" "Z" (.int w9) := own_sta_keep f_11_0 f_11_2 Kc_12
        have f_12_1 : Exa Z T_12.heap b_7 "com/example/pathlatch/pathlatch/Text" := f_11_1.keep Kc_12
        have f_12_2 : Exa Z T_12.heap b_10 "com/example/pathlatch/pathlatch/Text" := f_11_2.keep Kc_12
        have Z_12 : n0 ≤ T_12.heap.size := Nat.le_trans Z_11 Kc_12.1
        have K_12 : Keep h0 T_12.heap [] := K_11.trans Kc_12 (fun x hx => by cases List.mem_singleton.mp hx; exact Or.inr sz_b_10)
        have N_12 := Fr.app N_11 N_12q
        obtain ⟨T_13, h_13, X_13, e_13, E_13, A_13, D_13, -, st_13⟩ := newO X_12 hx hZ hown (hw _ (List.mem_of_getElem? (i := 40) rfl)) (hw _ (List.mem_of_getElem? (i := 41) rfl)) (hw _ (List.mem_of_getElem? (i := 42) rfl)) rfl (g := (mkF m 110 #[.val (.int p1), .val (.int p2), .val (.int (0 : Int32)), .val (.int (0 : Int32)), .val (.int (0 : Int32)), .val (.ref b_7), .val (.ref b_10), .val .null, .val .null, .unset, .unset] [])) rfl (hb hby at_110) (by decide) (by decide)
        obtain ⟨b_13, g_13⟩ : ∃ z, z = T_12.heap.size := ⟨_, rfl⟩
        rw [← g_13] at A_13 D_13 st_13
        have ne_b_7_b_13 : b_7 ≠ b_13 := Nat.ne_of_lt (Nat.lt_of_lt_of_le f_12_1.lt (Nat.le_of_eq g_13.symm))
        have ne_b_10_b_13 : b_10 ≠ b_13 := Nat.ne_of_lt (Nat.lt_of_lt_of_le o_12_0.lt (Nat.le_of_eq g_13.symm))
        have g_b_13 : n0 ≤ b_13 := Nat.le_trans Z_12 (Nat.le_of_eq g_13.symm)
        have sz_b_13 : h0.size ≤ b_13 := Nat.le_trans (K_12).1 (Nat.le_of_eq g_13.symm)
        have f_13_0 : Sta Z h_13 "java/lang/String" "COMPACT_STRINGS" "Z" (.int w9) := f_12_0.ext E_13
        have f_13_1 : Exa Z h_13 b_7 "com/example/pathlatch/pathlatch/Text" := f_12_1.ext E_13
        have f_13_2 : Exa Z h_13 b_10 "com/example/pathlatch/pathlatch/Text" := o_12_0.ext E_13
        have Z_13 : n0 ≤ h_13.size := Nat.le_trans Z_12 E_13.1
        have K_13 : Keep h0 h_13 [] := K_12.ext E_13
        have fd_13_53 : Fld Z h_13 b_13 "com/example/pathlatch/pathlatch/ParentNode$TextBeside" "before" "Lcom/example/pathlatch/pathlatch/Text;" .null := D_13 (Or.inr (hw _ (List.mem_of_getElem? (i := 53) rfl))) (ty := (.object "com/example/pathlatch/pathlatch/Text")) (by decide)
        have fd_13_55 : Fld Z h_13 b_13 "com/example/pathlatch/pathlatch/ParentNode$TextBeside" "after" "Lcom/example/pathlatch/pathlatch/Text;" .null := D_13 (Or.inr (hw _ (List.mem_of_getElem? (i := 55) rfl))) (ty := (.object "com/example/pathlatch/pathlatch/Text")) (by decide)
        obtain ⟨_, _, ⟨T_14, L_14, k_14, n_14⟩, -, X_14, ⟨Lc_14, hQ_14, l_14, y_14, z_14⟩, st_14⟩ := X_13.specialBack hx (y := (⟨"com/example/pathlatch/pathlatch/ParentNode$TextBeside", "<init>", "(Lcom/example/pathlatch/pathlatch/Text;Lcom/example/pathlatch/pathlatch/Text;)V"⟩ : MethodName)) rfl hown (mvT hZ (hw _ (List.mem_of_getElem? (i := 43) rfl))) (mvT hZ (hw _ (List.mem_of_getElem? (i := 44) rfl))) (mvT hZ (hw _ (List.mem_of_getElem? (i := 45) rfl))) (by decide) (backOf (W := 1) (rm8_12 l Z a0 hw [] b_13 h_13 n0 Z_13 g_b_13 A_13 fd_13_53 fd_13_55) hZ (hw _ (List.mem_of_getElem? (i := 45) rfl)) (hw _ (List.mem_of_getElem? (i := 42) rfl)) (by decide) (by decide)) (g := (mkF m 118 #[.val (.int p1), .val (.int p2), .val (.int (0 : Int32)), .val (.int (0 : Int32)), .val (.int (0 : Int32)), .val (.ref b_7), .val (.ref b_10), .val .null, .val .null, .unset, .unset] [.null, .null, (.ref b_13), (.ref b_13)])) rfl (by rw [hml]; rfl) (Steps.refl _) (a := b_13) (argsL := [.null, .null]) (rest := [(.ref b_13)]) (lenOf pd_7 rfl) rfl (by show 2 * 0 + _ ≤ _; exact Nat.le_of_eq rfl) (hb hby at_118) (fun _ _ => ⟨rfl, e_13, (by decide : 7 + 0 ≤ _), (by decide : 20 + 0 ≤ _)⟩)
        dsimp only [Pt.U, Pt.locs, Pt.cells, Pt.slots] at X_14 l_14 y_14 z_14 st_14 hQ_14
        subst l_14 y_14 z_14
        obtain ⟨rfl, N_14q, Kc_14, o_14_0, o_14_1, o_14_2⟩ := hQ_14
        have f_14_0 : Sta Z T_14.heap "java/lang/String" "COMPACT_STRINGS" "Z" (.int w9) := own_sta_keep f_13_0 A_13 Kc_14
        have f_14_1 : Exa Z T_14.heap b_7 "com/example/pathlatch/pathlatch/Text" := f_13_1.keep Kc_14
        have f_14_2 : Exa Z T_14.heap b_10 "com/example/pathlatch/pathlatch/Text" := f_13_2.keep Kc_14
        have f_14_3 : Exa Z T_14.heap b_13 "com/example/pathlatch/pathlatch/ParentNode$TextBeside" := A_13.keep Kc_14
        have Z_14 : n0 ≤ T_14.heap.size := Nat.le_trans Z_13 Kc_14.1
        have K_14 : Keep h0 T_14.heap [] := K_13.trans Kc_14 (fun x hx => by cases List.mem_singleton.mp hx; exact Or.inr sz_b_13)
        have N_14 := Fr.app N_12 N_14q
        obtain ⟨cq_15, kq_15, q_15a, q_15b, q_15c⟩ := isOf hZ rfl o_14_0
        obtain ⟨_, _, ⟨T_15, L_15, k_15, n_15⟩, -, X_15, ⟨Lc_15, hQ_15, l_15, y_15, z_15⟩, st_15⟩ := X_14.virtualBack hx (y := (⟨"com/example/pathlatch/pathlatch/ParentNode$TextBeside", "any", "()Z"⟩ : MethodName)) (z := (⟨"com/example/pathlatch/pathlatch/ParentNode$TextBeside", "any", "()Z"⟩ : MethodName)) hown (mvT hZ (hw _ (List.mem_of_getElem? (i := 56) rfl))) (mvT hZ (hw _ (List.mem_of_getElem? (i := 57) rfl))) (notFace_of_selects (args := #[]) (mvT hZ (hw _ (List.mem_of_getElem? (i := 59) rfl)))) (mvT hZ (hw _ (List.mem_of_getElem? (i := 59) rfl))) (mvT hZ (hw _ (List.mem_of_getElem? (i := 58) rfl))) (by decide) (backOf (W := 0) (rm10_3 l Z a0 hw [] b_13 T_14.heap n0 Z_14 o_14_1 o_14_2) hZ (hw _ (List.mem_of_getElem? (i := 60) rfl)) (hw _ (List.mem_of_getElem? (i := 42) rfl)) (by decide) (by decide)) q_15a q_15c (g := (mkF m 148 #[.val (.int p1), .val (.int p2), .val (.int (0 : Int32)), .val (.int (0 : Int32)), .val (.int (0 : Int32)), .val (.ref b_7), .val (.ref b_10), .val .null, .val .null, .val (.ref b_13), .val (.int (0 : Int32))] [(.ref b_13)])) rfl (by rw [hml]; rfl) (Steps.refl _) (argsL := []) (rest := []) (lenOf pd_8 rfl) rfl (by show 2 * 0 + _ ≤ _; exact Nat.le_of_eq rfl) (hb hby at_148) (fun _ _ => ⟨rfl, rfl, (by decide : 7 + 0 ≤ _), (by decide : 20 + 0 ≤ _)⟩)
        dsimp only [Pt.U, Pt.locs, Pt.cells, Pt.slots] at X_15 l_15 y_15 z_15 st_15 hQ_15
        subst l_15 y_15 z_15
        obtain ⟨rfl, N_15q, e_15⟩ := hQ_15
        have N_15 := Fr.app N_14 N_15q
        obtain ⟨fs, hr, hrun, hended, hW, hsame⟩ := X_15.leave (v := some (.int (1 : Int32))) (fun h => by rw [Bd.returns] at h; cases h)
        refine ⟨_, _, pr_5 _ ?_, hrun, hended, _, _, rfl, ?_, ⟨_, rfl⟩, hW, hsame.mono (by decide) (by decide)⟩
        · show Steps p.tables e below (s₁.setTop (mkF m 27 #[.val (.int p1), .val (.int p2), .val (.int (0 : Int32)), .val (.int (0 : Int32)), .unset, .unset, .unset, .unset, .unset, .unset, .unset] [(.int (p1 &&& (4 : Int32)))])) _
          refine XS.ifYes X0.here hx rfl (pc0 := 27) (pc' := 34) rfl (hb hby at_27) rfl ((if0 _ _).trans (teq hc_6).1) (by decide) (by decide) ?_
          show Steps p.tables e below (s₁.setTop (mkF m 34 #[.val (.int p1), .val (.int p2), .val (.int (0 : Int32)), .val (.int (0 : Int32)), .unset, .unset, .unset, .unset, .unset, .unset, .unset] [])) _
          refine XS.iconst X0.here hx rfl (hb hby at_34) ?_
          show Steps p.tables e below (s₁.setTop (mkF m 35 #[.val (.int p1), .val (.int p2), .val (.int (0 : Int32)), .val (.int (0 : Int32)), .unset, .unset, .unset, .unset, .unset, .unset, .unset] [(.int (0 : Int32))])) _
          refine XS.istore X0.here hx rfl (hb hby at_35) rfl (l' := #[.val (.int p1), .val (.int p2), .val (.int (0 : Int32)), .val (.int (0 : Int32)), .val (.int (0 : Int32)), .unset, .unset, .unset, .unset, .unset, .unset]) rfl ?_
          show Steps p.tables e below (s₁.setTop (mkF m 37 #[.val (.int p1), .val (.int p2), .val (.int (0 : Int32)), .val (.int (0 : Int32)), .val (.int (0 : Int32)), .unset, .unset, .unset, .unset, .unset, .unset] [])) _
          refine st_7 _ ?_
          show Steps p.tables e below (T_7.setTop (mkF m 40 #[.val (.int p1), .val (.int p2), .val (.int (0 : Int32)), .val (.int (0 : Int32)), .val (.int (0 : Int32)), .unset, .unset, .unset, .unset, .unset, .unset] [(.ref b_7)])) _
          refine XS.dup X_7.here hx rfl (hb hby at_40) rfl rfl ?_
          show Steps p.tables e below (T_7.setTop (mkF m 41 #[.val (.int p1), .val (.int p2), .val (.int (0 : Int32)), .val (.int (0 : Int32)), .val (.int (0 : Int32)), .unset, .unset, .unset, .unset, .unset, .unset] [(.ref b_7), (.ref b_7)])) _
          refine XS.iloadN X_7.here hx rfl (hb hby at_41) rfl ?_
          show Steps p.tables e below (T_7.setTop (mkF m 42 #[.val (.int p1), .val (.int p2), .val (.int (0 : Int32)), .val (.int (0 : Int32)), .val (.int (0 : Int32)), .unset, .unset, .unset, .unset, .unset, .unset] [(.int p2), (.ref b_7), (.ref b_7)])) _
          refine XS.sipush X_7.here hx rfl (hb hby at_42) ?_
          show Steps p.tables e below (T_7.setTop (mkF m 45 #[.val (.int p1), .val (.int p2), .val (.int (0 : Int32)), .val (.int (0 : Int32)), .val (.int (0 : Int32)), .unset, .unset, .unset, .unset, .unset, .unset] [(.int (255 : Int32)), (.int p2), (.ref b_7), (.ref b_7)])) _
          refine XS.iand X_7.here hx rfl (hb hby at_45) rfl ?_
          show Steps p.tables e below (T_7.setTop (mkF m 46 #[.val (.int p1), .val (.int p2), .val (.int (0 : Int32)), .val (.int (0 : Int32)), .val (.int (0 : Int32)), .unset, .unset, .unset, .unset, .unset, .unset] [(.int (p2 &&& (255 : Int32))), (.ref b_7), (.ref b_7)])) _
          refine XS.i2c X_7.here hx rfl (hb hby at_46) rfl ?_
          show Steps p.tables e below (T_7.setTop (mkF m 47 #[.val (.int p1), .val (.int p2), .val (.int (0 : Int32)), .val (.int (0 : Int32)), .val (.int (0 : Int32)), .unset, .unset, .unset, .unset, .unset, .unset] [(.int ((p2 &&& (255 : Int32)).toUInt32.toUInt16.toUInt32.toInt32)), (.ref b_7), (.ref b_7)])) _
          refine st_8 _ ?_
          show Steps p.tables e below (T_8.setTop (mkF m 50 #[.val (.int p1), .val (.int p2), .val (.int (0 : Int32)), .val (.int (0 : Int32)), .val (.int (0 : Int32)), .unset, .unset, .unset, .unset, .unset, .unset] [(.ref r_8), (.ref b_7), (.ref b_7)])) _
          refine st_9.trans ?_
          show Steps p.tables e below (T_9.setTop (mkF m 53 #[.val (.int p1), .val (.int p2), .val (.int (0 : Int32)), .val (.int (0 : Int32)), .val (.int (0 : Int32)), .unset, .unset, .unset, .unset, .unset, .unset] [(.ref b_7)])) _
          refine XS.astore X_9.here hx rfl (hb hby at_53) rfl rfl (l' := #[.val (.int p1), .val (.int p2), .val (.int (0 : Int32)), .val (.int (0 : Int32)), .val (.int (0 : Int32)), .val (.ref b_7), .unset, .unset, .unset, .unset, .unset]) rfl ?_
          show Steps p.tables e below (T_9.setTop (mkF m 55 #[.val (.int p1), .val (.int p2), .val (.int (0 : Int32)), .val (.int (0 : Int32)), .val (.int (0 : Int32)), .val (.ref b_7), .unset, .unset, .unset, .unset, .unset] [])) _
          refine XS.iload X_9.here hx rfl (hb hby at_55) rfl ?_
          show Steps p.tables e below (T_9.setTop (mkF m 57 #[.val (.int p1), .val (.int p2), .val (.int (0 : Int32)), .val (.int (0 : Int32)), .val (.int (0 : Int32)), .val (.ref b_7), .unset, .unset, .unset, .unset, .unset] [(.int (0 : Int32))])) _
          refine XS.ifYes X_9.here hx rfl (pc0 := 57) (pc' := 65) rfl (hb hby at_57) rfl ((if0 _ _).trans (teq (by decide : (0 : Int32) = (0 : Int32))).1) (by decide) (by decide) ?_
          show Steps p.tables e below (T_9.setTop (mkF m 65 #[.val (.int p1), .val (.int p2), .val (.int (0 : Int32)), .val (.int (0 : Int32)), .val (.int (0 : Int32)), .val (.ref b_7), .unset, .unset, .unset, .unset, .unset] [])) _
          refine st_10 _ ?_
          show Steps p.tables e below (T_10.setTop (mkF m 68 #[.val (.int p1), .val (.int p2), .val (.int (0 : Int32)), .val (.int (0 : Int32)), .val (.int (0 : Int32)), .val (.ref b_7), .unset, .unset, .unset, .unset, .unset] [(.ref b_10)])) _
          refine XS.dup X_10.here hx rfl (hb hby at_68) rfl rfl ?_
          show Steps p.tables e below (T_10.setTop (mkF m 69 #[.val (.int p1), .val (.int p2), .val (.int (0 : Int32)), .val (.int (0 : Int32)), .val (.int (0 : Int32)), .val (.ref b_7), .unset, .unset, .unset, .unset, .unset] [(.ref b_10), (.ref b_10)])) _
          refine XS.iloadN X_10.here hx rfl (hb hby at_69) rfl ?_
          show Steps p.tables e below (T_10.setTop (mkF m 70 #[.val (.int p1), .val (.int p2), .val (.int (0 : Int32)), .val (.int (0 : Int32)), .val (.int (0 : Int32)), .val (.ref b_7), .unset, .unset, .unset, .unset, .unset] [(.int p2), (.ref b_10), (.ref b_10)])) _
          refine XS.bipush X_10.here hx rfl (hb hby at_70) ?_
          show Steps p.tables e below (T_10.setTop (mkF m 72 #[.val (.int p1), .val (.int p2), .val (.int (0 : Int32)), .val (.int (0 : Int32)), .val (.int (0 : Int32)), .val (.ref b_7), .unset, .unset, .unset, .unset, .unset] [(.int (8 : Int32)), (.int p2), (.ref b_10), (.ref b_10)])) _
          refine XS.iushr X_10.here hx rfl (hb hby at_72) rfl ?_
          show Steps p.tables e below (T_10.setTop (mkF m 73 #[.val (.int p1), .val (.int p2), .val (.int (0 : Int32)), .val (.int (0 : Int32)), .val (.int (0 : Int32)), .val (.ref b_7), .unset, .unset, .unset, .unset, .unset] [(.int ((p2.toUInt32 >>> ((8 : Int32) &&& 31).toUInt32).toInt32)), (.ref b_10), (.ref b_10)])) _
          refine XS.sipush X_10.here hx rfl (hb hby at_73) ?_
          show Steps p.tables e below (T_10.setTop (mkF m 76 #[.val (.int p1), .val (.int p2), .val (.int (0 : Int32)), .val (.int (0 : Int32)), .val (.int (0 : Int32)), .val (.ref b_7), .unset, .unset, .unset, .unset, .unset] [(.int (255 : Int32)), (.int ((p2.toUInt32 >>> ((8 : Int32) &&& 31).toUInt32).toInt32)), (.ref b_10), (.ref b_10)])) _
          refine XS.iand X_10.here hx rfl (hb hby at_76) rfl ?_
          show Steps p.tables e below (T_10.setTop (mkF m 77 #[.val (.int p1), .val (.int p2), .val (.int (0 : Int32)), .val (.int (0 : Int32)), .val (.int (0 : Int32)), .val (.ref b_7), .unset, .unset, .unset, .unset, .unset] [(.int (((p2.toUInt32 >>> ((8 : Int32) &&& 31).toUInt32).toInt32) &&& (255 : Int32))), (.ref b_10), (.ref b_10)])) _
          refine XS.i2c X_10.here hx rfl (hb hby at_77) rfl ?_
          show Steps p.tables e below (T_10.setTop (mkF m 78 #[.val (.int p1), .val (.int p2), .val (.int (0 : Int32)), .val (.int (0 : Int32)), .val (.int (0 : Int32)), .val (.ref b_7), .unset, .unset, .unset, .unset, .unset] [(.int ((((p2.toUInt32 >>> ((8 : Int32) &&& 31).toUInt32).toInt32) &&& (255 : Int32)).toUInt32.toUInt16.toUInt32.toInt32)), (.ref b_10), (.ref b_10)])) _
          refine st_11 _ ?_
          show Steps p.tables e below (T_11.setTop (mkF m 81 #[.val (.int p1), .val (.int p2), .val (.int (0 : Int32)), .val (.int (0 : Int32)), .val (.int (0 : Int32)), .val (.ref b_7), .unset, .unset, .unset, .unset, .unset] [(.ref r_11), (.ref b_10), (.ref b_10)])) _
          refine st_12.trans ?_
          show Steps p.tables e below (T_12.setTop (mkF m 84 #[.val (.int p1), .val (.int p2), .val (.int (0 : Int32)), .val (.int (0 : Int32)), .val (.int (0 : Int32)), .val (.ref b_7), .unset, .unset, .unset, .unset, .unset] [(.ref b_10)])) _
          refine XS.astore X_12.here hx rfl (hb hby at_84) rfl rfl (l' := #[.val (.int p1), .val (.int p2), .val (.int (0 : Int32)), .val (.int (0 : Int32)), .val (.int (0 : Int32)), .val (.ref b_7), .val (.ref b_10), .unset, .unset, .unset, .unset]) rfl ?_
          show Steps p.tables e below (T_12.setTop (mkF m 86 #[.val (.int p1), .val (.int p2), .val (.int (0 : Int32)), .val (.int (0 : Int32)), .val (.int (0 : Int32)), .val (.ref b_7), .val (.ref b_10), .unset, .unset, .unset, .unset] [])) _
          refine XS.iloadN X_12.here hx rfl (hb hby at_86) rfl ?_
          show Steps p.tables e below (T_12.setTop (mkF m 87 #[.val (.int p1), .val (.int p2), .val (.int (0 : Int32)), .val (.int (0 : Int32)), .val (.int (0 : Int32)), .val (.ref b_7), .val (.ref b_10), .unset, .unset, .unset, .unset] [(.int (0 : Int32))])) _
          refine XS.ifYes X_12.here hx rfl (pc0 := 87) (pc' := 95) rfl (hb hby at_87) rfl ((if0 _ _).trans (teq (by decide : (0 : Int32) = (0 : Int32))).1) (by decide) (by decide) ?_
          show Steps p.tables e below (T_12.setTop (mkF m 95 #[.val (.int p1), .val (.int p2), .val (.int (0 : Int32)), .val (.int (0 : Int32)), .val (.int (0 : Int32)), .val (.ref b_7), .val (.ref b_10), .unset, .unset, .unset, .unset] [])) _
          refine XS.aconstNull X_12.here hx rfl (hb hby at_95) ?_
          show Steps p.tables e below (T_12.setTop (mkF m 96 #[.val (.int p1), .val (.int p2), .val (.int (0 : Int32)), .val (.int (0 : Int32)), .val (.int (0 : Int32)), .val (.ref b_7), .val (.ref b_10), .unset, .unset, .unset, .unset] [.null])) _
          refine XS.astore X_12.here hx rfl (hb hby at_96) rfl rfl (l' := #[.val (.int p1), .val (.int p2), .val (.int (0 : Int32)), .val (.int (0 : Int32)), .val (.int (0 : Int32)), .val (.ref b_7), .val (.ref b_10), .val .null, .unset, .unset, .unset]) rfl ?_
          show Steps p.tables e below (T_12.setTop (mkF m 98 #[.val (.int p1), .val (.int p2), .val (.int (0 : Int32)), .val (.int (0 : Int32)), .val (.int (0 : Int32)), .val (.ref b_7), .val (.ref b_10), .val .null, .unset, .unset, .unset] [])) _
          refine XS.iloadN X_12.here hx rfl (hb hby at_98) rfl ?_
          show Steps p.tables e below (T_12.setTop (mkF m 99 #[.val (.int p1), .val (.int p2), .val (.int (0 : Int32)), .val (.int (0 : Int32)), .val (.int (0 : Int32)), .val (.ref b_7), .val (.ref b_10), .val .null, .unset, .unset, .unset] [(.int (0 : Int32))])) _
          refine XS.ifYes X_12.here hx rfl (pc0 := 99) (pc' := 107) rfl (hb hby at_99) rfl ((if0 _ _).trans (teq (by decide : (0 : Int32) = (0 : Int32))).1) (by decide) (by decide) ?_
          show Steps p.tables e below (T_12.setTop (mkF m 107 #[.val (.int p1), .val (.int p2), .val (.int (0 : Int32)), .val (.int (0 : Int32)), .val (.int (0 : Int32)), .val (.ref b_7), .val (.ref b_10), .val .null, .unset, .unset, .unset] [])) _
          refine XS.aconstNull X_12.here hx rfl (hb hby at_107) ?_
          show Steps p.tables e below (T_12.setTop (mkF m 108 #[.val (.int p1), .val (.int p2), .val (.int (0 : Int32)), .val (.int (0 : Int32)), .val (.int (0 : Int32)), .val (.ref b_7), .val (.ref b_10), .val .null, .unset, .unset, .unset] [.null])) _
          refine XS.astore X_12.here hx rfl (hb hby at_108) rfl rfl (l' := #[.val (.int p1), .val (.int p2), .val (.int (0 : Int32)), .val (.int (0 : Int32)), .val (.int (0 : Int32)), .val (.ref b_7), .val (.ref b_10), .val .null, .val .null, .unset, .unset]) rfl ?_
          show Steps p.tables e below (T_12.setTop (mkF m 110 #[.val (.int p1), .val (.int p2), .val (.int (0 : Int32)), .val (.int (0 : Int32)), .val (.int (0 : Int32)), .val (.ref b_7), .val (.ref b_10), .val .null, .val .null, .unset, .unset] [])) _
          refine st_13 _ ?_
          show Steps p.tables e below (T_13.setTop (mkF m 113 #[.val (.int p1), .val (.int p2), .val (.int (0 : Int32)), .val (.int (0 : Int32)), .val (.int (0 : Int32)), .val (.ref b_7), .val (.ref b_10), .val .null, .val .null, .unset, .unset] [(.ref b_13)])) _
          refine XS.dup X_13.here hx rfl (hb hby at_113) rfl rfl ?_
          show Steps p.tables e below (T_13.setTop (mkF m 114 #[.val (.int p1), .val (.int p2), .val (.int (0 : Int32)), .val (.int (0 : Int32)), .val (.int (0 : Int32)), .val (.ref b_7), .val (.ref b_10), .val .null, .val .null, .unset, .unset] [(.ref b_13), (.ref b_13)])) _
          refine XS.aload X_13.here hx rfl (hb hby at_114) rfl rfl ?_
          show Steps p.tables e below (T_13.setTop (mkF m 116 #[.val (.int p1), .val (.int p2), .val (.int (0 : Int32)), .val (.int (0 : Int32)), .val (.int (0 : Int32)), .val (.ref b_7), .val (.ref b_10), .val .null, .val .null, .unset, .unset] [.null, (.ref b_13), (.ref b_13)])) _
          refine XS.aload X_13.here hx rfl (hb hby at_116) rfl rfl ?_
          show Steps p.tables e below (T_13.setTop (mkF m 118 #[.val (.int p1), .val (.int p2), .val (.int (0 : Int32)), .val (.int (0 : Int32)), .val (.int (0 : Int32)), .val (.ref b_7), .val (.ref b_10), .val .null, .val .null, .unset, .unset] [.null, .null, (.ref b_13), (.ref b_13)])) _
          refine st_14.trans ?_
          show Steps p.tables e below (T_14.setTop (mkF m 121 #[.val (.int p1), .val (.int p2), .val (.int (0 : Int32)), .val (.int (0 : Int32)), .val (.int (0 : Int32)), .val (.ref b_7), .val (.ref b_10), .val .null, .val .null, .unset, .unset] [(.ref b_13)])) _
          refine XS.astore X_14.here hx rfl (hb hby at_121) rfl rfl (l' := #[.val (.int p1), .val (.int p2), .val (.int (0 : Int32)), .val (.int (0 : Int32)), .val (.int (0 : Int32)), .val (.ref b_7), .val (.ref b_10), .val .null, .val .null, .val (.ref b_13), .unset]) rfl ?_
          show Steps p.tables e below (T_14.setTop (mkF m 123 #[.val (.int p1), .val (.int p2), .val (.int (0 : Int32)), .val (.int (0 : Int32)), .val (.int (0 : Int32)), .val (.ref b_7), .val (.ref b_10), .val .null, .val .null, .val (.ref b_13), .unset] [])) _
          refine XS.iloadN X_14.here hx rfl (hb hby at_123) rfl ?_
          show Steps p.tables e below (T_14.setTop (mkF m 124 #[.val (.int p1), .val (.int p2), .val (.int (0 : Int32)), .val (.int (0 : Int32)), .val (.int (0 : Int32)), .val (.ref b_7), .val (.ref b_10), .val .null, .val .null, .val (.ref b_13), .unset] [(.int (0 : Int32))])) _
          refine XS.ifYes X_14.here hx rfl (pc0 := 124) (pc' := 133) rfl (hb hby at_124) rfl ((if0 _ _).trans (teq (by decide : (0 : Int32) = (0 : Int32))).1) (by decide) (by decide) ?_
          show Steps p.tables e below (T_14.setTop (mkF m 133 #[.val (.int p1), .val (.int p2), .val (.int (0 : Int32)), .val (.int (0 : Int32)), .val (.int (0 : Int32)), .val (.ref b_7), .val (.ref b_10), .val .null, .val .null, .val (.ref b_13), .unset] [])) _
          refine XS.iloadN X_14.here hx rfl (hb hby at_133) rfl ?_
          show Steps p.tables e below (T_14.setTop (mkF m 134 #[.val (.int p1), .val (.int p2), .val (.int (0 : Int32)), .val (.int (0 : Int32)), .val (.int (0 : Int32)), .val (.ref b_7), .val (.ref b_10), .val .null, .val .null, .val (.ref b_13), .unset] [(.int (0 : Int32))])) _
          refine XS.ifYes X_14.here hx rfl (pc0 := 134) (pc' := 143) rfl (hb hby at_134) rfl ((if0 _ _).trans (teq (by decide : (0 : Int32) = (0 : Int32))).1) (by decide) (by decide) ?_
          show Steps p.tables e below (T_14.setTop (mkF m 143 #[.val (.int p1), .val (.int p2), .val (.int (0 : Int32)), .val (.int (0 : Int32)), .val (.int (0 : Int32)), .val (.ref b_7), .val (.ref b_10), .val .null, .val .null, .val (.ref b_13), .unset] [])) _
          refine XS.iconst X_14.here hx rfl (hb hby at_143) ?_
          show Steps p.tables e below (T_14.setTop (mkF m 144 #[.val (.int p1), .val (.int p2), .val (.int (0 : Int32)), .val (.int (0 : Int32)), .val (.int (0 : Int32)), .val (.ref b_7), .val (.ref b_10), .val .null, .val .null, .val (.ref b_13), .unset] [(.int (0 : Int32))])) _
          refine XS.istore X_14.here hx rfl (hb hby at_144) rfl (l' := #[.val (.int p1), .val (.int p2), .val (.int (0 : Int32)), .val (.int (0 : Int32)), .val (.int (0 : Int32)), .val (.ref b_7), .val (.ref b_10), .val .null, .val .null, .val (.ref b_13), .val (.int (0 : Int32))]) rfl ?_
          show Steps p.tables e below (T_14.setTop (mkF m 146 #[.val (.int p1), .val (.int p2), .val (.int (0 : Int32)), .val (.int (0 : Int32)), .val (.int (0 : Int32)), .val (.ref b_7), .val (.ref b_10), .val .null, .val .null, .val (.ref b_13), .val (.int (0 : Int32))] [])) _
          refine XS.aload X_14.here hx rfl (hb hby at_146) rfl rfl ?_
          show Steps p.tables e below (T_14.setTop (mkF m 148 #[.val (.int p1), .val (.int p2), .val (.int (0 : Int32)), .val (.int (0 : Int32)), .val (.int (0 : Int32)), .val (.ref b_7), .val (.ref b_10), .val .null, .val .null, .val (.ref b_13), .val (.int (0 : Int32))] [(.ref b_13)])) _
          refine st_15.trans ?_
          show Steps p.tables e below (T_15.setTop (mkF m 151 #[.val (.int p1), .val (.int p2), .val (.int (0 : Int32)), .val (.int (0 : Int32)), .val (.int (0 : Int32)), .val (.ref b_7), .val (.ref b_10), .val .null, .val .null, .val (.ref b_13), .val (.int (0 : Int32))] [(.int (0 : Int32))])) _
          refine XS.iload X_15.here hx rfl (hb hby at_151) rfl ?_
          show Steps p.tables e below (T_15.setTop (mkF m 153 #[.val (.int p1), .val (.int p2), .val (.int (0 : Int32)), .val (.int (0 : Int32)), .val (.int (0 : Int32)), .val (.ref b_7), .val (.ref b_10), .val .null, .val .null, .val (.ref b_13), .val (.int (0 : Int32))] [(.int (0 : Int32)), (.int (0 : Int32))])) _
          refine XS.icmpNo X_15.here hx rfl (hb hby at_153) rfl (teq (by decide : (0 : Int32) = (0 : Int32))).2 ?_
          show Steps p.tables e below (T_15.setTop (mkF m 156 #[.val (.int p1), .val (.int p2), .val (.int (0 : Int32)), .val (.int (0 : Int32)), .val (.int (0 : Int32)), .val (.ref b_7), .val (.ref b_10), .val .null, .val .null, .val (.ref b_13), .val (.int (0 : Int32))] [])) _
          refine XS.iconst X_15.here hx rfl (hb hby at_156) ?_
          show Steps p.tables e below (T_15.setTop (mkF m 157 #[.val (.int p1), .val (.int p2), .val (.int (0 : Int32)), .val (.int (0 : Int32)), .val (.int (0 : Int32)), .val (.ref b_7), .val (.ref b_10), .val .null, .val .null, .val (.ref b_13), .val (.int (0 : Int32))] [(.int (1 : Int32))])) _
          refine XS.goto X_15.here hx rfl (pc0 := 157) (pc' := 161) rfl (hb hby at_157) (by decide) (by decide) ?_
          show Steps p.tables e below (T_15.setTop (mkF m 161 #[.val (.int p1), .val (.int p2), .val (.int (0 : Int32)), .val (.int (0 : Int32)), .val (.int (0 : Int32)), .val (.ref b_7), .val (.ref b_10), .val .null, .val .null, .val (.ref b_13), .val (.int (0 : Int32))] [(.int (1 : Int32))])) _
          exact retN X_15 hx (t := .boolean) Bd.returns (by simp) (hb hby at_161) hr
        · exact ⟨rfl, N_15⟩
      · obtain ⟨T_16, h_16, X_16, e_16, E_16, A_16, D_16, -, st_16⟩ := newO X0 hx hZ hown (hw _ (List.mem_of_getElem? (i := 0) rfl)) (hw _ (List.mem_of_getElem? (i := 1) rfl)) (hw _ (List.mem_of_getElem? (i := 2) rfl)) e0 (g := (mkF m 37 #[.val (.int p1), .val (.int p2), .val (.int (0 : Int32)), .val (.int (0 : Int32)), .val (.int (1 : Int32)), .unset, .unset, .unset, .unset, .unset, .unset] [])) rfl (hb hby at_37) (by decide) (by decide)
        obtain ⟨b_16, g_16⟩ : ∃ z, z = h0.size := ⟨_, rfl⟩
        rw [← g_16] at A_16 D_16 st_16
        have g_b_16 : n0 ≤ b_16 := Nat.le_trans Z0 (Nat.le_of_eq g_16.symm)
        have sz_b_16 : h0.size ≤ b_16 := Nat.le_trans ((Keep.refl h0 [])).1 (Nat.le_of_eq g_16.symm)
        have f_16_0 : Sta Z h_16 "java/lang/String" "COMPACT_STRINGS" "Z" (.int w9) := F0.ext E_16
        have Z_16 : n0 ≤ h_16.size := Nat.le_trans Z0 E_16.1
        have K_16 : Keep h0 h_16 [] := (Keep.refl h0 []).ext E_16
        have fd_16_39 : Fld Z h_16 b_16 "com/example/pathlatch/pathlatch/Text" "value" "Ljava/lang/String;" .null := D_16 (Or.inl (hw _ (List.mem_of_getElem? (i := 39) rfl))) (ty := (.object "java/lang/String")) (by decide)
        obtain ⟨_, _, ⟨T_17, L_17, k_17, n_17⟩, -, X_17, ⟨Lc_17, hQ_17, l_17, y_17, z_17⟩, st_17⟩ := Jvm.LawKit.callS X_16 hx (y := (⟨"java/lang/String", "valueOf", "(C)Ljava/lang/String;"⟩ : MethodName)) hown (mvT hZ (hw _ (List.mem_of_getElem? (i := 3) rfl))) (mvT hZ (hw _ (List.mem_of_getElem? (i := 4) rfl))) (mvT hZ (hw _ (List.mem_of_getElem? (i := 5) rfl))) (mvT hZ (hw _ (List.mem_of_getElem? (i := 6) rfl))) (by decide) (backOf (W := 2) (rm1 l Z a0 hw [] ((p2 &&& (255 : Int32)).toUInt32.toUInt16.toUInt32.toInt32) w9 h_16 n0 Z_16 f_16_0 hw9 (own_ch1 p2)) hZ (hw _ (List.mem_of_getElem? (i := 6) rfl)) (hw _ (List.mem_of_getElem? (i := 5) rfl)) (by decide) (by decide)) (g := (mkF m 47 #[.val (.int p1), .val (.int p2), .val (.int (0 : Int32)), .val (.int (0 : Int32)), .val (.int (1 : Int32)), .unset, .unset, .unset, .unset, .unset, .unset] [(.int ((p2 &&& (255 : Int32)).toUInt32.toUInt16.toUInt32.toInt32)), (.ref b_16), (.ref b_16)])) rfl (by rw [hml]; rfl) (argsL := [(.int ((p2 &&& (255 : Int32)).toUInt32.toUInt16.toUInt32.toInt32))]) (rest := [(.ref b_16), (.ref b_16)]) (lenOf pd_5 rfl) rfl (by show 2 * 0 + _ ≤ _; exact Nat.le_of_eq rfl) (hb hby at_47) (fun _ _ => ⟨rfl, e_16, (by decide : 1 + 2 ≤ _), (by decide : 4 + 5 ≤ _)⟩)
        dsimp only [Pt.U, Pt.locs, Pt.cells, Pt.slots] at X_17 l_17 y_17 z_17 st_17 hQ_17
        subst l_17 y_17 z_17
        obtain ⟨r_17, rfl, N_17q, Kc_17⟩ := hQ_17
        have f_17_0 : Sta Z T_17.heap "java/lang/String" "COMPACT_STRINGS" "Z" (.int w9) := own_sta_keep0 f_16_0 Kc_17
        have f_17_1 : Exa Z T_17.heap b_16 "com/example/pathlatch/pathlatch/Text" := A_16.keep Kc_17
        have f_17_2 : Fld Z T_17.heap b_16 "com/example/pathlatch/pathlatch/Text" "value" "Ljava/lang/String;" .null := fd_16_39.keep Kc_17 (List.not_mem_nil)
        have Z_17 : n0 ≤ T_17.heap.size := Nat.le_trans Z_16 Kc_17.1
        have K_17 : Keep h0 T_17.heap [] := K_16.trans Kc_17 (fun x hx => nomatch hx)
        have N_17 := Fr.app N0 N_17q
        obtain ⟨_, _, ⟨T_18, L_18, k_18, n_18⟩, -, X_18, ⟨Lc_18, hQ_18, l_18, y_18, z_18⟩, st_18⟩ := X_17.specialBack hx (y := (⟨"com/example/pathlatch/pathlatch/Text", "<init>", "(Ljava/lang/String;)V"⟩ : MethodName)) rfl hown (mvT hZ (hw _ (List.mem_of_getElem? (i := 29) rfl))) (mvT hZ (hw _ (List.mem_of_getElem? (i := 30) rfl))) (mvT hZ (hw _ (List.mem_of_getElem? (i := 31) rfl))) (by decide) (backOf (W := 1) (rm6 l Z a0 hw [] b_16 r_17 T_17.heap n0 Z_17 g_b_16 f_17_1 f_17_2) hZ (hw _ (List.mem_of_getElem? (i := 31) rfl)) (hw _ (List.mem_of_getElem? (i := 2) rfl)) (by decide) (by decide)) (g := (mkF m 50 #[.val (.int p1), .val (.int p2), .val (.int (0 : Int32)), .val (.int (0 : Int32)), .val (.int (1 : Int32)), .unset, .unset, .unset, .unset, .unset, .unset] [(.ref r_17), (.ref b_16), (.ref b_16)])) rfl (by rw [hml]; rfl) (Steps.refl _) (a := b_16) (argsL := [(.ref r_17)]) (rest := [(.ref b_16)]) (lenOf pd_6 rfl) rfl (by show 2 * 0 + _ ≤ _; exact Nat.le_of_eq rfl) (hb hby at_50) (fun _ _ => ⟨rfl, rfl, (by decide : 3 + 0 ≤ _), (by decide : 9 + 0 ≤ _)⟩)
        dsimp only [Pt.U, Pt.locs, Pt.cells, Pt.slots] at X_18 l_18 y_18 z_18 st_18 hQ_18
        subst l_18 y_18 z_18
        obtain ⟨rfl, N_18q, Kc_18, o_18_0⟩ := hQ_18
        have f_18_0 : Sta Z T_18.heap "java/lang/String" "COMPACT_STRINGS" "Z" (.int w9) := own_sta_keep f_17_0 f_17_1 Kc_18
        have f_18_1 : Exa Z T_18.heap b_16 "com/example/pathlatch/pathlatch/Text" := f_17_1.keep Kc_18
        have Z_18 : n0 ≤ T_18.heap.size := Nat.le_trans Z_17 Kc_18.1
        have K_18 : Keep h0 T_18.heap [] := K_17.trans Kc_18 (fun x hx => by cases List.mem_singleton.mp hx; exact Or.inr sz_b_16)
        have N_18 := Fr.app N_17 N_18q
        obtain ⟨T_19, h_19, X_19, e_19, E_19, A_19, D_19, -, st_19⟩ := newO X_18 hx hZ hown (hw _ (List.mem_of_getElem? (i := 40) rfl)) (hw _ (List.mem_of_getElem? (i := 41) rfl)) (hw _ (List.mem_of_getElem? (i := 42) rfl)) rfl (g := (mkF m 110 #[.val (.int p1), .val (.int p2), .val (.int (0 : Int32)), .val (.int (0 : Int32)), .val (.int (1 : Int32)), .val (.ref b_16), .val (.ref b_16), .val .null, .val .null, .unset, .unset] [])) rfl (hb hby at_110) (by decide) (by decide)
        obtain ⟨b_19, g_19⟩ : ∃ z, z = T_18.heap.size := ⟨_, rfl⟩
        rw [← g_19] at A_19 D_19 st_19
        have ne_b_16_b_19 : b_16 ≠ b_19 := Nat.ne_of_lt (Nat.lt_of_lt_of_le o_18_0.lt (Nat.le_of_eq g_19.symm))
        have g_b_19 : n0 ≤ b_19 := Nat.le_trans Z_18 (Nat.le_of_eq g_19.symm)
        have sz_b_19 : h0.size ≤ b_19 := Nat.le_trans (K_18).1 (Nat.le_of_eq g_19.symm)
        have f_19_0 : Sta Z h_19 "java/lang/String" "COMPACT_STRINGS" "Z" (.int w9) := f_18_0.ext E_19
        have f_19_1 : Exa Z h_19 b_16 "com/example/pathlatch/pathlatch/Text" := o_18_0.ext E_19
        have Z_19 : n0 ≤ h_19.size := Nat.le_trans Z_18 E_19.1
        have K_19 : Keep h0 h_19 [] := K_18.ext E_19
        have fd_19_53 : Fld Z h_19 b_19 "com/example/pathlatch/pathlatch/ParentNode$TextBeside" "before" "Lcom/example/pathlatch/pathlatch/Text;" .null := D_19 (Or.inr (hw _ (List.mem_of_getElem? (i := 53) rfl))) (ty := (.object "com/example/pathlatch/pathlatch/Text")) (by decide)
        have fd_19_55 : Fld Z h_19 b_19 "com/example/pathlatch/pathlatch/ParentNode$TextBeside" "after" "Lcom/example/pathlatch/pathlatch/Text;" .null := D_19 (Or.inr (hw _ (List.mem_of_getElem? (i := 55) rfl))) (ty := (.object "com/example/pathlatch/pathlatch/Text")) (by decide)
        obtain ⟨_, _, ⟨T_20, L_20, k_20, n_20⟩, -, X_20, ⟨Lc_20, hQ_20, l_20, y_20, z_20⟩, st_20⟩ := X_19.specialBack hx (y := (⟨"com/example/pathlatch/pathlatch/ParentNode$TextBeside", "<init>", "(Lcom/example/pathlatch/pathlatch/Text;Lcom/example/pathlatch/pathlatch/Text;)V"⟩ : MethodName)) rfl hown (mvT hZ (hw _ (List.mem_of_getElem? (i := 43) rfl))) (mvT hZ (hw _ (List.mem_of_getElem? (i := 44) rfl))) (mvT hZ (hw _ (List.mem_of_getElem? (i := 45) rfl))) (by decide) (backOf (W := 1) (rm8_12 l Z a0 hw [] b_19 h_19 n0 Z_19 g_b_19 A_19 fd_19_53 fd_19_55) hZ (hw _ (List.mem_of_getElem? (i := 45) rfl)) (hw _ (List.mem_of_getElem? (i := 42) rfl)) (by decide) (by decide)) (g := (mkF m 118 #[.val (.int p1), .val (.int p2), .val (.int (0 : Int32)), .val (.int (0 : Int32)), .val (.int (1 : Int32)), .val (.ref b_16), .val (.ref b_16), .val .null, .val .null, .unset, .unset] [.null, .null, (.ref b_19), (.ref b_19)])) rfl (by rw [hml]; rfl) (Steps.refl _) (a := b_19) (argsL := [.null, .null]) (rest := [(.ref b_19)]) (lenOf pd_7 rfl) rfl (by show 2 * 0 + _ ≤ _; exact Nat.le_of_eq rfl) (hb hby at_118) (fun _ _ => ⟨rfl, e_19, (by decide : 4 + 0 ≤ _), (by decide : 11 + 0 ≤ _)⟩)
        dsimp only [Pt.U, Pt.locs, Pt.cells, Pt.slots] at X_20 l_20 y_20 z_20 st_20 hQ_20
        subst l_20 y_20 z_20
        obtain ⟨rfl, N_20q, Kc_20, o_20_0, o_20_1, o_20_2⟩ := hQ_20
        have f_20_0 : Sta Z T_20.heap "java/lang/String" "COMPACT_STRINGS" "Z" (.int w9) := own_sta_keep f_19_0 A_19 Kc_20
        have f_20_1 : Exa Z T_20.heap b_16 "com/example/pathlatch/pathlatch/Text" := f_19_1.keep Kc_20
        have f_20_2 : Exa Z T_20.heap b_19 "com/example/pathlatch/pathlatch/ParentNode$TextBeside" := A_19.keep Kc_20
        have Z_20 : n0 ≤ T_20.heap.size := Nat.le_trans Z_19 Kc_20.1
        have K_20 : Keep h0 T_20.heap [] := K_19.trans Kc_20 (fun x hx => by cases List.mem_singleton.mp hx; exact Or.inr sz_b_19)
        have N_20 := Fr.app N_18 N_20q
        obtain ⟨cq_21, kq_21, q_21a, q_21b, q_21c⟩ := isOf hZ rfl o_20_0
        obtain ⟨_, _, ⟨T_21, L_21, k_21, n_21⟩, -, X_21, ⟨Lc_21, hQ_21, l_21, y_21, z_21⟩, st_21⟩ := X_20.virtualBack hx (y := (⟨"com/example/pathlatch/pathlatch/ParentNode$TextBeside", "any", "()Z"⟩ : MethodName)) (z := (⟨"com/example/pathlatch/pathlatch/ParentNode$TextBeside", "any", "()Z"⟩ : MethodName)) hown (mvT hZ (hw _ (List.mem_of_getElem? (i := 56) rfl))) (mvT hZ (hw _ (List.mem_of_getElem? (i := 57) rfl))) (notFace_of_selects (args := #[]) (mvT hZ (hw _ (List.mem_of_getElem? (i := 59) rfl)))) (mvT hZ (hw _ (List.mem_of_getElem? (i := 59) rfl))) (mvT hZ (hw _ (List.mem_of_getElem? (i := 58) rfl))) (by decide) (backOf (W := 0) (rm10_3 l Z a0 hw [] b_19 T_20.heap n0 Z_20 o_20_1 o_20_2) hZ (hw _ (List.mem_of_getElem? (i := 60) rfl)) (hw _ (List.mem_of_getElem? (i := 42) rfl)) (by decide) (by decide)) q_21a q_21c (g := (mkF m 148 #[.val (.int p1), .val (.int p2), .val (.int (0 : Int32)), .val (.int (0 : Int32)), .val (.int (1 : Int32)), .val (.ref b_16), .val (.ref b_16), .val .null, .val .null, .val (.ref b_19), .val (.int (0 : Int32))] [(.ref b_19)])) rfl (by rw [hml]; rfl) (Steps.refl _) (argsL := []) (rest := []) (lenOf pd_8 rfl) rfl (by show 2 * 0 + _ ≤ _; exact Nat.le_of_eq rfl) (hb hby at_148) (fun _ _ => ⟨rfl, rfl, (by decide : 4 + 0 ≤ _), (by decide : 11 + 0 ≤ _)⟩)
        dsimp only [Pt.U, Pt.locs, Pt.cells, Pt.slots] at X_21 l_21 y_21 z_21 st_21 hQ_21
        subst l_21 y_21 z_21
        obtain ⟨rfl, N_21q, e_21⟩ := hQ_21
        have N_21 := Fr.app N_20 N_21q
        obtain ⟨fs, hr, hrun, hended, hW, hsame⟩ := X_21.leave (v := some (.int (1 : Int32))) (fun h => by rw [Bd.returns] at h; cases h)
        refine ⟨_, _, pr_5 _ ?_, hrun, hended, _, _, rfl, ?_, ⟨_, rfl⟩, hW, hsame.mono (by decide) (by decide)⟩
        · show Steps p.tables e below (s₁.setTop (mkF m 27 #[.val (.int p1), .val (.int p2), .val (.int (0 : Int32)), .val (.int (0 : Int32)), .unset, .unset, .unset, .unset, .unset, .unset, .unset] [(.int (p1 &&& (4 : Int32)))])) _
          refine XS.ifNo X0.here hx rfl (hb hby at_27) rfl ((if0 _ _).trans (feq hc_6).1) ?_
          show Steps p.tables e below (s₁.setTop (mkF m 30 #[.val (.int p1), .val (.int p2), .val (.int (0 : Int32)), .val (.int (0 : Int32)), .unset, .unset, .unset, .unset, .unset, .unset, .unset] [])) _
          refine XS.iconst X0.here hx rfl (hb hby at_30) ?_
          show Steps p.tables e below (s₁.setTop (mkF m 31 #[.val (.int p1), .val (.int p2), .val (.int (0 : Int32)), .val (.int (0 : Int32)), .unset, .unset, .unset, .unset, .unset, .unset, .unset] [(.int (1 : Int32))])) _
          refine XS.goto X0.here hx rfl (pc0 := 31) (pc' := 35) rfl (hb hby at_31) (by decide) (by decide) ?_
          show Steps p.tables e below (s₁.setTop (mkF m 35 #[.val (.int p1), .val (.int p2), .val (.int (0 : Int32)), .val (.int (0 : Int32)), .unset, .unset, .unset, .unset, .unset, .unset, .unset] [(.int (1 : Int32))])) _
          refine XS.istore X0.here hx rfl (hb hby at_35) rfl (l' := #[.val (.int p1), .val (.int p2), .val (.int (0 : Int32)), .val (.int (0 : Int32)), .val (.int (1 : Int32)), .unset, .unset, .unset, .unset, .unset, .unset]) rfl ?_
          show Steps p.tables e below (s₁.setTop (mkF m 37 #[.val (.int p1), .val (.int p2), .val (.int (0 : Int32)), .val (.int (0 : Int32)), .val (.int (1 : Int32)), .unset, .unset, .unset, .unset, .unset, .unset] [])) _
          refine st_16 _ ?_
          show Steps p.tables e below (T_16.setTop (mkF m 40 #[.val (.int p1), .val (.int p2), .val (.int (0 : Int32)), .val (.int (0 : Int32)), .val (.int (1 : Int32)), .unset, .unset, .unset, .unset, .unset, .unset] [(.ref b_16)])) _
          refine XS.dup X_16.here hx rfl (hb hby at_40) rfl rfl ?_
          show Steps p.tables e below (T_16.setTop (mkF m 41 #[.val (.int p1), .val (.int p2), .val (.int (0 : Int32)), .val (.int (0 : Int32)), .val (.int (1 : Int32)), .unset, .unset, .unset, .unset, .unset, .unset] [(.ref b_16), (.ref b_16)])) _
          refine XS.iloadN X_16.here hx rfl (hb hby at_41) rfl ?_
          show Steps p.tables e below (T_16.setTop (mkF m 42 #[.val (.int p1), .val (.int p2), .val (.int (0 : Int32)), .val (.int (0 : Int32)), .val (.int (1 : Int32)), .unset, .unset, .unset, .unset, .unset, .unset] [(.int p2), (.ref b_16), (.ref b_16)])) _
          refine XS.sipush X_16.here hx rfl (hb hby at_42) ?_
          show Steps p.tables e below (T_16.setTop (mkF m 45 #[.val (.int p1), .val (.int p2), .val (.int (0 : Int32)), .val (.int (0 : Int32)), .val (.int (1 : Int32)), .unset, .unset, .unset, .unset, .unset, .unset] [(.int (255 : Int32)), (.int p2), (.ref b_16), (.ref b_16)])) _
          refine XS.iand X_16.here hx rfl (hb hby at_45) rfl ?_
          show Steps p.tables e below (T_16.setTop (mkF m 46 #[.val (.int p1), .val (.int p2), .val (.int (0 : Int32)), .val (.int (0 : Int32)), .val (.int (1 : Int32)), .unset, .unset, .unset, .unset, .unset, .unset] [(.int (p2 &&& (255 : Int32))), (.ref b_16), (.ref b_16)])) _
          refine XS.i2c X_16.here hx rfl (hb hby at_46) rfl ?_
          show Steps p.tables e below (T_16.setTop (mkF m 47 #[.val (.int p1), .val (.int p2), .val (.int (0 : Int32)), .val (.int (0 : Int32)), .val (.int (1 : Int32)), .unset, .unset, .unset, .unset, .unset, .unset] [(.int ((p2 &&& (255 : Int32)).toUInt32.toUInt16.toUInt32.toInt32)), (.ref b_16), (.ref b_16)])) _
          refine st_17 _ ?_
          show Steps p.tables e below (T_17.setTop (mkF m 50 #[.val (.int p1), .val (.int p2), .val (.int (0 : Int32)), .val (.int (0 : Int32)), .val (.int (1 : Int32)), .unset, .unset, .unset, .unset, .unset, .unset] [(.ref r_17), (.ref b_16), (.ref b_16)])) _
          refine st_18.trans ?_
          show Steps p.tables e below (T_18.setTop (mkF m 53 #[.val (.int p1), .val (.int p2), .val (.int (0 : Int32)), .val (.int (0 : Int32)), .val (.int (1 : Int32)), .unset, .unset, .unset, .unset, .unset, .unset] [(.ref b_16)])) _
          refine XS.astore X_18.here hx rfl (hb hby at_53) rfl rfl (l' := #[.val (.int p1), .val (.int p2), .val (.int (0 : Int32)), .val (.int (0 : Int32)), .val (.int (1 : Int32)), .val (.ref b_16), .unset, .unset, .unset, .unset, .unset]) rfl ?_
          show Steps p.tables e below (T_18.setTop (mkF m 55 #[.val (.int p1), .val (.int p2), .val (.int (0 : Int32)), .val (.int (0 : Int32)), .val (.int (1 : Int32)), .val (.ref b_16), .unset, .unset, .unset, .unset, .unset] [])) _
          refine XS.iload X_18.here hx rfl (hb hby at_55) rfl ?_
          show Steps p.tables e below (T_18.setTop (mkF m 57 #[.val (.int p1), .val (.int p2), .val (.int (0 : Int32)), .val (.int (0 : Int32)), .val (.int (1 : Int32)), .val (.ref b_16), .unset, .unset, .unset, .unset, .unset] [(.int (1 : Int32))])) _
          refine XS.ifNo X_18.here hx rfl (hb hby at_57) rfl ((if0 _ _).trans (feq (by decide : ¬ ((1 : Int32) = (0 : Int32)))).1) ?_
          show Steps p.tables e below (T_18.setTop (mkF m 60 #[.val (.int p1), .val (.int p2), .val (.int (0 : Int32)), .val (.int (0 : Int32)), .val (.int (1 : Int32)), .val (.ref b_16), .unset, .unset, .unset, .unset, .unset] [])) _
          refine XS.aload X_18.here hx rfl (hb hby at_60) rfl rfl ?_
          show Steps p.tables e below (T_18.setTop (mkF m 62 #[.val (.int p1), .val (.int p2), .val (.int (0 : Int32)), .val (.int (0 : Int32)), .val (.int (1 : Int32)), .val (.ref b_16), .unset, .unset, .unset, .unset, .unset] [(.ref b_16)])) _
          refine XS.goto X_18.here hx rfl (pc0 := 62) (pc' := 84) rfl (hb hby at_62) (by decide) (by decide) ?_
          show Steps p.tables e below (T_18.setTop (mkF m 84 #[.val (.int p1), .val (.int p2), .val (.int (0 : Int32)), .val (.int (0 : Int32)), .val (.int (1 : Int32)), .val (.ref b_16), .unset, .unset, .unset, .unset, .unset] [(.ref b_16)])) _
          refine XS.astore X_18.here hx rfl (hb hby at_84) rfl rfl (l' := #[.val (.int p1), .val (.int p2), .val (.int (0 : Int32)), .val (.int (0 : Int32)), .val (.int (1 : Int32)), .val (.ref b_16), .val (.ref b_16), .unset, .unset, .unset, .unset]) rfl ?_
          show Steps p.tables e below (T_18.setTop (mkF m 86 #[.val (.int p1), .val (.int p2), .val (.int (0 : Int32)), .val (.int (0 : Int32)), .val (.int (1 : Int32)), .val (.ref b_16), .val (.ref b_16), .unset, .unset, .unset, .unset] [])) _
          refine XS.iloadN X_18.here hx rfl (hb hby at_86) rfl ?_
          show Steps p.tables e below (T_18.setTop (mkF m 87 #[.val (.int p1), .val (.int p2), .val (.int (0 : Int32)), .val (.int (0 : Int32)), .val (.int (1 : Int32)), .val (.ref b_16), .val (.ref b_16), .unset, .unset, .unset, .unset] [(.int (0 : Int32))])) _
          refine XS.ifYes X_18.here hx rfl (pc0 := 87) (pc' := 95) rfl (hb hby at_87) rfl ((if0 _ _).trans (teq (by decide : (0 : Int32) = (0 : Int32))).1) (by decide) (by decide) ?_
          show Steps p.tables e below (T_18.setTop (mkF m 95 #[.val (.int p1), .val (.int p2), .val (.int (0 : Int32)), .val (.int (0 : Int32)), .val (.int (1 : Int32)), .val (.ref b_16), .val (.ref b_16), .unset, .unset, .unset, .unset] [])) _
          refine XS.aconstNull X_18.here hx rfl (hb hby at_95) ?_
          show Steps p.tables e below (T_18.setTop (mkF m 96 #[.val (.int p1), .val (.int p2), .val (.int (0 : Int32)), .val (.int (0 : Int32)), .val (.int (1 : Int32)), .val (.ref b_16), .val (.ref b_16), .unset, .unset, .unset, .unset] [.null])) _
          refine XS.astore X_18.here hx rfl (hb hby at_96) rfl rfl (l' := #[.val (.int p1), .val (.int p2), .val (.int (0 : Int32)), .val (.int (0 : Int32)), .val (.int (1 : Int32)), .val (.ref b_16), .val (.ref b_16), .val .null, .unset, .unset, .unset]) rfl ?_
          show Steps p.tables e below (T_18.setTop (mkF m 98 #[.val (.int p1), .val (.int p2), .val (.int (0 : Int32)), .val (.int (0 : Int32)), .val (.int (1 : Int32)), .val (.ref b_16), .val (.ref b_16), .val .null, .unset, .unset, .unset] [])) _
          refine XS.iloadN X_18.here hx rfl (hb hby at_98) rfl ?_
          show Steps p.tables e below (T_18.setTop (mkF m 99 #[.val (.int p1), .val (.int p2), .val (.int (0 : Int32)), .val (.int (0 : Int32)), .val (.int (1 : Int32)), .val (.ref b_16), .val (.ref b_16), .val .null, .unset, .unset, .unset] [(.int (0 : Int32))])) _
          refine XS.ifYes X_18.here hx rfl (pc0 := 99) (pc' := 107) rfl (hb hby at_99) rfl ((if0 _ _).trans (teq (by decide : (0 : Int32) = (0 : Int32))).1) (by decide) (by decide) ?_
          show Steps p.tables e below (T_18.setTop (mkF m 107 #[.val (.int p1), .val (.int p2), .val (.int (0 : Int32)), .val (.int (0 : Int32)), .val (.int (1 : Int32)), .val (.ref b_16), .val (.ref b_16), .val .null, .unset, .unset, .unset] [])) _
          refine XS.aconstNull X_18.here hx rfl (hb hby at_107) ?_
          show Steps p.tables e below (T_18.setTop (mkF m 108 #[.val (.int p1), .val (.int p2), .val (.int (0 : Int32)), .val (.int (0 : Int32)), .val (.int (1 : Int32)), .val (.ref b_16), .val (.ref b_16), .val .null, .unset, .unset, .unset] [.null])) _
          refine XS.astore X_18.here hx rfl (hb hby at_108) rfl rfl (l' := #[.val (.int p1), .val (.int p2), .val (.int (0 : Int32)), .val (.int (0 : Int32)), .val (.int (1 : Int32)), .val (.ref b_16), .val (.ref b_16), .val .null, .val .null, .unset, .unset]) rfl ?_
          show Steps p.tables e below (T_18.setTop (mkF m 110 #[.val (.int p1), .val (.int p2), .val (.int (0 : Int32)), .val (.int (0 : Int32)), .val (.int (1 : Int32)), .val (.ref b_16), .val (.ref b_16), .val .null, .val .null, .unset, .unset] [])) _
          refine st_19 _ ?_
          show Steps p.tables e below (T_19.setTop (mkF m 113 #[.val (.int p1), .val (.int p2), .val (.int (0 : Int32)), .val (.int (0 : Int32)), .val (.int (1 : Int32)), .val (.ref b_16), .val (.ref b_16), .val .null, .val .null, .unset, .unset] [(.ref b_19)])) _
          refine XS.dup X_19.here hx rfl (hb hby at_113) rfl rfl ?_
          show Steps p.tables e below (T_19.setTop (mkF m 114 #[.val (.int p1), .val (.int p2), .val (.int (0 : Int32)), .val (.int (0 : Int32)), .val (.int (1 : Int32)), .val (.ref b_16), .val (.ref b_16), .val .null, .val .null, .unset, .unset] [(.ref b_19), (.ref b_19)])) _
          refine XS.aload X_19.here hx rfl (hb hby at_114) rfl rfl ?_
          show Steps p.tables e below (T_19.setTop (mkF m 116 #[.val (.int p1), .val (.int p2), .val (.int (0 : Int32)), .val (.int (0 : Int32)), .val (.int (1 : Int32)), .val (.ref b_16), .val (.ref b_16), .val .null, .val .null, .unset, .unset] [.null, (.ref b_19), (.ref b_19)])) _
          refine XS.aload X_19.here hx rfl (hb hby at_116) rfl rfl ?_
          show Steps p.tables e below (T_19.setTop (mkF m 118 #[.val (.int p1), .val (.int p2), .val (.int (0 : Int32)), .val (.int (0 : Int32)), .val (.int (1 : Int32)), .val (.ref b_16), .val (.ref b_16), .val .null, .val .null, .unset, .unset] [.null, .null, (.ref b_19), (.ref b_19)])) _
          refine st_20.trans ?_
          show Steps p.tables e below (T_20.setTop (mkF m 121 #[.val (.int p1), .val (.int p2), .val (.int (0 : Int32)), .val (.int (0 : Int32)), .val (.int (1 : Int32)), .val (.ref b_16), .val (.ref b_16), .val .null, .val .null, .unset, .unset] [(.ref b_19)])) _
          refine XS.astore X_20.here hx rfl (hb hby at_121) rfl rfl (l' := #[.val (.int p1), .val (.int p2), .val (.int (0 : Int32)), .val (.int (0 : Int32)), .val (.int (1 : Int32)), .val (.ref b_16), .val (.ref b_16), .val .null, .val .null, .val (.ref b_19), .unset]) rfl ?_
          show Steps p.tables e below (T_20.setTop (mkF m 123 #[.val (.int p1), .val (.int p2), .val (.int (0 : Int32)), .val (.int (0 : Int32)), .val (.int (1 : Int32)), .val (.ref b_16), .val (.ref b_16), .val .null, .val .null, .val (.ref b_19), .unset] [])) _
          refine XS.iloadN X_20.here hx rfl (hb hby at_123) rfl ?_
          show Steps p.tables e below (T_20.setTop (mkF m 124 #[.val (.int p1), .val (.int p2), .val (.int (0 : Int32)), .val (.int (0 : Int32)), .val (.int (1 : Int32)), .val (.ref b_16), .val (.ref b_16), .val .null, .val .null, .val (.ref b_19), .unset] [(.int (0 : Int32))])) _
          refine XS.ifYes X_20.here hx rfl (pc0 := 124) (pc' := 133) rfl (hb hby at_124) rfl ((if0 _ _).trans (teq (by decide : (0 : Int32) = (0 : Int32))).1) (by decide) (by decide) ?_
          show Steps p.tables e below (T_20.setTop (mkF m 133 #[.val (.int p1), .val (.int p2), .val (.int (0 : Int32)), .val (.int (0 : Int32)), .val (.int (1 : Int32)), .val (.ref b_16), .val (.ref b_16), .val .null, .val .null, .val (.ref b_19), .unset] [])) _
          refine XS.iloadN X_20.here hx rfl (hb hby at_133) rfl ?_
          show Steps p.tables e below (T_20.setTop (mkF m 134 #[.val (.int p1), .val (.int p2), .val (.int (0 : Int32)), .val (.int (0 : Int32)), .val (.int (1 : Int32)), .val (.ref b_16), .val (.ref b_16), .val .null, .val .null, .val (.ref b_19), .unset] [(.int (0 : Int32))])) _
          refine XS.ifYes X_20.here hx rfl (pc0 := 134) (pc' := 143) rfl (hb hby at_134) rfl ((if0 _ _).trans (teq (by decide : (0 : Int32) = (0 : Int32))).1) (by decide) (by decide) ?_
          show Steps p.tables e below (T_20.setTop (mkF m 143 #[.val (.int p1), .val (.int p2), .val (.int (0 : Int32)), .val (.int (0 : Int32)), .val (.int (1 : Int32)), .val (.ref b_16), .val (.ref b_16), .val .null, .val .null, .val (.ref b_19), .unset] [])) _
          refine XS.iconst X_20.here hx rfl (hb hby at_143) ?_
          show Steps p.tables e below (T_20.setTop (mkF m 144 #[.val (.int p1), .val (.int p2), .val (.int (0 : Int32)), .val (.int (0 : Int32)), .val (.int (1 : Int32)), .val (.ref b_16), .val (.ref b_16), .val .null, .val .null, .val (.ref b_19), .unset] [(.int (0 : Int32))])) _
          refine XS.istore X_20.here hx rfl (hb hby at_144) rfl (l' := #[.val (.int p1), .val (.int p2), .val (.int (0 : Int32)), .val (.int (0 : Int32)), .val (.int (1 : Int32)), .val (.ref b_16), .val (.ref b_16), .val .null, .val .null, .val (.ref b_19), .val (.int (0 : Int32))]) rfl ?_
          show Steps p.tables e below (T_20.setTop (mkF m 146 #[.val (.int p1), .val (.int p2), .val (.int (0 : Int32)), .val (.int (0 : Int32)), .val (.int (1 : Int32)), .val (.ref b_16), .val (.ref b_16), .val .null, .val .null, .val (.ref b_19), .val (.int (0 : Int32))] [])) _
          refine XS.aload X_20.here hx rfl (hb hby at_146) rfl rfl ?_
          show Steps p.tables e below (T_20.setTop (mkF m 148 #[.val (.int p1), .val (.int p2), .val (.int (0 : Int32)), .val (.int (0 : Int32)), .val (.int (1 : Int32)), .val (.ref b_16), .val (.ref b_16), .val .null, .val .null, .val (.ref b_19), .val (.int (0 : Int32))] [(.ref b_19)])) _
          refine st_21.trans ?_
          show Steps p.tables e below (T_21.setTop (mkF m 151 #[.val (.int p1), .val (.int p2), .val (.int (0 : Int32)), .val (.int (0 : Int32)), .val (.int (1 : Int32)), .val (.ref b_16), .val (.ref b_16), .val .null, .val .null, .val (.ref b_19), .val (.int (0 : Int32))] [(.int (0 : Int32))])) _
          refine XS.iload X_21.here hx rfl (hb hby at_151) rfl ?_
          show Steps p.tables e below (T_21.setTop (mkF m 153 #[.val (.int p1), .val (.int p2), .val (.int (0 : Int32)), .val (.int (0 : Int32)), .val (.int (1 : Int32)), .val (.ref b_16), .val (.ref b_16), .val .null, .val .null, .val (.ref b_19), .val (.int (0 : Int32))] [(.int (0 : Int32)), (.int (0 : Int32))])) _
          refine XS.icmpNo X_21.here hx rfl (hb hby at_153) rfl (teq (by decide : (0 : Int32) = (0 : Int32))).2 ?_
          show Steps p.tables e below (T_21.setTop (mkF m 156 #[.val (.int p1), .val (.int p2), .val (.int (0 : Int32)), .val (.int (0 : Int32)), .val (.int (1 : Int32)), .val (.ref b_16), .val (.ref b_16), .val .null, .val .null, .val (.ref b_19), .val (.int (0 : Int32))] [])) _
          refine XS.iconst X_21.here hx rfl (hb hby at_156) ?_
          show Steps p.tables e below (T_21.setTop (mkF m 157 #[.val (.int p1), .val (.int p2), .val (.int (0 : Int32)), .val (.int (0 : Int32)), .val (.int (1 : Int32)), .val (.ref b_16), .val (.ref b_16), .val .null, .val .null, .val (.ref b_19), .val (.int (0 : Int32))] [(.int (1 : Int32))])) _
          refine XS.goto X_21.here hx rfl (pc0 := 157) (pc' := 161) rfl (hb hby at_157) (by decide) (by decide) ?_
          show Steps p.tables e below (T_21.setTop (mkF m 161 #[.val (.int p1), .val (.int p2), .val (.int (0 : Int32)), .val (.int (0 : Int32)), .val (.int (1 : Int32)), .val (.ref b_16), .val (.ref b_16), .val .null, .val .null, .val (.ref b_19), .val (.int (0 : Int32))] [(.int (1 : Int32))])) _
          exact retN X_21 hx (t := .boolean) Bd.returns (by simp) (hb hby at_161) hr
        · exact ⟨rfl, N_21⟩
    · have pr_22 : ∀ t, Steps p.tables e below (s₁.setTop (mkF m 27 #[.val (.int p1), .val (.int p2), .val (.int (0 : Int32)), .val (.int (1 : Int32)), .unset, .unset, .unset, .unset, .unset, .unset, .unset] [(.int (p1 &&& (4 : Int32)))])) t → Steps p.tables e below (s₁.setTop (entryFrame m #[(.int p1), (.int p2)] maxLocals)) t := fun t k => by
        refine pr_3 _ ?_
        show Steps p.tables e below (s₁.setTop (mkF m 15 #[.val (.int p1), .val (.int p2), .val (.int (0 : Int32)), .unset, .unset, .unset, .unset, .unset, .unset, .unset, .unset] [(.int (p1 &&& (2 : Int32)))])) _
        refine XS.ifNo X0.here hx rfl (hb hby at_15) rfl ((if0 _ _).trans (feq hc_4).1) ?_
        show Steps p.tables e below (s₁.setTop (mkF m 18 #[.val (.int p1), .val (.int p2), .val (.int (0 : Int32)), .unset, .unset, .unset, .unset, .unset, .unset, .unset, .unset] [])) _
        refine XS.iconst X0.here hx rfl (hb hby at_18) ?_
        show Steps p.tables e below (s₁.setTop (mkF m 19 #[.val (.int p1), .val (.int p2), .val (.int (0 : Int32)), .unset, .unset, .unset, .unset, .unset, .unset, .unset, .unset] [(.int (1 : Int32))])) _
        refine XS.goto X0.here hx rfl (pc0 := 19) (pc' := 23) rfl (hb hby at_19) (by decide) (by decide) ?_
        show Steps p.tables e below (s₁.setTop (mkF m 23 #[.val (.int p1), .val (.int p2), .val (.int (0 : Int32)), .unset, .unset, .unset, .unset, .unset, .unset, .unset, .unset] [(.int (1 : Int32))])) _
        refine XS.istoreN X0.here hx rfl (hb hby at_23) rfl (l' := #[.val (.int p1), .val (.int p2), .val (.int (0 : Int32)), .val (.int (1 : Int32)), .unset, .unset, .unset, .unset, .unset, .unset, .unset]) rfl ?_
        show Steps p.tables e below (s₁.setTop (mkF m 24 #[.val (.int p1), .val (.int p2), .val (.int (0 : Int32)), .val (.int (1 : Int32)), .unset, .unset, .unset, .unset, .unset, .unset, .unset] [])) _
        refine XS.iloadN X0.here hx rfl (hb hby at_24) rfl ?_
        show Steps p.tables e below (s₁.setTop (mkF m 25 #[.val (.int p1), .val (.int p2), .val (.int (0 : Int32)), .val (.int (1 : Int32)), .unset, .unset, .unset, .unset, .unset, .unset, .unset] [(.int p1)])) _
        refine XS.iconst X0.here hx rfl (hb hby at_25) ?_
        show Steps p.tables e below (s₁.setTop (mkF m 26 #[.val (.int p1), .val (.int p2), .val (.int (0 : Int32)), .val (.int (1 : Int32)), .unset, .unset, .unset, .unset, .unset, .unset, .unset] [(.int (4 : Int32)), (.int p1)])) _
        refine XS.iand X0.here hx rfl (hb hby at_26) rfl ?_
        exact k
      by_cases hc_23 : (p1 &&& (4 : Int32)) = (0 : Int32)
      · obtain ⟨T_24, h_24, X_24, e_24, E_24, A_24, D_24, -, st_24⟩ := newO X0 hx hZ hown (hw _ (List.mem_of_getElem? (i := 0) rfl)) (hw _ (List.mem_of_getElem? (i := 1) rfl)) (hw _ (List.mem_of_getElem? (i := 2) rfl)) e0 (g := (mkF m 37 #[.val (.int p1), .val (.int p2), .val (.int (0 : Int32)), .val (.int (1 : Int32)), .val (.int (0 : Int32)), .unset, .unset, .unset, .unset, .unset, .unset] [])) rfl (hb hby at_37) (by decide) (by decide)
        obtain ⟨b_24, g_24⟩ : ∃ z, z = h0.size := ⟨_, rfl⟩
        rw [← g_24] at A_24 D_24 st_24
        have g_b_24 : n0 ≤ b_24 := Nat.le_trans Z0 (Nat.le_of_eq g_24.symm)
        have sz_b_24 : h0.size ≤ b_24 := Nat.le_trans ((Keep.refl h0 [])).1 (Nat.le_of_eq g_24.symm)
        have f_24_0 : Sta Z h_24 "java/lang/String" "COMPACT_STRINGS" "Z" (.int w9) := F0.ext E_24
        have Z_24 : n0 ≤ h_24.size := Nat.le_trans Z0 E_24.1
        have K_24 : Keep h0 h_24 [] := (Keep.refl h0 []).ext E_24
        have fd_24_39 : Fld Z h_24 b_24 "com/example/pathlatch/pathlatch/Text" "value" "Ljava/lang/String;" .null := D_24 (Or.inl (hw _ (List.mem_of_getElem? (i := 39) rfl))) (ty := (.object "java/lang/String")) (by decide)
        obtain ⟨_, _, ⟨T_25, L_25, k_25, n_25⟩, -, X_25, ⟨Lc_25, hQ_25, l_25, y_25, z_25⟩, st_25⟩ := Jvm.LawKit.callS X_24 hx (y := (⟨"java/lang/String", "valueOf", "(C)Ljava/lang/String;"⟩ : MethodName)) hown (mvT hZ (hw _ (List.mem_of_getElem? (i := 3) rfl))) (mvT hZ (hw _ (List.mem_of_getElem? (i := 4) rfl))) (mvT hZ (hw _ (List.mem_of_getElem? (i := 5) rfl))) (mvT hZ (hw _ (List.mem_of_getElem? (i := 6) rfl))) (by decide) (backOf (W := 2) (rm1 l Z a0 hw [] ((p2 &&& (255 : Int32)).toUInt32.toUInt16.toUInt32.toInt32) w9 h_24 n0 Z_24 f_24_0 hw9 (own_ch1 p2)) hZ (hw _ (List.mem_of_getElem? (i := 6) rfl)) (hw _ (List.mem_of_getElem? (i := 5) rfl)) (by decide) (by decide)) (g := (mkF m 47 #[.val (.int p1), .val (.int p2), .val (.int (0 : Int32)), .val (.int (1 : Int32)), .val (.int (0 : Int32)), .unset, .unset, .unset, .unset, .unset, .unset] [(.int ((p2 &&& (255 : Int32)).toUInt32.toUInt16.toUInt32.toInt32)), (.ref b_24), (.ref b_24)])) rfl (by rw [hml]; rfl) (argsL := [(.int ((p2 &&& (255 : Int32)).toUInt32.toUInt16.toUInt32.toInt32))]) (rest := [(.ref b_24), (.ref b_24)]) (lenOf pd_5 rfl) rfl (by show 2 * 0 + _ ≤ _; exact Nat.le_of_eq rfl) (hb hby at_47) (fun _ _ => ⟨rfl, e_24, (by decide : 1 + 2 ≤ _), (by decide : 4 + 5 ≤ _)⟩)
        dsimp only [Pt.U, Pt.locs, Pt.cells, Pt.slots] at X_25 l_25 y_25 z_25 st_25 hQ_25
        subst l_25 y_25 z_25
        obtain ⟨r_25, rfl, N_25q, Kc_25⟩ := hQ_25
        have f_25_0 : Sta Z T_25.heap "java/lang/String" "COMPACT_STRINGS" "Z" (.int w9) := own_sta_keep0 f_24_0 Kc_25
        have f_25_1 : Exa Z T_25.heap b_24 "com/example/pathlatch/pathlatch/Text" := A_24.keep Kc_25
        have f_25_2 : Fld Z T_25.heap b_24 "com/example/pathlatch/pathlatch/Text" "value" "Ljava/lang/String;" .null := fd_24_39.keep Kc_25 (List.not_mem_nil)
        have Z_25 : n0 ≤ T_25.heap.size := Nat.le_trans Z_24 Kc_25.1
        have K_25 : Keep h0 T_25.heap [] := K_24.trans Kc_25 (fun x hx => nomatch hx)
        have N_25 := Fr.app N0 N_25q
        obtain ⟨_, _, ⟨T_26, L_26, k_26, n_26⟩, -, X_26, ⟨Lc_26, hQ_26, l_26, y_26, z_26⟩, st_26⟩ := X_25.specialBack hx (y := (⟨"com/example/pathlatch/pathlatch/Text", "<init>", "(Ljava/lang/String;)V"⟩ : MethodName)) rfl hown (mvT hZ (hw _ (List.mem_of_getElem? (i := 29) rfl))) (mvT hZ (hw _ (List.mem_of_getElem? (i := 30) rfl))) (mvT hZ (hw _ (List.mem_of_getElem? (i := 31) rfl))) (by decide) (backOf (W := 1) (rm6 l Z a0 hw [] b_24 r_25 T_25.heap n0 Z_25 g_b_24 f_25_1 f_25_2) hZ (hw _ (List.mem_of_getElem? (i := 31) rfl)) (hw _ (List.mem_of_getElem? (i := 2) rfl)) (by decide) (by decide)) (g := (mkF m 50 #[.val (.int p1), .val (.int p2), .val (.int (0 : Int32)), .val (.int (1 : Int32)), .val (.int (0 : Int32)), .unset, .unset, .unset, .unset, .unset, .unset] [(.ref r_25), (.ref b_24), (.ref b_24)])) rfl (by rw [hml]; rfl) (Steps.refl _) (a := b_24) (argsL := [(.ref r_25)]) (rest := [(.ref b_24)]) (lenOf pd_6 rfl) rfl (by show 2 * 0 + _ ≤ _; exact Nat.le_of_eq rfl) (hb hby at_50) (fun _ _ => ⟨rfl, rfl, (by decide : 3 + 0 ≤ _), (by decide : 9 + 0 ≤ _)⟩)
        dsimp only [Pt.U, Pt.locs, Pt.cells, Pt.slots] at X_26 l_26 y_26 z_26 st_26 hQ_26
        subst l_26 y_26 z_26
        obtain ⟨rfl, N_26q, Kc_26, o_26_0⟩ := hQ_26
        have f_26_0 : Sta Z T_26.heap "java/lang/String" "COMPACT_STRINGS" "Z" (.int w9) := own_sta_keep f_25_0 f_25_1 Kc_26
        have f_26_1 : Exa Z T_26.heap b_24 "com/example/pathlatch/pathlatch/Text" := f_25_1.keep Kc_26
        have Z_26 : n0 ≤ T_26.heap.size := Nat.le_trans Z_25 Kc_26.1
        have K_26 : Keep h0 T_26.heap [] := K_25.trans Kc_26 (fun x hx => by cases List.mem_singleton.mp hx; exact Or.inr sz_b_24)
        have N_26 := Fr.app N_25 N_26q
        obtain ⟨T_27, h_27, X_27, e_27, E_27, A_27, D_27, -, st_27⟩ := newO X_26 hx hZ hown (hw _ (List.mem_of_getElem? (i := 0) rfl)) (hw _ (List.mem_of_getElem? (i := 1) rfl)) (hw _ (List.mem_of_getElem? (i := 2) rfl)) rfl (g := (mkF m 65 #[.val (.int p1), .val (.int p2), .val (.int (0 : Int32)), .val (.int (1 : Int32)), .val (.int (0 : Int32)), .val (.ref b_24), .unset, .unset, .unset, .unset, .unset] [])) rfl (hb hby at_65) (by decide) (by decide)
        obtain ⟨b_27, g_27⟩ : ∃ z, z = T_26.heap.size := ⟨_, rfl⟩
        rw [← g_27] at A_27 D_27 st_27
        have ne_b_24_b_27 : b_24 ≠ b_27 := Nat.ne_of_lt (Nat.lt_of_lt_of_le o_26_0.lt (Nat.le_of_eq g_27.symm))
        have g_b_27 : n0 ≤ b_27 := Nat.le_trans Z_26 (Nat.le_of_eq g_27.symm)
        have sz_b_27 : h0.size ≤ b_27 := Nat.le_trans (K_26).1 (Nat.le_of_eq g_27.symm)
        have f_27_0 : Sta Z h_27 "java/lang/String" "COMPACT_STRINGS" "Z" (.int w9) := f_26_0.ext E_27
        have f_27_1 : Exa Z h_27 b_24 "com/example/pathlatch/pathlatch/Text" := o_26_0.ext E_27
        have Z_27 : n0 ≤ h_27.size := Nat.le_trans Z_26 E_27.1
        have K_27 : Keep h0 h_27 [] := K_26.ext E_27
        have fd_27_39 : Fld Z h_27 b_27 "com/example/pathlatch/pathlatch/Text" "value" "Ljava/lang/String;" .null := D_27 (Or.inl (hw _ (List.mem_of_getElem? (i := 39) rfl))) (ty := (.object "java/lang/String")) (by decide)
        obtain ⟨_, _, ⟨T_28, L_28, k_28, n_28⟩, -, X_28, ⟨Lc_28, hQ_28, l_28, y_28, z_28⟩, st_28⟩ := Jvm.LawKit.callS X_27 hx (y := (⟨"java/lang/String", "valueOf", "(C)Ljava/lang/String;"⟩ : MethodName)) hown (mvT hZ (hw _ (List.mem_of_getElem? (i := 3) rfl))) (mvT hZ (hw _ (List.mem_of_getElem? (i := 4) rfl))) (mvT hZ (hw _ (List.mem_of_getElem? (i := 5) rfl))) (mvT hZ (hw _ (List.mem_of_getElem? (i := 6) rfl))) (by decide) (backOf (W := 2) (rm1 l Z a0 hw [] ((((p2.toUInt32 >>> ((8 : Int32) &&& 31).toUInt32).toInt32) &&& (255 : Int32)).toUInt32.toUInt16.toUInt32.toInt32) w9 h_27 n0 Z_27 f_27_0 hw9 (own_ch2 p2)) hZ (hw _ (List.mem_of_getElem? (i := 6) rfl)) (hw _ (List.mem_of_getElem? (i := 5) rfl)) (by decide) (by decide)) (g := (mkF m 78 #[.val (.int p1), .val (.int p2), .val (.int (0 : Int32)), .val (.int (1 : Int32)), .val (.int (0 : Int32)), .val (.ref b_24), .unset, .unset, .unset, .unset, .unset] [(.int ((((p2.toUInt32 >>> ((8 : Int32) &&& 31).toUInt32).toInt32) &&& (255 : Int32)).toUInt32.toUInt16.toUInt32.toInt32)), (.ref b_27), (.ref b_27)])) rfl (by rw [hml]; rfl) (argsL := [(.int ((((p2.toUInt32 >>> ((8 : Int32) &&& 31).toUInt32).toInt32) &&& (255 : Int32)).toUInt32.toUInt16.toUInt32.toInt32))]) (rest := [(.ref b_27), (.ref b_27)]) (lenOf pd_5 rfl) rfl (by show 2 * 0 + _ ≤ _; exact Nat.le_of_eq rfl) (hb hby at_78) (fun _ _ => ⟨rfl, e_27, (by decide : 4 + 2 ≤ _), (by decide : 13 + 5 ≤ _)⟩)
        dsimp only [Pt.U, Pt.locs, Pt.cells, Pt.slots] at X_28 l_28 y_28 z_28 st_28 hQ_28
        subst l_28 y_28 z_28
        obtain ⟨r_28, rfl, N_28q, Kc_28⟩ := hQ_28
        have f_28_0 : Sta Z T_28.heap "java/lang/String" "COMPACT_STRINGS" "Z" (.int w9) := own_sta_keep0 f_27_0 Kc_28
        have f_28_1 : Exa Z T_28.heap b_24 "com/example/pathlatch/pathlatch/Text" := f_27_1.keep Kc_28
        have f_28_2 : Exa Z T_28.heap b_27 "com/example/pathlatch/pathlatch/Text" := A_27.keep Kc_28
        have f_28_3 : Fld Z T_28.heap b_27 "com/example/pathlatch/pathlatch/Text" "value" "Ljava/lang/String;" .null := fd_27_39.keep Kc_28 (List.not_mem_nil)
        have Z_28 : n0 ≤ T_28.heap.size := Nat.le_trans Z_27 Kc_28.1
        have K_28 : Keep h0 T_28.heap [] := K_27.trans Kc_28 (fun x hx => nomatch hx)
        have N_28 := Fr.app N_26 N_28q
        obtain ⟨_, _, ⟨T_29, L_29, k_29, n_29⟩, -, X_29, ⟨Lc_29, hQ_29, l_29, y_29, z_29⟩, st_29⟩ := X_28.specialBack hx (y := (⟨"com/example/pathlatch/pathlatch/Text", "<init>", "(Ljava/lang/String;)V"⟩ : MethodName)) rfl hown (mvT hZ (hw _ (List.mem_of_getElem? (i := 29) rfl))) (mvT hZ (hw _ (List.mem_of_getElem? (i := 30) rfl))) (mvT hZ (hw _ (List.mem_of_getElem? (i := 31) rfl))) (by decide) (backOf (W := 1) (rm6 l Z a0 hw [] b_27 r_28 T_28.heap n0 Z_28 g_b_27 f_28_2 f_28_3) hZ (hw _ (List.mem_of_getElem? (i := 31) rfl)) (hw _ (List.mem_of_getElem? (i := 2) rfl)) (by decide) (by decide)) (g := (mkF m 81 #[.val (.int p1), .val (.int p2), .val (.int (0 : Int32)), .val (.int (1 : Int32)), .val (.int (0 : Int32)), .val (.ref b_24), .unset, .unset, .unset, .unset, .unset] [(.ref r_28), (.ref b_27), (.ref b_27)])) rfl (by rw [hml]; rfl) (Steps.refl _) (a := b_27) (argsL := [(.ref r_28)]) (rest := [(.ref b_27)]) (lenOf pd_6 rfl) rfl (by show 2 * 0 + _ ≤ _; exact Nat.le_of_eq rfl) (hb hby at_81) (fun _ _ => ⟨rfl, rfl, (by decide : 6 + 0 ≤ _), (by decide : 18 + 0 ≤ _)⟩)
        dsimp only [Pt.U, Pt.locs, Pt.cells, Pt.slots] at X_29 l_29 y_29 z_29 st_29 hQ_29
        subst l_29 y_29 z_29
        obtain ⟨rfl, N_29q, Kc_29, o_29_0⟩ := hQ_29
        have f_29_0 : Sta Z T_29.heap "java/lang/String" "COMPACT_STRINGS" "Z" (.int w9) := own_sta_keep f_28_0 f_28_2 Kc_29
        have f_29_1 : Exa Z T_29.heap b_24 "com/example/pathlatch/pathlatch/Text" := f_28_1.keep Kc_29
        have f_29_2 : Exa Z T_29.heap b_27 "com/example/pathlatch/pathlatch/Text" := f_28_2.keep Kc_29
        have Z_29 : n0 ≤ T_29.heap.size := Nat.le_trans Z_28 Kc_29.1
        have K_29 : Keep h0 T_29.heap [] := K_28.trans Kc_29 (fun x hx => by cases List.mem_singleton.mp hx; exact Or.inr sz_b_27)
        have N_29 := Fr.app N_28 N_29q
        obtain ⟨T_30, h_30, X_30, e_30, E_30, A_30, D_30, -, st_30⟩ := newO X_29 hx hZ hown (hw _ (List.mem_of_getElem? (i := 40) rfl)) (hw _ (List.mem_of_getElem? (i := 41) rfl)) (hw _ (List.mem_of_getElem? (i := 42) rfl)) rfl (g := (mkF m 110 #[.val (.int p1), .val (.int p2), .val (.int (0 : Int32)), .val (.int (1 : Int32)), .val (.int (0 : Int32)), .val (.ref b_24), .val (.ref b_27), .val .null, .val (.ref b_27), .unset, .unset] [])) rfl (hb hby at_110) (by decide) (by decide)
        obtain ⟨b_30, g_30⟩ : ∃ z, z = T_29.heap.size := ⟨_, rfl⟩
        rw [← g_30] at A_30 D_30 st_30
        have ne_b_24_b_30 : b_24 ≠ b_30 := Nat.ne_of_lt (Nat.lt_of_lt_of_le f_29_1.lt (Nat.le_of_eq g_30.symm))
        have ne_b_27_b_30 : b_27 ≠ b_30 := Nat.ne_of_lt (Nat.lt_of_lt_of_le o_29_0.lt (Nat.le_of_eq g_30.symm))
        have g_b_30 : n0 ≤ b_30 := Nat.le_trans Z_29 (Nat.le_of_eq g_30.symm)
        have sz_b_30 : h0.size ≤ b_30 := Nat.le_trans (K_29).1 (Nat.le_of_eq g_30.symm)
        have f_30_0 : Sta Z h_30 "java/lang/String" "COMPACT_STRINGS" "Z" (.int w9) := f_29_0.ext E_30
        have f_30_1 : Exa Z h_30 b_24 "com/example/pathlatch/pathlatch/Text" := f_29_1.ext E_30
        have f_30_2 : Exa Z h_30 b_27 "com/example/pathlatch/pathlatch/Text" := o_29_0.ext E_30
        have Z_30 : n0 ≤ h_30.size := Nat.le_trans Z_29 E_30.1
        have K_30 : Keep h0 h_30 [] := K_29.ext E_30
        have fd_30_53 : Fld Z h_30 b_30 "com/example/pathlatch/pathlatch/ParentNode$TextBeside" "before" "Lcom/example/pathlatch/pathlatch/Text;" .null := D_30 (Or.inr (hw _ (List.mem_of_getElem? (i := 53) rfl))) (ty := (.object "com/example/pathlatch/pathlatch/Text")) (by decide)
        have fd_30_55 : Fld Z h_30 b_30 "com/example/pathlatch/pathlatch/ParentNode$TextBeside" "after" "Lcom/example/pathlatch/pathlatch/Text;" .null := D_30 (Or.inr (hw _ (List.mem_of_getElem? (i := 55) rfl))) (ty := (.object "com/example/pathlatch/pathlatch/Text")) (by decide)
        obtain ⟨_, _, ⟨T_31, L_31, k_31, n_31⟩, -, X_31, ⟨Lc_31, hQ_31, l_31, y_31, z_31⟩, st_31⟩ := X_30.specialBack hx (y := (⟨"com/example/pathlatch/pathlatch/ParentNode$TextBeside", "<init>", "(Lcom/example/pathlatch/pathlatch/Text;Lcom/example/pathlatch/pathlatch/Text;)V"⟩ : MethodName)) rfl hown (mvT hZ (hw _ (List.mem_of_getElem? (i := 43) rfl))) (mvT hZ (hw _ (List.mem_of_getElem? (i := 44) rfl))) (mvT hZ (hw _ (List.mem_of_getElem? (i := 45) rfl))) (by decide) (backOf (W := 1) (rm8_1 l Z a0 hw [] b_30 b_27 h_30 n0 Z_30 g_b_30 A_30 fd_30_53 fd_30_55) hZ (hw _ (List.mem_of_getElem? (i := 45) rfl)) (hw _ (List.mem_of_getElem? (i := 42) rfl)) (by decide) (by decide)) (g := (mkF m 118 #[.val (.int p1), .val (.int p2), .val (.int (0 : Int32)), .val (.int (1 : Int32)), .val (.int (0 : Int32)), .val (.ref b_24), .val (.ref b_27), .val .null, .val (.ref b_27), .unset, .unset] [(.ref b_27), .null, (.ref b_30), (.ref b_30)])) rfl (by rw [hml]; rfl) (Steps.refl _) (a := b_30) (argsL := [.null, (.ref b_27)]) (rest := [(.ref b_30)]) (lenOf pd_7 rfl) rfl (by show 2 * 0 + _ ≤ _; exact Nat.le_of_eq rfl) (hb hby at_118) (fun _ _ => ⟨rfl, e_30, (by decide : 7 + 0 ≤ _), (by decide : 20 + 0 ≤ _)⟩)
        dsimp only [Pt.U, Pt.locs, Pt.cells, Pt.slots] at X_31 l_31 y_31 z_31 st_31 hQ_31
        subst l_31 y_31 z_31
        obtain ⟨rfl, N_31q, Kc_31, o_31_0, o_31_1, o_31_2⟩ := hQ_31
        have f_31_0 : Sta Z T_31.heap "java/lang/String" "COMPACT_STRINGS" "Z" (.int w9) := own_sta_keep f_30_0 A_30 Kc_31
        have f_31_1 : Exa Z T_31.heap b_24 "com/example/pathlatch/pathlatch/Text" := f_30_1.keep Kc_31
        have f_31_2 : Exa Z T_31.heap b_27 "com/example/pathlatch/pathlatch/Text" := f_30_2.keep Kc_31
        have f_31_3 : Exa Z T_31.heap b_30 "com/example/pathlatch/pathlatch/ParentNode$TextBeside" := A_30.keep Kc_31
        have Z_31 : n0 ≤ T_31.heap.size := Nat.le_trans Z_30 Kc_31.1
        have K_31 : Keep h0 T_31.heap [] := K_30.trans Kc_31 (fun x hx => by cases List.mem_singleton.mp hx; exact Or.inr sz_b_30)
        have N_31 := Fr.app N_29 N_31q
        obtain ⟨cq_32, kq_32, q_32a, q_32b, q_32c⟩ := isOf hZ rfl o_31_0
        obtain ⟨_, _, ⟨T_32, L_32, k_32, n_32⟩, -, X_32, ⟨Lc_32, hQ_32, l_32, y_32, z_32⟩, st_32⟩ := X_31.virtualBack hx (y := (⟨"com/example/pathlatch/pathlatch/ParentNode$TextBeside", "any", "()Z"⟩ : MethodName)) (z := (⟨"com/example/pathlatch/pathlatch/ParentNode$TextBeside", "any", "()Z"⟩ : MethodName)) hown (mvT hZ (hw _ (List.mem_of_getElem? (i := 56) rfl))) (mvT hZ (hw _ (List.mem_of_getElem? (i := 57) rfl))) (notFace_of_selects (args := #[]) (mvT hZ (hw _ (List.mem_of_getElem? (i := 59) rfl)))) (mvT hZ (hw _ (List.mem_of_getElem? (i := 59) rfl))) (mvT hZ (hw _ (List.mem_of_getElem? (i := 58) rfl))) (by decide) (backOf (W := 0) (rm10_2 l Z a0 hw [] b_30 b_27 T_31.heap n0 Z_31 o_31_1 o_31_2) hZ (hw _ (List.mem_of_getElem? (i := 60) rfl)) (hw _ (List.mem_of_getElem? (i := 42) rfl)) (by decide) (by decide)) q_32a q_32c (g := (mkF m 148 #[.val (.int p1), .val (.int p2), .val (.int (0 : Int32)), .val (.int (1 : Int32)), .val (.int (0 : Int32)), .val (.ref b_24), .val (.ref b_27), .val .null, .val (.ref b_27), .val (.ref b_30), .val (.int (1 : Int32))] [(.ref b_30)])) rfl (by rw [hml]; rfl) (Steps.refl _) (argsL := []) (rest := []) (lenOf pd_8 rfl) rfl (by show 2 * 0 + _ ≤ _; exact Nat.le_of_eq rfl) (hb hby at_148) (fun _ _ => ⟨rfl, rfl, (by decide : 7 + 0 ≤ _), (by decide : 20 + 0 ≤ _)⟩)
        dsimp only [Pt.U, Pt.locs, Pt.cells, Pt.slots] at X_32 l_32 y_32 z_32 st_32 hQ_32
        subst l_32 y_32 z_32
        obtain ⟨rfl, N_32q, e_32⟩ := hQ_32
        have N_32 := Fr.app N_31 N_32q
        obtain ⟨fs, hr, hrun, hended, hW, hsame⟩ := X_32.leave (v := some (.int (1 : Int32))) (fun h => by rw [Bd.returns] at h; cases h)
        refine ⟨_, _, pr_22 _ ?_, hrun, hended, _, _, rfl, ?_, ⟨_, rfl⟩, hW, hsame.mono (by decide) (by decide)⟩
        · show Steps p.tables e below (s₁.setTop (mkF m 27 #[.val (.int p1), .val (.int p2), .val (.int (0 : Int32)), .val (.int (1 : Int32)), .unset, .unset, .unset, .unset, .unset, .unset, .unset] [(.int (p1 &&& (4 : Int32)))])) _
          refine XS.ifYes X0.here hx rfl (pc0 := 27) (pc' := 34) rfl (hb hby at_27) rfl ((if0 _ _).trans (teq hc_23).1) (by decide) (by decide) ?_
          show Steps p.tables e below (s₁.setTop (mkF m 34 #[.val (.int p1), .val (.int p2), .val (.int (0 : Int32)), .val (.int (1 : Int32)), .unset, .unset, .unset, .unset, .unset, .unset, .unset] [])) _
          refine XS.iconst X0.here hx rfl (hb hby at_34) ?_
          show Steps p.tables e below (s₁.setTop (mkF m 35 #[.val (.int p1), .val (.int p2), .val (.int (0 : Int32)), .val (.int (1 : Int32)), .unset, .unset, .unset, .unset, .unset, .unset, .unset] [(.int (0 : Int32))])) _
          refine XS.istore X0.here hx rfl (hb hby at_35) rfl (l' := #[.val (.int p1), .val (.int p2), .val (.int (0 : Int32)), .val (.int (1 : Int32)), .val (.int (0 : Int32)), .unset, .unset, .unset, .unset, .unset, .unset]) rfl ?_
          show Steps p.tables e below (s₁.setTop (mkF m 37 #[.val (.int p1), .val (.int p2), .val (.int (0 : Int32)), .val (.int (1 : Int32)), .val (.int (0 : Int32)), .unset, .unset, .unset, .unset, .unset, .unset] [])) _
          refine st_24 _ ?_
          show Steps p.tables e below (T_24.setTop (mkF m 40 #[.val (.int p1), .val (.int p2), .val (.int (0 : Int32)), .val (.int (1 : Int32)), .val (.int (0 : Int32)), .unset, .unset, .unset, .unset, .unset, .unset] [(.ref b_24)])) _
          refine XS.dup X_24.here hx rfl (hb hby at_40) rfl rfl ?_
          show Steps p.tables e below (T_24.setTop (mkF m 41 #[.val (.int p1), .val (.int p2), .val (.int (0 : Int32)), .val (.int (1 : Int32)), .val (.int (0 : Int32)), .unset, .unset, .unset, .unset, .unset, .unset] [(.ref b_24), (.ref b_24)])) _
          refine XS.iloadN X_24.here hx rfl (hb hby at_41) rfl ?_
          show Steps p.tables e below (T_24.setTop (mkF m 42 #[.val (.int p1), .val (.int p2), .val (.int (0 : Int32)), .val (.int (1 : Int32)), .val (.int (0 : Int32)), .unset, .unset, .unset, .unset, .unset, .unset] [(.int p2), (.ref b_24), (.ref b_24)])) _
          refine XS.sipush X_24.here hx rfl (hb hby at_42) ?_
          show Steps p.tables e below (T_24.setTop (mkF m 45 #[.val (.int p1), .val (.int p2), .val (.int (0 : Int32)), .val (.int (1 : Int32)), .val (.int (0 : Int32)), .unset, .unset, .unset, .unset, .unset, .unset] [(.int (255 : Int32)), (.int p2), (.ref b_24), (.ref b_24)])) _
          refine XS.iand X_24.here hx rfl (hb hby at_45) rfl ?_
          show Steps p.tables e below (T_24.setTop (mkF m 46 #[.val (.int p1), .val (.int p2), .val (.int (0 : Int32)), .val (.int (1 : Int32)), .val (.int (0 : Int32)), .unset, .unset, .unset, .unset, .unset, .unset] [(.int (p2 &&& (255 : Int32))), (.ref b_24), (.ref b_24)])) _
          refine XS.i2c X_24.here hx rfl (hb hby at_46) rfl ?_
          show Steps p.tables e below (T_24.setTop (mkF m 47 #[.val (.int p1), .val (.int p2), .val (.int (0 : Int32)), .val (.int (1 : Int32)), .val (.int (0 : Int32)), .unset, .unset, .unset, .unset, .unset, .unset] [(.int ((p2 &&& (255 : Int32)).toUInt32.toUInt16.toUInt32.toInt32)), (.ref b_24), (.ref b_24)])) _
          refine st_25 _ ?_
          show Steps p.tables e below (T_25.setTop (mkF m 50 #[.val (.int p1), .val (.int p2), .val (.int (0 : Int32)), .val (.int (1 : Int32)), .val (.int (0 : Int32)), .unset, .unset, .unset, .unset, .unset, .unset] [(.ref r_25), (.ref b_24), (.ref b_24)])) _
          refine st_26.trans ?_
          show Steps p.tables e below (T_26.setTop (mkF m 53 #[.val (.int p1), .val (.int p2), .val (.int (0 : Int32)), .val (.int (1 : Int32)), .val (.int (0 : Int32)), .unset, .unset, .unset, .unset, .unset, .unset] [(.ref b_24)])) _
          refine XS.astore X_26.here hx rfl (hb hby at_53) rfl rfl (l' := #[.val (.int p1), .val (.int p2), .val (.int (0 : Int32)), .val (.int (1 : Int32)), .val (.int (0 : Int32)), .val (.ref b_24), .unset, .unset, .unset, .unset, .unset]) rfl ?_
          show Steps p.tables e below (T_26.setTop (mkF m 55 #[.val (.int p1), .val (.int p2), .val (.int (0 : Int32)), .val (.int (1 : Int32)), .val (.int (0 : Int32)), .val (.ref b_24), .unset, .unset, .unset, .unset, .unset] [])) _
          refine XS.iload X_26.here hx rfl (hb hby at_55) rfl ?_
          show Steps p.tables e below (T_26.setTop (mkF m 57 #[.val (.int p1), .val (.int p2), .val (.int (0 : Int32)), .val (.int (1 : Int32)), .val (.int (0 : Int32)), .val (.ref b_24), .unset, .unset, .unset, .unset, .unset] [(.int (0 : Int32))])) _
          refine XS.ifYes X_26.here hx rfl (pc0 := 57) (pc' := 65) rfl (hb hby at_57) rfl ((if0 _ _).trans (teq (by decide : (0 : Int32) = (0 : Int32))).1) (by decide) (by decide) ?_
          show Steps p.tables e below (T_26.setTop (mkF m 65 #[.val (.int p1), .val (.int p2), .val (.int (0 : Int32)), .val (.int (1 : Int32)), .val (.int (0 : Int32)), .val (.ref b_24), .unset, .unset, .unset, .unset, .unset] [])) _
          refine st_27 _ ?_
          show Steps p.tables e below (T_27.setTop (mkF m 68 #[.val (.int p1), .val (.int p2), .val (.int (0 : Int32)), .val (.int (1 : Int32)), .val (.int (0 : Int32)), .val (.ref b_24), .unset, .unset, .unset, .unset, .unset] [(.ref b_27)])) _
          refine XS.dup X_27.here hx rfl (hb hby at_68) rfl rfl ?_
          show Steps p.tables e below (T_27.setTop (mkF m 69 #[.val (.int p1), .val (.int p2), .val (.int (0 : Int32)), .val (.int (1 : Int32)), .val (.int (0 : Int32)), .val (.ref b_24), .unset, .unset, .unset, .unset, .unset] [(.ref b_27), (.ref b_27)])) _
          refine XS.iloadN X_27.here hx rfl (hb hby at_69) rfl ?_
          show Steps p.tables e below (T_27.setTop (mkF m 70 #[.val (.int p1), .val (.int p2), .val (.int (0 : Int32)), .val (.int (1 : Int32)), .val (.int (0 : Int32)), .val (.ref b_24), .unset, .unset, .unset, .unset, .unset] [(.int p2), (.ref b_27), (.ref b_27)])) _
          refine XS.bipush X_27.here hx rfl (hb hby at_70) ?_
          show Steps p.tables e below (T_27.setTop (mkF m 72 #[.val (.int p1), .val (.int p2), .val (.int (0 : Int32)), .val (.int (1 : Int32)), .val (.int (0 : Int32)), .val (.ref b_24), .unset, .unset, .unset, .unset, .unset] [(.int (8 : Int32)), (.int p2), (.ref b_27), (.ref b_27)])) _
          refine XS.iushr X_27.here hx rfl (hb hby at_72) rfl ?_
          show Steps p.tables e below (T_27.setTop (mkF m 73 #[.val (.int p1), .val (.int p2), .val (.int (0 : Int32)), .val (.int (1 : Int32)), .val (.int (0 : Int32)), .val (.ref b_24), .unset, .unset, .unset, .unset, .unset] [(.int ((p2.toUInt32 >>> ((8 : Int32) &&& 31).toUInt32).toInt32)), (.ref b_27), (.ref b_27)])) _
          refine XS.sipush X_27.here hx rfl (hb hby at_73) ?_
          show Steps p.tables e below (T_27.setTop (mkF m 76 #[.val (.int p1), .val (.int p2), .val (.int (0 : Int32)), .val (.int (1 : Int32)), .val (.int (0 : Int32)), .val (.ref b_24), .unset, .unset, .unset, .unset, .unset] [(.int (255 : Int32)), (.int ((p2.toUInt32 >>> ((8 : Int32) &&& 31).toUInt32).toInt32)), (.ref b_27), (.ref b_27)])) _
          refine XS.iand X_27.here hx rfl (hb hby at_76) rfl ?_
          show Steps p.tables e below (T_27.setTop (mkF m 77 #[.val (.int p1), .val (.int p2), .val (.int (0 : Int32)), .val (.int (1 : Int32)), .val (.int (0 : Int32)), .val (.ref b_24), .unset, .unset, .unset, .unset, .unset] [(.int (((p2.toUInt32 >>> ((8 : Int32) &&& 31).toUInt32).toInt32) &&& (255 : Int32))), (.ref b_27), (.ref b_27)])) _
          refine XS.i2c X_27.here hx rfl (hb hby at_77) rfl ?_
          show Steps p.tables e below (T_27.setTop (mkF m 78 #[.val (.int p1), .val (.int p2), .val (.int (0 : Int32)), .val (.int (1 : Int32)), .val (.int (0 : Int32)), .val (.ref b_24), .unset, .unset, .unset, .unset, .unset] [(.int ((((p2.toUInt32 >>> ((8 : Int32) &&& 31).toUInt32).toInt32) &&& (255 : Int32)).toUInt32.toUInt16.toUInt32.toInt32)), (.ref b_27), (.ref b_27)])) _
          refine st_28 _ ?_
          show Steps p.tables e below (T_28.setTop (mkF m 81 #[.val (.int p1), .val (.int p2), .val (.int (0 : Int32)), .val (.int (1 : Int32)), .val (.int (0 : Int32)), .val (.ref b_24), .unset, .unset, .unset, .unset, .unset] [(.ref r_28), (.ref b_27), (.ref b_27)])) _
          refine st_29.trans ?_
          show Steps p.tables e below (T_29.setTop (mkF m 84 #[.val (.int p1), .val (.int p2), .val (.int (0 : Int32)), .val (.int (1 : Int32)), .val (.int (0 : Int32)), .val (.ref b_24), .unset, .unset, .unset, .unset, .unset] [(.ref b_27)])) _
          refine XS.astore X_29.here hx rfl (hb hby at_84) rfl rfl (l' := #[.val (.int p1), .val (.int p2), .val (.int (0 : Int32)), .val (.int (1 : Int32)), .val (.int (0 : Int32)), .val (.ref b_24), .val (.ref b_27), .unset, .unset, .unset, .unset]) rfl ?_
          show Steps p.tables e below (T_29.setTop (mkF m 86 #[.val (.int p1), .val (.int p2), .val (.int (0 : Int32)), .val (.int (1 : Int32)), .val (.int (0 : Int32)), .val (.ref b_24), .val (.ref b_27), .unset, .unset, .unset, .unset] [])) _
          refine XS.iloadN X_29.here hx rfl (hb hby at_86) rfl ?_
          show Steps p.tables e below (T_29.setTop (mkF m 87 #[.val (.int p1), .val (.int p2), .val (.int (0 : Int32)), .val (.int (1 : Int32)), .val (.int (0 : Int32)), .val (.ref b_24), .val (.ref b_27), .unset, .unset, .unset, .unset] [(.int (0 : Int32))])) _
          refine XS.ifYes X_29.here hx rfl (pc0 := 87) (pc' := 95) rfl (hb hby at_87) rfl ((if0 _ _).trans (teq (by decide : (0 : Int32) = (0 : Int32))).1) (by decide) (by decide) ?_
          show Steps p.tables e below (T_29.setTop (mkF m 95 #[.val (.int p1), .val (.int p2), .val (.int (0 : Int32)), .val (.int (1 : Int32)), .val (.int (0 : Int32)), .val (.ref b_24), .val (.ref b_27), .unset, .unset, .unset, .unset] [])) _
          refine XS.aconstNull X_29.here hx rfl (hb hby at_95) ?_
          show Steps p.tables e below (T_29.setTop (mkF m 96 #[.val (.int p1), .val (.int p2), .val (.int (0 : Int32)), .val (.int (1 : Int32)), .val (.int (0 : Int32)), .val (.ref b_24), .val (.ref b_27), .unset, .unset, .unset, .unset] [.null])) _
          refine XS.astore X_29.here hx rfl (hb hby at_96) rfl rfl (l' := #[.val (.int p1), .val (.int p2), .val (.int (0 : Int32)), .val (.int (1 : Int32)), .val (.int (0 : Int32)), .val (.ref b_24), .val (.ref b_27), .val .null, .unset, .unset, .unset]) rfl ?_
          show Steps p.tables e below (T_29.setTop (mkF m 98 #[.val (.int p1), .val (.int p2), .val (.int (0 : Int32)), .val (.int (1 : Int32)), .val (.int (0 : Int32)), .val (.ref b_24), .val (.ref b_27), .val .null, .unset, .unset, .unset] [])) _
          refine XS.iloadN X_29.here hx rfl (hb hby at_98) rfl ?_
          show Steps p.tables e below (T_29.setTop (mkF m 99 #[.val (.int p1), .val (.int p2), .val (.int (0 : Int32)), .val (.int (1 : Int32)), .val (.int (0 : Int32)), .val (.ref b_24), .val (.ref b_27), .val .null, .unset, .unset, .unset] [(.int (1 : Int32))])) _
          refine XS.ifNo X_29.here hx rfl (hb hby at_99) rfl ((if0 _ _).trans (feq (by decide : ¬ ((1 : Int32) = (0 : Int32)))).1) ?_
          show Steps p.tables e below (T_29.setTop (mkF m 102 #[.val (.int p1), .val (.int p2), .val (.int (0 : Int32)), .val (.int (1 : Int32)), .val (.int (0 : Int32)), .val (.ref b_24), .val (.ref b_27), .val .null, .unset, .unset, .unset] [])) _
          refine XS.aload X_29.here hx rfl (hb hby at_102) rfl rfl ?_
          show Steps p.tables e below (T_29.setTop (mkF m 104 #[.val (.int p1), .val (.int p2), .val (.int (0 : Int32)), .val (.int (1 : Int32)), .val (.int (0 : Int32)), .val (.ref b_24), .val (.ref b_27), .val .null, .unset, .unset, .unset] [(.ref b_27)])) _
          refine XS.goto X_29.here hx rfl (pc0 := 104) (pc' := 108) rfl (hb hby at_104) (by decide) (by decide) ?_
          show Steps p.tables e below (T_29.setTop (mkF m 108 #[.val (.int p1), .val (.int p2), .val (.int (0 : Int32)), .val (.int (1 : Int32)), .val (.int (0 : Int32)), .val (.ref b_24), .val (.ref b_27), .val .null, .unset, .unset, .unset] [(.ref b_27)])) _
          refine XS.astore X_29.here hx rfl (hb hby at_108) rfl rfl (l' := #[.val (.int p1), .val (.int p2), .val (.int (0 : Int32)), .val (.int (1 : Int32)), .val (.int (0 : Int32)), .val (.ref b_24), .val (.ref b_27), .val .null, .val (.ref b_27), .unset, .unset]) rfl ?_
          show Steps p.tables e below (T_29.setTop (mkF m 110 #[.val (.int p1), .val (.int p2), .val (.int (0 : Int32)), .val (.int (1 : Int32)), .val (.int (0 : Int32)), .val (.ref b_24), .val (.ref b_27), .val .null, .val (.ref b_27), .unset, .unset] [])) _
          refine st_30 _ ?_
          show Steps p.tables e below (T_30.setTop (mkF m 113 #[.val (.int p1), .val (.int p2), .val (.int (0 : Int32)), .val (.int (1 : Int32)), .val (.int (0 : Int32)), .val (.ref b_24), .val (.ref b_27), .val .null, .val (.ref b_27), .unset, .unset] [(.ref b_30)])) _
          refine XS.dup X_30.here hx rfl (hb hby at_113) rfl rfl ?_
          show Steps p.tables e below (T_30.setTop (mkF m 114 #[.val (.int p1), .val (.int p2), .val (.int (0 : Int32)), .val (.int (1 : Int32)), .val (.int (0 : Int32)), .val (.ref b_24), .val (.ref b_27), .val .null, .val (.ref b_27), .unset, .unset] [(.ref b_30), (.ref b_30)])) _
          refine XS.aload X_30.here hx rfl (hb hby at_114) rfl rfl ?_
          show Steps p.tables e below (T_30.setTop (mkF m 116 #[.val (.int p1), .val (.int p2), .val (.int (0 : Int32)), .val (.int (1 : Int32)), .val (.int (0 : Int32)), .val (.ref b_24), .val (.ref b_27), .val .null, .val (.ref b_27), .unset, .unset] [.null, (.ref b_30), (.ref b_30)])) _
          refine XS.aload X_30.here hx rfl (hb hby at_116) rfl rfl ?_
          show Steps p.tables e below (T_30.setTop (mkF m 118 #[.val (.int p1), .val (.int p2), .val (.int (0 : Int32)), .val (.int (1 : Int32)), .val (.int (0 : Int32)), .val (.ref b_24), .val (.ref b_27), .val .null, .val (.ref b_27), .unset, .unset] [(.ref b_27), .null, (.ref b_30), (.ref b_30)])) _
          refine st_31.trans ?_
          show Steps p.tables e below (T_31.setTop (mkF m 121 #[.val (.int p1), .val (.int p2), .val (.int (0 : Int32)), .val (.int (1 : Int32)), .val (.int (0 : Int32)), .val (.ref b_24), .val (.ref b_27), .val .null, .val (.ref b_27), .unset, .unset] [(.ref b_30)])) _
          refine XS.astore X_31.here hx rfl (hb hby at_121) rfl rfl (l' := #[.val (.int p1), .val (.int p2), .val (.int (0 : Int32)), .val (.int (1 : Int32)), .val (.int (0 : Int32)), .val (.ref b_24), .val (.ref b_27), .val .null, .val (.ref b_27), .val (.ref b_30), .unset]) rfl ?_
          show Steps p.tables e below (T_31.setTop (mkF m 123 #[.val (.int p1), .val (.int p2), .val (.int (0 : Int32)), .val (.int (1 : Int32)), .val (.int (0 : Int32)), .val (.ref b_24), .val (.ref b_27), .val .null, .val (.ref b_27), .val (.ref b_30), .unset] [])) _
          refine XS.iloadN X_31.here hx rfl (hb hby at_123) rfl ?_
          show Steps p.tables e below (T_31.setTop (mkF m 124 #[.val (.int p1), .val (.int p2), .val (.int (0 : Int32)), .val (.int (1 : Int32)), .val (.int (0 : Int32)), .val (.ref b_24), .val (.ref b_27), .val .null, .val (.ref b_27), .val (.ref b_30), .unset] [(.int (0 : Int32))])) _
          refine XS.ifYes X_31.here hx rfl (pc0 := 124) (pc' := 133) rfl (hb hby at_124) rfl ((if0 _ _).trans (teq (by decide : (0 : Int32) = (0 : Int32))).1) (by decide) (by decide) ?_
          show Steps p.tables e below (T_31.setTop (mkF m 133 #[.val (.int p1), .val (.int p2), .val (.int (0 : Int32)), .val (.int (1 : Int32)), .val (.int (0 : Int32)), .val (.ref b_24), .val (.ref b_27), .val .null, .val (.ref b_27), .val (.ref b_30), .unset] [])) _
          refine XS.iloadN X_31.here hx rfl (hb hby at_133) rfl ?_
          show Steps p.tables e below (T_31.setTop (mkF m 134 #[.val (.int p1), .val (.int p2), .val (.int (0 : Int32)), .val (.int (1 : Int32)), .val (.int (0 : Int32)), .val (.ref b_24), .val (.ref b_27), .val .null, .val (.ref b_27), .val (.ref b_30), .unset] [(.int (1 : Int32))])) _
          refine XS.ifNo X_31.here hx rfl (hb hby at_134) rfl ((if0 _ _).trans (feq (by decide : ¬ ((1 : Int32) = (0 : Int32)))).1) ?_
          show Steps p.tables e below (T_31.setTop (mkF m 137 #[.val (.int p1), .val (.int p2), .val (.int (0 : Int32)), .val (.int (1 : Int32)), .val (.int (0 : Int32)), .val (.ref b_24), .val (.ref b_27), .val .null, .val (.ref b_27), .val (.ref b_30), .unset] [])) _
          refine XS.iconst X_31.here hx rfl (hb hby at_137) ?_
          show Steps p.tables e below (T_31.setTop (mkF m 138 #[.val (.int p1), .val (.int p2), .val (.int (0 : Int32)), .val (.int (1 : Int32)), .val (.int (0 : Int32)), .val (.ref b_24), .val (.ref b_27), .val .null, .val (.ref b_27), .val (.ref b_30), .unset] [(.int (1 : Int32))])) _
          refine XS.istore X_31.here hx rfl (hb hby at_138) rfl (l' := #[.val (.int p1), .val (.int p2), .val (.int (0 : Int32)), .val (.int (1 : Int32)), .val (.int (0 : Int32)), .val (.ref b_24), .val (.ref b_27), .val .null, .val (.ref b_27), .val (.ref b_30), .val (.int (1 : Int32))]) rfl ?_
          show Steps p.tables e below (T_31.setTop (mkF m 140 #[.val (.int p1), .val (.int p2), .val (.int (0 : Int32)), .val (.int (1 : Int32)), .val (.int (0 : Int32)), .val (.ref b_24), .val (.ref b_27), .val .null, .val (.ref b_27), .val (.ref b_30), .val (.int (1 : Int32))] [])) _
          refine XS.goto X_31.here hx rfl (pc0 := 140) (pc' := 146) rfl (hb hby at_140) (by decide) (by decide) ?_
          show Steps p.tables e below (T_31.setTop (mkF m 146 #[.val (.int p1), .val (.int p2), .val (.int (0 : Int32)), .val (.int (1 : Int32)), .val (.int (0 : Int32)), .val (.ref b_24), .val (.ref b_27), .val .null, .val (.ref b_27), .val (.ref b_30), .val (.int (1 : Int32))] [])) _
          refine XS.aload X_31.here hx rfl (hb hby at_146) rfl rfl ?_
          show Steps p.tables e below (T_31.setTop (mkF m 148 #[.val (.int p1), .val (.int p2), .val (.int (0 : Int32)), .val (.int (1 : Int32)), .val (.int (0 : Int32)), .val (.ref b_24), .val (.ref b_27), .val .null, .val (.ref b_27), .val (.ref b_30), .val (.int (1 : Int32))] [(.ref b_30)])) _
          refine st_32.trans ?_
          show Steps p.tables e below (T_32.setTop (mkF m 151 #[.val (.int p1), .val (.int p2), .val (.int (0 : Int32)), .val (.int (1 : Int32)), .val (.int (0 : Int32)), .val (.ref b_24), .val (.ref b_27), .val .null, .val (.ref b_27), .val (.ref b_30), .val (.int (1 : Int32))] [(.int (1 : Int32))])) _
          refine XS.iload X_32.here hx rfl (hb hby at_151) rfl ?_
          show Steps p.tables e below (T_32.setTop (mkF m 153 #[.val (.int p1), .val (.int p2), .val (.int (0 : Int32)), .val (.int (1 : Int32)), .val (.int (0 : Int32)), .val (.ref b_24), .val (.ref b_27), .val .null, .val (.ref b_27), .val (.ref b_30), .val (.int (1 : Int32))] [(.int (1 : Int32)), (.int (1 : Int32))])) _
          refine XS.icmpNo X_32.here hx rfl (hb hby at_153) rfl (teq (by decide : (1 : Int32) = (1 : Int32))).2 ?_
          show Steps p.tables e below (T_32.setTop (mkF m 156 #[.val (.int p1), .val (.int p2), .val (.int (0 : Int32)), .val (.int (1 : Int32)), .val (.int (0 : Int32)), .val (.ref b_24), .val (.ref b_27), .val .null, .val (.ref b_27), .val (.ref b_30), .val (.int (1 : Int32))] [])) _
          refine XS.iconst X_32.here hx rfl (hb hby at_156) ?_
          show Steps p.tables e below (T_32.setTop (mkF m 157 #[.val (.int p1), .val (.int p2), .val (.int (0 : Int32)), .val (.int (1 : Int32)), .val (.int (0 : Int32)), .val (.ref b_24), .val (.ref b_27), .val .null, .val (.ref b_27), .val (.ref b_30), .val (.int (1 : Int32))] [(.int (1 : Int32))])) _
          refine XS.goto X_32.here hx rfl (pc0 := 157) (pc' := 161) rfl (hb hby at_157) (by decide) (by decide) ?_
          show Steps p.tables e below (T_32.setTop (mkF m 161 #[.val (.int p1), .val (.int p2), .val (.int (0 : Int32)), .val (.int (1 : Int32)), .val (.int (0 : Int32)), .val (.ref b_24), .val (.ref b_27), .val .null, .val (.ref b_27), .val (.ref b_30), .val (.int (1 : Int32))] [(.int (1 : Int32))])) _
          exact retN X_32 hx (t := .boolean) Bd.returns (by simp) (hb hby at_161) hr
        · exact ⟨rfl, N_32⟩
      · obtain ⟨T_33, h_33, X_33, e_33, E_33, A_33, D_33, -, st_33⟩ := newO X0 hx hZ hown (hw _ (List.mem_of_getElem? (i := 0) rfl)) (hw _ (List.mem_of_getElem? (i := 1) rfl)) (hw _ (List.mem_of_getElem? (i := 2) rfl)) e0 (g := (mkF m 37 #[.val (.int p1), .val (.int p2), .val (.int (0 : Int32)), .val (.int (1 : Int32)), .val (.int (1 : Int32)), .unset, .unset, .unset, .unset, .unset, .unset] [])) rfl (hb hby at_37) (by decide) (by decide)
        obtain ⟨b_33, g_33⟩ : ∃ z, z = h0.size := ⟨_, rfl⟩
        rw [← g_33] at A_33 D_33 st_33
        have g_b_33 : n0 ≤ b_33 := Nat.le_trans Z0 (Nat.le_of_eq g_33.symm)
        have sz_b_33 : h0.size ≤ b_33 := Nat.le_trans ((Keep.refl h0 [])).1 (Nat.le_of_eq g_33.symm)
        have f_33_0 : Sta Z h_33 "java/lang/String" "COMPACT_STRINGS" "Z" (.int w9) := F0.ext E_33
        have Z_33 : n0 ≤ h_33.size := Nat.le_trans Z0 E_33.1
        have K_33 : Keep h0 h_33 [] := (Keep.refl h0 []).ext E_33
        have fd_33_39 : Fld Z h_33 b_33 "com/example/pathlatch/pathlatch/Text" "value" "Ljava/lang/String;" .null := D_33 (Or.inl (hw _ (List.mem_of_getElem? (i := 39) rfl))) (ty := (.object "java/lang/String")) (by decide)
        obtain ⟨_, _, ⟨T_34, L_34, k_34, n_34⟩, -, X_34, ⟨Lc_34, hQ_34, l_34, y_34, z_34⟩, st_34⟩ := Jvm.LawKit.callS X_33 hx (y := (⟨"java/lang/String", "valueOf", "(C)Ljava/lang/String;"⟩ : MethodName)) hown (mvT hZ (hw _ (List.mem_of_getElem? (i := 3) rfl))) (mvT hZ (hw _ (List.mem_of_getElem? (i := 4) rfl))) (mvT hZ (hw _ (List.mem_of_getElem? (i := 5) rfl))) (mvT hZ (hw _ (List.mem_of_getElem? (i := 6) rfl))) (by decide) (backOf (W := 2) (rm1 l Z a0 hw [] ((p2 &&& (255 : Int32)).toUInt32.toUInt16.toUInt32.toInt32) w9 h_33 n0 Z_33 f_33_0 hw9 (own_ch1 p2)) hZ (hw _ (List.mem_of_getElem? (i := 6) rfl)) (hw _ (List.mem_of_getElem? (i := 5) rfl)) (by decide) (by decide)) (g := (mkF m 47 #[.val (.int p1), .val (.int p2), .val (.int (0 : Int32)), .val (.int (1 : Int32)), .val (.int (1 : Int32)), .unset, .unset, .unset, .unset, .unset, .unset] [(.int ((p2 &&& (255 : Int32)).toUInt32.toUInt16.toUInt32.toInt32)), (.ref b_33), (.ref b_33)])) rfl (by rw [hml]; rfl) (argsL := [(.int ((p2 &&& (255 : Int32)).toUInt32.toUInt16.toUInt32.toInt32))]) (rest := [(.ref b_33), (.ref b_33)]) (lenOf pd_5 rfl) rfl (by show 2 * 0 + _ ≤ _; exact Nat.le_of_eq rfl) (hb hby at_47) (fun _ _ => ⟨rfl, e_33, (by decide : 1 + 2 ≤ _), (by decide : 4 + 5 ≤ _)⟩)
        dsimp only [Pt.U, Pt.locs, Pt.cells, Pt.slots] at X_34 l_34 y_34 z_34 st_34 hQ_34
        subst l_34 y_34 z_34
        obtain ⟨r_34, rfl, N_34q, Kc_34⟩ := hQ_34
        have f_34_0 : Sta Z T_34.heap "java/lang/String" "COMPACT_STRINGS" "Z" (.int w9) := own_sta_keep0 f_33_0 Kc_34
        have f_34_1 : Exa Z T_34.heap b_33 "com/example/pathlatch/pathlatch/Text" := A_33.keep Kc_34
        have f_34_2 : Fld Z T_34.heap b_33 "com/example/pathlatch/pathlatch/Text" "value" "Ljava/lang/String;" .null := fd_33_39.keep Kc_34 (List.not_mem_nil)
        have Z_34 : n0 ≤ T_34.heap.size := Nat.le_trans Z_33 Kc_34.1
        have K_34 : Keep h0 T_34.heap [] := K_33.trans Kc_34 (fun x hx => nomatch hx)
        have N_34 := Fr.app N0 N_34q
        obtain ⟨_, _, ⟨T_35, L_35, k_35, n_35⟩, -, X_35, ⟨Lc_35, hQ_35, l_35, y_35, z_35⟩, st_35⟩ := X_34.specialBack hx (y := (⟨"com/example/pathlatch/pathlatch/Text", "<init>", "(Ljava/lang/String;)V"⟩ : MethodName)) rfl hown (mvT hZ (hw _ (List.mem_of_getElem? (i := 29) rfl))) (mvT hZ (hw _ (List.mem_of_getElem? (i := 30) rfl))) (mvT hZ (hw _ (List.mem_of_getElem? (i := 31) rfl))) (by decide) (backOf (W := 1) (rm6 l Z a0 hw [] b_33 r_34 T_34.heap n0 Z_34 g_b_33 f_34_1 f_34_2) hZ (hw _ (List.mem_of_getElem? (i := 31) rfl)) (hw _ (List.mem_of_getElem? (i := 2) rfl)) (by decide) (by decide)) (g := (mkF m 50 #[.val (.int p1), .val (.int p2), .val (.int (0 : Int32)), .val (.int (1 : Int32)), .val (.int (1 : Int32)), .unset, .unset, .unset, .unset, .unset, .unset] [(.ref r_34), (.ref b_33), (.ref b_33)])) rfl (by rw [hml]; rfl) (Steps.refl _) (a := b_33) (argsL := [(.ref r_34)]) (rest := [(.ref b_33)]) (lenOf pd_6 rfl) rfl (by show 2 * 0 + _ ≤ _; exact Nat.le_of_eq rfl) (hb hby at_50) (fun _ _ => ⟨rfl, rfl, (by decide : 3 + 0 ≤ _), (by decide : 9 + 0 ≤ _)⟩)
        dsimp only [Pt.U, Pt.locs, Pt.cells, Pt.slots] at X_35 l_35 y_35 z_35 st_35 hQ_35
        subst l_35 y_35 z_35
        obtain ⟨rfl, N_35q, Kc_35, o_35_0⟩ := hQ_35
        have f_35_0 : Sta Z T_35.heap "java/lang/String" "COMPACT_STRINGS" "Z" (.int w9) := own_sta_keep f_34_0 f_34_1 Kc_35
        have f_35_1 : Exa Z T_35.heap b_33 "com/example/pathlatch/pathlatch/Text" := f_34_1.keep Kc_35
        have Z_35 : n0 ≤ T_35.heap.size := Nat.le_trans Z_34 Kc_35.1
        have K_35 : Keep h0 T_35.heap [] := K_34.trans Kc_35 (fun x hx => by cases List.mem_singleton.mp hx; exact Or.inr sz_b_33)
        have N_35 := Fr.app N_34 N_35q
        obtain ⟨T_36, h_36, X_36, e_36, E_36, A_36, D_36, -, st_36⟩ := newO X_35 hx hZ hown (hw _ (List.mem_of_getElem? (i := 40) rfl)) (hw _ (List.mem_of_getElem? (i := 41) rfl)) (hw _ (List.mem_of_getElem? (i := 42) rfl)) rfl (g := (mkF m 110 #[.val (.int p1), .val (.int p2), .val (.int (0 : Int32)), .val (.int (1 : Int32)), .val (.int (1 : Int32)), .val (.ref b_33), .val (.ref b_33), .val .null, .val (.ref b_33), .unset, .unset] [])) rfl (hb hby at_110) (by decide) (by decide)
        obtain ⟨b_36, g_36⟩ : ∃ z, z = T_35.heap.size := ⟨_, rfl⟩
        rw [← g_36] at A_36 D_36 st_36
        have ne_b_33_b_36 : b_33 ≠ b_36 := Nat.ne_of_lt (Nat.lt_of_lt_of_le o_35_0.lt (Nat.le_of_eq g_36.symm))
        have g_b_36 : n0 ≤ b_36 := Nat.le_trans Z_35 (Nat.le_of_eq g_36.symm)
        have sz_b_36 : h0.size ≤ b_36 := Nat.le_trans (K_35).1 (Nat.le_of_eq g_36.symm)
        have f_36_0 : Sta Z h_36 "java/lang/String" "COMPACT_STRINGS" "Z" (.int w9) := f_35_0.ext E_36
        have f_36_1 : Exa Z h_36 b_33 "com/example/pathlatch/pathlatch/Text" := o_35_0.ext E_36
        have Z_36 : n0 ≤ h_36.size := Nat.le_trans Z_35 E_36.1
        have K_36 : Keep h0 h_36 [] := K_35.ext E_36
        have fd_36_53 : Fld Z h_36 b_36 "com/example/pathlatch/pathlatch/ParentNode$TextBeside" "before" "Lcom/example/pathlatch/pathlatch/Text;" .null := D_36 (Or.inr (hw _ (List.mem_of_getElem? (i := 53) rfl))) (ty := (.object "com/example/pathlatch/pathlatch/Text")) (by decide)
        have fd_36_55 : Fld Z h_36 b_36 "com/example/pathlatch/pathlatch/ParentNode$TextBeside" "after" "Lcom/example/pathlatch/pathlatch/Text;" .null := D_36 (Or.inr (hw _ (List.mem_of_getElem? (i := 55) rfl))) (ty := (.object "com/example/pathlatch/pathlatch/Text")) (by decide)
        obtain ⟨_, _, ⟨T_37, L_37, k_37, n_37⟩, -, X_37, ⟨Lc_37, hQ_37, l_37, y_37, z_37⟩, st_37⟩ := X_36.specialBack hx (y := (⟨"com/example/pathlatch/pathlatch/ParentNode$TextBeside", "<init>", "(Lcom/example/pathlatch/pathlatch/Text;Lcom/example/pathlatch/pathlatch/Text;)V"⟩ : MethodName)) rfl hown (mvT hZ (hw _ (List.mem_of_getElem? (i := 43) rfl))) (mvT hZ (hw _ (List.mem_of_getElem? (i := 44) rfl))) (mvT hZ (hw _ (List.mem_of_getElem? (i := 45) rfl))) (by decide) (backOf (W := 1) (rm8_1 l Z a0 hw [] b_36 b_33 h_36 n0 Z_36 g_b_36 A_36 fd_36_53 fd_36_55) hZ (hw _ (List.mem_of_getElem? (i := 45) rfl)) (hw _ (List.mem_of_getElem? (i := 42) rfl)) (by decide) (by decide)) (g := (mkF m 118 #[.val (.int p1), .val (.int p2), .val (.int (0 : Int32)), .val (.int (1 : Int32)), .val (.int (1 : Int32)), .val (.ref b_33), .val (.ref b_33), .val .null, .val (.ref b_33), .unset, .unset] [(.ref b_33), .null, (.ref b_36), (.ref b_36)])) rfl (by rw [hml]; rfl) (Steps.refl _) (a := b_36) (argsL := [.null, (.ref b_33)]) (rest := [(.ref b_36)]) (lenOf pd_7 rfl) rfl (by show 2 * 0 + _ ≤ _; exact Nat.le_of_eq rfl) (hb hby at_118) (fun _ _ => ⟨rfl, e_36, (by decide : 4 + 0 ≤ _), (by decide : 11 + 0 ≤ _)⟩)
        dsimp only [Pt.U, Pt.locs, Pt.cells, Pt.slots] at X_37 l_37 y_37 z_37 st_37 hQ_37
        subst l_37 y_37 z_37
        obtain ⟨rfl, N_37q, Kc_37, o_37_0, o_37_1, o_37_2⟩ := hQ_37
        have f_37_0 : Sta Z T_37.heap "java/lang/String" "COMPACT_STRINGS" "Z" (.int w9) := own_sta_keep f_36_0 A_36 Kc_37
        have f_37_1 : Exa Z T_37.heap b_33 "com/example/pathlatch/pathlatch/Text" := f_36_1.keep Kc_37
        have f_37_2 : Exa Z T_37.heap b_36 "com/example/pathlatch/pathlatch/ParentNode$TextBeside" := A_36.keep Kc_37
        have Z_37 : n0 ≤ T_37.heap.size := Nat.le_trans Z_36 Kc_37.1
        have K_37 : Keep h0 T_37.heap [] := K_36.trans Kc_37 (fun x hx => by cases List.mem_singleton.mp hx; exact Or.inr sz_b_36)
        have N_37 := Fr.app N_35 N_37q
        obtain ⟨cq_38, kq_38, q_38a, q_38b, q_38c⟩ := isOf hZ rfl o_37_0
        obtain ⟨_, _, ⟨T_38, L_38, k_38, n_38⟩, -, X_38, ⟨Lc_38, hQ_38, l_38, y_38, z_38⟩, st_38⟩ := X_37.virtualBack hx (y := (⟨"com/example/pathlatch/pathlatch/ParentNode$TextBeside", "any", "()Z"⟩ : MethodName)) (z := (⟨"com/example/pathlatch/pathlatch/ParentNode$TextBeside", "any", "()Z"⟩ : MethodName)) hown (mvT hZ (hw _ (List.mem_of_getElem? (i := 56) rfl))) (mvT hZ (hw _ (List.mem_of_getElem? (i := 57) rfl))) (notFace_of_selects (args := #[]) (mvT hZ (hw _ (List.mem_of_getElem? (i := 59) rfl)))) (mvT hZ (hw _ (List.mem_of_getElem? (i := 59) rfl))) (mvT hZ (hw _ (List.mem_of_getElem? (i := 58) rfl))) (by decide) (backOf (W := 0) (rm10_2 l Z a0 hw [] b_36 b_33 T_37.heap n0 Z_37 o_37_1 o_37_2) hZ (hw _ (List.mem_of_getElem? (i := 60) rfl)) (hw _ (List.mem_of_getElem? (i := 42) rfl)) (by decide) (by decide)) q_38a q_38c (g := (mkF m 148 #[.val (.int p1), .val (.int p2), .val (.int (0 : Int32)), .val (.int (1 : Int32)), .val (.int (1 : Int32)), .val (.ref b_33), .val (.ref b_33), .val .null, .val (.ref b_33), .val (.ref b_36), .val (.int (1 : Int32))] [(.ref b_36)])) rfl (by rw [hml]; rfl) (Steps.refl _) (argsL := []) (rest := []) (lenOf pd_8 rfl) rfl (by show 2 * 0 + _ ≤ _; exact Nat.le_of_eq rfl) (hb hby at_148) (fun _ _ => ⟨rfl, rfl, (by decide : 4 + 0 ≤ _), (by decide : 11 + 0 ≤ _)⟩)
        dsimp only [Pt.U, Pt.locs, Pt.cells, Pt.slots] at X_38 l_38 y_38 z_38 st_38 hQ_38
        subst l_38 y_38 z_38
        obtain ⟨rfl, N_38q, e_38⟩ := hQ_38
        have N_38 := Fr.app N_37 N_38q
        obtain ⟨fs, hr, hrun, hended, hW, hsame⟩ := X_38.leave (v := some (.int (1 : Int32))) (fun h => by rw [Bd.returns] at h; cases h)
        refine ⟨_, _, pr_22 _ ?_, hrun, hended, _, _, rfl, ?_, ⟨_, rfl⟩, hW, hsame.mono (by decide) (by decide)⟩
        · show Steps p.tables e below (s₁.setTop (mkF m 27 #[.val (.int p1), .val (.int p2), .val (.int (0 : Int32)), .val (.int (1 : Int32)), .unset, .unset, .unset, .unset, .unset, .unset, .unset] [(.int (p1 &&& (4 : Int32)))])) _
          refine XS.ifNo X0.here hx rfl (hb hby at_27) rfl ((if0 _ _).trans (feq hc_23).1) ?_
          show Steps p.tables e below (s₁.setTop (mkF m 30 #[.val (.int p1), .val (.int p2), .val (.int (0 : Int32)), .val (.int (1 : Int32)), .unset, .unset, .unset, .unset, .unset, .unset, .unset] [])) _
          refine XS.iconst X0.here hx rfl (hb hby at_30) ?_
          show Steps p.tables e below (s₁.setTop (mkF m 31 #[.val (.int p1), .val (.int p2), .val (.int (0 : Int32)), .val (.int (1 : Int32)), .unset, .unset, .unset, .unset, .unset, .unset, .unset] [(.int (1 : Int32))])) _
          refine XS.goto X0.here hx rfl (pc0 := 31) (pc' := 35) rfl (hb hby at_31) (by decide) (by decide) ?_
          show Steps p.tables e below (s₁.setTop (mkF m 35 #[.val (.int p1), .val (.int p2), .val (.int (0 : Int32)), .val (.int (1 : Int32)), .unset, .unset, .unset, .unset, .unset, .unset, .unset] [(.int (1 : Int32))])) _
          refine XS.istore X0.here hx rfl (hb hby at_35) rfl (l' := #[.val (.int p1), .val (.int p2), .val (.int (0 : Int32)), .val (.int (1 : Int32)), .val (.int (1 : Int32)), .unset, .unset, .unset, .unset, .unset, .unset]) rfl ?_
          show Steps p.tables e below (s₁.setTop (mkF m 37 #[.val (.int p1), .val (.int p2), .val (.int (0 : Int32)), .val (.int (1 : Int32)), .val (.int (1 : Int32)), .unset, .unset, .unset, .unset, .unset, .unset] [])) _
          refine st_33 _ ?_
          show Steps p.tables e below (T_33.setTop (mkF m 40 #[.val (.int p1), .val (.int p2), .val (.int (0 : Int32)), .val (.int (1 : Int32)), .val (.int (1 : Int32)), .unset, .unset, .unset, .unset, .unset, .unset] [(.ref b_33)])) _
          refine XS.dup X_33.here hx rfl (hb hby at_40) rfl rfl ?_
          show Steps p.tables e below (T_33.setTop (mkF m 41 #[.val (.int p1), .val (.int p2), .val (.int (0 : Int32)), .val (.int (1 : Int32)), .val (.int (1 : Int32)), .unset, .unset, .unset, .unset, .unset, .unset] [(.ref b_33), (.ref b_33)])) _
          refine XS.iloadN X_33.here hx rfl (hb hby at_41) rfl ?_
          show Steps p.tables e below (T_33.setTop (mkF m 42 #[.val (.int p1), .val (.int p2), .val (.int (0 : Int32)), .val (.int (1 : Int32)), .val (.int (1 : Int32)), .unset, .unset, .unset, .unset, .unset, .unset] [(.int p2), (.ref b_33), (.ref b_33)])) _
          refine XS.sipush X_33.here hx rfl (hb hby at_42) ?_
          show Steps p.tables e below (T_33.setTop (mkF m 45 #[.val (.int p1), .val (.int p2), .val (.int (0 : Int32)), .val (.int (1 : Int32)), .val (.int (1 : Int32)), .unset, .unset, .unset, .unset, .unset, .unset] [(.int (255 : Int32)), (.int p2), (.ref b_33), (.ref b_33)])) _
          refine XS.iand X_33.here hx rfl (hb hby at_45) rfl ?_
          show Steps p.tables e below (T_33.setTop (mkF m 46 #[.val (.int p1), .val (.int p2), .val (.int (0 : Int32)), .val (.int (1 : Int32)), .val (.int (1 : Int32)), .unset, .unset, .unset, .unset, .unset, .unset] [(.int (p2 &&& (255 : Int32))), (.ref b_33), (.ref b_33)])) _
          refine XS.i2c X_33.here hx rfl (hb hby at_46) rfl ?_
          show Steps p.tables e below (T_33.setTop (mkF m 47 #[.val (.int p1), .val (.int p2), .val (.int (0 : Int32)), .val (.int (1 : Int32)), .val (.int (1 : Int32)), .unset, .unset, .unset, .unset, .unset, .unset] [(.int ((p2 &&& (255 : Int32)).toUInt32.toUInt16.toUInt32.toInt32)), (.ref b_33), (.ref b_33)])) _
          refine st_34 _ ?_
          show Steps p.tables e below (T_34.setTop (mkF m 50 #[.val (.int p1), .val (.int p2), .val (.int (0 : Int32)), .val (.int (1 : Int32)), .val (.int (1 : Int32)), .unset, .unset, .unset, .unset, .unset, .unset] [(.ref r_34), (.ref b_33), (.ref b_33)])) _
          refine st_35.trans ?_
          show Steps p.tables e below (T_35.setTop (mkF m 53 #[.val (.int p1), .val (.int p2), .val (.int (0 : Int32)), .val (.int (1 : Int32)), .val (.int (1 : Int32)), .unset, .unset, .unset, .unset, .unset, .unset] [(.ref b_33)])) _
          refine XS.astore X_35.here hx rfl (hb hby at_53) rfl rfl (l' := #[.val (.int p1), .val (.int p2), .val (.int (0 : Int32)), .val (.int (1 : Int32)), .val (.int (1 : Int32)), .val (.ref b_33), .unset, .unset, .unset, .unset, .unset]) rfl ?_
          show Steps p.tables e below (T_35.setTop (mkF m 55 #[.val (.int p1), .val (.int p2), .val (.int (0 : Int32)), .val (.int (1 : Int32)), .val (.int (1 : Int32)), .val (.ref b_33), .unset, .unset, .unset, .unset, .unset] [])) _
          refine XS.iload X_35.here hx rfl (hb hby at_55) rfl ?_
          show Steps p.tables e below (T_35.setTop (mkF m 57 #[.val (.int p1), .val (.int p2), .val (.int (0 : Int32)), .val (.int (1 : Int32)), .val (.int (1 : Int32)), .val (.ref b_33), .unset, .unset, .unset, .unset, .unset] [(.int (1 : Int32))])) _
          refine XS.ifNo X_35.here hx rfl (hb hby at_57) rfl ((if0 _ _).trans (feq (by decide : ¬ ((1 : Int32) = (0 : Int32)))).1) ?_
          show Steps p.tables e below (T_35.setTop (mkF m 60 #[.val (.int p1), .val (.int p2), .val (.int (0 : Int32)), .val (.int (1 : Int32)), .val (.int (1 : Int32)), .val (.ref b_33), .unset, .unset, .unset, .unset, .unset] [])) _
          refine XS.aload X_35.here hx rfl (hb hby at_60) rfl rfl ?_
          show Steps p.tables e below (T_35.setTop (mkF m 62 #[.val (.int p1), .val (.int p2), .val (.int (0 : Int32)), .val (.int (1 : Int32)), .val (.int (1 : Int32)), .val (.ref b_33), .unset, .unset, .unset, .unset, .unset] [(.ref b_33)])) _
          refine XS.goto X_35.here hx rfl (pc0 := 62) (pc' := 84) rfl (hb hby at_62) (by decide) (by decide) ?_
          show Steps p.tables e below (T_35.setTop (mkF m 84 #[.val (.int p1), .val (.int p2), .val (.int (0 : Int32)), .val (.int (1 : Int32)), .val (.int (1 : Int32)), .val (.ref b_33), .unset, .unset, .unset, .unset, .unset] [(.ref b_33)])) _
          refine XS.astore X_35.here hx rfl (hb hby at_84) rfl rfl (l' := #[.val (.int p1), .val (.int p2), .val (.int (0 : Int32)), .val (.int (1 : Int32)), .val (.int (1 : Int32)), .val (.ref b_33), .val (.ref b_33), .unset, .unset, .unset, .unset]) rfl ?_
          show Steps p.tables e below (T_35.setTop (mkF m 86 #[.val (.int p1), .val (.int p2), .val (.int (0 : Int32)), .val (.int (1 : Int32)), .val (.int (1 : Int32)), .val (.ref b_33), .val (.ref b_33), .unset, .unset, .unset, .unset] [])) _
          refine XS.iloadN X_35.here hx rfl (hb hby at_86) rfl ?_
          show Steps p.tables e below (T_35.setTop (mkF m 87 #[.val (.int p1), .val (.int p2), .val (.int (0 : Int32)), .val (.int (1 : Int32)), .val (.int (1 : Int32)), .val (.ref b_33), .val (.ref b_33), .unset, .unset, .unset, .unset] [(.int (0 : Int32))])) _
          refine XS.ifYes X_35.here hx rfl (pc0 := 87) (pc' := 95) rfl (hb hby at_87) rfl ((if0 _ _).trans (teq (by decide : (0 : Int32) = (0 : Int32))).1) (by decide) (by decide) ?_
          show Steps p.tables e below (T_35.setTop (mkF m 95 #[.val (.int p1), .val (.int p2), .val (.int (0 : Int32)), .val (.int (1 : Int32)), .val (.int (1 : Int32)), .val (.ref b_33), .val (.ref b_33), .unset, .unset, .unset, .unset] [])) _
          refine XS.aconstNull X_35.here hx rfl (hb hby at_95) ?_
          show Steps p.tables e below (T_35.setTop (mkF m 96 #[.val (.int p1), .val (.int p2), .val (.int (0 : Int32)), .val (.int (1 : Int32)), .val (.int (1 : Int32)), .val (.ref b_33), .val (.ref b_33), .unset, .unset, .unset, .unset] [.null])) _
          refine XS.astore X_35.here hx rfl (hb hby at_96) rfl rfl (l' := #[.val (.int p1), .val (.int p2), .val (.int (0 : Int32)), .val (.int (1 : Int32)), .val (.int (1 : Int32)), .val (.ref b_33), .val (.ref b_33), .val .null, .unset, .unset, .unset]) rfl ?_
          show Steps p.tables e below (T_35.setTop (mkF m 98 #[.val (.int p1), .val (.int p2), .val (.int (0 : Int32)), .val (.int (1 : Int32)), .val (.int (1 : Int32)), .val (.ref b_33), .val (.ref b_33), .val .null, .unset, .unset, .unset] [])) _
          refine XS.iloadN X_35.here hx rfl (hb hby at_98) rfl ?_
          show Steps p.tables e below (T_35.setTop (mkF m 99 #[.val (.int p1), .val (.int p2), .val (.int (0 : Int32)), .val (.int (1 : Int32)), .val (.int (1 : Int32)), .val (.ref b_33), .val (.ref b_33), .val .null, .unset, .unset, .unset] [(.int (1 : Int32))])) _
          refine XS.ifNo X_35.here hx rfl (hb hby at_99) rfl ((if0 _ _).trans (feq (by decide : ¬ ((1 : Int32) = (0 : Int32)))).1) ?_
          show Steps p.tables e below (T_35.setTop (mkF m 102 #[.val (.int p1), .val (.int p2), .val (.int (0 : Int32)), .val (.int (1 : Int32)), .val (.int (1 : Int32)), .val (.ref b_33), .val (.ref b_33), .val .null, .unset, .unset, .unset] [])) _
          refine XS.aload X_35.here hx rfl (hb hby at_102) rfl rfl ?_
          show Steps p.tables e below (T_35.setTop (mkF m 104 #[.val (.int p1), .val (.int p2), .val (.int (0 : Int32)), .val (.int (1 : Int32)), .val (.int (1 : Int32)), .val (.ref b_33), .val (.ref b_33), .val .null, .unset, .unset, .unset] [(.ref b_33)])) _
          refine XS.goto X_35.here hx rfl (pc0 := 104) (pc' := 108) rfl (hb hby at_104) (by decide) (by decide) ?_
          show Steps p.tables e below (T_35.setTop (mkF m 108 #[.val (.int p1), .val (.int p2), .val (.int (0 : Int32)), .val (.int (1 : Int32)), .val (.int (1 : Int32)), .val (.ref b_33), .val (.ref b_33), .val .null, .unset, .unset, .unset] [(.ref b_33)])) _
          refine XS.astore X_35.here hx rfl (hb hby at_108) rfl rfl (l' := #[.val (.int p1), .val (.int p2), .val (.int (0 : Int32)), .val (.int (1 : Int32)), .val (.int (1 : Int32)), .val (.ref b_33), .val (.ref b_33), .val .null, .val (.ref b_33), .unset, .unset]) rfl ?_
          show Steps p.tables e below (T_35.setTop (mkF m 110 #[.val (.int p1), .val (.int p2), .val (.int (0 : Int32)), .val (.int (1 : Int32)), .val (.int (1 : Int32)), .val (.ref b_33), .val (.ref b_33), .val .null, .val (.ref b_33), .unset, .unset] [])) _
          refine st_36 _ ?_
          show Steps p.tables e below (T_36.setTop (mkF m 113 #[.val (.int p1), .val (.int p2), .val (.int (0 : Int32)), .val (.int (1 : Int32)), .val (.int (1 : Int32)), .val (.ref b_33), .val (.ref b_33), .val .null, .val (.ref b_33), .unset, .unset] [(.ref b_36)])) _
          refine XS.dup X_36.here hx rfl (hb hby at_113) rfl rfl ?_
          show Steps p.tables e below (T_36.setTop (mkF m 114 #[.val (.int p1), .val (.int p2), .val (.int (0 : Int32)), .val (.int (1 : Int32)), .val (.int (1 : Int32)), .val (.ref b_33), .val (.ref b_33), .val .null, .val (.ref b_33), .unset, .unset] [(.ref b_36), (.ref b_36)])) _
          refine XS.aload X_36.here hx rfl (hb hby at_114) rfl rfl ?_
          show Steps p.tables e below (T_36.setTop (mkF m 116 #[.val (.int p1), .val (.int p2), .val (.int (0 : Int32)), .val (.int (1 : Int32)), .val (.int (1 : Int32)), .val (.ref b_33), .val (.ref b_33), .val .null, .val (.ref b_33), .unset, .unset] [.null, (.ref b_36), (.ref b_36)])) _
          refine XS.aload X_36.here hx rfl (hb hby at_116) rfl rfl ?_
          show Steps p.tables e below (T_36.setTop (mkF m 118 #[.val (.int p1), .val (.int p2), .val (.int (0 : Int32)), .val (.int (1 : Int32)), .val (.int (1 : Int32)), .val (.ref b_33), .val (.ref b_33), .val .null, .val (.ref b_33), .unset, .unset] [(.ref b_33), .null, (.ref b_36), (.ref b_36)])) _
          refine st_37.trans ?_
          show Steps p.tables e below (T_37.setTop (mkF m 121 #[.val (.int p1), .val (.int p2), .val (.int (0 : Int32)), .val (.int (1 : Int32)), .val (.int (1 : Int32)), .val (.ref b_33), .val (.ref b_33), .val .null, .val (.ref b_33), .unset, .unset] [(.ref b_36)])) _
          refine XS.astore X_37.here hx rfl (hb hby at_121) rfl rfl (l' := #[.val (.int p1), .val (.int p2), .val (.int (0 : Int32)), .val (.int (1 : Int32)), .val (.int (1 : Int32)), .val (.ref b_33), .val (.ref b_33), .val .null, .val (.ref b_33), .val (.ref b_36), .unset]) rfl ?_
          show Steps p.tables e below (T_37.setTop (mkF m 123 #[.val (.int p1), .val (.int p2), .val (.int (0 : Int32)), .val (.int (1 : Int32)), .val (.int (1 : Int32)), .val (.ref b_33), .val (.ref b_33), .val .null, .val (.ref b_33), .val (.ref b_36), .unset] [])) _
          refine XS.iloadN X_37.here hx rfl (hb hby at_123) rfl ?_
          show Steps p.tables e below (T_37.setTop (mkF m 124 #[.val (.int p1), .val (.int p2), .val (.int (0 : Int32)), .val (.int (1 : Int32)), .val (.int (1 : Int32)), .val (.ref b_33), .val (.ref b_33), .val .null, .val (.ref b_33), .val (.ref b_36), .unset] [(.int (0 : Int32))])) _
          refine XS.ifYes X_37.here hx rfl (pc0 := 124) (pc' := 133) rfl (hb hby at_124) rfl ((if0 _ _).trans (teq (by decide : (0 : Int32) = (0 : Int32))).1) (by decide) (by decide) ?_
          show Steps p.tables e below (T_37.setTop (mkF m 133 #[.val (.int p1), .val (.int p2), .val (.int (0 : Int32)), .val (.int (1 : Int32)), .val (.int (1 : Int32)), .val (.ref b_33), .val (.ref b_33), .val .null, .val (.ref b_33), .val (.ref b_36), .unset] [])) _
          refine XS.iloadN X_37.here hx rfl (hb hby at_133) rfl ?_
          show Steps p.tables e below (T_37.setTop (mkF m 134 #[.val (.int p1), .val (.int p2), .val (.int (0 : Int32)), .val (.int (1 : Int32)), .val (.int (1 : Int32)), .val (.ref b_33), .val (.ref b_33), .val .null, .val (.ref b_33), .val (.ref b_36), .unset] [(.int (1 : Int32))])) _
          refine XS.ifNo X_37.here hx rfl (hb hby at_134) rfl ((if0 _ _).trans (feq (by decide : ¬ ((1 : Int32) = (0 : Int32)))).1) ?_
          show Steps p.tables e below (T_37.setTop (mkF m 137 #[.val (.int p1), .val (.int p2), .val (.int (0 : Int32)), .val (.int (1 : Int32)), .val (.int (1 : Int32)), .val (.ref b_33), .val (.ref b_33), .val .null, .val (.ref b_33), .val (.ref b_36), .unset] [])) _
          refine XS.iconst X_37.here hx rfl (hb hby at_137) ?_
          show Steps p.tables e below (T_37.setTop (mkF m 138 #[.val (.int p1), .val (.int p2), .val (.int (0 : Int32)), .val (.int (1 : Int32)), .val (.int (1 : Int32)), .val (.ref b_33), .val (.ref b_33), .val .null, .val (.ref b_33), .val (.ref b_36), .unset] [(.int (1 : Int32))])) _
          refine XS.istore X_37.here hx rfl (hb hby at_138) rfl (l' := #[.val (.int p1), .val (.int p2), .val (.int (0 : Int32)), .val (.int (1 : Int32)), .val (.int (1 : Int32)), .val (.ref b_33), .val (.ref b_33), .val .null, .val (.ref b_33), .val (.ref b_36), .val (.int (1 : Int32))]) rfl ?_
          show Steps p.tables e below (T_37.setTop (mkF m 140 #[.val (.int p1), .val (.int p2), .val (.int (0 : Int32)), .val (.int (1 : Int32)), .val (.int (1 : Int32)), .val (.ref b_33), .val (.ref b_33), .val .null, .val (.ref b_33), .val (.ref b_36), .val (.int (1 : Int32))] [])) _
          refine XS.goto X_37.here hx rfl (pc0 := 140) (pc' := 146) rfl (hb hby at_140) (by decide) (by decide) ?_
          show Steps p.tables e below (T_37.setTop (mkF m 146 #[.val (.int p1), .val (.int p2), .val (.int (0 : Int32)), .val (.int (1 : Int32)), .val (.int (1 : Int32)), .val (.ref b_33), .val (.ref b_33), .val .null, .val (.ref b_33), .val (.ref b_36), .val (.int (1 : Int32))] [])) _
          refine XS.aload X_37.here hx rfl (hb hby at_146) rfl rfl ?_
          show Steps p.tables e below (T_37.setTop (mkF m 148 #[.val (.int p1), .val (.int p2), .val (.int (0 : Int32)), .val (.int (1 : Int32)), .val (.int (1 : Int32)), .val (.ref b_33), .val (.ref b_33), .val .null, .val (.ref b_33), .val (.ref b_36), .val (.int (1 : Int32))] [(.ref b_36)])) _
          refine st_38.trans ?_
          show Steps p.tables e below (T_38.setTop (mkF m 151 #[.val (.int p1), .val (.int p2), .val (.int (0 : Int32)), .val (.int (1 : Int32)), .val (.int (1 : Int32)), .val (.ref b_33), .val (.ref b_33), .val .null, .val (.ref b_33), .val (.ref b_36), .val (.int (1 : Int32))] [(.int (1 : Int32))])) _
          refine XS.iload X_38.here hx rfl (hb hby at_151) rfl ?_
          show Steps p.tables e below (T_38.setTop (mkF m 153 #[.val (.int p1), .val (.int p2), .val (.int (0 : Int32)), .val (.int (1 : Int32)), .val (.int (1 : Int32)), .val (.ref b_33), .val (.ref b_33), .val .null, .val (.ref b_33), .val (.ref b_36), .val (.int (1 : Int32))] [(.int (1 : Int32)), (.int (1 : Int32))])) _
          refine XS.icmpNo X_38.here hx rfl (hb hby at_153) rfl (teq (by decide : (1 : Int32) = (1 : Int32))).2 ?_
          show Steps p.tables e below (T_38.setTop (mkF m 156 #[.val (.int p1), .val (.int p2), .val (.int (0 : Int32)), .val (.int (1 : Int32)), .val (.int (1 : Int32)), .val (.ref b_33), .val (.ref b_33), .val .null, .val (.ref b_33), .val (.ref b_36), .val (.int (1 : Int32))] [])) _
          refine XS.iconst X_38.here hx rfl (hb hby at_156) ?_
          show Steps p.tables e below (T_38.setTop (mkF m 157 #[.val (.int p1), .val (.int p2), .val (.int (0 : Int32)), .val (.int (1 : Int32)), .val (.int (1 : Int32)), .val (.ref b_33), .val (.ref b_33), .val .null, .val (.ref b_33), .val (.ref b_36), .val (.int (1 : Int32))] [(.int (1 : Int32))])) _
          refine XS.goto X_38.here hx rfl (pc0 := 157) (pc' := 161) rfl (hb hby at_157) (by decide) (by decide) ?_
          show Steps p.tables e below (T_38.setTop (mkF m 161 #[.val (.int p1), .val (.int p2), .val (.int (0 : Int32)), .val (.int (1 : Int32)), .val (.int (1 : Int32)), .val (.ref b_33), .val (.ref b_33), .val .null, .val (.ref b_33), .val (.ref b_36), .val (.int (1 : Int32))] [(.int (1 : Int32))])) _
          exact retN X_38 hx (t := .boolean) Bd.returns (by simp) (hb hby at_161) hr
        · exact ⟨rfl, N_38⟩
  · have pr_39 : ∀ t, Steps p.tables e below (s₁.setTop (mkF m 15 #[.val (.int p1), .val (.int p2), .val (.int (1 : Int32)), .unset, .unset, .unset, .unset, .unset, .unset, .unset, .unset] [(.int (p1 &&& (2 : Int32)))])) t → Steps p.tables e below (s₁.setTop (entryFrame m #[(.int p1), (.int p2)] maxLocals)) t := fun t k => by
      refine pr_1 _ ?_
      show Steps p.tables e below (s₁.setTop (mkF m 3 #[.val (.int p1), .val (.int p2), .unset, .unset, .unset, .unset, .unset, .unset, .unset, .unset, .unset] [(.int (p1 &&& (1 : Int32)))])) _
      refine XS.ifNo X0.here hx rfl (hb hby at_3) rfl ((if0 _ _).trans (feq hc_2).1) ?_
      show Steps p.tables e below (s₁.setTop (mkF m 6 #[.val (.int p1), .val (.int p2), .unset, .unset, .unset, .unset, .unset, .unset, .unset, .unset, .unset] [])) _
      refine XS.iconst X0.here hx rfl (hb hby at_6) ?_
      show Steps p.tables e below (s₁.setTop (mkF m 7 #[.val (.int p1), .val (.int p2), .unset, .unset, .unset, .unset, .unset, .unset, .unset, .unset, .unset] [(.int (1 : Int32))])) _
      refine XS.goto X0.here hx rfl (pc0 := 7) (pc' := 11) rfl (hb hby at_7) (by decide) (by decide) ?_
      show Steps p.tables e below (s₁.setTop (mkF m 11 #[.val (.int p1), .val (.int p2), .unset, .unset, .unset, .unset, .unset, .unset, .unset, .unset, .unset] [(.int (1 : Int32))])) _
      refine XS.istoreN X0.here hx rfl (hb hby at_11) rfl (l' := #[.val (.int p1), .val (.int p2), .val (.int (1 : Int32)), .unset, .unset, .unset, .unset, .unset, .unset, .unset, .unset]) rfl ?_
      show Steps p.tables e below (s₁.setTop (mkF m 12 #[.val (.int p1), .val (.int p2), .val (.int (1 : Int32)), .unset, .unset, .unset, .unset, .unset, .unset, .unset, .unset] [])) _
      refine XS.iloadN X0.here hx rfl (hb hby at_12) rfl ?_
      show Steps p.tables e below (s₁.setTop (mkF m 13 #[.val (.int p1), .val (.int p2), .val (.int (1 : Int32)), .unset, .unset, .unset, .unset, .unset, .unset, .unset, .unset] [(.int p1)])) _
      refine XS.iconst X0.here hx rfl (hb hby at_13) ?_
      show Steps p.tables e below (s₁.setTop (mkF m 14 #[.val (.int p1), .val (.int p2), .val (.int (1 : Int32)), .unset, .unset, .unset, .unset, .unset, .unset, .unset, .unset] [(.int (2 : Int32)), (.int p1)])) _
      refine XS.iand X0.here hx rfl (hb hby at_14) rfl ?_
      exact k
    by_cases hc_40 : (p1 &&& (2 : Int32)) = (0 : Int32)
    · have pr_41 : ∀ t, Steps p.tables e below (s₁.setTop (mkF m 27 #[.val (.int p1), .val (.int p2), .val (.int (1 : Int32)), .val (.int (0 : Int32)), .unset, .unset, .unset, .unset, .unset, .unset, .unset] [(.int (p1 &&& (4 : Int32)))])) t → Steps p.tables e below (s₁.setTop (entryFrame m #[(.int p1), (.int p2)] maxLocals)) t := fun t k => by
        refine pr_39 _ ?_
        show Steps p.tables e below (s₁.setTop (mkF m 15 #[.val (.int p1), .val (.int p2), .val (.int (1 : Int32)), .unset, .unset, .unset, .unset, .unset, .unset, .unset, .unset] [(.int (p1 &&& (2 : Int32)))])) _
        refine XS.ifYes X0.here hx rfl (pc0 := 15) (pc' := 22) rfl (hb hby at_15) rfl ((if0 _ _).trans (teq hc_40).1) (by decide) (by decide) ?_
        show Steps p.tables e below (s₁.setTop (mkF m 22 #[.val (.int p1), .val (.int p2), .val (.int (1 : Int32)), .unset, .unset, .unset, .unset, .unset, .unset, .unset, .unset] [])) _
        refine XS.iconst X0.here hx rfl (hb hby at_22) ?_
        show Steps p.tables e below (s₁.setTop (mkF m 23 #[.val (.int p1), .val (.int p2), .val (.int (1 : Int32)), .unset, .unset, .unset, .unset, .unset, .unset, .unset, .unset] [(.int (0 : Int32))])) _
        refine XS.istoreN X0.here hx rfl (hb hby at_23) rfl (l' := #[.val (.int p1), .val (.int p2), .val (.int (1 : Int32)), .val (.int (0 : Int32)), .unset, .unset, .unset, .unset, .unset, .unset, .unset]) rfl ?_
        show Steps p.tables e below (s₁.setTop (mkF m 24 #[.val (.int p1), .val (.int p2), .val (.int (1 : Int32)), .val (.int (0 : Int32)), .unset, .unset, .unset, .unset, .unset, .unset, .unset] [])) _
        refine XS.iloadN X0.here hx rfl (hb hby at_24) rfl ?_
        show Steps p.tables e below (s₁.setTop (mkF m 25 #[.val (.int p1), .val (.int p2), .val (.int (1 : Int32)), .val (.int (0 : Int32)), .unset, .unset, .unset, .unset, .unset, .unset, .unset] [(.int p1)])) _
        refine XS.iconst X0.here hx rfl (hb hby at_25) ?_
        show Steps p.tables e below (s₁.setTop (mkF m 26 #[.val (.int p1), .val (.int p2), .val (.int (1 : Int32)), .val (.int (0 : Int32)), .unset, .unset, .unset, .unset, .unset, .unset, .unset] [(.int (4 : Int32)), (.int p1)])) _
        refine XS.iand X0.here hx rfl (hb hby at_26) rfl ?_
        exact k
      by_cases hc_42 : (p1 &&& (4 : Int32)) = (0 : Int32)
      · obtain ⟨T_43, h_43, X_43, e_43, E_43, A_43, D_43, -, st_43⟩ := newO X0 hx hZ hown (hw _ (List.mem_of_getElem? (i := 0) rfl)) (hw _ (List.mem_of_getElem? (i := 1) rfl)) (hw _ (List.mem_of_getElem? (i := 2) rfl)) e0 (g := (mkF m 37 #[.val (.int p1), .val (.int p2), .val (.int (1 : Int32)), .val (.int (0 : Int32)), .val (.int (0 : Int32)), .unset, .unset, .unset, .unset, .unset, .unset] [])) rfl (hb hby at_37) (by decide) (by decide)
        obtain ⟨b_43, g_43⟩ : ∃ z, z = h0.size := ⟨_, rfl⟩
        rw [← g_43] at A_43 D_43 st_43
        have g_b_43 : n0 ≤ b_43 := Nat.le_trans Z0 (Nat.le_of_eq g_43.symm)
        have sz_b_43 : h0.size ≤ b_43 := Nat.le_trans ((Keep.refl h0 [])).1 (Nat.le_of_eq g_43.symm)
        have f_43_0 : Sta Z h_43 "java/lang/String" "COMPACT_STRINGS" "Z" (.int w9) := F0.ext E_43
        have Z_43 : n0 ≤ h_43.size := Nat.le_trans Z0 E_43.1
        have K_43 : Keep h0 h_43 [] := (Keep.refl h0 []).ext E_43
        have fd_43_39 : Fld Z h_43 b_43 "com/example/pathlatch/pathlatch/Text" "value" "Ljava/lang/String;" .null := D_43 (Or.inl (hw _ (List.mem_of_getElem? (i := 39) rfl))) (ty := (.object "java/lang/String")) (by decide)
        obtain ⟨_, _, ⟨T_44, L_44, k_44, n_44⟩, -, X_44, ⟨Lc_44, hQ_44, l_44, y_44, z_44⟩, st_44⟩ := Jvm.LawKit.callS X_43 hx (y := (⟨"java/lang/String", "valueOf", "(C)Ljava/lang/String;"⟩ : MethodName)) hown (mvT hZ (hw _ (List.mem_of_getElem? (i := 3) rfl))) (mvT hZ (hw _ (List.mem_of_getElem? (i := 4) rfl))) (mvT hZ (hw _ (List.mem_of_getElem? (i := 5) rfl))) (mvT hZ (hw _ (List.mem_of_getElem? (i := 6) rfl))) (by decide) (backOf (W := 2) (rm1 l Z a0 hw [] ((p2 &&& (255 : Int32)).toUInt32.toUInt16.toUInt32.toInt32) w9 h_43 n0 Z_43 f_43_0 hw9 (own_ch1 p2)) hZ (hw _ (List.mem_of_getElem? (i := 6) rfl)) (hw _ (List.mem_of_getElem? (i := 5) rfl)) (by decide) (by decide)) (g := (mkF m 47 #[.val (.int p1), .val (.int p2), .val (.int (1 : Int32)), .val (.int (0 : Int32)), .val (.int (0 : Int32)), .unset, .unset, .unset, .unset, .unset, .unset] [(.int ((p2 &&& (255 : Int32)).toUInt32.toUInt16.toUInt32.toInt32)), (.ref b_43), (.ref b_43)])) rfl (by rw [hml]; rfl) (argsL := [(.int ((p2 &&& (255 : Int32)).toUInt32.toUInt16.toUInt32.toInt32))]) (rest := [(.ref b_43), (.ref b_43)]) (lenOf pd_5 rfl) rfl (by show 2 * 0 + _ ≤ _; exact Nat.le_of_eq rfl) (hb hby at_47) (fun _ _ => ⟨rfl, e_43, (by decide : 1 + 2 ≤ _), (by decide : 4 + 5 ≤ _)⟩)
        dsimp only [Pt.U, Pt.locs, Pt.cells, Pt.slots] at X_44 l_44 y_44 z_44 st_44 hQ_44
        subst l_44 y_44 z_44
        obtain ⟨r_44, rfl, N_44q, Kc_44⟩ := hQ_44
        have f_44_0 : Sta Z T_44.heap "java/lang/String" "COMPACT_STRINGS" "Z" (.int w9) := own_sta_keep0 f_43_0 Kc_44
        have f_44_1 : Exa Z T_44.heap b_43 "com/example/pathlatch/pathlatch/Text" := A_43.keep Kc_44
        have f_44_2 : Fld Z T_44.heap b_43 "com/example/pathlatch/pathlatch/Text" "value" "Ljava/lang/String;" .null := fd_43_39.keep Kc_44 (List.not_mem_nil)
        have Z_44 : n0 ≤ T_44.heap.size := Nat.le_trans Z_43 Kc_44.1
        have K_44 : Keep h0 T_44.heap [] := K_43.trans Kc_44 (fun x hx => nomatch hx)
        have N_44 := Fr.app N0 N_44q
        obtain ⟨_, _, ⟨T_45, L_45, k_45, n_45⟩, -, X_45, ⟨Lc_45, hQ_45, l_45, y_45, z_45⟩, st_45⟩ := X_44.specialBack hx (y := (⟨"com/example/pathlatch/pathlatch/Text", "<init>", "(Ljava/lang/String;)V"⟩ : MethodName)) rfl hown (mvT hZ (hw _ (List.mem_of_getElem? (i := 29) rfl))) (mvT hZ (hw _ (List.mem_of_getElem? (i := 30) rfl))) (mvT hZ (hw _ (List.mem_of_getElem? (i := 31) rfl))) (by decide) (backOf (W := 1) (rm6 l Z a0 hw [] b_43 r_44 T_44.heap n0 Z_44 g_b_43 f_44_1 f_44_2) hZ (hw _ (List.mem_of_getElem? (i := 31) rfl)) (hw _ (List.mem_of_getElem? (i := 2) rfl)) (by decide) (by decide)) (g := (mkF m 50 #[.val (.int p1), .val (.int p2), .val (.int (1 : Int32)), .val (.int (0 : Int32)), .val (.int (0 : Int32)), .unset, .unset, .unset, .unset, .unset, .unset] [(.ref r_44), (.ref b_43), (.ref b_43)])) rfl (by rw [hml]; rfl) (Steps.refl _) (a := b_43) (argsL := [(.ref r_44)]) (rest := [(.ref b_43)]) (lenOf pd_6 rfl) rfl (by show 2 * 0 + _ ≤ _; exact Nat.le_of_eq rfl) (hb hby at_50) (fun _ _ => ⟨rfl, rfl, (by decide : 3 + 0 ≤ _), (by decide : 9 + 0 ≤ _)⟩)
        dsimp only [Pt.U, Pt.locs, Pt.cells, Pt.slots] at X_45 l_45 y_45 z_45 st_45 hQ_45
        subst l_45 y_45 z_45
        obtain ⟨rfl, N_45q, Kc_45, o_45_0⟩ := hQ_45
        have f_45_0 : Sta Z T_45.heap "java/lang/String" "COMPACT_STRINGS" "Z" (.int w9) := own_sta_keep f_44_0 f_44_1 Kc_45
        have f_45_1 : Exa Z T_45.heap b_43 "com/example/pathlatch/pathlatch/Text" := f_44_1.keep Kc_45
        have Z_45 : n0 ≤ T_45.heap.size := Nat.le_trans Z_44 Kc_45.1
        have K_45 : Keep h0 T_45.heap [] := K_44.trans Kc_45 (fun x hx => by cases List.mem_singleton.mp hx; exact Or.inr sz_b_43)
        have N_45 := Fr.app N_44 N_45q
        obtain ⟨T_46, h_46, X_46, e_46, E_46, A_46, D_46, -, st_46⟩ := newO X_45 hx hZ hown (hw _ (List.mem_of_getElem? (i := 0) rfl)) (hw _ (List.mem_of_getElem? (i := 1) rfl)) (hw _ (List.mem_of_getElem? (i := 2) rfl)) rfl (g := (mkF m 65 #[.val (.int p1), .val (.int p2), .val (.int (1 : Int32)), .val (.int (0 : Int32)), .val (.int (0 : Int32)), .val (.ref b_43), .unset, .unset, .unset, .unset, .unset] [])) rfl (hb hby at_65) (by decide) (by decide)
        obtain ⟨b_46, g_46⟩ : ∃ z, z = T_45.heap.size := ⟨_, rfl⟩
        rw [← g_46] at A_46 D_46 st_46
        have ne_b_43_b_46 : b_43 ≠ b_46 := Nat.ne_of_lt (Nat.lt_of_lt_of_le o_45_0.lt (Nat.le_of_eq g_46.symm))
        have g_b_46 : n0 ≤ b_46 := Nat.le_trans Z_45 (Nat.le_of_eq g_46.symm)
        have sz_b_46 : h0.size ≤ b_46 := Nat.le_trans (K_45).1 (Nat.le_of_eq g_46.symm)
        have f_46_0 : Sta Z h_46 "java/lang/String" "COMPACT_STRINGS" "Z" (.int w9) := f_45_0.ext E_46
        have f_46_1 : Exa Z h_46 b_43 "com/example/pathlatch/pathlatch/Text" := o_45_0.ext E_46
        have Z_46 : n0 ≤ h_46.size := Nat.le_trans Z_45 E_46.1
        have K_46 : Keep h0 h_46 [] := K_45.ext E_46
        have fd_46_39 : Fld Z h_46 b_46 "com/example/pathlatch/pathlatch/Text" "value" "Ljava/lang/String;" .null := D_46 (Or.inl (hw _ (List.mem_of_getElem? (i := 39) rfl))) (ty := (.object "java/lang/String")) (by decide)
        obtain ⟨_, _, ⟨T_47, L_47, k_47, n_47⟩, -, X_47, ⟨Lc_47, hQ_47, l_47, y_47, z_47⟩, st_47⟩ := Jvm.LawKit.callS X_46 hx (y := (⟨"java/lang/String", "valueOf", "(C)Ljava/lang/String;"⟩ : MethodName)) hown (mvT hZ (hw _ (List.mem_of_getElem? (i := 3) rfl))) (mvT hZ (hw _ (List.mem_of_getElem? (i := 4) rfl))) (mvT hZ (hw _ (List.mem_of_getElem? (i := 5) rfl))) (mvT hZ (hw _ (List.mem_of_getElem? (i := 6) rfl))) (by decide) (backOf (W := 2) (rm1 l Z a0 hw [] ((((p2.toUInt32 >>> ((8 : Int32) &&& 31).toUInt32).toInt32) &&& (255 : Int32)).toUInt32.toUInt16.toUInt32.toInt32) w9 h_46 n0 Z_46 f_46_0 hw9 (own_ch2 p2)) hZ (hw _ (List.mem_of_getElem? (i := 6) rfl)) (hw _ (List.mem_of_getElem? (i := 5) rfl)) (by decide) (by decide)) (g := (mkF m 78 #[.val (.int p1), .val (.int p2), .val (.int (1 : Int32)), .val (.int (0 : Int32)), .val (.int (0 : Int32)), .val (.ref b_43), .unset, .unset, .unset, .unset, .unset] [(.int ((((p2.toUInt32 >>> ((8 : Int32) &&& 31).toUInt32).toInt32) &&& (255 : Int32)).toUInt32.toUInt16.toUInt32.toInt32)), (.ref b_46), (.ref b_46)])) rfl (by rw [hml]; rfl) (argsL := [(.int ((((p2.toUInt32 >>> ((8 : Int32) &&& 31).toUInt32).toInt32) &&& (255 : Int32)).toUInt32.toUInt16.toUInt32.toInt32))]) (rest := [(.ref b_46), (.ref b_46)]) (lenOf pd_5 rfl) rfl (by show 2 * 0 + _ ≤ _; exact Nat.le_of_eq rfl) (hb hby at_78) (fun _ _ => ⟨rfl, e_46, (by decide : 4 + 2 ≤ _), (by decide : 13 + 5 ≤ _)⟩)
        dsimp only [Pt.U, Pt.locs, Pt.cells, Pt.slots] at X_47 l_47 y_47 z_47 st_47 hQ_47
        subst l_47 y_47 z_47
        obtain ⟨r_47, rfl, N_47q, Kc_47⟩ := hQ_47
        have f_47_0 : Sta Z T_47.heap "java/lang/String" "COMPACT_STRINGS" "Z" (.int w9) := own_sta_keep0 f_46_0 Kc_47
        have f_47_1 : Exa Z T_47.heap b_43 "com/example/pathlatch/pathlatch/Text" := f_46_1.keep Kc_47
        have f_47_2 : Exa Z T_47.heap b_46 "com/example/pathlatch/pathlatch/Text" := A_46.keep Kc_47
        have f_47_3 : Fld Z T_47.heap b_46 "com/example/pathlatch/pathlatch/Text" "value" "Ljava/lang/String;" .null := fd_46_39.keep Kc_47 (List.not_mem_nil)
        have Z_47 : n0 ≤ T_47.heap.size := Nat.le_trans Z_46 Kc_47.1
        have K_47 : Keep h0 T_47.heap [] := K_46.trans Kc_47 (fun x hx => nomatch hx)
        have N_47 := Fr.app N_45 N_47q
        obtain ⟨_, _, ⟨T_48, L_48, k_48, n_48⟩, -, X_48, ⟨Lc_48, hQ_48, l_48, y_48, z_48⟩, st_48⟩ := X_47.specialBack hx (y := (⟨"com/example/pathlatch/pathlatch/Text", "<init>", "(Ljava/lang/String;)V"⟩ : MethodName)) rfl hown (mvT hZ (hw _ (List.mem_of_getElem? (i := 29) rfl))) (mvT hZ (hw _ (List.mem_of_getElem? (i := 30) rfl))) (mvT hZ (hw _ (List.mem_of_getElem? (i := 31) rfl))) (by decide) (backOf (W := 1) (rm6 l Z a0 hw [] b_46 r_47 T_47.heap n0 Z_47 g_b_46 f_47_2 f_47_3) hZ (hw _ (List.mem_of_getElem? (i := 31) rfl)) (hw _ (List.mem_of_getElem? (i := 2) rfl)) (by decide) (by decide)) (g := (mkF m 81 #[.val (.int p1), .val (.int p2), .val (.int (1 : Int32)), .val (.int (0 : Int32)), .val (.int (0 : Int32)), .val (.ref b_43), .unset, .unset, .unset, .unset, .unset] [(.ref r_47), (.ref b_46), (.ref b_46)])) rfl (by rw [hml]; rfl) (Steps.refl _) (a := b_46) (argsL := [(.ref r_47)]) (rest := [(.ref b_46)]) (lenOf pd_6 rfl) rfl (by show 2 * 0 + _ ≤ _; exact Nat.le_of_eq rfl) (hb hby at_81) (fun _ _ => ⟨rfl, rfl, (by decide : 6 + 0 ≤ _), (by decide : 18 + 0 ≤ _)⟩)
        dsimp only [Pt.U, Pt.locs, Pt.cells, Pt.slots] at X_48 l_48 y_48 z_48 st_48 hQ_48
        subst l_48 y_48 z_48
        obtain ⟨rfl, N_48q, Kc_48, o_48_0⟩ := hQ_48
        have f_48_0 : Sta Z T_48.heap "java/lang/String" "COMPACT_STRINGS" "Z" (.int w9) := own_sta_keep f_47_0 f_47_2 Kc_48
        have f_48_1 : Exa Z T_48.heap b_43 "com/example/pathlatch/pathlatch/Text" := f_47_1.keep Kc_48
        have f_48_2 : Exa Z T_48.heap b_46 "com/example/pathlatch/pathlatch/Text" := f_47_2.keep Kc_48
        have Z_48 : n0 ≤ T_48.heap.size := Nat.le_trans Z_47 Kc_48.1
        have K_48 : Keep h0 T_48.heap [] := K_47.trans Kc_48 (fun x hx => by cases List.mem_singleton.mp hx; exact Or.inr sz_b_46)
        have N_48 := Fr.app N_47 N_48q
        obtain ⟨T_49, h_49, X_49, e_49, E_49, A_49, D_49, -, st_49⟩ := newO X_48 hx hZ hown (hw _ (List.mem_of_getElem? (i := 40) rfl)) (hw _ (List.mem_of_getElem? (i := 41) rfl)) (hw _ (List.mem_of_getElem? (i := 42) rfl)) rfl (g := (mkF m 110 #[.val (.int p1), .val (.int p2), .val (.int (1 : Int32)), .val (.int (0 : Int32)), .val (.int (0 : Int32)), .val (.ref b_43), .val (.ref b_46), .val (.ref b_43), .val .null, .unset, .unset] [])) rfl (hb hby at_110) (by decide) (by decide)
        obtain ⟨b_49, g_49⟩ : ∃ z, z = T_48.heap.size := ⟨_, rfl⟩
        rw [← g_49] at A_49 D_49 st_49
        have ne_b_43_b_49 : b_43 ≠ b_49 := Nat.ne_of_lt (Nat.lt_of_lt_of_le f_48_1.lt (Nat.le_of_eq g_49.symm))
        have ne_b_46_b_49 : b_46 ≠ b_49 := Nat.ne_of_lt (Nat.lt_of_lt_of_le o_48_0.lt (Nat.le_of_eq g_49.symm))
        have g_b_49 : n0 ≤ b_49 := Nat.le_trans Z_48 (Nat.le_of_eq g_49.symm)
        have sz_b_49 : h0.size ≤ b_49 := Nat.le_trans (K_48).1 (Nat.le_of_eq g_49.symm)
        have f_49_0 : Sta Z h_49 "java/lang/String" "COMPACT_STRINGS" "Z" (.int w9) := f_48_0.ext E_49
        have f_49_1 : Exa Z h_49 b_43 "com/example/pathlatch/pathlatch/Text" := f_48_1.ext E_49
        have f_49_2 : Exa Z h_49 b_46 "com/example/pathlatch/pathlatch/Text" := o_48_0.ext E_49
        have Z_49 : n0 ≤ h_49.size := Nat.le_trans Z_48 E_49.1
        have K_49 : Keep h0 h_49 [] := K_48.ext E_49
        have fd_49_53 : Fld Z h_49 b_49 "com/example/pathlatch/pathlatch/ParentNode$TextBeside" "before" "Lcom/example/pathlatch/pathlatch/Text;" .null := D_49 (Or.inr (hw _ (List.mem_of_getElem? (i := 53) rfl))) (ty := (.object "com/example/pathlatch/pathlatch/Text")) (by decide)
        have fd_49_55 : Fld Z h_49 b_49 "com/example/pathlatch/pathlatch/ParentNode$TextBeside" "after" "Lcom/example/pathlatch/pathlatch/Text;" .null := D_49 (Or.inr (hw _ (List.mem_of_getElem? (i := 55) rfl))) (ty := (.object "com/example/pathlatch/pathlatch/Text")) (by decide)
        obtain ⟨_, _, ⟨T_50, L_50, k_50, n_50⟩, -, X_50, ⟨Lc_50, hQ_50, l_50, y_50, z_50⟩, st_50⟩ := X_49.specialBack hx (y := (⟨"com/example/pathlatch/pathlatch/ParentNode$TextBeside", "<init>", "(Lcom/example/pathlatch/pathlatch/Text;Lcom/example/pathlatch/pathlatch/Text;)V"⟩ : MethodName)) rfl hown (mvT hZ (hw _ (List.mem_of_getElem? (i := 43) rfl))) (mvT hZ (hw _ (List.mem_of_getElem? (i := 44) rfl))) (mvT hZ (hw _ (List.mem_of_getElem? (i := 45) rfl))) (by decide) (backOf (W := 1) (rm8_2 l Z a0 hw [] b_49 b_43 h_49 n0 Z_49 g_b_49 A_49 fd_49_53 fd_49_55) hZ (hw _ (List.mem_of_getElem? (i := 45) rfl)) (hw _ (List.mem_of_getElem? (i := 42) rfl)) (by decide) (by decide)) (g := (mkF m 118 #[.val (.int p1), .val (.int p2), .val (.int (1 : Int32)), .val (.int (0 : Int32)), .val (.int (0 : Int32)), .val (.ref b_43), .val (.ref b_46), .val (.ref b_43), .val .null, .unset, .unset] [.null, (.ref b_43), (.ref b_49), (.ref b_49)])) rfl (by rw [hml]; rfl) (Steps.refl _) (a := b_49) (argsL := [(.ref b_43), .null]) (rest := [(.ref b_49)]) (lenOf pd_7 rfl) rfl (by show 2 * 0 + _ ≤ _; exact Nat.le_of_eq rfl) (hb hby at_118) (fun _ _ => ⟨rfl, e_49, (by decide : 7 + 0 ≤ _), (by decide : 20 + 0 ≤ _)⟩)
        dsimp only [Pt.U, Pt.locs, Pt.cells, Pt.slots] at X_50 l_50 y_50 z_50 st_50 hQ_50
        subst l_50 y_50 z_50
        obtain ⟨rfl, N_50q, Kc_50, o_50_0, o_50_1, o_50_2⟩ := hQ_50
        have f_50_0 : Sta Z T_50.heap "java/lang/String" "COMPACT_STRINGS" "Z" (.int w9) := own_sta_keep f_49_0 A_49 Kc_50
        have f_50_1 : Exa Z T_50.heap b_43 "com/example/pathlatch/pathlatch/Text" := f_49_1.keep Kc_50
        have f_50_2 : Exa Z T_50.heap b_46 "com/example/pathlatch/pathlatch/Text" := f_49_2.keep Kc_50
        have f_50_3 : Exa Z T_50.heap b_49 "com/example/pathlatch/pathlatch/ParentNode$TextBeside" := A_49.keep Kc_50
        have Z_50 : n0 ≤ T_50.heap.size := Nat.le_trans Z_49 Kc_50.1
        have K_50 : Keep h0 T_50.heap [] := K_49.trans Kc_50 (fun x hx => by cases List.mem_singleton.mp hx; exact Or.inr sz_b_49)
        have N_50 := Fr.app N_48 N_50q
        obtain ⟨cq_51, kq_51, q_51a, q_51b, q_51c⟩ := isOf hZ rfl o_50_0
        obtain ⟨_, _, ⟨T_51, L_51, k_51, n_51⟩, -, X_51, ⟨Lc_51, hQ_51, l_51, y_51, z_51⟩, st_51⟩ := X_50.virtualBack hx (y := (⟨"com/example/pathlatch/pathlatch/ParentNode$TextBeside", "any", "()Z"⟩ : MethodName)) (z := (⟨"com/example/pathlatch/pathlatch/ParentNode$TextBeside", "any", "()Z"⟩ : MethodName)) hown (mvT hZ (hw _ (List.mem_of_getElem? (i := 56) rfl))) (mvT hZ (hw _ (List.mem_of_getElem? (i := 57) rfl))) (notFace_of_selects (args := #[]) (mvT hZ (hw _ (List.mem_of_getElem? (i := 59) rfl)))) (mvT hZ (hw _ (List.mem_of_getElem? (i := 59) rfl))) (mvT hZ (hw _ (List.mem_of_getElem? (i := 58) rfl))) (by decide) (backOf (W := 0) (rm10_1 l Z a0 hw [] b_49 b_43 T_50.heap n0 Z_50 o_50_1) hZ (hw _ (List.mem_of_getElem? (i := 60) rfl)) (hw _ (List.mem_of_getElem? (i := 42) rfl)) (by decide) (by decide)) q_51a q_51c (g := (mkF m 148 #[.val (.int p1), .val (.int p2), .val (.int (1 : Int32)), .val (.int (0 : Int32)), .val (.int (0 : Int32)), .val (.ref b_43), .val (.ref b_46), .val (.ref b_43), .val .null, .val (.ref b_49), .val (.int (1 : Int32))] [(.ref b_49)])) rfl (by rw [hml]; rfl) (Steps.refl _) (argsL := []) (rest := []) (lenOf pd_8 rfl) rfl (by show 2 * 0 + _ ≤ _; exact Nat.le_of_eq rfl) (hb hby at_148) (fun _ _ => ⟨rfl, rfl, (by decide : 7 + 0 ≤ _), (by decide : 20 + 0 ≤ _)⟩)
        dsimp only [Pt.U, Pt.locs, Pt.cells, Pt.slots] at X_51 l_51 y_51 z_51 st_51 hQ_51
        subst l_51 y_51 z_51
        obtain ⟨rfl, N_51q, e_51⟩ := hQ_51
        have N_51 := Fr.app N_50 N_51q
        obtain ⟨fs, hr, hrun, hended, hW, hsame⟩ := X_51.leave (v := some (.int (1 : Int32))) (fun h => by rw [Bd.returns] at h; cases h)
        refine ⟨_, _, pr_41 _ ?_, hrun, hended, _, _, rfl, ?_, ⟨_, rfl⟩, hW, hsame.mono (by decide) (by decide)⟩
        · show Steps p.tables e below (s₁.setTop (mkF m 27 #[.val (.int p1), .val (.int p2), .val (.int (1 : Int32)), .val (.int (0 : Int32)), .unset, .unset, .unset, .unset, .unset, .unset, .unset] [(.int (p1 &&& (4 : Int32)))])) _
          refine XS.ifYes X0.here hx rfl (pc0 := 27) (pc' := 34) rfl (hb hby at_27) rfl ((if0 _ _).trans (teq hc_42).1) (by decide) (by decide) ?_
          show Steps p.tables e below (s₁.setTop (mkF m 34 #[.val (.int p1), .val (.int p2), .val (.int (1 : Int32)), .val (.int (0 : Int32)), .unset, .unset, .unset, .unset, .unset, .unset, .unset] [])) _
          refine XS.iconst X0.here hx rfl (hb hby at_34) ?_
          show Steps p.tables e below (s₁.setTop (mkF m 35 #[.val (.int p1), .val (.int p2), .val (.int (1 : Int32)), .val (.int (0 : Int32)), .unset, .unset, .unset, .unset, .unset, .unset, .unset] [(.int (0 : Int32))])) _
          refine XS.istore X0.here hx rfl (hb hby at_35) rfl (l' := #[.val (.int p1), .val (.int p2), .val (.int (1 : Int32)), .val (.int (0 : Int32)), .val (.int (0 : Int32)), .unset, .unset, .unset, .unset, .unset, .unset]) rfl ?_
          show Steps p.tables e below (s₁.setTop (mkF m 37 #[.val (.int p1), .val (.int p2), .val (.int (1 : Int32)), .val (.int (0 : Int32)), .val (.int (0 : Int32)), .unset, .unset, .unset, .unset, .unset, .unset] [])) _
          refine st_43 _ ?_
          show Steps p.tables e below (T_43.setTop (mkF m 40 #[.val (.int p1), .val (.int p2), .val (.int (1 : Int32)), .val (.int (0 : Int32)), .val (.int (0 : Int32)), .unset, .unset, .unset, .unset, .unset, .unset] [(.ref b_43)])) _
          refine XS.dup X_43.here hx rfl (hb hby at_40) rfl rfl ?_
          show Steps p.tables e below (T_43.setTop (mkF m 41 #[.val (.int p1), .val (.int p2), .val (.int (1 : Int32)), .val (.int (0 : Int32)), .val (.int (0 : Int32)), .unset, .unset, .unset, .unset, .unset, .unset] [(.ref b_43), (.ref b_43)])) _
          refine XS.iloadN X_43.here hx rfl (hb hby at_41) rfl ?_
          show Steps p.tables e below (T_43.setTop (mkF m 42 #[.val (.int p1), .val (.int p2), .val (.int (1 : Int32)), .val (.int (0 : Int32)), .val (.int (0 : Int32)), .unset, .unset, .unset, .unset, .unset, .unset] [(.int p2), (.ref b_43), (.ref b_43)])) _
          refine XS.sipush X_43.here hx rfl (hb hby at_42) ?_
          show Steps p.tables e below (T_43.setTop (mkF m 45 #[.val (.int p1), .val (.int p2), .val (.int (1 : Int32)), .val (.int (0 : Int32)), .val (.int (0 : Int32)), .unset, .unset, .unset, .unset, .unset, .unset] [(.int (255 : Int32)), (.int p2), (.ref b_43), (.ref b_43)])) _
          refine XS.iand X_43.here hx rfl (hb hby at_45) rfl ?_
          show Steps p.tables e below (T_43.setTop (mkF m 46 #[.val (.int p1), .val (.int p2), .val (.int (1 : Int32)), .val (.int (0 : Int32)), .val (.int (0 : Int32)), .unset, .unset, .unset, .unset, .unset, .unset] [(.int (p2 &&& (255 : Int32))), (.ref b_43), (.ref b_43)])) _
          refine XS.i2c X_43.here hx rfl (hb hby at_46) rfl ?_
          show Steps p.tables e below (T_43.setTop (mkF m 47 #[.val (.int p1), .val (.int p2), .val (.int (1 : Int32)), .val (.int (0 : Int32)), .val (.int (0 : Int32)), .unset, .unset, .unset, .unset, .unset, .unset] [(.int ((p2 &&& (255 : Int32)).toUInt32.toUInt16.toUInt32.toInt32)), (.ref b_43), (.ref b_43)])) _
          refine st_44 _ ?_
          show Steps p.tables e below (T_44.setTop (mkF m 50 #[.val (.int p1), .val (.int p2), .val (.int (1 : Int32)), .val (.int (0 : Int32)), .val (.int (0 : Int32)), .unset, .unset, .unset, .unset, .unset, .unset] [(.ref r_44), (.ref b_43), (.ref b_43)])) _
          refine st_45.trans ?_
          show Steps p.tables e below (T_45.setTop (mkF m 53 #[.val (.int p1), .val (.int p2), .val (.int (1 : Int32)), .val (.int (0 : Int32)), .val (.int (0 : Int32)), .unset, .unset, .unset, .unset, .unset, .unset] [(.ref b_43)])) _
          refine XS.astore X_45.here hx rfl (hb hby at_53) rfl rfl (l' := #[.val (.int p1), .val (.int p2), .val (.int (1 : Int32)), .val (.int (0 : Int32)), .val (.int (0 : Int32)), .val (.ref b_43), .unset, .unset, .unset, .unset, .unset]) rfl ?_
          show Steps p.tables e below (T_45.setTop (mkF m 55 #[.val (.int p1), .val (.int p2), .val (.int (1 : Int32)), .val (.int (0 : Int32)), .val (.int (0 : Int32)), .val (.ref b_43), .unset, .unset, .unset, .unset, .unset] [])) _
          refine XS.iload X_45.here hx rfl (hb hby at_55) rfl ?_
          show Steps p.tables e below (T_45.setTop (mkF m 57 #[.val (.int p1), .val (.int p2), .val (.int (1 : Int32)), .val (.int (0 : Int32)), .val (.int (0 : Int32)), .val (.ref b_43), .unset, .unset, .unset, .unset, .unset] [(.int (0 : Int32))])) _
          refine XS.ifYes X_45.here hx rfl (pc0 := 57) (pc' := 65) rfl (hb hby at_57) rfl ((if0 _ _).trans (teq (by decide : (0 : Int32) = (0 : Int32))).1) (by decide) (by decide) ?_
          show Steps p.tables e below (T_45.setTop (mkF m 65 #[.val (.int p1), .val (.int p2), .val (.int (1 : Int32)), .val (.int (0 : Int32)), .val (.int (0 : Int32)), .val (.ref b_43), .unset, .unset, .unset, .unset, .unset] [])) _
          refine st_46 _ ?_
          show Steps p.tables e below (T_46.setTop (mkF m 68 #[.val (.int p1), .val (.int p2), .val (.int (1 : Int32)), .val (.int (0 : Int32)), .val (.int (0 : Int32)), .val (.ref b_43), .unset, .unset, .unset, .unset, .unset] [(.ref b_46)])) _
          refine XS.dup X_46.here hx rfl (hb hby at_68) rfl rfl ?_
          show Steps p.tables e below (T_46.setTop (mkF m 69 #[.val (.int p1), .val (.int p2), .val (.int (1 : Int32)), .val (.int (0 : Int32)), .val (.int (0 : Int32)), .val (.ref b_43), .unset, .unset, .unset, .unset, .unset] [(.ref b_46), (.ref b_46)])) _
          refine XS.iloadN X_46.here hx rfl (hb hby at_69) rfl ?_
          show Steps p.tables e below (T_46.setTop (mkF m 70 #[.val (.int p1), .val (.int p2), .val (.int (1 : Int32)), .val (.int (0 : Int32)), .val (.int (0 : Int32)), .val (.ref b_43), .unset, .unset, .unset, .unset, .unset] [(.int p2), (.ref b_46), (.ref b_46)])) _
          refine XS.bipush X_46.here hx rfl (hb hby at_70) ?_
          show Steps p.tables e below (T_46.setTop (mkF m 72 #[.val (.int p1), .val (.int p2), .val (.int (1 : Int32)), .val (.int (0 : Int32)), .val (.int (0 : Int32)), .val (.ref b_43), .unset, .unset, .unset, .unset, .unset] [(.int (8 : Int32)), (.int p2), (.ref b_46), (.ref b_46)])) _
          refine XS.iushr X_46.here hx rfl (hb hby at_72) rfl ?_
          show Steps p.tables e below (T_46.setTop (mkF m 73 #[.val (.int p1), .val (.int p2), .val (.int (1 : Int32)), .val (.int (0 : Int32)), .val (.int (0 : Int32)), .val (.ref b_43), .unset, .unset, .unset, .unset, .unset] [(.int ((p2.toUInt32 >>> ((8 : Int32) &&& 31).toUInt32).toInt32)), (.ref b_46), (.ref b_46)])) _
          refine XS.sipush X_46.here hx rfl (hb hby at_73) ?_
          show Steps p.tables e below (T_46.setTop (mkF m 76 #[.val (.int p1), .val (.int p2), .val (.int (1 : Int32)), .val (.int (0 : Int32)), .val (.int (0 : Int32)), .val (.ref b_43), .unset, .unset, .unset, .unset, .unset] [(.int (255 : Int32)), (.int ((p2.toUInt32 >>> ((8 : Int32) &&& 31).toUInt32).toInt32)), (.ref b_46), (.ref b_46)])) _
          refine XS.iand X_46.here hx rfl (hb hby at_76) rfl ?_
          show Steps p.tables e below (T_46.setTop (mkF m 77 #[.val (.int p1), .val (.int p2), .val (.int (1 : Int32)), .val (.int (0 : Int32)), .val (.int (0 : Int32)), .val (.ref b_43), .unset, .unset, .unset, .unset, .unset] [(.int (((p2.toUInt32 >>> ((8 : Int32) &&& 31).toUInt32).toInt32) &&& (255 : Int32))), (.ref b_46), (.ref b_46)])) _
          refine XS.i2c X_46.here hx rfl (hb hby at_77) rfl ?_
          show Steps p.tables e below (T_46.setTop (mkF m 78 #[.val (.int p1), .val (.int p2), .val (.int (1 : Int32)), .val (.int (0 : Int32)), .val (.int (0 : Int32)), .val (.ref b_43), .unset, .unset, .unset, .unset, .unset] [(.int ((((p2.toUInt32 >>> ((8 : Int32) &&& 31).toUInt32).toInt32) &&& (255 : Int32)).toUInt32.toUInt16.toUInt32.toInt32)), (.ref b_46), (.ref b_46)])) _
          refine st_47 _ ?_
          show Steps p.tables e below (T_47.setTop (mkF m 81 #[.val (.int p1), .val (.int p2), .val (.int (1 : Int32)), .val (.int (0 : Int32)), .val (.int (0 : Int32)), .val (.ref b_43), .unset, .unset, .unset, .unset, .unset] [(.ref r_47), (.ref b_46), (.ref b_46)])) _
          refine st_48.trans ?_
          show Steps p.tables e below (T_48.setTop (mkF m 84 #[.val (.int p1), .val (.int p2), .val (.int (1 : Int32)), .val (.int (0 : Int32)), .val (.int (0 : Int32)), .val (.ref b_43), .unset, .unset, .unset, .unset, .unset] [(.ref b_46)])) _
          refine XS.astore X_48.here hx rfl (hb hby at_84) rfl rfl (l' := #[.val (.int p1), .val (.int p2), .val (.int (1 : Int32)), .val (.int (0 : Int32)), .val (.int (0 : Int32)), .val (.ref b_43), .val (.ref b_46), .unset, .unset, .unset, .unset]) rfl ?_
          show Steps p.tables e below (T_48.setTop (mkF m 86 #[.val (.int p1), .val (.int p2), .val (.int (1 : Int32)), .val (.int (0 : Int32)), .val (.int (0 : Int32)), .val (.ref b_43), .val (.ref b_46), .unset, .unset, .unset, .unset] [])) _
          refine XS.iloadN X_48.here hx rfl (hb hby at_86) rfl ?_
          show Steps p.tables e below (T_48.setTop (mkF m 87 #[.val (.int p1), .val (.int p2), .val (.int (1 : Int32)), .val (.int (0 : Int32)), .val (.int (0 : Int32)), .val (.ref b_43), .val (.ref b_46), .unset, .unset, .unset, .unset] [(.int (1 : Int32))])) _
          refine XS.ifNo X_48.here hx rfl (hb hby at_87) rfl ((if0 _ _).trans (feq (by decide : ¬ ((1 : Int32) = (0 : Int32)))).1) ?_
          show Steps p.tables e below (T_48.setTop (mkF m 90 #[.val (.int p1), .val (.int p2), .val (.int (1 : Int32)), .val (.int (0 : Int32)), .val (.int (0 : Int32)), .val (.ref b_43), .val (.ref b_46), .unset, .unset, .unset, .unset] [])) _
          refine XS.aload X_48.here hx rfl (hb hby at_90) rfl rfl ?_
          show Steps p.tables e below (T_48.setTop (mkF m 92 #[.val (.int p1), .val (.int p2), .val (.int (1 : Int32)), .val (.int (0 : Int32)), .val (.int (0 : Int32)), .val (.ref b_43), .val (.ref b_46), .unset, .unset, .unset, .unset] [(.ref b_43)])) _
          refine XS.goto X_48.here hx rfl (pc0 := 92) (pc' := 96) rfl (hb hby at_92) (by decide) (by decide) ?_
          show Steps p.tables e below (T_48.setTop (mkF m 96 #[.val (.int p1), .val (.int p2), .val (.int (1 : Int32)), .val (.int (0 : Int32)), .val (.int (0 : Int32)), .val (.ref b_43), .val (.ref b_46), .unset, .unset, .unset, .unset] [(.ref b_43)])) _
          refine XS.astore X_48.here hx rfl (hb hby at_96) rfl rfl (l' := #[.val (.int p1), .val (.int p2), .val (.int (1 : Int32)), .val (.int (0 : Int32)), .val (.int (0 : Int32)), .val (.ref b_43), .val (.ref b_46), .val (.ref b_43), .unset, .unset, .unset]) rfl ?_
          show Steps p.tables e below (T_48.setTop (mkF m 98 #[.val (.int p1), .val (.int p2), .val (.int (1 : Int32)), .val (.int (0 : Int32)), .val (.int (0 : Int32)), .val (.ref b_43), .val (.ref b_46), .val (.ref b_43), .unset, .unset, .unset] [])) _
          refine XS.iloadN X_48.here hx rfl (hb hby at_98) rfl ?_
          show Steps p.tables e below (T_48.setTop (mkF m 99 #[.val (.int p1), .val (.int p2), .val (.int (1 : Int32)), .val (.int (0 : Int32)), .val (.int (0 : Int32)), .val (.ref b_43), .val (.ref b_46), .val (.ref b_43), .unset, .unset, .unset] [(.int (0 : Int32))])) _
          refine XS.ifYes X_48.here hx rfl (pc0 := 99) (pc' := 107) rfl (hb hby at_99) rfl ((if0 _ _).trans (teq (by decide : (0 : Int32) = (0 : Int32))).1) (by decide) (by decide) ?_
          show Steps p.tables e below (T_48.setTop (mkF m 107 #[.val (.int p1), .val (.int p2), .val (.int (1 : Int32)), .val (.int (0 : Int32)), .val (.int (0 : Int32)), .val (.ref b_43), .val (.ref b_46), .val (.ref b_43), .unset, .unset, .unset] [])) _
          refine XS.aconstNull X_48.here hx rfl (hb hby at_107) ?_
          show Steps p.tables e below (T_48.setTop (mkF m 108 #[.val (.int p1), .val (.int p2), .val (.int (1 : Int32)), .val (.int (0 : Int32)), .val (.int (0 : Int32)), .val (.ref b_43), .val (.ref b_46), .val (.ref b_43), .unset, .unset, .unset] [.null])) _
          refine XS.astore X_48.here hx rfl (hb hby at_108) rfl rfl (l' := #[.val (.int p1), .val (.int p2), .val (.int (1 : Int32)), .val (.int (0 : Int32)), .val (.int (0 : Int32)), .val (.ref b_43), .val (.ref b_46), .val (.ref b_43), .val .null, .unset, .unset]) rfl ?_
          show Steps p.tables e below (T_48.setTop (mkF m 110 #[.val (.int p1), .val (.int p2), .val (.int (1 : Int32)), .val (.int (0 : Int32)), .val (.int (0 : Int32)), .val (.ref b_43), .val (.ref b_46), .val (.ref b_43), .val .null, .unset, .unset] [])) _
          refine st_49 _ ?_
          show Steps p.tables e below (T_49.setTop (mkF m 113 #[.val (.int p1), .val (.int p2), .val (.int (1 : Int32)), .val (.int (0 : Int32)), .val (.int (0 : Int32)), .val (.ref b_43), .val (.ref b_46), .val (.ref b_43), .val .null, .unset, .unset] [(.ref b_49)])) _
          refine XS.dup X_49.here hx rfl (hb hby at_113) rfl rfl ?_
          show Steps p.tables e below (T_49.setTop (mkF m 114 #[.val (.int p1), .val (.int p2), .val (.int (1 : Int32)), .val (.int (0 : Int32)), .val (.int (0 : Int32)), .val (.ref b_43), .val (.ref b_46), .val (.ref b_43), .val .null, .unset, .unset] [(.ref b_49), (.ref b_49)])) _
          refine XS.aload X_49.here hx rfl (hb hby at_114) rfl rfl ?_
          show Steps p.tables e below (T_49.setTop (mkF m 116 #[.val (.int p1), .val (.int p2), .val (.int (1 : Int32)), .val (.int (0 : Int32)), .val (.int (0 : Int32)), .val (.ref b_43), .val (.ref b_46), .val (.ref b_43), .val .null, .unset, .unset] [(.ref b_43), (.ref b_49), (.ref b_49)])) _
          refine XS.aload X_49.here hx rfl (hb hby at_116) rfl rfl ?_
          show Steps p.tables e below (T_49.setTop (mkF m 118 #[.val (.int p1), .val (.int p2), .val (.int (1 : Int32)), .val (.int (0 : Int32)), .val (.int (0 : Int32)), .val (.ref b_43), .val (.ref b_46), .val (.ref b_43), .val .null, .unset, .unset] [.null, (.ref b_43), (.ref b_49), (.ref b_49)])) _
          refine st_50.trans ?_
          show Steps p.tables e below (T_50.setTop (mkF m 121 #[.val (.int p1), .val (.int p2), .val (.int (1 : Int32)), .val (.int (0 : Int32)), .val (.int (0 : Int32)), .val (.ref b_43), .val (.ref b_46), .val (.ref b_43), .val .null, .unset, .unset] [(.ref b_49)])) _
          refine XS.astore X_50.here hx rfl (hb hby at_121) rfl rfl (l' := #[.val (.int p1), .val (.int p2), .val (.int (1 : Int32)), .val (.int (0 : Int32)), .val (.int (0 : Int32)), .val (.ref b_43), .val (.ref b_46), .val (.ref b_43), .val .null, .val (.ref b_49), .unset]) rfl ?_
          show Steps p.tables e below (T_50.setTop (mkF m 123 #[.val (.int p1), .val (.int p2), .val (.int (1 : Int32)), .val (.int (0 : Int32)), .val (.int (0 : Int32)), .val (.ref b_43), .val (.ref b_46), .val (.ref b_43), .val .null, .val (.ref b_49), .unset] [])) _
          refine XS.iloadN X_50.here hx rfl (hb hby at_123) rfl ?_
          show Steps p.tables e below (T_50.setTop (mkF m 124 #[.val (.int p1), .val (.int p2), .val (.int (1 : Int32)), .val (.int (0 : Int32)), .val (.int (0 : Int32)), .val (.ref b_43), .val (.ref b_46), .val (.ref b_43), .val .null, .val (.ref b_49), .unset] [(.int (1 : Int32))])) _
          refine XS.ifNo X_50.here hx rfl (hb hby at_124) rfl ((if0 _ _).trans (feq (by decide : ¬ ((1 : Int32) = (0 : Int32)))).1) ?_
          show Steps p.tables e below (T_50.setTop (mkF m 127 #[.val (.int p1), .val (.int p2), .val (.int (1 : Int32)), .val (.int (0 : Int32)), .val (.int (0 : Int32)), .val (.ref b_43), .val (.ref b_46), .val (.ref b_43), .val .null, .val (.ref b_49), .unset] [])) _
          refine XS.iconst X_50.here hx rfl (hb hby at_127) ?_
          show Steps p.tables e below (T_50.setTop (mkF m 128 #[.val (.int p1), .val (.int p2), .val (.int (1 : Int32)), .val (.int (0 : Int32)), .val (.int (0 : Int32)), .val (.ref b_43), .val (.ref b_46), .val (.ref b_43), .val .null, .val (.ref b_49), .unset] [(.int (1 : Int32))])) _
          refine XS.istore X_50.here hx rfl (hb hby at_128) rfl (l' := #[.val (.int p1), .val (.int p2), .val (.int (1 : Int32)), .val (.int (0 : Int32)), .val (.int (0 : Int32)), .val (.ref b_43), .val (.ref b_46), .val (.ref b_43), .val .null, .val (.ref b_49), .val (.int (1 : Int32))]) rfl ?_
          show Steps p.tables e below (T_50.setTop (mkF m 130 #[.val (.int p1), .val (.int p2), .val (.int (1 : Int32)), .val (.int (0 : Int32)), .val (.int (0 : Int32)), .val (.ref b_43), .val (.ref b_46), .val (.ref b_43), .val .null, .val (.ref b_49), .val (.int (1 : Int32))] [])) _
          refine XS.goto X_50.here hx rfl (pc0 := 130) (pc' := 146) rfl (hb hby at_130) (by decide) (by decide) ?_
          show Steps p.tables e below (T_50.setTop (mkF m 146 #[.val (.int p1), .val (.int p2), .val (.int (1 : Int32)), .val (.int (0 : Int32)), .val (.int (0 : Int32)), .val (.ref b_43), .val (.ref b_46), .val (.ref b_43), .val .null, .val (.ref b_49), .val (.int (1 : Int32))] [])) _
          refine XS.aload X_50.here hx rfl (hb hby at_146) rfl rfl ?_
          show Steps p.tables e below (T_50.setTop (mkF m 148 #[.val (.int p1), .val (.int p2), .val (.int (1 : Int32)), .val (.int (0 : Int32)), .val (.int (0 : Int32)), .val (.ref b_43), .val (.ref b_46), .val (.ref b_43), .val .null, .val (.ref b_49), .val (.int (1 : Int32))] [(.ref b_49)])) _
          refine st_51.trans ?_
          show Steps p.tables e below (T_51.setTop (mkF m 151 #[.val (.int p1), .val (.int p2), .val (.int (1 : Int32)), .val (.int (0 : Int32)), .val (.int (0 : Int32)), .val (.ref b_43), .val (.ref b_46), .val (.ref b_43), .val .null, .val (.ref b_49), .val (.int (1 : Int32))] [(.int (1 : Int32))])) _
          refine XS.iload X_51.here hx rfl (hb hby at_151) rfl ?_
          show Steps p.tables e below (T_51.setTop (mkF m 153 #[.val (.int p1), .val (.int p2), .val (.int (1 : Int32)), .val (.int (0 : Int32)), .val (.int (0 : Int32)), .val (.ref b_43), .val (.ref b_46), .val (.ref b_43), .val .null, .val (.ref b_49), .val (.int (1 : Int32))] [(.int (1 : Int32)), (.int (1 : Int32))])) _
          refine XS.icmpNo X_51.here hx rfl (hb hby at_153) rfl (teq (by decide : (1 : Int32) = (1 : Int32))).2 ?_
          show Steps p.tables e below (T_51.setTop (mkF m 156 #[.val (.int p1), .val (.int p2), .val (.int (1 : Int32)), .val (.int (0 : Int32)), .val (.int (0 : Int32)), .val (.ref b_43), .val (.ref b_46), .val (.ref b_43), .val .null, .val (.ref b_49), .val (.int (1 : Int32))] [])) _
          refine XS.iconst X_51.here hx rfl (hb hby at_156) ?_
          show Steps p.tables e below (T_51.setTop (mkF m 157 #[.val (.int p1), .val (.int p2), .val (.int (1 : Int32)), .val (.int (0 : Int32)), .val (.int (0 : Int32)), .val (.ref b_43), .val (.ref b_46), .val (.ref b_43), .val .null, .val (.ref b_49), .val (.int (1 : Int32))] [(.int (1 : Int32))])) _
          refine XS.goto X_51.here hx rfl (pc0 := 157) (pc' := 161) rfl (hb hby at_157) (by decide) (by decide) ?_
          show Steps p.tables e below (T_51.setTop (mkF m 161 #[.val (.int p1), .val (.int p2), .val (.int (1 : Int32)), .val (.int (0 : Int32)), .val (.int (0 : Int32)), .val (.ref b_43), .val (.ref b_46), .val (.ref b_43), .val .null, .val (.ref b_49), .val (.int (1 : Int32))] [(.int (1 : Int32))])) _
          exact retN X_51 hx (t := .boolean) Bd.returns (by simp) (hb hby at_161) hr
        · exact ⟨rfl, N_51⟩
      · obtain ⟨T_52, h_52, X_52, e_52, E_52, A_52, D_52, -, st_52⟩ := newO X0 hx hZ hown (hw _ (List.mem_of_getElem? (i := 0) rfl)) (hw _ (List.mem_of_getElem? (i := 1) rfl)) (hw _ (List.mem_of_getElem? (i := 2) rfl)) e0 (g := (mkF m 37 #[.val (.int p1), .val (.int p2), .val (.int (1 : Int32)), .val (.int (0 : Int32)), .val (.int (1 : Int32)), .unset, .unset, .unset, .unset, .unset, .unset] [])) rfl (hb hby at_37) (by decide) (by decide)
        obtain ⟨b_52, g_52⟩ : ∃ z, z = h0.size := ⟨_, rfl⟩
        rw [← g_52] at A_52 D_52 st_52
        have g_b_52 : n0 ≤ b_52 := Nat.le_trans Z0 (Nat.le_of_eq g_52.symm)
        have sz_b_52 : h0.size ≤ b_52 := Nat.le_trans ((Keep.refl h0 [])).1 (Nat.le_of_eq g_52.symm)
        have f_52_0 : Sta Z h_52 "java/lang/String" "COMPACT_STRINGS" "Z" (.int w9) := F0.ext E_52
        have Z_52 : n0 ≤ h_52.size := Nat.le_trans Z0 E_52.1
        have K_52 : Keep h0 h_52 [] := (Keep.refl h0 []).ext E_52
        have fd_52_39 : Fld Z h_52 b_52 "com/example/pathlatch/pathlatch/Text" "value" "Ljava/lang/String;" .null := D_52 (Or.inl (hw _ (List.mem_of_getElem? (i := 39) rfl))) (ty := (.object "java/lang/String")) (by decide)
        obtain ⟨_, _, ⟨T_53, L_53, k_53, n_53⟩, -, X_53, ⟨Lc_53, hQ_53, l_53, y_53, z_53⟩, st_53⟩ := Jvm.LawKit.callS X_52 hx (y := (⟨"java/lang/String", "valueOf", "(C)Ljava/lang/String;"⟩ : MethodName)) hown (mvT hZ (hw _ (List.mem_of_getElem? (i := 3) rfl))) (mvT hZ (hw _ (List.mem_of_getElem? (i := 4) rfl))) (mvT hZ (hw _ (List.mem_of_getElem? (i := 5) rfl))) (mvT hZ (hw _ (List.mem_of_getElem? (i := 6) rfl))) (by decide) (backOf (W := 2) (rm1 l Z a0 hw [] ((p2 &&& (255 : Int32)).toUInt32.toUInt16.toUInt32.toInt32) w9 h_52 n0 Z_52 f_52_0 hw9 (own_ch1 p2)) hZ (hw _ (List.mem_of_getElem? (i := 6) rfl)) (hw _ (List.mem_of_getElem? (i := 5) rfl)) (by decide) (by decide)) (g := (mkF m 47 #[.val (.int p1), .val (.int p2), .val (.int (1 : Int32)), .val (.int (0 : Int32)), .val (.int (1 : Int32)), .unset, .unset, .unset, .unset, .unset, .unset] [(.int ((p2 &&& (255 : Int32)).toUInt32.toUInt16.toUInt32.toInt32)), (.ref b_52), (.ref b_52)])) rfl (by rw [hml]; rfl) (argsL := [(.int ((p2 &&& (255 : Int32)).toUInt32.toUInt16.toUInt32.toInt32))]) (rest := [(.ref b_52), (.ref b_52)]) (lenOf pd_5 rfl) rfl (by show 2 * 0 + _ ≤ _; exact Nat.le_of_eq rfl) (hb hby at_47) (fun _ _ => ⟨rfl, e_52, (by decide : 1 + 2 ≤ _), (by decide : 4 + 5 ≤ _)⟩)
        dsimp only [Pt.U, Pt.locs, Pt.cells, Pt.slots] at X_53 l_53 y_53 z_53 st_53 hQ_53
        subst l_53 y_53 z_53
        obtain ⟨r_53, rfl, N_53q, Kc_53⟩ := hQ_53
        have f_53_0 : Sta Z T_53.heap "java/lang/String" "COMPACT_STRINGS" "Z" (.int w9) := own_sta_keep0 f_52_0 Kc_53
        have f_53_1 : Exa Z T_53.heap b_52 "com/example/pathlatch/pathlatch/Text" := A_52.keep Kc_53
        have f_53_2 : Fld Z T_53.heap b_52 "com/example/pathlatch/pathlatch/Text" "value" "Ljava/lang/String;" .null := fd_52_39.keep Kc_53 (List.not_mem_nil)
        have Z_53 : n0 ≤ T_53.heap.size := Nat.le_trans Z_52 Kc_53.1
        have K_53 : Keep h0 T_53.heap [] := K_52.trans Kc_53 (fun x hx => nomatch hx)
        have N_53 := Fr.app N0 N_53q
        obtain ⟨_, _, ⟨T_54, L_54, k_54, n_54⟩, -, X_54, ⟨Lc_54, hQ_54, l_54, y_54, z_54⟩, st_54⟩ := X_53.specialBack hx (y := (⟨"com/example/pathlatch/pathlatch/Text", "<init>", "(Ljava/lang/String;)V"⟩ : MethodName)) rfl hown (mvT hZ (hw _ (List.mem_of_getElem? (i := 29) rfl))) (mvT hZ (hw _ (List.mem_of_getElem? (i := 30) rfl))) (mvT hZ (hw _ (List.mem_of_getElem? (i := 31) rfl))) (by decide) (backOf (W := 1) (rm6 l Z a0 hw [] b_52 r_53 T_53.heap n0 Z_53 g_b_52 f_53_1 f_53_2) hZ (hw _ (List.mem_of_getElem? (i := 31) rfl)) (hw _ (List.mem_of_getElem? (i := 2) rfl)) (by decide) (by decide)) (g := (mkF m 50 #[.val (.int p1), .val (.int p2), .val (.int (1 : Int32)), .val (.int (0 : Int32)), .val (.int (1 : Int32)), .unset, .unset, .unset, .unset, .unset, .unset] [(.ref r_53), (.ref b_52), (.ref b_52)])) rfl (by rw [hml]; rfl) (Steps.refl _) (a := b_52) (argsL := [(.ref r_53)]) (rest := [(.ref b_52)]) (lenOf pd_6 rfl) rfl (by show 2 * 0 + _ ≤ _; exact Nat.le_of_eq rfl) (hb hby at_50) (fun _ _ => ⟨rfl, rfl, (by decide : 3 + 0 ≤ _), (by decide : 9 + 0 ≤ _)⟩)
        dsimp only [Pt.U, Pt.locs, Pt.cells, Pt.slots] at X_54 l_54 y_54 z_54 st_54 hQ_54
        subst l_54 y_54 z_54
        obtain ⟨rfl, N_54q, Kc_54, o_54_0⟩ := hQ_54
        have f_54_0 : Sta Z T_54.heap "java/lang/String" "COMPACT_STRINGS" "Z" (.int w9) := own_sta_keep f_53_0 f_53_1 Kc_54
        have f_54_1 : Exa Z T_54.heap b_52 "com/example/pathlatch/pathlatch/Text" := f_53_1.keep Kc_54
        have Z_54 : n0 ≤ T_54.heap.size := Nat.le_trans Z_53 Kc_54.1
        have K_54 : Keep h0 T_54.heap [] := K_53.trans Kc_54 (fun x hx => by cases List.mem_singleton.mp hx; exact Or.inr sz_b_52)
        have N_54 := Fr.app N_53 N_54q
        obtain ⟨T_55, h_55, X_55, e_55, E_55, A_55, D_55, -, st_55⟩ := newO X_54 hx hZ hown (hw _ (List.mem_of_getElem? (i := 40) rfl)) (hw _ (List.mem_of_getElem? (i := 41) rfl)) (hw _ (List.mem_of_getElem? (i := 42) rfl)) rfl (g := (mkF m 110 #[.val (.int p1), .val (.int p2), .val (.int (1 : Int32)), .val (.int (0 : Int32)), .val (.int (1 : Int32)), .val (.ref b_52), .val (.ref b_52), .val (.ref b_52), .val .null, .unset, .unset] [])) rfl (hb hby at_110) (by decide) (by decide)
        obtain ⟨b_55, g_55⟩ : ∃ z, z = T_54.heap.size := ⟨_, rfl⟩
        rw [← g_55] at A_55 D_55 st_55
        have ne_b_52_b_55 : b_52 ≠ b_55 := Nat.ne_of_lt (Nat.lt_of_lt_of_le o_54_0.lt (Nat.le_of_eq g_55.symm))
        have g_b_55 : n0 ≤ b_55 := Nat.le_trans Z_54 (Nat.le_of_eq g_55.symm)
        have sz_b_55 : h0.size ≤ b_55 := Nat.le_trans (K_54).1 (Nat.le_of_eq g_55.symm)
        have f_55_0 : Sta Z h_55 "java/lang/String" "COMPACT_STRINGS" "Z" (.int w9) := f_54_0.ext E_55
        have f_55_1 : Exa Z h_55 b_52 "com/example/pathlatch/pathlatch/Text" := o_54_0.ext E_55
        have Z_55 : n0 ≤ h_55.size := Nat.le_trans Z_54 E_55.1
        have K_55 : Keep h0 h_55 [] := K_54.ext E_55
        have fd_55_53 : Fld Z h_55 b_55 "com/example/pathlatch/pathlatch/ParentNode$TextBeside" "before" "Lcom/example/pathlatch/pathlatch/Text;" .null := D_55 (Or.inr (hw _ (List.mem_of_getElem? (i := 53) rfl))) (ty := (.object "com/example/pathlatch/pathlatch/Text")) (by decide)
        have fd_55_55 : Fld Z h_55 b_55 "com/example/pathlatch/pathlatch/ParentNode$TextBeside" "after" "Lcom/example/pathlatch/pathlatch/Text;" .null := D_55 (Or.inr (hw _ (List.mem_of_getElem? (i := 55) rfl))) (ty := (.object "com/example/pathlatch/pathlatch/Text")) (by decide)
        obtain ⟨_, _, ⟨T_56, L_56, k_56, n_56⟩, -, X_56, ⟨Lc_56, hQ_56, l_56, y_56, z_56⟩, st_56⟩ := X_55.specialBack hx (y := (⟨"com/example/pathlatch/pathlatch/ParentNode$TextBeside", "<init>", "(Lcom/example/pathlatch/pathlatch/Text;Lcom/example/pathlatch/pathlatch/Text;)V"⟩ : MethodName)) rfl hown (mvT hZ (hw _ (List.mem_of_getElem? (i := 43) rfl))) (mvT hZ (hw _ (List.mem_of_getElem? (i := 44) rfl))) (mvT hZ (hw _ (List.mem_of_getElem? (i := 45) rfl))) (by decide) (backOf (W := 1) (rm8_2 l Z a0 hw [] b_55 b_52 h_55 n0 Z_55 g_b_55 A_55 fd_55_53 fd_55_55) hZ (hw _ (List.mem_of_getElem? (i := 45) rfl)) (hw _ (List.mem_of_getElem? (i := 42) rfl)) (by decide) (by decide)) (g := (mkF m 118 #[.val (.int p1), .val (.int p2), .val (.int (1 : Int32)), .val (.int (0 : Int32)), .val (.int (1 : Int32)), .val (.ref b_52), .val (.ref b_52), .val (.ref b_52), .val .null, .unset, .unset] [.null, (.ref b_52), (.ref b_55), (.ref b_55)])) rfl (by rw [hml]; rfl) (Steps.refl _) (a := b_55) (argsL := [(.ref b_52), .null]) (rest := [(.ref b_55)]) (lenOf pd_7 rfl) rfl (by show 2 * 0 + _ ≤ _; exact Nat.le_of_eq rfl) (hb hby at_118) (fun _ _ => ⟨rfl, e_55, (by decide : 4 + 0 ≤ _), (by decide : 11 + 0 ≤ _)⟩)
        dsimp only [Pt.U, Pt.locs, Pt.cells, Pt.slots] at X_56 l_56 y_56 z_56 st_56 hQ_56
        subst l_56 y_56 z_56
        obtain ⟨rfl, N_56q, Kc_56, o_56_0, o_56_1, o_56_2⟩ := hQ_56
        have f_56_0 : Sta Z T_56.heap "java/lang/String" "COMPACT_STRINGS" "Z" (.int w9) := own_sta_keep f_55_0 A_55 Kc_56
        have f_56_1 : Exa Z T_56.heap b_52 "com/example/pathlatch/pathlatch/Text" := f_55_1.keep Kc_56
        have f_56_2 : Exa Z T_56.heap b_55 "com/example/pathlatch/pathlatch/ParentNode$TextBeside" := A_55.keep Kc_56
        have Z_56 : n0 ≤ T_56.heap.size := Nat.le_trans Z_55 Kc_56.1
        have K_56 : Keep h0 T_56.heap [] := K_55.trans Kc_56 (fun x hx => by cases List.mem_singleton.mp hx; exact Or.inr sz_b_55)
        have N_56 := Fr.app N_54 N_56q
        obtain ⟨cq_57, kq_57, q_57a, q_57b, q_57c⟩ := isOf hZ rfl o_56_0
        obtain ⟨_, _, ⟨T_57, L_57, k_57, n_57⟩, -, X_57, ⟨Lc_57, hQ_57, l_57, y_57, z_57⟩, st_57⟩ := X_56.virtualBack hx (y := (⟨"com/example/pathlatch/pathlatch/ParentNode$TextBeside", "any", "()Z"⟩ : MethodName)) (z := (⟨"com/example/pathlatch/pathlatch/ParentNode$TextBeside", "any", "()Z"⟩ : MethodName)) hown (mvT hZ (hw _ (List.mem_of_getElem? (i := 56) rfl))) (mvT hZ (hw _ (List.mem_of_getElem? (i := 57) rfl))) (notFace_of_selects (args := #[]) (mvT hZ (hw _ (List.mem_of_getElem? (i := 59) rfl)))) (mvT hZ (hw _ (List.mem_of_getElem? (i := 59) rfl))) (mvT hZ (hw _ (List.mem_of_getElem? (i := 58) rfl))) (by decide) (backOf (W := 0) (rm10_1 l Z a0 hw [] b_55 b_52 T_56.heap n0 Z_56 o_56_1) hZ (hw _ (List.mem_of_getElem? (i := 60) rfl)) (hw _ (List.mem_of_getElem? (i := 42) rfl)) (by decide) (by decide)) q_57a q_57c (g := (mkF m 148 #[.val (.int p1), .val (.int p2), .val (.int (1 : Int32)), .val (.int (0 : Int32)), .val (.int (1 : Int32)), .val (.ref b_52), .val (.ref b_52), .val (.ref b_52), .val .null, .val (.ref b_55), .val (.int (1 : Int32))] [(.ref b_55)])) rfl (by rw [hml]; rfl) (Steps.refl _) (argsL := []) (rest := []) (lenOf pd_8 rfl) rfl (by show 2 * 0 + _ ≤ _; exact Nat.le_of_eq rfl) (hb hby at_148) (fun _ _ => ⟨rfl, rfl, (by decide : 4 + 0 ≤ _), (by decide : 11 + 0 ≤ _)⟩)
        dsimp only [Pt.U, Pt.locs, Pt.cells, Pt.slots] at X_57 l_57 y_57 z_57 st_57 hQ_57
        subst l_57 y_57 z_57
        obtain ⟨rfl, N_57q, e_57⟩ := hQ_57
        have N_57 := Fr.app N_56 N_57q
        obtain ⟨fs, hr, hrun, hended, hW, hsame⟩ := X_57.leave (v := some (.int (1 : Int32))) (fun h => by rw [Bd.returns] at h; cases h)
        refine ⟨_, _, pr_41 _ ?_, hrun, hended, _, _, rfl, ?_, ⟨_, rfl⟩, hW, hsame.mono (by decide) (by decide)⟩
        · show Steps p.tables e below (s₁.setTop (mkF m 27 #[.val (.int p1), .val (.int p2), .val (.int (1 : Int32)), .val (.int (0 : Int32)), .unset, .unset, .unset, .unset, .unset, .unset, .unset] [(.int (p1 &&& (4 : Int32)))])) _
          refine XS.ifNo X0.here hx rfl (hb hby at_27) rfl ((if0 _ _).trans (feq hc_42).1) ?_
          show Steps p.tables e below (s₁.setTop (mkF m 30 #[.val (.int p1), .val (.int p2), .val (.int (1 : Int32)), .val (.int (0 : Int32)), .unset, .unset, .unset, .unset, .unset, .unset, .unset] [])) _
          refine XS.iconst X0.here hx rfl (hb hby at_30) ?_
          show Steps p.tables e below (s₁.setTop (mkF m 31 #[.val (.int p1), .val (.int p2), .val (.int (1 : Int32)), .val (.int (0 : Int32)), .unset, .unset, .unset, .unset, .unset, .unset, .unset] [(.int (1 : Int32))])) _
          refine XS.goto X0.here hx rfl (pc0 := 31) (pc' := 35) rfl (hb hby at_31) (by decide) (by decide) ?_
          show Steps p.tables e below (s₁.setTop (mkF m 35 #[.val (.int p1), .val (.int p2), .val (.int (1 : Int32)), .val (.int (0 : Int32)), .unset, .unset, .unset, .unset, .unset, .unset, .unset] [(.int (1 : Int32))])) _
          refine XS.istore X0.here hx rfl (hb hby at_35) rfl (l' := #[.val (.int p1), .val (.int p2), .val (.int (1 : Int32)), .val (.int (0 : Int32)), .val (.int (1 : Int32)), .unset, .unset, .unset, .unset, .unset, .unset]) rfl ?_
          show Steps p.tables e below (s₁.setTop (mkF m 37 #[.val (.int p1), .val (.int p2), .val (.int (1 : Int32)), .val (.int (0 : Int32)), .val (.int (1 : Int32)), .unset, .unset, .unset, .unset, .unset, .unset] [])) _
          refine st_52 _ ?_
          show Steps p.tables e below (T_52.setTop (mkF m 40 #[.val (.int p1), .val (.int p2), .val (.int (1 : Int32)), .val (.int (0 : Int32)), .val (.int (1 : Int32)), .unset, .unset, .unset, .unset, .unset, .unset] [(.ref b_52)])) _
          refine XS.dup X_52.here hx rfl (hb hby at_40) rfl rfl ?_
          show Steps p.tables e below (T_52.setTop (mkF m 41 #[.val (.int p1), .val (.int p2), .val (.int (1 : Int32)), .val (.int (0 : Int32)), .val (.int (1 : Int32)), .unset, .unset, .unset, .unset, .unset, .unset] [(.ref b_52), (.ref b_52)])) _
          refine XS.iloadN X_52.here hx rfl (hb hby at_41) rfl ?_
          show Steps p.tables e below (T_52.setTop (mkF m 42 #[.val (.int p1), .val (.int p2), .val (.int (1 : Int32)), .val (.int (0 : Int32)), .val (.int (1 : Int32)), .unset, .unset, .unset, .unset, .unset, .unset] [(.int p2), (.ref b_52), (.ref b_52)])) _
          refine XS.sipush X_52.here hx rfl (hb hby at_42) ?_
          show Steps p.tables e below (T_52.setTop (mkF m 45 #[.val (.int p1), .val (.int p2), .val (.int (1 : Int32)), .val (.int (0 : Int32)), .val (.int (1 : Int32)), .unset, .unset, .unset, .unset, .unset, .unset] [(.int (255 : Int32)), (.int p2), (.ref b_52), (.ref b_52)])) _
          refine XS.iand X_52.here hx rfl (hb hby at_45) rfl ?_
          show Steps p.tables e below (T_52.setTop (mkF m 46 #[.val (.int p1), .val (.int p2), .val (.int (1 : Int32)), .val (.int (0 : Int32)), .val (.int (1 : Int32)), .unset, .unset, .unset, .unset, .unset, .unset] [(.int (p2 &&& (255 : Int32))), (.ref b_52), (.ref b_52)])) _
          refine XS.i2c X_52.here hx rfl (hb hby at_46) rfl ?_
          show Steps p.tables e below (T_52.setTop (mkF m 47 #[.val (.int p1), .val (.int p2), .val (.int (1 : Int32)), .val (.int (0 : Int32)), .val (.int (1 : Int32)), .unset, .unset, .unset, .unset, .unset, .unset] [(.int ((p2 &&& (255 : Int32)).toUInt32.toUInt16.toUInt32.toInt32)), (.ref b_52), (.ref b_52)])) _
          refine st_53 _ ?_
          show Steps p.tables e below (T_53.setTop (mkF m 50 #[.val (.int p1), .val (.int p2), .val (.int (1 : Int32)), .val (.int (0 : Int32)), .val (.int (1 : Int32)), .unset, .unset, .unset, .unset, .unset, .unset] [(.ref r_53), (.ref b_52), (.ref b_52)])) _
          refine st_54.trans ?_
          show Steps p.tables e below (T_54.setTop (mkF m 53 #[.val (.int p1), .val (.int p2), .val (.int (1 : Int32)), .val (.int (0 : Int32)), .val (.int (1 : Int32)), .unset, .unset, .unset, .unset, .unset, .unset] [(.ref b_52)])) _
          refine XS.astore X_54.here hx rfl (hb hby at_53) rfl rfl (l' := #[.val (.int p1), .val (.int p2), .val (.int (1 : Int32)), .val (.int (0 : Int32)), .val (.int (1 : Int32)), .val (.ref b_52), .unset, .unset, .unset, .unset, .unset]) rfl ?_
          show Steps p.tables e below (T_54.setTop (mkF m 55 #[.val (.int p1), .val (.int p2), .val (.int (1 : Int32)), .val (.int (0 : Int32)), .val (.int (1 : Int32)), .val (.ref b_52), .unset, .unset, .unset, .unset, .unset] [])) _
          refine XS.iload X_54.here hx rfl (hb hby at_55) rfl ?_
          show Steps p.tables e below (T_54.setTop (mkF m 57 #[.val (.int p1), .val (.int p2), .val (.int (1 : Int32)), .val (.int (0 : Int32)), .val (.int (1 : Int32)), .val (.ref b_52), .unset, .unset, .unset, .unset, .unset] [(.int (1 : Int32))])) _
          refine XS.ifNo X_54.here hx rfl (hb hby at_57) rfl ((if0 _ _).trans (feq (by decide : ¬ ((1 : Int32) = (0 : Int32)))).1) ?_
          show Steps p.tables e below (T_54.setTop (mkF m 60 #[.val (.int p1), .val (.int p2), .val (.int (1 : Int32)), .val (.int (0 : Int32)), .val (.int (1 : Int32)), .val (.ref b_52), .unset, .unset, .unset, .unset, .unset] [])) _
          refine XS.aload X_54.here hx rfl (hb hby at_60) rfl rfl ?_
          show Steps p.tables e below (T_54.setTop (mkF m 62 #[.val (.int p1), .val (.int p2), .val (.int (1 : Int32)), .val (.int (0 : Int32)), .val (.int (1 : Int32)), .val (.ref b_52), .unset, .unset, .unset, .unset, .unset] [(.ref b_52)])) _
          refine XS.goto X_54.here hx rfl (pc0 := 62) (pc' := 84) rfl (hb hby at_62) (by decide) (by decide) ?_
          show Steps p.tables e below (T_54.setTop (mkF m 84 #[.val (.int p1), .val (.int p2), .val (.int (1 : Int32)), .val (.int (0 : Int32)), .val (.int (1 : Int32)), .val (.ref b_52), .unset, .unset, .unset, .unset, .unset] [(.ref b_52)])) _
          refine XS.astore X_54.here hx rfl (hb hby at_84) rfl rfl (l' := #[.val (.int p1), .val (.int p2), .val (.int (1 : Int32)), .val (.int (0 : Int32)), .val (.int (1 : Int32)), .val (.ref b_52), .val (.ref b_52), .unset, .unset, .unset, .unset]) rfl ?_
          show Steps p.tables e below (T_54.setTop (mkF m 86 #[.val (.int p1), .val (.int p2), .val (.int (1 : Int32)), .val (.int (0 : Int32)), .val (.int (1 : Int32)), .val (.ref b_52), .val (.ref b_52), .unset, .unset, .unset, .unset] [])) _
          refine XS.iloadN X_54.here hx rfl (hb hby at_86) rfl ?_
          show Steps p.tables e below (T_54.setTop (mkF m 87 #[.val (.int p1), .val (.int p2), .val (.int (1 : Int32)), .val (.int (0 : Int32)), .val (.int (1 : Int32)), .val (.ref b_52), .val (.ref b_52), .unset, .unset, .unset, .unset] [(.int (1 : Int32))])) _
          refine XS.ifNo X_54.here hx rfl (hb hby at_87) rfl ((if0 _ _).trans (feq (by decide : ¬ ((1 : Int32) = (0 : Int32)))).1) ?_
          show Steps p.tables e below (T_54.setTop (mkF m 90 #[.val (.int p1), .val (.int p2), .val (.int (1 : Int32)), .val (.int (0 : Int32)), .val (.int (1 : Int32)), .val (.ref b_52), .val (.ref b_52), .unset, .unset, .unset, .unset] [])) _
          refine XS.aload X_54.here hx rfl (hb hby at_90) rfl rfl ?_
          show Steps p.tables e below (T_54.setTop (mkF m 92 #[.val (.int p1), .val (.int p2), .val (.int (1 : Int32)), .val (.int (0 : Int32)), .val (.int (1 : Int32)), .val (.ref b_52), .val (.ref b_52), .unset, .unset, .unset, .unset] [(.ref b_52)])) _
          refine XS.goto X_54.here hx rfl (pc0 := 92) (pc' := 96) rfl (hb hby at_92) (by decide) (by decide) ?_
          show Steps p.tables e below (T_54.setTop (mkF m 96 #[.val (.int p1), .val (.int p2), .val (.int (1 : Int32)), .val (.int (0 : Int32)), .val (.int (1 : Int32)), .val (.ref b_52), .val (.ref b_52), .unset, .unset, .unset, .unset] [(.ref b_52)])) _
          refine XS.astore X_54.here hx rfl (hb hby at_96) rfl rfl (l' := #[.val (.int p1), .val (.int p2), .val (.int (1 : Int32)), .val (.int (0 : Int32)), .val (.int (1 : Int32)), .val (.ref b_52), .val (.ref b_52), .val (.ref b_52), .unset, .unset, .unset]) rfl ?_
          show Steps p.tables e below (T_54.setTop (mkF m 98 #[.val (.int p1), .val (.int p2), .val (.int (1 : Int32)), .val (.int (0 : Int32)), .val (.int (1 : Int32)), .val (.ref b_52), .val (.ref b_52), .val (.ref b_52), .unset, .unset, .unset] [])) _
          refine XS.iloadN X_54.here hx rfl (hb hby at_98) rfl ?_
          show Steps p.tables e below (T_54.setTop (mkF m 99 #[.val (.int p1), .val (.int p2), .val (.int (1 : Int32)), .val (.int (0 : Int32)), .val (.int (1 : Int32)), .val (.ref b_52), .val (.ref b_52), .val (.ref b_52), .unset, .unset, .unset] [(.int (0 : Int32))])) _
          refine XS.ifYes X_54.here hx rfl (pc0 := 99) (pc' := 107) rfl (hb hby at_99) rfl ((if0 _ _).trans (teq (by decide : (0 : Int32) = (0 : Int32))).1) (by decide) (by decide) ?_
          show Steps p.tables e below (T_54.setTop (mkF m 107 #[.val (.int p1), .val (.int p2), .val (.int (1 : Int32)), .val (.int (0 : Int32)), .val (.int (1 : Int32)), .val (.ref b_52), .val (.ref b_52), .val (.ref b_52), .unset, .unset, .unset] [])) _
          refine XS.aconstNull X_54.here hx rfl (hb hby at_107) ?_
          show Steps p.tables e below (T_54.setTop (mkF m 108 #[.val (.int p1), .val (.int p2), .val (.int (1 : Int32)), .val (.int (0 : Int32)), .val (.int (1 : Int32)), .val (.ref b_52), .val (.ref b_52), .val (.ref b_52), .unset, .unset, .unset] [.null])) _
          refine XS.astore X_54.here hx rfl (hb hby at_108) rfl rfl (l' := #[.val (.int p1), .val (.int p2), .val (.int (1 : Int32)), .val (.int (0 : Int32)), .val (.int (1 : Int32)), .val (.ref b_52), .val (.ref b_52), .val (.ref b_52), .val .null, .unset, .unset]) rfl ?_
          show Steps p.tables e below (T_54.setTop (mkF m 110 #[.val (.int p1), .val (.int p2), .val (.int (1 : Int32)), .val (.int (0 : Int32)), .val (.int (1 : Int32)), .val (.ref b_52), .val (.ref b_52), .val (.ref b_52), .val .null, .unset, .unset] [])) _
          refine st_55 _ ?_
          show Steps p.tables e below (T_55.setTop (mkF m 113 #[.val (.int p1), .val (.int p2), .val (.int (1 : Int32)), .val (.int (0 : Int32)), .val (.int (1 : Int32)), .val (.ref b_52), .val (.ref b_52), .val (.ref b_52), .val .null, .unset, .unset] [(.ref b_55)])) _
          refine XS.dup X_55.here hx rfl (hb hby at_113) rfl rfl ?_
          show Steps p.tables e below (T_55.setTop (mkF m 114 #[.val (.int p1), .val (.int p2), .val (.int (1 : Int32)), .val (.int (0 : Int32)), .val (.int (1 : Int32)), .val (.ref b_52), .val (.ref b_52), .val (.ref b_52), .val .null, .unset, .unset] [(.ref b_55), (.ref b_55)])) _
          refine XS.aload X_55.here hx rfl (hb hby at_114) rfl rfl ?_
          show Steps p.tables e below (T_55.setTop (mkF m 116 #[.val (.int p1), .val (.int p2), .val (.int (1 : Int32)), .val (.int (0 : Int32)), .val (.int (1 : Int32)), .val (.ref b_52), .val (.ref b_52), .val (.ref b_52), .val .null, .unset, .unset] [(.ref b_52), (.ref b_55), (.ref b_55)])) _
          refine XS.aload X_55.here hx rfl (hb hby at_116) rfl rfl ?_
          show Steps p.tables e below (T_55.setTop (mkF m 118 #[.val (.int p1), .val (.int p2), .val (.int (1 : Int32)), .val (.int (0 : Int32)), .val (.int (1 : Int32)), .val (.ref b_52), .val (.ref b_52), .val (.ref b_52), .val .null, .unset, .unset] [.null, (.ref b_52), (.ref b_55), (.ref b_55)])) _
          refine st_56.trans ?_
          show Steps p.tables e below (T_56.setTop (mkF m 121 #[.val (.int p1), .val (.int p2), .val (.int (1 : Int32)), .val (.int (0 : Int32)), .val (.int (1 : Int32)), .val (.ref b_52), .val (.ref b_52), .val (.ref b_52), .val .null, .unset, .unset] [(.ref b_55)])) _
          refine XS.astore X_56.here hx rfl (hb hby at_121) rfl rfl (l' := #[.val (.int p1), .val (.int p2), .val (.int (1 : Int32)), .val (.int (0 : Int32)), .val (.int (1 : Int32)), .val (.ref b_52), .val (.ref b_52), .val (.ref b_52), .val .null, .val (.ref b_55), .unset]) rfl ?_
          show Steps p.tables e below (T_56.setTop (mkF m 123 #[.val (.int p1), .val (.int p2), .val (.int (1 : Int32)), .val (.int (0 : Int32)), .val (.int (1 : Int32)), .val (.ref b_52), .val (.ref b_52), .val (.ref b_52), .val .null, .val (.ref b_55), .unset] [])) _
          refine XS.iloadN X_56.here hx rfl (hb hby at_123) rfl ?_
          show Steps p.tables e below (T_56.setTop (mkF m 124 #[.val (.int p1), .val (.int p2), .val (.int (1 : Int32)), .val (.int (0 : Int32)), .val (.int (1 : Int32)), .val (.ref b_52), .val (.ref b_52), .val (.ref b_52), .val .null, .val (.ref b_55), .unset] [(.int (1 : Int32))])) _
          refine XS.ifNo X_56.here hx rfl (hb hby at_124) rfl ((if0 _ _).trans (feq (by decide : ¬ ((1 : Int32) = (0 : Int32)))).1) ?_
          show Steps p.tables e below (T_56.setTop (mkF m 127 #[.val (.int p1), .val (.int p2), .val (.int (1 : Int32)), .val (.int (0 : Int32)), .val (.int (1 : Int32)), .val (.ref b_52), .val (.ref b_52), .val (.ref b_52), .val .null, .val (.ref b_55), .unset] [])) _
          refine XS.iconst X_56.here hx rfl (hb hby at_127) ?_
          show Steps p.tables e below (T_56.setTop (mkF m 128 #[.val (.int p1), .val (.int p2), .val (.int (1 : Int32)), .val (.int (0 : Int32)), .val (.int (1 : Int32)), .val (.ref b_52), .val (.ref b_52), .val (.ref b_52), .val .null, .val (.ref b_55), .unset] [(.int (1 : Int32))])) _
          refine XS.istore X_56.here hx rfl (hb hby at_128) rfl (l' := #[.val (.int p1), .val (.int p2), .val (.int (1 : Int32)), .val (.int (0 : Int32)), .val (.int (1 : Int32)), .val (.ref b_52), .val (.ref b_52), .val (.ref b_52), .val .null, .val (.ref b_55), .val (.int (1 : Int32))]) rfl ?_
          show Steps p.tables e below (T_56.setTop (mkF m 130 #[.val (.int p1), .val (.int p2), .val (.int (1 : Int32)), .val (.int (0 : Int32)), .val (.int (1 : Int32)), .val (.ref b_52), .val (.ref b_52), .val (.ref b_52), .val .null, .val (.ref b_55), .val (.int (1 : Int32))] [])) _
          refine XS.goto X_56.here hx rfl (pc0 := 130) (pc' := 146) rfl (hb hby at_130) (by decide) (by decide) ?_
          show Steps p.tables e below (T_56.setTop (mkF m 146 #[.val (.int p1), .val (.int p2), .val (.int (1 : Int32)), .val (.int (0 : Int32)), .val (.int (1 : Int32)), .val (.ref b_52), .val (.ref b_52), .val (.ref b_52), .val .null, .val (.ref b_55), .val (.int (1 : Int32))] [])) _
          refine XS.aload X_56.here hx rfl (hb hby at_146) rfl rfl ?_
          show Steps p.tables e below (T_56.setTop (mkF m 148 #[.val (.int p1), .val (.int p2), .val (.int (1 : Int32)), .val (.int (0 : Int32)), .val (.int (1 : Int32)), .val (.ref b_52), .val (.ref b_52), .val (.ref b_52), .val .null, .val (.ref b_55), .val (.int (1 : Int32))] [(.ref b_55)])) _
          refine st_57.trans ?_
          show Steps p.tables e below (T_57.setTop (mkF m 151 #[.val (.int p1), .val (.int p2), .val (.int (1 : Int32)), .val (.int (0 : Int32)), .val (.int (1 : Int32)), .val (.ref b_52), .val (.ref b_52), .val (.ref b_52), .val .null, .val (.ref b_55), .val (.int (1 : Int32))] [(.int (1 : Int32))])) _
          refine XS.iload X_57.here hx rfl (hb hby at_151) rfl ?_
          show Steps p.tables e below (T_57.setTop (mkF m 153 #[.val (.int p1), .val (.int p2), .val (.int (1 : Int32)), .val (.int (0 : Int32)), .val (.int (1 : Int32)), .val (.ref b_52), .val (.ref b_52), .val (.ref b_52), .val .null, .val (.ref b_55), .val (.int (1 : Int32))] [(.int (1 : Int32)), (.int (1 : Int32))])) _
          refine XS.icmpNo X_57.here hx rfl (hb hby at_153) rfl (teq (by decide : (1 : Int32) = (1 : Int32))).2 ?_
          show Steps p.tables e below (T_57.setTop (mkF m 156 #[.val (.int p1), .val (.int p2), .val (.int (1 : Int32)), .val (.int (0 : Int32)), .val (.int (1 : Int32)), .val (.ref b_52), .val (.ref b_52), .val (.ref b_52), .val .null, .val (.ref b_55), .val (.int (1 : Int32))] [])) _
          refine XS.iconst X_57.here hx rfl (hb hby at_156) ?_
          show Steps p.tables e below (T_57.setTop (mkF m 157 #[.val (.int p1), .val (.int p2), .val (.int (1 : Int32)), .val (.int (0 : Int32)), .val (.int (1 : Int32)), .val (.ref b_52), .val (.ref b_52), .val (.ref b_52), .val .null, .val (.ref b_55), .val (.int (1 : Int32))] [(.int (1 : Int32))])) _
          refine XS.goto X_57.here hx rfl (pc0 := 157) (pc' := 161) rfl (hb hby at_157) (by decide) (by decide) ?_
          show Steps p.tables e below (T_57.setTop (mkF m 161 #[.val (.int p1), .val (.int p2), .val (.int (1 : Int32)), .val (.int (0 : Int32)), .val (.int (1 : Int32)), .val (.ref b_52), .val (.ref b_52), .val (.ref b_52), .val .null, .val (.ref b_55), .val (.int (1 : Int32))] [(.int (1 : Int32))])) _
          exact retN X_57 hx (t := .boolean) Bd.returns (by simp) (hb hby at_161) hr
        · exact ⟨rfl, N_57⟩
    · have pr_58 : ∀ t, Steps p.tables e below (s₁.setTop (mkF m 27 #[.val (.int p1), .val (.int p2), .val (.int (1 : Int32)), .val (.int (1 : Int32)), .unset, .unset, .unset, .unset, .unset, .unset, .unset] [(.int (p1 &&& (4 : Int32)))])) t → Steps p.tables e below (s₁.setTop (entryFrame m #[(.int p1), (.int p2)] maxLocals)) t := fun t k => by
        refine pr_39 _ ?_
        show Steps p.tables e below (s₁.setTop (mkF m 15 #[.val (.int p1), .val (.int p2), .val (.int (1 : Int32)), .unset, .unset, .unset, .unset, .unset, .unset, .unset, .unset] [(.int (p1 &&& (2 : Int32)))])) _
        refine XS.ifNo X0.here hx rfl (hb hby at_15) rfl ((if0 _ _).trans (feq hc_40).1) ?_
        show Steps p.tables e below (s₁.setTop (mkF m 18 #[.val (.int p1), .val (.int p2), .val (.int (1 : Int32)), .unset, .unset, .unset, .unset, .unset, .unset, .unset, .unset] [])) _
        refine XS.iconst X0.here hx rfl (hb hby at_18) ?_
        show Steps p.tables e below (s₁.setTop (mkF m 19 #[.val (.int p1), .val (.int p2), .val (.int (1 : Int32)), .unset, .unset, .unset, .unset, .unset, .unset, .unset, .unset] [(.int (1 : Int32))])) _
        refine XS.goto X0.here hx rfl (pc0 := 19) (pc' := 23) rfl (hb hby at_19) (by decide) (by decide) ?_
        show Steps p.tables e below (s₁.setTop (mkF m 23 #[.val (.int p1), .val (.int p2), .val (.int (1 : Int32)), .unset, .unset, .unset, .unset, .unset, .unset, .unset, .unset] [(.int (1 : Int32))])) _
        refine XS.istoreN X0.here hx rfl (hb hby at_23) rfl (l' := #[.val (.int p1), .val (.int p2), .val (.int (1 : Int32)), .val (.int (1 : Int32)), .unset, .unset, .unset, .unset, .unset, .unset, .unset]) rfl ?_
        show Steps p.tables e below (s₁.setTop (mkF m 24 #[.val (.int p1), .val (.int p2), .val (.int (1 : Int32)), .val (.int (1 : Int32)), .unset, .unset, .unset, .unset, .unset, .unset, .unset] [])) _
        refine XS.iloadN X0.here hx rfl (hb hby at_24) rfl ?_
        show Steps p.tables e below (s₁.setTop (mkF m 25 #[.val (.int p1), .val (.int p2), .val (.int (1 : Int32)), .val (.int (1 : Int32)), .unset, .unset, .unset, .unset, .unset, .unset, .unset] [(.int p1)])) _
        refine XS.iconst X0.here hx rfl (hb hby at_25) ?_
        show Steps p.tables e below (s₁.setTop (mkF m 26 #[.val (.int p1), .val (.int p2), .val (.int (1 : Int32)), .val (.int (1 : Int32)), .unset, .unset, .unset, .unset, .unset, .unset, .unset] [(.int (4 : Int32)), (.int p1)])) _
        refine XS.iand X0.here hx rfl (hb hby at_26) rfl ?_
        exact k
      by_cases hc_59 : (p1 &&& (4 : Int32)) = (0 : Int32)
      · obtain ⟨T_60, h_60, X_60, e_60, E_60, A_60, D_60, -, st_60⟩ := newO X0 hx hZ hown (hw _ (List.mem_of_getElem? (i := 0) rfl)) (hw _ (List.mem_of_getElem? (i := 1) rfl)) (hw _ (List.mem_of_getElem? (i := 2) rfl)) e0 (g := (mkF m 37 #[.val (.int p1), .val (.int p2), .val (.int (1 : Int32)), .val (.int (1 : Int32)), .val (.int (0 : Int32)), .unset, .unset, .unset, .unset, .unset, .unset] [])) rfl (hb hby at_37) (by decide) (by decide)
        obtain ⟨b_60, g_60⟩ : ∃ z, z = h0.size := ⟨_, rfl⟩
        rw [← g_60] at A_60 D_60 st_60
        have g_b_60 : n0 ≤ b_60 := Nat.le_trans Z0 (Nat.le_of_eq g_60.symm)
        have sz_b_60 : h0.size ≤ b_60 := Nat.le_trans ((Keep.refl h0 [])).1 (Nat.le_of_eq g_60.symm)
        have f_60_0 : Sta Z h_60 "java/lang/String" "COMPACT_STRINGS" "Z" (.int w9) := F0.ext E_60
        have Z_60 : n0 ≤ h_60.size := Nat.le_trans Z0 E_60.1
        have K_60 : Keep h0 h_60 [] := (Keep.refl h0 []).ext E_60
        have fd_60_39 : Fld Z h_60 b_60 "com/example/pathlatch/pathlatch/Text" "value" "Ljava/lang/String;" .null := D_60 (Or.inl (hw _ (List.mem_of_getElem? (i := 39) rfl))) (ty := (.object "java/lang/String")) (by decide)
        obtain ⟨_, _, ⟨T_61, L_61, k_61, n_61⟩, -, X_61, ⟨Lc_61, hQ_61, l_61, y_61, z_61⟩, st_61⟩ := Jvm.LawKit.callS X_60 hx (y := (⟨"java/lang/String", "valueOf", "(C)Ljava/lang/String;"⟩ : MethodName)) hown (mvT hZ (hw _ (List.mem_of_getElem? (i := 3) rfl))) (mvT hZ (hw _ (List.mem_of_getElem? (i := 4) rfl))) (mvT hZ (hw _ (List.mem_of_getElem? (i := 5) rfl))) (mvT hZ (hw _ (List.mem_of_getElem? (i := 6) rfl))) (by decide) (backOf (W := 2) (rm1 l Z a0 hw [] ((p2 &&& (255 : Int32)).toUInt32.toUInt16.toUInt32.toInt32) w9 h_60 n0 Z_60 f_60_0 hw9 (own_ch1 p2)) hZ (hw _ (List.mem_of_getElem? (i := 6) rfl)) (hw _ (List.mem_of_getElem? (i := 5) rfl)) (by decide) (by decide)) (g := (mkF m 47 #[.val (.int p1), .val (.int p2), .val (.int (1 : Int32)), .val (.int (1 : Int32)), .val (.int (0 : Int32)), .unset, .unset, .unset, .unset, .unset, .unset] [(.int ((p2 &&& (255 : Int32)).toUInt32.toUInt16.toUInt32.toInt32)), (.ref b_60), (.ref b_60)])) rfl (by rw [hml]; rfl) (argsL := [(.int ((p2 &&& (255 : Int32)).toUInt32.toUInt16.toUInt32.toInt32))]) (rest := [(.ref b_60), (.ref b_60)]) (lenOf pd_5 rfl) rfl (by show 2 * 0 + _ ≤ _; exact Nat.le_of_eq rfl) (hb hby at_47) (fun _ _ => ⟨rfl, e_60, (by decide : 1 + 2 ≤ _), (by decide : 4 + 5 ≤ _)⟩)
        dsimp only [Pt.U, Pt.locs, Pt.cells, Pt.slots] at X_61 l_61 y_61 z_61 st_61 hQ_61
        subst l_61 y_61 z_61
        obtain ⟨r_61, rfl, N_61q, Kc_61⟩ := hQ_61
        have f_61_0 : Sta Z T_61.heap "java/lang/String" "COMPACT_STRINGS" "Z" (.int w9) := own_sta_keep0 f_60_0 Kc_61
        have f_61_1 : Exa Z T_61.heap b_60 "com/example/pathlatch/pathlatch/Text" := A_60.keep Kc_61
        have f_61_2 : Fld Z T_61.heap b_60 "com/example/pathlatch/pathlatch/Text" "value" "Ljava/lang/String;" .null := fd_60_39.keep Kc_61 (List.not_mem_nil)
        have Z_61 : n0 ≤ T_61.heap.size := Nat.le_trans Z_60 Kc_61.1
        have K_61 : Keep h0 T_61.heap [] := K_60.trans Kc_61 (fun x hx => nomatch hx)
        have N_61 := Fr.app N0 N_61q
        obtain ⟨_, _, ⟨T_62, L_62, k_62, n_62⟩, -, X_62, ⟨Lc_62, hQ_62, l_62, y_62, z_62⟩, st_62⟩ := X_61.specialBack hx (y := (⟨"com/example/pathlatch/pathlatch/Text", "<init>", "(Ljava/lang/String;)V"⟩ : MethodName)) rfl hown (mvT hZ (hw _ (List.mem_of_getElem? (i := 29) rfl))) (mvT hZ (hw _ (List.mem_of_getElem? (i := 30) rfl))) (mvT hZ (hw _ (List.mem_of_getElem? (i := 31) rfl))) (by decide) (backOf (W := 1) (rm6 l Z a0 hw [] b_60 r_61 T_61.heap n0 Z_61 g_b_60 f_61_1 f_61_2) hZ (hw _ (List.mem_of_getElem? (i := 31) rfl)) (hw _ (List.mem_of_getElem? (i := 2) rfl)) (by decide) (by decide)) (g := (mkF m 50 #[.val (.int p1), .val (.int p2), .val (.int (1 : Int32)), .val (.int (1 : Int32)), .val (.int (0 : Int32)), .unset, .unset, .unset, .unset, .unset, .unset] [(.ref r_61), (.ref b_60), (.ref b_60)])) rfl (by rw [hml]; rfl) (Steps.refl _) (a := b_60) (argsL := [(.ref r_61)]) (rest := [(.ref b_60)]) (lenOf pd_6 rfl) rfl (by show 2 * 0 + _ ≤ _; exact Nat.le_of_eq rfl) (hb hby at_50) (fun _ _ => ⟨rfl, rfl, (by decide : 3 + 0 ≤ _), (by decide : 9 + 0 ≤ _)⟩)
        dsimp only [Pt.U, Pt.locs, Pt.cells, Pt.slots] at X_62 l_62 y_62 z_62 st_62 hQ_62
        subst l_62 y_62 z_62
        obtain ⟨rfl, N_62q, Kc_62, o_62_0⟩ := hQ_62
        have f_62_0 : Sta Z T_62.heap "java/lang/String" "COMPACT_STRINGS" "Z" (.int w9) := own_sta_keep f_61_0 f_61_1 Kc_62
        have f_62_1 : Exa Z T_62.heap b_60 "com/example/pathlatch/pathlatch/Text" := f_61_1.keep Kc_62
        have Z_62 : n0 ≤ T_62.heap.size := Nat.le_trans Z_61 Kc_62.1
        have K_62 : Keep h0 T_62.heap [] := K_61.trans Kc_62 (fun x hx => by cases List.mem_singleton.mp hx; exact Or.inr sz_b_60)
        have N_62 := Fr.app N_61 N_62q
        obtain ⟨T_63, h_63, X_63, e_63, E_63, A_63, D_63, -, st_63⟩ := newO X_62 hx hZ hown (hw _ (List.mem_of_getElem? (i := 0) rfl)) (hw _ (List.mem_of_getElem? (i := 1) rfl)) (hw _ (List.mem_of_getElem? (i := 2) rfl)) rfl (g := (mkF m 65 #[.val (.int p1), .val (.int p2), .val (.int (1 : Int32)), .val (.int (1 : Int32)), .val (.int (0 : Int32)), .val (.ref b_60), .unset, .unset, .unset, .unset, .unset] [])) rfl (hb hby at_65) (by decide) (by decide)
        obtain ⟨b_63, g_63⟩ : ∃ z, z = T_62.heap.size := ⟨_, rfl⟩
        rw [← g_63] at A_63 D_63 st_63
        have ne_b_60_b_63 : b_60 ≠ b_63 := Nat.ne_of_lt (Nat.lt_of_lt_of_le o_62_0.lt (Nat.le_of_eq g_63.symm))
        have g_b_63 : n0 ≤ b_63 := Nat.le_trans Z_62 (Nat.le_of_eq g_63.symm)
        have sz_b_63 : h0.size ≤ b_63 := Nat.le_trans (K_62).1 (Nat.le_of_eq g_63.symm)
        have f_63_0 : Sta Z h_63 "java/lang/String" "COMPACT_STRINGS" "Z" (.int w9) := f_62_0.ext E_63
        have f_63_1 : Exa Z h_63 b_60 "com/example/pathlatch/pathlatch/Text" := o_62_0.ext E_63
        have Z_63 : n0 ≤ h_63.size := Nat.le_trans Z_62 E_63.1
        have K_63 : Keep h0 h_63 [] := K_62.ext E_63
        have fd_63_39 : Fld Z h_63 b_63 "com/example/pathlatch/pathlatch/Text" "value" "Ljava/lang/String;" .null := D_63 (Or.inl (hw _ (List.mem_of_getElem? (i := 39) rfl))) (ty := (.object "java/lang/String")) (by decide)
        obtain ⟨_, _, ⟨T_64, L_64, k_64, n_64⟩, -, X_64, ⟨Lc_64, hQ_64, l_64, y_64, z_64⟩, st_64⟩ := Jvm.LawKit.callS X_63 hx (y := (⟨"java/lang/String", "valueOf", "(C)Ljava/lang/String;"⟩ : MethodName)) hown (mvT hZ (hw _ (List.mem_of_getElem? (i := 3) rfl))) (mvT hZ (hw _ (List.mem_of_getElem? (i := 4) rfl))) (mvT hZ (hw _ (List.mem_of_getElem? (i := 5) rfl))) (mvT hZ (hw _ (List.mem_of_getElem? (i := 6) rfl))) (by decide) (backOf (W := 2) (rm1 l Z a0 hw [] ((((p2.toUInt32 >>> ((8 : Int32) &&& 31).toUInt32).toInt32) &&& (255 : Int32)).toUInt32.toUInt16.toUInt32.toInt32) w9 h_63 n0 Z_63 f_63_0 hw9 (own_ch2 p2)) hZ (hw _ (List.mem_of_getElem? (i := 6) rfl)) (hw _ (List.mem_of_getElem? (i := 5) rfl)) (by decide) (by decide)) (g := (mkF m 78 #[.val (.int p1), .val (.int p2), .val (.int (1 : Int32)), .val (.int (1 : Int32)), .val (.int (0 : Int32)), .val (.ref b_60), .unset, .unset, .unset, .unset, .unset] [(.int ((((p2.toUInt32 >>> ((8 : Int32) &&& 31).toUInt32).toInt32) &&& (255 : Int32)).toUInt32.toUInt16.toUInt32.toInt32)), (.ref b_63), (.ref b_63)])) rfl (by rw [hml]; rfl) (argsL := [(.int ((((p2.toUInt32 >>> ((8 : Int32) &&& 31).toUInt32).toInt32) &&& (255 : Int32)).toUInt32.toUInt16.toUInt32.toInt32))]) (rest := [(.ref b_63), (.ref b_63)]) (lenOf pd_5 rfl) rfl (by show 2 * 0 + _ ≤ _; exact Nat.le_of_eq rfl) (hb hby at_78) (fun _ _ => ⟨rfl, e_63, (by decide : 4 + 2 ≤ _), (by decide : 13 + 5 ≤ _)⟩)
        dsimp only [Pt.U, Pt.locs, Pt.cells, Pt.slots] at X_64 l_64 y_64 z_64 st_64 hQ_64
        subst l_64 y_64 z_64
        obtain ⟨r_64, rfl, N_64q, Kc_64⟩ := hQ_64
        have f_64_0 : Sta Z T_64.heap "java/lang/String" "COMPACT_STRINGS" "Z" (.int w9) := own_sta_keep0 f_63_0 Kc_64
        have f_64_1 : Exa Z T_64.heap b_60 "com/example/pathlatch/pathlatch/Text" := f_63_1.keep Kc_64
        have f_64_2 : Exa Z T_64.heap b_63 "com/example/pathlatch/pathlatch/Text" := A_63.keep Kc_64
        have f_64_3 : Fld Z T_64.heap b_63 "com/example/pathlatch/pathlatch/Text" "value" "Ljava/lang/String;" .null := fd_63_39.keep Kc_64 (List.not_mem_nil)
        have Z_64 : n0 ≤ T_64.heap.size := Nat.le_trans Z_63 Kc_64.1
        have K_64 : Keep h0 T_64.heap [] := K_63.trans Kc_64 (fun x hx => nomatch hx)
        have N_64 := Fr.app N_62 N_64q
        obtain ⟨_, _, ⟨T_65, L_65, k_65, n_65⟩, -, X_65, ⟨Lc_65, hQ_65, l_65, y_65, z_65⟩, st_65⟩ := X_64.specialBack hx (y := (⟨"com/example/pathlatch/pathlatch/Text", "<init>", "(Ljava/lang/String;)V"⟩ : MethodName)) rfl hown (mvT hZ (hw _ (List.mem_of_getElem? (i := 29) rfl))) (mvT hZ (hw _ (List.mem_of_getElem? (i := 30) rfl))) (mvT hZ (hw _ (List.mem_of_getElem? (i := 31) rfl))) (by decide) (backOf (W := 1) (rm6 l Z a0 hw [] b_63 r_64 T_64.heap n0 Z_64 g_b_63 f_64_2 f_64_3) hZ (hw _ (List.mem_of_getElem? (i := 31) rfl)) (hw _ (List.mem_of_getElem? (i := 2) rfl)) (by decide) (by decide)) (g := (mkF m 81 #[.val (.int p1), .val (.int p2), .val (.int (1 : Int32)), .val (.int (1 : Int32)), .val (.int (0 : Int32)), .val (.ref b_60), .unset, .unset, .unset, .unset, .unset] [(.ref r_64), (.ref b_63), (.ref b_63)])) rfl (by rw [hml]; rfl) (Steps.refl _) (a := b_63) (argsL := [(.ref r_64)]) (rest := [(.ref b_63)]) (lenOf pd_6 rfl) rfl (by show 2 * 0 + _ ≤ _; exact Nat.le_of_eq rfl) (hb hby at_81) (fun _ _ => ⟨rfl, rfl, (by decide : 6 + 0 ≤ _), (by decide : 18 + 0 ≤ _)⟩)
        dsimp only [Pt.U, Pt.locs, Pt.cells, Pt.slots] at X_65 l_65 y_65 z_65 st_65 hQ_65
        subst l_65 y_65 z_65
        obtain ⟨rfl, N_65q, Kc_65, o_65_0⟩ := hQ_65
        have f_65_0 : Sta Z T_65.heap "java/lang/String" "COMPACT_STRINGS" "Z" (.int w9) := own_sta_keep f_64_0 f_64_2 Kc_65
        have f_65_1 : Exa Z T_65.heap b_60 "com/example/pathlatch/pathlatch/Text" := f_64_1.keep Kc_65
        have f_65_2 : Exa Z T_65.heap b_63 "com/example/pathlatch/pathlatch/Text" := f_64_2.keep Kc_65
        have Z_65 : n0 ≤ T_65.heap.size := Nat.le_trans Z_64 Kc_65.1
        have K_65 : Keep h0 T_65.heap [] := K_64.trans Kc_65 (fun x hx => by cases List.mem_singleton.mp hx; exact Or.inr sz_b_63)
        have N_65 := Fr.app N_64 N_65q
        obtain ⟨T_66, h_66, X_66, e_66, E_66, A_66, D_66, -, st_66⟩ := newO X_65 hx hZ hown (hw _ (List.mem_of_getElem? (i := 40) rfl)) (hw _ (List.mem_of_getElem? (i := 41) rfl)) (hw _ (List.mem_of_getElem? (i := 42) rfl)) rfl (g := (mkF m 110 #[.val (.int p1), .val (.int p2), .val (.int (1 : Int32)), .val (.int (1 : Int32)), .val (.int (0 : Int32)), .val (.ref b_60), .val (.ref b_63), .val (.ref b_60), .val (.ref b_63), .unset, .unset] [])) rfl (hb hby at_110) (by decide) (by decide)
        obtain ⟨b_66, g_66⟩ : ∃ z, z = T_65.heap.size := ⟨_, rfl⟩
        rw [← g_66] at A_66 D_66 st_66
        have ne_b_60_b_66 : b_60 ≠ b_66 := Nat.ne_of_lt (Nat.lt_of_lt_of_le f_65_1.lt (Nat.le_of_eq g_66.symm))
        have ne_b_63_b_66 : b_63 ≠ b_66 := Nat.ne_of_lt (Nat.lt_of_lt_of_le o_65_0.lt (Nat.le_of_eq g_66.symm))
        have g_b_66 : n0 ≤ b_66 := Nat.le_trans Z_65 (Nat.le_of_eq g_66.symm)
        have sz_b_66 : h0.size ≤ b_66 := Nat.le_trans (K_65).1 (Nat.le_of_eq g_66.symm)
        have f_66_0 : Sta Z h_66 "java/lang/String" "COMPACT_STRINGS" "Z" (.int w9) := f_65_0.ext E_66
        have f_66_1 : Exa Z h_66 b_60 "com/example/pathlatch/pathlatch/Text" := f_65_1.ext E_66
        have f_66_2 : Exa Z h_66 b_63 "com/example/pathlatch/pathlatch/Text" := o_65_0.ext E_66
        have Z_66 : n0 ≤ h_66.size := Nat.le_trans Z_65 E_66.1
        have K_66 : Keep h0 h_66 [] := K_65.ext E_66
        have fd_66_53 : Fld Z h_66 b_66 "com/example/pathlatch/pathlatch/ParentNode$TextBeside" "before" "Lcom/example/pathlatch/pathlatch/Text;" .null := D_66 (Or.inr (hw _ (List.mem_of_getElem? (i := 53) rfl))) (ty := (.object "com/example/pathlatch/pathlatch/Text")) (by decide)
        have fd_66_55 : Fld Z h_66 b_66 "com/example/pathlatch/pathlatch/ParentNode$TextBeside" "after" "Lcom/example/pathlatch/pathlatch/Text;" .null := D_66 (Or.inr (hw _ (List.mem_of_getElem? (i := 55) rfl))) (ty := (.object "com/example/pathlatch/pathlatch/Text")) (by decide)
        obtain ⟨_, _, ⟨T_67, L_67, k_67, n_67⟩, -, X_67, ⟨Lc_67, hQ_67, l_67, y_67, z_67⟩, st_67⟩ := X_66.specialBack hx (y := (⟨"com/example/pathlatch/pathlatch/ParentNode$TextBeside", "<init>", "(Lcom/example/pathlatch/pathlatch/Text;Lcom/example/pathlatch/pathlatch/Text;)V"⟩ : MethodName)) rfl hown (mvT hZ (hw _ (List.mem_of_getElem? (i := 43) rfl))) (mvT hZ (hw _ (List.mem_of_getElem? (i := 44) rfl))) (mvT hZ (hw _ (List.mem_of_getElem? (i := 45) rfl))) (by decide) (backOf (W := 1) (rm8_ l Z a0 hw [] b_66 b_60 b_63 h_66 n0 Z_66 g_b_66 A_66 fd_66_53 fd_66_55) hZ (hw _ (List.mem_of_getElem? (i := 45) rfl)) (hw _ (List.mem_of_getElem? (i := 42) rfl)) (by decide) (by decide)) (g := (mkF m 118 #[.val (.int p1), .val (.int p2), .val (.int (1 : Int32)), .val (.int (1 : Int32)), .val (.int (0 : Int32)), .val (.ref b_60), .val (.ref b_63), .val (.ref b_60), .val (.ref b_63), .unset, .unset] [(.ref b_63), (.ref b_60), (.ref b_66), (.ref b_66)])) rfl (by rw [hml]; rfl) (Steps.refl _) (a := b_66) (argsL := [(.ref b_60), (.ref b_63)]) (rest := [(.ref b_66)]) (lenOf pd_7 rfl) rfl (by show 2 * 0 + _ ≤ _; exact Nat.le_of_eq rfl) (hb hby at_118) (fun _ _ => ⟨rfl, e_66, (by decide : 7 + 0 ≤ _), (by decide : 20 + 0 ≤ _)⟩)
        dsimp only [Pt.U, Pt.locs, Pt.cells, Pt.slots] at X_67 l_67 y_67 z_67 st_67 hQ_67
        subst l_67 y_67 z_67
        obtain ⟨rfl, N_67q, Kc_67, o_67_0, o_67_1, o_67_2⟩ := hQ_67
        have f_67_0 : Sta Z T_67.heap "java/lang/String" "COMPACT_STRINGS" "Z" (.int w9) := own_sta_keep f_66_0 A_66 Kc_67
        have f_67_1 : Exa Z T_67.heap b_60 "com/example/pathlatch/pathlatch/Text" := f_66_1.keep Kc_67
        have f_67_2 : Exa Z T_67.heap b_63 "com/example/pathlatch/pathlatch/Text" := f_66_2.keep Kc_67
        have f_67_3 : Exa Z T_67.heap b_66 "com/example/pathlatch/pathlatch/ParentNode$TextBeside" := A_66.keep Kc_67
        have Z_67 : n0 ≤ T_67.heap.size := Nat.le_trans Z_66 Kc_67.1
        have K_67 : Keep h0 T_67.heap [] := K_66.trans Kc_67 (fun x hx => by cases List.mem_singleton.mp hx; exact Or.inr sz_b_66)
        have N_67 := Fr.app N_65 N_67q
        obtain ⟨cq_68, kq_68, q_68a, q_68b, q_68c⟩ := isOf hZ rfl o_67_0
        obtain ⟨_, _, ⟨T_68, L_68, k_68, n_68⟩, -, X_68, ⟨Lc_68, hQ_68, l_68, y_68, z_68⟩, st_68⟩ := X_67.virtualBack hx (y := (⟨"com/example/pathlatch/pathlatch/ParentNode$TextBeside", "any", "()Z"⟩ : MethodName)) (z := (⟨"com/example/pathlatch/pathlatch/ParentNode$TextBeside", "any", "()Z"⟩ : MethodName)) hown (mvT hZ (hw _ (List.mem_of_getElem? (i := 56) rfl))) (mvT hZ (hw _ (List.mem_of_getElem? (i := 57) rfl))) (notFace_of_selects (args := #[]) (mvT hZ (hw _ (List.mem_of_getElem? (i := 59) rfl)))) (mvT hZ (hw _ (List.mem_of_getElem? (i := 59) rfl))) (mvT hZ (hw _ (List.mem_of_getElem? (i := 58) rfl))) (by decide) (backOf (W := 0) (rm10_1 l Z a0 hw [] b_66 b_60 T_67.heap n0 Z_67 o_67_1) hZ (hw _ (List.mem_of_getElem? (i := 60) rfl)) (hw _ (List.mem_of_getElem? (i := 42) rfl)) (by decide) (by decide)) q_68a q_68c (g := (mkF m 148 #[.val (.int p1), .val (.int p2), .val (.int (1 : Int32)), .val (.int (1 : Int32)), .val (.int (0 : Int32)), .val (.ref b_60), .val (.ref b_63), .val (.ref b_60), .val (.ref b_63), .val (.ref b_66), .val (.int (1 : Int32))] [(.ref b_66)])) rfl (by rw [hml]; rfl) (Steps.refl _) (argsL := []) (rest := []) (lenOf pd_8 rfl) rfl (by show 2 * 0 + _ ≤ _; exact Nat.le_of_eq rfl) (hb hby at_148) (fun _ _ => ⟨rfl, rfl, (by decide : 7 + 0 ≤ _), (by decide : 20 + 0 ≤ _)⟩)
        dsimp only [Pt.U, Pt.locs, Pt.cells, Pt.slots] at X_68 l_68 y_68 z_68 st_68 hQ_68
        subst l_68 y_68 z_68
        obtain ⟨rfl, N_68q, e_68⟩ := hQ_68
        have N_68 := Fr.app N_67 N_68q
        obtain ⟨fs, hr, hrun, hended, hW, hsame⟩ := X_68.leave (v := some (.int (1 : Int32))) (fun h => by rw [Bd.returns] at h; cases h)
        refine ⟨_, _, pr_58 _ ?_, hrun, hended, _, _, rfl, ?_, ⟨_, rfl⟩, hW, hsame.mono (by decide) (by decide)⟩
        · show Steps p.tables e below (s₁.setTop (mkF m 27 #[.val (.int p1), .val (.int p2), .val (.int (1 : Int32)), .val (.int (1 : Int32)), .unset, .unset, .unset, .unset, .unset, .unset, .unset] [(.int (p1 &&& (4 : Int32)))])) _
          refine XS.ifYes X0.here hx rfl (pc0 := 27) (pc' := 34) rfl (hb hby at_27) rfl ((if0 _ _).trans (teq hc_59).1) (by decide) (by decide) ?_
          show Steps p.tables e below (s₁.setTop (mkF m 34 #[.val (.int p1), .val (.int p2), .val (.int (1 : Int32)), .val (.int (1 : Int32)), .unset, .unset, .unset, .unset, .unset, .unset, .unset] [])) _
          refine XS.iconst X0.here hx rfl (hb hby at_34) ?_
          show Steps p.tables e below (s₁.setTop (mkF m 35 #[.val (.int p1), .val (.int p2), .val (.int (1 : Int32)), .val (.int (1 : Int32)), .unset, .unset, .unset, .unset, .unset, .unset, .unset] [(.int (0 : Int32))])) _
          refine XS.istore X0.here hx rfl (hb hby at_35) rfl (l' := #[.val (.int p1), .val (.int p2), .val (.int (1 : Int32)), .val (.int (1 : Int32)), .val (.int (0 : Int32)), .unset, .unset, .unset, .unset, .unset, .unset]) rfl ?_
          show Steps p.tables e below (s₁.setTop (mkF m 37 #[.val (.int p1), .val (.int p2), .val (.int (1 : Int32)), .val (.int (1 : Int32)), .val (.int (0 : Int32)), .unset, .unset, .unset, .unset, .unset, .unset] [])) _
          refine st_60 _ ?_
          show Steps p.tables e below (T_60.setTop (mkF m 40 #[.val (.int p1), .val (.int p2), .val (.int (1 : Int32)), .val (.int (1 : Int32)), .val (.int (0 : Int32)), .unset, .unset, .unset, .unset, .unset, .unset] [(.ref b_60)])) _
          refine XS.dup X_60.here hx rfl (hb hby at_40) rfl rfl ?_
          show Steps p.tables e below (T_60.setTop (mkF m 41 #[.val (.int p1), .val (.int p2), .val (.int (1 : Int32)), .val (.int (1 : Int32)), .val (.int (0 : Int32)), .unset, .unset, .unset, .unset, .unset, .unset] [(.ref b_60), (.ref b_60)])) _
          refine XS.iloadN X_60.here hx rfl (hb hby at_41) rfl ?_
          show Steps p.tables e below (T_60.setTop (mkF m 42 #[.val (.int p1), .val (.int p2), .val (.int (1 : Int32)), .val (.int (1 : Int32)), .val (.int (0 : Int32)), .unset, .unset, .unset, .unset, .unset, .unset] [(.int p2), (.ref b_60), (.ref b_60)])) _
          refine XS.sipush X_60.here hx rfl (hb hby at_42) ?_
          show Steps p.tables e below (T_60.setTop (mkF m 45 #[.val (.int p1), .val (.int p2), .val (.int (1 : Int32)), .val (.int (1 : Int32)), .val (.int (0 : Int32)), .unset, .unset, .unset, .unset, .unset, .unset] [(.int (255 : Int32)), (.int p2), (.ref b_60), (.ref b_60)])) _
          refine XS.iand X_60.here hx rfl (hb hby at_45) rfl ?_
          show Steps p.tables e below (T_60.setTop (mkF m 46 #[.val (.int p1), .val (.int p2), .val (.int (1 : Int32)), .val (.int (1 : Int32)), .val (.int (0 : Int32)), .unset, .unset, .unset, .unset, .unset, .unset] [(.int (p2 &&& (255 : Int32))), (.ref b_60), (.ref b_60)])) _
          refine XS.i2c X_60.here hx rfl (hb hby at_46) rfl ?_
          show Steps p.tables e below (T_60.setTop (mkF m 47 #[.val (.int p1), .val (.int p2), .val (.int (1 : Int32)), .val (.int (1 : Int32)), .val (.int (0 : Int32)), .unset, .unset, .unset, .unset, .unset, .unset] [(.int ((p2 &&& (255 : Int32)).toUInt32.toUInt16.toUInt32.toInt32)), (.ref b_60), (.ref b_60)])) _
          refine st_61 _ ?_
          show Steps p.tables e below (T_61.setTop (mkF m 50 #[.val (.int p1), .val (.int p2), .val (.int (1 : Int32)), .val (.int (1 : Int32)), .val (.int (0 : Int32)), .unset, .unset, .unset, .unset, .unset, .unset] [(.ref r_61), (.ref b_60), (.ref b_60)])) _
          refine st_62.trans ?_
          show Steps p.tables e below (T_62.setTop (mkF m 53 #[.val (.int p1), .val (.int p2), .val (.int (1 : Int32)), .val (.int (1 : Int32)), .val (.int (0 : Int32)), .unset, .unset, .unset, .unset, .unset, .unset] [(.ref b_60)])) _
          refine XS.astore X_62.here hx rfl (hb hby at_53) rfl rfl (l' := #[.val (.int p1), .val (.int p2), .val (.int (1 : Int32)), .val (.int (1 : Int32)), .val (.int (0 : Int32)), .val (.ref b_60), .unset, .unset, .unset, .unset, .unset]) rfl ?_
          show Steps p.tables e below (T_62.setTop (mkF m 55 #[.val (.int p1), .val (.int p2), .val (.int (1 : Int32)), .val (.int (1 : Int32)), .val (.int (0 : Int32)), .val (.ref b_60), .unset, .unset, .unset, .unset, .unset] [])) _
          refine XS.iload X_62.here hx rfl (hb hby at_55) rfl ?_
          show Steps p.tables e below (T_62.setTop (mkF m 57 #[.val (.int p1), .val (.int p2), .val (.int (1 : Int32)), .val (.int (1 : Int32)), .val (.int (0 : Int32)), .val (.ref b_60), .unset, .unset, .unset, .unset, .unset] [(.int (0 : Int32))])) _
          refine XS.ifYes X_62.here hx rfl (pc0 := 57) (pc' := 65) rfl (hb hby at_57) rfl ((if0 _ _).trans (teq (by decide : (0 : Int32) = (0 : Int32))).1) (by decide) (by decide) ?_
          show Steps p.tables e below (T_62.setTop (mkF m 65 #[.val (.int p1), .val (.int p2), .val (.int (1 : Int32)), .val (.int (1 : Int32)), .val (.int (0 : Int32)), .val (.ref b_60), .unset, .unset, .unset, .unset, .unset] [])) _
          refine st_63 _ ?_
          show Steps p.tables e below (T_63.setTop (mkF m 68 #[.val (.int p1), .val (.int p2), .val (.int (1 : Int32)), .val (.int (1 : Int32)), .val (.int (0 : Int32)), .val (.ref b_60), .unset, .unset, .unset, .unset, .unset] [(.ref b_63)])) _
          refine XS.dup X_63.here hx rfl (hb hby at_68) rfl rfl ?_
          show Steps p.tables e below (T_63.setTop (mkF m 69 #[.val (.int p1), .val (.int p2), .val (.int (1 : Int32)), .val (.int (1 : Int32)), .val (.int (0 : Int32)), .val (.ref b_60), .unset, .unset, .unset, .unset, .unset] [(.ref b_63), (.ref b_63)])) _
          refine XS.iloadN X_63.here hx rfl (hb hby at_69) rfl ?_
          show Steps p.tables e below (T_63.setTop (mkF m 70 #[.val (.int p1), .val (.int p2), .val (.int (1 : Int32)), .val (.int (1 : Int32)), .val (.int (0 : Int32)), .val (.ref b_60), .unset, .unset, .unset, .unset, .unset] [(.int p2), (.ref b_63), (.ref b_63)])) _
          refine XS.bipush X_63.here hx rfl (hb hby at_70) ?_
          show Steps p.tables e below (T_63.setTop (mkF m 72 #[.val (.int p1), .val (.int p2), .val (.int (1 : Int32)), .val (.int (1 : Int32)), .val (.int (0 : Int32)), .val (.ref b_60), .unset, .unset, .unset, .unset, .unset] [(.int (8 : Int32)), (.int p2), (.ref b_63), (.ref b_63)])) _
          refine XS.iushr X_63.here hx rfl (hb hby at_72) rfl ?_
          show Steps p.tables e below (T_63.setTop (mkF m 73 #[.val (.int p1), .val (.int p2), .val (.int (1 : Int32)), .val (.int (1 : Int32)), .val (.int (0 : Int32)), .val (.ref b_60), .unset, .unset, .unset, .unset, .unset] [(.int ((p2.toUInt32 >>> ((8 : Int32) &&& 31).toUInt32).toInt32)), (.ref b_63), (.ref b_63)])) _
          refine XS.sipush X_63.here hx rfl (hb hby at_73) ?_
          show Steps p.tables e below (T_63.setTop (mkF m 76 #[.val (.int p1), .val (.int p2), .val (.int (1 : Int32)), .val (.int (1 : Int32)), .val (.int (0 : Int32)), .val (.ref b_60), .unset, .unset, .unset, .unset, .unset] [(.int (255 : Int32)), (.int ((p2.toUInt32 >>> ((8 : Int32) &&& 31).toUInt32).toInt32)), (.ref b_63), (.ref b_63)])) _
          refine XS.iand X_63.here hx rfl (hb hby at_76) rfl ?_
          show Steps p.tables e below (T_63.setTop (mkF m 77 #[.val (.int p1), .val (.int p2), .val (.int (1 : Int32)), .val (.int (1 : Int32)), .val (.int (0 : Int32)), .val (.ref b_60), .unset, .unset, .unset, .unset, .unset] [(.int (((p2.toUInt32 >>> ((8 : Int32) &&& 31).toUInt32).toInt32) &&& (255 : Int32))), (.ref b_63), (.ref b_63)])) _
          refine XS.i2c X_63.here hx rfl (hb hby at_77) rfl ?_
          show Steps p.tables e below (T_63.setTop (mkF m 78 #[.val (.int p1), .val (.int p2), .val (.int (1 : Int32)), .val (.int (1 : Int32)), .val (.int (0 : Int32)), .val (.ref b_60), .unset, .unset, .unset, .unset, .unset] [(.int ((((p2.toUInt32 >>> ((8 : Int32) &&& 31).toUInt32).toInt32) &&& (255 : Int32)).toUInt32.toUInt16.toUInt32.toInt32)), (.ref b_63), (.ref b_63)])) _
          refine st_64 _ ?_
          show Steps p.tables e below (T_64.setTop (mkF m 81 #[.val (.int p1), .val (.int p2), .val (.int (1 : Int32)), .val (.int (1 : Int32)), .val (.int (0 : Int32)), .val (.ref b_60), .unset, .unset, .unset, .unset, .unset] [(.ref r_64), (.ref b_63), (.ref b_63)])) _
          refine st_65.trans ?_
          show Steps p.tables e below (T_65.setTop (mkF m 84 #[.val (.int p1), .val (.int p2), .val (.int (1 : Int32)), .val (.int (1 : Int32)), .val (.int (0 : Int32)), .val (.ref b_60), .unset, .unset, .unset, .unset, .unset] [(.ref b_63)])) _
          refine XS.astore X_65.here hx rfl (hb hby at_84) rfl rfl (l' := #[.val (.int p1), .val (.int p2), .val (.int (1 : Int32)), .val (.int (1 : Int32)), .val (.int (0 : Int32)), .val (.ref b_60), .val (.ref b_63), .unset, .unset, .unset, .unset]) rfl ?_
          show Steps p.tables e below (T_65.setTop (mkF m 86 #[.val (.int p1), .val (.int p2), .val (.int (1 : Int32)), .val (.int (1 : Int32)), .val (.int (0 : Int32)), .val (.ref b_60), .val (.ref b_63), .unset, .unset, .unset, .unset] [])) _
          refine XS.iloadN X_65.here hx rfl (hb hby at_86) rfl ?_
          show Steps p.tables e below (T_65.setTop (mkF m 87 #[.val (.int p1), .val (.int p2), .val (.int (1 : Int32)), .val (.int (1 : Int32)), .val (.int (0 : Int32)), .val (.ref b_60), .val (.ref b_63), .unset, .unset, .unset, .unset] [(.int (1 : Int32))])) _
          refine XS.ifNo X_65.here hx rfl (hb hby at_87) rfl ((if0 _ _).trans (feq (by decide : ¬ ((1 : Int32) = (0 : Int32)))).1) ?_
          show Steps p.tables e below (T_65.setTop (mkF m 90 #[.val (.int p1), .val (.int p2), .val (.int (1 : Int32)), .val (.int (1 : Int32)), .val (.int (0 : Int32)), .val (.ref b_60), .val (.ref b_63), .unset, .unset, .unset, .unset] [])) _
          refine XS.aload X_65.here hx rfl (hb hby at_90) rfl rfl ?_
          show Steps p.tables e below (T_65.setTop (mkF m 92 #[.val (.int p1), .val (.int p2), .val (.int (1 : Int32)), .val (.int (1 : Int32)), .val (.int (0 : Int32)), .val (.ref b_60), .val (.ref b_63), .unset, .unset, .unset, .unset] [(.ref b_60)])) _
          refine XS.goto X_65.here hx rfl (pc0 := 92) (pc' := 96) rfl (hb hby at_92) (by decide) (by decide) ?_
          show Steps p.tables e below (T_65.setTop (mkF m 96 #[.val (.int p1), .val (.int p2), .val (.int (1 : Int32)), .val (.int (1 : Int32)), .val (.int (0 : Int32)), .val (.ref b_60), .val (.ref b_63), .unset, .unset, .unset, .unset] [(.ref b_60)])) _
          refine XS.astore X_65.here hx rfl (hb hby at_96) rfl rfl (l' := #[.val (.int p1), .val (.int p2), .val (.int (1 : Int32)), .val (.int (1 : Int32)), .val (.int (0 : Int32)), .val (.ref b_60), .val (.ref b_63), .val (.ref b_60), .unset, .unset, .unset]) rfl ?_
          show Steps p.tables e below (T_65.setTop (mkF m 98 #[.val (.int p1), .val (.int p2), .val (.int (1 : Int32)), .val (.int (1 : Int32)), .val (.int (0 : Int32)), .val (.ref b_60), .val (.ref b_63), .val (.ref b_60), .unset, .unset, .unset] [])) _
          refine XS.iloadN X_65.here hx rfl (hb hby at_98) rfl ?_
          show Steps p.tables e below (T_65.setTop (mkF m 99 #[.val (.int p1), .val (.int p2), .val (.int (1 : Int32)), .val (.int (1 : Int32)), .val (.int (0 : Int32)), .val (.ref b_60), .val (.ref b_63), .val (.ref b_60), .unset, .unset, .unset] [(.int (1 : Int32))])) _
          refine XS.ifNo X_65.here hx rfl (hb hby at_99) rfl ((if0 _ _).trans (feq (by decide : ¬ ((1 : Int32) = (0 : Int32)))).1) ?_
          show Steps p.tables e below (T_65.setTop (mkF m 102 #[.val (.int p1), .val (.int p2), .val (.int (1 : Int32)), .val (.int (1 : Int32)), .val (.int (0 : Int32)), .val (.ref b_60), .val (.ref b_63), .val (.ref b_60), .unset, .unset, .unset] [])) _
          refine XS.aload X_65.here hx rfl (hb hby at_102) rfl rfl ?_
          show Steps p.tables e below (T_65.setTop (mkF m 104 #[.val (.int p1), .val (.int p2), .val (.int (1 : Int32)), .val (.int (1 : Int32)), .val (.int (0 : Int32)), .val (.ref b_60), .val (.ref b_63), .val (.ref b_60), .unset, .unset, .unset] [(.ref b_63)])) _
          refine XS.goto X_65.here hx rfl (pc0 := 104) (pc' := 108) rfl (hb hby at_104) (by decide) (by decide) ?_
          show Steps p.tables e below (T_65.setTop (mkF m 108 #[.val (.int p1), .val (.int p2), .val (.int (1 : Int32)), .val (.int (1 : Int32)), .val (.int (0 : Int32)), .val (.ref b_60), .val (.ref b_63), .val (.ref b_60), .unset, .unset, .unset] [(.ref b_63)])) _
          refine XS.astore X_65.here hx rfl (hb hby at_108) rfl rfl (l' := #[.val (.int p1), .val (.int p2), .val (.int (1 : Int32)), .val (.int (1 : Int32)), .val (.int (0 : Int32)), .val (.ref b_60), .val (.ref b_63), .val (.ref b_60), .val (.ref b_63), .unset, .unset]) rfl ?_
          show Steps p.tables e below (T_65.setTop (mkF m 110 #[.val (.int p1), .val (.int p2), .val (.int (1 : Int32)), .val (.int (1 : Int32)), .val (.int (0 : Int32)), .val (.ref b_60), .val (.ref b_63), .val (.ref b_60), .val (.ref b_63), .unset, .unset] [])) _
          refine st_66 _ ?_
          show Steps p.tables e below (T_66.setTop (mkF m 113 #[.val (.int p1), .val (.int p2), .val (.int (1 : Int32)), .val (.int (1 : Int32)), .val (.int (0 : Int32)), .val (.ref b_60), .val (.ref b_63), .val (.ref b_60), .val (.ref b_63), .unset, .unset] [(.ref b_66)])) _
          refine XS.dup X_66.here hx rfl (hb hby at_113) rfl rfl ?_
          show Steps p.tables e below (T_66.setTop (mkF m 114 #[.val (.int p1), .val (.int p2), .val (.int (1 : Int32)), .val (.int (1 : Int32)), .val (.int (0 : Int32)), .val (.ref b_60), .val (.ref b_63), .val (.ref b_60), .val (.ref b_63), .unset, .unset] [(.ref b_66), (.ref b_66)])) _
          refine XS.aload X_66.here hx rfl (hb hby at_114) rfl rfl ?_
          show Steps p.tables e below (T_66.setTop (mkF m 116 #[.val (.int p1), .val (.int p2), .val (.int (1 : Int32)), .val (.int (1 : Int32)), .val (.int (0 : Int32)), .val (.ref b_60), .val (.ref b_63), .val (.ref b_60), .val (.ref b_63), .unset, .unset] [(.ref b_60), (.ref b_66), (.ref b_66)])) _
          refine XS.aload X_66.here hx rfl (hb hby at_116) rfl rfl ?_
          show Steps p.tables e below (T_66.setTop (mkF m 118 #[.val (.int p1), .val (.int p2), .val (.int (1 : Int32)), .val (.int (1 : Int32)), .val (.int (0 : Int32)), .val (.ref b_60), .val (.ref b_63), .val (.ref b_60), .val (.ref b_63), .unset, .unset] [(.ref b_63), (.ref b_60), (.ref b_66), (.ref b_66)])) _
          refine st_67.trans ?_
          show Steps p.tables e below (T_67.setTop (mkF m 121 #[.val (.int p1), .val (.int p2), .val (.int (1 : Int32)), .val (.int (1 : Int32)), .val (.int (0 : Int32)), .val (.ref b_60), .val (.ref b_63), .val (.ref b_60), .val (.ref b_63), .unset, .unset] [(.ref b_66)])) _
          refine XS.astore X_67.here hx rfl (hb hby at_121) rfl rfl (l' := #[.val (.int p1), .val (.int p2), .val (.int (1 : Int32)), .val (.int (1 : Int32)), .val (.int (0 : Int32)), .val (.ref b_60), .val (.ref b_63), .val (.ref b_60), .val (.ref b_63), .val (.ref b_66), .unset]) rfl ?_
          show Steps p.tables e below (T_67.setTop (mkF m 123 #[.val (.int p1), .val (.int p2), .val (.int (1 : Int32)), .val (.int (1 : Int32)), .val (.int (0 : Int32)), .val (.ref b_60), .val (.ref b_63), .val (.ref b_60), .val (.ref b_63), .val (.ref b_66), .unset] [])) _
          refine XS.iloadN X_67.here hx rfl (hb hby at_123) rfl ?_
          show Steps p.tables e below (T_67.setTop (mkF m 124 #[.val (.int p1), .val (.int p2), .val (.int (1 : Int32)), .val (.int (1 : Int32)), .val (.int (0 : Int32)), .val (.ref b_60), .val (.ref b_63), .val (.ref b_60), .val (.ref b_63), .val (.ref b_66), .unset] [(.int (1 : Int32))])) _
          refine XS.ifNo X_67.here hx rfl (hb hby at_124) rfl ((if0 _ _).trans (feq (by decide : ¬ ((1 : Int32) = (0 : Int32)))).1) ?_
          show Steps p.tables e below (T_67.setTop (mkF m 127 #[.val (.int p1), .val (.int p2), .val (.int (1 : Int32)), .val (.int (1 : Int32)), .val (.int (0 : Int32)), .val (.ref b_60), .val (.ref b_63), .val (.ref b_60), .val (.ref b_63), .val (.ref b_66), .unset] [])) _
          refine XS.iconst X_67.here hx rfl (hb hby at_127) ?_
          show Steps p.tables e below (T_67.setTop (mkF m 128 #[.val (.int p1), .val (.int p2), .val (.int (1 : Int32)), .val (.int (1 : Int32)), .val (.int (0 : Int32)), .val (.ref b_60), .val (.ref b_63), .val (.ref b_60), .val (.ref b_63), .val (.ref b_66), .unset] [(.int (1 : Int32))])) _
          refine XS.istore X_67.here hx rfl (hb hby at_128) rfl (l' := #[.val (.int p1), .val (.int p2), .val (.int (1 : Int32)), .val (.int (1 : Int32)), .val (.int (0 : Int32)), .val (.ref b_60), .val (.ref b_63), .val (.ref b_60), .val (.ref b_63), .val (.ref b_66), .val (.int (1 : Int32))]) rfl ?_
          show Steps p.tables e below (T_67.setTop (mkF m 130 #[.val (.int p1), .val (.int p2), .val (.int (1 : Int32)), .val (.int (1 : Int32)), .val (.int (0 : Int32)), .val (.ref b_60), .val (.ref b_63), .val (.ref b_60), .val (.ref b_63), .val (.ref b_66), .val (.int (1 : Int32))] [])) _
          refine XS.goto X_67.here hx rfl (pc0 := 130) (pc' := 146) rfl (hb hby at_130) (by decide) (by decide) ?_
          show Steps p.tables e below (T_67.setTop (mkF m 146 #[.val (.int p1), .val (.int p2), .val (.int (1 : Int32)), .val (.int (1 : Int32)), .val (.int (0 : Int32)), .val (.ref b_60), .val (.ref b_63), .val (.ref b_60), .val (.ref b_63), .val (.ref b_66), .val (.int (1 : Int32))] [])) _
          refine XS.aload X_67.here hx rfl (hb hby at_146) rfl rfl ?_
          show Steps p.tables e below (T_67.setTop (mkF m 148 #[.val (.int p1), .val (.int p2), .val (.int (1 : Int32)), .val (.int (1 : Int32)), .val (.int (0 : Int32)), .val (.ref b_60), .val (.ref b_63), .val (.ref b_60), .val (.ref b_63), .val (.ref b_66), .val (.int (1 : Int32))] [(.ref b_66)])) _
          refine st_68.trans ?_
          show Steps p.tables e below (T_68.setTop (mkF m 151 #[.val (.int p1), .val (.int p2), .val (.int (1 : Int32)), .val (.int (1 : Int32)), .val (.int (0 : Int32)), .val (.ref b_60), .val (.ref b_63), .val (.ref b_60), .val (.ref b_63), .val (.ref b_66), .val (.int (1 : Int32))] [(.int (1 : Int32))])) _
          refine XS.iload X_68.here hx rfl (hb hby at_151) rfl ?_
          show Steps p.tables e below (T_68.setTop (mkF m 153 #[.val (.int p1), .val (.int p2), .val (.int (1 : Int32)), .val (.int (1 : Int32)), .val (.int (0 : Int32)), .val (.ref b_60), .val (.ref b_63), .val (.ref b_60), .val (.ref b_63), .val (.ref b_66), .val (.int (1 : Int32))] [(.int (1 : Int32)), (.int (1 : Int32))])) _
          refine XS.icmpNo X_68.here hx rfl (hb hby at_153) rfl (teq (by decide : (1 : Int32) = (1 : Int32))).2 ?_
          show Steps p.tables e below (T_68.setTop (mkF m 156 #[.val (.int p1), .val (.int p2), .val (.int (1 : Int32)), .val (.int (1 : Int32)), .val (.int (0 : Int32)), .val (.ref b_60), .val (.ref b_63), .val (.ref b_60), .val (.ref b_63), .val (.ref b_66), .val (.int (1 : Int32))] [])) _
          refine XS.iconst X_68.here hx rfl (hb hby at_156) ?_
          show Steps p.tables e below (T_68.setTop (mkF m 157 #[.val (.int p1), .val (.int p2), .val (.int (1 : Int32)), .val (.int (1 : Int32)), .val (.int (0 : Int32)), .val (.ref b_60), .val (.ref b_63), .val (.ref b_60), .val (.ref b_63), .val (.ref b_66), .val (.int (1 : Int32))] [(.int (1 : Int32))])) _
          refine XS.goto X_68.here hx rfl (pc0 := 157) (pc' := 161) rfl (hb hby at_157) (by decide) (by decide) ?_
          show Steps p.tables e below (T_68.setTop (mkF m 161 #[.val (.int p1), .val (.int p2), .val (.int (1 : Int32)), .val (.int (1 : Int32)), .val (.int (0 : Int32)), .val (.ref b_60), .val (.ref b_63), .val (.ref b_60), .val (.ref b_63), .val (.ref b_66), .val (.int (1 : Int32))] [(.int (1 : Int32))])) _
          exact retN X_68 hx (t := .boolean) Bd.returns (by simp) (hb hby at_161) hr
        · exact ⟨rfl, N_68⟩
      · obtain ⟨T_69, h_69, X_69, e_69, E_69, A_69, D_69, -, st_69⟩ := newO X0 hx hZ hown (hw _ (List.mem_of_getElem? (i := 0) rfl)) (hw _ (List.mem_of_getElem? (i := 1) rfl)) (hw _ (List.mem_of_getElem? (i := 2) rfl)) e0 (g := (mkF m 37 #[.val (.int p1), .val (.int p2), .val (.int (1 : Int32)), .val (.int (1 : Int32)), .val (.int (1 : Int32)), .unset, .unset, .unset, .unset, .unset, .unset] [])) rfl (hb hby at_37) (by decide) (by decide)
        obtain ⟨b_69, g_69⟩ : ∃ z, z = h0.size := ⟨_, rfl⟩
        rw [← g_69] at A_69 D_69 st_69
        have g_b_69 : n0 ≤ b_69 := Nat.le_trans Z0 (Nat.le_of_eq g_69.symm)
        have sz_b_69 : h0.size ≤ b_69 := Nat.le_trans ((Keep.refl h0 [])).1 (Nat.le_of_eq g_69.symm)
        have f_69_0 : Sta Z h_69 "java/lang/String" "COMPACT_STRINGS" "Z" (.int w9) := F0.ext E_69
        have Z_69 : n0 ≤ h_69.size := Nat.le_trans Z0 E_69.1
        have K_69 : Keep h0 h_69 [] := (Keep.refl h0 []).ext E_69
        have fd_69_39 : Fld Z h_69 b_69 "com/example/pathlatch/pathlatch/Text" "value" "Ljava/lang/String;" .null := D_69 (Or.inl (hw _ (List.mem_of_getElem? (i := 39) rfl))) (ty := (.object "java/lang/String")) (by decide)
        obtain ⟨_, _, ⟨T_70, L_70, k_70, n_70⟩, -, X_70, ⟨Lc_70, hQ_70, l_70, y_70, z_70⟩, st_70⟩ := Jvm.LawKit.callS X_69 hx (y := (⟨"java/lang/String", "valueOf", "(C)Ljava/lang/String;"⟩ : MethodName)) hown (mvT hZ (hw _ (List.mem_of_getElem? (i := 3) rfl))) (mvT hZ (hw _ (List.mem_of_getElem? (i := 4) rfl))) (mvT hZ (hw _ (List.mem_of_getElem? (i := 5) rfl))) (mvT hZ (hw _ (List.mem_of_getElem? (i := 6) rfl))) (by decide) (backOf (W := 2) (rm1 l Z a0 hw [] ((p2 &&& (255 : Int32)).toUInt32.toUInt16.toUInt32.toInt32) w9 h_69 n0 Z_69 f_69_0 hw9 (own_ch1 p2)) hZ (hw _ (List.mem_of_getElem? (i := 6) rfl)) (hw _ (List.mem_of_getElem? (i := 5) rfl)) (by decide) (by decide)) (g := (mkF m 47 #[.val (.int p1), .val (.int p2), .val (.int (1 : Int32)), .val (.int (1 : Int32)), .val (.int (1 : Int32)), .unset, .unset, .unset, .unset, .unset, .unset] [(.int ((p2 &&& (255 : Int32)).toUInt32.toUInt16.toUInt32.toInt32)), (.ref b_69), (.ref b_69)])) rfl (by rw [hml]; rfl) (argsL := [(.int ((p2 &&& (255 : Int32)).toUInt32.toUInt16.toUInt32.toInt32))]) (rest := [(.ref b_69), (.ref b_69)]) (lenOf pd_5 rfl) rfl (by show 2 * 0 + _ ≤ _; exact Nat.le_of_eq rfl) (hb hby at_47) (fun _ _ => ⟨rfl, e_69, (by decide : 1 + 2 ≤ _), (by decide : 4 + 5 ≤ _)⟩)
        dsimp only [Pt.U, Pt.locs, Pt.cells, Pt.slots] at X_70 l_70 y_70 z_70 st_70 hQ_70
        subst l_70 y_70 z_70
        obtain ⟨r_70, rfl, N_70q, Kc_70⟩ := hQ_70
        have f_70_0 : Sta Z T_70.heap "java/lang/String" "COMPACT_STRINGS" "Z" (.int w9) := own_sta_keep0 f_69_0 Kc_70
        have f_70_1 : Exa Z T_70.heap b_69 "com/example/pathlatch/pathlatch/Text" := A_69.keep Kc_70
        have f_70_2 : Fld Z T_70.heap b_69 "com/example/pathlatch/pathlatch/Text" "value" "Ljava/lang/String;" .null := fd_69_39.keep Kc_70 (List.not_mem_nil)
        have Z_70 : n0 ≤ T_70.heap.size := Nat.le_trans Z_69 Kc_70.1
        have K_70 : Keep h0 T_70.heap [] := K_69.trans Kc_70 (fun x hx => nomatch hx)
        have N_70 := Fr.app N0 N_70q
        obtain ⟨_, _, ⟨T_71, L_71, k_71, n_71⟩, -, X_71, ⟨Lc_71, hQ_71, l_71, y_71, z_71⟩, st_71⟩ := X_70.specialBack hx (y := (⟨"com/example/pathlatch/pathlatch/Text", "<init>", "(Ljava/lang/String;)V"⟩ : MethodName)) rfl hown (mvT hZ (hw _ (List.mem_of_getElem? (i := 29) rfl))) (mvT hZ (hw _ (List.mem_of_getElem? (i := 30) rfl))) (mvT hZ (hw _ (List.mem_of_getElem? (i := 31) rfl))) (by decide) (backOf (W := 1) (rm6 l Z a0 hw [] b_69 r_70 T_70.heap n0 Z_70 g_b_69 f_70_1 f_70_2) hZ (hw _ (List.mem_of_getElem? (i := 31) rfl)) (hw _ (List.mem_of_getElem? (i := 2) rfl)) (by decide) (by decide)) (g := (mkF m 50 #[.val (.int p1), .val (.int p2), .val (.int (1 : Int32)), .val (.int (1 : Int32)), .val (.int (1 : Int32)), .unset, .unset, .unset, .unset, .unset, .unset] [(.ref r_70), (.ref b_69), (.ref b_69)])) rfl (by rw [hml]; rfl) (Steps.refl _) (a := b_69) (argsL := [(.ref r_70)]) (rest := [(.ref b_69)]) (lenOf pd_6 rfl) rfl (by show 2 * 0 + _ ≤ _; exact Nat.le_of_eq rfl) (hb hby at_50) (fun _ _ => ⟨rfl, rfl, (by decide : 3 + 0 ≤ _), (by decide : 9 + 0 ≤ _)⟩)
        dsimp only [Pt.U, Pt.locs, Pt.cells, Pt.slots] at X_71 l_71 y_71 z_71 st_71 hQ_71
        subst l_71 y_71 z_71
        obtain ⟨rfl, N_71q, Kc_71, o_71_0⟩ := hQ_71
        have f_71_0 : Sta Z T_71.heap "java/lang/String" "COMPACT_STRINGS" "Z" (.int w9) := own_sta_keep f_70_0 f_70_1 Kc_71
        have f_71_1 : Exa Z T_71.heap b_69 "com/example/pathlatch/pathlatch/Text" := f_70_1.keep Kc_71
        have Z_71 : n0 ≤ T_71.heap.size := Nat.le_trans Z_70 Kc_71.1
        have K_71 : Keep h0 T_71.heap [] := K_70.trans Kc_71 (fun x hx => by cases List.mem_singleton.mp hx; exact Or.inr sz_b_69)
        have N_71 := Fr.app N_70 N_71q
        obtain ⟨T_72, h_72, X_72, e_72, E_72, A_72, D_72, -, st_72⟩ := newO X_71 hx hZ hown (hw _ (List.mem_of_getElem? (i := 40) rfl)) (hw _ (List.mem_of_getElem? (i := 41) rfl)) (hw _ (List.mem_of_getElem? (i := 42) rfl)) rfl (g := (mkF m 110 #[.val (.int p1), .val (.int p2), .val (.int (1 : Int32)), .val (.int (1 : Int32)), .val (.int (1 : Int32)), .val (.ref b_69), .val (.ref b_69), .val (.ref b_69), .val (.ref b_69), .unset, .unset] [])) rfl (hb hby at_110) (by decide) (by decide)
        obtain ⟨b_72, g_72⟩ : ∃ z, z = T_71.heap.size := ⟨_, rfl⟩
        rw [← g_72] at A_72 D_72 st_72
        have ne_b_69_b_72 : b_69 ≠ b_72 := Nat.ne_of_lt (Nat.lt_of_lt_of_le o_71_0.lt (Nat.le_of_eq g_72.symm))
        have g_b_72 : n0 ≤ b_72 := Nat.le_trans Z_71 (Nat.le_of_eq g_72.symm)
        have sz_b_72 : h0.size ≤ b_72 := Nat.le_trans (K_71).1 (Nat.le_of_eq g_72.symm)
        have f_72_0 : Sta Z h_72 "java/lang/String" "COMPACT_STRINGS" "Z" (.int w9) := f_71_0.ext E_72
        have f_72_1 : Exa Z h_72 b_69 "com/example/pathlatch/pathlatch/Text" := o_71_0.ext E_72
        have Z_72 : n0 ≤ h_72.size := Nat.le_trans Z_71 E_72.1
        have K_72 : Keep h0 h_72 [] := K_71.ext E_72
        have fd_72_53 : Fld Z h_72 b_72 "com/example/pathlatch/pathlatch/ParentNode$TextBeside" "before" "Lcom/example/pathlatch/pathlatch/Text;" .null := D_72 (Or.inr (hw _ (List.mem_of_getElem? (i := 53) rfl))) (ty := (.object "com/example/pathlatch/pathlatch/Text")) (by decide)
        have fd_72_55 : Fld Z h_72 b_72 "com/example/pathlatch/pathlatch/ParentNode$TextBeside" "after" "Lcom/example/pathlatch/pathlatch/Text;" .null := D_72 (Or.inr (hw _ (List.mem_of_getElem? (i := 55) rfl))) (ty := (.object "com/example/pathlatch/pathlatch/Text")) (by decide)
        obtain ⟨_, _, ⟨T_73, L_73, k_73, n_73⟩, -, X_73, ⟨Lc_73, hQ_73, l_73, y_73, z_73⟩, st_73⟩ := X_72.specialBack hx (y := (⟨"com/example/pathlatch/pathlatch/ParentNode$TextBeside", "<init>", "(Lcom/example/pathlatch/pathlatch/Text;Lcom/example/pathlatch/pathlatch/Text;)V"⟩ : MethodName)) rfl hown (mvT hZ (hw _ (List.mem_of_getElem? (i := 43) rfl))) (mvT hZ (hw _ (List.mem_of_getElem? (i := 44) rfl))) (mvT hZ (hw _ (List.mem_of_getElem? (i := 45) rfl))) (by decide) (backOf (W := 1) (rm8_ l Z a0 hw [] b_72 b_69 b_69 h_72 n0 Z_72 g_b_72 A_72 fd_72_53 fd_72_55) hZ (hw _ (List.mem_of_getElem? (i := 45) rfl)) (hw _ (List.mem_of_getElem? (i := 42) rfl)) (by decide) (by decide)) (g := (mkF m 118 #[.val (.int p1), .val (.int p2), .val (.int (1 : Int32)), .val (.int (1 : Int32)), .val (.int (1 : Int32)), .val (.ref b_69), .val (.ref b_69), .val (.ref b_69), .val (.ref b_69), .unset, .unset] [(.ref b_69), (.ref b_69), (.ref b_72), (.ref b_72)])) rfl (by rw [hml]; rfl) (Steps.refl _) (a := b_72) (argsL := [(.ref b_69), (.ref b_69)]) (rest := [(.ref b_72)]) (lenOf pd_7 rfl) rfl (by show 2 * 0 + _ ≤ _; exact Nat.le_of_eq rfl) (hb hby at_118) (fun _ _ => ⟨rfl, e_72, (by decide : 4 + 0 ≤ _), (by decide : 11 + 0 ≤ _)⟩)
        dsimp only [Pt.U, Pt.locs, Pt.cells, Pt.slots] at X_73 l_73 y_73 z_73 st_73 hQ_73
        subst l_73 y_73 z_73
        obtain ⟨rfl, N_73q, Kc_73, o_73_0, o_73_1, o_73_2⟩ := hQ_73
        have f_73_0 : Sta Z T_73.heap "java/lang/String" "COMPACT_STRINGS" "Z" (.int w9) := own_sta_keep f_72_0 A_72 Kc_73
        have f_73_1 : Exa Z T_73.heap b_69 "com/example/pathlatch/pathlatch/Text" := f_72_1.keep Kc_73
        have f_73_2 : Exa Z T_73.heap b_72 "com/example/pathlatch/pathlatch/ParentNode$TextBeside" := A_72.keep Kc_73
        have Z_73 : n0 ≤ T_73.heap.size := Nat.le_trans Z_72 Kc_73.1
        have K_73 : Keep h0 T_73.heap [] := K_72.trans Kc_73 (fun x hx => by cases List.mem_singleton.mp hx; exact Or.inr sz_b_72)
        have N_73 := Fr.app N_71 N_73q
        obtain ⟨cq_74, kq_74, q_74a, q_74b, q_74c⟩ := isOf hZ rfl o_73_0
        obtain ⟨_, _, ⟨T_74, L_74, k_74, n_74⟩, -, X_74, ⟨Lc_74, hQ_74, l_74, y_74, z_74⟩, st_74⟩ := X_73.virtualBack hx (y := (⟨"com/example/pathlatch/pathlatch/ParentNode$TextBeside", "any", "()Z"⟩ : MethodName)) (z := (⟨"com/example/pathlatch/pathlatch/ParentNode$TextBeside", "any", "()Z"⟩ : MethodName)) hown (mvT hZ (hw _ (List.mem_of_getElem? (i := 56) rfl))) (mvT hZ (hw _ (List.mem_of_getElem? (i := 57) rfl))) (notFace_of_selects (args := #[]) (mvT hZ (hw _ (List.mem_of_getElem? (i := 59) rfl)))) (mvT hZ (hw _ (List.mem_of_getElem? (i := 59) rfl))) (mvT hZ (hw _ (List.mem_of_getElem? (i := 58) rfl))) (by decide) (backOf (W := 0) (rm10_1 l Z a0 hw [] b_72 b_69 T_73.heap n0 Z_73 o_73_1) hZ (hw _ (List.mem_of_getElem? (i := 60) rfl)) (hw _ (List.mem_of_getElem? (i := 42) rfl)) (by decide) (by decide)) q_74a q_74c (g := (mkF m 148 #[.val (.int p1), .val (.int p2), .val (.int (1 : Int32)), .val (.int (1 : Int32)), .val (.int (1 : Int32)), .val (.ref b_69), .val (.ref b_69), .val (.ref b_69), .val (.ref b_69), .val (.ref b_72), .val (.int (1 : Int32))] [(.ref b_72)])) rfl (by rw [hml]; rfl) (Steps.refl _) (argsL := []) (rest := []) (lenOf pd_8 rfl) rfl (by show 2 * 0 + _ ≤ _; exact Nat.le_of_eq rfl) (hb hby at_148) (fun _ _ => ⟨rfl, rfl, (by decide : 4 + 0 ≤ _), (by decide : 11 + 0 ≤ _)⟩)
        dsimp only [Pt.U, Pt.locs, Pt.cells, Pt.slots] at X_74 l_74 y_74 z_74 st_74 hQ_74
        subst l_74 y_74 z_74
        obtain ⟨rfl, N_74q, e_74⟩ := hQ_74
        have N_74 := Fr.app N_73 N_74q
        obtain ⟨fs, hr, hrun, hended, hW, hsame⟩ := X_74.leave (v := some (.int (1 : Int32))) (fun h => by rw [Bd.returns] at h; cases h)
        refine ⟨_, _, pr_58 _ ?_, hrun, hended, _, _, rfl, ?_, ⟨_, rfl⟩, hW, hsame.mono (by decide) (by decide)⟩
        · show Steps p.tables e below (s₁.setTop (mkF m 27 #[.val (.int p1), .val (.int p2), .val (.int (1 : Int32)), .val (.int (1 : Int32)), .unset, .unset, .unset, .unset, .unset, .unset, .unset] [(.int (p1 &&& (4 : Int32)))])) _
          refine XS.ifNo X0.here hx rfl (hb hby at_27) rfl ((if0 _ _).trans (feq hc_59).1) ?_
          show Steps p.tables e below (s₁.setTop (mkF m 30 #[.val (.int p1), .val (.int p2), .val (.int (1 : Int32)), .val (.int (1 : Int32)), .unset, .unset, .unset, .unset, .unset, .unset, .unset] [])) _
          refine XS.iconst X0.here hx rfl (hb hby at_30) ?_
          show Steps p.tables e below (s₁.setTop (mkF m 31 #[.val (.int p1), .val (.int p2), .val (.int (1 : Int32)), .val (.int (1 : Int32)), .unset, .unset, .unset, .unset, .unset, .unset, .unset] [(.int (1 : Int32))])) _
          refine XS.goto X0.here hx rfl (pc0 := 31) (pc' := 35) rfl (hb hby at_31) (by decide) (by decide) ?_
          show Steps p.tables e below (s₁.setTop (mkF m 35 #[.val (.int p1), .val (.int p2), .val (.int (1 : Int32)), .val (.int (1 : Int32)), .unset, .unset, .unset, .unset, .unset, .unset, .unset] [(.int (1 : Int32))])) _
          refine XS.istore X0.here hx rfl (hb hby at_35) rfl (l' := #[.val (.int p1), .val (.int p2), .val (.int (1 : Int32)), .val (.int (1 : Int32)), .val (.int (1 : Int32)), .unset, .unset, .unset, .unset, .unset, .unset]) rfl ?_
          show Steps p.tables e below (s₁.setTop (mkF m 37 #[.val (.int p1), .val (.int p2), .val (.int (1 : Int32)), .val (.int (1 : Int32)), .val (.int (1 : Int32)), .unset, .unset, .unset, .unset, .unset, .unset] [])) _
          refine st_69 _ ?_
          show Steps p.tables e below (T_69.setTop (mkF m 40 #[.val (.int p1), .val (.int p2), .val (.int (1 : Int32)), .val (.int (1 : Int32)), .val (.int (1 : Int32)), .unset, .unset, .unset, .unset, .unset, .unset] [(.ref b_69)])) _
          refine XS.dup X_69.here hx rfl (hb hby at_40) rfl rfl ?_
          show Steps p.tables e below (T_69.setTop (mkF m 41 #[.val (.int p1), .val (.int p2), .val (.int (1 : Int32)), .val (.int (1 : Int32)), .val (.int (1 : Int32)), .unset, .unset, .unset, .unset, .unset, .unset] [(.ref b_69), (.ref b_69)])) _
          refine XS.iloadN X_69.here hx rfl (hb hby at_41) rfl ?_
          show Steps p.tables e below (T_69.setTop (mkF m 42 #[.val (.int p1), .val (.int p2), .val (.int (1 : Int32)), .val (.int (1 : Int32)), .val (.int (1 : Int32)), .unset, .unset, .unset, .unset, .unset, .unset] [(.int p2), (.ref b_69), (.ref b_69)])) _
          refine XS.sipush X_69.here hx rfl (hb hby at_42) ?_
          show Steps p.tables e below (T_69.setTop (mkF m 45 #[.val (.int p1), .val (.int p2), .val (.int (1 : Int32)), .val (.int (1 : Int32)), .val (.int (1 : Int32)), .unset, .unset, .unset, .unset, .unset, .unset] [(.int (255 : Int32)), (.int p2), (.ref b_69), (.ref b_69)])) _
          refine XS.iand X_69.here hx rfl (hb hby at_45) rfl ?_
          show Steps p.tables e below (T_69.setTop (mkF m 46 #[.val (.int p1), .val (.int p2), .val (.int (1 : Int32)), .val (.int (1 : Int32)), .val (.int (1 : Int32)), .unset, .unset, .unset, .unset, .unset, .unset] [(.int (p2 &&& (255 : Int32))), (.ref b_69), (.ref b_69)])) _
          refine XS.i2c X_69.here hx rfl (hb hby at_46) rfl ?_
          show Steps p.tables e below (T_69.setTop (mkF m 47 #[.val (.int p1), .val (.int p2), .val (.int (1 : Int32)), .val (.int (1 : Int32)), .val (.int (1 : Int32)), .unset, .unset, .unset, .unset, .unset, .unset] [(.int ((p2 &&& (255 : Int32)).toUInt32.toUInt16.toUInt32.toInt32)), (.ref b_69), (.ref b_69)])) _
          refine st_70 _ ?_
          show Steps p.tables e below (T_70.setTop (mkF m 50 #[.val (.int p1), .val (.int p2), .val (.int (1 : Int32)), .val (.int (1 : Int32)), .val (.int (1 : Int32)), .unset, .unset, .unset, .unset, .unset, .unset] [(.ref r_70), (.ref b_69), (.ref b_69)])) _
          refine st_71.trans ?_
          show Steps p.tables e below (T_71.setTop (mkF m 53 #[.val (.int p1), .val (.int p2), .val (.int (1 : Int32)), .val (.int (1 : Int32)), .val (.int (1 : Int32)), .unset, .unset, .unset, .unset, .unset, .unset] [(.ref b_69)])) _
          refine XS.astore X_71.here hx rfl (hb hby at_53) rfl rfl (l' := #[.val (.int p1), .val (.int p2), .val (.int (1 : Int32)), .val (.int (1 : Int32)), .val (.int (1 : Int32)), .val (.ref b_69), .unset, .unset, .unset, .unset, .unset]) rfl ?_
          show Steps p.tables e below (T_71.setTop (mkF m 55 #[.val (.int p1), .val (.int p2), .val (.int (1 : Int32)), .val (.int (1 : Int32)), .val (.int (1 : Int32)), .val (.ref b_69), .unset, .unset, .unset, .unset, .unset] [])) _
          refine XS.iload X_71.here hx rfl (hb hby at_55) rfl ?_
          show Steps p.tables e below (T_71.setTop (mkF m 57 #[.val (.int p1), .val (.int p2), .val (.int (1 : Int32)), .val (.int (1 : Int32)), .val (.int (1 : Int32)), .val (.ref b_69), .unset, .unset, .unset, .unset, .unset] [(.int (1 : Int32))])) _
          refine XS.ifNo X_71.here hx rfl (hb hby at_57) rfl ((if0 _ _).trans (feq (by decide : ¬ ((1 : Int32) = (0 : Int32)))).1) ?_
          show Steps p.tables e below (T_71.setTop (mkF m 60 #[.val (.int p1), .val (.int p2), .val (.int (1 : Int32)), .val (.int (1 : Int32)), .val (.int (1 : Int32)), .val (.ref b_69), .unset, .unset, .unset, .unset, .unset] [])) _
          refine XS.aload X_71.here hx rfl (hb hby at_60) rfl rfl ?_
          show Steps p.tables e below (T_71.setTop (mkF m 62 #[.val (.int p1), .val (.int p2), .val (.int (1 : Int32)), .val (.int (1 : Int32)), .val (.int (1 : Int32)), .val (.ref b_69), .unset, .unset, .unset, .unset, .unset] [(.ref b_69)])) _
          refine XS.goto X_71.here hx rfl (pc0 := 62) (pc' := 84) rfl (hb hby at_62) (by decide) (by decide) ?_
          show Steps p.tables e below (T_71.setTop (mkF m 84 #[.val (.int p1), .val (.int p2), .val (.int (1 : Int32)), .val (.int (1 : Int32)), .val (.int (1 : Int32)), .val (.ref b_69), .unset, .unset, .unset, .unset, .unset] [(.ref b_69)])) _
          refine XS.astore X_71.here hx rfl (hb hby at_84) rfl rfl (l' := #[.val (.int p1), .val (.int p2), .val (.int (1 : Int32)), .val (.int (1 : Int32)), .val (.int (1 : Int32)), .val (.ref b_69), .val (.ref b_69), .unset, .unset, .unset, .unset]) rfl ?_
          show Steps p.tables e below (T_71.setTop (mkF m 86 #[.val (.int p1), .val (.int p2), .val (.int (1 : Int32)), .val (.int (1 : Int32)), .val (.int (1 : Int32)), .val (.ref b_69), .val (.ref b_69), .unset, .unset, .unset, .unset] [])) _
          refine XS.iloadN X_71.here hx rfl (hb hby at_86) rfl ?_
          show Steps p.tables e below (T_71.setTop (mkF m 87 #[.val (.int p1), .val (.int p2), .val (.int (1 : Int32)), .val (.int (1 : Int32)), .val (.int (1 : Int32)), .val (.ref b_69), .val (.ref b_69), .unset, .unset, .unset, .unset] [(.int (1 : Int32))])) _
          refine XS.ifNo X_71.here hx rfl (hb hby at_87) rfl ((if0 _ _).trans (feq (by decide : ¬ ((1 : Int32) = (0 : Int32)))).1) ?_
          show Steps p.tables e below (T_71.setTop (mkF m 90 #[.val (.int p1), .val (.int p2), .val (.int (1 : Int32)), .val (.int (1 : Int32)), .val (.int (1 : Int32)), .val (.ref b_69), .val (.ref b_69), .unset, .unset, .unset, .unset] [])) _
          refine XS.aload X_71.here hx rfl (hb hby at_90) rfl rfl ?_
          show Steps p.tables e below (T_71.setTop (mkF m 92 #[.val (.int p1), .val (.int p2), .val (.int (1 : Int32)), .val (.int (1 : Int32)), .val (.int (1 : Int32)), .val (.ref b_69), .val (.ref b_69), .unset, .unset, .unset, .unset] [(.ref b_69)])) _
          refine XS.goto X_71.here hx rfl (pc0 := 92) (pc' := 96) rfl (hb hby at_92) (by decide) (by decide) ?_
          show Steps p.tables e below (T_71.setTop (mkF m 96 #[.val (.int p1), .val (.int p2), .val (.int (1 : Int32)), .val (.int (1 : Int32)), .val (.int (1 : Int32)), .val (.ref b_69), .val (.ref b_69), .unset, .unset, .unset, .unset] [(.ref b_69)])) _
          refine XS.astore X_71.here hx rfl (hb hby at_96) rfl rfl (l' := #[.val (.int p1), .val (.int p2), .val (.int (1 : Int32)), .val (.int (1 : Int32)), .val (.int (1 : Int32)), .val (.ref b_69), .val (.ref b_69), .val (.ref b_69), .unset, .unset, .unset]) rfl ?_
          show Steps p.tables e below (T_71.setTop (mkF m 98 #[.val (.int p1), .val (.int p2), .val (.int (1 : Int32)), .val (.int (1 : Int32)), .val (.int (1 : Int32)), .val (.ref b_69), .val (.ref b_69), .val (.ref b_69), .unset, .unset, .unset] [])) _
          refine XS.iloadN X_71.here hx rfl (hb hby at_98) rfl ?_
          show Steps p.tables e below (T_71.setTop (mkF m 99 #[.val (.int p1), .val (.int p2), .val (.int (1 : Int32)), .val (.int (1 : Int32)), .val (.int (1 : Int32)), .val (.ref b_69), .val (.ref b_69), .val (.ref b_69), .unset, .unset, .unset] [(.int (1 : Int32))])) _
          refine XS.ifNo X_71.here hx rfl (hb hby at_99) rfl ((if0 _ _).trans (feq (by decide : ¬ ((1 : Int32) = (0 : Int32)))).1) ?_
          show Steps p.tables e below (T_71.setTop (mkF m 102 #[.val (.int p1), .val (.int p2), .val (.int (1 : Int32)), .val (.int (1 : Int32)), .val (.int (1 : Int32)), .val (.ref b_69), .val (.ref b_69), .val (.ref b_69), .unset, .unset, .unset] [])) _
          refine XS.aload X_71.here hx rfl (hb hby at_102) rfl rfl ?_
          show Steps p.tables e below (T_71.setTop (mkF m 104 #[.val (.int p1), .val (.int p2), .val (.int (1 : Int32)), .val (.int (1 : Int32)), .val (.int (1 : Int32)), .val (.ref b_69), .val (.ref b_69), .val (.ref b_69), .unset, .unset, .unset] [(.ref b_69)])) _
          refine XS.goto X_71.here hx rfl (pc0 := 104) (pc' := 108) rfl (hb hby at_104) (by decide) (by decide) ?_
          show Steps p.tables e below (T_71.setTop (mkF m 108 #[.val (.int p1), .val (.int p2), .val (.int (1 : Int32)), .val (.int (1 : Int32)), .val (.int (1 : Int32)), .val (.ref b_69), .val (.ref b_69), .val (.ref b_69), .unset, .unset, .unset] [(.ref b_69)])) _
          refine XS.astore X_71.here hx rfl (hb hby at_108) rfl rfl (l' := #[.val (.int p1), .val (.int p2), .val (.int (1 : Int32)), .val (.int (1 : Int32)), .val (.int (1 : Int32)), .val (.ref b_69), .val (.ref b_69), .val (.ref b_69), .val (.ref b_69), .unset, .unset]) rfl ?_
          show Steps p.tables e below (T_71.setTop (mkF m 110 #[.val (.int p1), .val (.int p2), .val (.int (1 : Int32)), .val (.int (1 : Int32)), .val (.int (1 : Int32)), .val (.ref b_69), .val (.ref b_69), .val (.ref b_69), .val (.ref b_69), .unset, .unset] [])) _
          refine st_72 _ ?_
          show Steps p.tables e below (T_72.setTop (mkF m 113 #[.val (.int p1), .val (.int p2), .val (.int (1 : Int32)), .val (.int (1 : Int32)), .val (.int (1 : Int32)), .val (.ref b_69), .val (.ref b_69), .val (.ref b_69), .val (.ref b_69), .unset, .unset] [(.ref b_72)])) _
          refine XS.dup X_72.here hx rfl (hb hby at_113) rfl rfl ?_
          show Steps p.tables e below (T_72.setTop (mkF m 114 #[.val (.int p1), .val (.int p2), .val (.int (1 : Int32)), .val (.int (1 : Int32)), .val (.int (1 : Int32)), .val (.ref b_69), .val (.ref b_69), .val (.ref b_69), .val (.ref b_69), .unset, .unset] [(.ref b_72), (.ref b_72)])) _
          refine XS.aload X_72.here hx rfl (hb hby at_114) rfl rfl ?_
          show Steps p.tables e below (T_72.setTop (mkF m 116 #[.val (.int p1), .val (.int p2), .val (.int (1 : Int32)), .val (.int (1 : Int32)), .val (.int (1 : Int32)), .val (.ref b_69), .val (.ref b_69), .val (.ref b_69), .val (.ref b_69), .unset, .unset] [(.ref b_69), (.ref b_72), (.ref b_72)])) _
          refine XS.aload X_72.here hx rfl (hb hby at_116) rfl rfl ?_
          show Steps p.tables e below (T_72.setTop (mkF m 118 #[.val (.int p1), .val (.int p2), .val (.int (1 : Int32)), .val (.int (1 : Int32)), .val (.int (1 : Int32)), .val (.ref b_69), .val (.ref b_69), .val (.ref b_69), .val (.ref b_69), .unset, .unset] [(.ref b_69), (.ref b_69), (.ref b_72), (.ref b_72)])) _
          refine st_73.trans ?_
          show Steps p.tables e below (T_73.setTop (mkF m 121 #[.val (.int p1), .val (.int p2), .val (.int (1 : Int32)), .val (.int (1 : Int32)), .val (.int (1 : Int32)), .val (.ref b_69), .val (.ref b_69), .val (.ref b_69), .val (.ref b_69), .unset, .unset] [(.ref b_72)])) _
          refine XS.astore X_73.here hx rfl (hb hby at_121) rfl rfl (l' := #[.val (.int p1), .val (.int p2), .val (.int (1 : Int32)), .val (.int (1 : Int32)), .val (.int (1 : Int32)), .val (.ref b_69), .val (.ref b_69), .val (.ref b_69), .val (.ref b_69), .val (.ref b_72), .unset]) rfl ?_
          show Steps p.tables e below (T_73.setTop (mkF m 123 #[.val (.int p1), .val (.int p2), .val (.int (1 : Int32)), .val (.int (1 : Int32)), .val (.int (1 : Int32)), .val (.ref b_69), .val (.ref b_69), .val (.ref b_69), .val (.ref b_69), .val (.ref b_72), .unset] [])) _
          refine XS.iloadN X_73.here hx rfl (hb hby at_123) rfl ?_
          show Steps p.tables e below (T_73.setTop (mkF m 124 #[.val (.int p1), .val (.int p2), .val (.int (1 : Int32)), .val (.int (1 : Int32)), .val (.int (1 : Int32)), .val (.ref b_69), .val (.ref b_69), .val (.ref b_69), .val (.ref b_69), .val (.ref b_72), .unset] [(.int (1 : Int32))])) _
          refine XS.ifNo X_73.here hx rfl (hb hby at_124) rfl ((if0 _ _).trans (feq (by decide : ¬ ((1 : Int32) = (0 : Int32)))).1) ?_
          show Steps p.tables e below (T_73.setTop (mkF m 127 #[.val (.int p1), .val (.int p2), .val (.int (1 : Int32)), .val (.int (1 : Int32)), .val (.int (1 : Int32)), .val (.ref b_69), .val (.ref b_69), .val (.ref b_69), .val (.ref b_69), .val (.ref b_72), .unset] [])) _
          refine XS.iconst X_73.here hx rfl (hb hby at_127) ?_
          show Steps p.tables e below (T_73.setTop (mkF m 128 #[.val (.int p1), .val (.int p2), .val (.int (1 : Int32)), .val (.int (1 : Int32)), .val (.int (1 : Int32)), .val (.ref b_69), .val (.ref b_69), .val (.ref b_69), .val (.ref b_69), .val (.ref b_72), .unset] [(.int (1 : Int32))])) _
          refine XS.istore X_73.here hx rfl (hb hby at_128) rfl (l' := #[.val (.int p1), .val (.int p2), .val (.int (1 : Int32)), .val (.int (1 : Int32)), .val (.int (1 : Int32)), .val (.ref b_69), .val (.ref b_69), .val (.ref b_69), .val (.ref b_69), .val (.ref b_72), .val (.int (1 : Int32))]) rfl ?_
          show Steps p.tables e below (T_73.setTop (mkF m 130 #[.val (.int p1), .val (.int p2), .val (.int (1 : Int32)), .val (.int (1 : Int32)), .val (.int (1 : Int32)), .val (.ref b_69), .val (.ref b_69), .val (.ref b_69), .val (.ref b_69), .val (.ref b_72), .val (.int (1 : Int32))] [])) _
          refine XS.goto X_73.here hx rfl (pc0 := 130) (pc' := 146) rfl (hb hby at_130) (by decide) (by decide) ?_
          show Steps p.tables e below (T_73.setTop (mkF m 146 #[.val (.int p1), .val (.int p2), .val (.int (1 : Int32)), .val (.int (1 : Int32)), .val (.int (1 : Int32)), .val (.ref b_69), .val (.ref b_69), .val (.ref b_69), .val (.ref b_69), .val (.ref b_72), .val (.int (1 : Int32))] [])) _
          refine XS.aload X_73.here hx rfl (hb hby at_146) rfl rfl ?_
          show Steps p.tables e below (T_73.setTop (mkF m 148 #[.val (.int p1), .val (.int p2), .val (.int (1 : Int32)), .val (.int (1 : Int32)), .val (.int (1 : Int32)), .val (.ref b_69), .val (.ref b_69), .val (.ref b_69), .val (.ref b_69), .val (.ref b_72), .val (.int (1 : Int32))] [(.ref b_72)])) _
          refine st_74.trans ?_
          show Steps p.tables e below (T_74.setTop (mkF m 151 #[.val (.int p1), .val (.int p2), .val (.int (1 : Int32)), .val (.int (1 : Int32)), .val (.int (1 : Int32)), .val (.ref b_69), .val (.ref b_69), .val (.ref b_69), .val (.ref b_69), .val (.ref b_72), .val (.int (1 : Int32))] [(.int (1 : Int32))])) _
          refine XS.iload X_74.here hx rfl (hb hby at_151) rfl ?_
          show Steps p.tables e below (T_74.setTop (mkF m 153 #[.val (.int p1), .val (.int p2), .val (.int (1 : Int32)), .val (.int (1 : Int32)), .val (.int (1 : Int32)), .val (.ref b_69), .val (.ref b_69), .val (.ref b_69), .val (.ref b_69), .val (.ref b_72), .val (.int (1 : Int32))] [(.int (1 : Int32)), (.int (1 : Int32))])) _
          refine XS.icmpNo X_74.here hx rfl (hb hby at_153) rfl (teq (by decide : (1 : Int32) = (1 : Int32))).2 ?_
          show Steps p.tables e below (T_74.setTop (mkF m 156 #[.val (.int p1), .val (.int p2), .val (.int (1 : Int32)), .val (.int (1 : Int32)), .val (.int (1 : Int32)), .val (.ref b_69), .val (.ref b_69), .val (.ref b_69), .val (.ref b_69), .val (.ref b_72), .val (.int (1 : Int32))] [])) _
          refine XS.iconst X_74.here hx rfl (hb hby at_156) ?_
          show Steps p.tables e below (T_74.setTop (mkF m 157 #[.val (.int p1), .val (.int p2), .val (.int (1 : Int32)), .val (.int (1 : Int32)), .val (.int (1 : Int32)), .val (.ref b_69), .val (.ref b_69), .val (.ref b_69), .val (.ref b_69), .val (.ref b_72), .val (.int (1 : Int32))] [(.int (1 : Int32))])) _
          refine XS.goto X_74.here hx rfl (pc0 := 157) (pc' := 161) rfl (hb hby at_157) (by decide) (by decide) ?_
          show Steps p.tables e below (T_74.setTop (mkF m 161 #[.val (.int p1), .val (.int p2), .val (.int (1 : Int32)), .val (.int (1 : Int32)), .val (.int (1 : Int32)), .val (.ref b_69), .val (.ref b_69), .val (.ref b_69), .val (.ref b_69), .val (.ref b_72), .val (.int (1 : Int32))] [(.int (1 : Int32))])) _
          exact retN X_74 hx (t := .boolean) Bd.returns (by simp) (hb hby at_161) hr
        · exact ⟨rfl, N_74⟩
set_option maxRecDepth 65536 in
set_option maxHeartbeats 40000000 in
theorem comes_1 {Post : Tables → Env → Array Value → State → Outcome → State → Prop} (hpost : ∀ tb e args s v u, (limb_1_1.after args s (.returned v) u = true ∧ limb_1_2.after args s (.returned v) u = true ∧ True) → FrameEnd s (.returned v) u (Jvm.fieldLocs frame_1_writes args s ++ Jvm.arrayLocs frame_1_arrays args s ++ Jvm.staticLocs frame_1_statics s) 24 128 → Post tb e args s (.returned v) u) :
    ArmFor flags0 classFile x code maxLocals ret World_1 tables_1 room_1 Calls_1 rest_1 Pre_1 Post := by
  intro l hfl _ _ p e ha hc hk s m args below hf hA hF happ hP
  obtain ⟨hcalls, hrest, hpre⟩ := hP
  obtain ⟨-, -, -, hnamed, -, -, -, hat⟩ := (Spec.applies_iff hf).mp happ
  obtain ⟨hg, hn⟩ := and_e (Cond.before_iff.mp (show (Jvm.Cond.and given_1 narrow_1).before args s = true from hpre))
  obtain ⟨g0, r0⟩ := and_e hg
  obtain ⟨g1, r1⟩ := and_e r0
  obtain ⟨w0, w1, rfl⟩ : ∃ w0 w1 : Value, args = #[w0, w1] := by
    have hs : args.size = 2 := by simpa [Cond.value, given_1] using g0
    obtain ⟨L⟩ := args
    match L, hs with
    | [w0, w1], _ => exact ⟨w0, w1, rfl⟩
  have hw := fun d (hd : d ∈ tables_1) => atoms_spec (ws := Jvm.Cond.code x code maxLocals ret :: tables_1) hat d (List.mem_cons_of_mem _ hd)
  obtain ⟨i0, ei0⟩ := is_v g1
  obtain rfl : w0 = (.int i0) := Option.some.inj ei0
  obtain ⟨i1, ei1⟩ := is_v r1
  obtain rfl : w1 = (.int i1) := Option.some.inj ei1
  obtain ⟨hsets, hown0⟩ := atoms_of _ (rest_1_c_eq ▸ (show rest_1_c.before _ s = true from hrest))
  have n5 := not_v (Cond.before_iff.mp (hsets _ (List.mem_of_getElem? (i := 2) rfl)))
  obtain ⟨i11, e10⟩ := is_v (Cond.before_iff.mp (hsets _ (List.mem_of_getElem? (i := 1) rfl)))
  have S12 : Sta s s.heap "java/lang/String" "COMPACT_STRINGS" "Z" (.int i11) := Sta.start e10 (Or.inl (hsets _ (List.mem_of_getElem? (i := 0) rfl)))
  have c17 : ¬ (i11 = (0 : Int32)) := gotF (Cond.eq_ints e10 (Term.int_eval (0))) n5
  obtain ⟨n, o, h1, h2, h3, _, L, rfl, ⟨rfl, N⟩, hq⟩ := rm0 l s _ hw tables_1 i0 i1 i11 s.heap s.heap.size (Nat.le_refl _) S12 c17 p e ha hc hk s m _ below hf ((Spec.applies_iff_loose hf).mp happ).1 ⟨rfl, State.Warmed39.refl s, rfl⟩ trivial
  refine ⟨n, _, h1, h2, h3, hpost _ _ _ _ _ _ ⟨Cond.after_iff.mpr rfl, Cond.after_iff.mpr (eq_i res_at (Term.int_eval (1)) rfl), trivial⟩ ⟨hq.1, hq.2.1, (hq.2.2.sift fun y hy => Or.inr (N y hy)).mono (by decide) (by decide)⟩⟩
theorem main_1_1 : Claimed_1_1 := comes_1 fun _ _ _ _ _ _ h hF => ⟨h.1, hF⟩
theorem main_1_2 : Claimed_1_2 := comes_1 fun _ _ _ _ _ _ h hF => ⟨h.2.1, hF⟩
end Jvm.Pilot.@@N@@
namespace Jvm.Pilot.@@N@@
open Jvm Jvm.ClassFile Sem Op Lib Jvm.Free Jvm.Stand Jvm.Pilot.@@N@@.Jvm.D
/-! MADE BY PROGRAM (witnessworld.py) out of the Statement's table words and the real class files: 22 classes; the members and pool entries that the words name. The judged class is class 1, her method 1. -/
namespace start1
open Jvm.ClassFile
def u (s : String) : CpInfo := .utf8 (stringToUtf16 s)
/-- a pool by its gaps: so many unusable entries, then the entry; so many at the end -/
def gap : Nat → List CpInfo → List CpInfo
  | 0, r => r
  | n + 1, r => .unusable :: gap n r
def poolList (es : List (Nat × CpInfo)) (last : Nat) : List CpInfo := es.foldr (fun e r => gap e.1 (e.2 :: r)) (gap last [])
def pool (es : List (Nat × CpInfo)) (last : Nat) : Array CpInfo := ⟨poolList es last⟩
def fileOf (pool : Array CpInfo) (this : Nat) (attrs : Array Attribute := #[]) (ms : Array MethodInfo := #[]) (fl : Nat := 33) (sup : Nat := 0) (ifs : Array Nat := #[]) (fds : Array FieldInfo := #[]) : ClassFile where
  minorVersion := 0
  majorVersion := 65
  constantPool := pool
  accessFlags := fl
  thisClass := this
  superClass := sup
  interfaces := ifs
  fields := fds
  methods := ms
  attributes := attrs
def plain (name : String) (sup : Option ClassId) : Class where
  name := name
  kind := .ordinary
  loader := none
  accessFlags := 33
  super := sup
  interfaces := #[]
  cf := none
  fields := #[]
  methods := #[]
  instanceTypes := #[]
  staticTypes := #[]
  resolved := #[]
  callSites := []
  init := .initialized
  statics := none
  mirror := none

def pool0 : Array CpInfo := pool [(5, u "<init>"), (0, u "()V"), (1, .class_ 10), (1, u "java/lang/Object")] 113

def k0c0 : Code := { maxStack := 0, maxLocals := 1, code := object_method_1_code, exceptionTable := #[], attributes := #[] }
def k0m0 : Method := { name := "<init>", desc := "()V", sig := { parameters := [], returnType := none }, accessFlags := 1, code := some k0c0 }
/-- java/lang/Object -/
def k0 : Class := { plain "java/lang/Object" none with
  accessFlags := 33
  interfaces := #[]
  cf := some (fileOf pool0 8 #[] #[{ accessFlags := 1, nameIndex := 5, descriptorIndex := 6, attributes := #[] }] 33 0 #[] #[])
  fields := #[]
  methods := #[k0m0]
  instanceTypes := #[]
  staticTypes := #[]
  resolved := Array.replicate 124 none
  statics := none }

def pool1 : Array CpInfo := pool [(2, .class_ 4), (1, u "java/lang/Object"), (0, u "<init>"), (0, u "()V"), (0, .class_ 8), (0, u "com/example/pathlatch/pathlatch/Text"), (0, .methodref 10 11), (0, .class_ 12), (0, .nameAndType 13 14), (0, u "java/lang/String"), (0, u "valueOf"), (0, u "(C)Ljava/lang/String;"), (0, .methodref 7 16), (0, .nameAndType 5 17), (0, u "(Ljava/lang/String;)V"), (0, .class_ 19), (0, u "com/example/pathlatch/pathlatch/ParentNode$TextBeside"), (0, .methodref 18 21), (0, .nameAndType 5 22), (0, u "(Lcom/example/pathlatch/pathlatch/Text;Lcom/example/pathlatch/pathlatch/Text;)V"), (0, .methodref 18 24), (0, .nameAndType 25 26), (0, u "any"), (0, u "()Z"), (0, .class_ 28), (0, u "com/example/pathlatch/pathlatch/TextBesideAnyPinLaw"), (2, u "law"), (0, u "(II)Z")] 7

def k1m0 : Method := { name := "<init>", desc := "()V", sig := { parameters := [], returnType := none }, accessFlags := 2, code := none }
def k1c1 : Code := { maxStack := 4, maxLocals := 11, code := code, exceptionTable := #[], attributes := #[] }
def k1m1 : Method := { name := "law", desc := "(II)Z", sig := { parameters := [.int, .int], returnType := some .boolean }, accessFlags := 9, code := some k1c1 }
/-- com/example/pathlatch/pathlatch/TextBesideAnyPinLaw -/
def k1 : Class := { plain "com/example/pathlatch/pathlatch/TextBesideAnyPinLaw" (some 0) with
  accessFlags := 49
  interfaces := #[]
  cf := some (fileOf pool1 27 #[] #[{ accessFlags := 2, nameIndex := 5, descriptorIndex := 6, attributes := #[] }, { accessFlags := 9, nameIndex := 31, descriptorIndex := 32, attributes := #[] }] 49 2 #[] #[])
  fields := #[]
  methods := #[k1m0, k1m1]
  instanceTypes := #[]
  staticTypes := #[]
  resolved := Array.replicate 40 none
  statics := none }

def pool2 : Array CpInfo := pool [(1, .class_ 2), (0, u "com/example/pathlatch/pathlatch/Item"), (0, .class_ 4), (0, u "java/lang/Object")] 11

/-- com/example/pathlatch/pathlatch/Item -/
def k2 : Class := { plain "com/example/pathlatch/pathlatch/Item" (some 0) with
  accessFlags := 1536
  interfaces := #[]
  cf := some (fileOf pool2 1 #[] #[] 1536 3 #[] #[])
  fields := #[]
  methods := #[]
  instanceTypes := #[]
  staticTypes := #[]
  resolved := Array.replicate 16 none
  statics := none }

def pool3 : Array CpInfo := pool [(1, .methodref 2 3), (0, .class_ 4), (0, .nameAndType 5 6), (0, u "java/lang/Object"), (0, u "<init>"), (0, u "()V"), (1, .class_ 10), (1, u "com/example/pathlatch/pathlatch/Node"), (0, u "parent"), (0, u "Lcom/example/pathlatch/pathlatch/ParentNode;"), (9, u "id"), (0, u "J"), (2, u "key"), (0, u "I"), (84, .class_ 113), (0, u "com/example/pathlatch/pathlatch/Item")] 48

def k3c0 : Code := { maxStack := 1, maxLocals := 1, code := prog_43_method_1_code, exceptionTable := #[], attributes := #[] }
def k3m0 : Method := { name := "<init>", desc := "()V", sig := { parameters := [], returnType := none }, accessFlags := 0, code := some k3c0 }
/-- com/example/pathlatch/pathlatch/Node -/
def k3 : Class := { plain "com/example/pathlatch/pathlatch/Node" (some 0) with
  accessFlags := 1056
  interfaces := #[2]
  cf := some (fileOf pool3 8 #[] #[{ accessFlags := 0, nameIndex := 5, descriptorIndex := 6, attributes := #[] }] 1056 2 #[112] #[{ accessFlags := 2, nameIndex := 11, descriptorIndex := 12, attributes := #[] }, { accessFlags := 2, nameIndex := 22, descriptorIndex := 23, attributes := #[] }, { accessFlags := 2, nameIndex := 26, descriptorIndex := 27, attributes := #[] }])
  fields := #[{ name := "parent", type := (.object "com/example/pathlatch/pathlatch/ParentNode"), accessFlags := 2, slot := 0, constantValue := 0 }, { name := "id", type := .long, accessFlags := 2, slot := 1, constantValue := 0 }, { name := "key", type := .int, accessFlags := 2, slot := 2, constantValue := 0 }]
  methods := #[k3m0]
  instanceTypes := #[(.object "com/example/pathlatch/pathlatch/ParentNode"), .long, .int]
  staticTypes := #[]
  resolved := Array.replicate 162 none
  statics := none }

def pool4 : Array CpInfo := pool [(1, .class_ 2), (0, u "com/example/pathlatch/pathlatch/ValueNode"), (0, .class_ 4), (0, u "java/lang/Object")] 11

/-- com/example/pathlatch/pathlatch/ValueNode -/
def k4 : Class := { plain "com/example/pathlatch/pathlatch/ValueNode" (some 0) with
  accessFlags := 1536
  interfaces := #[]
  cf := some (fileOf pool4 1 #[] #[] 1536 3 #[] #[])
  fields := #[]
  methods := #[]
  instanceTypes := #[]
  staticTypes := #[]
  resolved := Array.replicate 16 none
  statics := none }

def pool5 : Array CpInfo := pool [(1, .methodref 2 3), (0, .class_ 4), (0, .nameAndType 5 6), (0, u "com/example/pathlatch/pathlatch/Node"), (0, u "<init>"), (0, u "()V"), (0, .fieldref 8 9), (0, .class_ 10), (0, .nameAndType 11 12), (0, u "com/example/pathlatch/pathlatch/Text"), (0, u "value"), (0, u "Ljava/lang/String;"), (2, u "LABEL"), (0, u "Lcom/example/pathlatch/pathlatch/Step;"), (11, .class_ 29), (0, u "com/example/pathlatch/pathlatch/ValueNode"), (0, u "(Ljava/lang/String;)V")] 11

def k5c0 : Code := { maxStack := 2, maxLocals := 2, code := prog_81_method_1_code, exceptionTable := #[], attributes := #[] }
def k5m0 : Method := { name := "<init>", desc := "(Ljava/lang/String;)V", sig := { parameters := [(.object "java/lang/String")], returnType := none }, accessFlags := 0, code := some k5c0 }
/-- com/example/pathlatch/pathlatch/Text -/
def k5 : Class := { plain "com/example/pathlatch/pathlatch/Text" (some 3) with
  accessFlags := 48
  interfaces := #[4]
  cf := some (fileOf pool5 8 #[] #[{ accessFlags := 0, nameIndex := 5, descriptorIndex := 30, attributes := #[] }] 48 2 #[28] #[{ accessFlags := 24, nameIndex := 15, descriptorIndex := 16, attributes := #[] }, { accessFlags := 2, nameIndex := 11, descriptorIndex := 12, attributes := #[] }])
  fields := #[{ name := "LABEL", type := (.object "com/example/pathlatch/pathlatch/Step"), accessFlags := 24, slot := 0, constantValue := 0 }, { name := "value", type := (.object "java/lang/String"), accessFlags := 2, slot := 3, constantValue := 0 }]
  methods := #[k5m0]
  instanceTypes := #[(.object "com/example/pathlatch/pathlatch/ParentNode"), .long, .int, (.object "java/lang/String")]
  staticTypes := #[(.object "com/example/pathlatch/pathlatch/Step")]
  resolved := Array.replicate 42 none
  statics := none }

def pool6 : Array CpInfo := pool [(1, .class_ 2), (0, u "java/io/Serializable"), (0, .class_ 4), (0, u "java/lang/Object")] 2

/-- java/io/Serializable -/
def k6 : Class := { plain "java/io/Serializable" (some 0) with
  accessFlags := 1537
  interfaces := #[]
  cf := some (fileOf pool6 1 #[] #[] 1537 3 #[] #[])
  fields := #[]
  methods := #[]
  instanceTypes := #[]
  staticTypes := #[]
  resolved := Array.replicate 7 none
  statics := none }

def pool7 : Array CpInfo := pool [(1, .class_ 2), (0, u "java/lang/Comparable"), (0, .class_ 4), (0, u "java/lang/Object")] 7

/-- java/lang/Comparable -/
def k7 : Class := { plain "java/lang/Comparable" (some 0) with
  accessFlags := 1537
  interfaces := #[]
  cf := some (fileOf pool7 1 #[] #[] 1537 3 #[] #[])
  fields := #[]
  methods := #[]
  instanceTypes := #[]
  staticTypes := #[]
  resolved := Array.replicate 12 none
  statics := none }

def pool8 : Array CpInfo := pool [(2, .class_ 4), (1, u "java/lang/CharSequence"), (42, .class_ 48), (0, u "java/lang/CharSequence$1CodePointIterator"), (10, .class_ 60), (0, u "java/lang/CharSequence$1CharIterator"), (5, .class_ 67), (0, u "java/lang/Object")] 63

/-- java/lang/CharSequence -/
def k8 : Class := { plain "java/lang/CharSequence" (some 0) with
  accessFlags := 1537
  interfaces := #[]
  cf := some (fileOf pool8 2 #[.nestMembers #[47, 59]] #[] 1537 66 #[] #[])
  fields := #[]
  methods := #[]
  instanceTypes := #[]
  staticTypes := #[]
  resolved := Array.replicate 131 none
  statics := none }

def pool9 : Array CpInfo := pool [(1, .class_ 2), (0, u "java/lang/constant/Constable"), (0, .class_ 4), (0, u "java/lang/Object")] 6

/-- java/lang/constant/Constable -/
def k9 : Class := { plain "java/lang/constant/Constable" (some 0) with
  accessFlags := 1537
  interfaces := #[]
  cf := some (fileOf pool9 1 #[] #[] 1537 3 #[] #[])
  fields := #[]
  methods := #[]
  instanceTypes := #[]
  staticTypes := #[]
  resolved := Array.replicate 11 none
  statics := none }

def pool10 : Array CpInfo := pool [(1, .class_ 2), (0, u "java/lang/constant/ConstantDesc"), (0, .class_ 4), (0, u "java/lang/Object")] 32

/-- java/lang/constant/ConstantDesc -/
def k10 : Class := { plain "java/lang/constant/ConstantDesc" (some 0) with
  accessFlags := 1537
  interfaces := #[]
  cf := some (fileOf pool10 1 #[] #[] 1537 3 #[] #[])
  fields := #[]
  methods := #[]
  instanceTypes := #[]
  staticTypes := #[]
  resolved := Array.replicate 37 none
  statics := none }

def pool11 : Array CpInfo := pool [(1, .methodref 2 3), (0, .class_ 4), (0, .nameAndType 5 6), (0, u "java/lang/Object"), (0, u "<init>"), (0, u "()V"), (2, .fieldref 10 11), (0, .class_ 12), (0, .nameAndType 13 14), (0, u "java/lang/String"), (0, u "value"), (0, u "[B"), (0, .fieldref 10 16), (0, .nameAndType 17 18), (0, u "coder"), (0, u "B"), (2, u "hash"), (0, u "I"), (2, u "hashIsZero"), (0, u "Z"), (11, .fieldref 10 39), (0, .nameAndType 40 26), (0, u "COMPACT_STRINGS"), (12, u "toBytes"), (53, .class_ 109), (1, u "java/lang/StringLatin1"), (99, .methodref 10 210), (0, .nameAndType 5 211), (0, u "([BB)V"), (157, u "(C)Z"), (205, .class_ 576), (0, u "java/lang/CharSequence"), (22, u "CASE_INSENSITIVE_ORDER"), (0, u "Ljava/util/Comparator;"), (181, u "valueOf"), (0, u "(C)Ljava/lang/String;"), (231, .methodref 107 1016), (0, .nameAndType 1017 369), (0, u "canEncode"), (0, .methodref 107 1019), (0, .nameAndType 53 1020), (0, u "(C)[B"), (80, u "serialPersistentFields"), (0, u "[Ljava/io/ObjectStreamField;"), (0, .class_ 1104), (0, u "java/lang/String$CaseInsensitiveComparator"), (1, .class_ 1107), (0, u "java/io/Serializable"), (0, .class_ 1109), (0, u "java/lang/Comparable"), (0, .class_ 1111), (0, u "java/lang/constant/Constable"), (0, .class_ 1113), (0, u "java/lang/constant/ConstantDesc"), (2, u "serialVersionUID"), (0, u "J"), (3, u "REPL"), (0, u "C"), (2, u "LATIN1"), (1, u "UTF16")] 323

def k11m0 : Method := { name := "<init>", desc := "()V", sig := { parameters := [], returnType := none }, accessFlags := 1, code := none }
def k11c1 : Code := { maxStack := 4, maxLocals := 1, code := jdk_42_method_139_code, exceptionTable := #[], attributes := #[] }
def k11m1 : Method := { name := "valueOf", desc := "(C)Ljava/lang/String;", sig := { parameters := [.char], returnType := some (.object "java/lang/String") }, accessFlags := 9, code := some k11c1 }
def k11c2 : Code := { maxStack := 2, maxLocals := 3, code := jdk_42_method_151_code, exceptionTable := #[], attributes := #[] }
def k11m2 : Method := { name := "<init>", desc := "([BB)V", sig := { parameters := [(.array .byte), .byte], returnType := none }, accessFlags := 0, code := some k11c2 }
/-- java/lang/String -/
def k11 : Class := { plain "java/lang/String" (some 0) with
  accessFlags := 49
  interfaces := #[6, 7, 8, 9, 10]
  cf := some (fileOf pool11 10 #[.nestMembers #[1103]] #[{ accessFlags := 1, nameIndex := 5, descriptorIndex := 6, attributes := #[] }, { accessFlags := 9, nameIndex := 782, descriptorIndex := 783, attributes := #[] }, { accessFlags := 0, nameIndex := 5, descriptorIndex := 211, attributes := #[] }] 49 2 #[1106, 1108, 575, 1110, 1112] #[{ accessFlags := 18, nameIndex := 13, descriptorIndex := 14, attributes := #[] }, { accessFlags := 18, nameIndex := 17, descriptorIndex := 18, attributes := #[] }, { accessFlags := 2, nameIndex := 21, descriptorIndex := 22, attributes := #[] }, { accessFlags := 2, nameIndex := 25, descriptorIndex := 26, attributes := #[] }, { accessFlags := 26, nameIndex := 1116, descriptorIndex := 1117, attributes := #[] }, { accessFlags := 24, nameIndex := 40, descriptorIndex := 26, attributes := #[] }, { accessFlags := 26, nameIndex := 1101, descriptorIndex := 1102, attributes := #[] }, { accessFlags := 26, nameIndex := 1121, descriptorIndex := 1122, attributes := #[] }, { accessFlags := 25, nameIndex := 599, descriptorIndex := 600, attributes := #[] }, { accessFlags := 24, nameIndex := 1125, descriptorIndex := 18, attributes := #[] }, { accessFlags := 24, nameIndex := 1127, descriptorIndex := 18, attributes := #[] }])
  fields := #[{ name := "value", type := (.array .byte), accessFlags := 18, slot := 0, constantValue := 0 }, { name := "coder", type := .byte, accessFlags := 18, slot := 1, constantValue := 0 }, { name := "hash", type := .int, accessFlags := 2, slot := 2, constantValue := 0 }, { name := "hashIsZero", type := .boolean, accessFlags := 2, slot := 3, constantValue := 0 }, { name := "serialVersionUID", type := .long, accessFlags := 26, slot := 0, constantValue := 0 }, { name := "COMPACT_STRINGS", type := .boolean, accessFlags := 24, slot := 1, constantValue := 0 }, { name := "serialPersistentFields", type := (.array (.object "java/io/ObjectStreamField")), accessFlags := 26, slot := 2, constantValue := 0 }, { name := "REPL", type := .char, accessFlags := 26, slot := 3, constantValue := 0 }, { name := "CASE_INSENSITIVE_ORDER", type := (.object "java/util/Comparator"), accessFlags := 25, slot := 4, constantValue := 0 }, { name := "LATIN1", type := .byte, accessFlags := 24, slot := 5, constantValue := 0 }, { name := "UTF16", type := .byte, accessFlags := 24, slot := 6, constantValue := 0 }]
  methods := #[k11m0, k11m1, k11m2]
  instanceTypes := #[(.array .byte), .byte, .int, .boolean]
  staticTypes := #[.long, .boolean, (.array (.object "java/io/ObjectStreamField")), .char, (.object "java/util/Comparator"), .byte, .byte]
  resolved := Array.replicate 1451 none
  statics := some 0 }

def pool12 : Array CpInfo := pool [(4, .class_ 6), (1, u "java/lang/Object"), (0, u "<init>"), (0, u "()V"), (5, .class_ 16), (1, u "java/lang/StringLatin1"), (73, u "canEncode"), (14, u "(C)Z"), (15, u "$assertionsDisabled"), (0, u "Z"), (98, .class_ 223), (1, u "java/lang/StringLatin1$LinesSpliterator"), (156, u "toBytes"), (1, u "(C)[B"), (7, .class_ 391), (0, u "java/lang/StringLatin1$CharsSpliterator")] 3

def k12m0 : Method := { name := "<init>", desc := "()V", sig := { parameters := [], returnType := none }, accessFlags := 0, code := none }
def k12c1 : Code := { maxStack := 2, maxLocals := 1, code := jdk_43_method_3_code, exceptionTable := #[], attributes := #[] }
def k12m1 : Method := { name := "canEncode", desc := "(C)Z", sig := { parameters := [.char], returnType := some .boolean }, accessFlags := 9, code := some k12c1 }
def k12c2 : Code := { maxStack := 4, maxLocals := 1, code := jdk_43_method_46_code, exceptionTable := #[], attributes := #[] }
def k12m2 : Method := { name := "toBytes", desc := "(C)[B", sig := { parameters := [.char], returnType := some (.array .byte) }, accessFlags := 9, code := some k12c2 }
/-- java/lang/StringLatin1 -/
def k12 : Class := { plain "java/lang/StringLatin1" (some 0) with
  accessFlags := 48
  interfaces := #[]
  cf := some (fileOf pool12 14 #[.nestMembers #[390, 221]] #[{ accessFlags := 0, nameIndex := 7, descriptorIndex := 8, attributes := #[] }, { accessFlags := 9, nameIndex := 90, descriptorIndex := 105, attributes := #[] }, { accessFlags := 9, nameIndex := 380, descriptorIndex := 382, attributes := #[] }] 48 4 #[] #[{ accessFlags := 4120, nameIndex := 121, descriptorIndex := 122, attributes := #[] }])
  fields := #[{ name := "$assertionsDisabled", type := .boolean, accessFlags := 4120, slot := 0, constantValue := 0 }]
  methods := #[k12m0, k12m1, k12m2]
  instanceTypes := #[]
  staticTypes := #[.boolean]
  resolved := Array.replicate 395 none
  statics := none }

def pool13 : Array CpInfo := pool [(1, .methodref 2 3), (0, .class_ 4), (0, .nameAndType 5 6), (0, u "java/lang/Object"), (0, u "<init>"), (0, u "()V"), (0, .class_ 8), (0, u "java/lang/Record")] 13

def k13c0 : Code := { maxStack := 1, maxLocals := 1, code := jdk_30_method_1_code, exceptionTable := #[], attributes := #[] }
def k13m0 : Method := { name := "<init>", desc := "()V", sig := { parameters := [], returnType := none }, accessFlags := 4, code := some k13c0 }
/-- java/lang/Record -/
def k13 : Class := { plain "java/lang/Record" (some 0) with
  accessFlags := 1057
  interfaces := #[]
  cf := some (fileOf pool13 7 #[] #[{ accessFlags := 4, nameIndex := 5, descriptorIndex := 6, attributes := #[] }] 1057 2 #[] #[])
  fields := #[]
  methods := #[k13m0]
  instanceTypes := #[]
  staticTypes := #[]
  resolved := Array.replicate 22 none
  statics := none }

def pool14 : Array CpInfo := pool [(1, .methodref 2 3), (0, .class_ 4), (0, .nameAndType 5 6), (0, u "java/lang/Record"), (0, u "<init>"), (0, u "()V"), (0, .fieldref 8 9), (0, .class_ 10), (0, .nameAndType 11 12), (0, u "com/example/pathlatch/pathlatch/ParentNode$TextBeside"), (0, u "before"), (0, u "Lcom/example/pathlatch/pathlatch/Text;"), (0, .fieldref 8 14), (0, .nameAndType 15 12), (0, u "after"), (12, u "(Lcom/example/pathlatch/pathlatch/Text;Lcom/example/pathlatch/pathlatch/Text;)V"), (8, u "any"), (0, u "()Z"), (7, .class_ 47), (0, u "com/example/pathlatch/pathlatch/ParentNode")] 20

def k14c0 : Code := { maxStack := 2, maxLocals := 3, code := prog_62_method_1_code, exceptionTable := #[], attributes := #[] }
def k14m0 : Method := { name := "<init>", desc := "(Lcom/example/pathlatch/pathlatch/Text;Lcom/example/pathlatch/pathlatch/Text;)V", sig := { parameters := [(.object "com/example/pathlatch/pathlatch/Text"), (.object "com/example/pathlatch/pathlatch/Text")], returnType := none }, accessFlags := 0, code := some k14c0 }
def k14c1 : Code := { maxStack := 1, maxLocals := 1, code := prog_62_method_3_code, exceptionTable := #[], attributes := #[] }
def k14m1 : Method := { name := "any", desc := "()Z", sig := { parameters := [], returnType := some .boolean }, accessFlags := 0, code := some k14c1 }
/-- com/example/pathlatch/pathlatch/ParentNode$TextBeside -/
def k14 : Class := { plain "com/example/pathlatch/pathlatch/ParentNode$TextBeside" (some 13) with
  accessFlags := 48
  interfaces := #[]
  cf := some (fileOf pool14 8 #[.nestHost 46] #[{ accessFlags := 0, nameIndex := 5, descriptorIndex := 28, attributes := #[] }, { accessFlags := 0, nameIndex := 37, descriptorIndex := 38, attributes := #[] }] 48 2 #[] #[{ accessFlags := 18, nameIndex := 11, descriptorIndex := 12, attributes := #[] }, { accessFlags := 18, nameIndex := 15, descriptorIndex := 12, attributes := #[] }])
  fields := #[{ name := "before", type := (.object "com/example/pathlatch/pathlatch/Text"), accessFlags := 18, slot := 0, constantValue := 0 }, { name := "after", type := (.object "com/example/pathlatch/pathlatch/Text"), accessFlags := 18, slot := 1, constantValue := 0 }]
  methods := #[k14m0, k14m1]
  instanceTypes := #[(.object "com/example/pathlatch/pathlatch/Text"), (.object "com/example/pathlatch/pathlatch/Text")]
  staticTypes := #[]
  resolved := Array.replicate 68 none
  statics := none }

def pool15 : Array CpInfo := pool [(2, .class_ 4), (1, u "java/lang/Object"), (0, u "<init>"), (0, u "()V"), (17, .class_ 26), (1, u "jdk/internal/util/Preconditions"), (28, .class_ 56), (0, u "jdk/internal/util/Preconditions$4"), (57, .class_ 115), (0, u "jdk/internal/util/Preconditions$1"), (7, u "SIOOBE_FORMATTER"), (0, u "Ljava/util/function/BiFunction;"), (0, .class_ 126), (0, u "jdk/internal/util/Preconditions$2"), (3, u "AIOOBE_FORMATTER"), (0, .class_ 132), (0, u "jdk/internal/util/Preconditions$3"), (3, u "IOOBE_FORMATTER")] 57

def k15m0 : Method := { name := "<init>", desc := "()V", sig := { parameters := [], returnType := none }, accessFlags := 1, code := none }
/-- jdk/internal/util/Preconditions -/
def k15 : Class := { plain "jdk/internal/util/Preconditions" (some 0) with
  accessFlags := 33
  interfaces := #[]
  cf := some (fileOf pool15 24 #[.nestMembers #[55, 131, 125, 114]] #[{ accessFlags := 1, nameIndex := 5, descriptorIndex := 6, attributes := #[] }] 33 2 #[] #[{ accessFlags := 25, nameIndex := 123, descriptorIndex := 124, attributes := #[] }, { accessFlags := 25, nameIndex := 130, descriptorIndex := 124, attributes := #[] }, { accessFlags := 25, nameIndex := 136, descriptorIndex := 124, attributes := #[] }])
  fields := #[{ name := "SIOOBE_FORMATTER", type := (.object "java/util/function/BiFunction"), accessFlags := 25, slot := 0, constantValue := 0 }, { name := "AIOOBE_FORMATTER", type := (.object "java/util/function/BiFunction"), accessFlags := 25, slot := 1, constantValue := 0 }, { name := "IOOBE_FORMATTER", type := (.object "java/util/function/BiFunction"), accessFlags := 25, slot := 2, constantValue := 0 }]
  methods := #[k15m0]
  instanceTypes := #[]
  staticTypes := #[(.object "java/util/function/BiFunction"), (.object "java/util/function/BiFunction"), (.object "java/util/function/BiFunction")]
  resolved := Array.replicate 194 none
  statics := some 1 }

def pool16 : Array CpInfo := pool [(9, u "<init>"), (6, .class_ 18), (1, u "java/lang/Object"), (0, u "()V"), (1, .class_ 23), (1, u "jdk/internal/util/ArraysSupport"), (0, u "LOG2_ARRAY_LONG_INDEX_SCALE"), (0, u "I"), (2, u "U"), (0, u "Ljdk/internal/misc/Unsafe;"), (8, u "BIG_ENDIAN"), (0, u "Z"), (8, u "LOG2_BYTE_BIT_SIZE"), (4, u "LOG2_ARRAY_INT_INDEX_SCALE"), (54, u "JLA"), (0, u "Ljdk/internal/access/JavaLangAccess;"), (11, u "LOG2_ARRAY_BOOLEAN_INDEX_SCALE"), (9, u "LOG2_ARRAY_BYTE_INDEX_SCALE"), (5, u "LOG2_ARRAY_CHAR_INDEX_SCALE"), (5, u "LOG2_ARRAY_SHORT_INDEX_SCALE"), (18, u "LOG2_ARRAY_FLOAT_INDEX_SCALE"), (24, u "LOG2_ARRAY_DOUBLE_INDEX_SCALE"), (89, u "T_BOOLEAN"), (2, u "T_CHAR"), (1, u "T_FLOAT"), (1, u "T_DOUBLE"), (1, u "T_BYTE"), (1, u "T_SHORT"), (1, u "T_INT"), (1, u "T_LONG"), (1, u "SOFT_MAX_ARRAY_LENGTH")] 83

def k16m0 : Method := { name := "<init>", desc := "()V", sig := { parameters := [], returnType := none }, accessFlags := 2, code := none }
/-- jdk/internal/util/ArraysSupport -/
def k16 : Class := { plain "jdk/internal/util/ArraysSupport" (some 0) with
  accessFlags := 33
  interfaces := #[]
  cf := some (fileOf pool16 21 #[] #[{ accessFlags := 2, nameIndex := 9, descriptorIndex := 19, attributes := #[] }] 33 16 #[] #[{ accessFlags := 24, nameIndex := 28, descriptorIndex := 29, attributes := #[] }, { accessFlags := 26, nameIndex := 38, descriptorIndex := 39, attributes := #[] }, { accessFlags := 25, nameIndex := 121, descriptorIndex := 25, attributes := #[] }, { accessFlags := 25, nameIndex := 131, descriptorIndex := 25, attributes := #[] }, { accessFlags := 25, nameIndex := 137, descriptorIndex := 25, attributes := #[] }, { accessFlags := 25, nameIndex := 143, descriptorIndex := 25, attributes := #[] }, { accessFlags := 25, nameIndex := 53, descriptorIndex := 25, attributes := #[] }, { accessFlags := 25, nameIndex := 24, descriptorIndex := 25, attributes := #[] }, { accessFlags := 25, nameIndex := 162, descriptorIndex := 25, attributes := #[] }, { accessFlags := 25, nameIndex := 187, descriptorIndex := 25, attributes := #[] }, { accessFlags := 26, nameIndex := 48, descriptorIndex := 25, attributes := #[] }, { accessFlags := 25, nameIndex := 277, descriptorIndex := 25, attributes := #[] }, { accessFlags := 25, nameIndex := 280, descriptorIndex := 25, attributes := #[] }, { accessFlags := 25, nameIndex := 282, descriptorIndex := 25, attributes := #[] }, { accessFlags := 25, nameIndex := 284, descriptorIndex := 25, attributes := #[] }, { accessFlags := 25, nameIndex := 286, descriptorIndex := 25, attributes := #[] }, { accessFlags := 25, nameIndex := 288, descriptorIndex := 25, attributes := #[] }, { accessFlags := 25, nameIndex := 290, descriptorIndex := 25, attributes := #[] }, { accessFlags := 25, nameIndex := 292, descriptorIndex := 25, attributes := #[] }, { accessFlags := 26, nameIndex := 108, descriptorIndex := 109, attributes := #[] }, { accessFlags := 25, nameIndex := 294, descriptorIndex := 25, attributes := #[] }])
  fields := #[{ name := "U", type := (.object "jdk/internal/misc/Unsafe"), accessFlags := 24, slot := 0, constantValue := 0 }, { name := "BIG_ENDIAN", type := .boolean, accessFlags := 26, slot := 1, constantValue := 0 }, { name := "LOG2_ARRAY_BOOLEAN_INDEX_SCALE", type := .int, accessFlags := 25, slot := 2, constantValue := 0 }, { name := "LOG2_ARRAY_BYTE_INDEX_SCALE", type := .int, accessFlags := 25, slot := 3, constantValue := 0 }, { name := "LOG2_ARRAY_CHAR_INDEX_SCALE", type := .int, accessFlags := 25, slot := 4, constantValue := 0 }, { name := "LOG2_ARRAY_SHORT_INDEX_SCALE", type := .int, accessFlags := 25, slot := 5, constantValue := 0 }, { name := "LOG2_ARRAY_INT_INDEX_SCALE", type := .int, accessFlags := 25, slot := 6, constantValue := 0 }, { name := "LOG2_ARRAY_LONG_INDEX_SCALE", type := .int, accessFlags := 25, slot := 7, constantValue := 0 }, { name := "LOG2_ARRAY_FLOAT_INDEX_SCALE", type := .int, accessFlags := 25, slot := 8, constantValue := 0 }, { name := "LOG2_ARRAY_DOUBLE_INDEX_SCALE", type := .int, accessFlags := 25, slot := 9, constantValue := 0 }, { name := "LOG2_BYTE_BIT_SIZE", type := .int, accessFlags := 26, slot := 10, constantValue := 0 }, { name := "T_BOOLEAN", type := .int, accessFlags := 25, slot := 11, constantValue := 0 }, { name := "T_CHAR", type := .int, accessFlags := 25, slot := 12, constantValue := 0 }, { name := "T_FLOAT", type := .int, accessFlags := 25, slot := 13, constantValue := 0 }, { name := "T_DOUBLE", type := .int, accessFlags := 25, slot := 14, constantValue := 0 }, { name := "T_BYTE", type := .int, accessFlags := 25, slot := 15, constantValue := 0 }, { name := "T_SHORT", type := .int, accessFlags := 25, slot := 16, constantValue := 0 }, { name := "T_INT", type := .int, accessFlags := 25, slot := 17, constantValue := 0 }, { name := "T_LONG", type := .int, accessFlags := 25, slot := 18, constantValue := 0 }, { name := "JLA", type := (.object "jdk/internal/access/JavaLangAccess"), accessFlags := 26, slot := 19, constantValue := 0 }, { name := "SOFT_MAX_ARRAY_LENGTH", type := .int, accessFlags := 25, slot := 20, constantValue := 0 }]
  methods := #[k16m0]
  instanceTypes := #[]
  staticTypes := #[(.object "jdk/internal/misc/Unsafe"), .boolean, .int, .int, .int, .int, .int, .int, .int, .int, .int, .int, .int, .int, .int, .int, .int, .int, .int, (.object "jdk/internal/access/JavaLangAccess"), .int]
  resolved := Array.replicate 378 none
  statics := none }

def pool17 : Array CpInfo := pool [(1, u "java/lang/Cloneable"), (0, .class_ 1), (0, u "java/lang/Object"), (0, .class_ 3)] 3

/-- java/lang/Cloneable -/
def k17 : Class := { plain "java/lang/Cloneable" (some 0) with
  accessFlags := 1537
  interfaces := #[]
  cf := some (fileOf pool17 2 #[] #[] 1537 4 #[] #[])
  fields := #[]
  methods := #[]
  instanceTypes := #[]
  staticTypes := #[]
  resolved := Array.replicate 8 none
  statics := none }

/-- the primitive byte -/
def k18 : Class := { plain "byte" none with kind := .primitive 'B', accessFlags := 0x411 }
/-- [B -/
def k19 : Class := { plain "[B" (some 0) with kind := .array 18 .byte, interfaces := #[17, 6], accessFlags := 1041 }

/-- the primitive int -/
def k20 : Class := { plain "int" none with kind := .primitive 'I', accessFlags := 0x411 }
/-- [I -/
def k21 : Class := { plain "[I" (some 0) with kind := .array 20 .int, interfaces := #[17, 6], accessFlags := 1041 }

def heap : Heap := #[{ cls := 11, slots := #[.long 0, .int 1, .null, .int 0, .null, .int 0, .int 0], vm := .statics 11 },
  { cls := 15, slots := #[.null, .null, .null], vm := .statics 15 }]
def classes : Array Class := #[k0, k1, k2, k3, k4, k5, k6, k7, k8, k9, k10, k11, k12, k13, k14, k15, k16, k17, k18, k19, k20, k21]
def interned : List (Array UInt16 × Addr) := []
def slotsUsed : Nat := 10
def theMethod : MethodId := ⟨1, 1⟩
def args0 : Array Value := #[.int 3, .int 24930]
def aboutOver (below : List Frame) : State where
  vm := { classes := classes, interned := interned.toArray }
  heap := heap
  slotsUsed := slotsUsed
  threads := #[{ frames := .invoking theMethod args0 :: below }]
def below0 : List Frame := [.native { method := ⟨0, 0⟩, args := #[] }]
def about1 : State := aboutOver below0
def p0 : Program := .bare "" "" ""
def e0 : Env := launch0.env 0 0 0
theorem w_frames : about1.frames = Frame.invoking theMethod args0 :: below0 := rfl
set_option maxRecDepth 65536 in
theorem w_args : argsFit about1.vm theMethod args0 = true := by decide +kernel
set_option maxRecDepth 65536 in
theorem w_heap : heapFits about1 = true := by decide +kernel
set_option maxRecDepth 65536 in
theorem w_runnable : about1.curStatus? = some .runnable := by decide +kernel
set_option maxRecDepth 65536 in
theorem w_alone : about1.alone = true := by decide +kernel
set_option maxRecDepth 65536 in
theorem w_named : about1.methodNamed? x = some theMethod := by decide +kernel
set_option maxRecDepth 65536 in
theorem w_hears : about1.hears theMethod below0 = true := by decide +kernel
set_option maxRecDepth 65536 in
theorem w_ripe : about1.ripe theMethod args0 below0 = true := by decide +kernel
theorem w_running : about1.status = .running := rfl
set_option maxRecDepth 65536 in
theorem w_room : about1.hasRoom e0.platform room_1 = true :=
  launch0.hasRoom_least _ room_1 (by decide +kernel) (by decide +kernel) (by decide +kernel) (by decide +kernel) (by decide +kernel) (by decide +kernel)
theorem allAtoms_all (ts : List Jvm.Cond) (a : Array Jvm.Value) (st : Jvm.State) : (allAtoms ts).before a st = ts.all (fun c => c.before a st) := by
  induction ts with
  | nil => rfl
  | cons c t ih =>
    show (Jvm.Cond.and c (allAtoms t)).before a st = _
    rw [Jvm.Cond.before_and, ih, List.all_cons]
def words1 : List Jvm.Cond := Jvm.Cond.code x code maxLocals ret :: tables_1
/-- a 'code' word, met by the world's own term for the bytes: nothing is compared byte by byte -/
theorem code_word {y : MethodName} {bytes : ByteArray} {mx : Nat} {rt : Option FieldType} {a : Array Value} {s : State} {m : MethodId} {meth : Method} {c : Code} (h1 : s.methodNamed? y = some m) (h2 : s.vm.method? m = some meth) (h3 : meth.code = some c) (h4 : c.code = bytes)
    (h5 : (c.maxLocals == mx && c.exceptionTable.isEmpty && decide (c.maxStack ≤ mostOperands) && decide (meth.sig.returnType = rt) && !meth.locks && decide (parseMethodDescriptor y.desc = some meth.sig)) = true) : (Jvm.Cond.code y bytes mx rt).before a s = true := by
  simp only [Bool.and_eq_true, beq_iff_eq, Bool.not_eq_true', decide_eq_true_eq] at h5
  obtain ⟨⟨⟨⟨⟨g1, g2⟩, g3⟩, g4⟩, g5⟩, g6⟩ := h5
  simp [Cond.before, Cond.holds, Cond.value, h1, h2, h3, h4, g1, g2, g3, g4, g5, g6]
def isCode : Jvm.Cond → Bool
  | .code _ _ _ _ => true
  | _ => false
theorem all_split {L : List Jvm.Cond} {P : Jvm.Cond → Bool} (h1 : L.all (fun c => isCode c || P c) = true) (h2 : ∀ c ∈ L.filter isCode, P c = true) : L.all P = true := by
  refine List.all_eq_true.mpr fun c hc => ?_
  have h := List.all_eq_true.mp h1 c hc
  rcases Bool.eq_false_or_eq_true (isCode c) with hi | hi
  · exact h2 c (List.mem_filter.mpr ⟨hc, hi⟩)
  · simpa [hi] using h
set_option maxRecDepth 65536 in
theorem w_c0 : (Jvm.Cond.code x code maxLocals ret).before args0 about1 = true := code_word (m := ⟨1, 1⟩) (meth := k1m1) (c := k1c1) (by decide +kernel) rfl rfl rfl (by decide +kernel)
set_option maxRecDepth 65536 in
theorem w_c1 : (Jvm.Cond.code ({ cls := "java/lang/String", name := "valueOf", desc := "(C)Ljava/lang/String;" } : Jvm.MethodName) jdk_42_method_139_code (1 : Nat) (Option.some (Jvm.ClassFile.FieldType.object "java/lang/String"))).before args0 about1 = true := code_word (m := ⟨11, 1⟩) (meth := k11m1) (c := k11c1) (by decide +kernel) rfl rfl rfl (by decide +kernel)
set_option maxRecDepth 65536 in
theorem w_c2 : (Jvm.Cond.code ({ cls := "java/lang/StringLatin1", name := "canEncode", desc := "(C)Z" } : Jvm.MethodName) jdk_43_method_3_code (1 : Nat) (Option.some Jvm.ClassFile.FieldType.boolean)).before args0 about1 = true := code_word (m := ⟨12, 1⟩) (meth := k12m1) (c := k12c1) (by decide +kernel) rfl rfl rfl (by decide +kernel)
set_option maxRecDepth 65536 in
theorem w_c3 : (Jvm.Cond.code ({ cls := "java/lang/StringLatin1", name := "toBytes", desc := "(C)[B" } : Jvm.MethodName) jdk_43_method_46_code (1 : Nat) (Option.some (Jvm.ClassFile.FieldType.array Jvm.ClassFile.FieldType.byte))).before args0 about1 = true := code_word (m := ⟨12, 2⟩) (meth := k12m2) (c := k12c2) (by decide +kernel) rfl rfl rfl (by decide +kernel)
set_option maxRecDepth 65536 in
theorem w_c4 : (Jvm.Cond.code ({ cls := "java/lang/String", name := "<init>", desc := "([BB)V" } : Jvm.MethodName) jdk_42_method_151_code (3 : Nat) (Option.none : Option Jvm.ClassFile.FieldType)).before args0 about1 = true := code_word (m := ⟨11, 2⟩) (meth := k11m2) (c := k11c2) (by decide +kernel) rfl rfl rfl (by decide +kernel)
set_option maxRecDepth 65536 in
theorem w_c5 : (Jvm.Cond.code ({ cls := "java/lang/Object", name := "<init>", desc := "()V" } : Jvm.MethodName) object_method_1_code (1 : Nat) (Option.none : Option Jvm.ClassFile.FieldType)).before args0 about1 = true := code_word (m := ⟨0, 0⟩) (meth := k0m0) (c := k0c0) (by decide +kernel) rfl rfl rfl (by decide +kernel)
set_option maxRecDepth 65536 in
theorem w_c6 : (Jvm.Cond.code ({ cls := "com/example/pathlatch/pathlatch/Text", name := "<init>", desc := "(Ljava/lang/String;)V" } : Jvm.MethodName) prog_81_method_1_code (2 : Nat) (Option.none : Option Jvm.ClassFile.FieldType)).before args0 about1 = true := code_word (m := ⟨5, 0⟩) (meth := k5m0) (c := k5c0) (by decide +kernel) rfl rfl rfl (by decide +kernel)
set_option maxRecDepth 65536 in
theorem w_c7 : (Jvm.Cond.code ({ cls := "com/example/pathlatch/pathlatch/Node", name := "<init>", desc := "()V" } : Jvm.MethodName) prog_43_method_1_code (1 : Nat) (Option.none : Option Jvm.ClassFile.FieldType)).before args0 about1 = true := code_word (m := ⟨3, 0⟩) (meth := k3m0) (c := k3c0) (by decide +kernel) rfl rfl rfl (by decide +kernel)
set_option maxRecDepth 65536 in
theorem w_c8 : (Jvm.Cond.code ({ cls := "com/example/pathlatch/pathlatch/ParentNode$TextBeside", name := "<init>", desc := "(Lcom/example/pathlatch/pathlatch/Text;Lcom/example/pathlatch/pathlatch/Text;)V" } : Jvm.MethodName) prog_62_method_1_code (3 : Nat) (Option.none : Option Jvm.ClassFile.FieldType)).before args0 about1 = true := code_word (m := ⟨14, 0⟩) (meth := k14m0) (c := k14c0) (by decide +kernel) rfl rfl rfl (by decide +kernel)
set_option maxRecDepth 65536 in
theorem w_c9 : (Jvm.Cond.code ({ cls := "java/lang/Record", name := "<init>", desc := "()V" } : Jvm.MethodName) jdk_30_method_1_code (1 : Nat) (Option.none : Option Jvm.ClassFile.FieldType)).before args0 about1 = true := code_word (m := ⟨13, 0⟩) (meth := k13m0) (c := k13c0) (by decide +kernel) rfl rfl rfl (by decide +kernel)
set_option maxRecDepth 65536 in
theorem w_c10 : (Jvm.Cond.code ({ cls := "com/example/pathlatch/pathlatch/ParentNode$TextBeside", name := "any", desc := "()Z" } : Jvm.MethodName) prog_62_method_3_code (1 : Nat) (Option.some Jvm.ClassFile.FieldType.boolean)).before args0 about1 = true := code_word (m := ⟨14, 1⟩) (meth := k14m1) (c := k14c1) (by decide +kernel) rfl rfl rfl (by decide +kernel)
def codes1 : List Jvm.Cond := [Jvm.Cond.code x code maxLocals ret, Jvm.Cond.code ({ cls := "java/lang/String", name := "valueOf", desc := "(C)Ljava/lang/String;" } : Jvm.MethodName) jdk_42_method_139_code (1 : Nat) (Option.some (Jvm.ClassFile.FieldType.object "java/lang/String")), Jvm.Cond.code ({ cls := "java/lang/StringLatin1", name := "canEncode", desc := "(C)Z" } : Jvm.MethodName) jdk_43_method_3_code (1 : Nat) (Option.some Jvm.ClassFile.FieldType.boolean), Jvm.Cond.code ({ cls := "java/lang/StringLatin1", name := "toBytes", desc := "(C)[B" } : Jvm.MethodName) jdk_43_method_46_code (1 : Nat) (Option.some (Jvm.ClassFile.FieldType.array Jvm.ClassFile.FieldType.byte)), Jvm.Cond.code ({ cls := "java/lang/String", name := "<init>", desc := "([BB)V" } : Jvm.MethodName) jdk_42_method_151_code (3 : Nat) (Option.none : Option Jvm.ClassFile.FieldType), Jvm.Cond.code ({ cls := "java/lang/Object", name := "<init>", desc := "()V" } : Jvm.MethodName) object_method_1_code (1 : Nat) (Option.none : Option Jvm.ClassFile.FieldType), Jvm.Cond.code ({ cls := "com/example/pathlatch/pathlatch/Text", name := "<init>", desc := "(Ljava/lang/String;)V" } : Jvm.MethodName) prog_81_method_1_code (2 : Nat) (Option.none : Option Jvm.ClassFile.FieldType), Jvm.Cond.code ({ cls := "com/example/pathlatch/pathlatch/Node", name := "<init>", desc := "()V" } : Jvm.MethodName) prog_43_method_1_code (1 : Nat) (Option.none : Option Jvm.ClassFile.FieldType), Jvm.Cond.code ({ cls := "com/example/pathlatch/pathlatch/ParentNode$TextBeside", name := "<init>", desc := "(Lcom/example/pathlatch/pathlatch/Text;Lcom/example/pathlatch/pathlatch/Text;)V" } : Jvm.MethodName) prog_62_method_1_code (3 : Nat) (Option.none : Option Jvm.ClassFile.FieldType), Jvm.Cond.code ({ cls := "java/lang/Record", name := "<init>", desc := "()V" } : Jvm.MethodName) jdk_30_method_1_code (1 : Nat) (Option.none : Option Jvm.ClassFile.FieldType), Jvm.Cond.code ({ cls := "com/example/pathlatch/pathlatch/ParentNode$TextBeside", name := "any", desc := "()Z" } : Jvm.MethodName) prog_62_method_3_code (1 : Nat) (Option.some Jvm.ClassFile.FieldType.boolean)]
set_option maxRecDepth 65536 in
theorem codes_eq : words1.filter isCode = codes1 := rfl
theorem w_codes : ∀ c ∈ words1.filter isCode, c.before args0 about1 = true := by
  rw [codes_eq]
  intro c hc
  simp only [codes1, List.mem_cons, List.not_mem_nil, or_false] at hc
  rcases hc with rfl | rfl | rfl | rfl | rfl | rfl | rfl | rfl | rfl | rfl | rfl
  · exact w_c0
  · exact w_c1
  · exact w_c2
  · exact w_c3
  · exact w_c4
  · exact w_c5
  · exact w_c6
  · exact w_c7
  · exact w_c8
  · exact w_c9
  · exact w_c10
set_option maxRecDepth 65536 in
theorem w_t1 : (words1.take 24).all (fun c => isCode c || c.before args0 about1) = true := by decide +kernel
set_option maxRecDepth 65536 in
theorem w_t2 : ((words1.drop 24).take 24).all (fun c => isCode c || c.before args0 about1) = true := by decide +kernel
set_option maxRecDepth 65536 in
theorem w_t3 : ((words1.drop 24).drop 24).all (fun c => isCode c || c.before args0 about1) = true := by decide +kernel
theorem w_tables : (allAtoms (Jvm.Cond.code x code maxLocals ret :: tables_1)).before args0 about1 = true := by
  rw [allAtoms_all]
  show words1.all (fun c => c.before args0 about1) = true
  refine all_split ?_ w_codes
  rw [← List.take_append_drop 24 words1, List.all_append, w_t1, ← List.take_append_drop 24 (words1.drop 24), List.all_append, w_t2, w_t3]
  rfl
set_option maxRecDepth 65536 in
theorem w_rest : rest_1_c.before args0 about1 = true := by decide +kernel
set_option maxRecDepth 65536 in
theorem w_case : (Jvm.Cond.and given_1 narrow_1).before args0 about1 = true := by decide +kernel
theorem w_applies : (headSpec (Jvm.Cond.code x code maxLocals ret :: tables_1) room_1).applies x e0.platform about1 = true :=
  (Spec.applies_iff w_frames).mpr ⟨w_running, w_runnable, w_alone, w_named, w_hears, w_ripe, w_room, w_tables⟩
theorem atStart : AtStart classFile x code maxLocals ret World_1 tables_1 room_1 Calls_1 rest_1 Pre_1 launch0 p0 e0 about1 theMethod args0 below0 :=
  ⟨lists_1, trivial, launch0.admits_env _ _ _, launch0.least_env, fairChoices_fair.cas, fairChoices_fair.clock, w_frames, w_args, w_heap, w_applies, trivial, w_rest, w_case⟩
end start1
theorem witness_1 : WitnessClaimed_1 := ⟨start1.p0, start1.e0, start1.about1, start1.theMethod, start1.args0, start1.below0, start1.atStart⟩
end Jvm.Pilot.@@N@@
