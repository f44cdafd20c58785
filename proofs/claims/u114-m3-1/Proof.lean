import JvmDerived
import JvmDerived.Pilot.@@N@@Statement
import JvmDerived.Pilot.@@N@@Code
set_option linter.unusedVariables false
set_option linter.unusedSimpArgs false
@@BLOCK:NumsL.lean.txt@@
namespace Jvm.RoadKit
open Sem ClassFile Op Lib Jvm.Stand Jvm.Free Jvm.LawKit
section New
variable {p : Program} {l : Launch} {e : Env} {R : Room} {s : State} {m : MethodId} {args : Array Value} {below : List Frame} {meth : Method} {c : Code} {T : State} {locs : List Loc} {cells slots : Nat}
theorem retI (X : Stand p l e R s m args below meth c T locs cells slots) (hx : p.tables.exec = Jvm.exec) {pc : Nat} {Ls : Array Slot} {z : Int32} {rest : List Value} (hret : meth.sig.returnType = some .int) (hd : decode c.code pc = .ok (.ireturn, 1)) {fs : List Frame}
    (hl : ∀ (f : JFrame) (acts : List Action), f.method = m → f.locked = none → f.entered = [] → (doReturn e (T.setTop f) acts (some (.int z))).1 = T.setFrames fs) : Steps p.tables e below (T.setTop (mkF m pc Ls (.int z :: rest))) (T.setFrames fs) := by
  have hm' : T.vm.method? m = some meth := X.method'
  have hn : narrow .int (.int z) = .int z := rfl
  show Steps p.tables e below (T.setTop { method := m, pc := pc, locals := Ls, stack := _ :: rest, locked := none }) _
  jvm_step X.here [X.here.top, hx, hd, hm', hret, hn]
  first | (intro acts; rw [hl _ acts rfl rfl rfl]) | rw [hl _ _ rfl rfl rfl]
  exact Steps.refl _
end New
end Jvm.RoadKit
namespace Jvm.Pilot.@@N@@
open Jvm Jvm.ClassFile Sem Op Lib Jvm.Free Jvm.Stand Jvm.LawKit Jvm.RoadKit Bundle Jvm.Pilot.@@N@@.Jvm.D
def own_upd (f : Nat → Int32) (j : Nat) (v : Int32) : Nat → Int32 := fun i => if i = j then v else f i
/-- in heap h an array of n ints (bytes) lies at a; place j holds f j -/
def own_arr (ty : FieldType) (Z : State) (h : Heap) (a : Addr) (n : Nat) (f : Nat → Int32) : Prop := ∃ c : Cell, Arr Z h a c ty ∧ c.slots.size = n ∧ ∀ j, j < n → c.slots[j]? = some (.int (f j))
theorem own_arr.lt {ty : FieldType} {Z : State} {h : Heap} {a : Addr} {n : Nat} {f : Nat → Int32} (F : own_arr ty Z h a n f) : a < h.size := by obtain ⟨c, A, -⟩ := F; exact A.lt
theorem own_arr.ext {ty : FieldType} {Z : State} {h h' : Heap} {a : Addr} {n : Nat} {f : Nat → Int32} (F : own_arr ty Z h a n f) (E : Ext h h') : own_arr ty Z h' a n f := by obtain ⟨c, A, r⟩ := F; exact ⟨c, A.ext E, r⟩
theorem own_arr.other {ty : FieldType} {Z : State} {h h' : Heap} {a b : Addr} {sl : Nat} {v : Value} {n : Nat} {f : Nat → Int32} (F : own_arr ty Z h b n f) (W : Wr h h' a sl v) (q : b ≠ a) : own_arr ty Z h' b n f := by obtain ⟨c, A, r⟩ := F; exact ⟨c, A.other W q, r⟩
theorem own_arr.keep {ty : FieldType} {Z : State} {h h' : Heap} {a : Addr} {ws : List Addr} {n : Nat} {f : Nat → Int32} (F : own_arr ty Z h a n f) (K : Keep h h' ws) (q : a ∉ ws) : own_arr ty Z h' a n f := by obtain ⟨c, A, r⟩ := F; exact ⟨c, ⟨K.2.1 a c A.1 q, A.2⟩, r⟩
theorem own_arr.eqv {ty : FieldType} {Z : State} {h : Heap} {a : Addr} {n : Nat} {f g : Nat → Int32} (F : own_arr ty Z h a n f) (q : ∀ j, j < n → g j = f j) : own_arr ty Z h a n g := by obtain ⟨c, A, S, r⟩ := F; exact ⟨c, A, S, fun j hj => by rw [q j hj]; exact r j hj⟩
theorem own_arr.newI {Z : State} {h : Heap} {a : Addr} {k : ClassId} {z : Int32} {n : Nat} (A : Arr Z h a (newA k .int z) .int) (hn : z.toNatClampNeg = n) : own_arr .int Z h a n (fun _ => 0) := ⟨_, A, by rw [sz_new]; exact hn, fun j hj => by
  subst hn
  simp only [newA]
  rw [Array.getElem?_replicate, if_pos hj]
  rfl⟩
theorem own_arr.newB {Z : State} {h : Heap} {a : Addr} {k : ClassId} {z : Int32} {n : Nat} (A : Arr Z h a (newA k .byte z) .byte) (hn : z.toNatClampNeg = n) : own_arr .byte Z h a n (fun _ => 0) := ⟨_, A, by rw [sz_new]; exact hn, fun j hj => by
  subst hn
  simp only [newA]
  rw [Array.getElem?_replicate, if_pos hj]
  rfl⟩
theorem own_arr.set {ty : FieldType} {Z : State} {h h' : Heap} {a : Addr} {c : Cell} {n j : Nat} {f : Nat → Int32} {v : Int32} (A : Arr Z h a c ty) (S : c.slots.size = n) (H : ∀ j, j < n → c.slots[j]? = some (.int (f j))) (W : Wr h h' a j (.int v)) : own_arr ty Z h' a n (own_upd f j v) :=
  ⟨_, A.same W, by rw [sz_set]; exact S, fun i hi => by
    simp only [Cell.setSlot, own_upd]
    by_cases q : i = j
    · subst q
      rw [Array.getElem?_setIfInBounds_self, if_pos (by omega), if_pos rfl]
    · rw [Array.getElem?_setIfInBounds_ne (Ne.symm q), if_neg q]
      exact H i hi⟩
theorem own_inb {c : Cell} {n : Nat} {j : Int32} (S : c.slots.size = n) (q : ¬ (j < 0 ∨ n ≤ j.toNatClampNeg)) : ¬ (j < 0 ∨ c.slots.size ≤ j.toNatClampNeg) := by rw [S]; exact q
theorem own_ltn {j : Int32} {n : Nat} (q : ¬ (j < 0 ∨ n ≤ j.toNatClampNeg)) : j.toNatClampNeg < n := Nat.lt_of_not_le fun k => q (Or.inr k)
theorem own_place {j : Int32} {n : Nat} (h0 : 0 ≤ j.toInt) (h1 : j.toInt < n) : ¬ (j < 0 ∨ n ≤ j.toNatClampNeg) := by
  have e : j.toNatClampNeg = j.toInt.toNat := rfl
  rw [Int32.lt_iff_toInt_lt, e, show (0 : Int32).toInt = 0 from rfl]
  omega
theorem own_one : (1 : Int32).toInt = 1 := rfl
theorem own_two : (2 : Int32).toInt = 2 := rfl
theorem own_p0 {i : Int32} {n : Nat} (h1 : 1 ≤ i.toInt) (h2 : i.toInt < n) : ¬ (i < 0 ∨ n ≤ i.toNatClampNeg) := own_place (by omega) h2
theorem own_p1 {i : Int32} {n : Nat} (h1 : 1 ≤ i.toInt) (h2 : i.toInt < n) : ¬ ((i - (1 : Int32)) < 0 ∨ n ≤ (i - (1 : Int32)).toNatClampNeg) := by
  have a := Int32.toInt_lt i
  have b := own_one
  have e := Jvm.Kit.i32_sub (p := i) (q := 1) (by omega) (by omega)
  exact own_place (by omega) (by omega)
theorem own_p2 {i : Int32} {n : Nat} (h1 : 2 ≤ i.toInt) (h2 : i.toInt < n) : ¬ ((i - (2 : Int32)) < 0 ∨ n ≤ (i - (2 : Int32)).toNatClampNeg) := by
  have a := Int32.toInt_lt i
  have b := own_two
  have e := Jvm.Kit.i32_sub (p := i) (q := 2) (by omega) (by omega)
  exact own_place (by omega) (by omega)
theorem own_ge2 {i : Int32} (h : ¬ i < (2 : Int32)) : 2 ≤ i.toInt := by rw [Int32.lt_iff_toInt_lt, own_two] at h; omega
theorem own_gt1 {i : Int32} (h : (1 : Int32) < i) : 2 ≤ i.toInt := by rw [Int32.lt_iff_toInt_lt, own_one] at h; omega
theorem own_up6 {i t : Int32} (h : i < t) (h6 : t.toInt ≤ 6) : i.toInt < (6 : Nat) := by rw [Int32.lt_iff_toInt_lt] at h; omega
theorem d1_0 : decode method_2_code 0 = .ok (.lload_n 0, 1) := by decide +kernel
theorem d1_1 : decode method_2_code 1 = .ok (.bipush 10, 2) := by decide +kernel
theorem d1_3 : decode method_2_code 3 = .ok (.iload_n 2, 1) := by decide +kernel
theorem d1_4 : decode method_2_code 4 = .ok (.imul, 1) := by decide +kernel
theorem d1_5 : decode method_2_code 5 = .ok (.lushr, 1) := by decide +kernel
theorem d1_6 : decode method_2_code 6 = .ok (.lstore_n 3, 1) := by decide +kernel
theorem d1_7 : decode method_2_code 7 = .ok (.lload_n 3, 1) := by decide +kernel
theorem d1_8 : decode method_2_code 8 = .ok (.ldc2_w 7, 3) := by decide +kernel
theorem d1_11 : decode method_2_code 11 = .ok (.land, 1) := by decide +kernel
theorem d1_12 : decode method_2_code 12 = .ok (.l2i, 1) := by decide +kernel
theorem d1_13 : decode method_2_code 13 = .ok (.istore 5, 2) := by decide +kernel
theorem d1_15 : decode method_2_code 15 = .ok (.iload 5, 2) := by decide +kernel
theorem d1_17 : decode method_2_code 17 = .ok (.ifCond .ne 6, 3) := by decide +kernel
theorem d1_20 : decode method_2_code 20 = .ok (.bipush 10, 2) := by decide +kernel
theorem d1_22 : decode method_2_code 22 = .ok (.ireturn, 1) := by decide +kernel
theorem d1_23 : decode method_2_code 23 = .ok (.iload 5, 2) := by decide +kernel
theorem d1_25 : decode method_2_code 25 = .ok (.iconst 1, 1) := by decide +kernel
theorem d1_26 : decode method_2_code 26 = .ok (.if_icmp .ne 6, 3) := by decide +kernel
theorem d1_29 : decode method_2_code 29 = .ok (.bipush 13, 2) := by decide +kernel
theorem d1_31 : decode method_2_code 31 = .ok (.ireturn, 1) := by decide +kernel
theorem d1_32 : decode method_2_code 32 = .ok (.iload 5, 2) := by decide +kernel
theorem d1_34 : decode method_2_code 34 = .ok (.iconst 2, 1) := by decide +kernel
theorem d1_35 : decode method_2_code 35 = .ok (.if_icmp .ne 6, 3) := by decide +kernel
theorem d1_38 : decode method_2_code 38 = .ok (.bipush 97, 2) := by decide +kernel
theorem d1_40 : decode method_2_code 40 = .ok (.ireturn, 1) := by decide +kernel
theorem d1_41 : decode method_2_code 41 = .ok (.lload_n 3, 1) := by decide +kernel
theorem d1_42 : decode method_2_code 42 = .ok (.iconst 2, 1) := by decide +kernel
theorem d1_43 : decode method_2_code 43 = .ok (.lushr, 1) := by decide +kernel
theorem d1_44 : decode method_2_code 44 = .ok (.ldc2_w 9, 3) := by decide +kernel
theorem d1_47 : decode method_2_code 47 = .ok (.land, 1) := by decide +kernel
theorem d1_48 : decode method_2_code 48 = .ok (.l2i, 1) := by decide +kernel
theorem d1_49 : decode method_2_code 49 = .ok (.i2b, 1) := by decide +kernel
theorem d1_50 : decode method_2_code 50 = .ok (.ireturn, 1) := by decide +kernel
theorem ef_1_JI (m : MethodId) (x0 : Int64) (x1 : Int32) : entryFrame m #[(.long x0), (.int x1)] 6 = mkF m 0 #[.val (.long x0), .second, .val (.int x1), .unset, .unset, .unset] [] := by first | (simp [entryFrame, mkF, argsToLocals, Value.category]; done) | rfl
def own_pick (q1 : Int64) (p2 : Int32) : Int32 := if ((((q1.toUInt64 >>> (((10 : Int32) * p2) &&& 0x3f).toInt64.toUInt64).toInt64) &&& (3 : Int64)).toInt32) = (0 : Int32) then (10 : Int32) else (if ((((q1.toUInt64 >>> (((10 : Int32) * p2) &&& 0x3f).toInt64.toUInt64).toInt64) &&& (3 : Int64)).toInt32) = (1 : Int32) then (13 : Int32) else (if ((((q1.toUInt64 >>> (((10 : Int32) * p2) &&& 0x3f).toInt64.toUInt64).toInt64) &&& (3 : Int64)).toInt32) = (2 : Int32) then (97 : Int32) else (nar .byte (((((((q1.toUInt64 >>> (((10 : Int32) * p2) &&& 0x3f).toInt64.toUInt64).toInt64).toUInt64 >>> ((2 : Int32) &&& 0x3f).toInt64.toUInt64).toInt64) &&& (255 : Int64)).toInt32).toInt8.toInt32))))
def Q1 (q1 : Int64) (p2 : Int32) (h0 : Heap) (n0 : Nat) (v : Option Value) (h : Heap) (L : List Loc) : Prop := v = some (.int (own_pick q1 p2)) ∧ Fr n0 L ∧ h = h0
theorem pn_1 : plainName "com/example/parcelwright/parcelwright/soap/HttpHeadEndPinLaw" = true := by first | (simp [plainName, overriddenIn]; done) | decide +kernel
set_option maxRecDepth 65536 in
set_option maxHeartbeats 40000000 in
theorem rm1 (l : Launch) (Z : State) (a0 : Array Value) (hw : ∀ d ∈ tables_1, d.before a0 Z = true) (ws : List Jvm.Cond) (q1 : Int64) (p2 : Int32) (h0 : Heap) (n0 : Nat) (Z0 : n0 ≤ h0.size)  :
    MetFree l (⟨"com/example/parcelwright/parcelwright/soap/HttpHeadEndPinLaw", "pick", "(JI)B"⟩ : MethodName) (head1 (Jvm.Cond.code (⟨"com/example/parcelwright/parcelwright/soap/HttpHeadEndPinLaw", "pick", "(JI)B"⟩ : MethodName) method_2_code 6 (some .byte) :: ws) ({ frames := 0, cells := 0, slots := 0, locals := 0 } : Room)) (fun a U => a = #[(.long q1), (.int p2)] ∧ Z.Warmed39 U.vm ∧ U.heap = h0) (fun _ _ _ _ _ => True) (fun _ U o U' => ∃ v L, o = .returned v ∧ Q1 q1 p2 h0 n0 v U'.heap L ∧ FrameEnd U o U' L ({ frames := 0, cells := 0, slots := 0, locals := 0 } : Room).cells ({ frames := 0, cells := 0, slots := 0, locals := 0 } : Room).slots) := by
  refine MetFree.of_bodySF (plainFor_of_name pn_1) hisR ?_
  intro p e s m args below meth c s₁ Bd hml0 hP hK
  obtain ⟨rfl, hZ, hh⟩ := hP
  have hx := Bd.exec
  have hby := Bd.bytes
  have hml : c.maxLocals = 6 := hml0
  have hown : s.vm.findClass "com/example/parcelwright/parcelwright/soap/HttpHeadEndPinLaw" = some m.cls := findClass_of_methodNamed Bd.named
  have hnm := (name_of_methodNamed Bd.named Bd.method).1
  have X0 : Stand p l e ({ frames := 0, cells := 0, slots := 0, locals := 0 } : Room) s m #[(.long q1), (.int p2)] below meth c s₁ [] 0 0 := Stand.of_body Bd
  have e0 : s₁.heap = h0 := by rw [← hh, Bd.state]; rfl
  have N0 := Fr.nil n0
  have pre0 : ∀ t, Steps p.tables e below (s₁.setTop (mkF m 0 #[.val (.long q1), .second, .val (.int p2), .unset, .unset, .unset] [])) t → Steps p.tables e below (s₁.setTop (entryFrame m #[(.long q1), (.int p2)] 6)) t := fun t k => castTop (ef_1_JI m q1 p2) k
  have pr_1 : ∀ t, Steps p.tables e below (s₁.setTop (mkF m 17 #[.val (.long q1), .second, .val (.int p2), .val (.long ((q1.toUInt64 >>> (((10 : Int32) * p2) &&& 0x3f).toInt64.toUInt64).toInt64)), .second, .val (.int ((((q1.toUInt64 >>> (((10 : Int32) * p2) &&& 0x3f).toInt64.toUInt64).toInt64) &&& (3 : Int64)).toInt32))] [(.int ((((q1.toUInt64 >>> (((10 : Int32) * p2) &&& 0x3f).toInt64.toUInt64).toInt64) &&& (3 : Int64)).toInt32))])) t → Steps p.tables e below (s₁.setTop (entryFrame m #[(.long q1), (.int p2)] 6)) t := fun t k => by
    refine pre0 _ ?_
    show Steps p.tables e below (s₁.setTop (mkF m 0 #[.val (.long q1), .second, .val (.int p2), .unset, .unset, .unset] [])) _
    refine XS.lloadN X0.here hx rfl (hb hby d1_0) rfl ?_
    show Steps p.tables e below (s₁.setTop (mkF m 1 #[.val (.long q1), .second, .val (.int p2), .unset, .unset, .unset] [(.long q1)])) _
    refine XS.bipush X0.here hx rfl (hb hby d1_1) ?_
    show Steps p.tables e below (s₁.setTop (mkF m 3 #[.val (.long q1), .second, .val (.int p2), .unset, .unset, .unset] [(.int (10 : Int32)), (.long q1)])) _
    refine XS.iloadN X0.here hx rfl (hb hby d1_3) rfl ?_
    show Steps p.tables e below (s₁.setTop (mkF m 4 #[.val (.long q1), .second, .val (.int p2), .unset, .unset, .unset] [(.int p2), (.int (10 : Int32)), (.long q1)])) _
    refine XS.imul X0.here hx rfl (hb hby d1_4) rfl ?_
    show Steps p.tables e below (s₁.setTop (mkF m 5 #[.val (.long q1), .second, .val (.int p2), .unset, .unset, .unset] [(.int ((10 : Int32) * p2)), (.long q1)])) _
    refine XS.lushr X0.here hx rfl (hb hby d1_5) rfl ?_
    show Steps p.tables e below (s₁.setTop (mkF m 6 #[.val (.long q1), .second, .val (.int p2), .unset, .unset, .unset] [(.long ((q1.toUInt64 >>> (((10 : Int32) * p2) &&& 0x3f).toInt64.toUInt64).toInt64))])) _
    refine XS.lstoreN X0.here hx rfl (hb hby d1_6) rfl (l' := #[.val (.long q1), .second, .val (.int p2), .val (.long ((q1.toUInt64 >>> (((10 : Int32) * p2) &&& 0x3f).toInt64.toUInt64).toInt64)), .second, .unset]) rfl ?_
    show Steps p.tables e below (s₁.setTop (mkF m 7 #[.val (.long q1), .second, .val (.int p2), .val (.long ((q1.toUInt64 >>> (((10 : Int32) * p2) &&& 0x3f).toInt64.toUInt64).toInt64)), .second, .unset] [])) _
    refine XS.lloadN X0.here hx rfl (hb hby d1_7) rfl ?_
    show Steps p.tables e below (s₁.setTop (mkF m 8 #[.val (.long q1), .second, .val (.int p2), .val (.long ((q1.toUInt64 >>> (((10 : Int32) * p2) &&& 0x3f).toInt64.toUInt64).toInt64)), .second, .unset] [(.long ((q1.toUInt64 >>> (((10 : Int32) * p2) &&& 0x3f).toInt64.toUInt64).toInt64))])) _
    refine X0.ldc2Long hx hown (mvT hZ (hw _ (List.mem_of_getElem? (i := 5) rfl))) (g := (mkF m 8 #[.val (.long q1), .second, .val (.int p2), .val (.long ((q1.toUInt64 >>> (((10 : Int32) * p2) &&& 0x3f).toInt64.toUInt64).toInt64)), .second, .unset] [(.long ((q1.toUInt64 >>> (((10 : Int32) * p2) &&& 0x3f).toInt64.toUInt64).toInt64))])) rfl (hb hby d1_8) _ ?_
    show Steps p.tables e below (s₁.setTop (mkF m 11 #[.val (.long q1), .second, .val (.int p2), .val (.long ((q1.toUInt64 >>> (((10 : Int32) * p2) &&& 0x3f).toInt64.toUInt64).toInt64)), .second, .unset] [(.long (3 : Int64)), (.long ((q1.toUInt64 >>> (((10 : Int32) * p2) &&& 0x3f).toInt64.toUInt64).toInt64))])) _
    refine XS.land X0.here hx rfl (hb hby d1_11) rfl ?_
    show Steps p.tables e below (s₁.setTop (mkF m 12 #[.val (.long q1), .second, .val (.int p2), .val (.long ((q1.toUInt64 >>> (((10 : Int32) * p2) &&& 0x3f).toInt64.toUInt64).toInt64)), .second, .unset] [(.long (((q1.toUInt64 >>> (((10 : Int32) * p2) &&& 0x3f).toInt64.toUInt64).toInt64) &&& (3 : Int64)))])) _
    refine XS.l2i X0.here hx rfl (hb hby d1_12) rfl ?_
    show Steps p.tables e below (s₁.setTop (mkF m 13 #[.val (.long q1), .second, .val (.int p2), .val (.long ((q1.toUInt64 >>> (((10 : Int32) * p2) &&& 0x3f).toInt64.toUInt64).toInt64)), .second, .unset] [(.int ((((q1.toUInt64 >>> (((10 : Int32) * p2) &&& 0x3f).toInt64.toUInt64).toInt64) &&& (3 : Int64)).toInt32))])) _
    refine XS.istore X0.here hx rfl (hb hby d1_13) rfl (l' := #[.val (.long q1), .second, .val (.int p2), .val (.long ((q1.toUInt64 >>> (((10 : Int32) * p2) &&& 0x3f).toInt64.toUInt64).toInt64)), .second, .val (.int ((((q1.toUInt64 >>> (((10 : Int32) * p2) &&& 0x3f).toInt64.toUInt64).toInt64) &&& (3 : Int64)).toInt32))]) rfl ?_
    show Steps p.tables e below (s₁.setTop (mkF m 15 #[.val (.long q1), .second, .val (.int p2), .val (.long ((q1.toUInt64 >>> (((10 : Int32) * p2) &&& 0x3f).toInt64.toUInt64).toInt64)), .second, .val (.int ((((q1.toUInt64 >>> (((10 : Int32) * p2) &&& 0x3f).toInt64.toUInt64).toInt64) &&& (3 : Int64)).toInt32))] [])) _
    refine XS.iload X0.here hx rfl (hb hby d1_15) rfl ?_
    exact k
  by_cases hc_2 : ((((q1.toUInt64 >>> (((10 : Int32) * p2) &&& 0x3f).toInt64.toUInt64).toInt64) &&& (3 : Int64)).toInt32) = (0 : Int32)
  · obtain ⟨fs, hr, hrun, hended, hW, hsame⟩ := X0.leave (v := some (.int (10 : Int32))) (fun h => by rw [Bd.returns] at h; cases h)
    refine ⟨_, _, pr_1 _ ?_, hrun, hended, _, _, rfl, ?_, ⟨_, rfl⟩, hW, hsame.mono (by decide) (by decide)⟩
    · show Steps p.tables e below (s₁.setTop (mkF m 17 #[.val (.long q1), .second, .val (.int p2), .val (.long ((q1.toUInt64 >>> (((10 : Int32) * p2) &&& 0x3f).toInt64.toUInt64).toInt64)), .second, .val (.int ((((q1.toUInt64 >>> (((10 : Int32) * p2) &&& 0x3f).toInt64.toUInt64).toInt64) &&& (3 : Int64)).toInt32))] [(.int ((((q1.toUInt64 >>> (((10 : Int32) * p2) &&& 0x3f).toInt64.toUInt64).toInt64) &&& (3 : Int64)).toInt32))])) _
      refine XS.ifNo X0.here hx rfl (hb hby d1_17) rfl ((if0 _ _).trans (teq hc_2).2) ?_
      show Steps p.tables e below (s₁.setTop (mkF m 20 #[.val (.long q1), .second, .val (.int p2), .val (.long ((q1.toUInt64 >>> (((10 : Int32) * p2) &&& 0x3f).toInt64.toUInt64).toInt64)), .second, .val (.int ((((q1.toUInt64 >>> (((10 : Int32) * p2) &&& 0x3f).toInt64.toUInt64).toInt64) &&& (3 : Int64)).toInt32))] [])) _
      refine XS.bipush X0.here hx rfl (hb hby d1_20) ?_
      show Steps p.tables e below (s₁.setTop (mkF m 22 #[.val (.long q1), .second, .val (.int p2), .val (.long ((q1.toUInt64 >>> (((10 : Int32) * p2) &&& 0x3f).toInt64.toUInt64).toInt64)), .second, .val (.int ((((q1.toUInt64 >>> (((10 : Int32) * p2) &&& 0x3f).toInt64.toUInt64).toInt64) &&& (3 : Int64)).toInt32))] [(.int (10 : Int32))])) _
      exact retN X0 hx (t := .byte) Bd.returns (by simp) (hb hby d1_22) hr
    · show Q1 q1 p2 h0 n0 _ s₁.heap _
      rw [e0]
      exact ⟨by rw [own_pick, if_pos hc_2], N0, rfl⟩
  · have pr_3 : ∀ t, Steps p.tables e below (s₁.setTop (mkF m 26 #[.val (.long q1), .second, .val (.int p2), .val (.long ((q1.toUInt64 >>> (((10 : Int32) * p2) &&& 0x3f).toInt64.toUInt64).toInt64)), .second, .val (.int ((((q1.toUInt64 >>> (((10 : Int32) * p2) &&& 0x3f).toInt64.toUInt64).toInt64) &&& (3 : Int64)).toInt32))] [(.int (1 : Int32)), (.int ((((q1.toUInt64 >>> (((10 : Int32) * p2) &&& 0x3f).toInt64.toUInt64).toInt64) &&& (3 : Int64)).toInt32))])) t → Steps p.tables e below (s₁.setTop (entryFrame m #[(.long q1), (.int p2)] 6)) t := fun t k => by
      refine pr_1 _ ?_
      show Steps p.tables e below (s₁.setTop (mkF m 17 #[.val (.long q1), .second, .val (.int p2), .val (.long ((q1.toUInt64 >>> (((10 : Int32) * p2) &&& 0x3f).toInt64.toUInt64).toInt64)), .second, .val (.int ((((q1.toUInt64 >>> (((10 : Int32) * p2) &&& 0x3f).toInt64.toUInt64).toInt64) &&& (3 : Int64)).toInt32))] [(.int ((((q1.toUInt64 >>> (((10 : Int32) * p2) &&& 0x3f).toInt64.toUInt64).toInt64) &&& (3 : Int64)).toInt32))])) _
      refine XS.ifYes X0.here hx rfl (pc0 := 17) (pc' := 23) rfl (hb hby d1_17) rfl ((if0 _ _).trans (feq hc_2).2) (by decide) (by decide) ?_
      show Steps p.tables e below (s₁.setTop (mkF m 23 #[.val (.long q1), .second, .val (.int p2), .val (.long ((q1.toUInt64 >>> (((10 : Int32) * p2) &&& 0x3f).toInt64.toUInt64).toInt64)), .second, .val (.int ((((q1.toUInt64 >>> (((10 : Int32) * p2) &&& 0x3f).toInt64.toUInt64).toInt64) &&& (3 : Int64)).toInt32))] [])) _
      refine XS.iload X0.here hx rfl (hb hby d1_23) rfl ?_
      show Steps p.tables e below (s₁.setTop (mkF m 25 #[.val (.long q1), .second, .val (.int p2), .val (.long ((q1.toUInt64 >>> (((10 : Int32) * p2) &&& 0x3f).toInt64.toUInt64).toInt64)), .second, .val (.int ((((q1.toUInt64 >>> (((10 : Int32) * p2) &&& 0x3f).toInt64.toUInt64).toInt64) &&& (3 : Int64)).toInt32))] [(.int ((((q1.toUInt64 >>> (((10 : Int32) * p2) &&& 0x3f).toInt64.toUInt64).toInt64) &&& (3 : Int64)).toInt32))])) _
      refine XS.iconst X0.here hx rfl (hb hby d1_25) ?_
      exact k
    by_cases hc_4 : ((((q1.toUInt64 >>> (((10 : Int32) * p2) &&& 0x3f).toInt64.toUInt64).toInt64) &&& (3 : Int64)).toInt32) = (1 : Int32)
    · obtain ⟨fs, hr, hrun, hended, hW, hsame⟩ := X0.leave (v := some (.int (13 : Int32))) (fun h => by rw [Bd.returns] at h; cases h)
      refine ⟨_, _, pr_3 _ ?_, hrun, hended, _, _, rfl, ?_, ⟨_, rfl⟩, hW, hsame.mono (by decide) (by decide)⟩
      · show Steps p.tables e below (s₁.setTop (mkF m 26 #[.val (.long q1), .second, .val (.int p2), .val (.long ((q1.toUInt64 >>> (((10 : Int32) * p2) &&& 0x3f).toInt64.toUInt64).toInt64)), .second, .val (.int ((((q1.toUInt64 >>> (((10 : Int32) * p2) &&& 0x3f).toInt64.toUInt64).toInt64) &&& (3 : Int64)).toInt32))] [(.int (1 : Int32)), (.int ((((q1.toUInt64 >>> (((10 : Int32) * p2) &&& 0x3f).toInt64.toUInt64).toInt64) &&& (3 : Int64)).toInt32))])) _
        refine XS.icmpNo X0.here hx rfl (hb hby d1_26) rfl (teq hc_4).2 ?_
        show Steps p.tables e below (s₁.setTop (mkF m 29 #[.val (.long q1), .second, .val (.int p2), .val (.long ((q1.toUInt64 >>> (((10 : Int32) * p2) &&& 0x3f).toInt64.toUInt64).toInt64)), .second, .val (.int ((((q1.toUInt64 >>> (((10 : Int32) * p2) &&& 0x3f).toInt64.toUInt64).toInt64) &&& (3 : Int64)).toInt32))] [])) _
        refine XS.bipush X0.here hx rfl (hb hby d1_29) ?_
        show Steps p.tables e below (s₁.setTop (mkF m 31 #[.val (.long q1), .second, .val (.int p2), .val (.long ((q1.toUInt64 >>> (((10 : Int32) * p2) &&& 0x3f).toInt64.toUInt64).toInt64)), .second, .val (.int ((((q1.toUInt64 >>> (((10 : Int32) * p2) &&& 0x3f).toInt64.toUInt64).toInt64) &&& (3 : Int64)).toInt32))] [(.int (13 : Int32))])) _
        exact retN X0 hx (t := .byte) Bd.returns (by simp) (hb hby d1_31) hr
      · show Q1 q1 p2 h0 n0 _ s₁.heap _
        rw [e0]
        exact ⟨by rw [own_pick, if_neg hc_2, if_pos hc_4], N0, rfl⟩
    · have pr_5 : ∀ t, Steps p.tables e below (s₁.setTop (mkF m 35 #[.val (.long q1), .second, .val (.int p2), .val (.long ((q1.toUInt64 >>> (((10 : Int32) * p2) &&& 0x3f).toInt64.toUInt64).toInt64)), .second, .val (.int ((((q1.toUInt64 >>> (((10 : Int32) * p2) &&& 0x3f).toInt64.toUInt64).toInt64) &&& (3 : Int64)).toInt32))] [(.int (2 : Int32)), (.int ((((q1.toUInt64 >>> (((10 : Int32) * p2) &&& 0x3f).toInt64.toUInt64).toInt64) &&& (3 : Int64)).toInt32))])) t → Steps p.tables e below (s₁.setTop (entryFrame m #[(.long q1), (.int p2)] 6)) t := fun t k => by
        refine pr_3 _ ?_
        show Steps p.tables e below (s₁.setTop (mkF m 26 #[.val (.long q1), .second, .val (.int p2), .val (.long ((q1.toUInt64 >>> (((10 : Int32) * p2) &&& 0x3f).toInt64.toUInt64).toInt64)), .second, .val (.int ((((q1.toUInt64 >>> (((10 : Int32) * p2) &&& 0x3f).toInt64.toUInt64).toInt64) &&& (3 : Int64)).toInt32))] [(.int (1 : Int32)), (.int ((((q1.toUInt64 >>> (((10 : Int32) * p2) &&& 0x3f).toInt64.toUInt64).toInt64) &&& (3 : Int64)).toInt32))])) _
        refine XS.icmpYes X0.here hx rfl (pc0 := 26) (pc' := 32) rfl (hb hby d1_26) rfl (feq hc_4).2 (by decide) (by decide) ?_
        show Steps p.tables e below (s₁.setTop (mkF m 32 #[.val (.long q1), .second, .val (.int p2), .val (.long ((q1.toUInt64 >>> (((10 : Int32) * p2) &&& 0x3f).toInt64.toUInt64).toInt64)), .second, .val (.int ((((q1.toUInt64 >>> (((10 : Int32) * p2) &&& 0x3f).toInt64.toUInt64).toInt64) &&& (3 : Int64)).toInt32))] [])) _
        refine XS.iload X0.here hx rfl (hb hby d1_32) rfl ?_
        show Steps p.tables e below (s₁.setTop (mkF m 34 #[.val (.long q1), .second, .val (.int p2), .val (.long ((q1.toUInt64 >>> (((10 : Int32) * p2) &&& 0x3f).toInt64.toUInt64).toInt64)), .second, .val (.int ((((q1.toUInt64 >>> (((10 : Int32) * p2) &&& 0x3f).toInt64.toUInt64).toInt64) &&& (3 : Int64)).toInt32))] [(.int ((((q1.toUInt64 >>> (((10 : Int32) * p2) &&& 0x3f).toInt64.toUInt64).toInt64) &&& (3 : Int64)).toInt32))])) _
        refine XS.iconst X0.here hx rfl (hb hby d1_34) ?_
        exact k
      by_cases hc_6 : ((((q1.toUInt64 >>> (((10 : Int32) * p2) &&& 0x3f).toInt64.toUInt64).toInt64) &&& (3 : Int64)).toInt32) = (2 : Int32)
      · obtain ⟨fs, hr, hrun, hended, hW, hsame⟩ := X0.leave (v := some (.int (97 : Int32))) (fun h => by rw [Bd.returns] at h; cases h)
        refine ⟨_, _, pr_5 _ ?_, hrun, hended, _, _, rfl, ?_, ⟨_, rfl⟩, hW, hsame.mono (by decide) (by decide)⟩
        · show Steps p.tables e below (s₁.setTop (mkF m 35 #[.val (.long q1), .second, .val (.int p2), .val (.long ((q1.toUInt64 >>> (((10 : Int32) * p2) &&& 0x3f).toInt64.toUInt64).toInt64)), .second, .val (.int ((((q1.toUInt64 >>> (((10 : Int32) * p2) &&& 0x3f).toInt64.toUInt64).toInt64) &&& (3 : Int64)).toInt32))] [(.int (2 : Int32)), (.int ((((q1.toUInt64 >>> (((10 : Int32) * p2) &&& 0x3f).toInt64.toUInt64).toInt64) &&& (3 : Int64)).toInt32))])) _
          refine XS.icmpNo X0.here hx rfl (hb hby d1_35) rfl (teq hc_6).2 ?_
          show Steps p.tables e below (s₁.setTop (mkF m 38 #[.val (.long q1), .second, .val (.int p2), .val (.long ((q1.toUInt64 >>> (((10 : Int32) * p2) &&& 0x3f).toInt64.toUInt64).toInt64)), .second, .val (.int ((((q1.toUInt64 >>> (((10 : Int32) * p2) &&& 0x3f).toInt64.toUInt64).toInt64) &&& (3 : Int64)).toInt32))] [])) _
          refine XS.bipush X0.here hx rfl (hb hby d1_38) ?_
          show Steps p.tables e below (s₁.setTop (mkF m 40 #[.val (.long q1), .second, .val (.int p2), .val (.long ((q1.toUInt64 >>> (((10 : Int32) * p2) &&& 0x3f).toInt64.toUInt64).toInt64)), .second, .val (.int ((((q1.toUInt64 >>> (((10 : Int32) * p2) &&& 0x3f).toInt64.toUInt64).toInt64) &&& (3 : Int64)).toInt32))] [(.int (97 : Int32))])) _
          exact retN X0 hx (t := .byte) Bd.returns (by simp) (hb hby d1_40) hr
        · show Q1 q1 p2 h0 n0 _ s₁.heap _
          rw [e0]
          exact ⟨by rw [own_pick, if_neg hc_2, if_neg hc_4, if_pos hc_6], N0, rfl⟩
      · obtain ⟨fs, hr, hrun, hended, hW, hsame⟩ := X0.leave (v := some (.int (nar .byte (((((((q1.toUInt64 >>> (((10 : Int32) * p2) &&& 0x3f).toInt64.toUInt64).toInt64).toUInt64 >>> ((2 : Int32) &&& 0x3f).toInt64.toUInt64).toInt64) &&& (255 : Int64)).toInt32).toInt8.toInt32)))) (fun h => by rw [Bd.returns] at h; cases h)
        refine ⟨_, _, pr_5 _ ?_, hrun, hended, _, _, rfl, ?_, ⟨_, rfl⟩, hW, hsame.mono (by decide) (by decide)⟩
        · show Steps p.tables e below (s₁.setTop (mkF m 35 #[.val (.long q1), .second, .val (.int p2), .val (.long ((q1.toUInt64 >>> (((10 : Int32) * p2) &&& 0x3f).toInt64.toUInt64).toInt64)), .second, .val (.int ((((q1.toUInt64 >>> (((10 : Int32) * p2) &&& 0x3f).toInt64.toUInt64).toInt64) &&& (3 : Int64)).toInt32))] [(.int (2 : Int32)), (.int ((((q1.toUInt64 >>> (((10 : Int32) * p2) &&& 0x3f).toInt64.toUInt64).toInt64) &&& (3 : Int64)).toInt32))])) _
          refine XS.icmpYes X0.here hx rfl (pc0 := 35) (pc' := 41) rfl (hb hby d1_35) rfl (feq hc_6).2 (by decide) (by decide) ?_
          show Steps p.tables e below (s₁.setTop (mkF m 41 #[.val (.long q1), .second, .val (.int p2), .val (.long ((q1.toUInt64 >>> (((10 : Int32) * p2) &&& 0x3f).toInt64.toUInt64).toInt64)), .second, .val (.int ((((q1.toUInt64 >>> (((10 : Int32) * p2) &&& 0x3f).toInt64.toUInt64).toInt64) &&& (3 : Int64)).toInt32))] [])) _
          refine XS.lloadN X0.here hx rfl (hb hby d1_41) rfl ?_
          show Steps p.tables e below (s₁.setTop (mkF m 42 #[.val (.long q1), .second, .val (.int p2), .val (.long ((q1.toUInt64 >>> (((10 : Int32) * p2) &&& 0x3f).toInt64.toUInt64).toInt64)), .second, .val (.int ((((q1.toUInt64 >>> (((10 : Int32) * p2) &&& 0x3f).toInt64.toUInt64).toInt64) &&& (3 : Int64)).toInt32))] [(.long ((q1.toUInt64 >>> (((10 : Int32) * p2) &&& 0x3f).toInt64.toUInt64).toInt64))])) _
          refine XS.iconst X0.here hx rfl (hb hby d1_42) ?_
          show Steps p.tables e below (s₁.setTop (mkF m 43 #[.val (.long q1), .second, .val (.int p2), .val (.long ((q1.toUInt64 >>> (((10 : Int32) * p2) &&& 0x3f).toInt64.toUInt64).toInt64)), .second, .val (.int ((((q1.toUInt64 >>> (((10 : Int32) * p2) &&& 0x3f).toInt64.toUInt64).toInt64) &&& (3 : Int64)).toInt32))] [(.int (2 : Int32)), (.long ((q1.toUInt64 >>> (((10 : Int32) * p2) &&& 0x3f).toInt64.toUInt64).toInt64))])) _
          refine XS.lushr X0.here hx rfl (hb hby d1_43) rfl ?_
          show Steps p.tables e below (s₁.setTop (mkF m 44 #[.val (.long q1), .second, .val (.int p2), .val (.long ((q1.toUInt64 >>> (((10 : Int32) * p2) &&& 0x3f).toInt64.toUInt64).toInt64)), .second, .val (.int ((((q1.toUInt64 >>> (((10 : Int32) * p2) &&& 0x3f).toInt64.toUInt64).toInt64) &&& (3 : Int64)).toInt32))] [(.long ((((q1.toUInt64 >>> (((10 : Int32) * p2) &&& 0x3f).toInt64.toUInt64).toInt64).toUInt64 >>> ((2 : Int32) &&& 0x3f).toInt64.toUInt64).toInt64))])) _
          refine X0.ldc2Long hx hown (mvT hZ (hw _ (List.mem_of_getElem? (i := 6) rfl))) (g := (mkF m 44 #[.val (.long q1), .second, .val (.int p2), .val (.long ((q1.toUInt64 >>> (((10 : Int32) * p2) &&& 0x3f).toInt64.toUInt64).toInt64)), .second, .val (.int ((((q1.toUInt64 >>> (((10 : Int32) * p2) &&& 0x3f).toInt64.toUInt64).toInt64) &&& (3 : Int64)).toInt32))] [(.long ((((q1.toUInt64 >>> (((10 : Int32) * p2) &&& 0x3f).toInt64.toUInt64).toInt64).toUInt64 >>> ((2 : Int32) &&& 0x3f).toInt64.toUInt64).toInt64))])) rfl (hb hby d1_44) _ ?_
          show Steps p.tables e below (s₁.setTop (mkF m 47 #[.val (.long q1), .second, .val (.int p2), .val (.long ((q1.toUInt64 >>> (((10 : Int32) * p2) &&& 0x3f).toInt64.toUInt64).toInt64)), .second, .val (.int ((((q1.toUInt64 >>> (((10 : Int32) * p2) &&& 0x3f).toInt64.toUInt64).toInt64) &&& (3 : Int64)).toInt32))] [(.long (255 : Int64)), (.long ((((q1.toUInt64 >>> (((10 : Int32) * p2) &&& 0x3f).toInt64.toUInt64).toInt64).toUInt64 >>> ((2 : Int32) &&& 0x3f).toInt64.toUInt64).toInt64))])) _
          refine XS.land X0.here hx rfl (hb hby d1_47) rfl ?_
          show Steps p.tables e below (s₁.setTop (mkF m 48 #[.val (.long q1), .second, .val (.int p2), .val (.long ((q1.toUInt64 >>> (((10 : Int32) * p2) &&& 0x3f).toInt64.toUInt64).toInt64)), .second, .val (.int ((((q1.toUInt64 >>> (((10 : Int32) * p2) &&& 0x3f).toInt64.toUInt64).toInt64) &&& (3 : Int64)).toInt32))] [(.long (((((q1.toUInt64 >>> (((10 : Int32) * p2) &&& 0x3f).toInt64.toUInt64).toInt64).toUInt64 >>> ((2 : Int32) &&& 0x3f).toInt64.toUInt64).toInt64) &&& (255 : Int64)))])) _
          refine XS.l2i X0.here hx rfl (hb hby d1_48) rfl ?_
          show Steps p.tables e below (s₁.setTop (mkF m 49 #[.val (.long q1), .second, .val (.int p2), .val (.long ((q1.toUInt64 >>> (((10 : Int32) * p2) &&& 0x3f).toInt64.toUInt64).toInt64)), .second, .val (.int ((((q1.toUInt64 >>> (((10 : Int32) * p2) &&& 0x3f).toInt64.toUInt64).toInt64) &&& (3 : Int64)).toInt32))] [(.int ((((((q1.toUInt64 >>> (((10 : Int32) * p2) &&& 0x3f).toInt64.toUInt64).toInt64).toUInt64 >>> ((2 : Int32) &&& 0x3f).toInt64.toUInt64).toInt64) &&& (255 : Int64)).toInt32))])) _
          refine XS.i2b X0.here hx rfl (hb hby d1_49) rfl ?_
          show Steps p.tables e below (s₁.setTop (mkF m 50 #[.val (.long q1), .second, .val (.int p2), .val (.long ((q1.toUInt64 >>> (((10 : Int32) * p2) &&& 0x3f).toInt64.toUInt64).toInt64)), .second, .val (.int ((((q1.toUInt64 >>> (((10 : Int32) * p2) &&& 0x3f).toInt64.toUInt64).toInt64) &&& (3 : Int64)).toInt32))] [(.int (((((((q1.toUInt64 >>> (((10 : Int32) * p2) &&& 0x3f).toInt64.toUInt64).toInt64).toUInt64 >>> ((2 : Int32) &&& 0x3f).toInt64.toUInt64).toInt64) &&& (255 : Int64)).toInt32).toInt8.toInt32))])) _
          exact retN X0 hx (t := .byte) Bd.returns (by simp) (hb hby d1_50) hr
        · show Q1 q1 p2 h0 n0 _ s₁.heap _
          rw [e0]
          exact ⟨by rw [own_pick, if_neg hc_2, if_neg hc_4, if_neg hc_6], N0, rfl⟩
theorem d2_0 : decode jdk_29_method_65_code 0 = .ok (.iload_n 0, 1) := by decide +kernel
theorem d2_1 : decode jdk_29_method_65_code 1 = .ok (.iload_n 1, 1) := by decide +kernel
theorem d2_2 : decode jdk_29_method_65_code 2 = .ok (.if_icmp .lt 7, 3) := by decide +kernel
theorem d2_9 : decode jdk_29_method_65_code 9 = .ok (.iload_n 1, 1) := by decide +kernel
theorem d2_10 : decode jdk_29_method_65_code 10 = .ok (.ireturn, 1) := by decide +kernel
theorem d2_5 : decode jdk_29_method_65_code 5 = .ok (.iload_n 0, 1) := by decide +kernel
theorem d2_6 : decode jdk_29_method_65_code 6 = .ok (.goto 4, 3) := by decide +kernel
theorem ef_2_II (m : MethodId) (x0 : Int32) (x1 : Int32) : entryFrame m #[(.int x0), (.int x1)] 2 = mkF m 0 #[.val (.int x0), .val (.int x1)] [] := by first | (simp [entryFrame, mkF, argsToLocals, Value.category]; done) | rfl
def own_max (p1 : Int32) (p2 : Int32) : Int32 := if p1 < p2 then p2 else p1
def Q2 (p1 : Int32) (p2 : Int32) (h0 : Heap) (n0 : Nat) (v : Option Value) (h : Heap) (L : List Loc) : Prop := v = some (.int (own_max p1 p2)) ∧ Fr n0 L ∧ h = h0
set_option maxRecDepth 65536 in
set_option maxHeartbeats 40000000 in
theorem rm2 (l : Launch) (Z : State) (a0 : Array Value) (hw : ∀ d ∈ tables_1, d.before a0 Z = true) (ws : List Jvm.Cond) (p1 : Int32) (p2 : Int32) (h0 : Heap) (n0 : Nat) (Z0 : n0 ≤ h0.size)  :
    MetFree l (⟨"java/lang/Math", "max", "(II)I"⟩ : MethodName) (head1 (Jvm.Cond.code (⟨"java/lang/Math", "max", "(II)I"⟩ : MethodName) jdk_29_method_65_code 2 (some .int) :: ws) ({ frames := 0, cells := 0, slots := 0, locals := 0 } : Room)) (fun a U => a = #[(.int p1), (.int p2)] ∧ Z.Warmed39 U.vm ∧ U.heap = h0) (fun _ _ _ _ _ => True) (fun _ U o U' => ∃ v L, o = .returned v ∧ Q2 p1 p2 h0 n0 v U'.heap L ∧ FrameEnd U o U' L ({ frames := 0, cells := 0, slots := 0, locals := 0 } : Room).cells ({ frames := 0, cells := 0, slots := 0, locals := 0 } : Room).slots) := by
  refine MetFree.of_bodySF (Jvm.Free.JP.mathPlain rfl (by decide +kernel)) hisR ?_
  intro p e s m args below meth c s₁ Bd hml0 hP hK
  obtain ⟨rfl, hZ, hh⟩ := hP
  have hx := Bd.exec
  have hby := Bd.bytes
  have hml : c.maxLocals = 2 := hml0
  have hown : s.vm.findClass "java/lang/Math" = some m.cls := findClass_of_methodNamed Bd.named
  have hnm := (name_of_methodNamed Bd.named Bd.method).1
  have X0 : Stand p l e ({ frames := 0, cells := 0, slots := 0, locals := 0 } : Room) s m #[(.int p1), (.int p2)] below meth c s₁ [] 0 0 := Stand.of_body Bd
  have e0 : s₁.heap = h0 := by rw [← hh, Bd.state]; rfl
  have N0 := Fr.nil n0
  have pre0 : ∀ t, Steps p.tables e below (s₁.setTop (mkF m 0 #[.val (.int p1), .val (.int p2)] [])) t → Steps p.tables e below (s₁.setTop (entryFrame m #[(.int p1), (.int p2)] 2)) t := fun t k => castTop (ef_2_II m p1 p2) k
  have pr_1 : ∀ t, Steps p.tables e below (s₁.setTop (mkF m 2 #[.val (.int p1), .val (.int p2)] [(.int p2), (.int p1)])) t → Steps p.tables e below (s₁.setTop (entryFrame m #[(.int p1), (.int p2)] 2)) t := fun t k => by
    refine pre0 _ ?_
    show Steps p.tables e below (s₁.setTop (mkF m 0 #[.val (.int p1), .val (.int p2)] [])) _
    refine XS.iloadN X0.here hx rfl (hb hby d2_0) rfl ?_
    show Steps p.tables e below (s₁.setTop (mkF m 1 #[.val (.int p1), .val (.int p2)] [(.int p1)])) _
    refine XS.iloadN X0.here hx rfl (hb hby d2_1) rfl ?_
    exact k
  by_cases hc_2 : p1 < p2
  · obtain ⟨fs, hr, hrun, hended, hW, hsame⟩ := X0.leave (v := some (.int p2)) (fun h => by rw [Bd.returns] at h; cases h)
    refine ⟨_, _, pr_1 _ ?_, hrun, hended, _, _, rfl, ?_, ⟨_, rfl⟩, hW, hsame.mono (by decide) (by decide)⟩
    · show Steps p.tables e below (s₁.setTop (mkF m 2 #[.val (.int p1), .val (.int p2)] [(.int p2), (.int p1)])) _
      refine XS.icmpYes X0.here hx rfl (pc0 := 2) (pc' := 9) rfl (hb hby d2_2) rfl (tlt hc_2).1 (by decide) (by decide) ?_
      show Steps p.tables e below (s₁.setTop (mkF m 9 #[.val (.int p1), .val (.int p2)] [])) _
      refine XS.iloadN X0.here hx rfl (hb hby d2_9) rfl ?_
      show Steps p.tables e below (s₁.setTop (mkF m 10 #[.val (.int p1), .val (.int p2)] [(.int p2)])) _
      exact retI X0 hx Bd.returns (hb hby d2_10) hr
    · show Q2 p1 p2 h0 n0 _ s₁.heap _
      rw [e0]
      exact ⟨by rw [own_max, if_pos hc_2], N0, rfl⟩
  · obtain ⟨fs, hr, hrun, hended, hW, hsame⟩ := X0.leave (v := some (.int p1)) (fun h => by rw [Bd.returns] at h; cases h)
    refine ⟨_, _, pr_1 _ ?_, hrun, hended, _, _, rfl, ?_, ⟨_, rfl⟩, hW, hsame.mono (by decide) (by decide)⟩
    · show Steps p.tables e below (s₁.setTop (mkF m 2 #[.val (.int p1), .val (.int p2)] [(.int p2), (.int p1)])) _
      refine XS.icmpNo X0.here hx rfl (hb hby d2_2) rfl (flt hc_2).1 ?_
      show Steps p.tables e below (s₁.setTop (mkF m 5 #[.val (.int p1), .val (.int p2)] [])) _
      refine XS.iloadN X0.here hx rfl (hb hby d2_5) rfl ?_
      show Steps p.tables e below (s₁.setTop (mkF m 6 #[.val (.int p1), .val (.int p2)] [(.int p1)])) _
      refine XS.goto X0.here hx rfl (pc0 := 6) (pc' := 10) rfl (hb hby d2_6) (by decide) (by decide) ?_
      show Steps p.tables e below (s₁.setTop (mkF m 10 #[.val (.int p1), .val (.int p2)] [(.int p1)])) _
      exact retI X0 hx Bd.returns (hb hby d2_10) hr
    · show Q2 p1 p2 h0 n0 _ s₁.heap _
      rw [e0]
      exact ⟨by rw [own_max, if_neg hc_2], N0, rfl⟩
theorem d5_0 : decode method_3_code 0 = .ok (.aload_n 0, 1) := by decide +kernel
theorem d5_1 : decode method_3_code 1 = .ok (.iload_n 1, 1) := by decide +kernel
theorem d5_2 : decode method_3_code 2 = .ok (.baload, 1) := by decide +kernel
theorem d5_3 : decode method_3_code 3 = .ok (.bipush 10, 2) := by decide +kernel
theorem d5_5 : decode method_3_code 5 = .ok (.if_icmp .eq 5, 3) := by decide +kernel
theorem d5_10 : decode method_3_code 10 = .ok (.aload_n 0, 1) := by decide +kernel
theorem d5_11 : decode method_3_code 11 = .ok (.iload_n 1, 1) := by decide +kernel
theorem d5_12 : decode method_3_code 12 = .ok (.iconst 1, 1) := by decide +kernel
theorem d5_13 : decode method_3_code 13 = .ok (.isub, 1) := by decide +kernel
theorem d5_14 : decode method_3_code 14 = .ok (.baload, 1) := by decide +kernel
theorem d5_15 : decode method_3_code 15 = .ok (.bipush 10, 2) := by decide +kernel
theorem d5_17 : decode method_3_code 17 = .ok (.if_icmp .ne 5, 3) := by decide +kernel
theorem d5_20 : decode method_3_code 20 = .ok (.iconst 1, 1) := by decide +kernel
theorem d5_21 : decode method_3_code 21 = .ok (.ireturn, 1) := by decide +kernel
theorem d5_22 : decode method_3_code 22 = .ok (.iload_n 1, 1) := by decide +kernel
theorem d5_23 : decode method_3_code 23 = .ok (.iconst 2, 1) := by decide +kernel
theorem d5_24 : decode method_3_code 24 = .ok (.if_icmp .lt 27, 3) := by decide +kernel
theorem d5_51 : decode method_3_code 51 = .ok (.iconst 0, 1) := by decide +kernel
theorem d5_52 : decode method_3_code 52 = .ok (.ireturn, 1) := by decide +kernel
theorem d5_27 : decode method_3_code 27 = .ok (.aload_n 0, 1) := by decide +kernel
theorem d5_28 : decode method_3_code 28 = .ok (.iload_n 1, 1) := by decide +kernel
theorem d5_29 : decode method_3_code 29 = .ok (.iconst 1, 1) := by decide +kernel
theorem d5_30 : decode method_3_code 30 = .ok (.isub, 1) := by decide +kernel
theorem d5_31 : decode method_3_code 31 = .ok (.baload, 1) := by decide +kernel
theorem d5_32 : decode method_3_code 32 = .ok (.bipush 13, 2) := by decide +kernel
theorem d5_34 : decode method_3_code 34 = .ok (.if_icmp .ne 17, 3) := by decide +kernel
theorem d5_37 : decode method_3_code 37 = .ok (.aload_n 0, 1) := by decide +kernel
theorem d5_38 : decode method_3_code 38 = .ok (.iload_n 1, 1) := by decide +kernel
theorem d5_39 : decode method_3_code 39 = .ok (.iconst 2, 1) := by decide +kernel
theorem d5_40 : decode method_3_code 40 = .ok (.isub, 1) := by decide +kernel
theorem d5_41 : decode method_3_code 41 = .ok (.baload, 1) := by decide +kernel
theorem d5_42 : decode method_3_code 42 = .ok (.bipush 10, 2) := by decide +kernel
theorem d5_44 : decode method_3_code 44 = .ok (.if_icmp .ne 7, 3) := by decide +kernel
theorem d5_47 : decode method_3_code 47 = .ok (.iconst 1, 1) := by decide +kernel
theorem d5_48 : decode method_3_code 48 = .ok (.goto 4, 3) := by decide +kernel
theorem d5_8 : decode method_3_code 8 = .ok (.iconst 0, 1) := by decide +kernel
theorem d5_9 : decode method_3_code 9 = .ok (.ireturn, 1) := by decide +kernel
theorem ef_5_RI (m : MethodId) (x0 : Addr) (x1 : Int32) : entryFrame m #[(.ref x0), (.int x1)] 2 = mkF m 0 #[.val (.ref x0), .val (.int x1)] [] := by first | (simp [entryFrame, mkF, argsToLocals, Value.category]; done) | rfl
def own_blank (p2 : Int32) (f1 : Nat → Int32) : Int32 := if (f1 (p2).toNatClampNeg) = (10 : Int32) then (if (f1 ((p2 - (1 : Int32))).toNatClampNeg) = (10 : Int32) then (1 : Int32) else (if p2 < (2 : Int32) then (0 : Int32) else (if (f1 ((p2 - (1 : Int32))).toNatClampNeg) = (13 : Int32) then (if (f1 ((p2 - (2 : Int32))).toNatClampNeg) = (10 : Int32) then (1 : Int32) else (0 : Int32)) else (0 : Int32)))) else (0 : Int32)
def Q5 (Z : State) (a1 : Addr) (p2 : Int32) (f1 : Nat → Int32) (h0 : Heap) (n0 : Nat) (v : Option Value) (h : Heap) (L : List Loc) : Prop := v = some (.int (own_blank p2 f1)) ∧ Fr n0 L ∧ h = h0
theorem pn_5 : plainName "com/example/parcelwright/parcelwright/soap/HttpHeadEndPinLaw" = true := by first | (simp [plainName, overriddenIn]; done) | decide +kernel
set_option maxRecDepth 65536 in
set_option maxHeartbeats 40000000 in
theorem rm5 (l : Launch) (Z : State) (a0 : Array Value) (hw : ∀ d ∈ tables_1, d.before a0 Z = true) (ws : List Jvm.Cond) (a1 : Addr) (p2 : Int32) (f1 : Nat → Int32) (h0 : Heap) (n0 : Nat) (Z0 : n0 ≤ h0.size) (F0 : own_arr .byte Z h0 a1 6 f1) (hlo : 1 ≤ p2.toInt) (hhi : p2.toInt < (6 : Nat)) :
    MetFree l (⟨"com/example/parcelwright/parcelwright/soap/HttpHeadEndPinLaw", "blankEnd", "([BI)Z"⟩ : MethodName) (head1 (Jvm.Cond.code (⟨"com/example/parcelwright/parcelwright/soap/HttpHeadEndPinLaw", "blankEnd", "([BI)Z"⟩ : MethodName) method_3_code 2 (some .boolean) :: ws) ({ frames := 0, cells := 0, slots := 0, locals := 0 } : Room)) (fun a U => a = #[(.ref a1), (.int p2)] ∧ Z.Warmed39 U.vm ∧ U.heap = h0) (fun _ _ _ _ _ => True) (fun _ U o U' => ∃ v L, o = .returned v ∧ Q5 Z a1 p2 f1 h0 n0 v U'.heap L ∧ FrameEnd U o U' L ({ frames := 0, cells := 0, slots := 0, locals := 0 } : Room).cells ({ frames := 0, cells := 0, slots := 0, locals := 0 } : Room).slots) := by
  refine MetFree.of_bodySF (plainFor_of_name pn_5) hisR ?_
  intro p e s m args below meth c s₁ Bd hml0 hP hK
  obtain ⟨rfl, hZ, hh⟩ := hP
  have hx := Bd.exec
  have hby := Bd.bytes
  have hml : c.maxLocals = 2 := hml0
  have hown : s.vm.findClass "com/example/parcelwright/parcelwright/soap/HttpHeadEndPinLaw" = some m.cls := findClass_of_methodNamed Bd.named
  have hnm := (name_of_methodNamed Bd.named Bd.method).1
  have X0 : Stand p l e ({ frames := 0, cells := 0, slots := 0, locals := 0 } : Room) s m #[(.ref a1), (.int p2)] below meth c s₁ [] 0 0 := Stand.of_body Bd
  have e0 : s₁.heap = h0 := by rw [← hh, Bd.state]; rfl
  have N0 := Fr.nil n0
  have pre0 : ∀ t, Steps p.tables e below (s₁.setTop (mkF m 0 #[.val (.ref a1), .val (.int p2)] [])) t → Steps p.tables e below (s₁.setTop (entryFrame m #[(.ref a1), (.int p2)] 2)) t := fun t k => castTop (ef_5_RI m a1 p2) k
  obtain ⟨cl_1, Ar_1, Sz_1, At_1⟩ := F0
  have pr_2 : ∀ t, Steps p.tables e below (s₁.setTop (mkF m 5 #[.val (.ref a1), .val (.int p2)] [(.int (10 : Int32)), (.int (f1 (p2).toNatClampNeg))])) t → Steps p.tables e below (s₁.setTop (entryFrame m #[(.ref a1), (.int p2)] 2)) t := fun t k => by
    refine pre0 _ ?_
    show Steps p.tables e below (s₁.setTop (mkF m 0 #[.val (.ref a1), .val (.int p2)] [])) _
    refine XS.aloadN X0.here hx rfl (hb hby d5_0) rfl rfl ?_
    show Steps p.tables e below (s₁.setTop (mkF m 1 #[.val (.ref a1), .val (.int p2)] [(.ref a1)])) _
    refine XS.iloadN X0.here hx rfl (hb hby d5_1) rfl ?_
    show Steps p.tables e below (s₁.setTop (mkF m 2 #[.val (.ref a1), .val (.int p2)] [(.int p2), (.ref a1)])) _
    refine X0.baloadBytes hx (j := p2) (v := (.int (f1 (p2).toNatClampNeg))) (by rw [e0]; exact Ar_1.1) (State.isArrayOf_alike hZ.alike Ar_1.2.1) Ar_1.2.2 (own_inb Sz_1 (show ¬ (p2 < 0 ∨ 6 ≤ (p2).toNatClampNeg) from (own_p0 hlo hhi))) (At_1 _ (own_ltn (show ¬ (p2 < 0 ∨ 6 ≤ (p2).toNatClampNeg) from (own_p0 hlo hhi)))) (g := (mkF m 2 #[.val (.ref a1), .val (.int p2)] [(.int p2), (.ref a1)])) rfl rfl (hb hby d5_2) _ ?_
    show Steps p.tables e below (s₁.setTop (mkF m 3 #[.val (.ref a1), .val (.int p2)] [(.int (f1 (p2).toNatClampNeg))])) _
    refine XS.bipush X0.here hx rfl (hb hby d5_3) ?_
    exact k
  by_cases hc_3 : (f1 (p2).toNatClampNeg) = (10 : Int32)
  · have pr_4 : ∀ t, Steps p.tables e below (s₁.setTop (mkF m 17 #[.val (.ref a1), .val (.int p2)] [(.int (10 : Int32)), (.int (f1 ((p2 - (1 : Int32))).toNatClampNeg))])) t → Steps p.tables e below (s₁.setTop (entryFrame m #[(.ref a1), (.int p2)] 2)) t := fun t k => by
      refine pr_2 _ ?_
      show Steps p.tables e below (s₁.setTop (mkF m 5 #[.val (.ref a1), .val (.int p2)] [(.int (10 : Int32)), (.int (f1 (p2).toNatClampNeg))])) _
      refine XS.icmpYes X0.here hx rfl (pc0 := 5) (pc' := 10) rfl (hb hby d5_5) rfl (teq hc_3).1 (by decide) (by decide) ?_
      show Steps p.tables e below (s₁.setTop (mkF m 10 #[.val (.ref a1), .val (.int p2)] [])) _
      refine XS.aloadN X0.here hx rfl (hb hby d5_10) rfl rfl ?_
      show Steps p.tables e below (s₁.setTop (mkF m 11 #[.val (.ref a1), .val (.int p2)] [(.ref a1)])) _
      refine XS.iloadN X0.here hx rfl (hb hby d5_11) rfl ?_
      show Steps p.tables e below (s₁.setTop (mkF m 12 #[.val (.ref a1), .val (.int p2)] [(.int p2), (.ref a1)])) _
      refine XS.iconst X0.here hx rfl (hb hby d5_12) ?_
      show Steps p.tables e below (s₁.setTop (mkF m 13 #[.val (.ref a1), .val (.int p2)] [(.int (1 : Int32)), (.int p2), (.ref a1)])) _
      refine XS.isub X0.here hx rfl (hb hby d5_13) rfl ?_
      show Steps p.tables e below (s₁.setTop (mkF m 14 #[.val (.ref a1), .val (.int p2)] [(.int (p2 - (1 : Int32))), (.ref a1)])) _
      refine X0.baloadBytes hx (j := (p2 - (1 : Int32))) (v := (.int (f1 ((p2 - (1 : Int32))).toNatClampNeg))) (by rw [e0]; exact Ar_1.1) (State.isArrayOf_alike hZ.alike Ar_1.2.1) Ar_1.2.2 (own_inb Sz_1 (show ¬ ((p2 - (1 : Int32)) < 0 ∨ 6 ≤ ((p2 - (1 : Int32))).toNatClampNeg) from (own_p1 hlo hhi))) (At_1 _ (own_ltn (show ¬ ((p2 - (1 : Int32)) < 0 ∨ 6 ≤ ((p2 - (1 : Int32))).toNatClampNeg) from (own_p1 hlo hhi)))) (g := (mkF m 14 #[.val (.ref a1), .val (.int p2)] [(.int (p2 - (1 : Int32))), (.ref a1)])) rfl rfl (hb hby d5_14) _ ?_
      show Steps p.tables e below (s₁.setTop (mkF m 15 #[.val (.ref a1), .val (.int p2)] [(.int (f1 ((p2 - (1 : Int32))).toNatClampNeg))])) _
      refine XS.bipush X0.here hx rfl (hb hby d5_15) ?_
      exact k
    by_cases hc_5 : (f1 ((p2 - (1 : Int32))).toNatClampNeg) = (10 : Int32)
    · obtain ⟨fs, hr, hrun, hended, hW, hsame⟩ := X0.leave (v := some (.int (1 : Int32))) (fun h => by rw [Bd.returns] at h; cases h)
      refine ⟨_, _, pr_4 _ ?_, hrun, hended, _, _, rfl, ?_, ⟨_, rfl⟩, hW, hsame.mono (by decide) (by decide)⟩
      · show Steps p.tables e below (s₁.setTop (mkF m 17 #[.val (.ref a1), .val (.int p2)] [(.int (10 : Int32)), (.int (f1 ((p2 - (1 : Int32))).toNatClampNeg))])) _
        refine XS.icmpNo X0.here hx rfl (hb hby d5_17) rfl (teq hc_5).2 ?_
        show Steps p.tables e below (s₁.setTop (mkF m 20 #[.val (.ref a1), .val (.int p2)] [])) _
        refine XS.iconst X0.here hx rfl (hb hby d5_20) ?_
        show Steps p.tables e below (s₁.setTop (mkF m 21 #[.val (.ref a1), .val (.int p2)] [(.int (1 : Int32))])) _
        exact retN X0 hx (t := .boolean) Bd.returns (by simp) (hb hby d5_21) hr
      · show Q5 Z a1 p2 f1 h0 n0 _ s₁.heap _
        rw [e0]
        exact ⟨by rw [own_blank, if_pos hc_3, if_pos hc_5], N0, rfl⟩
    · have pr_6 : ∀ t, Steps p.tables e below (s₁.setTop (mkF m 24 #[.val (.ref a1), .val (.int p2)] [(.int (2 : Int32)), (.int p2)])) t → Steps p.tables e below (s₁.setTop (entryFrame m #[(.ref a1), (.int p2)] 2)) t := fun t k => by
        refine pr_4 _ ?_
        show Steps p.tables e below (s₁.setTop (mkF m 17 #[.val (.ref a1), .val (.int p2)] [(.int (10 : Int32)), (.int (f1 ((p2 - (1 : Int32))).toNatClampNeg))])) _
        refine XS.icmpYes X0.here hx rfl (pc0 := 17) (pc' := 22) rfl (hb hby d5_17) rfl (feq hc_5).2 (by decide) (by decide) ?_
        show Steps p.tables e below (s₁.setTop (mkF m 22 #[.val (.ref a1), .val (.int p2)] [])) _
        refine XS.iloadN X0.here hx rfl (hb hby d5_22) rfl ?_
        show Steps p.tables e below (s₁.setTop (mkF m 23 #[.val (.ref a1), .val (.int p2)] [(.int p2)])) _
        refine XS.iconst X0.here hx rfl (hb hby d5_23) ?_
        exact k
      by_cases hc_7 : p2 < (2 : Int32)
      · obtain ⟨fs, hr, hrun, hended, hW, hsame⟩ := X0.leave (v := some (.int (0 : Int32))) (fun h => by rw [Bd.returns] at h; cases h)
        refine ⟨_, _, pr_6 _ ?_, hrun, hended, _, _, rfl, ?_, ⟨_, rfl⟩, hW, hsame.mono (by decide) (by decide)⟩
        · show Steps p.tables e below (s₁.setTop (mkF m 24 #[.val (.ref a1), .val (.int p2)] [(.int (2 : Int32)), (.int p2)])) _
          refine XS.icmpYes X0.here hx rfl (pc0 := 24) (pc' := 51) rfl (hb hby d5_24) rfl (tlt hc_7).1 (by decide) (by decide) ?_
          show Steps p.tables e below (s₁.setTop (mkF m 51 #[.val (.ref a1), .val (.int p2)] [])) _
          refine XS.iconst X0.here hx rfl (hb hby d5_51) ?_
          show Steps p.tables e below (s₁.setTop (mkF m 52 #[.val (.ref a1), .val (.int p2)] [(.int (0 : Int32))])) _
          exact retN X0 hx (t := .boolean) Bd.returns (by simp) (hb hby d5_52) hr
        · show Q5 Z a1 p2 f1 h0 n0 _ s₁.heap _
          rw [e0]
          exact ⟨by rw [own_blank, if_pos hc_3, if_neg hc_5, if_pos hc_7], N0, rfl⟩
      · have pr_8 : ∀ t, Steps p.tables e below (s₁.setTop (mkF m 34 #[.val (.ref a1), .val (.int p2)] [(.int (13 : Int32)), (.int (f1 ((p2 - (1 : Int32))).toNatClampNeg))])) t → Steps p.tables e below (s₁.setTop (entryFrame m #[(.ref a1), (.int p2)] 2)) t := fun t k => by
          refine pr_6 _ ?_
          show Steps p.tables e below (s₁.setTop (mkF m 24 #[.val (.ref a1), .val (.int p2)] [(.int (2 : Int32)), (.int p2)])) _
          refine XS.icmpNo X0.here hx rfl (hb hby d5_24) rfl (flt hc_7).1 ?_
          show Steps p.tables e below (s₁.setTop (mkF m 27 #[.val (.ref a1), .val (.int p2)] [])) _
          refine XS.aloadN X0.here hx rfl (hb hby d5_27) rfl rfl ?_
          show Steps p.tables e below (s₁.setTop (mkF m 28 #[.val (.ref a1), .val (.int p2)] [(.ref a1)])) _
          refine XS.iloadN X0.here hx rfl (hb hby d5_28) rfl ?_
          show Steps p.tables e below (s₁.setTop (mkF m 29 #[.val (.ref a1), .val (.int p2)] [(.int p2), (.ref a1)])) _
          refine XS.iconst X0.here hx rfl (hb hby d5_29) ?_
          show Steps p.tables e below (s₁.setTop (mkF m 30 #[.val (.ref a1), .val (.int p2)] [(.int (1 : Int32)), (.int p2), (.ref a1)])) _
          refine XS.isub X0.here hx rfl (hb hby d5_30) rfl ?_
          show Steps p.tables e below (s₁.setTop (mkF m 31 #[.val (.ref a1), .val (.int p2)] [(.int (p2 - (1 : Int32))), (.ref a1)])) _
          refine X0.baloadBytes hx (j := (p2 - (1 : Int32))) (v := (.int (f1 ((p2 - (1 : Int32))).toNatClampNeg))) (by rw [e0]; exact Ar_1.1) (State.isArrayOf_alike hZ.alike Ar_1.2.1) Ar_1.2.2 (own_inb Sz_1 (show ¬ ((p2 - (1 : Int32)) < 0 ∨ 6 ≤ ((p2 - (1 : Int32))).toNatClampNeg) from (own_p1 hlo hhi))) (At_1 _ (own_ltn (show ¬ ((p2 - (1 : Int32)) < 0 ∨ 6 ≤ ((p2 - (1 : Int32))).toNatClampNeg) from (own_p1 hlo hhi)))) (g := (mkF m 31 #[.val (.ref a1), .val (.int p2)] [(.int (p2 - (1 : Int32))), (.ref a1)])) rfl rfl (hb hby d5_31) _ ?_
          show Steps p.tables e below (s₁.setTop (mkF m 32 #[.val (.ref a1), .val (.int p2)] [(.int (f1 ((p2 - (1 : Int32))).toNatClampNeg))])) _
          refine XS.bipush X0.here hx rfl (hb hby d5_32) ?_
          exact k
        by_cases hc_9 : (f1 ((p2 - (1 : Int32))).toNatClampNeg) = (13 : Int32)
        · have pr_10 : ∀ t, Steps p.tables e below (s₁.setTop (mkF m 44 #[.val (.ref a1), .val (.int p2)] [(.int (10 : Int32)), (.int (f1 ((p2 - (2 : Int32))).toNatClampNeg))])) t → Steps p.tables e below (s₁.setTop (entryFrame m #[(.ref a1), (.int p2)] 2)) t := fun t k => by
            refine pr_8 _ ?_
            show Steps p.tables e below (s₁.setTop (mkF m 34 #[.val (.ref a1), .val (.int p2)] [(.int (13 : Int32)), (.int (f1 ((p2 - (1 : Int32))).toNatClampNeg))])) _
            refine XS.icmpNo X0.here hx rfl (hb hby d5_34) rfl (teq hc_9).2 ?_
            show Steps p.tables e below (s₁.setTop (mkF m 37 #[.val (.ref a1), .val (.int p2)] [])) _
            refine XS.aloadN X0.here hx rfl (hb hby d5_37) rfl rfl ?_
            show Steps p.tables e below (s₁.setTop (mkF m 38 #[.val (.ref a1), .val (.int p2)] [(.ref a1)])) _
            refine XS.iloadN X0.here hx rfl (hb hby d5_38) rfl ?_
            show Steps p.tables e below (s₁.setTop (mkF m 39 #[.val (.ref a1), .val (.int p2)] [(.int p2), (.ref a1)])) _
            refine XS.iconst X0.here hx rfl (hb hby d5_39) ?_
            show Steps p.tables e below (s₁.setTop (mkF m 40 #[.val (.ref a1), .val (.int p2)] [(.int (2 : Int32)), (.int p2), (.ref a1)])) _
            refine XS.isub X0.here hx rfl (hb hby d5_40) rfl ?_
            show Steps p.tables e below (s₁.setTop (mkF m 41 #[.val (.ref a1), .val (.int p2)] [(.int (p2 - (2 : Int32))), (.ref a1)])) _
            refine X0.baloadBytes hx (j := (p2 - (2 : Int32))) (v := (.int (f1 ((p2 - (2 : Int32))).toNatClampNeg))) (by rw [e0]; exact Ar_1.1) (State.isArrayOf_alike hZ.alike Ar_1.2.1) Ar_1.2.2 (own_inb Sz_1 (show ¬ ((p2 - (2 : Int32)) < 0 ∨ 6 ≤ ((p2 - (2 : Int32))).toNatClampNeg) from (own_p2 (own_ge2 hc_7) hhi))) (At_1 _ (own_ltn (show ¬ ((p2 - (2 : Int32)) < 0 ∨ 6 ≤ ((p2 - (2 : Int32))).toNatClampNeg) from (own_p2 (own_ge2 hc_7) hhi)))) (g := (mkF m 41 #[.val (.ref a1), .val (.int p2)] [(.int (p2 - (2 : Int32))), (.ref a1)])) rfl rfl (hb hby d5_41) _ ?_
            show Steps p.tables e below (s₁.setTop (mkF m 42 #[.val (.ref a1), .val (.int p2)] [(.int (f1 ((p2 - (2 : Int32))).toNatClampNeg))])) _
            refine XS.bipush X0.here hx rfl (hb hby d5_42) ?_
            exact k
          by_cases hc_11 : (f1 ((p2 - (2 : Int32))).toNatClampNeg) = (10 : Int32)
          · obtain ⟨fs, hr, hrun, hended, hW, hsame⟩ := X0.leave (v := some (.int (1 : Int32))) (fun h => by rw [Bd.returns] at h; cases h)
            refine ⟨_, _, pr_10 _ ?_, hrun, hended, _, _, rfl, ?_, ⟨_, rfl⟩, hW, hsame.mono (by decide) (by decide)⟩
            · show Steps p.tables e below (s₁.setTop (mkF m 44 #[.val (.ref a1), .val (.int p2)] [(.int (10 : Int32)), (.int (f1 ((p2 - (2 : Int32))).toNatClampNeg))])) _
              refine XS.icmpNo X0.here hx rfl (hb hby d5_44) rfl (teq hc_11).2 ?_
              show Steps p.tables e below (s₁.setTop (mkF m 47 #[.val (.ref a1), .val (.int p2)] [])) _
              refine XS.iconst X0.here hx rfl (hb hby d5_47) ?_
              show Steps p.tables e below (s₁.setTop (mkF m 48 #[.val (.ref a1), .val (.int p2)] [(.int (1 : Int32))])) _
              refine XS.goto X0.here hx rfl (pc0 := 48) (pc' := 52) rfl (hb hby d5_48) (by decide) (by decide) ?_
              show Steps p.tables e below (s₁.setTop (mkF m 52 #[.val (.ref a1), .val (.int p2)] [(.int (1 : Int32))])) _
              exact retN X0 hx (t := .boolean) Bd.returns (by simp) (hb hby d5_52) hr
            · show Q5 Z a1 p2 f1 h0 n0 _ s₁.heap _
              rw [e0]
              exact ⟨by rw [own_blank, if_pos hc_3, if_neg hc_5, if_neg hc_7, if_pos hc_9, if_pos hc_11], N0, rfl⟩
          · obtain ⟨fs, hr, hrun, hended, hW, hsame⟩ := X0.leave (v := some (.int (0 : Int32))) (fun h => by rw [Bd.returns] at h; cases h)
            refine ⟨_, _, pr_10 _ ?_, hrun, hended, _, _, rfl, ?_, ⟨_, rfl⟩, hW, hsame.mono (by decide) (by decide)⟩
            · show Steps p.tables e below (s₁.setTop (mkF m 44 #[.val (.ref a1), .val (.int p2)] [(.int (10 : Int32)), (.int (f1 ((p2 - (2 : Int32))).toNatClampNeg))])) _
              refine XS.icmpYes X0.here hx rfl (pc0 := 44) (pc' := 51) rfl (hb hby d5_44) rfl (feq hc_11).2 (by decide) (by decide) ?_
              show Steps p.tables e below (s₁.setTop (mkF m 51 #[.val (.ref a1), .val (.int p2)] [])) _
              refine XS.iconst X0.here hx rfl (hb hby d5_51) ?_
              show Steps p.tables e below (s₁.setTop (mkF m 52 #[.val (.ref a1), .val (.int p2)] [(.int (0 : Int32))])) _
              exact retN X0 hx (t := .boolean) Bd.returns (by simp) (hb hby d5_52) hr
            · show Q5 Z a1 p2 f1 h0 n0 _ s₁.heap _
              rw [e0]
              exact ⟨by rw [own_blank, if_pos hc_3, if_neg hc_5, if_neg hc_7, if_pos hc_9, if_neg hc_11], N0, rfl⟩
        · obtain ⟨fs, hr, hrun, hended, hW, hsame⟩ := X0.leave (v := some (.int (0 : Int32))) (fun h => by rw [Bd.returns] at h; cases h)
          refine ⟨_, _, pr_8 _ ?_, hrun, hended, _, _, rfl, ?_, ⟨_, rfl⟩, hW, hsame.mono (by decide) (by decide)⟩
          · show Steps p.tables e below (s₁.setTop (mkF m 34 #[.val (.ref a1), .val (.int p2)] [(.int (13 : Int32)), (.int (f1 ((p2 - (1 : Int32))).toNatClampNeg))])) _
            refine XS.icmpYes X0.here hx rfl (pc0 := 34) (pc' := 51) rfl (hb hby d5_34) rfl (feq hc_9).2 (by decide) (by decide) ?_
            show Steps p.tables e below (s₁.setTop (mkF m 51 #[.val (.ref a1), .val (.int p2)] [])) _
            refine XS.iconst X0.here hx rfl (hb hby d5_51) ?_
            show Steps p.tables e below (s₁.setTop (mkF m 52 #[.val (.ref a1), .val (.int p2)] [(.int (0 : Int32))])) _
            exact retN X0 hx (t := .boolean) Bd.returns (by simp) (hb hby d5_52) hr
          · show Q5 Z a1 p2 f1 h0 n0 _ s₁.heap _
            rw [e0]
            exact ⟨by rw [own_blank, if_pos hc_3, if_neg hc_5, if_neg hc_7, if_neg hc_9], N0, rfl⟩
  · obtain ⟨fs, hr, hrun, hended, hW, hsame⟩ := X0.leave (v := some (.int (0 : Int32))) (fun h => by rw [Bd.returns] at h; cases h)
    refine ⟨_, _, pr_2 _ ?_, hrun, hended, _, _, rfl, ?_, ⟨_, rfl⟩, hW, hsame.mono (by decide) (by decide)⟩
    · show Steps p.tables e below (s₁.setTop (mkF m 5 #[.val (.ref a1), .val (.int p2)] [(.int (10 : Int32)), (.int (f1 (p2).toNatClampNeg))])) _
      refine XS.icmpNo X0.here hx rfl (hb hby d5_5) rfl (feq hc_3).1 ?_
      show Steps p.tables e below (s₁.setTop (mkF m 8 #[.val (.ref a1), .val (.int p2)] [])) _
      refine XS.iconst X0.here hx rfl (hb hby d5_8) ?_
      show Steps p.tables e below (s₁.setTop (mkF m 9 #[.val (.ref a1), .val (.int p2)] [(.int (0 : Int32))])) _
      exact retN X0 hx (t := .boolean) Bd.returns (by simp) (hb hby d5_9) hr
    · show Q5 Z a1 p2 f1 h0 n0 _ s₁.heap _
      rw [e0]
      exact ⟨by rw [own_blank, if_neg hc_3], N0, rfl⟩
theorem d3_0 : decode method_4_code 0 = .ok (.iload_n 2, 1) := by decide +kernel
theorem d3_1 : decode method_4_code 1 = .ok (.iload_n 1, 1) := by decide +kernel
theorem d3_2 : decode method_4_code 2 = .ok (.if_icmp .gt 20, 3) := by decide +kernel
theorem d3_22 : decode method_4_code 22 = .ok (.iconst 0, 1) := by decide +kernel
theorem d3_23 : decode method_4_code 23 = .ok (.ireturn, 1) := by decide +kernel
theorem d3_5 : decode method_4_code 5 = .ok (.iload_n 1, 1) := by decide +kernel
theorem d3_6 : decode method_4_code 6 = .ok (.iload_n 3, 1) := by decide +kernel
theorem d3_7 : decode method_4_code 7 = .ok (.if_icmp .ge 15, 3) := by decide +kernel
theorem d3_10 : decode method_4_code 10 = .ok (.aload_n 0, 1) := by decide +kernel
theorem d3_11 : decode method_4_code 11 = .ok (.iload_n 1, 1) := by decide +kernel
theorem pd_1 : parseMethodDescriptor "([BI)Z" = some ⟨[(.array .byte), .int], some .boolean⟩ := by decide +kernel
theorem d3_12 : decode method_4_code 12 = .ok (.invokestatic 11, 3) := by decide +kernel
theorem d3_15 : decode method_4_code 15 = .ok (.ifCond .eq 7, 3) := by decide +kernel
theorem d3_18 : decode method_4_code 18 = .ok (.iconst 1, 1) := by decide +kernel
theorem d3_19 : decode method_4_code 19 = .ok (.goto 4, 3) := by decide +kernel
theorem ef_3_RIII (m : MethodId) (x0 : Addr) (x1 : Int32) (x2 : Int32) (x3 : Int32) : entryFrame m #[(.ref x0), (.int x1), (.int x2), (.int x3)] 4 = mkF m 0 #[.val (.ref x0), .val (.int x1), .val (.int x2), .val (.int x3)] [] := by first | (simp [entryFrame, mkF, argsToLocals, Value.category]; done) | rfl
def own_hit (p2 : Int32) (p3 : Int32) (p4 : Int32) (f1 : Nat → Int32) : Int32 := if p2 < p3 then (0 : Int32) else (if p2 < p4 then (if (own_blank p2 f1) = (0 : Int32) then (0 : Int32) else (1 : Int32)) else (0 : Int32))
def Q3 (Z : State) (a1 : Addr) (p2 : Int32) (p3 : Int32) (p4 : Int32) (f1 : Nat → Int32) (h0 : Heap) (n0 : Nat) (v : Option Value) (h : Heap) (L : List Loc) : Prop := v = some (.int (own_hit p2 p3 p4 f1)) ∧ Fr n0 L ∧ h = h0
theorem pn_3 : plainName "com/example/parcelwright/parcelwright/soap/HttpHeadEndPinLaw" = true := by first | (simp [plainName, overriddenIn]; done) | decide +kernel
set_option maxRecDepth 65536 in
set_option maxHeartbeats 40000000 in
theorem rm3 (l : Launch) (Z : State) (a0 : Array Value) (hw : ∀ d ∈ tables_1, d.before a0 Z = true) (ws : List Jvm.Cond) (a1 : Addr) (p2 : Int32) (p3 : Int32) (p4 : Int32) (f1 : Nat → Int32) (h0 : Heap) (n0 : Nat) (Z0 : n0 ≤ h0.size) (F0 : own_arr .byte Z h0 a1 6 f1) (hlo : 1 ≤ p2.toInt) (hhi : p2.toInt < (6 : Nat)) :
    MetFree l (⟨"com/example/parcelwright/parcelwright/soap/HttpHeadEndPinLaw", "hitAt", "([BIII)Z"⟩ : MethodName) (head1 (Jvm.Cond.code (⟨"com/example/parcelwright/parcelwright/soap/HttpHeadEndPinLaw", "hitAt", "([BIII)Z"⟩ : MethodName) method_4_code 4 (some .boolean) :: ws) ({ frames := 1, cells := 0, slots := 0, locals := 13 } : Room)) (fun a U => a = #[(.ref a1), (.int p2), (.int p3), (.int p4)] ∧ Z.Warmed39 U.vm ∧ U.heap = h0) (fun _ _ _ _ _ => True) (fun _ U o U' => ∃ v L, o = .returned v ∧ Q3 Z a1 p2 p3 p4 f1 h0 n0 v U'.heap L ∧ FrameEnd U o U' L ({ frames := 1, cells := 0, slots := 0, locals := 13 } : Room).cells ({ frames := 1, cells := 0, slots := 0, locals := 13 } : Room).slots) := by
  refine MetFree.of_bodySF (plainFor_of_name pn_3) hisR ?_
  intro p e s m args below meth c s₁ Bd hml0 hP hK
  obtain ⟨rfl, hZ, hh⟩ := hP
  have hx := Bd.exec
  have hby := Bd.bytes
  have hml : c.maxLocals = 4 := hml0
  have hown : s.vm.findClass "com/example/parcelwright/parcelwright/soap/HttpHeadEndPinLaw" = some m.cls := findClass_of_methodNamed Bd.named
  have hnm := (name_of_methodNamed Bd.named Bd.method).1
  have X0 : Stand p l e ({ frames := 1, cells := 0, slots := 0, locals := 13 } : Room) s m #[(.ref a1), (.int p2), (.int p3), (.int p4)] below meth c s₁ [] 0 0 := Stand.of_body Bd
  have e0 : s₁.heap = h0 := by rw [← hh, Bd.state]; rfl
  have N0 := Fr.nil n0
  have pre0 : ∀ t, Steps p.tables e below (s₁.setTop (mkF m 0 #[.val (.ref a1), .val (.int p2), .val (.int p3), .val (.int p4)] [])) t → Steps p.tables e below (s₁.setTop (entryFrame m #[(.ref a1), (.int p2), (.int p3), (.int p4)] 4)) t := fun t k => castTop (ef_3_RIII m a1 p2 p3 p4) k
  have pr_1 : ∀ t, Steps p.tables e below (s₁.setTop (mkF m 2 #[.val (.ref a1), .val (.int p2), .val (.int p3), .val (.int p4)] [(.int p2), (.int p3)])) t → Steps p.tables e below (s₁.setTop (entryFrame m #[(.ref a1), (.int p2), (.int p3), (.int p4)] 4)) t := fun t k => by
    refine pre0 _ ?_
    show Steps p.tables e below (s₁.setTop (mkF m 0 #[.val (.ref a1), .val (.int p2), .val (.int p3), .val (.int p4)] [])) _
    refine XS.iloadN X0.here hx rfl (hb hby d3_0) rfl ?_
    show Steps p.tables e below (s₁.setTop (mkF m 1 #[.val (.ref a1), .val (.int p2), .val (.int p3), .val (.int p4)] [(.int p3)])) _
    refine XS.iloadN X0.here hx rfl (hb hby d3_1) rfl ?_
    exact k
  by_cases hc_2 : p2 < p3
  · obtain ⟨fs, hr, hrun, hended, hW, hsame⟩ := X0.leave (v := some (.int (0 : Int32))) (fun h => by rw [Bd.returns] at h; cases h)
    refine ⟨_, _, pr_1 _ ?_, hrun, hended, _, _, rfl, ?_, ⟨_, rfl⟩, hW, hsame.mono (by decide) (by decide)⟩
    · show Steps p.tables e below (s₁.setTop (mkF m 2 #[.val (.ref a1), .val (.int p2), .val (.int p3), .val (.int p4)] [(.int p2), (.int p3)])) _
      refine XS.icmpYes X0.here hx rfl (pc0 := 2) (pc' := 22) rfl (hb hby d3_2) rfl (tlt hc_2).2.2.1 (by decide) (by decide) ?_
      show Steps p.tables e below (s₁.setTop (mkF m 22 #[.val (.ref a1), .val (.int p2), .val (.int p3), .val (.int p4)] [])) _
      refine XS.iconst X0.here hx rfl (hb hby d3_22) ?_
      show Steps p.tables e below (s₁.setTop (mkF m 23 #[.val (.ref a1), .val (.int p2), .val (.int p3), .val (.int p4)] [(.int (0 : Int32))])) _
      exact retN X0 hx (t := .boolean) Bd.returns (by simp) (hb hby d3_23) hr
    · show Q3 Z a1 p2 p3 p4 f1 h0 n0 _ s₁.heap _
      rw [e0]
      exact ⟨by rw [own_hit, if_pos hc_2], N0, rfl⟩
  · have pr_3 : ∀ t, Steps p.tables e below (s₁.setTop (mkF m 7 #[.val (.ref a1), .val (.int p2), .val (.int p3), .val (.int p4)] [(.int p4), (.int p2)])) t → Steps p.tables e below (s₁.setTop (entryFrame m #[(.ref a1), (.int p2), (.int p3), (.int p4)] 4)) t := fun t k => by
      refine pr_1 _ ?_
      show Steps p.tables e below (s₁.setTop (mkF m 2 #[.val (.ref a1), .val (.int p2), .val (.int p3), .val (.int p4)] [(.int p2), (.int p3)])) _
      refine XS.icmpNo X0.here hx rfl (hb hby d3_2) rfl (flt hc_2).2.2.1 ?_
      show Steps p.tables e below (s₁.setTop (mkF m 5 #[.val (.ref a1), .val (.int p2), .val (.int p3), .val (.int p4)] [])) _
      refine XS.iloadN X0.here hx rfl (hb hby d3_5) rfl ?_
      show Steps p.tables e below (s₁.setTop (mkF m 6 #[.val (.ref a1), .val (.int p2), .val (.int p3), .val (.int p4)] [(.int p2)])) _
      refine XS.iloadN X0.here hx rfl (hb hby d3_6) rfl ?_
      exact k
    by_cases hc_4 : p2 < p4
    · obtain ⟨_, _, ⟨T_5, L_5, k_5, n_5⟩, -, X_5, ⟨Lc_5, hQ_5, l_5, y_5, z_5⟩, st_5⟩ := Jvm.LawKit.callS X0 hx (y := (⟨"com/example/parcelwright/parcelwright/soap/HttpHeadEndPinLaw", "blankEnd", "([BI)Z"⟩ : MethodName)) hown (mvT hZ (hw _ (List.mem_of_getElem? (i := 20) rfl))) (mvT hZ (hw _ (List.mem_of_getElem? (i := 21) rfl))) (mvT hZ (hw _ (List.mem_of_getElem? (i := 3) rfl))) (mvT hZ (hw _ (List.mem_of_getElem? (i := 22) rfl))) (by decide) (backOf (W := 0) (rm5 l Z a0 hw [] a1 p2 f1 h0 n0 Z0 F0 hlo hhi) hZ (hw _ (List.mem_of_getElem? (i := 22) rfl)) (hw _ (List.mem_of_getElem? (i := 3) rfl)) (by decide) (by decide)) (g := (mkF m 12 #[.val (.ref a1), .val (.int p2), .val (.int p3), .val (.int p4)] [(.int p2), (.ref a1)])) rfl (by rw [hml]; rfl) (argsL := [(.ref a1), (.int p2)]) (rest := []) (lenOf pd_1 rfl) rfl (by show 2 * 0 + _ ≤ _; exact Nat.le_of_eq rfl) (hb hby d3_12) (fun _ _ => ⟨rfl, e0, (by decide : 0 + 0 ≤ _), (by decide : 0 + 0 ≤ _)⟩)
      dsimp only [Pt.U, Pt.locs, Pt.cells, Pt.slots] at X_5 l_5 y_5 z_5 st_5 hQ_5
      subst l_5 y_5 z_5
      obtain ⟨rfl, N_5q, e_5⟩ := hQ_5
      have N_5 := Fr.app N0 N_5q
      have pr_6 : ∀ t, Steps p.tables e below (T_5.setTop (mkF m 15 #[.val (.ref a1), .val (.int p2), .val (.int p3), .val (.int p4)] [(.int (own_blank p2 f1))])) t → Steps p.tables e below (s₁.setTop (entryFrame m #[(.ref a1), (.int p2), (.int p3), (.int p4)] 4)) t := fun t k => by
        refine pr_3 _ ?_
        show Steps p.tables e below (s₁.setTop (mkF m 7 #[.val (.ref a1), .val (.int p2), .val (.int p3), .val (.int p4)] [(.int p4), (.int p2)])) _
        refine XS.icmpNo X0.here hx rfl (hb hby d3_7) rfl (tlt hc_4).2.1 ?_
        show Steps p.tables e below (s₁.setTop (mkF m 10 #[.val (.ref a1), .val (.int p2), .val (.int p3), .val (.int p4)] [])) _
        refine XS.aloadN X0.here hx rfl (hb hby d3_10) rfl rfl ?_
        show Steps p.tables e below (s₁.setTop (mkF m 11 #[.val (.ref a1), .val (.int p2), .val (.int p3), .val (.int p4)] [(.ref a1)])) _
        refine XS.iloadN X0.here hx rfl (hb hby d3_11) rfl ?_
        show Steps p.tables e below (s₁.setTop (mkF m 12 #[.val (.ref a1), .val (.int p2), .val (.int p3), .val (.int p4)] [(.int p2), (.ref a1)])) _
        refine st_5 _ ?_
        exact k
      by_cases hc_7 : (own_blank p2 f1) = (0 : Int32)
      · obtain ⟨fs, hr, hrun, hended, hW, hsame⟩ := X_5.leave (v := some (.int (0 : Int32))) (fun h => by rw [Bd.returns] at h; cases h)
        refine ⟨_, _, pr_6 _ ?_, hrun, hended, _, _, rfl, ?_, ⟨_, rfl⟩, hW, hsame.mono (by decide) (by decide)⟩
        · show Steps p.tables e below (T_5.setTop (mkF m 15 #[.val (.ref a1), .val (.int p2), .val (.int p3), .val (.int p4)] [(.int (own_blank p2 f1))])) _
          refine XS.ifYes X_5.here hx rfl (pc0 := 15) (pc' := 22) rfl (hb hby d3_15) rfl ((if0 _ _).trans (teq hc_7).1) (by decide) (by decide) ?_
          show Steps p.tables e below (T_5.setTop (mkF m 22 #[.val (.ref a1), .val (.int p2), .val (.int p3), .val (.int p4)] [])) _
          refine XS.iconst X_5.here hx rfl (hb hby d3_22) ?_
          show Steps p.tables e below (T_5.setTop (mkF m 23 #[.val (.ref a1), .val (.int p2), .val (.int p3), .val (.int p4)] [(.int (0 : Int32))])) _
          exact retN X_5 hx (t := .boolean) Bd.returns (by simp) (hb hby d3_23) hr
        · show Q3 Z a1 p2 p3 p4 f1 h0 n0 _ T_5.heap _
          rw [e_5]
          exact ⟨by rw [own_hit, if_neg hc_2, if_pos hc_4, if_pos hc_7], N_5, rfl⟩
      · obtain ⟨fs, hr, hrun, hended, hW, hsame⟩ := X_5.leave (v := some (.int (1 : Int32))) (fun h => by rw [Bd.returns] at h; cases h)
        refine ⟨_, _, pr_6 _ ?_, hrun, hended, _, _, rfl, ?_, ⟨_, rfl⟩, hW, hsame.mono (by decide) (by decide)⟩
        · show Steps p.tables e below (T_5.setTop (mkF m 15 #[.val (.ref a1), .val (.int p2), .val (.int p3), .val (.int p4)] [(.int (own_blank p2 f1))])) _
          refine XS.ifNo X_5.here hx rfl (hb hby d3_15) rfl ((if0 _ _).trans (feq hc_7).1) ?_
          show Steps p.tables e below (T_5.setTop (mkF m 18 #[.val (.ref a1), .val (.int p2), .val (.int p3), .val (.int p4)] [])) _
          refine XS.iconst X_5.here hx rfl (hb hby d3_18) ?_
          show Steps p.tables e below (T_5.setTop (mkF m 19 #[.val (.ref a1), .val (.int p2), .val (.int p3), .val (.int p4)] [(.int (1 : Int32))])) _
          refine XS.goto X_5.here hx rfl (pc0 := 19) (pc' := 23) rfl (hb hby d3_19) (by decide) (by decide) ?_
          show Steps p.tables e below (T_5.setTop (mkF m 23 #[.val (.ref a1), .val (.int p2), .val (.int p3), .val (.int p4)] [(.int (1 : Int32))])) _
          exact retN X_5 hx (t := .boolean) Bd.returns (by simp) (hb hby d3_23) hr
        · show Q3 Z a1 p2 p3 p4 f1 h0 n0 _ T_5.heap _
          rw [e_5]
          exact ⟨by rw [own_hit, if_neg hc_2, if_pos hc_4, if_neg hc_7], N_5, rfl⟩
    · obtain ⟨fs, hr, hrun, hended, hW, hsame⟩ := X0.leave (v := some (.int (0 : Int32))) (fun h => by rw [Bd.returns] at h; cases h)
      refine ⟨_, _, pr_3 _ ?_, hrun, hended, _, _, rfl, ?_, ⟨_, rfl⟩, hW, hsame.mono (by decide) (by decide)⟩
      · show Steps p.tables e below (s₁.setTop (mkF m 7 #[.val (.ref a1), .val (.int p2), .val (.int p3), .val (.int p4)] [(.int p4), (.int p2)])) _
        refine XS.icmpYes X0.here hx rfl (pc0 := 7) (pc' := 22) rfl (hb hby d3_7) rfl (flt hc_4).2.1 (by decide) (by decide) ?_
        show Steps p.tables e below (s₁.setTop (mkF m 22 #[.val (.ref a1), .val (.int p2), .val (.int p3), .val (.int p4)] [])) _
        refine XS.iconst X0.here hx rfl (hb hby d3_22) ?_
        show Steps p.tables e below (s₁.setTop (mkF m 23 #[.val (.ref a1), .val (.int p2), .val (.int p3), .val (.int p4)] [(.int (0 : Int32))])) _
        exact retN X0 hx (t := .boolean) Bd.returns (by simp) (hb hby d3_23) hr
      · show Q3 Z a1 p2 p3 p4 f1 h0 n0 _ s₁.heap _
        rw [e0]
        exact ⟨by rw [own_hit, if_neg hc_2, if_neg hc_4], N0, rfl⟩
theorem d4_0 : decode prog_15_method_2_code 0 = .ok (.iconst 1, 1) := by decide +kernel
theorem d4_1 : decode prog_15_method_2_code 1 = .ok (.iload_n 1, 1) := by decide +kernel
theorem pd_2 : parseMethodDescriptor "(II)I" = some ⟨[.int, .int], some .int⟩ := by decide +kernel
theorem d4_2 : decode prog_15_method_2_code 2 = .ok (.invokestatic 25, 3) := by decide +kernel
theorem d4_5 : decode prog_15_method_2_code 5 = .ok (.istore_n 3, 1) := by decide +kernel
theorem d4_6 : decode prog_15_method_2_code 6 = .ok (.iload_n 3, 1) := by decide +kernel
theorem d4_7 : decode prog_15_method_2_code 7 = .ok (.iload_n 2, 1) := by decide +kernel
theorem d4_8 : decode prog_15_method_2_code 8 = .ok (.if_icmp .ge 68, 3) := by decide +kernel
theorem d4_11 : decode prog_15_method_2_code 11 = .ok (.aload_n 0, 1) := by decide +kernel
theorem d4_12 : decode prog_15_method_2_code 12 = .ok (.iload_n 3, 1) := by decide +kernel
theorem d4_13 : decode prog_15_method_2_code 13 = .ok (.iconst 1, 1) := by decide +kernel
theorem d4_14 : decode prog_15_method_2_code 14 = .ok (.isub, 1) := by decide +kernel
theorem d4_15 : decode prog_15_method_2_code 15 = .ok (.baload, 1) := by decide +kernel
theorem d4_16 : decode prog_15_method_2_code 16 = .ok (.bipush 10, 2) := by decide +kernel
theorem d4_18 : decode prog_15_method_2_code 18 = .ok (.if_icmp .eq 28, 3) := by decide +kernel
theorem d4_46 : decode prog_15_method_2_code 46 = .ok (.iconst 1, 1) := by decide +kernel
theorem d4_47 : decode prog_15_method_2_code 47 = .ok (.goto 4, 3) := by decide +kernel
theorem d4_51 : decode prog_15_method_2_code 51 = .ok (.istore 4, 2) := by decide +kernel
theorem d4_53 : decode prog_15_method_2_code 53 = .ok (.aload_n 0, 1) := by decide +kernel
theorem d4_54 : decode prog_15_method_2_code 54 = .ok (.iload_n 3, 1) := by decide +kernel
theorem d4_55 : decode prog_15_method_2_code 55 = .ok (.baload, 1) := by decide +kernel
theorem d4_56 : decode prog_15_method_2_code 56 = .ok (.bipush 10, 2) := by decide +kernel
theorem d4_58 : decode prog_15_method_2_code 58 = .ok (.if_icmp .ne 12, 3) := by decide +kernel
theorem d4_61 : decode prog_15_method_2_code 61 = .ok (.iload 4, 2) := by decide +kernel
theorem d4_63 : decode prog_15_method_2_code 63 = .ok (.ifCond .eq 7, 3) := by decide +kernel
theorem d4_70 : decode prog_15_method_2_code 70 = .ok (.iinc 3 1, 3) := by decide +kernel
theorem d4_73 : decode prog_15_method_2_code 73 = .ok (.goto (-67), 3) := by decide +kernel
theorem d4_21 : decode prog_15_method_2_code 21 = .ok (.iload_n 3, 1) := by decide +kernel
theorem d4_22 : decode prog_15_method_2_code 22 = .ok (.iconst 1, 1) := by decide +kernel
theorem d4_23 : decode prog_15_method_2_code 23 = .ok (.if_icmp .le 27, 3) := by decide +kernel
theorem d4_26 : decode prog_15_method_2_code 26 = .ok (.aload_n 0, 1) := by decide +kernel
theorem d4_27 : decode prog_15_method_2_code 27 = .ok (.iload_n 3, 1) := by decide +kernel
theorem d4_28 : decode prog_15_method_2_code 28 = .ok (.iconst 1, 1) := by decide +kernel
theorem d4_29 : decode prog_15_method_2_code 29 = .ok (.isub, 1) := by decide +kernel
theorem d4_30 : decode prog_15_method_2_code 30 = .ok (.baload, 1) := by decide +kernel
theorem d4_31 : decode prog_15_method_2_code 31 = .ok (.bipush 13, 2) := by decide +kernel
theorem d4_33 : decode prog_15_method_2_code 33 = .ok (.if_icmp .ne 17, 3) := by decide +kernel
theorem d4_36 : decode prog_15_method_2_code 36 = .ok (.aload_n 0, 1) := by decide +kernel
theorem d4_37 : decode prog_15_method_2_code 37 = .ok (.iload_n 3, 1) := by decide +kernel
theorem d4_38 : decode prog_15_method_2_code 38 = .ok (.iconst 2, 1) := by decide +kernel
theorem d4_39 : decode prog_15_method_2_code 39 = .ok (.isub, 1) := by decide +kernel
theorem d4_40 : decode prog_15_method_2_code 40 = .ok (.baload, 1) := by decide +kernel
theorem d4_41 : decode prog_15_method_2_code 41 = .ok (.bipush 10, 2) := by decide +kernel
theorem d4_43 : decode prog_15_method_2_code 43 = .ok (.if_icmp .ne 7, 3) := by decide +kernel
theorem d4_50 : decode prog_15_method_2_code 50 = .ok (.iconst 0, 1) := by decide +kernel
theorem d4_76 : decode prog_15_method_2_code 76 = .ok (.iconst (-1), 1) := by decide +kernel
theorem d4_77 : decode prog_15_method_2_code 77 = .ok (.ireturn, 1) := by decide +kernel
theorem d4_66 : decode prog_15_method_2_code 66 = .ok (.iload_n 3, 1) := by decide +kernel
theorem d4_67 : decode prog_15_method_2_code 67 = .ok (.iconst 1, 1) := by decide +kernel
theorem d4_68 : decode prog_15_method_2_code 68 = .ok (.iadd, 1) := by decide +kernel
theorem d4_69 : decode prog_15_method_2_code 69 = .ok (.ireturn, 1) := by decide +kernel
theorem ef_4_RII (m : MethodId) (x0 : Addr) (x1 : Int32) (x2 : Int32) : entryFrame m #[(.ref x0), (.int x1), (.int x2)] 5 = mkF m 0 #[.val (.ref x0), .val (.int x1), .val (.int x2), .unset, .unset] [] := by first | (simp [entryFrame, mkF, argsToLocals, Value.category]; done) | rfl
def own_step (i : Int32) (p3 : Int32) (f1 : Nat → Int32) : Nat := if i < p3 then (if (f1 ((i - (1 : Int32))).toNatClampNeg) = (10 : Int32) then (if (f1 (i).toNatClampNeg) = (10 : Int32) then 1 else 2) else (if (1 : Int32) < i then (if (f1 ((i - (1 : Int32))).toNatClampNeg) = (13 : Int32) then (if (f1 ((i - (2 : Int32))).toNatClampNeg) = (10 : Int32) then (if (f1 (i).toNatClampNeg) = (10 : Int32) then 1 else 2) else (if (f1 (i).toNatClampNeg) = (10 : Int32) then 2 else 2)) else (if (f1 (i).toNatClampNeg) = (10 : Int32) then 2 else 2)) else (if (f1 (i).toNatClampNeg) = (10 : Int32) then 2 else 2))) else 0
def own_scan (f1 : Nat → Int32) (p3 : Int32) : Nat → Int32 → Int32
  | 0, _ => -1
  | k + 1, i => match own_step i p3 f1 with
    | 0 => -1
    | 1 => i + 1
    | _ => own_scan f1 p3 k (i + (1 : Int32))
theorem own_no {i p3 : Int32} (h2 : p3.toInt - i.toInt ≤ (0 : Nat)) : ¬ (i < p3) := by rw [Int32.lt_iff_toInt_lt]; omega
theorem own_succ {i p3 : Int32} (h : i < p3) (h6 : p3.toInt ≤ 6) : (i + (1 : Int32)).toInt = i.toInt + 1 := by
  have b := own_one
  have a := Int32.le_toInt i
  rw [Int32.lt_iff_toInt_lt] at h
  have e := Jvm.Kit.i32_add (p := i) (q := 1) (by omega) (by omega)
  omega
theorem own_next1 {i p3 : Int32} (h1 : 1 ≤ i.toInt) (h : i < p3) (h6 : p3.toInt ≤ 6) : 1 ≤ (i + (1 : Int32)).toInt := by rw [own_succ h h6]; omega
theorem own_next2 {i p3 : Int32} {k : Nat} (h1 : 1 ≤ i.toInt) (h : i < p3) (h6 : p3.toInt ≤ 6) (h2 : p3.toInt - i.toInt ≤ (k + 1 : Nat)) : p3.toInt - (i + (1 : Int32)).toInt ≤ (k : Nat) := by rw [own_succ h h6]; omega
theorem own_lo (p2 : Int32) : 1 ≤ (own_max (1 : Int32) p2).toInt := by
  unfold own_max
  have b := own_one
  by_cases h : (1 : Int32) < p2
  · rw [if_pos h]; rw [Int32.lt_iff_toInt_lt] at h; omega
  · rw [if_neg h]; omega
theorem own_fuel {p3 : Int32} (p2 : Int32) (h6 : p3.toInt ≤ 6) : p3.toInt - (own_max (1 : Int32) p2).toInt ≤ (6 : Nat) := by have := own_lo p2; omega
def Q4 (Z : State) (a1 : Addr) (p2 : Int32) (p3 : Int32) (f1 : Nat → Int32) (h0 : Heap) (n0 : Nat) (v : Option Value) (h : Heap) (L : List Loc) : Prop := v = some (.int (own_scan f1 p3 6 (own_max (1 : Int32) p2))) ∧ Fr n0 L ∧ h = h0
theorem pn_4 : plainName "com/example/parcelwright/parcelwright/soap/HttpHead" = true := by first | (simp [plainName, overriddenIn]; done) | decide +kernel
set_option maxRecDepth 65536 in
set_option maxHeartbeats 40000000 in
theorem rm4 (l : Launch) (Z : State) (a0 : Array Value) (hw : ∀ d ∈ tables_1, d.before a0 Z = true) (ws : List Jvm.Cond) (a1 : Addr) (p2 : Int32) (p3 : Int32) (f1 : Nat → Int32) (h0 : Heap) (n0 : Nat) (Z0 : n0 ≤ h0.size) (F0 : own_arr .byte Z h0 a1 6 f1) (h6 : p3.toInt ≤ 6) :
    MetFree l (⟨"com/example/parcelwright/parcelwright/soap/HttpHead", "end", "([BII)I"⟩ : MethodName) (head1 (Jvm.Cond.code (⟨"com/example/parcelwright/parcelwright/soap/HttpHead", "end", "([BII)I"⟩ : MethodName) prog_15_method_2_code 5 (some .int) :: ws) ({ frames := 1, cells := 0, slots := 0, locals := 13 } : Room)) (fun a U => a = #[(.ref a1), (.int p2), (.int p3)] ∧ Z.Warmed39 U.vm ∧ U.heap = h0) (fun _ _ _ _ _ => True) (fun _ U o U' => ∃ v L, o = .returned v ∧ Q4 Z a1 p2 p3 f1 h0 n0 v U'.heap L ∧ FrameEnd U o U' L ({ frames := 1, cells := 0, slots := 0, locals := 13 } : Room).cells ({ frames := 1, cells := 0, slots := 0, locals := 13 } : Room).slots) := by
  refine MetFree.of_bodySF (plainFor_of_name pn_4) hisR ?_
  intro p e s m args below meth c s₁ Bd hml0 hP hK
  obtain ⟨rfl, hZ, hh⟩ := hP
  have hx := Bd.exec
  have hby := Bd.bytes
  have hml : c.maxLocals = 5 := hml0
  have hown : s.vm.findClass "com/example/parcelwright/parcelwright/soap/HttpHead" = some m.cls := findClass_of_methodNamed Bd.named
  have hnm := (name_of_methodNamed Bd.named Bd.method).1
  have X0 : Stand p l e ({ frames := 1, cells := 0, slots := 0, locals := 13 } : Room) s m #[(.ref a1), (.int p2), (.int p3)] below meth c s₁ [] 0 0 := Stand.of_body Bd
  have e0 : s₁.heap = h0 := by rw [← hh, Bd.state]; rfl
  have N0 := Fr.nil n0
  have pre0 : ∀ t, Steps p.tables e below (s₁.setTop (mkF m 0 #[.val (.ref a1), .val (.int p2), .val (.int p3), .unset, .unset] [])) t → Steps p.tables e below (s₁.setTop (entryFrame m #[(.ref a1), (.int p2), (.int p3)] 5)) t := fun t k => castTop (ef_4_RII m a1 p2 p3) k
  obtain ⟨_, _, ⟨T_1, L_1, k_1, n_1⟩, -, X_1, ⟨Lc_1, hQ_1, l_1, y_1, z_1⟩, st_1⟩ := Jvm.LawKit.callS X0 hx (y := (⟨"java/lang/Math", "max", "(II)I"⟩ : MethodName)) hown (mvT hZ (hw _ (List.mem_of_getElem? (i := 19) rfl))) (mvT hZ (hw _ (List.mem_of_getElem? (i := 9) rfl))) (mvT hZ (hw _ (List.mem_of_getElem? (i := 10) rfl))) (mvT hZ (hw _ (List.mem_of_getElem? (i := 11) rfl))) (by decide) (backOf (W := 0) (rm2 l Z a0 hw [] (1 : Int32) p2 h0 n0 Z0) hZ (hw _ (List.mem_of_getElem? (i := 11) rfl)) (hw _ (List.mem_of_getElem? (i := 10) rfl)) (by decide) (by decide)) (g := (mkF m 2 #[.val (.ref a1), .val (.int p2), .val (.int p3), .unset, .unset] [(.int p2), (.int (1 : Int32))])) rfl (by rw [hml]; rfl) (argsL := [(.int (1 : Int32)), (.int p2)]) (rest := []) (lenOf pd_2 rfl) rfl (by show 2 * 0 + _ ≤ _; exact Nat.le_of_eq rfl) (hb hby d4_2) (fun _ _ => ⟨rfl, e0, (by decide : 0 + 0 ≤ _), (by decide : 0 + 0 ≤ _)⟩)
  dsimp only [Pt.U, Pt.locs, Pt.cells, Pt.slots] at X_1 l_1 y_1 z_1 st_1 hQ_1
  subst l_1 y_1 z_1
  obtain ⟨rfl, N_1q, e_1⟩ := hQ_1
  have N_1 := Fr.app N0 N_1q
  have pr_2 : ∀ t, Steps p.tables e below (T_1.setTop (mkF m 6 #[.val (.ref a1), .val (.int p2), .val (.int p3), .val (.int (own_max (1 : Int32) p2)), .unset] [])) t → Steps p.tables e below (s₁.setTop (entryFrame m #[(.ref a1), (.int p2), (.int p3)] 5)) t := fun t k => by
    refine pre0 _ ?_
    show Steps p.tables e below (s₁.setTop (mkF m 0 #[.val (.ref a1), .val (.int p2), .val (.int p3), .unset, .unset] [])) _
    refine XS.iconst X0.here hx rfl (hb hby d4_0) ?_
    show Steps p.tables e below (s₁.setTop (mkF m 1 #[.val (.ref a1), .val (.int p2), .val (.int p3), .unset, .unset] [(.int (1 : Int32))])) _
    refine XS.iloadN X0.here hx rfl (hb hby d4_1) rfl ?_
    show Steps p.tables e below (s₁.setTop (mkF m 2 #[.val (.ref a1), .val (.int p2), .val (.int p3), .unset, .unset] [(.int p2), (.int (1 : Int32))])) _
    refine st_1 _ ?_
    show Steps p.tables e below (T_1.setTop (mkF m 5 #[.val (.ref a1), .val (.int p2), .val (.int p3), .unset, .unset] [(.int (own_max (1 : Int32) p2))])) _
    refine XS.istoreN X_1.here hx rfl (hb hby d4_5) rfl (l' := #[.val (.ref a1), .val (.int p2), .val (.int p3), .val (.int (own_max (1 : Int32) p2)), .unset]) rfl ?_
    exact k
  obtain ⟨cl_3, Ar_3, Sz_3, At_3⟩ := F0
  have loop : ∀ (k : Nat) (i : Int32) (s4 : Slot), One s4 → 1 ≤ i.toInt → p3.toInt - i.toInt ≤ k → (own_scan f1 p3 k i = -1 ∧ ∃ i' s4', ∀ t, Steps p.tables e below (T_1.setTop (mkF m 76 #[.val (.ref a1), .val (.int p2), .val (.int p3), .val (.int i'), s4'] [])) t → Steps p.tables e below (T_1.setTop (mkF m 6 #[.val (.ref a1), .val (.int p2), .val (.int p3), .val (.int i), s4] [])) t) ∨ (∃ i' s4', own_scan f1 p3 k i = i' + 1 ∧ ∀ t, Steps p.tables e below (T_1.setTop (mkF m 66 #[.val (.ref a1), .val (.int p2), .val (.int p3), .val (.int i'), s4'] [])) t → Steps p.tables e below (T_1.setTop (mkF m 6 #[.val (.ref a1), .val (.int p2), .val (.int p3), .val (.int i), s4] [])) t) := by
    intro k
    induction k with
    | zero =>
      intro i s4 hs4 h1 h2
      have pid : ∀ t, Steps p.tables e below (T_1.setTop (mkF m 6 #[.val (.ref a1), .val (.int p2), .val (.int p3), .val (.int i), s4] [])) t → Steps p.tables e below (T_1.setTop (mkF m 6 #[.val (.ref a1), .val (.int p2), .val (.int p3), .val (.int i), s4] [])) t := fun t k => k
      have hno : ¬ (i < p3) := own_no h2
      have pr_4 : ∀ t, Steps p.tables e below (T_1.setTop (mkF m 76 #[.val (.ref a1), .val (.int p2), .val (.int p3), .val (.int i), s4] [])) t → Steps p.tables e below (T_1.setTop (mkF m 6 #[.val (.ref a1), .val (.int p2), .val (.int p3), .val (.int i), s4] [])) t := fun t k => by
        refine pid _ ?_
        show Steps p.tables e below (T_1.setTop (mkF m 6 #[.val (.ref a1), .val (.int p2), .val (.int p3), .val (.int i), s4] [])) _
        refine XS.iloadN X_1.here hx rfl (hb hby d4_6) rfl ?_
        show Steps p.tables e below (T_1.setTop (mkF m 7 #[.val (.ref a1), .val (.int p2), .val (.int p3), .val (.int i), s4] [(.int i)])) _
        refine XS.iloadN X_1.here hx rfl (hb hby d4_7) rfl ?_
        show Steps p.tables e below (T_1.setTop (mkF m 8 #[.val (.ref a1), .val (.int p2), .val (.int p3), .val (.int i), s4] [(.int p3), (.int i)])) _
        refine XS.icmpYes X_1.here hx rfl (pc0 := 8) (pc' := 76) rfl (hb hby d4_8) rfl (flt hno).2.1 (by decide) (by decide) ?_
        exact k
      exact Or.inl ⟨rfl, i, s4, pr_4⟩
    | succ k ih =>
      intro i s4 hs4 h1 h2
      have pid : ∀ t, Steps p.tables e below (T_1.setTop (mkF m 6 #[.val (.ref a1), .val (.int p2), .val (.int p3), .val (.int i), s4] [])) t → Steps p.tables e below (T_1.setTop (mkF m 6 #[.val (.ref a1), .val (.int p2), .val (.int p3), .val (.int i), s4] [])) t := fun t k => k
      have pr_5 : ∀ t, Steps p.tables e below (T_1.setTop (mkF m 8 #[.val (.ref a1), .val (.int p2), .val (.int p3), .val (.int i), s4] [(.int p3), (.int i)])) t → Steps p.tables e below (T_1.setTop (mkF m 6 #[.val (.ref a1), .val (.int p2), .val (.int p3), .val (.int i), s4] [])) t := fun t k => by
        refine pid _ ?_
        show Steps p.tables e below (T_1.setTop (mkF m 6 #[.val (.ref a1), .val (.int p2), .val (.int p3), .val (.int i), s4] [])) _
        refine XS.iloadN X_1.here hx rfl (hb hby d4_6) rfl ?_
        show Steps p.tables e below (T_1.setTop (mkF m 7 #[.val (.ref a1), .val (.int p2), .val (.int p3), .val (.int i), s4] [(.int i)])) _
        refine XS.iloadN X_1.here hx rfl (hb hby d4_7) rfl ?_
        exact k
      by_cases hc_6 : i < p3
      · have pr_7 : ∀ t, Steps p.tables e below (T_1.setTop (mkF m 18 #[.val (.ref a1), .val (.int p2), .val (.int p3), .val (.int i), s4] [(.int (10 : Int32)), (.int (f1 ((i - (1 : Int32))).toNatClampNeg))])) t → Steps p.tables e below (T_1.setTop (mkF m 6 #[.val (.ref a1), .val (.int p2), .val (.int p3), .val (.int i), s4] [])) t := fun t k => by
          refine pr_5 _ ?_
          show Steps p.tables e below (T_1.setTop (mkF m 8 #[.val (.ref a1), .val (.int p2), .val (.int p3), .val (.int i), s4] [(.int p3), (.int i)])) _
          refine XS.icmpNo X_1.here hx rfl (hb hby d4_8) rfl (tlt hc_6).2.1 ?_
          show Steps p.tables e below (T_1.setTop (mkF m 11 #[.val (.ref a1), .val (.int p2), .val (.int p3), .val (.int i), s4] [])) _
          refine XS.aloadN X_1.here hx rfl (hb hby d4_11) rfl rfl ?_
          show Steps p.tables e below (T_1.setTop (mkF m 12 #[.val (.ref a1), .val (.int p2), .val (.int p3), .val (.int i), s4] [(.ref a1)])) _
          refine XS.iloadN X_1.here hx rfl (hb hby d4_12) rfl ?_
          show Steps p.tables e below (T_1.setTop (mkF m 13 #[.val (.ref a1), .val (.int p2), .val (.int p3), .val (.int i), s4] [(.int i), (.ref a1)])) _
          refine XS.iconst X_1.here hx rfl (hb hby d4_13) ?_
          show Steps p.tables e below (T_1.setTop (mkF m 14 #[.val (.ref a1), .val (.int p2), .val (.int p3), .val (.int i), s4] [(.int (1 : Int32)), (.int i), (.ref a1)])) _
          refine XS.isub X_1.here hx rfl (hb hby d4_14) rfl ?_
          show Steps p.tables e below (T_1.setTop (mkF m 15 #[.val (.ref a1), .val (.int p2), .val (.int p3), .val (.int i), s4] [(.int (i - (1 : Int32))), (.ref a1)])) _
          refine X_1.baloadBytes hx (j := (i - (1 : Int32))) (v := (.int (f1 ((i - (1 : Int32))).toNatClampNeg))) (by rw [e_1]; exact Ar_3.1) (State.isArrayOf_alike hZ.alike Ar_3.2.1) Ar_3.2.2 (own_inb Sz_3 (show ¬ ((i - (1 : Int32)) < 0 ∨ 6 ≤ ((i - (1 : Int32))).toNatClampNeg) from (own_p1 h1 (own_up6 hc_6 h6)))) (At_3 _ (own_ltn (show ¬ ((i - (1 : Int32)) < 0 ∨ 6 ≤ ((i - (1 : Int32))).toNatClampNeg) from (own_p1 h1 (own_up6 hc_6 h6))))) (g := (mkF m 15 #[.val (.ref a1), .val (.int p2), .val (.int p3), .val (.int i), s4] [(.int (i - (1 : Int32))), (.ref a1)])) rfl rfl (hb hby d4_15) _ ?_
          show Steps p.tables e below (T_1.setTop (mkF m 16 #[.val (.ref a1), .val (.int p2), .val (.int p3), .val (.int i), s4] [(.int (f1 ((i - (1 : Int32))).toNatClampNeg))])) _
          refine XS.bipush X_1.here hx rfl (hb hby d4_16) ?_
          exact k
        by_cases hc_8 : (f1 ((i - (1 : Int32))).toNatClampNeg) = (10 : Int32)
        · have pr_9 : ∀ t, Steps p.tables e below (T_1.setTop (mkF m 58 #[.val (.ref a1), .val (.int p2), .val (.int p3), .val (.int i), .val (.int (1 : Int32))] [(.int (10 : Int32)), (.int (f1 (i).toNatClampNeg))])) t → Steps p.tables e below (T_1.setTop (mkF m 6 #[.val (.ref a1), .val (.int p2), .val (.int p3), .val (.int i), s4] [])) t := fun t k => by
            refine pr_7 _ ?_
            show Steps p.tables e below (T_1.setTop (mkF m 18 #[.val (.ref a1), .val (.int p2), .val (.int p3), .val (.int i), s4] [(.int (10 : Int32)), (.int (f1 ((i - (1 : Int32))).toNatClampNeg))])) _
            refine XS.icmpYes X_1.here hx rfl (pc0 := 18) (pc' := 46) rfl (hb hby d4_18) rfl (teq hc_8).1 (by decide) (by decide) ?_
            show Steps p.tables e below (T_1.setTop (mkF m 46 #[.val (.ref a1), .val (.int p2), .val (.int p3), .val (.int i), s4] [])) _
            refine XS.iconst X_1.here hx rfl (hb hby d4_46) ?_
            show Steps p.tables e below (T_1.setTop (mkF m 47 #[.val (.ref a1), .val (.int p2), .val (.int p3), .val (.int i), s4] [(.int (1 : Int32))])) _
            refine XS.goto X_1.here hx rfl (pc0 := 47) (pc' := 51) rfl (hb hby d4_47) (by decide) (by decide) ?_
            show Steps p.tables e below (T_1.setTop (mkF m 51 #[.val (.ref a1), .val (.int p2), .val (.int p3), .val (.int i), s4] [(.int (1 : Int32))])) _
            refine XS.istoreS X_1.here hx rfl (hb hby d4_51) rfl rfl hs4 ?_
            show Steps p.tables e below (T_1.setTop (mkF m 53 #[.val (.ref a1), .val (.int p2), .val (.int p3), .val (.int i), .val (.int (1 : Int32))] [])) _
            refine XS.aloadN X_1.here hx rfl (hb hby d4_53) rfl rfl ?_
            show Steps p.tables e below (T_1.setTop (mkF m 54 #[.val (.ref a1), .val (.int p2), .val (.int p3), .val (.int i), .val (.int (1 : Int32))] [(.ref a1)])) _
            refine XS.iloadN X_1.here hx rfl (hb hby d4_54) rfl ?_
            show Steps p.tables e below (T_1.setTop (mkF m 55 #[.val (.ref a1), .val (.int p2), .val (.int p3), .val (.int i), .val (.int (1 : Int32))] [(.int i), (.ref a1)])) _
            refine X_1.baloadBytes hx (j := i) (v := (.int (f1 (i).toNatClampNeg))) (by rw [e_1]; exact Ar_3.1) (State.isArrayOf_alike hZ.alike Ar_3.2.1) Ar_3.2.2 (own_inb Sz_3 (show ¬ (i < 0 ∨ 6 ≤ (i).toNatClampNeg) from (own_p0 h1 (own_up6 hc_6 h6)))) (At_3 _ (own_ltn (show ¬ (i < 0 ∨ 6 ≤ (i).toNatClampNeg) from (own_p0 h1 (own_up6 hc_6 h6))))) (g := (mkF m 55 #[.val (.ref a1), .val (.int p2), .val (.int p3), .val (.int i), .val (.int (1 : Int32))] [(.int i), (.ref a1)])) rfl rfl (hb hby d4_55) _ ?_
            show Steps p.tables e below (T_1.setTop (mkF m 56 #[.val (.ref a1), .val (.int p2), .val (.int p3), .val (.int i), .val (.int (1 : Int32))] [(.int (f1 (i).toNatClampNeg))])) _
            refine XS.bipush X_1.here hx rfl (hb hby d4_56) ?_
            exact k
          by_cases hc_10 : (f1 (i).toNatClampNeg) = (10 : Int32)
          · have pr_11 : ∀ t, Steps p.tables e below (T_1.setTop (mkF m 66 #[.val (.ref a1), .val (.int p2), .val (.int p3), .val (.int i), .val (.int (1 : Int32))] [])) t → Steps p.tables e below (T_1.setTop (mkF m 6 #[.val (.ref a1), .val (.int p2), .val (.int p3), .val (.int i), s4] [])) t := fun t k => by
              refine pr_9 _ ?_
              show Steps p.tables e below (T_1.setTop (mkF m 58 #[.val (.ref a1), .val (.int p2), .val (.int p3), .val (.int i), .val (.int (1 : Int32))] [(.int (10 : Int32)), (.int (f1 (i).toNatClampNeg))])) _
              refine XS.icmpNo X_1.here hx rfl (hb hby d4_58) rfl (teq hc_10).2 ?_
              show Steps p.tables e below (T_1.setTop (mkF m 61 #[.val (.ref a1), .val (.int p2), .val (.int p3), .val (.int i), .val (.int (1 : Int32))] [])) _
              refine XS.iload X_1.here hx rfl (hb hby d4_61) rfl ?_
              show Steps p.tables e below (T_1.setTop (mkF m 63 #[.val (.ref a1), .val (.int p2), .val (.int p3), .val (.int i), .val (.int (1 : Int32))] [(.int (1 : Int32))])) _
              refine XS.ifNo X_1.here hx rfl (hb hby d4_63) rfl ((if0 _ _).trans (feq (by decide : ¬ ((1 : Int32) = (0 : Int32)))).1) ?_
              exact k
            have hst_12 : own_step i p3 f1 = 1 := by rw [own_step, if_pos hc_6, if_pos hc_8, if_pos hc_10]
            exact Or.inr ⟨i, .val (.int (1 : Int32)), by show (match own_step i p3 f1 with | 0 => _ | 1 => _ | _ => _) = _; rw [hst_12]; rfl, pr_11⟩
          · have pr_13 : ∀ t, Steps p.tables e below (T_1.setTop (mkF m 6 #[.val (.ref a1), .val (.int p2), .val (.int p3), .val (.int (i + (1 : Int32))), .val (.int (1 : Int32))] [])) t → Steps p.tables e below (T_1.setTop (mkF m 6 #[.val (.ref a1), .val (.int p2), .val (.int p3), .val (.int i), s4] [])) t := fun t k => by
              refine pr_9 _ ?_
              show Steps p.tables e below (T_1.setTop (mkF m 58 #[.val (.ref a1), .val (.int p2), .val (.int p3), .val (.int i), .val (.int (1 : Int32))] [(.int (10 : Int32)), (.int (f1 (i).toNatClampNeg))])) _
              refine XS.icmpYes X_1.here hx rfl (pc0 := 58) (pc' := 70) rfl (hb hby d4_58) rfl (feq hc_10).2 (by decide) (by decide) ?_
              show Steps p.tables e below (T_1.setTop (mkF m 70 #[.val (.ref a1), .val (.int p2), .val (.int p3), .val (.int i), .val (.int (1 : Int32))] [])) _
              refine XS.iinc X_1.here hx rfl (hb hby d4_70) rfl (l' := #[.val (.ref a1), .val (.int p2), .val (.int p3), .val (.int (i + (1 : Int32))), .val (.int (1 : Int32))]) rfl ?_
              show Steps p.tables e below (T_1.setTop (mkF m 73 #[.val (.ref a1), .val (.int p2), .val (.int p3), .val (.int (i + (1 : Int32))), .val (.int (1 : Int32))] [])) _
              refine XS.goto X_1.here hx rfl (pc0 := 73) (pc' := 6) rfl (hb hby d4_73) (by decide) (by decide) ?_
              exact k
            have hst_14 : own_step i p3 f1 = 2 := by rw [own_step, if_pos hc_6, if_pos hc_8, if_neg hc_10]
            rcases ih (i + (1 : Int32)) (.val (.int (1 : Int32))) (Or.inr ⟨_, rfl, rfl⟩) (own_next1 h1 hc_6 h6) (own_next2 h1 hc_6 h6 h2) with ⟨q1, i', s4', q2⟩ | ⟨i', s4', q1, q2⟩
            · exact Or.inl ⟨by show (match own_step i p3 f1 with | 0 => _ | 1 => _ | _ => _) = _; rw [hst_14]; exact q1, i', s4', fun t k => pr_13 t (q2 t k)⟩
            · exact Or.inr ⟨i', s4', by show (match own_step i p3 f1 with | 0 => _ | 1 => _ | _ => _) = _; rw [hst_14]; exact q1, fun t k => pr_13 t (q2 t k)⟩
        · have pr_15 : ∀ t, Steps p.tables e below (T_1.setTop (mkF m 23 #[.val (.ref a1), .val (.int p2), .val (.int p3), .val (.int i), s4] [(.int (1 : Int32)), (.int i)])) t → Steps p.tables e below (T_1.setTop (mkF m 6 #[.val (.ref a1), .val (.int p2), .val (.int p3), .val (.int i), s4] [])) t := fun t k => by
            refine pr_7 _ ?_
            show Steps p.tables e below (T_1.setTop (mkF m 18 #[.val (.ref a1), .val (.int p2), .val (.int p3), .val (.int i), s4] [(.int (10 : Int32)), (.int (f1 ((i - (1 : Int32))).toNatClampNeg))])) _
            refine XS.icmpNo X_1.here hx rfl (hb hby d4_18) rfl (feq hc_8).1 ?_
            show Steps p.tables e below (T_1.setTop (mkF m 21 #[.val (.ref a1), .val (.int p2), .val (.int p3), .val (.int i), s4] [])) _
            refine XS.iloadN X_1.here hx rfl (hb hby d4_21) rfl ?_
            show Steps p.tables e below (T_1.setTop (mkF m 22 #[.val (.ref a1), .val (.int p2), .val (.int p3), .val (.int i), s4] [(.int i)])) _
            refine XS.iconst X_1.here hx rfl (hb hby d4_22) ?_
            exact k
          by_cases hc_16 : (1 : Int32) < i
          · have pr_17 : ∀ t, Steps p.tables e below (T_1.setTop (mkF m 33 #[.val (.ref a1), .val (.int p2), .val (.int p3), .val (.int i), s4] [(.int (13 : Int32)), (.int (f1 ((i - (1 : Int32))).toNatClampNeg))])) t → Steps p.tables e below (T_1.setTop (mkF m 6 #[.val (.ref a1), .val (.int p2), .val (.int p3), .val (.int i), s4] [])) t := fun t k => by
              refine pr_15 _ ?_
              show Steps p.tables e below (T_1.setTop (mkF m 23 #[.val (.ref a1), .val (.int p2), .val (.int p3), .val (.int i), s4] [(.int (1 : Int32)), (.int i)])) _
              refine XS.icmpNo X_1.here hx rfl (hb hby d4_23) rfl (tlt hc_16).2.2.2 ?_
              show Steps p.tables e below (T_1.setTop (mkF m 26 #[.val (.ref a1), .val (.int p2), .val (.int p3), .val (.int i), s4] [])) _
              refine XS.aloadN X_1.here hx rfl (hb hby d4_26) rfl rfl ?_
              show Steps p.tables e below (T_1.setTop (mkF m 27 #[.val (.ref a1), .val (.int p2), .val (.int p3), .val (.int i), s4] [(.ref a1)])) _
              refine XS.iloadN X_1.here hx rfl (hb hby d4_27) rfl ?_
              show Steps p.tables e below (T_1.setTop (mkF m 28 #[.val (.ref a1), .val (.int p2), .val (.int p3), .val (.int i), s4] [(.int i), (.ref a1)])) _
              refine XS.iconst X_1.here hx rfl (hb hby d4_28) ?_
              show Steps p.tables e below (T_1.setTop (mkF m 29 #[.val (.ref a1), .val (.int p2), .val (.int p3), .val (.int i), s4] [(.int (1 : Int32)), (.int i), (.ref a1)])) _
              refine XS.isub X_1.here hx rfl (hb hby d4_29) rfl ?_
              show Steps p.tables e below (T_1.setTop (mkF m 30 #[.val (.ref a1), .val (.int p2), .val (.int p3), .val (.int i), s4] [(.int (i - (1 : Int32))), (.ref a1)])) _
              refine X_1.baloadBytes hx (j := (i - (1 : Int32))) (v := (.int (f1 ((i - (1 : Int32))).toNatClampNeg))) (by rw [e_1]; exact Ar_3.1) (State.isArrayOf_alike hZ.alike Ar_3.2.1) Ar_3.2.2 (own_inb Sz_3 (show ¬ ((i - (1 : Int32)) < 0 ∨ 6 ≤ ((i - (1 : Int32))).toNatClampNeg) from (own_p1 h1 (own_up6 hc_6 h6)))) (At_3 _ (own_ltn (show ¬ ((i - (1 : Int32)) < 0 ∨ 6 ≤ ((i - (1 : Int32))).toNatClampNeg) from (own_p1 h1 (own_up6 hc_6 h6))))) (g := (mkF m 30 #[.val (.ref a1), .val (.int p2), .val (.int p3), .val (.int i), s4] [(.int (i - (1 : Int32))), (.ref a1)])) rfl rfl (hb hby d4_30) _ ?_
              show Steps p.tables e below (T_1.setTop (mkF m 31 #[.val (.ref a1), .val (.int p2), .val (.int p3), .val (.int i), s4] [(.int (f1 ((i - (1 : Int32))).toNatClampNeg))])) _
              refine XS.bipush X_1.here hx rfl (hb hby d4_31) ?_
              exact k
            by_cases hc_18 : (f1 ((i - (1 : Int32))).toNatClampNeg) = (13 : Int32)
            · have pr_19 : ∀ t, Steps p.tables e below (T_1.setTop (mkF m 43 #[.val (.ref a1), .val (.int p2), .val (.int p3), .val (.int i), s4] [(.int (10 : Int32)), (.int (f1 ((i - (2 : Int32))).toNatClampNeg))])) t → Steps p.tables e below (T_1.setTop (mkF m 6 #[.val (.ref a1), .val (.int p2), .val (.int p3), .val (.int i), s4] [])) t := fun t k => by
                refine pr_17 _ ?_
                show Steps p.tables e below (T_1.setTop (mkF m 33 #[.val (.ref a1), .val (.int p2), .val (.int p3), .val (.int i), s4] [(.int (13 : Int32)), (.int (f1 ((i - (1 : Int32))).toNatClampNeg))])) _
                refine XS.icmpNo X_1.here hx rfl (hb hby d4_33) rfl (teq hc_18).2 ?_
                show Steps p.tables e below (T_1.setTop (mkF m 36 #[.val (.ref a1), .val (.int p2), .val (.int p3), .val (.int i), s4] [])) _
                refine XS.aloadN X_1.here hx rfl (hb hby d4_36) rfl rfl ?_
                show Steps p.tables e below (T_1.setTop (mkF m 37 #[.val (.ref a1), .val (.int p2), .val (.int p3), .val (.int i), s4] [(.ref a1)])) _
                refine XS.iloadN X_1.here hx rfl (hb hby d4_37) rfl ?_
                show Steps p.tables e below (T_1.setTop (mkF m 38 #[.val (.ref a1), .val (.int p2), .val (.int p3), .val (.int i), s4] [(.int i), (.ref a1)])) _
                refine XS.iconst X_1.here hx rfl (hb hby d4_38) ?_
                show Steps p.tables e below (T_1.setTop (mkF m 39 #[.val (.ref a1), .val (.int p2), .val (.int p3), .val (.int i), s4] [(.int (2 : Int32)), (.int i), (.ref a1)])) _
                refine XS.isub X_1.here hx rfl (hb hby d4_39) rfl ?_
                show Steps p.tables e below (T_1.setTop (mkF m 40 #[.val (.ref a1), .val (.int p2), .val (.int p3), .val (.int i), s4] [(.int (i - (2 : Int32))), (.ref a1)])) _
                refine X_1.baloadBytes hx (j := (i - (2 : Int32))) (v := (.int (f1 ((i - (2 : Int32))).toNatClampNeg))) (by rw [e_1]; exact Ar_3.1) (State.isArrayOf_alike hZ.alike Ar_3.2.1) Ar_3.2.2 (own_inb Sz_3 (show ¬ ((i - (2 : Int32)) < 0 ∨ 6 ≤ ((i - (2 : Int32))).toNatClampNeg) from (own_p2 (own_gt1 hc_16) (own_up6 hc_6 h6)))) (At_3 _ (own_ltn (show ¬ ((i - (2 : Int32)) < 0 ∨ 6 ≤ ((i - (2 : Int32))).toNatClampNeg) from (own_p2 (own_gt1 hc_16) (own_up6 hc_6 h6))))) (g := (mkF m 40 #[.val (.ref a1), .val (.int p2), .val (.int p3), .val (.int i), s4] [(.int (i - (2 : Int32))), (.ref a1)])) rfl rfl (hb hby d4_40) _ ?_
                show Steps p.tables e below (T_1.setTop (mkF m 41 #[.val (.ref a1), .val (.int p2), .val (.int p3), .val (.int i), s4] [(.int (f1 ((i - (2 : Int32))).toNatClampNeg))])) _
                refine XS.bipush X_1.here hx rfl (hb hby d4_41) ?_
                exact k
              by_cases hc_20 : (f1 ((i - (2 : Int32))).toNatClampNeg) = (10 : Int32)
              · have pr_21 : ∀ t, Steps p.tables e below (T_1.setTop (mkF m 58 #[.val (.ref a1), .val (.int p2), .val (.int p3), .val (.int i), .val (.int (1 : Int32))] [(.int (10 : Int32)), (.int (f1 (i).toNatClampNeg))])) t → Steps p.tables e below (T_1.setTop (mkF m 6 #[.val (.ref a1), .val (.int p2), .val (.int p3), .val (.int i), s4] [])) t := fun t k => by
                  refine pr_19 _ ?_
                  show Steps p.tables e below (T_1.setTop (mkF m 43 #[.val (.ref a1), .val (.int p2), .val (.int p3), .val (.int i), s4] [(.int (10 : Int32)), (.int (f1 ((i - (2 : Int32))).toNatClampNeg))])) _
                  refine XS.icmpNo X_1.here hx rfl (hb hby d4_43) rfl (teq hc_20).2 ?_
                  show Steps p.tables e below (T_1.setTop (mkF m 46 #[.val (.ref a1), .val (.int p2), .val (.int p3), .val (.int i), s4] [])) _
                  refine XS.iconst X_1.here hx rfl (hb hby d4_46) ?_
                  show Steps p.tables e below (T_1.setTop (mkF m 47 #[.val (.ref a1), .val (.int p2), .val (.int p3), .val (.int i), s4] [(.int (1 : Int32))])) _
                  refine XS.goto X_1.here hx rfl (pc0 := 47) (pc' := 51) rfl (hb hby d4_47) (by decide) (by decide) ?_
                  show Steps p.tables e below (T_1.setTop (mkF m 51 #[.val (.ref a1), .val (.int p2), .val (.int p3), .val (.int i), s4] [(.int (1 : Int32))])) _
                  refine XS.istoreS X_1.here hx rfl (hb hby d4_51) rfl rfl hs4 ?_
                  show Steps p.tables e below (T_1.setTop (mkF m 53 #[.val (.ref a1), .val (.int p2), .val (.int p3), .val (.int i), .val (.int (1 : Int32))] [])) _
                  refine XS.aloadN X_1.here hx rfl (hb hby d4_53) rfl rfl ?_
                  show Steps p.tables e below (T_1.setTop (mkF m 54 #[.val (.ref a1), .val (.int p2), .val (.int p3), .val (.int i), .val (.int (1 : Int32))] [(.ref a1)])) _
                  refine XS.iloadN X_1.here hx rfl (hb hby d4_54) rfl ?_
                  show Steps p.tables e below (T_1.setTop (mkF m 55 #[.val (.ref a1), .val (.int p2), .val (.int p3), .val (.int i), .val (.int (1 : Int32))] [(.int i), (.ref a1)])) _
                  refine X_1.baloadBytes hx (j := i) (v := (.int (f1 (i).toNatClampNeg))) (by rw [e_1]; exact Ar_3.1) (State.isArrayOf_alike hZ.alike Ar_3.2.1) Ar_3.2.2 (own_inb Sz_3 (show ¬ (i < 0 ∨ 6 ≤ (i).toNatClampNeg) from (own_p0 h1 (own_up6 hc_6 h6)))) (At_3 _ (own_ltn (show ¬ (i < 0 ∨ 6 ≤ (i).toNatClampNeg) from (own_p0 h1 (own_up6 hc_6 h6))))) (g := (mkF m 55 #[.val (.ref a1), .val (.int p2), .val (.int p3), .val (.int i), .val (.int (1 : Int32))] [(.int i), (.ref a1)])) rfl rfl (hb hby d4_55) _ ?_
                  show Steps p.tables e below (T_1.setTop (mkF m 56 #[.val (.ref a1), .val (.int p2), .val (.int p3), .val (.int i), .val (.int (1 : Int32))] [(.int (f1 (i).toNatClampNeg))])) _
                  refine XS.bipush X_1.here hx rfl (hb hby d4_56) ?_
                  exact k
                by_cases hc_22 : (f1 (i).toNatClampNeg) = (10 : Int32)
                · have pr_23 : ∀ t, Steps p.tables e below (T_1.setTop (mkF m 66 #[.val (.ref a1), .val (.int p2), .val (.int p3), .val (.int i), .val (.int (1 : Int32))] [])) t → Steps p.tables e below (T_1.setTop (mkF m 6 #[.val (.ref a1), .val (.int p2), .val (.int p3), .val (.int i), s4] [])) t := fun t k => by
                    refine pr_21 _ ?_
                    show Steps p.tables e below (T_1.setTop (mkF m 58 #[.val (.ref a1), .val (.int p2), .val (.int p3), .val (.int i), .val (.int (1 : Int32))] [(.int (10 : Int32)), (.int (f1 (i).toNatClampNeg))])) _
                    refine XS.icmpNo X_1.here hx rfl (hb hby d4_58) rfl (teq hc_22).2 ?_
                    show Steps p.tables e below (T_1.setTop (mkF m 61 #[.val (.ref a1), .val (.int p2), .val (.int p3), .val (.int i), .val (.int (1 : Int32))] [])) _
                    refine XS.iload X_1.here hx rfl (hb hby d4_61) rfl ?_
                    show Steps p.tables e below (T_1.setTop (mkF m 63 #[.val (.ref a1), .val (.int p2), .val (.int p3), .val (.int i), .val (.int (1 : Int32))] [(.int (1 : Int32))])) _
                    refine XS.ifNo X_1.here hx rfl (hb hby d4_63) rfl ((if0 _ _).trans (feq (by decide : ¬ ((1 : Int32) = (0 : Int32)))).1) ?_
                    exact k
                  have hst_24 : own_step i p3 f1 = 1 := by rw [own_step, if_pos hc_6, if_neg hc_8, if_pos hc_16, if_pos hc_18, if_pos hc_20, if_pos hc_22]
                  exact Or.inr ⟨i, .val (.int (1 : Int32)), by show (match own_step i p3 f1 with | 0 => _ | 1 => _ | _ => _) = _; rw [hst_24]; rfl, pr_23⟩
                · have pr_25 : ∀ t, Steps p.tables e below (T_1.setTop (mkF m 6 #[.val (.ref a1), .val (.int p2), .val (.int p3), .val (.int (i + (1 : Int32))), .val (.int (1 : Int32))] [])) t → Steps p.tables e below (T_1.setTop (mkF m 6 #[.val (.ref a1), .val (.int p2), .val (.int p3), .val (.int i), s4] [])) t := fun t k => by
                    refine pr_21 _ ?_
                    show Steps p.tables e below (T_1.setTop (mkF m 58 #[.val (.ref a1), .val (.int p2), .val (.int p3), .val (.int i), .val (.int (1 : Int32))] [(.int (10 : Int32)), (.int (f1 (i).toNatClampNeg))])) _
                    refine XS.icmpYes X_1.here hx rfl (pc0 := 58) (pc' := 70) rfl (hb hby d4_58) rfl (feq hc_22).2 (by decide) (by decide) ?_
                    show Steps p.tables e below (T_1.setTop (mkF m 70 #[.val (.ref a1), .val (.int p2), .val (.int p3), .val (.int i), .val (.int (1 : Int32))] [])) _
                    refine XS.iinc X_1.here hx rfl (hb hby d4_70) rfl (l' := #[.val (.ref a1), .val (.int p2), .val (.int p3), .val (.int (i + (1 : Int32))), .val (.int (1 : Int32))]) rfl ?_
                    show Steps p.tables e below (T_1.setTop (mkF m 73 #[.val (.ref a1), .val (.int p2), .val (.int p3), .val (.int (i + (1 : Int32))), .val (.int (1 : Int32))] [])) _
                    refine XS.goto X_1.here hx rfl (pc0 := 73) (pc' := 6) rfl (hb hby d4_73) (by decide) (by decide) ?_
                    exact k
                  have hst_26 : own_step i p3 f1 = 2 := by rw [own_step, if_pos hc_6, if_neg hc_8, if_pos hc_16, if_pos hc_18, if_pos hc_20, if_neg hc_22]
                  rcases ih (i + (1 : Int32)) (.val (.int (1 : Int32))) (Or.inr ⟨_, rfl, rfl⟩) (own_next1 h1 hc_6 h6) (own_next2 h1 hc_6 h6 h2) with ⟨q1, i', s4', q2⟩ | ⟨i', s4', q1, q2⟩
                  · exact Or.inl ⟨by show (match own_step i p3 f1 with | 0 => _ | 1 => _ | _ => _) = _; rw [hst_26]; exact q1, i', s4', fun t k => pr_25 t (q2 t k)⟩
                  · exact Or.inr ⟨i', s4', by show (match own_step i p3 f1 with | 0 => _ | 1 => _ | _ => _) = _; rw [hst_26]; exact q1, fun t k => pr_25 t (q2 t k)⟩
              · have pr_27 : ∀ t, Steps p.tables e below (T_1.setTop (mkF m 58 #[.val (.ref a1), .val (.int p2), .val (.int p3), .val (.int i), .val (.int (0 : Int32))] [(.int (10 : Int32)), (.int (f1 (i).toNatClampNeg))])) t → Steps p.tables e below (T_1.setTop (mkF m 6 #[.val (.ref a1), .val (.int p2), .val (.int p3), .val (.int i), s4] [])) t := fun t k => by
                  refine pr_19 _ ?_
                  show Steps p.tables e below (T_1.setTop (mkF m 43 #[.val (.ref a1), .val (.int p2), .val (.int p3), .val (.int i), s4] [(.int (10 : Int32)), (.int (f1 ((i - (2 : Int32))).toNatClampNeg))])) _
                  refine XS.icmpYes X_1.here hx rfl (pc0 := 43) (pc' := 50) rfl (hb hby d4_43) rfl (feq hc_20).2 (by decide) (by decide) ?_
                  show Steps p.tables e below (T_1.setTop (mkF m 50 #[.val (.ref a1), .val (.int p2), .val (.int p3), .val (.int i), s4] [])) _
                  refine XS.iconst X_1.here hx rfl (hb hby d4_50) ?_
                  show Steps p.tables e below (T_1.setTop (mkF m 51 #[.val (.ref a1), .val (.int p2), .val (.int p3), .val (.int i), s4] [(.int (0 : Int32))])) _
                  refine XS.istoreS X_1.here hx rfl (hb hby d4_51) rfl rfl hs4 ?_
                  show Steps p.tables e below (T_1.setTop (mkF m 53 #[.val (.ref a1), .val (.int p2), .val (.int p3), .val (.int i), .val (.int (0 : Int32))] [])) _
                  refine XS.aloadN X_1.here hx rfl (hb hby d4_53) rfl rfl ?_
                  show Steps p.tables e below (T_1.setTop (mkF m 54 #[.val (.ref a1), .val (.int p2), .val (.int p3), .val (.int i), .val (.int (0 : Int32))] [(.ref a1)])) _
                  refine XS.iloadN X_1.here hx rfl (hb hby d4_54) rfl ?_
                  show Steps p.tables e below (T_1.setTop (mkF m 55 #[.val (.ref a1), .val (.int p2), .val (.int p3), .val (.int i), .val (.int (0 : Int32))] [(.int i), (.ref a1)])) _
                  refine X_1.baloadBytes hx (j := i) (v := (.int (f1 (i).toNatClampNeg))) (by rw [e_1]; exact Ar_3.1) (State.isArrayOf_alike hZ.alike Ar_3.2.1) Ar_3.2.2 (own_inb Sz_3 (show ¬ (i < 0 ∨ 6 ≤ (i).toNatClampNeg) from (own_p0 h1 (own_up6 hc_6 h6)))) (At_3 _ (own_ltn (show ¬ (i < 0 ∨ 6 ≤ (i).toNatClampNeg) from (own_p0 h1 (own_up6 hc_6 h6))))) (g := (mkF m 55 #[.val (.ref a1), .val (.int p2), .val (.int p3), .val (.int i), .val (.int (0 : Int32))] [(.int i), (.ref a1)])) rfl rfl (hb hby d4_55) _ ?_
                  show Steps p.tables e below (T_1.setTop (mkF m 56 #[.val (.ref a1), .val (.int p2), .val (.int p3), .val (.int i), .val (.int (0 : Int32))] [(.int (f1 (i).toNatClampNeg))])) _
                  refine XS.bipush X_1.here hx rfl (hb hby d4_56) ?_
                  exact k
                by_cases hc_28 : (f1 (i).toNatClampNeg) = (10 : Int32)
                · have pr_29 : ∀ t, Steps p.tables e below (T_1.setTop (mkF m 6 #[.val (.ref a1), .val (.int p2), .val (.int p3), .val (.int (i + (1 : Int32))), .val (.int (0 : Int32))] [])) t → Steps p.tables e below (T_1.setTop (mkF m 6 #[.val (.ref a1), .val (.int p2), .val (.int p3), .val (.int i), s4] [])) t := fun t k => by
                    refine pr_27 _ ?_
                    show Steps p.tables e below (T_1.setTop (mkF m 58 #[.val (.ref a1), .val (.int p2), .val (.int p3), .val (.int i), .val (.int (0 : Int32))] [(.int (10 : Int32)), (.int (f1 (i).toNatClampNeg))])) _
                    refine XS.icmpNo X_1.here hx rfl (hb hby d4_58) rfl (teq hc_28).2 ?_
                    show Steps p.tables e below (T_1.setTop (mkF m 61 #[.val (.ref a1), .val (.int p2), .val (.int p3), .val (.int i), .val (.int (0 : Int32))] [])) _
                    refine XS.iload X_1.here hx rfl (hb hby d4_61) rfl ?_
                    show Steps p.tables e below (T_1.setTop (mkF m 63 #[.val (.ref a1), .val (.int p2), .val (.int p3), .val (.int i), .val (.int (0 : Int32))] [(.int (0 : Int32))])) _
                    refine XS.ifYes X_1.here hx rfl (pc0 := 63) (pc' := 70) rfl (hb hby d4_63) rfl ((if0 _ _).trans (teq (by decide : (0 : Int32) = (0 : Int32))).1) (by decide) (by decide) ?_
                    show Steps p.tables e below (T_1.setTop (mkF m 70 #[.val (.ref a1), .val (.int p2), .val (.int p3), .val (.int i), .val (.int (0 : Int32))] [])) _
                    refine XS.iinc X_1.here hx rfl (hb hby d4_70) rfl (l' := #[.val (.ref a1), .val (.int p2), .val (.int p3), .val (.int (i + (1 : Int32))), .val (.int (0 : Int32))]) rfl ?_
                    show Steps p.tables e below (T_1.setTop (mkF m 73 #[.val (.ref a1), .val (.int p2), .val (.int p3), .val (.int (i + (1 : Int32))), .val (.int (0 : Int32))] [])) _
                    refine XS.goto X_1.here hx rfl (pc0 := 73) (pc' := 6) rfl (hb hby d4_73) (by decide) (by decide) ?_
                    exact k
                  have hst_30 : own_step i p3 f1 = 2 := by rw [own_step, if_pos hc_6, if_neg hc_8, if_pos hc_16, if_pos hc_18, if_neg hc_20, if_pos hc_28]
                  rcases ih (i + (1 : Int32)) (.val (.int (0 : Int32))) (Or.inr ⟨_, rfl, rfl⟩) (own_next1 h1 hc_6 h6) (own_next2 h1 hc_6 h6 h2) with ⟨q1, i', s4', q2⟩ | ⟨i', s4', q1, q2⟩
                  · exact Or.inl ⟨by show (match own_step i p3 f1 with | 0 => _ | 1 => _ | _ => _) = _; rw [hst_30]; exact q1, i', s4', fun t k => pr_29 t (q2 t k)⟩
                  · exact Or.inr ⟨i', s4', by show (match own_step i p3 f1 with | 0 => _ | 1 => _ | _ => _) = _; rw [hst_30]; exact q1, fun t k => pr_29 t (q2 t k)⟩
                · have pr_31 : ∀ t, Steps p.tables e below (T_1.setTop (mkF m 6 #[.val (.ref a1), .val (.int p2), .val (.int p3), .val (.int (i + (1 : Int32))), .val (.int (0 : Int32))] [])) t → Steps p.tables e below (T_1.setTop (mkF m 6 #[.val (.ref a1), .val (.int p2), .val (.int p3), .val (.int i), s4] [])) t := fun t k => by
                    refine pr_27 _ ?_
                    show Steps p.tables e below (T_1.setTop (mkF m 58 #[.val (.ref a1), .val (.int p2), .val (.int p3), .val (.int i), .val (.int (0 : Int32))] [(.int (10 : Int32)), (.int (f1 (i).toNatClampNeg))])) _
                    refine XS.icmpYes X_1.here hx rfl (pc0 := 58) (pc' := 70) rfl (hb hby d4_58) rfl (feq hc_28).2 (by decide) (by decide) ?_
                    show Steps p.tables e below (T_1.setTop (mkF m 70 #[.val (.ref a1), .val (.int p2), .val (.int p3), .val (.int i), .val (.int (0 : Int32))] [])) _
                    refine XS.iinc X_1.here hx rfl (hb hby d4_70) rfl (l' := #[.val (.ref a1), .val (.int p2), .val (.int p3), .val (.int (i + (1 : Int32))), .val (.int (0 : Int32))]) rfl ?_
                    show Steps p.tables e below (T_1.setTop (mkF m 73 #[.val (.ref a1), .val (.int p2), .val (.int p3), .val (.int (i + (1 : Int32))), .val (.int (0 : Int32))] [])) _
                    refine XS.goto X_1.here hx rfl (pc0 := 73) (pc' := 6) rfl (hb hby d4_73) (by decide) (by decide) ?_
                    exact k
                  have hst_32 : own_step i p3 f1 = 2 := by rw [own_step, if_pos hc_6, if_neg hc_8, if_pos hc_16, if_pos hc_18, if_neg hc_20, if_neg hc_28]
                  rcases ih (i + (1 : Int32)) (.val (.int (0 : Int32))) (Or.inr ⟨_, rfl, rfl⟩) (own_next1 h1 hc_6 h6) (own_next2 h1 hc_6 h6 h2) with ⟨q1, i', s4', q2⟩ | ⟨i', s4', q1, q2⟩
                  · exact Or.inl ⟨by show (match own_step i p3 f1 with | 0 => _ | 1 => _ | _ => _) = _; rw [hst_32]; exact q1, i', s4', fun t k => pr_31 t (q2 t k)⟩
                  · exact Or.inr ⟨i', s4', by show (match own_step i p3 f1 with | 0 => _ | 1 => _ | _ => _) = _; rw [hst_32]; exact q1, fun t k => pr_31 t (q2 t k)⟩
            · have pr_33 : ∀ t, Steps p.tables e below (T_1.setTop (mkF m 58 #[.val (.ref a1), .val (.int p2), .val (.int p3), .val (.int i), .val (.int (0 : Int32))] [(.int (10 : Int32)), (.int (f1 (i).toNatClampNeg))])) t → Steps p.tables e below (T_1.setTop (mkF m 6 #[.val (.ref a1), .val (.int p2), .val (.int p3), .val (.int i), s4] [])) t := fun t k => by
                refine pr_17 _ ?_
                show Steps p.tables e below (T_1.setTop (mkF m 33 #[.val (.ref a1), .val (.int p2), .val (.int p3), .val (.int i), s4] [(.int (13 : Int32)), (.int (f1 ((i - (1 : Int32))).toNatClampNeg))])) _
                refine XS.icmpYes X_1.here hx rfl (pc0 := 33) (pc' := 50) rfl (hb hby d4_33) rfl (feq hc_18).2 (by decide) (by decide) ?_
                show Steps p.tables e below (T_1.setTop (mkF m 50 #[.val (.ref a1), .val (.int p2), .val (.int p3), .val (.int i), s4] [])) _
                refine XS.iconst X_1.here hx rfl (hb hby d4_50) ?_
                show Steps p.tables e below (T_1.setTop (mkF m 51 #[.val (.ref a1), .val (.int p2), .val (.int p3), .val (.int i), s4] [(.int (0 : Int32))])) _
                refine XS.istoreS X_1.here hx rfl (hb hby d4_51) rfl rfl hs4 ?_
                show Steps p.tables e below (T_1.setTop (mkF m 53 #[.val (.ref a1), .val (.int p2), .val (.int p3), .val (.int i), .val (.int (0 : Int32))] [])) _
                refine XS.aloadN X_1.here hx rfl (hb hby d4_53) rfl rfl ?_
                show Steps p.tables e below (T_1.setTop (mkF m 54 #[.val (.ref a1), .val (.int p2), .val (.int p3), .val (.int i), .val (.int (0 : Int32))] [(.ref a1)])) _
                refine XS.iloadN X_1.here hx rfl (hb hby d4_54) rfl ?_
                show Steps p.tables e below (T_1.setTop (mkF m 55 #[.val (.ref a1), .val (.int p2), .val (.int p3), .val (.int i), .val (.int (0 : Int32))] [(.int i), (.ref a1)])) _
                refine X_1.baloadBytes hx (j := i) (v := (.int (f1 (i).toNatClampNeg))) (by rw [e_1]; exact Ar_3.1) (State.isArrayOf_alike hZ.alike Ar_3.2.1) Ar_3.2.2 (own_inb Sz_3 (show ¬ (i < 0 ∨ 6 ≤ (i).toNatClampNeg) from (own_p0 h1 (own_up6 hc_6 h6)))) (At_3 _ (own_ltn (show ¬ (i < 0 ∨ 6 ≤ (i).toNatClampNeg) from (own_p0 h1 (own_up6 hc_6 h6))))) (g := (mkF m 55 #[.val (.ref a1), .val (.int p2), .val (.int p3), .val (.int i), .val (.int (0 : Int32))] [(.int i), (.ref a1)])) rfl rfl (hb hby d4_55) _ ?_
                show Steps p.tables e below (T_1.setTop (mkF m 56 #[.val (.ref a1), .val (.int p2), .val (.int p3), .val (.int i), .val (.int (0 : Int32))] [(.int (f1 (i).toNatClampNeg))])) _
                refine XS.bipush X_1.here hx rfl (hb hby d4_56) ?_
                exact k
              by_cases hc_34 : (f1 (i).toNatClampNeg) = (10 : Int32)
              · have pr_35 : ∀ t, Steps p.tables e below (T_1.setTop (mkF m 6 #[.val (.ref a1), .val (.int p2), .val (.int p3), .val (.int (i + (1 : Int32))), .val (.int (0 : Int32))] [])) t → Steps p.tables e below (T_1.setTop (mkF m 6 #[.val (.ref a1), .val (.int p2), .val (.int p3), .val (.int i), s4] [])) t := fun t k => by
                  refine pr_33 _ ?_
                  show Steps p.tables e below (T_1.setTop (mkF m 58 #[.val (.ref a1), .val (.int p2), .val (.int p3), .val (.int i), .val (.int (0 : Int32))] [(.int (10 : Int32)), (.int (f1 (i).toNatClampNeg))])) _
                  refine XS.icmpNo X_1.here hx rfl (hb hby d4_58) rfl (teq hc_34).2 ?_
                  show Steps p.tables e below (T_1.setTop (mkF m 61 #[.val (.ref a1), .val (.int p2), .val (.int p3), .val (.int i), .val (.int (0 : Int32))] [])) _
                  refine XS.iload X_1.here hx rfl (hb hby d4_61) rfl ?_
                  show Steps p.tables e below (T_1.setTop (mkF m 63 #[.val (.ref a1), .val (.int p2), .val (.int p3), .val (.int i), .val (.int (0 : Int32))] [(.int (0 : Int32))])) _
                  refine XS.ifYes X_1.here hx rfl (pc0 := 63) (pc' := 70) rfl (hb hby d4_63) rfl ((if0 _ _).trans (teq (by decide : (0 : Int32) = (0 : Int32))).1) (by decide) (by decide) ?_
                  show Steps p.tables e below (T_1.setTop (mkF m 70 #[.val (.ref a1), .val (.int p2), .val (.int p3), .val (.int i), .val (.int (0 : Int32))] [])) _
                  refine XS.iinc X_1.here hx rfl (hb hby d4_70) rfl (l' := #[.val (.ref a1), .val (.int p2), .val (.int p3), .val (.int (i + (1 : Int32))), .val (.int (0 : Int32))]) rfl ?_
                  show Steps p.tables e below (T_1.setTop (mkF m 73 #[.val (.ref a1), .val (.int p2), .val (.int p3), .val (.int (i + (1 : Int32))), .val (.int (0 : Int32))] [])) _
                  refine XS.goto X_1.here hx rfl (pc0 := 73) (pc' := 6) rfl (hb hby d4_73) (by decide) (by decide) ?_
                  exact k
                have hst_36 : own_step i p3 f1 = 2 := by rw [own_step, if_pos hc_6, if_neg hc_8, if_pos hc_16, if_neg hc_18, if_pos hc_34]
                rcases ih (i + (1 : Int32)) (.val (.int (0 : Int32))) (Or.inr ⟨_, rfl, rfl⟩) (own_next1 h1 hc_6 h6) (own_next2 h1 hc_6 h6 h2) with ⟨q1, i', s4', q2⟩ | ⟨i', s4', q1, q2⟩
                · exact Or.inl ⟨by show (match own_step i p3 f1 with | 0 => _ | 1 => _ | _ => _) = _; rw [hst_36]; exact q1, i', s4', fun t k => pr_35 t (q2 t k)⟩
                · exact Or.inr ⟨i', s4', by show (match own_step i p3 f1 with | 0 => _ | 1 => _ | _ => _) = _; rw [hst_36]; exact q1, fun t k => pr_35 t (q2 t k)⟩
              · have pr_37 : ∀ t, Steps p.tables e below (T_1.setTop (mkF m 6 #[.val (.ref a1), .val (.int p2), .val (.int p3), .val (.int (i + (1 : Int32))), .val (.int (0 : Int32))] [])) t → Steps p.tables e below (T_1.setTop (mkF m 6 #[.val (.ref a1), .val (.int p2), .val (.int p3), .val (.int i), s4] [])) t := fun t k => by
                  refine pr_33 _ ?_
                  show Steps p.tables e below (T_1.setTop (mkF m 58 #[.val (.ref a1), .val (.int p2), .val (.int p3), .val (.int i), .val (.int (0 : Int32))] [(.int (10 : Int32)), (.int (f1 (i).toNatClampNeg))])) _
                  refine XS.icmpYes X_1.here hx rfl (pc0 := 58) (pc' := 70) rfl (hb hby d4_58) rfl (feq hc_34).2 (by decide) (by decide) ?_
                  show Steps p.tables e below (T_1.setTop (mkF m 70 #[.val (.ref a1), .val (.int p2), .val (.int p3), .val (.int i), .val (.int (0 : Int32))] [])) _
                  refine XS.iinc X_1.here hx rfl (hb hby d4_70) rfl (l' := #[.val (.ref a1), .val (.int p2), .val (.int p3), .val (.int (i + (1 : Int32))), .val (.int (0 : Int32))]) rfl ?_
                  show Steps p.tables e below (T_1.setTop (mkF m 73 #[.val (.ref a1), .val (.int p2), .val (.int p3), .val (.int (i + (1 : Int32))), .val (.int (0 : Int32))] [])) _
                  refine XS.goto X_1.here hx rfl (pc0 := 73) (pc' := 6) rfl (hb hby d4_73) (by decide) (by decide) ?_
                  exact k
                have hst_38 : own_step i p3 f1 = 2 := by rw [own_step, if_pos hc_6, if_neg hc_8, if_pos hc_16, if_neg hc_18, if_neg hc_34]
                rcases ih (i + (1 : Int32)) (.val (.int (0 : Int32))) (Or.inr ⟨_, rfl, rfl⟩) (own_next1 h1 hc_6 h6) (own_next2 h1 hc_6 h6 h2) with ⟨q1, i', s4', q2⟩ | ⟨i', s4', q1, q2⟩
                · exact Or.inl ⟨by show (match own_step i p3 f1 with | 0 => _ | 1 => _ | _ => _) = _; rw [hst_38]; exact q1, i', s4', fun t k => pr_37 t (q2 t k)⟩
                · exact Or.inr ⟨i', s4', by show (match own_step i p3 f1 with | 0 => _ | 1 => _ | _ => _) = _; rw [hst_38]; exact q1, fun t k => pr_37 t (q2 t k)⟩
          · have pr_39 : ∀ t, Steps p.tables e below (T_1.setTop (mkF m 58 #[.val (.ref a1), .val (.int p2), .val (.int p3), .val (.int i), .val (.int (0 : Int32))] [(.int (10 : Int32)), (.int (f1 (i).toNatClampNeg))])) t → Steps p.tables e below (T_1.setTop (mkF m 6 #[.val (.ref a1), .val (.int p2), .val (.int p3), .val (.int i), s4] [])) t := fun t k => by
              refine pr_15 _ ?_
              show Steps p.tables e below (T_1.setTop (mkF m 23 #[.val (.ref a1), .val (.int p2), .val (.int p3), .val (.int i), s4] [(.int (1 : Int32)), (.int i)])) _
              refine XS.icmpYes X_1.here hx rfl (pc0 := 23) (pc' := 50) rfl (hb hby d4_23) rfl (flt hc_16).2.2.2 (by decide) (by decide) ?_
              show Steps p.tables e below (T_1.setTop (mkF m 50 #[.val (.ref a1), .val (.int p2), .val (.int p3), .val (.int i), s4] [])) _
              refine XS.iconst X_1.here hx rfl (hb hby d4_50) ?_
              show Steps p.tables e below (T_1.setTop (mkF m 51 #[.val (.ref a1), .val (.int p2), .val (.int p3), .val (.int i), s4] [(.int (0 : Int32))])) _
              refine XS.istoreS X_1.here hx rfl (hb hby d4_51) rfl rfl hs4 ?_
              show Steps p.tables e below (T_1.setTop (mkF m 53 #[.val (.ref a1), .val (.int p2), .val (.int p3), .val (.int i), .val (.int (0 : Int32))] [])) _
              refine XS.aloadN X_1.here hx rfl (hb hby d4_53) rfl rfl ?_
              show Steps p.tables e below (T_1.setTop (mkF m 54 #[.val (.ref a1), .val (.int p2), .val (.int p3), .val (.int i), .val (.int (0 : Int32))] [(.ref a1)])) _
              refine XS.iloadN X_1.here hx rfl (hb hby d4_54) rfl ?_
              show Steps p.tables e below (T_1.setTop (mkF m 55 #[.val (.ref a1), .val (.int p2), .val (.int p3), .val (.int i), .val (.int (0 : Int32))] [(.int i), (.ref a1)])) _
              refine X_1.baloadBytes hx (j := i) (v := (.int (f1 (i).toNatClampNeg))) (by rw [e_1]; exact Ar_3.1) (State.isArrayOf_alike hZ.alike Ar_3.2.1) Ar_3.2.2 (own_inb Sz_3 (show ¬ (i < 0 ∨ 6 ≤ (i).toNatClampNeg) from (own_p0 h1 (own_up6 hc_6 h6)))) (At_3 _ (own_ltn (show ¬ (i < 0 ∨ 6 ≤ (i).toNatClampNeg) from (own_p0 h1 (own_up6 hc_6 h6))))) (g := (mkF m 55 #[.val (.ref a1), .val (.int p2), .val (.int p3), .val (.int i), .val (.int (0 : Int32))] [(.int i), (.ref a1)])) rfl rfl (hb hby d4_55) _ ?_
              show Steps p.tables e below (T_1.setTop (mkF m 56 #[.val (.ref a1), .val (.int p2), .val (.int p3), .val (.int i), .val (.int (0 : Int32))] [(.int (f1 (i).toNatClampNeg))])) _
              refine XS.bipush X_1.here hx rfl (hb hby d4_56) ?_
              exact k
            by_cases hc_40 : (f1 (i).toNatClampNeg) = (10 : Int32)
            · have pr_41 : ∀ t, Steps p.tables e below (T_1.setTop (mkF m 6 #[.val (.ref a1), .val (.int p2), .val (.int p3), .val (.int (i + (1 : Int32))), .val (.int (0 : Int32))] [])) t → Steps p.tables e below (T_1.setTop (mkF m 6 #[.val (.ref a1), .val (.int p2), .val (.int p3), .val (.int i), s4] [])) t := fun t k => by
                refine pr_39 _ ?_
                show Steps p.tables e below (T_1.setTop (mkF m 58 #[.val (.ref a1), .val (.int p2), .val (.int p3), .val (.int i), .val (.int (0 : Int32))] [(.int (10 : Int32)), (.int (f1 (i).toNatClampNeg))])) _
                refine XS.icmpNo X_1.here hx rfl (hb hby d4_58) rfl (teq hc_40).2 ?_
                show Steps p.tables e below (T_1.setTop (mkF m 61 #[.val (.ref a1), .val (.int p2), .val (.int p3), .val (.int i), .val (.int (0 : Int32))] [])) _
                refine XS.iload X_1.here hx rfl (hb hby d4_61) rfl ?_
                show Steps p.tables e below (T_1.setTop (mkF m 63 #[.val (.ref a1), .val (.int p2), .val (.int p3), .val (.int i), .val (.int (0 : Int32))] [(.int (0 : Int32))])) _
                refine XS.ifYes X_1.here hx rfl (pc0 := 63) (pc' := 70) rfl (hb hby d4_63) rfl ((if0 _ _).trans (teq (by decide : (0 : Int32) = (0 : Int32))).1) (by decide) (by decide) ?_
                show Steps p.tables e below (T_1.setTop (mkF m 70 #[.val (.ref a1), .val (.int p2), .val (.int p3), .val (.int i), .val (.int (0 : Int32))] [])) _
                refine XS.iinc X_1.here hx rfl (hb hby d4_70) rfl (l' := #[.val (.ref a1), .val (.int p2), .val (.int p3), .val (.int (i + (1 : Int32))), .val (.int (0 : Int32))]) rfl ?_
                show Steps p.tables e below (T_1.setTop (mkF m 73 #[.val (.ref a1), .val (.int p2), .val (.int p3), .val (.int (i + (1 : Int32))), .val (.int (0 : Int32))] [])) _
                refine XS.goto X_1.here hx rfl (pc0 := 73) (pc' := 6) rfl (hb hby d4_73) (by decide) (by decide) ?_
                exact k
              have hst_42 : own_step i p3 f1 = 2 := by rw [own_step, if_pos hc_6, if_neg hc_8, if_neg hc_16, if_pos hc_40]
              rcases ih (i + (1 : Int32)) (.val (.int (0 : Int32))) (Or.inr ⟨_, rfl, rfl⟩) (own_next1 h1 hc_6 h6) (own_next2 h1 hc_6 h6 h2) with ⟨q1, i', s4', q2⟩ | ⟨i', s4', q1, q2⟩
              · exact Or.inl ⟨by show (match own_step i p3 f1 with | 0 => _ | 1 => _ | _ => _) = _; rw [hst_42]; exact q1, i', s4', fun t k => pr_41 t (q2 t k)⟩
              · exact Or.inr ⟨i', s4', by show (match own_step i p3 f1 with | 0 => _ | 1 => _ | _ => _) = _; rw [hst_42]; exact q1, fun t k => pr_41 t (q2 t k)⟩
            · have pr_43 : ∀ t, Steps p.tables e below (T_1.setTop (mkF m 6 #[.val (.ref a1), .val (.int p2), .val (.int p3), .val (.int (i + (1 : Int32))), .val (.int (0 : Int32))] [])) t → Steps p.tables e below (T_1.setTop (mkF m 6 #[.val (.ref a1), .val (.int p2), .val (.int p3), .val (.int i), s4] [])) t := fun t k => by
                refine pr_39 _ ?_
                show Steps p.tables e below (T_1.setTop (mkF m 58 #[.val (.ref a1), .val (.int p2), .val (.int p3), .val (.int i), .val (.int (0 : Int32))] [(.int (10 : Int32)), (.int (f1 (i).toNatClampNeg))])) _
                refine XS.icmpYes X_1.here hx rfl (pc0 := 58) (pc' := 70) rfl (hb hby d4_58) rfl (feq hc_40).2 (by decide) (by decide) ?_
                show Steps p.tables e below (T_1.setTop (mkF m 70 #[.val (.ref a1), .val (.int p2), .val (.int p3), .val (.int i), .val (.int (0 : Int32))] [])) _
                refine XS.iinc X_1.here hx rfl (hb hby d4_70) rfl (l' := #[.val (.ref a1), .val (.int p2), .val (.int p3), .val (.int (i + (1 : Int32))), .val (.int (0 : Int32))]) rfl ?_
                show Steps p.tables e below (T_1.setTop (mkF m 73 #[.val (.ref a1), .val (.int p2), .val (.int p3), .val (.int (i + (1 : Int32))), .val (.int (0 : Int32))] [])) _
                refine XS.goto X_1.here hx rfl (pc0 := 73) (pc' := 6) rfl (hb hby d4_73) (by decide) (by decide) ?_
                exact k
              have hst_44 : own_step i p3 f1 = 2 := by rw [own_step, if_pos hc_6, if_neg hc_8, if_neg hc_16, if_neg hc_40]
              rcases ih (i + (1 : Int32)) (.val (.int (0 : Int32))) (Or.inr ⟨_, rfl, rfl⟩) (own_next1 h1 hc_6 h6) (own_next2 h1 hc_6 h6 h2) with ⟨q1, i', s4', q2⟩ | ⟨i', s4', q1, q2⟩
              · exact Or.inl ⟨by show (match own_step i p3 f1 with | 0 => _ | 1 => _ | _ => _) = _; rw [hst_44]; exact q1, i', s4', fun t k => pr_43 t (q2 t k)⟩
              · exact Or.inr ⟨i', s4', by show (match own_step i p3 f1 with | 0 => _ | 1 => _ | _ => _) = _; rw [hst_44]; exact q1, fun t k => pr_43 t (q2 t k)⟩
      · have pr_45 : ∀ t, Steps p.tables e below (T_1.setTop (mkF m 76 #[.val (.ref a1), .val (.int p2), .val (.int p3), .val (.int i), s4] [])) t → Steps p.tables e below (T_1.setTop (mkF m 6 #[.val (.ref a1), .val (.int p2), .val (.int p3), .val (.int i), s4] [])) t := fun t k => by
          refine pr_5 _ ?_
          show Steps p.tables e below (T_1.setTop (mkF m 8 #[.val (.ref a1), .val (.int p2), .val (.int p3), .val (.int i), s4] [(.int p3), (.int i)])) _
          refine XS.icmpYes X_1.here hx rfl (pc0 := 8) (pc' := 76) rfl (hb hby d4_8) rfl (flt hc_6).2.1 (by decide) (by decide) ?_
          exact k
        have hst_46 : own_step i p3 f1 = 0 := by rw [own_step, if_neg hc_6]
        exact Or.inl ⟨by show (match own_step i p3 f1 with | 0 => _ | 1 => _ | _ => _) = _; rw [hst_46]; rfl, i, s4, pr_45⟩
  rcases loop 6 (own_max (1 : Int32) p2) .unset (Or.inl rfl) (own_lo _) (own_fuel _ h6) with ⟨q1, i', s4', q2⟩ | ⟨i', s4', q1, q2⟩
  · have pl_47 : ∀ t, Steps p.tables e below (T_1.setTop (mkF m 76 #[.val (.ref a1), .val (.int p2), .val (.int p3), .val (.int i'), s4'] [])) t → Steps p.tables e below (s₁.setTop (entryFrame m #[(.ref a1), (.int p2), (.int p3)] 5)) t := fun t k => pr_2 _ (q2 t k)
    obtain ⟨fs, hr, hrun, hended, hW, hsame⟩ := X_1.leave (v := some (.int (-1 : Int32))) (fun h => by rw [Bd.returns] at h; cases h)
    refine ⟨_, _, pl_47 _ ?_, hrun, hended, _, _, rfl, ?_, ⟨_, rfl⟩, hW, hsame.mono (by decide) (by decide)⟩
    · show Steps p.tables e below (T_1.setTop (mkF m 76 #[.val (.ref a1), .val (.int p2), .val (.int p3), .val (.int i'), s4'] [])) _
      refine XS.iconst X_1.here hx rfl (hb hby d4_76) ?_
      show Steps p.tables e below (T_1.setTop (mkF m 77 #[.val (.ref a1), .val (.int p2), .val (.int p3), .val (.int i'), s4'] [(.int (-1 : Int32))])) _
      exact retI X_1 hx Bd.returns (hb hby d4_77) hr
    · show Q4 Z a1 p2 p3 f1 h0 n0 _ T_1.heap _
      rw [e_1]
      exact ⟨by rw [q1], N_1, rfl⟩
  · have pl_48 : ∀ t, Steps p.tables e below (T_1.setTop (mkF m 66 #[.val (.ref a1), .val (.int p2), .val (.int p3), .val (.int i'), s4'] [])) t → Steps p.tables e below (s₁.setTop (entryFrame m #[(.ref a1), (.int p2), (.int p3)] 5)) t := fun t k => pr_2 _ (q2 t k)
    obtain ⟨fs, hr, hrun, hended, hW, hsame⟩ := X_1.leave (v := some (.int (i' + (1 : Int32)))) (fun h => by rw [Bd.returns] at h; cases h)
    refine ⟨_, _, pl_48 _ ?_, hrun, hended, _, _, rfl, ?_, ⟨_, rfl⟩, hW, hsame.mono (by decide) (by decide)⟩
    · show Steps p.tables e below (T_1.setTop (mkF m 66 #[.val (.ref a1), .val (.int p2), .val (.int p3), .val (.int i'), s4'] [])) _
      refine XS.iloadN X_1.here hx rfl (hb hby d4_66) rfl ?_
      show Steps p.tables e below (T_1.setTop (mkF m 67 #[.val (.ref a1), .val (.int p2), .val (.int p3), .val (.int i'), s4'] [(.int i')])) _
      refine XS.iconst X_1.here hx rfl (hb hby d4_67) ?_
      show Steps p.tables e below (T_1.setTop (mkF m 68 #[.val (.ref a1), .val (.int p2), .val (.int p3), .val (.int i'), s4'] [(.int (1 : Int32)), (.int i')])) _
      refine XS.iadd X_1.here hx rfl (hb hby d4_68) rfl ?_
      show Steps p.tables e below (T_1.setTop (mkF m 69 #[.val (.ref a1), .val (.int p2), .val (.int p3), .val (.int i'), s4'] [(.int (i' + (1 : Int32)))])) _
      exact retI X_1 hx Bd.returns (hb hby d4_69) hr
    · show Q4 Z a1 p2 p3 f1 h0 n0 _ T_1.heap _
      rw [e_1]
      exact ⟨by rw [q1], N_1, rfl⟩
theorem own_to (p3 i : Int32) (h : i = (p3 &&& (2147483647 : Int32)) % (7 : Int32)) : i.toInt ≤ 6 := by
  have e1 : (p3 &&& (2147483647 : Int32)).toInt = p3.toInt % 2 ^ 31 := Jvm.Kit.i32_mask p3 _ (k := 31) (by decide) (by decide)
  have e2 : ((p3 &&& (2147483647 : Int32)) % (7 : Int32)).toInt = (p3 &&& (2147483647 : Int32)).toInt % (7 : Int32).toInt := Jvm.Kit.i32_rem_nonneg (by omega)
  have e3 : (7 : Int32).toInt = 7 := rfl
  rw [e3] at e2
  rw [h]; omega
theorem own_step_is (f : Nat → Int32) (i to : Int32) (h : i < to) : own_step i to f = if own_blank i f = 0 then 2 else 1 := by
  have k1 := own_one
  have k2 := own_two
  have q : ¬ i < (2 : Int32) ↔ (1 : Int32) < i := by rw [Int32.lt_iff_toInt_lt, Int32.lt_iff_toInt_lt]; omega
  unfold own_step own_blank
  rw [if_pos h]
  generalize f (i).toNatClampNeg = x
  generalize f ((i - (1 : Int32))).toNatClampNeg = y
  generalize f ((i - (2 : Int32))).toNatClampNeg = w
  by_cases h2 : i < (2 : Int32)
  · have h3 : ¬ (1 : Int32) < i := fun z => (q.mpr z) h2
    by_cases a : x = 10 <;> by_cases b : y = 10 <;> simp [h2, h3, a, b]
  · have h3 : (1 : Int32) < i := q.mp h2
    by_cases a : x = 10 <;> by_cases b : y = 10 <;> by_cases c : y = 13 <;> by_cases d : w = 10 <;> simp [h2, h3, a, b, c, d]
theorem own_scan_is (f : Nat → Int32) (to : Int32) (k : Nat) (i : Int32) : own_scan f to (k + 1) i = if i < to then (if own_blank i f = 0 then own_scan f to k (i + (1 : Int32)) else i + 1) else -1 := by
  show (match own_step i to f with | 0 => _ | 1 => _ | _ => _) = _
  by_cases h : i < to
  · rw [own_step_is f i to h, if_pos h]
    by_cases b : own_blank i f = 0
    · rw [if_pos b, if_pos b]; rfl
    · rw [if_neg b, if_neg b]; rfl
  · have e : own_step i to f = 0 := by rw [own_step, if_neg h]
    rw [e, if_neg h]; rfl
theorem own_hit0 (i lo to : Int32) (f : Nat → Int32) (h : ¬ lo < to) : own_hit i lo to f = 0 := by
  unfold own_hit
  by_cases a : i < lo
  · rw [if_pos a]
  · rw [if_neg a, if_neg]
    rw [Int32.lt_iff_toInt_lt] at *
    omega
theorem own_fin (f : Nat → Int32) (lo to : Int32) (h1 : 1 ≤ lo.toInt) (h6 : to.toInt ≤ 6) : own_scan f to 6 lo = (if own_hit (1 : Int32) lo to f = (0 : Int32) then (if own_hit (2 : Int32) lo to f = (0 : Int32) then (if own_hit (3 : Int32) lo to f = (0 : Int32) then (if own_hit (4 : Int32) lo to f = (0 : Int32) then (if own_hit (5 : Int32) lo to f = (0 : Int32) then (-1 : Int32) else (6 : Int32)) else (5 : Int32)) else (4 : Int32)) else (3 : Int32)) else (2 : Int32)) := by
  by_cases hlt : lo < to
  · have k : (1 : Int32).toInt = 1 ∧ (2 : Int32).toInt = 2 ∧ (3 : Int32).toInt = 3 ∧ (4 : Int32).toInt = 4 ∧ (5 : Int32).toInt = 5 ∧ (6 : Int32).toInt = 6 := by decide
    obtain ⟨k1, k2, k3, k4, k5, k6⟩ := k
    have a : lo = 1 ∨ lo = 2 ∨ lo = 3 ∨ lo = 4 ∨ lo = 5 := by
      rw [Int32.lt_iff_toInt_lt] at hlt
      simp only [← Int32.toInt_inj, k1, k2, k3, k4, k5]
      omega
    have b : to = 2 ∨ to = 3 ∨ to = 4 ∨ to = 5 ∨ to = 6 := by
      rw [Int32.lt_iff_toInt_lt] at hlt
      simp only [← Int32.toInt_inj, k2, k3, k4, k5, k6]
      omega
    clear h1 h6 k1 k2 k3 k4 k5 k6
    rcases a with rfl | rfl | rfl | rfl | rfl <;> rcases b with rfl | rfl | rfl | rfl | rfl <;> first
      | exact absurd hlt (by decide)
      | (clear hlt
         simp +decide [own_scan_is, own_hit])
  · rw [own_hit0 1 lo to f hlt, own_hit0 2 lo to f hlt, own_hit0 3 lo to f hlt, own_hit0 4 lo to f hlt, own_hit0 5 lo to f hlt, own_scan_is, if_neg hlt]
    rfl
theorem pd_3 : parseMethodDescriptor "(JI)B" = some ⟨[.long, .int], some .byte⟩ := by decide +kernel
theorem pd_4 : parseMethodDescriptor "([BIII)Z" = some ⟨[(.array .byte), .int, .int, .int], some .boolean⟩ := by decide +kernel
theorem pd_5 : parseMethodDescriptor "([BII)I" = some ⟨[(.array .byte), .int, .int], some .int⟩ := by decide +kernel
theorem ef_0_JII (m : MethodId) (x0 : Int64) (x1 : Int32) (x2 : Int32) : entryFrame m #[(.long x0), (.int x1), (.int x2)] maxLocals = mkF m 0 #[.val (.long x0), .second, .val (.int x1), .val (.int x2), .unset, .unset, .unset, .unset, .unset, .unset] [] := by first | (simp [entryFrame, mkF, argsToLocals, Value.category, maxLocals]; done) | rfl
def Q0 (n0 : Nat) (v : Option Value) (h : Heap) (L : List Loc) : Prop := v = some (.int (1 : Int32)) ∧ Fr n0 L
theorem pn_0 : plainName "com/example/parcelwright/parcelwright/soap/HttpHeadEndPinLaw" = true := by first | (simp [plainName, overriddenIn]; done) | decide +kernel
set_option maxRecDepth 65536 in
set_option maxHeartbeats 40000000 in
theorem rm0 (l : Launch) (Z : State) (a0 : Array Value) (hw : ∀ d ∈ tables_1, d.before a0 Z = true) (ws : List Jvm.Cond) (q1 : Int64) (p2 : Int32) (p3 : Int32) (h0 : Heap) (n0 : Nat) (Z0 : n0 ≤ h0.size)  :
    MetFree l x (head1 (Jvm.Cond.code x code maxLocals ret :: ws) room_1) (fun a U => a = #[(.long q1), (.int p2), (.int p3)] ∧ Z.Warmed39 U.vm ∧ U.heap = h0) (fun _ _ _ _ _ => True) (fun _ U o U' => ∃ v L, o = .returned v ∧ Q0 n0 v U'.heap L ∧ FrameEnd U o U' L room_1.cells room_1.slots) := by
  refine MetFree.of_bodySF (plainFor_of_name pn_0) hisR ?_
  intro p e s m args below meth c s₁ Bd hml0 hP hK
  obtain ⟨rfl, hZ, hh⟩ := hP
  have hx := Bd.exec
  have hby := Bd.bytes
  have hml : c.maxLocals = 10 := hml0
  have hown : s.vm.findClass "com/example/parcelwright/parcelwright/soap/HttpHeadEndPinLaw" = some m.cls := findClass_of_methodNamed Bd.named
  have hnm := (name_of_methodNamed Bd.named Bd.method).1
  have X0 : Stand p l e room_1 s m #[(.long q1), (.int p2), (.int p3)] below meth c s₁ [] 0 0 := Stand.of_body Bd
  have e0 : s₁.heap = h0 := by rw [← hh, Bd.state]; rfl
  have N0 := Fr.nil n0
  have pre0 : ∀ t, Steps p.tables e below (s₁.setTop (mkF m 0 #[.val (.long q1), .second, .val (.int p2), .val (.int p3), .unset, .unset, .unset, .unset, .unset, .unset] [])) t → Steps p.tables e below (s₁.setTop (entryFrame m #[(.long q1), (.int p2), (.int p3)] maxLocals)) t := fun t k => castTop (ef_0_JII m q1 p2 p3) k
  obtain ⟨T_1, h_1, k_1, X_1, e_1, E_1, A_1, st_1⟩ := newP X0 hx hZ (hw _ (List.mem_of_getElem? (i := 0) rfl)) e0 (g := (mkF m 2 #[.val (.long q1), .second, .val (.int p2), .val (.int p3), .unset, .unset, .unset, .unset, .unset, .unset] [(.int (6 : Int32))])) rfl (hb hby at_2) rfl (by decide) (cap := 6) (by decide) (by decide) (by decide) (by decide)
  obtain ⟨b_1, g_1⟩ : ∃ z, z = h0.size := ⟨_, rfl⟩
  rw [← g_1] at A_1 st_1
  have g_b_1 : n0 ≤ b_1 := Nat.le_trans Z0 (Nat.le_of_eq g_1.symm)
  have sz_b_1 : h0.size ≤ b_1 := Nat.le_trans ((Keep.refl h0 [])).1 (Nat.le_of_eq g_1.symm)
  have Z_1 : n0 ≤ h_1.size := Nat.le_trans Z0 E_1.1
  have K_1 : Keep h0 h_1 [] := (Keep.refl h0 []).ext E_1
  have fa_1 : own_arr .byte Z h_1 b_1 6 (fun _ => 0) := own_arr.newB A_1 rfl
  obtain ⟨_, _, ⟨T_2, L_2, k_2, n_2⟩, -, X_2, ⟨Lc_2, hQ_2, l_2, y_2, z_2⟩, st_2⟩ := Jvm.LawKit.callS X_1 hx (y := (⟨"com/example/parcelwright/parcelwright/soap/HttpHeadEndPinLaw", "pick", "(JI)B"⟩ : MethodName)) hown (mvT hZ (hw _ (List.mem_of_getElem? (i := 1) rfl))) (mvT hZ (hw _ (List.mem_of_getElem? (i := 2) rfl))) (mvT hZ (hw _ (List.mem_of_getElem? (i := 3) rfl))) (mvT hZ (hw _ (List.mem_of_getElem? (i := 4) rfl))) (by decide) (backOf (W := 2) (rm1 l Z a0 hw [] q1 (0 : Int32) h_1 n0 Z_1) hZ (hw _ (List.mem_of_getElem? (i := 4) rfl)) (hw _ (List.mem_of_getElem? (i := 3) rfl)) (by decide) (by decide)) (g := (mkF m 11 #[.val (.long q1), .second, .val (.int p2), .val (.int p3), .val (.ref b_1), .unset, .unset, .unset, .unset, .unset] [(.int (0 : Int32)), (.long q1), (.int (0 : Int32)), (.ref b_1)])) rfl (by rw [hml]; rfl) (argsL := [(.long q1), (.int (0 : Int32))]) (rest := [(.int (0 : Int32)), (.ref b_1)]) (lenOf pd_3 rfl) rfl (by show 2 * 0 + _ ≤ _; exact Nat.le_of_eq rfl) (hb hby at_11) (fun _ _ => ⟨rfl, e_1, (by decide : 1 + 0 ≤ _), (by decide : 6 + 0 ≤ _)⟩)
  dsimp only [Pt.U, Pt.locs, Pt.cells, Pt.slots] at X_2 l_2 y_2 z_2 st_2 hQ_2
  subst l_2 y_2 z_2
  obtain ⟨rfl, N_2q, e_2⟩ := hQ_2
  have N_2 := Fr.app N0 N_2q
  obtain ⟨cl_3, Ar_3, Sz_3, At_3⟩ := fa_1
  obtain ⟨T_3, h_3, X_3, e_3, W_3, st_3⟩ := stB X_2 hx hZ e_2 Ar_3 (j := (0 : Int32)) (own_inb Sz_3 (by decide)) (g := (mkF m 14 #[.val (.long q1), .second, .val (.int p2), .val (.int p3), .val (.ref b_1), .unset, .unset, .unset, .unset, .unset] [(.int (own_pick q1 (0 : Int32))), (.int (0 : Int32)), (.ref b_1)])) rfl rfl (hb hby at_14)
  have N_3 := Fr.snoc X_3 N_2 g_b_1
  have fw_3 : own_arr .byte Z h_3 b_1 6 (own_upd (fun _ => 0) 0 (nar .byte (own_pick q1 (0 : Int32)))) := own_arr.set Ar_3 Sz_3 At_3 W_3
  have Z_3 : n0 ≤ h_3.size := Nat.le_trans Z_1 (Keep.of_wr W_3).1
  have K_3 : Keep h0 h_3 [] := K_1.wr W_3 (Or.inr sz_b_1)
  obtain ⟨_, _, ⟨T_4, L_4, k_4, n_4⟩, -, X_4, ⟨Lc_4, hQ_4, l_4, y_4, z_4⟩, st_4⟩ := Jvm.LawKit.callS X_3 hx (y := (⟨"com/example/parcelwright/parcelwright/soap/HttpHeadEndPinLaw", "pick", "(JI)B"⟩ : MethodName)) hown (mvT hZ (hw _ (List.mem_of_getElem? (i := 1) rfl))) (mvT hZ (hw _ (List.mem_of_getElem? (i := 2) rfl))) (mvT hZ (hw _ (List.mem_of_getElem? (i := 3) rfl))) (mvT hZ (hw _ (List.mem_of_getElem? (i := 4) rfl))) (by decide) (backOf (W := 2) (rm1 l Z a0 hw [] q1 (1 : Int32) h_3 n0 Z_3) hZ (hw _ (List.mem_of_getElem? (i := 4) rfl)) (hw _ (List.mem_of_getElem? (i := 3) rfl)) (by decide) (by decide)) (g := (mkF m 20 #[.val (.long q1), .second, .val (.int p2), .val (.int p3), .val (.ref b_1), .unset, .unset, .unset, .unset, .unset] [(.int (1 : Int32)), (.long q1), (.int (1 : Int32)), (.ref b_1)])) rfl (by rw [hml]; rfl) (argsL := [(.long q1), (.int (1 : Int32))]) (rest := [(.int (1 : Int32)), (.ref b_1)]) (lenOf pd_3 rfl) rfl (by show 2 * 0 + _ ≤ _; exact Nat.le_of_eq rfl) (hb hby at_20) (fun _ _ => ⟨rfl, e_3, (by decide : 1 + 0 ≤ _), (by decide : 6 + 0 ≤ _)⟩)
  dsimp only [Pt.U, Pt.locs, Pt.cells, Pt.slots] at X_4 l_4 y_4 z_4 st_4 hQ_4
  subst l_4 y_4 z_4
  obtain ⟨rfl, N_4q, e_4⟩ := hQ_4
  have N_4 := Fr.app N_3 N_4q
  obtain ⟨cl_5, Ar_5, Sz_5, At_5⟩ := fw_3
  obtain ⟨T_5, h_5, X_5, e_5, W_5, st_5⟩ := stB X_4 hx hZ e_4 Ar_5 (j := (1 : Int32)) (own_inb Sz_5 (by decide)) (g := (mkF m 23 #[.val (.long q1), .second, .val (.int p2), .val (.int p3), .val (.ref b_1), .unset, .unset, .unset, .unset, .unset] [(.int (own_pick q1 (1 : Int32))), (.int (1 : Int32)), (.ref b_1)])) rfl rfl (hb hby at_23)
  have N_5 := Fr.snoc X_5 N_4 g_b_1
  have fw_5 : own_arr .byte Z h_5 b_1 6 (own_upd (own_upd (fun _ => 0) 0 (nar .byte (own_pick q1 (0 : Int32)))) 1 (nar .byte (own_pick q1 (1 : Int32)))) := own_arr.set Ar_5 Sz_5 At_5 W_5
  have Z_5 : n0 ≤ h_5.size := Nat.le_trans Z_3 (Keep.of_wr W_5).1
  have K_5 : Keep h0 h_5 [] := K_3.wr W_5 (Or.inr sz_b_1)
  obtain ⟨_, _, ⟨T_6, L_6, k_6, n_6⟩, -, X_6, ⟨Lc_6, hQ_6, l_6, y_6, z_6⟩, st_6⟩ := Jvm.LawKit.callS X_5 hx (y := (⟨"com/example/parcelwright/parcelwright/soap/HttpHeadEndPinLaw", "pick", "(JI)B"⟩ : MethodName)) hown (mvT hZ (hw _ (List.mem_of_getElem? (i := 1) rfl))) (mvT hZ (hw _ (List.mem_of_getElem? (i := 2) rfl))) (mvT hZ (hw _ (List.mem_of_getElem? (i := 3) rfl))) (mvT hZ (hw _ (List.mem_of_getElem? (i := 4) rfl))) (by decide) (backOf (W := 2) (rm1 l Z a0 hw [] q1 (2 : Int32) h_5 n0 Z_5) hZ (hw _ (List.mem_of_getElem? (i := 4) rfl)) (hw _ (List.mem_of_getElem? (i := 3) rfl)) (by decide) (by decide)) (g := (mkF m 29 #[.val (.long q1), .second, .val (.int p2), .val (.int p3), .val (.ref b_1), .unset, .unset, .unset, .unset, .unset] [(.int (2 : Int32)), (.long q1), (.int (2 : Int32)), (.ref b_1)])) rfl (by rw [hml]; rfl) (argsL := [(.long q1), (.int (2 : Int32))]) (rest := [(.int (2 : Int32)), (.ref b_1)]) (lenOf pd_3 rfl) rfl (by show 2 * 0 + _ ≤ _; exact Nat.le_of_eq rfl) (hb hby at_29) (fun _ _ => ⟨rfl, e_5, (by decide : 1 + 0 ≤ _), (by decide : 6 + 0 ≤ _)⟩)
  dsimp only [Pt.U, Pt.locs, Pt.cells, Pt.slots] at X_6 l_6 y_6 z_6 st_6 hQ_6
  subst l_6 y_6 z_6
  obtain ⟨rfl, N_6q, e_6⟩ := hQ_6
  have N_6 := Fr.app N_5 N_6q
  obtain ⟨cl_7, Ar_7, Sz_7, At_7⟩ := fw_5
  obtain ⟨T_7, h_7, X_7, e_7, W_7, st_7⟩ := stB X_6 hx hZ e_6 Ar_7 (j := (2 : Int32)) (own_inb Sz_7 (by decide)) (g := (mkF m 32 #[.val (.long q1), .second, .val (.int p2), .val (.int p3), .val (.ref b_1), .unset, .unset, .unset, .unset, .unset] [(.int (own_pick q1 (2 : Int32))), (.int (2 : Int32)), (.ref b_1)])) rfl rfl (hb hby at_32)
  have N_7 := Fr.snoc X_7 N_6 g_b_1
  have fw_7 : own_arr .byte Z h_7 b_1 6 (own_upd (own_upd (own_upd (fun _ => 0) 0 (nar .byte (own_pick q1 (0 : Int32)))) 1 (nar .byte (own_pick q1 (1 : Int32)))) 2 (nar .byte (own_pick q1 (2 : Int32)))) := own_arr.set Ar_7 Sz_7 At_7 W_7
  have Z_7 : n0 ≤ h_7.size := Nat.le_trans Z_5 (Keep.of_wr W_7).1
  have K_7 : Keep h0 h_7 [] := K_5.wr W_7 (Or.inr sz_b_1)
  obtain ⟨_, _, ⟨T_8, L_8, k_8, n_8⟩, -, X_8, ⟨Lc_8, hQ_8, l_8, y_8, z_8⟩, st_8⟩ := Jvm.LawKit.callS X_7 hx (y := (⟨"com/example/parcelwright/parcelwright/soap/HttpHeadEndPinLaw", "pick", "(JI)B"⟩ : MethodName)) hown (mvT hZ (hw _ (List.mem_of_getElem? (i := 1) rfl))) (mvT hZ (hw _ (List.mem_of_getElem? (i := 2) rfl))) (mvT hZ (hw _ (List.mem_of_getElem? (i := 3) rfl))) (mvT hZ (hw _ (List.mem_of_getElem? (i := 4) rfl))) (by decide) (backOf (W := 2) (rm1 l Z a0 hw [] q1 (3 : Int32) h_7 n0 Z_7) hZ (hw _ (List.mem_of_getElem? (i := 4) rfl)) (hw _ (List.mem_of_getElem? (i := 3) rfl)) (by decide) (by decide)) (g := (mkF m 38 #[.val (.long q1), .second, .val (.int p2), .val (.int p3), .val (.ref b_1), .unset, .unset, .unset, .unset, .unset] [(.int (3 : Int32)), (.long q1), (.int (3 : Int32)), (.ref b_1)])) rfl (by rw [hml]; rfl) (argsL := [(.long q1), (.int (3 : Int32))]) (rest := [(.int (3 : Int32)), (.ref b_1)]) (lenOf pd_3 rfl) rfl (by show 2 * 0 + _ ≤ _; exact Nat.le_of_eq rfl) (hb hby at_38) (fun _ _ => ⟨rfl, e_7, (by decide : 1 + 0 ≤ _), (by decide : 6 + 0 ≤ _)⟩)
  dsimp only [Pt.U, Pt.locs, Pt.cells, Pt.slots] at X_8 l_8 y_8 z_8 st_8 hQ_8
  subst l_8 y_8 z_8
  obtain ⟨rfl, N_8q, e_8⟩ := hQ_8
  have N_8 := Fr.app N_7 N_8q
  obtain ⟨cl_9, Ar_9, Sz_9, At_9⟩ := fw_7
  obtain ⟨T_9, h_9, X_9, e_9, W_9, st_9⟩ := stB X_8 hx hZ e_8 Ar_9 (j := (3 : Int32)) (own_inb Sz_9 (by decide)) (g := (mkF m 41 #[.val (.long q1), .second, .val (.int p2), .val (.int p3), .val (.ref b_1), .unset, .unset, .unset, .unset, .unset] [(.int (own_pick q1 (3 : Int32))), (.int (3 : Int32)), (.ref b_1)])) rfl rfl (hb hby at_41)
  have N_9 := Fr.snoc X_9 N_8 g_b_1
  have fw_9 : own_arr .byte Z h_9 b_1 6 (own_upd (own_upd (own_upd (own_upd (fun _ => 0) 0 (nar .byte (own_pick q1 (0 : Int32)))) 1 (nar .byte (own_pick q1 (1 : Int32)))) 2 (nar .byte (own_pick q1 (2 : Int32)))) 3 (nar .byte (own_pick q1 (3 : Int32)))) := own_arr.set Ar_9 Sz_9 At_9 W_9
  have Z_9 : n0 ≤ h_9.size := Nat.le_trans Z_7 (Keep.of_wr W_9).1
  have K_9 : Keep h0 h_9 [] := K_7.wr W_9 (Or.inr sz_b_1)
  obtain ⟨_, _, ⟨T_10, L_10, k_10, n_10⟩, -, X_10, ⟨Lc_10, hQ_10, l_10, y_10, z_10⟩, st_10⟩ := Jvm.LawKit.callS X_9 hx (y := (⟨"com/example/parcelwright/parcelwright/soap/HttpHeadEndPinLaw", "pick", "(JI)B"⟩ : MethodName)) hown (mvT hZ (hw _ (List.mem_of_getElem? (i := 1) rfl))) (mvT hZ (hw _ (List.mem_of_getElem? (i := 2) rfl))) (mvT hZ (hw _ (List.mem_of_getElem? (i := 3) rfl))) (mvT hZ (hw _ (List.mem_of_getElem? (i := 4) rfl))) (by decide) (backOf (W := 2) (rm1 l Z a0 hw [] q1 (4 : Int32) h_9 n0 Z_9) hZ (hw _ (List.mem_of_getElem? (i := 4) rfl)) (hw _ (List.mem_of_getElem? (i := 3) rfl)) (by decide) (by decide)) (g := (mkF m 47 #[.val (.long q1), .second, .val (.int p2), .val (.int p3), .val (.ref b_1), .unset, .unset, .unset, .unset, .unset] [(.int (4 : Int32)), (.long q1), (.int (4 : Int32)), (.ref b_1)])) rfl (by rw [hml]; rfl) (argsL := [(.long q1), (.int (4 : Int32))]) (rest := [(.int (4 : Int32)), (.ref b_1)]) (lenOf pd_3 rfl) rfl (by show 2 * 0 + _ ≤ _; exact Nat.le_of_eq rfl) (hb hby at_47) (fun _ _ => ⟨rfl, e_9, (by decide : 1 + 0 ≤ _), (by decide : 6 + 0 ≤ _)⟩)
  dsimp only [Pt.U, Pt.locs, Pt.cells, Pt.slots] at X_10 l_10 y_10 z_10 st_10 hQ_10
  subst l_10 y_10 z_10
  obtain ⟨rfl, N_10q, e_10⟩ := hQ_10
  have N_10 := Fr.app N_9 N_10q
  obtain ⟨cl_11, Ar_11, Sz_11, At_11⟩ := fw_9
  obtain ⟨T_11, h_11, X_11, e_11, W_11, st_11⟩ := stB X_10 hx hZ e_10 Ar_11 (j := (4 : Int32)) (own_inb Sz_11 (by decide)) (g := (mkF m 50 #[.val (.long q1), .second, .val (.int p2), .val (.int p3), .val (.ref b_1), .unset, .unset, .unset, .unset, .unset] [(.int (own_pick q1 (4 : Int32))), (.int (4 : Int32)), (.ref b_1)])) rfl rfl (hb hby at_50)
  have N_11 := Fr.snoc X_11 N_10 g_b_1
  have fw_11 : own_arr .byte Z h_11 b_1 6 (own_upd (own_upd (own_upd (own_upd (own_upd (fun _ => 0) 0 (nar .byte (own_pick q1 (0 : Int32)))) 1 (nar .byte (own_pick q1 (1 : Int32)))) 2 (nar .byte (own_pick q1 (2 : Int32)))) 3 (nar .byte (own_pick q1 (3 : Int32)))) 4 (nar .byte (own_pick q1 (4 : Int32)))) := own_arr.set Ar_11 Sz_11 At_11 W_11
  have Z_11 : n0 ≤ h_11.size := Nat.le_trans Z_9 (Keep.of_wr W_11).1
  have K_11 : Keep h0 h_11 [] := K_9.wr W_11 (Or.inr sz_b_1)
  obtain ⟨_, _, ⟨T_12, L_12, k_12, n_12⟩, -, X_12, ⟨Lc_12, hQ_12, l_12, y_12, z_12⟩, st_12⟩ := Jvm.LawKit.callS X_11 hx (y := (⟨"com/example/parcelwright/parcelwright/soap/HttpHeadEndPinLaw", "pick", "(JI)B"⟩ : MethodName)) hown (mvT hZ (hw _ (List.mem_of_getElem? (i := 1) rfl))) (mvT hZ (hw _ (List.mem_of_getElem? (i := 2) rfl))) (mvT hZ (hw _ (List.mem_of_getElem? (i := 3) rfl))) (mvT hZ (hw _ (List.mem_of_getElem? (i := 4) rfl))) (by decide) (backOf (W := 2) (rm1 l Z a0 hw [] q1 (5 : Int32) h_11 n0 Z_11) hZ (hw _ (List.mem_of_getElem? (i := 4) rfl)) (hw _ (List.mem_of_getElem? (i := 3) rfl)) (by decide) (by decide)) (g := (mkF m 56 #[.val (.long q1), .second, .val (.int p2), .val (.int p3), .val (.ref b_1), .unset, .unset, .unset, .unset, .unset] [(.int (5 : Int32)), (.long q1), (.int (5 : Int32)), (.ref b_1)])) rfl (by rw [hml]; rfl) (argsL := [(.long q1), (.int (5 : Int32))]) (rest := [(.int (5 : Int32)), (.ref b_1)]) (lenOf pd_3 rfl) rfl (by show 2 * 0 + _ ≤ _; exact Nat.le_of_eq rfl) (hb hby at_56) (fun _ _ => ⟨rfl, e_11, (by decide : 1 + 0 ≤ _), (by decide : 6 + 0 ≤ _)⟩)
  dsimp only [Pt.U, Pt.locs, Pt.cells, Pt.slots] at X_12 l_12 y_12 z_12 st_12 hQ_12
  subst l_12 y_12 z_12
  obtain ⟨rfl, N_12q, e_12⟩ := hQ_12
  have N_12 := Fr.app N_11 N_12q
  obtain ⟨cl_13, Ar_13, Sz_13, At_13⟩ := fw_11
  obtain ⟨T_13, h_13, X_13, e_13, W_13, st_13⟩ := stB X_12 hx hZ e_12 Ar_13 (j := (5 : Int32)) (own_inb Sz_13 (by decide)) (g := (mkF m 59 #[.val (.long q1), .second, .val (.int p2), .val (.int p3), .val (.ref b_1), .unset, .unset, .unset, .unset, .unset] [(.int (own_pick q1 (5 : Int32))), (.int (5 : Int32)), (.ref b_1)])) rfl rfl (hb hby at_59)
  have N_13 := Fr.snoc X_13 N_12 g_b_1
  have fw_13 : own_arr .byte Z h_13 b_1 6 (own_upd (own_upd (own_upd (own_upd (own_upd (own_upd (fun _ => 0) 0 (nar .byte (own_pick q1 (0 : Int32)))) 1 (nar .byte (own_pick q1 (1 : Int32)))) 2 (nar .byte (own_pick q1 (2 : Int32)))) 3 (nar .byte (own_pick q1 (3 : Int32)))) 4 (nar .byte (own_pick q1 (4 : Int32)))) 5 (nar .byte (own_pick q1 (5 : Int32)))) := own_arr.set Ar_13 Sz_13 At_13 W_13
  have Z_13 : n0 ≤ h_13.size := Nat.le_trans Z_11 (Keep.of_wr W_13).1
  have K_13 : Keep h0 h_13 [] := K_11.wr W_13 (Or.inr sz_b_1)
  obtain ⟨f6, hf6⟩ : ∃ z : Nat → Int32, z = (own_upd (own_upd (own_upd (own_upd (own_upd (own_upd (fun _ => 0) 0 (nar .byte (own_pick q1 (0 : Int32)))) 1 (nar .byte (own_pick q1 (1 : Int32)))) 2 (nar .byte (own_pick q1 (2 : Int32)))) 3 (nar .byte (own_pick q1 (3 : Int32)))) 4 (nar .byte (own_pick q1 (4 : Int32)))) 5 (nar .byte (own_pick q1 (5 : Int32)))) := ⟨_, rfl⟩
  rw [← hf6] at fw_13
  have pr_14 : ∀ t, Steps p.tables e below (T_13.setTop (mkF m 77 #[.val (.long q1), .second, .val (.int p2), .val (.int p3), .val (.ref b_1), .val (.int ((p2 &&& (15 : Int32)) - (4 : Int32))), .val (.int ((p3 &&& (2147483647 : Int32)) % (7 : Int32))), .unset, .unset, .unset] [])) t → Steps p.tables e below (s₁.setTop (entryFrame m #[(.long q1), (.int p2), (.int p3)] maxLocals)) t := fun t k => by
    refine pre0 _ ?_
    show Steps p.tables e below (s₁.setTop (mkF m 0 #[.val (.long q1), .second, .val (.int p2), .val (.int p3), .unset, .unset, .unset, .unset, .unset, .unset] [])) _
    refine XS.bipush X0.here hx rfl (hb hby at_0) ?_
    show Steps p.tables e below (s₁.setTop (mkF m 2 #[.val (.long q1), .second, .val (.int p2), .val (.int p3), .unset, .unset, .unset, .unset, .unset, .unset] [(.int (6 : Int32))])) _
    refine st_1 _ ?_
    show Steps p.tables e below (T_1.setTop (mkF m 4 #[.val (.long q1), .second, .val (.int p2), .val (.int p3), .unset, .unset, .unset, .unset, .unset, .unset] [(.ref b_1)])) _
    refine XS.astore X_1.here hx rfl (hb hby at_4) rfl rfl (l' := #[.val (.long q1), .second, .val (.int p2), .val (.int p3), .val (.ref b_1), .unset, .unset, .unset, .unset, .unset]) rfl ?_
    show Steps p.tables e below (T_1.setTop (mkF m 6 #[.val (.long q1), .second, .val (.int p2), .val (.int p3), .val (.ref b_1), .unset, .unset, .unset, .unset, .unset] [])) _
    refine XS.aload X_1.here hx rfl (hb hby at_6) rfl rfl ?_
    show Steps p.tables e below (T_1.setTop (mkF m 8 #[.val (.long q1), .second, .val (.int p2), .val (.int p3), .val (.ref b_1), .unset, .unset, .unset, .unset, .unset] [(.ref b_1)])) _
    refine XS.iconst X_1.here hx rfl (hb hby at_8) ?_
    show Steps p.tables e below (T_1.setTop (mkF m 9 #[.val (.long q1), .second, .val (.int p2), .val (.int p3), .val (.ref b_1), .unset, .unset, .unset, .unset, .unset] [(.int (0 : Int32)), (.ref b_1)])) _
    refine XS.lloadN X_1.here hx rfl (hb hby at_9) rfl ?_
    show Steps p.tables e below (T_1.setTop (mkF m 10 #[.val (.long q1), .second, .val (.int p2), .val (.int p3), .val (.ref b_1), .unset, .unset, .unset, .unset, .unset] [(.long q1), (.int (0 : Int32)), (.ref b_1)])) _
    refine XS.iconst X_1.here hx rfl (hb hby at_10) ?_
    show Steps p.tables e below (T_1.setTop (mkF m 11 #[.val (.long q1), .second, .val (.int p2), .val (.int p3), .val (.ref b_1), .unset, .unset, .unset, .unset, .unset] [(.int (0 : Int32)), (.long q1), (.int (0 : Int32)), (.ref b_1)])) _
    refine st_2 _ ?_
    show Steps p.tables e below (T_2.setTop (mkF m 14 #[.val (.long q1), .second, .val (.int p2), .val (.int p3), .val (.ref b_1), .unset, .unset, .unset, .unset, .unset] [(.int (own_pick q1 (0 : Int32))), (.int (0 : Int32)), (.ref b_1)])) _
    refine st_3 _ ?_
    show Steps p.tables e below (T_3.setTop (mkF m 15 #[.val (.long q1), .second, .val (.int p2), .val (.int p3), .val (.ref b_1), .unset, .unset, .unset, .unset, .unset] [])) _
    refine XS.aload X_3.here hx rfl (hb hby at_15) rfl rfl ?_
    show Steps p.tables e below (T_3.setTop (mkF m 17 #[.val (.long q1), .second, .val (.int p2), .val (.int p3), .val (.ref b_1), .unset, .unset, .unset, .unset, .unset] [(.ref b_1)])) _
    refine XS.iconst X_3.here hx rfl (hb hby at_17) ?_
    show Steps p.tables e below (T_3.setTop (mkF m 18 #[.val (.long q1), .second, .val (.int p2), .val (.int p3), .val (.ref b_1), .unset, .unset, .unset, .unset, .unset] [(.int (1 : Int32)), (.ref b_1)])) _
    refine XS.lloadN X_3.here hx rfl (hb hby at_18) rfl ?_
    show Steps p.tables e below (T_3.setTop (mkF m 19 #[.val (.long q1), .second, .val (.int p2), .val (.int p3), .val (.ref b_1), .unset, .unset, .unset, .unset, .unset] [(.long q1), (.int (1 : Int32)), (.ref b_1)])) _
    refine XS.iconst X_3.here hx rfl (hb hby at_19) ?_
    show Steps p.tables e below (T_3.setTop (mkF m 20 #[.val (.long q1), .second, .val (.int p2), .val (.int p3), .val (.ref b_1), .unset, .unset, .unset, .unset, .unset] [(.int (1 : Int32)), (.long q1), (.int (1 : Int32)), (.ref b_1)])) _
    refine st_4 _ ?_
    show Steps p.tables e below (T_4.setTop (mkF m 23 #[.val (.long q1), .second, .val (.int p2), .val (.int p3), .val (.ref b_1), .unset, .unset, .unset, .unset, .unset] [(.int (own_pick q1 (1 : Int32))), (.int (1 : Int32)), (.ref b_1)])) _
    refine st_5 _ ?_
    show Steps p.tables e below (T_5.setTop (mkF m 24 #[.val (.long q1), .second, .val (.int p2), .val (.int p3), .val (.ref b_1), .unset, .unset, .unset, .unset, .unset] [])) _
    refine XS.aload X_5.here hx rfl (hb hby at_24) rfl rfl ?_
    show Steps p.tables e below (T_5.setTop (mkF m 26 #[.val (.long q1), .second, .val (.int p2), .val (.int p3), .val (.ref b_1), .unset, .unset, .unset, .unset, .unset] [(.ref b_1)])) _
    refine XS.iconst X_5.here hx rfl (hb hby at_26) ?_
    show Steps p.tables e below (T_5.setTop (mkF m 27 #[.val (.long q1), .second, .val (.int p2), .val (.int p3), .val (.ref b_1), .unset, .unset, .unset, .unset, .unset] [(.int (2 : Int32)), (.ref b_1)])) _
    refine XS.lloadN X_5.here hx rfl (hb hby at_27) rfl ?_
    show Steps p.tables e below (T_5.setTop (mkF m 28 #[.val (.long q1), .second, .val (.int p2), .val (.int p3), .val (.ref b_1), .unset, .unset, .unset, .unset, .unset] [(.long q1), (.int (2 : Int32)), (.ref b_1)])) _
    refine XS.iconst X_5.here hx rfl (hb hby at_28) ?_
    show Steps p.tables e below (T_5.setTop (mkF m 29 #[.val (.long q1), .second, .val (.int p2), .val (.int p3), .val (.ref b_1), .unset, .unset, .unset, .unset, .unset] [(.int (2 : Int32)), (.long q1), (.int (2 : Int32)), (.ref b_1)])) _
    refine st_6 _ ?_
    show Steps p.tables e below (T_6.setTop (mkF m 32 #[.val (.long q1), .second, .val (.int p2), .val (.int p3), .val (.ref b_1), .unset, .unset, .unset, .unset, .unset] [(.int (own_pick q1 (2 : Int32))), (.int (2 : Int32)), (.ref b_1)])) _
    refine st_7 _ ?_
    show Steps p.tables e below (T_7.setTop (mkF m 33 #[.val (.long q1), .second, .val (.int p2), .val (.int p3), .val (.ref b_1), .unset, .unset, .unset, .unset, .unset] [])) _
    refine XS.aload X_7.here hx rfl (hb hby at_33) rfl rfl ?_
    show Steps p.tables e below (T_7.setTop (mkF m 35 #[.val (.long q1), .second, .val (.int p2), .val (.int p3), .val (.ref b_1), .unset, .unset, .unset, .unset, .unset] [(.ref b_1)])) _
    refine XS.iconst X_7.here hx rfl (hb hby at_35) ?_
    show Steps p.tables e below (T_7.setTop (mkF m 36 #[.val (.long q1), .second, .val (.int p2), .val (.int p3), .val (.ref b_1), .unset, .unset, .unset, .unset, .unset] [(.int (3 : Int32)), (.ref b_1)])) _
    refine XS.lloadN X_7.here hx rfl (hb hby at_36) rfl ?_
    show Steps p.tables e below (T_7.setTop (mkF m 37 #[.val (.long q1), .second, .val (.int p2), .val (.int p3), .val (.ref b_1), .unset, .unset, .unset, .unset, .unset] [(.long q1), (.int (3 : Int32)), (.ref b_1)])) _
    refine XS.iconst X_7.here hx rfl (hb hby at_37) ?_
    show Steps p.tables e below (T_7.setTop (mkF m 38 #[.val (.long q1), .second, .val (.int p2), .val (.int p3), .val (.ref b_1), .unset, .unset, .unset, .unset, .unset] [(.int (3 : Int32)), (.long q1), (.int (3 : Int32)), (.ref b_1)])) _
    refine st_8 _ ?_
    show Steps p.tables e below (T_8.setTop (mkF m 41 #[.val (.long q1), .second, .val (.int p2), .val (.int p3), .val (.ref b_1), .unset, .unset, .unset, .unset, .unset] [(.int (own_pick q1 (3 : Int32))), (.int (3 : Int32)), (.ref b_1)])) _
    refine st_9 _ ?_
    show Steps p.tables e below (T_9.setTop (mkF m 42 #[.val (.long q1), .second, .val (.int p2), .val (.int p3), .val (.ref b_1), .unset, .unset, .unset, .unset, .unset] [])) _
    refine XS.aload X_9.here hx rfl (hb hby at_42) rfl rfl ?_
    show Steps p.tables e below (T_9.setTop (mkF m 44 #[.val (.long q1), .second, .val (.int p2), .val (.int p3), .val (.ref b_1), .unset, .unset, .unset, .unset, .unset] [(.ref b_1)])) _
    refine XS.iconst X_9.here hx rfl (hb hby at_44) ?_
    show Steps p.tables e below (T_9.setTop (mkF m 45 #[.val (.long q1), .second, .val (.int p2), .val (.int p3), .val (.ref b_1), .unset, .unset, .unset, .unset, .unset] [(.int (4 : Int32)), (.ref b_1)])) _
    refine XS.lloadN X_9.here hx rfl (hb hby at_45) rfl ?_
    show Steps p.tables e below (T_9.setTop (mkF m 46 #[.val (.long q1), .second, .val (.int p2), .val (.int p3), .val (.ref b_1), .unset, .unset, .unset, .unset, .unset] [(.long q1), (.int (4 : Int32)), (.ref b_1)])) _
    refine XS.iconst X_9.here hx rfl (hb hby at_46) ?_
    show Steps p.tables e below (T_9.setTop (mkF m 47 #[.val (.long q1), .second, .val (.int p2), .val (.int p3), .val (.ref b_1), .unset, .unset, .unset, .unset, .unset] [(.int (4 : Int32)), (.long q1), (.int (4 : Int32)), (.ref b_1)])) _
    refine st_10 _ ?_
    show Steps p.tables e below (T_10.setTop (mkF m 50 #[.val (.long q1), .second, .val (.int p2), .val (.int p3), .val (.ref b_1), .unset, .unset, .unset, .unset, .unset] [(.int (own_pick q1 (4 : Int32))), (.int (4 : Int32)), (.ref b_1)])) _
    refine st_11 _ ?_
    show Steps p.tables e below (T_11.setTop (mkF m 51 #[.val (.long q1), .second, .val (.int p2), .val (.int p3), .val (.ref b_1), .unset, .unset, .unset, .unset, .unset] [])) _
    refine XS.aload X_11.here hx rfl (hb hby at_51) rfl rfl ?_
    show Steps p.tables e below (T_11.setTop (mkF m 53 #[.val (.long q1), .second, .val (.int p2), .val (.int p3), .val (.ref b_1), .unset, .unset, .unset, .unset, .unset] [(.ref b_1)])) _
    refine XS.iconst X_11.here hx rfl (hb hby at_53) ?_
    show Steps p.tables e below (T_11.setTop (mkF m 54 #[.val (.long q1), .second, .val (.int p2), .val (.int p3), .val (.ref b_1), .unset, .unset, .unset, .unset, .unset] [(.int (5 : Int32)), (.ref b_1)])) _
    refine XS.lloadN X_11.here hx rfl (hb hby at_54) rfl ?_
    show Steps p.tables e below (T_11.setTop (mkF m 55 #[.val (.long q1), .second, .val (.int p2), .val (.int p3), .val (.ref b_1), .unset, .unset, .unset, .unset, .unset] [(.long q1), (.int (5 : Int32)), (.ref b_1)])) _
    refine XS.iconst X_11.here hx rfl (hb hby at_55) ?_
    show Steps p.tables e below (T_11.setTop (mkF m 56 #[.val (.long q1), .second, .val (.int p2), .val (.int p3), .val (.ref b_1), .unset, .unset, .unset, .unset, .unset] [(.int (5 : Int32)), (.long q1), (.int (5 : Int32)), (.ref b_1)])) _
    refine st_12 _ ?_
    show Steps p.tables e below (T_12.setTop (mkF m 59 #[.val (.long q1), .second, .val (.int p2), .val (.int p3), .val (.ref b_1), .unset, .unset, .unset, .unset, .unset] [(.int (own_pick q1 (5 : Int32))), (.int (5 : Int32)), (.ref b_1)])) _
    refine st_13 _ ?_
    show Steps p.tables e below (T_13.setTop (mkF m 60 #[.val (.long q1), .second, .val (.int p2), .val (.int p3), .val (.ref b_1), .unset, .unset, .unset, .unset, .unset] [])) _
    refine XS.iloadN X_13.here hx rfl (hb hby at_60) rfl ?_
    show Steps p.tables e below (T_13.setTop (mkF m 61 #[.val (.long q1), .second, .val (.int p2), .val (.int p3), .val (.ref b_1), .unset, .unset, .unset, .unset, .unset] [(.int p2)])) _
    refine XS.bipush X_13.here hx rfl (hb hby at_61) ?_
    show Steps p.tables e below (T_13.setTop (mkF m 63 #[.val (.long q1), .second, .val (.int p2), .val (.int p3), .val (.ref b_1), .unset, .unset, .unset, .unset, .unset] [(.int (15 : Int32)), (.int p2)])) _
    refine XS.iand X_13.here hx rfl (hb hby at_63) rfl ?_
    show Steps p.tables e below (T_13.setTop (mkF m 64 #[.val (.long q1), .second, .val (.int p2), .val (.int p3), .val (.ref b_1), .unset, .unset, .unset, .unset, .unset] [(.int (p2 &&& (15 : Int32)))])) _
    refine XS.iconst X_13.here hx rfl (hb hby at_64) ?_
    show Steps p.tables e below (T_13.setTop (mkF m 65 #[.val (.long q1), .second, .val (.int p2), .val (.int p3), .val (.ref b_1), .unset, .unset, .unset, .unset, .unset] [(.int (4 : Int32)), (.int (p2 &&& (15 : Int32)))])) _
    refine XS.isub X_13.here hx rfl (hb hby at_65) rfl ?_
    show Steps p.tables e below (T_13.setTop (mkF m 66 #[.val (.long q1), .second, .val (.int p2), .val (.int p3), .val (.ref b_1), .unset, .unset, .unset, .unset, .unset] [(.int ((p2 &&& (15 : Int32)) - (4 : Int32)))])) _
    refine XS.istore X_13.here hx rfl (hb hby at_66) rfl (l' := #[.val (.long q1), .second, .val (.int p2), .val (.int p3), .val (.ref b_1), .val (.int ((p2 &&& (15 : Int32)) - (4 : Int32))), .unset, .unset, .unset, .unset]) rfl ?_
    show Steps p.tables e below (T_13.setTop (mkF m 68 #[.val (.long q1), .second, .val (.int p2), .val (.int p3), .val (.ref b_1), .val (.int ((p2 &&& (15 : Int32)) - (4 : Int32))), .unset, .unset, .unset, .unset] [])) _
    refine XS.iloadN X_13.here hx rfl (hb hby at_68) rfl ?_
    show Steps p.tables e below (T_13.setTop (mkF m 69 #[.val (.long q1), .second, .val (.int p2), .val (.int p3), .val (.ref b_1), .val (.int ((p2 &&& (15 : Int32)) - (4 : Int32))), .unset, .unset, .unset, .unset] [(.int p3)])) _
    refine X_13.ldcInt hx hown (mvT hZ (hw _ (List.mem_of_getElem? (i := 7) rfl))) (g := (mkF m 69 #[.val (.long q1), .second, .val (.int p2), .val (.int p3), .val (.ref b_1), .val (.int ((p2 &&& (15 : Int32)) - (4 : Int32))), .unset, .unset, .unset, .unset] [(.int p3)])) rfl (hb hby at_69) _ ?_
    show Steps p.tables e below (T_13.setTop (mkF m 71 #[.val (.long q1), .second, .val (.int p2), .val (.int p3), .val (.ref b_1), .val (.int ((p2 &&& (15 : Int32)) - (4 : Int32))), .unset, .unset, .unset, .unset] [(.int (2147483647 : Int32)), (.int p3)])) _
    refine XS.iand X_13.here hx rfl (hb hby at_71) rfl ?_
    show Steps p.tables e below (T_13.setTop (mkF m 72 #[.val (.long q1), .second, .val (.int p2), .val (.int p3), .val (.ref b_1), .val (.int ((p2 &&& (15 : Int32)) - (4 : Int32))), .unset, .unset, .unset, .unset] [(.int (p3 &&& (2147483647 : Int32)))])) _
    refine XS.bipush X_13.here hx rfl (hb hby at_72) ?_
    show Steps p.tables e below (T_13.setTop (mkF m 74 #[.val (.long q1), .second, .val (.int p2), .val (.int p3), .val (.ref b_1), .val (.int ((p2 &&& (15 : Int32)) - (4 : Int32))), .unset, .unset, .unset, .unset] [(.int (7 : Int32)), (.int (p3 &&& (2147483647 : Int32)))])) _
    refine iremM X_13 hx rfl (hb hby at_74) rfl (by decide) ?_
    show Steps p.tables e below (T_13.setTop (mkF m 75 #[.val (.long q1), .second, .val (.int p2), .val (.int p3), .val (.ref b_1), .val (.int ((p2 &&& (15 : Int32)) - (4 : Int32))), .unset, .unset, .unset, .unset] [(.int ((p3 &&& (2147483647 : Int32)) % (7 : Int32)))])) _
    refine XS.istore X_13.here hx rfl (hb hby at_75) rfl (l' := #[.val (.long q1), .second, .val (.int p2), .val (.int p3), .val (.ref b_1), .val (.int ((p2 &&& (15 : Int32)) - (4 : Int32))), .val (.int ((p3 &&& (2147483647 : Int32)) % (7 : Int32))), .unset, .unset, .unset]) rfl ?_
    exact k
  obtain ⟨i5, hi5⟩ : ∃ z, z = ((p2 &&& (15 : Int32)) - (4 : Int32)) := ⟨_, rfl⟩
  rw [← hi5] at pr_14
  obtain ⟨i6, hi6⟩ : ∃ z, z = ((p3 &&& (2147483647 : Int32)) % (7 : Int32)) := ⟨_, rfl⟩
  rw [← hi6] at pr_14
  have h6 : i6.toInt ≤ 6 := own_to p3 i6 hi6
  obtain ⟨_, _, ⟨T_15, L_15, k_15, n_15⟩, -, X_15, ⟨Lc_15, hQ_15, l_15, y_15, z_15⟩, st_15⟩ := Jvm.LawKit.callS X_13 hx (y := (⟨"java/lang/Math", "max", "(II)I"⟩ : MethodName)) hown (mvT hZ (hw _ (List.mem_of_getElem? (i := 8) rfl))) (mvT hZ (hw _ (List.mem_of_getElem? (i := 9) rfl))) (mvT hZ (hw _ (List.mem_of_getElem? (i := 10) rfl))) (mvT hZ (hw _ (List.mem_of_getElem? (i := 11) rfl))) (by decide) (backOf (W := 0) (rm2 l Z a0 hw [] (1 : Int32) i5 h_13 n0 Z_13) hZ (hw _ (List.mem_of_getElem? (i := 11) rfl)) (hw _ (List.mem_of_getElem? (i := 10) rfl)) (by decide) (by decide)) (g := (mkF m 80 #[.val (.long q1), .second, .val (.int p2), .val (.int p3), .val (.ref b_1), .val (.int i5), .val (.int i6), .unset, .unset, .unset] [(.int i5), (.int (1 : Int32))])) rfl (by rw [hml]; rfl) (argsL := [(.int (1 : Int32)), (.int i5)]) (rest := []) (lenOf pd_2 rfl) rfl (by show 2 * 0 + _ ≤ _; exact Nat.le_of_eq rfl) (hb hby at_80) (fun _ _ => ⟨rfl, e_13, (by decide : 1 + 0 ≤ _), (by decide : 6 + 0 ≤ _)⟩)
  dsimp only [Pt.U, Pt.locs, Pt.cells, Pt.slots] at X_15 l_15 y_15 z_15 st_15 hQ_15
  subst l_15 y_15 z_15
  obtain ⟨rfl, N_15q, e_15⟩ := hQ_15
  have N_15 := Fr.app N_13 N_15q
  obtain ⟨_, _, ⟨T_16, L_16, k_16, n_16⟩, -, X_16, ⟨Lc_16, hQ_16, l_16, y_16, z_16⟩, st_16⟩ := Jvm.LawKit.callS X_15 hx (y := (⟨"com/example/parcelwright/parcelwright/soap/HttpHeadEndPinLaw", "hitAt", "([BIII)Z"⟩ : MethodName)) hown (mvT hZ (hw _ (List.mem_of_getElem? (i := 12) rfl))) (mvT hZ (hw _ (List.mem_of_getElem? (i := 13) rfl))) (mvT hZ (hw _ (List.mem_of_getElem? (i := 3) rfl))) (mvT hZ (hw _ (List.mem_of_getElem? (i := 14) rfl))) (by decide) (backOf (W := 0) (rm3 l Z a0 hw [] b_1 (1 : Int32) (own_max (1 : Int32) i5) i6 f6 h_13 n0 Z_13 fw_13 (by decide) (by decide)) hZ (hw _ (List.mem_of_getElem? (i := 14) rfl)) (hw _ (List.mem_of_getElem? (i := 3) rfl)) (by decide) (by decide)) (g := (mkF m 100 #[.val (.long q1), .second, .val (.int p2), .val (.int p3), .val (.ref b_1), .val (.int i5), .val (.int i6), .val (.int (own_max (1 : Int32) i5)), .val (.int (-1 : Int32)), .unset] [(.int i6), (.int (own_max (1 : Int32) i5)), (.int (1 : Int32)), (.ref b_1)])) rfl (by rw [hml]; rfl) (argsL := [(.ref b_1), (.int (1 : Int32)), (.int (own_max (1 : Int32) i5)), (.int i6)]) (rest := []) (lenOf pd_4 rfl) rfl (by show 2 * 0 + _ ≤ _; exact Nat.le_of_eq rfl) (hb hby at_100) (fun _ _ => ⟨rfl, e_15, (by decide : 1 + 0 ≤ _), (by decide : 6 + 0 ≤ _)⟩)
  dsimp only [Pt.U, Pt.locs, Pt.cells, Pt.slots] at X_16 l_16 y_16 z_16 st_16 hQ_16
  subst l_16 y_16 z_16
  obtain ⟨rfl, N_16q, e_16⟩ := hQ_16
  have N_16 := Fr.app N_15 N_16q
  have pr_17 : ∀ t, Steps p.tables e below (T_16.setTop (mkF m 103 #[.val (.long q1), .second, .val (.int p2), .val (.int p3), .val (.ref b_1), .val (.int i5), .val (.int i6), .val (.int (own_max (1 : Int32) i5)), .val (.int (-1 : Int32)), .unset] [(.int (own_hit (1 : Int32) (own_max (1 : Int32) i5) i6 f6))])) t → Steps p.tables e below (s₁.setTop (entryFrame m #[(.long q1), (.int p2), (.int p3)] maxLocals)) t := fun t k => by
    refine pr_14 _ ?_
    show Steps p.tables e below (T_13.setTop (mkF m 77 #[.val (.long q1), .second, .val (.int p2), .val (.int p3), .val (.ref b_1), .val (.int i5), .val (.int i6), .unset, .unset, .unset] [])) _
    refine XS.iconst X_13.here hx rfl (hb hby at_77) ?_
    show Steps p.tables e below (T_13.setTop (mkF m 78 #[.val (.long q1), .second, .val (.int p2), .val (.int p3), .val (.ref b_1), .val (.int i5), .val (.int i6), .unset, .unset, .unset] [(.int (1 : Int32))])) _
    refine XS.iload X_13.here hx rfl (hb hby at_78) rfl ?_
    show Steps p.tables e below (T_13.setTop (mkF m 80 #[.val (.long q1), .second, .val (.int p2), .val (.int p3), .val (.ref b_1), .val (.int i5), .val (.int i6), .unset, .unset, .unset] [(.int i5), (.int (1 : Int32))])) _
    refine st_15 _ ?_
    show Steps p.tables e below (T_15.setTop (mkF m 83 #[.val (.long q1), .second, .val (.int p2), .val (.int p3), .val (.ref b_1), .val (.int i5), .val (.int i6), .unset, .unset, .unset] [(.int (own_max (1 : Int32) i5))])) _
    refine XS.istore X_15.here hx rfl (hb hby at_83) rfl (l' := #[.val (.long q1), .second, .val (.int p2), .val (.int p3), .val (.ref b_1), .val (.int i5), .val (.int i6), .val (.int (own_max (1 : Int32) i5)), .unset, .unset]) rfl ?_
    show Steps p.tables e below (T_15.setTop (mkF m 85 #[.val (.long q1), .second, .val (.int p2), .val (.int p3), .val (.ref b_1), .val (.int i5), .val (.int i6), .val (.int (own_max (1 : Int32) i5)), .unset, .unset] [])) _
    refine XS.iconst X_15.here hx rfl (hb hby at_85) ?_
    show Steps p.tables e below (T_15.setTop (mkF m 86 #[.val (.long q1), .second, .val (.int p2), .val (.int p3), .val (.ref b_1), .val (.int i5), .val (.int i6), .val (.int (own_max (1 : Int32) i5)), .unset, .unset] [(.int (-1 : Int32))])) _
    refine XS.istore X_15.here hx rfl (hb hby at_86) rfl (l' := #[.val (.long q1), .second, .val (.int p2), .val (.int p3), .val (.ref b_1), .val (.int i5), .val (.int i6), .val (.int (own_max (1 : Int32) i5)), .val (.int (-1 : Int32)), .unset]) rfl ?_
    show Steps p.tables e below (T_15.setTop (mkF m 88 #[.val (.long q1), .second, .val (.int p2), .val (.int p3), .val (.ref b_1), .val (.int i5), .val (.int i6), .val (.int (own_max (1 : Int32) i5)), .val (.int (-1 : Int32)), .unset] [])) _
    refine XS.iload X_15.here hx rfl (hb hby at_88) rfl ?_
    show Steps p.tables e below (T_15.setTop (mkF m 90 #[.val (.long q1), .second, .val (.int p2), .val (.int p3), .val (.ref b_1), .val (.int i5), .val (.int i6), .val (.int (own_max (1 : Int32) i5)), .val (.int (-1 : Int32)), .unset] [(.int (-1 : Int32))])) _
    refine XS.ifNo X_15.here hx rfl (hb hby at_90) rfl ((if0 _ _).trans (tlt (by decide : (-1 : Int32) < (0 : Int32))).2.1) ?_
    show Steps p.tables e below (T_15.setTop (mkF m 93 #[.val (.long q1), .second, .val (.int p2), .val (.int p3), .val (.ref b_1), .val (.int i5), .val (.int i6), .val (.int (own_max (1 : Int32) i5)), .val (.int (-1 : Int32)), .unset] [])) _
    refine XS.aload X_15.here hx rfl (hb hby at_93) rfl rfl ?_
    show Steps p.tables e below (T_15.setTop (mkF m 95 #[.val (.long q1), .second, .val (.int p2), .val (.int p3), .val (.ref b_1), .val (.int i5), .val (.int i6), .val (.int (own_max (1 : Int32) i5)), .val (.int (-1 : Int32)), .unset] [(.ref b_1)])) _
    refine XS.iconst X_15.here hx rfl (hb hby at_95) ?_
    show Steps p.tables e below (T_15.setTop (mkF m 96 #[.val (.long q1), .second, .val (.int p2), .val (.int p3), .val (.ref b_1), .val (.int i5), .val (.int i6), .val (.int (own_max (1 : Int32) i5)), .val (.int (-1 : Int32)), .unset] [(.int (1 : Int32)), (.ref b_1)])) _
    refine XS.iload X_15.here hx rfl (hb hby at_96) rfl ?_
    show Steps p.tables e below (T_15.setTop (mkF m 98 #[.val (.long q1), .second, .val (.int p2), .val (.int p3), .val (.ref b_1), .val (.int i5), .val (.int i6), .val (.int (own_max (1 : Int32) i5)), .val (.int (-1 : Int32)), .unset] [(.int (own_max (1 : Int32) i5)), (.int (1 : Int32)), (.ref b_1)])) _
    refine XS.iload X_15.here hx rfl (hb hby at_98) rfl ?_
    show Steps p.tables e below (T_15.setTop (mkF m 100 #[.val (.long q1), .second, .val (.int p2), .val (.int p3), .val (.ref b_1), .val (.int i5), .val (.int i6), .val (.int (own_max (1 : Int32) i5)), .val (.int (-1 : Int32)), .unset] [(.int i6), (.int (own_max (1 : Int32) i5)), (.int (1 : Int32)), (.ref b_1)])) _
    refine st_16 _ ?_
    exact k
  by_cases hc_18 : (own_hit (1 : Int32) (own_max (1 : Int32) i5) i6 f6) = (0 : Int32)
  · obtain ⟨_, _, ⟨T_19, L_19, k_19, n_19⟩, -, X_19, ⟨Lc_19, hQ_19, l_19, y_19, z_19⟩, st_19⟩ := Jvm.LawKit.callS X_16 hx (y := (⟨"com/example/parcelwright/parcelwright/soap/HttpHeadEndPinLaw", "hitAt", "([BIII)Z"⟩ : MethodName)) hown (mvT hZ (hw _ (List.mem_of_getElem? (i := 12) rfl))) (mvT hZ (hw _ (List.mem_of_getElem? (i := 13) rfl))) (mvT hZ (hw _ (List.mem_of_getElem? (i := 3) rfl))) (mvT hZ (hw _ (List.mem_of_getElem? (i := 14) rfl))) (by decide) (backOf (W := 0) (rm3 l Z a0 hw [] b_1 (2 : Int32) (own_max (1 : Int32) i5) i6 f6 h_13 n0 Z_13 fw_13 (by decide) (by decide)) hZ (hw _ (List.mem_of_getElem? (i := 14) rfl)) (hw _ (List.mem_of_getElem? (i := 3) rfl)) (by decide) (by decide)) (g := (mkF m 121 #[.val (.long q1), .second, .val (.int p2), .val (.int p3), .val (.ref b_1), .val (.int i5), .val (.int i6), .val (.int (own_max (1 : Int32) i5)), .val (.int (-1 : Int32)), .unset] [(.int i6), (.int (own_max (1 : Int32) i5)), (.int (2 : Int32)), (.ref b_1)])) rfl (by rw [hml]; rfl) (argsL := [(.ref b_1), (.int (2 : Int32)), (.int (own_max (1 : Int32) i5)), (.int i6)]) (rest := []) (lenOf pd_4 rfl) rfl (by show 2 * 0 + _ ≤ _; exact Nat.le_of_eq rfl) (hb hby at_121) (fun _ _ => ⟨rfl, e_16, (by decide : 1 + 0 ≤ _), (by decide : 6 + 0 ≤ _)⟩)
    dsimp only [Pt.U, Pt.locs, Pt.cells, Pt.slots] at X_19 l_19 y_19 z_19 st_19 hQ_19
    subst l_19 y_19 z_19
    obtain ⟨rfl, N_19q, e_19⟩ := hQ_19
    have N_19 := Fr.app N_16 N_19q
    have pr_20 : ∀ t, Steps p.tables e below (T_19.setTop (mkF m 124 #[.val (.long q1), .second, .val (.int p2), .val (.int p3), .val (.ref b_1), .val (.int i5), .val (.int i6), .val (.int (own_max (1 : Int32) i5)), .val (.int (-1 : Int32)), .unset] [(.int (own_hit (2 : Int32) (own_max (1 : Int32) i5) i6 f6))])) t → Steps p.tables e below (s₁.setTop (entryFrame m #[(.long q1), (.int p2), (.int p3)] maxLocals)) t := fun t k => by
      refine pr_17 _ ?_
      show Steps p.tables e below (T_16.setTop (mkF m 103 #[.val (.long q1), .second, .val (.int p2), .val (.int p3), .val (.ref b_1), .val (.int i5), .val (.int i6), .val (.int (own_max (1 : Int32) i5)), .val (.int (-1 : Int32)), .unset] [(.int (own_hit (1 : Int32) (own_max (1 : Int32) i5) i6 f6))])) _
      refine XS.ifYes X_16.here hx rfl (pc0 := 103) (pc' := 109) rfl (hb hby at_103) rfl ((if0 _ _).trans (teq hc_18).1) (by decide) (by decide) ?_
      show Steps p.tables e below (T_16.setTop (mkF m 109 #[.val (.long q1), .second, .val (.int p2), .val (.int p3), .val (.ref b_1), .val (.int i5), .val (.int i6), .val (.int (own_max (1 : Int32) i5)), .val (.int (-1 : Int32)), .unset] [])) _
      refine XS.iload X_16.here hx rfl (hb hby at_109) rfl ?_
      show Steps p.tables e below (T_16.setTop (mkF m 111 #[.val (.long q1), .second, .val (.int p2), .val (.int p3), .val (.ref b_1), .val (.int i5), .val (.int i6), .val (.int (own_max (1 : Int32) i5)), .val (.int (-1 : Int32)), .unset] [(.int (-1 : Int32))])) _
      refine XS.ifNo X_16.here hx rfl (hb hby at_111) rfl ((if0 _ _).trans (tlt (by decide : (-1 : Int32) < (0 : Int32))).2.1) ?_
      show Steps p.tables e below (T_16.setTop (mkF m 114 #[.val (.long q1), .second, .val (.int p2), .val (.int p3), .val (.ref b_1), .val (.int i5), .val (.int i6), .val (.int (own_max (1 : Int32) i5)), .val (.int (-1 : Int32)), .unset] [])) _
      refine XS.aload X_16.here hx rfl (hb hby at_114) rfl rfl ?_
      show Steps p.tables e below (T_16.setTop (mkF m 116 #[.val (.long q1), .second, .val (.int p2), .val (.int p3), .val (.ref b_1), .val (.int i5), .val (.int i6), .val (.int (own_max (1 : Int32) i5)), .val (.int (-1 : Int32)), .unset] [(.ref b_1)])) _
      refine XS.iconst X_16.here hx rfl (hb hby at_116) ?_
      show Steps p.tables e below (T_16.setTop (mkF m 117 #[.val (.long q1), .second, .val (.int p2), .val (.int p3), .val (.ref b_1), .val (.int i5), .val (.int i6), .val (.int (own_max (1 : Int32) i5)), .val (.int (-1 : Int32)), .unset] [(.int (2 : Int32)), (.ref b_1)])) _
      refine XS.iload X_16.here hx rfl (hb hby at_117) rfl ?_
      show Steps p.tables e below (T_16.setTop (mkF m 119 #[.val (.long q1), .second, .val (.int p2), .val (.int p3), .val (.ref b_1), .val (.int i5), .val (.int i6), .val (.int (own_max (1 : Int32) i5)), .val (.int (-1 : Int32)), .unset] [(.int (own_max (1 : Int32) i5)), (.int (2 : Int32)), (.ref b_1)])) _
      refine XS.iload X_16.here hx rfl (hb hby at_119) rfl ?_
      show Steps p.tables e below (T_16.setTop (mkF m 121 #[.val (.long q1), .second, .val (.int p2), .val (.int p3), .val (.ref b_1), .val (.int i5), .val (.int i6), .val (.int (own_max (1 : Int32) i5)), .val (.int (-1 : Int32)), .unset] [(.int i6), (.int (own_max (1 : Int32) i5)), (.int (2 : Int32)), (.ref b_1)])) _
      refine st_19 _ ?_
      exact k
    by_cases hc_21 : (own_hit (2 : Int32) (own_max (1 : Int32) i5) i6 f6) = (0 : Int32)
    · obtain ⟨_, _, ⟨T_22, L_22, k_22, n_22⟩, -, X_22, ⟨Lc_22, hQ_22, l_22, y_22, z_22⟩, st_22⟩ := Jvm.LawKit.callS X_19 hx (y := (⟨"com/example/parcelwright/parcelwright/soap/HttpHeadEndPinLaw", "hitAt", "([BIII)Z"⟩ : MethodName)) hown (mvT hZ (hw _ (List.mem_of_getElem? (i := 12) rfl))) (mvT hZ (hw _ (List.mem_of_getElem? (i := 13) rfl))) (mvT hZ (hw _ (List.mem_of_getElem? (i := 3) rfl))) (mvT hZ (hw _ (List.mem_of_getElem? (i := 14) rfl))) (by decide) (backOf (W := 0) (rm3 l Z a0 hw [] b_1 (3 : Int32) (own_max (1 : Int32) i5) i6 f6 h_13 n0 Z_13 fw_13 (by decide) (by decide)) hZ (hw _ (List.mem_of_getElem? (i := 14) rfl)) (hw _ (List.mem_of_getElem? (i := 3) rfl)) (by decide) (by decide)) (g := (mkF m 142 #[.val (.long q1), .second, .val (.int p2), .val (.int p3), .val (.ref b_1), .val (.int i5), .val (.int i6), .val (.int (own_max (1 : Int32) i5)), .val (.int (-1 : Int32)), .unset] [(.int i6), (.int (own_max (1 : Int32) i5)), (.int (3 : Int32)), (.ref b_1)])) rfl (by rw [hml]; rfl) (argsL := [(.ref b_1), (.int (3 : Int32)), (.int (own_max (1 : Int32) i5)), (.int i6)]) (rest := []) (lenOf pd_4 rfl) rfl (by show 2 * 0 + _ ≤ _; exact Nat.le_of_eq rfl) (hb hby at_142) (fun _ _ => ⟨rfl, e_19, (by decide : 1 + 0 ≤ _), (by decide : 6 + 0 ≤ _)⟩)
      dsimp only [Pt.U, Pt.locs, Pt.cells, Pt.slots] at X_22 l_22 y_22 z_22 st_22 hQ_22
      subst l_22 y_22 z_22
      obtain ⟨rfl, N_22q, e_22⟩ := hQ_22
      have N_22 := Fr.app N_19 N_22q
      have pr_23 : ∀ t, Steps p.tables e below (T_22.setTop (mkF m 145 #[.val (.long q1), .second, .val (.int p2), .val (.int p3), .val (.ref b_1), .val (.int i5), .val (.int i6), .val (.int (own_max (1 : Int32) i5)), .val (.int (-1 : Int32)), .unset] [(.int (own_hit (3 : Int32) (own_max (1 : Int32) i5) i6 f6))])) t → Steps p.tables e below (s₁.setTop (entryFrame m #[(.long q1), (.int p2), (.int p3)] maxLocals)) t := fun t k => by
        refine pr_20 _ ?_
        show Steps p.tables e below (T_19.setTop (mkF m 124 #[.val (.long q1), .second, .val (.int p2), .val (.int p3), .val (.ref b_1), .val (.int i5), .val (.int i6), .val (.int (own_max (1 : Int32) i5)), .val (.int (-1 : Int32)), .unset] [(.int (own_hit (2 : Int32) (own_max (1 : Int32) i5) i6 f6))])) _
        refine XS.ifYes X_19.here hx rfl (pc0 := 124) (pc' := 130) rfl (hb hby at_124) rfl ((if0 _ _).trans (teq hc_21).1) (by decide) (by decide) ?_
        show Steps p.tables e below (T_19.setTop (mkF m 130 #[.val (.long q1), .second, .val (.int p2), .val (.int p3), .val (.ref b_1), .val (.int i5), .val (.int i6), .val (.int (own_max (1 : Int32) i5)), .val (.int (-1 : Int32)), .unset] [])) _
        refine XS.iload X_19.here hx rfl (hb hby at_130) rfl ?_
        show Steps p.tables e below (T_19.setTop (mkF m 132 #[.val (.long q1), .second, .val (.int p2), .val (.int p3), .val (.ref b_1), .val (.int i5), .val (.int i6), .val (.int (own_max (1 : Int32) i5)), .val (.int (-1 : Int32)), .unset] [(.int (-1 : Int32))])) _
        refine XS.ifNo X_19.here hx rfl (hb hby at_132) rfl ((if0 _ _).trans (tlt (by decide : (-1 : Int32) < (0 : Int32))).2.1) ?_
        show Steps p.tables e below (T_19.setTop (mkF m 135 #[.val (.long q1), .second, .val (.int p2), .val (.int p3), .val (.ref b_1), .val (.int i5), .val (.int i6), .val (.int (own_max (1 : Int32) i5)), .val (.int (-1 : Int32)), .unset] [])) _
        refine XS.aload X_19.here hx rfl (hb hby at_135) rfl rfl ?_
        show Steps p.tables e below (T_19.setTop (mkF m 137 #[.val (.long q1), .second, .val (.int p2), .val (.int p3), .val (.ref b_1), .val (.int i5), .val (.int i6), .val (.int (own_max (1 : Int32) i5)), .val (.int (-1 : Int32)), .unset] [(.ref b_1)])) _
        refine XS.iconst X_19.here hx rfl (hb hby at_137) ?_
        show Steps p.tables e below (T_19.setTop (mkF m 138 #[.val (.long q1), .second, .val (.int p2), .val (.int p3), .val (.ref b_1), .val (.int i5), .val (.int i6), .val (.int (own_max (1 : Int32) i5)), .val (.int (-1 : Int32)), .unset] [(.int (3 : Int32)), (.ref b_1)])) _
        refine XS.iload X_19.here hx rfl (hb hby at_138) rfl ?_
        show Steps p.tables e below (T_19.setTop (mkF m 140 #[.val (.long q1), .second, .val (.int p2), .val (.int p3), .val (.ref b_1), .val (.int i5), .val (.int i6), .val (.int (own_max (1 : Int32) i5)), .val (.int (-1 : Int32)), .unset] [(.int (own_max (1 : Int32) i5)), (.int (3 : Int32)), (.ref b_1)])) _
        refine XS.iload X_19.here hx rfl (hb hby at_140) rfl ?_
        show Steps p.tables e below (T_19.setTop (mkF m 142 #[.val (.long q1), .second, .val (.int p2), .val (.int p3), .val (.ref b_1), .val (.int i5), .val (.int i6), .val (.int (own_max (1 : Int32) i5)), .val (.int (-1 : Int32)), .unset] [(.int i6), (.int (own_max (1 : Int32) i5)), (.int (3 : Int32)), (.ref b_1)])) _
        refine st_22 _ ?_
        exact k
      by_cases hc_24 : (own_hit (3 : Int32) (own_max (1 : Int32) i5) i6 f6) = (0 : Int32)
      · obtain ⟨_, _, ⟨T_25, L_25, k_25, n_25⟩, -, X_25, ⟨Lc_25, hQ_25, l_25, y_25, z_25⟩, st_25⟩ := Jvm.LawKit.callS X_22 hx (y := (⟨"com/example/parcelwright/parcelwright/soap/HttpHeadEndPinLaw", "hitAt", "([BIII)Z"⟩ : MethodName)) hown (mvT hZ (hw _ (List.mem_of_getElem? (i := 12) rfl))) (mvT hZ (hw _ (List.mem_of_getElem? (i := 13) rfl))) (mvT hZ (hw _ (List.mem_of_getElem? (i := 3) rfl))) (mvT hZ (hw _ (List.mem_of_getElem? (i := 14) rfl))) (by decide) (backOf (W := 0) (rm3 l Z a0 hw [] b_1 (4 : Int32) (own_max (1 : Int32) i5) i6 f6 h_13 n0 Z_13 fw_13 (by decide) (by decide)) hZ (hw _ (List.mem_of_getElem? (i := 14) rfl)) (hw _ (List.mem_of_getElem? (i := 3) rfl)) (by decide) (by decide)) (g := (mkF m 163 #[.val (.long q1), .second, .val (.int p2), .val (.int p3), .val (.ref b_1), .val (.int i5), .val (.int i6), .val (.int (own_max (1 : Int32) i5)), .val (.int (-1 : Int32)), .unset] [(.int i6), (.int (own_max (1 : Int32) i5)), (.int (4 : Int32)), (.ref b_1)])) rfl (by rw [hml]; rfl) (argsL := [(.ref b_1), (.int (4 : Int32)), (.int (own_max (1 : Int32) i5)), (.int i6)]) (rest := []) (lenOf pd_4 rfl) rfl (by show 2 * 0 + _ ≤ _; exact Nat.le_of_eq rfl) (hb hby at_163) (fun _ _ => ⟨rfl, e_22, (by decide : 1 + 0 ≤ _), (by decide : 6 + 0 ≤ _)⟩)
        dsimp only [Pt.U, Pt.locs, Pt.cells, Pt.slots] at X_25 l_25 y_25 z_25 st_25 hQ_25
        subst l_25 y_25 z_25
        obtain ⟨rfl, N_25q, e_25⟩ := hQ_25
        have N_25 := Fr.app N_22 N_25q
        have pr_26 : ∀ t, Steps p.tables e below (T_25.setTop (mkF m 166 #[.val (.long q1), .second, .val (.int p2), .val (.int p3), .val (.ref b_1), .val (.int i5), .val (.int i6), .val (.int (own_max (1 : Int32) i5)), .val (.int (-1 : Int32)), .unset] [(.int (own_hit (4 : Int32) (own_max (1 : Int32) i5) i6 f6))])) t → Steps p.tables e below (s₁.setTop (entryFrame m #[(.long q1), (.int p2), (.int p3)] maxLocals)) t := fun t k => by
          refine pr_23 _ ?_
          show Steps p.tables e below (T_22.setTop (mkF m 145 #[.val (.long q1), .second, .val (.int p2), .val (.int p3), .val (.ref b_1), .val (.int i5), .val (.int i6), .val (.int (own_max (1 : Int32) i5)), .val (.int (-1 : Int32)), .unset] [(.int (own_hit (3 : Int32) (own_max (1 : Int32) i5) i6 f6))])) _
          refine XS.ifYes X_22.here hx rfl (pc0 := 145) (pc' := 151) rfl (hb hby at_145) rfl ((if0 _ _).trans (teq hc_24).1) (by decide) (by decide) ?_
          show Steps p.tables e below (T_22.setTop (mkF m 151 #[.val (.long q1), .second, .val (.int p2), .val (.int p3), .val (.ref b_1), .val (.int i5), .val (.int i6), .val (.int (own_max (1 : Int32) i5)), .val (.int (-1 : Int32)), .unset] [])) _
          refine XS.iload X_22.here hx rfl (hb hby at_151) rfl ?_
          show Steps p.tables e below (T_22.setTop (mkF m 153 #[.val (.long q1), .second, .val (.int p2), .val (.int p3), .val (.ref b_1), .val (.int i5), .val (.int i6), .val (.int (own_max (1 : Int32) i5)), .val (.int (-1 : Int32)), .unset] [(.int (-1 : Int32))])) _
          refine XS.ifNo X_22.here hx rfl (hb hby at_153) rfl ((if0 _ _).trans (tlt (by decide : (-1 : Int32) < (0 : Int32))).2.1) ?_
          show Steps p.tables e below (T_22.setTop (mkF m 156 #[.val (.long q1), .second, .val (.int p2), .val (.int p3), .val (.ref b_1), .val (.int i5), .val (.int i6), .val (.int (own_max (1 : Int32) i5)), .val (.int (-1 : Int32)), .unset] [])) _
          refine XS.aload X_22.here hx rfl (hb hby at_156) rfl rfl ?_
          show Steps p.tables e below (T_22.setTop (mkF m 158 #[.val (.long q1), .second, .val (.int p2), .val (.int p3), .val (.ref b_1), .val (.int i5), .val (.int i6), .val (.int (own_max (1 : Int32) i5)), .val (.int (-1 : Int32)), .unset] [(.ref b_1)])) _
          refine XS.iconst X_22.here hx rfl (hb hby at_158) ?_
          show Steps p.tables e below (T_22.setTop (mkF m 159 #[.val (.long q1), .second, .val (.int p2), .val (.int p3), .val (.ref b_1), .val (.int i5), .val (.int i6), .val (.int (own_max (1 : Int32) i5)), .val (.int (-1 : Int32)), .unset] [(.int (4 : Int32)), (.ref b_1)])) _
          refine XS.iload X_22.here hx rfl (hb hby at_159) rfl ?_
          show Steps p.tables e below (T_22.setTop (mkF m 161 #[.val (.long q1), .second, .val (.int p2), .val (.int p3), .val (.ref b_1), .val (.int i5), .val (.int i6), .val (.int (own_max (1 : Int32) i5)), .val (.int (-1 : Int32)), .unset] [(.int (own_max (1 : Int32) i5)), (.int (4 : Int32)), (.ref b_1)])) _
          refine XS.iload X_22.here hx rfl (hb hby at_161) rfl ?_
          show Steps p.tables e below (T_22.setTop (mkF m 163 #[.val (.long q1), .second, .val (.int p2), .val (.int p3), .val (.ref b_1), .val (.int i5), .val (.int i6), .val (.int (own_max (1 : Int32) i5)), .val (.int (-1 : Int32)), .unset] [(.int i6), (.int (own_max (1 : Int32) i5)), (.int (4 : Int32)), (.ref b_1)])) _
          refine st_25 _ ?_
          exact k
        by_cases hc_27 : (own_hit (4 : Int32) (own_max (1 : Int32) i5) i6 f6) = (0 : Int32)
        · obtain ⟨_, _, ⟨T_28, L_28, k_28, n_28⟩, -, X_28, ⟨Lc_28, hQ_28, l_28, y_28, z_28⟩, st_28⟩ := Jvm.LawKit.callS X_25 hx (y := (⟨"com/example/parcelwright/parcelwright/soap/HttpHeadEndPinLaw", "hitAt", "([BIII)Z"⟩ : MethodName)) hown (mvT hZ (hw _ (List.mem_of_getElem? (i := 12) rfl))) (mvT hZ (hw _ (List.mem_of_getElem? (i := 13) rfl))) (mvT hZ (hw _ (List.mem_of_getElem? (i := 3) rfl))) (mvT hZ (hw _ (List.mem_of_getElem? (i := 14) rfl))) (by decide) (backOf (W := 0) (rm3 l Z a0 hw [] b_1 (5 : Int32) (own_max (1 : Int32) i5) i6 f6 h_13 n0 Z_13 fw_13 (by decide) (by decide)) hZ (hw _ (List.mem_of_getElem? (i := 14) rfl)) (hw _ (List.mem_of_getElem? (i := 3) rfl)) (by decide) (by decide)) (g := (mkF m 184 #[.val (.long q1), .second, .val (.int p2), .val (.int p3), .val (.ref b_1), .val (.int i5), .val (.int i6), .val (.int (own_max (1 : Int32) i5)), .val (.int (-1 : Int32)), .unset] [(.int i6), (.int (own_max (1 : Int32) i5)), (.int (5 : Int32)), (.ref b_1)])) rfl (by rw [hml]; rfl) (argsL := [(.ref b_1), (.int (5 : Int32)), (.int (own_max (1 : Int32) i5)), (.int i6)]) (rest := []) (lenOf pd_4 rfl) rfl (by show 2 * 0 + _ ≤ _; exact Nat.le_of_eq rfl) (hb hby at_184) (fun _ _ => ⟨rfl, e_25, (by decide : 1 + 0 ≤ _), (by decide : 6 + 0 ≤ _)⟩)
          dsimp only [Pt.U, Pt.locs, Pt.cells, Pt.slots] at X_28 l_28 y_28 z_28 st_28 hQ_28
          subst l_28 y_28 z_28
          obtain ⟨rfl, N_28q, e_28⟩ := hQ_28
          have N_28 := Fr.app N_25 N_28q
          have pr_29 : ∀ t, Steps p.tables e below (T_28.setTop (mkF m 187 #[.val (.long q1), .second, .val (.int p2), .val (.int p3), .val (.ref b_1), .val (.int i5), .val (.int i6), .val (.int (own_max (1 : Int32) i5)), .val (.int (-1 : Int32)), .unset] [(.int (own_hit (5 : Int32) (own_max (1 : Int32) i5) i6 f6))])) t → Steps p.tables e below (s₁.setTop (entryFrame m #[(.long q1), (.int p2), (.int p3)] maxLocals)) t := fun t k => by
            refine pr_26 _ ?_
            show Steps p.tables e below (T_25.setTop (mkF m 166 #[.val (.long q1), .second, .val (.int p2), .val (.int p3), .val (.ref b_1), .val (.int i5), .val (.int i6), .val (.int (own_max (1 : Int32) i5)), .val (.int (-1 : Int32)), .unset] [(.int (own_hit (4 : Int32) (own_max (1 : Int32) i5) i6 f6))])) _
            refine XS.ifYes X_25.here hx rfl (pc0 := 166) (pc' := 172) rfl (hb hby at_166) rfl ((if0 _ _).trans (teq hc_27).1) (by decide) (by decide) ?_
            show Steps p.tables e below (T_25.setTop (mkF m 172 #[.val (.long q1), .second, .val (.int p2), .val (.int p3), .val (.ref b_1), .val (.int i5), .val (.int i6), .val (.int (own_max (1 : Int32) i5)), .val (.int (-1 : Int32)), .unset] [])) _
            refine XS.iload X_25.here hx rfl (hb hby at_172) rfl ?_
            show Steps p.tables e below (T_25.setTop (mkF m 174 #[.val (.long q1), .second, .val (.int p2), .val (.int p3), .val (.ref b_1), .val (.int i5), .val (.int i6), .val (.int (own_max (1 : Int32) i5)), .val (.int (-1 : Int32)), .unset] [(.int (-1 : Int32))])) _
            refine XS.ifNo X_25.here hx rfl (hb hby at_174) rfl ((if0 _ _).trans (tlt (by decide : (-1 : Int32) < (0 : Int32))).2.1) ?_
            show Steps p.tables e below (T_25.setTop (mkF m 177 #[.val (.long q1), .second, .val (.int p2), .val (.int p3), .val (.ref b_1), .val (.int i5), .val (.int i6), .val (.int (own_max (1 : Int32) i5)), .val (.int (-1 : Int32)), .unset] [])) _
            refine XS.aload X_25.here hx rfl (hb hby at_177) rfl rfl ?_
            show Steps p.tables e below (T_25.setTop (mkF m 179 #[.val (.long q1), .second, .val (.int p2), .val (.int p3), .val (.ref b_1), .val (.int i5), .val (.int i6), .val (.int (own_max (1 : Int32) i5)), .val (.int (-1 : Int32)), .unset] [(.ref b_1)])) _
            refine XS.iconst X_25.here hx rfl (hb hby at_179) ?_
            show Steps p.tables e below (T_25.setTop (mkF m 180 #[.val (.long q1), .second, .val (.int p2), .val (.int p3), .val (.ref b_1), .val (.int i5), .val (.int i6), .val (.int (own_max (1 : Int32) i5)), .val (.int (-1 : Int32)), .unset] [(.int (5 : Int32)), (.ref b_1)])) _
            refine XS.iload X_25.here hx rfl (hb hby at_180) rfl ?_
            show Steps p.tables e below (T_25.setTop (mkF m 182 #[.val (.long q1), .second, .val (.int p2), .val (.int p3), .val (.ref b_1), .val (.int i5), .val (.int i6), .val (.int (own_max (1 : Int32) i5)), .val (.int (-1 : Int32)), .unset] [(.int (own_max (1 : Int32) i5)), (.int (5 : Int32)), (.ref b_1)])) _
            refine XS.iload X_25.here hx rfl (hb hby at_182) rfl ?_
            show Steps p.tables e below (T_25.setTop (mkF m 184 #[.val (.long q1), .second, .val (.int p2), .val (.int p3), .val (.ref b_1), .val (.int i5), .val (.int i6), .val (.int (own_max (1 : Int32) i5)), .val (.int (-1 : Int32)), .unset] [(.int i6), (.int (own_max (1 : Int32) i5)), (.int (5 : Int32)), (.ref b_1)])) _
            refine st_28 _ ?_
            exact k
          by_cases hc_30 : (own_hit (5 : Int32) (own_max (1 : Int32) i5) i6 f6) = (0 : Int32)
          · obtain ⟨_, _, ⟨T_31, L_31, k_31, n_31⟩, -, X_31, ⟨Lc_31, hQ_31, l_31, y_31, z_31⟩, st_31⟩ := Jvm.LawKit.callS X_28 hx (y := (⟨"com/example/parcelwright/parcelwright/soap/HttpHead", "end", "([BII)I"⟩ : MethodName)) hown (mvT hZ (hw _ (List.mem_of_getElem? (i := 15) rfl))) (mvT hZ (hw _ (List.mem_of_getElem? (i := 16) rfl))) (mvT hZ (hw _ (List.mem_of_getElem? (i := 17) rfl))) (mvT hZ (hw _ (List.mem_of_getElem? (i := 18) rfl))) (by decide) (backOf (W := 0) (rm4 l Z a0 hw [] b_1 i5 i6 f6 h_13 n0 Z_13 fw_13 h6) hZ (hw _ (List.mem_of_getElem? (i := 18) rfl)) (hw _ (List.mem_of_getElem? (i := 17) rfl)) (by decide) (by decide)) (g := (mkF m 200 #[.val (.long q1), .second, .val (.int p2), .val (.int p3), .val (.ref b_1), .val (.int i5), .val (.int i6), .val (.int (own_max (1 : Int32) i5)), .val (.int (-1 : Int32)), .unset] [(.int i6), (.int i5), (.ref b_1)])) rfl (by rw [hml]; rfl) (argsL := [(.ref b_1), (.int i5), (.int i6)]) (rest := []) (lenOf pd_5 rfl) rfl (by show 2 * 0 + _ ≤ _; exact Nat.le_of_eq rfl) (hb hby at_200) (fun _ _ => ⟨rfl, e_28, (by decide : 1 + 0 ≤ _), (by decide : 6 + 0 ≤ _)⟩)
            dsimp only [Pt.U, Pt.locs, Pt.cells, Pt.slots] at X_31 l_31 y_31 z_31 st_31 hQ_31
            subst l_31 y_31 z_31
            obtain ⟨rfl, N_31q, e_31⟩ := hQ_31
            have N_31 := Fr.app N_28 N_31q
            obtain ⟨fs, hr, hrun, hended, hW, hsame⟩ := X_31.leave (v := some (.int (1 : Int32))) (fun h => by rw [Bd.returns] at h; cases h)
            refine ⟨_, _, pr_29 _ ?_, hrun, hended, _, _, rfl, ?_, ⟨_, rfl⟩, hW, hsame.mono (by decide) (by decide)⟩
            · show Steps p.tables e below (T_28.setTop (mkF m 187 #[.val (.long q1), .second, .val (.int p2), .val (.int p3), .val (.ref b_1), .val (.int i5), .val (.int i6), .val (.int (own_max (1 : Int32) i5)), .val (.int (-1 : Int32)), .unset] [(.int (own_hit (5 : Int32) (own_max (1 : Int32) i5) i6 f6))])) _
              refine XS.ifYes X_28.here hx rfl (pc0 := 187) (pc' := 194) rfl (hb hby at_187) rfl ((if0 _ _).trans (teq hc_30).1) (by decide) (by decide) ?_
              show Steps p.tables e below (T_28.setTop (mkF m 194 #[.val (.long q1), .second, .val (.int p2), .val (.int p3), .val (.ref b_1), .val (.int i5), .val (.int i6), .val (.int (own_max (1 : Int32) i5)), .val (.int (-1 : Int32)), .unset] [])) _
              refine XS.aload X_28.here hx rfl (hb hby at_194) rfl rfl ?_
              show Steps p.tables e below (T_28.setTop (mkF m 196 #[.val (.long q1), .second, .val (.int p2), .val (.int p3), .val (.ref b_1), .val (.int i5), .val (.int i6), .val (.int (own_max (1 : Int32) i5)), .val (.int (-1 : Int32)), .unset] [(.ref b_1)])) _
              refine XS.iload X_28.here hx rfl (hb hby at_196) rfl ?_
              show Steps p.tables e below (T_28.setTop (mkF m 198 #[.val (.long q1), .second, .val (.int p2), .val (.int p3), .val (.ref b_1), .val (.int i5), .val (.int i6), .val (.int (own_max (1 : Int32) i5)), .val (.int (-1 : Int32)), .unset] [(.int i5), (.ref b_1)])) _
              refine XS.iload X_28.here hx rfl (hb hby at_198) rfl ?_
              show Steps p.tables e below (T_28.setTop (mkF m 200 #[.val (.long q1), .second, .val (.int p2), .val (.int p3), .val (.ref b_1), .val (.int i5), .val (.int i6), .val (.int (own_max (1 : Int32) i5)), .val (.int (-1 : Int32)), .unset] [(.int i6), (.int i5), (.ref b_1)])) _
              refine st_31 _ ?_
              show Steps p.tables e below (T_31.setTop (mkF m 203 #[.val (.long q1), .second, .val (.int p2), .val (.int p3), .val (.ref b_1), .val (.int i5), .val (.int i6), .val (.int (own_max (1 : Int32) i5)), .val (.int (-1 : Int32)), .unset] [(.int (own_scan f6 i6 6 (own_max (1 : Int32) i5)))])) _
              refine XS.istore X_31.here hx rfl (hb hby at_203) rfl (l' := #[.val (.long q1), .second, .val (.int p2), .val (.int p3), .val (.ref b_1), .val (.int i5), .val (.int i6), .val (.int (own_max (1 : Int32) i5)), .val (.int (-1 : Int32)), .val (.int (own_scan f6 i6 6 (own_max (1 : Int32) i5)))]) rfl ?_
              show Steps p.tables e below (T_31.setTop (mkF m 205 #[.val (.long q1), .second, .val (.int p2), .val (.int p3), .val (.ref b_1), .val (.int i5), .val (.int i6), .val (.int (own_max (1 : Int32) i5)), .val (.int (-1 : Int32)), .val (.int (own_scan f6 i6 6 (own_max (1 : Int32) i5)))] [])) _
              refine XS.iload X_31.here hx rfl (hb hby at_205) rfl ?_
              show Steps p.tables e below (T_31.setTop (mkF m 207 #[.val (.long q1), .second, .val (.int p2), .val (.int p3), .val (.ref b_1), .val (.int i5), .val (.int i6), .val (.int (own_max (1 : Int32) i5)), .val (.int (-1 : Int32)), .val (.int (own_scan f6 i6 6 (own_max (1 : Int32) i5)))] [(.int (own_scan f6 i6 6 (own_max (1 : Int32) i5)))])) _
              refine XS.iload X_31.here hx rfl (hb hby at_207) rfl ?_
              show Steps p.tables e below (T_31.setTop (mkF m 209 #[.val (.long q1), .second, .val (.int p2), .val (.int p3), .val (.ref b_1), .val (.int i5), .val (.int i6), .val (.int (own_max (1 : Int32) i5)), .val (.int (-1 : Int32)), .val (.int (own_scan f6 i6 6 (own_max (1 : Int32) i5)))] [(.int (-1 : Int32)), (.int (own_scan f6 i6 6 (own_max (1 : Int32) i5)))])) _
              refine XS.icmpNo X_31.here hx rfl (hb hby at_209) rfl (teq (by rw [own_fin f6 _ i6 (own_lo _) h6, if_pos hc_18, if_pos hc_21, if_pos hc_24, if_pos hc_27, if_pos hc_30] : (own_scan f6 i6 6 (own_max (1 : Int32) i5)) = (-1 : Int32))).2 ?_
              show Steps p.tables e below (T_31.setTop (mkF m 212 #[.val (.long q1), .second, .val (.int p2), .val (.int p3), .val (.ref b_1), .val (.int i5), .val (.int i6), .val (.int (own_max (1 : Int32) i5)), .val (.int (-1 : Int32)), .val (.int (own_scan f6 i6 6 (own_max (1 : Int32) i5)))] [])) _
              refine XS.iconst X_31.here hx rfl (hb hby at_212) ?_
              show Steps p.tables e below (T_31.setTop (mkF m 213 #[.val (.long q1), .second, .val (.int p2), .val (.int p3), .val (.ref b_1), .val (.int i5), .val (.int i6), .val (.int (own_max (1 : Int32) i5)), .val (.int (-1 : Int32)), .val (.int (own_scan f6 i6 6 (own_max (1 : Int32) i5)))] [(.int (1 : Int32))])) _
              refine XS.goto X_31.here hx rfl (pc0 := 213) (pc' := 217) rfl (hb hby at_213) (by decide) (by decide) ?_
              show Steps p.tables e below (T_31.setTop (mkF m 217 #[.val (.long q1), .second, .val (.int p2), .val (.int p3), .val (.ref b_1), .val (.int i5), .val (.int i6), .val (.int (own_max (1 : Int32) i5)), .val (.int (-1 : Int32)), .val (.int (own_scan f6 i6 6 (own_max (1 : Int32) i5)))] [(.int (1 : Int32))])) _
              exact retN X_31 hx (t := .boolean) Bd.returns (by simp) (hb hby at_217) hr
            · exact ⟨rfl, N_31⟩
          · obtain ⟨_, _, ⟨T_32, L_32, k_32, n_32⟩, -, X_32, ⟨Lc_32, hQ_32, l_32, y_32, z_32⟩, st_32⟩ := Jvm.LawKit.callS X_28 hx (y := (⟨"com/example/parcelwright/parcelwright/soap/HttpHead", "end", "([BII)I"⟩ : MethodName)) hown (mvT hZ (hw _ (List.mem_of_getElem? (i := 15) rfl))) (mvT hZ (hw _ (List.mem_of_getElem? (i := 16) rfl))) (mvT hZ (hw _ (List.mem_of_getElem? (i := 17) rfl))) (mvT hZ (hw _ (List.mem_of_getElem? (i := 18) rfl))) (by decide) (backOf (W := 0) (rm4 l Z a0 hw [] b_1 i5 i6 f6 h_13 n0 Z_13 fw_13 h6) hZ (hw _ (List.mem_of_getElem? (i := 18) rfl)) (hw _ (List.mem_of_getElem? (i := 17) rfl)) (by decide) (by decide)) (g := (mkF m 200 #[.val (.long q1), .second, .val (.int p2), .val (.int p3), .val (.ref b_1), .val (.int i5), .val (.int i6), .val (.int (own_max (1 : Int32) i5)), .val (.int (6 : Int32)), .unset] [(.int i6), (.int i5), (.ref b_1)])) rfl (by rw [hml]; rfl) (argsL := [(.ref b_1), (.int i5), (.int i6)]) (rest := []) (lenOf pd_5 rfl) rfl (by show 2 * 0 + _ ≤ _; exact Nat.le_of_eq rfl) (hb hby at_200) (fun _ _ => ⟨rfl, e_28, (by decide : 1 + 0 ≤ _), (by decide : 6 + 0 ≤ _)⟩)
            dsimp only [Pt.U, Pt.locs, Pt.cells, Pt.slots] at X_32 l_32 y_32 z_32 st_32 hQ_32
            subst l_32 y_32 z_32
            obtain ⟨rfl, N_32q, e_32⟩ := hQ_32
            have N_32 := Fr.app N_28 N_32q
            obtain ⟨fs, hr, hrun, hended, hW, hsame⟩ := X_32.leave (v := some (.int (1 : Int32))) (fun h => by rw [Bd.returns] at h; cases h)
            refine ⟨_, _, pr_29 _ ?_, hrun, hended, _, _, rfl, ?_, ⟨_, rfl⟩, hW, hsame.mono (by decide) (by decide)⟩
            · show Steps p.tables e below (T_28.setTop (mkF m 187 #[.val (.long q1), .second, .val (.int p2), .val (.int p3), .val (.ref b_1), .val (.int i5), .val (.int i6), .val (.int (own_max (1 : Int32) i5)), .val (.int (-1 : Int32)), .unset] [(.int (own_hit (5 : Int32) (own_max (1 : Int32) i5) i6 f6))])) _
              refine XS.ifNo X_28.here hx rfl (hb hby at_187) rfl ((if0 _ _).trans (feq hc_30).1) ?_
              show Steps p.tables e below (T_28.setTop (mkF m 190 #[.val (.long q1), .second, .val (.int p2), .val (.int p3), .val (.ref b_1), .val (.int i5), .val (.int i6), .val (.int (own_max (1 : Int32) i5)), .val (.int (-1 : Int32)), .unset] [])) _
              refine XS.bipush X_28.here hx rfl (hb hby at_190) ?_
              show Steps p.tables e below (T_28.setTop (mkF m 192 #[.val (.long q1), .second, .val (.int p2), .val (.int p3), .val (.ref b_1), .val (.int i5), .val (.int i6), .val (.int (own_max (1 : Int32) i5)), .val (.int (-1 : Int32)), .unset] [(.int (6 : Int32))])) _
              refine XS.istore X_28.here hx rfl (hb hby at_192) rfl (l' := #[.val (.long q1), .second, .val (.int p2), .val (.int p3), .val (.ref b_1), .val (.int i5), .val (.int i6), .val (.int (own_max (1 : Int32) i5)), .val (.int (6 : Int32)), .unset]) rfl ?_
              show Steps p.tables e below (T_28.setTop (mkF m 194 #[.val (.long q1), .second, .val (.int p2), .val (.int p3), .val (.ref b_1), .val (.int i5), .val (.int i6), .val (.int (own_max (1 : Int32) i5)), .val (.int (6 : Int32)), .unset] [])) _
              refine XS.aload X_28.here hx rfl (hb hby at_194) rfl rfl ?_
              show Steps p.tables e below (T_28.setTop (mkF m 196 #[.val (.long q1), .second, .val (.int p2), .val (.int p3), .val (.ref b_1), .val (.int i5), .val (.int i6), .val (.int (own_max (1 : Int32) i5)), .val (.int (6 : Int32)), .unset] [(.ref b_1)])) _
              refine XS.iload X_28.here hx rfl (hb hby at_196) rfl ?_
              show Steps p.tables e below (T_28.setTop (mkF m 198 #[.val (.long q1), .second, .val (.int p2), .val (.int p3), .val (.ref b_1), .val (.int i5), .val (.int i6), .val (.int (own_max (1 : Int32) i5)), .val (.int (6 : Int32)), .unset] [(.int i5), (.ref b_1)])) _
              refine XS.iload X_28.here hx rfl (hb hby at_198) rfl ?_
              show Steps p.tables e below (T_28.setTop (mkF m 200 #[.val (.long q1), .second, .val (.int p2), .val (.int p3), .val (.ref b_1), .val (.int i5), .val (.int i6), .val (.int (own_max (1 : Int32) i5)), .val (.int (6 : Int32)), .unset] [(.int i6), (.int i5), (.ref b_1)])) _
              refine st_32 _ ?_
              show Steps p.tables e below (T_32.setTop (mkF m 203 #[.val (.long q1), .second, .val (.int p2), .val (.int p3), .val (.ref b_1), .val (.int i5), .val (.int i6), .val (.int (own_max (1 : Int32) i5)), .val (.int (6 : Int32)), .unset] [(.int (own_scan f6 i6 6 (own_max (1 : Int32) i5)))])) _
              refine XS.istore X_32.here hx rfl (hb hby at_203) rfl (l' := #[.val (.long q1), .second, .val (.int p2), .val (.int p3), .val (.ref b_1), .val (.int i5), .val (.int i6), .val (.int (own_max (1 : Int32) i5)), .val (.int (6 : Int32)), .val (.int (own_scan f6 i6 6 (own_max (1 : Int32) i5)))]) rfl ?_
              show Steps p.tables e below (T_32.setTop (mkF m 205 #[.val (.long q1), .second, .val (.int p2), .val (.int p3), .val (.ref b_1), .val (.int i5), .val (.int i6), .val (.int (own_max (1 : Int32) i5)), .val (.int (6 : Int32)), .val (.int (own_scan f6 i6 6 (own_max (1 : Int32) i5)))] [])) _
              refine XS.iload X_32.here hx rfl (hb hby at_205) rfl ?_
              show Steps p.tables e below (T_32.setTop (mkF m 207 #[.val (.long q1), .second, .val (.int p2), .val (.int p3), .val (.ref b_1), .val (.int i5), .val (.int i6), .val (.int (own_max (1 : Int32) i5)), .val (.int (6 : Int32)), .val (.int (own_scan f6 i6 6 (own_max (1 : Int32) i5)))] [(.int (own_scan f6 i6 6 (own_max (1 : Int32) i5)))])) _
              refine XS.iload X_32.here hx rfl (hb hby at_207) rfl ?_
              show Steps p.tables e below (T_32.setTop (mkF m 209 #[.val (.long q1), .second, .val (.int p2), .val (.int p3), .val (.ref b_1), .val (.int i5), .val (.int i6), .val (.int (own_max (1 : Int32) i5)), .val (.int (6 : Int32)), .val (.int (own_scan f6 i6 6 (own_max (1 : Int32) i5)))] [(.int (6 : Int32)), (.int (own_scan f6 i6 6 (own_max (1 : Int32) i5)))])) _
              refine XS.icmpNo X_32.here hx rfl (hb hby at_209) rfl (teq (by rw [own_fin f6 _ i6 (own_lo _) h6, if_pos hc_18, if_pos hc_21, if_pos hc_24, if_pos hc_27, if_neg hc_30] : (own_scan f6 i6 6 (own_max (1 : Int32) i5)) = (6 : Int32))).2 ?_
              show Steps p.tables e below (T_32.setTop (mkF m 212 #[.val (.long q1), .second, .val (.int p2), .val (.int p3), .val (.ref b_1), .val (.int i5), .val (.int i6), .val (.int (own_max (1 : Int32) i5)), .val (.int (6 : Int32)), .val (.int (own_scan f6 i6 6 (own_max (1 : Int32) i5)))] [])) _
              refine XS.iconst X_32.here hx rfl (hb hby at_212) ?_
              show Steps p.tables e below (T_32.setTop (mkF m 213 #[.val (.long q1), .second, .val (.int p2), .val (.int p3), .val (.ref b_1), .val (.int i5), .val (.int i6), .val (.int (own_max (1 : Int32) i5)), .val (.int (6 : Int32)), .val (.int (own_scan f6 i6 6 (own_max (1 : Int32) i5)))] [(.int (1 : Int32))])) _
              refine XS.goto X_32.here hx rfl (pc0 := 213) (pc' := 217) rfl (hb hby at_213) (by decide) (by decide) ?_
              show Steps p.tables e below (T_32.setTop (mkF m 217 #[.val (.long q1), .second, .val (.int p2), .val (.int p3), .val (.ref b_1), .val (.int i5), .val (.int i6), .val (.int (own_max (1 : Int32) i5)), .val (.int (6 : Int32)), .val (.int (own_scan f6 i6 6 (own_max (1 : Int32) i5)))] [(.int (1 : Int32))])) _
              exact retN X_32 hx (t := .boolean) Bd.returns (by simp) (hb hby at_217) hr
            · exact ⟨rfl, N_32⟩
        · obtain ⟨_, _, ⟨T_33, L_33, k_33, n_33⟩, -, X_33, ⟨Lc_33, hQ_33, l_33, y_33, z_33⟩, st_33⟩ := Jvm.LawKit.callS X_25 hx (y := (⟨"com/example/parcelwright/parcelwright/soap/HttpHead", "end", "([BII)I"⟩ : MethodName)) hown (mvT hZ (hw _ (List.mem_of_getElem? (i := 15) rfl))) (mvT hZ (hw _ (List.mem_of_getElem? (i := 16) rfl))) (mvT hZ (hw _ (List.mem_of_getElem? (i := 17) rfl))) (mvT hZ (hw _ (List.mem_of_getElem? (i := 18) rfl))) (by decide) (backOf (W := 0) (rm4 l Z a0 hw [] b_1 i5 i6 f6 h_13 n0 Z_13 fw_13 h6) hZ (hw _ (List.mem_of_getElem? (i := 18) rfl)) (hw _ (List.mem_of_getElem? (i := 17) rfl)) (by decide) (by decide)) (g := (mkF m 200 #[.val (.long q1), .second, .val (.int p2), .val (.int p3), .val (.ref b_1), .val (.int i5), .val (.int i6), .val (.int (own_max (1 : Int32) i5)), .val (.int (5 : Int32)), .unset] [(.int i6), (.int i5), (.ref b_1)])) rfl (by rw [hml]; rfl) (argsL := [(.ref b_1), (.int i5), (.int i6)]) (rest := []) (lenOf pd_5 rfl) rfl (by show 2 * 0 + _ ≤ _; exact Nat.le_of_eq rfl) (hb hby at_200) (fun _ _ => ⟨rfl, e_25, (by decide : 1 + 0 ≤ _), (by decide : 6 + 0 ≤ _)⟩)
          dsimp only [Pt.U, Pt.locs, Pt.cells, Pt.slots] at X_33 l_33 y_33 z_33 st_33 hQ_33
          subst l_33 y_33 z_33
          obtain ⟨rfl, N_33q, e_33⟩ := hQ_33
          have N_33 := Fr.app N_25 N_33q
          obtain ⟨fs, hr, hrun, hended, hW, hsame⟩ := X_33.leave (v := some (.int (1 : Int32))) (fun h => by rw [Bd.returns] at h; cases h)
          refine ⟨_, _, pr_26 _ ?_, hrun, hended, _, _, rfl, ?_, ⟨_, rfl⟩, hW, hsame.mono (by decide) (by decide)⟩
          · show Steps p.tables e below (T_25.setTop (mkF m 166 #[.val (.long q1), .second, .val (.int p2), .val (.int p3), .val (.ref b_1), .val (.int i5), .val (.int i6), .val (.int (own_max (1 : Int32) i5)), .val (.int (-1 : Int32)), .unset] [(.int (own_hit (4 : Int32) (own_max (1 : Int32) i5) i6 f6))])) _
            refine XS.ifNo X_25.here hx rfl (hb hby at_166) rfl ((if0 _ _).trans (feq hc_27).1) ?_
            show Steps p.tables e below (T_25.setTop (mkF m 169 #[.val (.long q1), .second, .val (.int p2), .val (.int p3), .val (.ref b_1), .val (.int i5), .val (.int i6), .val (.int (own_max (1 : Int32) i5)), .val (.int (-1 : Int32)), .unset] [])) _
            refine XS.iconst X_25.here hx rfl (hb hby at_169) ?_
            show Steps p.tables e below (T_25.setTop (mkF m 170 #[.val (.long q1), .second, .val (.int p2), .val (.int p3), .val (.ref b_1), .val (.int i5), .val (.int i6), .val (.int (own_max (1 : Int32) i5)), .val (.int (-1 : Int32)), .unset] [(.int (5 : Int32))])) _
            refine XS.istore X_25.here hx rfl (hb hby at_170) rfl (l' := #[.val (.long q1), .second, .val (.int p2), .val (.int p3), .val (.ref b_1), .val (.int i5), .val (.int i6), .val (.int (own_max (1 : Int32) i5)), .val (.int (5 : Int32)), .unset]) rfl ?_
            show Steps p.tables e below (T_25.setTop (mkF m 172 #[.val (.long q1), .second, .val (.int p2), .val (.int p3), .val (.ref b_1), .val (.int i5), .val (.int i6), .val (.int (own_max (1 : Int32) i5)), .val (.int (5 : Int32)), .unset] [])) _
            refine XS.iload X_25.here hx rfl (hb hby at_172) rfl ?_
            show Steps p.tables e below (T_25.setTop (mkF m 174 #[.val (.long q1), .second, .val (.int p2), .val (.int p3), .val (.ref b_1), .val (.int i5), .val (.int i6), .val (.int (own_max (1 : Int32) i5)), .val (.int (5 : Int32)), .unset] [(.int (5 : Int32))])) _
            refine XS.ifYes X_25.here hx rfl (pc0 := 174) (pc' := 194) rfl (hb hby at_174) rfl ((if0 _ _).trans (flt (by decide : ¬ ((5 : Int32) < (0 : Int32)))).2.1) (by decide) (by decide) ?_
            show Steps p.tables e below (T_25.setTop (mkF m 194 #[.val (.long q1), .second, .val (.int p2), .val (.int p3), .val (.ref b_1), .val (.int i5), .val (.int i6), .val (.int (own_max (1 : Int32) i5)), .val (.int (5 : Int32)), .unset] [])) _
            refine XS.aload X_25.here hx rfl (hb hby at_194) rfl rfl ?_
            show Steps p.tables e below (T_25.setTop (mkF m 196 #[.val (.long q1), .second, .val (.int p2), .val (.int p3), .val (.ref b_1), .val (.int i5), .val (.int i6), .val (.int (own_max (1 : Int32) i5)), .val (.int (5 : Int32)), .unset] [(.ref b_1)])) _
            refine XS.iload X_25.here hx rfl (hb hby at_196) rfl ?_
            show Steps p.tables e below (T_25.setTop (mkF m 198 #[.val (.long q1), .second, .val (.int p2), .val (.int p3), .val (.ref b_1), .val (.int i5), .val (.int i6), .val (.int (own_max (1 : Int32) i5)), .val (.int (5 : Int32)), .unset] [(.int i5), (.ref b_1)])) _
            refine XS.iload X_25.here hx rfl (hb hby at_198) rfl ?_
            show Steps p.tables e below (T_25.setTop (mkF m 200 #[.val (.long q1), .second, .val (.int p2), .val (.int p3), .val (.ref b_1), .val (.int i5), .val (.int i6), .val (.int (own_max (1 : Int32) i5)), .val (.int (5 : Int32)), .unset] [(.int i6), (.int i5), (.ref b_1)])) _
            refine st_33 _ ?_
            show Steps p.tables e below (T_33.setTop (mkF m 203 #[.val (.long q1), .second, .val (.int p2), .val (.int p3), .val (.ref b_1), .val (.int i5), .val (.int i6), .val (.int (own_max (1 : Int32) i5)), .val (.int (5 : Int32)), .unset] [(.int (own_scan f6 i6 6 (own_max (1 : Int32) i5)))])) _
            refine XS.istore X_33.here hx rfl (hb hby at_203) rfl (l' := #[.val (.long q1), .second, .val (.int p2), .val (.int p3), .val (.ref b_1), .val (.int i5), .val (.int i6), .val (.int (own_max (1 : Int32) i5)), .val (.int (5 : Int32)), .val (.int (own_scan f6 i6 6 (own_max (1 : Int32) i5)))]) rfl ?_
            show Steps p.tables e below (T_33.setTop (mkF m 205 #[.val (.long q1), .second, .val (.int p2), .val (.int p3), .val (.ref b_1), .val (.int i5), .val (.int i6), .val (.int (own_max (1 : Int32) i5)), .val (.int (5 : Int32)), .val (.int (own_scan f6 i6 6 (own_max (1 : Int32) i5)))] [])) _
            refine XS.iload X_33.here hx rfl (hb hby at_205) rfl ?_
            show Steps p.tables e below (T_33.setTop (mkF m 207 #[.val (.long q1), .second, .val (.int p2), .val (.int p3), .val (.ref b_1), .val (.int i5), .val (.int i6), .val (.int (own_max (1 : Int32) i5)), .val (.int (5 : Int32)), .val (.int (own_scan f6 i6 6 (own_max (1 : Int32) i5)))] [(.int (own_scan f6 i6 6 (own_max (1 : Int32) i5)))])) _
            refine XS.iload X_33.here hx rfl (hb hby at_207) rfl ?_
            show Steps p.tables e below (T_33.setTop (mkF m 209 #[.val (.long q1), .second, .val (.int p2), .val (.int p3), .val (.ref b_1), .val (.int i5), .val (.int i6), .val (.int (own_max (1 : Int32) i5)), .val (.int (5 : Int32)), .val (.int (own_scan f6 i6 6 (own_max (1 : Int32) i5)))] [(.int (5 : Int32)), (.int (own_scan f6 i6 6 (own_max (1 : Int32) i5)))])) _
            refine XS.icmpNo X_33.here hx rfl (hb hby at_209) rfl (teq (by rw [own_fin f6 _ i6 (own_lo _) h6, if_pos hc_18, if_pos hc_21, if_pos hc_24, if_neg hc_27] : (own_scan f6 i6 6 (own_max (1 : Int32) i5)) = (5 : Int32))).2 ?_
            show Steps p.tables e below (T_33.setTop (mkF m 212 #[.val (.long q1), .second, .val (.int p2), .val (.int p3), .val (.ref b_1), .val (.int i5), .val (.int i6), .val (.int (own_max (1 : Int32) i5)), .val (.int (5 : Int32)), .val (.int (own_scan f6 i6 6 (own_max (1 : Int32) i5)))] [])) _
            refine XS.iconst X_33.here hx rfl (hb hby at_212) ?_
            show Steps p.tables e below (T_33.setTop (mkF m 213 #[.val (.long q1), .second, .val (.int p2), .val (.int p3), .val (.ref b_1), .val (.int i5), .val (.int i6), .val (.int (own_max (1 : Int32) i5)), .val (.int (5 : Int32)), .val (.int (own_scan f6 i6 6 (own_max (1 : Int32) i5)))] [(.int (1 : Int32))])) _
            refine XS.goto X_33.here hx rfl (pc0 := 213) (pc' := 217) rfl (hb hby at_213) (by decide) (by decide) ?_
            show Steps p.tables e below (T_33.setTop (mkF m 217 #[.val (.long q1), .second, .val (.int p2), .val (.int p3), .val (.ref b_1), .val (.int i5), .val (.int i6), .val (.int (own_max (1 : Int32) i5)), .val (.int (5 : Int32)), .val (.int (own_scan f6 i6 6 (own_max (1 : Int32) i5)))] [(.int (1 : Int32))])) _
            exact retN X_33 hx (t := .boolean) Bd.returns (by simp) (hb hby at_217) hr
          · exact ⟨rfl, N_33⟩
      · obtain ⟨_, _, ⟨T_34, L_34, k_34, n_34⟩, -, X_34, ⟨Lc_34, hQ_34, l_34, y_34, z_34⟩, st_34⟩ := Jvm.LawKit.callS X_22 hx (y := (⟨"com/example/parcelwright/parcelwright/soap/HttpHead", "end", "([BII)I"⟩ : MethodName)) hown (mvT hZ (hw _ (List.mem_of_getElem? (i := 15) rfl))) (mvT hZ (hw _ (List.mem_of_getElem? (i := 16) rfl))) (mvT hZ (hw _ (List.mem_of_getElem? (i := 17) rfl))) (mvT hZ (hw _ (List.mem_of_getElem? (i := 18) rfl))) (by decide) (backOf (W := 0) (rm4 l Z a0 hw [] b_1 i5 i6 f6 h_13 n0 Z_13 fw_13 h6) hZ (hw _ (List.mem_of_getElem? (i := 18) rfl)) (hw _ (List.mem_of_getElem? (i := 17) rfl)) (by decide) (by decide)) (g := (mkF m 200 #[.val (.long q1), .second, .val (.int p2), .val (.int p3), .val (.ref b_1), .val (.int i5), .val (.int i6), .val (.int (own_max (1 : Int32) i5)), .val (.int (4 : Int32)), .unset] [(.int i6), (.int i5), (.ref b_1)])) rfl (by rw [hml]; rfl) (argsL := [(.ref b_1), (.int i5), (.int i6)]) (rest := []) (lenOf pd_5 rfl) rfl (by show 2 * 0 + _ ≤ _; exact Nat.le_of_eq rfl) (hb hby at_200) (fun _ _ => ⟨rfl, e_22, (by decide : 1 + 0 ≤ _), (by decide : 6 + 0 ≤ _)⟩)
        dsimp only [Pt.U, Pt.locs, Pt.cells, Pt.slots] at X_34 l_34 y_34 z_34 st_34 hQ_34
        subst l_34 y_34 z_34
        obtain ⟨rfl, N_34q, e_34⟩ := hQ_34
        have N_34 := Fr.app N_22 N_34q
        obtain ⟨fs, hr, hrun, hended, hW, hsame⟩ := X_34.leave (v := some (.int (1 : Int32))) (fun h => by rw [Bd.returns] at h; cases h)
        refine ⟨_, _, pr_23 _ ?_, hrun, hended, _, _, rfl, ?_, ⟨_, rfl⟩, hW, hsame.mono (by decide) (by decide)⟩
        · show Steps p.tables e below (T_22.setTop (mkF m 145 #[.val (.long q1), .second, .val (.int p2), .val (.int p3), .val (.ref b_1), .val (.int i5), .val (.int i6), .val (.int (own_max (1 : Int32) i5)), .val (.int (-1 : Int32)), .unset] [(.int (own_hit (3 : Int32) (own_max (1 : Int32) i5) i6 f6))])) _
          refine XS.ifNo X_22.here hx rfl (hb hby at_145) rfl ((if0 _ _).trans (feq hc_24).1) ?_
          show Steps p.tables e below (T_22.setTop (mkF m 148 #[.val (.long q1), .second, .val (.int p2), .val (.int p3), .val (.ref b_1), .val (.int i5), .val (.int i6), .val (.int (own_max (1 : Int32) i5)), .val (.int (-1 : Int32)), .unset] [])) _
          refine XS.iconst X_22.here hx rfl (hb hby at_148) ?_
          show Steps p.tables e below (T_22.setTop (mkF m 149 #[.val (.long q1), .second, .val (.int p2), .val (.int p3), .val (.ref b_1), .val (.int i5), .val (.int i6), .val (.int (own_max (1 : Int32) i5)), .val (.int (-1 : Int32)), .unset] [(.int (4 : Int32))])) _
          refine XS.istore X_22.here hx rfl (hb hby at_149) rfl (l' := #[.val (.long q1), .second, .val (.int p2), .val (.int p3), .val (.ref b_1), .val (.int i5), .val (.int i6), .val (.int (own_max (1 : Int32) i5)), .val (.int (4 : Int32)), .unset]) rfl ?_
          show Steps p.tables e below (T_22.setTop (mkF m 151 #[.val (.long q1), .second, .val (.int p2), .val (.int p3), .val (.ref b_1), .val (.int i5), .val (.int i6), .val (.int (own_max (1 : Int32) i5)), .val (.int (4 : Int32)), .unset] [])) _
          refine XS.iload X_22.here hx rfl (hb hby at_151) rfl ?_
          show Steps p.tables e below (T_22.setTop (mkF m 153 #[.val (.long q1), .second, .val (.int p2), .val (.int p3), .val (.ref b_1), .val (.int i5), .val (.int i6), .val (.int (own_max (1 : Int32) i5)), .val (.int (4 : Int32)), .unset] [(.int (4 : Int32))])) _
          refine XS.ifYes X_22.here hx rfl (pc0 := 153) (pc' := 172) rfl (hb hby at_153) rfl ((if0 _ _).trans (flt (by decide : ¬ ((4 : Int32) < (0 : Int32)))).2.1) (by decide) (by decide) ?_
          show Steps p.tables e below (T_22.setTop (mkF m 172 #[.val (.long q1), .second, .val (.int p2), .val (.int p3), .val (.ref b_1), .val (.int i5), .val (.int i6), .val (.int (own_max (1 : Int32) i5)), .val (.int (4 : Int32)), .unset] [])) _
          refine XS.iload X_22.here hx rfl (hb hby at_172) rfl ?_
          show Steps p.tables e below (T_22.setTop (mkF m 174 #[.val (.long q1), .second, .val (.int p2), .val (.int p3), .val (.ref b_1), .val (.int i5), .val (.int i6), .val (.int (own_max (1 : Int32) i5)), .val (.int (4 : Int32)), .unset] [(.int (4 : Int32))])) _
          refine XS.ifYes X_22.here hx rfl (pc0 := 174) (pc' := 194) rfl (hb hby at_174) rfl ((if0 _ _).trans (flt (by decide : ¬ ((4 : Int32) < (0 : Int32)))).2.1) (by decide) (by decide) ?_
          show Steps p.tables e below (T_22.setTop (mkF m 194 #[.val (.long q1), .second, .val (.int p2), .val (.int p3), .val (.ref b_1), .val (.int i5), .val (.int i6), .val (.int (own_max (1 : Int32) i5)), .val (.int (4 : Int32)), .unset] [])) _
          refine XS.aload X_22.here hx rfl (hb hby at_194) rfl rfl ?_
          show Steps p.tables e below (T_22.setTop (mkF m 196 #[.val (.long q1), .second, .val (.int p2), .val (.int p3), .val (.ref b_1), .val (.int i5), .val (.int i6), .val (.int (own_max (1 : Int32) i5)), .val (.int (4 : Int32)), .unset] [(.ref b_1)])) _
          refine XS.iload X_22.here hx rfl (hb hby at_196) rfl ?_
          show Steps p.tables e below (T_22.setTop (mkF m 198 #[.val (.long q1), .second, .val (.int p2), .val (.int p3), .val (.ref b_1), .val (.int i5), .val (.int i6), .val (.int (own_max (1 : Int32) i5)), .val (.int (4 : Int32)), .unset] [(.int i5), (.ref b_1)])) _
          refine XS.iload X_22.here hx rfl (hb hby at_198) rfl ?_
          show Steps p.tables e below (T_22.setTop (mkF m 200 #[.val (.long q1), .second, .val (.int p2), .val (.int p3), .val (.ref b_1), .val (.int i5), .val (.int i6), .val (.int (own_max (1 : Int32) i5)), .val (.int (4 : Int32)), .unset] [(.int i6), (.int i5), (.ref b_1)])) _
          refine st_34 _ ?_
          show Steps p.tables e below (T_34.setTop (mkF m 203 #[.val (.long q1), .second, .val (.int p2), .val (.int p3), .val (.ref b_1), .val (.int i5), .val (.int i6), .val (.int (own_max (1 : Int32) i5)), .val (.int (4 : Int32)), .unset] [(.int (own_scan f6 i6 6 (own_max (1 : Int32) i5)))])) _
          refine XS.istore X_34.here hx rfl (hb hby at_203) rfl (l' := #[.val (.long q1), .second, .val (.int p2), .val (.int p3), .val (.ref b_1), .val (.int i5), .val (.int i6), .val (.int (own_max (1 : Int32) i5)), .val (.int (4 : Int32)), .val (.int (own_scan f6 i6 6 (own_max (1 : Int32) i5)))]) rfl ?_
          show Steps p.tables e below (T_34.setTop (mkF m 205 #[.val (.long q1), .second, .val (.int p2), .val (.int p3), .val (.ref b_1), .val (.int i5), .val (.int i6), .val (.int (own_max (1 : Int32) i5)), .val (.int (4 : Int32)), .val (.int (own_scan f6 i6 6 (own_max (1 : Int32) i5)))] [])) _
          refine XS.iload X_34.here hx rfl (hb hby at_205) rfl ?_
          show Steps p.tables e below (T_34.setTop (mkF m 207 #[.val (.long q1), .second, .val (.int p2), .val (.int p3), .val (.ref b_1), .val (.int i5), .val (.int i6), .val (.int (own_max (1 : Int32) i5)), .val (.int (4 : Int32)), .val (.int (own_scan f6 i6 6 (own_max (1 : Int32) i5)))] [(.int (own_scan f6 i6 6 (own_max (1 : Int32) i5)))])) _
          refine XS.iload X_34.here hx rfl (hb hby at_207) rfl ?_
          show Steps p.tables e below (T_34.setTop (mkF m 209 #[.val (.long q1), .second, .val (.int p2), .val (.int p3), .val (.ref b_1), .val (.int i5), .val (.int i6), .val (.int (own_max (1 : Int32) i5)), .val (.int (4 : Int32)), .val (.int (own_scan f6 i6 6 (own_max (1 : Int32) i5)))] [(.int (4 : Int32)), (.int (own_scan f6 i6 6 (own_max (1 : Int32) i5)))])) _
          refine XS.icmpNo X_34.here hx rfl (hb hby at_209) rfl (teq (by rw [own_fin f6 _ i6 (own_lo _) h6, if_pos hc_18, if_pos hc_21, if_neg hc_24] : (own_scan f6 i6 6 (own_max (1 : Int32) i5)) = (4 : Int32))).2 ?_
          show Steps p.tables e below (T_34.setTop (mkF m 212 #[.val (.long q1), .second, .val (.int p2), .val (.int p3), .val (.ref b_1), .val (.int i5), .val (.int i6), .val (.int (own_max (1 : Int32) i5)), .val (.int (4 : Int32)), .val (.int (own_scan f6 i6 6 (own_max (1 : Int32) i5)))] [])) _
          refine XS.iconst X_34.here hx rfl (hb hby at_212) ?_
          show Steps p.tables e below (T_34.setTop (mkF m 213 #[.val (.long q1), .second, .val (.int p2), .val (.int p3), .val (.ref b_1), .val (.int i5), .val (.int i6), .val (.int (own_max (1 : Int32) i5)), .val (.int (4 : Int32)), .val (.int (own_scan f6 i6 6 (own_max (1 : Int32) i5)))] [(.int (1 : Int32))])) _
          refine XS.goto X_34.here hx rfl (pc0 := 213) (pc' := 217) rfl (hb hby at_213) (by decide) (by decide) ?_
          show Steps p.tables e below (T_34.setTop (mkF m 217 #[.val (.long q1), .second, .val (.int p2), .val (.int p3), .val (.ref b_1), .val (.int i5), .val (.int i6), .val (.int (own_max (1 : Int32) i5)), .val (.int (4 : Int32)), .val (.int (own_scan f6 i6 6 (own_max (1 : Int32) i5)))] [(.int (1 : Int32))])) _
          exact retN X_34 hx (t := .boolean) Bd.returns (by simp) (hb hby at_217) hr
        · exact ⟨rfl, N_34⟩
    · obtain ⟨_, _, ⟨T_35, L_35, k_35, n_35⟩, -, X_35, ⟨Lc_35, hQ_35, l_35, y_35, z_35⟩, st_35⟩ := Jvm.LawKit.callS X_19 hx (y := (⟨"com/example/parcelwright/parcelwright/soap/HttpHead", "end", "([BII)I"⟩ : MethodName)) hown (mvT hZ (hw _ (List.mem_of_getElem? (i := 15) rfl))) (mvT hZ (hw _ (List.mem_of_getElem? (i := 16) rfl))) (mvT hZ (hw _ (List.mem_of_getElem? (i := 17) rfl))) (mvT hZ (hw _ (List.mem_of_getElem? (i := 18) rfl))) (by decide) (backOf (W := 0) (rm4 l Z a0 hw [] b_1 i5 i6 f6 h_13 n0 Z_13 fw_13 h6) hZ (hw _ (List.mem_of_getElem? (i := 18) rfl)) (hw _ (List.mem_of_getElem? (i := 17) rfl)) (by decide) (by decide)) (g := (mkF m 200 #[.val (.long q1), .second, .val (.int p2), .val (.int p3), .val (.ref b_1), .val (.int i5), .val (.int i6), .val (.int (own_max (1 : Int32) i5)), .val (.int (3 : Int32)), .unset] [(.int i6), (.int i5), (.ref b_1)])) rfl (by rw [hml]; rfl) (argsL := [(.ref b_1), (.int i5), (.int i6)]) (rest := []) (lenOf pd_5 rfl) rfl (by show 2 * 0 + _ ≤ _; exact Nat.le_of_eq rfl) (hb hby at_200) (fun _ _ => ⟨rfl, e_19, (by decide : 1 + 0 ≤ _), (by decide : 6 + 0 ≤ _)⟩)
      dsimp only [Pt.U, Pt.locs, Pt.cells, Pt.slots] at X_35 l_35 y_35 z_35 st_35 hQ_35
      subst l_35 y_35 z_35
      obtain ⟨rfl, N_35q, e_35⟩ := hQ_35
      have N_35 := Fr.app N_19 N_35q
      obtain ⟨fs, hr, hrun, hended, hW, hsame⟩ := X_35.leave (v := some (.int (1 : Int32))) (fun h => by rw [Bd.returns] at h; cases h)
      refine ⟨_, _, pr_20 _ ?_, hrun, hended, _, _, rfl, ?_, ⟨_, rfl⟩, hW, hsame.mono (by decide) (by decide)⟩
      · show Steps p.tables e below (T_19.setTop (mkF m 124 #[.val (.long q1), .second, .val (.int p2), .val (.int p3), .val (.ref b_1), .val (.int i5), .val (.int i6), .val (.int (own_max (1 : Int32) i5)), .val (.int (-1 : Int32)), .unset] [(.int (own_hit (2 : Int32) (own_max (1 : Int32) i5) i6 f6))])) _
        refine XS.ifNo X_19.here hx rfl (hb hby at_124) rfl ((if0 _ _).trans (feq hc_21).1) ?_
        show Steps p.tables e below (T_19.setTop (mkF m 127 #[.val (.long q1), .second, .val (.int p2), .val (.int p3), .val (.ref b_1), .val (.int i5), .val (.int i6), .val (.int (own_max (1 : Int32) i5)), .val (.int (-1 : Int32)), .unset] [])) _
        refine XS.iconst X_19.here hx rfl (hb hby at_127) ?_
        show Steps p.tables e below (T_19.setTop (mkF m 128 #[.val (.long q1), .second, .val (.int p2), .val (.int p3), .val (.ref b_1), .val (.int i5), .val (.int i6), .val (.int (own_max (1 : Int32) i5)), .val (.int (-1 : Int32)), .unset] [(.int (3 : Int32))])) _
        refine XS.istore X_19.here hx rfl (hb hby at_128) rfl (l' := #[.val (.long q1), .second, .val (.int p2), .val (.int p3), .val (.ref b_1), .val (.int i5), .val (.int i6), .val (.int (own_max (1 : Int32) i5)), .val (.int (3 : Int32)), .unset]) rfl ?_
        show Steps p.tables e below (T_19.setTop (mkF m 130 #[.val (.long q1), .second, .val (.int p2), .val (.int p3), .val (.ref b_1), .val (.int i5), .val (.int i6), .val (.int (own_max (1 : Int32) i5)), .val (.int (3 : Int32)), .unset] [])) _
        refine XS.iload X_19.here hx rfl (hb hby at_130) rfl ?_
        show Steps p.tables e below (T_19.setTop (mkF m 132 #[.val (.long q1), .second, .val (.int p2), .val (.int p3), .val (.ref b_1), .val (.int i5), .val (.int i6), .val (.int (own_max (1 : Int32) i5)), .val (.int (3 : Int32)), .unset] [(.int (3 : Int32))])) _
        refine XS.ifYes X_19.here hx rfl (pc0 := 132) (pc' := 151) rfl (hb hby at_132) rfl ((if0 _ _).trans (flt (by decide : ¬ ((3 : Int32) < (0 : Int32)))).2.1) (by decide) (by decide) ?_
        show Steps p.tables e below (T_19.setTop (mkF m 151 #[.val (.long q1), .second, .val (.int p2), .val (.int p3), .val (.ref b_1), .val (.int i5), .val (.int i6), .val (.int (own_max (1 : Int32) i5)), .val (.int (3 : Int32)), .unset] [])) _
        refine XS.iload X_19.here hx rfl (hb hby at_151) rfl ?_
        show Steps p.tables e below (T_19.setTop (mkF m 153 #[.val (.long q1), .second, .val (.int p2), .val (.int p3), .val (.ref b_1), .val (.int i5), .val (.int i6), .val (.int (own_max (1 : Int32) i5)), .val (.int (3 : Int32)), .unset] [(.int (3 : Int32))])) _
        refine XS.ifYes X_19.here hx rfl (pc0 := 153) (pc' := 172) rfl (hb hby at_153) rfl ((if0 _ _).trans (flt (by decide : ¬ ((3 : Int32) < (0 : Int32)))).2.1) (by decide) (by decide) ?_
        show Steps p.tables e below (T_19.setTop (mkF m 172 #[.val (.long q1), .second, .val (.int p2), .val (.int p3), .val (.ref b_1), .val (.int i5), .val (.int i6), .val (.int (own_max (1 : Int32) i5)), .val (.int (3 : Int32)), .unset] [])) _
        refine XS.iload X_19.here hx rfl (hb hby at_172) rfl ?_
        show Steps p.tables e below (T_19.setTop (mkF m 174 #[.val (.long q1), .second, .val (.int p2), .val (.int p3), .val (.ref b_1), .val (.int i5), .val (.int i6), .val (.int (own_max (1 : Int32) i5)), .val (.int (3 : Int32)), .unset] [(.int (3 : Int32))])) _
        refine XS.ifYes X_19.here hx rfl (pc0 := 174) (pc' := 194) rfl (hb hby at_174) rfl ((if0 _ _).trans (flt (by decide : ¬ ((3 : Int32) < (0 : Int32)))).2.1) (by decide) (by decide) ?_
        show Steps p.tables e below (T_19.setTop (mkF m 194 #[.val (.long q1), .second, .val (.int p2), .val (.int p3), .val (.ref b_1), .val (.int i5), .val (.int i6), .val (.int (own_max (1 : Int32) i5)), .val (.int (3 : Int32)), .unset] [])) _
        refine XS.aload X_19.here hx rfl (hb hby at_194) rfl rfl ?_
        show Steps p.tables e below (T_19.setTop (mkF m 196 #[.val (.long q1), .second, .val (.int p2), .val (.int p3), .val (.ref b_1), .val (.int i5), .val (.int i6), .val (.int (own_max (1 : Int32) i5)), .val (.int (3 : Int32)), .unset] [(.ref b_1)])) _
        refine XS.iload X_19.here hx rfl (hb hby at_196) rfl ?_
        show Steps p.tables e below (T_19.setTop (mkF m 198 #[.val (.long q1), .second, .val (.int p2), .val (.int p3), .val (.ref b_1), .val (.int i5), .val (.int i6), .val (.int (own_max (1 : Int32) i5)), .val (.int (3 : Int32)), .unset] [(.int i5), (.ref b_1)])) _
        refine XS.iload X_19.here hx rfl (hb hby at_198) rfl ?_
        show Steps p.tables e below (T_19.setTop (mkF m 200 #[.val (.long q1), .second, .val (.int p2), .val (.int p3), .val (.ref b_1), .val (.int i5), .val (.int i6), .val (.int (own_max (1 : Int32) i5)), .val (.int (3 : Int32)), .unset] [(.int i6), (.int i5), (.ref b_1)])) _
        refine st_35 _ ?_
        show Steps p.tables e below (T_35.setTop (mkF m 203 #[.val (.long q1), .second, .val (.int p2), .val (.int p3), .val (.ref b_1), .val (.int i5), .val (.int i6), .val (.int (own_max (1 : Int32) i5)), .val (.int (3 : Int32)), .unset] [(.int (own_scan f6 i6 6 (own_max (1 : Int32) i5)))])) _
        refine XS.istore X_35.here hx rfl (hb hby at_203) rfl (l' := #[.val (.long q1), .second, .val (.int p2), .val (.int p3), .val (.ref b_1), .val (.int i5), .val (.int i6), .val (.int (own_max (1 : Int32) i5)), .val (.int (3 : Int32)), .val (.int (own_scan f6 i6 6 (own_max (1 : Int32) i5)))]) rfl ?_
        show Steps p.tables e below (T_35.setTop (mkF m 205 #[.val (.long q1), .second, .val (.int p2), .val (.int p3), .val (.ref b_1), .val (.int i5), .val (.int i6), .val (.int (own_max (1 : Int32) i5)), .val (.int (3 : Int32)), .val (.int (own_scan f6 i6 6 (own_max (1 : Int32) i5)))] [])) _
        refine XS.iload X_35.here hx rfl (hb hby at_205) rfl ?_
        show Steps p.tables e below (T_35.setTop (mkF m 207 #[.val (.long q1), .second, .val (.int p2), .val (.int p3), .val (.ref b_1), .val (.int i5), .val (.int i6), .val (.int (own_max (1 : Int32) i5)), .val (.int (3 : Int32)), .val (.int (own_scan f6 i6 6 (own_max (1 : Int32) i5)))] [(.int (own_scan f6 i6 6 (own_max (1 : Int32) i5)))])) _
        refine XS.iload X_35.here hx rfl (hb hby at_207) rfl ?_
        show Steps p.tables e below (T_35.setTop (mkF m 209 #[.val (.long q1), .second, .val (.int p2), .val (.int p3), .val (.ref b_1), .val (.int i5), .val (.int i6), .val (.int (own_max (1 : Int32) i5)), .val (.int (3 : Int32)), .val (.int (own_scan f6 i6 6 (own_max (1 : Int32) i5)))] [(.int (3 : Int32)), (.int (own_scan f6 i6 6 (own_max (1 : Int32) i5)))])) _
        refine XS.icmpNo X_35.here hx rfl (hb hby at_209) rfl (teq (by rw [own_fin f6 _ i6 (own_lo _) h6, if_pos hc_18, if_neg hc_21] : (own_scan f6 i6 6 (own_max (1 : Int32) i5)) = (3 : Int32))).2 ?_
        show Steps p.tables e below (T_35.setTop (mkF m 212 #[.val (.long q1), .second, .val (.int p2), .val (.int p3), .val (.ref b_1), .val (.int i5), .val (.int i6), .val (.int (own_max (1 : Int32) i5)), .val (.int (3 : Int32)), .val (.int (own_scan f6 i6 6 (own_max (1 : Int32) i5)))] [])) _
        refine XS.iconst X_35.here hx rfl (hb hby at_212) ?_
        show Steps p.tables e below (T_35.setTop (mkF m 213 #[.val (.long q1), .second, .val (.int p2), .val (.int p3), .val (.ref b_1), .val (.int i5), .val (.int i6), .val (.int (own_max (1 : Int32) i5)), .val (.int (3 : Int32)), .val (.int (own_scan f6 i6 6 (own_max (1 : Int32) i5)))] [(.int (1 : Int32))])) _
        refine XS.goto X_35.here hx rfl (pc0 := 213) (pc' := 217) rfl (hb hby at_213) (by decide) (by decide) ?_
        show Steps p.tables e below (T_35.setTop (mkF m 217 #[.val (.long q1), .second, .val (.int p2), .val (.int p3), .val (.ref b_1), .val (.int i5), .val (.int i6), .val (.int (own_max (1 : Int32) i5)), .val (.int (3 : Int32)), .val (.int (own_scan f6 i6 6 (own_max (1 : Int32) i5)))] [(.int (1 : Int32))])) _
        exact retN X_35 hx (t := .boolean) Bd.returns (by simp) (hb hby at_217) hr
      · exact ⟨rfl, N_35⟩
  · obtain ⟨_, _, ⟨T_36, L_36, k_36, n_36⟩, -, X_36, ⟨Lc_36, hQ_36, l_36, y_36, z_36⟩, st_36⟩ := Jvm.LawKit.callS X_16 hx (y := (⟨"com/example/parcelwright/parcelwright/soap/HttpHead", "end", "([BII)I"⟩ : MethodName)) hown (mvT hZ (hw _ (List.mem_of_getElem? (i := 15) rfl))) (mvT hZ (hw _ (List.mem_of_getElem? (i := 16) rfl))) (mvT hZ (hw _ (List.mem_of_getElem? (i := 17) rfl))) (mvT hZ (hw _ (List.mem_of_getElem? (i := 18) rfl))) (by decide) (backOf (W := 0) (rm4 l Z a0 hw [] b_1 i5 i6 f6 h_13 n0 Z_13 fw_13 h6) hZ (hw _ (List.mem_of_getElem? (i := 18) rfl)) (hw _ (List.mem_of_getElem? (i := 17) rfl)) (by decide) (by decide)) (g := (mkF m 200 #[.val (.long q1), .second, .val (.int p2), .val (.int p3), .val (.ref b_1), .val (.int i5), .val (.int i6), .val (.int (own_max (1 : Int32) i5)), .val (.int (2 : Int32)), .unset] [(.int i6), (.int i5), (.ref b_1)])) rfl (by rw [hml]; rfl) (argsL := [(.ref b_1), (.int i5), (.int i6)]) (rest := []) (lenOf pd_5 rfl) rfl (by show 2 * 0 + _ ≤ _; exact Nat.le_of_eq rfl) (hb hby at_200) (fun _ _ => ⟨rfl, e_16, (by decide : 1 + 0 ≤ _), (by decide : 6 + 0 ≤ _)⟩)
    dsimp only [Pt.U, Pt.locs, Pt.cells, Pt.slots] at X_36 l_36 y_36 z_36 st_36 hQ_36
    subst l_36 y_36 z_36
    obtain ⟨rfl, N_36q, e_36⟩ := hQ_36
    have N_36 := Fr.app N_16 N_36q
    obtain ⟨fs, hr, hrun, hended, hW, hsame⟩ := X_36.leave (v := some (.int (1 : Int32))) (fun h => by rw [Bd.returns] at h; cases h)
    refine ⟨_, _, pr_17 _ ?_, hrun, hended, _, _, rfl, ?_, ⟨_, rfl⟩, hW, hsame.mono (by decide) (by decide)⟩
    · show Steps p.tables e below (T_16.setTop (mkF m 103 #[.val (.long q1), .second, .val (.int p2), .val (.int p3), .val (.ref b_1), .val (.int i5), .val (.int i6), .val (.int (own_max (1 : Int32) i5)), .val (.int (-1 : Int32)), .unset] [(.int (own_hit (1 : Int32) (own_max (1 : Int32) i5) i6 f6))])) _
      refine XS.ifNo X_16.here hx rfl (hb hby at_103) rfl ((if0 _ _).trans (feq hc_18).1) ?_
      show Steps p.tables e below (T_16.setTop (mkF m 106 #[.val (.long q1), .second, .val (.int p2), .val (.int p3), .val (.ref b_1), .val (.int i5), .val (.int i6), .val (.int (own_max (1 : Int32) i5)), .val (.int (-1 : Int32)), .unset] [])) _
      refine XS.iconst X_16.here hx rfl (hb hby at_106) ?_
      show Steps p.tables e below (T_16.setTop (mkF m 107 #[.val (.long q1), .second, .val (.int p2), .val (.int p3), .val (.ref b_1), .val (.int i5), .val (.int i6), .val (.int (own_max (1 : Int32) i5)), .val (.int (-1 : Int32)), .unset] [(.int (2 : Int32))])) _
      refine XS.istore X_16.here hx rfl (hb hby at_107) rfl (l' := #[.val (.long q1), .second, .val (.int p2), .val (.int p3), .val (.ref b_1), .val (.int i5), .val (.int i6), .val (.int (own_max (1 : Int32) i5)), .val (.int (2 : Int32)), .unset]) rfl ?_
      show Steps p.tables e below (T_16.setTop (mkF m 109 #[.val (.long q1), .second, .val (.int p2), .val (.int p3), .val (.ref b_1), .val (.int i5), .val (.int i6), .val (.int (own_max (1 : Int32) i5)), .val (.int (2 : Int32)), .unset] [])) _
      refine XS.iload X_16.here hx rfl (hb hby at_109) rfl ?_
      show Steps p.tables e below (T_16.setTop (mkF m 111 #[.val (.long q1), .second, .val (.int p2), .val (.int p3), .val (.ref b_1), .val (.int i5), .val (.int i6), .val (.int (own_max (1 : Int32) i5)), .val (.int (2 : Int32)), .unset] [(.int (2 : Int32))])) _
      refine XS.ifYes X_16.here hx rfl (pc0 := 111) (pc' := 130) rfl (hb hby at_111) rfl ((if0 _ _).trans (flt (by decide : ¬ ((2 : Int32) < (0 : Int32)))).2.1) (by decide) (by decide) ?_
      show Steps p.tables e below (T_16.setTop (mkF m 130 #[.val (.long q1), .second, .val (.int p2), .val (.int p3), .val (.ref b_1), .val (.int i5), .val (.int i6), .val (.int (own_max (1 : Int32) i5)), .val (.int (2 : Int32)), .unset] [])) _
      refine XS.iload X_16.here hx rfl (hb hby at_130) rfl ?_
      show Steps p.tables e below (T_16.setTop (mkF m 132 #[.val (.long q1), .second, .val (.int p2), .val (.int p3), .val (.ref b_1), .val (.int i5), .val (.int i6), .val (.int (own_max (1 : Int32) i5)), .val (.int (2 : Int32)), .unset] [(.int (2 : Int32))])) _
      refine XS.ifYes X_16.here hx rfl (pc0 := 132) (pc' := 151) rfl (hb hby at_132) rfl ((if0 _ _).trans (flt (by decide : ¬ ((2 : Int32) < (0 : Int32)))).2.1) (by decide) (by decide) ?_
      show Steps p.tables e below (T_16.setTop (mkF m 151 #[.val (.long q1), .second, .val (.int p2), .val (.int p3), .val (.ref b_1), .val (.int i5), .val (.int i6), .val (.int (own_max (1 : Int32) i5)), .val (.int (2 : Int32)), .unset] [])) _
      refine XS.iload X_16.here hx rfl (hb hby at_151) rfl ?_
      show Steps p.tables e below (T_16.setTop (mkF m 153 #[.val (.long q1), .second, .val (.int p2), .val (.int p3), .val (.ref b_1), .val (.int i5), .val (.int i6), .val (.int (own_max (1 : Int32) i5)), .val (.int (2 : Int32)), .unset] [(.int (2 : Int32))])) _
      refine XS.ifYes X_16.here hx rfl (pc0 := 153) (pc' := 172) rfl (hb hby at_153) rfl ((if0 _ _).trans (flt (by decide : ¬ ((2 : Int32) < (0 : Int32)))).2.1) (by decide) (by decide) ?_
      show Steps p.tables e below (T_16.setTop (mkF m 172 #[.val (.long q1), .second, .val (.int p2), .val (.int p3), .val (.ref b_1), .val (.int i5), .val (.int i6), .val (.int (own_max (1 : Int32) i5)), .val (.int (2 : Int32)), .unset] [])) _
      refine XS.iload X_16.here hx rfl (hb hby at_172) rfl ?_
      show Steps p.tables e below (T_16.setTop (mkF m 174 #[.val (.long q1), .second, .val (.int p2), .val (.int p3), .val (.ref b_1), .val (.int i5), .val (.int i6), .val (.int (own_max (1 : Int32) i5)), .val (.int (2 : Int32)), .unset] [(.int (2 : Int32))])) _
      refine XS.ifYes X_16.here hx rfl (pc0 := 174) (pc' := 194) rfl (hb hby at_174) rfl ((if0 _ _).trans (flt (by decide : ¬ ((2 : Int32) < (0 : Int32)))).2.1) (by decide) (by decide) ?_
      show Steps p.tables e below (T_16.setTop (mkF m 194 #[.val (.long q1), .second, .val (.int p2), .val (.int p3), .val (.ref b_1), .val (.int i5), .val (.int i6), .val (.int (own_max (1 : Int32) i5)), .val (.int (2 : Int32)), .unset] [])) _
      refine XS.aload X_16.here hx rfl (hb hby at_194) rfl rfl ?_
      show Steps p.tables e below (T_16.setTop (mkF m 196 #[.val (.long q1), .second, .val (.int p2), .val (.int p3), .val (.ref b_1), .val (.int i5), .val (.int i6), .val (.int (own_max (1 : Int32) i5)), .val (.int (2 : Int32)), .unset] [(.ref b_1)])) _
      refine XS.iload X_16.here hx rfl (hb hby at_196) rfl ?_
      show Steps p.tables e below (T_16.setTop (mkF m 198 #[.val (.long q1), .second, .val (.int p2), .val (.int p3), .val (.ref b_1), .val (.int i5), .val (.int i6), .val (.int (own_max (1 : Int32) i5)), .val (.int (2 : Int32)), .unset] [(.int i5), (.ref b_1)])) _
      refine XS.iload X_16.here hx rfl (hb hby at_198) rfl ?_
      show Steps p.tables e below (T_16.setTop (mkF m 200 #[.val (.long q1), .second, .val (.int p2), .val (.int p3), .val (.ref b_1), .val (.int i5), .val (.int i6), .val (.int (own_max (1 : Int32) i5)), .val (.int (2 : Int32)), .unset] [(.int i6), (.int i5), (.ref b_1)])) _
      refine st_36 _ ?_
      show Steps p.tables e below (T_36.setTop (mkF m 203 #[.val (.long q1), .second, .val (.int p2), .val (.int p3), .val (.ref b_1), .val (.int i5), .val (.int i6), .val (.int (own_max (1 : Int32) i5)), .val (.int (2 : Int32)), .unset] [(.int (own_scan f6 i6 6 (own_max (1 : Int32) i5)))])) _
      refine XS.istore X_36.here hx rfl (hb hby at_203) rfl (l' := #[.val (.long q1), .second, .val (.int p2), .val (.int p3), .val (.ref b_1), .val (.int i5), .val (.int i6), .val (.int (own_max (1 : Int32) i5)), .val (.int (2 : Int32)), .val (.int (own_scan f6 i6 6 (own_max (1 : Int32) i5)))]) rfl ?_
      show Steps p.tables e below (T_36.setTop (mkF m 205 #[.val (.long q1), .second, .val (.int p2), .val (.int p3), .val (.ref b_1), .val (.int i5), .val (.int i6), .val (.int (own_max (1 : Int32) i5)), .val (.int (2 : Int32)), .val (.int (own_scan f6 i6 6 (own_max (1 : Int32) i5)))] [])) _
      refine XS.iload X_36.here hx rfl (hb hby at_205) rfl ?_
      show Steps p.tables e below (T_36.setTop (mkF m 207 #[.val (.long q1), .second, .val (.int p2), .val (.int p3), .val (.ref b_1), .val (.int i5), .val (.int i6), .val (.int (own_max (1 : Int32) i5)), .val (.int (2 : Int32)), .val (.int (own_scan f6 i6 6 (own_max (1 : Int32) i5)))] [(.int (own_scan f6 i6 6 (own_max (1 : Int32) i5)))])) _
      refine XS.iload X_36.here hx rfl (hb hby at_207) rfl ?_
      show Steps p.tables e below (T_36.setTop (mkF m 209 #[.val (.long q1), .second, .val (.int p2), .val (.int p3), .val (.ref b_1), .val (.int i5), .val (.int i6), .val (.int (own_max (1 : Int32) i5)), .val (.int (2 : Int32)), .val (.int (own_scan f6 i6 6 (own_max (1 : Int32) i5)))] [(.int (2 : Int32)), (.int (own_scan f6 i6 6 (own_max (1 : Int32) i5)))])) _
      refine XS.icmpNo X_36.here hx rfl (hb hby at_209) rfl (teq (by rw [own_fin f6 _ i6 (own_lo _) h6, if_neg hc_18] : (own_scan f6 i6 6 (own_max (1 : Int32) i5)) = (2 : Int32))).2 ?_
      show Steps p.tables e below (T_36.setTop (mkF m 212 #[.val (.long q1), .second, .val (.int p2), .val (.int p3), .val (.ref b_1), .val (.int i5), .val (.int i6), .val (.int (own_max (1 : Int32) i5)), .val (.int (2 : Int32)), .val (.int (own_scan f6 i6 6 (own_max (1 : Int32) i5)))] [])) _
      refine XS.iconst X_36.here hx rfl (hb hby at_212) ?_
      show Steps p.tables e below (T_36.setTop (mkF m 213 #[.val (.long q1), .second, .val (.int p2), .val (.int p3), .val (.ref b_1), .val (.int i5), .val (.int i6), .val (.int (own_max (1 : Int32) i5)), .val (.int (2 : Int32)), .val (.int (own_scan f6 i6 6 (own_max (1 : Int32) i5)))] [(.int (1 : Int32))])) _
      refine XS.goto X_36.here hx rfl (pc0 := 213) (pc' := 217) rfl (hb hby at_213) (by decide) (by decide) ?_
      show Steps p.tables e below (T_36.setTop (mkF m 217 #[.val (.long q1), .second, .val (.int p2), .val (.int p3), .val (.ref b_1), .val (.int i5), .val (.int i6), .val (.int (own_max (1 : Int32) i5)), .val (.int (2 : Int32)), .val (.int (own_scan f6 i6 6 (own_max (1 : Int32) i5)))] [(.int (1 : Int32))])) _
      exact retN X_36 hx (t := .boolean) Bd.returns (by simp) (hb hby at_217) hr
    · exact ⟨rfl, N_36⟩
set_option maxRecDepth 65536 in
set_option maxHeartbeats 40000000 in
theorem comes_1 {Post : Tables → Env → Array Value → State → Outcome → State → Prop} (hpost : ∀ tb e args s v u, (limb_1_1.after args s (.returned v) u = true ∧ limb_1_2.after args s (.returned v) u = true ∧ True) → FrameEnd s (.returned v) u (Jvm.fieldLocs frame_1_writes args s ++ Jvm.arrayLocs frame_1_arrays args s ++ Jvm.staticLocs frame_1_statics s) 16 128 → Post tb e args s (.returned v) u) :
    ArmFor flags0 classFile x code maxLocals ret World_1 tables_1 room_1 Calls_1 rest_1 Pre_1 Post := by
  intro l hfl _ _ p e ha hc hk s m args below hf hA hF happ hP
  obtain ⟨hcalls, hrest, hpre⟩ := hP
  obtain ⟨-, -, -, hnamed, -, -, -, hat⟩ := (Spec.applies_iff hf).mp happ
  obtain ⟨hg, hn⟩ := and_e (Cond.before_iff.mp (show (Jvm.Cond.and given_1 narrow_1).before args s = true from hpre))
  obtain ⟨g0, r0⟩ := and_e hg
  obtain ⟨g1, r1⟩ := and_e r0
  obtain ⟨g2, r2⟩ := and_e r1
  obtain ⟨w0, w1, w2, rfl⟩ : ∃ w0 w1 w2 : Value, args = #[w0, w1, w2] := by
    have hs : args.size = 3 := by simpa [Cond.value, given_1] using g0
    obtain ⟨L⟩ := args
    match L, hs with
    | [w0, w1, w2], _ => exact ⟨w0, w1, w2, rfl⟩
  have hw := fun d (hd : d ∈ tables_1) => atoms_spec (ws := Jvm.Cond.code x code maxLocals ret :: tables_1) hat d (List.mem_cons_of_mem _ hd)
  obtain ⟨i0, ei0⟩ := isL_v g1
  obtain rfl : w0 = (.long i0) := Option.some.inj ei0
  obtain ⟨i1, ei1⟩ := is_v g2
  obtain rfl : w1 = (.int i1) := Option.some.inj ei1
  obtain ⟨i2, ei2⟩ := is_v r2
  obtain rfl : w2 = (.int i2) := Option.some.inj ei2
  obtain ⟨n, o, h1, h2, h3, _, L, rfl, ⟨rfl, N⟩, hq⟩ := rm0 l s _ hw tables_1 i0 i1 i2 s.heap s.heap.size (Nat.le_refl _)  p e ha hc hk s m _ below hf ((Spec.applies_iff_loose hf).mp happ).1 ⟨rfl, State.Warmed39.refl s, rfl⟩ trivial
  refine ⟨n, _, h1, h2, h3, hpost _ _ _ _ _ _ ⟨Cond.after_iff.mpr rfl, Cond.after_iff.mpr (eq_i res_at (Term.int_eval (1)) rfl), trivial⟩ ⟨hq.1, hq.2.1, (hq.2.2.sift fun y hy => Or.inr (N y hy)).mono (by decide) (by decide)⟩⟩
theorem main_1_1 : Claimed_1_1 := comes_1 fun _ _ _ _ _ _ h hF => ⟨h.1, hF⟩
theorem main_1_2 : Claimed_1_2 := comes_1 fun _ _ _ _ _ _ h hF => ⟨h.2.1, hF⟩
end Jvm.Pilot.@@N@@
namespace Jvm.Pilot.@@N@@
open Jvm Jvm.ClassFile Sem Op Lib Jvm.Free Jvm.Stand Jvm.Pilot.@@N@@.Jvm.D
/-! MADE BY PROGRAM (witnessworld.py) out of the Statement's table words and the real class files: 10 classes; the members and pool entries that the words name. The judged class is class 1, her method 4. -/
namespace start1
open Jvm.ClassFile
def u (s : String) : CpInfo := .utf8 (stringToUtf16 s)
/-- a pool by its gaps: so many unusable entries, then the entry; so many at the end -/
def gap : Nat → List CpInfo → List CpInfo
  | 0, r => r
  | n + 1, r => .unusable :: gap n r
def poolList (es : List (Nat × CpInfo)) (last : Nat) : List CpInfo := es.foldr (fun e r => gap e.1 (e.2 :: r)) (gap last [])
def pool (es : List (Nat × CpInfo)) (last : Nat) : Array CpInfo := ⟨poolList es last⟩
def fileOf (pool : Array CpInfo) (this : Nat) (attrs : Array Attribute := #[]) (ms : Array MethodInfo := #[]) (fl : Nat := 33) (sup : Nat := 0) (ifs : Array Nat := #[]) (fds : Array FieldInfo := #[]) : ClassFile where
  minorVersion := 0
  majorVersion := 65
  constantPool := pool
  accessFlags := fl
  thisClass := this
  superClass := sup
  interfaces := ifs
  fields := fds
  methods := ms
  attributes := attrs
def plain (name : String) (sup : Option ClassId) : Class where
  name := name
  kind := .ordinary
  loader := none
  accessFlags := 33
  super := sup
  interfaces := #[]
  cf := none
  fields := #[]
  methods := #[]
  instanceTypes := #[]
  staticTypes := #[]
  resolved := #[]
  callSites := []
  init := .initialized
  statics := none
  mirror := none

def pool0 : Array CpInfo := pool [(5, u "<init>"), (0, u "()V"), (1, .class_ 10), (1, u "java/lang/Object")] 113

def k0m0 : Method := { name := "<init>", desc := "()V", sig := { parameters := [], returnType := none }, accessFlags := 1, code := none }
/-- java/lang/Object -/
def k0 : Class := { plain "java/lang/Object" none with
  accessFlags := 33
  interfaces := #[]
  cf := some (fileOf pool0 8 #[] #[{ accessFlags := 1, nameIndex := 5, descriptorIndex := 6, attributes := #[] }] 33 0 #[] #[])
  fields := #[]
  methods := #[k0m0]
  instanceTypes := #[]
  staticTypes := #[]
  resolved := Array.replicate 124 none
  statics := none }

def pool1 : Array CpInfo := pool [(2, .class_ 4), (1, u "java/lang/Object"), (0, u "<init>"), (0, u "()V"), (0, .long 3), (1, .long 255), (1, .methodref 12 13), (0, .class_ 14), (0, .nameAndType 15 16), (0, u "com/example/parcelwright/parcelwright/soap/HttpHeadEndPinLaw"), (0, u "blankEnd"), (0, u "([BI)Z"), (0, .methodref 12 18), (0, .nameAndType 19 20), (0, u "pick"), (0, u "(JI)B"), (0, .integer 2147483647), (0, .methodref 23 24), (0, .class_ 25), (0, .nameAndType 26 27), (0, u "java/lang/Math"), (0, u "max"), (0, u "(II)I"), (0, .methodref 12 29), (0, .nameAndType 30 31), (0, u "hitAt"), (0, u "([BIII)Z"), (0, .methodref 33 34), (0, .class_ 35), (0, .nameAndType 36 37), (0, u "com/example/parcelwright/parcelwright/soap/HttpHead"), (0, u "end"), (0, u "([BII)I"), (3, u "law"), (0, u "(JII)Z")] 4

def k1m0 : Method := { name := "<init>", desc := "()V", sig := { parameters := [], returnType := none }, accessFlags := 1, code := none }
def k1c1 : Code := { maxStack := 4, maxLocals := 6, code := method_2_code, exceptionTable := #[], attributes := #[] }
def k1m1 : Method := { name := "pick", desc := "(JI)B", sig := { parameters := [.long, .int], returnType := some .byte }, accessFlags := 10, code := some k1c1 }
def k1c2 : Code := { maxStack := 3, maxLocals := 2, code := method_3_code, exceptionTable := #[], attributes := #[] }
def k1m2 : Method := { name := "blankEnd", desc := "([BI)Z", sig := { parameters := [(.array .byte), .int], returnType := some .boolean }, accessFlags := 10, code := some k1c2 }
def k1c3 : Code := { maxStack := 2, maxLocals := 4, code := method_4_code, exceptionTable := #[], attributes := #[] }
def k1m3 : Method := { name := "hitAt", desc := "([BIII)Z", sig := { parameters := [(.array .byte), .int, .int, .int], returnType := some .boolean }, accessFlags := 10, code := some k1c3 }
def k1c4 : Code := { maxStack := 5, maxLocals := 10, code := code, exceptionTable := #[], attributes := #[] }
def k1m4 : Method := { name := "law", desc := "(JII)Z", sig := { parameters := [.long, .int, .int], returnType := some .boolean }, accessFlags := 9, code := some k1c4 }
/-- com/example/parcelwright/parcelwright/soap/HttpHeadEndPinLaw -/
def k1 : Class := { plain "com/example/parcelwright/parcelwright/soap/HttpHeadEndPinLaw" (some 0) with
  accessFlags := 49
  interfaces := #[]
  cf := some (fileOf pool1 12 #[] #[{ accessFlags := 1, nameIndex := 5, descriptorIndex := 6, attributes := #[] }, { accessFlags := 10, nameIndex := 19, descriptorIndex := 20, attributes := #[] }, { accessFlags := 10, nameIndex := 15, descriptorIndex := 16, attributes := #[] }, { accessFlags := 10, nameIndex := 30, descriptorIndex := 31, attributes := #[] }, { accessFlags := 9, nameIndex := 41, descriptorIndex := 42, attributes := #[] }] 49 2 #[] #[])
  fields := #[]
  methods := #[k1m0, k1m1, k1m2, k1m3, k1m4]
  instanceTypes := #[]
  staticTypes := #[]
  resolved := Array.replicate 47 none
  statics := none }

def pool2 : Array CpInfo := pool [(1, .class_ 2), (0, u "java/lang/Math"), (1, .class_ 6), (1, u "java/lang/Object"), (0, u "<init>"), (0, u "()V"), (89, .class_ 100), (1, u "java/lang/Math$RandomNumberGeneratorHolder"), (71, u "negativeZeroFloatBits"), (0, u "J"), (2, u "negativeZeroDoubleBits"), (21, u "max"), (46, u "$assertionsDisabled"), (0, u "Z"), (88, u "(II)I"), (2, u "twoToTheDoubleScaleDown"), (0, u "D"), (4, u "twoToTheDoubleScaleUp"), (9, u "E"), (3, u "PI"), (2, u "TAU"), (2, u "DEGREES_TO_RADIANS"), (0, u "RADIANS_TO_DEGREES")] 94

def k2m0 : Method := { name := "<init>", desc := "()V", sig := { parameters := [], returnType := none }, accessFlags := 2, code := none }
def k2c1 : Code := { maxStack := 2, maxLocals := 2, code := jdk_29_method_65_code, exceptionTable := #[], attributes := #[] }
def k2m1 : Method := { name := "max", desc := "(II)I", sig := { parameters := [.int, .int], returnType := some .int }, accessFlags := 9, code := some k2c1 }
/-- java/lang/Math -/
def k2 : Class := { plain "java/lang/Math" (some 0) with
  accessFlags := 49
  interfaces := #[]
  cf := some (fileOf pool2 1 #[.nestMembers #[98]] #[{ accessFlags := 2, nameIndex := 7, descriptorIndex := 8, attributes := #[] }, { accessFlags := 9, nameIndex := 198, descriptorIndex := 335, attributes := #[] }] 49 4 #[] #[{ accessFlags := 25, nameIndex := 354, descriptorIndex := 339, attributes := #[] }, { accessFlags := 25, nameIndex := 358, descriptorIndex := 339, attributes := #[] }, { accessFlags := 25, nameIndex := 361, descriptorIndex := 339, attributes := #[] }, { accessFlags := 26, nameIndex := 364, descriptorIndex := 339, attributes := #[] }, { accessFlags := 26, nameIndex := 365, descriptorIndex := 339, attributes := #[] }, { accessFlags := 26, nameIndex := 172, descriptorIndex := 173, attributes := #[] }, { accessFlags := 26, nameIndex := 176, descriptorIndex := 173, attributes := #[] }, { accessFlags := 8, nameIndex := 344, descriptorIndex := 339, attributes := #[] }, { accessFlags := 8, nameIndex := 338, descriptorIndex := 339, attributes := #[] }, { accessFlags := 4120, nameIndex := 245, descriptorIndex := 246, attributes := #[] }])
  fields := #[{ name := "E", type := .double, accessFlags := 25, slot := 0, constantValue := 0 }, { name := "PI", type := .double, accessFlags := 25, slot := 1, constantValue := 0 }, { name := "TAU", type := .double, accessFlags := 25, slot := 2, constantValue := 0 }, { name := "DEGREES_TO_RADIANS", type := .double, accessFlags := 26, slot := 3, constantValue := 0 }, { name := "RADIANS_TO_DEGREES", type := .double, accessFlags := 26, slot := 4, constantValue := 0 }, { name := "negativeZeroFloatBits", type := .long, accessFlags := 26, slot := 5, constantValue := 0 }, { name := "negativeZeroDoubleBits", type := .long, accessFlags := 26, slot := 6, constantValue := 0 }, { name := "twoToTheDoubleScaleUp", type := .double, accessFlags := 8, slot := 7, constantValue := 0 }, { name := "twoToTheDoubleScaleDown", type := .double, accessFlags := 8, slot := 8, constantValue := 0 }, { name := "$assertionsDisabled", type := .boolean, accessFlags := 4120, slot := 9, constantValue := 0 }]
  methods := #[k2m0, k2m1]
  instanceTypes := #[]
  staticTypes := #[.double, .double, .double, .double, .double, .long, .long, .double, .double, .boolean]
  resolved := Array.replicate 460 none
  statics := none }

def pool3 : Array CpInfo := pool [(2, .class_ 4), (1, u "java/lang/Object"), (3, .class_ 10), (1, u "com/example/parcelwright/parcelwright/soap/HttpHead"), (0, u "method"), (0, u "Ljava/lang/String;"), (2, u "target"), (0, u "Ljava/net/URI;"), (2, u "http11"), (0, u "Z"), (2, u "fields"), (0, u "Ljava/util/Map;"), (0, .methodref 26 27), (0, .class_ 28), (0, .nameAndType 29 30), (0, u "java/lang/Math"), (0, u "max"), (0, u "(II)I"), (26, .class_ 58), (0, u "com/example/parcelwright/parcelwright/soap/HttpHead$Malformed"), (208, u "MAX_BYTES"), (0, u "I"), (2, u "TRANSFER_ENCODING"), (5, u "end"), (0, u "([BII)I")] 49

def k3c0 : Code := { maxStack := 3, maxLocals := 5, code := prog_15_method_2_code, exceptionTable := #[], attributes := #[] }
def k3m0 : Method := { name := "end", desc := "([BII)I", sig := { parameters := [(.array .byte), .int, .int], returnType := some .int }, accessFlags := 8, code := some k3c0 }
/-- com/example/parcelwright/parcelwright/soap/HttpHead -/
def k3 : Class := { plain "com/example/parcelwright/parcelwright/soap/HttpHead" (some 0) with
  accessFlags := 48
  interfaces := #[]
  cf := some (fileOf pool3 8 #[.nestMembers #[57]] #[{ accessFlags := 8, nameIndex := 277, descriptorIndex := 278, attributes := #[] }] 48 2 #[] #[{ accessFlags := 24, nameIndex := 267, descriptorIndex := 268, attributes := #[] }, { accessFlags := 26, nameIndex := 271, descriptorIndex := 12, attributes := #[] }, { accessFlags := 18, nameIndex := 11, descriptorIndex := 12, attributes := #[] }, { accessFlags := 18, nameIndex := 15, descriptorIndex := 16, attributes := #[] }, { accessFlags := 18, nameIndex := 19, descriptorIndex := 20, attributes := #[] }, { accessFlags := 18, nameIndex := 23, descriptorIndex := 24, attributes := #[] }])
  fields := #[{ name := "MAX_BYTES", type := .int, accessFlags := 24, slot := 0, constantValue := 0 }, { name := "TRANSFER_ENCODING", type := (.object "java/lang/String"), accessFlags := 26, slot := 1, constantValue := 0 }, { name := "method", type := (.object "java/lang/String"), accessFlags := 18, slot := 0, constantValue := 0 }, { name := "target", type := (.object "java/net/URI"), accessFlags := 18, slot := 1, constantValue := 0 }, { name := "http11", type := .boolean, accessFlags := 18, slot := 2, constantValue := 0 }, { name := "fields", type := (.object "java/util/Map"), accessFlags := 18, slot := 3, constantValue := 0 }]
  methods := #[k3m0]
  instanceTypes := #[(.object "java/lang/String"), (.object "java/net/URI"), .boolean, (.object "java/util/Map")]
  staticTypes := #[.int, (.object "java/lang/String")]
  resolved := Array.replicate 328 none
  statics := none }

def pool4 : Array CpInfo := pool [(1, u "java/lang/Cloneable"), (0, .class_ 1), (0, u "java/lang/Object"), (0, .class_ 3)] 3

/-- java/lang/Cloneable -/
def k4 : Class := { plain "java/lang/Cloneable" (some 0) with
  accessFlags := 1537
  interfaces := #[]
  cf := some (fileOf pool4 2 #[] #[] 1537 4 #[] #[])
  fields := #[]
  methods := #[]
  instanceTypes := #[]
  staticTypes := #[]
  resolved := Array.replicate 8 none
  statics := none }

def pool5 : Array CpInfo := pool [(1, u "java/io/Serializable"), (0, .class_ 1), (0, u "java/lang/Object"), (0, .class_ 3)] 3

/-- java/io/Serializable -/
def k5 : Class := { plain "java/io/Serializable" (some 0) with
  accessFlags := 1537
  interfaces := #[]
  cf := some (fileOf pool5 2 #[] #[] 1537 4 #[] #[])
  fields := #[]
  methods := #[]
  instanceTypes := #[]
  staticTypes := #[]
  resolved := Array.replicate 8 none
  statics := none }

/-- the primitive byte -/
def k6 : Class := { plain "byte" none with kind := .primitive 'B', accessFlags := 0x411 }
/-- [B -/
def k7 : Class := { plain "[B" (some 0) with kind := .array 6 .byte, interfaces := #[4, 5], accessFlags := 1041 }

/-- the primitive int -/
def k8 : Class := { plain "int" none with kind := .primitive 'I', accessFlags := 0x411 }
/-- [I -/
def k9 : Class := { plain "[I" (some 0) with kind := .array 8 .int, interfaces := #[4, 5], accessFlags := 1041 }

def heap : Heap := #[]
def classes : Array Class := #[k0, k1, k2, k3, k4, k5, k6, k7, k8, k9]
def interned : List (Array UInt16 × Addr) := []
def slotsUsed : Nat := 0
def theMethod : MethodId := ⟨1, 4⟩
def args0 : Array Value := #[.long 0, .int 4, .int 6]
def aboutOver (below : List Frame) : State where
  vm := { classes := classes, interned := interned.toArray }
  heap := heap
  slotsUsed := slotsUsed
  threads := #[{ frames := .invoking theMethod args0 :: below }]
def below0 : List Frame := [.native { method := ⟨0, 0⟩, args := #[] }]
def about1 : State := aboutOver below0
def p0 : Program := .bare "" "" ""
def e0 : Env := launch0.env 0 0 0
theorem w_frames : about1.frames = Frame.invoking theMethod args0 :: below0 := rfl
set_option maxRecDepth 65536 in
theorem w_args : argsFit about1.vm theMethod args0 = true := by decide +kernel
set_option maxRecDepth 65536 in
theorem w_heap : heapFits about1 = true := by decide +kernel
set_option maxRecDepth 65536 in
theorem w_runnable : about1.curStatus? = some .runnable := by decide +kernel
set_option maxRecDepth 65536 in
theorem w_alone : about1.alone = true := by decide +kernel
set_option maxRecDepth 65536 in
theorem w_named : about1.methodNamed? x = some theMethod := by decide +kernel
set_option maxRecDepth 65536 in
theorem w_hears : about1.hears theMethod below0 = true := by decide +kernel
set_option maxRecDepth 65536 in
theorem w_ripe : about1.ripe theMethod args0 below0 = true := by decide +kernel
theorem w_running : about1.status = .running := rfl
set_option maxRecDepth 65536 in
theorem w_room : about1.hasRoom e0.platform room_1 = true :=
  launch0.hasRoom_least _ room_1 (by decide +kernel) (by decide +kernel) (by decide +kernel) (by decide +kernel) (by decide +kernel) (by decide +kernel)
theorem allAtoms_all (ts : List Jvm.Cond) (a : Array Jvm.Value) (st : Jvm.State) : (allAtoms ts).before a st = ts.all (fun c => c.before a st) := by
  induction ts with
  | nil => rfl
  | cons c t ih =>
    show (Jvm.Cond.and c (allAtoms t)).before a st = _
    rw [Jvm.Cond.before_and, ih, List.all_cons]
def words1 : List Jvm.Cond := Jvm.Cond.code x code maxLocals ret :: tables_1
/-- a 'code' word, met by the world's own term for the bytes: nothing is compared byte by byte -/
theorem code_word {y : MethodName} {bytes : ByteArray} {mx : Nat} {rt : Option FieldType} {a : Array Value} {s : State} {m : MethodId} {meth : Method} {c : Code} (h1 : s.methodNamed? y = some m) (h2 : s.vm.method? m = some meth) (h3 : meth.code = some c) (h4 : c.code = bytes)
    (h5 : (c.maxLocals == mx && c.exceptionTable.isEmpty && decide (c.maxStack ≤ mostOperands) && decide (meth.sig.returnType = rt) && !meth.locks && decide (parseMethodDescriptor y.desc = some meth.sig)) = true) : (Jvm.Cond.code y bytes mx rt).before a s = true := by
  simp only [Bool.and_eq_true, beq_iff_eq, Bool.not_eq_true', decide_eq_true_eq] at h5
  obtain ⟨⟨⟨⟨⟨g1, g2⟩, g3⟩, g4⟩, g5⟩, g6⟩ := h5
  simp [Cond.before, Cond.holds, Cond.value, h1, h2, h3, h4, g1, g2, g3, g4, g5, g6]
def isCode : Jvm.Cond → Bool
  | .code _ _ _ _ => true
  | _ => false
theorem all_split {L : List Jvm.Cond} {P : Jvm.Cond → Bool} (h1 : L.all (fun c => isCode c || P c) = true) (h2 : ∀ c ∈ L.filter isCode, P c = true) : L.all P = true := by
  refine List.all_eq_true.mpr fun c hc => ?_
  have h := List.all_eq_true.mp h1 c hc
  rcases Bool.eq_false_or_eq_true (isCode c) with hi | hi
  · exact h2 c (List.mem_filter.mpr ⟨hc, hi⟩)
  · simpa [hi] using h
set_option maxRecDepth 65536 in
theorem w_c0 : (Jvm.Cond.code x code maxLocals ret).before args0 about1 = true := code_word (m := ⟨1, 4⟩) (meth := k1m4) (c := k1c4) (by decide +kernel) rfl rfl rfl (by decide +kernel)
set_option maxRecDepth 65536 in
theorem w_c1 : (Jvm.Cond.code ({ cls := "com/example/parcelwright/parcelwright/soap/HttpHeadEndPinLaw", name := "pick", desc := "(JI)B" } : Jvm.MethodName) method_2_code (6 : Nat) (Option.some Jvm.ClassFile.FieldType.byte)).before args0 about1 = true := code_word (m := ⟨1, 1⟩) (meth := k1m1) (c := k1c1) (by decide +kernel) rfl rfl rfl (by decide +kernel)
set_option maxRecDepth 65536 in
theorem w_c2 : (Jvm.Cond.code ({ cls := "java/lang/Math", name := "max", desc := "(II)I" } : Jvm.MethodName) jdk_29_method_65_code (2 : Nat) (Option.some Jvm.ClassFile.FieldType.int)).before args0 about1 = true := code_word (m := ⟨2, 1⟩) (meth := k2m1) (c := k2c1) (by decide +kernel) rfl rfl rfl (by decide +kernel)
set_option maxRecDepth 65536 in
theorem w_c3 : (Jvm.Cond.code ({ cls := "com/example/parcelwright/parcelwright/soap/HttpHeadEndPinLaw", name := "hitAt", desc := "([BIII)Z" } : Jvm.MethodName) method_4_code (4 : Nat) (Option.some Jvm.ClassFile.FieldType.boolean)).before args0 about1 = true := code_word (m := ⟨1, 3⟩) (meth := k1m3) (c := k1c3) (by decide +kernel) rfl rfl rfl (by decide +kernel)
set_option maxRecDepth 65536 in
theorem w_c4 : (Jvm.Cond.code ({ cls := "com/example/parcelwright/parcelwright/soap/HttpHead", name := "end", desc := "([BII)I" } : Jvm.MethodName) prog_15_method_2_code (5 : Nat) (Option.some Jvm.ClassFile.FieldType.int)).before args0 about1 = true := code_word (m := ⟨3, 0⟩) (meth := k3m0) (c := k3c0) (by decide +kernel) rfl rfl rfl (by decide +kernel)
set_option maxRecDepth 65536 in
theorem w_c5 : (Jvm.Cond.code ({ cls := "com/example/parcelwright/parcelwright/soap/HttpHeadEndPinLaw", name := "blankEnd", desc := "([BI)Z" } : Jvm.MethodName) method_3_code (2 : Nat) (Option.some Jvm.ClassFile.FieldType.boolean)).before args0 about1 = true := code_word (m := ⟨1, 2⟩) (meth := k1m2) (c := k1c2) (by decide +kernel) rfl rfl rfl (by decide +kernel)
def codes1 : List Jvm.Cond := [Jvm.Cond.code x code maxLocals ret, Jvm.Cond.code ({ cls := "com/example/parcelwright/parcelwright/soap/HttpHeadEndPinLaw", name := "pick", desc := "(JI)B" } : Jvm.MethodName) method_2_code (6 : Nat) (Option.some Jvm.ClassFile.FieldType.byte), Jvm.Cond.code ({ cls := "java/lang/Math", name := "max", desc := "(II)I" } : Jvm.MethodName) jdk_29_method_65_code (2 : Nat) (Option.some Jvm.ClassFile.FieldType.int), Jvm.Cond.code ({ cls := "com/example/parcelwright/parcelwright/soap/HttpHeadEndPinLaw", name := "hitAt", desc := "([BIII)Z" } : Jvm.MethodName) method_4_code (4 : Nat) (Option.some Jvm.ClassFile.FieldType.boolean), Jvm.Cond.code ({ cls := "com/example/parcelwright/parcelwright/soap/HttpHead", name := "end", desc := "([BII)I" } : Jvm.MethodName) prog_15_method_2_code (5 : Nat) (Option.some Jvm.ClassFile.FieldType.int), Jvm.Cond.code ({ cls := "com/example/parcelwright/parcelwright/soap/HttpHeadEndPinLaw", name := "blankEnd", desc := "([BI)Z" } : Jvm.MethodName) method_3_code (2 : Nat) (Option.some Jvm.ClassFile.FieldType.boolean)]
set_option maxRecDepth 65536 in
theorem codes_eq : words1.filter isCode = codes1 := rfl
theorem w_codes : ∀ c ∈ words1.filter isCode, c.before args0 about1 = true := by
  rw [codes_eq]
  intro c hc
  simp only [codes1, List.mem_cons, List.not_mem_nil, or_false] at hc
  rcases hc with rfl | rfl | rfl | rfl | rfl | rfl
  · exact w_c0
  · exact w_c1
  · exact w_c2
  · exact w_c3
  · exact w_c4
  · exact w_c5
set_option maxRecDepth 65536 in
theorem w_t1 : words1.all (fun c => isCode c || c.before args0 about1) = true := by decide +kernel
theorem w_tables : (allAtoms (Jvm.Cond.code x code maxLocals ret :: tables_1)).before args0 about1 = true := by
  rw [allAtoms_all]
  show words1.all (fun c => c.before args0 about1) = true
  refine all_split ?_ w_codes
  rw [w_t1]
set_option maxRecDepth 65536 in
theorem w_case : (Jvm.Cond.and given_1 narrow_1).before args0 about1 = true := by decide +kernel
theorem w_applies : (headSpec (Jvm.Cond.code x code maxLocals ret :: tables_1) room_1).applies x e0.platform about1 = true :=
  (Spec.applies_iff w_frames).mpr ⟨w_running, w_runnable, w_alone, w_named, w_hears, w_ripe, w_room, w_tables⟩
theorem atStart : AtStart classFile x code maxLocals ret World_1 tables_1 room_1 Calls_1 rest_1 Pre_1 launch0 p0 e0 about1 theMethod args0 below0 :=
  ⟨lists_1, trivial, launch0.admits_env _ _ _, launch0.least_env, fairChoices_fair.cas, fairChoices_fair.clock, w_frames, w_args, w_heap, w_applies, trivial, trivial, w_case⟩
end start1
theorem witness_1 : WitnessClaimed_1 := ⟨start1.p0, start1.e0, start1.about1, start1.theMethod, start1.args0, start1.below0, start1.atStart⟩
end Jvm.Pilot.@@N@@
