import JvmDerived
import JvmDerived.Pilot.@@N@@Statement
import JvmDerived.Pilot.@@N@@Code
set_option linter.unusedVariables false
set_option linter.unusedSimpArgs false
@@BLOCK:NumsL.lean.txt@@
namespace Jvm.RoadKit
open Sem ClassFile Op Lib Jvm.Stand Jvm.Free Jvm.LawKit
section New
variable {p : Program} {l : Launch} {e : Env} {R : Room} {s : State} {m : MethodId} {args : Array Value} {below : List Frame} {meth : Method} {c : Code} {T : State} {locs : List Loc} {cells slots : Nat}
theorem retI (X : Stand p l e R s m args below meth c T locs cells slots) (hx : p.tables.exec = Jvm.exec) {pc : Nat} {Ls : Array Slot} {z : Int32} {rest : List Value} (hret : meth.sig.returnType = some .int) (hd : decode c.code pc = .ok (.ireturn, 1)) {fs : List Frame}
    (hl : ∀ (f : JFrame) (acts : List Action), f.method = m → f.locked = none → f.entered = [] → (doReturn e (T.setTop f) acts (some (.int z))).1 = T.setFrames fs) : Steps p.tables e below (T.setTop (mkF m pc Ls (.int z :: rest))) (T.setFrames fs) := by
  have hm' : T.vm.method? m = some meth := X.method'
  have hn : narrow .int (.int z) = .int z := rfl
  show Steps p.tables e below (T.setTop { method := m, pc := pc, locals := Ls, stack := _ :: rest, locked := none }) _
  jvm_step X.here [X.here.top, hx, hd, hm', hret, hn]
  first | (intro acts; rw [hl _ acts rfl rfl rfl]) | rw [hl _ _ rfl rfl rfl]
  exact Steps.refl _
end New
end Jvm.RoadKit
namespace Jvm.Pilot.@@N@@
open Jvm Jvm.ClassFile Sem Op Lib Jvm.Free Jvm.Stand Jvm.LawKit Jvm.RoadKit Bundle Jvm.Pilot.@@N@@.Jvm.D
def own_upd (f : Nat → Int32) (j : Nat) (v : Int32) : Nat → Int32 := fun i => if i = j then v else f i
/-- in heap h an array of n ints (bytes) lies at a; place j holds f j -/
def own_arr (ty : FieldType) (Z : State) (h : Heap) (a : Addr) (n : Nat) (f : Nat → Int32) : Prop := ∃ c : Cell, Arr Z h a c ty ∧ c.slots.size = n ∧ ∀ j, j < n → c.slots[j]? = some (.int (f j))
theorem own_arr.lt {ty : FieldType} {Z : State} {h : Heap} {a : Addr} {n : Nat} {f : Nat → Int32} (F : own_arr ty Z h a n f) : a < h.size := by obtain ⟨c, A, -⟩ := F; exact A.lt
theorem own_arr.ext {ty : FieldType} {Z : State} {h h' : Heap} {a : Addr} {n : Nat} {f : Nat → Int32} (F : own_arr ty Z h a n f) (E : Ext h h') : own_arr ty Z h' a n f := by obtain ⟨c, A, r⟩ := F; exact ⟨c, A.ext E, r⟩
theorem own_arr.other {ty : FieldType} {Z : State} {h h' : Heap} {a b : Addr} {sl : Nat} {v : Value} {n : Nat} {f : Nat → Int32} (F : own_arr ty Z h b n f) (W : Wr h h' a sl v) (q : b ≠ a) : own_arr ty Z h' b n f := by obtain ⟨c, A, r⟩ := F; exact ⟨c, A.other W q, r⟩
theorem own_arr.keep {ty : FieldType} {Z : State} {h h' : Heap} {a : Addr} {ws : List Addr} {n : Nat} {f : Nat → Int32} (F : own_arr ty Z h a n f) (K : Keep h h' ws) (q : a ∉ ws) : own_arr ty Z h' a n f := by obtain ⟨c, A, r⟩ := F; exact ⟨c, ⟨K.2.1 a c A.1 q, A.2⟩, r⟩
theorem own_arr.eqv {ty : FieldType} {Z : State} {h : Heap} {a : Addr} {n : Nat} {f g : Nat → Int32} (F : own_arr ty Z h a n f) (q : ∀ j, j < n → g j = f j) : own_arr ty Z h a n g := by obtain ⟨c, A, S, r⟩ := F; exact ⟨c, A, S, fun j hj => by rw [q j hj]; exact r j hj⟩
theorem own_arr.newI {Z : State} {h : Heap} {a : Addr} {k : ClassId} {z : Int32} {n : Nat} (A : Arr Z h a (newA k .int z) .int) (hn : z.toNatClampNeg = n) : own_arr .int Z h a n (fun _ => 0) := ⟨_, A, by rw [sz_new]; exact hn, fun j hj => by
  subst hn
  simp only [newA]
  rw [Array.getElem?_replicate, if_pos hj]
  rfl⟩
theorem own_arr.newB {Z : State} {h : Heap} {a : Addr} {k : ClassId} {z : Int32} {n : Nat} (A : Arr Z h a (newA k .byte z) .byte) (hn : z.toNatClampNeg = n) : own_arr .byte Z h a n (fun _ => 0) := ⟨_, A, by rw [sz_new]; exact hn, fun j hj => by
  subst hn
  simp only [newA]
  rw [Array.getElem?_replicate, if_pos hj]
  rfl⟩
theorem own_arr.set {ty : FieldType} {Z : State} {h h' : Heap} {a : Addr} {c : Cell} {n j : Nat} {f : Nat → Int32} {v : Int32} (A : Arr Z h a c ty) (S : c.slots.size = n) (H : ∀ j, j < n → c.slots[j]? = some (.int (f j))) (W : Wr h h' a j (.int v)) : own_arr ty Z h' a n (own_upd f j v) :=
  ⟨_, A.same W, by rw [sz_set]; exact S, fun i hi => by
    simp only [Cell.setSlot, own_upd]
    by_cases q : i = j
    · subst q
      rw [Array.getElem?_setIfInBounds_self, if_pos (by omega), if_pos rfl]
    · rw [Array.getElem?_setIfInBounds_ne (Ne.symm q), if_neg q]
      exact H i hi⟩
theorem own_inb {c : Cell} {n : Nat} {j : Int32} (S : c.slots.size = n) (q : ¬ (j < 0 ∨ n ≤ j.toNatClampNeg)) : ¬ (j < 0 ∨ c.slots.size ≤ j.toNatClampNeg) := by rw [S]; exact q
theorem own_ltn {j : Int32} {n : Nat} (q : ¬ (j < 0 ∨ n ≤ j.toNatClampNeg)) : j.toNatClampNeg < n := Nat.lt_of_not_le fun k => q (Or.inr k)
theorem own_place {j : Int32} {n : Nat} (h0 : 0 ≤ j.toInt) (h1 : j.toInt < n) : ¬ (j < 0 ∨ n ≤ j.toNatClampNeg) := by
  have e : j.toNatClampNeg = j.toInt.toNat := rfl
  rw [Int32.lt_iff_toInt_lt, e, show (0 : Int32).toInt = 0 from rfl]
  omega
theorem own_k0 : (0 : Int32).toInt = 0 := rfl
theorem own_k1 : (1 : Int32).toInt = 1 := rfl
theorem own_k2 : (2 : Int32).toInt = 2 := rfl
theorem own_k3 : (3 : Int32).toInt = 3 := rfl
theorem own_k4 : (4 : Int32).toInt = 4 := rfl
theorem own_k5 : (5 : Int32).toInt = 5 := rfl
theorem own_lcp_in {p2 p3 k K : Int32} (h0 : 0 ≤ p3.toInt) (h1 : p3.toInt < p2.toInt) (h2 : p2.toInt ≤ 5) (hm : ¬ (p2 - p3) < K) (hk : K.toInt = k.toInt + 1) (hk0 : 0 ≤ k.toInt) (hk5 : k.toInt ≤ 5) : ¬ ((p3 + k) < 0 ∨ 5 ≤ (p3 + k).toNatClampNeg) := by
  have e1 := Jvm.Kit.i32_sub (p := p2) (q := p3) (by omega) (by omega)
  have e2 := Jvm.Kit.i32_add (p := p3) (q := k) (by omega) (by omega)
  rw [Int32.lt_iff_toInt_lt] at hm
  exact own_place (by omega) (by omega)
theorem own_same_in {c n k K : Int32} (h0 : 0 ≤ c.toInt) (h1 : c.toInt + n.toInt ≤ 5) (hn0 : 1 ≤ n.toInt) (hm : ¬ n < K) (hk : K.toInt = k.toInt + 1) (hk0 : 0 ≤ k.toInt) (hk5 : k.toInt ≤ 5) : ¬ ((c + k) < 0 ∨ 5 ≤ (c + k).toNatClampNeg) := by
  have e2 := Jvm.Kit.i32_add (p := c) (q := k) (by omega) (by omega)
  rw [Int32.lt_iff_toInt_lt] at hm
  exact own_place (by omega) (by omega)
theorem own_bd {k K : Int32} (h0 : 0 ≤ k.toInt) (h1 : k.toInt ≤ 4) (hm : K < (k + (1 : Int32))) (hK0 : 1 ≤ K.toInt) : 0 ≤ ((k + (1 : Int32)) - K).toInt ∧ ((k + (1 : Int32)) - K).toInt + K.toInt ≤ 5 := by
  have q1 := own_k1
  have e2 := Jvm.Kit.i32_add (p := k) (q := 1) (by omega) (by omega)
  rw [Int32.lt_iff_toInt_lt] at hm
  have e3 := Jvm.Kit.i32_sub (p := k + 1) (q := K) (by omega) (by omega)
  omega
/-- the inner loop, j turns left, from place i on -/
def own_inner (i : Nat) : Nat → (Nat → Int32) → (Nat → Int32)
  | 0, f => f
  | j + 1, f => if f (i + j) = 0 then own_inner i j (own_upd f (i + j) (Int32.ofNat j + (1 : Int32))) else f
def own_turns (z : Nat → Int32) : Nat → (Nat → Int32)
  | 0 => fun _ => 0
  | k + 1 => own_inner (k + 1) (z (k + 1)).toNatClampNeg (own_turns z k)
def own_out (n : Nat) (z : Nat → Int32) : Nat → Int32 := own_turns z (n - 1)
theorem own_neg {jv : Int32} (h : jv.toInt = ((0 : Nat) : Int) - 1) : jv < (0 : Int32) := by rw [Int32.lt_iff_toInt_lt, own_k0]; omega
theorem own_ofn {j : Nat} (h : j ≤ 5) : (Int32.ofNat j).toInt = j := Int32.toInt_ofNat_small (by omega)
theorem own_jv {jv : Int32} {j : Nat} (h : jv.toInt = ((j + 1 : Nat) : Int) - 1) (h5 : j ≤ 5) : jv = Int32.ofNat j := by
  apply Int32.toInt_inj.mp
  rw [own_ofn h5, h]; omega
theorem own_nn {j : Nat} (h : j ≤ 5) : ¬ (Int32.ofNat j < (0 : Int32)) := by rw [Int32.lt_iff_toInt_lt, own_k0, own_ofn h]; omega
theorem own_sum {i : Int32} {iN j : Nat} (hi : i.toInt = iN) (h : iN + j ≤ 5) : (i + Int32.ofNat j).toInt = ((iN + j : Nat) : Int) := by
  have e := own_ofn (j := j) (by omega)
  have := Jvm.Kit.i32_add (p := i) (q := Int32.ofNat j) (by omega) (by omega)
  omega
theorem own_ix {i : Int32} {iN j : Nat} (hi : i.toInt = iN) (h : iN + j ≤ 5) : (i + Int32.ofNat j).toNatClampNeg = iN + j := by
  have e : (i + Int32.ofNat j).toNatClampNeg = (i + Int32.ofNat j).toInt.toNat := rfl
  rw [e, own_sum hi h]; omega
theorem own_dec {j : Nat} (h : j ≤ 5) : (Int32.ofNat j + (-1 : Int32)).toInt = (j : Int) - 1 := by
  have e := own_ofn h
  have q : (-1 : Int32).toInt = -1 := rfl
  have := Jvm.Kit.i32_add (p := Int32.ofNat j) (q := -1) (by omega) (by omega)
  omega
theorem own_start {v : Int32} (h : ¬ (v < (0 : Int32))) : (v - (1 : Int32)).toInt = (v.toNatClampNeg : Int) - 1 := by
  rw [Int32.lt_iff_toInt_lt, own_k0] at h
  have a := Int32.toInt_lt v
  have b := own_k1
  have e : v.toNatClampNeg = v.toInt.toNat := rfl
  have := Jvm.Kit.i32_sub (p := v) (q := 1) (by omega) (by omega)
  omega
theorem own_bound {v N i : Int32} {n k : Nat} (h : ¬ (v < (0 : Int32))) (h2 : ¬ ((N - i) < v)) (hN : N.toInt = n) (hi : i.toInt = k) (hn : n ≤ 5) (hk : k ≤ n) : k + v.toNatClampNeg ≤ n := by
  rw [Int32.lt_iff_toInt_lt, own_k0] at h
  rw [Int32.lt_iff_toInt_lt] at h2
  have e : v.toNatClampNeg = v.toInt.toNat := rfl
  have := Jvm.Kit.i32_sub (p := N) (q := i) (by omega) (by omega)
  omega
theorem d2_0 : decode method_3_code 0 = .ok (.iload_n 1, 1) := by decide +kernel
theorem d2_1 : decode method_3_code 1 = .ok (.iload_n 2, 1) := by decide +kernel
theorem d2_2 : decode method_3_code 2 = .ok (.isub, 1) := by decide +kernel
theorem d2_3 : decode method_3_code 3 = .ok (.istore_n 3, 1) := by decide +kernel
theorem d2_4 : decode method_3_code 4 = .ok (.iload_n 3, 1) := by decide +kernel
theorem d2_5 : decode method_3_code 5 = .ok (.iconst 1, 1) := by decide +kernel
theorem d2_6 : decode method_3_code 6 = .ok (.if_icmp .lt 12, 3) := by decide +kernel
theorem d2_18 : decode method_3_code 18 = .ok (.iconst 0, 1) := by decide +kernel
theorem d2_19 : decode method_3_code 19 = .ok (.ireturn, 1) := by decide +kernel
theorem d2_9 : decode method_3_code 9 = .ok (.aload_n 0, 1) := by decide +kernel
theorem d2_10 : decode method_3_code 10 = .ok (.iconst 0, 1) := by decide +kernel
theorem d2_11 : decode method_3_code 11 = .ok (.iaload, 1) := by decide +kernel
theorem d2_12 : decode method_3_code 12 = .ok (.aload_n 0, 1) := by decide +kernel
theorem d2_13 : decode method_3_code 13 = .ok (.iload_n 2, 1) := by decide +kernel
theorem d2_14 : decode method_3_code 14 = .ok (.iaload, 1) := by decide +kernel
theorem d2_15 : decode method_3_code 15 = .ok (.if_icmp .eq 5, 3) := by decide +kernel
theorem d2_20 : decode method_3_code 20 = .ok (.iload_n 3, 1) := by decide +kernel
theorem d2_21 : decode method_3_code 21 = .ok (.iconst 2, 1) := by decide +kernel
theorem d2_22 : decode method_3_code 22 = .ok (.if_icmp .lt 14, 3) := by decide +kernel
theorem d2_36 : decode method_3_code 36 = .ok (.iconst 1, 1) := by decide +kernel
theorem d2_37 : decode method_3_code 37 = .ok (.ireturn, 1) := by decide +kernel
theorem d2_25 : decode method_3_code 25 = .ok (.aload_n 0, 1) := by decide +kernel
theorem d2_26 : decode method_3_code 26 = .ok (.iconst 1, 1) := by decide +kernel
theorem d2_27 : decode method_3_code 27 = .ok (.iaload, 1) := by decide +kernel
theorem d2_28 : decode method_3_code 28 = .ok (.aload_n 0, 1) := by decide +kernel
theorem d2_29 : decode method_3_code 29 = .ok (.iload_n 2, 1) := by decide +kernel
theorem d2_30 : decode method_3_code 30 = .ok (.iconst 1, 1) := by decide +kernel
theorem d2_31 : decode method_3_code 31 = .ok (.iadd, 1) := by decide +kernel
theorem d2_32 : decode method_3_code 32 = .ok (.iaload, 1) := by decide +kernel
theorem d2_33 : decode method_3_code 33 = .ok (.if_icmp .eq 5, 3) := by decide +kernel
theorem d2_38 : decode method_3_code 38 = .ok (.iload_n 3, 1) := by decide +kernel
theorem d2_39 : decode method_3_code 39 = .ok (.iconst 3, 1) := by decide +kernel
theorem d2_40 : decode method_3_code 40 = .ok (.if_icmp .lt 14, 3) := by decide +kernel
theorem d2_54 : decode method_3_code 54 = .ok (.iconst 2, 1) := by decide +kernel
theorem d2_55 : decode method_3_code 55 = .ok (.ireturn, 1) := by decide +kernel
theorem d2_43 : decode method_3_code 43 = .ok (.aload_n 0, 1) := by decide +kernel
theorem d2_44 : decode method_3_code 44 = .ok (.iconst 2, 1) := by decide +kernel
theorem d2_45 : decode method_3_code 45 = .ok (.iaload, 1) := by decide +kernel
theorem d2_46 : decode method_3_code 46 = .ok (.aload_n 0, 1) := by decide +kernel
theorem d2_47 : decode method_3_code 47 = .ok (.iload_n 2, 1) := by decide +kernel
theorem d2_48 : decode method_3_code 48 = .ok (.iconst 2, 1) := by decide +kernel
theorem d2_49 : decode method_3_code 49 = .ok (.iadd, 1) := by decide +kernel
theorem d2_50 : decode method_3_code 50 = .ok (.iaload, 1) := by decide +kernel
theorem d2_51 : decode method_3_code 51 = .ok (.if_icmp .eq 5, 3) := by decide +kernel
theorem d2_56 : decode method_3_code 56 = .ok (.iload_n 3, 1) := by decide +kernel
theorem d2_57 : decode method_3_code 57 = .ok (.iconst 4, 1) := by decide +kernel
theorem d2_58 : decode method_3_code 58 = .ok (.if_icmp .lt 14, 3) := by decide +kernel
theorem d2_72 : decode method_3_code 72 = .ok (.iconst 3, 1) := by decide +kernel
theorem d2_73 : decode method_3_code 73 = .ok (.ireturn, 1) := by decide +kernel
theorem d2_61 : decode method_3_code 61 = .ok (.aload_n 0, 1) := by decide +kernel
theorem d2_62 : decode method_3_code 62 = .ok (.iconst 3, 1) := by decide +kernel
theorem d2_63 : decode method_3_code 63 = .ok (.iaload, 1) := by decide +kernel
theorem d2_64 : decode method_3_code 64 = .ok (.aload_n 0, 1) := by decide +kernel
theorem d2_65 : decode method_3_code 65 = .ok (.iload_n 2, 1) := by decide +kernel
theorem d2_66 : decode method_3_code 66 = .ok (.iconst 3, 1) := by decide +kernel
theorem d2_67 : decode method_3_code 67 = .ok (.iadd, 1) := by decide +kernel
theorem d2_68 : decode method_3_code 68 = .ok (.iaload, 1) := by decide +kernel
theorem d2_69 : decode method_3_code 69 = .ok (.if_icmp .eq 5, 3) := by decide +kernel
theorem d2_74 : decode method_3_code 74 = .ok (.iload_n 3, 1) := by decide +kernel
theorem d2_75 : decode method_3_code 75 = .ok (.iconst 5, 1) := by decide +kernel
theorem d2_76 : decode method_3_code 76 = .ok (.if_icmp .lt 14, 3) := by decide +kernel
theorem d2_90 : decode method_3_code 90 = .ok (.iconst 4, 1) := by decide +kernel
theorem d2_91 : decode method_3_code 91 = .ok (.ireturn, 1) := by decide +kernel
theorem d2_79 : decode method_3_code 79 = .ok (.aload_n 0, 1) := by decide +kernel
theorem d2_80 : decode method_3_code 80 = .ok (.iconst 4, 1) := by decide +kernel
theorem d2_81 : decode method_3_code 81 = .ok (.iaload, 1) := by decide +kernel
theorem d2_82 : decode method_3_code 82 = .ok (.aload_n 0, 1) := by decide +kernel
theorem d2_83 : decode method_3_code 83 = .ok (.iload_n 2, 1) := by decide +kernel
theorem d2_84 : decode method_3_code 84 = .ok (.iconst 4, 1) := by decide +kernel
theorem d2_85 : decode method_3_code 85 = .ok (.iadd, 1) := by decide +kernel
theorem d2_86 : decode method_3_code 86 = .ok (.iaload, 1) := by decide +kernel
theorem d2_87 : decode method_3_code 87 = .ok (.if_icmp .eq 5, 3) := by decide +kernel
theorem d2_92 : decode method_3_code 92 = .ok (.iconst 5, 1) := by decide +kernel
theorem d2_93 : decode method_3_code 93 = .ok (.ireturn, 1) := by decide +kernel
theorem ef_2_RII (m : MethodId) (x0 : Addr) (x1 : Int32) (x2 : Int32) : entryFrame m #[(.ref x0), (.int x1), (.int x2)] 4 = mkF m 0 #[.val (.ref x0), .val (.int x1), .val (.int x2), .unset] [] := by first | (simp [entryFrame, mkF, argsToLocals, Value.category]; done) | rfl
def own_lcp (p2 : Int32) (p3 : Int32) (f1 : Nat → Int32) : Int32 := if (p2 - p3) < (1 : Int32) then (0 : Int32) else (if (f1 0) = (f1 (p3).toNatClampNeg) then (if (p2 - p3) < (2 : Int32) then (1 : Int32) else (if (f1 1) = (f1 ((p3 + (1 : Int32))).toNatClampNeg) then (if (p2 - p3) < (3 : Int32) then (2 : Int32) else (if (f1 2) = (f1 ((p3 + (2 : Int32))).toNatClampNeg) then (if (p2 - p3) < (4 : Int32) then (3 : Int32) else (if (f1 3) = (f1 ((p3 + (3 : Int32))).toNatClampNeg) then (if (p2 - p3) < (5 : Int32) then (4 : Int32) else (if (f1 4) = (f1 ((p3 + (4 : Int32))).toNatClampNeg) then (5 : Int32) else (4 : Int32))) else (3 : Int32))) else (2 : Int32))) else (1 : Int32))) else (0 : Int32))
def Q2 (Z : State) (a1 : Addr) (p2 : Int32) (p3 : Int32) (f1 : Nat → Int32) (h0 : Heap) (n0 : Nat) (v : Option Value) (h : Heap) (L : List Loc) : Prop := v = some (.int (own_lcp p2 p3 f1)) ∧ Fr n0 L ∧ h = h0
theorem pn_2 : plainName "com/example/borderwork/borderwork/zarrays/ZArraysToBorderArrayPinLaw" = true := by first | (simp [plainName, overriddenIn]; done) | decide +kernel
set_option maxRecDepth 65536 in
set_option maxHeartbeats 40000000 in
theorem rm2 (l : Launch) (Z : State) (a0 : Array Value) (hw : ∀ d ∈ tables_1, d.before a0 Z = true) (ws : List Jvm.Cond) (a1 : Addr) (p2 : Int32) (p3 : Int32) (f1 : Nat → Int32) (h0 : Heap) (n0 : Nat) (Z0 : n0 ≤ h0.size) (F0 : own_arr .int Z h0 a1 5 f1) (hq0 : 0 ≤ p3.toInt) (hq1 : p3.toInt < p2.toInt) (hq2 : p2.toInt ≤ 5) :
    MetFree l (⟨"com/example/borderwork/borderwork/zarrays/ZArraysToBorderArrayPinLaw", "lcp", "([III)I"⟩ : MethodName) (head1 (Jvm.Cond.code (⟨"com/example/borderwork/borderwork/zarrays/ZArraysToBorderArrayPinLaw", "lcp", "([III)I"⟩ : MethodName) method_3_code 4 (some .int) :: ws) ({ frames := 0, cells := 0, slots := 0, locals := 0 } : Room)) (fun a U => a = #[(.ref a1), (.int p2), (.int p3)] ∧ Z.Warmed39 U.vm ∧ U.heap = h0) (fun _ _ _ _ _ => True) (fun _ U o U' => ∃ v L, o = .returned v ∧ Q2 Z a1 p2 p3 f1 h0 n0 v U'.heap L ∧ FrameEnd U o U' L ({ frames := 0, cells := 0, slots := 0, locals := 0 } : Room).cells ({ frames := 0, cells := 0, slots := 0, locals := 0 } : Room).slots) := by
  refine MetFree.of_bodySF (plainFor_of_name pn_2) hisR ?_
  intro p e s m args below meth c s₁ Bd hml0 hP hK
  obtain ⟨rfl, hZ, hh⟩ := hP
  have hx := Bd.exec
  have hby := Bd.bytes
  have hml : c.maxLocals = 4 := hml0
  have hown : s.vm.findClass "com/example/borderwork/borderwork/zarrays/ZArraysToBorderArrayPinLaw" = some m.cls := findClass_of_methodNamed Bd.named
  have hnm := (name_of_methodNamed Bd.named Bd.method).1
  have X0 : Stand p l e ({ frames := 0, cells := 0, slots := 0, locals := 0 } : Room) s m #[(.ref a1), (.int p2), (.int p3)] below meth c s₁ [] 0 0 := Stand.of_body Bd
  have e0 : s₁.heap = h0 := by rw [← hh, Bd.state]; rfl
  have N0 := Fr.nil n0
  have pre0 : ∀ t, Steps p.tables e below (s₁.setTop (mkF m 0 #[.val (.ref a1), .val (.int p2), .val (.int p3), .unset] [])) t → Steps p.tables e below (s₁.setTop (entryFrame m #[(.ref a1), (.int p2), (.int p3)] 4)) t := fun t k => castTop (ef_2_RII m a1 p2 p3) k
  have pr_1 : ∀ t, Steps p.tables e below (s₁.setTop (mkF m 6 #[.val (.ref a1), .val (.int p2), .val (.int p3), .val (.int (p2 - p3))] [(.int (1 : Int32)), (.int (p2 - p3))])) t → Steps p.tables e below (s₁.setTop (entryFrame m #[(.ref a1), (.int p2), (.int p3)] 4)) t := fun t k => by
    refine pre0 _ ?_
    show Steps p.tables e below (s₁.setTop (mkF m 0 #[.val (.ref a1), .val (.int p2), .val (.int p3), .unset] [])) _
    refine XS.iloadN X0.here hx rfl (hb hby d2_0) rfl ?_
    show Steps p.tables e below (s₁.setTop (mkF m 1 #[.val (.ref a1), .val (.int p2), .val (.int p3), .unset] [(.int p2)])) _
    refine XS.iloadN X0.here hx rfl (hb hby d2_1) rfl ?_
    show Steps p.tables e below (s₁.setTop (mkF m 2 #[.val (.ref a1), .val (.int p2), .val (.int p3), .unset] [(.int p3), (.int p2)])) _
    refine XS.isub X0.here hx rfl (hb hby d2_2) rfl ?_
    show Steps p.tables e below (s₁.setTop (mkF m 3 #[.val (.ref a1), .val (.int p2), .val (.int p3), .unset] [(.int (p2 - p3))])) _
    refine XS.istoreN X0.here hx rfl (hb hby d2_3) rfl (l' := #[.val (.ref a1), .val (.int p2), .val (.int p3), .val (.int (p2 - p3))]) rfl ?_
    show Steps p.tables e below (s₁.setTop (mkF m 4 #[.val (.ref a1), .val (.int p2), .val (.int p3), .val (.int (p2 - p3))] [])) _
    refine XS.iloadN X0.here hx rfl (hb hby d2_4) rfl ?_
    show Steps p.tables e below (s₁.setTop (mkF m 5 #[.val (.ref a1), .val (.int p2), .val (.int p3), .val (.int (p2 - p3))] [(.int (p2 - p3))])) _
    refine XS.iconst X0.here hx rfl (hb hby d2_5) ?_
    exact k
  by_cases hc_2 : (p2 - p3) < (1 : Int32)
  · obtain ⟨fs, hr, hrun, hended, hW, hsame⟩ := X0.leave (v := some (.int (0 : Int32))) (fun h => by rw [Bd.returns] at h; cases h)
    refine ⟨_, _, pr_1 _ ?_, hrun, hended, _, _, rfl, ?_, ⟨_, rfl⟩, hW, hsame.mono (by decide) (by decide)⟩
    · show Steps p.tables e below (s₁.setTop (mkF m 6 #[.val (.ref a1), .val (.int p2), .val (.int p3), .val (.int (p2 - p3))] [(.int (1 : Int32)), (.int (p2 - p3))])) _
      refine XS.icmpYes X0.here hx rfl (pc0 := 6) (pc' := 18) rfl (hb hby d2_6) rfl (tlt hc_2).1 (by decide) (by decide) ?_
      show Steps p.tables e below (s₁.setTop (mkF m 18 #[.val (.ref a1), .val (.int p2), .val (.int p3), .val (.int (p2 - p3))] [])) _
      refine XS.iconst X0.here hx rfl (hb hby d2_18) ?_
      show Steps p.tables e below (s₁.setTop (mkF m 19 #[.val (.ref a1), .val (.int p2), .val (.int p3), .val (.int (p2 - p3))] [(.int (0 : Int32))])) _
      exact retI X0 hx Bd.returns (hb hby d2_19) hr
    · show Q2 Z a1 p2 p3 f1 h0 n0 _ s₁.heap _
      rw [e0]
      exact ⟨by rw [own_lcp, if_pos hc_2], N0, rfl⟩
  · have fo_3 := F0
    obtain ⟨cl_3, Ar_3, Sz_3, At_3⟩ := fo_3
    have pr_4 : ∀ t, Steps p.tables e below (s₁.setTop (mkF m 15 #[.val (.ref a1), .val (.int p2), .val (.int p3), .val (.int (p2 - p3))] [(.int (f1 (p3).toNatClampNeg)), (.int (f1 0))])) t → Steps p.tables e below (s₁.setTop (entryFrame m #[(.ref a1), (.int p2), (.int p3)] 4)) t := fun t k => by
      refine pr_1 _ ?_
      show Steps p.tables e below (s₁.setTop (mkF m 6 #[.val (.ref a1), .val (.int p2), .val (.int p3), .val (.int (p2 - p3))] [(.int (1 : Int32)), (.int (p2 - p3))])) _
      refine XS.icmpNo X0.here hx rfl (hb hby d2_6) rfl (flt hc_2).1 ?_
      show Steps p.tables e below (s₁.setTop (mkF m 9 #[.val (.ref a1), .val (.int p2), .val (.int p3), .val (.int (p2 - p3))] [])) _
      refine XS.aloadN X0.here hx rfl (hb hby d2_9) rfl rfl ?_
      show Steps p.tables e below (s₁.setTop (mkF m 10 #[.val (.ref a1), .val (.int p2), .val (.int p3), .val (.int (p2 - p3))] [(.ref a1)])) _
      refine XS.iconst X0.here hx rfl (hb hby d2_10) ?_
      show Steps p.tables e below (s₁.setTop (mkF m 11 #[.val (.ref a1), .val (.int p2), .val (.int p3), .val (.int (p2 - p3))] [(.int (0 : Int32)), (.ref a1)])) _
      refine X0.iaload hx (j := (0 : Int32)) (v := (.int (f1 0))) (by rw [e0]; exact Ar_3.1) (State.isArrayOf_alike hZ.alike Ar_3.2.1) Ar_3.2.2 (own_inb Sz_3 (show ¬ ((0 : Int32) < 0 ∨ 5 ≤ ((0 : Int32)).toNatClampNeg) from (by decide))) (by have q := At_3 _ (own_ltn (show ¬ ((0 : Int32) < 0 ∨ 5 ≤ ((0 : Int32)).toNatClampNeg) from (by decide))); rw [show ((0 : Int32)).toNatClampNeg = 0 from by decide] at q ⊢; exact q) (g := (mkF m 11 #[.val (.ref a1), .val (.int p2), .val (.int p3), .val (.int (p2 - p3))] [(.int (0 : Int32)), (.ref a1)])) rfl rfl (hb hby d2_11) _ ?_
      show Steps p.tables e below (s₁.setTop (mkF m 12 #[.val (.ref a1), .val (.int p2), .val (.int p3), .val (.int (p2 - p3))] [(.int (f1 0))])) _
      refine XS.aloadN X0.here hx rfl (hb hby d2_12) rfl rfl ?_
      show Steps p.tables e below (s₁.setTop (mkF m 13 #[.val (.ref a1), .val (.int p2), .val (.int p3), .val (.int (p2 - p3))] [(.ref a1), (.int (f1 0))])) _
      refine XS.iloadN X0.here hx rfl (hb hby d2_13) rfl ?_
      show Steps p.tables e below (s₁.setTop (mkF m 14 #[.val (.ref a1), .val (.int p2), .val (.int p3), .val (.int (p2 - p3))] [(.int p3), (.ref a1), (.int (f1 0))])) _
      refine X0.iaload hx (j := p3) (v := (.int (f1 (p3).toNatClampNeg))) (by rw [e0]; exact Ar_3.1) (State.isArrayOf_alike hZ.alike Ar_3.2.1) Ar_3.2.2 (own_inb Sz_3 (show ¬ (p3 < 0 ∨ 5 ≤ (p3).toNatClampNeg) from (own_place hq0 (by omega)))) (At_3 _ (own_ltn (show ¬ (p3 < 0 ∨ 5 ≤ (p3).toNatClampNeg) from (own_place hq0 (by omega))))) (g := (mkF m 14 #[.val (.ref a1), .val (.int p2), .val (.int p3), .val (.int (p2 - p3))] [(.int p3), (.ref a1), (.int (f1 0))])) rfl rfl (hb hby d2_14) _ ?_
      exact k
    by_cases hc_5 : (f1 0) = (f1 (p3).toNatClampNeg)
    · have pr_6 : ∀ t, Steps p.tables e below (s₁.setTop (mkF m 22 #[.val (.ref a1), .val (.int p2), .val (.int p3), .val (.int (p2 - p3))] [(.int (2 : Int32)), (.int (p2 - p3))])) t → Steps p.tables e below (s₁.setTop (entryFrame m #[(.ref a1), (.int p2), (.int p3)] 4)) t := fun t k => by
        refine pr_4 _ ?_
        show Steps p.tables e below (s₁.setTop (mkF m 15 #[.val (.ref a1), .val (.int p2), .val (.int p3), .val (.int (p2 - p3))] [(.int (f1 (p3).toNatClampNeg)), (.int (f1 0))])) _
        refine XS.icmpYes X0.here hx rfl (pc0 := 15) (pc' := 20) rfl (hb hby d2_15) rfl (teq hc_5).1 (by decide) (by decide) ?_
        show Steps p.tables e below (s₁.setTop (mkF m 20 #[.val (.ref a1), .val (.int p2), .val (.int p3), .val (.int (p2 - p3))] [])) _
        refine XS.iloadN X0.here hx rfl (hb hby d2_20) rfl ?_
        show Steps p.tables e below (s₁.setTop (mkF m 21 #[.val (.ref a1), .val (.int p2), .val (.int p3), .val (.int (p2 - p3))] [(.int (p2 - p3))])) _
        refine XS.iconst X0.here hx rfl (hb hby d2_21) ?_
        exact k
      by_cases hc_7 : (p2 - p3) < (2 : Int32)
      · obtain ⟨fs, hr, hrun, hended, hW, hsame⟩ := X0.leave (v := some (.int (1 : Int32))) (fun h => by rw [Bd.returns] at h; cases h)
        refine ⟨_, _, pr_6 _ ?_, hrun, hended, _, _, rfl, ?_, ⟨_, rfl⟩, hW, hsame.mono (by decide) (by decide)⟩
        · show Steps p.tables e below (s₁.setTop (mkF m 22 #[.val (.ref a1), .val (.int p2), .val (.int p3), .val (.int (p2 - p3))] [(.int (2 : Int32)), (.int (p2 - p3))])) _
          refine XS.icmpYes X0.here hx rfl (pc0 := 22) (pc' := 36) rfl (hb hby d2_22) rfl (tlt hc_7).1 (by decide) (by decide) ?_
          show Steps p.tables e below (s₁.setTop (mkF m 36 #[.val (.ref a1), .val (.int p2), .val (.int p3), .val (.int (p2 - p3))] [])) _
          refine XS.iconst X0.here hx rfl (hb hby d2_36) ?_
          show Steps p.tables e below (s₁.setTop (mkF m 37 #[.val (.ref a1), .val (.int p2), .val (.int p3), .val (.int (p2 - p3))] [(.int (1 : Int32))])) _
          exact retI X0 hx Bd.returns (hb hby d2_37) hr
        · show Q2 Z a1 p2 p3 f1 h0 n0 _ s₁.heap _
          rw [e0]
          exact ⟨by rw [own_lcp, if_neg hc_2, if_pos hc_5, if_pos hc_7], N0, rfl⟩
      · have pr_8 : ∀ t, Steps p.tables e below (s₁.setTop (mkF m 33 #[.val (.ref a1), .val (.int p2), .val (.int p3), .val (.int (p2 - p3))] [(.int (f1 ((p3 + (1 : Int32))).toNatClampNeg)), (.int (f1 1))])) t → Steps p.tables e below (s₁.setTop (entryFrame m #[(.ref a1), (.int p2), (.int p3)] 4)) t := fun t k => by
          refine pr_6 _ ?_
          show Steps p.tables e below (s₁.setTop (mkF m 22 #[.val (.ref a1), .val (.int p2), .val (.int p3), .val (.int (p2 - p3))] [(.int (2 : Int32)), (.int (p2 - p3))])) _
          refine XS.icmpNo X0.here hx rfl (hb hby d2_22) rfl (flt hc_7).1 ?_
          show Steps p.tables e below (s₁.setTop (mkF m 25 #[.val (.ref a1), .val (.int p2), .val (.int p3), .val (.int (p2 - p3))] [])) _
          refine XS.aloadN X0.here hx rfl (hb hby d2_25) rfl rfl ?_
          show Steps p.tables e below (s₁.setTop (mkF m 26 #[.val (.ref a1), .val (.int p2), .val (.int p3), .val (.int (p2 - p3))] [(.ref a1)])) _
          refine XS.iconst X0.here hx rfl (hb hby d2_26) ?_
          show Steps p.tables e below (s₁.setTop (mkF m 27 #[.val (.ref a1), .val (.int p2), .val (.int p3), .val (.int (p2 - p3))] [(.int (1 : Int32)), (.ref a1)])) _
          refine X0.iaload hx (j := (1 : Int32)) (v := (.int (f1 1))) (by rw [e0]; exact Ar_3.1) (State.isArrayOf_alike hZ.alike Ar_3.2.1) Ar_3.2.2 (own_inb Sz_3 (show ¬ ((1 : Int32) < 0 ∨ 5 ≤ ((1 : Int32)).toNatClampNeg) from (by decide))) (by have q := At_3 _ (own_ltn (show ¬ ((1 : Int32) < 0 ∨ 5 ≤ ((1 : Int32)).toNatClampNeg) from (by decide))); rw [show ((1 : Int32)).toNatClampNeg = 1 from by decide] at q ⊢; exact q) (g := (mkF m 27 #[.val (.ref a1), .val (.int p2), .val (.int p3), .val (.int (p2 - p3))] [(.int (1 : Int32)), (.ref a1)])) rfl rfl (hb hby d2_27) _ ?_
          show Steps p.tables e below (s₁.setTop (mkF m 28 #[.val (.ref a1), .val (.int p2), .val (.int p3), .val (.int (p2 - p3))] [(.int (f1 1))])) _
          refine XS.aloadN X0.here hx rfl (hb hby d2_28) rfl rfl ?_
          show Steps p.tables e below (s₁.setTop (mkF m 29 #[.val (.ref a1), .val (.int p2), .val (.int p3), .val (.int (p2 - p3))] [(.ref a1), (.int (f1 1))])) _
          refine XS.iloadN X0.here hx rfl (hb hby d2_29) rfl ?_
          show Steps p.tables e below (s₁.setTop (mkF m 30 #[.val (.ref a1), .val (.int p2), .val (.int p3), .val (.int (p2 - p3))] [(.int p3), (.ref a1), (.int (f1 1))])) _
          refine XS.iconst X0.here hx rfl (hb hby d2_30) ?_
          show Steps p.tables e below (s₁.setTop (mkF m 31 #[.val (.ref a1), .val (.int p2), .val (.int p3), .val (.int (p2 - p3))] [(.int (1 : Int32)), (.int p3), (.ref a1), (.int (f1 1))])) _
          refine XS.iadd X0.here hx rfl (hb hby d2_31) rfl ?_
          show Steps p.tables e below (s₁.setTop (mkF m 32 #[.val (.ref a1), .val (.int p2), .val (.int p3), .val (.int (p2 - p3))] [(.int (p3 + (1 : Int32))), (.ref a1), (.int (f1 1))])) _
          refine X0.iaload hx (j := (p3 + (1 : Int32))) (v := (.int (f1 ((p3 + (1 : Int32))).toNatClampNeg))) (by rw [e0]; exact Ar_3.1) (State.isArrayOf_alike hZ.alike Ar_3.2.1) Ar_3.2.2 (own_inb Sz_3 (show ¬ ((p3 + (1 : Int32)) < 0 ∨ 5 ≤ ((p3 + (1 : Int32))).toNatClampNeg) from (own_lcp_in hq0 hq1 hq2 hc_7 rfl (by decide) (by decide)))) (At_3 _ (own_ltn (show ¬ ((p3 + (1 : Int32)) < 0 ∨ 5 ≤ ((p3 + (1 : Int32))).toNatClampNeg) from (own_lcp_in hq0 hq1 hq2 hc_7 rfl (by decide) (by decide))))) (g := (mkF m 32 #[.val (.ref a1), .val (.int p2), .val (.int p3), .val (.int (p2 - p3))] [(.int (p3 + (1 : Int32))), (.ref a1), (.int (f1 1))])) rfl rfl (hb hby d2_32) _ ?_
          exact k
        by_cases hc_9 : (f1 1) = (f1 ((p3 + (1 : Int32))).toNatClampNeg)
        · have pr_10 : ∀ t, Steps p.tables e below (s₁.setTop (mkF m 40 #[.val (.ref a1), .val (.int p2), .val (.int p3), .val (.int (p2 - p3))] [(.int (3 : Int32)), (.int (p2 - p3))])) t → Steps p.tables e below (s₁.setTop (entryFrame m #[(.ref a1), (.int p2), (.int p3)] 4)) t := fun t k => by
            refine pr_8 _ ?_
            show Steps p.tables e below (s₁.setTop (mkF m 33 #[.val (.ref a1), .val (.int p2), .val (.int p3), .val (.int (p2 - p3))] [(.int (f1 ((p3 + (1 : Int32))).toNatClampNeg)), (.int (f1 1))])) _
            refine XS.icmpYes X0.here hx rfl (pc0 := 33) (pc' := 38) rfl (hb hby d2_33) rfl (teq hc_9).1 (by decide) (by decide) ?_
            show Steps p.tables e below (s₁.setTop (mkF m 38 #[.val (.ref a1), .val (.int p2), .val (.int p3), .val (.int (p2 - p3))] [])) _
            refine XS.iloadN X0.here hx rfl (hb hby d2_38) rfl ?_
            show Steps p.tables e below (s₁.setTop (mkF m 39 #[.val (.ref a1), .val (.int p2), .val (.int p3), .val (.int (p2 - p3))] [(.int (p2 - p3))])) _
            refine XS.iconst X0.here hx rfl (hb hby d2_39) ?_
            exact k
          by_cases hc_11 : (p2 - p3) < (3 : Int32)
          · obtain ⟨fs, hr, hrun, hended, hW, hsame⟩ := X0.leave (v := some (.int (2 : Int32))) (fun h => by rw [Bd.returns] at h; cases h)
            refine ⟨_, _, pr_10 _ ?_, hrun, hended, _, _, rfl, ?_, ⟨_, rfl⟩, hW, hsame.mono (by decide) (by decide)⟩
            · show Steps p.tables e below (s₁.setTop (mkF m 40 #[.val (.ref a1), .val (.int p2), .val (.int p3), .val (.int (p2 - p3))] [(.int (3 : Int32)), (.int (p2 - p3))])) _
              refine XS.icmpYes X0.here hx rfl (pc0 := 40) (pc' := 54) rfl (hb hby d2_40) rfl (tlt hc_11).1 (by decide) (by decide) ?_
              show Steps p.tables e below (s₁.setTop (mkF m 54 #[.val (.ref a1), .val (.int p2), .val (.int p3), .val (.int (p2 - p3))] [])) _
              refine XS.iconst X0.here hx rfl (hb hby d2_54) ?_
              show Steps p.tables e below (s₁.setTop (mkF m 55 #[.val (.ref a1), .val (.int p2), .val (.int p3), .val (.int (p2 - p3))] [(.int (2 : Int32))])) _
              exact retI X0 hx Bd.returns (hb hby d2_55) hr
            · show Q2 Z a1 p2 p3 f1 h0 n0 _ s₁.heap _
              rw [e0]
              exact ⟨by rw [own_lcp, if_neg hc_2, if_pos hc_5, if_neg hc_7, if_pos hc_9, if_pos hc_11], N0, rfl⟩
          · have pr_12 : ∀ t, Steps p.tables e below (s₁.setTop (mkF m 51 #[.val (.ref a1), .val (.int p2), .val (.int p3), .val (.int (p2 - p3))] [(.int (f1 ((p3 + (2 : Int32))).toNatClampNeg)), (.int (f1 2))])) t → Steps p.tables e below (s₁.setTop (entryFrame m #[(.ref a1), (.int p2), (.int p3)] 4)) t := fun t k => by
              refine pr_10 _ ?_
              show Steps p.tables e below (s₁.setTop (mkF m 40 #[.val (.ref a1), .val (.int p2), .val (.int p3), .val (.int (p2 - p3))] [(.int (3 : Int32)), (.int (p2 - p3))])) _
              refine XS.icmpNo X0.here hx rfl (hb hby d2_40) rfl (flt hc_11).1 ?_
              show Steps p.tables e below (s₁.setTop (mkF m 43 #[.val (.ref a1), .val (.int p2), .val (.int p3), .val (.int (p2 - p3))] [])) _
              refine XS.aloadN X0.here hx rfl (hb hby d2_43) rfl rfl ?_
              show Steps p.tables e below (s₁.setTop (mkF m 44 #[.val (.ref a1), .val (.int p2), .val (.int p3), .val (.int (p2 - p3))] [(.ref a1)])) _
              refine XS.iconst X0.here hx rfl (hb hby d2_44) ?_
              show Steps p.tables e below (s₁.setTop (mkF m 45 #[.val (.ref a1), .val (.int p2), .val (.int p3), .val (.int (p2 - p3))] [(.int (2 : Int32)), (.ref a1)])) _
              refine X0.iaload hx (j := (2 : Int32)) (v := (.int (f1 2))) (by rw [e0]; exact Ar_3.1) (State.isArrayOf_alike hZ.alike Ar_3.2.1) Ar_3.2.2 (own_inb Sz_3 (show ¬ ((2 : Int32) < 0 ∨ 5 ≤ ((2 : Int32)).toNatClampNeg) from (by decide))) (by have q := At_3 _ (own_ltn (show ¬ ((2 : Int32) < 0 ∨ 5 ≤ ((2 : Int32)).toNatClampNeg) from (by decide))); rw [show ((2 : Int32)).toNatClampNeg = 2 from by decide] at q ⊢; exact q) (g := (mkF m 45 #[.val (.ref a1), .val (.int p2), .val (.int p3), .val (.int (p2 - p3))] [(.int (2 : Int32)), (.ref a1)])) rfl rfl (hb hby d2_45) _ ?_
              show Steps p.tables e below (s₁.setTop (mkF m 46 #[.val (.ref a1), .val (.int p2), .val (.int p3), .val (.int (p2 - p3))] [(.int (f1 2))])) _
              refine XS.aloadN X0.here hx rfl (hb hby d2_46) rfl rfl ?_
              show Steps p.tables e below (s₁.setTop (mkF m 47 #[.val (.ref a1), .val (.int p2), .val (.int p3), .val (.int (p2 - p3))] [(.ref a1), (.int (f1 2))])) _
              refine XS.iloadN X0.here hx rfl (hb hby d2_47) rfl ?_
              show Steps p.tables e below (s₁.setTop (mkF m 48 #[.val (.ref a1), .val (.int p2), .val (.int p3), .val (.int (p2 - p3))] [(.int p3), (.ref a1), (.int (f1 2))])) _
              refine XS.iconst X0.here hx rfl (hb hby d2_48) ?_
              show Steps p.tables e below (s₁.setTop (mkF m 49 #[.val (.ref a1), .val (.int p2), .val (.int p3), .val (.int (p2 - p3))] [(.int (2 : Int32)), (.int p3), (.ref a1), (.int (f1 2))])) _
              refine XS.iadd X0.here hx rfl (hb hby d2_49) rfl ?_
              show Steps p.tables e below (s₁.setTop (mkF m 50 #[.val (.ref a1), .val (.int p2), .val (.int p3), .val (.int (p2 - p3))] [(.int (p3 + (2 : Int32))), (.ref a1), (.int (f1 2))])) _
              refine X0.iaload hx (j := (p3 + (2 : Int32))) (v := (.int (f1 ((p3 + (2 : Int32))).toNatClampNeg))) (by rw [e0]; exact Ar_3.1) (State.isArrayOf_alike hZ.alike Ar_3.2.1) Ar_3.2.2 (own_inb Sz_3 (show ¬ ((p3 + (2 : Int32)) < 0 ∨ 5 ≤ ((p3 + (2 : Int32))).toNatClampNeg) from (own_lcp_in hq0 hq1 hq2 hc_11 rfl (by decide) (by decide)))) (At_3 _ (own_ltn (show ¬ ((p3 + (2 : Int32)) < 0 ∨ 5 ≤ ((p3 + (2 : Int32))).toNatClampNeg) from (own_lcp_in hq0 hq1 hq2 hc_11 rfl (by decide) (by decide))))) (g := (mkF m 50 #[.val (.ref a1), .val (.int p2), .val (.int p3), .val (.int (p2 - p3))] [(.int (p3 + (2 : Int32))), (.ref a1), (.int (f1 2))])) rfl rfl (hb hby d2_50) _ ?_
              exact k
            by_cases hc_13 : (f1 2) = (f1 ((p3 + (2 : Int32))).toNatClampNeg)
            · have pr_14 : ∀ t, Steps p.tables e below (s₁.setTop (mkF m 58 #[.val (.ref a1), .val (.int p2), .val (.int p3), .val (.int (p2 - p3))] [(.int (4 : Int32)), (.int (p2 - p3))])) t → Steps p.tables e below (s₁.setTop (entryFrame m #[(.ref a1), (.int p2), (.int p3)] 4)) t := fun t k => by
                refine pr_12 _ ?_
                show Steps p.tables e below (s₁.setTop (mkF m 51 #[.val (.ref a1), .val (.int p2), .val (.int p3), .val (.int (p2 - p3))] [(.int (f1 ((p3 + (2 : Int32))).toNatClampNeg)), (.int (f1 2))])) _
                refine XS.icmpYes X0.here hx rfl (pc0 := 51) (pc' := 56) rfl (hb hby d2_51) rfl (teq hc_13).1 (by decide) (by decide) ?_
                show Steps p.tables e below (s₁.setTop (mkF m 56 #[.val (.ref a1), .val (.int p2), .val (.int p3), .val (.int (p2 - p3))] [])) _
                refine XS.iloadN X0.here hx rfl (hb hby d2_56) rfl ?_
                show Steps p.tables e below (s₁.setTop (mkF m 57 #[.val (.ref a1), .val (.int p2), .val (.int p3), .val (.int (p2 - p3))] [(.int (p2 - p3))])) _
                refine XS.iconst X0.here hx rfl (hb hby d2_57) ?_
                exact k
              by_cases hc_15 : (p2 - p3) < (4 : Int32)
              · obtain ⟨fs, hr, hrun, hended, hW, hsame⟩ := X0.leave (v := some (.int (3 : Int32))) (fun h => by rw [Bd.returns] at h; cases h)
                refine ⟨_, _, pr_14 _ ?_, hrun, hended, _, _, rfl, ?_, ⟨_, rfl⟩, hW, hsame.mono (by decide) (by decide)⟩
                · show Steps p.tables e below (s₁.setTop (mkF m 58 #[.val (.ref a1), .val (.int p2), .val (.int p3), .val (.int (p2 - p3))] [(.int (4 : Int32)), (.int (p2 - p3))])) _
                  refine XS.icmpYes X0.here hx rfl (pc0 := 58) (pc' := 72) rfl (hb hby d2_58) rfl (tlt hc_15).1 (by decide) (by decide) ?_
                  show Steps p.tables e below (s₁.setTop (mkF m 72 #[.val (.ref a1), .val (.int p2), .val (.int p3), .val (.int (p2 - p3))] [])) _
                  refine XS.iconst X0.here hx rfl (hb hby d2_72) ?_
                  show Steps p.tables e below (s₁.setTop (mkF m 73 #[.val (.ref a1), .val (.int p2), .val (.int p3), .val (.int (p2 - p3))] [(.int (3 : Int32))])) _
                  exact retI X0 hx Bd.returns (hb hby d2_73) hr
                · show Q2 Z a1 p2 p3 f1 h0 n0 _ s₁.heap _
                  rw [e0]
                  exact ⟨by rw [own_lcp, if_neg hc_2, if_pos hc_5, if_neg hc_7, if_pos hc_9, if_neg hc_11, if_pos hc_13, if_pos hc_15], N0, rfl⟩
              · have pr_16 : ∀ t, Steps p.tables e below (s₁.setTop (mkF m 69 #[.val (.ref a1), .val (.int p2), .val (.int p3), .val (.int (p2 - p3))] [(.int (f1 ((p3 + (3 : Int32))).toNatClampNeg)), (.int (f1 3))])) t → Steps p.tables e below (s₁.setTop (entryFrame m #[(.ref a1), (.int p2), (.int p3)] 4)) t := fun t k => by
                  refine pr_14 _ ?_
                  show Steps p.tables e below (s₁.setTop (mkF m 58 #[.val (.ref a1), .val (.int p2), .val (.int p3), .val (.int (p2 - p3))] [(.int (4 : Int32)), (.int (p2 - p3))])) _
                  refine XS.icmpNo X0.here hx rfl (hb hby d2_58) rfl (flt hc_15).1 ?_
                  show Steps p.tables e below (s₁.setTop (mkF m 61 #[.val (.ref a1), .val (.int p2), .val (.int p3), .val (.int (p2 - p3))] [])) _
                  refine XS.aloadN X0.here hx rfl (hb hby d2_61) rfl rfl ?_
                  show Steps p.tables e below (s₁.setTop (mkF m 62 #[.val (.ref a1), .val (.int p2), .val (.int p3), .val (.int (p2 - p3))] [(.ref a1)])) _
                  refine XS.iconst X0.here hx rfl (hb hby d2_62) ?_
                  show Steps p.tables e below (s₁.setTop (mkF m 63 #[.val (.ref a1), .val (.int p2), .val (.int p3), .val (.int (p2 - p3))] [(.int (3 : Int32)), (.ref a1)])) _
                  refine X0.iaload hx (j := (3 : Int32)) (v := (.int (f1 3))) (by rw [e0]; exact Ar_3.1) (State.isArrayOf_alike hZ.alike Ar_3.2.1) Ar_3.2.2 (own_inb Sz_3 (show ¬ ((3 : Int32) < 0 ∨ 5 ≤ ((3 : Int32)).toNatClampNeg) from (by decide))) (by have q := At_3 _ (own_ltn (show ¬ ((3 : Int32) < 0 ∨ 5 ≤ ((3 : Int32)).toNatClampNeg) from (by decide))); rw [show ((3 : Int32)).toNatClampNeg = 3 from by decide] at q ⊢; exact q) (g := (mkF m 63 #[.val (.ref a1), .val (.int p2), .val (.int p3), .val (.int (p2 - p3))] [(.int (3 : Int32)), (.ref a1)])) rfl rfl (hb hby d2_63) _ ?_
                  show Steps p.tables e below (s₁.setTop (mkF m 64 #[.val (.ref a1), .val (.int p2), .val (.int p3), .val (.int (p2 - p3))] [(.int (f1 3))])) _
                  refine XS.aloadN X0.here hx rfl (hb hby d2_64) rfl rfl ?_
                  show Steps p.tables e below (s₁.setTop (mkF m 65 #[.val (.ref a1), .val (.int p2), .val (.int p3), .val (.int (p2 - p3))] [(.ref a1), (.int (f1 3))])) _
                  refine XS.iloadN X0.here hx rfl (hb hby d2_65) rfl ?_
                  show Steps p.tables e below (s₁.setTop (mkF m 66 #[.val (.ref a1), .val (.int p2), .val (.int p3), .val (.int (p2 - p3))] [(.int p3), (.ref a1), (.int (f1 3))])) _
                  refine XS.iconst X0.here hx rfl (hb hby d2_66) ?_
                  show Steps p.tables e below (s₁.setTop (mkF m 67 #[.val (.ref a1), .val (.int p2), .val (.int p3), .val (.int (p2 - p3))] [(.int (3 : Int32)), (.int p3), (.ref a1), (.int (f1 3))])) _
                  refine XS.iadd X0.here hx rfl (hb hby d2_67) rfl ?_
                  show Steps p.tables e below (s₁.setTop (mkF m 68 #[.val (.ref a1), .val (.int p2), .val (.int p3), .val (.int (p2 - p3))] [(.int (p3 + (3 : Int32))), (.ref a1), (.int (f1 3))])) _
                  refine X0.iaload hx (j := (p3 + (3 : Int32))) (v := (.int (f1 ((p3 + (3 : Int32))).toNatClampNeg))) (by rw [e0]; exact Ar_3.1) (State.isArrayOf_alike hZ.alike Ar_3.2.1) Ar_3.2.2 (own_inb Sz_3 (show ¬ ((p3 + (3 : Int32)) < 0 ∨ 5 ≤ ((p3 + (3 : Int32))).toNatClampNeg) from (own_lcp_in hq0 hq1 hq2 hc_15 rfl (by decide) (by decide)))) (At_3 _ (own_ltn (show ¬ ((p3 + (3 : Int32)) < 0 ∨ 5 ≤ ((p3 + (3 : Int32))).toNatClampNeg) from (own_lcp_in hq0 hq1 hq2 hc_15 rfl (by decide) (by decide))))) (g := (mkF m 68 #[.val (.ref a1), .val (.int p2), .val (.int p3), .val (.int (p2 - p3))] [(.int (p3 + (3 : Int32))), (.ref a1), (.int (f1 3))])) rfl rfl (hb hby d2_68) _ ?_
                  exact k
                by_cases hc_17 : (f1 3) = (f1 ((p3 + (3 : Int32))).toNatClampNeg)
                · have pr_18 : ∀ t, Steps p.tables e below (s₁.setTop (mkF m 76 #[.val (.ref a1), .val (.int p2), .val (.int p3), .val (.int (p2 - p3))] [(.int (5 : Int32)), (.int (p2 - p3))])) t → Steps p.tables e below (s₁.setTop (entryFrame m #[(.ref a1), (.int p2), (.int p3)] 4)) t := fun t k => by
                    refine pr_16 _ ?_
                    show Steps p.tables e below (s₁.setTop (mkF m 69 #[.val (.ref a1), .val (.int p2), .val (.int p3), .val (.int (p2 - p3))] [(.int (f1 ((p3 + (3 : Int32))).toNatClampNeg)), (.int (f1 3))])) _
                    refine XS.icmpYes X0.here hx rfl (pc0 := 69) (pc' := 74) rfl (hb hby d2_69) rfl (teq hc_17).1 (by decide) (by decide) ?_
                    show Steps p.tables e below (s₁.setTop (mkF m 74 #[.val (.ref a1), .val (.int p2), .val (.int p3), .val (.int (p2 - p3))] [])) _
                    refine XS.iloadN X0.here hx rfl (hb hby d2_74) rfl ?_
                    show Steps p.tables e below (s₁.setTop (mkF m 75 #[.val (.ref a1), .val (.int p2), .val (.int p3), .val (.int (p2 - p3))] [(.int (p2 - p3))])) _
                    refine XS.iconst X0.here hx rfl (hb hby d2_75) ?_
                    exact k
                  by_cases hc_19 : (p2 - p3) < (5 : Int32)
                  · obtain ⟨fs, hr, hrun, hended, hW, hsame⟩ := X0.leave (v := some (.int (4 : Int32))) (fun h => by rw [Bd.returns] at h; cases h)
                    refine ⟨_, _, pr_18 _ ?_, hrun, hended, _, _, rfl, ?_, ⟨_, rfl⟩, hW, hsame.mono (by decide) (by decide)⟩
                    · show Steps p.tables e below (s₁.setTop (mkF m 76 #[.val (.ref a1), .val (.int p2), .val (.int p3), .val (.int (p2 - p3))] [(.int (5 : Int32)), (.int (p2 - p3))])) _
                      refine XS.icmpYes X0.here hx rfl (pc0 := 76) (pc' := 90) rfl (hb hby d2_76) rfl (tlt hc_19).1 (by decide) (by decide) ?_
                      show Steps p.tables e below (s₁.setTop (mkF m 90 #[.val (.ref a1), .val (.int p2), .val (.int p3), .val (.int (p2 - p3))] [])) _
                      refine XS.iconst X0.here hx rfl (hb hby d2_90) ?_
                      show Steps p.tables e below (s₁.setTop (mkF m 91 #[.val (.ref a1), .val (.int p2), .val (.int p3), .val (.int (p2 - p3))] [(.int (4 : Int32))])) _
                      exact retI X0 hx Bd.returns (hb hby d2_91) hr
                    · show Q2 Z a1 p2 p3 f1 h0 n0 _ s₁.heap _
                      rw [e0]
                      exact ⟨by rw [own_lcp, if_neg hc_2, if_pos hc_5, if_neg hc_7, if_pos hc_9, if_neg hc_11, if_pos hc_13, if_neg hc_15, if_pos hc_17, if_pos hc_19], N0, rfl⟩
                  · have pr_20 : ∀ t, Steps p.tables e below (s₁.setTop (mkF m 87 #[.val (.ref a1), .val (.int p2), .val (.int p3), .val (.int (p2 - p3))] [(.int (f1 ((p3 + (4 : Int32))).toNatClampNeg)), (.int (f1 4))])) t → Steps p.tables e below (s₁.setTop (entryFrame m #[(.ref a1), (.int p2), (.int p3)] 4)) t := fun t k => by
                      refine pr_18 _ ?_
                      show Steps p.tables e below (s₁.setTop (mkF m 76 #[.val (.ref a1), .val (.int p2), .val (.int p3), .val (.int (p2 - p3))] [(.int (5 : Int32)), (.int (p2 - p3))])) _
                      refine XS.icmpNo X0.here hx rfl (hb hby d2_76) rfl (flt hc_19).1 ?_
                      show Steps p.tables e below (s₁.setTop (mkF m 79 #[.val (.ref a1), .val (.int p2), .val (.int p3), .val (.int (p2 - p3))] [])) _
                      refine XS.aloadN X0.here hx rfl (hb hby d2_79) rfl rfl ?_
                      show Steps p.tables e below (s₁.setTop (mkF m 80 #[.val (.ref a1), .val (.int p2), .val (.int p3), .val (.int (p2 - p3))] [(.ref a1)])) _
                      refine XS.iconst X0.here hx rfl (hb hby d2_80) ?_
                      show Steps p.tables e below (s₁.setTop (mkF m 81 #[.val (.ref a1), .val (.int p2), .val (.int p3), .val (.int (p2 - p3))] [(.int (4 : Int32)), (.ref a1)])) _
                      refine X0.iaload hx (j := (4 : Int32)) (v := (.int (f1 4))) (by rw [e0]; exact Ar_3.1) (State.isArrayOf_alike hZ.alike Ar_3.2.1) Ar_3.2.2 (own_inb Sz_3 (show ¬ ((4 : Int32) < 0 ∨ 5 ≤ ((4 : Int32)).toNatClampNeg) from (by decide))) (by have q := At_3 _ (own_ltn (show ¬ ((4 : Int32) < 0 ∨ 5 ≤ ((4 : Int32)).toNatClampNeg) from (by decide))); rw [show ((4 : Int32)).toNatClampNeg = 4 from by decide] at q ⊢; exact q) (g := (mkF m 81 #[.val (.ref a1), .val (.int p2), .val (.int p3), .val (.int (p2 - p3))] [(.int (4 : Int32)), (.ref a1)])) rfl rfl (hb hby d2_81) _ ?_
                      show Steps p.tables e below (s₁.setTop (mkF m 82 #[.val (.ref a1), .val (.int p2), .val (.int p3), .val (.int (p2 - p3))] [(.int (f1 4))])) _
                      refine XS.aloadN X0.here hx rfl (hb hby d2_82) rfl rfl ?_
                      show Steps p.tables e below (s₁.setTop (mkF m 83 #[.val (.ref a1), .val (.int p2), .val (.int p3), .val (.int (p2 - p3))] [(.ref a1), (.int (f1 4))])) _
                      refine XS.iloadN X0.here hx rfl (hb hby d2_83) rfl ?_
                      show Steps p.tables e below (s₁.setTop (mkF m 84 #[.val (.ref a1), .val (.int p2), .val (.int p3), .val (.int (p2 - p3))] [(.int p3), (.ref a1), (.int (f1 4))])) _
                      refine XS.iconst X0.here hx rfl (hb hby d2_84) ?_
                      show Steps p.tables e below (s₁.setTop (mkF m 85 #[.val (.ref a1), .val (.int p2), .val (.int p3), .val (.int (p2 - p3))] [(.int (4 : Int32)), (.int p3), (.ref a1), (.int (f1 4))])) _
                      refine XS.iadd X0.here hx rfl (hb hby d2_85) rfl ?_
                      show Steps p.tables e below (s₁.setTop (mkF m 86 #[.val (.ref a1), .val (.int p2), .val (.int p3), .val (.int (p2 - p3))] [(.int (p3 + (4 : Int32))), (.ref a1), (.int (f1 4))])) _
                      refine X0.iaload hx (j := (p3 + (4 : Int32))) (v := (.int (f1 ((p3 + (4 : Int32))).toNatClampNeg))) (by rw [e0]; exact Ar_3.1) (State.isArrayOf_alike hZ.alike Ar_3.2.1) Ar_3.2.2 (own_inb Sz_3 (show ¬ ((p3 + (4 : Int32)) < 0 ∨ 5 ≤ ((p3 + (4 : Int32))).toNatClampNeg) from (own_lcp_in hq0 hq1 hq2 hc_19 rfl (by decide) (by decide)))) (At_3 _ (own_ltn (show ¬ ((p3 + (4 : Int32)) < 0 ∨ 5 ≤ ((p3 + (4 : Int32))).toNatClampNeg) from (own_lcp_in hq0 hq1 hq2 hc_19 rfl (by decide) (by decide))))) (g := (mkF m 86 #[.val (.ref a1), .val (.int p2), .val (.int p3), .val (.int (p2 - p3))] [(.int (p3 + (4 : Int32))), (.ref a1), (.int (f1 4))])) rfl rfl (hb hby d2_86) _ ?_
                      exact k
                    by_cases hc_21 : (f1 4) = (f1 ((p3 + (4 : Int32))).toNatClampNeg)
                    · obtain ⟨fs, hr, hrun, hended, hW, hsame⟩ := X0.leave (v := some (.int (5 : Int32))) (fun h => by rw [Bd.returns] at h; cases h)
                      refine ⟨_, _, pr_20 _ ?_, hrun, hended, _, _, rfl, ?_, ⟨_, rfl⟩, hW, hsame.mono (by decide) (by decide)⟩
                      · show Steps p.tables e below (s₁.setTop (mkF m 87 #[.val (.ref a1), .val (.int p2), .val (.int p3), .val (.int (p2 - p3))] [(.int (f1 ((p3 + (4 : Int32))).toNatClampNeg)), (.int (f1 4))])) _
                        refine XS.icmpYes X0.here hx rfl (pc0 := 87) (pc' := 92) rfl (hb hby d2_87) rfl (teq hc_21).1 (by decide) (by decide) ?_
                        show Steps p.tables e below (s₁.setTop (mkF m 92 #[.val (.ref a1), .val (.int p2), .val (.int p3), .val (.int (p2 - p3))] [])) _
                        refine XS.iconst X0.here hx rfl (hb hby d2_92) ?_
                        show Steps p.tables e below (s₁.setTop (mkF m 93 #[.val (.ref a1), .val (.int p2), .val (.int p3), .val (.int (p2 - p3))] [(.int (5 : Int32))])) _
                        exact retI X0 hx Bd.returns (hb hby d2_93) hr
                      · show Q2 Z a1 p2 p3 f1 h0 n0 _ s₁.heap _
                        rw [e0]
                        exact ⟨by rw [own_lcp, if_neg hc_2, if_pos hc_5, if_neg hc_7, if_pos hc_9, if_neg hc_11, if_pos hc_13, if_neg hc_15, if_pos hc_17, if_neg hc_19, if_pos hc_21], N0, rfl⟩
                    · obtain ⟨fs, hr, hrun, hended, hW, hsame⟩ := X0.leave (v := some (.int (4 : Int32))) (fun h => by rw [Bd.returns] at h; cases h)
                      refine ⟨_, _, pr_20 _ ?_, hrun, hended, _, _, rfl, ?_, ⟨_, rfl⟩, hW, hsame.mono (by decide) (by decide)⟩
                      · show Steps p.tables e below (s₁.setTop (mkF m 87 #[.val (.ref a1), .val (.int p2), .val (.int p3), .val (.int (p2 - p3))] [(.int (f1 ((p3 + (4 : Int32))).toNatClampNeg)), (.int (f1 4))])) _
                        refine XS.icmpNo X0.here hx rfl (hb hby d2_87) rfl (feq hc_21).1 ?_
                        show Steps p.tables e below (s₁.setTop (mkF m 90 #[.val (.ref a1), .val (.int p2), .val (.int p3), .val (.int (p2 - p3))] [])) _
                        refine XS.iconst X0.here hx rfl (hb hby d2_90) ?_
                        show Steps p.tables e below (s₁.setTop (mkF m 91 #[.val (.ref a1), .val (.int p2), .val (.int p3), .val (.int (p2 - p3))] [(.int (4 : Int32))])) _
                        exact retI X0 hx Bd.returns (hb hby d2_91) hr
                      · show Q2 Z a1 p2 p3 f1 h0 n0 _ s₁.heap _
                        rw [e0]
                        exact ⟨by rw [own_lcp, if_neg hc_2, if_pos hc_5, if_neg hc_7, if_pos hc_9, if_neg hc_11, if_pos hc_13, if_neg hc_15, if_pos hc_17, if_neg hc_19, if_neg hc_21], N0, rfl⟩
                · obtain ⟨fs, hr, hrun, hended, hW, hsame⟩ := X0.leave (v := some (.int (3 : Int32))) (fun h => by rw [Bd.returns] at h; cases h)
                  refine ⟨_, _, pr_16 _ ?_, hrun, hended, _, _, rfl, ?_, ⟨_, rfl⟩, hW, hsame.mono (by decide) (by decide)⟩
                  · show Steps p.tables e below (s₁.setTop (mkF m 69 #[.val (.ref a1), .val (.int p2), .val (.int p3), .val (.int (p2 - p3))] [(.int (f1 ((p3 + (3 : Int32))).toNatClampNeg)), (.int (f1 3))])) _
                    refine XS.icmpNo X0.here hx rfl (hb hby d2_69) rfl (feq hc_17).1 ?_
                    show Steps p.tables e below (s₁.setTop (mkF m 72 #[.val (.ref a1), .val (.int p2), .val (.int p3), .val (.int (p2 - p3))] [])) _
                    refine XS.iconst X0.here hx rfl (hb hby d2_72) ?_
                    show Steps p.tables e below (s₁.setTop (mkF m 73 #[.val (.ref a1), .val (.int p2), .val (.int p3), .val (.int (p2 - p3))] [(.int (3 : Int32))])) _
                    exact retI X0 hx Bd.returns (hb hby d2_73) hr
                  · show Q2 Z a1 p2 p3 f1 h0 n0 _ s₁.heap _
                    rw [e0]
                    exact ⟨by rw [own_lcp, if_neg hc_2, if_pos hc_5, if_neg hc_7, if_pos hc_9, if_neg hc_11, if_pos hc_13, if_neg hc_15, if_neg hc_17], N0, rfl⟩
            · obtain ⟨fs, hr, hrun, hended, hW, hsame⟩ := X0.leave (v := some (.int (2 : Int32))) (fun h => by rw [Bd.returns] at h; cases h)
              refine ⟨_, _, pr_12 _ ?_, hrun, hended, _, _, rfl, ?_, ⟨_, rfl⟩, hW, hsame.mono (by decide) (by decide)⟩
              · show Steps p.tables e below (s₁.setTop (mkF m 51 #[.val (.ref a1), .val (.int p2), .val (.int p3), .val (.int (p2 - p3))] [(.int (f1 ((p3 + (2 : Int32))).toNatClampNeg)), (.int (f1 2))])) _
                refine XS.icmpNo X0.here hx rfl (hb hby d2_51) rfl (feq hc_13).1 ?_
                show Steps p.tables e below (s₁.setTop (mkF m 54 #[.val (.ref a1), .val (.int p2), .val (.int p3), .val (.int (p2 - p3))] [])) _
                refine XS.iconst X0.here hx rfl (hb hby d2_54) ?_
                show Steps p.tables e below (s₁.setTop (mkF m 55 #[.val (.ref a1), .val (.int p2), .val (.int p3), .val (.int (p2 - p3))] [(.int (2 : Int32))])) _
                exact retI X0 hx Bd.returns (hb hby d2_55) hr
              · show Q2 Z a1 p2 p3 f1 h0 n0 _ s₁.heap _
                rw [e0]
                exact ⟨by rw [own_lcp, if_neg hc_2, if_pos hc_5, if_neg hc_7, if_pos hc_9, if_neg hc_11, if_neg hc_13], N0, rfl⟩
        · obtain ⟨fs, hr, hrun, hended, hW, hsame⟩ := X0.leave (v := some (.int (1 : Int32))) (fun h => by rw [Bd.returns] at h; cases h)
          refine ⟨_, _, pr_8 _ ?_, hrun, hended, _, _, rfl, ?_, ⟨_, rfl⟩, hW, hsame.mono (by decide) (by decide)⟩
          · show Steps p.tables e below (s₁.setTop (mkF m 33 #[.val (.ref a1), .val (.int p2), .val (.int p3), .val (.int (p2 - p3))] [(.int (f1 ((p3 + (1 : Int32))).toNatClampNeg)), (.int (f1 1))])) _
            refine XS.icmpNo X0.here hx rfl (hb hby d2_33) rfl (feq hc_9).1 ?_
            show Steps p.tables e below (s₁.setTop (mkF m 36 #[.val (.ref a1), .val (.int p2), .val (.int p3), .val (.int (p2 - p3))] [])) _
            refine XS.iconst X0.here hx rfl (hb hby d2_36) ?_
            show Steps p.tables e below (s₁.setTop (mkF m 37 #[.val (.ref a1), .val (.int p2), .val (.int p3), .val (.int (p2 - p3))] [(.int (1 : Int32))])) _
            exact retI X0 hx Bd.returns (hb hby d2_37) hr
          · show Q2 Z a1 p2 p3 f1 h0 n0 _ s₁.heap _
            rw [e0]
            exact ⟨by rw [own_lcp, if_neg hc_2, if_pos hc_5, if_neg hc_7, if_neg hc_9], N0, rfl⟩
    · obtain ⟨fs, hr, hrun, hended, hW, hsame⟩ := X0.leave (v := some (.int (0 : Int32))) (fun h => by rw [Bd.returns] at h; cases h)
      refine ⟨_, _, pr_4 _ ?_, hrun, hended, _, _, rfl, ?_, ⟨_, rfl⟩, hW, hsame.mono (by decide) (by decide)⟩
      · show Steps p.tables e below (s₁.setTop (mkF m 15 #[.val (.ref a1), .val (.int p2), .val (.int p3), .val (.int (p2 - p3))] [(.int (f1 (p3).toNatClampNeg)), (.int (f1 0))])) _
        refine XS.icmpNo X0.here hx rfl (hb hby d2_15) rfl (feq hc_5).1 ?_
        show Steps p.tables e below (s₁.setTop (mkF m 18 #[.val (.ref a1), .val (.int p2), .val (.int p3), .val (.int (p2 - p3))] [])) _
        refine XS.iconst X0.here hx rfl (hb hby d2_18) ?_
        show Steps p.tables e below (s₁.setTop (mkF m 19 #[.val (.ref a1), .val (.int p2), .val (.int p3), .val (.int (p2 - p3))] [(.int (0 : Int32))])) _
        exact retI X0 hx Bd.returns (hb hby d2_19) hr
      · show Q2 Z a1 p2 p3 f1 h0 n0 _ s₁.heap _
        rw [e0]
        exact ⟨by rw [own_lcp, if_neg hc_2, if_neg hc_5], N0, rfl⟩
theorem d4_0 : decode method_4_code 0 = .ok (.aload_n 0, 1) := by decide +kernel
theorem d4_1 : decode method_4_code 1 = .ok (.iconst 0, 1) := by decide +kernel
theorem d4_2 : decode method_4_code 2 = .ok (.iaload, 1) := by decide +kernel
theorem d4_3 : decode method_4_code 3 = .ok (.aload_n 0, 1) := by decide +kernel
theorem d4_4 : decode method_4_code 4 = .ok (.iload_n 1, 1) := by decide +kernel
theorem d4_5 : decode method_4_code 5 = .ok (.iaload, 1) := by decide +kernel
theorem d4_6 : decode method_4_code 6 = .ok (.if_icmp .ne 55, 3) := by decide +kernel
theorem d4_9 : decode method_4_code 9 = .ok (.iload_n 2, 1) := by decide +kernel
theorem d4_10 : decode method_4_code 10 = .ok (.iconst 2, 1) := by decide +kernel
theorem d4_11 : decode method_4_code 11 = .ok (.if_icmp .lt 14, 3) := by decide +kernel
theorem d4_25 : decode method_4_code 25 = .ok (.iload_n 2, 1) := by decide +kernel
theorem d4_26 : decode method_4_code 26 = .ok (.iconst 3, 1) := by decide +kernel
theorem d4_27 : decode method_4_code 27 = .ok (.if_icmp .lt 14, 3) := by decide +kernel
theorem d4_41 : decode method_4_code 41 = .ok (.iload_n 2, 1) := by decide +kernel
theorem d4_42 : decode method_4_code 42 = .ok (.iconst 4, 1) := by decide +kernel
theorem d4_43 : decode method_4_code 43 = .ok (.if_icmp .lt 14, 3) := by decide +kernel
theorem d4_57 : decode method_4_code 57 = .ok (.iconst 1, 1) := by decide +kernel
theorem d4_58 : decode method_4_code 58 = .ok (.goto 4, 3) := by decide +kernel
theorem d4_62 : decode method_4_code 62 = .ok (.ireturn, 1) := by decide +kernel
theorem d4_46 : decode method_4_code 46 = .ok (.aload_n 0, 1) := by decide +kernel
theorem d4_47 : decode method_4_code 47 = .ok (.iconst 3, 1) := by decide +kernel
theorem d4_48 : decode method_4_code 48 = .ok (.iaload, 1) := by decide +kernel
theorem d4_49 : decode method_4_code 49 = .ok (.aload_n 0, 1) := by decide +kernel
theorem d4_50 : decode method_4_code 50 = .ok (.iload_n 1, 1) := by decide +kernel
theorem d4_51 : decode method_4_code 51 = .ok (.iconst 3, 1) := by decide +kernel
theorem d4_52 : decode method_4_code 52 = .ok (.iadd, 1) := by decide +kernel
theorem d4_53 : decode method_4_code 53 = .ok (.iaload, 1) := by decide +kernel
theorem d4_54 : decode method_4_code 54 = .ok (.if_icmp .ne 7, 3) := by decide +kernel
theorem d4_61 : decode method_4_code 61 = .ok (.iconst 0, 1) := by decide +kernel
theorem d4_30 : decode method_4_code 30 = .ok (.aload_n 0, 1) := by decide +kernel
theorem d4_31 : decode method_4_code 31 = .ok (.iconst 2, 1) := by decide +kernel
theorem d4_32 : decode method_4_code 32 = .ok (.iaload, 1) := by decide +kernel
theorem d4_33 : decode method_4_code 33 = .ok (.aload_n 0, 1) := by decide +kernel
theorem d4_34 : decode method_4_code 34 = .ok (.iload_n 1, 1) := by decide +kernel
theorem d4_35 : decode method_4_code 35 = .ok (.iconst 2, 1) := by decide +kernel
theorem d4_36 : decode method_4_code 36 = .ok (.iadd, 1) := by decide +kernel
theorem d4_37 : decode method_4_code 37 = .ok (.iaload, 1) := by decide +kernel
theorem d4_38 : decode method_4_code 38 = .ok (.if_icmp .ne 23, 3) := by decide +kernel
theorem d4_14 : decode method_4_code 14 = .ok (.aload_n 0, 1) := by decide +kernel
theorem d4_15 : decode method_4_code 15 = .ok (.iconst 1, 1) := by decide +kernel
theorem d4_16 : decode method_4_code 16 = .ok (.iaload, 1) := by decide +kernel
theorem d4_17 : decode method_4_code 17 = .ok (.aload_n 0, 1) := by decide +kernel
theorem d4_18 : decode method_4_code 18 = .ok (.iload_n 1, 1) := by decide +kernel
theorem d4_19 : decode method_4_code 19 = .ok (.iconst 1, 1) := by decide +kernel
theorem d4_20 : decode method_4_code 20 = .ok (.iadd, 1) := by decide +kernel
theorem d4_21 : decode method_4_code 21 = .ok (.iaload, 1) := by decide +kernel
theorem d4_22 : decode method_4_code 22 = .ok (.if_icmp .ne 39, 3) := by decide +kernel
theorem ef_4_RII (m : MethodId) (x0 : Addr) (x1 : Int32) (x2 : Int32) : entryFrame m #[(.ref x0), (.int x1), (.int x2)] 3 = mkF m 0 #[.val (.ref x0), .val (.int x1), .val (.int x2)] [] := by first | (simp [entryFrame, mkF, argsToLocals, Value.category]; done) | rfl
def own_same (p2 : Int32) (p3 : Int32) (f1 : Nat → Int32) : Int32 := if (f1 0) = (f1 (p2).toNatClampNeg) then (if p3 < (2 : Int32) then (if p3 < (3 : Int32) then (if p3 < (4 : Int32) then (1 : Int32) else (if (f1 3) = (f1 ((p2 + (3 : Int32))).toNatClampNeg) then (1 : Int32) else (0 : Int32))) else (if (f1 2) = (f1 ((p2 + (2 : Int32))).toNatClampNeg) then (if p3 < (4 : Int32) then (1 : Int32) else (if (f1 3) = (f1 ((p2 + (3 : Int32))).toNatClampNeg) then (1 : Int32) else (0 : Int32))) else (0 : Int32))) else (if (f1 1) = (f1 ((p2 + (1 : Int32))).toNatClampNeg) then (if p3 < (3 : Int32) then (if p3 < (4 : Int32) then (1 : Int32) else (if (f1 3) = (f1 ((p2 + (3 : Int32))).toNatClampNeg) then (1 : Int32) else (0 : Int32))) else (if (f1 2) = (f1 ((p2 + (2 : Int32))).toNatClampNeg) then (if p3 < (4 : Int32) then (1 : Int32) else (if (f1 3) = (f1 ((p2 + (3 : Int32))).toNatClampNeg) then (1 : Int32) else (0 : Int32))) else (0 : Int32))) else (0 : Int32))) else (0 : Int32)
def Q4 (Z : State) (a1 : Addr) (p2 : Int32) (p3 : Int32) (f1 : Nat → Int32) (h0 : Heap) (n0 : Nat) (v : Option Value) (h : Heap) (L : List Loc) : Prop := v = some (.int (own_same p2 p3 f1)) ∧ Fr n0 L ∧ h = h0
theorem pn_4 : plainName "com/example/borderwork/borderwork/zarrays/ZArraysToBorderArrayPinLaw" = true := by first | (simp [plainName, overriddenIn]; done) | decide +kernel
set_option maxRecDepth 65536 in
set_option maxHeartbeats 40000000 in
theorem rm4 (l : Launch) (Z : State) (a0 : Array Value) (hw : ∀ d ∈ tables_1, d.before a0 Z = true) (ws : List Jvm.Cond) (a1 : Addr) (p2 : Int32) (p3 : Int32) (f1 : Nat → Int32) (h0 : Heap) (n0 : Nat) (Z0 : n0 ≤ h0.size) (F0 : own_arr .int Z h0 a1 5 f1) (hq0 : 0 ≤ p2.toInt) (hq1 : p2.toInt + p3.toInt ≤ 5) (hq2 : 1 ≤ p3.toInt) :
    MetFree l (⟨"com/example/borderwork/borderwork/zarrays/ZArraysToBorderArrayPinLaw", "same", "([III)Z"⟩ : MethodName) (head1 (Jvm.Cond.code (⟨"com/example/borderwork/borderwork/zarrays/ZArraysToBorderArrayPinLaw", "same", "([III)Z"⟩ : MethodName) method_4_code 3 (some .boolean) :: ws) ({ frames := 0, cells := 0, slots := 0, locals := 0 } : Room)) (fun a U => a = #[(.ref a1), (.int p2), (.int p3)] ∧ Z.Warmed39 U.vm ∧ U.heap = h0) (fun _ _ _ _ _ => True) (fun _ U o U' => ∃ v L, o = .returned v ∧ Q4 Z a1 p2 p3 f1 h0 n0 v U'.heap L ∧ FrameEnd U o U' L ({ frames := 0, cells := 0, slots := 0, locals := 0 } : Room).cells ({ frames := 0, cells := 0, slots := 0, locals := 0 } : Room).slots) := by
  refine MetFree.of_bodySF (plainFor_of_name pn_4) hisR ?_
  intro p e s m args below meth c s₁ Bd hml0 hP hK
  obtain ⟨rfl, hZ, hh⟩ := hP
  have hx := Bd.exec
  have hby := Bd.bytes
  have hml : c.maxLocals = 3 := hml0
  have hown : s.vm.findClass "com/example/borderwork/borderwork/zarrays/ZArraysToBorderArrayPinLaw" = some m.cls := findClass_of_methodNamed Bd.named
  have hnm := (name_of_methodNamed Bd.named Bd.method).1
  have X0 : Stand p l e ({ frames := 0, cells := 0, slots := 0, locals := 0 } : Room) s m #[(.ref a1), (.int p2), (.int p3)] below meth c s₁ [] 0 0 := Stand.of_body Bd
  have e0 : s₁.heap = h0 := by rw [← hh, Bd.state]; rfl
  have N0 := Fr.nil n0
  have pre0 : ∀ t, Steps p.tables e below (s₁.setTop (mkF m 0 #[.val (.ref a1), .val (.int p2), .val (.int p3)] [])) t → Steps p.tables e below (s₁.setTop (entryFrame m #[(.ref a1), (.int p2), (.int p3)] 3)) t := fun t k => castTop (ef_4_RII m a1 p2 p3) k
  have fo_1 := F0
  obtain ⟨cl_1, Ar_1, Sz_1, At_1⟩ := fo_1
  have pr_2 : ∀ t, Steps p.tables e below (s₁.setTop (mkF m 6 #[.val (.ref a1), .val (.int p2), .val (.int p3)] [(.int (f1 (p2).toNatClampNeg)), (.int (f1 0))])) t → Steps p.tables e below (s₁.setTop (entryFrame m #[(.ref a1), (.int p2), (.int p3)] 3)) t := fun t k => by
    refine pre0 _ ?_
    show Steps p.tables e below (s₁.setTop (mkF m 0 #[.val (.ref a1), .val (.int p2), .val (.int p3)] [])) _
    refine XS.aloadN X0.here hx rfl (hb hby d4_0) rfl rfl ?_
    show Steps p.tables e below (s₁.setTop (mkF m 1 #[.val (.ref a1), .val (.int p2), .val (.int p3)] [(.ref a1)])) _
    refine XS.iconst X0.here hx rfl (hb hby d4_1) ?_
    show Steps p.tables e below (s₁.setTop (mkF m 2 #[.val (.ref a1), .val (.int p2), .val (.int p3)] [(.int (0 : Int32)), (.ref a1)])) _
    refine X0.iaload hx (j := (0 : Int32)) (v := (.int (f1 0))) (by rw [e0]; exact Ar_1.1) (State.isArrayOf_alike hZ.alike Ar_1.2.1) Ar_1.2.2 (own_inb Sz_1 (show ¬ ((0 : Int32) < 0 ∨ 5 ≤ ((0 : Int32)).toNatClampNeg) from (by decide))) (by have q := At_1 _ (own_ltn (show ¬ ((0 : Int32) < 0 ∨ 5 ≤ ((0 : Int32)).toNatClampNeg) from (by decide))); rw [show ((0 : Int32)).toNatClampNeg = 0 from by decide] at q ⊢; exact q) (g := (mkF m 2 #[.val (.ref a1), .val (.int p2), .val (.int p3)] [(.int (0 : Int32)), (.ref a1)])) rfl rfl (hb hby d4_2) _ ?_
    show Steps p.tables e below (s₁.setTop (mkF m 3 #[.val (.ref a1), .val (.int p2), .val (.int p3)] [(.int (f1 0))])) _
    refine XS.aloadN X0.here hx rfl (hb hby d4_3) rfl rfl ?_
    show Steps p.tables e below (s₁.setTop (mkF m 4 #[.val (.ref a1), .val (.int p2), .val (.int p3)] [(.ref a1), (.int (f1 0))])) _
    refine XS.iloadN X0.here hx rfl (hb hby d4_4) rfl ?_
    show Steps p.tables e below (s₁.setTop (mkF m 5 #[.val (.ref a1), .val (.int p2), .val (.int p3)] [(.int p2), (.ref a1), (.int (f1 0))])) _
    refine X0.iaload hx (j := p2) (v := (.int (f1 (p2).toNatClampNeg))) (by rw [e0]; exact Ar_1.1) (State.isArrayOf_alike hZ.alike Ar_1.2.1) Ar_1.2.2 (own_inb Sz_1 (show ¬ (p2 < 0 ∨ 5 ≤ (p2).toNatClampNeg) from (own_place hq0 (by omega)))) (At_1 _ (own_ltn (show ¬ (p2 < 0 ∨ 5 ≤ (p2).toNatClampNeg) from (own_place hq0 (by omega))))) (g := (mkF m 5 #[.val (.ref a1), .val (.int p2), .val (.int p3)] [(.int p2), (.ref a1), (.int (f1 0))])) rfl rfl (hb hby d4_5) _ ?_
    exact k
  by_cases hc_3 : (f1 0) = (f1 (p2).toNatClampNeg)
  · have pr_4 : ∀ t, Steps p.tables e below (s₁.setTop (mkF m 11 #[.val (.ref a1), .val (.int p2), .val (.int p3)] [(.int (2 : Int32)), (.int p3)])) t → Steps p.tables e below (s₁.setTop (entryFrame m #[(.ref a1), (.int p2), (.int p3)] 3)) t := fun t k => by
      refine pr_2 _ ?_
      show Steps p.tables e below (s₁.setTop (mkF m 6 #[.val (.ref a1), .val (.int p2), .val (.int p3)] [(.int (f1 (p2).toNatClampNeg)), (.int (f1 0))])) _
      refine XS.icmpNo X0.here hx rfl (hb hby d4_6) rfl (teq hc_3).2 ?_
      show Steps p.tables e below (s₁.setTop (mkF m 9 #[.val (.ref a1), .val (.int p2), .val (.int p3)] [])) _
      refine XS.iloadN X0.here hx rfl (hb hby d4_9) rfl ?_
      show Steps p.tables e below (s₁.setTop (mkF m 10 #[.val (.ref a1), .val (.int p2), .val (.int p3)] [(.int p3)])) _
      refine XS.iconst X0.here hx rfl (hb hby d4_10) ?_
      exact k
    by_cases hc_5 : p3 < (2 : Int32)
    · have pr_6 : ∀ t, Steps p.tables e below (s₁.setTop (mkF m 27 #[.val (.ref a1), .val (.int p2), .val (.int p3)] [(.int (3 : Int32)), (.int p3)])) t → Steps p.tables e below (s₁.setTop (entryFrame m #[(.ref a1), (.int p2), (.int p3)] 3)) t := fun t k => by
        refine pr_4 _ ?_
        show Steps p.tables e below (s₁.setTop (mkF m 11 #[.val (.ref a1), .val (.int p2), .val (.int p3)] [(.int (2 : Int32)), (.int p3)])) _
        refine XS.icmpYes X0.here hx rfl (pc0 := 11) (pc' := 25) rfl (hb hby d4_11) rfl (tlt hc_5).1 (by decide) (by decide) ?_
        show Steps p.tables e below (s₁.setTop (mkF m 25 #[.val (.ref a1), .val (.int p2), .val (.int p3)] [])) _
        refine XS.iloadN X0.here hx rfl (hb hby d4_25) rfl ?_
        show Steps p.tables e below (s₁.setTop (mkF m 26 #[.val (.ref a1), .val (.int p2), .val (.int p3)] [(.int p3)])) _
        refine XS.iconst X0.here hx rfl (hb hby d4_26) ?_
        exact k
      by_cases hc_7 : p3 < (3 : Int32)
      · have pr_8 : ∀ t, Steps p.tables e below (s₁.setTop (mkF m 43 #[.val (.ref a1), .val (.int p2), .val (.int p3)] [(.int (4 : Int32)), (.int p3)])) t → Steps p.tables e below (s₁.setTop (entryFrame m #[(.ref a1), (.int p2), (.int p3)] 3)) t := fun t k => by
          refine pr_6 _ ?_
          show Steps p.tables e below (s₁.setTop (mkF m 27 #[.val (.ref a1), .val (.int p2), .val (.int p3)] [(.int (3 : Int32)), (.int p3)])) _
          refine XS.icmpYes X0.here hx rfl (pc0 := 27) (pc' := 41) rfl (hb hby d4_27) rfl (tlt hc_7).1 (by decide) (by decide) ?_
          show Steps p.tables e below (s₁.setTop (mkF m 41 #[.val (.ref a1), .val (.int p2), .val (.int p3)] [])) _
          refine XS.iloadN X0.here hx rfl (hb hby d4_41) rfl ?_
          show Steps p.tables e below (s₁.setTop (mkF m 42 #[.val (.ref a1), .val (.int p2), .val (.int p3)] [(.int p3)])) _
          refine XS.iconst X0.here hx rfl (hb hby d4_42) ?_
          exact k
        by_cases hc_9 : p3 < (4 : Int32)
        · obtain ⟨fs, hr, hrun, hended, hW, hsame⟩ := X0.leave (v := some (.int (1 : Int32))) (fun h => by rw [Bd.returns] at h; cases h)
          refine ⟨_, _, pr_8 _ ?_, hrun, hended, _, _, rfl, ?_, ⟨_, rfl⟩, hW, hsame.mono (by decide) (by decide)⟩
          · show Steps p.tables e below (s₁.setTop (mkF m 43 #[.val (.ref a1), .val (.int p2), .val (.int p3)] [(.int (4 : Int32)), (.int p3)])) _
            refine XS.icmpYes X0.here hx rfl (pc0 := 43) (pc' := 57) rfl (hb hby d4_43) rfl (tlt hc_9).1 (by decide) (by decide) ?_
            show Steps p.tables e below (s₁.setTop (mkF m 57 #[.val (.ref a1), .val (.int p2), .val (.int p3)] [])) _
            refine XS.iconst X0.here hx rfl (hb hby d4_57) ?_
            show Steps p.tables e below (s₁.setTop (mkF m 58 #[.val (.ref a1), .val (.int p2), .val (.int p3)] [(.int (1 : Int32))])) _
            refine XS.goto X0.here hx rfl (pc0 := 58) (pc' := 62) rfl (hb hby d4_58) (by decide) (by decide) ?_
            show Steps p.tables e below (s₁.setTop (mkF m 62 #[.val (.ref a1), .val (.int p2), .val (.int p3)] [(.int (1 : Int32))])) _
            exact retN X0 hx (t := .boolean) Bd.returns (by simp) (hb hby d4_62) hr
          · show Q4 Z a1 p2 p3 f1 h0 n0 _ s₁.heap _
            rw [e0]
            exact ⟨by rw [own_same, if_pos hc_3, if_pos hc_5, if_pos hc_7, if_pos hc_9], N0, rfl⟩
        · have pr_10 : ∀ t, Steps p.tables e below (s₁.setTop (mkF m 54 #[.val (.ref a1), .val (.int p2), .val (.int p3)] [(.int (f1 ((p2 + (3 : Int32))).toNatClampNeg)), (.int (f1 3))])) t → Steps p.tables e below (s₁.setTop (entryFrame m #[(.ref a1), (.int p2), (.int p3)] 3)) t := fun t k => by
            refine pr_8 _ ?_
            show Steps p.tables e below (s₁.setTop (mkF m 43 #[.val (.ref a1), .val (.int p2), .val (.int p3)] [(.int (4 : Int32)), (.int p3)])) _
            refine XS.icmpNo X0.here hx rfl (hb hby d4_43) rfl (flt hc_9).1 ?_
            show Steps p.tables e below (s₁.setTop (mkF m 46 #[.val (.ref a1), .val (.int p2), .val (.int p3)] [])) _
            refine XS.aloadN X0.here hx rfl (hb hby d4_46) rfl rfl ?_
            show Steps p.tables e below (s₁.setTop (mkF m 47 #[.val (.ref a1), .val (.int p2), .val (.int p3)] [(.ref a1)])) _
            refine XS.iconst X0.here hx rfl (hb hby d4_47) ?_
            show Steps p.tables e below (s₁.setTop (mkF m 48 #[.val (.ref a1), .val (.int p2), .val (.int p3)] [(.int (3 : Int32)), (.ref a1)])) _
            refine X0.iaload hx (j := (3 : Int32)) (v := (.int (f1 3))) (by rw [e0]; exact Ar_1.1) (State.isArrayOf_alike hZ.alike Ar_1.2.1) Ar_1.2.2 (own_inb Sz_1 (show ¬ ((3 : Int32) < 0 ∨ 5 ≤ ((3 : Int32)).toNatClampNeg) from (by decide))) (by have q := At_1 _ (own_ltn (show ¬ ((3 : Int32) < 0 ∨ 5 ≤ ((3 : Int32)).toNatClampNeg) from (by decide))); rw [show ((3 : Int32)).toNatClampNeg = 3 from by decide] at q ⊢; exact q) (g := (mkF m 48 #[.val (.ref a1), .val (.int p2), .val (.int p3)] [(.int (3 : Int32)), (.ref a1)])) rfl rfl (hb hby d4_48) _ ?_
            show Steps p.tables e below (s₁.setTop (mkF m 49 #[.val (.ref a1), .val (.int p2), .val (.int p3)] [(.int (f1 3))])) _
            refine XS.aloadN X0.here hx rfl (hb hby d4_49) rfl rfl ?_
            show Steps p.tables e below (s₁.setTop (mkF m 50 #[.val (.ref a1), .val (.int p2), .val (.int p3)] [(.ref a1), (.int (f1 3))])) _
            refine XS.iloadN X0.here hx rfl (hb hby d4_50) rfl ?_
            show Steps p.tables e below (s₁.setTop (mkF m 51 #[.val (.ref a1), .val (.int p2), .val (.int p3)] [(.int p2), (.ref a1), (.int (f1 3))])) _
            refine XS.iconst X0.here hx rfl (hb hby d4_51) ?_
            show Steps p.tables e below (s₁.setTop (mkF m 52 #[.val (.ref a1), .val (.int p2), .val (.int p3)] [(.int (3 : Int32)), (.int p2), (.ref a1), (.int (f1 3))])) _
            refine XS.iadd X0.here hx rfl (hb hby d4_52) rfl ?_
            show Steps p.tables e below (s₁.setTop (mkF m 53 #[.val (.ref a1), .val (.int p2), .val (.int p3)] [(.int (p2 + (3 : Int32))), (.ref a1), (.int (f1 3))])) _
            refine X0.iaload hx (j := (p2 + (3 : Int32))) (v := (.int (f1 ((p2 + (3 : Int32))).toNatClampNeg))) (by rw [e0]; exact Ar_1.1) (State.isArrayOf_alike hZ.alike Ar_1.2.1) Ar_1.2.2 (own_inb Sz_1 (show ¬ ((p2 + (3 : Int32)) < 0 ∨ 5 ≤ ((p2 + (3 : Int32))).toNatClampNeg) from (own_same_in hq0 hq1 hq2 hc_9 rfl (by decide) (by decide)))) (At_1 _ (own_ltn (show ¬ ((p2 + (3 : Int32)) < 0 ∨ 5 ≤ ((p2 + (3 : Int32))).toNatClampNeg) from (own_same_in hq0 hq1 hq2 hc_9 rfl (by decide) (by decide))))) (g := (mkF m 53 #[.val (.ref a1), .val (.int p2), .val (.int p3)] [(.int (p2 + (3 : Int32))), (.ref a1), (.int (f1 3))])) rfl rfl (hb hby d4_53) _ ?_
            exact k
          by_cases hc_11 : (f1 3) = (f1 ((p2 + (3 : Int32))).toNatClampNeg)
          · obtain ⟨fs, hr, hrun, hended, hW, hsame⟩ := X0.leave (v := some (.int (1 : Int32))) (fun h => by rw [Bd.returns] at h; cases h)
            refine ⟨_, _, pr_10 _ ?_, hrun, hended, _, _, rfl, ?_, ⟨_, rfl⟩, hW, hsame.mono (by decide) (by decide)⟩
            · show Steps p.tables e below (s₁.setTop (mkF m 54 #[.val (.ref a1), .val (.int p2), .val (.int p3)] [(.int (f1 ((p2 + (3 : Int32))).toNatClampNeg)), (.int (f1 3))])) _
              refine XS.icmpNo X0.here hx rfl (hb hby d4_54) rfl (teq hc_11).2 ?_
              show Steps p.tables e below (s₁.setTop (mkF m 57 #[.val (.ref a1), .val (.int p2), .val (.int p3)] [])) _
              refine XS.iconst X0.here hx rfl (hb hby d4_57) ?_
              show Steps p.tables e below (s₁.setTop (mkF m 58 #[.val (.ref a1), .val (.int p2), .val (.int p3)] [(.int (1 : Int32))])) _
              refine XS.goto X0.here hx rfl (pc0 := 58) (pc' := 62) rfl (hb hby d4_58) (by decide) (by decide) ?_
              show Steps p.tables e below (s₁.setTop (mkF m 62 #[.val (.ref a1), .val (.int p2), .val (.int p3)] [(.int (1 : Int32))])) _
              exact retN X0 hx (t := .boolean) Bd.returns (by simp) (hb hby d4_62) hr
            · show Q4 Z a1 p2 p3 f1 h0 n0 _ s₁.heap _
              rw [e0]
              exact ⟨by rw [own_same, if_pos hc_3, if_pos hc_5, if_pos hc_7, if_neg hc_9, if_pos hc_11], N0, rfl⟩
          · obtain ⟨fs, hr, hrun, hended, hW, hsame⟩ := X0.leave (v := some (.int (0 : Int32))) (fun h => by rw [Bd.returns] at h; cases h)
            refine ⟨_, _, pr_10 _ ?_, hrun, hended, _, _, rfl, ?_, ⟨_, rfl⟩, hW, hsame.mono (by decide) (by decide)⟩
            · show Steps p.tables e below (s₁.setTop (mkF m 54 #[.val (.ref a1), .val (.int p2), .val (.int p3)] [(.int (f1 ((p2 + (3 : Int32))).toNatClampNeg)), (.int (f1 3))])) _
              refine XS.icmpYes X0.here hx rfl (pc0 := 54) (pc' := 61) rfl (hb hby d4_54) rfl (feq hc_11).2 (by decide) (by decide) ?_
              show Steps p.tables e below (s₁.setTop (mkF m 61 #[.val (.ref a1), .val (.int p2), .val (.int p3)] [])) _
              refine XS.iconst X0.here hx rfl (hb hby d4_61) ?_
              show Steps p.tables e below (s₁.setTop (mkF m 62 #[.val (.ref a1), .val (.int p2), .val (.int p3)] [(.int (0 : Int32))])) _
              exact retN X0 hx (t := .boolean) Bd.returns (by simp) (hb hby d4_62) hr
            · show Q4 Z a1 p2 p3 f1 h0 n0 _ s₁.heap _
              rw [e0]
              exact ⟨by rw [own_same, if_pos hc_3, if_pos hc_5, if_pos hc_7, if_neg hc_9, if_neg hc_11], N0, rfl⟩
      · have pr_12 : ∀ t, Steps p.tables e below (s₁.setTop (mkF m 38 #[.val (.ref a1), .val (.int p2), .val (.int p3)] [(.int (f1 ((p2 + (2 : Int32))).toNatClampNeg)), (.int (f1 2))])) t → Steps p.tables e below (s₁.setTop (entryFrame m #[(.ref a1), (.int p2), (.int p3)] 3)) t := fun t k => by
          refine pr_6 _ ?_
          show Steps p.tables e below (s₁.setTop (mkF m 27 #[.val (.ref a1), .val (.int p2), .val (.int p3)] [(.int (3 : Int32)), (.int p3)])) _
          refine XS.icmpNo X0.here hx rfl (hb hby d4_27) rfl (flt hc_7).1 ?_
          show Steps p.tables e below (s₁.setTop (mkF m 30 #[.val (.ref a1), .val (.int p2), .val (.int p3)] [])) _
          refine XS.aloadN X0.here hx rfl (hb hby d4_30) rfl rfl ?_
          show Steps p.tables e below (s₁.setTop (mkF m 31 #[.val (.ref a1), .val (.int p2), .val (.int p3)] [(.ref a1)])) _
          refine XS.iconst X0.here hx rfl (hb hby d4_31) ?_
          show Steps p.tables e below (s₁.setTop (mkF m 32 #[.val (.ref a1), .val (.int p2), .val (.int p3)] [(.int (2 : Int32)), (.ref a1)])) _
          refine X0.iaload hx (j := (2 : Int32)) (v := (.int (f1 2))) (by rw [e0]; exact Ar_1.1) (State.isArrayOf_alike hZ.alike Ar_1.2.1) Ar_1.2.2 (own_inb Sz_1 (show ¬ ((2 : Int32) < 0 ∨ 5 ≤ ((2 : Int32)).toNatClampNeg) from (by decide))) (by have q := At_1 _ (own_ltn (show ¬ ((2 : Int32) < 0 ∨ 5 ≤ ((2 : Int32)).toNatClampNeg) from (by decide))); rw [show ((2 : Int32)).toNatClampNeg = 2 from by decide] at q ⊢; exact q) (g := (mkF m 32 #[.val (.ref a1), .val (.int p2), .val (.int p3)] [(.int (2 : Int32)), (.ref a1)])) rfl rfl (hb hby d4_32) _ ?_
          show Steps p.tables e below (s₁.setTop (mkF m 33 #[.val (.ref a1), .val (.int p2), .val (.int p3)] [(.int (f1 2))])) _
          refine XS.aloadN X0.here hx rfl (hb hby d4_33) rfl rfl ?_
          show Steps p.tables e below (s₁.setTop (mkF m 34 #[.val (.ref a1), .val (.int p2), .val (.int p3)] [(.ref a1), (.int (f1 2))])) _
          refine XS.iloadN X0.here hx rfl (hb hby d4_34) rfl ?_
          show Steps p.tables e below (s₁.setTop (mkF m 35 #[.val (.ref a1), .val (.int p2), .val (.int p3)] [(.int p2), (.ref a1), (.int (f1 2))])) _
          refine XS.iconst X0.here hx rfl (hb hby d4_35) ?_
          show Steps p.tables e below (s₁.setTop (mkF m 36 #[.val (.ref a1), .val (.int p2), .val (.int p3)] [(.int (2 : Int32)), (.int p2), (.ref a1), (.int (f1 2))])) _
          refine XS.iadd X0.here hx rfl (hb hby d4_36) rfl ?_
          show Steps p.tables e below (s₁.setTop (mkF m 37 #[.val (.ref a1), .val (.int p2), .val (.int p3)] [(.int (p2 + (2 : Int32))), (.ref a1), (.int (f1 2))])) _
          refine X0.iaload hx (j := (p2 + (2 : Int32))) (v := (.int (f1 ((p2 + (2 : Int32))).toNatClampNeg))) (by rw [e0]; exact Ar_1.1) (State.isArrayOf_alike hZ.alike Ar_1.2.1) Ar_1.2.2 (own_inb Sz_1 (show ¬ ((p2 + (2 : Int32)) < 0 ∨ 5 ≤ ((p2 + (2 : Int32))).toNatClampNeg) from (own_same_in hq0 hq1 hq2 hc_7 rfl (by decide) (by decide)))) (At_1 _ (own_ltn (show ¬ ((p2 + (2 : Int32)) < 0 ∨ 5 ≤ ((p2 + (2 : Int32))).toNatClampNeg) from (own_same_in hq0 hq1 hq2 hc_7 rfl (by decide) (by decide))))) (g := (mkF m 37 #[.val (.ref a1), .val (.int p2), .val (.int p3)] [(.int (p2 + (2 : Int32))), (.ref a1), (.int (f1 2))])) rfl rfl (hb hby d4_37) _ ?_
          exact k
        by_cases hc_13 : (f1 2) = (f1 ((p2 + (2 : Int32))).toNatClampNeg)
        · have pr_14 : ∀ t, Steps p.tables e below (s₁.setTop (mkF m 43 #[.val (.ref a1), .val (.int p2), .val (.int p3)] [(.int (4 : Int32)), (.int p3)])) t → Steps p.tables e below (s₁.setTop (entryFrame m #[(.ref a1), (.int p2), (.int p3)] 3)) t := fun t k => by
            refine pr_12 _ ?_
            show Steps p.tables e below (s₁.setTop (mkF m 38 #[.val (.ref a1), .val (.int p2), .val (.int p3)] [(.int (f1 ((p2 + (2 : Int32))).toNatClampNeg)), (.int (f1 2))])) _
            refine XS.icmpNo X0.here hx rfl (hb hby d4_38) rfl (teq hc_13).2 ?_
            show Steps p.tables e below (s₁.setTop (mkF m 41 #[.val (.ref a1), .val (.int p2), .val (.int p3)] [])) _
            refine XS.iloadN X0.here hx rfl (hb hby d4_41) rfl ?_
            show Steps p.tables e below (s₁.setTop (mkF m 42 #[.val (.ref a1), .val (.int p2), .val (.int p3)] [(.int p3)])) _
            refine XS.iconst X0.here hx rfl (hb hby d4_42) ?_
            exact k
          by_cases hc_15 : p3 < (4 : Int32)
          · obtain ⟨fs, hr, hrun, hended, hW, hsame⟩ := X0.leave (v := some (.int (1 : Int32))) (fun h => by rw [Bd.returns] at h; cases h)
            refine ⟨_, _, pr_14 _ ?_, hrun, hended, _, _, rfl, ?_, ⟨_, rfl⟩, hW, hsame.mono (by decide) (by decide)⟩
            · show Steps p.tables e below (s₁.setTop (mkF m 43 #[.val (.ref a1), .val (.int p2), .val (.int p3)] [(.int (4 : Int32)), (.int p3)])) _
              refine XS.icmpYes X0.here hx rfl (pc0 := 43) (pc' := 57) rfl (hb hby d4_43) rfl (tlt hc_15).1 (by decide) (by decide) ?_
              show Steps p.tables e below (s₁.setTop (mkF m 57 #[.val (.ref a1), .val (.int p2), .val (.int p3)] [])) _
              refine XS.iconst X0.here hx rfl (hb hby d4_57) ?_
              show Steps p.tables e below (s₁.setTop (mkF m 58 #[.val (.ref a1), .val (.int p2), .val (.int p3)] [(.int (1 : Int32))])) _
              refine XS.goto X0.here hx rfl (pc0 := 58) (pc' := 62) rfl (hb hby d4_58) (by decide) (by decide) ?_
              show Steps p.tables e below (s₁.setTop (mkF m 62 #[.val (.ref a1), .val (.int p2), .val (.int p3)] [(.int (1 : Int32))])) _
              exact retN X0 hx (t := .boolean) Bd.returns (by simp) (hb hby d4_62) hr
            · show Q4 Z a1 p2 p3 f1 h0 n0 _ s₁.heap _
              rw [e0]
              exact ⟨by rw [own_same, if_pos hc_3, if_pos hc_5, if_neg hc_7, if_pos hc_13, if_pos hc_15], N0, rfl⟩
          · have pr_16 : ∀ t, Steps p.tables e below (s₁.setTop (mkF m 54 #[.val (.ref a1), .val (.int p2), .val (.int p3)] [(.int (f1 ((p2 + (3 : Int32))).toNatClampNeg)), (.int (f1 3))])) t → Steps p.tables e below (s₁.setTop (entryFrame m #[(.ref a1), (.int p2), (.int p3)] 3)) t := fun t k => by
              refine pr_14 _ ?_
              show Steps p.tables e below (s₁.setTop (mkF m 43 #[.val (.ref a1), .val (.int p2), .val (.int p3)] [(.int (4 : Int32)), (.int p3)])) _
              refine XS.icmpNo X0.here hx rfl (hb hby d4_43) rfl (flt hc_15).1 ?_
              show Steps p.tables e below (s₁.setTop (mkF m 46 #[.val (.ref a1), .val (.int p2), .val (.int p3)] [])) _
              refine XS.aloadN X0.here hx rfl (hb hby d4_46) rfl rfl ?_
              show Steps p.tables e below (s₁.setTop (mkF m 47 #[.val (.ref a1), .val (.int p2), .val (.int p3)] [(.ref a1)])) _
              refine XS.iconst X0.here hx rfl (hb hby d4_47) ?_
              show Steps p.tables e below (s₁.setTop (mkF m 48 #[.val (.ref a1), .val (.int p2), .val (.int p3)] [(.int (3 : Int32)), (.ref a1)])) _
              refine X0.iaload hx (j := (3 : Int32)) (v := (.int (f1 3))) (by rw [e0]; exact Ar_1.1) (State.isArrayOf_alike hZ.alike Ar_1.2.1) Ar_1.2.2 (own_inb Sz_1 (show ¬ ((3 : Int32) < 0 ∨ 5 ≤ ((3 : Int32)).toNatClampNeg) from (by decide))) (by have q := At_1 _ (own_ltn (show ¬ ((3 : Int32) < 0 ∨ 5 ≤ ((3 : Int32)).toNatClampNeg) from (by decide))); rw [show ((3 : Int32)).toNatClampNeg = 3 from by decide] at q ⊢; exact q) (g := (mkF m 48 #[.val (.ref a1), .val (.int p2), .val (.int p3)] [(.int (3 : Int32)), (.ref a1)])) rfl rfl (hb hby d4_48) _ ?_
              show Steps p.tables e below (s₁.setTop (mkF m 49 #[.val (.ref a1), .val (.int p2), .val (.int p3)] [(.int (f1 3))])) _
              refine XS.aloadN X0.here hx rfl (hb hby d4_49) rfl rfl ?_
              show Steps p.tables e below (s₁.setTop (mkF m 50 #[.val (.ref a1), .val (.int p2), .val (.int p3)] [(.ref a1), (.int (f1 3))])) _
              refine XS.iloadN X0.here hx rfl (hb hby d4_50) rfl ?_
              show Steps p.tables e below (s₁.setTop (mkF m 51 #[.val (.ref a1), .val (.int p2), .val (.int p3)] [(.int p2), (.ref a1), (.int (f1 3))])) _
              refine XS.iconst X0.here hx rfl (hb hby d4_51) ?_
              show Steps p.tables e below (s₁.setTop (mkF m 52 #[.val (.ref a1), .val (.int p2), .val (.int p3)] [(.int (3 : Int32)), (.int p2), (.ref a1), (.int (f1 3))])) _
              refine XS.iadd X0.here hx rfl (hb hby d4_52) rfl ?_
              show Steps p.tables e below (s₁.setTop (mkF m 53 #[.val (.ref a1), .val (.int p2), .val (.int p3)] [(.int (p2 + (3 : Int32))), (.ref a1), (.int (f1 3))])) _
              refine X0.iaload hx (j := (p2 + (3 : Int32))) (v := (.int (f1 ((p2 + (3 : Int32))).toNatClampNeg))) (by rw [e0]; exact Ar_1.1) (State.isArrayOf_alike hZ.alike Ar_1.2.1) Ar_1.2.2 (own_inb Sz_1 (show ¬ ((p2 + (3 : Int32)) < 0 ∨ 5 ≤ ((p2 + (3 : Int32))).toNatClampNeg) from (own_same_in hq0 hq1 hq2 hc_15 rfl (by decide) (by decide)))) (At_1 _ (own_ltn (show ¬ ((p2 + (3 : Int32)) < 0 ∨ 5 ≤ ((p2 + (3 : Int32))).toNatClampNeg) from (own_same_in hq0 hq1 hq2 hc_15 rfl (by decide) (by decide))))) (g := (mkF m 53 #[.val (.ref a1), .val (.int p2), .val (.int p3)] [(.int (p2 + (3 : Int32))), (.ref a1), (.int (f1 3))])) rfl rfl (hb hby d4_53) _ ?_
              exact k
            by_cases hc_17 : (f1 3) = (f1 ((p2 + (3 : Int32))).toNatClampNeg)
            · obtain ⟨fs, hr, hrun, hended, hW, hsame⟩ := X0.leave (v := some (.int (1 : Int32))) (fun h => by rw [Bd.returns] at h; cases h)
              refine ⟨_, _, pr_16 _ ?_, hrun, hended, _, _, rfl, ?_, ⟨_, rfl⟩, hW, hsame.mono (by decide) (by decide)⟩
              · show Steps p.tables e below (s₁.setTop (mkF m 54 #[.val (.ref a1), .val (.int p2), .val (.int p3)] [(.int (f1 ((p2 + (3 : Int32))).toNatClampNeg)), (.int (f1 3))])) _
                refine XS.icmpNo X0.here hx rfl (hb hby d4_54) rfl (teq hc_17).2 ?_
                show Steps p.tables e below (s₁.setTop (mkF m 57 #[.val (.ref a1), .val (.int p2), .val (.int p3)] [])) _
                refine XS.iconst X0.here hx rfl (hb hby d4_57) ?_
                show Steps p.tables e below (s₁.setTop (mkF m 58 #[.val (.ref a1), .val (.int p2), .val (.int p3)] [(.int (1 : Int32))])) _
                refine XS.goto X0.here hx rfl (pc0 := 58) (pc' := 62) rfl (hb hby d4_58) (by decide) (by decide) ?_
                show Steps p.tables e below (s₁.setTop (mkF m 62 #[.val (.ref a1), .val (.int p2), .val (.int p3)] [(.int (1 : Int32))])) _
                exact retN X0 hx (t := .boolean) Bd.returns (by simp) (hb hby d4_62) hr
              · show Q4 Z a1 p2 p3 f1 h0 n0 _ s₁.heap _
                rw [e0]
                exact ⟨by rw [own_same, if_pos hc_3, if_pos hc_5, if_neg hc_7, if_pos hc_13, if_neg hc_15, if_pos hc_17], N0, rfl⟩
            · obtain ⟨fs, hr, hrun, hended, hW, hsame⟩ := X0.leave (v := some (.int (0 : Int32))) (fun h => by rw [Bd.returns] at h; cases h)
              refine ⟨_, _, pr_16 _ ?_, hrun, hended, _, _, rfl, ?_, ⟨_, rfl⟩, hW, hsame.mono (by decide) (by decide)⟩
              · show Steps p.tables e below (s₁.setTop (mkF m 54 #[.val (.ref a1), .val (.int p2), .val (.int p3)] [(.int (f1 ((p2 + (3 : Int32))).toNatClampNeg)), (.int (f1 3))])) _
                refine XS.icmpYes X0.here hx rfl (pc0 := 54) (pc' := 61) rfl (hb hby d4_54) rfl (feq hc_17).2 (by decide) (by decide) ?_
                show Steps p.tables e below (s₁.setTop (mkF m 61 #[.val (.ref a1), .val (.int p2), .val (.int p3)] [])) _
                refine XS.iconst X0.here hx rfl (hb hby d4_61) ?_
                show Steps p.tables e below (s₁.setTop (mkF m 62 #[.val (.ref a1), .val (.int p2), .val (.int p3)] [(.int (0 : Int32))])) _
                exact retN X0 hx (t := .boolean) Bd.returns (by simp) (hb hby d4_62) hr
              · show Q4 Z a1 p2 p3 f1 h0 n0 _ s₁.heap _
                rw [e0]
                exact ⟨by rw [own_same, if_pos hc_3, if_pos hc_5, if_neg hc_7, if_pos hc_13, if_neg hc_15, if_neg hc_17], N0, rfl⟩
        · obtain ⟨fs, hr, hrun, hended, hW, hsame⟩ := X0.leave (v := some (.int (0 : Int32))) (fun h => by rw [Bd.returns] at h; cases h)
          refine ⟨_, _, pr_12 _ ?_, hrun, hended, _, _, rfl, ?_, ⟨_, rfl⟩, hW, hsame.mono (by decide) (by decide)⟩
          · show Steps p.tables e below (s₁.setTop (mkF m 38 #[.val (.ref a1), .val (.int p2), .val (.int p3)] [(.int (f1 ((p2 + (2 : Int32))).toNatClampNeg)), (.int (f1 2))])) _
            refine XS.icmpYes X0.here hx rfl (pc0 := 38) (pc' := 61) rfl (hb hby d4_38) rfl (feq hc_13).2 (by decide) (by decide) ?_
            show Steps p.tables e below (s₁.setTop (mkF m 61 #[.val (.ref a1), .val (.int p2), .val (.int p3)] [])) _
            refine XS.iconst X0.here hx rfl (hb hby d4_61) ?_
            show Steps p.tables e below (s₁.setTop (mkF m 62 #[.val (.ref a1), .val (.int p2), .val (.int p3)] [(.int (0 : Int32))])) _
            exact retN X0 hx (t := .boolean) Bd.returns (by simp) (hb hby d4_62) hr
          · show Q4 Z a1 p2 p3 f1 h0 n0 _ s₁.heap _
            rw [e0]
            exact ⟨by rw [own_same, if_pos hc_3, if_pos hc_5, if_neg hc_7, if_neg hc_13], N0, rfl⟩
    · have pr_18 : ∀ t, Steps p.tables e below (s₁.setTop (mkF m 22 #[.val (.ref a1), .val (.int p2), .val (.int p3)] [(.int (f1 ((p2 + (1 : Int32))).toNatClampNeg)), (.int (f1 1))])) t → Steps p.tables e below (s₁.setTop (entryFrame m #[(.ref a1), (.int p2), (.int p3)] 3)) t := fun t k => by
        refine pr_4 _ ?_
        show Steps p.tables e below (s₁.setTop (mkF m 11 #[.val (.ref a1), .val (.int p2), .val (.int p3)] [(.int (2 : Int32)), (.int p3)])) _
        refine XS.icmpNo X0.here hx rfl (hb hby d4_11) rfl (flt hc_5).1 ?_
        show Steps p.tables e below (s₁.setTop (mkF m 14 #[.val (.ref a1), .val (.int p2), .val (.int p3)] [])) _
        refine XS.aloadN X0.here hx rfl (hb hby d4_14) rfl rfl ?_
        show Steps p.tables e below (s₁.setTop (mkF m 15 #[.val (.ref a1), .val (.int p2), .val (.int p3)] [(.ref a1)])) _
        refine XS.iconst X0.here hx rfl (hb hby d4_15) ?_
        show Steps p.tables e below (s₁.setTop (mkF m 16 #[.val (.ref a1), .val (.int p2), .val (.int p3)] [(.int (1 : Int32)), (.ref a1)])) _
        refine X0.iaload hx (j := (1 : Int32)) (v := (.int (f1 1))) (by rw [e0]; exact Ar_1.1) (State.isArrayOf_alike hZ.alike Ar_1.2.1) Ar_1.2.2 (own_inb Sz_1 (show ¬ ((1 : Int32) < 0 ∨ 5 ≤ ((1 : Int32)).toNatClampNeg) from (by decide))) (by have q := At_1 _ (own_ltn (show ¬ ((1 : Int32) < 0 ∨ 5 ≤ ((1 : Int32)).toNatClampNeg) from (by decide))); rw [show ((1 : Int32)).toNatClampNeg = 1 from by decide] at q ⊢; exact q) (g := (mkF m 16 #[.val (.ref a1), .val (.int p2), .val (.int p3)] [(.int (1 : Int32)), (.ref a1)])) rfl rfl (hb hby d4_16) _ ?_
        show Steps p.tables e below (s₁.setTop (mkF m 17 #[.val (.ref a1), .val (.int p2), .val (.int p3)] [(.int (f1 1))])) _
        refine XS.aloadN X0.here hx rfl (hb hby d4_17) rfl rfl ?_
        show Steps p.tables e below (s₁.setTop (mkF m 18 #[.val (.ref a1), .val (.int p2), .val (.int p3)] [(.ref a1), (.int (f1 1))])) _
        refine XS.iloadN X0.here hx rfl (hb hby d4_18) rfl ?_
        show Steps p.tables e below (s₁.setTop (mkF m 19 #[.val (.ref a1), .val (.int p2), .val (.int p3)] [(.int p2), (.ref a1), (.int (f1 1))])) _
        refine XS.iconst X0.here hx rfl (hb hby d4_19) ?_
        show Steps p.tables e below (s₁.setTop (mkF m 20 #[.val (.ref a1), .val (.int p2), .val (.int p3)] [(.int (1 : Int32)), (.int p2), (.ref a1), (.int (f1 1))])) _
        refine XS.iadd X0.here hx rfl (hb hby d4_20) rfl ?_
        show Steps p.tables e below (s₁.setTop (mkF m 21 #[.val (.ref a1), .val (.int p2), .val (.int p3)] [(.int (p2 + (1 : Int32))), (.ref a1), (.int (f1 1))])) _
        refine X0.iaload hx (j := (p2 + (1 : Int32))) (v := (.int (f1 ((p2 + (1 : Int32))).toNatClampNeg))) (by rw [e0]; exact Ar_1.1) (State.isArrayOf_alike hZ.alike Ar_1.2.1) Ar_1.2.2 (own_inb Sz_1 (show ¬ ((p2 + (1 : Int32)) < 0 ∨ 5 ≤ ((p2 + (1 : Int32))).toNatClampNeg) from (own_same_in hq0 hq1 hq2 hc_5 rfl (by decide) (by decide)))) (At_1 _ (own_ltn (show ¬ ((p2 + (1 : Int32)) < 0 ∨ 5 ≤ ((p2 + (1 : Int32))).toNatClampNeg) from (own_same_in hq0 hq1 hq2 hc_5 rfl (by decide) (by decide))))) (g := (mkF m 21 #[.val (.ref a1), .val (.int p2), .val (.int p3)] [(.int (p2 + (1 : Int32))), (.ref a1), (.int (f1 1))])) rfl rfl (hb hby d4_21) _ ?_
        exact k
      by_cases hc_19 : (f1 1) = (f1 ((p2 + (1 : Int32))).toNatClampNeg)
      · have pr_20 : ∀ t, Steps p.tables e below (s₁.setTop (mkF m 27 #[.val (.ref a1), .val (.int p2), .val (.int p3)] [(.int (3 : Int32)), (.int p3)])) t → Steps p.tables e below (s₁.setTop (entryFrame m #[(.ref a1), (.int p2), (.int p3)] 3)) t := fun t k => by
          refine pr_18 _ ?_
          show Steps p.tables e below (s₁.setTop (mkF m 22 #[.val (.ref a1), .val (.int p2), .val (.int p3)] [(.int (f1 ((p2 + (1 : Int32))).toNatClampNeg)), (.int (f1 1))])) _
          refine XS.icmpNo X0.here hx rfl (hb hby d4_22) rfl (teq hc_19).2 ?_
          show Steps p.tables e below (s₁.setTop (mkF m 25 #[.val (.ref a1), .val (.int p2), .val (.int p3)] [])) _
          refine XS.iloadN X0.here hx rfl (hb hby d4_25) rfl ?_
          show Steps p.tables e below (s₁.setTop (mkF m 26 #[.val (.ref a1), .val (.int p2), .val (.int p3)] [(.int p3)])) _
          refine XS.iconst X0.here hx rfl (hb hby d4_26) ?_
          exact k
        by_cases hc_21 : p3 < (3 : Int32)
        · have pr_22 : ∀ t, Steps p.tables e below (s₁.setTop (mkF m 43 #[.val (.ref a1), .val (.int p2), .val (.int p3)] [(.int (4 : Int32)), (.int p3)])) t → Steps p.tables e below (s₁.setTop (entryFrame m #[(.ref a1), (.int p2), (.int p3)] 3)) t := fun t k => by
            refine pr_20 _ ?_
            show Steps p.tables e below (s₁.setTop (mkF m 27 #[.val (.ref a1), .val (.int p2), .val (.int p3)] [(.int (3 : Int32)), (.int p3)])) _
            refine XS.icmpYes X0.here hx rfl (pc0 := 27) (pc' := 41) rfl (hb hby d4_27) rfl (tlt hc_21).1 (by decide) (by decide) ?_
            show Steps p.tables e below (s₁.setTop (mkF m 41 #[.val (.ref a1), .val (.int p2), .val (.int p3)] [])) _
            refine XS.iloadN X0.here hx rfl (hb hby d4_41) rfl ?_
            show Steps p.tables e below (s₁.setTop (mkF m 42 #[.val (.ref a1), .val (.int p2), .val (.int p3)] [(.int p3)])) _
            refine XS.iconst X0.here hx rfl (hb hby d4_42) ?_
            exact k
          by_cases hc_23 : p3 < (4 : Int32)
          · obtain ⟨fs, hr, hrun, hended, hW, hsame⟩ := X0.leave (v := some (.int (1 : Int32))) (fun h => by rw [Bd.returns] at h; cases h)
            refine ⟨_, _, pr_22 _ ?_, hrun, hended, _, _, rfl, ?_, ⟨_, rfl⟩, hW, hsame.mono (by decide) (by decide)⟩
            · show Steps p.tables e below (s₁.setTop (mkF m 43 #[.val (.ref a1), .val (.int p2), .val (.int p3)] [(.int (4 : Int32)), (.int p3)])) _
              refine XS.icmpYes X0.here hx rfl (pc0 := 43) (pc' := 57) rfl (hb hby d4_43) rfl (tlt hc_23).1 (by decide) (by decide) ?_
              show Steps p.tables e below (s₁.setTop (mkF m 57 #[.val (.ref a1), .val (.int p2), .val (.int p3)] [])) _
              refine XS.iconst X0.here hx rfl (hb hby d4_57) ?_
              show Steps p.tables e below (s₁.setTop (mkF m 58 #[.val (.ref a1), .val (.int p2), .val (.int p3)] [(.int (1 : Int32))])) _
              refine XS.goto X0.here hx rfl (pc0 := 58) (pc' := 62) rfl (hb hby d4_58) (by decide) (by decide) ?_
              show Steps p.tables e below (s₁.setTop (mkF m 62 #[.val (.ref a1), .val (.int p2), .val (.int p3)] [(.int (1 : Int32))])) _
              exact retN X0 hx (t := .boolean) Bd.returns (by simp) (hb hby d4_62) hr
            · show Q4 Z a1 p2 p3 f1 h0 n0 _ s₁.heap _
              rw [e0]
              exact ⟨by rw [own_same, if_pos hc_3, if_neg hc_5, if_pos hc_19, if_pos hc_21, if_pos hc_23], N0, rfl⟩
          · have pr_24 : ∀ t, Steps p.tables e below (s₁.setTop (mkF m 54 #[.val (.ref a1), .val (.int p2), .val (.int p3)] [(.int (f1 ((p2 + (3 : Int32))).toNatClampNeg)), (.int (f1 3))])) t → Steps p.tables e below (s₁.setTop (entryFrame m #[(.ref a1), (.int p2), (.int p3)] 3)) t := fun t k => by
              refine pr_22 _ ?_
              show Steps p.tables e below (s₁.setTop (mkF m 43 #[.val (.ref a1), .val (.int p2), .val (.int p3)] [(.int (4 : Int32)), (.int p3)])) _
              refine XS.icmpNo X0.here hx rfl (hb hby d4_43) rfl (flt hc_23).1 ?_
              show Steps p.tables e below (s₁.setTop (mkF m 46 #[.val (.ref a1), .val (.int p2), .val (.int p3)] [])) _
              refine XS.aloadN X0.here hx rfl (hb hby d4_46) rfl rfl ?_
              show Steps p.tables e below (s₁.setTop (mkF m 47 #[.val (.ref a1), .val (.int p2), .val (.int p3)] [(.ref a1)])) _
              refine XS.iconst X0.here hx rfl (hb hby d4_47) ?_
              show Steps p.tables e below (s₁.setTop (mkF m 48 #[.val (.ref a1), .val (.int p2), .val (.int p3)] [(.int (3 : Int32)), (.ref a1)])) _
              refine X0.iaload hx (j := (3 : Int32)) (v := (.int (f1 3))) (by rw [e0]; exact Ar_1.1) (State.isArrayOf_alike hZ.alike Ar_1.2.1) Ar_1.2.2 (own_inb Sz_1 (show ¬ ((3 : Int32) < 0 ∨ 5 ≤ ((3 : Int32)).toNatClampNeg) from (by decide))) (by have q := At_1 _ (own_ltn (show ¬ ((3 : Int32) < 0 ∨ 5 ≤ ((3 : Int32)).toNatClampNeg) from (by decide))); rw [show ((3 : Int32)).toNatClampNeg = 3 from by decide] at q ⊢; exact q) (g := (mkF m 48 #[.val (.ref a1), .val (.int p2), .val (.int p3)] [(.int (3 : Int32)), (.ref a1)])) rfl rfl (hb hby d4_48) _ ?_
              show Steps p.tables e below (s₁.setTop (mkF m 49 #[.val (.ref a1), .val (.int p2), .val (.int p3)] [(.int (f1 3))])) _
              refine XS.aloadN X0.here hx rfl (hb hby d4_49) rfl rfl ?_
              show Steps p.tables e below (s₁.setTop (mkF m 50 #[.val (.ref a1), .val (.int p2), .val (.int p3)] [(.ref a1), (.int (f1 3))])) _
              refine XS.iloadN X0.here hx rfl (hb hby d4_50) rfl ?_
              show Steps p.tables e below (s₁.setTop (mkF m 51 #[.val (.ref a1), .val (.int p2), .val (.int p3)] [(.int p2), (.ref a1), (.int (f1 3))])) _
              refine XS.iconst X0.here hx rfl (hb hby d4_51) ?_
              show Steps p.tables e below (s₁.setTop (mkF m 52 #[.val (.ref a1), .val (.int p2), .val (.int p3)] [(.int (3 : Int32)), (.int p2), (.ref a1), (.int (f1 3))])) _
              refine XS.iadd X0.here hx rfl (hb hby d4_52) rfl ?_
              show Steps p.tables e below (s₁.setTop (mkF m 53 #[.val (.ref a1), .val (.int p2), .val (.int p3)] [(.int (p2 + (3 : Int32))), (.ref a1), (.int (f1 3))])) _
              refine X0.iaload hx (j := (p2 + (3 : Int32))) (v := (.int (f1 ((p2 + (3 : Int32))).toNatClampNeg))) (by rw [e0]; exact Ar_1.1) (State.isArrayOf_alike hZ.alike Ar_1.2.1) Ar_1.2.2 (own_inb Sz_1 (show ¬ ((p2 + (3 : Int32)) < 0 ∨ 5 ≤ ((p2 + (3 : Int32))).toNatClampNeg) from (own_same_in hq0 hq1 hq2 hc_23 rfl (by decide) (by decide)))) (At_1 _ (own_ltn (show ¬ ((p2 + (3 : Int32)) < 0 ∨ 5 ≤ ((p2 + (3 : Int32))).toNatClampNeg) from (own_same_in hq0 hq1 hq2 hc_23 rfl (by decide) (by decide))))) (g := (mkF m 53 #[.val (.ref a1), .val (.int p2), .val (.int p3)] [(.int (p2 + (3 : Int32))), (.ref a1), (.int (f1 3))])) rfl rfl (hb hby d4_53) _ ?_
              exact k
            by_cases hc_25 : (f1 3) = (f1 ((p2 + (3 : Int32))).toNatClampNeg)
            · obtain ⟨fs, hr, hrun, hended, hW, hsame⟩ := X0.leave (v := some (.int (1 : Int32))) (fun h => by rw [Bd.returns] at h; cases h)
              refine ⟨_, _, pr_24 _ ?_, hrun, hended, _, _, rfl, ?_, ⟨_, rfl⟩, hW, hsame.mono (by decide) (by decide)⟩
              · show Steps p.tables e below (s₁.setTop (mkF m 54 #[.val (.ref a1), .val (.int p2), .val (.int p3)] [(.int (f1 ((p2 + (3 : Int32))).toNatClampNeg)), (.int (f1 3))])) _
                refine XS.icmpNo X0.here hx rfl (hb hby d4_54) rfl (teq hc_25).2 ?_
                show Steps p.tables e below (s₁.setTop (mkF m 57 #[.val (.ref a1), .val (.int p2), .val (.int p3)] [])) _
                refine XS.iconst X0.here hx rfl (hb hby d4_57) ?_
                show Steps p.tables e below (s₁.setTop (mkF m 58 #[.val (.ref a1), .val (.int p2), .val (.int p3)] [(.int (1 : Int32))])) _
                refine XS.goto X0.here hx rfl (pc0 := 58) (pc' := 62) rfl (hb hby d4_58) (by decide) (by decide) ?_
                show Steps p.tables e below (s₁.setTop (mkF m 62 #[.val (.ref a1), .val (.int p2), .val (.int p3)] [(.int (1 : Int32))])) _
                exact retN X0 hx (t := .boolean) Bd.returns (by simp) (hb hby d4_62) hr
              · show Q4 Z a1 p2 p3 f1 h0 n0 _ s₁.heap _
                rw [e0]
                exact ⟨by rw [own_same, if_pos hc_3, if_neg hc_5, if_pos hc_19, if_pos hc_21, if_neg hc_23, if_pos hc_25], N0, rfl⟩
            · obtain ⟨fs, hr, hrun, hended, hW, hsame⟩ := X0.leave (v := some (.int (0 : Int32))) (fun h => by rw [Bd.returns] at h; cases h)
              refine ⟨_, _, pr_24 _ ?_, hrun, hended, _, _, rfl, ?_, ⟨_, rfl⟩, hW, hsame.mono (by decide) (by decide)⟩
              · show Steps p.tables e below (s₁.setTop (mkF m 54 #[.val (.ref a1), .val (.int p2), .val (.int p3)] [(.int (f1 ((p2 + (3 : Int32))).toNatClampNeg)), (.int (f1 3))])) _
                refine XS.icmpYes X0.here hx rfl (pc0 := 54) (pc' := 61) rfl (hb hby d4_54) rfl (feq hc_25).2 (by decide) (by decide) ?_
                show Steps p.tables e below (s₁.setTop (mkF m 61 #[.val (.ref a1), .val (.int p2), .val (.int p3)] [])) _
                refine XS.iconst X0.here hx rfl (hb hby d4_61) ?_
                show Steps p.tables e below (s₁.setTop (mkF m 62 #[.val (.ref a1), .val (.int p2), .val (.int p3)] [(.int (0 : Int32))])) _
                exact retN X0 hx (t := .boolean) Bd.returns (by simp) (hb hby d4_62) hr
              · show Q4 Z a1 p2 p3 f1 h0 n0 _ s₁.heap _
                rw [e0]
                exact ⟨by rw [own_same, if_pos hc_3, if_neg hc_5, if_pos hc_19, if_pos hc_21, if_neg hc_23, if_neg hc_25], N0, rfl⟩
        · have pr_26 : ∀ t, Steps p.tables e below (s₁.setTop (mkF m 38 #[.val (.ref a1), .val (.int p2), .val (.int p3)] [(.int (f1 ((p2 + (2 : Int32))).toNatClampNeg)), (.int (f1 2))])) t → Steps p.tables e below (s₁.setTop (entryFrame m #[(.ref a1), (.int p2), (.int p3)] 3)) t := fun t k => by
            refine pr_20 _ ?_
            show Steps p.tables e below (s₁.setTop (mkF m 27 #[.val (.ref a1), .val (.int p2), .val (.int p3)] [(.int (3 : Int32)), (.int p3)])) _
            refine XS.icmpNo X0.here hx rfl (hb hby d4_27) rfl (flt hc_21).1 ?_
            show Steps p.tables e below (s₁.setTop (mkF m 30 #[.val (.ref a1), .val (.int p2), .val (.int p3)] [])) _
            refine XS.aloadN X0.here hx rfl (hb hby d4_30) rfl rfl ?_
            show Steps p.tables e below (s₁.setTop (mkF m 31 #[.val (.ref a1), .val (.int p2), .val (.int p3)] [(.ref a1)])) _
            refine XS.iconst X0.here hx rfl (hb hby d4_31) ?_
            show Steps p.tables e below (s₁.setTop (mkF m 32 #[.val (.ref a1), .val (.int p2), .val (.int p3)] [(.int (2 : Int32)), (.ref a1)])) _
            refine X0.iaload hx (j := (2 : Int32)) (v := (.int (f1 2))) (by rw [e0]; exact Ar_1.1) (State.isArrayOf_alike hZ.alike Ar_1.2.1) Ar_1.2.2 (own_inb Sz_1 (show ¬ ((2 : Int32) < 0 ∨ 5 ≤ ((2 : Int32)).toNatClampNeg) from (by decide))) (by have q := At_1 _ (own_ltn (show ¬ ((2 : Int32) < 0 ∨ 5 ≤ ((2 : Int32)).toNatClampNeg) from (by decide))); rw [show ((2 : Int32)).toNatClampNeg = 2 from by decide] at q ⊢; exact q) (g := (mkF m 32 #[.val (.ref a1), .val (.int p2), .val (.int p3)] [(.int (2 : Int32)), (.ref a1)])) rfl rfl (hb hby d4_32) _ ?_
            show Steps p.tables e below (s₁.setTop (mkF m 33 #[.val (.ref a1), .val (.int p2), .val (.int p3)] [(.int (f1 2))])) _
            refine XS.aloadN X0.here hx rfl (hb hby d4_33) rfl rfl ?_
            show Steps p.tables e below (s₁.setTop (mkF m 34 #[.val (.ref a1), .val (.int p2), .val (.int p3)] [(.ref a1), (.int (f1 2))])) _
            refine XS.iloadN X0.here hx rfl (hb hby d4_34) rfl ?_
            show Steps p.tables e below (s₁.setTop (mkF m 35 #[.val (.ref a1), .val (.int p2), .val (.int p3)] [(.int p2), (.ref a1), (.int (f1 2))])) _
            refine XS.iconst X0.here hx rfl (hb hby d4_35) ?_
            show Steps p.tables e below (s₁.setTop (mkF m 36 #[.val (.ref a1), .val (.int p2), .val (.int p3)] [(.int (2 : Int32)), (.int p2), (.ref a1), (.int (f1 2))])) _
            refine XS.iadd X0.here hx rfl (hb hby d4_36) rfl ?_
            show Steps p.tables e below (s₁.setTop (mkF m 37 #[.val (.ref a1), .val (.int p2), .val (.int p3)] [(.int (p2 + (2 : Int32))), (.ref a1), (.int (f1 2))])) _
            refine X0.iaload hx (j := (p2 + (2 : Int32))) (v := (.int (f1 ((p2 + (2 : Int32))).toNatClampNeg))) (by rw [e0]; exact Ar_1.1) (State.isArrayOf_alike hZ.alike Ar_1.2.1) Ar_1.2.2 (own_inb Sz_1 (show ¬ ((p2 + (2 : Int32)) < 0 ∨ 5 ≤ ((p2 + (2 : Int32))).toNatClampNeg) from (own_same_in hq0 hq1 hq2 hc_21 rfl (by decide) (by decide)))) (At_1 _ (own_ltn (show ¬ ((p2 + (2 : Int32)) < 0 ∨ 5 ≤ ((p2 + (2 : Int32))).toNatClampNeg) from (own_same_in hq0 hq1 hq2 hc_21 rfl (by decide) (by decide))))) (g := (mkF m 37 #[.val (.ref a1), .val (.int p2), .val (.int p3)] [(.int (p2 + (2 : Int32))), (.ref a1), (.int (f1 2))])) rfl rfl (hb hby d4_37) _ ?_
            exact k
          by_cases hc_27 : (f1 2) = (f1 ((p2 + (2 : Int32))).toNatClampNeg)
          · have pr_28 : ∀ t, Steps p.tables e below (s₁.setTop (mkF m 43 #[.val (.ref a1), .val (.int p2), .val (.int p3)] [(.int (4 : Int32)), (.int p3)])) t → Steps p.tables e below (s₁.setTop (entryFrame m #[(.ref a1), (.int p2), (.int p3)] 3)) t := fun t k => by
              refine pr_26 _ ?_
              show Steps p.tables e below (s₁.setTop (mkF m 38 #[.val (.ref a1), .val (.int p2), .val (.int p3)] [(.int (f1 ((p2 + (2 : Int32))).toNatClampNeg)), (.int (f1 2))])) _
              refine XS.icmpNo X0.here hx rfl (hb hby d4_38) rfl (teq hc_27).2 ?_
              show Steps p.tables e below (s₁.setTop (mkF m 41 #[.val (.ref a1), .val (.int p2), .val (.int p3)] [])) _
              refine XS.iloadN X0.here hx rfl (hb hby d4_41) rfl ?_
              show Steps p.tables e below (s₁.setTop (mkF m 42 #[.val (.ref a1), .val (.int p2), .val (.int p3)] [(.int p3)])) _
              refine XS.iconst X0.here hx rfl (hb hby d4_42) ?_
              exact k
            by_cases hc_29 : p3 < (4 : Int32)
            · obtain ⟨fs, hr, hrun, hended, hW, hsame⟩ := X0.leave (v := some (.int (1 : Int32))) (fun h => by rw [Bd.returns] at h; cases h)
              refine ⟨_, _, pr_28 _ ?_, hrun, hended, _, _, rfl, ?_, ⟨_, rfl⟩, hW, hsame.mono (by decide) (by decide)⟩
              · show Steps p.tables e below (s₁.setTop (mkF m 43 #[.val (.ref a1), .val (.int p2), .val (.int p3)] [(.int (4 : Int32)), (.int p3)])) _
                refine XS.icmpYes X0.here hx rfl (pc0 := 43) (pc' := 57) rfl (hb hby d4_43) rfl (tlt hc_29).1 (by decide) (by decide) ?_
                show Steps p.tables e below (s₁.setTop (mkF m 57 #[.val (.ref a1), .val (.int p2), .val (.int p3)] [])) _
                refine XS.iconst X0.here hx rfl (hb hby d4_57) ?_
                show Steps p.tables e below (s₁.setTop (mkF m 58 #[.val (.ref a1), .val (.int p2), .val (.int p3)] [(.int (1 : Int32))])) _
                refine XS.goto X0.here hx rfl (pc0 := 58) (pc' := 62) rfl (hb hby d4_58) (by decide) (by decide) ?_
                show Steps p.tables e below (s₁.setTop (mkF m 62 #[.val (.ref a1), .val (.int p2), .val (.int p3)] [(.int (1 : Int32))])) _
                exact retN X0 hx (t := .boolean) Bd.returns (by simp) (hb hby d4_62) hr
              · show Q4 Z a1 p2 p3 f1 h0 n0 _ s₁.heap _
                rw [e0]
                exact ⟨by rw [own_same, if_pos hc_3, if_neg hc_5, if_pos hc_19, if_neg hc_21, if_pos hc_27, if_pos hc_29], N0, rfl⟩
            · have pr_30 : ∀ t, Steps p.tables e below (s₁.setTop (mkF m 54 #[.val (.ref a1), .val (.int p2), .val (.int p3)] [(.int (f1 ((p2 + (3 : Int32))).toNatClampNeg)), (.int (f1 3))])) t → Steps p.tables e below (s₁.setTop (entryFrame m #[(.ref a1), (.int p2), (.int p3)] 3)) t := fun t k => by
                refine pr_28 _ ?_
                show Steps p.tables e below (s₁.setTop (mkF m 43 #[.val (.ref a1), .val (.int p2), .val (.int p3)] [(.int (4 : Int32)), (.int p3)])) _
                refine XS.icmpNo X0.here hx rfl (hb hby d4_43) rfl (flt hc_29).1 ?_
                show Steps p.tables e below (s₁.setTop (mkF m 46 #[.val (.ref a1), .val (.int p2), .val (.int p3)] [])) _
                refine XS.aloadN X0.here hx rfl (hb hby d4_46) rfl rfl ?_
                show Steps p.tables e below (s₁.setTop (mkF m 47 #[.val (.ref a1), .val (.int p2), .val (.int p3)] [(.ref a1)])) _
                refine XS.iconst X0.here hx rfl (hb hby d4_47) ?_
                show Steps p.tables e below (s₁.setTop (mkF m 48 #[.val (.ref a1), .val (.int p2), .val (.int p3)] [(.int (3 : Int32)), (.ref a1)])) _
                refine X0.iaload hx (j := (3 : Int32)) (v := (.int (f1 3))) (by rw [e0]; exact Ar_1.1) (State.isArrayOf_alike hZ.alike Ar_1.2.1) Ar_1.2.2 (own_inb Sz_1 (show ¬ ((3 : Int32) < 0 ∨ 5 ≤ ((3 : Int32)).toNatClampNeg) from (by decide))) (by have q := At_1 _ (own_ltn (show ¬ ((3 : Int32) < 0 ∨ 5 ≤ ((3 : Int32)).toNatClampNeg) from (by decide))); rw [show ((3 : Int32)).toNatClampNeg = 3 from by decide] at q ⊢; exact q) (g := (mkF m 48 #[.val (.ref a1), .val (.int p2), .val (.int p3)] [(.int (3 : Int32)), (.ref a1)])) rfl rfl (hb hby d4_48) _ ?_
                show Steps p.tables e below (s₁.setTop (mkF m 49 #[.val (.ref a1), .val (.int p2), .val (.int p3)] [(.int (f1 3))])) _
                refine XS.aloadN X0.here hx rfl (hb hby d4_49) rfl rfl ?_
                show Steps p.tables e below (s₁.setTop (mkF m 50 #[.val (.ref a1), .val (.int p2), .val (.int p3)] [(.ref a1), (.int (f1 3))])) _
                refine XS.iloadN X0.here hx rfl (hb hby d4_50) rfl ?_
                show Steps p.tables e below (s₁.setTop (mkF m 51 #[.val (.ref a1), .val (.int p2), .val (.int p3)] [(.int p2), (.ref a1), (.int (f1 3))])) _
                refine XS.iconst X0.here hx rfl (hb hby d4_51) ?_
                show Steps p.tables e below (s₁.setTop (mkF m 52 #[.val (.ref a1), .val (.int p2), .val (.int p3)] [(.int (3 : Int32)), (.int p2), (.ref a1), (.int (f1 3))])) _
                refine XS.iadd X0.here hx rfl (hb hby d4_52) rfl ?_
                show Steps p.tables e below (s₁.setTop (mkF m 53 #[.val (.ref a1), .val (.int p2), .val (.int p3)] [(.int (p2 + (3 : Int32))), (.ref a1), (.int (f1 3))])) _
                refine X0.iaload hx (j := (p2 + (3 : Int32))) (v := (.int (f1 ((p2 + (3 : Int32))).toNatClampNeg))) (by rw [e0]; exact Ar_1.1) (State.isArrayOf_alike hZ.alike Ar_1.2.1) Ar_1.2.2 (own_inb Sz_1 (show ¬ ((p2 + (3 : Int32)) < 0 ∨ 5 ≤ ((p2 + (3 : Int32))).toNatClampNeg) from (own_same_in hq0 hq1 hq2 hc_29 rfl (by decide) (by decide)))) (At_1 _ (own_ltn (show ¬ ((p2 + (3 : Int32)) < 0 ∨ 5 ≤ ((p2 + (3 : Int32))).toNatClampNeg) from (own_same_in hq0 hq1 hq2 hc_29 rfl (by decide) (by decide))))) (g := (mkF m 53 #[.val (.ref a1), .val (.int p2), .val (.int p3)] [(.int (p2 + (3 : Int32))), (.ref a1), (.int (f1 3))])) rfl rfl (hb hby d4_53) _ ?_
                exact k
              by_cases hc_31 : (f1 3) = (f1 ((p2 + (3 : Int32))).toNatClampNeg)
              · obtain ⟨fs, hr, hrun, hended, hW, hsame⟩ := X0.leave (v := some (.int (1 : Int32))) (fun h => by rw [Bd.returns] at h; cases h)
                refine ⟨_, _, pr_30 _ ?_, hrun, hended, _, _, rfl, ?_, ⟨_, rfl⟩, hW, hsame.mono (by decide) (by decide)⟩
                · show Steps p.tables e below (s₁.setTop (mkF m 54 #[.val (.ref a1), .val (.int p2), .val (.int p3)] [(.int (f1 ((p2 + (3 : Int32))).toNatClampNeg)), (.int (f1 3))])) _
                  refine XS.icmpNo X0.here hx rfl (hb hby d4_54) rfl (teq hc_31).2 ?_
                  show Steps p.tables e below (s₁.setTop (mkF m 57 #[.val (.ref a1), .val (.int p2), .val (.int p3)] [])) _
                  refine XS.iconst X0.here hx rfl (hb hby d4_57) ?_
                  show Steps p.tables e below (s₁.setTop (mkF m 58 #[.val (.ref a1), .val (.int p2), .val (.int p3)] [(.int (1 : Int32))])) _
                  refine XS.goto X0.here hx rfl (pc0 := 58) (pc' := 62) rfl (hb hby d4_58) (by decide) (by decide) ?_
                  show Steps p.tables e below (s₁.setTop (mkF m 62 #[.val (.ref a1), .val (.int p2), .val (.int p3)] [(.int (1 : Int32))])) _
                  exact retN X0 hx (t := .boolean) Bd.returns (by simp) (hb hby d4_62) hr
                · show Q4 Z a1 p2 p3 f1 h0 n0 _ s₁.heap _
                  rw [e0]
                  exact ⟨by rw [own_same, if_pos hc_3, if_neg hc_5, if_pos hc_19, if_neg hc_21, if_pos hc_27, if_neg hc_29, if_pos hc_31], N0, rfl⟩
              · obtain ⟨fs, hr, hrun, hended, hW, hsame⟩ := X0.leave (v := some (.int (0 : Int32))) (fun h => by rw [Bd.returns] at h; cases h)
                refine ⟨_, _, pr_30 _ ?_, hrun, hended, _, _, rfl, ?_, ⟨_, rfl⟩, hW, hsame.mono (by decide) (by decide)⟩
                · show Steps p.tables e below (s₁.setTop (mkF m 54 #[.val (.ref a1), .val (.int p2), .val (.int p3)] [(.int (f1 ((p2 + (3 : Int32))).toNatClampNeg)), (.int (f1 3))])) _
                  refine XS.icmpYes X0.here hx rfl (pc0 := 54) (pc' := 61) rfl (hb hby d4_54) rfl (feq hc_31).2 (by decide) (by decide) ?_
                  show Steps p.tables e below (s₁.setTop (mkF m 61 #[.val (.ref a1), .val (.int p2), .val (.int p3)] [])) _
                  refine XS.iconst X0.here hx rfl (hb hby d4_61) ?_
                  show Steps p.tables e below (s₁.setTop (mkF m 62 #[.val (.ref a1), .val (.int p2), .val (.int p3)] [(.int (0 : Int32))])) _
                  exact retN X0 hx (t := .boolean) Bd.returns (by simp) (hb hby d4_62) hr
                · show Q4 Z a1 p2 p3 f1 h0 n0 _ s₁.heap _
                  rw [e0]
                  exact ⟨by rw [own_same, if_pos hc_3, if_neg hc_5, if_pos hc_19, if_neg hc_21, if_pos hc_27, if_neg hc_29, if_neg hc_31], N0, rfl⟩
          · obtain ⟨fs, hr, hrun, hended, hW, hsame⟩ := X0.leave (v := some (.int (0 : Int32))) (fun h => by rw [Bd.returns] at h; cases h)
            refine ⟨_, _, pr_26 _ ?_, hrun, hended, _, _, rfl, ?_, ⟨_, rfl⟩, hW, hsame.mono (by decide) (by decide)⟩
            · show Steps p.tables e below (s₁.setTop (mkF m 38 #[.val (.ref a1), .val (.int p2), .val (.int p3)] [(.int (f1 ((p2 + (2 : Int32))).toNatClampNeg)), (.int (f1 2))])) _
              refine XS.icmpYes X0.here hx rfl (pc0 := 38) (pc' := 61) rfl (hb hby d4_38) rfl (feq hc_27).2 (by decide) (by decide) ?_
              show Steps p.tables e below (s₁.setTop (mkF m 61 #[.val (.ref a1), .val (.int p2), .val (.int p3)] [])) _
              refine XS.iconst X0.here hx rfl (hb hby d4_61) ?_
              show Steps p.tables e below (s₁.setTop (mkF m 62 #[.val (.ref a1), .val (.int p2), .val (.int p3)] [(.int (0 : Int32))])) _
              exact retN X0 hx (t := .boolean) Bd.returns (by simp) (hb hby d4_62) hr
            · show Q4 Z a1 p2 p3 f1 h0 n0 _ s₁.heap _
              rw [e0]
              exact ⟨by rw [own_same, if_pos hc_3, if_neg hc_5, if_pos hc_19, if_neg hc_21, if_neg hc_27], N0, rfl⟩
      · obtain ⟨fs, hr, hrun, hended, hW, hsame⟩ := X0.leave (v := some (.int (0 : Int32))) (fun h => by rw [Bd.returns] at h; cases h)
        refine ⟨_, _, pr_18 _ ?_, hrun, hended, _, _, rfl, ?_, ⟨_, rfl⟩, hW, hsame.mono (by decide) (by decide)⟩
        · show Steps p.tables e below (s₁.setTop (mkF m 22 #[.val (.ref a1), .val (.int p2), .val (.int p3)] [(.int (f1 ((p2 + (1 : Int32))).toNatClampNeg)), (.int (f1 1))])) _
          refine XS.icmpYes X0.here hx rfl (pc0 := 22) (pc' := 61) rfl (hb hby d4_22) rfl (feq hc_19).2 (by decide) (by decide) ?_
          show Steps p.tables e below (s₁.setTop (mkF m 61 #[.val (.ref a1), .val (.int p2), .val (.int p3)] [])) _
          refine XS.iconst X0.here hx rfl (hb hby d4_61) ?_
          show Steps p.tables e below (s₁.setTop (mkF m 62 #[.val (.ref a1), .val (.int p2), .val (.int p3)] [(.int (0 : Int32))])) _
          exact retN X0 hx (t := .boolean) Bd.returns (by simp) (hb hby d4_62) hr
        · show Q4 Z a1 p2 p3 f1 h0 n0 _ s₁.heap _
          rw [e0]
          exact ⟨by rw [own_same, if_pos hc_3, if_neg hc_5, if_neg hc_19], N0, rfl⟩
  · obtain ⟨fs, hr, hrun, hended, hW, hsame⟩ := X0.leave (v := some (.int (0 : Int32))) (fun h => by rw [Bd.returns] at h; cases h)
    refine ⟨_, _, pr_2 _ ?_, hrun, hended, _, _, rfl, ?_, ⟨_, rfl⟩, hW, hsame.mono (by decide) (by decide)⟩
    · show Steps p.tables e below (s₁.setTop (mkF m 6 #[.val (.ref a1), .val (.int p2), .val (.int p3)] [(.int (f1 (p2).toNatClampNeg)), (.int (f1 0))])) _
      refine XS.icmpYes X0.here hx rfl (pc0 := 6) (pc' := 61) rfl (hb hby d4_6) rfl (feq hc_3).2 (by decide) (by decide) ?_
      show Steps p.tables e below (s₁.setTop (mkF m 61 #[.val (.ref a1), .val (.int p2), .val (.int p3)] [])) _
      refine XS.iconst X0.here hx rfl (hb hby d4_61) ?_
      show Steps p.tables e below (s₁.setTop (mkF m 62 #[.val (.ref a1), .val (.int p2), .val (.int p3)] [(.int (0 : Int32))])) _
      exact retN X0 hx (t := .boolean) Bd.returns (by simp) (hb hby d4_62) hr
    · show Q4 Z a1 p2 p3 f1 h0 n0 _ s₁.heap _
      rw [e0]
      exact ⟨by rw [own_same, if_neg hc_3], N0, rfl⟩
theorem d3_0 : decode method_5_code 0 = .ok (.iload_n 1, 1) := by decide +kernel
theorem d3_1 : decode method_5_code 1 = .ok (.iconst 1, 1) := by decide +kernel
theorem d3_2 : decode method_5_code 2 = .ok (.iadd, 1) := by decide +kernel
theorem d3_3 : decode method_5_code 3 = .ok (.istore_n 2, 1) := by decide +kernel
theorem d3_4 : decode method_5_code 4 = .ok (.iload_n 2, 1) := by decide +kernel
theorem d3_5 : decode method_5_code 5 = .ok (.iconst 4, 1) := by decide +kernel
theorem d3_6 : decode method_5_code 6 = .ok (.if_icmp .le 16, 3) := by decide +kernel
theorem d3_9 : decode method_5_code 9 = .ok (.aload_n 0, 1) := by decide +kernel
theorem d3_10 : decode method_5_code 10 = .ok (.iload_n 2, 1) := by decide +kernel
theorem d3_11 : decode method_5_code 11 = .ok (.iconst 4, 1) := by decide +kernel
theorem d3_12 : decode method_5_code 12 = .ok (.isub, 1) := by decide +kernel
theorem d3_13 : decode method_5_code 13 = .ok (.iconst 4, 1) := by decide +kernel
theorem pd_1 : parseMethodDescriptor "([III)Z" = some ⟨[(.array .int), .int, .int], some .boolean⟩ := by decide +kernel
theorem d3_14 : decode method_5_code 14 = .ok (.invokestatic 24, 3) := by decide +kernel
theorem d3_17 : decode method_5_code 17 = .ok (.ifCond .eq 5, 3) := by decide +kernel
theorem d3_22 : decode method_5_code 22 = .ok (.iload_n 2, 1) := by decide +kernel
theorem d3_23 : decode method_5_code 23 = .ok (.iconst 3, 1) := by decide +kernel
theorem d3_24 : decode method_5_code 24 = .ok (.if_icmp .le 16, 3) := by decide +kernel
theorem d3_27 : decode method_5_code 27 = .ok (.aload_n 0, 1) := by decide +kernel
theorem d3_28 : decode method_5_code 28 = .ok (.iload_n 2, 1) := by decide +kernel
theorem d3_29 : decode method_5_code 29 = .ok (.iconst 3, 1) := by decide +kernel
theorem d3_30 : decode method_5_code 30 = .ok (.isub, 1) := by decide +kernel
theorem d3_31 : decode method_5_code 31 = .ok (.iconst 3, 1) := by decide +kernel
theorem d3_32 : decode method_5_code 32 = .ok (.invokestatic 24, 3) := by decide +kernel
theorem d3_35 : decode method_5_code 35 = .ok (.ifCond .eq 5, 3) := by decide +kernel
theorem d3_40 : decode method_5_code 40 = .ok (.iload_n 2, 1) := by decide +kernel
theorem d3_41 : decode method_5_code 41 = .ok (.iconst 2, 1) := by decide +kernel
theorem d3_42 : decode method_5_code 42 = .ok (.if_icmp .le 16, 3) := by decide +kernel
theorem d3_45 : decode method_5_code 45 = .ok (.aload_n 0, 1) := by decide +kernel
theorem d3_46 : decode method_5_code 46 = .ok (.iload_n 2, 1) := by decide +kernel
theorem d3_47 : decode method_5_code 47 = .ok (.iconst 2, 1) := by decide +kernel
theorem d3_48 : decode method_5_code 48 = .ok (.isub, 1) := by decide +kernel
theorem d3_49 : decode method_5_code 49 = .ok (.iconst 2, 1) := by decide +kernel
theorem d3_50 : decode method_5_code 50 = .ok (.invokestatic 24, 3) := by decide +kernel
theorem d3_53 : decode method_5_code 53 = .ok (.ifCond .eq 5, 3) := by decide +kernel
theorem d3_58 : decode method_5_code 58 = .ok (.iload_n 2, 1) := by decide +kernel
theorem d3_59 : decode method_5_code 59 = .ok (.iconst 1, 1) := by decide +kernel
theorem d3_60 : decode method_5_code 60 = .ok (.if_icmp .le 16, 3) := by decide +kernel
theorem d3_63 : decode method_5_code 63 = .ok (.aload_n 0, 1) := by decide +kernel
theorem d3_64 : decode method_5_code 64 = .ok (.iload_n 2, 1) := by decide +kernel
theorem d3_65 : decode method_5_code 65 = .ok (.iconst 1, 1) := by decide +kernel
theorem d3_66 : decode method_5_code 66 = .ok (.isub, 1) := by decide +kernel
theorem d3_67 : decode method_5_code 67 = .ok (.iconst 1, 1) := by decide +kernel
theorem d3_68 : decode method_5_code 68 = .ok (.invokestatic 24, 3) := by decide +kernel
theorem d3_71 : decode method_5_code 71 = .ok (.ifCond .eq 5, 3) := by decide +kernel
theorem d3_76 : decode method_5_code 76 = .ok (.iconst 0, 1) := by decide +kernel
theorem d3_77 : decode method_5_code 77 = .ok (.ireturn, 1) := by decide +kernel
theorem d3_74 : decode method_5_code 74 = .ok (.iconst 1, 1) := by decide +kernel
theorem d3_75 : decode method_5_code 75 = .ok (.ireturn, 1) := by decide +kernel
theorem d3_56 : decode method_5_code 56 = .ok (.iconst 2, 1) := by decide +kernel
theorem d3_57 : decode method_5_code 57 = .ok (.ireturn, 1) := by decide +kernel
theorem d3_38 : decode method_5_code 38 = .ok (.iconst 3, 1) := by decide +kernel
theorem d3_39 : decode method_5_code 39 = .ok (.ireturn, 1) := by decide +kernel
theorem d3_20 : decode method_5_code 20 = .ok (.iconst 4, 1) := by decide +kernel
theorem d3_21 : decode method_5_code 21 = .ok (.ireturn, 1) := by decide +kernel
theorem ef_3_RI (m : MethodId) (x0 : Addr) (x1 : Int32) : entryFrame m #[(.ref x0), (.int x1)] 3 = mkF m 0 #[.val (.ref x0), .val (.int x1), .unset] [] := by first | (simp [entryFrame, mkF, argsToLocals, Value.category]; done) | rfl
def own_border (p2 : Int32) (f1 : Nat → Int32) : Int32 := if (4 : Int32) < (p2 + (1 : Int32)) then (if (own_same ((p2 + (1 : Int32)) - (4 : Int32)) (4 : Int32) f1) = (0 : Int32) then (if (3 : Int32) < (p2 + (1 : Int32)) then (if (own_same ((p2 + (1 : Int32)) - (3 : Int32)) (3 : Int32) f1) = (0 : Int32) then (if (2 : Int32) < (p2 + (1 : Int32)) then (if (own_same ((p2 + (1 : Int32)) - (2 : Int32)) (2 : Int32) f1) = (0 : Int32) then (if (1 : Int32) < (p2 + (1 : Int32)) then (if (own_same ((p2 + (1 : Int32)) - (1 : Int32)) (1 : Int32) f1) = (0 : Int32) then (0 : Int32) else (1 : Int32)) else (0 : Int32)) else (2 : Int32)) else (if (1 : Int32) < (p2 + (1 : Int32)) then (if (own_same ((p2 + (1 : Int32)) - (1 : Int32)) (1 : Int32) f1) = (0 : Int32) then (0 : Int32) else (1 : Int32)) else (0 : Int32))) else (3 : Int32)) else (if (2 : Int32) < (p2 + (1 : Int32)) then (if (own_same ((p2 + (1 : Int32)) - (2 : Int32)) (2 : Int32) f1) = (0 : Int32) then (if (1 : Int32) < (p2 + (1 : Int32)) then (if (own_same ((p2 + (1 : Int32)) - (1 : Int32)) (1 : Int32) f1) = (0 : Int32) then (0 : Int32) else (1 : Int32)) else (0 : Int32)) else (2 : Int32)) else (if (1 : Int32) < (p2 + (1 : Int32)) then (if (own_same ((p2 + (1 : Int32)) - (1 : Int32)) (1 : Int32) f1) = (0 : Int32) then (0 : Int32) else (1 : Int32)) else (0 : Int32)))) else (4 : Int32)) else (if (3 : Int32) < (p2 + (1 : Int32)) then (if (own_same ((p2 + (1 : Int32)) - (3 : Int32)) (3 : Int32) f1) = (0 : Int32) then (if (2 : Int32) < (p2 + (1 : Int32)) then (if (own_same ((p2 + (1 : Int32)) - (2 : Int32)) (2 : Int32) f1) = (0 : Int32) then (if (1 : Int32) < (p2 + (1 : Int32)) then (if (own_same ((p2 + (1 : Int32)) - (1 : Int32)) (1 : Int32) f1) = (0 : Int32) then (0 : Int32) else (1 : Int32)) else (0 : Int32)) else (2 : Int32)) else (if (1 : Int32) < (p2 + (1 : Int32)) then (if (own_same ((p2 + (1 : Int32)) - (1 : Int32)) (1 : Int32) f1) = (0 : Int32) then (0 : Int32) else (1 : Int32)) else (0 : Int32))) else (3 : Int32)) else (if (2 : Int32) < (p2 + (1 : Int32)) then (if (own_same ((p2 + (1 : Int32)) - (2 : Int32)) (2 : Int32) f1) = (0 : Int32) then (if (1 : Int32) < (p2 + (1 : Int32)) then (if (own_same ((p2 + (1 : Int32)) - (1 : Int32)) (1 : Int32) f1) = (0 : Int32) then (0 : Int32) else (1 : Int32)) else (0 : Int32)) else (2 : Int32)) else (if (1 : Int32) < (p2 + (1 : Int32)) then (if (own_same ((p2 + (1 : Int32)) - (1 : Int32)) (1 : Int32) f1) = (0 : Int32) then (0 : Int32) else (1 : Int32)) else (0 : Int32))))
def Q3 (Z : State) (a1 : Addr) (p2 : Int32) (f1 : Nat → Int32) (h0 : Heap) (n0 : Nat) (v : Option Value) (h : Heap) (L : List Loc) : Prop := v = some (.int (own_border p2 f1)) ∧ Fr n0 L ∧ h = h0
theorem pn_3 : plainName "com/example/borderwork/borderwork/zarrays/ZArraysToBorderArrayPinLaw" = true := by first | (simp [plainName, overriddenIn]; done) | decide +kernel
set_option maxRecDepth 65536 in
set_option maxHeartbeats 40000000 in
theorem rm3 (l : Launch) (Z : State) (a0 : Array Value) (hw : ∀ d ∈ tables_1, d.before a0 Z = true) (ws : List Jvm.Cond) (a1 : Addr) (p2 : Int32) (f1 : Nat → Int32) (h0 : Heap) (n0 : Nat) (Z0 : n0 ≤ h0.size) (F0 : own_arr .int Z h0 a1 5 f1) (hq0 : 0 ≤ p2.toInt) (hq1 : p2.toInt ≤ 4) :
    MetFree l (⟨"com/example/borderwork/borderwork/zarrays/ZArraysToBorderArrayPinLaw", "border", "([II)I"⟩ : MethodName) (head1 (Jvm.Cond.code (⟨"com/example/borderwork/borderwork/zarrays/ZArraysToBorderArrayPinLaw", "border", "([II)I"⟩ : MethodName) method_5_code 3 (some .int) :: ws) ({ frames := 1, cells := 0, slots := 0, locals := 14 } : Room)) (fun a U => a = #[(.ref a1), (.int p2)] ∧ Z.Warmed39 U.vm ∧ U.heap = h0) (fun _ _ _ _ _ => True) (fun _ U o U' => ∃ v L, o = .returned v ∧ Q3 Z a1 p2 f1 h0 n0 v U'.heap L ∧ FrameEnd U o U' L ({ frames := 1, cells := 0, slots := 0, locals := 14 } : Room).cells ({ frames := 1, cells := 0, slots := 0, locals := 14 } : Room).slots) := by
  refine MetFree.of_bodySF (plainFor_of_name pn_3) hisR ?_
  intro p e s m args below meth c s₁ Bd hml0 hP hK
  obtain ⟨rfl, hZ, hh⟩ := hP
  have hx := Bd.exec
  have hby := Bd.bytes
  have hml : c.maxLocals = 3 := hml0
  have hown : s.vm.findClass "com/example/borderwork/borderwork/zarrays/ZArraysToBorderArrayPinLaw" = some m.cls := findClass_of_methodNamed Bd.named
  have hnm := (name_of_methodNamed Bd.named Bd.method).1
  have X0 : Stand p l e ({ frames := 1, cells := 0, slots := 0, locals := 14 } : Room) s m #[(.ref a1), (.int p2)] below meth c s₁ [] 0 0 := Stand.of_body Bd
  have e0 : s₁.heap = h0 := by rw [← hh, Bd.state]; rfl
  have N0 := Fr.nil n0
  have pre0 : ∀ t, Steps p.tables e below (s₁.setTop (mkF m 0 #[.val (.ref a1), .val (.int p2), .unset] [])) t → Steps p.tables e below (s₁.setTop (entryFrame m #[(.ref a1), (.int p2)] 3)) t := fun t k => castTop (ef_3_RI m a1 p2) k
  have pr_1 : ∀ t, Steps p.tables e below (s₁.setTop (mkF m 6 #[.val (.ref a1), .val (.int p2), .val (.int (p2 + (1 : Int32)))] [(.int (4 : Int32)), (.int (p2 + (1 : Int32)))])) t → Steps p.tables e below (s₁.setTop (entryFrame m #[(.ref a1), (.int p2)] 3)) t := fun t k => by
    refine pre0 _ ?_
    show Steps p.tables e below (s₁.setTop (mkF m 0 #[.val (.ref a1), .val (.int p2), .unset] [])) _
    refine XS.iloadN X0.here hx rfl (hb hby d3_0) rfl ?_
    show Steps p.tables e below (s₁.setTop (mkF m 1 #[.val (.ref a1), .val (.int p2), .unset] [(.int p2)])) _
    refine XS.iconst X0.here hx rfl (hb hby d3_1) ?_
    show Steps p.tables e below (s₁.setTop (mkF m 2 #[.val (.ref a1), .val (.int p2), .unset] [(.int (1 : Int32)), (.int p2)])) _
    refine XS.iadd X0.here hx rfl (hb hby d3_2) rfl ?_
    show Steps p.tables e below (s₁.setTop (mkF m 3 #[.val (.ref a1), .val (.int p2), .unset] [(.int (p2 + (1 : Int32)))])) _
    refine XS.istoreN X0.here hx rfl (hb hby d3_3) rfl (l' := #[.val (.ref a1), .val (.int p2), .val (.int (p2 + (1 : Int32)))]) rfl ?_
    show Steps p.tables e below (s₁.setTop (mkF m 4 #[.val (.ref a1), .val (.int p2), .val (.int (p2 + (1 : Int32)))] [])) _
    refine XS.iloadN X0.here hx rfl (hb hby d3_4) rfl ?_
    show Steps p.tables e below (s₁.setTop (mkF m 5 #[.val (.ref a1), .val (.int p2), .val (.int (p2 + (1 : Int32)))] [(.int (p2 + (1 : Int32)))])) _
    refine XS.iconst X0.here hx rfl (hb hby d3_5) ?_
    exact k
  by_cases hc_2 : (4 : Int32) < (p2 + (1 : Int32))
  · obtain ⟨_, _, ⟨T_3, L_3, k_3, n_3⟩, -, X_3, ⟨Lc_3, hQ_3, l_3, y_3, z_3⟩, st_3⟩ := Jvm.LawKit.callS X0 hx (y := (⟨"com/example/borderwork/borderwork/zarrays/ZArraysToBorderArrayPinLaw", "same", "([III)Z"⟩ : MethodName)) hown (mvT hZ (hw _ (List.mem_of_getElem? (i := 13) rfl))) (mvT hZ (hw _ (List.mem_of_getElem? (i := 14) rfl))) (mvT hZ (hw _ (List.mem_of_getElem? (i := 8) rfl))) (mvT hZ (hw _ (List.mem_of_getElem? (i := 15) rfl))) (by decide) (backOf (W := 0) (rm4 l Z a0 hw [] a1 ((p2 + (1 : Int32)) - (4 : Int32)) (4 : Int32) f1 h0 n0 Z0 F0 (own_bd hq0 hq1 hc_2 (by decide)).1 (own_bd hq0 hq1 hc_2 (by decide)).2 (by decide)) hZ (hw _ (List.mem_of_getElem? (i := 15) rfl)) (hw _ (List.mem_of_getElem? (i := 8) rfl)) (by decide) (by decide)) (g := (mkF m 14 #[.val (.ref a1), .val (.int p2), .val (.int (p2 + (1 : Int32)))] [(.int (4 : Int32)), (.int ((p2 + (1 : Int32)) - (4 : Int32))), (.ref a1)])) rfl (by rw [hml]; rfl) (argsL := [(.ref a1), (.int ((p2 + (1 : Int32)) - (4 : Int32))), (.int (4 : Int32))]) (rest := []) (lenOf pd_1 rfl) rfl (by show 2 * 0 + _ ≤ _; exact Nat.le_of_eq rfl) (hb hby d3_14) (fun _ _ => ⟨rfl, e0, (by decide : 0 + 0 ≤ _), (by decide : 0 + 0 ≤ _)⟩)
    dsimp only [Pt.U, Pt.locs, Pt.cells, Pt.slots] at X_3 l_3 y_3 z_3 st_3 hQ_3
    subst l_3 y_3 z_3
    obtain ⟨rfl, N_3q, e_3⟩ := hQ_3
    have N_3 := Fr.app N0 N_3q
    have pr_4 : ∀ t, Steps p.tables e below (T_3.setTop (mkF m 17 #[.val (.ref a1), .val (.int p2), .val (.int (p2 + (1 : Int32)))] [(.int (own_same ((p2 + (1 : Int32)) - (4 : Int32)) (4 : Int32) f1))])) t → Steps p.tables e below (s₁.setTop (entryFrame m #[(.ref a1), (.int p2)] 3)) t := fun t k => by
      refine pr_1 _ ?_
      show Steps p.tables e below (s₁.setTop (mkF m 6 #[.val (.ref a1), .val (.int p2), .val (.int (p2 + (1 : Int32)))] [(.int (4 : Int32)), (.int (p2 + (1 : Int32)))])) _
      refine XS.icmpNo X0.here hx rfl (hb hby d3_6) rfl (tlt hc_2).2.2.2 ?_
      show Steps p.tables e below (s₁.setTop (mkF m 9 #[.val (.ref a1), .val (.int p2), .val (.int (p2 + (1 : Int32)))] [])) _
      refine XS.aloadN X0.here hx rfl (hb hby d3_9) rfl rfl ?_
      show Steps p.tables e below (s₁.setTop (mkF m 10 #[.val (.ref a1), .val (.int p2), .val (.int (p2 + (1 : Int32)))] [(.ref a1)])) _
      refine XS.iloadN X0.here hx rfl (hb hby d3_10) rfl ?_
      show Steps p.tables e below (s₁.setTop (mkF m 11 #[.val (.ref a1), .val (.int p2), .val (.int (p2 + (1 : Int32)))] [(.int (p2 + (1 : Int32))), (.ref a1)])) _
      refine XS.iconst X0.here hx rfl (hb hby d3_11) ?_
      show Steps p.tables e below (s₁.setTop (mkF m 12 #[.val (.ref a1), .val (.int p2), .val (.int (p2 + (1 : Int32)))] [(.int (4 : Int32)), (.int (p2 + (1 : Int32))), (.ref a1)])) _
      refine XS.isub X0.here hx rfl (hb hby d3_12) rfl ?_
      show Steps p.tables e below (s₁.setTop (mkF m 13 #[.val (.ref a1), .val (.int p2), .val (.int (p2 + (1 : Int32)))] [(.int ((p2 + (1 : Int32)) - (4 : Int32))), (.ref a1)])) _
      refine XS.iconst X0.here hx rfl (hb hby d3_13) ?_
      show Steps p.tables e below (s₁.setTop (mkF m 14 #[.val (.ref a1), .val (.int p2), .val (.int (p2 + (1 : Int32)))] [(.int (4 : Int32)), (.int ((p2 + (1 : Int32)) - (4 : Int32))), (.ref a1)])) _
      refine st_3 _ ?_
      exact k
    by_cases hc_5 : (own_same ((p2 + (1 : Int32)) - (4 : Int32)) (4 : Int32) f1) = (0 : Int32)
    · have pr_6 : ∀ t, Steps p.tables e below (T_3.setTop (mkF m 24 #[.val (.ref a1), .val (.int p2), .val (.int (p2 + (1 : Int32)))] [(.int (3 : Int32)), (.int (p2 + (1 : Int32)))])) t → Steps p.tables e below (s₁.setTop (entryFrame m #[(.ref a1), (.int p2)] 3)) t := fun t k => by
        refine pr_4 _ ?_
        show Steps p.tables e below (T_3.setTop (mkF m 17 #[.val (.ref a1), .val (.int p2), .val (.int (p2 + (1 : Int32)))] [(.int (own_same ((p2 + (1 : Int32)) - (4 : Int32)) (4 : Int32) f1))])) _
        refine XS.ifYes X_3.here hx rfl (pc0 := 17) (pc' := 22) rfl (hb hby d3_17) rfl ((if0 _ _).trans (teq hc_5).1) (by decide) (by decide) ?_
        show Steps p.tables e below (T_3.setTop (mkF m 22 #[.val (.ref a1), .val (.int p2), .val (.int (p2 + (1 : Int32)))] [])) _
        refine XS.iloadN X_3.here hx rfl (hb hby d3_22) rfl ?_
        show Steps p.tables e below (T_3.setTop (mkF m 23 #[.val (.ref a1), .val (.int p2), .val (.int (p2 + (1 : Int32)))] [(.int (p2 + (1 : Int32)))])) _
        refine XS.iconst X_3.here hx rfl (hb hby d3_23) ?_
        exact k
      by_cases hc_7 : (3 : Int32) < (p2 + (1 : Int32))
      · obtain ⟨_, _, ⟨T_8, L_8, k_8, n_8⟩, -, X_8, ⟨Lc_8, hQ_8, l_8, y_8, z_8⟩, st_8⟩ := Jvm.LawKit.callS X_3 hx (y := (⟨"com/example/borderwork/borderwork/zarrays/ZArraysToBorderArrayPinLaw", "same", "([III)Z"⟩ : MethodName)) hown (mvT hZ (hw _ (List.mem_of_getElem? (i := 13) rfl))) (mvT hZ (hw _ (List.mem_of_getElem? (i := 14) rfl))) (mvT hZ (hw _ (List.mem_of_getElem? (i := 8) rfl))) (mvT hZ (hw _ (List.mem_of_getElem? (i := 15) rfl))) (by decide) (backOf (W := 0) (rm4 l Z a0 hw [] a1 ((p2 + (1 : Int32)) - (3 : Int32)) (3 : Int32) f1 h0 n0 Z0 F0 (own_bd hq0 hq1 hc_7 (by decide)).1 (own_bd hq0 hq1 hc_7 (by decide)).2 (by decide)) hZ (hw _ (List.mem_of_getElem? (i := 15) rfl)) (hw _ (List.mem_of_getElem? (i := 8) rfl)) (by decide) (by decide)) (g := (mkF m 32 #[.val (.ref a1), .val (.int p2), .val (.int (p2 + (1 : Int32)))] [(.int (3 : Int32)), (.int ((p2 + (1 : Int32)) - (3 : Int32))), (.ref a1)])) rfl (by rw [hml]; rfl) (argsL := [(.ref a1), (.int ((p2 + (1 : Int32)) - (3 : Int32))), (.int (3 : Int32))]) (rest := []) (lenOf pd_1 rfl) rfl (by show 2 * 0 + _ ≤ _; exact Nat.le_of_eq rfl) (hb hby d3_32) (fun _ _ => ⟨rfl, e_3, (by decide : 0 + 0 ≤ _), (by decide : 0 + 0 ≤ _)⟩)
        dsimp only [Pt.U, Pt.locs, Pt.cells, Pt.slots] at X_8 l_8 y_8 z_8 st_8 hQ_8
        subst l_8 y_8 z_8
        obtain ⟨rfl, N_8q, e_8⟩ := hQ_8
        have N_8 := Fr.app N_3 N_8q
        have pr_9 : ∀ t, Steps p.tables e below (T_8.setTop (mkF m 35 #[.val (.ref a1), .val (.int p2), .val (.int (p2 + (1 : Int32)))] [(.int (own_same ((p2 + (1 : Int32)) - (3 : Int32)) (3 : Int32) f1))])) t → Steps p.tables e below (s₁.setTop (entryFrame m #[(.ref a1), (.int p2)] 3)) t := fun t k => by
          refine pr_6 _ ?_
          show Steps p.tables e below (T_3.setTop (mkF m 24 #[.val (.ref a1), .val (.int p2), .val (.int (p2 + (1 : Int32)))] [(.int (3 : Int32)), (.int (p2 + (1 : Int32)))])) _
          refine XS.icmpNo X_3.here hx rfl (hb hby d3_24) rfl (tlt hc_7).2.2.2 ?_
          show Steps p.tables e below (T_3.setTop (mkF m 27 #[.val (.ref a1), .val (.int p2), .val (.int (p2 + (1 : Int32)))] [])) _
          refine XS.aloadN X_3.here hx rfl (hb hby d3_27) rfl rfl ?_
          show Steps p.tables e below (T_3.setTop (mkF m 28 #[.val (.ref a1), .val (.int p2), .val (.int (p2 + (1 : Int32)))] [(.ref a1)])) _
          refine XS.iloadN X_3.here hx rfl (hb hby d3_28) rfl ?_
          show Steps p.tables e below (T_3.setTop (mkF m 29 #[.val (.ref a1), .val (.int p2), .val (.int (p2 + (1 : Int32)))] [(.int (p2 + (1 : Int32))), (.ref a1)])) _
          refine XS.iconst X_3.here hx rfl (hb hby d3_29) ?_
          show Steps p.tables e below (T_3.setTop (mkF m 30 #[.val (.ref a1), .val (.int p2), .val (.int (p2 + (1 : Int32)))] [(.int (3 : Int32)), (.int (p2 + (1 : Int32))), (.ref a1)])) _
          refine XS.isub X_3.here hx rfl (hb hby d3_30) rfl ?_
          show Steps p.tables e below (T_3.setTop (mkF m 31 #[.val (.ref a1), .val (.int p2), .val (.int (p2 + (1 : Int32)))] [(.int ((p2 + (1 : Int32)) - (3 : Int32))), (.ref a1)])) _
          refine XS.iconst X_3.here hx rfl (hb hby d3_31) ?_
          show Steps p.tables e below (T_3.setTop (mkF m 32 #[.val (.ref a1), .val (.int p2), .val (.int (p2 + (1 : Int32)))] [(.int (3 : Int32)), (.int ((p2 + (1 : Int32)) - (3 : Int32))), (.ref a1)])) _
          refine st_8 _ ?_
          exact k
        by_cases hc_10 : (own_same ((p2 + (1 : Int32)) - (3 : Int32)) (3 : Int32) f1) = (0 : Int32)
        · have pr_11 : ∀ t, Steps p.tables e below (T_8.setTop (mkF m 42 #[.val (.ref a1), .val (.int p2), .val (.int (p2 + (1 : Int32)))] [(.int (2 : Int32)), (.int (p2 + (1 : Int32)))])) t → Steps p.tables e below (s₁.setTop (entryFrame m #[(.ref a1), (.int p2)] 3)) t := fun t k => by
            refine pr_9 _ ?_
            show Steps p.tables e below (T_8.setTop (mkF m 35 #[.val (.ref a1), .val (.int p2), .val (.int (p2 + (1 : Int32)))] [(.int (own_same ((p2 + (1 : Int32)) - (3 : Int32)) (3 : Int32) f1))])) _
            refine XS.ifYes X_8.here hx rfl (pc0 := 35) (pc' := 40) rfl (hb hby d3_35) rfl ((if0 _ _).trans (teq hc_10).1) (by decide) (by decide) ?_
            show Steps p.tables e below (T_8.setTop (mkF m 40 #[.val (.ref a1), .val (.int p2), .val (.int (p2 + (1 : Int32)))] [])) _
            refine XS.iloadN X_8.here hx rfl (hb hby d3_40) rfl ?_
            show Steps p.tables e below (T_8.setTop (mkF m 41 #[.val (.ref a1), .val (.int p2), .val (.int (p2 + (1 : Int32)))] [(.int (p2 + (1 : Int32)))])) _
            refine XS.iconst X_8.here hx rfl (hb hby d3_41) ?_
            exact k
          by_cases hc_12 : (2 : Int32) < (p2 + (1 : Int32))
          · obtain ⟨_, _, ⟨T_13, L_13, k_13, n_13⟩, -, X_13, ⟨Lc_13, hQ_13, l_13, y_13, z_13⟩, st_13⟩ := Jvm.LawKit.callS X_8 hx (y := (⟨"com/example/borderwork/borderwork/zarrays/ZArraysToBorderArrayPinLaw", "same", "([III)Z"⟩ : MethodName)) hown (mvT hZ (hw _ (List.mem_of_getElem? (i := 13) rfl))) (mvT hZ (hw _ (List.mem_of_getElem? (i := 14) rfl))) (mvT hZ (hw _ (List.mem_of_getElem? (i := 8) rfl))) (mvT hZ (hw _ (List.mem_of_getElem? (i := 15) rfl))) (by decide) (backOf (W := 0) (rm4 l Z a0 hw [] a1 ((p2 + (1 : Int32)) - (2 : Int32)) (2 : Int32) f1 h0 n0 Z0 F0 (own_bd hq0 hq1 hc_12 (by decide)).1 (own_bd hq0 hq1 hc_12 (by decide)).2 (by decide)) hZ (hw _ (List.mem_of_getElem? (i := 15) rfl)) (hw _ (List.mem_of_getElem? (i := 8) rfl)) (by decide) (by decide)) (g := (mkF m 50 #[.val (.ref a1), .val (.int p2), .val (.int (p2 + (1 : Int32)))] [(.int (2 : Int32)), (.int ((p2 + (1 : Int32)) - (2 : Int32))), (.ref a1)])) rfl (by rw [hml]; rfl) (argsL := [(.ref a1), (.int ((p2 + (1 : Int32)) - (2 : Int32))), (.int (2 : Int32))]) (rest := []) (lenOf pd_1 rfl) rfl (by show 2 * 0 + _ ≤ _; exact Nat.le_of_eq rfl) (hb hby d3_50) (fun _ _ => ⟨rfl, e_8, (by decide : 0 + 0 ≤ _), (by decide : 0 + 0 ≤ _)⟩)
            dsimp only [Pt.U, Pt.locs, Pt.cells, Pt.slots] at X_13 l_13 y_13 z_13 st_13 hQ_13
            subst l_13 y_13 z_13
            obtain ⟨rfl, N_13q, e_13⟩ := hQ_13
            have N_13 := Fr.app N_8 N_13q
            have pr_14 : ∀ t, Steps p.tables e below (T_13.setTop (mkF m 53 #[.val (.ref a1), .val (.int p2), .val (.int (p2 + (1 : Int32)))] [(.int (own_same ((p2 + (1 : Int32)) - (2 : Int32)) (2 : Int32) f1))])) t → Steps p.tables e below (s₁.setTop (entryFrame m #[(.ref a1), (.int p2)] 3)) t := fun t k => by
              refine pr_11 _ ?_
              show Steps p.tables e below (T_8.setTop (mkF m 42 #[.val (.ref a1), .val (.int p2), .val (.int (p2 + (1 : Int32)))] [(.int (2 : Int32)), (.int (p2 + (1 : Int32)))])) _
              refine XS.icmpNo X_8.here hx rfl (hb hby d3_42) rfl (tlt hc_12).2.2.2 ?_
              show Steps p.tables e below (T_8.setTop (mkF m 45 #[.val (.ref a1), .val (.int p2), .val (.int (p2 + (1 : Int32)))] [])) _
              refine XS.aloadN X_8.here hx rfl (hb hby d3_45) rfl rfl ?_
              show Steps p.tables e below (T_8.setTop (mkF m 46 #[.val (.ref a1), .val (.int p2), .val (.int (p2 + (1 : Int32)))] [(.ref a1)])) _
              refine XS.iloadN X_8.here hx rfl (hb hby d3_46) rfl ?_
              show Steps p.tables e below (T_8.setTop (mkF m 47 #[.val (.ref a1), .val (.int p2), .val (.int (p2 + (1 : Int32)))] [(.int (p2 + (1 : Int32))), (.ref a1)])) _
              refine XS.iconst X_8.here hx rfl (hb hby d3_47) ?_
              show Steps p.tables e below (T_8.setTop (mkF m 48 #[.val (.ref a1), .val (.int p2), .val (.int (p2 + (1 : Int32)))] [(.int (2 : Int32)), (.int (p2 + (1 : Int32))), (.ref a1)])) _
              refine XS.isub X_8.here hx rfl (hb hby d3_48) rfl ?_
              show Steps p.tables e below (T_8.setTop (mkF m 49 #[.val (.ref a1), .val (.int p2), .val (.int (p2 + (1 : Int32)))] [(.int ((p2 + (1 : Int32)) - (2 : Int32))), (.ref a1)])) _
              refine XS.iconst X_8.here hx rfl (hb hby d3_49) ?_
              show Steps p.tables e below (T_8.setTop (mkF m 50 #[.val (.ref a1), .val (.int p2), .val (.int (p2 + (1 : Int32)))] [(.int (2 : Int32)), (.int ((p2 + (1 : Int32)) - (2 : Int32))), (.ref a1)])) _
              refine st_13 _ ?_
              exact k
            by_cases hc_15 : (own_same ((p2 + (1 : Int32)) - (2 : Int32)) (2 : Int32) f1) = (0 : Int32)
            · have pr_16 : ∀ t, Steps p.tables e below (T_13.setTop (mkF m 60 #[.val (.ref a1), .val (.int p2), .val (.int (p2 + (1 : Int32)))] [(.int (1 : Int32)), (.int (p2 + (1 : Int32)))])) t → Steps p.tables e below (s₁.setTop (entryFrame m #[(.ref a1), (.int p2)] 3)) t := fun t k => by
                refine pr_14 _ ?_
                show Steps p.tables e below (T_13.setTop (mkF m 53 #[.val (.ref a1), .val (.int p2), .val (.int (p2 + (1 : Int32)))] [(.int (own_same ((p2 + (1 : Int32)) - (2 : Int32)) (2 : Int32) f1))])) _
                refine XS.ifYes X_13.here hx rfl (pc0 := 53) (pc' := 58) rfl (hb hby d3_53) rfl ((if0 _ _).trans (teq hc_15).1) (by decide) (by decide) ?_
                show Steps p.tables e below (T_13.setTop (mkF m 58 #[.val (.ref a1), .val (.int p2), .val (.int (p2 + (1 : Int32)))] [])) _
                refine XS.iloadN X_13.here hx rfl (hb hby d3_58) rfl ?_
                show Steps p.tables e below (T_13.setTop (mkF m 59 #[.val (.ref a1), .val (.int p2), .val (.int (p2 + (1 : Int32)))] [(.int (p2 + (1 : Int32)))])) _
                refine XS.iconst X_13.here hx rfl (hb hby d3_59) ?_
                exact k
              by_cases hc_17 : (1 : Int32) < (p2 + (1 : Int32))
              · obtain ⟨_, _, ⟨T_18, L_18, k_18, n_18⟩, -, X_18, ⟨Lc_18, hQ_18, l_18, y_18, z_18⟩, st_18⟩ := Jvm.LawKit.callS X_13 hx (y := (⟨"com/example/borderwork/borderwork/zarrays/ZArraysToBorderArrayPinLaw", "same", "([III)Z"⟩ : MethodName)) hown (mvT hZ (hw _ (List.mem_of_getElem? (i := 13) rfl))) (mvT hZ (hw _ (List.mem_of_getElem? (i := 14) rfl))) (mvT hZ (hw _ (List.mem_of_getElem? (i := 8) rfl))) (mvT hZ (hw _ (List.mem_of_getElem? (i := 15) rfl))) (by decide) (backOf (W := 0) (rm4 l Z a0 hw [] a1 ((p2 + (1 : Int32)) - (1 : Int32)) (1 : Int32) f1 h0 n0 Z0 F0 (own_bd hq0 hq1 hc_17 (by decide)).1 (own_bd hq0 hq1 hc_17 (by decide)).2 (by decide)) hZ (hw _ (List.mem_of_getElem? (i := 15) rfl)) (hw _ (List.mem_of_getElem? (i := 8) rfl)) (by decide) (by decide)) (g := (mkF m 68 #[.val (.ref a1), .val (.int p2), .val (.int (p2 + (1 : Int32)))] [(.int (1 : Int32)), (.int ((p2 + (1 : Int32)) - (1 : Int32))), (.ref a1)])) rfl (by rw [hml]; rfl) (argsL := [(.ref a1), (.int ((p2 + (1 : Int32)) - (1 : Int32))), (.int (1 : Int32))]) (rest := []) (lenOf pd_1 rfl) rfl (by show 2 * 0 + _ ≤ _; exact Nat.le_of_eq rfl) (hb hby d3_68) (fun _ _ => ⟨rfl, e_13, (by decide : 0 + 0 ≤ _), (by decide : 0 + 0 ≤ _)⟩)
                dsimp only [Pt.U, Pt.locs, Pt.cells, Pt.slots] at X_18 l_18 y_18 z_18 st_18 hQ_18
                subst l_18 y_18 z_18
                obtain ⟨rfl, N_18q, e_18⟩ := hQ_18
                have N_18 := Fr.app N_13 N_18q
                have pr_19 : ∀ t, Steps p.tables e below (T_18.setTop (mkF m 71 #[.val (.ref a1), .val (.int p2), .val (.int (p2 + (1 : Int32)))] [(.int (own_same ((p2 + (1 : Int32)) - (1 : Int32)) (1 : Int32) f1))])) t → Steps p.tables e below (s₁.setTop (entryFrame m #[(.ref a1), (.int p2)] 3)) t := fun t k => by
                  refine pr_16 _ ?_
                  show Steps p.tables e below (T_13.setTop (mkF m 60 #[.val (.ref a1), .val (.int p2), .val (.int (p2 + (1 : Int32)))] [(.int (1 : Int32)), (.int (p2 + (1 : Int32)))])) _
                  refine XS.icmpNo X_13.here hx rfl (hb hby d3_60) rfl (tlt hc_17).2.2.2 ?_
                  show Steps p.tables e below (T_13.setTop (mkF m 63 #[.val (.ref a1), .val (.int p2), .val (.int (p2 + (1 : Int32)))] [])) _
                  refine XS.aloadN X_13.here hx rfl (hb hby d3_63) rfl rfl ?_
                  show Steps p.tables e below (T_13.setTop (mkF m 64 #[.val (.ref a1), .val (.int p2), .val (.int (p2 + (1 : Int32)))] [(.ref a1)])) _
                  refine XS.iloadN X_13.here hx rfl (hb hby d3_64) rfl ?_
                  show Steps p.tables e below (T_13.setTop (mkF m 65 #[.val (.ref a1), .val (.int p2), .val (.int (p2 + (1 : Int32)))] [(.int (p2 + (1 : Int32))), (.ref a1)])) _
                  refine XS.iconst X_13.here hx rfl (hb hby d3_65) ?_
                  show Steps p.tables e below (T_13.setTop (mkF m 66 #[.val (.ref a1), .val (.int p2), .val (.int (p2 + (1 : Int32)))] [(.int (1 : Int32)), (.int (p2 + (1 : Int32))), (.ref a1)])) _
                  refine XS.isub X_13.here hx rfl (hb hby d3_66) rfl ?_
                  show Steps p.tables e below (T_13.setTop (mkF m 67 #[.val (.ref a1), .val (.int p2), .val (.int (p2 + (1 : Int32)))] [(.int ((p2 + (1 : Int32)) - (1 : Int32))), (.ref a1)])) _
                  refine XS.iconst X_13.here hx rfl (hb hby d3_67) ?_
                  show Steps p.tables e below (T_13.setTop (mkF m 68 #[.val (.ref a1), .val (.int p2), .val (.int (p2 + (1 : Int32)))] [(.int (1 : Int32)), (.int ((p2 + (1 : Int32)) - (1 : Int32))), (.ref a1)])) _
                  refine st_18 _ ?_
                  exact k
                by_cases hc_20 : (own_same ((p2 + (1 : Int32)) - (1 : Int32)) (1 : Int32) f1) = (0 : Int32)
                · obtain ⟨fs, hr, hrun, hended, hW, hsame⟩ := X_18.leave (v := some (.int (0 : Int32))) (fun h => by rw [Bd.returns] at h; cases h)
                  refine ⟨_, _, pr_19 _ ?_, hrun, hended, _, _, rfl, ?_, ⟨_, rfl⟩, hW, hsame.mono (by decide) (by decide)⟩
                  · show Steps p.tables e below (T_18.setTop (mkF m 71 #[.val (.ref a1), .val (.int p2), .val (.int (p2 + (1 : Int32)))] [(.int (own_same ((p2 + (1 : Int32)) - (1 : Int32)) (1 : Int32) f1))])) _
                    refine XS.ifYes X_18.here hx rfl (pc0 := 71) (pc' := 76) rfl (hb hby d3_71) rfl ((if0 _ _).trans (teq hc_20).1) (by decide) (by decide) ?_
                    show Steps p.tables e below (T_18.setTop (mkF m 76 #[.val (.ref a1), .val (.int p2), .val (.int (p2 + (1 : Int32)))] [])) _
                    refine XS.iconst X_18.here hx rfl (hb hby d3_76) ?_
                    show Steps p.tables e below (T_18.setTop (mkF m 77 #[.val (.ref a1), .val (.int p2), .val (.int (p2 + (1 : Int32)))] [(.int (0 : Int32))])) _
                    exact retI X_18 hx Bd.returns (hb hby d3_77) hr
                  · show Q3 Z a1 p2 f1 h0 n0 _ T_18.heap _
                    rw [e_18]
                    exact ⟨by rw [own_border, if_pos hc_2, if_pos hc_5, if_pos hc_7, if_pos hc_10, if_pos hc_12, if_pos hc_15, if_pos hc_17, if_pos hc_20], N_18, rfl⟩
                · obtain ⟨fs, hr, hrun, hended, hW, hsame⟩ := X_18.leave (v := some (.int (1 : Int32))) (fun h => by rw [Bd.returns] at h; cases h)
                  refine ⟨_, _, pr_19 _ ?_, hrun, hended, _, _, rfl, ?_, ⟨_, rfl⟩, hW, hsame.mono (by decide) (by decide)⟩
                  · show Steps p.tables e below (T_18.setTop (mkF m 71 #[.val (.ref a1), .val (.int p2), .val (.int (p2 + (1 : Int32)))] [(.int (own_same ((p2 + (1 : Int32)) - (1 : Int32)) (1 : Int32) f1))])) _
                    refine XS.ifNo X_18.here hx rfl (hb hby d3_71) rfl ((if0 _ _).trans (feq hc_20).1) ?_
                    show Steps p.tables e below (T_18.setTop (mkF m 74 #[.val (.ref a1), .val (.int p2), .val (.int (p2 + (1 : Int32)))] [])) _
                    refine XS.iconst X_18.here hx rfl (hb hby d3_74) ?_
                    show Steps p.tables e below (T_18.setTop (mkF m 75 #[.val (.ref a1), .val (.int p2), .val (.int (p2 + (1 : Int32)))] [(.int (1 : Int32))])) _
                    exact retI X_18 hx Bd.returns (hb hby d3_75) hr
                  · show Q3 Z a1 p2 f1 h0 n0 _ T_18.heap _
                    rw [e_18]
                    exact ⟨by rw [own_border, if_pos hc_2, if_pos hc_5, if_pos hc_7, if_pos hc_10, if_pos hc_12, if_pos hc_15, if_pos hc_17, if_neg hc_20], N_18, rfl⟩
              · obtain ⟨fs, hr, hrun, hended, hW, hsame⟩ := X_13.leave (v := some (.int (0 : Int32))) (fun h => by rw [Bd.returns] at h; cases h)
                refine ⟨_, _, pr_16 _ ?_, hrun, hended, _, _, rfl, ?_, ⟨_, rfl⟩, hW, hsame.mono (by decide) (by decide)⟩
                · show Steps p.tables e below (T_13.setTop (mkF m 60 #[.val (.ref a1), .val (.int p2), .val (.int (p2 + (1 : Int32)))] [(.int (1 : Int32)), (.int (p2 + (1 : Int32)))])) _
                  refine XS.icmpYes X_13.here hx rfl (pc0 := 60) (pc' := 76) rfl (hb hby d3_60) rfl (flt hc_17).2.2.2 (by decide) (by decide) ?_
                  show Steps p.tables e below (T_13.setTop (mkF m 76 #[.val (.ref a1), .val (.int p2), .val (.int (p2 + (1 : Int32)))] [])) _
                  refine XS.iconst X_13.here hx rfl (hb hby d3_76) ?_
                  show Steps p.tables e below (T_13.setTop (mkF m 77 #[.val (.ref a1), .val (.int p2), .val (.int (p2 + (1 : Int32)))] [(.int (0 : Int32))])) _
                  exact retI X_13 hx Bd.returns (hb hby d3_77) hr
                · show Q3 Z a1 p2 f1 h0 n0 _ T_13.heap _
                  rw [e_13]
                  exact ⟨by rw [own_border, if_pos hc_2, if_pos hc_5, if_pos hc_7, if_pos hc_10, if_pos hc_12, if_pos hc_15, if_neg hc_17], N_13, rfl⟩
            · obtain ⟨fs, hr, hrun, hended, hW, hsame⟩ := X_13.leave (v := some (.int (2 : Int32))) (fun h => by rw [Bd.returns] at h; cases h)
              refine ⟨_, _, pr_14 _ ?_, hrun, hended, _, _, rfl, ?_, ⟨_, rfl⟩, hW, hsame.mono (by decide) (by decide)⟩
              · show Steps p.tables e below (T_13.setTop (mkF m 53 #[.val (.ref a1), .val (.int p2), .val (.int (p2 + (1 : Int32)))] [(.int (own_same ((p2 + (1 : Int32)) - (2 : Int32)) (2 : Int32) f1))])) _
                refine XS.ifNo X_13.here hx rfl (hb hby d3_53) rfl ((if0 _ _).trans (feq hc_15).1) ?_
                show Steps p.tables e below (T_13.setTop (mkF m 56 #[.val (.ref a1), .val (.int p2), .val (.int (p2 + (1 : Int32)))] [])) _
                refine XS.iconst X_13.here hx rfl (hb hby d3_56) ?_
                show Steps p.tables e below (T_13.setTop (mkF m 57 #[.val (.ref a1), .val (.int p2), .val (.int (p2 + (1 : Int32)))] [(.int (2 : Int32))])) _
                exact retI X_13 hx Bd.returns (hb hby d3_57) hr
              · show Q3 Z a1 p2 f1 h0 n0 _ T_13.heap _
                rw [e_13]
                exact ⟨by rw [own_border, if_pos hc_2, if_pos hc_5, if_pos hc_7, if_pos hc_10, if_pos hc_12, if_neg hc_15], N_13, rfl⟩
          · have pr_21 : ∀ t, Steps p.tables e below (T_8.setTop (mkF m 60 #[.val (.ref a1), .val (.int p2), .val (.int (p2 + (1 : Int32)))] [(.int (1 : Int32)), (.int (p2 + (1 : Int32)))])) t → Steps p.tables e below (s₁.setTop (entryFrame m #[(.ref a1), (.int p2)] 3)) t := fun t k => by
              refine pr_11 _ ?_
              show Steps p.tables e below (T_8.setTop (mkF m 42 #[.val (.ref a1), .val (.int p2), .val (.int (p2 + (1 : Int32)))] [(.int (2 : Int32)), (.int (p2 + (1 : Int32)))])) _
              refine XS.icmpYes X_8.here hx rfl (pc0 := 42) (pc' := 58) rfl (hb hby d3_42) rfl (flt hc_12).2.2.2 (by decide) (by decide) ?_
              show Steps p.tables e below (T_8.setTop (mkF m 58 #[.val (.ref a1), .val (.int p2), .val (.int (p2 + (1 : Int32)))] [])) _
              refine XS.iloadN X_8.here hx rfl (hb hby d3_58) rfl ?_
              show Steps p.tables e below (T_8.setTop (mkF m 59 #[.val (.ref a1), .val (.int p2), .val (.int (p2 + (1 : Int32)))] [(.int (p2 + (1 : Int32)))])) _
              refine XS.iconst X_8.here hx rfl (hb hby d3_59) ?_
              exact k
            by_cases hc_22 : (1 : Int32) < (p2 + (1 : Int32))
            · obtain ⟨_, _, ⟨T_23, L_23, k_23, n_23⟩, -, X_23, ⟨Lc_23, hQ_23, l_23, y_23, z_23⟩, st_23⟩ := Jvm.LawKit.callS X_8 hx (y := (⟨"com/example/borderwork/borderwork/zarrays/ZArraysToBorderArrayPinLaw", "same", "([III)Z"⟩ : MethodName)) hown (mvT hZ (hw _ (List.mem_of_getElem? (i := 13) rfl))) (mvT hZ (hw _ (List.mem_of_getElem? (i := 14) rfl))) (mvT hZ (hw _ (List.mem_of_getElem? (i := 8) rfl))) (mvT hZ (hw _ (List.mem_of_getElem? (i := 15) rfl))) (by decide) (backOf (W := 0) (rm4 l Z a0 hw [] a1 ((p2 + (1 : Int32)) - (1 : Int32)) (1 : Int32) f1 h0 n0 Z0 F0 (own_bd hq0 hq1 hc_22 (by decide)).1 (own_bd hq0 hq1 hc_22 (by decide)).2 (by decide)) hZ (hw _ (List.mem_of_getElem? (i := 15) rfl)) (hw _ (List.mem_of_getElem? (i := 8) rfl)) (by decide) (by decide)) (g := (mkF m 68 #[.val (.ref a1), .val (.int p2), .val (.int (p2 + (1 : Int32)))] [(.int (1 : Int32)), (.int ((p2 + (1 : Int32)) - (1 : Int32))), (.ref a1)])) rfl (by rw [hml]; rfl) (argsL := [(.ref a1), (.int ((p2 + (1 : Int32)) - (1 : Int32))), (.int (1 : Int32))]) (rest := []) (lenOf pd_1 rfl) rfl (by show 2 * 0 + _ ≤ _; exact Nat.le_of_eq rfl) (hb hby d3_68) (fun _ _ => ⟨rfl, e_8, (by decide : 0 + 0 ≤ _), (by decide : 0 + 0 ≤ _)⟩)
              dsimp only [Pt.U, Pt.locs, Pt.cells, Pt.slots] at X_23 l_23 y_23 z_23 st_23 hQ_23
              subst l_23 y_23 z_23
              obtain ⟨rfl, N_23q, e_23⟩ := hQ_23
              have N_23 := Fr.app N_8 N_23q
              have pr_24 : ∀ t, Steps p.tables e below (T_23.setTop (mkF m 71 #[.val (.ref a1), .val (.int p2), .val (.int (p2 + (1 : Int32)))] [(.int (own_same ((p2 + (1 : Int32)) - (1 : Int32)) (1 : Int32) f1))])) t → Steps p.tables e below (s₁.setTop (entryFrame m #[(.ref a1), (.int p2)] 3)) t := fun t k => by
                refine pr_21 _ ?_
                show Steps p.tables e below (T_8.setTop (mkF m 60 #[.val (.ref a1), .val (.int p2), .val (.int (p2 + (1 : Int32)))] [(.int (1 : Int32)), (.int (p2 + (1 : Int32)))])) _
                refine XS.icmpNo X_8.here hx rfl (hb hby d3_60) rfl (tlt hc_22).2.2.2 ?_
                show Steps p.tables e below (T_8.setTop (mkF m 63 #[.val (.ref a1), .val (.int p2), .val (.int (p2 + (1 : Int32)))] [])) _
                refine XS.aloadN X_8.here hx rfl (hb hby d3_63) rfl rfl ?_
                show Steps p.tables e below (T_8.setTop (mkF m 64 #[.val (.ref a1), .val (.int p2), .val (.int (p2 + (1 : Int32)))] [(.ref a1)])) _
                refine XS.iloadN X_8.here hx rfl (hb hby d3_64) rfl ?_
                show Steps p.tables e below (T_8.setTop (mkF m 65 #[.val (.ref a1), .val (.int p2), .val (.int (p2 + (1 : Int32)))] [(.int (p2 + (1 : Int32))), (.ref a1)])) _
                refine XS.iconst X_8.here hx rfl (hb hby d3_65) ?_
                show Steps p.tables e below (T_8.setTop (mkF m 66 #[.val (.ref a1), .val (.int p2), .val (.int (p2 + (1 : Int32)))] [(.int (1 : Int32)), (.int (p2 + (1 : Int32))), (.ref a1)])) _
                refine XS.isub X_8.here hx rfl (hb hby d3_66) rfl ?_
                show Steps p.tables e below (T_8.setTop (mkF m 67 #[.val (.ref a1), .val (.int p2), .val (.int (p2 + (1 : Int32)))] [(.int ((p2 + (1 : Int32)) - (1 : Int32))), (.ref a1)])) _
                refine XS.iconst X_8.here hx rfl (hb hby d3_67) ?_
                show Steps p.tables e below (T_8.setTop (mkF m 68 #[.val (.ref a1), .val (.int p2), .val (.int (p2 + (1 : Int32)))] [(.int (1 : Int32)), (.int ((p2 + (1 : Int32)) - (1 : Int32))), (.ref a1)])) _
                refine st_23 _ ?_
                exact k
              by_cases hc_25 : (own_same ((p2 + (1 : Int32)) - (1 : Int32)) (1 : Int32) f1) = (0 : Int32)
              · obtain ⟨fs, hr, hrun, hended, hW, hsame⟩ := X_23.leave (v := some (.int (0 : Int32))) (fun h => by rw [Bd.returns] at h; cases h)
                refine ⟨_, _, pr_24 _ ?_, hrun, hended, _, _, rfl, ?_, ⟨_, rfl⟩, hW, hsame.mono (by decide) (by decide)⟩
                · show Steps p.tables e below (T_23.setTop (mkF m 71 #[.val (.ref a1), .val (.int p2), .val (.int (p2 + (1 : Int32)))] [(.int (own_same ((p2 + (1 : Int32)) - (1 : Int32)) (1 : Int32) f1))])) _
                  refine XS.ifYes X_23.here hx rfl (pc0 := 71) (pc' := 76) rfl (hb hby d3_71) rfl ((if0 _ _).trans (teq hc_25).1) (by decide) (by decide) ?_
                  show Steps p.tables e below (T_23.setTop (mkF m 76 #[.val (.ref a1), .val (.int p2), .val (.int (p2 + (1 : Int32)))] [])) _
                  refine XS.iconst X_23.here hx rfl (hb hby d3_76) ?_
                  show Steps p.tables e below (T_23.setTop (mkF m 77 #[.val (.ref a1), .val (.int p2), .val (.int (p2 + (1 : Int32)))] [(.int (0 : Int32))])) _
                  exact retI X_23 hx Bd.returns (hb hby d3_77) hr
                · show Q3 Z a1 p2 f1 h0 n0 _ T_23.heap _
                  rw [e_23]
                  exact ⟨by rw [own_border, if_pos hc_2, if_pos hc_5, if_pos hc_7, if_pos hc_10, if_neg hc_12, if_pos hc_22, if_pos hc_25], N_23, rfl⟩
              · obtain ⟨fs, hr, hrun, hended, hW, hsame⟩ := X_23.leave (v := some (.int (1 : Int32))) (fun h => by rw [Bd.returns] at h; cases h)
                refine ⟨_, _, pr_24 _ ?_, hrun, hended, _, _, rfl, ?_, ⟨_, rfl⟩, hW, hsame.mono (by decide) (by decide)⟩
                · show Steps p.tables e below (T_23.setTop (mkF m 71 #[.val (.ref a1), .val (.int p2), .val (.int (p2 + (1 : Int32)))] [(.int (own_same ((p2 + (1 : Int32)) - (1 : Int32)) (1 : Int32) f1))])) _
                  refine XS.ifNo X_23.here hx rfl (hb hby d3_71) rfl ((if0 _ _).trans (feq hc_25).1) ?_
                  show Steps p.tables e below (T_23.setTop (mkF m 74 #[.val (.ref a1), .val (.int p2), .val (.int (p2 + (1 : Int32)))] [])) _
                  refine XS.iconst X_23.here hx rfl (hb hby d3_74) ?_
                  show Steps p.tables e below (T_23.setTop (mkF m 75 #[.val (.ref a1), .val (.int p2), .val (.int (p2 + (1 : Int32)))] [(.int (1 : Int32))])) _
                  exact retI X_23 hx Bd.returns (hb hby d3_75) hr
                · show Q3 Z a1 p2 f1 h0 n0 _ T_23.heap _
                  rw [e_23]
                  exact ⟨by rw [own_border, if_pos hc_2, if_pos hc_5, if_pos hc_7, if_pos hc_10, if_neg hc_12, if_pos hc_22, if_neg hc_25], N_23, rfl⟩
            · obtain ⟨fs, hr, hrun, hended, hW, hsame⟩ := X_8.leave (v := some (.int (0 : Int32))) (fun h => by rw [Bd.returns] at h; cases h)
              refine ⟨_, _, pr_21 _ ?_, hrun, hended, _, _, rfl, ?_, ⟨_, rfl⟩, hW, hsame.mono (by decide) (by decide)⟩
              · show Steps p.tables e below (T_8.setTop (mkF m 60 #[.val (.ref a1), .val (.int p2), .val (.int (p2 + (1 : Int32)))] [(.int (1 : Int32)), (.int (p2 + (1 : Int32)))])) _
                refine XS.icmpYes X_8.here hx rfl (pc0 := 60) (pc' := 76) rfl (hb hby d3_60) rfl (flt hc_22).2.2.2 (by decide) (by decide) ?_
                show Steps p.tables e below (T_8.setTop (mkF m 76 #[.val (.ref a1), .val (.int p2), .val (.int (p2 + (1 : Int32)))] [])) _
                refine XS.iconst X_8.here hx rfl (hb hby d3_76) ?_
                show Steps p.tables e below (T_8.setTop (mkF m 77 #[.val (.ref a1), .val (.int p2), .val (.int (p2 + (1 : Int32)))] [(.int (0 : Int32))])) _
                exact retI X_8 hx Bd.returns (hb hby d3_77) hr
              · show Q3 Z a1 p2 f1 h0 n0 _ T_8.heap _
                rw [e_8]
                exact ⟨by rw [own_border, if_pos hc_2, if_pos hc_5, if_pos hc_7, if_pos hc_10, if_neg hc_12, if_neg hc_22], N_8, rfl⟩
        · obtain ⟨fs, hr, hrun, hended, hW, hsame⟩ := X_8.leave (v := some (.int (3 : Int32))) (fun h => by rw [Bd.returns] at h; cases h)
          refine ⟨_, _, pr_9 _ ?_, hrun, hended, _, _, rfl, ?_, ⟨_, rfl⟩, hW, hsame.mono (by decide) (by decide)⟩
          · show Steps p.tables e below (T_8.setTop (mkF m 35 #[.val (.ref a1), .val (.int p2), .val (.int (p2 + (1 : Int32)))] [(.int (own_same ((p2 + (1 : Int32)) - (3 : Int32)) (3 : Int32) f1))])) _
            refine XS.ifNo X_8.here hx rfl (hb hby d3_35) rfl ((if0 _ _).trans (feq hc_10).1) ?_
            show Steps p.tables e below (T_8.setTop (mkF m 38 #[.val (.ref a1), .val (.int p2), .val (.int (p2 + (1 : Int32)))] [])) _
            refine XS.iconst X_8.here hx rfl (hb hby d3_38) ?_
            show Steps p.tables e below (T_8.setTop (mkF m 39 #[.val (.ref a1), .val (.int p2), .val (.int (p2 + (1 : Int32)))] [(.int (3 : Int32))])) _
            exact retI X_8 hx Bd.returns (hb hby d3_39) hr
          · show Q3 Z a1 p2 f1 h0 n0 _ T_8.heap _
            rw [e_8]
            exact ⟨by rw [own_border, if_pos hc_2, if_pos hc_5, if_pos hc_7, if_neg hc_10], N_8, rfl⟩
      · have pr_26 : ∀ t, Steps p.tables e below (T_3.setTop (mkF m 42 #[.val (.ref a1), .val (.int p2), .val (.int (p2 + (1 : Int32)))] [(.int (2 : Int32)), (.int (p2 + (1 : Int32)))])) t → Steps p.tables e below (s₁.setTop (entryFrame m #[(.ref a1), (.int p2)] 3)) t := fun t k => by
          refine pr_6 _ ?_
          show Steps p.tables e below (T_3.setTop (mkF m 24 #[.val (.ref a1), .val (.int p2), .val (.int (p2 + (1 : Int32)))] [(.int (3 : Int32)), (.int (p2 + (1 : Int32)))])) _
          refine XS.icmpYes X_3.here hx rfl (pc0 := 24) (pc' := 40) rfl (hb hby d3_24) rfl (flt hc_7).2.2.2 (by decide) (by decide) ?_
          show Steps p.tables e below (T_3.setTop (mkF m 40 #[.val (.ref a1), .val (.int p2), .val (.int (p2 + (1 : Int32)))] [])) _
          refine XS.iloadN X_3.here hx rfl (hb hby d3_40) rfl ?_
          show Steps p.tables e below (T_3.setTop (mkF m 41 #[.val (.ref a1), .val (.int p2), .val (.int (p2 + (1 : Int32)))] [(.int (p2 + (1 : Int32)))])) _
          refine XS.iconst X_3.here hx rfl (hb hby d3_41) ?_
          exact k
        by_cases hc_27 : (2 : Int32) < (p2 + (1 : Int32))
        · obtain ⟨_, _, ⟨T_28, L_28, k_28, n_28⟩, -, X_28, ⟨Lc_28, hQ_28, l_28, y_28, z_28⟩, st_28⟩ := Jvm.LawKit.callS X_3 hx (y := (⟨"com/example/borderwork/borderwork/zarrays/ZArraysToBorderArrayPinLaw", "same", "([III)Z"⟩ : MethodName)) hown (mvT hZ (hw _ (List.mem_of_getElem? (i := 13) rfl))) (mvT hZ (hw _ (List.mem_of_getElem? (i := 14) rfl))) (mvT hZ (hw _ (List.mem_of_getElem? (i := 8) rfl))) (mvT hZ (hw _ (List.mem_of_getElem? (i := 15) rfl))) (by decide) (backOf (W := 0) (rm4 l Z a0 hw [] a1 ((p2 + (1 : Int32)) - (2 : Int32)) (2 : Int32) f1 h0 n0 Z0 F0 (own_bd hq0 hq1 hc_27 (by decide)).1 (own_bd hq0 hq1 hc_27 (by decide)).2 (by decide)) hZ (hw _ (List.mem_of_getElem? (i := 15) rfl)) (hw _ (List.mem_of_getElem? (i := 8) rfl)) (by decide) (by decide)) (g := (mkF m 50 #[.val (.ref a1), .val (.int p2), .val (.int (p2 + (1 : Int32)))] [(.int (2 : Int32)), (.int ((p2 + (1 : Int32)) - (2 : Int32))), (.ref a1)])) rfl (by rw [hml]; rfl) (argsL := [(.ref a1), (.int ((p2 + (1 : Int32)) - (2 : Int32))), (.int (2 : Int32))]) (rest := []) (lenOf pd_1 rfl) rfl (by show 2 * 0 + _ ≤ _; exact Nat.le_of_eq rfl) (hb hby d3_50) (fun _ _ => ⟨rfl, e_3, (by decide : 0 + 0 ≤ _), (by decide : 0 + 0 ≤ _)⟩)
          dsimp only [Pt.U, Pt.locs, Pt.cells, Pt.slots] at X_28 l_28 y_28 z_28 st_28 hQ_28
          subst l_28 y_28 z_28
          obtain ⟨rfl, N_28q, e_28⟩ := hQ_28
          have N_28 := Fr.app N_3 N_28q
          have pr_29 : ∀ t, Steps p.tables e below (T_28.setTop (mkF m 53 #[.val (.ref a1), .val (.int p2), .val (.int (p2 + (1 : Int32)))] [(.int (own_same ((p2 + (1 : Int32)) - (2 : Int32)) (2 : Int32) f1))])) t → Steps p.tables e below (s₁.setTop (entryFrame m #[(.ref a1), (.int p2)] 3)) t := fun t k => by
            refine pr_26 _ ?_
            show Steps p.tables e below (T_3.setTop (mkF m 42 #[.val (.ref a1), .val (.int p2), .val (.int (p2 + (1 : Int32)))] [(.int (2 : Int32)), (.int (p2 + (1 : Int32)))])) _
            refine XS.icmpNo X_3.here hx rfl (hb hby d3_42) rfl (tlt hc_27).2.2.2 ?_
            show Steps p.tables e below (T_3.setTop (mkF m 45 #[.val (.ref a1), .val (.int p2), .val (.int (p2 + (1 : Int32)))] [])) _
            refine XS.aloadN X_3.here hx rfl (hb hby d3_45) rfl rfl ?_
            show Steps p.tables e below (T_3.setTop (mkF m 46 #[.val (.ref a1), .val (.int p2), .val (.int (p2 + (1 : Int32)))] [(.ref a1)])) _
            refine XS.iloadN X_3.here hx rfl (hb hby d3_46) rfl ?_
            show Steps p.tables e below (T_3.setTop (mkF m 47 #[.val (.ref a1), .val (.int p2), .val (.int (p2 + (1 : Int32)))] [(.int (p2 + (1 : Int32))), (.ref a1)])) _
            refine XS.iconst X_3.here hx rfl (hb hby d3_47) ?_
            show Steps p.tables e below (T_3.setTop (mkF m 48 #[.val (.ref a1), .val (.int p2), .val (.int (p2 + (1 : Int32)))] [(.int (2 : Int32)), (.int (p2 + (1 : Int32))), (.ref a1)])) _
            refine XS.isub X_3.here hx rfl (hb hby d3_48) rfl ?_
            show Steps p.tables e below (T_3.setTop (mkF m 49 #[.val (.ref a1), .val (.int p2), .val (.int (p2 + (1 : Int32)))] [(.int ((p2 + (1 : Int32)) - (2 : Int32))), (.ref a1)])) _
            refine XS.iconst X_3.here hx rfl (hb hby d3_49) ?_
            show Steps p.tables e below (T_3.setTop (mkF m 50 #[.val (.ref a1), .val (.int p2), .val (.int (p2 + (1 : Int32)))] [(.int (2 : Int32)), (.int ((p2 + (1 : Int32)) - (2 : Int32))), (.ref a1)])) _
            refine st_28 _ ?_
            exact k
          by_cases hc_30 : (own_same ((p2 + (1 : Int32)) - (2 : Int32)) (2 : Int32) f1) = (0 : Int32)
          · have pr_31 : ∀ t, Steps p.tables e below (T_28.setTop (mkF m 60 #[.val (.ref a1), .val (.int p2), .val (.int (p2 + (1 : Int32)))] [(.int (1 : Int32)), (.int (p2 + (1 : Int32)))])) t → Steps p.tables e below (s₁.setTop (entryFrame m #[(.ref a1), (.int p2)] 3)) t := fun t k => by
              refine pr_29 _ ?_
              show Steps p.tables e below (T_28.setTop (mkF m 53 #[.val (.ref a1), .val (.int p2), .val (.int (p2 + (1 : Int32)))] [(.int (own_same ((p2 + (1 : Int32)) - (2 : Int32)) (2 : Int32) f1))])) _
              refine XS.ifYes X_28.here hx rfl (pc0 := 53) (pc' := 58) rfl (hb hby d3_53) rfl ((if0 _ _).trans (teq hc_30).1) (by decide) (by decide) ?_
              show Steps p.tables e below (T_28.setTop (mkF m 58 #[.val (.ref a1), .val (.int p2), .val (.int (p2 + (1 : Int32)))] [])) _
              refine XS.iloadN X_28.here hx rfl (hb hby d3_58) rfl ?_
              show Steps p.tables e below (T_28.setTop (mkF m 59 #[.val (.ref a1), .val (.int p2), .val (.int (p2 + (1 : Int32)))] [(.int (p2 + (1 : Int32)))])) _
              refine XS.iconst X_28.here hx rfl (hb hby d3_59) ?_
              exact k
            by_cases hc_32 : (1 : Int32) < (p2 + (1 : Int32))
            · obtain ⟨_, _, ⟨T_33, L_33, k_33, n_33⟩, -, X_33, ⟨Lc_33, hQ_33, l_33, y_33, z_33⟩, st_33⟩ := Jvm.LawKit.callS X_28 hx (y := (⟨"com/example/borderwork/borderwork/zarrays/ZArraysToBorderArrayPinLaw", "same", "([III)Z"⟩ : MethodName)) hown (mvT hZ (hw _ (List.mem_of_getElem? (i := 13) rfl))) (mvT hZ (hw _ (List.mem_of_getElem? (i := 14) rfl))) (mvT hZ (hw _ (List.mem_of_getElem? (i := 8) rfl))) (mvT hZ (hw _ (List.mem_of_getElem? (i := 15) rfl))) (by decide) (backOf (W := 0) (rm4 l Z a0 hw [] a1 ((p2 + (1 : Int32)) - (1 : Int32)) (1 : Int32) f1 h0 n0 Z0 F0 (own_bd hq0 hq1 hc_32 (by decide)).1 (own_bd hq0 hq1 hc_32 (by decide)).2 (by decide)) hZ (hw _ (List.mem_of_getElem? (i := 15) rfl)) (hw _ (List.mem_of_getElem? (i := 8) rfl)) (by decide) (by decide)) (g := (mkF m 68 #[.val (.ref a1), .val (.int p2), .val (.int (p2 + (1 : Int32)))] [(.int (1 : Int32)), (.int ((p2 + (1 : Int32)) - (1 : Int32))), (.ref a1)])) rfl (by rw [hml]; rfl) (argsL := [(.ref a1), (.int ((p2 + (1 : Int32)) - (1 : Int32))), (.int (1 : Int32))]) (rest := []) (lenOf pd_1 rfl) rfl (by show 2 * 0 + _ ≤ _; exact Nat.le_of_eq rfl) (hb hby d3_68) (fun _ _ => ⟨rfl, e_28, (by decide : 0 + 0 ≤ _), (by decide : 0 + 0 ≤ _)⟩)
              dsimp only [Pt.U, Pt.locs, Pt.cells, Pt.slots] at X_33 l_33 y_33 z_33 st_33 hQ_33
              subst l_33 y_33 z_33
              obtain ⟨rfl, N_33q, e_33⟩ := hQ_33
              have N_33 := Fr.app N_28 N_33q
              have pr_34 : ∀ t, Steps p.tables e below (T_33.setTop (mkF m 71 #[.val (.ref a1), .val (.int p2), .val (.int (p2 + (1 : Int32)))] [(.int (own_same ((p2 + (1 : Int32)) - (1 : Int32)) (1 : Int32) f1))])) t → Steps p.tables e below (s₁.setTop (entryFrame m #[(.ref a1), (.int p2)] 3)) t := fun t k => by
                refine pr_31 _ ?_
                show Steps p.tables e below (T_28.setTop (mkF m 60 #[.val (.ref a1), .val (.int p2), .val (.int (p2 + (1 : Int32)))] [(.int (1 : Int32)), (.int (p2 + (1 : Int32)))])) _
                refine XS.icmpNo X_28.here hx rfl (hb hby d3_60) rfl (tlt hc_32).2.2.2 ?_
                show Steps p.tables e below (T_28.setTop (mkF m 63 #[.val (.ref a1), .val (.int p2), .val (.int (p2 + (1 : Int32)))] [])) _
                refine XS.aloadN X_28.here hx rfl (hb hby d3_63) rfl rfl ?_
                show Steps p.tables e below (T_28.setTop (mkF m 64 #[.val (.ref a1), .val (.int p2), .val (.int (p2 + (1 : Int32)))] [(.ref a1)])) _
                refine XS.iloadN X_28.here hx rfl (hb hby d3_64) rfl ?_
                show Steps p.tables e below (T_28.setTop (mkF m 65 #[.val (.ref a1), .val (.int p2), .val (.int (p2 + (1 : Int32)))] [(.int (p2 + (1 : Int32))), (.ref a1)])) _
                refine XS.iconst X_28.here hx rfl (hb hby d3_65) ?_
                show Steps p.tables e below (T_28.setTop (mkF m 66 #[.val (.ref a1), .val (.int p2), .val (.int (p2 + (1 : Int32)))] [(.int (1 : Int32)), (.int (p2 + (1 : Int32))), (.ref a1)])) _
                refine XS.isub X_28.here hx rfl (hb hby d3_66) rfl ?_
                show Steps p.tables e below (T_28.setTop (mkF m 67 #[.val (.ref a1), .val (.int p2), .val (.int (p2 + (1 : Int32)))] [(.int ((p2 + (1 : Int32)) - (1 : Int32))), (.ref a1)])) _
                refine XS.iconst X_28.here hx rfl (hb hby d3_67) ?_
                show Steps p.tables e below (T_28.setTop (mkF m 68 #[.val (.ref a1), .val (.int p2), .val (.int (p2 + (1 : Int32)))] [(.int (1 : Int32)), (.int ((p2 + (1 : Int32)) - (1 : Int32))), (.ref a1)])) _
                refine st_33 _ ?_
                exact k
              by_cases hc_35 : (own_same ((p2 + (1 : Int32)) - (1 : Int32)) (1 : Int32) f1) = (0 : Int32)
              · obtain ⟨fs, hr, hrun, hended, hW, hsame⟩ := X_33.leave (v := some (.int (0 : Int32))) (fun h => by rw [Bd.returns] at h; cases h)
                refine ⟨_, _, pr_34 _ ?_, hrun, hended, _, _, rfl, ?_, ⟨_, rfl⟩, hW, hsame.mono (by decide) (by decide)⟩
                · show Steps p.tables e below (T_33.setTop (mkF m 71 #[.val (.ref a1), .val (.int p2), .val (.int (p2 + (1 : Int32)))] [(.int (own_same ((p2 + (1 : Int32)) - (1 : Int32)) (1 : Int32) f1))])) _
                  refine XS.ifYes X_33.here hx rfl (pc0 := 71) (pc' := 76) rfl (hb hby d3_71) rfl ((if0 _ _).trans (teq hc_35).1) (by decide) (by decide) ?_
                  show Steps p.tables e below (T_33.setTop (mkF m 76 #[.val (.ref a1), .val (.int p2), .val (.int (p2 + (1 : Int32)))] [])) _
                  refine XS.iconst X_33.here hx rfl (hb hby d3_76) ?_
                  show Steps p.tables e below (T_33.setTop (mkF m 77 #[.val (.ref a1), .val (.int p2), .val (.int (p2 + (1 : Int32)))] [(.int (0 : Int32))])) _
                  exact retI X_33 hx Bd.returns (hb hby d3_77) hr
                · show Q3 Z a1 p2 f1 h0 n0 _ T_33.heap _
                  rw [e_33]
                  exact ⟨by rw [own_border, if_pos hc_2, if_pos hc_5, if_neg hc_7, if_pos hc_27, if_pos hc_30, if_pos hc_32, if_pos hc_35], N_33, rfl⟩
              · obtain ⟨fs, hr, hrun, hended, hW, hsame⟩ := X_33.leave (v := some (.int (1 : Int32))) (fun h => by rw [Bd.returns] at h; cases h)
                refine ⟨_, _, pr_34 _ ?_, hrun, hended, _, _, rfl, ?_, ⟨_, rfl⟩, hW, hsame.mono (by decide) (by decide)⟩
                · show Steps p.tables e below (T_33.setTop (mkF m 71 #[.val (.ref a1), .val (.int p2), .val (.int (p2 + (1 : Int32)))] [(.int (own_same ((p2 + (1 : Int32)) - (1 : Int32)) (1 : Int32) f1))])) _
                  refine XS.ifNo X_33.here hx rfl (hb hby d3_71) rfl ((if0 _ _).trans (feq hc_35).1) ?_
                  show Steps p.tables e below (T_33.setTop (mkF m 74 #[.val (.ref a1), .val (.int p2), .val (.int (p2 + (1 : Int32)))] [])) _
                  refine XS.iconst X_33.here hx rfl (hb hby d3_74) ?_
                  show Steps p.tables e below (T_33.setTop (mkF m 75 #[.val (.ref a1), .val (.int p2), .val (.int (p2 + (1 : Int32)))] [(.int (1 : Int32))])) _
                  exact retI X_33 hx Bd.returns (hb hby d3_75) hr
                · show Q3 Z a1 p2 f1 h0 n0 _ T_33.heap _
                  rw [e_33]
                  exact ⟨by rw [own_border, if_pos hc_2, if_pos hc_5, if_neg hc_7, if_pos hc_27, if_pos hc_30, if_pos hc_32, if_neg hc_35], N_33, rfl⟩
            · obtain ⟨fs, hr, hrun, hended, hW, hsame⟩ := X_28.leave (v := some (.int (0 : Int32))) (fun h => by rw [Bd.returns] at h; cases h)
              refine ⟨_, _, pr_31 _ ?_, hrun, hended, _, _, rfl, ?_, ⟨_, rfl⟩, hW, hsame.mono (by decide) (by decide)⟩
              · show Steps p.tables e below (T_28.setTop (mkF m 60 #[.val (.ref a1), .val (.int p2), .val (.int (p2 + (1 : Int32)))] [(.int (1 : Int32)), (.int (p2 + (1 : Int32)))])) _
                refine XS.icmpYes X_28.here hx rfl (pc0 := 60) (pc' := 76) rfl (hb hby d3_60) rfl (flt hc_32).2.2.2 (by decide) (by decide) ?_
                show Steps p.tables e below (T_28.setTop (mkF m 76 #[.val (.ref a1), .val (.int p2), .val (.int (p2 + (1 : Int32)))] [])) _
                refine XS.iconst X_28.here hx rfl (hb hby d3_76) ?_
                show Steps p.tables e below (T_28.setTop (mkF m 77 #[.val (.ref a1), .val (.int p2), .val (.int (p2 + (1 : Int32)))] [(.int (0 : Int32))])) _
                exact retI X_28 hx Bd.returns (hb hby d3_77) hr
              · show Q3 Z a1 p2 f1 h0 n0 _ T_28.heap _
                rw [e_28]
                exact ⟨by rw [own_border, if_pos hc_2, if_pos hc_5, if_neg hc_7, if_pos hc_27, if_pos hc_30, if_neg hc_32], N_28, rfl⟩
          · obtain ⟨fs, hr, hrun, hended, hW, hsame⟩ := X_28.leave (v := some (.int (2 : Int32))) (fun h => by rw [Bd.returns] at h; cases h)
            refine ⟨_, _, pr_29 _ ?_, hrun, hended, _, _, rfl, ?_, ⟨_, rfl⟩, hW, hsame.mono (by decide) (by decide)⟩
            · show Steps p.tables e below (T_28.setTop (mkF m 53 #[.val (.ref a1), .val (.int p2), .val (.int (p2 + (1 : Int32)))] [(.int (own_same ((p2 + (1 : Int32)) - (2 : Int32)) (2 : Int32) f1))])) _
              refine XS.ifNo X_28.here hx rfl (hb hby d3_53) rfl ((if0 _ _).trans (feq hc_30).1) ?_
              show Steps p.tables e below (T_28.setTop (mkF m 56 #[.val (.ref a1), .val (.int p2), .val (.int (p2 + (1 : Int32)))] [])) _
              refine XS.iconst X_28.here hx rfl (hb hby d3_56) ?_
              show Steps p.tables e below (T_28.setTop (mkF m 57 #[.val (.ref a1), .val (.int p2), .val (.int (p2 + (1 : Int32)))] [(.int (2 : Int32))])) _
              exact retI X_28 hx Bd.returns (hb hby d3_57) hr
            · show Q3 Z a1 p2 f1 h0 n0 _ T_28.heap _
              rw [e_28]
              exact ⟨by rw [own_border, if_pos hc_2, if_pos hc_5, if_neg hc_7, if_pos hc_27, if_neg hc_30], N_28, rfl⟩
        · have pr_36 : ∀ t, Steps p.tables e below (T_3.setTop (mkF m 60 #[.val (.ref a1), .val (.int p2), .val (.int (p2 + (1 : Int32)))] [(.int (1 : Int32)), (.int (p2 + (1 : Int32)))])) t → Steps p.tables e below (s₁.setTop (entryFrame m #[(.ref a1), (.int p2)] 3)) t := fun t k => by
            refine pr_26 _ ?_
            show Steps p.tables e below (T_3.setTop (mkF m 42 #[.val (.ref a1), .val (.int p2), .val (.int (p2 + (1 : Int32)))] [(.int (2 : Int32)), (.int (p2 + (1 : Int32)))])) _
            refine XS.icmpYes X_3.here hx rfl (pc0 := 42) (pc' := 58) rfl (hb hby d3_42) rfl (flt hc_27).2.2.2 (by decide) (by decide) ?_
            show Steps p.tables e below (T_3.setTop (mkF m 58 #[.val (.ref a1), .val (.int p2), .val (.int (p2 + (1 : Int32)))] [])) _
            refine XS.iloadN X_3.here hx rfl (hb hby d3_58) rfl ?_
            show Steps p.tables e below (T_3.setTop (mkF m 59 #[.val (.ref a1), .val (.int p2), .val (.int (p2 + (1 : Int32)))] [(.int (p2 + (1 : Int32)))])) _
            refine XS.iconst X_3.here hx rfl (hb hby d3_59) ?_
            exact k
          by_cases hc_37 : (1 : Int32) < (p2 + (1 : Int32))
          · obtain ⟨_, _, ⟨T_38, L_38, k_38, n_38⟩, -, X_38, ⟨Lc_38, hQ_38, l_38, y_38, z_38⟩, st_38⟩ := Jvm.LawKit.callS X_3 hx (y := (⟨"com/example/borderwork/borderwork/zarrays/ZArraysToBorderArrayPinLaw", "same", "([III)Z"⟩ : MethodName)) hown (mvT hZ (hw _ (List.mem_of_getElem? (i := 13) rfl))) (mvT hZ (hw _ (List.mem_of_getElem? (i := 14) rfl))) (mvT hZ (hw _ (List.mem_of_getElem? (i := 8) rfl))) (mvT hZ (hw _ (List.mem_of_getElem? (i := 15) rfl))) (by decide) (backOf (W := 0) (rm4 l Z a0 hw [] a1 ((p2 + (1 : Int32)) - (1 : Int32)) (1 : Int32) f1 h0 n0 Z0 F0 (own_bd hq0 hq1 hc_37 (by decide)).1 (own_bd hq0 hq1 hc_37 (by decide)).2 (by decide)) hZ (hw _ (List.mem_of_getElem? (i := 15) rfl)) (hw _ (List.mem_of_getElem? (i := 8) rfl)) (by decide) (by decide)) (g := (mkF m 68 #[.val (.ref a1), .val (.int p2), .val (.int (p2 + (1 : Int32)))] [(.int (1 : Int32)), (.int ((p2 + (1 : Int32)) - (1 : Int32))), (.ref a1)])) rfl (by rw [hml]; rfl) (argsL := [(.ref a1), (.int ((p2 + (1 : Int32)) - (1 : Int32))), (.int (1 : Int32))]) (rest := []) (lenOf pd_1 rfl) rfl (by show 2 * 0 + _ ≤ _; exact Nat.le_of_eq rfl) (hb hby d3_68) (fun _ _ => ⟨rfl, e_3, (by decide : 0 + 0 ≤ _), (by decide : 0 + 0 ≤ _)⟩)
            dsimp only [Pt.U, Pt.locs, Pt.cells, Pt.slots] at X_38 l_38 y_38 z_38 st_38 hQ_38
            subst l_38 y_38 z_38
            obtain ⟨rfl, N_38q, e_38⟩ := hQ_38
            have N_38 := Fr.app N_3 N_38q
            have pr_39 : ∀ t, Steps p.tables e below (T_38.setTop (mkF m 71 #[.val (.ref a1), .val (.int p2), .val (.int (p2 + (1 : Int32)))] [(.int (own_same ((p2 + (1 : Int32)) - (1 : Int32)) (1 : Int32) f1))])) t → Steps p.tables e below (s₁.setTop (entryFrame m #[(.ref a1), (.int p2)] 3)) t := fun t k => by
              refine pr_36 _ ?_
              show Steps p.tables e below (T_3.setTop (mkF m 60 #[.val (.ref a1), .val (.int p2), .val (.int (p2 + (1 : Int32)))] [(.int (1 : Int32)), (.int (p2 + (1 : Int32)))])) _
              refine XS.icmpNo X_3.here hx rfl (hb hby d3_60) rfl (tlt hc_37).2.2.2 ?_
              show Steps p.tables e below (T_3.setTop (mkF m 63 #[.val (.ref a1), .val (.int p2), .val (.int (p2 + (1 : Int32)))] [])) _
              refine XS.aloadN X_3.here hx rfl (hb hby d3_63) rfl rfl ?_
              show Steps p.tables e below (T_3.setTop (mkF m 64 #[.val (.ref a1), .val (.int p2), .val (.int (p2 + (1 : Int32)))] [(.ref a1)])) _
              refine XS.iloadN X_3.here hx rfl (hb hby d3_64) rfl ?_
              show Steps p.tables e below (T_3.setTop (mkF m 65 #[.val (.ref a1), .val (.int p2), .val (.int (p2 + (1 : Int32)))] [(.int (p2 + (1 : Int32))), (.ref a1)])) _
              refine XS.iconst X_3.here hx rfl (hb hby d3_65) ?_
              show Steps p.tables e below (T_3.setTop (mkF m 66 #[.val (.ref a1), .val (.int p2), .val (.int (p2 + (1 : Int32)))] [(.int (1 : Int32)), (.int (p2 + (1 : Int32))), (.ref a1)])) _
              refine XS.isub X_3.here hx rfl (hb hby d3_66) rfl ?_
              show Steps p.tables e below (T_3.setTop (mkF m 67 #[.val (.ref a1), .val (.int p2), .val (.int (p2 + (1 : Int32)))] [(.int ((p2 + (1 : Int32)) - (1 : Int32))), (.ref a1)])) _
              refine XS.iconst X_3.here hx rfl (hb hby d3_67) ?_
              show Steps p.tables e below (T_3.setTop (mkF m 68 #[.val (.ref a1), .val (.int p2), .val (.int (p2 + (1 : Int32)))] [(.int (1 : Int32)), (.int ((p2 + (1 : Int32)) - (1 : Int32))), (.ref a1)])) _
              refine st_38 _ ?_
              exact k
            by_cases hc_40 : (own_same ((p2 + (1 : Int32)) - (1 : Int32)) (1 : Int32) f1) = (0 : Int32)
            · obtain ⟨fs, hr, hrun, hended, hW, hsame⟩ := X_38.leave (v := some (.int (0 : Int32))) (fun h => by rw [Bd.returns] at h; cases h)
              refine ⟨_, _, pr_39 _ ?_, hrun, hended, _, _, rfl, ?_, ⟨_, rfl⟩, hW, hsame.mono (by decide) (by decide)⟩
              · show Steps p.tables e below (T_38.setTop (mkF m 71 #[.val (.ref a1), .val (.int p2), .val (.int (p2 + (1 : Int32)))] [(.int (own_same ((p2 + (1 : Int32)) - (1 : Int32)) (1 : Int32) f1))])) _
                refine XS.ifYes X_38.here hx rfl (pc0 := 71) (pc' := 76) rfl (hb hby d3_71) rfl ((if0 _ _).trans (teq hc_40).1) (by decide) (by decide) ?_
                show Steps p.tables e below (T_38.setTop (mkF m 76 #[.val (.ref a1), .val (.int p2), .val (.int (p2 + (1 : Int32)))] [])) _
                refine XS.iconst X_38.here hx rfl (hb hby d3_76) ?_
                show Steps p.tables e below (T_38.setTop (mkF m 77 #[.val (.ref a1), .val (.int p2), .val (.int (p2 + (1 : Int32)))] [(.int (0 : Int32))])) _
                exact retI X_38 hx Bd.returns (hb hby d3_77) hr
              · show Q3 Z a1 p2 f1 h0 n0 _ T_38.heap _
                rw [e_38]
                exact ⟨by rw [own_border, if_pos hc_2, if_pos hc_5, if_neg hc_7, if_neg hc_27, if_pos hc_37, if_pos hc_40], N_38, rfl⟩
            · obtain ⟨fs, hr, hrun, hended, hW, hsame⟩ := X_38.leave (v := some (.int (1 : Int32))) (fun h => by rw [Bd.returns] at h; cases h)
              refine ⟨_, _, pr_39 _ ?_, hrun, hended, _, _, rfl, ?_, ⟨_, rfl⟩, hW, hsame.mono (by decide) (by decide)⟩
              · show Steps p.tables e below (T_38.setTop (mkF m 71 #[.val (.ref a1), .val (.int p2), .val (.int (p2 + (1 : Int32)))] [(.int (own_same ((p2 + (1 : Int32)) - (1 : Int32)) (1 : Int32) f1))])) _
                refine XS.ifNo X_38.here hx rfl (hb hby d3_71) rfl ((if0 _ _).trans (feq hc_40).1) ?_
                show Steps p.tables e below (T_38.setTop (mkF m 74 #[.val (.ref a1), .val (.int p2), .val (.int (p2 + (1 : Int32)))] [])) _
                refine XS.iconst X_38.here hx rfl (hb hby d3_74) ?_
                show Steps p.tables e below (T_38.setTop (mkF m 75 #[.val (.ref a1), .val (.int p2), .val (.int (p2 + (1 : Int32)))] [(.int (1 : Int32))])) _
                exact retI X_38 hx Bd.returns (hb hby d3_75) hr
              · show Q3 Z a1 p2 f1 h0 n0 _ T_38.heap _
                rw [e_38]
                exact ⟨by rw [own_border, if_pos hc_2, if_pos hc_5, if_neg hc_7, if_neg hc_27, if_pos hc_37, if_neg hc_40], N_38, rfl⟩
          · obtain ⟨fs, hr, hrun, hended, hW, hsame⟩ := X_3.leave (v := some (.int (0 : Int32))) (fun h => by rw [Bd.returns] at h; cases h)
            refine ⟨_, _, pr_36 _ ?_, hrun, hended, _, _, rfl, ?_, ⟨_, rfl⟩, hW, hsame.mono (by decide) (by decide)⟩
            · show Steps p.tables e below (T_3.setTop (mkF m 60 #[.val (.ref a1), .val (.int p2), .val (.int (p2 + (1 : Int32)))] [(.int (1 : Int32)), (.int (p2 + (1 : Int32)))])) _
              refine XS.icmpYes X_3.here hx rfl (pc0 := 60) (pc' := 76) rfl (hb hby d3_60) rfl (flt hc_37).2.2.2 (by decide) (by decide) ?_
              show Steps p.tables e below (T_3.setTop (mkF m 76 #[.val (.ref a1), .val (.int p2), .val (.int (p2 + (1 : Int32)))] [])) _
              refine XS.iconst X_3.here hx rfl (hb hby d3_76) ?_
              show Steps p.tables e below (T_3.setTop (mkF m 77 #[.val (.ref a1), .val (.int p2), .val (.int (p2 + (1 : Int32)))] [(.int (0 : Int32))])) _
              exact retI X_3 hx Bd.returns (hb hby d3_77) hr
            · show Q3 Z a1 p2 f1 h0 n0 _ T_3.heap _
              rw [e_3]
              exact ⟨by rw [own_border, if_pos hc_2, if_pos hc_5, if_neg hc_7, if_neg hc_27, if_neg hc_37], N_3, rfl⟩
    · obtain ⟨fs, hr, hrun, hended, hW, hsame⟩ := X_3.leave (v := some (.int (4 : Int32))) (fun h => by rw [Bd.returns] at h; cases h)
      refine ⟨_, _, pr_4 _ ?_, hrun, hended, _, _, rfl, ?_, ⟨_, rfl⟩, hW, hsame.mono (by decide) (by decide)⟩
      · show Steps p.tables e below (T_3.setTop (mkF m 17 #[.val (.ref a1), .val (.int p2), .val (.int (p2 + (1 : Int32)))] [(.int (own_same ((p2 + (1 : Int32)) - (4 : Int32)) (4 : Int32) f1))])) _
        refine XS.ifNo X_3.here hx rfl (hb hby d3_17) rfl ((if0 _ _).trans (feq hc_5).1) ?_
        show Steps p.tables e below (T_3.setTop (mkF m 20 #[.val (.ref a1), .val (.int p2), .val (.int (p2 + (1 : Int32)))] [])) _
        refine XS.iconst X_3.here hx rfl (hb hby d3_20) ?_
        show Steps p.tables e below (T_3.setTop (mkF m 21 #[.val (.ref a1), .val (.int p2), .val (.int (p2 + (1 : Int32)))] [(.int (4 : Int32))])) _
        exact retI X_3 hx Bd.returns (hb hby d3_21) hr
      · show Q3 Z a1 p2 f1 h0 n0 _ T_3.heap _
        rw [e_3]
        exact ⟨by rw [own_border, if_pos hc_2, if_neg hc_5], N_3, rfl⟩
  · have pr_41 : ∀ t, Steps p.tables e below (s₁.setTop (mkF m 24 #[.val (.ref a1), .val (.int p2), .val (.int (p2 + (1 : Int32)))] [(.int (3 : Int32)), (.int (p2 + (1 : Int32)))])) t → Steps p.tables e below (s₁.setTop (entryFrame m #[(.ref a1), (.int p2)] 3)) t := fun t k => by
      refine pr_1 _ ?_
      show Steps p.tables e below (s₁.setTop (mkF m 6 #[.val (.ref a1), .val (.int p2), .val (.int (p2 + (1 : Int32)))] [(.int (4 : Int32)), (.int (p2 + (1 : Int32)))])) _
      refine XS.icmpYes X0.here hx rfl (pc0 := 6) (pc' := 22) rfl (hb hby d3_6) rfl (flt hc_2).2.2.2 (by decide) (by decide) ?_
      show Steps p.tables e below (s₁.setTop (mkF m 22 #[.val (.ref a1), .val (.int p2), .val (.int (p2 + (1 : Int32)))] [])) _
      refine XS.iloadN X0.here hx rfl (hb hby d3_22) rfl ?_
      show Steps p.tables e below (s₁.setTop (mkF m 23 #[.val (.ref a1), .val (.int p2), .val (.int (p2 + (1 : Int32)))] [(.int (p2 + (1 : Int32)))])) _
      refine XS.iconst X0.here hx rfl (hb hby d3_23) ?_
      exact k
    by_cases hc_42 : (3 : Int32) < (p2 + (1 : Int32))
    · obtain ⟨_, _, ⟨T_43, L_43, k_43, n_43⟩, -, X_43, ⟨Lc_43, hQ_43, l_43, y_43, z_43⟩, st_43⟩ := Jvm.LawKit.callS X0 hx (y := (⟨"com/example/borderwork/borderwork/zarrays/ZArraysToBorderArrayPinLaw", "same", "([III)Z"⟩ : MethodName)) hown (mvT hZ (hw _ (List.mem_of_getElem? (i := 13) rfl))) (mvT hZ (hw _ (List.mem_of_getElem? (i := 14) rfl))) (mvT hZ (hw _ (List.mem_of_getElem? (i := 8) rfl))) (mvT hZ (hw _ (List.mem_of_getElem? (i := 15) rfl))) (by decide) (backOf (W := 0) (rm4 l Z a0 hw [] a1 ((p2 + (1 : Int32)) - (3 : Int32)) (3 : Int32) f1 h0 n0 Z0 F0 (own_bd hq0 hq1 hc_42 (by decide)).1 (own_bd hq0 hq1 hc_42 (by decide)).2 (by decide)) hZ (hw _ (List.mem_of_getElem? (i := 15) rfl)) (hw _ (List.mem_of_getElem? (i := 8) rfl)) (by decide) (by decide)) (g := (mkF m 32 #[.val (.ref a1), .val (.int p2), .val (.int (p2 + (1 : Int32)))] [(.int (3 : Int32)), (.int ((p2 + (1 : Int32)) - (3 : Int32))), (.ref a1)])) rfl (by rw [hml]; rfl) (argsL := [(.ref a1), (.int ((p2 + (1 : Int32)) - (3 : Int32))), (.int (3 : Int32))]) (rest := []) (lenOf pd_1 rfl) rfl (by show 2 * 0 + _ ≤ _; exact Nat.le_of_eq rfl) (hb hby d3_32) (fun _ _ => ⟨rfl, e0, (by decide : 0 + 0 ≤ _), (by decide : 0 + 0 ≤ _)⟩)
      dsimp only [Pt.U, Pt.locs, Pt.cells, Pt.slots] at X_43 l_43 y_43 z_43 st_43 hQ_43
      subst l_43 y_43 z_43
      obtain ⟨rfl, N_43q, e_43⟩ := hQ_43
      have N_43 := Fr.app N0 N_43q
      have pr_44 : ∀ t, Steps p.tables e below (T_43.setTop (mkF m 35 #[.val (.ref a1), .val (.int p2), .val (.int (p2 + (1 : Int32)))] [(.int (own_same ((p2 + (1 : Int32)) - (3 : Int32)) (3 : Int32) f1))])) t → Steps p.tables e below (s₁.setTop (entryFrame m #[(.ref a1), (.int p2)] 3)) t := fun t k => by
        refine pr_41 _ ?_
        show Steps p.tables e below (s₁.setTop (mkF m 24 #[.val (.ref a1), .val (.int p2), .val (.int (p2 + (1 : Int32)))] [(.int (3 : Int32)), (.int (p2 + (1 : Int32)))])) _
        refine XS.icmpNo X0.here hx rfl (hb hby d3_24) rfl (tlt hc_42).2.2.2 ?_
        show Steps p.tables e below (s₁.setTop (mkF m 27 #[.val (.ref a1), .val (.int p2), .val (.int (p2 + (1 : Int32)))] [])) _
        refine XS.aloadN X0.here hx rfl (hb hby d3_27) rfl rfl ?_
        show Steps p.tables e below (s₁.setTop (mkF m 28 #[.val (.ref a1), .val (.int p2), .val (.int (p2 + (1 : Int32)))] [(.ref a1)])) _
        refine XS.iloadN X0.here hx rfl (hb hby d3_28) rfl ?_
        show Steps p.tables e below (s₁.setTop (mkF m 29 #[.val (.ref a1), .val (.int p2), .val (.int (p2 + (1 : Int32)))] [(.int (p2 + (1 : Int32))), (.ref a1)])) _
        refine XS.iconst X0.here hx rfl (hb hby d3_29) ?_
        show Steps p.tables e below (s₁.setTop (mkF m 30 #[.val (.ref a1), .val (.int p2), .val (.int (p2 + (1 : Int32)))] [(.int (3 : Int32)), (.int (p2 + (1 : Int32))), (.ref a1)])) _
        refine XS.isub X0.here hx rfl (hb hby d3_30) rfl ?_
        show Steps p.tables e below (s₁.setTop (mkF m 31 #[.val (.ref a1), .val (.int p2), .val (.int (p2 + (1 : Int32)))] [(.int ((p2 + (1 : Int32)) - (3 : Int32))), (.ref a1)])) _
        refine XS.iconst X0.here hx rfl (hb hby d3_31) ?_
        show Steps p.tables e below (s₁.setTop (mkF m 32 #[.val (.ref a1), .val (.int p2), .val (.int (p2 + (1 : Int32)))] [(.int (3 : Int32)), (.int ((p2 + (1 : Int32)) - (3 : Int32))), (.ref a1)])) _
        refine st_43 _ ?_
        exact k
      by_cases hc_45 : (own_same ((p2 + (1 : Int32)) - (3 : Int32)) (3 : Int32) f1) = (0 : Int32)
      · have pr_46 : ∀ t, Steps p.tables e below (T_43.setTop (mkF m 42 #[.val (.ref a1), .val (.int p2), .val (.int (p2 + (1 : Int32)))] [(.int (2 : Int32)), (.int (p2 + (1 : Int32)))])) t → Steps p.tables e below (s₁.setTop (entryFrame m #[(.ref a1), (.int p2)] 3)) t := fun t k => by
          refine pr_44 _ ?_
          show Steps p.tables e below (T_43.setTop (mkF m 35 #[.val (.ref a1), .val (.int p2), .val (.int (p2 + (1 : Int32)))] [(.int (own_same ((p2 + (1 : Int32)) - (3 : Int32)) (3 : Int32) f1))])) _
          refine XS.ifYes X_43.here hx rfl (pc0 := 35) (pc' := 40) rfl (hb hby d3_35) rfl ((if0 _ _).trans (teq hc_45).1) (by decide) (by decide) ?_
          show Steps p.tables e below (T_43.setTop (mkF m 40 #[.val (.ref a1), .val (.int p2), .val (.int (p2 + (1 : Int32)))] [])) _
          refine XS.iloadN X_43.here hx rfl (hb hby d3_40) rfl ?_
          show Steps p.tables e below (T_43.setTop (mkF m 41 #[.val (.ref a1), .val (.int p2), .val (.int (p2 + (1 : Int32)))] [(.int (p2 + (1 : Int32)))])) _
          refine XS.iconst X_43.here hx rfl (hb hby d3_41) ?_
          exact k
        by_cases hc_47 : (2 : Int32) < (p2 + (1 : Int32))
        · obtain ⟨_, _, ⟨T_48, L_48, k_48, n_48⟩, -, X_48, ⟨Lc_48, hQ_48, l_48, y_48, z_48⟩, st_48⟩ := Jvm.LawKit.callS X_43 hx (y := (⟨"com/example/borderwork/borderwork/zarrays/ZArraysToBorderArrayPinLaw", "same", "([III)Z"⟩ : MethodName)) hown (mvT hZ (hw _ (List.mem_of_getElem? (i := 13) rfl))) (mvT hZ (hw _ (List.mem_of_getElem? (i := 14) rfl))) (mvT hZ (hw _ (List.mem_of_getElem? (i := 8) rfl))) (mvT hZ (hw _ (List.mem_of_getElem? (i := 15) rfl))) (by decide) (backOf (W := 0) (rm4 l Z a0 hw [] a1 ((p2 + (1 : Int32)) - (2 : Int32)) (2 : Int32) f1 h0 n0 Z0 F0 (own_bd hq0 hq1 hc_47 (by decide)).1 (own_bd hq0 hq1 hc_47 (by decide)).2 (by decide)) hZ (hw _ (List.mem_of_getElem? (i := 15) rfl)) (hw _ (List.mem_of_getElem? (i := 8) rfl)) (by decide) (by decide)) (g := (mkF m 50 #[.val (.ref a1), .val (.int p2), .val (.int (p2 + (1 : Int32)))] [(.int (2 : Int32)), (.int ((p2 + (1 : Int32)) - (2 : Int32))), (.ref a1)])) rfl (by rw [hml]; rfl) (argsL := [(.ref a1), (.int ((p2 + (1 : Int32)) - (2 : Int32))), (.int (2 : Int32))]) (rest := []) (lenOf pd_1 rfl) rfl (by show 2 * 0 + _ ≤ _; exact Nat.le_of_eq rfl) (hb hby d3_50) (fun _ _ => ⟨rfl, e_43, (by decide : 0 + 0 ≤ _), (by decide : 0 + 0 ≤ _)⟩)
          dsimp only [Pt.U, Pt.locs, Pt.cells, Pt.slots] at X_48 l_48 y_48 z_48 st_48 hQ_48
          subst l_48 y_48 z_48
          obtain ⟨rfl, N_48q, e_48⟩ := hQ_48
          have N_48 := Fr.app N_43 N_48q
          have pr_49 : ∀ t, Steps p.tables e below (T_48.setTop (mkF m 53 #[.val (.ref a1), .val (.int p2), .val (.int (p2 + (1 : Int32)))] [(.int (own_same ((p2 + (1 : Int32)) - (2 : Int32)) (2 : Int32) f1))])) t → Steps p.tables e below (s₁.setTop (entryFrame m #[(.ref a1), (.int p2)] 3)) t := fun t k => by
            refine pr_46 _ ?_
            show Steps p.tables e below (T_43.setTop (mkF m 42 #[.val (.ref a1), .val (.int p2), .val (.int (p2 + (1 : Int32)))] [(.int (2 : Int32)), (.int (p2 + (1 : Int32)))])) _
            refine XS.icmpNo X_43.here hx rfl (hb hby d3_42) rfl (tlt hc_47).2.2.2 ?_
            show Steps p.tables e below (T_43.setTop (mkF m 45 #[.val (.ref a1), .val (.int p2), .val (.int (p2 + (1 : Int32)))] [])) _
            refine XS.aloadN X_43.here hx rfl (hb hby d3_45) rfl rfl ?_
            show Steps p.tables e below (T_43.setTop (mkF m 46 #[.val (.ref a1), .val (.int p2), .val (.int (p2 + (1 : Int32)))] [(.ref a1)])) _
            refine XS.iloadN X_43.here hx rfl (hb hby d3_46) rfl ?_
            show Steps p.tables e below (T_43.setTop (mkF m 47 #[.val (.ref a1), .val (.int p2), .val (.int (p2 + (1 : Int32)))] [(.int (p2 + (1 : Int32))), (.ref a1)])) _
            refine XS.iconst X_43.here hx rfl (hb hby d3_47) ?_
            show Steps p.tables e below (T_43.setTop (mkF m 48 #[.val (.ref a1), .val (.int p2), .val (.int (p2 + (1 : Int32)))] [(.int (2 : Int32)), (.int (p2 + (1 : Int32))), (.ref a1)])) _
            refine XS.isub X_43.here hx rfl (hb hby d3_48) rfl ?_
            show Steps p.tables e below (T_43.setTop (mkF m 49 #[.val (.ref a1), .val (.int p2), .val (.int (p2 + (1 : Int32)))] [(.int ((p2 + (1 : Int32)) - (2 : Int32))), (.ref a1)])) _
            refine XS.iconst X_43.here hx rfl (hb hby d3_49) ?_
            show Steps p.tables e below (T_43.setTop (mkF m 50 #[.val (.ref a1), .val (.int p2), .val (.int (p2 + (1 : Int32)))] [(.int (2 : Int32)), (.int ((p2 + (1 : Int32)) - (2 : Int32))), (.ref a1)])) _
            refine st_48 _ ?_
            exact k
          by_cases hc_50 : (own_same ((p2 + (1 : Int32)) - (2 : Int32)) (2 : Int32) f1) = (0 : Int32)
          · have pr_51 : ∀ t, Steps p.tables e below (T_48.setTop (mkF m 60 #[.val (.ref a1), .val (.int p2), .val (.int (p2 + (1 : Int32)))] [(.int (1 : Int32)), (.int (p2 + (1 : Int32)))])) t → Steps p.tables e below (s₁.setTop (entryFrame m #[(.ref a1), (.int p2)] 3)) t := fun t k => by
              refine pr_49 _ ?_
              show Steps p.tables e below (T_48.setTop (mkF m 53 #[.val (.ref a1), .val (.int p2), .val (.int (p2 + (1 : Int32)))] [(.int (own_same ((p2 + (1 : Int32)) - (2 : Int32)) (2 : Int32) f1))])) _
              refine XS.ifYes X_48.here hx rfl (pc0 := 53) (pc' := 58) rfl (hb hby d3_53) rfl ((if0 _ _).trans (teq hc_50).1) (by decide) (by decide) ?_
              show Steps p.tables e below (T_48.setTop (mkF m 58 #[.val (.ref a1), .val (.int p2), .val (.int (p2 + (1 : Int32)))] [])) _
              refine XS.iloadN X_48.here hx rfl (hb hby d3_58) rfl ?_
              show Steps p.tables e below (T_48.setTop (mkF m 59 #[.val (.ref a1), .val (.int p2), .val (.int (p2 + (1 : Int32)))] [(.int (p2 + (1 : Int32)))])) _
              refine XS.iconst X_48.here hx rfl (hb hby d3_59) ?_
              exact k
            by_cases hc_52 : (1 : Int32) < (p2 + (1 : Int32))
            · obtain ⟨_, _, ⟨T_53, L_53, k_53, n_53⟩, -, X_53, ⟨Lc_53, hQ_53, l_53, y_53, z_53⟩, st_53⟩ := Jvm.LawKit.callS X_48 hx (y := (⟨"com/example/borderwork/borderwork/zarrays/ZArraysToBorderArrayPinLaw", "same", "([III)Z"⟩ : MethodName)) hown (mvT hZ (hw _ (List.mem_of_getElem? (i := 13) rfl))) (mvT hZ (hw _ (List.mem_of_getElem? (i := 14) rfl))) (mvT hZ (hw _ (List.mem_of_getElem? (i := 8) rfl))) (mvT hZ (hw _ (List.mem_of_getElem? (i := 15) rfl))) (by decide) (backOf (W := 0) (rm4 l Z a0 hw [] a1 ((p2 + (1 : Int32)) - (1 : Int32)) (1 : Int32) f1 h0 n0 Z0 F0 (own_bd hq0 hq1 hc_52 (by decide)).1 (own_bd hq0 hq1 hc_52 (by decide)).2 (by decide)) hZ (hw _ (List.mem_of_getElem? (i := 15) rfl)) (hw _ (List.mem_of_getElem? (i := 8) rfl)) (by decide) (by decide)) (g := (mkF m 68 #[.val (.ref a1), .val (.int p2), .val (.int (p2 + (1 : Int32)))] [(.int (1 : Int32)), (.int ((p2 + (1 : Int32)) - (1 : Int32))), (.ref a1)])) rfl (by rw [hml]; rfl) (argsL := [(.ref a1), (.int ((p2 + (1 : Int32)) - (1 : Int32))), (.int (1 : Int32))]) (rest := []) (lenOf pd_1 rfl) rfl (by show 2 * 0 + _ ≤ _; exact Nat.le_of_eq rfl) (hb hby d3_68) (fun _ _ => ⟨rfl, e_48, (by decide : 0 + 0 ≤ _), (by decide : 0 + 0 ≤ _)⟩)
              dsimp only [Pt.U, Pt.locs, Pt.cells, Pt.slots] at X_53 l_53 y_53 z_53 st_53 hQ_53
              subst l_53 y_53 z_53
              obtain ⟨rfl, N_53q, e_53⟩ := hQ_53
              have N_53 := Fr.app N_48 N_53q
              have pr_54 : ∀ t, Steps p.tables e below (T_53.setTop (mkF m 71 #[.val (.ref a1), .val (.int p2), .val (.int (p2 + (1 : Int32)))] [(.int (own_same ((p2 + (1 : Int32)) - (1 : Int32)) (1 : Int32) f1))])) t → Steps p.tables e below (s₁.setTop (entryFrame m #[(.ref a1), (.int p2)] 3)) t := fun t k => by
                refine pr_51 _ ?_
                show Steps p.tables e below (T_48.setTop (mkF m 60 #[.val (.ref a1), .val (.int p2), .val (.int (p2 + (1 : Int32)))] [(.int (1 : Int32)), (.int (p2 + (1 : Int32)))])) _
                refine XS.icmpNo X_48.here hx rfl (hb hby d3_60) rfl (tlt hc_52).2.2.2 ?_
                show Steps p.tables e below (T_48.setTop (mkF m 63 #[.val (.ref a1), .val (.int p2), .val (.int (p2 + (1 : Int32)))] [])) _
                refine XS.aloadN X_48.here hx rfl (hb hby d3_63) rfl rfl ?_
                show Steps p.tables e below (T_48.setTop (mkF m 64 #[.val (.ref a1), .val (.int p2), .val (.int (p2 + (1 : Int32)))] [(.ref a1)])) _
                refine XS.iloadN X_48.here hx rfl (hb hby d3_64) rfl ?_
                show Steps p.tables e below (T_48.setTop (mkF m 65 #[.val (.ref a1), .val (.int p2), .val (.int (p2 + (1 : Int32)))] [(.int (p2 + (1 : Int32))), (.ref a1)])) _
                refine XS.iconst X_48.here hx rfl (hb hby d3_65) ?_
                show Steps p.tables e below (T_48.setTop (mkF m 66 #[.val (.ref a1), .val (.int p2), .val (.int (p2 + (1 : Int32)))] [(.int (1 : Int32)), (.int (p2 + (1 : Int32))), (.ref a1)])) _
                refine XS.isub X_48.here hx rfl (hb hby d3_66) rfl ?_
                show Steps p.tables e below (T_48.setTop (mkF m 67 #[.val (.ref a1), .val (.int p2), .val (.int (p2 + (1 : Int32)))] [(.int ((p2 + (1 : Int32)) - (1 : Int32))), (.ref a1)])) _
                refine XS.iconst X_48.here hx rfl (hb hby d3_67) ?_
                show Steps p.tables e below (T_48.setTop (mkF m 68 #[.val (.ref a1), .val (.int p2), .val (.int (p2 + (1 : Int32)))] [(.int (1 : Int32)), (.int ((p2 + (1 : Int32)) - (1 : Int32))), (.ref a1)])) _
                refine st_53 _ ?_
                exact k
              by_cases hc_55 : (own_same ((p2 + (1 : Int32)) - (1 : Int32)) (1 : Int32) f1) = (0 : Int32)
              · obtain ⟨fs, hr, hrun, hended, hW, hsame⟩ := X_53.leave (v := some (.int (0 : Int32))) (fun h => by rw [Bd.returns] at h; cases h)
                refine ⟨_, _, pr_54 _ ?_, hrun, hended, _, _, rfl, ?_, ⟨_, rfl⟩, hW, hsame.mono (by decide) (by decide)⟩
                · show Steps p.tables e below (T_53.setTop (mkF m 71 #[.val (.ref a1), .val (.int p2), .val (.int (p2 + (1 : Int32)))] [(.int (own_same ((p2 + (1 : Int32)) - (1 : Int32)) (1 : Int32) f1))])) _
                  refine XS.ifYes X_53.here hx rfl (pc0 := 71) (pc' := 76) rfl (hb hby d3_71) rfl ((if0 _ _).trans (teq hc_55).1) (by decide) (by decide) ?_
                  show Steps p.tables e below (T_53.setTop (mkF m 76 #[.val (.ref a1), .val (.int p2), .val (.int (p2 + (1 : Int32)))] [])) _
                  refine XS.iconst X_53.here hx rfl (hb hby d3_76) ?_
                  show Steps p.tables e below (T_53.setTop (mkF m 77 #[.val (.ref a1), .val (.int p2), .val (.int (p2 + (1 : Int32)))] [(.int (0 : Int32))])) _
                  exact retI X_53 hx Bd.returns (hb hby d3_77) hr
                · show Q3 Z a1 p2 f1 h0 n0 _ T_53.heap _
                  rw [e_53]
                  exact ⟨by rw [own_border, if_neg hc_2, if_pos hc_42, if_pos hc_45, if_pos hc_47, if_pos hc_50, if_pos hc_52, if_pos hc_55], N_53, rfl⟩
              · obtain ⟨fs, hr, hrun, hended, hW, hsame⟩ := X_53.leave (v := some (.int (1 : Int32))) (fun h => by rw [Bd.returns] at h; cases h)
                refine ⟨_, _, pr_54 _ ?_, hrun, hended, _, _, rfl, ?_, ⟨_, rfl⟩, hW, hsame.mono (by decide) (by decide)⟩
                · show Steps p.tables e below (T_53.setTop (mkF m 71 #[.val (.ref a1), .val (.int p2), .val (.int (p2 + (1 : Int32)))] [(.int (own_same ((p2 + (1 : Int32)) - (1 : Int32)) (1 : Int32) f1))])) _
                  refine XS.ifNo X_53.here hx rfl (hb hby d3_71) rfl ((if0 _ _).trans (feq hc_55).1) ?_
                  show Steps p.tables e below (T_53.setTop (mkF m 74 #[.val (.ref a1), .val (.int p2), .val (.int (p2 + (1 : Int32)))] [])) _
                  refine XS.iconst X_53.here hx rfl (hb hby d3_74) ?_
                  show Steps p.tables e below (T_53.setTop (mkF m 75 #[.val (.ref a1), .val (.int p2), .val (.int (p2 + (1 : Int32)))] [(.int (1 : Int32))])) _
                  exact retI X_53 hx Bd.returns (hb hby d3_75) hr
                · show Q3 Z a1 p2 f1 h0 n0 _ T_53.heap _
                  rw [e_53]
                  exact ⟨by rw [own_border, if_neg hc_2, if_pos hc_42, if_pos hc_45, if_pos hc_47, if_pos hc_50, if_pos hc_52, if_neg hc_55], N_53, rfl⟩
            · obtain ⟨fs, hr, hrun, hended, hW, hsame⟩ := X_48.leave (v := some (.int (0 : Int32))) (fun h => by rw [Bd.returns] at h; cases h)
              refine ⟨_, _, pr_51 _ ?_, hrun, hended, _, _, rfl, ?_, ⟨_, rfl⟩, hW, hsame.mono (by decide) (by decide)⟩
              · show Steps p.tables e below (T_48.setTop (mkF m 60 #[.val (.ref a1), .val (.int p2), .val (.int (p2 + (1 : Int32)))] [(.int (1 : Int32)), (.int (p2 + (1 : Int32)))])) _
                refine XS.icmpYes X_48.here hx rfl (pc0 := 60) (pc' := 76) rfl (hb hby d3_60) rfl (flt hc_52).2.2.2 (by decide) (by decide) ?_
                show Steps p.tables e below (T_48.setTop (mkF m 76 #[.val (.ref a1), .val (.int p2), .val (.int (p2 + (1 : Int32)))] [])) _
                refine XS.iconst X_48.here hx rfl (hb hby d3_76) ?_
                show Steps p.tables e below (T_48.setTop (mkF m 77 #[.val (.ref a1), .val (.int p2), .val (.int (p2 + (1 : Int32)))] [(.int (0 : Int32))])) _
                exact retI X_48 hx Bd.returns (hb hby d3_77) hr
              · show Q3 Z a1 p2 f1 h0 n0 _ T_48.heap _
                rw [e_48]
                exact ⟨by rw [own_border, if_neg hc_2, if_pos hc_42, if_pos hc_45, if_pos hc_47, if_pos hc_50, if_neg hc_52], N_48, rfl⟩
          · obtain ⟨fs, hr, hrun, hended, hW, hsame⟩ := X_48.leave (v := some (.int (2 : Int32))) (fun h => by rw [Bd.returns] at h; cases h)
            refine ⟨_, _, pr_49 _ ?_, hrun, hended, _, _, rfl, ?_, ⟨_, rfl⟩, hW, hsame.mono (by decide) (by decide)⟩
            · show Steps p.tables e below (T_48.setTop (mkF m 53 #[.val (.ref a1), .val (.int p2), .val (.int (p2 + (1 : Int32)))] [(.int (own_same ((p2 + (1 : Int32)) - (2 : Int32)) (2 : Int32) f1))])) _
              refine XS.ifNo X_48.here hx rfl (hb hby d3_53) rfl ((if0 _ _).trans (feq hc_50).1) ?_
              show Steps p.tables e below (T_48.setTop (mkF m 56 #[.val (.ref a1), .val (.int p2), .val (.int (p2 + (1 : Int32)))] [])) _
              refine XS.iconst X_48.here hx rfl (hb hby d3_56) ?_
              show Steps p.tables e below (T_48.setTop (mkF m 57 #[.val (.ref a1), .val (.int p2), .val (.int (p2 + (1 : Int32)))] [(.int (2 : Int32))])) _
              exact retI X_48 hx Bd.returns (hb hby d3_57) hr
            · show Q3 Z a1 p2 f1 h0 n0 _ T_48.heap _
              rw [e_48]
              exact ⟨by rw [own_border, if_neg hc_2, if_pos hc_42, if_pos hc_45, if_pos hc_47, if_neg hc_50], N_48, rfl⟩
        · have pr_56 : ∀ t, Steps p.tables e below (T_43.setTop (mkF m 60 #[.val (.ref a1), .val (.int p2), .val (.int (p2 + (1 : Int32)))] [(.int (1 : Int32)), (.int (p2 + (1 : Int32)))])) t → Steps p.tables e below (s₁.setTop (entryFrame m #[(.ref a1), (.int p2)] 3)) t := fun t k => by
            refine pr_46 _ ?_
            show Steps p.tables e below (T_43.setTop (mkF m 42 #[.val (.ref a1), .val (.int p2), .val (.int (p2 + (1 : Int32)))] [(.int (2 : Int32)), (.int (p2 + (1 : Int32)))])) _
            refine XS.icmpYes X_43.here hx rfl (pc0 := 42) (pc' := 58) rfl (hb hby d3_42) rfl (flt hc_47).2.2.2 (by decide) (by decide) ?_
            show Steps p.tables e below (T_43.setTop (mkF m 58 #[.val (.ref a1), .val (.int p2), .val (.int (p2 + (1 : Int32)))] [])) _
            refine XS.iloadN X_43.here hx rfl (hb hby d3_58) rfl ?_
            show Steps p.tables e below (T_43.setTop (mkF m 59 #[.val (.ref a1), .val (.int p2), .val (.int (p2 + (1 : Int32)))] [(.int (p2 + (1 : Int32)))])) _
            refine XS.iconst X_43.here hx rfl (hb hby d3_59) ?_
            exact k
          by_cases hc_57 : (1 : Int32) < (p2 + (1 : Int32))
          · obtain ⟨_, _, ⟨T_58, L_58, k_58, n_58⟩, -, X_58, ⟨Lc_58, hQ_58, l_58, y_58, z_58⟩, st_58⟩ := Jvm.LawKit.callS X_43 hx (y := (⟨"com/example/borderwork/borderwork/zarrays/ZArraysToBorderArrayPinLaw", "same", "([III)Z"⟩ : MethodName)) hown (mvT hZ (hw _ (List.mem_of_getElem? (i := 13) rfl))) (mvT hZ (hw _ (List.mem_of_getElem? (i := 14) rfl))) (mvT hZ (hw _ (List.mem_of_getElem? (i := 8) rfl))) (mvT hZ (hw _ (List.mem_of_getElem? (i := 15) rfl))) (by decide) (backOf (W := 0) (rm4 l Z a0 hw [] a1 ((p2 + (1 : Int32)) - (1 : Int32)) (1 : Int32) f1 h0 n0 Z0 F0 (own_bd hq0 hq1 hc_57 (by decide)).1 (own_bd hq0 hq1 hc_57 (by decide)).2 (by decide)) hZ (hw _ (List.mem_of_getElem? (i := 15) rfl)) (hw _ (List.mem_of_getElem? (i := 8) rfl)) (by decide) (by decide)) (g := (mkF m 68 #[.val (.ref a1), .val (.int p2), .val (.int (p2 + (1 : Int32)))] [(.int (1 : Int32)), (.int ((p2 + (1 : Int32)) - (1 : Int32))), (.ref a1)])) rfl (by rw [hml]; rfl) (argsL := [(.ref a1), (.int ((p2 + (1 : Int32)) - (1 : Int32))), (.int (1 : Int32))]) (rest := []) (lenOf pd_1 rfl) rfl (by show 2 * 0 + _ ≤ _; exact Nat.le_of_eq rfl) (hb hby d3_68) (fun _ _ => ⟨rfl, e_43, (by decide : 0 + 0 ≤ _), (by decide : 0 + 0 ≤ _)⟩)
            dsimp only [Pt.U, Pt.locs, Pt.cells, Pt.slots] at X_58 l_58 y_58 z_58 st_58 hQ_58
            subst l_58 y_58 z_58
            obtain ⟨rfl, N_58q, e_58⟩ := hQ_58
            have N_58 := Fr.app N_43 N_58q
            have pr_59 : ∀ t, Steps p.tables e below (T_58.setTop (mkF m 71 #[.val (.ref a1), .val (.int p2), .val (.int (p2 + (1 : Int32)))] [(.int (own_same ((p2 + (1 : Int32)) - (1 : Int32)) (1 : Int32) f1))])) t → Steps p.tables e below (s₁.setTop (entryFrame m #[(.ref a1), (.int p2)] 3)) t := fun t k => by
              refine pr_56 _ ?_
              show Steps p.tables e below (T_43.setTop (mkF m 60 #[.val (.ref a1), .val (.int p2), .val (.int (p2 + (1 : Int32)))] [(.int (1 : Int32)), (.int (p2 + (1 : Int32)))])) _
              refine XS.icmpNo X_43.here hx rfl (hb hby d3_60) rfl (tlt hc_57).2.2.2 ?_
              show Steps p.tables e below (T_43.setTop (mkF m 63 #[.val (.ref a1), .val (.int p2), .val (.int (p2 + (1 : Int32)))] [])) _
              refine XS.aloadN X_43.here hx rfl (hb hby d3_63) rfl rfl ?_
              show Steps p.tables e below (T_43.setTop (mkF m 64 #[.val (.ref a1), .val (.int p2), .val (.int (p2 + (1 : Int32)))] [(.ref a1)])) _
              refine XS.iloadN X_43.here hx rfl (hb hby d3_64) rfl ?_
              show Steps p.tables e below (T_43.setTop (mkF m 65 #[.val (.ref a1), .val (.int p2), .val (.int (p2 + (1 : Int32)))] [(.int (p2 + (1 : Int32))), (.ref a1)])) _
              refine XS.iconst X_43.here hx rfl (hb hby d3_65) ?_
              show Steps p.tables e below (T_43.setTop (mkF m 66 #[.val (.ref a1), .val (.int p2), .val (.int (p2 + (1 : Int32)))] [(.int (1 : Int32)), (.int (p2 + (1 : Int32))), (.ref a1)])) _
              refine XS.isub X_43.here hx rfl (hb hby d3_66) rfl ?_
              show Steps p.tables e below (T_43.setTop (mkF m 67 #[.val (.ref a1), .val (.int p2), .val (.int (p2 + (1 : Int32)))] [(.int ((p2 + (1 : Int32)) - (1 : Int32))), (.ref a1)])) _
              refine XS.iconst X_43.here hx rfl (hb hby d3_67) ?_
              show Steps p.tables e below (T_43.setTop (mkF m 68 #[.val (.ref a1), .val (.int p2), .val (.int (p2 + (1 : Int32)))] [(.int (1 : Int32)), (.int ((p2 + (1 : Int32)) - (1 : Int32))), (.ref a1)])) _
              refine st_58 _ ?_
              exact k
            by_cases hc_60 : (own_same ((p2 + (1 : Int32)) - (1 : Int32)) (1 : Int32) f1) = (0 : Int32)
            · obtain ⟨fs, hr, hrun, hended, hW, hsame⟩ := X_58.leave (v := some (.int (0 : Int32))) (fun h => by rw [Bd.returns] at h; cases h)
              refine ⟨_, _, pr_59 _ ?_, hrun, hended, _, _, rfl, ?_, ⟨_, rfl⟩, hW, hsame.mono (by decide) (by decide)⟩
              · show Steps p.tables e below (T_58.setTop (mkF m 71 #[.val (.ref a1), .val (.int p2), .val (.int (p2 + (1 : Int32)))] [(.int (own_same ((p2 + (1 : Int32)) - (1 : Int32)) (1 : Int32) f1))])) _
                refine XS.ifYes X_58.here hx rfl (pc0 := 71) (pc' := 76) rfl (hb hby d3_71) rfl ((if0 _ _).trans (teq hc_60).1) (by decide) (by decide) ?_
                show Steps p.tables e below (T_58.setTop (mkF m 76 #[.val (.ref a1), .val (.int p2), .val (.int (p2 + (1 : Int32)))] [])) _
                refine XS.iconst X_58.here hx rfl (hb hby d3_76) ?_
                show Steps p.tables e below (T_58.setTop (mkF m 77 #[.val (.ref a1), .val (.int p2), .val (.int (p2 + (1 : Int32)))] [(.int (0 : Int32))])) _
                exact retI X_58 hx Bd.returns (hb hby d3_77) hr
              · show Q3 Z a1 p2 f1 h0 n0 _ T_58.heap _
                rw [e_58]
                exact ⟨by rw [own_border, if_neg hc_2, if_pos hc_42, if_pos hc_45, if_neg hc_47, if_pos hc_57, if_pos hc_60], N_58, rfl⟩
            · obtain ⟨fs, hr, hrun, hended, hW, hsame⟩ := X_58.leave (v := some (.int (1 : Int32))) (fun h => by rw [Bd.returns] at h; cases h)
              refine ⟨_, _, pr_59 _ ?_, hrun, hended, _, _, rfl, ?_, ⟨_, rfl⟩, hW, hsame.mono (by decide) (by decide)⟩
              · show Steps p.tables e below (T_58.setTop (mkF m 71 #[.val (.ref a1), .val (.int p2), .val (.int (p2 + (1 : Int32)))] [(.int (own_same ((p2 + (1 : Int32)) - (1 : Int32)) (1 : Int32) f1))])) _
                refine XS.ifNo X_58.here hx rfl (hb hby d3_71) rfl ((if0 _ _).trans (feq hc_60).1) ?_
                show Steps p.tables e below (T_58.setTop (mkF m 74 #[.val (.ref a1), .val (.int p2), .val (.int (p2 + (1 : Int32)))] [])) _
                refine XS.iconst X_58.here hx rfl (hb hby d3_74) ?_
                show Steps p.tables e below (T_58.setTop (mkF m 75 #[.val (.ref a1), .val (.int p2), .val (.int (p2 + (1 : Int32)))] [(.int (1 : Int32))])) _
                exact retI X_58 hx Bd.returns (hb hby d3_75) hr
              · show Q3 Z a1 p2 f1 h0 n0 _ T_58.heap _
                rw [e_58]
                exact ⟨by rw [own_border, if_neg hc_2, if_pos hc_42, if_pos hc_45, if_neg hc_47, if_pos hc_57, if_neg hc_60], N_58, rfl⟩
          · obtain ⟨fs, hr, hrun, hended, hW, hsame⟩ := X_43.leave (v := some (.int (0 : Int32))) (fun h => by rw [Bd.returns] at h; cases h)
            refine ⟨_, _, pr_56 _ ?_, hrun, hended, _, _, rfl, ?_, ⟨_, rfl⟩, hW, hsame.mono (by decide) (by decide)⟩
            · show Steps p.tables e below (T_43.setTop (mkF m 60 #[.val (.ref a1), .val (.int p2), .val (.int (p2 + (1 : Int32)))] [(.int (1 : Int32)), (.int (p2 + (1 : Int32)))])) _
              refine XS.icmpYes X_43.here hx rfl (pc0 := 60) (pc' := 76) rfl (hb hby d3_60) rfl (flt hc_57).2.2.2 (by decide) (by decide) ?_
              show Steps p.tables e below (T_43.setTop (mkF m 76 #[.val (.ref a1), .val (.int p2), .val (.int (p2 + (1 : Int32)))] [])) _
              refine XS.iconst X_43.here hx rfl (hb hby d3_76) ?_
              show Steps p.tables e below (T_43.setTop (mkF m 77 #[.val (.ref a1), .val (.int p2), .val (.int (p2 + (1 : Int32)))] [(.int (0 : Int32))])) _
              exact retI X_43 hx Bd.returns (hb hby d3_77) hr
            · show Q3 Z a1 p2 f1 h0 n0 _ T_43.heap _
              rw [e_43]
              exact ⟨by rw [own_border, if_neg hc_2, if_pos hc_42, if_pos hc_45, if_neg hc_47, if_neg hc_57], N_43, rfl⟩
      · obtain ⟨fs, hr, hrun, hended, hW, hsame⟩ := X_43.leave (v := some (.int (3 : Int32))) (fun h => by rw [Bd.returns] at h; cases h)
        refine ⟨_, _, pr_44 _ ?_, hrun, hended, _, _, rfl, ?_, ⟨_, rfl⟩, hW, hsame.mono (by decide) (by decide)⟩
        · show Steps p.tables e below (T_43.setTop (mkF m 35 #[.val (.ref a1), .val (.int p2), .val (.int (p2 + (1 : Int32)))] [(.int (own_same ((p2 + (1 : Int32)) - (3 : Int32)) (3 : Int32) f1))])) _
          refine XS.ifNo X_43.here hx rfl (hb hby d3_35) rfl ((if0 _ _).trans (feq hc_45).1) ?_
          show Steps p.tables e below (T_43.setTop (mkF m 38 #[.val (.ref a1), .val (.int p2), .val (.int (p2 + (1 : Int32)))] [])) _
          refine XS.iconst X_43.here hx rfl (hb hby d3_38) ?_
          show Steps p.tables e below (T_43.setTop (mkF m 39 #[.val (.ref a1), .val (.int p2), .val (.int (p2 + (1 : Int32)))] [(.int (3 : Int32))])) _
          exact retI X_43 hx Bd.returns (hb hby d3_39) hr
        · show Q3 Z a1 p2 f1 h0 n0 _ T_43.heap _
          rw [e_43]
          exact ⟨by rw [own_border, if_neg hc_2, if_pos hc_42, if_neg hc_45], N_43, rfl⟩
    · have pr_61 : ∀ t, Steps p.tables e below (s₁.setTop (mkF m 42 #[.val (.ref a1), .val (.int p2), .val (.int (p2 + (1 : Int32)))] [(.int (2 : Int32)), (.int (p2 + (1 : Int32)))])) t → Steps p.tables e below (s₁.setTop (entryFrame m #[(.ref a1), (.int p2)] 3)) t := fun t k => by
        refine pr_41 _ ?_
        show Steps p.tables e below (s₁.setTop (mkF m 24 #[.val (.ref a1), .val (.int p2), .val (.int (p2 + (1 : Int32)))] [(.int (3 : Int32)), (.int (p2 + (1 : Int32)))])) _
        refine XS.icmpYes X0.here hx rfl (pc0 := 24) (pc' := 40) rfl (hb hby d3_24) rfl (flt hc_42).2.2.2 (by decide) (by decide) ?_
        show Steps p.tables e below (s₁.setTop (mkF m 40 #[.val (.ref a1), .val (.int p2), .val (.int (p2 + (1 : Int32)))] [])) _
        refine XS.iloadN X0.here hx rfl (hb hby d3_40) rfl ?_
        show Steps p.tables e below (s₁.setTop (mkF m 41 #[.val (.ref a1), .val (.int p2), .val (.int (p2 + (1 : Int32)))] [(.int (p2 + (1 : Int32)))])) _
        refine XS.iconst X0.here hx rfl (hb hby d3_41) ?_
        exact k
      by_cases hc_62 : (2 : Int32) < (p2 + (1 : Int32))
      · obtain ⟨_, _, ⟨T_63, L_63, k_63, n_63⟩, -, X_63, ⟨Lc_63, hQ_63, l_63, y_63, z_63⟩, st_63⟩ := Jvm.LawKit.callS X0 hx (y := (⟨"com/example/borderwork/borderwork/zarrays/ZArraysToBorderArrayPinLaw", "same", "([III)Z"⟩ : MethodName)) hown (mvT hZ (hw _ (List.mem_of_getElem? (i := 13) rfl))) (mvT hZ (hw _ (List.mem_of_getElem? (i := 14) rfl))) (mvT hZ (hw _ (List.mem_of_getElem? (i := 8) rfl))) (mvT hZ (hw _ (List.mem_of_getElem? (i := 15) rfl))) (by decide) (backOf (W := 0) (rm4 l Z a0 hw [] a1 ((p2 + (1 : Int32)) - (2 : Int32)) (2 : Int32) f1 h0 n0 Z0 F0 (own_bd hq0 hq1 hc_62 (by decide)).1 (own_bd hq0 hq1 hc_62 (by decide)).2 (by decide)) hZ (hw _ (List.mem_of_getElem? (i := 15) rfl)) (hw _ (List.mem_of_getElem? (i := 8) rfl)) (by decide) (by decide)) (g := (mkF m 50 #[.val (.ref a1), .val (.int p2), .val (.int (p2 + (1 : Int32)))] [(.int (2 : Int32)), (.int ((p2 + (1 : Int32)) - (2 : Int32))), (.ref a1)])) rfl (by rw [hml]; rfl) (argsL := [(.ref a1), (.int ((p2 + (1 : Int32)) - (2 : Int32))), (.int (2 : Int32))]) (rest := []) (lenOf pd_1 rfl) rfl (by show 2 * 0 + _ ≤ _; exact Nat.le_of_eq rfl) (hb hby d3_50) (fun _ _ => ⟨rfl, e0, (by decide : 0 + 0 ≤ _), (by decide : 0 + 0 ≤ _)⟩)
        dsimp only [Pt.U, Pt.locs, Pt.cells, Pt.slots] at X_63 l_63 y_63 z_63 st_63 hQ_63
        subst l_63 y_63 z_63
        obtain ⟨rfl, N_63q, e_63⟩ := hQ_63
        have N_63 := Fr.app N0 N_63q
        have pr_64 : ∀ t, Steps p.tables e below (T_63.setTop (mkF m 53 #[.val (.ref a1), .val (.int p2), .val (.int (p2 + (1 : Int32)))] [(.int (own_same ((p2 + (1 : Int32)) - (2 : Int32)) (2 : Int32) f1))])) t → Steps p.tables e below (s₁.setTop (entryFrame m #[(.ref a1), (.int p2)] 3)) t := fun t k => by
          refine pr_61 _ ?_
          show Steps p.tables e below (s₁.setTop (mkF m 42 #[.val (.ref a1), .val (.int p2), .val (.int (p2 + (1 : Int32)))] [(.int (2 : Int32)), (.int (p2 + (1 : Int32)))])) _
          refine XS.icmpNo X0.here hx rfl (hb hby d3_42) rfl (tlt hc_62).2.2.2 ?_
          show Steps p.tables e below (s₁.setTop (mkF m 45 #[.val (.ref a1), .val (.int p2), .val (.int (p2 + (1 : Int32)))] [])) _
          refine XS.aloadN X0.here hx rfl (hb hby d3_45) rfl rfl ?_
          show Steps p.tables e below (s₁.setTop (mkF m 46 #[.val (.ref a1), .val (.int p2), .val (.int (p2 + (1 : Int32)))] [(.ref a1)])) _
          refine XS.iloadN X0.here hx rfl (hb hby d3_46) rfl ?_
          show Steps p.tables e below (s₁.setTop (mkF m 47 #[.val (.ref a1), .val (.int p2), .val (.int (p2 + (1 : Int32)))] [(.int (p2 + (1 : Int32))), (.ref a1)])) _
          refine XS.iconst X0.here hx rfl (hb hby d3_47) ?_
          show Steps p.tables e below (s₁.setTop (mkF m 48 #[.val (.ref a1), .val (.int p2), .val (.int (p2 + (1 : Int32)))] [(.int (2 : Int32)), (.int (p2 + (1 : Int32))), (.ref a1)])) _
          refine XS.isub X0.here hx rfl (hb hby d3_48) rfl ?_
          show Steps p.tables e below (s₁.setTop (mkF m 49 #[.val (.ref a1), .val (.int p2), .val (.int (p2 + (1 : Int32)))] [(.int ((p2 + (1 : Int32)) - (2 : Int32))), (.ref a1)])) _
          refine XS.iconst X0.here hx rfl (hb hby d3_49) ?_
          show Steps p.tables e below (s₁.setTop (mkF m 50 #[.val (.ref a1), .val (.int p2), .val (.int (p2 + (1 : Int32)))] [(.int (2 : Int32)), (.int ((p2 + (1 : Int32)) - (2 : Int32))), (.ref a1)])) _
          refine st_63 _ ?_
          exact k
        by_cases hc_65 : (own_same ((p2 + (1 : Int32)) - (2 : Int32)) (2 : Int32) f1) = (0 : Int32)
        · have pr_66 : ∀ t, Steps p.tables e below (T_63.setTop (mkF m 60 #[.val (.ref a1), .val (.int p2), .val (.int (p2 + (1 : Int32)))] [(.int (1 : Int32)), (.int (p2 + (1 : Int32)))])) t → Steps p.tables e below (s₁.setTop (entryFrame m #[(.ref a1), (.int p2)] 3)) t := fun t k => by
            refine pr_64 _ ?_
            show Steps p.tables e below (T_63.setTop (mkF m 53 #[.val (.ref a1), .val (.int p2), .val (.int (p2 + (1 : Int32)))] [(.int (own_same ((p2 + (1 : Int32)) - (2 : Int32)) (2 : Int32) f1))])) _
            refine XS.ifYes X_63.here hx rfl (pc0 := 53) (pc' := 58) rfl (hb hby d3_53) rfl ((if0 _ _).trans (teq hc_65).1) (by decide) (by decide) ?_
            show Steps p.tables e below (T_63.setTop (mkF m 58 #[.val (.ref a1), .val (.int p2), .val (.int (p2 + (1 : Int32)))] [])) _
            refine XS.iloadN X_63.here hx rfl (hb hby d3_58) rfl ?_
            show Steps p.tables e below (T_63.setTop (mkF m 59 #[.val (.ref a1), .val (.int p2), .val (.int (p2 + (1 : Int32)))] [(.int (p2 + (1 : Int32)))])) _
            refine XS.iconst X_63.here hx rfl (hb hby d3_59) ?_
            exact k
          by_cases hc_67 : (1 : Int32) < (p2 + (1 : Int32))
          · obtain ⟨_, _, ⟨T_68, L_68, k_68, n_68⟩, -, X_68, ⟨Lc_68, hQ_68, l_68, y_68, z_68⟩, st_68⟩ := Jvm.LawKit.callS X_63 hx (y := (⟨"com/example/borderwork/borderwork/zarrays/ZArraysToBorderArrayPinLaw", "same", "([III)Z"⟩ : MethodName)) hown (mvT hZ (hw _ (List.mem_of_getElem? (i := 13) rfl))) (mvT hZ (hw _ (List.mem_of_getElem? (i := 14) rfl))) (mvT hZ (hw _ (List.mem_of_getElem? (i := 8) rfl))) (mvT hZ (hw _ (List.mem_of_getElem? (i := 15) rfl))) (by decide) (backOf (W := 0) (rm4 l Z a0 hw [] a1 ((p2 + (1 : Int32)) - (1 : Int32)) (1 : Int32) f1 h0 n0 Z0 F0 (own_bd hq0 hq1 hc_67 (by decide)).1 (own_bd hq0 hq1 hc_67 (by decide)).2 (by decide)) hZ (hw _ (List.mem_of_getElem? (i := 15) rfl)) (hw _ (List.mem_of_getElem? (i := 8) rfl)) (by decide) (by decide)) (g := (mkF m 68 #[.val (.ref a1), .val (.int p2), .val (.int (p2 + (1 : Int32)))] [(.int (1 : Int32)), (.int ((p2 + (1 : Int32)) - (1 : Int32))), (.ref a1)])) rfl (by rw [hml]; rfl) (argsL := [(.ref a1), (.int ((p2 + (1 : Int32)) - (1 : Int32))), (.int (1 : Int32))]) (rest := []) (lenOf pd_1 rfl) rfl (by show 2 * 0 + _ ≤ _; exact Nat.le_of_eq rfl) (hb hby d3_68) (fun _ _ => ⟨rfl, e_63, (by decide : 0 + 0 ≤ _), (by decide : 0 + 0 ≤ _)⟩)
            dsimp only [Pt.U, Pt.locs, Pt.cells, Pt.slots] at X_68 l_68 y_68 z_68 st_68 hQ_68
            subst l_68 y_68 z_68
            obtain ⟨rfl, N_68q, e_68⟩ := hQ_68
            have N_68 := Fr.app N_63 N_68q
            have pr_69 : ∀ t, Steps p.tables e below (T_68.setTop (mkF m 71 #[.val (.ref a1), .val (.int p2), .val (.int (p2 + (1 : Int32)))] [(.int (own_same ((p2 + (1 : Int32)) - (1 : Int32)) (1 : Int32) f1))])) t → Steps p.tables e below (s₁.setTop (entryFrame m #[(.ref a1), (.int p2)] 3)) t := fun t k => by
              refine pr_66 _ ?_
              show Steps p.tables e below (T_63.setTop (mkF m 60 #[.val (.ref a1), .val (.int p2), .val (.int (p2 + (1 : Int32)))] [(.int (1 : Int32)), (.int (p2 + (1 : Int32)))])) _
              refine XS.icmpNo X_63.here hx rfl (hb hby d3_60) rfl (tlt hc_67).2.2.2 ?_
              show Steps p.tables e below (T_63.setTop (mkF m 63 #[.val (.ref a1), .val (.int p2), .val (.int (p2 + (1 : Int32)))] [])) _
              refine XS.aloadN X_63.here hx rfl (hb hby d3_63) rfl rfl ?_
              show Steps p.tables e below (T_63.setTop (mkF m 64 #[.val (.ref a1), .val (.int p2), .val (.int (p2 + (1 : Int32)))] [(.ref a1)])) _
              refine XS.iloadN X_63.here hx rfl (hb hby d3_64) rfl ?_
              show Steps p.tables e below (T_63.setTop (mkF m 65 #[.val (.ref a1), .val (.int p2), .val (.int (p2 + (1 : Int32)))] [(.int (p2 + (1 : Int32))), (.ref a1)])) _
              refine XS.iconst X_63.here hx rfl (hb hby d3_65) ?_
              show Steps p.tables e below (T_63.setTop (mkF m 66 #[.val (.ref a1), .val (.int p2), .val (.int (p2 + (1 : Int32)))] [(.int (1 : Int32)), (.int (p2 + (1 : Int32))), (.ref a1)])) _
              refine XS.isub X_63.here hx rfl (hb hby d3_66) rfl ?_
              show Steps p.tables e below (T_63.setTop (mkF m 67 #[.val (.ref a1), .val (.int p2), .val (.int (p2 + (1 : Int32)))] [(.int ((p2 + (1 : Int32)) - (1 : Int32))), (.ref a1)])) _
              refine XS.iconst X_63.here hx rfl (hb hby d3_67) ?_
              show Steps p.tables e below (T_63.setTop (mkF m 68 #[.val (.ref a1), .val (.int p2), .val (.int (p2 + (1 : Int32)))] [(.int (1 : Int32)), (.int ((p2 + (1 : Int32)) - (1 : Int32))), (.ref a1)])) _
              refine st_68 _ ?_
              exact k
            by_cases hc_70 : (own_same ((p2 + (1 : Int32)) - (1 : Int32)) (1 : Int32) f1) = (0 : Int32)
            · obtain ⟨fs, hr, hrun, hended, hW, hsame⟩ := X_68.leave (v := some (.int (0 : Int32))) (fun h => by rw [Bd.returns] at h; cases h)
              refine ⟨_, _, pr_69 _ ?_, hrun, hended, _, _, rfl, ?_, ⟨_, rfl⟩, hW, hsame.mono (by decide) (by decide)⟩
              · show Steps p.tables e below (T_68.setTop (mkF m 71 #[.val (.ref a1), .val (.int p2), .val (.int (p2 + (1 : Int32)))] [(.int (own_same ((p2 + (1 : Int32)) - (1 : Int32)) (1 : Int32) f1))])) _
                refine XS.ifYes X_68.here hx rfl (pc0 := 71) (pc' := 76) rfl (hb hby d3_71) rfl ((if0 _ _).trans (teq hc_70).1) (by decide) (by decide) ?_
                show Steps p.tables e below (T_68.setTop (mkF m 76 #[.val (.ref a1), .val (.int p2), .val (.int (p2 + (1 : Int32)))] [])) _
                refine XS.iconst X_68.here hx rfl (hb hby d3_76) ?_
                show Steps p.tables e below (T_68.setTop (mkF m 77 #[.val (.ref a1), .val (.int p2), .val (.int (p2 + (1 : Int32)))] [(.int (0 : Int32))])) _
                exact retI X_68 hx Bd.returns (hb hby d3_77) hr
              · show Q3 Z a1 p2 f1 h0 n0 _ T_68.heap _
                rw [e_68]
                exact ⟨by rw [own_border, if_neg hc_2, if_neg hc_42, if_pos hc_62, if_pos hc_65, if_pos hc_67, if_pos hc_70], N_68, rfl⟩
            · obtain ⟨fs, hr, hrun, hended, hW, hsame⟩ := X_68.leave (v := some (.int (1 : Int32))) (fun h => by rw [Bd.returns] at h; cases h)
              refine ⟨_, _, pr_69 _ ?_, hrun, hended, _, _, rfl, ?_, ⟨_, rfl⟩, hW, hsame.mono (by decide) (by decide)⟩
              · show Steps p.tables e below (T_68.setTop (mkF m 71 #[.val (.ref a1), .val (.int p2), .val (.int (p2 + (1 : Int32)))] [(.int (own_same ((p2 + (1 : Int32)) - (1 : Int32)) (1 : Int32) f1))])) _
                refine XS.ifNo X_68.here hx rfl (hb hby d3_71) rfl ((if0 _ _).trans (feq hc_70).1) ?_
                show Steps p.tables e below (T_68.setTop (mkF m 74 #[.val (.ref a1), .val (.int p2), .val (.int (p2 + (1 : Int32)))] [])) _
                refine XS.iconst X_68.here hx rfl (hb hby d3_74) ?_
                show Steps p.tables e below (T_68.setTop (mkF m 75 #[.val (.ref a1), .val (.int p2), .val (.int (p2 + (1 : Int32)))] [(.int (1 : Int32))])) _
                exact retI X_68 hx Bd.returns (hb hby d3_75) hr
              · show Q3 Z a1 p2 f1 h0 n0 _ T_68.heap _
                rw [e_68]
                exact ⟨by rw [own_border, if_neg hc_2, if_neg hc_42, if_pos hc_62, if_pos hc_65, if_pos hc_67, if_neg hc_70], N_68, rfl⟩
          · obtain ⟨fs, hr, hrun, hended, hW, hsame⟩ := X_63.leave (v := some (.int (0 : Int32))) (fun h => by rw [Bd.returns] at h; cases h)
            refine ⟨_, _, pr_66 _ ?_, hrun, hended, _, _, rfl, ?_, ⟨_, rfl⟩, hW, hsame.mono (by decide) (by decide)⟩
            · show Steps p.tables e below (T_63.setTop (mkF m 60 #[.val (.ref a1), .val (.int p2), .val (.int (p2 + (1 : Int32)))] [(.int (1 : Int32)), (.int (p2 + (1 : Int32)))])) _
              refine XS.icmpYes X_63.here hx rfl (pc0 := 60) (pc' := 76) rfl (hb hby d3_60) rfl (flt hc_67).2.2.2 (by decide) (by decide) ?_
              show Steps p.tables e below (T_63.setTop (mkF m 76 #[.val (.ref a1), .val (.int p2), .val (.int (p2 + (1 : Int32)))] [])) _
              refine XS.iconst X_63.here hx rfl (hb hby d3_76) ?_
              show Steps p.tables e below (T_63.setTop (mkF m 77 #[.val (.ref a1), .val (.int p2), .val (.int (p2 + (1 : Int32)))] [(.int (0 : Int32))])) _
              exact retI X_63 hx Bd.returns (hb hby d3_77) hr
            · show Q3 Z a1 p2 f1 h0 n0 _ T_63.heap _
              rw [e_63]
              exact ⟨by rw [own_border, if_neg hc_2, if_neg hc_42, if_pos hc_62, if_pos hc_65, if_neg hc_67], N_63, rfl⟩
        · obtain ⟨fs, hr, hrun, hended, hW, hsame⟩ := X_63.leave (v := some (.int (2 : Int32))) (fun h => by rw [Bd.returns] at h; cases h)
          refine ⟨_, _, pr_64 _ ?_, hrun, hended, _, _, rfl, ?_, ⟨_, rfl⟩, hW, hsame.mono (by decide) (by decide)⟩
          · show Steps p.tables e below (T_63.setTop (mkF m 53 #[.val (.ref a1), .val (.int p2), .val (.int (p2 + (1 : Int32)))] [(.int (own_same ((p2 + (1 : Int32)) - (2 : Int32)) (2 : Int32) f1))])) _
            refine XS.ifNo X_63.here hx rfl (hb hby d3_53) rfl ((if0 _ _).trans (feq hc_65).1) ?_
            show Steps p.tables e below (T_63.setTop (mkF m 56 #[.val (.ref a1), .val (.int p2), .val (.int (p2 + (1 : Int32)))] [])) _
            refine XS.iconst X_63.here hx rfl (hb hby d3_56) ?_
            show Steps p.tables e below (T_63.setTop (mkF m 57 #[.val (.ref a1), .val (.int p2), .val (.int (p2 + (1 : Int32)))] [(.int (2 : Int32))])) _
            exact retI X_63 hx Bd.returns (hb hby d3_57) hr
          · show Q3 Z a1 p2 f1 h0 n0 _ T_63.heap _
            rw [e_63]
            exact ⟨by rw [own_border, if_neg hc_2, if_neg hc_42, if_pos hc_62, if_neg hc_65], N_63, rfl⟩
      · have pr_71 : ∀ t, Steps p.tables e below (s₁.setTop (mkF m 60 #[.val (.ref a1), .val (.int p2), .val (.int (p2 + (1 : Int32)))] [(.int (1 : Int32)), (.int (p2 + (1 : Int32)))])) t → Steps p.tables e below (s₁.setTop (entryFrame m #[(.ref a1), (.int p2)] 3)) t := fun t k => by
          refine pr_61 _ ?_
          show Steps p.tables e below (s₁.setTop (mkF m 42 #[.val (.ref a1), .val (.int p2), .val (.int (p2 + (1 : Int32)))] [(.int (2 : Int32)), (.int (p2 + (1 : Int32)))])) _
          refine XS.icmpYes X0.here hx rfl (pc0 := 42) (pc' := 58) rfl (hb hby d3_42) rfl (flt hc_62).2.2.2 (by decide) (by decide) ?_
          show Steps p.tables e below (s₁.setTop (mkF m 58 #[.val (.ref a1), .val (.int p2), .val (.int (p2 + (1 : Int32)))] [])) _
          refine XS.iloadN X0.here hx rfl (hb hby d3_58) rfl ?_
          show Steps p.tables e below (s₁.setTop (mkF m 59 #[.val (.ref a1), .val (.int p2), .val (.int (p2 + (1 : Int32)))] [(.int (p2 + (1 : Int32)))])) _
          refine XS.iconst X0.here hx rfl (hb hby d3_59) ?_
          exact k
        by_cases hc_72 : (1 : Int32) < (p2 + (1 : Int32))
        · obtain ⟨_, _, ⟨T_73, L_73, k_73, n_73⟩, -, X_73, ⟨Lc_73, hQ_73, l_73, y_73, z_73⟩, st_73⟩ := Jvm.LawKit.callS X0 hx (y := (⟨"com/example/borderwork/borderwork/zarrays/ZArraysToBorderArrayPinLaw", "same", "([III)Z"⟩ : MethodName)) hown (mvT hZ (hw _ (List.mem_of_getElem? (i := 13) rfl))) (mvT hZ (hw _ (List.mem_of_getElem? (i := 14) rfl))) (mvT hZ (hw _ (List.mem_of_getElem? (i := 8) rfl))) (mvT hZ (hw _ (List.mem_of_getElem? (i := 15) rfl))) (by decide) (backOf (W := 0) (rm4 l Z a0 hw [] a1 ((p2 + (1 : Int32)) - (1 : Int32)) (1 : Int32) f1 h0 n0 Z0 F0 (own_bd hq0 hq1 hc_72 (by decide)).1 (own_bd hq0 hq1 hc_72 (by decide)).2 (by decide)) hZ (hw _ (List.mem_of_getElem? (i := 15) rfl)) (hw _ (List.mem_of_getElem? (i := 8) rfl)) (by decide) (by decide)) (g := (mkF m 68 #[.val (.ref a1), .val (.int p2), .val (.int (p2 + (1 : Int32)))] [(.int (1 : Int32)), (.int ((p2 + (1 : Int32)) - (1 : Int32))), (.ref a1)])) rfl (by rw [hml]; rfl) (argsL := [(.ref a1), (.int ((p2 + (1 : Int32)) - (1 : Int32))), (.int (1 : Int32))]) (rest := []) (lenOf pd_1 rfl) rfl (by show 2 * 0 + _ ≤ _; exact Nat.le_of_eq rfl) (hb hby d3_68) (fun _ _ => ⟨rfl, e0, (by decide : 0 + 0 ≤ _), (by decide : 0 + 0 ≤ _)⟩)
          dsimp only [Pt.U, Pt.locs, Pt.cells, Pt.slots] at X_73 l_73 y_73 z_73 st_73 hQ_73
          subst l_73 y_73 z_73
          obtain ⟨rfl, N_73q, e_73⟩ := hQ_73
          have N_73 := Fr.app N0 N_73q
          have pr_74 : ∀ t, Steps p.tables e below (T_73.setTop (mkF m 71 #[.val (.ref a1), .val (.int p2), .val (.int (p2 + (1 : Int32)))] [(.int (own_same ((p2 + (1 : Int32)) - (1 : Int32)) (1 : Int32) f1))])) t → Steps p.tables e below (s₁.setTop (entryFrame m #[(.ref a1), (.int p2)] 3)) t := fun t k => by
            refine pr_71 _ ?_
            show Steps p.tables e below (s₁.setTop (mkF m 60 #[.val (.ref a1), .val (.int p2), .val (.int (p2 + (1 : Int32)))] [(.int (1 : Int32)), (.int (p2 + (1 : Int32)))])) _
            refine XS.icmpNo X0.here hx rfl (hb hby d3_60) rfl (tlt hc_72).2.2.2 ?_
            show Steps p.tables e below (s₁.setTop (mkF m 63 #[.val (.ref a1), .val (.int p2), .val (.int (p2 + (1 : Int32)))] [])) _
            refine XS.aloadN X0.here hx rfl (hb hby d3_63) rfl rfl ?_
            show Steps p.tables e below (s₁.setTop (mkF m 64 #[.val (.ref a1), .val (.int p2), .val (.int (p2 + (1 : Int32)))] [(.ref a1)])) _
            refine XS.iloadN X0.here hx rfl (hb hby d3_64) rfl ?_
            show Steps p.tables e below (s₁.setTop (mkF m 65 #[.val (.ref a1), .val (.int p2), .val (.int (p2 + (1 : Int32)))] [(.int (p2 + (1 : Int32))), (.ref a1)])) _
            refine XS.iconst X0.here hx rfl (hb hby d3_65) ?_
            show Steps p.tables e below (s₁.setTop (mkF m 66 #[.val (.ref a1), .val (.int p2), .val (.int (p2 + (1 : Int32)))] [(.int (1 : Int32)), (.int (p2 + (1 : Int32))), (.ref a1)])) _
            refine XS.isub X0.here hx rfl (hb hby d3_66) rfl ?_
            show Steps p.tables e below (s₁.setTop (mkF m 67 #[.val (.ref a1), .val (.int p2), .val (.int (p2 + (1 : Int32)))] [(.int ((p2 + (1 : Int32)) - (1 : Int32))), (.ref a1)])) _
            refine XS.iconst X0.here hx rfl (hb hby d3_67) ?_
            show Steps p.tables e below (s₁.setTop (mkF m 68 #[.val (.ref a1), .val (.int p2), .val (.int (p2 + (1 : Int32)))] [(.int (1 : Int32)), (.int ((p2 + (1 : Int32)) - (1 : Int32))), (.ref a1)])) _
            refine st_73 _ ?_
            exact k
          by_cases hc_75 : (own_same ((p2 + (1 : Int32)) - (1 : Int32)) (1 : Int32) f1) = (0 : Int32)
          · obtain ⟨fs, hr, hrun, hended, hW, hsame⟩ := X_73.leave (v := some (.int (0 : Int32))) (fun h => by rw [Bd.returns] at h; cases h)
            refine ⟨_, _, pr_74 _ ?_, hrun, hended, _, _, rfl, ?_, ⟨_, rfl⟩, hW, hsame.mono (by decide) (by decide)⟩
            · show Steps p.tables e below (T_73.setTop (mkF m 71 #[.val (.ref a1), .val (.int p2), .val (.int (p2 + (1 : Int32)))] [(.int (own_same ((p2 + (1 : Int32)) - (1 : Int32)) (1 : Int32) f1))])) _
              refine XS.ifYes X_73.here hx rfl (pc0 := 71) (pc' := 76) rfl (hb hby d3_71) rfl ((if0 _ _).trans (teq hc_75).1) (by decide) (by decide) ?_
              show Steps p.tables e below (T_73.setTop (mkF m 76 #[.val (.ref a1), .val (.int p2), .val (.int (p2 + (1 : Int32)))] [])) _
              refine XS.iconst X_73.here hx rfl (hb hby d3_76) ?_
              show Steps p.tables e below (T_73.setTop (mkF m 77 #[.val (.ref a1), .val (.int p2), .val (.int (p2 + (1 : Int32)))] [(.int (0 : Int32))])) _
              exact retI X_73 hx Bd.returns (hb hby d3_77) hr
            · show Q3 Z a1 p2 f1 h0 n0 _ T_73.heap _
              rw [e_73]
              exact ⟨by rw [own_border, if_neg hc_2, if_neg hc_42, if_neg hc_62, if_pos hc_72, if_pos hc_75], N_73, rfl⟩
          · obtain ⟨fs, hr, hrun, hended, hW, hsame⟩ := X_73.leave (v := some (.int (1 : Int32))) (fun h => by rw [Bd.returns] at h; cases h)
            refine ⟨_, _, pr_74 _ ?_, hrun, hended, _, _, rfl, ?_, ⟨_, rfl⟩, hW, hsame.mono (by decide) (by decide)⟩
            · show Steps p.tables e below (T_73.setTop (mkF m 71 #[.val (.ref a1), .val (.int p2), .val (.int (p2 + (1 : Int32)))] [(.int (own_same ((p2 + (1 : Int32)) - (1 : Int32)) (1 : Int32) f1))])) _
              refine XS.ifNo X_73.here hx rfl (hb hby d3_71) rfl ((if0 _ _).trans (feq hc_75).1) ?_
              show Steps p.tables e below (T_73.setTop (mkF m 74 #[.val (.ref a1), .val (.int p2), .val (.int (p2 + (1 : Int32)))] [])) _
              refine XS.iconst X_73.here hx rfl (hb hby d3_74) ?_
              show Steps p.tables e below (T_73.setTop (mkF m 75 #[.val (.ref a1), .val (.int p2), .val (.int (p2 + (1 : Int32)))] [(.int (1 : Int32))])) _
              exact retI X_73 hx Bd.returns (hb hby d3_75) hr
            · show Q3 Z a1 p2 f1 h0 n0 _ T_73.heap _
              rw [e_73]
              exact ⟨by rw [own_border, if_neg hc_2, if_neg hc_42, if_neg hc_62, if_pos hc_72, if_neg hc_75], N_73, rfl⟩
        · obtain ⟨fs, hr, hrun, hended, hW, hsame⟩ := X0.leave (v := some (.int (0 : Int32))) (fun h => by rw [Bd.returns] at h; cases h)
          refine ⟨_, _, pr_71 _ ?_, hrun, hended, _, _, rfl, ?_, ⟨_, rfl⟩, hW, hsame.mono (by decide) (by decide)⟩
          · show Steps p.tables e below (s₁.setTop (mkF m 60 #[.val (.ref a1), .val (.int p2), .val (.int (p2 + (1 : Int32)))] [(.int (1 : Int32)), (.int (p2 + (1 : Int32)))])) _
            refine XS.icmpYes X0.here hx rfl (pc0 := 60) (pc' := 76) rfl (hb hby d3_60) rfl (flt hc_72).2.2.2 (by decide) (by decide) ?_
            show Steps p.tables e below (s₁.setTop (mkF m 76 #[.val (.ref a1), .val (.int p2), .val (.int (p2 + (1 : Int32)))] [])) _
            refine XS.iconst X0.here hx rfl (hb hby d3_76) ?_
            show Steps p.tables e below (s₁.setTop (mkF m 77 #[.val (.ref a1), .val (.int p2), .val (.int (p2 + (1 : Int32)))] [(.int (0 : Int32))])) _
            exact retI X0 hx Bd.returns (hb hby d3_77) hr
          · show Q3 Z a1 p2 f1 h0 n0 _ s₁.heap _
            rw [e0]
            exact ⟨by rw [own_border, if_neg hc_2, if_neg hc_42, if_neg hc_62, if_neg hc_72], N0, rfl⟩
theorem d1_0 : decode prog_20_method_8_code 0 = .ok (.aload_n 0, 1) := by decide +kernel
theorem d1_1 : decode prog_20_method_8_code 1 = .ok (.arraylength, 1) := by decide +kernel
theorem d1_2 : decode prog_20_method_8_code 2 = .ok (.istore_n 1, 1) := by decide +kernel
theorem d1_3 : decode prog_20_method_8_code 3 = .ok (.iload_n 1, 1) := by decide +kernel
theorem d1_4 : decode prog_20_method_8_code 4 = .ok (.ifCond .le 27, 3) := by decide +kernel
theorem d1_31 : decode prog_20_method_8_code 31 = .ok (.iload_n 1, 1) := by decide +kernel
theorem d1_32 : decode prog_20_method_8_code 32 = .ok (.newarray .int, 2) := by decide +kernel
theorem d1_34 : decode prog_20_method_8_code 34 = .ok (.astore_n 2, 1) := by decide +kernel
theorem d1_35 : decode prog_20_method_8_code 35 = .ok (.iconst 1, 1) := by decide +kernel
theorem d1_36 : decode prog_20_method_8_code 36 = .ok (.istore_n 3, 1) := by decide +kernel
theorem d1_37 : decode prog_20_method_8_code 37 = .ok (.iload_n 3, 1) := by decide +kernel
theorem d1_38 : decode prog_20_method_8_code 38 = .ok (.iload_n 1, 1) := by decide +kernel
theorem d1_39 : decode prog_20_method_8_code 39 = .ok (.if_icmp .ge 83, 3) := by decide +kernel
theorem d1_122 : decode prog_20_method_8_code 122 = .ok (.aload_n 2, 1) := by decide +kernel
theorem d1_123 : decode prog_20_method_8_code 123 = .ok (.areturn, 1) := by decide +kernel
theorem ef_1_R (m : MethodId) (x0 : Addr) : entryFrame m #[(.ref x0)] 6 = mkF m 0 #[.val (.ref x0), .unset, .unset, .unset, .unset, .unset] [] := by first | (simp [entryFrame, mkF, argsToLocals, Value.category]; done) | rfl
def Q1_0 (Z : State) (a1 : Addr) (f1 : Nat → Int32) (h0 : Heap) (n0 : Nat) (v : Option Value) (h : Heap) (L : List Loc) : Prop := ∃ r, v = some (.ref r) ∧ Fr n0 L ∧ Keep h0 h [] ∧ own_arr .int Z h r 0 (own_out 0 f1)
theorem pn_1 : plainName "com/example/borderwork/borderwork/zarrays/ZArrays" = true := by first | (simp [plainName, overriddenIn]; done) | decide +kernel
set_option maxRecDepth 65536 in
set_option maxHeartbeats 40000000 in
theorem rm1_0 (l : Launch) (Z : State) (a0 : Array Value) (hw : ∀ d ∈ tables_1, d.before a0 Z = true) (ws : List Jvm.Cond) (a1 : Addr) (f1 : Nat → Int32) (h0 : Heap) (n0 : Nat) (Z0 : n0 ≤ h0.size) (F0 : own_arr .int Z h0 a1 0 f1) :
    MetFree l (⟨"com/example/borderwork/borderwork/zarrays/ZArrays", "toBorderArray", "([I)[I"⟩ : MethodName) (head1 (Jvm.Cond.code (⟨"com/example/borderwork/borderwork/zarrays/ZArrays", "toBorderArray", "([I)[I"⟩ : MethodName) prog_20_method_8_code 6 (some (.array .int)) :: ws) ({ frames := 0, cells := 1, slots := 0, locals := 0 } : Room)) (fun a U => a = #[(.ref a1)] ∧ Z.Warmed39 U.vm ∧ U.heap = h0) (fun _ _ _ _ _ => True) (fun _ U o U' => ∃ v L, o = .returned v ∧ Q1_0 Z a1 f1 h0 n0 v U'.heap L ∧ FrameEnd U o U' L ({ frames := 0, cells := 1, slots := 0, locals := 0 } : Room).cells ({ frames := 0, cells := 1, slots := 0, locals := 0 } : Room).slots) := by
  refine MetFree.of_bodySF (plainFor_of_name pn_1) hisR ?_
  intro p e s m args below meth c s₁ Bd hml0 hP hK
  obtain ⟨rfl, hZ, hh⟩ := hP
  have hx := Bd.exec
  have hby := Bd.bytes
  have hml : c.maxLocals = 6 := hml0
  have hown : s.vm.findClass "com/example/borderwork/borderwork/zarrays/ZArrays" = some m.cls := findClass_of_methodNamed Bd.named
  have hnm := (name_of_methodNamed Bd.named Bd.method).1
  have X0 : Stand p l e ({ frames := 0, cells := 1, slots := 0, locals := 0 } : Room) s m #[(.ref a1)] below meth c s₁ [] 0 0 := Stand.of_body Bd
  have e0 : s₁.heap = h0 := by rw [← hh, Bd.state]; rfl
  have N0 := Fr.nil n0
  have pre0 : ∀ t, Steps p.tables e below (s₁.setTop (mkF m 0 #[.val (.ref a1), .unset, .unset, .unset, .unset, .unset] [])) t → Steps p.tables e below (s₁.setTop (entryFrame m #[(.ref a1)] 6)) t := fun t k => castTop (ef_1_R m a1) k
  have fo_2 := F0
  obtain ⟨cl_2, Ar_2, Sz_2, At_2⟩ := fo_2
  obtain ⟨T_3, h_3, k_3, X_3, e_3, E_3, A_3, st_3⟩ := newP X0 hx hZ (hw _ (List.mem_of_getElem? (i := 1) rfl)) e0 (g := (mkF m 32 #[.val (.ref a1), .val (.int (0 : Int32)), .unset, .unset, .unset, .unset] [(.int (0 : Int32))])) rfl (hb hby d1_32) rfl (by decide) (cap := 0) (by decide) (by decide) (by decide) (by decide)
  obtain ⟨b_3, g_3⟩ : ∃ z, z = h0.size := ⟨_, rfl⟩
  rw [← g_3] at A_3 st_3
  have ne_a1_b_3 : a1 ≠ b_3 := Nat.ne_of_lt (Nat.lt_of_lt_of_le F0.lt (Nat.le_of_eq g_3.symm))
  have g_b_3 : n0 ≤ b_3 := Nat.le_trans Z0 (Nat.le_of_eq g_3.symm)
  have sz_b_3 : h0.size ≤ b_3 := Nat.le_trans ((Keep.refl h0 [])).1 (Nat.le_of_eq g_3.symm)
  have f_3_0 : own_arr .int Z h_3 a1 0 f1 := F0.ext E_3
  have Z_3 : n0 ≤ h_3.size := Nat.le_trans Z0 E_3.1
  have K_3 : Keep h0 h_3 [] := (Keep.refl h0 []).ext E_3
  have fa_3 : own_arr .int Z h_3 b_3 0 (fun _ => 0) := own_arr.newI A_3 rfl
  obtain ⟨fs, hr, hrun, hended, hW, hsame⟩ := X_3.leave (v := some (.ref b_3)) (fun h => by rw [Bd.returns] at h; cases h)
  refine ⟨_, _, pre0 _ ?_, hrun, hended, _, _, rfl, ?_, ⟨_, rfl⟩, hW, hsame.mono (by decide) (by decide)⟩
  · show Steps p.tables e below (s₁.setTop (mkF m 0 #[.val (.ref a1), .unset, .unset, .unset, .unset, .unset] [])) _
    refine XS.aloadN X0.here hx rfl (hb hby d1_0) rfl rfl ?_
    show Steps p.tables e below (s₁.setTop (mkF m 1 #[.val (.ref a1), .unset, .unset, .unset, .unset, .unset] [(.ref a1)])) _
    refine X0.arraylength hx (by rw [e0]; exact Ar_2.1) (State.isArrayOf_alike hZ.alike Ar_2.2.1) (g := (mkF m 1 #[.val (.ref a1), .unset, .unset, .unset, .unset, .unset] [(.ref a1)])) rfl rfl (hb hby d1_1) _ ?_
    rw [Sz_2]
    show Steps p.tables e below (s₁.setTop (mkF m 2 #[.val (.ref a1), .unset, .unset, .unset, .unset, .unset] [(.int (0 : Int32))])) _
    refine XS.istoreN X0.here hx rfl (hb hby d1_2) rfl (l' := #[.val (.ref a1), .val (.int (0 : Int32)), .unset, .unset, .unset, .unset]) rfl ?_
    show Steps p.tables e below (s₁.setTop (mkF m 3 #[.val (.ref a1), .val (.int (0 : Int32)), .unset, .unset, .unset, .unset] [])) _
    refine XS.iloadN X0.here hx rfl (hb hby d1_3) rfl ?_
    show Steps p.tables e below (s₁.setTop (mkF m 4 #[.val (.ref a1), .val (.int (0 : Int32)), .unset, .unset, .unset, .unset] [(.int (0 : Int32))])) _
    refine XS.ifYes X0.here hx rfl (pc0 := 4) (pc' := 31) rfl (hb hby d1_4) rfl ((if0 _ _).trans (flt (by decide : ¬ ((0 : Int32) < (0 : Int32)))).2.2.2) (by decide) (by decide) ?_
    show Steps p.tables e below (s₁.setTop (mkF m 31 #[.val (.ref a1), .val (.int (0 : Int32)), .unset, .unset, .unset, .unset] [])) _
    refine XS.iloadN X0.here hx rfl (hb hby d1_31) rfl ?_
    show Steps p.tables e below (s₁.setTop (mkF m 32 #[.val (.ref a1), .val (.int (0 : Int32)), .unset, .unset, .unset, .unset] [(.int (0 : Int32))])) _
    refine st_3 _ ?_
    show Steps p.tables e below (T_3.setTop (mkF m 34 #[.val (.ref a1), .val (.int (0 : Int32)), .unset, .unset, .unset, .unset] [(.ref b_3)])) _
    refine XS.astoreN X_3.here hx rfl (hb hby d1_34) rfl rfl (l' := #[.val (.ref a1), .val (.int (0 : Int32)), .val (.ref b_3), .unset, .unset, .unset]) rfl ?_
    show Steps p.tables e below (T_3.setTop (mkF m 35 #[.val (.ref a1), .val (.int (0 : Int32)), .val (.ref b_3), .unset, .unset, .unset] [])) _
    refine XS.iconst X_3.here hx rfl (hb hby d1_35) ?_
    show Steps p.tables e below (T_3.setTop (mkF m 36 #[.val (.ref a1), .val (.int (0 : Int32)), .val (.ref b_3), .unset, .unset, .unset] [(.int (1 : Int32))])) _
    refine XS.istoreN X_3.here hx rfl (hb hby d1_36) rfl (l' := #[.val (.ref a1), .val (.int (0 : Int32)), .val (.ref b_3), .val (.int (1 : Int32)), .unset, .unset]) rfl ?_
    show Steps p.tables e below (T_3.setTop (mkF m 37 #[.val (.ref a1), .val (.int (0 : Int32)), .val (.ref b_3), .val (.int (1 : Int32)), .unset, .unset] [])) _
    refine XS.iloadN X_3.here hx rfl (hb hby d1_37) rfl ?_
    show Steps p.tables e below (T_3.setTop (mkF m 38 #[.val (.ref a1), .val (.int (0 : Int32)), .val (.ref b_3), .val (.int (1 : Int32)), .unset, .unset] [(.int (1 : Int32))])) _
    refine XS.iloadN X_3.here hx rfl (hb hby d1_38) rfl ?_
    show Steps p.tables e below (T_3.setTop (mkF m 39 #[.val (.ref a1), .val (.int (0 : Int32)), .val (.ref b_3), .val (.int (1 : Int32)), .unset, .unset] [(.int (0 : Int32)), (.int (1 : Int32))])) _
    refine XS.icmpYes X_3.here hx rfl (pc0 := 39) (pc' := 122) rfl (hb hby d1_39) rfl (flt (by decide : ¬ ((1 : Int32) < (0 : Int32)))).2.1 (by decide) (by decide) ?_
    show Steps p.tables e below (T_3.setTop (mkF m 122 #[.val (.ref a1), .val (.int (0 : Int32)), .val (.ref b_3), .val (.int (1 : Int32)), .unset, .unset] [])) _
    refine XS.aloadN X_3.here hx rfl (hb hby d1_122) rfl rfl ?_
    show Steps p.tables e below (T_3.setTop (mkF m 123 #[.val (.ref a1), .val (.int (0 : Int32)), .val (.ref b_3), .val (.int (1 : Int32)), .unset, .unset] [(.ref b_3)])) _
    exact retOut X_3 hx Bd.returns rfl (Or.inr (Or.inr (Or.inr (Or.inr ⟨rfl, rfl, rfl⟩)))) (hb hby d1_123) hr
  · show Q1_0 Z a1 f1 h0 n0 _ T_3.heap _
    rw [e_3]
    exact ⟨b_3, rfl, N0, K_3, fa_3⟩
theorem d1_7 : decode prog_20_method_8_code 7 = .ok (.aload_n 0, 1) := by decide +kernel
theorem d1_8 : decode prog_20_method_8_code 8 = .ok (.iconst 0, 1) := by decide +kernel
theorem d1_9 : decode prog_20_method_8_code 9 = .ok (.iaload, 1) := by decide +kernel
theorem d1_10 : decode prog_20_method_8_code 10 = .ok (.iload_n 1, 1) := by decide +kernel
theorem d1_11 : decode prog_20_method_8_code 11 = .ok (.if_icmp .eq 20, 3) := by decide +kernel
def Q1_1 (Z : State) (a1 : Addr) (f1 : Nat → Int32) (h0 : Heap) (n0 : Nat) (v : Option Value) (h : Heap) (L : List Loc) : Prop := ∃ r, v = some (.ref r) ∧ Fr n0 L ∧ Keep h0 h [] ∧ own_arr .int Z h r 1 (own_out 1 f1)
set_option maxRecDepth 65536 in
set_option maxHeartbeats 40000000 in
theorem rm1_1 (l : Launch) (Z : State) (a0 : Array Value) (hw : ∀ d ∈ tables_1, d.before a0 Z = true) (ws : List Jvm.Cond) (a1 : Addr) (f1 : Nat → Int32) (h0 : Heap) (n0 : Nat) (Z0 : n0 ≤ h0.size) (F0 : own_arr .int Z h0 a1 1 f1) (hz0 : f1 0 = (1 : Int32)) :
    MetFree l (⟨"com/example/borderwork/borderwork/zarrays/ZArrays", "toBorderArray", "([I)[I"⟩ : MethodName) (head1 (Jvm.Cond.code (⟨"com/example/borderwork/borderwork/zarrays/ZArrays", "toBorderArray", "([I)[I"⟩ : MethodName) prog_20_method_8_code 6 (some (.array .int)) :: ws) ({ frames := 0, cells := 1, slots := 1, locals := 0 } : Room)) (fun a U => a = #[(.ref a1)] ∧ Z.Warmed39 U.vm ∧ U.heap = h0) (fun _ _ _ _ _ => True) (fun _ U o U' => ∃ v L, o = .returned v ∧ Q1_1 Z a1 f1 h0 n0 v U'.heap L ∧ FrameEnd U o U' L ({ frames := 0, cells := 1, slots := 1, locals := 0 } : Room).cells ({ frames := 0, cells := 1, slots := 1, locals := 0 } : Room).slots) := by
  refine MetFree.of_bodySF (plainFor_of_name pn_1) hisR ?_
  intro p e s m args below meth c s₁ Bd hml0 hP hK
  obtain ⟨rfl, hZ, hh⟩ := hP
  have hx := Bd.exec
  have hby := Bd.bytes
  have hml : c.maxLocals = 6 := hml0
  have hown : s.vm.findClass "com/example/borderwork/borderwork/zarrays/ZArrays" = some m.cls := findClass_of_methodNamed Bd.named
  have hnm := (name_of_methodNamed Bd.named Bd.method).1
  have X0 : Stand p l e ({ frames := 0, cells := 1, slots := 1, locals := 0 } : Room) s m #[(.ref a1)] below meth c s₁ [] 0 0 := Stand.of_body Bd
  have e0 : s₁.heap = h0 := by rw [← hh, Bd.state]; rfl
  have N0 := Fr.nil n0
  have pre0 : ∀ t, Steps p.tables e below (s₁.setTop (mkF m 0 #[.val (.ref a1), .unset, .unset, .unset, .unset, .unset] [])) t → Steps p.tables e below (s₁.setTop (entryFrame m #[(.ref a1)] 6)) t := fun t k => castTop (ef_1_R m a1) k
  have fo_2 := F0
  obtain ⟨cl_2, Ar_2, Sz_2, At_2⟩ := fo_2
  obtain ⟨T_3, h_3, k_3, X_3, e_3, E_3, A_3, st_3⟩ := newP X0 hx hZ (hw _ (List.mem_of_getElem? (i := 1) rfl)) e0 (g := (mkF m 32 #[.val (.ref a1), .val (.int (1 : Int32)), .unset, .unset, .unset, .unset] [(.int (1 : Int32))])) rfl (hb hby d1_32) rfl (by decide) (cap := 1) (by decide) (by decide) (by decide) (by decide)
  obtain ⟨b_3, g_3⟩ : ∃ z, z = h0.size := ⟨_, rfl⟩
  rw [← g_3] at A_3 st_3
  have ne_a1_b_3 : a1 ≠ b_3 := Nat.ne_of_lt (Nat.lt_of_lt_of_le F0.lt (Nat.le_of_eq g_3.symm))
  have g_b_3 : n0 ≤ b_3 := Nat.le_trans Z0 (Nat.le_of_eq g_3.symm)
  have sz_b_3 : h0.size ≤ b_3 := Nat.le_trans ((Keep.refl h0 [])).1 (Nat.le_of_eq g_3.symm)
  have f_3_0 : own_arr .int Z h_3 a1 1 f1 := F0.ext E_3
  have Z_3 : n0 ≤ h_3.size := Nat.le_trans Z0 E_3.1
  have K_3 : Keep h0 h_3 [] := (Keep.refl h0 []).ext E_3
  have fa_3 : own_arr .int Z h_3 b_3 1 (fun _ => 0) := own_arr.newI A_3 rfl
  obtain ⟨fs, hr, hrun, hended, hW, hsame⟩ := X_3.leave (v := some (.ref b_3)) (fun h => by rw [Bd.returns] at h; cases h)
  refine ⟨_, _, pre0 _ ?_, hrun, hended, _, _, rfl, ?_, ⟨_, rfl⟩, hW, hsame.mono (by decide) (by decide)⟩
  · show Steps p.tables e below (s₁.setTop (mkF m 0 #[.val (.ref a1), .unset, .unset, .unset, .unset, .unset] [])) _
    refine XS.aloadN X0.here hx rfl (hb hby d1_0) rfl rfl ?_
    show Steps p.tables e below (s₁.setTop (mkF m 1 #[.val (.ref a1), .unset, .unset, .unset, .unset, .unset] [(.ref a1)])) _
    refine X0.arraylength hx (by rw [e0]; exact Ar_2.1) (State.isArrayOf_alike hZ.alike Ar_2.2.1) (g := (mkF m 1 #[.val (.ref a1), .unset, .unset, .unset, .unset, .unset] [(.ref a1)])) rfl rfl (hb hby d1_1) _ ?_
    rw [Sz_2]
    show Steps p.tables e below (s₁.setTop (mkF m 2 #[.val (.ref a1), .unset, .unset, .unset, .unset, .unset] [(.int (1 : Int32))])) _
    refine XS.istoreN X0.here hx rfl (hb hby d1_2) rfl (l' := #[.val (.ref a1), .val (.int (1 : Int32)), .unset, .unset, .unset, .unset]) rfl ?_
    show Steps p.tables e below (s₁.setTop (mkF m 3 #[.val (.ref a1), .val (.int (1 : Int32)), .unset, .unset, .unset, .unset] [])) _
    refine XS.iloadN X0.here hx rfl (hb hby d1_3) rfl ?_
    show Steps p.tables e below (s₁.setTop (mkF m 4 #[.val (.ref a1), .val (.int (1 : Int32)), .unset, .unset, .unset, .unset] [(.int (1 : Int32))])) _
    refine XS.ifNo X0.here hx rfl (hb hby d1_4) rfl ((if0 _ _).trans (tlt (by decide : (0 : Int32) < (1 : Int32))).2.2.2) ?_
    show Steps p.tables e below (s₁.setTop (mkF m 7 #[.val (.ref a1), .val (.int (1 : Int32)), .unset, .unset, .unset, .unset] [])) _
    refine XS.aloadN X0.here hx rfl (hb hby d1_7) rfl rfl ?_
    show Steps p.tables e below (s₁.setTop (mkF m 8 #[.val (.ref a1), .val (.int (1 : Int32)), .unset, .unset, .unset, .unset] [(.ref a1)])) _
    refine XS.iconst X0.here hx rfl (hb hby d1_8) ?_
    show Steps p.tables e below (s₁.setTop (mkF m 9 #[.val (.ref a1), .val (.int (1 : Int32)), .unset, .unset, .unset, .unset] [(.int (0 : Int32)), (.ref a1)])) _
    refine X0.iaload hx (j := (0 : Int32)) (v := (.int (f1 0))) (by rw [e0]; exact Ar_2.1) (State.isArrayOf_alike hZ.alike Ar_2.2.1) Ar_2.2.2 (own_inb Sz_2 (show ¬ ((0 : Int32) < 0 ∨ 1 ≤ ((0 : Int32)).toNatClampNeg) from (by decide))) (by have q := At_2 _ (own_ltn (show ¬ ((0 : Int32) < 0 ∨ 1 ≤ ((0 : Int32)).toNatClampNeg) from (by decide))); rw [show ((0 : Int32)).toNatClampNeg = 0 from by decide] at q ⊢; exact q) (g := (mkF m 9 #[.val (.ref a1), .val (.int (1 : Int32)), .unset, .unset, .unset, .unset] [(.int (0 : Int32)), (.ref a1)])) rfl rfl (hb hby d1_9) _ ?_
    show Steps p.tables e below (s₁.setTop (mkF m 10 #[.val (.ref a1), .val (.int (1 : Int32)), .unset, .unset, .unset, .unset] [(.int (f1 0))])) _
    refine XS.iloadN X0.here hx rfl (hb hby d1_10) rfl ?_
    show Steps p.tables e below (s₁.setTop (mkF m 11 #[.val (.ref a1), .val (.int (1 : Int32)), .unset, .unset, .unset, .unset] [(.int (1 : Int32)), (.int (f1 0))])) _
    refine XS.icmpYes X0.here hx rfl (pc0 := 11) (pc' := 31) rfl (hb hby d1_11) rfl (teq (hz0 : (f1 0) = (1 : Int32))).1 (by decide) (by decide) ?_
    show Steps p.tables e below (s₁.setTop (mkF m 31 #[.val (.ref a1), .val (.int (1 : Int32)), .unset, .unset, .unset, .unset] [])) _
    refine XS.iloadN X0.here hx rfl (hb hby d1_31) rfl ?_
    show Steps p.tables e below (s₁.setTop (mkF m 32 #[.val (.ref a1), .val (.int (1 : Int32)), .unset, .unset, .unset, .unset] [(.int (1 : Int32))])) _
    refine st_3 _ ?_
    show Steps p.tables e below (T_3.setTop (mkF m 34 #[.val (.ref a1), .val (.int (1 : Int32)), .unset, .unset, .unset, .unset] [(.ref b_3)])) _
    refine XS.astoreN X_3.here hx rfl (hb hby d1_34) rfl rfl (l' := #[.val (.ref a1), .val (.int (1 : Int32)), .val (.ref b_3), .unset, .unset, .unset]) rfl ?_
    show Steps p.tables e below (T_3.setTop (mkF m 35 #[.val (.ref a1), .val (.int (1 : Int32)), .val (.ref b_3), .unset, .unset, .unset] [])) _
    refine XS.iconst X_3.here hx rfl (hb hby d1_35) ?_
    show Steps p.tables e below (T_3.setTop (mkF m 36 #[.val (.ref a1), .val (.int (1 : Int32)), .val (.ref b_3), .unset, .unset, .unset] [(.int (1 : Int32))])) _
    refine XS.istoreN X_3.here hx rfl (hb hby d1_36) rfl (l' := #[.val (.ref a1), .val (.int (1 : Int32)), .val (.ref b_3), .val (.int (1 : Int32)), .unset, .unset]) rfl ?_
    show Steps p.tables e below (T_3.setTop (mkF m 37 #[.val (.ref a1), .val (.int (1 : Int32)), .val (.ref b_3), .val (.int (1 : Int32)), .unset, .unset] [])) _
    refine XS.iloadN X_3.here hx rfl (hb hby d1_37) rfl ?_
    show Steps p.tables e below (T_3.setTop (mkF m 38 #[.val (.ref a1), .val (.int (1 : Int32)), .val (.ref b_3), .val (.int (1 : Int32)), .unset, .unset] [(.int (1 : Int32))])) _
    refine XS.iloadN X_3.here hx rfl (hb hby d1_38) rfl ?_
    show Steps p.tables e below (T_3.setTop (mkF m 39 #[.val (.ref a1), .val (.int (1 : Int32)), .val (.ref b_3), .val (.int (1 : Int32)), .unset, .unset] [(.int (1 : Int32)), (.int (1 : Int32))])) _
    refine XS.icmpYes X_3.here hx rfl (pc0 := 39) (pc' := 122) rfl (hb hby d1_39) rfl (flt (by decide : ¬ ((1 : Int32) < (1 : Int32)))).2.1 (by decide) (by decide) ?_
    show Steps p.tables e below (T_3.setTop (mkF m 122 #[.val (.ref a1), .val (.int (1 : Int32)), .val (.ref b_3), .val (.int (1 : Int32)), .unset, .unset] [])) _
    refine XS.aloadN X_3.here hx rfl (hb hby d1_122) rfl rfl ?_
    show Steps p.tables e below (T_3.setTop (mkF m 123 #[.val (.ref a1), .val (.int (1 : Int32)), .val (.ref b_3), .val (.int (1 : Int32)), .unset, .unset] [(.ref b_3)])) _
    exact retOut X_3 hx Bd.returns rfl (Or.inr (Or.inr (Or.inr (Or.inr ⟨rfl, rfl, rfl⟩)))) (hb hby d1_123) hr
  · show Q1_1 Z a1 f1 h0 n0 _ T_3.heap _
    rw [e_3]
    exact ⟨b_3, rfl, N0, K_3, fa_3⟩
theorem d1_42 : decode prog_20_method_8_code 42 = .ok (.aload_n 0, 1) := by decide +kernel
theorem d1_43 : decode prog_20_method_8_code 43 = .ok (.iload_n 3, 1) := by decide +kernel
theorem d1_44 : decode prog_20_method_8_code 44 = .ok (.iaload, 1) := by decide +kernel
theorem d1_45 : decode prog_20_method_8_code 45 = .ok (.istore 4, 2) := by decide +kernel
theorem d1_47 : decode prog_20_method_8_code 47 = .ok (.iload 4, 2) := by decide +kernel
theorem d1_49 : decode prog_20_method_8_code 49 = .ok (.ifCond .lt 11, 3) := by decide +kernel
theorem d1_52 : decode prog_20_method_8_code 52 = .ok (.iload 4, 2) := by decide +kernel
theorem d1_54 : decode prog_20_method_8_code 54 = .ok (.iload_n 1, 1) := by decide +kernel
theorem d1_55 : decode prog_20_method_8_code 55 = .ok (.iload_n 3, 1) := by decide +kernel
theorem d1_56 : decode prog_20_method_8_code 56 = .ok (.isub, 1) := by decide +kernel
theorem d1_57 : decode prog_20_method_8_code 57 = .ok (.if_icmp .le 23, 3) := by decide +kernel
theorem d1_80 : decode prog_20_method_8_code 80 = .ok (.iload 4, 2) := by decide +kernel
theorem d1_82 : decode prog_20_method_8_code 82 = .ok (.iconst 1, 1) := by decide +kernel
theorem d1_83 : decode prog_20_method_8_code 83 = .ok (.isub, 1) := by decide +kernel
theorem d1_84 : decode prog_20_method_8_code 84 = .ok (.istore 5, 2) := by decide +kernel
theorem d1_86 : decode prog_20_method_8_code 86 = .ok (.iload 5, 2) := by decide +kernel
theorem d1_88 : decode prog_20_method_8_code 88 = .ok (.ifCond .lt 28, 3) := by decide +kernel
theorem d1_91 : decode prog_20_method_8_code 91 = .ok (.aload_n 2, 1) := by decide +kernel
theorem d1_92 : decode prog_20_method_8_code 92 = .ok (.iload_n 3, 1) := by decide +kernel
theorem d1_93 : decode prog_20_method_8_code 93 = .ok (.iload 5, 2) := by decide +kernel
theorem d1_95 : decode prog_20_method_8_code 95 = .ok (.iadd, 1) := by decide +kernel
theorem d1_96 : decode prog_20_method_8_code 96 = .ok (.iaload, 1) := by decide +kernel
theorem d1_97 : decode prog_20_method_8_code 97 = .ok (.ifCond .ne 19, 3) := by decide +kernel
theorem d1_100 : decode prog_20_method_8_code 100 = .ok (.aload_n 2, 1) := by decide +kernel
theorem d1_101 : decode prog_20_method_8_code 101 = .ok (.iload_n 3, 1) := by decide +kernel
theorem d1_102 : decode prog_20_method_8_code 102 = .ok (.iload 5, 2) := by decide +kernel
theorem d1_104 : decode prog_20_method_8_code 104 = .ok (.iadd, 1) := by decide +kernel
theorem d1_105 : decode prog_20_method_8_code 105 = .ok (.iload 5, 2) := by decide +kernel
theorem d1_107 : decode prog_20_method_8_code 107 = .ok (.iconst 1, 1) := by decide +kernel
theorem d1_108 : decode prog_20_method_8_code 108 = .ok (.iadd, 1) := by decide +kernel
theorem d1_109 : decode prog_20_method_8_code 109 = .ok (.iastore, 1) := by decide +kernel
theorem d1_110 : decode prog_20_method_8_code 110 = .ok (.iinc 5 (-1), 3) := by decide +kernel
theorem d1_113 : decode prog_20_method_8_code 113 = .ok (.goto (-27), 3) := by decide +kernel
theorem d1_116 : decode prog_20_method_8_code 116 = .ok (.iinc 3 1, 3) := by decide +kernel
theorem d1_119 : decode prog_20_method_8_code 119 = .ok (.goto (-82), 3) := by decide +kernel
def Q1_2 (Z : State) (a1 : Addr) (f1 : Nat → Int32) (h0 : Heap) (n0 : Nat) (v : Option Value) (h : Heap) (L : List Loc) : Prop := ∃ r, v = some (.ref r) ∧ Fr n0 L ∧ Keep h0 h [] ∧ own_arr .int Z h r 2 (own_out 2 f1)
set_option maxRecDepth 65536 in
set_option maxHeartbeats 40000000 in
theorem rm1_2 (l : Launch) (Z : State) (a0 : Array Value) (hw : ∀ d ∈ tables_1, d.before a0 Z = true) (ws : List Jvm.Cond) (a1 : Addr) (f1 : Nat → Int32) (h0 : Heap) (n0 : Nat) (Z0 : n0 ≤ h0.size) (F0 : own_arr .int Z h0 a1 2 f1) (hz0 : f1 0 = (2 : Int32)) (hz1 : ¬ ((f1 1) < (0 : Int32))) (hy1 : ¬ (((2 : Int32) - (1 : Int32)) < (f1 1))) :
    MetFree l (⟨"com/example/borderwork/borderwork/zarrays/ZArrays", "toBorderArray", "([I)[I"⟩ : MethodName) (head1 (Jvm.Cond.code (⟨"com/example/borderwork/borderwork/zarrays/ZArrays", "toBorderArray", "([I)[I"⟩ : MethodName) prog_20_method_8_code 6 (some (.array .int)) :: ws) ({ frames := 0, cells := 1, slots := 2, locals := 0 } : Room)) (fun a U => a = #[(.ref a1)] ∧ Z.Warmed39 U.vm ∧ U.heap = h0) (fun _ _ _ _ _ => True) (fun _ U o U' => ∃ v L, o = .returned v ∧ Q1_2 Z a1 f1 h0 n0 v U'.heap L ∧ FrameEnd U o U' L ({ frames := 0, cells := 1, slots := 2, locals := 0 } : Room).cells ({ frames := 0, cells := 1, slots := 2, locals := 0 } : Room).slots) := by
  refine MetFree.of_bodySF (plainFor_of_name pn_1) hisR ?_
  intro p e s m args below meth c s₁ Bd hml0 hP hK
  obtain ⟨rfl, hZ, hh⟩ := hP
  have hx := Bd.exec
  have hby := Bd.bytes
  have hml : c.maxLocals = 6 := hml0
  have hown : s.vm.findClass "com/example/borderwork/borderwork/zarrays/ZArrays" = some m.cls := findClass_of_methodNamed Bd.named
  have hnm := (name_of_methodNamed Bd.named Bd.method).1
  have X0 : Stand p l e ({ frames := 0, cells := 1, slots := 2, locals := 0 } : Room) s m #[(.ref a1)] below meth c s₁ [] 0 0 := Stand.of_body Bd
  have e0 : s₁.heap = h0 := by rw [← hh, Bd.state]; rfl
  have N0 := Fr.nil n0
  have pre0 : ∀ t, Steps p.tables e below (s₁.setTop (mkF m 0 #[.val (.ref a1), .unset, .unset, .unset, .unset, .unset] [])) t → Steps p.tables e below (s₁.setTop (entryFrame m #[(.ref a1)] 6)) t := fun t k => castTop (ef_1_R m a1) k
  have fo_2 := F0
  obtain ⟨cl_2, Ar_2, Sz_2, At_2⟩ := fo_2
  obtain ⟨T_3, h_3, k_3, X_3, e_3, E_3, A_3, st_3⟩ := newP X0 hx hZ (hw _ (List.mem_of_getElem? (i := 1) rfl)) e0 (g := (mkF m 32 #[.val (.ref a1), .val (.int (2 : Int32)), .unset, .unset, .unset, .unset] [(.int (2 : Int32))])) rfl (hb hby d1_32) rfl (by decide) (cap := 2) (by decide) (by decide) (by decide) (by decide)
  obtain ⟨b_3, g_3⟩ : ∃ z, z = h0.size := ⟨_, rfl⟩
  rw [← g_3] at A_3 st_3
  have ne_a1_b_3 : a1 ≠ b_3 := Nat.ne_of_lt (Nat.lt_of_lt_of_le F0.lt (Nat.le_of_eq g_3.symm))
  have g_b_3 : n0 ≤ b_3 := Nat.le_trans Z0 (Nat.le_of_eq g_3.symm)
  have sz_b_3 : h0.size ≤ b_3 := Nat.le_trans ((Keep.refl h0 [])).1 (Nat.le_of_eq g_3.symm)
  have f_3_0 : own_arr .int Z h_3 a1 2 f1 := F0.ext E_3
  have Z_3 : n0 ≤ h_3.size := Nat.le_trans Z0 E_3.1
  have K_3 : Keep h0 h_3 [] := (Keep.refl h0 []).ext E_3
  have fa_3 : own_arr .int Z h_3 b_3 2 (fun _ => 0) := own_arr.newI A_3 rfl
  have fo_4 := f_3_0
  obtain ⟨cl_4, Ar_4, Sz_4, At_4⟩ := fo_4
  have pr_5 : ∀ t, Steps p.tables e below (T_3.setTop (mkF m 86 #[.val (.ref a1), .val (.int (2 : Int32)), .val (.ref b_3), .val (.int (1 : Int32)), .val (.int (f1 1)), .val (.int ((f1 1) - (1 : Int32)))] [])) t → Steps p.tables e below (s₁.setTop (entryFrame m #[(.ref a1)] 6)) t := fun t k => by
    refine pre0 _ ?_
    show Steps p.tables e below (s₁.setTop (mkF m 0 #[.val (.ref a1), .unset, .unset, .unset, .unset, .unset] [])) _
    refine XS.aloadN X0.here hx rfl (hb hby d1_0) rfl rfl ?_
    show Steps p.tables e below (s₁.setTop (mkF m 1 #[.val (.ref a1), .unset, .unset, .unset, .unset, .unset] [(.ref a1)])) _
    refine X0.arraylength hx (by rw [e0]; exact Ar_2.1) (State.isArrayOf_alike hZ.alike Ar_2.2.1) (g := (mkF m 1 #[.val (.ref a1), .unset, .unset, .unset, .unset, .unset] [(.ref a1)])) rfl rfl (hb hby d1_1) _ ?_
    rw [Sz_2]
    show Steps p.tables e below (s₁.setTop (mkF m 2 #[.val (.ref a1), .unset, .unset, .unset, .unset, .unset] [(.int (2 : Int32))])) _
    refine XS.istoreN X0.here hx rfl (hb hby d1_2) rfl (l' := #[.val (.ref a1), .val (.int (2 : Int32)), .unset, .unset, .unset, .unset]) rfl ?_
    show Steps p.tables e below (s₁.setTop (mkF m 3 #[.val (.ref a1), .val (.int (2 : Int32)), .unset, .unset, .unset, .unset] [])) _
    refine XS.iloadN X0.here hx rfl (hb hby d1_3) rfl ?_
    show Steps p.tables e below (s₁.setTop (mkF m 4 #[.val (.ref a1), .val (.int (2 : Int32)), .unset, .unset, .unset, .unset] [(.int (2 : Int32))])) _
    refine XS.ifNo X0.here hx rfl (hb hby d1_4) rfl ((if0 _ _).trans (tlt (by decide : (0 : Int32) < (2 : Int32))).2.2.2) ?_
    show Steps p.tables e below (s₁.setTop (mkF m 7 #[.val (.ref a1), .val (.int (2 : Int32)), .unset, .unset, .unset, .unset] [])) _
    refine XS.aloadN X0.here hx rfl (hb hby d1_7) rfl rfl ?_
    show Steps p.tables e below (s₁.setTop (mkF m 8 #[.val (.ref a1), .val (.int (2 : Int32)), .unset, .unset, .unset, .unset] [(.ref a1)])) _
    refine XS.iconst X0.here hx rfl (hb hby d1_8) ?_
    show Steps p.tables e below (s₁.setTop (mkF m 9 #[.val (.ref a1), .val (.int (2 : Int32)), .unset, .unset, .unset, .unset] [(.int (0 : Int32)), (.ref a1)])) _
    refine X0.iaload hx (j := (0 : Int32)) (v := (.int (f1 0))) (by rw [e0]; exact Ar_2.1) (State.isArrayOf_alike hZ.alike Ar_2.2.1) Ar_2.2.2 (own_inb Sz_2 (show ¬ ((0 : Int32) < 0 ∨ 2 ≤ ((0 : Int32)).toNatClampNeg) from (by decide))) (by have q := At_2 _ (own_ltn (show ¬ ((0 : Int32) < 0 ∨ 2 ≤ ((0 : Int32)).toNatClampNeg) from (by decide))); rw [show ((0 : Int32)).toNatClampNeg = 0 from by decide] at q ⊢; exact q) (g := (mkF m 9 #[.val (.ref a1), .val (.int (2 : Int32)), .unset, .unset, .unset, .unset] [(.int (0 : Int32)), (.ref a1)])) rfl rfl (hb hby d1_9) _ ?_
    show Steps p.tables e below (s₁.setTop (mkF m 10 #[.val (.ref a1), .val (.int (2 : Int32)), .unset, .unset, .unset, .unset] [(.int (f1 0))])) _
    refine XS.iloadN X0.here hx rfl (hb hby d1_10) rfl ?_
    show Steps p.tables e below (s₁.setTop (mkF m 11 #[.val (.ref a1), .val (.int (2 : Int32)), .unset, .unset, .unset, .unset] [(.int (2 : Int32)), (.int (f1 0))])) _
    refine XS.icmpYes X0.here hx rfl (pc0 := 11) (pc' := 31) rfl (hb hby d1_11) rfl (teq (hz0 : (f1 0) = (2 : Int32))).1 (by decide) (by decide) ?_
    show Steps p.tables e below (s₁.setTop (mkF m 31 #[.val (.ref a1), .val (.int (2 : Int32)), .unset, .unset, .unset, .unset] [])) _
    refine XS.iloadN X0.here hx rfl (hb hby d1_31) rfl ?_
    show Steps p.tables e below (s₁.setTop (mkF m 32 #[.val (.ref a1), .val (.int (2 : Int32)), .unset, .unset, .unset, .unset] [(.int (2 : Int32))])) _
    refine st_3 _ ?_
    show Steps p.tables e below (T_3.setTop (mkF m 34 #[.val (.ref a1), .val (.int (2 : Int32)), .unset, .unset, .unset, .unset] [(.ref b_3)])) _
    refine XS.astoreN X_3.here hx rfl (hb hby d1_34) rfl rfl (l' := #[.val (.ref a1), .val (.int (2 : Int32)), .val (.ref b_3), .unset, .unset, .unset]) rfl ?_
    show Steps p.tables e below (T_3.setTop (mkF m 35 #[.val (.ref a1), .val (.int (2 : Int32)), .val (.ref b_3), .unset, .unset, .unset] [])) _
    refine XS.iconst X_3.here hx rfl (hb hby d1_35) ?_
    show Steps p.tables e below (T_3.setTop (mkF m 36 #[.val (.ref a1), .val (.int (2 : Int32)), .val (.ref b_3), .unset, .unset, .unset] [(.int (1 : Int32))])) _
    refine XS.istoreN X_3.here hx rfl (hb hby d1_36) rfl (l' := #[.val (.ref a1), .val (.int (2 : Int32)), .val (.ref b_3), .val (.int (1 : Int32)), .unset, .unset]) rfl ?_
    show Steps p.tables e below (T_3.setTop (mkF m 37 #[.val (.ref a1), .val (.int (2 : Int32)), .val (.ref b_3), .val (.int (1 : Int32)), .unset, .unset] [])) _
    refine XS.iloadN X_3.here hx rfl (hb hby d1_37) rfl ?_
    show Steps p.tables e below (T_3.setTop (mkF m 38 #[.val (.ref a1), .val (.int (2 : Int32)), .val (.ref b_3), .val (.int (1 : Int32)), .unset, .unset] [(.int (1 : Int32))])) _
    refine XS.iloadN X_3.here hx rfl (hb hby d1_38) rfl ?_
    show Steps p.tables e below (T_3.setTop (mkF m 39 #[.val (.ref a1), .val (.int (2 : Int32)), .val (.ref b_3), .val (.int (1 : Int32)), .unset, .unset] [(.int (2 : Int32)), (.int (1 : Int32))])) _
    refine XS.icmpNo X_3.here hx rfl (hb hby d1_39) rfl (tlt (by decide : (1 : Int32) < (2 : Int32))).2.1 ?_
    show Steps p.tables e below (T_3.setTop (mkF m 42 #[.val (.ref a1), .val (.int (2 : Int32)), .val (.ref b_3), .val (.int (1 : Int32)), .unset, .unset] [])) _
    refine XS.aloadN X_3.here hx rfl (hb hby d1_42) rfl rfl ?_
    show Steps p.tables e below (T_3.setTop (mkF m 43 #[.val (.ref a1), .val (.int (2 : Int32)), .val (.ref b_3), .val (.int (1 : Int32)), .unset, .unset] [(.ref a1)])) _
    refine XS.iloadN X_3.here hx rfl (hb hby d1_43) rfl ?_
    show Steps p.tables e below (T_3.setTop (mkF m 44 #[.val (.ref a1), .val (.int (2 : Int32)), .val (.ref b_3), .val (.int (1 : Int32)), .unset, .unset] [(.int (1 : Int32)), (.ref a1)])) _
    refine X_3.iaload hx (j := (1 : Int32)) (v := (.int (f1 1))) (by rw [e_3]; exact Ar_4.1) (State.isArrayOf_alike hZ.alike Ar_4.2.1) Ar_4.2.2 (own_inb Sz_4 (show ¬ ((1 : Int32) < 0 ∨ 2 ≤ ((1 : Int32)).toNatClampNeg) from (by decide))) (by have q := At_4 _ (own_ltn (show ¬ ((1 : Int32) < 0 ∨ 2 ≤ ((1 : Int32)).toNatClampNeg) from (by decide))); rw [show ((1 : Int32)).toNatClampNeg = 1 from by decide] at q ⊢; exact q) (g := (mkF m 44 #[.val (.ref a1), .val (.int (2 : Int32)), .val (.ref b_3), .val (.int (1 : Int32)), .unset, .unset] [(.int (1 : Int32)), (.ref a1)])) rfl rfl (hb hby d1_44) _ ?_
    show Steps p.tables e below (T_3.setTop (mkF m 45 #[.val (.ref a1), .val (.int (2 : Int32)), .val (.ref b_3), .val (.int (1 : Int32)), .unset, .unset] [(.int (f1 1))])) _
    refine XS.istore X_3.here hx rfl (hb hby d1_45) rfl (l' := #[.val (.ref a1), .val (.int (2 : Int32)), .val (.ref b_3), .val (.int (1 : Int32)), .val (.int (f1 1)), .unset]) rfl ?_
    show Steps p.tables e below (T_3.setTop (mkF m 47 #[.val (.ref a1), .val (.int (2 : Int32)), .val (.ref b_3), .val (.int (1 : Int32)), .val (.int (f1 1)), .unset] [])) _
    refine XS.iload X_3.here hx rfl (hb hby d1_47) rfl ?_
    show Steps p.tables e below (T_3.setTop (mkF m 49 #[.val (.ref a1), .val (.int (2 : Int32)), .val (.ref b_3), .val (.int (1 : Int32)), .val (.int (f1 1)), .unset] [(.int (f1 1))])) _
    refine XS.ifNo X_3.here hx rfl (hb hby d1_49) rfl ((if0 _ _).trans (flt (hz1 : ¬ ((f1 1) < (0 : Int32)))).1) ?_
    show Steps p.tables e below (T_3.setTop (mkF m 52 #[.val (.ref a1), .val (.int (2 : Int32)), .val (.ref b_3), .val (.int (1 : Int32)), .val (.int (f1 1)), .unset] [])) _
    refine XS.iload X_3.here hx rfl (hb hby d1_52) rfl ?_
    show Steps p.tables e below (T_3.setTop (mkF m 54 #[.val (.ref a1), .val (.int (2 : Int32)), .val (.ref b_3), .val (.int (1 : Int32)), .val (.int (f1 1)), .unset] [(.int (f1 1))])) _
    refine XS.iloadN X_3.here hx rfl (hb hby d1_54) rfl ?_
    show Steps p.tables e below (T_3.setTop (mkF m 55 #[.val (.ref a1), .val (.int (2 : Int32)), .val (.ref b_3), .val (.int (1 : Int32)), .val (.int (f1 1)), .unset] [(.int (2 : Int32)), (.int (f1 1))])) _
    refine XS.iloadN X_3.here hx rfl (hb hby d1_55) rfl ?_
    show Steps p.tables e below (T_3.setTop (mkF m 56 #[.val (.ref a1), .val (.int (2 : Int32)), .val (.ref b_3), .val (.int (1 : Int32)), .val (.int (f1 1)), .unset] [(.int (1 : Int32)), (.int (2 : Int32)), (.int (f1 1))])) _
    refine XS.isub X_3.here hx rfl (hb hby d1_56) rfl ?_
    show Steps p.tables e below (T_3.setTop (mkF m 57 #[.val (.ref a1), .val (.int (2 : Int32)), .val (.ref b_3), .val (.int (1 : Int32)), .val (.int (f1 1)), .unset] [(.int (1 : Int32)), (.int (f1 1))])) _
    refine XS.icmpYes X_3.here hx rfl (pc0 := 57) (pc' := 80) rfl (hb hby d1_57) rfl (flt (hy1 : ¬ ((1 : Int32) < (f1 1)))).2.2.2 (by decide) (by decide) ?_
    show Steps p.tables e below (T_3.setTop (mkF m 80 #[.val (.ref a1), .val (.int (2 : Int32)), .val (.ref b_3), .val (.int (1 : Int32)), .val (.int (f1 1)), .unset] [])) _
    refine XS.iload X_3.here hx rfl (hb hby d1_80) rfl ?_
    show Steps p.tables e below (T_3.setTop (mkF m 82 #[.val (.ref a1), .val (.int (2 : Int32)), .val (.ref b_3), .val (.int (1 : Int32)), .val (.int (f1 1)), .unset] [(.int (f1 1))])) _
    refine XS.iconst X_3.here hx rfl (hb hby d1_82) ?_
    show Steps p.tables e below (T_3.setTop (mkF m 83 #[.val (.ref a1), .val (.int (2 : Int32)), .val (.ref b_3), .val (.int (1 : Int32)), .val (.int (f1 1)), .unset] [(.int (1 : Int32)), (.int (f1 1))])) _
    refine XS.isub X_3.here hx rfl (hb hby d1_83) rfl ?_
    show Steps p.tables e below (T_3.setTop (mkF m 84 #[.val (.ref a1), .val (.int (2 : Int32)), .val (.ref b_3), .val (.int (1 : Int32)), .val (.int (f1 1)), .unset] [(.int ((f1 1) - (1 : Int32)))])) _
    refine XS.istore X_3.here hx rfl (hb hby d1_84) rfl (l' := #[.val (.ref a1), .val (.int (2 : Int32)), .val (.ref b_3), .val (.int (1 : Int32)), .val (.int (f1 1)), .val (.int ((f1 1) - (1 : Int32)))]) rfl ?_
    exact k
  have loopI : ∀ (i p4 : Int32) (iN : Nat), i.toInt = iN → ∀ (j : Nat) (jv : Int32) (T : State) (h : Heap) (locs : List Loc) (f : Nat → Int32), jv.toInt = (j : Int) - 1 → iN + j ≤ 2 → Stand p l e ({ frames := 0, cells := 1, slots := 2, locals := 0 } : Room) s m #[(.ref a1)] below meth c T locs (0 + 1) (0 + 2) → T.heap = h → own_arr .int Z h b_3 2 f → ∃ (T' : State) (h' : Heap) (locs' : List Loc) (jv' : Int32), Stand p l e ({ frames := 0, cells := 1, slots := 2, locals := 0 } : Room) s m #[(.ref a1)] below meth c T' locs' (0 + 1) (0 + 2) ∧ T'.heap = h' ∧ (∀ k0, k0 ≤ b_3 → Fr k0 locs → Fr k0 locs') ∧ Keep h h' [b_3] ∧ own_arr .int Z h' b_3 2 (own_inner iN j f) ∧ ∀ t, Steps p.tables e below (T'.setTop (mkF m 116 #[.val (.ref a1), .val (.int (2 : Int32)), .val (.ref b_3), .val (.int i), .val (.int p4), .val (.int jv')] [])) t → Steps p.tables e below (T.setTop (mkF m 86 #[.val (.ref a1), .val (.int (2 : Int32)), .val (.ref b_3), .val (.int i), .val (.int p4), .val (.int jv)] [])) t := by
    intro i p4 iN hi j
    induction j with
    | zero =>
      intro jv T h locs f hj hle X eh F
      have hneg : jv < (0 : Int32) := own_neg hj
      have pid : ∀ t, Steps p.tables e below (T.setTop (mkF m 86 #[.val (.ref a1), .val (.int (2 : Int32)), .val (.ref b_3), .val (.int i), .val (.int p4), .val (.int jv)] [])) t → Steps p.tables e below (T.setTop (mkF m 86 #[.val (.ref a1), .val (.int (2 : Int32)), .val (.ref b_3), .val (.int i), .val (.int p4), .val (.int jv)] [])) t := fun t k => k
      have pr_6 : ∀ t, Steps p.tables e below (T.setTop (mkF m 116 #[.val (.ref a1), .val (.int (2 : Int32)), .val (.ref b_3), .val (.int i), .val (.int p4), .val (.int jv)] [])) t → Steps p.tables e below (T.setTop (mkF m 86 #[.val (.ref a1), .val (.int (2 : Int32)), .val (.ref b_3), .val (.int i), .val (.int p4), .val (.int jv)] [])) t := fun t k => by
        refine pid _ ?_
        show Steps p.tables e below (T.setTop (mkF m 86 #[.val (.ref a1), .val (.int (2 : Int32)), .val (.ref b_3), .val (.int i), .val (.int p4), .val (.int jv)] [])) _
        refine XS.iload X.here hx rfl (hb hby d1_86) rfl ?_
        show Steps p.tables e below (T.setTop (mkF m 88 #[.val (.ref a1), .val (.int (2 : Int32)), .val (.ref b_3), .val (.int i), .val (.int p4), .val (.int jv)] [(.int jv)])) _
        refine XS.ifYes X.here hx rfl (pc0 := 88) (pc' := 116) rfl (hb hby d1_88) rfl ((if0 _ _).trans (tlt hneg).1) (by decide) (by decide) ?_
        exact k
      exact ⟨T, h, locs, jv, X, eh, fun _ _ q => q, Keep.refl _ _, F, pr_6⟩
    | succ j ih =>
      intro jv T h locs f hj hle X eh F
      obtain rfl : jv = Int32.ofNat j := own_jv hj (by omega)
      have hpos : ¬ (Int32.ofNat j < (0 : Int32)) := own_nn (by omega)
      have hix : (i + (Int32.ofNat j)).toNatClampNeg = iN + j := own_ix hi (by omega)
      have hin : ¬ ((i + (Int32.ofNat j)) < 0 ∨ 2 ≤ (i + (Int32.ofNat j)).toNatClampNeg) := by rw [hix, Int32.lt_iff_toInt_lt, own_sum hi (by omega), own_k0]; omega
      have pid : ∀ t, Steps p.tables e below (T.setTop (mkF m 86 #[.val (.ref a1), .val (.int (2 : Int32)), .val (.ref b_3), .val (.int i), .val (.int p4), .val (.int (Int32.ofNat j))] [])) t → Steps p.tables e below (T.setTop (mkF m 86 #[.val (.ref a1), .val (.int (2 : Int32)), .val (.ref b_3), .val (.int i), .val (.int p4), .val (.int (Int32.ofNat j))] [])) t := fun t k => k
      have fo_7 := F
      obtain ⟨cl_7, Ar_7, Sz_7, At_7⟩ := fo_7
      have pr_8 : ∀ t, Steps p.tables e below (T.setTop (mkF m 97 #[.val (.ref a1), .val (.int (2 : Int32)), .val (.ref b_3), .val (.int i), .val (.int p4), .val (.int (Int32.ofNat j))] [(.int (f (iN + j)))])) t → Steps p.tables e below (T.setTop (mkF m 86 #[.val (.ref a1), .val (.int (2 : Int32)), .val (.ref b_3), .val (.int i), .val (.int p4), .val (.int (Int32.ofNat j))] [])) t := fun t k => by
        refine pid _ ?_
        show Steps p.tables e below (T.setTop (mkF m 86 #[.val (.ref a1), .val (.int (2 : Int32)), .val (.ref b_3), .val (.int i), .val (.int p4), .val (.int (Int32.ofNat j))] [])) _
        refine XS.iload X.here hx rfl (hb hby d1_86) rfl ?_
        show Steps p.tables e below (T.setTop (mkF m 88 #[.val (.ref a1), .val (.int (2 : Int32)), .val (.ref b_3), .val (.int i), .val (.int p4), .val (.int (Int32.ofNat j))] [(.int (Int32.ofNat j))])) _
        refine XS.ifNo X.here hx rfl (hb hby d1_88) rfl ((if0 _ _).trans (flt hpos).1) ?_
        show Steps p.tables e below (T.setTop (mkF m 91 #[.val (.ref a1), .val (.int (2 : Int32)), .val (.ref b_3), .val (.int i), .val (.int p4), .val (.int (Int32.ofNat j))] [])) _
        refine XS.aloadN X.here hx rfl (hb hby d1_91) rfl rfl ?_
        show Steps p.tables e below (T.setTop (mkF m 92 #[.val (.ref a1), .val (.int (2 : Int32)), .val (.ref b_3), .val (.int i), .val (.int p4), .val (.int (Int32.ofNat j))] [(.ref b_3)])) _
        refine XS.iloadN X.here hx rfl (hb hby d1_92) rfl ?_
        show Steps p.tables e below (T.setTop (mkF m 93 #[.val (.ref a1), .val (.int (2 : Int32)), .val (.ref b_3), .val (.int i), .val (.int p4), .val (.int (Int32.ofNat j))] [(.int i), (.ref b_3)])) _
        refine XS.iload X.here hx rfl (hb hby d1_93) rfl ?_
        show Steps p.tables e below (T.setTop (mkF m 95 #[.val (.ref a1), .val (.int (2 : Int32)), .val (.ref b_3), .val (.int i), .val (.int p4), .val (.int (Int32.ofNat j))] [(.int (Int32.ofNat j)), (.int i), (.ref b_3)])) _
        refine XS.iadd X.here hx rfl (hb hby d1_95) rfl ?_
        show Steps p.tables e below (T.setTop (mkF m 96 #[.val (.ref a1), .val (.int (2 : Int32)), .val (.ref b_3), .val (.int i), .val (.int p4), .val (.int (Int32.ofNat j))] [(.int (i + (Int32.ofNat j))), (.ref b_3)])) _
        refine X.iaload hx (j := (i + (Int32.ofNat j))) (v := (.int (f (iN + j)))) (by rw [eh]; exact Ar_7.1) (State.isArrayOf_alike hZ.alike Ar_7.2.1) Ar_7.2.2 (own_inb Sz_7 hin) (by rw [hix]; exact At_7 _ (by omega)) (g := (mkF m 96 #[.val (.ref a1), .val (.int (2 : Int32)), .val (.ref b_3), .val (.int i), .val (.int p4), .val (.int (Int32.ofNat j))] [(.int (i + (Int32.ofNat j))), (.ref b_3)])) rfl rfl (hb hby d1_96) _ ?_
        exact k
      by_cases hc_9 : (f (iN + j)) = (0 : Int32)
      · have fo_10 := F
        obtain ⟨cl_10, Ar_10, Sz_10, At_10⟩ := fo_10
        obtain ⟨T_10, h_10, X_10, e_10, W_10, st_10⟩ := stI X hx hZ eh Ar_10 (j := (i + (Int32.ofNat j))) (own_inb Sz_10 hin) (g := (mkF m 109 #[.val (.ref a1), .val (.int (2 : Int32)), .val (.ref b_3), .val (.int i), .val (.int p4), .val (.int (Int32.ofNat j))] [(.int ((Int32.ofNat j) + (1 : Int32))), (.int (i + (Int32.ofNat j))), (.ref b_3)])) rfl rfl (hb hby d1_109)
        rw [hix] at W_10
        have fw_10 : own_arr .int Z h_10 b_3 2 (own_upd f (iN + j) ((Int32.ofNat j) + (1 : Int32))) := own_arr.set Ar_10 Sz_10 At_10 W_10
        have pr_11 : ∀ t, Steps p.tables e below (T_10.setTop (mkF m 86 #[.val (.ref a1), .val (.int (2 : Int32)), .val (.ref b_3), .val (.int i), .val (.int p4), .val (.int ((Int32.ofNat j) + (-1 : Int32)))] [])) t → Steps p.tables e below (T.setTop (mkF m 86 #[.val (.ref a1), .val (.int (2 : Int32)), .val (.ref b_3), .val (.int i), .val (.int p4), .val (.int (Int32.ofNat j))] [])) t := fun t k => by
          refine pr_8 _ ?_
          show Steps p.tables e below (T.setTop (mkF m 97 #[.val (.ref a1), .val (.int (2 : Int32)), .val (.ref b_3), .val (.int i), .val (.int p4), .val (.int (Int32.ofNat j))] [(.int (f (iN + j)))])) _
          refine XS.ifNo X.here hx rfl (hb hby d1_97) rfl ((if0 _ _).trans (teq hc_9).2) ?_
          show Steps p.tables e below (T.setTop (mkF m 100 #[.val (.ref a1), .val (.int (2 : Int32)), .val (.ref b_3), .val (.int i), .val (.int p4), .val (.int (Int32.ofNat j))] [])) _
          refine XS.aloadN X.here hx rfl (hb hby d1_100) rfl rfl ?_
          show Steps p.tables e below (T.setTop (mkF m 101 #[.val (.ref a1), .val (.int (2 : Int32)), .val (.ref b_3), .val (.int i), .val (.int p4), .val (.int (Int32.ofNat j))] [(.ref b_3)])) _
          refine XS.iloadN X.here hx rfl (hb hby d1_101) rfl ?_
          show Steps p.tables e below (T.setTop (mkF m 102 #[.val (.ref a1), .val (.int (2 : Int32)), .val (.ref b_3), .val (.int i), .val (.int p4), .val (.int (Int32.ofNat j))] [(.int i), (.ref b_3)])) _
          refine XS.iload X.here hx rfl (hb hby d1_102) rfl ?_
          show Steps p.tables e below (T.setTop (mkF m 104 #[.val (.ref a1), .val (.int (2 : Int32)), .val (.ref b_3), .val (.int i), .val (.int p4), .val (.int (Int32.ofNat j))] [(.int (Int32.ofNat j)), (.int i), (.ref b_3)])) _
          refine XS.iadd X.here hx rfl (hb hby d1_104) rfl ?_
          show Steps p.tables e below (T.setTop (mkF m 105 #[.val (.ref a1), .val (.int (2 : Int32)), .val (.ref b_3), .val (.int i), .val (.int p4), .val (.int (Int32.ofNat j))] [(.int (i + (Int32.ofNat j))), (.ref b_3)])) _
          refine XS.iload X.here hx rfl (hb hby d1_105) rfl ?_
          show Steps p.tables e below (T.setTop (mkF m 107 #[.val (.ref a1), .val (.int (2 : Int32)), .val (.ref b_3), .val (.int i), .val (.int p4), .val (.int (Int32.ofNat j))] [(.int (Int32.ofNat j)), (.int (i + (Int32.ofNat j))), (.ref b_3)])) _
          refine XS.iconst X.here hx rfl (hb hby d1_107) ?_
          show Steps p.tables e below (T.setTop (mkF m 108 #[.val (.ref a1), .val (.int (2 : Int32)), .val (.ref b_3), .val (.int i), .val (.int p4), .val (.int (Int32.ofNat j))] [(.int (1 : Int32)), (.int (Int32.ofNat j)), (.int (i + (Int32.ofNat j))), (.ref b_3)])) _
          refine XS.iadd X.here hx rfl (hb hby d1_108) rfl ?_
          show Steps p.tables e below (T.setTop (mkF m 109 #[.val (.ref a1), .val (.int (2 : Int32)), .val (.ref b_3), .val (.int i), .val (.int p4), .val (.int (Int32.ofNat j))] [(.int ((Int32.ofNat j) + (1 : Int32))), (.int (i + (Int32.ofNat j))), (.ref b_3)])) _
          refine st_10 _ ?_
          show Steps p.tables e below (T_10.setTop (mkF m 110 #[.val (.ref a1), .val (.int (2 : Int32)), .val (.ref b_3), .val (.int i), .val (.int p4), .val (.int (Int32.ofNat j))] [])) _
          refine XS.iinc X_10.here hx rfl (hb hby d1_110) rfl (l' := #[.val (.ref a1), .val (.int (2 : Int32)), .val (.ref b_3), .val (.int i), .val (.int p4), .val (.int ((Int32.ofNat j) + (-1 : Int32)))]) rfl ?_
          show Steps p.tables e below (T_10.setTop (mkF m 113 #[.val (.ref a1), .val (.int (2 : Int32)), .val (.ref b_3), .val (.int i), .val (.int p4), .val (.int ((Int32.ofNat j) + (-1 : Int32)))] [])) _
          refine XS.goto X_10.here hx rfl (pc0 := 113) (pc' := 86) rfl (hb hby d1_113) (by decide) (by decide) ?_
          exact k
        obtain ⟨T', h', locs', jv', X', eh', hFr, K', F', st'⟩ := ih (((Int32.ofNat j) + (-1 : Int32))) T_10 h_10 _ (own_upd f (iN + j) ((Int32.ofNat j) + (1 : Int32))) (own_dec (by omega)) (by omega) X_10 e_10 fw_10
        exact ⟨T', h', locs', jv', X', eh', fun k0 hk q => hFr k0 hk (Fr.snoc X_10 q hk), (Keep.of_wr W_10).trans K' (fun x hx => Or.inl hx), by rw [own_inner, if_pos hc_9]; exact F', fun t k => pr_11 t (st' t k)⟩
      · have pr_12 : ∀ t, Steps p.tables e below (T.setTop (mkF m 116 #[.val (.ref a1), .val (.int (2 : Int32)), .val (.ref b_3), .val (.int i), .val (.int p4), .val (.int (Int32.ofNat j))] [])) t → Steps p.tables e below (T.setTop (mkF m 86 #[.val (.ref a1), .val (.int (2 : Int32)), .val (.ref b_3), .val (.int i), .val (.int p4), .val (.int (Int32.ofNat j))] [])) t := fun t k => by
          refine pr_8 _ ?_
          show Steps p.tables e below (T.setTop (mkF m 97 #[.val (.ref a1), .val (.int (2 : Int32)), .val (.ref b_3), .val (.int i), .val (.int p4), .val (.int (Int32.ofNat j))] [(.int (f (iN + j)))])) _
          refine XS.ifYes X.here hx rfl (pc0 := 97) (pc' := 116) rfl (hb hby d1_97) rfl ((if0 _ _).trans (feq hc_9).2) (by decide) (by decide) ?_
          exact k
        exact ⟨T, h, locs, Int32.ofNat j, X, eh, fun _ _ q => q, Keep.refl _ _, by rw [own_inner, if_neg hc_9]; exact F, pr_12⟩
  obtain ⟨T_13, h_13, L_13, jv_13, X_13, e_13, hFr_13, Kc_13, F_13, st_13⟩ := loopI (1 : Int32) (f1 1) 1 rfl ((f1 1)).toNatClampNeg (((f1 1) - (1 : Int32))) T_3 h_3 _ (fun _ => 0) (own_start hz1) (own_bound hz1 hy1 (n := 2) rfl rfl (by decide) (by decide)) X_3 e_3 fa_3
  have N_13 := hFr_13 n0 g_b_3 N0
  have f_13_0 : own_arr .int Z h_13 a1 2 f1 := f_3_0.keep Kc_13 (by simp [ne_a1_b_3])
  have Z_13 : n0 ≤ h_13.size := Nat.le_trans Z_3 Kc_13.1
  have K_13 : Keep h0 h_13 [] := K_3.trans Kc_13 (fun x hx => by cases List.mem_singleton.mp hx; exact Or.inr sz_b_3)
  obtain ⟨fs, hr, hrun, hended, hW, hsame⟩ := X_13.leave (v := some (.ref b_3)) (fun h => by rw [Bd.returns] at h; cases h)
  refine ⟨_, _, pr_5 _ ?_, hrun, hended, _, _, rfl, ?_, ⟨_, rfl⟩, hW, hsame.mono (by decide) (by decide)⟩
  · show Steps p.tables e below (T_3.setTop (mkF m 86 #[.val (.ref a1), .val (.int (2 : Int32)), .val (.ref b_3), .val (.int (1 : Int32)), .val (.int (f1 1)), .val (.int ((f1 1) - (1 : Int32)))] [])) _
    refine st_13 _ ?_
    show Steps p.tables e below (T_13.setTop (mkF m 116 #[.val (.ref a1), .val (.int (2 : Int32)), .val (.ref b_3), .val (.int (1 : Int32)), .val (.int (f1 1)), .val (.int jv_13)] [])) _
    refine XS.iinc X_13.here hx rfl (hb hby d1_116) rfl (l' := #[.val (.ref a1), .val (.int (2 : Int32)), .val (.ref b_3), .val (.int (2 : Int32)), .val (.int (f1 1)), .val (.int jv_13)]) rfl ?_
    show Steps p.tables e below (T_13.setTop (mkF m 119 #[.val (.ref a1), .val (.int (2 : Int32)), .val (.ref b_3), .val (.int (2 : Int32)), .val (.int (f1 1)), .val (.int jv_13)] [])) _
    refine XS.goto X_13.here hx rfl (pc0 := 119) (pc' := 37) rfl (hb hby d1_119) (by decide) (by decide) ?_
    show Steps p.tables e below (T_13.setTop (mkF m 37 #[.val (.ref a1), .val (.int (2 : Int32)), .val (.ref b_3), .val (.int (2 : Int32)), .val (.int (f1 1)), .val (.int jv_13)] [])) _
    refine XS.iloadN X_13.here hx rfl (hb hby d1_37) rfl ?_
    show Steps p.tables e below (T_13.setTop (mkF m 38 #[.val (.ref a1), .val (.int (2 : Int32)), .val (.ref b_3), .val (.int (2 : Int32)), .val (.int (f1 1)), .val (.int jv_13)] [(.int (2 : Int32))])) _
    refine XS.iloadN X_13.here hx rfl (hb hby d1_38) rfl ?_
    show Steps p.tables e below (T_13.setTop (mkF m 39 #[.val (.ref a1), .val (.int (2 : Int32)), .val (.ref b_3), .val (.int (2 : Int32)), .val (.int (f1 1)), .val (.int jv_13)] [(.int (2 : Int32)), (.int (2 : Int32))])) _
    refine XS.icmpYes X_13.here hx rfl (pc0 := 39) (pc' := 122) rfl (hb hby d1_39) rfl (flt (by decide : ¬ ((2 : Int32) < (2 : Int32)))).2.1 (by decide) (by decide) ?_
    show Steps p.tables e below (T_13.setTop (mkF m 122 #[.val (.ref a1), .val (.int (2 : Int32)), .val (.ref b_3), .val (.int (2 : Int32)), .val (.int (f1 1)), .val (.int jv_13)] [])) _
    refine XS.aloadN X_13.here hx rfl (hb hby d1_122) rfl rfl ?_
    show Steps p.tables e below (T_13.setTop (mkF m 123 #[.val (.ref a1), .val (.int (2 : Int32)), .val (.ref b_3), .val (.int (2 : Int32)), .val (.int (f1 1)), .val (.int jv_13)] [(.ref b_3)])) _
    exact retOut X_13 hx Bd.returns rfl (Or.inr (Or.inr (Or.inr (Or.inr ⟨rfl, rfl, rfl⟩)))) (hb hby d1_123) hr
  · show Q1_2 Z a1 f1 h0 n0 _ T_13.heap _
    rw [e_13]
    exact ⟨b_3, rfl, N_13, K_13, F_13⟩
def Q1_3 (Z : State) (a1 : Addr) (f1 : Nat → Int32) (h0 : Heap) (n0 : Nat) (v : Option Value) (h : Heap) (L : List Loc) : Prop := ∃ r, v = some (.ref r) ∧ Fr n0 L ∧ Keep h0 h [] ∧ own_arr .int Z h r 3 (own_out 3 f1)
set_option maxRecDepth 65536 in
set_option maxHeartbeats 40000000 in
theorem rm1_3 (l : Launch) (Z : State) (a0 : Array Value) (hw : ∀ d ∈ tables_1, d.before a0 Z = true) (ws : List Jvm.Cond) (a1 : Addr) (f1 : Nat → Int32) (h0 : Heap) (n0 : Nat) (Z0 : n0 ≤ h0.size) (F0 : own_arr .int Z h0 a1 3 f1) (hz0 : f1 0 = (3 : Int32)) (hz1 : ¬ ((f1 1) < (0 : Int32))) (hy1 : ¬ (((3 : Int32) - (1 : Int32)) < (f1 1))) (hz2 : ¬ ((f1 2) < (0 : Int32))) (hy2 : ¬ (((3 : Int32) - (2 : Int32)) < (f1 2))) :
    MetFree l (⟨"com/example/borderwork/borderwork/zarrays/ZArrays", "toBorderArray", "([I)[I"⟩ : MethodName) (head1 (Jvm.Cond.code (⟨"com/example/borderwork/borderwork/zarrays/ZArrays", "toBorderArray", "([I)[I"⟩ : MethodName) prog_20_method_8_code 6 (some (.array .int)) :: ws) ({ frames := 0, cells := 1, slots := 3, locals := 0 } : Room)) (fun a U => a = #[(.ref a1)] ∧ Z.Warmed39 U.vm ∧ U.heap = h0) (fun _ _ _ _ _ => True) (fun _ U o U' => ∃ v L, o = .returned v ∧ Q1_3 Z a1 f1 h0 n0 v U'.heap L ∧ FrameEnd U o U' L ({ frames := 0, cells := 1, slots := 3, locals := 0 } : Room).cells ({ frames := 0, cells := 1, slots := 3, locals := 0 } : Room).slots) := by
  refine MetFree.of_bodySF (plainFor_of_name pn_1) hisR ?_
  intro p e s m args below meth c s₁ Bd hml0 hP hK
  obtain ⟨rfl, hZ, hh⟩ := hP
  have hx := Bd.exec
  have hby := Bd.bytes
  have hml : c.maxLocals = 6 := hml0
  have hown : s.vm.findClass "com/example/borderwork/borderwork/zarrays/ZArrays" = some m.cls := findClass_of_methodNamed Bd.named
  have hnm := (name_of_methodNamed Bd.named Bd.method).1
  have X0 : Stand p l e ({ frames := 0, cells := 1, slots := 3, locals := 0 } : Room) s m #[(.ref a1)] below meth c s₁ [] 0 0 := Stand.of_body Bd
  have e0 : s₁.heap = h0 := by rw [← hh, Bd.state]; rfl
  have N0 := Fr.nil n0
  have pre0 : ∀ t, Steps p.tables e below (s₁.setTop (mkF m 0 #[.val (.ref a1), .unset, .unset, .unset, .unset, .unset] [])) t → Steps p.tables e below (s₁.setTop (entryFrame m #[(.ref a1)] 6)) t := fun t k => castTop (ef_1_R m a1) k
  have fo_2 := F0
  obtain ⟨cl_2, Ar_2, Sz_2, At_2⟩ := fo_2
  obtain ⟨T_3, h_3, k_3, X_3, e_3, E_3, A_3, st_3⟩ := newP X0 hx hZ (hw _ (List.mem_of_getElem? (i := 1) rfl)) e0 (g := (mkF m 32 #[.val (.ref a1), .val (.int (3 : Int32)), .unset, .unset, .unset, .unset] [(.int (3 : Int32))])) rfl (hb hby d1_32) rfl (by decide) (cap := 3) (by decide) (by decide) (by decide) (by decide)
  obtain ⟨b_3, g_3⟩ : ∃ z, z = h0.size := ⟨_, rfl⟩
  rw [← g_3] at A_3 st_3
  have ne_a1_b_3 : a1 ≠ b_3 := Nat.ne_of_lt (Nat.lt_of_lt_of_le F0.lt (Nat.le_of_eq g_3.symm))
  have g_b_3 : n0 ≤ b_3 := Nat.le_trans Z0 (Nat.le_of_eq g_3.symm)
  have sz_b_3 : h0.size ≤ b_3 := Nat.le_trans ((Keep.refl h0 [])).1 (Nat.le_of_eq g_3.symm)
  have f_3_0 : own_arr .int Z h_3 a1 3 f1 := F0.ext E_3
  have Z_3 : n0 ≤ h_3.size := Nat.le_trans Z0 E_3.1
  have K_3 : Keep h0 h_3 [] := (Keep.refl h0 []).ext E_3
  have fa_3 : own_arr .int Z h_3 b_3 3 (fun _ => 0) := own_arr.newI A_3 rfl
  have fo_4 := f_3_0
  obtain ⟨cl_4, Ar_4, Sz_4, At_4⟩ := fo_4
  have pr_5 : ∀ t, Steps p.tables e below (T_3.setTop (mkF m 86 #[.val (.ref a1), .val (.int (3 : Int32)), .val (.ref b_3), .val (.int (1 : Int32)), .val (.int (f1 1)), .val (.int ((f1 1) - (1 : Int32)))] [])) t → Steps p.tables e below (s₁.setTop (entryFrame m #[(.ref a1)] 6)) t := fun t k => by
    refine pre0 _ ?_
    show Steps p.tables e below (s₁.setTop (mkF m 0 #[.val (.ref a1), .unset, .unset, .unset, .unset, .unset] [])) _
    refine XS.aloadN X0.here hx rfl (hb hby d1_0) rfl rfl ?_
    show Steps p.tables e below (s₁.setTop (mkF m 1 #[.val (.ref a1), .unset, .unset, .unset, .unset, .unset] [(.ref a1)])) _
    refine X0.arraylength hx (by rw [e0]; exact Ar_2.1) (State.isArrayOf_alike hZ.alike Ar_2.2.1) (g := (mkF m 1 #[.val (.ref a1), .unset, .unset, .unset, .unset, .unset] [(.ref a1)])) rfl rfl (hb hby d1_1) _ ?_
    rw [Sz_2]
    show Steps p.tables e below (s₁.setTop (mkF m 2 #[.val (.ref a1), .unset, .unset, .unset, .unset, .unset] [(.int (3 : Int32))])) _
    refine XS.istoreN X0.here hx rfl (hb hby d1_2) rfl (l' := #[.val (.ref a1), .val (.int (3 : Int32)), .unset, .unset, .unset, .unset]) rfl ?_
    show Steps p.tables e below (s₁.setTop (mkF m 3 #[.val (.ref a1), .val (.int (3 : Int32)), .unset, .unset, .unset, .unset] [])) _
    refine XS.iloadN X0.here hx rfl (hb hby d1_3) rfl ?_
    show Steps p.tables e below (s₁.setTop (mkF m 4 #[.val (.ref a1), .val (.int (3 : Int32)), .unset, .unset, .unset, .unset] [(.int (3 : Int32))])) _
    refine XS.ifNo X0.here hx rfl (hb hby d1_4) rfl ((if0 _ _).trans (tlt (by decide : (0 : Int32) < (3 : Int32))).2.2.2) ?_
    show Steps p.tables e below (s₁.setTop (mkF m 7 #[.val (.ref a1), .val (.int (3 : Int32)), .unset, .unset, .unset, .unset] [])) _
    refine XS.aloadN X0.here hx rfl (hb hby d1_7) rfl rfl ?_
    show Steps p.tables e below (s₁.setTop (mkF m 8 #[.val (.ref a1), .val (.int (3 : Int32)), .unset, .unset, .unset, .unset] [(.ref a1)])) _
    refine XS.iconst X0.here hx rfl (hb hby d1_8) ?_
    show Steps p.tables e below (s₁.setTop (mkF m 9 #[.val (.ref a1), .val (.int (3 : Int32)), .unset, .unset, .unset, .unset] [(.int (0 : Int32)), (.ref a1)])) _
    refine X0.iaload hx (j := (0 : Int32)) (v := (.int (f1 0))) (by rw [e0]; exact Ar_2.1) (State.isArrayOf_alike hZ.alike Ar_2.2.1) Ar_2.2.2 (own_inb Sz_2 (show ¬ ((0 : Int32) < 0 ∨ 3 ≤ ((0 : Int32)).toNatClampNeg) from (by decide))) (by have q := At_2 _ (own_ltn (show ¬ ((0 : Int32) < 0 ∨ 3 ≤ ((0 : Int32)).toNatClampNeg) from (by decide))); rw [show ((0 : Int32)).toNatClampNeg = 0 from by decide] at q ⊢; exact q) (g := (mkF m 9 #[.val (.ref a1), .val (.int (3 : Int32)), .unset, .unset, .unset, .unset] [(.int (0 : Int32)), (.ref a1)])) rfl rfl (hb hby d1_9) _ ?_
    show Steps p.tables e below (s₁.setTop (mkF m 10 #[.val (.ref a1), .val (.int (3 : Int32)), .unset, .unset, .unset, .unset] [(.int (f1 0))])) _
    refine XS.iloadN X0.here hx rfl (hb hby d1_10) rfl ?_
    show Steps p.tables e below (s₁.setTop (mkF m 11 #[.val (.ref a1), .val (.int (3 : Int32)), .unset, .unset, .unset, .unset] [(.int (3 : Int32)), (.int (f1 0))])) _
    refine XS.icmpYes X0.here hx rfl (pc0 := 11) (pc' := 31) rfl (hb hby d1_11) rfl (teq (hz0 : (f1 0) = (3 : Int32))).1 (by decide) (by decide) ?_
    show Steps p.tables e below (s₁.setTop (mkF m 31 #[.val (.ref a1), .val (.int (3 : Int32)), .unset, .unset, .unset, .unset] [])) _
    refine XS.iloadN X0.here hx rfl (hb hby d1_31) rfl ?_
    show Steps p.tables e below (s₁.setTop (mkF m 32 #[.val (.ref a1), .val (.int (3 : Int32)), .unset, .unset, .unset, .unset] [(.int (3 : Int32))])) _
    refine st_3 _ ?_
    show Steps p.tables e below (T_3.setTop (mkF m 34 #[.val (.ref a1), .val (.int (3 : Int32)), .unset, .unset, .unset, .unset] [(.ref b_3)])) _
    refine XS.astoreN X_3.here hx rfl (hb hby d1_34) rfl rfl (l' := #[.val (.ref a1), .val (.int (3 : Int32)), .val (.ref b_3), .unset, .unset, .unset]) rfl ?_
    show Steps p.tables e below (T_3.setTop (mkF m 35 #[.val (.ref a1), .val (.int (3 : Int32)), .val (.ref b_3), .unset, .unset, .unset] [])) _
    refine XS.iconst X_3.here hx rfl (hb hby d1_35) ?_
    show Steps p.tables e below (T_3.setTop (mkF m 36 #[.val (.ref a1), .val (.int (3 : Int32)), .val (.ref b_3), .unset, .unset, .unset] [(.int (1 : Int32))])) _
    refine XS.istoreN X_3.here hx rfl (hb hby d1_36) rfl (l' := #[.val (.ref a1), .val (.int (3 : Int32)), .val (.ref b_3), .val (.int (1 : Int32)), .unset, .unset]) rfl ?_
    show Steps p.tables e below (T_3.setTop (mkF m 37 #[.val (.ref a1), .val (.int (3 : Int32)), .val (.ref b_3), .val (.int (1 : Int32)), .unset, .unset] [])) _
    refine XS.iloadN X_3.here hx rfl (hb hby d1_37) rfl ?_
    show Steps p.tables e below (T_3.setTop (mkF m 38 #[.val (.ref a1), .val (.int (3 : Int32)), .val (.ref b_3), .val (.int (1 : Int32)), .unset, .unset] [(.int (1 : Int32))])) _
    refine XS.iloadN X_3.here hx rfl (hb hby d1_38) rfl ?_
    show Steps p.tables e below (T_3.setTop (mkF m 39 #[.val (.ref a1), .val (.int (3 : Int32)), .val (.ref b_3), .val (.int (1 : Int32)), .unset, .unset] [(.int (3 : Int32)), (.int (1 : Int32))])) _
    refine XS.icmpNo X_3.here hx rfl (hb hby d1_39) rfl (tlt (by decide : (1 : Int32) < (3 : Int32))).2.1 ?_
    show Steps p.tables e below (T_3.setTop (mkF m 42 #[.val (.ref a1), .val (.int (3 : Int32)), .val (.ref b_3), .val (.int (1 : Int32)), .unset, .unset] [])) _
    refine XS.aloadN X_3.here hx rfl (hb hby d1_42) rfl rfl ?_
    show Steps p.tables e below (T_3.setTop (mkF m 43 #[.val (.ref a1), .val (.int (3 : Int32)), .val (.ref b_3), .val (.int (1 : Int32)), .unset, .unset] [(.ref a1)])) _
    refine XS.iloadN X_3.here hx rfl (hb hby d1_43) rfl ?_
    show Steps p.tables e below (T_3.setTop (mkF m 44 #[.val (.ref a1), .val (.int (3 : Int32)), .val (.ref b_3), .val (.int (1 : Int32)), .unset, .unset] [(.int (1 : Int32)), (.ref a1)])) _
    refine X_3.iaload hx (j := (1 : Int32)) (v := (.int (f1 1))) (by rw [e_3]; exact Ar_4.1) (State.isArrayOf_alike hZ.alike Ar_4.2.1) Ar_4.2.2 (own_inb Sz_4 (show ¬ ((1 : Int32) < 0 ∨ 3 ≤ ((1 : Int32)).toNatClampNeg) from (by decide))) (by have q := At_4 _ (own_ltn (show ¬ ((1 : Int32) < 0 ∨ 3 ≤ ((1 : Int32)).toNatClampNeg) from (by decide))); rw [show ((1 : Int32)).toNatClampNeg = 1 from by decide] at q ⊢; exact q) (g := (mkF m 44 #[.val (.ref a1), .val (.int (3 : Int32)), .val (.ref b_3), .val (.int (1 : Int32)), .unset, .unset] [(.int (1 : Int32)), (.ref a1)])) rfl rfl (hb hby d1_44) _ ?_
    show Steps p.tables e below (T_3.setTop (mkF m 45 #[.val (.ref a1), .val (.int (3 : Int32)), .val (.ref b_3), .val (.int (1 : Int32)), .unset, .unset] [(.int (f1 1))])) _
    refine XS.istore X_3.here hx rfl (hb hby d1_45) rfl (l' := #[.val (.ref a1), .val (.int (3 : Int32)), .val (.ref b_3), .val (.int (1 : Int32)), .val (.int (f1 1)), .unset]) rfl ?_
    show Steps p.tables e below (T_3.setTop (mkF m 47 #[.val (.ref a1), .val (.int (3 : Int32)), .val (.ref b_3), .val (.int (1 : Int32)), .val (.int (f1 1)), .unset] [])) _
    refine XS.iload X_3.here hx rfl (hb hby d1_47) rfl ?_
    show Steps p.tables e below (T_3.setTop (mkF m 49 #[.val (.ref a1), .val (.int (3 : Int32)), .val (.ref b_3), .val (.int (1 : Int32)), .val (.int (f1 1)), .unset] [(.int (f1 1))])) _
    refine XS.ifNo X_3.here hx rfl (hb hby d1_49) rfl ((if0 _ _).trans (flt (hz1 : ¬ ((f1 1) < (0 : Int32)))).1) ?_
    show Steps p.tables e below (T_3.setTop (mkF m 52 #[.val (.ref a1), .val (.int (3 : Int32)), .val (.ref b_3), .val (.int (1 : Int32)), .val (.int (f1 1)), .unset] [])) _
    refine XS.iload X_3.here hx rfl (hb hby d1_52) rfl ?_
    show Steps p.tables e below (T_3.setTop (mkF m 54 #[.val (.ref a1), .val (.int (3 : Int32)), .val (.ref b_3), .val (.int (1 : Int32)), .val (.int (f1 1)), .unset] [(.int (f1 1))])) _
    refine XS.iloadN X_3.here hx rfl (hb hby d1_54) rfl ?_
    show Steps p.tables e below (T_3.setTop (mkF m 55 #[.val (.ref a1), .val (.int (3 : Int32)), .val (.ref b_3), .val (.int (1 : Int32)), .val (.int (f1 1)), .unset] [(.int (3 : Int32)), (.int (f1 1))])) _
    refine XS.iloadN X_3.here hx rfl (hb hby d1_55) rfl ?_
    show Steps p.tables e below (T_3.setTop (mkF m 56 #[.val (.ref a1), .val (.int (3 : Int32)), .val (.ref b_3), .val (.int (1 : Int32)), .val (.int (f1 1)), .unset] [(.int (1 : Int32)), (.int (3 : Int32)), (.int (f1 1))])) _
    refine XS.isub X_3.here hx rfl (hb hby d1_56) rfl ?_
    show Steps p.tables e below (T_3.setTop (mkF m 57 #[.val (.ref a1), .val (.int (3 : Int32)), .val (.ref b_3), .val (.int (1 : Int32)), .val (.int (f1 1)), .unset] [(.int (2 : Int32)), (.int (f1 1))])) _
    refine XS.icmpYes X_3.here hx rfl (pc0 := 57) (pc' := 80) rfl (hb hby d1_57) rfl (flt (hy1 : ¬ ((2 : Int32) < (f1 1)))).2.2.2 (by decide) (by decide) ?_
    show Steps p.tables e below (T_3.setTop (mkF m 80 #[.val (.ref a1), .val (.int (3 : Int32)), .val (.ref b_3), .val (.int (1 : Int32)), .val (.int (f1 1)), .unset] [])) _
    refine XS.iload X_3.here hx rfl (hb hby d1_80) rfl ?_
    show Steps p.tables e below (T_3.setTop (mkF m 82 #[.val (.ref a1), .val (.int (3 : Int32)), .val (.ref b_3), .val (.int (1 : Int32)), .val (.int (f1 1)), .unset] [(.int (f1 1))])) _
    refine XS.iconst X_3.here hx rfl (hb hby d1_82) ?_
    show Steps p.tables e below (T_3.setTop (mkF m 83 #[.val (.ref a1), .val (.int (3 : Int32)), .val (.ref b_3), .val (.int (1 : Int32)), .val (.int (f1 1)), .unset] [(.int (1 : Int32)), (.int (f1 1))])) _
    refine XS.isub X_3.here hx rfl (hb hby d1_83) rfl ?_
    show Steps p.tables e below (T_3.setTop (mkF m 84 #[.val (.ref a1), .val (.int (3 : Int32)), .val (.ref b_3), .val (.int (1 : Int32)), .val (.int (f1 1)), .unset] [(.int ((f1 1) - (1 : Int32)))])) _
    refine XS.istore X_3.here hx rfl (hb hby d1_84) rfl (l' := #[.val (.ref a1), .val (.int (3 : Int32)), .val (.ref b_3), .val (.int (1 : Int32)), .val (.int (f1 1)), .val (.int ((f1 1) - (1 : Int32)))]) rfl ?_
    exact k
  have loopI : ∀ (i p4 : Int32) (iN : Nat), i.toInt = iN → ∀ (j : Nat) (jv : Int32) (T : State) (h : Heap) (locs : List Loc) (f : Nat → Int32), jv.toInt = (j : Int) - 1 → iN + j ≤ 3 → Stand p l e ({ frames := 0, cells := 1, slots := 3, locals := 0 } : Room) s m #[(.ref a1)] below meth c T locs (0 + 1) (0 + 3) → T.heap = h → own_arr .int Z h b_3 3 f → ∃ (T' : State) (h' : Heap) (locs' : List Loc) (jv' : Int32), Stand p l e ({ frames := 0, cells := 1, slots := 3, locals := 0 } : Room) s m #[(.ref a1)] below meth c T' locs' (0 + 1) (0 + 3) ∧ T'.heap = h' ∧ (∀ k0, k0 ≤ b_3 → Fr k0 locs → Fr k0 locs') ∧ Keep h h' [b_3] ∧ own_arr .int Z h' b_3 3 (own_inner iN j f) ∧ ∀ t, Steps p.tables e below (T'.setTop (mkF m 116 #[.val (.ref a1), .val (.int (3 : Int32)), .val (.ref b_3), .val (.int i), .val (.int p4), .val (.int jv')] [])) t → Steps p.tables e below (T.setTop (mkF m 86 #[.val (.ref a1), .val (.int (3 : Int32)), .val (.ref b_3), .val (.int i), .val (.int p4), .val (.int jv)] [])) t := by
    intro i p4 iN hi j
    induction j with
    | zero =>
      intro jv T h locs f hj hle X eh F
      have hneg : jv < (0 : Int32) := own_neg hj
      have pid : ∀ t, Steps p.tables e below (T.setTop (mkF m 86 #[.val (.ref a1), .val (.int (3 : Int32)), .val (.ref b_3), .val (.int i), .val (.int p4), .val (.int jv)] [])) t → Steps p.tables e below (T.setTop (mkF m 86 #[.val (.ref a1), .val (.int (3 : Int32)), .val (.ref b_3), .val (.int i), .val (.int p4), .val (.int jv)] [])) t := fun t k => k
      have pr_6 : ∀ t, Steps p.tables e below (T.setTop (mkF m 116 #[.val (.ref a1), .val (.int (3 : Int32)), .val (.ref b_3), .val (.int i), .val (.int p4), .val (.int jv)] [])) t → Steps p.tables e below (T.setTop (mkF m 86 #[.val (.ref a1), .val (.int (3 : Int32)), .val (.ref b_3), .val (.int i), .val (.int p4), .val (.int jv)] [])) t := fun t k => by
        refine pid _ ?_
        show Steps p.tables e below (T.setTop (mkF m 86 #[.val (.ref a1), .val (.int (3 : Int32)), .val (.ref b_3), .val (.int i), .val (.int p4), .val (.int jv)] [])) _
        refine XS.iload X.here hx rfl (hb hby d1_86) rfl ?_
        show Steps p.tables e below (T.setTop (mkF m 88 #[.val (.ref a1), .val (.int (3 : Int32)), .val (.ref b_3), .val (.int i), .val (.int p4), .val (.int jv)] [(.int jv)])) _
        refine XS.ifYes X.here hx rfl (pc0 := 88) (pc' := 116) rfl (hb hby d1_88) rfl ((if0 _ _).trans (tlt hneg).1) (by decide) (by decide) ?_
        exact k
      exact ⟨T, h, locs, jv, X, eh, fun _ _ q => q, Keep.refl _ _, F, pr_6⟩
    | succ j ih =>
      intro jv T h locs f hj hle X eh F
      obtain rfl : jv = Int32.ofNat j := own_jv hj (by omega)
      have hpos : ¬ (Int32.ofNat j < (0 : Int32)) := own_nn (by omega)
      have hix : (i + (Int32.ofNat j)).toNatClampNeg = iN + j := own_ix hi (by omega)
      have hin : ¬ ((i + (Int32.ofNat j)) < 0 ∨ 3 ≤ (i + (Int32.ofNat j)).toNatClampNeg) := by rw [hix, Int32.lt_iff_toInt_lt, own_sum hi (by omega), own_k0]; omega
      have pid : ∀ t, Steps p.tables e below (T.setTop (mkF m 86 #[.val (.ref a1), .val (.int (3 : Int32)), .val (.ref b_3), .val (.int i), .val (.int p4), .val (.int (Int32.ofNat j))] [])) t → Steps p.tables e below (T.setTop (mkF m 86 #[.val (.ref a1), .val (.int (3 : Int32)), .val (.ref b_3), .val (.int i), .val (.int p4), .val (.int (Int32.ofNat j))] [])) t := fun t k => k
      have fo_7 := F
      obtain ⟨cl_7, Ar_7, Sz_7, At_7⟩ := fo_7
      have pr_8 : ∀ t, Steps p.tables e below (T.setTop (mkF m 97 #[.val (.ref a1), .val (.int (3 : Int32)), .val (.ref b_3), .val (.int i), .val (.int p4), .val (.int (Int32.ofNat j))] [(.int (f (iN + j)))])) t → Steps p.tables e below (T.setTop (mkF m 86 #[.val (.ref a1), .val (.int (3 : Int32)), .val (.ref b_3), .val (.int i), .val (.int p4), .val (.int (Int32.ofNat j))] [])) t := fun t k => by
        refine pid _ ?_
        show Steps p.tables e below (T.setTop (mkF m 86 #[.val (.ref a1), .val (.int (3 : Int32)), .val (.ref b_3), .val (.int i), .val (.int p4), .val (.int (Int32.ofNat j))] [])) _
        refine XS.iload X.here hx rfl (hb hby d1_86) rfl ?_
        show Steps p.tables e below (T.setTop (mkF m 88 #[.val (.ref a1), .val (.int (3 : Int32)), .val (.ref b_3), .val (.int i), .val (.int p4), .val (.int (Int32.ofNat j))] [(.int (Int32.ofNat j))])) _
        refine XS.ifNo X.here hx rfl (hb hby d1_88) rfl ((if0 _ _).trans (flt hpos).1) ?_
        show Steps p.tables e below (T.setTop (mkF m 91 #[.val (.ref a1), .val (.int (3 : Int32)), .val (.ref b_3), .val (.int i), .val (.int p4), .val (.int (Int32.ofNat j))] [])) _
        refine XS.aloadN X.here hx rfl (hb hby d1_91) rfl rfl ?_
        show Steps p.tables e below (T.setTop (mkF m 92 #[.val (.ref a1), .val (.int (3 : Int32)), .val (.ref b_3), .val (.int i), .val (.int p4), .val (.int (Int32.ofNat j))] [(.ref b_3)])) _
        refine XS.iloadN X.here hx rfl (hb hby d1_92) rfl ?_
        show Steps p.tables e below (T.setTop (mkF m 93 #[.val (.ref a1), .val (.int (3 : Int32)), .val (.ref b_3), .val (.int i), .val (.int p4), .val (.int (Int32.ofNat j))] [(.int i), (.ref b_3)])) _
        refine XS.iload X.here hx rfl (hb hby d1_93) rfl ?_
        show Steps p.tables e below (T.setTop (mkF m 95 #[.val (.ref a1), .val (.int (3 : Int32)), .val (.ref b_3), .val (.int i), .val (.int p4), .val (.int (Int32.ofNat j))] [(.int (Int32.ofNat j)), (.int i), (.ref b_3)])) _
        refine XS.iadd X.here hx rfl (hb hby d1_95) rfl ?_
        show Steps p.tables e below (T.setTop (mkF m 96 #[.val (.ref a1), .val (.int (3 : Int32)), .val (.ref b_3), .val (.int i), .val (.int p4), .val (.int (Int32.ofNat j))] [(.int (i + (Int32.ofNat j))), (.ref b_3)])) _
        refine X.iaload hx (j := (i + (Int32.ofNat j))) (v := (.int (f (iN + j)))) (by rw [eh]; exact Ar_7.1) (State.isArrayOf_alike hZ.alike Ar_7.2.1) Ar_7.2.2 (own_inb Sz_7 hin) (by rw [hix]; exact At_7 _ (by omega)) (g := (mkF m 96 #[.val (.ref a1), .val (.int (3 : Int32)), .val (.ref b_3), .val (.int i), .val (.int p4), .val (.int (Int32.ofNat j))] [(.int (i + (Int32.ofNat j))), (.ref b_3)])) rfl rfl (hb hby d1_96) _ ?_
        exact k
      by_cases hc_9 : (f (iN + j)) = (0 : Int32)
      · have fo_10 := F
        obtain ⟨cl_10, Ar_10, Sz_10, At_10⟩ := fo_10
        obtain ⟨T_10, h_10, X_10, e_10, W_10, st_10⟩ := stI X hx hZ eh Ar_10 (j := (i + (Int32.ofNat j))) (own_inb Sz_10 hin) (g := (mkF m 109 #[.val (.ref a1), .val (.int (3 : Int32)), .val (.ref b_3), .val (.int i), .val (.int p4), .val (.int (Int32.ofNat j))] [(.int ((Int32.ofNat j) + (1 : Int32))), (.int (i + (Int32.ofNat j))), (.ref b_3)])) rfl rfl (hb hby d1_109)
        rw [hix] at W_10
        have fw_10 : own_arr .int Z h_10 b_3 3 (own_upd f (iN + j) ((Int32.ofNat j) + (1 : Int32))) := own_arr.set Ar_10 Sz_10 At_10 W_10
        have pr_11 : ∀ t, Steps p.tables e below (T_10.setTop (mkF m 86 #[.val (.ref a1), .val (.int (3 : Int32)), .val (.ref b_3), .val (.int i), .val (.int p4), .val (.int ((Int32.ofNat j) + (-1 : Int32)))] [])) t → Steps p.tables e below (T.setTop (mkF m 86 #[.val (.ref a1), .val (.int (3 : Int32)), .val (.ref b_3), .val (.int i), .val (.int p4), .val (.int (Int32.ofNat j))] [])) t := fun t k => by
          refine pr_8 _ ?_
          show Steps p.tables e below (T.setTop (mkF m 97 #[.val (.ref a1), .val (.int (3 : Int32)), .val (.ref b_3), .val (.int i), .val (.int p4), .val (.int (Int32.ofNat j))] [(.int (f (iN + j)))])) _
          refine XS.ifNo X.here hx rfl (hb hby d1_97) rfl ((if0 _ _).trans (teq hc_9).2) ?_
          show Steps p.tables e below (T.setTop (mkF m 100 #[.val (.ref a1), .val (.int (3 : Int32)), .val (.ref b_3), .val (.int i), .val (.int p4), .val (.int (Int32.ofNat j))] [])) _
          refine XS.aloadN X.here hx rfl (hb hby d1_100) rfl rfl ?_
          show Steps p.tables e below (T.setTop (mkF m 101 #[.val (.ref a1), .val (.int (3 : Int32)), .val (.ref b_3), .val (.int i), .val (.int p4), .val (.int (Int32.ofNat j))] [(.ref b_3)])) _
          refine XS.iloadN X.here hx rfl (hb hby d1_101) rfl ?_
          show Steps p.tables e below (T.setTop (mkF m 102 #[.val (.ref a1), .val (.int (3 : Int32)), .val (.ref b_3), .val (.int i), .val (.int p4), .val (.int (Int32.ofNat j))] [(.int i), (.ref b_3)])) _
          refine XS.iload X.here hx rfl (hb hby d1_102) rfl ?_
          show Steps p.tables e below (T.setTop (mkF m 104 #[.val (.ref a1), .val (.int (3 : Int32)), .val (.ref b_3), .val (.int i), .val (.int p4), .val (.int (Int32.ofNat j))] [(.int (Int32.ofNat j)), (.int i), (.ref b_3)])) _
          refine XS.iadd X.here hx rfl (hb hby d1_104) rfl ?_
          show Steps p.tables e below (T.setTop (mkF m 105 #[.val (.ref a1), .val (.int (3 : Int32)), .val (.ref b_3), .val (.int i), .val (.int p4), .val (.int (Int32.ofNat j))] [(.int (i + (Int32.ofNat j))), (.ref b_3)])) _
          refine XS.iload X.here hx rfl (hb hby d1_105) rfl ?_
          show Steps p.tables e below (T.setTop (mkF m 107 #[.val (.ref a1), .val (.int (3 : Int32)), .val (.ref b_3), .val (.int i), .val (.int p4), .val (.int (Int32.ofNat j))] [(.int (Int32.ofNat j)), (.int (i + (Int32.ofNat j))), (.ref b_3)])) _
          refine XS.iconst X.here hx rfl (hb hby d1_107) ?_
          show Steps p.tables e below (T.setTop (mkF m 108 #[.val (.ref a1), .val (.int (3 : Int32)), .val (.ref b_3), .val (.int i), .val (.int p4), .val (.int (Int32.ofNat j))] [(.int (1 : Int32)), (.int (Int32.ofNat j)), (.int (i + (Int32.ofNat j))), (.ref b_3)])) _
          refine XS.iadd X.here hx rfl (hb hby d1_108) rfl ?_
          show Steps p.tables e below (T.setTop (mkF m 109 #[.val (.ref a1), .val (.int (3 : Int32)), .val (.ref b_3), .val (.int i), .val (.int p4), .val (.int (Int32.ofNat j))] [(.int ((Int32.ofNat j) + (1 : Int32))), (.int (i + (Int32.ofNat j))), (.ref b_3)])) _
          refine st_10 _ ?_
          show Steps p.tables e below (T_10.setTop (mkF m 110 #[.val (.ref a1), .val (.int (3 : Int32)), .val (.ref b_3), .val (.int i), .val (.int p4), .val (.int (Int32.ofNat j))] [])) _
          refine XS.iinc X_10.here hx rfl (hb hby d1_110) rfl (l' := #[.val (.ref a1), .val (.int (3 : Int32)), .val (.ref b_3), .val (.int i), .val (.int p4), .val (.int ((Int32.ofNat j) + (-1 : Int32)))]) rfl ?_
          show Steps p.tables e below (T_10.setTop (mkF m 113 #[.val (.ref a1), .val (.int (3 : Int32)), .val (.ref b_3), .val (.int i), .val (.int p4), .val (.int ((Int32.ofNat j) + (-1 : Int32)))] [])) _
          refine XS.goto X_10.here hx rfl (pc0 := 113) (pc' := 86) rfl (hb hby d1_113) (by decide) (by decide) ?_
          exact k
        obtain ⟨T', h', locs', jv', X', eh', hFr, K', F', st'⟩ := ih (((Int32.ofNat j) + (-1 : Int32))) T_10 h_10 _ (own_upd f (iN + j) ((Int32.ofNat j) + (1 : Int32))) (own_dec (by omega)) (by omega) X_10 e_10 fw_10
        exact ⟨T', h', locs', jv', X', eh', fun k0 hk q => hFr k0 hk (Fr.snoc X_10 q hk), (Keep.of_wr W_10).trans K' (fun x hx => Or.inl hx), by rw [own_inner, if_pos hc_9]; exact F', fun t k => pr_11 t (st' t k)⟩
      · have pr_12 : ∀ t, Steps p.tables e below (T.setTop (mkF m 116 #[.val (.ref a1), .val (.int (3 : Int32)), .val (.ref b_3), .val (.int i), .val (.int p4), .val (.int (Int32.ofNat j))] [])) t → Steps p.tables e below (T.setTop (mkF m 86 #[.val (.ref a1), .val (.int (3 : Int32)), .val (.ref b_3), .val (.int i), .val (.int p4), .val (.int (Int32.ofNat j))] [])) t := fun t k => by
          refine pr_8 _ ?_
          show Steps p.tables e below (T.setTop (mkF m 97 #[.val (.ref a1), .val (.int (3 : Int32)), .val (.ref b_3), .val (.int i), .val (.int p4), .val (.int (Int32.ofNat j))] [(.int (f (iN + j)))])) _
          refine XS.ifYes X.here hx rfl (pc0 := 97) (pc' := 116) rfl (hb hby d1_97) rfl ((if0 _ _).trans (feq hc_9).2) (by decide) (by decide) ?_
          exact k
        exact ⟨T, h, locs, Int32.ofNat j, X, eh, fun _ _ q => q, Keep.refl _ _, by rw [own_inner, if_neg hc_9]; exact F, pr_12⟩
  obtain ⟨T_13, h_13, L_13, jv_13, X_13, e_13, hFr_13, Kc_13, F_13, st_13⟩ := loopI (1 : Int32) (f1 1) 1 rfl ((f1 1)).toNatClampNeg (((f1 1) - (1 : Int32))) T_3 h_3 _ (fun _ => 0) (own_start hz1) (own_bound hz1 hy1 (n := 3) rfl rfl (by decide) (by decide)) X_3 e_3 fa_3
  have N_13 := hFr_13 n0 g_b_3 N0
  have f_13_0 : own_arr .int Z h_13 a1 3 f1 := f_3_0.keep Kc_13 (by simp [ne_a1_b_3])
  have Z_13 : n0 ≤ h_13.size := Nat.le_trans Z_3 Kc_13.1
  have K_13 : Keep h0 h_13 [] := K_3.trans Kc_13 (fun x hx => by cases List.mem_singleton.mp hx; exact Or.inr sz_b_3)
  have fo_14 := f_13_0
  obtain ⟨cl_14, Ar_14, Sz_14, At_14⟩ := fo_14
  have pr_15 : ∀ t, Steps p.tables e below (T_13.setTop (mkF m 86 #[.val (.ref a1), .val (.int (3 : Int32)), .val (.ref b_3), .val (.int (2 : Int32)), .val (.int (f1 2)), .val (.int ((f1 2) - (1 : Int32)))] [])) t → Steps p.tables e below (s₁.setTop (entryFrame m #[(.ref a1)] 6)) t := fun t k => by
    refine pr_5 _ ?_
    show Steps p.tables e below (T_3.setTop (mkF m 86 #[.val (.ref a1), .val (.int (3 : Int32)), .val (.ref b_3), .val (.int (1 : Int32)), .val (.int (f1 1)), .val (.int ((f1 1) - (1 : Int32)))] [])) _
    refine st_13 _ ?_
    show Steps p.tables e below (T_13.setTop (mkF m 116 #[.val (.ref a1), .val (.int (3 : Int32)), .val (.ref b_3), .val (.int (1 : Int32)), .val (.int (f1 1)), .val (.int jv_13)] [])) _
    refine XS.iinc X_13.here hx rfl (hb hby d1_116) rfl (l' := #[.val (.ref a1), .val (.int (3 : Int32)), .val (.ref b_3), .val (.int (2 : Int32)), .val (.int (f1 1)), .val (.int jv_13)]) rfl ?_
    show Steps p.tables e below (T_13.setTop (mkF m 119 #[.val (.ref a1), .val (.int (3 : Int32)), .val (.ref b_3), .val (.int (2 : Int32)), .val (.int (f1 1)), .val (.int jv_13)] [])) _
    refine XS.goto X_13.here hx rfl (pc0 := 119) (pc' := 37) rfl (hb hby d1_119) (by decide) (by decide) ?_
    show Steps p.tables e below (T_13.setTop (mkF m 37 #[.val (.ref a1), .val (.int (3 : Int32)), .val (.ref b_3), .val (.int (2 : Int32)), .val (.int (f1 1)), .val (.int jv_13)] [])) _
    refine XS.iloadN X_13.here hx rfl (hb hby d1_37) rfl ?_
    show Steps p.tables e below (T_13.setTop (mkF m 38 #[.val (.ref a1), .val (.int (3 : Int32)), .val (.ref b_3), .val (.int (2 : Int32)), .val (.int (f1 1)), .val (.int jv_13)] [(.int (2 : Int32))])) _
    refine XS.iloadN X_13.here hx rfl (hb hby d1_38) rfl ?_
    show Steps p.tables e below (T_13.setTop (mkF m 39 #[.val (.ref a1), .val (.int (3 : Int32)), .val (.ref b_3), .val (.int (2 : Int32)), .val (.int (f1 1)), .val (.int jv_13)] [(.int (3 : Int32)), (.int (2 : Int32))])) _
    refine XS.icmpNo X_13.here hx rfl (hb hby d1_39) rfl (tlt (by decide : (2 : Int32) < (3 : Int32))).2.1 ?_
    show Steps p.tables e below (T_13.setTop (mkF m 42 #[.val (.ref a1), .val (.int (3 : Int32)), .val (.ref b_3), .val (.int (2 : Int32)), .val (.int (f1 1)), .val (.int jv_13)] [])) _
    refine XS.aloadN X_13.here hx rfl (hb hby d1_42) rfl rfl ?_
    show Steps p.tables e below (T_13.setTop (mkF m 43 #[.val (.ref a1), .val (.int (3 : Int32)), .val (.ref b_3), .val (.int (2 : Int32)), .val (.int (f1 1)), .val (.int jv_13)] [(.ref a1)])) _
    refine XS.iloadN X_13.here hx rfl (hb hby d1_43) rfl ?_
    show Steps p.tables e below (T_13.setTop (mkF m 44 #[.val (.ref a1), .val (.int (3 : Int32)), .val (.ref b_3), .val (.int (2 : Int32)), .val (.int (f1 1)), .val (.int jv_13)] [(.int (2 : Int32)), (.ref a1)])) _
    refine X_13.iaload hx (j := (2 : Int32)) (v := (.int (f1 2))) (by rw [e_13]; exact Ar_14.1) (State.isArrayOf_alike hZ.alike Ar_14.2.1) Ar_14.2.2 (own_inb Sz_14 (show ¬ ((2 : Int32) < 0 ∨ 3 ≤ ((2 : Int32)).toNatClampNeg) from (by decide))) (by have q := At_14 _ (own_ltn (show ¬ ((2 : Int32) < 0 ∨ 3 ≤ ((2 : Int32)).toNatClampNeg) from (by decide))); rw [show ((2 : Int32)).toNatClampNeg = 2 from by decide] at q ⊢; exact q) (g := (mkF m 44 #[.val (.ref a1), .val (.int (3 : Int32)), .val (.ref b_3), .val (.int (2 : Int32)), .val (.int (f1 1)), .val (.int jv_13)] [(.int (2 : Int32)), (.ref a1)])) rfl rfl (hb hby d1_44) _ ?_
    show Steps p.tables e below (T_13.setTop (mkF m 45 #[.val (.ref a1), .val (.int (3 : Int32)), .val (.ref b_3), .val (.int (2 : Int32)), .val (.int (f1 1)), .val (.int jv_13)] [(.int (f1 2))])) _
    refine XS.istore X_13.here hx rfl (hb hby d1_45) rfl (l' := #[.val (.ref a1), .val (.int (3 : Int32)), .val (.ref b_3), .val (.int (2 : Int32)), .val (.int (f1 2)), .val (.int jv_13)]) rfl ?_
    show Steps p.tables e below (T_13.setTop (mkF m 47 #[.val (.ref a1), .val (.int (3 : Int32)), .val (.ref b_3), .val (.int (2 : Int32)), .val (.int (f1 2)), .val (.int jv_13)] [])) _
    refine XS.iload X_13.here hx rfl (hb hby d1_47) rfl ?_
    show Steps p.tables e below (T_13.setTop (mkF m 49 #[.val (.ref a1), .val (.int (3 : Int32)), .val (.ref b_3), .val (.int (2 : Int32)), .val (.int (f1 2)), .val (.int jv_13)] [(.int (f1 2))])) _
    refine XS.ifNo X_13.here hx rfl (hb hby d1_49) rfl ((if0 _ _).trans (flt (hz2 : ¬ ((f1 2) < (0 : Int32)))).1) ?_
    show Steps p.tables e below (T_13.setTop (mkF m 52 #[.val (.ref a1), .val (.int (3 : Int32)), .val (.ref b_3), .val (.int (2 : Int32)), .val (.int (f1 2)), .val (.int jv_13)] [])) _
    refine XS.iload X_13.here hx rfl (hb hby d1_52) rfl ?_
    show Steps p.tables e below (T_13.setTop (mkF m 54 #[.val (.ref a1), .val (.int (3 : Int32)), .val (.ref b_3), .val (.int (2 : Int32)), .val (.int (f1 2)), .val (.int jv_13)] [(.int (f1 2))])) _
    refine XS.iloadN X_13.here hx rfl (hb hby d1_54) rfl ?_
    show Steps p.tables e below (T_13.setTop (mkF m 55 #[.val (.ref a1), .val (.int (3 : Int32)), .val (.ref b_3), .val (.int (2 : Int32)), .val (.int (f1 2)), .val (.int jv_13)] [(.int (3 : Int32)), (.int (f1 2))])) _
    refine XS.iloadN X_13.here hx rfl (hb hby d1_55) rfl ?_
    show Steps p.tables e below (T_13.setTop (mkF m 56 #[.val (.ref a1), .val (.int (3 : Int32)), .val (.ref b_3), .val (.int (2 : Int32)), .val (.int (f1 2)), .val (.int jv_13)] [(.int (2 : Int32)), (.int (3 : Int32)), (.int (f1 2))])) _
    refine XS.isub X_13.here hx rfl (hb hby d1_56) rfl ?_
    show Steps p.tables e below (T_13.setTop (mkF m 57 #[.val (.ref a1), .val (.int (3 : Int32)), .val (.ref b_3), .val (.int (2 : Int32)), .val (.int (f1 2)), .val (.int jv_13)] [(.int (1 : Int32)), (.int (f1 2))])) _
    refine XS.icmpYes X_13.here hx rfl (pc0 := 57) (pc' := 80) rfl (hb hby d1_57) rfl (flt (hy2 : ¬ ((1 : Int32) < (f1 2)))).2.2.2 (by decide) (by decide) ?_
    show Steps p.tables e below (T_13.setTop (mkF m 80 #[.val (.ref a1), .val (.int (3 : Int32)), .val (.ref b_3), .val (.int (2 : Int32)), .val (.int (f1 2)), .val (.int jv_13)] [])) _
    refine XS.iload X_13.here hx rfl (hb hby d1_80) rfl ?_
    show Steps p.tables e below (T_13.setTop (mkF m 82 #[.val (.ref a1), .val (.int (3 : Int32)), .val (.ref b_3), .val (.int (2 : Int32)), .val (.int (f1 2)), .val (.int jv_13)] [(.int (f1 2))])) _
    refine XS.iconst X_13.here hx rfl (hb hby d1_82) ?_
    show Steps p.tables e below (T_13.setTop (mkF m 83 #[.val (.ref a1), .val (.int (3 : Int32)), .val (.ref b_3), .val (.int (2 : Int32)), .val (.int (f1 2)), .val (.int jv_13)] [(.int (1 : Int32)), (.int (f1 2))])) _
    refine XS.isub X_13.here hx rfl (hb hby d1_83) rfl ?_
    show Steps p.tables e below (T_13.setTop (mkF m 84 #[.val (.ref a1), .val (.int (3 : Int32)), .val (.ref b_3), .val (.int (2 : Int32)), .val (.int (f1 2)), .val (.int jv_13)] [(.int ((f1 2) - (1 : Int32)))])) _
    refine XS.istore X_13.here hx rfl (hb hby d1_84) rfl (l' := #[.val (.ref a1), .val (.int (3 : Int32)), .val (.ref b_3), .val (.int (2 : Int32)), .val (.int (f1 2)), .val (.int ((f1 2) - (1 : Int32)))]) rfl ?_
    exact k
  obtain ⟨T_16, h_16, L_16, jv_16, X_16, e_16, hFr_16, Kc_16, F_16, st_16⟩ := loopI (2 : Int32) (f1 2) 2 rfl ((f1 2)).toNatClampNeg (((f1 2) - (1 : Int32))) T_13 h_13 _ (own_inner 1 ((f1 1)).toNatClampNeg (fun _ => 0)) (own_start hz2) (own_bound hz2 hy2 (n := 3) rfl rfl (by decide) (by decide)) X_13 e_13 F_13
  have N_16 := hFr_16 n0 g_b_3 N_13
  have f_16_0 : own_arr .int Z h_16 a1 3 f1 := f_13_0.keep Kc_16 (by simp [ne_a1_b_3])
  have Z_16 : n0 ≤ h_16.size := Nat.le_trans Z_13 Kc_16.1
  have K_16 : Keep h0 h_16 [] := K_13.trans Kc_16 (fun x hx => by cases List.mem_singleton.mp hx; exact Or.inr sz_b_3)
  obtain ⟨fs, hr, hrun, hended, hW, hsame⟩ := X_16.leave (v := some (.ref b_3)) (fun h => by rw [Bd.returns] at h; cases h)
  refine ⟨_, _, pr_15 _ ?_, hrun, hended, _, _, rfl, ?_, ⟨_, rfl⟩, hW, hsame.mono (by decide) (by decide)⟩
  · show Steps p.tables e below (T_13.setTop (mkF m 86 #[.val (.ref a1), .val (.int (3 : Int32)), .val (.ref b_3), .val (.int (2 : Int32)), .val (.int (f1 2)), .val (.int ((f1 2) - (1 : Int32)))] [])) _
    refine st_16 _ ?_
    show Steps p.tables e below (T_16.setTop (mkF m 116 #[.val (.ref a1), .val (.int (3 : Int32)), .val (.ref b_3), .val (.int (2 : Int32)), .val (.int (f1 2)), .val (.int jv_16)] [])) _
    refine XS.iinc X_16.here hx rfl (hb hby d1_116) rfl (l' := #[.val (.ref a1), .val (.int (3 : Int32)), .val (.ref b_3), .val (.int (3 : Int32)), .val (.int (f1 2)), .val (.int jv_16)]) rfl ?_
    show Steps p.tables e below (T_16.setTop (mkF m 119 #[.val (.ref a1), .val (.int (3 : Int32)), .val (.ref b_3), .val (.int (3 : Int32)), .val (.int (f1 2)), .val (.int jv_16)] [])) _
    refine XS.goto X_16.here hx rfl (pc0 := 119) (pc' := 37) rfl (hb hby d1_119) (by decide) (by decide) ?_
    show Steps p.tables e below (T_16.setTop (mkF m 37 #[.val (.ref a1), .val (.int (3 : Int32)), .val (.ref b_3), .val (.int (3 : Int32)), .val (.int (f1 2)), .val (.int jv_16)] [])) _
    refine XS.iloadN X_16.here hx rfl (hb hby d1_37) rfl ?_
    show Steps p.tables e below (T_16.setTop (mkF m 38 #[.val (.ref a1), .val (.int (3 : Int32)), .val (.ref b_3), .val (.int (3 : Int32)), .val (.int (f1 2)), .val (.int jv_16)] [(.int (3 : Int32))])) _
    refine XS.iloadN X_16.here hx rfl (hb hby d1_38) rfl ?_
    show Steps p.tables e below (T_16.setTop (mkF m 39 #[.val (.ref a1), .val (.int (3 : Int32)), .val (.ref b_3), .val (.int (3 : Int32)), .val (.int (f1 2)), .val (.int jv_16)] [(.int (3 : Int32)), (.int (3 : Int32))])) _
    refine XS.icmpYes X_16.here hx rfl (pc0 := 39) (pc' := 122) rfl (hb hby d1_39) rfl (flt (by decide : ¬ ((3 : Int32) < (3 : Int32)))).2.1 (by decide) (by decide) ?_
    show Steps p.tables e below (T_16.setTop (mkF m 122 #[.val (.ref a1), .val (.int (3 : Int32)), .val (.ref b_3), .val (.int (3 : Int32)), .val (.int (f1 2)), .val (.int jv_16)] [])) _
    refine XS.aloadN X_16.here hx rfl (hb hby d1_122) rfl rfl ?_
    show Steps p.tables e below (T_16.setTop (mkF m 123 #[.val (.ref a1), .val (.int (3 : Int32)), .val (.ref b_3), .val (.int (3 : Int32)), .val (.int (f1 2)), .val (.int jv_16)] [(.ref b_3)])) _
    exact retOut X_16 hx Bd.returns rfl (Or.inr (Or.inr (Or.inr (Or.inr ⟨rfl, rfl, rfl⟩)))) (hb hby d1_123) hr
  · show Q1_3 Z a1 f1 h0 n0 _ T_16.heap _
    rw [e_16]
    exact ⟨b_3, rfl, N_16, K_16, F_16⟩
def Q1_4 (Z : State) (a1 : Addr) (f1 : Nat → Int32) (h0 : Heap) (n0 : Nat) (v : Option Value) (h : Heap) (L : List Loc) : Prop := ∃ r, v = some (.ref r) ∧ Fr n0 L ∧ Keep h0 h [] ∧ own_arr .int Z h r 4 (own_out 4 f1)
set_option maxRecDepth 65536 in
set_option maxHeartbeats 40000000 in
theorem rm1_4 (l : Launch) (Z : State) (a0 : Array Value) (hw : ∀ d ∈ tables_1, d.before a0 Z = true) (ws : List Jvm.Cond) (a1 : Addr) (f1 : Nat → Int32) (h0 : Heap) (n0 : Nat) (Z0 : n0 ≤ h0.size) (F0 : own_arr .int Z h0 a1 4 f1) (hz0 : f1 0 = (4 : Int32)) (hz1 : ¬ ((f1 1) < (0 : Int32))) (hy1 : ¬ (((4 : Int32) - (1 : Int32)) < (f1 1))) (hz2 : ¬ ((f1 2) < (0 : Int32))) (hy2 : ¬ (((4 : Int32) - (2 : Int32)) < (f1 2))) (hz3 : ¬ ((f1 3) < (0 : Int32))) (hy3 : ¬ (((4 : Int32) - (3 : Int32)) < (f1 3))) :
    MetFree l (⟨"com/example/borderwork/borderwork/zarrays/ZArrays", "toBorderArray", "([I)[I"⟩ : MethodName) (head1 (Jvm.Cond.code (⟨"com/example/borderwork/borderwork/zarrays/ZArrays", "toBorderArray", "([I)[I"⟩ : MethodName) prog_20_method_8_code 6 (some (.array .int)) :: ws) ({ frames := 0, cells := 1, slots := 4, locals := 0 } : Room)) (fun a U => a = #[(.ref a1)] ∧ Z.Warmed39 U.vm ∧ U.heap = h0) (fun _ _ _ _ _ => True) (fun _ U o U' => ∃ v L, o = .returned v ∧ Q1_4 Z a1 f1 h0 n0 v U'.heap L ∧ FrameEnd U o U' L ({ frames := 0, cells := 1, slots := 4, locals := 0 } : Room).cells ({ frames := 0, cells := 1, slots := 4, locals := 0 } : Room).slots) := by
  refine MetFree.of_bodySF (plainFor_of_name pn_1) hisR ?_
  intro p e s m args below meth c s₁ Bd hml0 hP hK
  obtain ⟨rfl, hZ, hh⟩ := hP
  have hx := Bd.exec
  have hby := Bd.bytes
  have hml : c.maxLocals = 6 := hml0
  have hown : s.vm.findClass "com/example/borderwork/borderwork/zarrays/ZArrays" = some m.cls := findClass_of_methodNamed Bd.named
  have hnm := (name_of_methodNamed Bd.named Bd.method).1
  have X0 : Stand p l e ({ frames := 0, cells := 1, slots := 4, locals := 0 } : Room) s m #[(.ref a1)] below meth c s₁ [] 0 0 := Stand.of_body Bd
  have e0 : s₁.heap = h0 := by rw [← hh, Bd.state]; rfl
  have N0 := Fr.nil n0
  have pre0 : ∀ t, Steps p.tables e below (s₁.setTop (mkF m 0 #[.val (.ref a1), .unset, .unset, .unset, .unset, .unset] [])) t → Steps p.tables e below (s₁.setTop (entryFrame m #[(.ref a1)] 6)) t := fun t k => castTop (ef_1_R m a1) k
  have fo_2 := F0
  obtain ⟨cl_2, Ar_2, Sz_2, At_2⟩ := fo_2
  obtain ⟨T_3, h_3, k_3, X_3, e_3, E_3, A_3, st_3⟩ := newP X0 hx hZ (hw _ (List.mem_of_getElem? (i := 1) rfl)) e0 (g := (mkF m 32 #[.val (.ref a1), .val (.int (4 : Int32)), .unset, .unset, .unset, .unset] [(.int (4 : Int32))])) rfl (hb hby d1_32) rfl (by decide) (cap := 4) (by decide) (by decide) (by decide) (by decide)
  obtain ⟨b_3, g_3⟩ : ∃ z, z = h0.size := ⟨_, rfl⟩
  rw [← g_3] at A_3 st_3
  have ne_a1_b_3 : a1 ≠ b_3 := Nat.ne_of_lt (Nat.lt_of_lt_of_le F0.lt (Nat.le_of_eq g_3.symm))
  have g_b_3 : n0 ≤ b_3 := Nat.le_trans Z0 (Nat.le_of_eq g_3.symm)
  have sz_b_3 : h0.size ≤ b_3 := Nat.le_trans ((Keep.refl h0 [])).1 (Nat.le_of_eq g_3.symm)
  have f_3_0 : own_arr .int Z h_3 a1 4 f1 := F0.ext E_3
  have Z_3 : n0 ≤ h_3.size := Nat.le_trans Z0 E_3.1
  have K_3 : Keep h0 h_3 [] := (Keep.refl h0 []).ext E_3
  have fa_3 : own_arr .int Z h_3 b_3 4 (fun _ => 0) := own_arr.newI A_3 rfl
  have fo_4 := f_3_0
  obtain ⟨cl_4, Ar_4, Sz_4, At_4⟩ := fo_4
  have pr_5 : ∀ t, Steps p.tables e below (T_3.setTop (mkF m 86 #[.val (.ref a1), .val (.int (4 : Int32)), .val (.ref b_3), .val (.int (1 : Int32)), .val (.int (f1 1)), .val (.int ((f1 1) - (1 : Int32)))] [])) t → Steps p.tables e below (s₁.setTop (entryFrame m #[(.ref a1)] 6)) t := fun t k => by
    refine pre0 _ ?_
    show Steps p.tables e below (s₁.setTop (mkF m 0 #[.val (.ref a1), .unset, .unset, .unset, .unset, .unset] [])) _
    refine XS.aloadN X0.here hx rfl (hb hby d1_0) rfl rfl ?_
    show Steps p.tables e below (s₁.setTop (mkF m 1 #[.val (.ref a1), .unset, .unset, .unset, .unset, .unset] [(.ref a1)])) _
    refine X0.arraylength hx (by rw [e0]; exact Ar_2.1) (State.isArrayOf_alike hZ.alike Ar_2.2.1) (g := (mkF m 1 #[.val (.ref a1), .unset, .unset, .unset, .unset, .unset] [(.ref a1)])) rfl rfl (hb hby d1_1) _ ?_
    rw [Sz_2]
    show Steps p.tables e below (s₁.setTop (mkF m 2 #[.val (.ref a1), .unset, .unset, .unset, .unset, .unset] [(.int (4 : Int32))])) _
    refine XS.istoreN X0.here hx rfl (hb hby d1_2) rfl (l' := #[.val (.ref a1), .val (.int (4 : Int32)), .unset, .unset, .unset, .unset]) rfl ?_
    show Steps p.tables e below (s₁.setTop (mkF m 3 #[.val (.ref a1), .val (.int (4 : Int32)), .unset, .unset, .unset, .unset] [])) _
    refine XS.iloadN X0.here hx rfl (hb hby d1_3) rfl ?_
    show Steps p.tables e below (s₁.setTop (mkF m 4 #[.val (.ref a1), .val (.int (4 : Int32)), .unset, .unset, .unset, .unset] [(.int (4 : Int32))])) _
    refine XS.ifNo X0.here hx rfl (hb hby d1_4) rfl ((if0 _ _).trans (tlt (by decide : (0 : Int32) < (4 : Int32))).2.2.2) ?_
    show Steps p.tables e below (s₁.setTop (mkF m 7 #[.val (.ref a1), .val (.int (4 : Int32)), .unset, .unset, .unset, .unset] [])) _
    refine XS.aloadN X0.here hx rfl (hb hby d1_7) rfl rfl ?_
    show Steps p.tables e below (s₁.setTop (mkF m 8 #[.val (.ref a1), .val (.int (4 : Int32)), .unset, .unset, .unset, .unset] [(.ref a1)])) _
    refine XS.iconst X0.here hx rfl (hb hby d1_8) ?_
    show Steps p.tables e below (s₁.setTop (mkF m 9 #[.val (.ref a1), .val (.int (4 : Int32)), .unset, .unset, .unset, .unset] [(.int (0 : Int32)), (.ref a1)])) _
    refine X0.iaload hx (j := (0 : Int32)) (v := (.int (f1 0))) (by rw [e0]; exact Ar_2.1) (State.isArrayOf_alike hZ.alike Ar_2.2.1) Ar_2.2.2 (own_inb Sz_2 (show ¬ ((0 : Int32) < 0 ∨ 4 ≤ ((0 : Int32)).toNatClampNeg) from (by decide))) (by have q := At_2 _ (own_ltn (show ¬ ((0 : Int32) < 0 ∨ 4 ≤ ((0 : Int32)).toNatClampNeg) from (by decide))); rw [show ((0 : Int32)).toNatClampNeg = 0 from by decide] at q ⊢; exact q) (g := (mkF m 9 #[.val (.ref a1), .val (.int (4 : Int32)), .unset, .unset, .unset, .unset] [(.int (0 : Int32)), (.ref a1)])) rfl rfl (hb hby d1_9) _ ?_
    show Steps p.tables e below (s₁.setTop (mkF m 10 #[.val (.ref a1), .val (.int (4 : Int32)), .unset, .unset, .unset, .unset] [(.int (f1 0))])) _
    refine XS.iloadN X0.here hx rfl (hb hby d1_10) rfl ?_
    show Steps p.tables e below (s₁.setTop (mkF m 11 #[.val (.ref a1), .val (.int (4 : Int32)), .unset, .unset, .unset, .unset] [(.int (4 : Int32)), (.int (f1 0))])) _
    refine XS.icmpYes X0.here hx rfl (pc0 := 11) (pc' := 31) rfl (hb hby d1_11) rfl (teq (hz0 : (f1 0) = (4 : Int32))).1 (by decide) (by decide) ?_
    show Steps p.tables e below (s₁.setTop (mkF m 31 #[.val (.ref a1), .val (.int (4 : Int32)), .unset, .unset, .unset, .unset] [])) _
    refine XS.iloadN X0.here hx rfl (hb hby d1_31) rfl ?_
    show Steps p.tables e below (s₁.setTop (mkF m 32 #[.val (.ref a1), .val (.int (4 : Int32)), .unset, .unset, .unset, .unset] [(.int (4 : Int32))])) _
    refine st_3 _ ?_
    show Steps p.tables e below (T_3.setTop (mkF m 34 #[.val (.ref a1), .val (.int (4 : Int32)), .unset, .unset, .unset, .unset] [(.ref b_3)])) _
    refine XS.astoreN X_3.here hx rfl (hb hby d1_34) rfl rfl (l' := #[.val (.ref a1), .val (.int (4 : Int32)), .val (.ref b_3), .unset, .unset, .unset]) rfl ?_
    show Steps p.tables e below (T_3.setTop (mkF m 35 #[.val (.ref a1), .val (.int (4 : Int32)), .val (.ref b_3), .unset, .unset, .unset] [])) _
    refine XS.iconst X_3.here hx rfl (hb hby d1_35) ?_
    show Steps p.tables e below (T_3.setTop (mkF m 36 #[.val (.ref a1), .val (.int (4 : Int32)), .val (.ref b_3), .unset, .unset, .unset] [(.int (1 : Int32))])) _
    refine XS.istoreN X_3.here hx rfl (hb hby d1_36) rfl (l' := #[.val (.ref a1), .val (.int (4 : Int32)), .val (.ref b_3), .val (.int (1 : Int32)), .unset, .unset]) rfl ?_
    show Steps p.tables e below (T_3.setTop (mkF m 37 #[.val (.ref a1), .val (.int (4 : Int32)), .val (.ref b_3), .val (.int (1 : Int32)), .unset, .unset] [])) _
    refine XS.iloadN X_3.here hx rfl (hb hby d1_37) rfl ?_
    show Steps p.tables e below (T_3.setTop (mkF m 38 #[.val (.ref a1), .val (.int (4 : Int32)), .val (.ref b_3), .val (.int (1 : Int32)), .unset, .unset] [(.int (1 : Int32))])) _
    refine XS.iloadN X_3.here hx rfl (hb hby d1_38) rfl ?_
    show Steps p.tables e below (T_3.setTop (mkF m 39 #[.val (.ref a1), .val (.int (4 : Int32)), .val (.ref b_3), .val (.int (1 : Int32)), .unset, .unset] [(.int (4 : Int32)), (.int (1 : Int32))])) _
    refine XS.icmpNo X_3.here hx rfl (hb hby d1_39) rfl (tlt (by decide : (1 : Int32) < (4 : Int32))).2.1 ?_
    show Steps p.tables e below (T_3.setTop (mkF m 42 #[.val (.ref a1), .val (.int (4 : Int32)), .val (.ref b_3), .val (.int (1 : Int32)), .unset, .unset] [])) _
    refine XS.aloadN X_3.here hx rfl (hb hby d1_42) rfl rfl ?_
    show Steps p.tables e below (T_3.setTop (mkF m 43 #[.val (.ref a1), .val (.int (4 : Int32)), .val (.ref b_3), .val (.int (1 : Int32)), .unset, .unset] [(.ref a1)])) _
    refine XS.iloadN X_3.here hx rfl (hb hby d1_43) rfl ?_
    show Steps p.tables e below (T_3.setTop (mkF m 44 #[.val (.ref a1), .val (.int (4 : Int32)), .val (.ref b_3), .val (.int (1 : Int32)), .unset, .unset] [(.int (1 : Int32)), (.ref a1)])) _
    refine X_3.iaload hx (j := (1 : Int32)) (v := (.int (f1 1))) (by rw [e_3]; exact Ar_4.1) (State.isArrayOf_alike hZ.alike Ar_4.2.1) Ar_4.2.2 (own_inb Sz_4 (show ¬ ((1 : Int32) < 0 ∨ 4 ≤ ((1 : Int32)).toNatClampNeg) from (by decide))) (by have q := At_4 _ (own_ltn (show ¬ ((1 : Int32) < 0 ∨ 4 ≤ ((1 : Int32)).toNatClampNeg) from (by decide))); rw [show ((1 : Int32)).toNatClampNeg = 1 from by decide] at q ⊢; exact q) (g := (mkF m 44 #[.val (.ref a1), .val (.int (4 : Int32)), .val (.ref b_3), .val (.int (1 : Int32)), .unset, .unset] [(.int (1 : Int32)), (.ref a1)])) rfl rfl (hb hby d1_44) _ ?_
    show Steps p.tables e below (T_3.setTop (mkF m 45 #[.val (.ref a1), .val (.int (4 : Int32)), .val (.ref b_3), .val (.int (1 : Int32)), .unset, .unset] [(.int (f1 1))])) _
    refine XS.istore X_3.here hx rfl (hb hby d1_45) rfl (l' := #[.val (.ref a1), .val (.int (4 : Int32)), .val (.ref b_3), .val (.int (1 : Int32)), .val (.int (f1 1)), .unset]) rfl ?_
    show Steps p.tables e below (T_3.setTop (mkF m 47 #[.val (.ref a1), .val (.int (4 : Int32)), .val (.ref b_3), .val (.int (1 : Int32)), .val (.int (f1 1)), .unset] [])) _
    refine XS.iload X_3.here hx rfl (hb hby d1_47) rfl ?_
    show Steps p.tables e below (T_3.setTop (mkF m 49 #[.val (.ref a1), .val (.int (4 : Int32)), .val (.ref b_3), .val (.int (1 : Int32)), .val (.int (f1 1)), .unset] [(.int (f1 1))])) _
    refine XS.ifNo X_3.here hx rfl (hb hby d1_49) rfl ((if0 _ _).trans (flt (hz1 : ¬ ((f1 1) < (0 : Int32)))).1) ?_
    show Steps p.tables e below (T_3.setTop (mkF m 52 #[.val (.ref a1), .val (.int (4 : Int32)), .val (.ref b_3), .val (.int (1 : Int32)), .val (.int (f1 1)), .unset] [])) _
    refine XS.iload X_3.here hx rfl (hb hby d1_52) rfl ?_
    show Steps p.tables e below (T_3.setTop (mkF m 54 #[.val (.ref a1), .val (.int (4 : Int32)), .val (.ref b_3), .val (.int (1 : Int32)), .val (.int (f1 1)), .unset] [(.int (f1 1))])) _
    refine XS.iloadN X_3.here hx rfl (hb hby d1_54) rfl ?_
    show Steps p.tables e below (T_3.setTop (mkF m 55 #[.val (.ref a1), .val (.int (4 : Int32)), .val (.ref b_3), .val (.int (1 : Int32)), .val (.int (f1 1)), .unset] [(.int (4 : Int32)), (.int (f1 1))])) _
    refine XS.iloadN X_3.here hx rfl (hb hby d1_55) rfl ?_
    show Steps p.tables e below (T_3.setTop (mkF m 56 #[.val (.ref a1), .val (.int (4 : Int32)), .val (.ref b_3), .val (.int (1 : Int32)), .val (.int (f1 1)), .unset] [(.int (1 : Int32)), (.int (4 : Int32)), (.int (f1 1))])) _
    refine XS.isub X_3.here hx rfl (hb hby d1_56) rfl ?_
    show Steps p.tables e below (T_3.setTop (mkF m 57 #[.val (.ref a1), .val (.int (4 : Int32)), .val (.ref b_3), .val (.int (1 : Int32)), .val (.int (f1 1)), .unset] [(.int (3 : Int32)), (.int (f1 1))])) _
    refine XS.icmpYes X_3.here hx rfl (pc0 := 57) (pc' := 80) rfl (hb hby d1_57) rfl (flt (hy1 : ¬ ((3 : Int32) < (f1 1)))).2.2.2 (by decide) (by decide) ?_
    show Steps p.tables e below (T_3.setTop (mkF m 80 #[.val (.ref a1), .val (.int (4 : Int32)), .val (.ref b_3), .val (.int (1 : Int32)), .val (.int (f1 1)), .unset] [])) _
    refine XS.iload X_3.here hx rfl (hb hby d1_80) rfl ?_
    show Steps p.tables e below (T_3.setTop (mkF m 82 #[.val (.ref a1), .val (.int (4 : Int32)), .val (.ref b_3), .val (.int (1 : Int32)), .val (.int (f1 1)), .unset] [(.int (f1 1))])) _
    refine XS.iconst X_3.here hx rfl (hb hby d1_82) ?_
    show Steps p.tables e below (T_3.setTop (mkF m 83 #[.val (.ref a1), .val (.int (4 : Int32)), .val (.ref b_3), .val (.int (1 : Int32)), .val (.int (f1 1)), .unset] [(.int (1 : Int32)), (.int (f1 1))])) _
    refine XS.isub X_3.here hx rfl (hb hby d1_83) rfl ?_
    show Steps p.tables e below (T_3.setTop (mkF m 84 #[.val (.ref a1), .val (.int (4 : Int32)), .val (.ref b_3), .val (.int (1 : Int32)), .val (.int (f1 1)), .unset] [(.int ((f1 1) - (1 : Int32)))])) _
    refine XS.istore X_3.here hx rfl (hb hby d1_84) rfl (l' := #[.val (.ref a1), .val (.int (4 : Int32)), .val (.ref b_3), .val (.int (1 : Int32)), .val (.int (f1 1)), .val (.int ((f1 1) - (1 : Int32)))]) rfl ?_
    exact k
  have loopI : ∀ (i p4 : Int32) (iN : Nat), i.toInt = iN → ∀ (j : Nat) (jv : Int32) (T : State) (h : Heap) (locs : List Loc) (f : Nat → Int32), jv.toInt = (j : Int) - 1 → iN + j ≤ 4 → Stand p l e ({ frames := 0, cells := 1, slots := 4, locals := 0 } : Room) s m #[(.ref a1)] below meth c T locs (0 + 1) (0 + 4) → T.heap = h → own_arr .int Z h b_3 4 f → ∃ (T' : State) (h' : Heap) (locs' : List Loc) (jv' : Int32), Stand p l e ({ frames := 0, cells := 1, slots := 4, locals := 0 } : Room) s m #[(.ref a1)] below meth c T' locs' (0 + 1) (0 + 4) ∧ T'.heap = h' ∧ (∀ k0, k0 ≤ b_3 → Fr k0 locs → Fr k0 locs') ∧ Keep h h' [b_3] ∧ own_arr .int Z h' b_3 4 (own_inner iN j f) ∧ ∀ t, Steps p.tables e below (T'.setTop (mkF m 116 #[.val (.ref a1), .val (.int (4 : Int32)), .val (.ref b_3), .val (.int i), .val (.int p4), .val (.int jv')] [])) t → Steps p.tables e below (T.setTop (mkF m 86 #[.val (.ref a1), .val (.int (4 : Int32)), .val (.ref b_3), .val (.int i), .val (.int p4), .val (.int jv)] [])) t := by
    intro i p4 iN hi j
    induction j with
    | zero =>
      intro jv T h locs f hj hle X eh F
      have hneg : jv < (0 : Int32) := own_neg hj
      have pid : ∀ t, Steps p.tables e below (T.setTop (mkF m 86 #[.val (.ref a1), .val (.int (4 : Int32)), .val (.ref b_3), .val (.int i), .val (.int p4), .val (.int jv)] [])) t → Steps p.tables e below (T.setTop (mkF m 86 #[.val (.ref a1), .val (.int (4 : Int32)), .val (.ref b_3), .val (.int i), .val (.int p4), .val (.int jv)] [])) t := fun t k => k
      have pr_6 : ∀ t, Steps p.tables e below (T.setTop (mkF m 116 #[.val (.ref a1), .val (.int (4 : Int32)), .val (.ref b_3), .val (.int i), .val (.int p4), .val (.int jv)] [])) t → Steps p.tables e below (T.setTop (mkF m 86 #[.val (.ref a1), .val (.int (4 : Int32)), .val (.ref b_3), .val (.int i), .val (.int p4), .val (.int jv)] [])) t := fun t k => by
        refine pid _ ?_
        show Steps p.tables e below (T.setTop (mkF m 86 #[.val (.ref a1), .val (.int (4 : Int32)), .val (.ref b_3), .val (.int i), .val (.int p4), .val (.int jv)] [])) _
        refine XS.iload X.here hx rfl (hb hby d1_86) rfl ?_
        show Steps p.tables e below (T.setTop (mkF m 88 #[.val (.ref a1), .val (.int (4 : Int32)), .val (.ref b_3), .val (.int i), .val (.int p4), .val (.int jv)] [(.int jv)])) _
        refine XS.ifYes X.here hx rfl (pc0 := 88) (pc' := 116) rfl (hb hby d1_88) rfl ((if0 _ _).trans (tlt hneg).1) (by decide) (by decide) ?_
        exact k
      exact ⟨T, h, locs, jv, X, eh, fun _ _ q => q, Keep.refl _ _, F, pr_6⟩
    | succ j ih =>
      intro jv T h locs f hj hle X eh F
      obtain rfl : jv = Int32.ofNat j := own_jv hj (by omega)
      have hpos : ¬ (Int32.ofNat j < (0 : Int32)) := own_nn (by omega)
      have hix : (i + (Int32.ofNat j)).toNatClampNeg = iN + j := own_ix hi (by omega)
      have hin : ¬ ((i + (Int32.ofNat j)) < 0 ∨ 4 ≤ (i + (Int32.ofNat j)).toNatClampNeg) := by rw [hix, Int32.lt_iff_toInt_lt, own_sum hi (by omega), own_k0]; omega
      have pid : ∀ t, Steps p.tables e below (T.setTop (mkF m 86 #[.val (.ref a1), .val (.int (4 : Int32)), .val (.ref b_3), .val (.int i), .val (.int p4), .val (.int (Int32.ofNat j))] [])) t → Steps p.tables e below (T.setTop (mkF m 86 #[.val (.ref a1), .val (.int (4 : Int32)), .val (.ref b_3), .val (.int i), .val (.int p4), .val (.int (Int32.ofNat j))] [])) t := fun t k => k
      have fo_7 := F
      obtain ⟨cl_7, Ar_7, Sz_7, At_7⟩ := fo_7
      have pr_8 : ∀ t, Steps p.tables e below (T.setTop (mkF m 97 #[.val (.ref a1), .val (.int (4 : Int32)), .val (.ref b_3), .val (.int i), .val (.int p4), .val (.int (Int32.ofNat j))] [(.int (f (iN + j)))])) t → Steps p.tables e below (T.setTop (mkF m 86 #[.val (.ref a1), .val (.int (4 : Int32)), .val (.ref b_3), .val (.int i), .val (.int p4), .val (.int (Int32.ofNat j))] [])) t := fun t k => by
        refine pid _ ?_
        show Steps p.tables e below (T.setTop (mkF m 86 #[.val (.ref a1), .val (.int (4 : Int32)), .val (.ref b_3), .val (.int i), .val (.int p4), .val (.int (Int32.ofNat j))] [])) _
        refine XS.iload X.here hx rfl (hb hby d1_86) rfl ?_
        show Steps p.tables e below (T.setTop (mkF m 88 #[.val (.ref a1), .val (.int (4 : Int32)), .val (.ref b_3), .val (.int i), .val (.int p4), .val (.int (Int32.ofNat j))] [(.int (Int32.ofNat j))])) _
        refine XS.ifNo X.here hx rfl (hb hby d1_88) rfl ((if0 _ _).trans (flt hpos).1) ?_
        show Steps p.tables e below (T.setTop (mkF m 91 #[.val (.ref a1), .val (.int (4 : Int32)), .val (.ref b_3), .val (.int i), .val (.int p4), .val (.int (Int32.ofNat j))] [])) _
        refine XS.aloadN X.here hx rfl (hb hby d1_91) rfl rfl ?_
        show Steps p.tables e below (T.setTop (mkF m 92 #[.val (.ref a1), .val (.int (4 : Int32)), .val (.ref b_3), .val (.int i), .val (.int p4), .val (.int (Int32.ofNat j))] [(.ref b_3)])) _
        refine XS.iloadN X.here hx rfl (hb hby d1_92) rfl ?_
        show Steps p.tables e below (T.setTop (mkF m 93 #[.val (.ref a1), .val (.int (4 : Int32)), .val (.ref b_3), .val (.int i), .val (.int p4), .val (.int (Int32.ofNat j))] [(.int i), (.ref b_3)])) _
        refine XS.iload X.here hx rfl (hb hby d1_93) rfl ?_
        show Steps p.tables e below (T.setTop (mkF m 95 #[.val (.ref a1), .val (.int (4 : Int32)), .val (.ref b_3), .val (.int i), .val (.int p4), .val (.int (Int32.ofNat j))] [(.int (Int32.ofNat j)), (.int i), (.ref b_3)])) _
        refine XS.iadd X.here hx rfl (hb hby d1_95) rfl ?_
        show Steps p.tables e below (T.setTop (mkF m 96 #[.val (.ref a1), .val (.int (4 : Int32)), .val (.ref b_3), .val (.int i), .val (.int p4), .val (.int (Int32.ofNat j))] [(.int (i + (Int32.ofNat j))), (.ref b_3)])) _
        refine X.iaload hx (j := (i + (Int32.ofNat j))) (v := (.int (f (iN + j)))) (by rw [eh]; exact Ar_7.1) (State.isArrayOf_alike hZ.alike Ar_7.2.1) Ar_7.2.2 (own_inb Sz_7 hin) (by rw [hix]; exact At_7 _ (by omega)) (g := (mkF m 96 #[.val (.ref a1), .val (.int (4 : Int32)), .val (.ref b_3), .val (.int i), .val (.int p4), .val (.int (Int32.ofNat j))] [(.int (i + (Int32.ofNat j))), (.ref b_3)])) rfl rfl (hb hby d1_96) _ ?_
        exact k
      by_cases hc_9 : (f (iN + j)) = (0 : Int32)
      · have fo_10 := F
        obtain ⟨cl_10, Ar_10, Sz_10, At_10⟩ := fo_10
        obtain ⟨T_10, h_10, X_10, e_10, W_10, st_10⟩ := stI X hx hZ eh Ar_10 (j := (i + (Int32.ofNat j))) (own_inb Sz_10 hin) (g := (mkF m 109 #[.val (.ref a1), .val (.int (4 : Int32)), .val (.ref b_3), .val (.int i), .val (.int p4), .val (.int (Int32.ofNat j))] [(.int ((Int32.ofNat j) + (1 : Int32))), (.int (i + (Int32.ofNat j))), (.ref b_3)])) rfl rfl (hb hby d1_109)
        rw [hix] at W_10
        have fw_10 : own_arr .int Z h_10 b_3 4 (own_upd f (iN + j) ((Int32.ofNat j) + (1 : Int32))) := own_arr.set Ar_10 Sz_10 At_10 W_10
        have pr_11 : ∀ t, Steps p.tables e below (T_10.setTop (mkF m 86 #[.val (.ref a1), .val (.int (4 : Int32)), .val (.ref b_3), .val (.int i), .val (.int p4), .val (.int ((Int32.ofNat j) + (-1 : Int32)))] [])) t → Steps p.tables e below (T.setTop (mkF m 86 #[.val (.ref a1), .val (.int (4 : Int32)), .val (.ref b_3), .val (.int i), .val (.int p4), .val (.int (Int32.ofNat j))] [])) t := fun t k => by
          refine pr_8 _ ?_
          show Steps p.tables e below (T.setTop (mkF m 97 #[.val (.ref a1), .val (.int (4 : Int32)), .val (.ref b_3), .val (.int i), .val (.int p4), .val (.int (Int32.ofNat j))] [(.int (f (iN + j)))])) _
          refine XS.ifNo X.here hx rfl (hb hby d1_97) rfl ((if0 _ _).trans (teq hc_9).2) ?_
          show Steps p.tables e below (T.setTop (mkF m 100 #[.val (.ref a1), .val (.int (4 : Int32)), .val (.ref b_3), .val (.int i), .val (.int p4), .val (.int (Int32.ofNat j))] [])) _
          refine XS.aloadN X.here hx rfl (hb hby d1_100) rfl rfl ?_
          show Steps p.tables e below (T.setTop (mkF m 101 #[.val (.ref a1), .val (.int (4 : Int32)), .val (.ref b_3), .val (.int i), .val (.int p4), .val (.int (Int32.ofNat j))] [(.ref b_3)])) _
          refine XS.iloadN X.here hx rfl (hb hby d1_101) rfl ?_
          show Steps p.tables e below (T.setTop (mkF m 102 #[.val (.ref a1), .val (.int (4 : Int32)), .val (.ref b_3), .val (.int i), .val (.int p4), .val (.int (Int32.ofNat j))] [(.int i), (.ref b_3)])) _
          refine XS.iload X.here hx rfl (hb hby d1_102) rfl ?_
          show Steps p.tables e below (T.setTop (mkF m 104 #[.val (.ref a1), .val (.int (4 : Int32)), .val (.ref b_3), .val (.int i), .val (.int p4), .val (.int (Int32.ofNat j))] [(.int (Int32.ofNat j)), (.int i), (.ref b_3)])) _
          refine XS.iadd X.here hx rfl (hb hby d1_104) rfl ?_
          show Steps p.tables e below (T.setTop (mkF m 105 #[.val (.ref a1), .val (.int (4 : Int32)), .val (.ref b_3), .val (.int i), .val (.int p4), .val (.int (Int32.ofNat j))] [(.int (i + (Int32.ofNat j))), (.ref b_3)])) _
          refine XS.iload X.here hx rfl (hb hby d1_105) rfl ?_
          show Steps p.tables e below (T.setTop (mkF m 107 #[.val (.ref a1), .val (.int (4 : Int32)), .val (.ref b_3), .val (.int i), .val (.int p4), .val (.int (Int32.ofNat j))] [(.int (Int32.ofNat j)), (.int (i + (Int32.ofNat j))), (.ref b_3)])) _
          refine XS.iconst X.here hx rfl (hb hby d1_107) ?_
          show Steps p.tables e below (T.setTop (mkF m 108 #[.val (.ref a1), .val (.int (4 : Int32)), .val (.ref b_3), .val (.int i), .val (.int p4), .val (.int (Int32.ofNat j))] [(.int (1 : Int32)), (.int (Int32.ofNat j)), (.int (i + (Int32.ofNat j))), (.ref b_3)])) _
          refine XS.iadd X.here hx rfl (hb hby d1_108) rfl ?_
          show Steps p.tables e below (T.setTop (mkF m 109 #[.val (.ref a1), .val (.int (4 : Int32)), .val (.ref b_3), .val (.int i), .val (.int p4), .val (.int (Int32.ofNat j))] [(.int ((Int32.ofNat j) + (1 : Int32))), (.int (i + (Int32.ofNat j))), (.ref b_3)])) _
          refine st_10 _ ?_
          show Steps p.tables e below (T_10.setTop (mkF m 110 #[.val (.ref a1), .val (.int (4 : Int32)), .val (.ref b_3), .val (.int i), .val (.int p4), .val (.int (Int32.ofNat j))] [])) _
          refine XS.iinc X_10.here hx rfl (hb hby d1_110) rfl (l' := #[.val (.ref a1), .val (.int (4 : Int32)), .val (.ref b_3), .val (.int i), .val (.int p4), .val (.int ((Int32.ofNat j) + (-1 : Int32)))]) rfl ?_
          show Steps p.tables e below (T_10.setTop (mkF m 113 #[.val (.ref a1), .val (.int (4 : Int32)), .val (.ref b_3), .val (.int i), .val (.int p4), .val (.int ((Int32.ofNat j) + (-1 : Int32)))] [])) _
          refine XS.goto X_10.here hx rfl (pc0 := 113) (pc' := 86) rfl (hb hby d1_113) (by decide) (by decide) ?_
          exact k
        obtain ⟨T', h', locs', jv', X', eh', hFr, K', F', st'⟩ := ih (((Int32.ofNat j) + (-1 : Int32))) T_10 h_10 _ (own_upd f (iN + j) ((Int32.ofNat j) + (1 : Int32))) (own_dec (by omega)) (by omega) X_10 e_10 fw_10
        exact ⟨T', h', locs', jv', X', eh', fun k0 hk q => hFr k0 hk (Fr.snoc X_10 q hk), (Keep.of_wr W_10).trans K' (fun x hx => Or.inl hx), by rw [own_inner, if_pos hc_9]; exact F', fun t k => pr_11 t (st' t k)⟩
      · have pr_12 : ∀ t, Steps p.tables e below (T.setTop (mkF m 116 #[.val (.ref a1), .val (.int (4 : Int32)), .val (.ref b_3), .val (.int i), .val (.int p4), .val (.int (Int32.ofNat j))] [])) t → Steps p.tables e below (T.setTop (mkF m 86 #[.val (.ref a1), .val (.int (4 : Int32)), .val (.ref b_3), .val (.int i), .val (.int p4), .val (.int (Int32.ofNat j))] [])) t := fun t k => by
          refine pr_8 _ ?_
          show Steps p.tables e below (T.setTop (mkF m 97 #[.val (.ref a1), .val (.int (4 : Int32)), .val (.ref b_3), .val (.int i), .val (.int p4), .val (.int (Int32.ofNat j))] [(.int (f (iN + j)))])) _
          refine XS.ifYes X.here hx rfl (pc0 := 97) (pc' := 116) rfl (hb hby d1_97) rfl ((if0 _ _).trans (feq hc_9).2) (by decide) (by decide) ?_
          exact k
        exact ⟨T, h, locs, Int32.ofNat j, X, eh, fun _ _ q => q, Keep.refl _ _, by rw [own_inner, if_neg hc_9]; exact F, pr_12⟩
  obtain ⟨T_13, h_13, L_13, jv_13, X_13, e_13, hFr_13, Kc_13, F_13, st_13⟩ := loopI (1 : Int32) (f1 1) 1 rfl ((f1 1)).toNatClampNeg (((f1 1) - (1 : Int32))) T_3 h_3 _ (fun _ => 0) (own_start hz1) (own_bound hz1 hy1 (n := 4) rfl rfl (by decide) (by decide)) X_3 e_3 fa_3
  have N_13 := hFr_13 n0 g_b_3 N0
  have f_13_0 : own_arr .int Z h_13 a1 4 f1 := f_3_0.keep Kc_13 (by simp [ne_a1_b_3])
  have Z_13 : n0 ≤ h_13.size := Nat.le_trans Z_3 Kc_13.1
  have K_13 : Keep h0 h_13 [] := K_3.trans Kc_13 (fun x hx => by cases List.mem_singleton.mp hx; exact Or.inr sz_b_3)
  have fo_14 := f_13_0
  obtain ⟨cl_14, Ar_14, Sz_14, At_14⟩ := fo_14
  have pr_15 : ∀ t, Steps p.tables e below (T_13.setTop (mkF m 86 #[.val (.ref a1), .val (.int (4 : Int32)), .val (.ref b_3), .val (.int (2 : Int32)), .val (.int (f1 2)), .val (.int ((f1 2) - (1 : Int32)))] [])) t → Steps p.tables e below (s₁.setTop (entryFrame m #[(.ref a1)] 6)) t := fun t k => by
    refine pr_5 _ ?_
    show Steps p.tables e below (T_3.setTop (mkF m 86 #[.val (.ref a1), .val (.int (4 : Int32)), .val (.ref b_3), .val (.int (1 : Int32)), .val (.int (f1 1)), .val (.int ((f1 1) - (1 : Int32)))] [])) _
    refine st_13 _ ?_
    show Steps p.tables e below (T_13.setTop (mkF m 116 #[.val (.ref a1), .val (.int (4 : Int32)), .val (.ref b_3), .val (.int (1 : Int32)), .val (.int (f1 1)), .val (.int jv_13)] [])) _
    refine XS.iinc X_13.here hx rfl (hb hby d1_116) rfl (l' := #[.val (.ref a1), .val (.int (4 : Int32)), .val (.ref b_3), .val (.int (2 : Int32)), .val (.int (f1 1)), .val (.int jv_13)]) rfl ?_
    show Steps p.tables e below (T_13.setTop (mkF m 119 #[.val (.ref a1), .val (.int (4 : Int32)), .val (.ref b_3), .val (.int (2 : Int32)), .val (.int (f1 1)), .val (.int jv_13)] [])) _
    refine XS.goto X_13.here hx rfl (pc0 := 119) (pc' := 37) rfl (hb hby d1_119) (by decide) (by decide) ?_
    show Steps p.tables e below (T_13.setTop (mkF m 37 #[.val (.ref a1), .val (.int (4 : Int32)), .val (.ref b_3), .val (.int (2 : Int32)), .val (.int (f1 1)), .val (.int jv_13)] [])) _
    refine XS.iloadN X_13.here hx rfl (hb hby d1_37) rfl ?_
    show Steps p.tables e below (T_13.setTop (mkF m 38 #[.val (.ref a1), .val (.int (4 : Int32)), .val (.ref b_3), .val (.int (2 : Int32)), .val (.int (f1 1)), .val (.int jv_13)] [(.int (2 : Int32))])) _
    refine XS.iloadN X_13.here hx rfl (hb hby d1_38) rfl ?_
    show Steps p.tables e below (T_13.setTop (mkF m 39 #[.val (.ref a1), .val (.int (4 : Int32)), .val (.ref b_3), .val (.int (2 : Int32)), .val (.int (f1 1)), .val (.int jv_13)] [(.int (4 : Int32)), (.int (2 : Int32))])) _
    refine XS.icmpNo X_13.here hx rfl (hb hby d1_39) rfl (tlt (by decide : (2 : Int32) < (4 : Int32))).2.1 ?_
    show Steps p.tables e below (T_13.setTop (mkF m 42 #[.val (.ref a1), .val (.int (4 : Int32)), .val (.ref b_3), .val (.int (2 : Int32)), .val (.int (f1 1)), .val (.int jv_13)] [])) _
    refine XS.aloadN X_13.here hx rfl (hb hby d1_42) rfl rfl ?_
    show Steps p.tables e below (T_13.setTop (mkF m 43 #[.val (.ref a1), .val (.int (4 : Int32)), .val (.ref b_3), .val (.int (2 : Int32)), .val (.int (f1 1)), .val (.int jv_13)] [(.ref a1)])) _
    refine XS.iloadN X_13.here hx rfl (hb hby d1_43) rfl ?_
    show Steps p.tables e below (T_13.setTop (mkF m 44 #[.val (.ref a1), .val (.int (4 : Int32)), .val (.ref b_3), .val (.int (2 : Int32)), .val (.int (f1 1)), .val (.int jv_13)] [(.int (2 : Int32)), (.ref a1)])) _
    refine X_13.iaload hx (j := (2 : Int32)) (v := (.int (f1 2))) (by rw [e_13]; exact Ar_14.1) (State.isArrayOf_alike hZ.alike Ar_14.2.1) Ar_14.2.2 (own_inb Sz_14 (show ¬ ((2 : Int32) < 0 ∨ 4 ≤ ((2 : Int32)).toNatClampNeg) from (by decide))) (by have q := At_14 _ (own_ltn (show ¬ ((2 : Int32) < 0 ∨ 4 ≤ ((2 : Int32)).toNatClampNeg) from (by decide))); rw [show ((2 : Int32)).toNatClampNeg = 2 from by decide] at q ⊢; exact q) (g := (mkF m 44 #[.val (.ref a1), .val (.int (4 : Int32)), .val (.ref b_3), .val (.int (2 : Int32)), .val (.int (f1 1)), .val (.int jv_13)] [(.int (2 : Int32)), (.ref a1)])) rfl rfl (hb hby d1_44) _ ?_
    show Steps p.tables e below (T_13.setTop (mkF m 45 #[.val (.ref a1), .val (.int (4 : Int32)), .val (.ref b_3), .val (.int (2 : Int32)), .val (.int (f1 1)), .val (.int jv_13)] [(.int (f1 2))])) _
    refine XS.istore X_13.here hx rfl (hb hby d1_45) rfl (l' := #[.val (.ref a1), .val (.int (4 : Int32)), .val (.ref b_3), .val (.int (2 : Int32)), .val (.int (f1 2)), .val (.int jv_13)]) rfl ?_
    show Steps p.tables e below (T_13.setTop (mkF m 47 #[.val (.ref a1), .val (.int (4 : Int32)), .val (.ref b_3), .val (.int (2 : Int32)), .val (.int (f1 2)), .val (.int jv_13)] [])) _
    refine XS.iload X_13.here hx rfl (hb hby d1_47) rfl ?_
    show Steps p.tables e below (T_13.setTop (mkF m 49 #[.val (.ref a1), .val (.int (4 : Int32)), .val (.ref b_3), .val (.int (2 : Int32)), .val (.int (f1 2)), .val (.int jv_13)] [(.int (f1 2))])) _
    refine XS.ifNo X_13.here hx rfl (hb hby d1_49) rfl ((if0 _ _).trans (flt (hz2 : ¬ ((f1 2) < (0 : Int32)))).1) ?_
    show Steps p.tables e below (T_13.setTop (mkF m 52 #[.val (.ref a1), .val (.int (4 : Int32)), .val (.ref b_3), .val (.int (2 : Int32)), .val (.int (f1 2)), .val (.int jv_13)] [])) _
    refine XS.iload X_13.here hx rfl (hb hby d1_52) rfl ?_
    show Steps p.tables e below (T_13.setTop (mkF m 54 #[.val (.ref a1), .val (.int (4 : Int32)), .val (.ref b_3), .val (.int (2 : Int32)), .val (.int (f1 2)), .val (.int jv_13)] [(.int (f1 2))])) _
    refine XS.iloadN X_13.here hx rfl (hb hby d1_54) rfl ?_
    show Steps p.tables e below (T_13.setTop (mkF m 55 #[.val (.ref a1), .val (.int (4 : Int32)), .val (.ref b_3), .val (.int (2 : Int32)), .val (.int (f1 2)), .val (.int jv_13)] [(.int (4 : Int32)), (.int (f1 2))])) _
    refine XS.iloadN X_13.here hx rfl (hb hby d1_55) rfl ?_
    show Steps p.tables e below (T_13.setTop (mkF m 56 #[.val (.ref a1), .val (.int (4 : Int32)), .val (.ref b_3), .val (.int (2 : Int32)), .val (.int (f1 2)), .val (.int jv_13)] [(.int (2 : Int32)), (.int (4 : Int32)), (.int (f1 2))])) _
    refine XS.isub X_13.here hx rfl (hb hby d1_56) rfl ?_
    show Steps p.tables e below (T_13.setTop (mkF m 57 #[.val (.ref a1), .val (.int (4 : Int32)), .val (.ref b_3), .val (.int (2 : Int32)), .val (.int (f1 2)), .val (.int jv_13)] [(.int (2 : Int32)), (.int (f1 2))])) _
    refine XS.icmpYes X_13.here hx rfl (pc0 := 57) (pc' := 80) rfl (hb hby d1_57) rfl (flt (hy2 : ¬ ((2 : Int32) < (f1 2)))).2.2.2 (by decide) (by decide) ?_
    show Steps p.tables e below (T_13.setTop (mkF m 80 #[.val (.ref a1), .val (.int (4 : Int32)), .val (.ref b_3), .val (.int (2 : Int32)), .val (.int (f1 2)), .val (.int jv_13)] [])) _
    refine XS.iload X_13.here hx rfl (hb hby d1_80) rfl ?_
    show Steps p.tables e below (T_13.setTop (mkF m 82 #[.val (.ref a1), .val (.int (4 : Int32)), .val (.ref b_3), .val (.int (2 : Int32)), .val (.int (f1 2)), .val (.int jv_13)] [(.int (f1 2))])) _
    refine XS.iconst X_13.here hx rfl (hb hby d1_82) ?_
    show Steps p.tables e below (T_13.setTop (mkF m 83 #[.val (.ref a1), .val (.int (4 : Int32)), .val (.ref b_3), .val (.int (2 : Int32)), .val (.int (f1 2)), .val (.int jv_13)] [(.int (1 : Int32)), (.int (f1 2))])) _
    refine XS.isub X_13.here hx rfl (hb hby d1_83) rfl ?_
    show Steps p.tables e below (T_13.setTop (mkF m 84 #[.val (.ref a1), .val (.int (4 : Int32)), .val (.ref b_3), .val (.int (2 : Int32)), .val (.int (f1 2)), .val (.int jv_13)] [(.int ((f1 2) - (1 : Int32)))])) _
    refine XS.istore X_13.here hx rfl (hb hby d1_84) rfl (l' := #[.val (.ref a1), .val (.int (4 : Int32)), .val (.ref b_3), .val (.int (2 : Int32)), .val (.int (f1 2)), .val (.int ((f1 2) - (1 : Int32)))]) rfl ?_
    exact k
  obtain ⟨T_16, h_16, L_16, jv_16, X_16, e_16, hFr_16, Kc_16, F_16, st_16⟩ := loopI (2 : Int32) (f1 2) 2 rfl ((f1 2)).toNatClampNeg (((f1 2) - (1 : Int32))) T_13 h_13 _ (own_inner 1 ((f1 1)).toNatClampNeg (fun _ => 0)) (own_start hz2) (own_bound hz2 hy2 (n := 4) rfl rfl (by decide) (by decide)) X_13 e_13 F_13
  have N_16 := hFr_16 n0 g_b_3 N_13
  have f_16_0 : own_arr .int Z h_16 a1 4 f1 := f_13_0.keep Kc_16 (by simp [ne_a1_b_3])
  have Z_16 : n0 ≤ h_16.size := Nat.le_trans Z_13 Kc_16.1
  have K_16 : Keep h0 h_16 [] := K_13.trans Kc_16 (fun x hx => by cases List.mem_singleton.mp hx; exact Or.inr sz_b_3)
  have fo_17 := f_16_0
  obtain ⟨cl_17, Ar_17, Sz_17, At_17⟩ := fo_17
  have pr_18 : ∀ t, Steps p.tables e below (T_16.setTop (mkF m 86 #[.val (.ref a1), .val (.int (4 : Int32)), .val (.ref b_3), .val (.int (3 : Int32)), .val (.int (f1 3)), .val (.int ((f1 3) - (1 : Int32)))] [])) t → Steps p.tables e below (s₁.setTop (entryFrame m #[(.ref a1)] 6)) t := fun t k => by
    refine pr_15 _ ?_
    show Steps p.tables e below (T_13.setTop (mkF m 86 #[.val (.ref a1), .val (.int (4 : Int32)), .val (.ref b_3), .val (.int (2 : Int32)), .val (.int (f1 2)), .val (.int ((f1 2) - (1 : Int32)))] [])) _
    refine st_16 _ ?_
    show Steps p.tables e below (T_16.setTop (mkF m 116 #[.val (.ref a1), .val (.int (4 : Int32)), .val (.ref b_3), .val (.int (2 : Int32)), .val (.int (f1 2)), .val (.int jv_16)] [])) _
    refine XS.iinc X_16.here hx rfl (hb hby d1_116) rfl (l' := #[.val (.ref a1), .val (.int (4 : Int32)), .val (.ref b_3), .val (.int (3 : Int32)), .val (.int (f1 2)), .val (.int jv_16)]) rfl ?_
    show Steps p.tables e below (T_16.setTop (mkF m 119 #[.val (.ref a1), .val (.int (4 : Int32)), .val (.ref b_3), .val (.int (3 : Int32)), .val (.int (f1 2)), .val (.int jv_16)] [])) _
    refine XS.goto X_16.here hx rfl (pc0 := 119) (pc' := 37) rfl (hb hby d1_119) (by decide) (by decide) ?_
    show Steps p.tables e below (T_16.setTop (mkF m 37 #[.val (.ref a1), .val (.int (4 : Int32)), .val (.ref b_3), .val (.int (3 : Int32)), .val (.int (f1 2)), .val (.int jv_16)] [])) _
    refine XS.iloadN X_16.here hx rfl (hb hby d1_37) rfl ?_
    show Steps p.tables e below (T_16.setTop (mkF m 38 #[.val (.ref a1), .val (.int (4 : Int32)), .val (.ref b_3), .val (.int (3 : Int32)), .val (.int (f1 2)), .val (.int jv_16)] [(.int (3 : Int32))])) _
    refine XS.iloadN X_16.here hx rfl (hb hby d1_38) rfl ?_
    show Steps p.tables e below (T_16.setTop (mkF m 39 #[.val (.ref a1), .val (.int (4 : Int32)), .val (.ref b_3), .val (.int (3 : Int32)), .val (.int (f1 2)), .val (.int jv_16)] [(.int (4 : Int32)), (.int (3 : Int32))])) _
    refine XS.icmpNo X_16.here hx rfl (hb hby d1_39) rfl (tlt (by decide : (3 : Int32) < (4 : Int32))).2.1 ?_
    show Steps p.tables e below (T_16.setTop (mkF m 42 #[.val (.ref a1), .val (.int (4 : Int32)), .val (.ref b_3), .val (.int (3 : Int32)), .val (.int (f1 2)), .val (.int jv_16)] [])) _
    refine XS.aloadN X_16.here hx rfl (hb hby d1_42) rfl rfl ?_
    show Steps p.tables e below (T_16.setTop (mkF m 43 #[.val (.ref a1), .val (.int (4 : Int32)), .val (.ref b_3), .val (.int (3 : Int32)), .val (.int (f1 2)), .val (.int jv_16)] [(.ref a1)])) _
    refine XS.iloadN X_16.here hx rfl (hb hby d1_43) rfl ?_
    show Steps p.tables e below (T_16.setTop (mkF m 44 #[.val (.ref a1), .val (.int (4 : Int32)), .val (.ref b_3), .val (.int (3 : Int32)), .val (.int (f1 2)), .val (.int jv_16)] [(.int (3 : Int32)), (.ref a1)])) _
    refine X_16.iaload hx (j := (3 : Int32)) (v := (.int (f1 3))) (by rw [e_16]; exact Ar_17.1) (State.isArrayOf_alike hZ.alike Ar_17.2.1) Ar_17.2.2 (own_inb Sz_17 (show ¬ ((3 : Int32) < 0 ∨ 4 ≤ ((3 : Int32)).toNatClampNeg) from (by decide))) (by have q := At_17 _ (own_ltn (show ¬ ((3 : Int32) < 0 ∨ 4 ≤ ((3 : Int32)).toNatClampNeg) from (by decide))); rw [show ((3 : Int32)).toNatClampNeg = 3 from by decide] at q ⊢; exact q) (g := (mkF m 44 #[.val (.ref a1), .val (.int (4 : Int32)), .val (.ref b_3), .val (.int (3 : Int32)), .val (.int (f1 2)), .val (.int jv_16)] [(.int (3 : Int32)), (.ref a1)])) rfl rfl (hb hby d1_44) _ ?_
    show Steps p.tables e below (T_16.setTop (mkF m 45 #[.val (.ref a1), .val (.int (4 : Int32)), .val (.ref b_3), .val (.int (3 : Int32)), .val (.int (f1 2)), .val (.int jv_16)] [(.int (f1 3))])) _
    refine XS.istore X_16.here hx rfl (hb hby d1_45) rfl (l' := #[.val (.ref a1), .val (.int (4 : Int32)), .val (.ref b_3), .val (.int (3 : Int32)), .val (.int (f1 3)), .val (.int jv_16)]) rfl ?_
    show Steps p.tables e below (T_16.setTop (mkF m 47 #[.val (.ref a1), .val (.int (4 : Int32)), .val (.ref b_3), .val (.int (3 : Int32)), .val (.int (f1 3)), .val (.int jv_16)] [])) _
    refine XS.iload X_16.here hx rfl (hb hby d1_47) rfl ?_
    show Steps p.tables e below (T_16.setTop (mkF m 49 #[.val (.ref a1), .val (.int (4 : Int32)), .val (.ref b_3), .val (.int (3 : Int32)), .val (.int (f1 3)), .val (.int jv_16)] [(.int (f1 3))])) _
    refine XS.ifNo X_16.here hx rfl (hb hby d1_49) rfl ((if0 _ _).trans (flt (hz3 : ¬ ((f1 3) < (0 : Int32)))).1) ?_
    show Steps p.tables e below (T_16.setTop (mkF m 52 #[.val (.ref a1), .val (.int (4 : Int32)), .val (.ref b_3), .val (.int (3 : Int32)), .val (.int (f1 3)), .val (.int jv_16)] [])) _
    refine XS.iload X_16.here hx rfl (hb hby d1_52) rfl ?_
    show Steps p.tables e below (T_16.setTop (mkF m 54 #[.val (.ref a1), .val (.int (4 : Int32)), .val (.ref b_3), .val (.int (3 : Int32)), .val (.int (f1 3)), .val (.int jv_16)] [(.int (f1 3))])) _
    refine XS.iloadN X_16.here hx rfl (hb hby d1_54) rfl ?_
    show Steps p.tables e below (T_16.setTop (mkF m 55 #[.val (.ref a1), .val (.int (4 : Int32)), .val (.ref b_3), .val (.int (3 : Int32)), .val (.int (f1 3)), .val (.int jv_16)] [(.int (4 : Int32)), (.int (f1 3))])) _
    refine XS.iloadN X_16.here hx rfl (hb hby d1_55) rfl ?_
    show Steps p.tables e below (T_16.setTop (mkF m 56 #[.val (.ref a1), .val (.int (4 : Int32)), .val (.ref b_3), .val (.int (3 : Int32)), .val (.int (f1 3)), .val (.int jv_16)] [(.int (3 : Int32)), (.int (4 : Int32)), (.int (f1 3))])) _
    refine XS.isub X_16.here hx rfl (hb hby d1_56) rfl ?_
    show Steps p.tables e below (T_16.setTop (mkF m 57 #[.val (.ref a1), .val (.int (4 : Int32)), .val (.ref b_3), .val (.int (3 : Int32)), .val (.int (f1 3)), .val (.int jv_16)] [(.int (1 : Int32)), (.int (f1 3))])) _
    refine XS.icmpYes X_16.here hx rfl (pc0 := 57) (pc' := 80) rfl (hb hby d1_57) rfl (flt (hy3 : ¬ ((1 : Int32) < (f1 3)))).2.2.2 (by decide) (by decide) ?_
    show Steps p.tables e below (T_16.setTop (mkF m 80 #[.val (.ref a1), .val (.int (4 : Int32)), .val (.ref b_3), .val (.int (3 : Int32)), .val (.int (f1 3)), .val (.int jv_16)] [])) _
    refine XS.iload X_16.here hx rfl (hb hby d1_80) rfl ?_
    show Steps p.tables e below (T_16.setTop (mkF m 82 #[.val (.ref a1), .val (.int (4 : Int32)), .val (.ref b_3), .val (.int (3 : Int32)), .val (.int (f1 3)), .val (.int jv_16)] [(.int (f1 3))])) _
    refine XS.iconst X_16.here hx rfl (hb hby d1_82) ?_
    show Steps p.tables e below (T_16.setTop (mkF m 83 #[.val (.ref a1), .val (.int (4 : Int32)), .val (.ref b_3), .val (.int (3 : Int32)), .val (.int (f1 3)), .val (.int jv_16)] [(.int (1 : Int32)), (.int (f1 3))])) _
    refine XS.isub X_16.here hx rfl (hb hby d1_83) rfl ?_
    show Steps p.tables e below (T_16.setTop (mkF m 84 #[.val (.ref a1), .val (.int (4 : Int32)), .val (.ref b_3), .val (.int (3 : Int32)), .val (.int (f1 3)), .val (.int jv_16)] [(.int ((f1 3) - (1 : Int32)))])) _
    refine XS.istore X_16.here hx rfl (hb hby d1_84) rfl (l' := #[.val (.ref a1), .val (.int (4 : Int32)), .val (.ref b_3), .val (.int (3 : Int32)), .val (.int (f1 3)), .val (.int ((f1 3) - (1 : Int32)))]) rfl ?_
    exact k
  obtain ⟨T_19, h_19, L_19, jv_19, X_19, e_19, hFr_19, Kc_19, F_19, st_19⟩ := loopI (3 : Int32) (f1 3) 3 rfl ((f1 3)).toNatClampNeg (((f1 3) - (1 : Int32))) T_16 h_16 _ (own_inner 2 ((f1 2)).toNatClampNeg (own_inner 1 ((f1 1)).toNatClampNeg (fun _ => 0))) (own_start hz3) (own_bound hz3 hy3 (n := 4) rfl rfl (by decide) (by decide)) X_16 e_16 F_16
  have N_19 := hFr_19 n0 g_b_3 N_16
  have f_19_0 : own_arr .int Z h_19 a1 4 f1 := f_16_0.keep Kc_19 (by simp [ne_a1_b_3])
  have Z_19 : n0 ≤ h_19.size := Nat.le_trans Z_16 Kc_19.1
  have K_19 : Keep h0 h_19 [] := K_16.trans Kc_19 (fun x hx => by cases List.mem_singleton.mp hx; exact Or.inr sz_b_3)
  obtain ⟨fs, hr, hrun, hended, hW, hsame⟩ := X_19.leave (v := some (.ref b_3)) (fun h => by rw [Bd.returns] at h; cases h)
  refine ⟨_, _, pr_18 _ ?_, hrun, hended, _, _, rfl, ?_, ⟨_, rfl⟩, hW, hsame.mono (by decide) (by decide)⟩
  · show Steps p.tables e below (T_16.setTop (mkF m 86 #[.val (.ref a1), .val (.int (4 : Int32)), .val (.ref b_3), .val (.int (3 : Int32)), .val (.int (f1 3)), .val (.int ((f1 3) - (1 : Int32)))] [])) _
    refine st_19 _ ?_
    show Steps p.tables e below (T_19.setTop (mkF m 116 #[.val (.ref a1), .val (.int (4 : Int32)), .val (.ref b_3), .val (.int (3 : Int32)), .val (.int (f1 3)), .val (.int jv_19)] [])) _
    refine XS.iinc X_19.here hx rfl (hb hby d1_116) rfl (l' := #[.val (.ref a1), .val (.int (4 : Int32)), .val (.ref b_3), .val (.int (4 : Int32)), .val (.int (f1 3)), .val (.int jv_19)]) rfl ?_
    show Steps p.tables e below (T_19.setTop (mkF m 119 #[.val (.ref a1), .val (.int (4 : Int32)), .val (.ref b_3), .val (.int (4 : Int32)), .val (.int (f1 3)), .val (.int jv_19)] [])) _
    refine XS.goto X_19.here hx rfl (pc0 := 119) (pc' := 37) rfl (hb hby d1_119) (by decide) (by decide) ?_
    show Steps p.tables e below (T_19.setTop (mkF m 37 #[.val (.ref a1), .val (.int (4 : Int32)), .val (.ref b_3), .val (.int (4 : Int32)), .val (.int (f1 3)), .val (.int jv_19)] [])) _
    refine XS.iloadN X_19.here hx rfl (hb hby d1_37) rfl ?_
    show Steps p.tables e below (T_19.setTop (mkF m 38 #[.val (.ref a1), .val (.int (4 : Int32)), .val (.ref b_3), .val (.int (4 : Int32)), .val (.int (f1 3)), .val (.int jv_19)] [(.int (4 : Int32))])) _
    refine XS.iloadN X_19.here hx rfl (hb hby d1_38) rfl ?_
    show Steps p.tables e below (T_19.setTop (mkF m 39 #[.val (.ref a1), .val (.int (4 : Int32)), .val (.ref b_3), .val (.int (4 : Int32)), .val (.int (f1 3)), .val (.int jv_19)] [(.int (4 : Int32)), (.int (4 : Int32))])) _
    refine XS.icmpYes X_19.here hx rfl (pc0 := 39) (pc' := 122) rfl (hb hby d1_39) rfl (flt (by decide : ¬ ((4 : Int32) < (4 : Int32)))).2.1 (by decide) (by decide) ?_
    show Steps p.tables e below (T_19.setTop (mkF m 122 #[.val (.ref a1), .val (.int (4 : Int32)), .val (.ref b_3), .val (.int (4 : Int32)), .val (.int (f1 3)), .val (.int jv_19)] [])) _
    refine XS.aloadN X_19.here hx rfl (hb hby d1_122) rfl rfl ?_
    show Steps p.tables e below (T_19.setTop (mkF m 123 #[.val (.ref a1), .val (.int (4 : Int32)), .val (.ref b_3), .val (.int (4 : Int32)), .val (.int (f1 3)), .val (.int jv_19)] [(.ref b_3)])) _
    exact retOut X_19 hx Bd.returns rfl (Or.inr (Or.inr (Or.inr (Or.inr ⟨rfl, rfl, rfl⟩)))) (hb hby d1_123) hr
  · show Q1_4 Z a1 f1 h0 n0 _ T_19.heap _
    rw [e_19]
    exact ⟨b_3, rfl, N_19, K_19, F_19⟩
def Q1_5 (Z : State) (a1 : Addr) (f1 : Nat → Int32) (h0 : Heap) (n0 : Nat) (v : Option Value) (h : Heap) (L : List Loc) : Prop := ∃ r, v = some (.ref r) ∧ Fr n0 L ∧ Keep h0 h [] ∧ own_arr .int Z h r 5 (own_out 5 f1)
set_option maxRecDepth 65536 in
set_option maxHeartbeats 40000000 in
theorem rm1_5 (l : Launch) (Z : State) (a0 : Array Value) (hw : ∀ d ∈ tables_1, d.before a0 Z = true) (ws : List Jvm.Cond) (a1 : Addr) (f1 : Nat → Int32) (h0 : Heap) (n0 : Nat) (Z0 : n0 ≤ h0.size) (F0 : own_arr .int Z h0 a1 5 f1) (hz0 : f1 0 = (5 : Int32)) (hz1 : ¬ ((f1 1) < (0 : Int32))) (hy1 : ¬ (((5 : Int32) - (1 : Int32)) < (f1 1))) (hz2 : ¬ ((f1 2) < (0 : Int32))) (hy2 : ¬ (((5 : Int32) - (2 : Int32)) < (f1 2))) (hz3 : ¬ ((f1 3) < (0 : Int32))) (hy3 : ¬ (((5 : Int32) - (3 : Int32)) < (f1 3))) (hz4 : ¬ ((f1 4) < (0 : Int32))) (hy4 : ¬ (((5 : Int32) - (4 : Int32)) < (f1 4))) :
    MetFree l (⟨"com/example/borderwork/borderwork/zarrays/ZArrays", "toBorderArray", "([I)[I"⟩ : MethodName) (head1 (Jvm.Cond.code (⟨"com/example/borderwork/borderwork/zarrays/ZArrays", "toBorderArray", "([I)[I"⟩ : MethodName) prog_20_method_8_code 6 (some (.array .int)) :: ws) ({ frames := 0, cells := 1, slots := 5, locals := 0 } : Room)) (fun a U => a = #[(.ref a1)] ∧ Z.Warmed39 U.vm ∧ U.heap = h0) (fun _ _ _ _ _ => True) (fun _ U o U' => ∃ v L, o = .returned v ∧ Q1_5 Z a1 f1 h0 n0 v U'.heap L ∧ FrameEnd U o U' L ({ frames := 0, cells := 1, slots := 5, locals := 0 } : Room).cells ({ frames := 0, cells := 1, slots := 5, locals := 0 } : Room).slots) := by
  refine MetFree.of_bodySF (plainFor_of_name pn_1) hisR ?_
  intro p e s m args below meth c s₁ Bd hml0 hP hK
  obtain ⟨rfl, hZ, hh⟩ := hP
  have hx := Bd.exec
  have hby := Bd.bytes
  have hml : c.maxLocals = 6 := hml0
  have hown : s.vm.findClass "com/example/borderwork/borderwork/zarrays/ZArrays" = some m.cls := findClass_of_methodNamed Bd.named
  have hnm := (name_of_methodNamed Bd.named Bd.method).1
  have X0 : Stand p l e ({ frames := 0, cells := 1, slots := 5, locals := 0 } : Room) s m #[(.ref a1)] below meth c s₁ [] 0 0 := Stand.of_body Bd
  have e0 : s₁.heap = h0 := by rw [← hh, Bd.state]; rfl
  have N0 := Fr.nil n0
  have pre0 : ∀ t, Steps p.tables e below (s₁.setTop (mkF m 0 #[.val (.ref a1), .unset, .unset, .unset, .unset, .unset] [])) t → Steps p.tables e below (s₁.setTop (entryFrame m #[(.ref a1)] 6)) t := fun t k => castTop (ef_1_R m a1) k
  have fo_2 := F0
  obtain ⟨cl_2, Ar_2, Sz_2, At_2⟩ := fo_2
  obtain ⟨T_3, h_3, k_3, X_3, e_3, E_3, A_3, st_3⟩ := newP X0 hx hZ (hw _ (List.mem_of_getElem? (i := 1) rfl)) e0 (g := (mkF m 32 #[.val (.ref a1), .val (.int (5 : Int32)), .unset, .unset, .unset, .unset] [(.int (5 : Int32))])) rfl (hb hby d1_32) rfl (by decide) (cap := 5) (by decide) (by decide) (by decide) (by decide)
  obtain ⟨b_3, g_3⟩ : ∃ z, z = h0.size := ⟨_, rfl⟩
  rw [← g_3] at A_3 st_3
  have ne_a1_b_3 : a1 ≠ b_3 := Nat.ne_of_lt (Nat.lt_of_lt_of_le F0.lt (Nat.le_of_eq g_3.symm))
  have g_b_3 : n0 ≤ b_3 := Nat.le_trans Z0 (Nat.le_of_eq g_3.symm)
  have sz_b_3 : h0.size ≤ b_3 := Nat.le_trans ((Keep.refl h0 [])).1 (Nat.le_of_eq g_3.symm)
  have f_3_0 : own_arr .int Z h_3 a1 5 f1 := F0.ext E_3
  have Z_3 : n0 ≤ h_3.size := Nat.le_trans Z0 E_3.1
  have K_3 : Keep h0 h_3 [] := (Keep.refl h0 []).ext E_3
  have fa_3 : own_arr .int Z h_3 b_3 5 (fun _ => 0) := own_arr.newI A_3 rfl
  have fo_4 := f_3_0
  obtain ⟨cl_4, Ar_4, Sz_4, At_4⟩ := fo_4
  have pr_5 : ∀ t, Steps p.tables e below (T_3.setTop (mkF m 86 #[.val (.ref a1), .val (.int (5 : Int32)), .val (.ref b_3), .val (.int (1 : Int32)), .val (.int (f1 1)), .val (.int ((f1 1) - (1 : Int32)))] [])) t → Steps p.tables e below (s₁.setTop (entryFrame m #[(.ref a1)] 6)) t := fun t k => by
    refine pre0 _ ?_
    show Steps p.tables e below (s₁.setTop (mkF m 0 #[.val (.ref a1), .unset, .unset, .unset, .unset, .unset] [])) _
    refine XS.aloadN X0.here hx rfl (hb hby d1_0) rfl rfl ?_
    show Steps p.tables e below (s₁.setTop (mkF m 1 #[.val (.ref a1), .unset, .unset, .unset, .unset, .unset] [(.ref a1)])) _
    refine X0.arraylength hx (by rw [e0]; exact Ar_2.1) (State.isArrayOf_alike hZ.alike Ar_2.2.1) (g := (mkF m 1 #[.val (.ref a1), .unset, .unset, .unset, .unset, .unset] [(.ref a1)])) rfl rfl (hb hby d1_1) _ ?_
    rw [Sz_2]
    show Steps p.tables e below (s₁.setTop (mkF m 2 #[.val (.ref a1), .unset, .unset, .unset, .unset, .unset] [(.int (5 : Int32))])) _
    refine XS.istoreN X0.here hx rfl (hb hby d1_2) rfl (l' := #[.val (.ref a1), .val (.int (5 : Int32)), .unset, .unset, .unset, .unset]) rfl ?_
    show Steps p.tables e below (s₁.setTop (mkF m 3 #[.val (.ref a1), .val (.int (5 : Int32)), .unset, .unset, .unset, .unset] [])) _
    refine XS.iloadN X0.here hx rfl (hb hby d1_3) rfl ?_
    show Steps p.tables e below (s₁.setTop (mkF m 4 #[.val (.ref a1), .val (.int (5 : Int32)), .unset, .unset, .unset, .unset] [(.int (5 : Int32))])) _
    refine XS.ifNo X0.here hx rfl (hb hby d1_4) rfl ((if0 _ _).trans (tlt (by decide : (0 : Int32) < (5 : Int32))).2.2.2) ?_
    show Steps p.tables e below (s₁.setTop (mkF m 7 #[.val (.ref a1), .val (.int (5 : Int32)), .unset, .unset, .unset, .unset] [])) _
    refine XS.aloadN X0.here hx rfl (hb hby d1_7) rfl rfl ?_
    show Steps p.tables e below (s₁.setTop (mkF m 8 #[.val (.ref a1), .val (.int (5 : Int32)), .unset, .unset, .unset, .unset] [(.ref a1)])) _
    refine XS.iconst X0.here hx rfl (hb hby d1_8) ?_
    show Steps p.tables e below (s₁.setTop (mkF m 9 #[.val (.ref a1), .val (.int (5 : Int32)), .unset, .unset, .unset, .unset] [(.int (0 : Int32)), (.ref a1)])) _
    refine X0.iaload hx (j := (0 : Int32)) (v := (.int (f1 0))) (by rw [e0]; exact Ar_2.1) (State.isArrayOf_alike hZ.alike Ar_2.2.1) Ar_2.2.2 (own_inb Sz_2 (show ¬ ((0 : Int32) < 0 ∨ 5 ≤ ((0 : Int32)).toNatClampNeg) from (by decide))) (by have q := At_2 _ (own_ltn (show ¬ ((0 : Int32) < 0 ∨ 5 ≤ ((0 : Int32)).toNatClampNeg) from (by decide))); rw [show ((0 : Int32)).toNatClampNeg = 0 from by decide] at q ⊢; exact q) (g := (mkF m 9 #[.val (.ref a1), .val (.int (5 : Int32)), .unset, .unset, .unset, .unset] [(.int (0 : Int32)), (.ref a1)])) rfl rfl (hb hby d1_9) _ ?_
    show Steps p.tables e below (s₁.setTop (mkF m 10 #[.val (.ref a1), .val (.int (5 : Int32)), .unset, .unset, .unset, .unset] [(.int (f1 0))])) _
    refine XS.iloadN X0.here hx rfl (hb hby d1_10) rfl ?_
    show Steps p.tables e below (s₁.setTop (mkF m 11 #[.val (.ref a1), .val (.int (5 : Int32)), .unset, .unset, .unset, .unset] [(.int (5 : Int32)), (.int (f1 0))])) _
    refine XS.icmpYes X0.here hx rfl (pc0 := 11) (pc' := 31) rfl (hb hby d1_11) rfl (teq (hz0 : (f1 0) = (5 : Int32))).1 (by decide) (by decide) ?_
    show Steps p.tables e below (s₁.setTop (mkF m 31 #[.val (.ref a1), .val (.int (5 : Int32)), .unset, .unset, .unset, .unset] [])) _
    refine XS.iloadN X0.here hx rfl (hb hby d1_31) rfl ?_
    show Steps p.tables e below (s₁.setTop (mkF m 32 #[.val (.ref a1), .val (.int (5 : Int32)), .unset, .unset, .unset, .unset] [(.int (5 : Int32))])) _
    refine st_3 _ ?_
    show Steps p.tables e below (T_3.setTop (mkF m 34 #[.val (.ref a1), .val (.int (5 : Int32)), .unset, .unset, .unset, .unset] [(.ref b_3)])) _
    refine XS.astoreN X_3.here hx rfl (hb hby d1_34) rfl rfl (l' := #[.val (.ref a1), .val (.int (5 : Int32)), .val (.ref b_3), .unset, .unset, .unset]) rfl ?_
    show Steps p.tables e below (T_3.setTop (mkF m 35 #[.val (.ref a1), .val (.int (5 : Int32)), .val (.ref b_3), .unset, .unset, .unset] [])) _
    refine XS.iconst X_3.here hx rfl (hb hby d1_35) ?_
    show Steps p.tables e below (T_3.setTop (mkF m 36 #[.val (.ref a1), .val (.int (5 : Int32)), .val (.ref b_3), .unset, .unset, .unset] [(.int (1 : Int32))])) _
    refine XS.istoreN X_3.here hx rfl (hb hby d1_36) rfl (l' := #[.val (.ref a1), .val (.int (5 : Int32)), .val (.ref b_3), .val (.int (1 : Int32)), .unset, .unset]) rfl ?_
    show Steps p.tables e below (T_3.setTop (mkF m 37 #[.val (.ref a1), .val (.int (5 : Int32)), .val (.ref b_3), .val (.int (1 : Int32)), .unset, .unset] [])) _
    refine XS.iloadN X_3.here hx rfl (hb hby d1_37) rfl ?_
    show Steps p.tables e below (T_3.setTop (mkF m 38 #[.val (.ref a1), .val (.int (5 : Int32)), .val (.ref b_3), .val (.int (1 : Int32)), .unset, .unset] [(.int (1 : Int32))])) _
    refine XS.iloadN X_3.here hx rfl (hb hby d1_38) rfl ?_
    show Steps p.tables e below (T_3.setTop (mkF m 39 #[.val (.ref a1), .val (.int (5 : Int32)), .val (.ref b_3), .val (.int (1 : Int32)), .unset, .unset] [(.int (5 : Int32)), (.int (1 : Int32))])) _
    refine XS.icmpNo X_3.here hx rfl (hb hby d1_39) rfl (tlt (by decide : (1 : Int32) < (5 : Int32))).2.1 ?_
    show Steps p.tables e below (T_3.setTop (mkF m 42 #[.val (.ref a1), .val (.int (5 : Int32)), .val (.ref b_3), .val (.int (1 : Int32)), .unset, .unset] [])) _
    refine XS.aloadN X_3.here hx rfl (hb hby d1_42) rfl rfl ?_
    show Steps p.tables e below (T_3.setTop (mkF m 43 #[.val (.ref a1), .val (.int (5 : Int32)), .val (.ref b_3), .val (.int (1 : Int32)), .unset, .unset] [(.ref a1)])) _
    refine XS.iloadN X_3.here hx rfl (hb hby d1_43) rfl ?_
    show Steps p.tables e below (T_3.setTop (mkF m 44 #[.val (.ref a1), .val (.int (5 : Int32)), .val (.ref b_3), .val (.int (1 : Int32)), .unset, .unset] [(.int (1 : Int32)), (.ref a1)])) _
    refine X_3.iaload hx (j := (1 : Int32)) (v := (.int (f1 1))) (by rw [e_3]; exact Ar_4.1) (State.isArrayOf_alike hZ.alike Ar_4.2.1) Ar_4.2.2 (own_inb Sz_4 (show ¬ ((1 : Int32) < 0 ∨ 5 ≤ ((1 : Int32)).toNatClampNeg) from (by decide))) (by have q := At_4 _ (own_ltn (show ¬ ((1 : Int32) < 0 ∨ 5 ≤ ((1 : Int32)).toNatClampNeg) from (by decide))); rw [show ((1 : Int32)).toNatClampNeg = 1 from by decide] at q ⊢; exact q) (g := (mkF m 44 #[.val (.ref a1), .val (.int (5 : Int32)), .val (.ref b_3), .val (.int (1 : Int32)), .unset, .unset] [(.int (1 : Int32)), (.ref a1)])) rfl rfl (hb hby d1_44) _ ?_
    show Steps p.tables e below (T_3.setTop (mkF m 45 #[.val (.ref a1), .val (.int (5 : Int32)), .val (.ref b_3), .val (.int (1 : Int32)), .unset, .unset] [(.int (f1 1))])) _
    refine XS.istore X_3.here hx rfl (hb hby d1_45) rfl (l' := #[.val (.ref a1), .val (.int (5 : Int32)), .val (.ref b_3), .val (.int (1 : Int32)), .val (.int (f1 1)), .unset]) rfl ?_
    show Steps p.tables e below (T_3.setTop (mkF m 47 #[.val (.ref a1), .val (.int (5 : Int32)), .val (.ref b_3), .val (.int (1 : Int32)), .val (.int (f1 1)), .unset] [])) _
    refine XS.iload X_3.here hx rfl (hb hby d1_47) rfl ?_
    show Steps p.tables e below (T_3.setTop (mkF m 49 #[.val (.ref a1), .val (.int (5 : Int32)), .val (.ref b_3), .val (.int (1 : Int32)), .val (.int (f1 1)), .unset] [(.int (f1 1))])) _
    refine XS.ifNo X_3.here hx rfl (hb hby d1_49) rfl ((if0 _ _).trans (flt (hz1 : ¬ ((f1 1) < (0 : Int32)))).1) ?_
    show Steps p.tables e below (T_3.setTop (mkF m 52 #[.val (.ref a1), .val (.int (5 : Int32)), .val (.ref b_3), .val (.int (1 : Int32)), .val (.int (f1 1)), .unset] [])) _
    refine XS.iload X_3.here hx rfl (hb hby d1_52) rfl ?_
    show Steps p.tables e below (T_3.setTop (mkF m 54 #[.val (.ref a1), .val (.int (5 : Int32)), .val (.ref b_3), .val (.int (1 : Int32)), .val (.int (f1 1)), .unset] [(.int (f1 1))])) _
    refine XS.iloadN X_3.here hx rfl (hb hby d1_54) rfl ?_
    show Steps p.tables e below (T_3.setTop (mkF m 55 #[.val (.ref a1), .val (.int (5 : Int32)), .val (.ref b_3), .val (.int (1 : Int32)), .val (.int (f1 1)), .unset] [(.int (5 : Int32)), (.int (f1 1))])) _
    refine XS.iloadN X_3.here hx rfl (hb hby d1_55) rfl ?_
    show Steps p.tables e below (T_3.setTop (mkF m 56 #[.val (.ref a1), .val (.int (5 : Int32)), .val (.ref b_3), .val (.int (1 : Int32)), .val (.int (f1 1)), .unset] [(.int (1 : Int32)), (.int (5 : Int32)), (.int (f1 1))])) _
    refine XS.isub X_3.here hx rfl (hb hby d1_56) rfl ?_
    show Steps p.tables e below (T_3.setTop (mkF m 57 #[.val (.ref a1), .val (.int (5 : Int32)), .val (.ref b_3), .val (.int (1 : Int32)), .val (.int (f1 1)), .unset] [(.int (4 : Int32)), (.int (f1 1))])) _
    refine XS.icmpYes X_3.here hx rfl (pc0 := 57) (pc' := 80) rfl (hb hby d1_57) rfl (flt (hy1 : ¬ ((4 : Int32) < (f1 1)))).2.2.2 (by decide) (by decide) ?_
    show Steps p.tables e below (T_3.setTop (mkF m 80 #[.val (.ref a1), .val (.int (5 : Int32)), .val (.ref b_3), .val (.int (1 : Int32)), .val (.int (f1 1)), .unset] [])) _
    refine XS.iload X_3.here hx rfl (hb hby d1_80) rfl ?_
    show Steps p.tables e below (T_3.setTop (mkF m 82 #[.val (.ref a1), .val (.int (5 : Int32)), .val (.ref b_3), .val (.int (1 : Int32)), .val (.int (f1 1)), .unset] [(.int (f1 1))])) _
    refine XS.iconst X_3.here hx rfl (hb hby d1_82) ?_
    show Steps p.tables e below (T_3.setTop (mkF m 83 #[.val (.ref a1), .val (.int (5 : Int32)), .val (.ref b_3), .val (.int (1 : Int32)), .val (.int (f1 1)), .unset] [(.int (1 : Int32)), (.int (f1 1))])) _
    refine XS.isub X_3.here hx rfl (hb hby d1_83) rfl ?_
    show Steps p.tables e below (T_3.setTop (mkF m 84 #[.val (.ref a1), .val (.int (5 : Int32)), .val (.ref b_3), .val (.int (1 : Int32)), .val (.int (f1 1)), .unset] [(.int ((f1 1) - (1 : Int32)))])) _
    refine XS.istore X_3.here hx rfl (hb hby d1_84) rfl (l' := #[.val (.ref a1), .val (.int (5 : Int32)), .val (.ref b_3), .val (.int (1 : Int32)), .val (.int (f1 1)), .val (.int ((f1 1) - (1 : Int32)))]) rfl ?_
    exact k
  have loopI : ∀ (i p4 : Int32) (iN : Nat), i.toInt = iN → ∀ (j : Nat) (jv : Int32) (T : State) (h : Heap) (locs : List Loc) (f : Nat → Int32), jv.toInt = (j : Int) - 1 → iN + j ≤ 5 → Stand p l e ({ frames := 0, cells := 1, slots := 5, locals := 0 } : Room) s m #[(.ref a1)] below meth c T locs (0 + 1) (0 + 5) → T.heap = h → own_arr .int Z h b_3 5 f → ∃ (T' : State) (h' : Heap) (locs' : List Loc) (jv' : Int32), Stand p l e ({ frames := 0, cells := 1, slots := 5, locals := 0 } : Room) s m #[(.ref a1)] below meth c T' locs' (0 + 1) (0 + 5) ∧ T'.heap = h' ∧ (∀ k0, k0 ≤ b_3 → Fr k0 locs → Fr k0 locs') ∧ Keep h h' [b_3] ∧ own_arr .int Z h' b_3 5 (own_inner iN j f) ∧ ∀ t, Steps p.tables e below (T'.setTop (mkF m 116 #[.val (.ref a1), .val (.int (5 : Int32)), .val (.ref b_3), .val (.int i), .val (.int p4), .val (.int jv')] [])) t → Steps p.tables e below (T.setTop (mkF m 86 #[.val (.ref a1), .val (.int (5 : Int32)), .val (.ref b_3), .val (.int i), .val (.int p4), .val (.int jv)] [])) t := by
    intro i p4 iN hi j
    induction j with
    | zero =>
      intro jv T h locs f hj hle X eh F
      have hneg : jv < (0 : Int32) := own_neg hj
      have pid : ∀ t, Steps p.tables e below (T.setTop (mkF m 86 #[.val (.ref a1), .val (.int (5 : Int32)), .val (.ref b_3), .val (.int i), .val (.int p4), .val (.int jv)] [])) t → Steps p.tables e below (T.setTop (mkF m 86 #[.val (.ref a1), .val (.int (5 : Int32)), .val (.ref b_3), .val (.int i), .val (.int p4), .val (.int jv)] [])) t := fun t k => k
      have pr_6 : ∀ t, Steps p.tables e below (T.setTop (mkF m 116 #[.val (.ref a1), .val (.int (5 : Int32)), .val (.ref b_3), .val (.int i), .val (.int p4), .val (.int jv)] [])) t → Steps p.tables e below (T.setTop (mkF m 86 #[.val (.ref a1), .val (.int (5 : Int32)), .val (.ref b_3), .val (.int i), .val (.int p4), .val (.int jv)] [])) t := fun t k => by
        refine pid _ ?_
        show Steps p.tables e below (T.setTop (mkF m 86 #[.val (.ref a1), .val (.int (5 : Int32)), .val (.ref b_3), .val (.int i), .val (.int p4), .val (.int jv)] [])) _
        refine XS.iload X.here hx rfl (hb hby d1_86) rfl ?_
        show Steps p.tables e below (T.setTop (mkF m 88 #[.val (.ref a1), .val (.int (5 : Int32)), .val (.ref b_3), .val (.int i), .val (.int p4), .val (.int jv)] [(.int jv)])) _
        refine XS.ifYes X.here hx rfl (pc0 := 88) (pc' := 116) rfl (hb hby d1_88) rfl ((if0 _ _).trans (tlt hneg).1) (by decide) (by decide) ?_
        exact k
      exact ⟨T, h, locs, jv, X, eh, fun _ _ q => q, Keep.refl _ _, F, pr_6⟩
    | succ j ih =>
      intro jv T h locs f hj hle X eh F
      obtain rfl : jv = Int32.ofNat j := own_jv hj (by omega)
      have hpos : ¬ (Int32.ofNat j < (0 : Int32)) := own_nn (by omega)
      have hix : (i + (Int32.ofNat j)).toNatClampNeg = iN + j := own_ix hi (by omega)
      have hin : ¬ ((i + (Int32.ofNat j)) < 0 ∨ 5 ≤ (i + (Int32.ofNat j)).toNatClampNeg) := by rw [hix, Int32.lt_iff_toInt_lt, own_sum hi (by omega), own_k0]; omega
      have pid : ∀ t, Steps p.tables e below (T.setTop (mkF m 86 #[.val (.ref a1), .val (.int (5 : Int32)), .val (.ref b_3), .val (.int i), .val (.int p4), .val (.int (Int32.ofNat j))] [])) t → Steps p.tables e below (T.setTop (mkF m 86 #[.val (.ref a1), .val (.int (5 : Int32)), .val (.ref b_3), .val (.int i), .val (.int p4), .val (.int (Int32.ofNat j))] [])) t := fun t k => k
      have fo_7 := F
      obtain ⟨cl_7, Ar_7, Sz_7, At_7⟩ := fo_7
      have pr_8 : ∀ t, Steps p.tables e below (T.setTop (mkF m 97 #[.val (.ref a1), .val (.int (5 : Int32)), .val (.ref b_3), .val (.int i), .val (.int p4), .val (.int (Int32.ofNat j))] [(.int (f (iN + j)))])) t → Steps p.tables e below (T.setTop (mkF m 86 #[.val (.ref a1), .val (.int (5 : Int32)), .val (.ref b_3), .val (.int i), .val (.int p4), .val (.int (Int32.ofNat j))] [])) t := fun t k => by
        refine pid _ ?_
        show Steps p.tables e below (T.setTop (mkF m 86 #[.val (.ref a1), .val (.int (5 : Int32)), .val (.ref b_3), .val (.int i), .val (.int p4), .val (.int (Int32.ofNat j))] [])) _
        refine XS.iload X.here hx rfl (hb hby d1_86) rfl ?_
        show Steps p.tables e below (T.setTop (mkF m 88 #[.val (.ref a1), .val (.int (5 : Int32)), .val (.ref b_3), .val (.int i), .val (.int p4), .val (.int (Int32.ofNat j))] [(.int (Int32.ofNat j))])) _
        refine XS.ifNo X.here hx rfl (hb hby d1_88) rfl ((if0 _ _).trans (flt hpos).1) ?_
        show Steps p.tables e below (T.setTop (mkF m 91 #[.val (.ref a1), .val (.int (5 : Int32)), .val (.ref b_3), .val (.int i), .val (.int p4), .val (.int (Int32.ofNat j))] [])) _
        refine XS.aloadN X.here hx rfl (hb hby d1_91) rfl rfl ?_
        show Steps p.tables e below (T.setTop (mkF m 92 #[.val (.ref a1), .val (.int (5 : Int32)), .val (.ref b_3), .val (.int i), .val (.int p4), .val (.int (Int32.ofNat j))] [(.ref b_3)])) _
        refine XS.iloadN X.here hx rfl (hb hby d1_92) rfl ?_
        show Steps p.tables e below (T.setTop (mkF m 93 #[.val (.ref a1), .val (.int (5 : Int32)), .val (.ref b_3), .val (.int i), .val (.int p4), .val (.int (Int32.ofNat j))] [(.int i), (.ref b_3)])) _
        refine XS.iload X.here hx rfl (hb hby d1_93) rfl ?_
        show Steps p.tables e below (T.setTop (mkF m 95 #[.val (.ref a1), .val (.int (5 : Int32)), .val (.ref b_3), .val (.int i), .val (.int p4), .val (.int (Int32.ofNat j))] [(.int (Int32.ofNat j)), (.int i), (.ref b_3)])) _
        refine XS.iadd X.here hx rfl (hb hby d1_95) rfl ?_
        show Steps p.tables e below (T.setTop (mkF m 96 #[.val (.ref a1), .val (.int (5 : Int32)), .val (.ref b_3), .val (.int i), .val (.int p4), .val (.int (Int32.ofNat j))] [(.int (i + (Int32.ofNat j))), (.ref b_3)])) _
        refine X.iaload hx (j := (i + (Int32.ofNat j))) (v := (.int (f (iN + j)))) (by rw [eh]; exact Ar_7.1) (State.isArrayOf_alike hZ.alike Ar_7.2.1) Ar_7.2.2 (own_inb Sz_7 hin) (by rw [hix]; exact At_7 _ (by omega)) (g := (mkF m 96 #[.val (.ref a1), .val (.int (5 : Int32)), .val (.ref b_3), .val (.int i), .val (.int p4), .val (.int (Int32.ofNat j))] [(.int (i + (Int32.ofNat j))), (.ref b_3)])) rfl rfl (hb hby d1_96) _ ?_
        exact k
      by_cases hc_9 : (f (iN + j)) = (0 : Int32)
      · have fo_10 := F
        obtain ⟨cl_10, Ar_10, Sz_10, At_10⟩ := fo_10
        obtain ⟨T_10, h_10, X_10, e_10, W_10, st_10⟩ := stI X hx hZ eh Ar_10 (j := (i + (Int32.ofNat j))) (own_inb Sz_10 hin) (g := (mkF m 109 #[.val (.ref a1), .val (.int (5 : Int32)), .val (.ref b_3), .val (.int i), .val (.int p4), .val (.int (Int32.ofNat j))] [(.int ((Int32.ofNat j) + (1 : Int32))), (.int (i + (Int32.ofNat j))), (.ref b_3)])) rfl rfl (hb hby d1_109)
        rw [hix] at W_10
        have fw_10 : own_arr .int Z h_10 b_3 5 (own_upd f (iN + j) ((Int32.ofNat j) + (1 : Int32))) := own_arr.set Ar_10 Sz_10 At_10 W_10
        have pr_11 : ∀ t, Steps p.tables e below (T_10.setTop (mkF m 86 #[.val (.ref a1), .val (.int (5 : Int32)), .val (.ref b_3), .val (.int i), .val (.int p4), .val (.int ((Int32.ofNat j) + (-1 : Int32)))] [])) t → Steps p.tables e below (T.setTop (mkF m 86 #[.val (.ref a1), .val (.int (5 : Int32)), .val (.ref b_3), .val (.int i), .val (.int p4), .val (.int (Int32.ofNat j))] [])) t := fun t k => by
          refine pr_8 _ ?_
          show Steps p.tables e below (T.setTop (mkF m 97 #[.val (.ref a1), .val (.int (5 : Int32)), .val (.ref b_3), .val (.int i), .val (.int p4), .val (.int (Int32.ofNat j))] [(.int (f (iN + j)))])) _
          refine XS.ifNo X.here hx rfl (hb hby d1_97) rfl ((if0 _ _).trans (teq hc_9).2) ?_
          show Steps p.tables e below (T.setTop (mkF m 100 #[.val (.ref a1), .val (.int (5 : Int32)), .val (.ref b_3), .val (.int i), .val (.int p4), .val (.int (Int32.ofNat j))] [])) _
          refine XS.aloadN X.here hx rfl (hb hby d1_100) rfl rfl ?_
          show Steps p.tables e below (T.setTop (mkF m 101 #[.val (.ref a1), .val (.int (5 : Int32)), .val (.ref b_3), .val (.int i), .val (.int p4), .val (.int (Int32.ofNat j))] [(.ref b_3)])) _
          refine XS.iloadN X.here hx rfl (hb hby d1_101) rfl ?_
          show Steps p.tables e below (T.setTop (mkF m 102 #[.val (.ref a1), .val (.int (5 : Int32)), .val (.ref b_3), .val (.int i), .val (.int p4), .val (.int (Int32.ofNat j))] [(.int i), (.ref b_3)])) _
          refine XS.iload X.here hx rfl (hb hby d1_102) rfl ?_
          show Steps p.tables e below (T.setTop (mkF m 104 #[.val (.ref a1), .val (.int (5 : Int32)), .val (.ref b_3), .val (.int i), .val (.int p4), .val (.int (Int32.ofNat j))] [(.int (Int32.ofNat j)), (.int i), (.ref b_3)])) _
          refine XS.iadd X.here hx rfl (hb hby d1_104) rfl ?_
          show Steps p.tables e below (T.setTop (mkF m 105 #[.val (.ref a1), .val (.int (5 : Int32)), .val (.ref b_3), .val (.int i), .val (.int p4), .val (.int (Int32.ofNat j))] [(.int (i + (Int32.ofNat j))), (.ref b_3)])) _
          refine XS.iload X.here hx rfl (hb hby d1_105) rfl ?_
          show Steps p.tables e below (T.setTop (mkF m 107 #[.val (.ref a1), .val (.int (5 : Int32)), .val (.ref b_3), .val (.int i), .val (.int p4), .val (.int (Int32.ofNat j))] [(.int (Int32.ofNat j)), (.int (i + (Int32.ofNat j))), (.ref b_3)])) _
          refine XS.iconst X.here hx rfl (hb hby d1_107) ?_
          show Steps p.tables e below (T.setTop (mkF m 108 #[.val (.ref a1), .val (.int (5 : Int32)), .val (.ref b_3), .val (.int i), .val (.int p4), .val (.int (Int32.ofNat j))] [(.int (1 : Int32)), (.int (Int32.ofNat j)), (.int (i + (Int32.ofNat j))), (.ref b_3)])) _
          refine XS.iadd X.here hx rfl (hb hby d1_108) rfl ?_
          show Steps p.tables e below (T.setTop (mkF m 109 #[.val (.ref a1), .val (.int (5 : Int32)), .val (.ref b_3), .val (.int i), .val (.int p4), .val (.int (Int32.ofNat j))] [(.int ((Int32.ofNat j) + (1 : Int32))), (.int (i + (Int32.ofNat j))), (.ref b_3)])) _
          refine st_10 _ ?_
          show Steps p.tables e below (T_10.setTop (mkF m 110 #[.val (.ref a1), .val (.int (5 : Int32)), .val (.ref b_3), .val (.int i), .val (.int p4), .val (.int (Int32.ofNat j))] [])) _
          refine XS.iinc X_10.here hx rfl (hb hby d1_110) rfl (l' := #[.val (.ref a1), .val (.int (5 : Int32)), .val (.ref b_3), .val (.int i), .val (.int p4), .val (.int ((Int32.ofNat j) + (-1 : Int32)))]) rfl ?_
          show Steps p.tables e below (T_10.setTop (mkF m 113 #[.val (.ref a1), .val (.int (5 : Int32)), .val (.ref b_3), .val (.int i), .val (.int p4), .val (.int ((Int32.ofNat j) + (-1 : Int32)))] [])) _
          refine XS.goto X_10.here hx rfl (pc0 := 113) (pc' := 86) rfl (hb hby d1_113) (by decide) (by decide) ?_
          exact k
        obtain ⟨T', h', locs', jv', X', eh', hFr, K', F', st'⟩ := ih (((Int32.ofNat j) + (-1 : Int32))) T_10 h_10 _ (own_upd f (iN + j) ((Int32.ofNat j) + (1 : Int32))) (own_dec (by omega)) (by omega) X_10 e_10 fw_10
        exact ⟨T', h', locs', jv', X', eh', fun k0 hk q => hFr k0 hk (Fr.snoc X_10 q hk), (Keep.of_wr W_10).trans K' (fun x hx => Or.inl hx), by rw [own_inner, if_pos hc_9]; exact F', fun t k => pr_11 t (st' t k)⟩
      · have pr_12 : ∀ t, Steps p.tables e below (T.setTop (mkF m 116 #[.val (.ref a1), .val (.int (5 : Int32)), .val (.ref b_3), .val (.int i), .val (.int p4), .val (.int (Int32.ofNat j))] [])) t → Steps p.tables e below (T.setTop (mkF m 86 #[.val (.ref a1), .val (.int (5 : Int32)), .val (.ref b_3), .val (.int i), .val (.int p4), .val (.int (Int32.ofNat j))] [])) t := fun t k => by
          refine pr_8 _ ?_
          show Steps p.tables e below (T.setTop (mkF m 97 #[.val (.ref a1), .val (.int (5 : Int32)), .val (.ref b_3), .val (.int i), .val (.int p4), .val (.int (Int32.ofNat j))] [(.int (f (iN + j)))])) _
          refine XS.ifYes X.here hx rfl (pc0 := 97) (pc' := 116) rfl (hb hby d1_97) rfl ((if0 _ _).trans (feq hc_9).2) (by decide) (by decide) ?_
          exact k
        exact ⟨T, h, locs, Int32.ofNat j, X, eh, fun _ _ q => q, Keep.refl _ _, by rw [own_inner, if_neg hc_9]; exact F, pr_12⟩
  obtain ⟨T_13, h_13, L_13, jv_13, X_13, e_13, hFr_13, Kc_13, F_13, st_13⟩ := loopI (1 : Int32) (f1 1) 1 rfl ((f1 1)).toNatClampNeg (((f1 1) - (1 : Int32))) T_3 h_3 _ (fun _ => 0) (own_start hz1) (own_bound hz1 hy1 (n := 5) rfl rfl (by decide) (by decide)) X_3 e_3 fa_3
  have N_13 := hFr_13 n0 g_b_3 N0
  have f_13_0 : own_arr .int Z h_13 a1 5 f1 := f_3_0.keep Kc_13 (by simp [ne_a1_b_3])
  have Z_13 : n0 ≤ h_13.size := Nat.le_trans Z_3 Kc_13.1
  have K_13 : Keep h0 h_13 [] := K_3.trans Kc_13 (fun x hx => by cases List.mem_singleton.mp hx; exact Or.inr sz_b_3)
  have fo_14 := f_13_0
  obtain ⟨cl_14, Ar_14, Sz_14, At_14⟩ := fo_14
  have pr_15 : ∀ t, Steps p.tables e below (T_13.setTop (mkF m 86 #[.val (.ref a1), .val (.int (5 : Int32)), .val (.ref b_3), .val (.int (2 : Int32)), .val (.int (f1 2)), .val (.int ((f1 2) - (1 : Int32)))] [])) t → Steps p.tables e below (s₁.setTop (entryFrame m #[(.ref a1)] 6)) t := fun t k => by
    refine pr_5 _ ?_
    show Steps p.tables e below (T_3.setTop (mkF m 86 #[.val (.ref a1), .val (.int (5 : Int32)), .val (.ref b_3), .val (.int (1 : Int32)), .val (.int (f1 1)), .val (.int ((f1 1) - (1 : Int32)))] [])) _
    refine st_13 _ ?_
    show Steps p.tables e below (T_13.setTop (mkF m 116 #[.val (.ref a1), .val (.int (5 : Int32)), .val (.ref b_3), .val (.int (1 : Int32)), .val (.int (f1 1)), .val (.int jv_13)] [])) _
    refine XS.iinc X_13.here hx rfl (hb hby d1_116) rfl (l' := #[.val (.ref a1), .val (.int (5 : Int32)), .val (.ref b_3), .val (.int (2 : Int32)), .val (.int (f1 1)), .val (.int jv_13)]) rfl ?_
    show Steps p.tables e below (T_13.setTop (mkF m 119 #[.val (.ref a1), .val (.int (5 : Int32)), .val (.ref b_3), .val (.int (2 : Int32)), .val (.int (f1 1)), .val (.int jv_13)] [])) _
    refine XS.goto X_13.here hx rfl (pc0 := 119) (pc' := 37) rfl (hb hby d1_119) (by decide) (by decide) ?_
    show Steps p.tables e below (T_13.setTop (mkF m 37 #[.val (.ref a1), .val (.int (5 : Int32)), .val (.ref b_3), .val (.int (2 : Int32)), .val (.int (f1 1)), .val (.int jv_13)] [])) _
    refine XS.iloadN X_13.here hx rfl (hb hby d1_37) rfl ?_
    show Steps p.tables e below (T_13.setTop (mkF m 38 #[.val (.ref a1), .val (.int (5 : Int32)), .val (.ref b_3), .val (.int (2 : Int32)), .val (.int (f1 1)), .val (.int jv_13)] [(.int (2 : Int32))])) _
    refine XS.iloadN X_13.here hx rfl (hb hby d1_38) rfl ?_
    show Steps p.tables e below (T_13.setTop (mkF m 39 #[.val (.ref a1), .val (.int (5 : Int32)), .val (.ref b_3), .val (.int (2 : Int32)), .val (.int (f1 1)), .val (.int jv_13)] [(.int (5 : Int32)), (.int (2 : Int32))])) _
    refine XS.icmpNo X_13.here hx rfl (hb hby d1_39) rfl (tlt (by decide : (2 : Int32) < (5 : Int32))).2.1 ?_
    show Steps p.tables e below (T_13.setTop (mkF m 42 #[.val (.ref a1), .val (.int (5 : Int32)), .val (.ref b_3), .val (.int (2 : Int32)), .val (.int (f1 1)), .val (.int jv_13)] [])) _
    refine XS.aloadN X_13.here hx rfl (hb hby d1_42) rfl rfl ?_
    show Steps p.tables e below (T_13.setTop (mkF m 43 #[.val (.ref a1), .val (.int (5 : Int32)), .val (.ref b_3), .val (.int (2 : Int32)), .val (.int (f1 1)), .val (.int jv_13)] [(.ref a1)])) _
    refine XS.iloadN X_13.here hx rfl (hb hby d1_43) rfl ?_
    show Steps p.tables e below (T_13.setTop (mkF m 44 #[.val (.ref a1), .val (.int (5 : Int32)), .val (.ref b_3), .val (.int (2 : Int32)), .val (.int (f1 1)), .val (.int jv_13)] [(.int (2 : Int32)), (.ref a1)])) _
    refine X_13.iaload hx (j := (2 : Int32)) (v := (.int (f1 2))) (by rw [e_13]; exact Ar_14.1) (State.isArrayOf_alike hZ.alike Ar_14.2.1) Ar_14.2.2 (own_inb Sz_14 (show ¬ ((2 : Int32) < 0 ∨ 5 ≤ ((2 : Int32)).toNatClampNeg) from (by decide))) (by have q := At_14 _ (own_ltn (show ¬ ((2 : Int32) < 0 ∨ 5 ≤ ((2 : Int32)).toNatClampNeg) from (by decide))); rw [show ((2 : Int32)).toNatClampNeg = 2 from by decide] at q ⊢; exact q) (g := (mkF m 44 #[.val (.ref a1), .val (.int (5 : Int32)), .val (.ref b_3), .val (.int (2 : Int32)), .val (.int (f1 1)), .val (.int jv_13)] [(.int (2 : Int32)), (.ref a1)])) rfl rfl (hb hby d1_44) _ ?_
    show Steps p.tables e below (T_13.setTop (mkF m 45 #[.val (.ref a1), .val (.int (5 : Int32)), .val (.ref b_3), .val (.int (2 : Int32)), .val (.int (f1 1)), .val (.int jv_13)] [(.int (f1 2))])) _
    refine XS.istore X_13.here hx rfl (hb hby d1_45) rfl (l' := #[.val (.ref a1), .val (.int (5 : Int32)), .val (.ref b_3), .val (.int (2 : Int32)), .val (.int (f1 2)), .val (.int jv_13)]) rfl ?_
    show Steps p.tables e below (T_13.setTop (mkF m 47 #[.val (.ref a1), .val (.int (5 : Int32)), .val (.ref b_3), .val (.int (2 : Int32)), .val (.int (f1 2)), .val (.int jv_13)] [])) _
    refine XS.iload X_13.here hx rfl (hb hby d1_47) rfl ?_
    show Steps p.tables e below (T_13.setTop (mkF m 49 #[.val (.ref a1), .val (.int (5 : Int32)), .val (.ref b_3), .val (.int (2 : Int32)), .val (.int (f1 2)), .val (.int jv_13)] [(.int (f1 2))])) _
    refine XS.ifNo X_13.here hx rfl (hb hby d1_49) rfl ((if0 _ _).trans (flt (hz2 : ¬ ((f1 2) < (0 : Int32)))).1) ?_
    show Steps p.tables e below (T_13.setTop (mkF m 52 #[.val (.ref a1), .val (.int (5 : Int32)), .val (.ref b_3), .val (.int (2 : Int32)), .val (.int (f1 2)), .val (.int jv_13)] [])) _
    refine XS.iload X_13.here hx rfl (hb hby d1_52) rfl ?_
    show Steps p.tables e below (T_13.setTop (mkF m 54 #[.val (.ref a1), .val (.int (5 : Int32)), .val (.ref b_3), .val (.int (2 : Int32)), .val (.int (f1 2)), .val (.int jv_13)] [(.int (f1 2))])) _
    refine XS.iloadN X_13.here hx rfl (hb hby d1_54) rfl ?_
    show Steps p.tables e below (T_13.setTop (mkF m 55 #[.val (.ref a1), .val (.int (5 : Int32)), .val (.ref b_3), .val (.int (2 : Int32)), .val (.int (f1 2)), .val (.int jv_13)] [(.int (5 : Int32)), (.int (f1 2))])) _
    refine XS.iloadN X_13.here hx rfl (hb hby d1_55) rfl ?_
    show Steps p.tables e below (T_13.setTop (mkF m 56 #[.val (.ref a1), .val (.int (5 : Int32)), .val (.ref b_3), .val (.int (2 : Int32)), .val (.int (f1 2)), .val (.int jv_13)] [(.int (2 : Int32)), (.int (5 : Int32)), (.int (f1 2))])) _
    refine XS.isub X_13.here hx rfl (hb hby d1_56) rfl ?_
    show Steps p.tables e below (T_13.setTop (mkF m 57 #[.val (.ref a1), .val (.int (5 : Int32)), .val (.ref b_3), .val (.int (2 : Int32)), .val (.int (f1 2)), .val (.int jv_13)] [(.int (3 : Int32)), (.int (f1 2))])) _
    refine XS.icmpYes X_13.here hx rfl (pc0 := 57) (pc' := 80) rfl (hb hby d1_57) rfl (flt (hy2 : ¬ ((3 : Int32) < (f1 2)))).2.2.2 (by decide) (by decide) ?_
    show Steps p.tables e below (T_13.setTop (mkF m 80 #[.val (.ref a1), .val (.int (5 : Int32)), .val (.ref b_3), .val (.int (2 : Int32)), .val (.int (f1 2)), .val (.int jv_13)] [])) _
    refine XS.iload X_13.here hx rfl (hb hby d1_80) rfl ?_
    show Steps p.tables e below (T_13.setTop (mkF m 82 #[.val (.ref a1), .val (.int (5 : Int32)), .val (.ref b_3), .val (.int (2 : Int32)), .val (.int (f1 2)), .val (.int jv_13)] [(.int (f1 2))])) _
    refine XS.iconst X_13.here hx rfl (hb hby d1_82) ?_
    show Steps p.tables e below (T_13.setTop (mkF m 83 #[.val (.ref a1), .val (.int (5 : Int32)), .val (.ref b_3), .val (.int (2 : Int32)), .val (.int (f1 2)), .val (.int jv_13)] [(.int (1 : Int32)), (.int (f1 2))])) _
    refine XS.isub X_13.here hx rfl (hb hby d1_83) rfl ?_
    show Steps p.tables e below (T_13.setTop (mkF m 84 #[.val (.ref a1), .val (.int (5 : Int32)), .val (.ref b_3), .val (.int (2 : Int32)), .val (.int (f1 2)), .val (.int jv_13)] [(.int ((f1 2) - (1 : Int32)))])) _
    refine XS.istore X_13.here hx rfl (hb hby d1_84) rfl (l' := #[.val (.ref a1), .val (.int (5 : Int32)), .val (.ref b_3), .val (.int (2 : Int32)), .val (.int (f1 2)), .val (.int ((f1 2) - (1 : Int32)))]) rfl ?_
    exact k
  obtain ⟨T_16, h_16, L_16, jv_16, X_16, e_16, hFr_16, Kc_16, F_16, st_16⟩ := loopI (2 : Int32) (f1 2) 2 rfl ((f1 2)).toNatClampNeg (((f1 2) - (1 : Int32))) T_13 h_13 _ (own_inner 1 ((f1 1)).toNatClampNeg (fun _ => 0)) (own_start hz2) (own_bound hz2 hy2 (n := 5) rfl rfl (by decide) (by decide)) X_13 e_13 F_13
  have N_16 := hFr_16 n0 g_b_3 N_13
  have f_16_0 : own_arr .int Z h_16 a1 5 f1 := f_13_0.keep Kc_16 (by simp [ne_a1_b_3])
  have Z_16 : n0 ≤ h_16.size := Nat.le_trans Z_13 Kc_16.1
  have K_16 : Keep h0 h_16 [] := K_13.trans Kc_16 (fun x hx => by cases List.mem_singleton.mp hx; exact Or.inr sz_b_3)
  have fo_17 := f_16_0
  obtain ⟨cl_17, Ar_17, Sz_17, At_17⟩ := fo_17
  have pr_18 : ∀ t, Steps p.tables e below (T_16.setTop (mkF m 86 #[.val (.ref a1), .val (.int (5 : Int32)), .val (.ref b_3), .val (.int (3 : Int32)), .val (.int (f1 3)), .val (.int ((f1 3) - (1 : Int32)))] [])) t → Steps p.tables e below (s₁.setTop (entryFrame m #[(.ref a1)] 6)) t := fun t k => by
    refine pr_15 _ ?_
    show Steps p.tables e below (T_13.setTop (mkF m 86 #[.val (.ref a1), .val (.int (5 : Int32)), .val (.ref b_3), .val (.int (2 : Int32)), .val (.int (f1 2)), .val (.int ((f1 2) - (1 : Int32)))] [])) _
    refine st_16 _ ?_
    show Steps p.tables e below (T_16.setTop (mkF m 116 #[.val (.ref a1), .val (.int (5 : Int32)), .val (.ref b_3), .val (.int (2 : Int32)), .val (.int (f1 2)), .val (.int jv_16)] [])) _
    refine XS.iinc X_16.here hx rfl (hb hby d1_116) rfl (l' := #[.val (.ref a1), .val (.int (5 : Int32)), .val (.ref b_3), .val (.int (3 : Int32)), .val (.int (f1 2)), .val (.int jv_16)]) rfl ?_
    show Steps p.tables e below (T_16.setTop (mkF m 119 #[.val (.ref a1), .val (.int (5 : Int32)), .val (.ref b_3), .val (.int (3 : Int32)), .val (.int (f1 2)), .val (.int jv_16)] [])) _
    refine XS.goto X_16.here hx rfl (pc0 := 119) (pc' := 37) rfl (hb hby d1_119) (by decide) (by decide) ?_
    show Steps p.tables e below (T_16.setTop (mkF m 37 #[.val (.ref a1), .val (.int (5 : Int32)), .val (.ref b_3), .val (.int (3 : Int32)), .val (.int (f1 2)), .val (.int jv_16)] [])) _
    refine XS.iloadN X_16.here hx rfl (hb hby d1_37) rfl ?_
    show Steps p.tables e below (T_16.setTop (mkF m 38 #[.val (.ref a1), .val (.int (5 : Int32)), .val (.ref b_3), .val (.int (3 : Int32)), .val (.int (f1 2)), .val (.int jv_16)] [(.int (3 : Int32))])) _
    refine XS.iloadN X_16.here hx rfl (hb hby d1_38) rfl ?_
    show Steps p.tables e below (T_16.setTop (mkF m 39 #[.val (.ref a1), .val (.int (5 : Int32)), .val (.ref b_3), .val (.int (3 : Int32)), .val (.int (f1 2)), .val (.int jv_16)] [(.int (5 : Int32)), (.int (3 : Int32))])) _
    refine XS.icmpNo X_16.here hx rfl (hb hby d1_39) rfl (tlt (by decide : (3 : Int32) < (5 : Int32))).2.1 ?_
    show Steps p.tables e below (T_16.setTop (mkF m 42 #[.val (.ref a1), .val (.int (5 : Int32)), .val (.ref b_3), .val (.int (3 : Int32)), .val (.int (f1 2)), .val (.int jv_16)] [])) _
    refine XS.aloadN X_16.here hx rfl (hb hby d1_42) rfl rfl ?_
    show Steps p.tables e below (T_16.setTop (mkF m 43 #[.val (.ref a1), .val (.int (5 : Int32)), .val (.ref b_3), .val (.int (3 : Int32)), .val (.int (f1 2)), .val (.int jv_16)] [(.ref a1)])) _
    refine XS.iloadN X_16.here hx rfl (hb hby d1_43) rfl ?_
    show Steps p.tables e below (T_16.setTop (mkF m 44 #[.val (.ref a1), .val (.int (5 : Int32)), .val (.ref b_3), .val (.int (3 : Int32)), .val (.int (f1 2)), .val (.int jv_16)] [(.int (3 : Int32)), (.ref a1)])) _
    refine X_16.iaload hx (j := (3 : Int32)) (v := (.int (f1 3))) (by rw [e_16]; exact Ar_17.1) (State.isArrayOf_alike hZ.alike Ar_17.2.1) Ar_17.2.2 (own_inb Sz_17 (show ¬ ((3 : Int32) < 0 ∨ 5 ≤ ((3 : Int32)).toNatClampNeg) from (by decide))) (by have q := At_17 _ (own_ltn (show ¬ ((3 : Int32) < 0 ∨ 5 ≤ ((3 : Int32)).toNatClampNeg) from (by decide))); rw [show ((3 : Int32)).toNatClampNeg = 3 from by decide] at q ⊢; exact q) (g := (mkF m 44 #[.val (.ref a1), .val (.int (5 : Int32)), .val (.ref b_3), .val (.int (3 : Int32)), .val (.int (f1 2)), .val (.int jv_16)] [(.int (3 : Int32)), (.ref a1)])) rfl rfl (hb hby d1_44) _ ?_
    show Steps p.tables e below (T_16.setTop (mkF m 45 #[.val (.ref a1), .val (.int (5 : Int32)), .val (.ref b_3), .val (.int (3 : Int32)), .val (.int (f1 2)), .val (.int jv_16)] [(.int (f1 3))])) _
    refine XS.istore X_16.here hx rfl (hb hby d1_45) rfl (l' := #[.val (.ref a1), .val (.int (5 : Int32)), .val (.ref b_3), .val (.int (3 : Int32)), .val (.int (f1 3)), .val (.int jv_16)]) rfl ?_
    show Steps p.tables e below (T_16.setTop (mkF m 47 #[.val (.ref a1), .val (.int (5 : Int32)), .val (.ref b_3), .val (.int (3 : Int32)), .val (.int (f1 3)), .val (.int jv_16)] [])) _
    refine XS.iload X_16.here hx rfl (hb hby d1_47) rfl ?_
    show Steps p.tables e below (T_16.setTop (mkF m 49 #[.val (.ref a1), .val (.int (5 : Int32)), .val (.ref b_3), .val (.int (3 : Int32)), .val (.int (f1 3)), .val (.int jv_16)] [(.int (f1 3))])) _
    refine XS.ifNo X_16.here hx rfl (hb hby d1_49) rfl ((if0 _ _).trans (flt (hz3 : ¬ ((f1 3) < (0 : Int32)))).1) ?_
    show Steps p.tables e below (T_16.setTop (mkF m 52 #[.val (.ref a1), .val (.int (5 : Int32)), .val (.ref b_3), .val (.int (3 : Int32)), .val (.int (f1 3)), .val (.int jv_16)] [])) _
    refine XS.iload X_16.here hx rfl (hb hby d1_52) rfl ?_
    show Steps p.tables e below (T_16.setTop (mkF m 54 #[.val (.ref a1), .val (.int (5 : Int32)), .val (.ref b_3), .val (.int (3 : Int32)), .val (.int (f1 3)), .val (.int jv_16)] [(.int (f1 3))])) _
    refine XS.iloadN X_16.here hx rfl (hb hby d1_54) rfl ?_
    show Steps p.tables e below (T_16.setTop (mkF m 55 #[.val (.ref a1), .val (.int (5 : Int32)), .val (.ref b_3), .val (.int (3 : Int32)), .val (.int (f1 3)), .val (.int jv_16)] [(.int (5 : Int32)), (.int (f1 3))])) _
    refine XS.iloadN X_16.here hx rfl (hb hby d1_55) rfl ?_
    show Steps p.tables e below (T_16.setTop (mkF m 56 #[.val (.ref a1), .val (.int (5 : Int32)), .val (.ref b_3), .val (.int (3 : Int32)), .val (.int (f1 3)), .val (.int jv_16)] [(.int (3 : Int32)), (.int (5 : Int32)), (.int (f1 3))])) _
    refine XS.isub X_16.here hx rfl (hb hby d1_56) rfl ?_
    show Steps p.tables e below (T_16.setTop (mkF m 57 #[.val (.ref a1), .val (.int (5 : Int32)), .val (.ref b_3), .val (.int (3 : Int32)), .val (.int (f1 3)), .val (.int jv_16)] [(.int (2 : Int32)), (.int (f1 3))])) _
    refine XS.icmpYes X_16.here hx rfl (pc0 := 57) (pc' := 80) rfl (hb hby d1_57) rfl (flt (hy3 : ¬ ((2 : Int32) < (f1 3)))).2.2.2 (by decide) (by decide) ?_
    show Steps p.tables e below (T_16.setTop (mkF m 80 #[.val (.ref a1), .val (.int (5 : Int32)), .val (.ref b_3), .val (.int (3 : Int32)), .val (.int (f1 3)), .val (.int jv_16)] [])) _
    refine XS.iload X_16.here hx rfl (hb hby d1_80) rfl ?_
    show Steps p.tables e below (T_16.setTop (mkF m 82 #[.val (.ref a1), .val (.int (5 : Int32)), .val (.ref b_3), .val (.int (3 : Int32)), .val (.int (f1 3)), .val (.int jv_16)] [(.int (f1 3))])) _
    refine XS.iconst X_16.here hx rfl (hb hby d1_82) ?_
    show Steps p.tables e below (T_16.setTop (mkF m 83 #[.val (.ref a1), .val (.int (5 : Int32)), .val (.ref b_3), .val (.int (3 : Int32)), .val (.int (f1 3)), .val (.int jv_16)] [(.int (1 : Int32)), (.int (f1 3))])) _
    refine XS.isub X_16.here hx rfl (hb hby d1_83) rfl ?_
    show Steps p.tables e below (T_16.setTop (mkF m 84 #[.val (.ref a1), .val (.int (5 : Int32)), .val (.ref b_3), .val (.int (3 : Int32)), .val (.int (f1 3)), .val (.int jv_16)] [(.int ((f1 3) - (1 : Int32)))])) _
    refine XS.istore X_16.here hx rfl (hb hby d1_84) rfl (l' := #[.val (.ref a1), .val (.int (5 : Int32)), .val (.ref b_3), .val (.int (3 : Int32)), .val (.int (f1 3)), .val (.int ((f1 3) - (1 : Int32)))]) rfl ?_
    exact k
  obtain ⟨T_19, h_19, L_19, jv_19, X_19, e_19, hFr_19, Kc_19, F_19, st_19⟩ := loopI (3 : Int32) (f1 3) 3 rfl ((f1 3)).toNatClampNeg (((f1 3) - (1 : Int32))) T_16 h_16 _ (own_inner 2 ((f1 2)).toNatClampNeg (own_inner 1 ((f1 1)).toNatClampNeg (fun _ => 0))) (own_start hz3) (own_bound hz3 hy3 (n := 5) rfl rfl (by decide) (by decide)) X_16 e_16 F_16
  have N_19 := hFr_19 n0 g_b_3 N_16
  have f_19_0 : own_arr .int Z h_19 a1 5 f1 := f_16_0.keep Kc_19 (by simp [ne_a1_b_3])
  have Z_19 : n0 ≤ h_19.size := Nat.le_trans Z_16 Kc_19.1
  have K_19 : Keep h0 h_19 [] := K_16.trans Kc_19 (fun x hx => by cases List.mem_singleton.mp hx; exact Or.inr sz_b_3)
  have fo_20 := f_19_0
  obtain ⟨cl_20, Ar_20, Sz_20, At_20⟩ := fo_20
  have pr_21 : ∀ t, Steps p.tables e below (T_19.setTop (mkF m 86 #[.val (.ref a1), .val (.int (5 : Int32)), .val (.ref b_3), .val (.int (4 : Int32)), .val (.int (f1 4)), .val (.int ((f1 4) - (1 : Int32)))] [])) t → Steps p.tables e below (s₁.setTop (entryFrame m #[(.ref a1)] 6)) t := fun t k => by
    refine pr_18 _ ?_
    show Steps p.tables e below (T_16.setTop (mkF m 86 #[.val (.ref a1), .val (.int (5 : Int32)), .val (.ref b_3), .val (.int (3 : Int32)), .val (.int (f1 3)), .val (.int ((f1 3) - (1 : Int32)))] [])) _
    refine st_19 _ ?_
    show Steps p.tables e below (T_19.setTop (mkF m 116 #[.val (.ref a1), .val (.int (5 : Int32)), .val (.ref b_3), .val (.int (3 : Int32)), .val (.int (f1 3)), .val (.int jv_19)] [])) _
    refine XS.iinc X_19.here hx rfl (hb hby d1_116) rfl (l' := #[.val (.ref a1), .val (.int (5 : Int32)), .val (.ref b_3), .val (.int (4 : Int32)), .val (.int (f1 3)), .val (.int jv_19)]) rfl ?_
    show Steps p.tables e below (T_19.setTop (mkF m 119 #[.val (.ref a1), .val (.int (5 : Int32)), .val (.ref b_3), .val (.int (4 : Int32)), .val (.int (f1 3)), .val (.int jv_19)] [])) _
    refine XS.goto X_19.here hx rfl (pc0 := 119) (pc' := 37) rfl (hb hby d1_119) (by decide) (by decide) ?_
    show Steps p.tables e below (T_19.setTop (mkF m 37 #[.val (.ref a1), .val (.int (5 : Int32)), .val (.ref b_3), .val (.int (4 : Int32)), .val (.int (f1 3)), .val (.int jv_19)] [])) _
    refine XS.iloadN X_19.here hx rfl (hb hby d1_37) rfl ?_
    show Steps p.tables e below (T_19.setTop (mkF m 38 #[.val (.ref a1), .val (.int (5 : Int32)), .val (.ref b_3), .val (.int (4 : Int32)), .val (.int (f1 3)), .val (.int jv_19)] [(.int (4 : Int32))])) _
    refine XS.iloadN X_19.here hx rfl (hb hby d1_38) rfl ?_
    show Steps p.tables e below (T_19.setTop (mkF m 39 #[.val (.ref a1), .val (.int (5 : Int32)), .val (.ref b_3), .val (.int (4 : Int32)), .val (.int (f1 3)), .val (.int jv_19)] [(.int (5 : Int32)), (.int (4 : Int32))])) _
    refine XS.icmpNo X_19.here hx rfl (hb hby d1_39) rfl (tlt (by decide : (4 : Int32) < (5 : Int32))).2.1 ?_
    show Steps p.tables e below (T_19.setTop (mkF m 42 #[.val (.ref a1), .val (.int (5 : Int32)), .val (.ref b_3), .val (.int (4 : Int32)), .val (.int (f1 3)), .val (.int jv_19)] [])) _
    refine XS.aloadN X_19.here hx rfl (hb hby d1_42) rfl rfl ?_
    show Steps p.tables e below (T_19.setTop (mkF m 43 #[.val (.ref a1), .val (.int (5 : Int32)), .val (.ref b_3), .val (.int (4 : Int32)), .val (.int (f1 3)), .val (.int jv_19)] [(.ref a1)])) _
    refine XS.iloadN X_19.here hx rfl (hb hby d1_43) rfl ?_
    show Steps p.tables e below (T_19.setTop (mkF m 44 #[.val (.ref a1), .val (.int (5 : Int32)), .val (.ref b_3), .val (.int (4 : Int32)), .val (.int (f1 3)), .val (.int jv_19)] [(.int (4 : Int32)), (.ref a1)])) _
    refine X_19.iaload hx (j := (4 : Int32)) (v := (.int (f1 4))) (by rw [e_19]; exact Ar_20.1) (State.isArrayOf_alike hZ.alike Ar_20.2.1) Ar_20.2.2 (own_inb Sz_20 (show ¬ ((4 : Int32) < 0 ∨ 5 ≤ ((4 : Int32)).toNatClampNeg) from (by decide))) (by have q := At_20 _ (own_ltn (show ¬ ((4 : Int32) < 0 ∨ 5 ≤ ((4 : Int32)).toNatClampNeg) from (by decide))); rw [show ((4 : Int32)).toNatClampNeg = 4 from by decide] at q ⊢; exact q) (g := (mkF m 44 #[.val (.ref a1), .val (.int (5 : Int32)), .val (.ref b_3), .val (.int (4 : Int32)), .val (.int (f1 3)), .val (.int jv_19)] [(.int (4 : Int32)), (.ref a1)])) rfl rfl (hb hby d1_44) _ ?_
    show Steps p.tables e below (T_19.setTop (mkF m 45 #[.val (.ref a1), .val (.int (5 : Int32)), .val (.ref b_3), .val (.int (4 : Int32)), .val (.int (f1 3)), .val (.int jv_19)] [(.int (f1 4))])) _
    refine XS.istore X_19.here hx rfl (hb hby d1_45) rfl (l' := #[.val (.ref a1), .val (.int (5 : Int32)), .val (.ref b_3), .val (.int (4 : Int32)), .val (.int (f1 4)), .val (.int jv_19)]) rfl ?_
    show Steps p.tables e below (T_19.setTop (mkF m 47 #[.val (.ref a1), .val (.int (5 : Int32)), .val (.ref b_3), .val (.int (4 : Int32)), .val (.int (f1 4)), .val (.int jv_19)] [])) _
    refine XS.iload X_19.here hx rfl (hb hby d1_47) rfl ?_
    show Steps p.tables e below (T_19.setTop (mkF m 49 #[.val (.ref a1), .val (.int (5 : Int32)), .val (.ref b_3), .val (.int (4 : Int32)), .val (.int (f1 4)), .val (.int jv_19)] [(.int (f1 4))])) _
    refine XS.ifNo X_19.here hx rfl (hb hby d1_49) rfl ((if0 _ _).trans (flt (hz4 : ¬ ((f1 4) < (0 : Int32)))).1) ?_
    show Steps p.tables e below (T_19.setTop (mkF m 52 #[.val (.ref a1), .val (.int (5 : Int32)), .val (.ref b_3), .val (.int (4 : Int32)), .val (.int (f1 4)), .val (.int jv_19)] [])) _
    refine XS.iload X_19.here hx rfl (hb hby d1_52) rfl ?_
    show Steps p.tables e below (T_19.setTop (mkF m 54 #[.val (.ref a1), .val (.int (5 : Int32)), .val (.ref b_3), .val (.int (4 : Int32)), .val (.int (f1 4)), .val (.int jv_19)] [(.int (f1 4))])) _
    refine XS.iloadN X_19.here hx rfl (hb hby d1_54) rfl ?_
    show Steps p.tables e below (T_19.setTop (mkF m 55 #[.val (.ref a1), .val (.int (5 : Int32)), .val (.ref b_3), .val (.int (4 : Int32)), .val (.int (f1 4)), .val (.int jv_19)] [(.int (5 : Int32)), (.int (f1 4))])) _
    refine XS.iloadN X_19.here hx rfl (hb hby d1_55) rfl ?_
    show Steps p.tables e below (T_19.setTop (mkF m 56 #[.val (.ref a1), .val (.int (5 : Int32)), .val (.ref b_3), .val (.int (4 : Int32)), .val (.int (f1 4)), .val (.int jv_19)] [(.int (4 : Int32)), (.int (5 : Int32)), (.int (f1 4))])) _
    refine XS.isub X_19.here hx rfl (hb hby d1_56) rfl ?_
    show Steps p.tables e below (T_19.setTop (mkF m 57 #[.val (.ref a1), .val (.int (5 : Int32)), .val (.ref b_3), .val (.int (4 : Int32)), .val (.int (f1 4)), .val (.int jv_19)] [(.int (1 : Int32)), (.int (f1 4))])) _
    refine XS.icmpYes X_19.here hx rfl (pc0 := 57) (pc' := 80) rfl (hb hby d1_57) rfl (flt (hy4 : ¬ ((1 : Int32) < (f1 4)))).2.2.2 (by decide) (by decide) ?_
    show Steps p.tables e below (T_19.setTop (mkF m 80 #[.val (.ref a1), .val (.int (5 : Int32)), .val (.ref b_3), .val (.int (4 : Int32)), .val (.int (f1 4)), .val (.int jv_19)] [])) _
    refine XS.iload X_19.here hx rfl (hb hby d1_80) rfl ?_
    show Steps p.tables e below (T_19.setTop (mkF m 82 #[.val (.ref a1), .val (.int (5 : Int32)), .val (.ref b_3), .val (.int (4 : Int32)), .val (.int (f1 4)), .val (.int jv_19)] [(.int (f1 4))])) _
    refine XS.iconst X_19.here hx rfl (hb hby d1_82) ?_
    show Steps p.tables e below (T_19.setTop (mkF m 83 #[.val (.ref a1), .val (.int (5 : Int32)), .val (.ref b_3), .val (.int (4 : Int32)), .val (.int (f1 4)), .val (.int jv_19)] [(.int (1 : Int32)), (.int (f1 4))])) _
    refine XS.isub X_19.here hx rfl (hb hby d1_83) rfl ?_
    show Steps p.tables e below (T_19.setTop (mkF m 84 #[.val (.ref a1), .val (.int (5 : Int32)), .val (.ref b_3), .val (.int (4 : Int32)), .val (.int (f1 4)), .val (.int jv_19)] [(.int ((f1 4) - (1 : Int32)))])) _
    refine XS.istore X_19.here hx rfl (hb hby d1_84) rfl (l' := #[.val (.ref a1), .val (.int (5 : Int32)), .val (.ref b_3), .val (.int (4 : Int32)), .val (.int (f1 4)), .val (.int ((f1 4) - (1 : Int32)))]) rfl ?_
    exact k
  obtain ⟨T_22, h_22, L_22, jv_22, X_22, e_22, hFr_22, Kc_22, F_22, st_22⟩ := loopI (4 : Int32) (f1 4) 4 rfl ((f1 4)).toNatClampNeg (((f1 4) - (1 : Int32))) T_19 h_19 _ (own_inner 3 ((f1 3)).toNatClampNeg (own_inner 2 ((f1 2)).toNatClampNeg (own_inner 1 ((f1 1)).toNatClampNeg (fun _ => 0)))) (own_start hz4) (own_bound hz4 hy4 (n := 5) rfl rfl (by decide) (by decide)) X_19 e_19 F_19
  have N_22 := hFr_22 n0 g_b_3 N_19
  have f_22_0 : own_arr .int Z h_22 a1 5 f1 := f_19_0.keep Kc_22 (by simp [ne_a1_b_3])
  have Z_22 : n0 ≤ h_22.size := Nat.le_trans Z_19 Kc_22.1
  have K_22 : Keep h0 h_22 [] := K_19.trans Kc_22 (fun x hx => by cases List.mem_singleton.mp hx; exact Or.inr sz_b_3)
  obtain ⟨fs, hr, hrun, hended, hW, hsame⟩ := X_22.leave (v := some (.ref b_3)) (fun h => by rw [Bd.returns] at h; cases h)
  refine ⟨_, _, pr_21 _ ?_, hrun, hended, _, _, rfl, ?_, ⟨_, rfl⟩, hW, hsame.mono (by decide) (by decide)⟩
  · show Steps p.tables e below (T_19.setTop (mkF m 86 #[.val (.ref a1), .val (.int (5 : Int32)), .val (.ref b_3), .val (.int (4 : Int32)), .val (.int (f1 4)), .val (.int ((f1 4) - (1 : Int32)))] [])) _
    refine st_22 _ ?_
    show Steps p.tables e below (T_22.setTop (mkF m 116 #[.val (.ref a1), .val (.int (5 : Int32)), .val (.ref b_3), .val (.int (4 : Int32)), .val (.int (f1 4)), .val (.int jv_22)] [])) _
    refine XS.iinc X_22.here hx rfl (hb hby d1_116) rfl (l' := #[.val (.ref a1), .val (.int (5 : Int32)), .val (.ref b_3), .val (.int (5 : Int32)), .val (.int (f1 4)), .val (.int jv_22)]) rfl ?_
    show Steps p.tables e below (T_22.setTop (mkF m 119 #[.val (.ref a1), .val (.int (5 : Int32)), .val (.ref b_3), .val (.int (5 : Int32)), .val (.int (f1 4)), .val (.int jv_22)] [])) _
    refine XS.goto X_22.here hx rfl (pc0 := 119) (pc' := 37) rfl (hb hby d1_119) (by decide) (by decide) ?_
    show Steps p.tables e below (T_22.setTop (mkF m 37 #[.val (.ref a1), .val (.int (5 : Int32)), .val (.ref b_3), .val (.int (5 : Int32)), .val (.int (f1 4)), .val (.int jv_22)] [])) _
    refine XS.iloadN X_22.here hx rfl (hb hby d1_37) rfl ?_
    show Steps p.tables e below (T_22.setTop (mkF m 38 #[.val (.ref a1), .val (.int (5 : Int32)), .val (.ref b_3), .val (.int (5 : Int32)), .val (.int (f1 4)), .val (.int jv_22)] [(.int (5 : Int32))])) _
    refine XS.iloadN X_22.here hx rfl (hb hby d1_38) rfl ?_
    show Steps p.tables e below (T_22.setTop (mkF m 39 #[.val (.ref a1), .val (.int (5 : Int32)), .val (.ref b_3), .val (.int (5 : Int32)), .val (.int (f1 4)), .val (.int jv_22)] [(.int (5 : Int32)), (.int (5 : Int32))])) _
    refine XS.icmpYes X_22.here hx rfl (pc0 := 39) (pc' := 122) rfl (hb hby d1_39) rfl (flt (by decide : ¬ ((5 : Int32) < (5 : Int32)))).2.1 (by decide) (by decide) ?_
    show Steps p.tables e below (T_22.setTop (mkF m 122 #[.val (.ref a1), .val (.int (5 : Int32)), .val (.ref b_3), .val (.int (5 : Int32)), .val (.int (f1 4)), .val (.int jv_22)] [])) _
    refine XS.aloadN X_22.here hx rfl (hb hby d1_122) rfl rfl ?_
    show Steps p.tables e below (T_22.setTop (mkF m 123 #[.val (.ref a1), .val (.int (5 : Int32)), .val (.ref b_3), .val (.int (5 : Int32)), .val (.int (f1 4)), .val (.int jv_22)] [(.ref b_3)])) _
    exact retOut X_22 hx Bd.returns rfl (Or.inr (Or.inr (Or.inr (Or.inr ⟨rfl, rfl, rfl⟩)))) (hb hby d1_123) hr
  · show Q1_5 Z a1 f1 h0 n0 _ T_22.heap _
    rw [e_22]
    exact ⟨b_3, rfl, N_22, K_22, F_22⟩
theorem own_n (p1 n : Int32) (h : n = ((p1 &&& (2147483647 : Int32)) % (6 : Int32))) : n = (0 : Int32) ∨ n = (1 : Int32) ∨ n = (2 : Int32) ∨ n = (3 : Int32) ∨ n = (4 : Int32) ∨ n = (5 : Int32) := by
  have e1 : (p1 &&& (2147483647 : Int32)).toInt = p1.toInt % 2 ^ 31 := Jvm.Kit.i32_mask p1 _ (k := 31) (by decide) (by decide)
  have e2 : ((p1 &&& (2147483647 : Int32)) % (6 : Int32)).toInt = (p1 &&& (2147483647 : Int32)).toInt % (6 : Int32).toInt := Jvm.Kit.i32_rem_nonneg (by omega)
  have e3 : (6 : Int32).toInt = 6 := rfl
  rw [← h, e3] at e2
  simp only [← Int32.toInt_inj, own_k0, own_k1, own_k2, own_k3, own_k4, own_k5]
  omega
theorem own_tail (E : Nat → Int32) : ∃ z : Nat → Int32, (∀ j, j < 5 → z j = E j) ∧ ∀ i, 4 ≤ i → z i = z 4 :=
  ⟨fun i => E (min i 4), fun j hj => by show E (min j 4) = E j; rw [Nat.min_eq_left (by omega)], fun i hi => by show E (min i 4) = E (min 4 4); rw [Nat.min_eq_right hi, Nat.min_self]⟩
theorem own_lcp_b (p2 p3 : Int32) (f : Nat → Int32) (h : 0 ≤ (p2 - p3).toInt) : ¬ (own_lcp p2 p3 f < (0 : Int32)) ∧ ¬ ((p2 - p3) < own_lcp p2 p3 f) := by
  have q0 := own_k0
  have q1 := own_k1
  have q2 := own_k2
  have q3 := own_k3
  have q4 := own_k4
  have q5 := own_k5
  simp only [own_lcp, Int32.lt_iff_toInt_lt]
  generalize (p2 - p3).toInt = m at *
  (repeat' split) <;> omega
theorem own_whole1 (f : Nat → Int32) : own_lcp (1 : Int32) (0 : Int32) f = (1 : Int32) := by
  rw [own_lcp, if_neg (by decide : ¬ (((1 : Int32) - (0 : Int32)) < (1 : Int32))), if_pos (show f 0 = f ((0 : Int32)).toNatClampNeg from rfl), if_pos (by decide : ((1 : Int32) - (0 : Int32)) < (2 : Int32))]
theorem own_whole2 (f : Nat → Int32) : own_lcp (2 : Int32) (0 : Int32) f = (2 : Int32) := by
  rw [own_lcp, if_neg (by decide : ¬ (((2 : Int32) - (0 : Int32)) < (1 : Int32))), if_pos (show f 0 = f ((0 : Int32)).toNatClampNeg from rfl), if_neg (by decide : ¬ (((2 : Int32) - (0 : Int32)) < (2 : Int32))), if_pos (show f 1 = f ((0 : Int32) + (1 : Int32)).toNatClampNeg from rfl), if_pos (by decide : ((2 : Int32) - (0 : Int32)) < (3 : Int32))]
theorem own_whole3 (f : Nat → Int32) : own_lcp (3 : Int32) (0 : Int32) f = (3 : Int32) := by
  rw [own_lcp, if_neg (by decide : ¬ (((3 : Int32) - (0 : Int32)) < (1 : Int32))), if_pos (show f 0 = f ((0 : Int32)).toNatClampNeg from rfl), if_neg (by decide : ¬ (((3 : Int32) - (0 : Int32)) < (2 : Int32))), if_pos (show f 1 = f ((0 : Int32) + (1 : Int32)).toNatClampNeg from rfl), if_neg (by decide : ¬ (((3 : Int32) - (0 : Int32)) < (3 : Int32))), if_pos (show f 2 = f ((0 : Int32) + (2 : Int32)).toNatClampNeg from rfl), if_pos (by decide : ((3 : Int32) - (0 : Int32)) < (4 : Int32))]
theorem own_whole4 (f : Nat → Int32) : own_lcp (4 : Int32) (0 : Int32) f = (4 : Int32) := by
  rw [own_lcp, if_neg (by decide : ¬ (((4 : Int32) - (0 : Int32)) < (1 : Int32))), if_pos (show f 0 = f ((0 : Int32)).toNatClampNeg from rfl), if_neg (by decide : ¬ (((4 : Int32) - (0 : Int32)) < (2 : Int32))), if_pos (show f 1 = f ((0 : Int32) + (1 : Int32)).toNatClampNeg from rfl), if_neg (by decide : ¬ (((4 : Int32) - (0 : Int32)) < (3 : Int32))), if_pos (show f 2 = f ((0 : Int32) + (2 : Int32)).toNatClampNeg from rfl), if_neg (by decide : ¬ (((4 : Int32) - (0 : Int32)) < (4 : Int32))), if_pos (show f 3 = f ((0 : Int32) + (3 : Int32)).toNatClampNeg from rfl), if_pos (by decide : ((4 : Int32) - (0 : Int32)) < (5 : Int32))]
theorem own_whole5 (f : Nat → Int32) : own_lcp (5 : Int32) (0 : Int32) f = (5 : Int32) := by
  rw [own_lcp, if_neg (by decide : ¬ (((5 : Int32) - (0 : Int32)) < (1 : Int32))), if_pos (show f 0 = f ((0 : Int32)).toNatClampNeg from rfl), if_neg (by decide : ¬ (((5 : Int32) - (0 : Int32)) < (2 : Int32))), if_pos (show f 1 = f ((0 : Int32) + (1 : Int32)).toNatClampNeg from rfl), if_neg (by decide : ¬ (((5 : Int32) - (0 : Int32)) < (3 : Int32))), if_pos (show f 2 = f ((0 : Int32) + (2 : Int32)).toNatClampNeg from rfl), if_neg (by decide : ¬ (((5 : Int32) - (0 : Int32)) < (4 : Int32))), if_pos (show f 3 = f ((0 : Int32) + (3 : Int32)).toNatClampNeg from rfl), if_neg (by decide : ¬ (((5 : Int32) - (0 : Int32)) < (5 : Int32))), if_pos (show f 4 = f ((0 : Int32) + (4 : Int32)).toNatClampNeg from rfl)]
def own_code (f : Nat → Int32) (a : Nat) : Int32 := if f a = f 0 then 0 else if f a = f 1 then 1 else if f a = f 2 then 2 else if f a = f 3 then 3 else if f a = f 4 then 4 else 5
theorem own_code_ok (f : Nat → Int32) (b : Nat) : (own_code f b = 0 ∧ f b = f 0) ∨ (own_code f b = 1 ∧ f b = f 1) ∨ (own_code f b = 2 ∧ f b = f 2) ∨ (own_code f b = 3 ∧ f b = f 3) ∨ (own_code f b = 4 ∧ f b = f 4) ∨ (own_code f b = 5 ∧ f b ≠ f 0 ∧ f b ≠ f 1 ∧ f b ≠ f 2 ∧ f b ≠ f 3 ∧ f b ≠ f 4) := by
  unfold own_code
  by_cases h0 : f b = f 0
  · rw [if_pos h0]; exact Or.inl ⟨rfl, h0⟩
  rw [if_neg h0]
  by_cases h1 : f b = f 1
  · rw [if_pos h1]; exact Or.inr (Or.inl ⟨rfl, h1⟩)
  rw [if_neg h1]
  by_cases h2 : f b = f 2
  · rw [if_pos h2]; exact Or.inr (Or.inr (Or.inl ⟨rfl, h2⟩))
  rw [if_neg h2]
  by_cases h3 : f b = f 3
  · rw [if_pos h3]; exact Or.inr (Or.inr (Or.inr (Or.inl ⟨rfl, h3⟩)))
  rw [if_neg h3]
  by_cases h4 : f b = f 4
  · rw [if_pos h4]; exact Or.inr (Or.inr (Or.inr (Or.inr (Or.inl ⟨rfl, h4⟩))))
  rw [if_neg h4]
  exact Or.inr (Or.inr (Or.inr (Or.inr (Or.inr ⟨rfl, h0, h1, h2, h3, h4⟩))))
theorem own_clash {P : Prop} {x y : Int32} (h : x = y) (n : x ≠ y) : P := absurd h n
theorem own_H (f : Nat → Int32) (a b : Nat) (ha : a < 5) : (f a = f b) = (own_code f a = own_code f b) := by
  apply propext
  constructor
  · intro h; unfold own_code; rw [h]
  · intro h
    have hne : ¬ (f a ≠ f 0 ∧ f a ≠ f 1 ∧ f a ≠ f 2 ∧ f a ≠ f 3 ∧ f a ≠ f 4) := by
      rintro ⟨n0, n1, n2, n3, n4⟩
      have : a = 0 ∨ a = 1 ∨ a = 2 ∨ a = 3 ∨ a = 4 := by omega
      rcases this with rfl | rfl | rfl | rfl | rfl
      · exact n0 rfl
      · exact n1 rfl
      · exact n2 rfl
      · exact n3 rfl
      · exact n4 rfl
    rcases own_code_ok f a with ⟨u, v⟩ | ⟨u, v⟩ | ⟨u, v⟩ | ⟨u, v⟩ | ⟨u, v⟩ | ⟨u, v⟩ <;> rcases own_code_ok f b with ⟨u', v'⟩ | ⟨u', v'⟩ | ⟨u', v'⟩ | ⟨u', v'⟩ | ⟨u', v'⟩ | ⟨u', v'⟩ <;>
      first
      | exact v.trans v'.symm
      | exact absurd v hne
      | exact own_clash (u.symm.trans (h.trans u')) (by decide)
theorem own_lcp_g (f : Nat → Int32) (p2 p3 : Int32) : own_lcp p2 p3 f = own_lcp p2 p3 (own_code f) := by
  simp only [own_lcp, own_H f 0 _ (by decide), own_H f 1 _ (by decide), own_H f 2 _ (by decide), own_H f 3 _ (by decide), own_H f 4 _ (by decide)]
theorem own_same_g (f : Nat → Int32) (p2 p3 : Int32) : own_same p2 p3 f = own_same p2 p3 (own_code f) := by
  simp only [own_same, own_H f 0 _ (by decide), own_H f 1 _ (by decide), own_H f 2 _ (by decide), own_H f 3 _ (by decide)]
theorem own_border_g (f : Nat → Int32) (p2 : Int32) : own_border p2 f = own_border p2 (own_code f) := by
  simp only [own_border, own_same_g f]
def own_g (c1 : Fin 2) (c2 : Fin 3) (c3 : Fin 4) (c4 : Fin 5) : Nat → Int32
  | 0 => 0
  | 1 => Int32.ofNat c1.val
  | 2 => Int32.ofNat c2.val
  | 3 => Int32.ofNat c3.val
  | _ + 4 => Int32.ofNat c4.val
theorem own_code_g (f : Nat → Int32) (ht : ∀ i, 4 ≤ i → f i = f 4) : ∃ c1 c2 c3 c4, own_code f = own_g c1 c2 c3 c4 := by
  have e0 : own_code f 0 = 0 := by rw [own_code, if_pos rfl]
  obtain ⟨c1, e1⟩ : ∃ c : Fin 2, own_code f 1 = Int32.ofNat c.val := by
    by_cases h0 : f 1 = f 0
    · exact ⟨0, by rw [own_code, if_pos h0] <;> rfl⟩
    exact ⟨1, by rw [own_code, if_neg h0, if_pos rfl] <;> rfl⟩
  obtain ⟨c2, e2⟩ : ∃ c : Fin 3, own_code f 2 = Int32.ofNat c.val := by
    by_cases h0 : f 2 = f 0
    · exact ⟨0, by rw [own_code, if_pos h0] <;> rfl⟩
    by_cases h1 : f 2 = f 1
    · exact ⟨1, by rw [own_code, if_neg h0, if_pos h1] <;> rfl⟩
    exact ⟨2, by rw [own_code, if_neg h0, if_neg h1, if_pos rfl] <;> rfl⟩
  obtain ⟨c3, e3⟩ : ∃ c : Fin 4, own_code f 3 = Int32.ofNat c.val := by
    by_cases h0 : f 3 = f 0
    · exact ⟨0, by rw [own_code, if_pos h0] <;> rfl⟩
    by_cases h1 : f 3 = f 1
    · exact ⟨1, by rw [own_code, if_neg h0, if_pos h1] <;> rfl⟩
    by_cases h2 : f 3 = f 2
    · exact ⟨2, by rw [own_code, if_neg h0, if_neg h1, if_pos h2] <;> rfl⟩
    exact ⟨3, by rw [own_code, if_neg h0, if_neg h1, if_neg h2, if_pos rfl] <;> rfl⟩
  obtain ⟨c4, e4⟩ : ∃ c : Fin 5, own_code f 4 = Int32.ofNat c.val := by
    by_cases h0 : f 4 = f 0
    · exact ⟨0, by rw [own_code, if_pos h0] <;> rfl⟩
    by_cases h1 : f 4 = f 1
    · exact ⟨1, by rw [own_code, if_neg h0, if_pos h1] <;> rfl⟩
    by_cases h2 : f 4 = f 2
    · exact ⟨2, by rw [own_code, if_neg h0, if_neg h1, if_pos h2] <;> rfl⟩
    by_cases h3 : f 4 = f 3
    · exact ⟨3, by rw [own_code, if_neg h0, if_neg h1, if_neg h2, if_pos h3] <;> rfl⟩
    exact ⟨4, by rw [own_code, if_neg h0, if_neg h1, if_neg h2, if_neg h3, if_pos rfl] <;> rfl⟩
  refine ⟨c1, c2, c3, c4, funext fun i => ?_⟩
  match i with
  | 0 => exact e0
  | 1 => exact e1
  | 2 => exact e2
  | 3 => exact e3
  | k + 4 =>
    have : own_code f (k + 4) = own_code f 4 := by unfold own_code; rw [ht (k + 4) (by omega)]
    rw [this]; exact e4
def own_chk (n : Nat) (g : Nat → Int32) : Bool := (List.range n).all fun k => decide (own_out n (fun i => own_lcp (Int32.ofNat n) (Int32.ofNat i) g) k = own_border (Int32.ofNat k) g)
set_option maxRecDepth 65536 in
theorem own_all : ∀ (n : Fin 6) (c1 : Fin 2) (c2 : Fin 3) (c3 : Fin 4) (c4 : Fin 5), own_chk n.val (own_g c1 c2 c3 c4) = true := by decide +kernel
theorem own_turns_eq (z z' : Nat → Int32) : ∀ k, (∀ i, 1 ≤ i → i ≤ k → z i = z' i) → own_turns z k = own_turns z' k
  | 0, _ => rfl
  | k + 1, h => by
    rw [own_turns, own_turns, h (k + 1) (by omega) (Nat.le_refl _), own_turns_eq z z' k fun i h1 h2 => h i h1 (by omega)]
theorem own_main (n : Nat) (hn : n < 6) (f fz : Nat → Int32) (ht : ∀ i, 4 ≤ i → f i = f 4) (hz : ∀ i, 1 ≤ i → i ≤ n - 1 → fz i = own_lcp (Int32.ofNat n) (Int32.ofNat i) f) (k : Nat) (hk : k < n) : own_out n fz k = own_border (Int32.ofNat k) f := by
  obtain ⟨c1, c2, c3, c4, e⟩ := own_code_g f ht
  have q := own_all ⟨n, hn⟩ c1 c2 c3 c4
  rw [← e] at q
  have r := of_decide_eq_true (List.all_eq_true.mp q k (List.mem_range.mpr hk))
  rw [own_border_g, ← r]
  show own_turns fz (n - 1) k = own_turns _ (n - 1) k
  rw [own_turns_eq fz (fun i => own_lcp (Int32.ofNat n) (Int32.ofNat i) (own_code f)) (n - 1) fun i h1 h2 => (hz i h1 h2).trans (own_lcp_g f _ _)]
theorem own_z1 (f fz : Nat → Int32)  : ∀ i, 1 ≤ i → i ≤ 1 - 1 → fz i = own_lcp (Int32.ofNat 1) (Int32.ofNat i) f := by
    intro i h1 h2
    omega
theorem own_good1_0 (f fz : Nat → Int32) (ht : ∀ i, 4 ≤ i → f i = f 4)  : own_out 1 fz 0 = own_border (0 : Int32) f := own_main 1 (by decide) f fz ht (own_z1 f fz ) 0 (by decide)
theorem own_z2 (f fz : Nat → Int32) (z1 : fz 1 = own_lcp (2 : Int32) (1 : Int32) f) : ∀ i, 1 ≤ i → i ≤ 2 - 1 → fz i = own_lcp (Int32.ofNat 2) (Int32.ofNat i) f := by
    intro i h1 h2
    obtain rfl : i = 1 := by omega
    · exact z1
theorem own_good2_0 (f fz : Nat → Int32) (ht : ∀ i, 4 ≤ i → f i = f 4) (z1 : fz 1 = own_lcp (2 : Int32) (1 : Int32) f) : own_out 2 fz 0 = own_border (0 : Int32) f := own_main 2 (by decide) f fz ht (own_z2 f fz z1) 0 (by decide)
theorem own_good2_1 (f fz : Nat → Int32) (ht : ∀ i, 4 ≤ i → f i = f 4) (z1 : fz 1 = own_lcp (2 : Int32) (1 : Int32) f) : own_out 2 fz 1 = own_border (1 : Int32) f := own_main 2 (by decide) f fz ht (own_z2 f fz z1) 1 (by decide)
theorem own_z3 (f fz : Nat → Int32) (z1 : fz 1 = own_lcp (3 : Int32) (1 : Int32) f) (z2 : fz 2 = own_lcp (3 : Int32) (2 : Int32) f) : ∀ i, 1 ≤ i → i ≤ 3 - 1 → fz i = own_lcp (Int32.ofNat 3) (Int32.ofNat i) f := by
    intro i h1 h2
    have : i = 1 ∨ i = 2 := by omega
    rcases this with rfl | rfl
    · exact z1
    · exact z2
theorem own_good3_0 (f fz : Nat → Int32) (ht : ∀ i, 4 ≤ i → f i = f 4) (z1 : fz 1 = own_lcp (3 : Int32) (1 : Int32) f) (z2 : fz 2 = own_lcp (3 : Int32) (2 : Int32) f) : own_out 3 fz 0 = own_border (0 : Int32) f := own_main 3 (by decide) f fz ht (own_z3 f fz z1 z2) 0 (by decide)
theorem own_good3_1 (f fz : Nat → Int32) (ht : ∀ i, 4 ≤ i → f i = f 4) (z1 : fz 1 = own_lcp (3 : Int32) (1 : Int32) f) (z2 : fz 2 = own_lcp (3 : Int32) (2 : Int32) f) : own_out 3 fz 1 = own_border (1 : Int32) f := own_main 3 (by decide) f fz ht (own_z3 f fz z1 z2) 1 (by decide)
theorem own_good3_2 (f fz : Nat → Int32) (ht : ∀ i, 4 ≤ i → f i = f 4) (z1 : fz 1 = own_lcp (3 : Int32) (1 : Int32) f) (z2 : fz 2 = own_lcp (3 : Int32) (2 : Int32) f) : own_out 3 fz 2 = own_border (2 : Int32) f := own_main 3 (by decide) f fz ht (own_z3 f fz z1 z2) 2 (by decide)
theorem own_z4 (f fz : Nat → Int32) (z1 : fz 1 = own_lcp (4 : Int32) (1 : Int32) f) (z2 : fz 2 = own_lcp (4 : Int32) (2 : Int32) f) (z3 : fz 3 = own_lcp (4 : Int32) (3 : Int32) f) : ∀ i, 1 ≤ i → i ≤ 4 - 1 → fz i = own_lcp (Int32.ofNat 4) (Int32.ofNat i) f := by
    intro i h1 h2
    have : i = 1 ∨ i = 2 ∨ i = 3 := by omega
    rcases this with rfl | rfl | rfl
    · exact z1
    · exact z2
    · exact z3
theorem own_good4_0 (f fz : Nat → Int32) (ht : ∀ i, 4 ≤ i → f i = f 4) (z1 : fz 1 = own_lcp (4 : Int32) (1 : Int32) f) (z2 : fz 2 = own_lcp (4 : Int32) (2 : Int32) f) (z3 : fz 3 = own_lcp (4 : Int32) (3 : Int32) f) : own_out 4 fz 0 = own_border (0 : Int32) f := own_main 4 (by decide) f fz ht (own_z4 f fz z1 z2 z3) 0 (by decide)
theorem own_good4_1 (f fz : Nat → Int32) (ht : ∀ i, 4 ≤ i → f i = f 4) (z1 : fz 1 = own_lcp (4 : Int32) (1 : Int32) f) (z2 : fz 2 = own_lcp (4 : Int32) (2 : Int32) f) (z3 : fz 3 = own_lcp (4 : Int32) (3 : Int32) f) : own_out 4 fz 1 = own_border (1 : Int32) f := own_main 4 (by decide) f fz ht (own_z4 f fz z1 z2 z3) 1 (by decide)
theorem own_good4_2 (f fz : Nat → Int32) (ht : ∀ i, 4 ≤ i → f i = f 4) (z1 : fz 1 = own_lcp (4 : Int32) (1 : Int32) f) (z2 : fz 2 = own_lcp (4 : Int32) (2 : Int32) f) (z3 : fz 3 = own_lcp (4 : Int32) (3 : Int32) f) : own_out 4 fz 2 = own_border (2 : Int32) f := own_main 4 (by decide) f fz ht (own_z4 f fz z1 z2 z3) 2 (by decide)
theorem own_good4_3 (f fz : Nat → Int32) (ht : ∀ i, 4 ≤ i → f i = f 4) (z1 : fz 1 = own_lcp (4 : Int32) (1 : Int32) f) (z2 : fz 2 = own_lcp (4 : Int32) (2 : Int32) f) (z3 : fz 3 = own_lcp (4 : Int32) (3 : Int32) f) : own_out 4 fz 3 = own_border (3 : Int32) f := own_main 4 (by decide) f fz ht (own_z4 f fz z1 z2 z3) 3 (by decide)
theorem own_z5 (f fz : Nat → Int32) (z1 : fz 1 = own_lcp (5 : Int32) (1 : Int32) f) (z2 : fz 2 = own_lcp (5 : Int32) (2 : Int32) f) (z3 : fz 3 = own_lcp (5 : Int32) (3 : Int32) f) (z4 : fz 4 = own_lcp (5 : Int32) (4 : Int32) f) : ∀ i, 1 ≤ i → i ≤ 5 - 1 → fz i = own_lcp (Int32.ofNat 5) (Int32.ofNat i) f := by
    intro i h1 h2
    have : i = 1 ∨ i = 2 ∨ i = 3 ∨ i = 4 := by omega
    rcases this with rfl | rfl | rfl | rfl
    · exact z1
    · exact z2
    · exact z3
    · exact z4
theorem own_good5_0 (f fz : Nat → Int32) (ht : ∀ i, 4 ≤ i → f i = f 4) (z1 : fz 1 = own_lcp (5 : Int32) (1 : Int32) f) (z2 : fz 2 = own_lcp (5 : Int32) (2 : Int32) f) (z3 : fz 3 = own_lcp (5 : Int32) (3 : Int32) f) (z4 : fz 4 = own_lcp (5 : Int32) (4 : Int32) f) : own_out 5 fz 0 = own_border (0 : Int32) f := own_main 5 (by decide) f fz ht (own_z5 f fz z1 z2 z3 z4) 0 (by decide)
theorem own_good5_1 (f fz : Nat → Int32) (ht : ∀ i, 4 ≤ i → f i = f 4) (z1 : fz 1 = own_lcp (5 : Int32) (1 : Int32) f) (z2 : fz 2 = own_lcp (5 : Int32) (2 : Int32) f) (z3 : fz 3 = own_lcp (5 : Int32) (3 : Int32) f) (z4 : fz 4 = own_lcp (5 : Int32) (4 : Int32) f) : own_out 5 fz 1 = own_border (1 : Int32) f := own_main 5 (by decide) f fz ht (own_z5 f fz z1 z2 z3 z4) 1 (by decide)
theorem own_good5_2 (f fz : Nat → Int32) (ht : ∀ i, 4 ≤ i → f i = f 4) (z1 : fz 1 = own_lcp (5 : Int32) (1 : Int32) f) (z2 : fz 2 = own_lcp (5 : Int32) (2 : Int32) f) (z3 : fz 3 = own_lcp (5 : Int32) (3 : Int32) f) (z4 : fz 4 = own_lcp (5 : Int32) (4 : Int32) f) : own_out 5 fz 2 = own_border (2 : Int32) f := own_main 5 (by decide) f fz ht (own_z5 f fz z1 z2 z3 z4) 2 (by decide)
theorem own_good5_3 (f fz : Nat → Int32) (ht : ∀ i, 4 ≤ i → f i = f 4) (z1 : fz 1 = own_lcp (5 : Int32) (1 : Int32) f) (z2 : fz 2 = own_lcp (5 : Int32) (2 : Int32) f) (z3 : fz 3 = own_lcp (5 : Int32) (3 : Int32) f) (z4 : fz 4 = own_lcp (5 : Int32) (4 : Int32) f) : own_out 5 fz 3 = own_border (3 : Int32) f := own_main 5 (by decide) f fz ht (own_z5 f fz z1 z2 z3 z4) 3 (by decide)
theorem own_good5_4 (f fz : Nat → Int32) (ht : ∀ i, 4 ≤ i → f i = f 4) (z1 : fz 1 = own_lcp (5 : Int32) (1 : Int32) f) (z2 : fz 2 = own_lcp (5 : Int32) (2 : Int32) f) (z3 : fz 3 = own_lcp (5 : Int32) (3 : Int32) f) (z4 : fz 4 = own_lcp (5 : Int32) (4 : Int32) f) : own_out 5 fz 4 = own_border (4 : Int32) f := own_main 5 (by decide) f fz ht (own_z5 f fz z1 z2 z3 z4) 4 (by decide)
theorem pd_2 : parseMethodDescriptor "([I)[I" = some ⟨[(.array .int)], some (.array .int)⟩ := by decide +kernel
theorem pd_3 : parseMethodDescriptor "([III)I" = some ⟨[(.array .int), .int, .int], some .int⟩ := by decide +kernel
theorem pd_4 : parseMethodDescriptor "([II)I" = some ⟨[(.array .int), .int], some .int⟩ := by decide +kernel
theorem ef_0_II (m : MethodId) (x0 : Int32) (x1 : Int32) : entryFrame m #[(.int x0), (.int x1)] maxLocals = mkF m 0 #[.val (.int x0), .val (.int x1), .unset, .unset, .unset, .unset, .unset] [] := by first | (simp [entryFrame, mkF, argsToLocals, Value.category, maxLocals]; done) | rfl
def Q0 (n0 : Nat) (v : Option Value) (h : Heap) (L : List Loc) : Prop := v = some (.int (1 : Int32)) ∧ Fr n0 L
theorem pn_0 : plainName "com/example/borderwork/borderwork/zarrays/ZArraysToBorderArrayPinLaw" = true := by first | (simp [plainName, overriddenIn]; done) | decide +kernel
set_option maxRecDepth 65536 in
set_option maxHeartbeats 40000000 in
theorem rm0 (l : Launch) (Z : State) (a0 : Array Value) (hw : ∀ d ∈ tables_1, d.before a0 Z = true) (ws : List Jvm.Cond) (p1 : Int32) (p2 : Int32) (h0 : Heap) (n0 : Nat) (Z0 : n0 ≤ h0.size)  :
    MetFree l x (head1 (Jvm.Cond.code x code maxLocals ret :: ws) room_1) (fun a U => a = #[(.int p1), (.int p2)] ∧ Z.Warmed39 U.vm ∧ U.heap = h0) (fun _ _ _ _ _ => True) (fun _ U o U' => ∃ v L, o = .returned v ∧ Q0 n0 v U'.heap L ∧ FrameEnd U o U' L room_1.cells room_1.slots) := by
  refine MetFree.of_bodySF (plainFor_of_name pn_0) hisR ?_
  intro p e s m args below meth c s₁ Bd hml0 hP hK
  obtain ⟨rfl, hZ, hh⟩ := hP
  have hx := Bd.exec
  have hby := Bd.bytes
  have hml : c.maxLocals = 7 := hml0
  have hown : s.vm.findClass "com/example/borderwork/borderwork/zarrays/ZArraysToBorderArrayPinLaw" = some m.cls := findClass_of_methodNamed Bd.named
  have hnm := (name_of_methodNamed Bd.named Bd.method).1
  have X0 : Stand p l e room_1 s m #[(.int p1), (.int p2)] below meth c s₁ [] 0 0 := Stand.of_body Bd
  have e0 : s₁.heap = h0 := by rw [← hh, Bd.state]; rfl
  have N0 := Fr.nil n0
  have pre0 : ∀ t, Steps p.tables e below (s₁.setTop (mkF m 0 #[.val (.int p1), .val (.int p2), .unset, .unset, .unset, .unset, .unset] [])) t → Steps p.tables e below (s₁.setTop (entryFrame m #[(.int p1), (.int p2)] maxLocals)) t := fun t k => castTop (ef_0_II m p1 p2) k
  have pr_1 : ∀ t, Steps p.tables e below (s₁.setTop (mkF m 8 #[.val (.int p1), .val (.int p2), .val (.int ((p1 &&& (2147483647 : Int32)) % (6 : Int32))), .unset, .unset, .unset, .unset] [])) t → Steps p.tables e below (s₁.setTop (entryFrame m #[(.int p1), (.int p2)] maxLocals)) t := fun t k => by
    refine pre0 _ ?_
    show Steps p.tables e below (s₁.setTop (mkF m 0 #[.val (.int p1), .val (.int p2), .unset, .unset, .unset, .unset, .unset] [])) _
    refine XS.iloadN X0.here hx rfl (hb hby at_0) rfl ?_
    show Steps p.tables e below (s₁.setTop (mkF m 1 #[.val (.int p1), .val (.int p2), .unset, .unset, .unset, .unset, .unset] [(.int p1)])) _
    refine X0.ldcInt hx hown (mvT hZ (hw _ (List.mem_of_getElem? (i := 0) rfl))) (g := (mkF m 1 #[.val (.int p1), .val (.int p2), .unset, .unset, .unset, .unset, .unset] [(.int p1)])) rfl (hb hby at_1) _ ?_
    show Steps p.tables e below (s₁.setTop (mkF m 3 #[.val (.int p1), .val (.int p2), .unset, .unset, .unset, .unset, .unset] [(.int (2147483647 : Int32)), (.int p1)])) _
    refine XS.iand X0.here hx rfl (hb hby at_3) rfl ?_
    show Steps p.tables e below (s₁.setTop (mkF m 4 #[.val (.int p1), .val (.int p2), .unset, .unset, .unset, .unset, .unset] [(.int (p1 &&& (2147483647 : Int32)))])) _
    refine XS.bipush X0.here hx rfl (hb hby at_4) ?_
    show Steps p.tables e below (s₁.setTop (mkF m 6 #[.val (.int p1), .val (.int p2), .unset, .unset, .unset, .unset, .unset] [(.int (6 : Int32)), (.int (p1 &&& (2147483647 : Int32)))])) _
    refine iremM X0 hx rfl (hb hby at_6) rfl (by decide) ?_
    show Steps p.tables e below (s₁.setTop (mkF m 7 #[.val (.int p1), .val (.int p2), .unset, .unset, .unset, .unset, .unset] [(.int ((p1 &&& (2147483647 : Int32)) % (6 : Int32)))])) _
    refine XS.istoreN X0.here hx rfl (hb hby at_7) rfl (l' := #[.val (.int p1), .val (.int p2), .val (.int ((p1 &&& (2147483647 : Int32)) % (6 : Int32))), .unset, .unset, .unset, .unset]) rfl ?_
    exact k
  obtain ⟨n2, hn2⟩ : ∃ z, z = ((p1 &&& (2147483647 : Int32)) % (6 : Int32)) := ⟨_, rfl⟩
  rw [← hn2] at pr_1
  rcases own_n p1 n2 hn2 with rfl | rfl | rfl | rfl | rfl | rfl
  · obtain ⟨T_2, h_2, k_2, X_2, e_2, E_2, A_2, st_2⟩ := newP X0 hx hZ (hw _ (List.mem_of_getElem? (i := 1) rfl)) e0 (g := (mkF m 9 #[.val (.int p1), .val (.int p2), .val (.int (0 : Int32)), .unset, .unset, .unset, .unset] [(.int (5 : Int32))])) rfl (hb hby at_9) rfl (by decide) (cap := 5) (by decide) (by decide) (by decide) (by decide)
    obtain ⟨b_2, g_2⟩ : ∃ z, z = h0.size := ⟨_, rfl⟩
    rw [← g_2] at A_2 st_2
    have g_b_2 : n0 ≤ b_2 := Nat.le_trans Z0 (Nat.le_of_eq g_2.symm)
    have sz_b_2 : h0.size ≤ b_2 := Nat.le_trans ((Keep.refl h0 [])).1 (Nat.le_of_eq g_2.symm)
    have Z_2 : n0 ≤ h_2.size := Nat.le_trans Z0 E_2.1
    have K_2 : Keep h0 h_2 [] := (Keep.refl h0 []).ext E_2
    have fa_2 : own_arr .int Z h_2 b_2 5 (fun _ => 0) := own_arr.newI A_2 rfl
    have fo_3 := fa_2
    obtain ⟨cl_3, Ar_3, Sz_3, At_3⟩ := fo_3
    obtain ⟨T_3, h_3, X_3, e_3, W_3, st_3⟩ := stI X_2 hx hZ e_2 Ar_3 (j := (0 : Int32)) (own_inb Sz_3 (by decide)) (g := (mkF m 18 #[.val (.int p1), .val (.int p2), .val (.int (0 : Int32)), .val (.ref b_2), .unset, .unset, .unset] [(.int (p2 &&& (7 : Int32))), (.int (0 : Int32)), (.ref b_2)])) rfl rfl (hb hby at_18)
    have N_3 := Fr.snoc X_3 N0 g_b_2
    have fw_3 : own_arr .int Z h_3 b_2 5 (own_upd (fun _ => 0) 0 (p2 &&& (7 : Int32))) := own_arr.set Ar_3 Sz_3 At_3 W_3
    have Z_3 : n0 ≤ h_3.size := Nat.le_trans Z_2 (Keep.of_wr W_3).1
    have K_3 : Keep h0 h_3 [] := K_2.wr W_3 (Or.inr sz_b_2)
    have fo_4 := fw_3
    obtain ⟨cl_4, Ar_4, Sz_4, At_4⟩ := fo_4
    obtain ⟨T_4, h_4, X_4, e_4, W_4, st_4⟩ := stI X_3 hx hZ e_3 Ar_4 (j := (1 : Int32)) (own_inb Sz_4 (by decide)) (g := (mkF m 27 #[.val (.int p1), .val (.int p2), .val (.int (0 : Int32)), .val (.ref b_2), .unset, .unset, .unset] [(.int (((p2.toUInt32 >>> ((3 : Int32) &&& 31).toUInt32).toInt32) &&& (7 : Int32))), (.int (1 : Int32)), (.ref b_2)])) rfl rfl (hb hby at_27)
    have N_4 := Fr.snoc X_4 N_3 g_b_2
    have fw_4 : own_arr .int Z h_4 b_2 5 (own_upd (own_upd (fun _ => 0) 0 (p2 &&& (7 : Int32))) 1 (((p2.toUInt32 >>> ((3 : Int32) &&& 31).toUInt32).toInt32) &&& (7 : Int32))) := own_arr.set Ar_4 Sz_4 At_4 W_4
    have Z_4 : n0 ≤ h_4.size := Nat.le_trans Z_3 (Keep.of_wr W_4).1
    have K_4 : Keep h0 h_4 [] := K_3.wr W_4 (Or.inr sz_b_2)
    have fo_5 := fw_4
    obtain ⟨cl_5, Ar_5, Sz_5, At_5⟩ := fo_5
    obtain ⟨T_5, h_5, X_5, e_5, W_5, st_5⟩ := stI X_4 hx hZ e_4 Ar_5 (j := (2 : Int32)) (own_inb Sz_5 (by decide)) (g := (mkF m 37 #[.val (.int p1), .val (.int p2), .val (.int (0 : Int32)), .val (.ref b_2), .unset, .unset, .unset] [(.int (((p2.toUInt32 >>> ((6 : Int32) &&& 31).toUInt32).toInt32) &&& (7 : Int32))), (.int (2 : Int32)), (.ref b_2)])) rfl rfl (hb hby at_37)
    have N_5 := Fr.snoc X_5 N_4 g_b_2
    have fw_5 : own_arr .int Z h_5 b_2 5 (own_upd (own_upd (own_upd (fun _ => 0) 0 (p2 &&& (7 : Int32))) 1 (((p2.toUInt32 >>> ((3 : Int32) &&& 31).toUInt32).toInt32) &&& (7 : Int32))) 2 (((p2.toUInt32 >>> ((6 : Int32) &&& 31).toUInt32).toInt32) &&& (7 : Int32))) := own_arr.set Ar_5 Sz_5 At_5 W_5
    have Z_5 : n0 ≤ h_5.size := Nat.le_trans Z_4 (Keep.of_wr W_5).1
    have K_5 : Keep h0 h_5 [] := K_4.wr W_5 (Or.inr sz_b_2)
    have fo_6 := fw_5
    obtain ⟨cl_6, Ar_6, Sz_6, At_6⟩ := fo_6
    obtain ⟨T_6, h_6, X_6, e_6, W_6, st_6⟩ := stI X_5 hx hZ e_5 Ar_6 (j := (3 : Int32)) (own_inb Sz_6 (by decide)) (g := (mkF m 47 #[.val (.int p1), .val (.int p2), .val (.int (0 : Int32)), .val (.ref b_2), .unset, .unset, .unset] [(.int (((p2.toUInt32 >>> ((9 : Int32) &&& 31).toUInt32).toInt32) &&& (7 : Int32))), (.int (3 : Int32)), (.ref b_2)])) rfl rfl (hb hby at_47)
    have N_6 := Fr.snoc X_6 N_5 g_b_2
    have fw_6 : own_arr .int Z h_6 b_2 5 (own_upd (own_upd (own_upd (own_upd (fun _ => 0) 0 (p2 &&& (7 : Int32))) 1 (((p2.toUInt32 >>> ((3 : Int32) &&& 31).toUInt32).toInt32) &&& (7 : Int32))) 2 (((p2.toUInt32 >>> ((6 : Int32) &&& 31).toUInt32).toInt32) &&& (7 : Int32))) 3 (((p2.toUInt32 >>> ((9 : Int32) &&& 31).toUInt32).toInt32) &&& (7 : Int32))) := own_arr.set Ar_6 Sz_6 At_6 W_6
    have Z_6 : n0 ≤ h_6.size := Nat.le_trans Z_5 (Keep.of_wr W_6).1
    have K_6 : Keep h0 h_6 [] := K_5.wr W_6 (Or.inr sz_b_2)
    have fo_7 := fw_6
    obtain ⟨cl_7, Ar_7, Sz_7, At_7⟩ := fo_7
    obtain ⟨T_7, h_7, X_7, e_7, W_7, st_7⟩ := stI X_6 hx hZ e_6 Ar_7 (j := (4 : Int32)) (own_inb Sz_7 (by decide)) (g := (mkF m 57 #[.val (.int p1), .val (.int p2), .val (.int (0 : Int32)), .val (.ref b_2), .unset, .unset, .unset] [(.int (((p2.toUInt32 >>> ((12 : Int32) &&& 31).toUInt32).toInt32) &&& (7 : Int32))), (.int (4 : Int32)), (.ref b_2)])) rfl rfl (hb hby at_57)
    have N_7 := Fr.snoc X_7 N_6 g_b_2
    have fw_7 : own_arr .int Z h_7 b_2 5 (own_upd (own_upd (own_upd (own_upd (own_upd (fun _ => 0) 0 (p2 &&& (7 : Int32))) 1 (((p2.toUInt32 >>> ((3 : Int32) &&& 31).toUInt32).toInt32) &&& (7 : Int32))) 2 (((p2.toUInt32 >>> ((6 : Int32) &&& 31).toUInt32).toInt32) &&& (7 : Int32))) 3 (((p2.toUInt32 >>> ((9 : Int32) &&& 31).toUInt32).toInt32) &&& (7 : Int32))) 4 (((p2.toUInt32 >>> ((12 : Int32) &&& 31).toUInt32).toInt32) &&& (7 : Int32))) := own_arr.set Ar_7 Sz_7 At_7 W_7
    have Z_7 : n0 ≤ h_7.size := Nat.le_trans Z_6 (Keep.of_wr W_7).1
    have K_7 : Keep h0 h_7 [] := K_6.wr W_7 (Or.inr sz_b_2)
    obtain ⟨f5, hf5, ht5⟩ := own_tail (own_upd (own_upd (own_upd (own_upd (own_upd (fun _ => 0) 0 (p2 &&& (7 : Int32))) 1 (((p2.toUInt32 >>> ((3 : Int32) &&& 31).toUInt32).toInt32) &&& (7 : Int32))) 2 (((p2.toUInt32 >>> ((6 : Int32) &&& 31).toUInt32).toInt32) &&& (7 : Int32))) 3 (((p2.toUInt32 >>> ((9 : Int32) &&& 31).toUInt32).toInt32) &&& (7 : Int32))) 4 (((p2.toUInt32 >>> ((12 : Int32) &&& 31).toUInt32).toInt32) &&& (7 : Int32)))
    have fq5 := fw_7.eqv hf5
    obtain ⟨T_8, h_8, k_8, X_8, e_8, E_8, A_8, st_8⟩ := newP X_7 hx hZ (hw _ (List.mem_of_getElem? (i := 1) rfl)) e_7 (g := (mkF m 59 #[.val (.int p1), .val (.int p2), .val (.int (0 : Int32)), .val (.ref b_2), .unset, .unset, .unset] [(.int (0 : Int32))])) rfl (hb hby at_59) rfl (by decide) (cap := 0) (by decide) (by decide) (by decide) (by decide)
    obtain ⟨b_8, g_8⟩ : ∃ z, z = h_7.size := ⟨_, rfl⟩
    rw [← g_8] at A_8 st_8
    have ne_b_2_b_8 : b_2 ≠ b_8 := Nat.ne_of_lt (Nat.lt_of_lt_of_le fq5.lt (Nat.le_of_eq g_8.symm))
    have g_b_8 : n0 ≤ b_8 := Nat.le_trans Z_7 (Nat.le_of_eq g_8.symm)
    have sz_b_8 : h0.size ≤ b_8 := Nat.le_trans (K_7).1 (Nat.le_of_eq g_8.symm)
    have f_8_0 : own_arr .int Z h_8 b_2 5 f5 := fq5.ext E_8
    have Z_8 : n0 ≤ h_8.size := Nat.le_trans Z_7 E_8.1
    have K_8 : Keep h0 h_8 [] := K_7.ext E_8
    have fa_8 : own_arr .int Z h_8 b_8 0 (fun _ => 0) := own_arr.newI A_8 rfl
    obtain ⟨fz, hfz⟩ : ∃ z : Nat → Int32, z = (fun _ => 0) := ⟨_, rfl⟩
    rw [← hfz] at fa_8
    obtain ⟨_, _, ⟨T_9, L_9, k_9, n_9⟩, -, X_9, ⟨Lc_9, hQ_9, l_9, y_9, z_9⟩, st_9⟩ := Jvm.LawKit.callS X_8 hx (y := (⟨"com/example/borderwork/borderwork/zarrays/ZArrays", "toBorderArray", "([I)[I"⟩ : MethodName)) hown (mvT hZ (hw _ (List.mem_of_getElem? (i := 2) rfl))) (mvT hZ (hw _ (List.mem_of_getElem? (i := 3) rfl))) (mvT hZ (hw _ (List.mem_of_getElem? (i := 4) rfl))) (mvT hZ (hw _ (List.mem_of_getElem? (i := 5) rfl))) (by decide) (backOf (W := 0) (rm1_0 l Z a0 hw [] b_8 fz h_8 n0 Z_8 fa_8) hZ (hw _ (List.mem_of_getElem? (i := 5) rfl)) (hw _ (List.mem_of_getElem? (i := 4) rfl)) (by decide) (by decide)) (g := (mkF m 139 #[.val (.int p1), .val (.int p2), .val (.int (0 : Int32)), .val (.ref b_2), .val (.ref b_8), .unset, .unset] [(.ref b_8)])) rfl (by rw [hml]; rfl) (argsL := [(.ref b_8)]) (rest := []) (lenOf pd_2 rfl) rfl (by show 2 * 0 + _ ≤ _; exact Nat.le_of_eq rfl) (hb hby at_139) (fun _ _ => ⟨rfl, e_8, (by decide : 2 + 1 ≤ _), (by decide : 5 + 0 ≤ _)⟩)
    dsimp only [Pt.U, Pt.locs, Pt.cells, Pt.slots] at X_9 l_9 y_9 z_9 st_9 hQ_9
    subst l_9 y_9 z_9
    obtain ⟨r_9, rfl, N_9q, Kc_9, o_9_0⟩ := hQ_9
    have f_9_0 : own_arr .int Z T_9.heap b_2 5 f5 := f_8_0.keep Kc_9 (List.not_mem_nil)
    have f_9_1 : own_arr .int Z T_9.heap b_8 0 fz := fa_8.keep Kc_9 (List.not_mem_nil)
    have Z_9 : n0 ≤ T_9.heap.size := Nat.le_trans Z_8 Kc_9.1
    have K_9 : Keep h0 T_9.heap [] := K_8.trans Kc_9 (fun x hx => nomatch hx)
    have N_9 := Fr.app N_7 N_9q
    have fo_11 := o_9_0
    obtain ⟨cl_11, Ar_11, Sz_11, At_11⟩ := fo_11
    obtain ⟨fs, hr, hrun, hended, hW, hsame⟩ := X_9.leave (v := some (.int (1 : Int32))) (fun h => by rw [Bd.returns] at h; cases h)
    refine ⟨_, _, pr_1 _ ?_, hrun, hended, _, _, rfl, ?_, ⟨_, rfl⟩, hW, hsame.mono (by decide) (by decide)⟩
    · show Steps p.tables e below (s₁.setTop (mkF m 8 #[.val (.int p1), .val (.int p2), .val (.int (0 : Int32)), .unset, .unset, .unset, .unset] [])) _
      refine XS.iconst X0.here hx rfl (hb hby at_8) ?_
      show Steps p.tables e below (s₁.setTop (mkF m 9 #[.val (.int p1), .val (.int p2), .val (.int (0 : Int32)), .unset, .unset, .unset, .unset] [(.int (5 : Int32))])) _
      refine st_2 _ ?_
      show Steps p.tables e below (T_2.setTop (mkF m 11 #[.val (.int p1), .val (.int p2), .val (.int (0 : Int32)), .unset, .unset, .unset, .unset] [(.ref b_2)])) _
      refine XS.astoreN X_2.here hx rfl (hb hby at_11) rfl rfl (l' := #[.val (.int p1), .val (.int p2), .val (.int (0 : Int32)), .val (.ref b_2), .unset, .unset, .unset]) rfl ?_
      show Steps p.tables e below (T_2.setTop (mkF m 12 #[.val (.int p1), .val (.int p2), .val (.int (0 : Int32)), .val (.ref b_2), .unset, .unset, .unset] [])) _
      refine XS.aloadN X_2.here hx rfl (hb hby at_12) rfl rfl ?_
      show Steps p.tables e below (T_2.setTop (mkF m 13 #[.val (.int p1), .val (.int p2), .val (.int (0 : Int32)), .val (.ref b_2), .unset, .unset, .unset] [(.ref b_2)])) _
      refine XS.iconst X_2.here hx rfl (hb hby at_13) ?_
      show Steps p.tables e below (T_2.setTop (mkF m 14 #[.val (.int p1), .val (.int p2), .val (.int (0 : Int32)), .val (.ref b_2), .unset, .unset, .unset] [(.int (0 : Int32)), (.ref b_2)])) _
      refine XS.iloadN X_2.here hx rfl (hb hby at_14) rfl ?_
      show Steps p.tables e below (T_2.setTop (mkF m 15 #[.val (.int p1), .val (.int p2), .val (.int (0 : Int32)), .val (.ref b_2), .unset, .unset, .unset] [(.int p2), (.int (0 : Int32)), (.ref b_2)])) _
      refine XS.bipush X_2.here hx rfl (hb hby at_15) ?_
      show Steps p.tables e below (T_2.setTop (mkF m 17 #[.val (.int p1), .val (.int p2), .val (.int (0 : Int32)), .val (.ref b_2), .unset, .unset, .unset] [(.int (7 : Int32)), (.int p2), (.int (0 : Int32)), (.ref b_2)])) _
      refine XS.iand X_2.here hx rfl (hb hby at_17) rfl ?_
      show Steps p.tables e below (T_2.setTop (mkF m 18 #[.val (.int p1), .val (.int p2), .val (.int (0 : Int32)), .val (.ref b_2), .unset, .unset, .unset] [(.int (p2 &&& (7 : Int32))), (.int (0 : Int32)), (.ref b_2)])) _
      refine st_3 _ ?_
      show Steps p.tables e below (T_3.setTop (mkF m 19 #[.val (.int p1), .val (.int p2), .val (.int (0 : Int32)), .val (.ref b_2), .unset, .unset, .unset] [])) _
      refine XS.aloadN X_3.here hx rfl (hb hby at_19) rfl rfl ?_
      show Steps p.tables e below (T_3.setTop (mkF m 20 #[.val (.int p1), .val (.int p2), .val (.int (0 : Int32)), .val (.ref b_2), .unset, .unset, .unset] [(.ref b_2)])) _
      refine XS.iconst X_3.here hx rfl (hb hby at_20) ?_
      show Steps p.tables e below (T_3.setTop (mkF m 21 #[.val (.int p1), .val (.int p2), .val (.int (0 : Int32)), .val (.ref b_2), .unset, .unset, .unset] [(.int (1 : Int32)), (.ref b_2)])) _
      refine XS.iloadN X_3.here hx rfl (hb hby at_21) rfl ?_
      show Steps p.tables e below (T_3.setTop (mkF m 22 #[.val (.int p1), .val (.int p2), .val (.int (0 : Int32)), .val (.ref b_2), .unset, .unset, .unset] [(.int p2), (.int (1 : Int32)), (.ref b_2)])) _
      refine XS.iconst X_3.here hx rfl (hb hby at_22) ?_
      show Steps p.tables e below (T_3.setTop (mkF m 23 #[.val (.int p1), .val (.int p2), .val (.int (0 : Int32)), .val (.ref b_2), .unset, .unset, .unset] [(.int (3 : Int32)), (.int p2), (.int (1 : Int32)), (.ref b_2)])) _
      refine XS.iushr X_3.here hx rfl (hb hby at_23) rfl ?_
      show Steps p.tables e below (T_3.setTop (mkF m 24 #[.val (.int p1), .val (.int p2), .val (.int (0 : Int32)), .val (.ref b_2), .unset, .unset, .unset] [(.int ((p2.toUInt32 >>> ((3 : Int32) &&& 31).toUInt32).toInt32)), (.int (1 : Int32)), (.ref b_2)])) _
      refine XS.bipush X_3.here hx rfl (hb hby at_24) ?_
      show Steps p.tables e below (T_3.setTop (mkF m 26 #[.val (.int p1), .val (.int p2), .val (.int (0 : Int32)), .val (.ref b_2), .unset, .unset, .unset] [(.int (7 : Int32)), (.int ((p2.toUInt32 >>> ((3 : Int32) &&& 31).toUInt32).toInt32)), (.int (1 : Int32)), (.ref b_2)])) _
      refine XS.iand X_3.here hx rfl (hb hby at_26) rfl ?_
      show Steps p.tables e below (T_3.setTop (mkF m 27 #[.val (.int p1), .val (.int p2), .val (.int (0 : Int32)), .val (.ref b_2), .unset, .unset, .unset] [(.int (((p2.toUInt32 >>> ((3 : Int32) &&& 31).toUInt32).toInt32) &&& (7 : Int32))), (.int (1 : Int32)), (.ref b_2)])) _
      refine st_4 _ ?_
      show Steps p.tables e below (T_4.setTop (mkF m 28 #[.val (.int p1), .val (.int p2), .val (.int (0 : Int32)), .val (.ref b_2), .unset, .unset, .unset] [])) _
      refine XS.aloadN X_4.here hx rfl (hb hby at_28) rfl rfl ?_
      show Steps p.tables e below (T_4.setTop (mkF m 29 #[.val (.int p1), .val (.int p2), .val (.int (0 : Int32)), .val (.ref b_2), .unset, .unset, .unset] [(.ref b_2)])) _
      refine XS.iconst X_4.here hx rfl (hb hby at_29) ?_
      show Steps p.tables e below (T_4.setTop (mkF m 30 #[.val (.int p1), .val (.int p2), .val (.int (0 : Int32)), .val (.ref b_2), .unset, .unset, .unset] [(.int (2 : Int32)), (.ref b_2)])) _
      refine XS.iloadN X_4.here hx rfl (hb hby at_30) rfl ?_
      show Steps p.tables e below (T_4.setTop (mkF m 31 #[.val (.int p1), .val (.int p2), .val (.int (0 : Int32)), .val (.ref b_2), .unset, .unset, .unset] [(.int p2), (.int (2 : Int32)), (.ref b_2)])) _
      refine XS.bipush X_4.here hx rfl (hb hby at_31) ?_
      show Steps p.tables e below (T_4.setTop (mkF m 33 #[.val (.int p1), .val (.int p2), .val (.int (0 : Int32)), .val (.ref b_2), .unset, .unset, .unset] [(.int (6 : Int32)), (.int p2), (.int (2 : Int32)), (.ref b_2)])) _
      refine XS.iushr X_4.here hx rfl (hb hby at_33) rfl ?_
      show Steps p.tables e below (T_4.setTop (mkF m 34 #[.val (.int p1), .val (.int p2), .val (.int (0 : Int32)), .val (.ref b_2), .unset, .unset, .unset] [(.int ((p2.toUInt32 >>> ((6 : Int32) &&& 31).toUInt32).toInt32)), (.int (2 : Int32)), (.ref b_2)])) _
      refine XS.bipush X_4.here hx rfl (hb hby at_34) ?_
      show Steps p.tables e below (T_4.setTop (mkF m 36 #[.val (.int p1), .val (.int p2), .val (.int (0 : Int32)), .val (.ref b_2), .unset, .unset, .unset] [(.int (7 : Int32)), (.int ((p2.toUInt32 >>> ((6 : Int32) &&& 31).toUInt32).toInt32)), (.int (2 : Int32)), (.ref b_2)])) _
      refine XS.iand X_4.here hx rfl (hb hby at_36) rfl ?_
      show Steps p.tables e below (T_4.setTop (mkF m 37 #[.val (.int p1), .val (.int p2), .val (.int (0 : Int32)), .val (.ref b_2), .unset, .unset, .unset] [(.int (((p2.toUInt32 >>> ((6 : Int32) &&& 31).toUInt32).toInt32) &&& (7 : Int32))), (.int (2 : Int32)), (.ref b_2)])) _
      refine st_5 _ ?_
      show Steps p.tables e below (T_5.setTop (mkF m 38 #[.val (.int p1), .val (.int p2), .val (.int (0 : Int32)), .val (.ref b_2), .unset, .unset, .unset] [])) _
      refine XS.aloadN X_5.here hx rfl (hb hby at_38) rfl rfl ?_
      show Steps p.tables e below (T_5.setTop (mkF m 39 #[.val (.int p1), .val (.int p2), .val (.int (0 : Int32)), .val (.ref b_2), .unset, .unset, .unset] [(.ref b_2)])) _
      refine XS.iconst X_5.here hx rfl (hb hby at_39) ?_
      show Steps p.tables e below (T_5.setTop (mkF m 40 #[.val (.int p1), .val (.int p2), .val (.int (0 : Int32)), .val (.ref b_2), .unset, .unset, .unset] [(.int (3 : Int32)), (.ref b_2)])) _
      refine XS.iloadN X_5.here hx rfl (hb hby at_40) rfl ?_
      show Steps p.tables e below (T_5.setTop (mkF m 41 #[.val (.int p1), .val (.int p2), .val (.int (0 : Int32)), .val (.ref b_2), .unset, .unset, .unset] [(.int p2), (.int (3 : Int32)), (.ref b_2)])) _
      refine XS.bipush X_5.here hx rfl (hb hby at_41) ?_
      show Steps p.tables e below (T_5.setTop (mkF m 43 #[.val (.int p1), .val (.int p2), .val (.int (0 : Int32)), .val (.ref b_2), .unset, .unset, .unset] [(.int (9 : Int32)), (.int p2), (.int (3 : Int32)), (.ref b_2)])) _
      refine XS.iushr X_5.here hx rfl (hb hby at_43) rfl ?_
      show Steps p.tables e below (T_5.setTop (mkF m 44 #[.val (.int p1), .val (.int p2), .val (.int (0 : Int32)), .val (.ref b_2), .unset, .unset, .unset] [(.int ((p2.toUInt32 >>> ((9 : Int32) &&& 31).toUInt32).toInt32)), (.int (3 : Int32)), (.ref b_2)])) _
      refine XS.bipush X_5.here hx rfl (hb hby at_44) ?_
      show Steps p.tables e below (T_5.setTop (mkF m 46 #[.val (.int p1), .val (.int p2), .val (.int (0 : Int32)), .val (.ref b_2), .unset, .unset, .unset] [(.int (7 : Int32)), (.int ((p2.toUInt32 >>> ((9 : Int32) &&& 31).toUInt32).toInt32)), (.int (3 : Int32)), (.ref b_2)])) _
      refine XS.iand X_5.here hx rfl (hb hby at_46) rfl ?_
      show Steps p.tables e below (T_5.setTop (mkF m 47 #[.val (.int p1), .val (.int p2), .val (.int (0 : Int32)), .val (.ref b_2), .unset, .unset, .unset] [(.int (((p2.toUInt32 >>> ((9 : Int32) &&& 31).toUInt32).toInt32) &&& (7 : Int32))), (.int (3 : Int32)), (.ref b_2)])) _
      refine st_6 _ ?_
      show Steps p.tables e below (T_6.setTop (mkF m 48 #[.val (.int p1), .val (.int p2), .val (.int (0 : Int32)), .val (.ref b_2), .unset, .unset, .unset] [])) _
      refine XS.aloadN X_6.here hx rfl (hb hby at_48) rfl rfl ?_
      show Steps p.tables e below (T_6.setTop (mkF m 49 #[.val (.int p1), .val (.int p2), .val (.int (0 : Int32)), .val (.ref b_2), .unset, .unset, .unset] [(.ref b_2)])) _
      refine XS.iconst X_6.here hx rfl (hb hby at_49) ?_
      show Steps p.tables e below (T_6.setTop (mkF m 50 #[.val (.int p1), .val (.int p2), .val (.int (0 : Int32)), .val (.ref b_2), .unset, .unset, .unset] [(.int (4 : Int32)), (.ref b_2)])) _
      refine XS.iloadN X_6.here hx rfl (hb hby at_50) rfl ?_
      show Steps p.tables e below (T_6.setTop (mkF m 51 #[.val (.int p1), .val (.int p2), .val (.int (0 : Int32)), .val (.ref b_2), .unset, .unset, .unset] [(.int p2), (.int (4 : Int32)), (.ref b_2)])) _
      refine XS.bipush X_6.here hx rfl (hb hby at_51) ?_
      show Steps p.tables e below (T_6.setTop (mkF m 53 #[.val (.int p1), .val (.int p2), .val (.int (0 : Int32)), .val (.ref b_2), .unset, .unset, .unset] [(.int (12 : Int32)), (.int p2), (.int (4 : Int32)), (.ref b_2)])) _
      refine XS.iushr X_6.here hx rfl (hb hby at_53) rfl ?_
      show Steps p.tables e below (T_6.setTop (mkF m 54 #[.val (.int p1), .val (.int p2), .val (.int (0 : Int32)), .val (.ref b_2), .unset, .unset, .unset] [(.int ((p2.toUInt32 >>> ((12 : Int32) &&& 31).toUInt32).toInt32)), (.int (4 : Int32)), (.ref b_2)])) _
      refine XS.bipush X_6.here hx rfl (hb hby at_54) ?_
      show Steps p.tables e below (T_6.setTop (mkF m 56 #[.val (.int p1), .val (.int p2), .val (.int (0 : Int32)), .val (.ref b_2), .unset, .unset, .unset] [(.int (7 : Int32)), (.int ((p2.toUInt32 >>> ((12 : Int32) &&& 31).toUInt32).toInt32)), (.int (4 : Int32)), (.ref b_2)])) _
      refine XS.iand X_6.here hx rfl (hb hby at_56) rfl ?_
      show Steps p.tables e below (T_6.setTop (mkF m 57 #[.val (.int p1), .val (.int p2), .val (.int (0 : Int32)), .val (.ref b_2), .unset, .unset, .unset] [(.int (((p2.toUInt32 >>> ((12 : Int32) &&& 31).toUInt32).toInt32) &&& (7 : Int32))), (.int (4 : Int32)), (.ref b_2)])) _
      refine st_7 _ ?_
      show Steps p.tables e below (T_7.setTop (mkF m 58 #[.val (.int p1), .val (.int p2), .val (.int (0 : Int32)), .val (.ref b_2), .unset, .unset, .unset] [])) _
      refine XS.iloadN X_7.here hx rfl (hb hby at_58) rfl ?_
      show Steps p.tables e below (T_7.setTop (mkF m 59 #[.val (.int p1), .val (.int p2), .val (.int (0 : Int32)), .val (.ref b_2), .unset, .unset, .unset] [(.int (0 : Int32))])) _
      refine st_8 _ ?_
      show Steps p.tables e below (T_8.setTop (mkF m 61 #[.val (.int p1), .val (.int p2), .val (.int (0 : Int32)), .val (.ref b_2), .unset, .unset, .unset] [(.ref b_8)])) _
      refine XS.astore X_8.here hx rfl (hb hby at_61) rfl rfl (l' := #[.val (.int p1), .val (.int p2), .val (.int (0 : Int32)), .val (.ref b_2), .val (.ref b_8), .unset, .unset]) rfl ?_
      show Steps p.tables e below (T_8.setTop (mkF m 63 #[.val (.int p1), .val (.int p2), .val (.int (0 : Int32)), .val (.ref b_2), .val (.ref b_8), .unset, .unset] [])) _
      refine XS.iloadN X_8.here hx rfl (hb hby at_63) rfl ?_
      show Steps p.tables e below (T_8.setTop (mkF m 64 #[.val (.int p1), .val (.int p2), .val (.int (0 : Int32)), .val (.ref b_2), .val (.ref b_8), .unset, .unset] [(.int (0 : Int32))])) _
      refine XS.ifYes X_8.here hx rfl (pc0 := 64) (pc' := 77) rfl (hb hby at_64) rfl ((if0 _ _).trans (flt (by decide : ¬ ((0 : Int32) < (0 : Int32)))).2.2.2) (by decide) (by decide) ?_
      show Steps p.tables e below (T_8.setTop (mkF m 77 #[.val (.int p1), .val (.int p2), .val (.int (0 : Int32)), .val (.ref b_2), .val (.ref b_8), .unset, .unset] [])) _
      refine XS.iloadN X_8.here hx rfl (hb hby at_77) rfl ?_
      show Steps p.tables e below (T_8.setTop (mkF m 78 #[.val (.int p1), .val (.int p2), .val (.int (0 : Int32)), .val (.ref b_2), .val (.ref b_8), .unset, .unset] [(.int (0 : Int32))])) _
      refine XS.iconst X_8.here hx rfl (hb hby at_78) ?_
      show Steps p.tables e below (T_8.setTop (mkF m 79 #[.val (.int p1), .val (.int p2), .val (.int (0 : Int32)), .val (.ref b_2), .val (.ref b_8), .unset, .unset] [(.int (1 : Int32)), (.int (0 : Int32))])) _
      refine XS.icmpYes X_8.here hx rfl (pc0 := 79) (pc' := 92) rfl (hb hby at_79) rfl (flt (by decide : ¬ ((1 : Int32) < (0 : Int32)))).2.2.2 (by decide) (by decide) ?_
      show Steps p.tables e below (T_8.setTop (mkF m 92 #[.val (.int p1), .val (.int p2), .val (.int (0 : Int32)), .val (.ref b_2), .val (.ref b_8), .unset, .unset] [])) _
      refine XS.iloadN X_8.here hx rfl (hb hby at_92) rfl ?_
      show Steps p.tables e below (T_8.setTop (mkF m 93 #[.val (.int p1), .val (.int p2), .val (.int (0 : Int32)), .val (.ref b_2), .val (.ref b_8), .unset, .unset] [(.int (0 : Int32))])) _
      refine XS.iconst X_8.here hx rfl (hb hby at_93) ?_
      show Steps p.tables e below (T_8.setTop (mkF m 94 #[.val (.int p1), .val (.int p2), .val (.int (0 : Int32)), .val (.ref b_2), .val (.ref b_8), .unset, .unset] [(.int (2 : Int32)), (.int (0 : Int32))])) _
      refine XS.icmpYes X_8.here hx rfl (pc0 := 94) (pc' := 107) rfl (hb hby at_94) rfl (flt (by decide : ¬ ((2 : Int32) < (0 : Int32)))).2.2.2 (by decide) (by decide) ?_
      show Steps p.tables e below (T_8.setTop (mkF m 107 #[.val (.int p1), .val (.int p2), .val (.int (0 : Int32)), .val (.ref b_2), .val (.ref b_8), .unset, .unset] [])) _
      refine XS.iloadN X_8.here hx rfl (hb hby at_107) rfl ?_
      show Steps p.tables e below (T_8.setTop (mkF m 108 #[.val (.int p1), .val (.int p2), .val (.int (0 : Int32)), .val (.ref b_2), .val (.ref b_8), .unset, .unset] [(.int (0 : Int32))])) _
      refine XS.iconst X_8.here hx rfl (hb hby at_108) ?_
      show Steps p.tables e below (T_8.setTop (mkF m 109 #[.val (.int p1), .val (.int p2), .val (.int (0 : Int32)), .val (.ref b_2), .val (.ref b_8), .unset, .unset] [(.int (3 : Int32)), (.int (0 : Int32))])) _
      refine XS.icmpYes X_8.here hx rfl (pc0 := 109) (pc' := 122) rfl (hb hby at_109) rfl (flt (by decide : ¬ ((3 : Int32) < (0 : Int32)))).2.2.2 (by decide) (by decide) ?_
      show Steps p.tables e below (T_8.setTop (mkF m 122 #[.val (.int p1), .val (.int p2), .val (.int (0 : Int32)), .val (.ref b_2), .val (.ref b_8), .unset, .unset] [])) _
      refine XS.iloadN X_8.here hx rfl (hb hby at_122) rfl ?_
      show Steps p.tables e below (T_8.setTop (mkF m 123 #[.val (.int p1), .val (.int p2), .val (.int (0 : Int32)), .val (.ref b_2), .val (.ref b_8), .unset, .unset] [(.int (0 : Int32))])) _
      refine XS.iconst X_8.here hx rfl (hb hby at_123) ?_
      show Steps p.tables e below (T_8.setTop (mkF m 124 #[.val (.int p1), .val (.int p2), .val (.int (0 : Int32)), .val (.ref b_2), .val (.ref b_8), .unset, .unset] [(.int (4 : Int32)), (.int (0 : Int32))])) _
      refine XS.icmpYes X_8.here hx rfl (pc0 := 124) (pc' := 137) rfl (hb hby at_124) rfl (flt (by decide : ¬ ((4 : Int32) < (0 : Int32)))).2.2.2 (by decide) (by decide) ?_
      show Steps p.tables e below (T_8.setTop (mkF m 137 #[.val (.int p1), .val (.int p2), .val (.int (0 : Int32)), .val (.ref b_2), .val (.ref b_8), .unset, .unset] [])) _
      refine XS.aload X_8.here hx rfl (hb hby at_137) rfl rfl ?_
      show Steps p.tables e below (T_8.setTop (mkF m 139 #[.val (.int p1), .val (.int p2), .val (.int (0 : Int32)), .val (.ref b_2), .val (.ref b_8), .unset, .unset] [(.ref b_8)])) _
      refine st_9 _ ?_
      show Steps p.tables e below (T_9.setTop (mkF m 142 #[.val (.int p1), .val (.int p2), .val (.int (0 : Int32)), .val (.ref b_2), .val (.ref b_8), .unset, .unset] [(.ref r_9)])) _
      refine XS.astore X_9.here hx rfl (hb hby at_142) rfl rfl (l' := #[.val (.int p1), .val (.int p2), .val (.int (0 : Int32)), .val (.ref b_2), .val (.ref b_8), .val (.ref r_9), .unset]) rfl ?_
      show Steps p.tables e below (T_9.setTop (mkF m 144 #[.val (.int p1), .val (.int p2), .val (.int (0 : Int32)), .val (.ref b_2), .val (.ref b_8), .val (.ref r_9), .unset] [])) _
      refine XS.aload X_9.here hx rfl (hb hby at_144) rfl rfl ?_
      show Steps p.tables e below (T_9.setTop (mkF m 146 #[.val (.int p1), .val (.int p2), .val (.int (0 : Int32)), .val (.ref b_2), .val (.ref b_8), .val (.ref r_9), .unset] [(.ref r_9)])) _
      refine X_9.arraylength hx Ar_11.1 (State.isArrayOf_alike hZ.alike Ar_11.2.1) (g := (mkF m 146 #[.val (.int p1), .val (.int p2), .val (.int (0 : Int32)), .val (.ref b_2), .val (.ref b_8), .val (.ref r_9), .unset] [(.ref r_9)])) rfl rfl (hb hby at_146) _ ?_
      rw [Sz_11]
      show Steps p.tables e below (T_9.setTop (mkF m 147 #[.val (.int p1), .val (.int p2), .val (.int (0 : Int32)), .val (.ref b_2), .val (.ref b_8), .val (.ref r_9), .unset] [(.int (0 : Int32))])) _
      refine XS.iloadN X_9.here hx rfl (hb hby at_147) rfl ?_
      show Steps p.tables e below (T_9.setTop (mkF m 148 #[.val (.int p1), .val (.int p2), .val (.int (0 : Int32)), .val (.ref b_2), .val (.ref b_8), .val (.ref r_9), .unset] [(.int (0 : Int32)), (.int (0 : Int32))])) _
      refine XS.icmpNo X_9.here hx rfl (hb hby at_148) rfl (teq (by decide : (0 : Int32) = (0 : Int32))).2 ?_
      show Steps p.tables e below (T_9.setTop (mkF m 151 #[.val (.int p1), .val (.int p2), .val (.int (0 : Int32)), .val (.ref b_2), .val (.ref b_8), .val (.ref r_9), .unset] [])) _
      refine XS.iconst X_9.here hx rfl (hb hby at_151) ?_
      show Steps p.tables e below (T_9.setTop (mkF m 152 #[.val (.int p1), .val (.int p2), .val (.int (0 : Int32)), .val (.ref b_2), .val (.ref b_8), .val (.ref r_9), .unset] [(.int (1 : Int32))])) _
      refine XS.goto X_9.here hx rfl (pc0 := 152) (pc' := 156) rfl (hb hby at_152) (by decide) (by decide) ?_
      show Steps p.tables e below (T_9.setTop (mkF m 156 #[.val (.int p1), .val (.int p2), .val (.int (0 : Int32)), .val (.ref b_2), .val (.ref b_8), .val (.ref r_9), .unset] [(.int (1 : Int32))])) _
      refine XS.istore X_9.here hx rfl (hb hby at_156) rfl (l' := #[.val (.int p1), .val (.int p2), .val (.int (0 : Int32)), .val (.ref b_2), .val (.ref b_8), .val (.ref r_9), .val (.int (1 : Int32))]) rfl ?_
      show Steps p.tables e below (T_9.setTop (mkF m 158 #[.val (.int p1), .val (.int p2), .val (.int (0 : Int32)), .val (.ref b_2), .val (.ref b_8), .val (.ref r_9), .val (.int (1 : Int32))] [])) _
      refine XS.iloadN X_9.here hx rfl (hb hby at_158) rfl ?_
      show Steps p.tables e below (T_9.setTop (mkF m 159 #[.val (.int p1), .val (.int p2), .val (.int (0 : Int32)), .val (.ref b_2), .val (.ref b_8), .val (.ref r_9), .val (.int (1 : Int32))] [(.int (0 : Int32))])) _
      refine XS.ifYes X_9.here hx rfl (pc0 := 159) (pc' := 186) rfl (hb hby at_159) rfl ((if0 _ _).trans (flt (by decide : ¬ ((0 : Int32) < (0 : Int32)))).2.2.2) (by decide) (by decide) ?_
      show Steps p.tables e below (T_9.setTop (mkF m 186 #[.val (.int p1), .val (.int p2), .val (.int (0 : Int32)), .val (.ref b_2), .val (.ref b_8), .val (.ref r_9), .val (.int (1 : Int32))] [])) _
      refine XS.iloadN X_9.here hx rfl (hb hby at_186) rfl ?_
      show Steps p.tables e below (T_9.setTop (mkF m 187 #[.val (.int p1), .val (.int p2), .val (.int (0 : Int32)), .val (.ref b_2), .val (.ref b_8), .val (.ref r_9), .val (.int (1 : Int32))] [(.int (0 : Int32))])) _
      refine XS.iconst X_9.here hx rfl (hb hby at_187) ?_
      show Steps p.tables e below (T_9.setTop (mkF m 188 #[.val (.int p1), .val (.int p2), .val (.int (0 : Int32)), .val (.ref b_2), .val (.ref b_8), .val (.ref r_9), .val (.int (1 : Int32))] [(.int (1 : Int32)), (.int (0 : Int32))])) _
      refine XS.icmpYes X_9.here hx rfl (pc0 := 188) (pc' := 215) rfl (hb hby at_188) rfl (flt (by decide : ¬ ((1 : Int32) < (0 : Int32)))).2.2.2 (by decide) (by decide) ?_
      show Steps p.tables e below (T_9.setTop (mkF m 215 #[.val (.int p1), .val (.int p2), .val (.int (0 : Int32)), .val (.ref b_2), .val (.ref b_8), .val (.ref r_9), .val (.int (1 : Int32))] [])) _
      refine XS.iloadN X_9.here hx rfl (hb hby at_215) rfl ?_
      show Steps p.tables e below (T_9.setTop (mkF m 216 #[.val (.int p1), .val (.int p2), .val (.int (0 : Int32)), .val (.ref b_2), .val (.ref b_8), .val (.ref r_9), .val (.int (1 : Int32))] [(.int (0 : Int32))])) _
      refine XS.iconst X_9.here hx rfl (hb hby at_216) ?_
      show Steps p.tables e below (T_9.setTop (mkF m 217 #[.val (.int p1), .val (.int p2), .val (.int (0 : Int32)), .val (.ref b_2), .val (.ref b_8), .val (.ref r_9), .val (.int (1 : Int32))] [(.int (2 : Int32)), (.int (0 : Int32))])) _
      refine XS.icmpYes X_9.here hx rfl (pc0 := 217) (pc' := 244) rfl (hb hby at_217) rfl (flt (by decide : ¬ ((2 : Int32) < (0 : Int32)))).2.2.2 (by decide) (by decide) ?_
      show Steps p.tables e below (T_9.setTop (mkF m 244 #[.val (.int p1), .val (.int p2), .val (.int (0 : Int32)), .val (.ref b_2), .val (.ref b_8), .val (.ref r_9), .val (.int (1 : Int32))] [])) _
      refine XS.iloadN X_9.here hx rfl (hb hby at_244) rfl ?_
      show Steps p.tables e below (T_9.setTop (mkF m 245 #[.val (.int p1), .val (.int p2), .val (.int (0 : Int32)), .val (.ref b_2), .val (.ref b_8), .val (.ref r_9), .val (.int (1 : Int32))] [(.int (0 : Int32))])) _
      refine XS.iconst X_9.here hx rfl (hb hby at_245) ?_
      show Steps p.tables e below (T_9.setTop (mkF m 246 #[.val (.int p1), .val (.int p2), .val (.int (0 : Int32)), .val (.ref b_2), .val (.ref b_8), .val (.ref r_9), .val (.int (1 : Int32))] [(.int (3 : Int32)), (.int (0 : Int32))])) _
      refine XS.icmpYes X_9.here hx rfl (pc0 := 246) (pc' := 273) rfl (hb hby at_246) rfl (flt (by decide : ¬ ((3 : Int32) < (0 : Int32)))).2.2.2 (by decide) (by decide) ?_
      show Steps p.tables e below (T_9.setTop (mkF m 273 #[.val (.int p1), .val (.int p2), .val (.int (0 : Int32)), .val (.ref b_2), .val (.ref b_8), .val (.ref r_9), .val (.int (1 : Int32))] [])) _
      refine XS.iloadN X_9.here hx rfl (hb hby at_273) rfl ?_
      show Steps p.tables e below (T_9.setTop (mkF m 274 #[.val (.int p1), .val (.int p2), .val (.int (0 : Int32)), .val (.ref b_2), .val (.ref b_8), .val (.ref r_9), .val (.int (1 : Int32))] [(.int (0 : Int32))])) _
      refine XS.iconst X_9.here hx rfl (hb hby at_274) ?_
      show Steps p.tables e below (T_9.setTop (mkF m 275 #[.val (.int p1), .val (.int p2), .val (.int (0 : Int32)), .val (.ref b_2), .val (.ref b_8), .val (.ref r_9), .val (.int (1 : Int32))] [(.int (4 : Int32)), (.int (0 : Int32))])) _
      refine XS.icmpYes X_9.here hx rfl (pc0 := 275) (pc' := 302) rfl (hb hby at_275) rfl (flt (by decide : ¬ ((4 : Int32) < (0 : Int32)))).2.2.2 (by decide) (by decide) ?_
      show Steps p.tables e below (T_9.setTop (mkF m 302 #[.val (.int p1), .val (.int p2), .val (.int (0 : Int32)), .val (.ref b_2), .val (.ref b_8), .val (.ref r_9), .val (.int (1 : Int32))] [])) _
      refine XS.iload X_9.here hx rfl (hb hby at_302) rfl ?_
      show Steps p.tables e below (T_9.setTop (mkF m 304 #[.val (.int p1), .val (.int p2), .val (.int (0 : Int32)), .val (.ref b_2), .val (.ref b_8), .val (.ref r_9), .val (.int (1 : Int32))] [(.int (1 : Int32))])) _
      exact retN X_9 hx (t := .boolean) Bd.returns (by simp) (hb hby at_304) hr
    · exact ⟨rfl, N_9⟩
  · obtain ⟨T_12, h_12, k_12, X_12, e_12, E_12, A_12, st_12⟩ := newP X0 hx hZ (hw _ (List.mem_of_getElem? (i := 1) rfl)) e0 (g := (mkF m 9 #[.val (.int p1), .val (.int p2), .val (.int (1 : Int32)), .unset, .unset, .unset, .unset] [(.int (5 : Int32))])) rfl (hb hby at_9) rfl (by decide) (cap := 5) (by decide) (by decide) (by decide) (by decide)
    obtain ⟨b_12, g_12⟩ : ∃ z, z = h0.size := ⟨_, rfl⟩
    rw [← g_12] at A_12 st_12
    have g_b_12 : n0 ≤ b_12 := Nat.le_trans Z0 (Nat.le_of_eq g_12.symm)
    have sz_b_12 : h0.size ≤ b_12 := Nat.le_trans ((Keep.refl h0 [])).1 (Nat.le_of_eq g_12.symm)
    have Z_12 : n0 ≤ h_12.size := Nat.le_trans Z0 E_12.1
    have K_12 : Keep h0 h_12 [] := (Keep.refl h0 []).ext E_12
    have fa_12 : own_arr .int Z h_12 b_12 5 (fun _ => 0) := own_arr.newI A_12 rfl
    have fo_13 := fa_12
    obtain ⟨cl_13, Ar_13, Sz_13, At_13⟩ := fo_13
    obtain ⟨T_13, h_13, X_13, e_13, W_13, st_13⟩ := stI X_12 hx hZ e_12 Ar_13 (j := (0 : Int32)) (own_inb Sz_13 (by decide)) (g := (mkF m 18 #[.val (.int p1), .val (.int p2), .val (.int (1 : Int32)), .val (.ref b_12), .unset, .unset, .unset] [(.int (p2 &&& (7 : Int32))), (.int (0 : Int32)), (.ref b_12)])) rfl rfl (hb hby at_18)
    have N_13 := Fr.snoc X_13 N0 g_b_12
    have fw_13 : own_arr .int Z h_13 b_12 5 (own_upd (fun _ => 0) 0 (p2 &&& (7 : Int32))) := own_arr.set Ar_13 Sz_13 At_13 W_13
    have Z_13 : n0 ≤ h_13.size := Nat.le_trans Z_12 (Keep.of_wr W_13).1
    have K_13 : Keep h0 h_13 [] := K_12.wr W_13 (Or.inr sz_b_12)
    have fo_14 := fw_13
    obtain ⟨cl_14, Ar_14, Sz_14, At_14⟩ := fo_14
    obtain ⟨T_14, h_14, X_14, e_14, W_14, st_14⟩ := stI X_13 hx hZ e_13 Ar_14 (j := (1 : Int32)) (own_inb Sz_14 (by decide)) (g := (mkF m 27 #[.val (.int p1), .val (.int p2), .val (.int (1 : Int32)), .val (.ref b_12), .unset, .unset, .unset] [(.int (((p2.toUInt32 >>> ((3 : Int32) &&& 31).toUInt32).toInt32) &&& (7 : Int32))), (.int (1 : Int32)), (.ref b_12)])) rfl rfl (hb hby at_27)
    have N_14 := Fr.snoc X_14 N_13 g_b_12
    have fw_14 : own_arr .int Z h_14 b_12 5 (own_upd (own_upd (fun _ => 0) 0 (p2 &&& (7 : Int32))) 1 (((p2.toUInt32 >>> ((3 : Int32) &&& 31).toUInt32).toInt32) &&& (7 : Int32))) := own_arr.set Ar_14 Sz_14 At_14 W_14
    have Z_14 : n0 ≤ h_14.size := Nat.le_trans Z_13 (Keep.of_wr W_14).1
    have K_14 : Keep h0 h_14 [] := K_13.wr W_14 (Or.inr sz_b_12)
    have fo_15 := fw_14
    obtain ⟨cl_15, Ar_15, Sz_15, At_15⟩ := fo_15
    obtain ⟨T_15, h_15, X_15, e_15, W_15, st_15⟩ := stI X_14 hx hZ e_14 Ar_15 (j := (2 : Int32)) (own_inb Sz_15 (by decide)) (g := (mkF m 37 #[.val (.int p1), .val (.int p2), .val (.int (1 : Int32)), .val (.ref b_12), .unset, .unset, .unset] [(.int (((p2.toUInt32 >>> ((6 : Int32) &&& 31).toUInt32).toInt32) &&& (7 : Int32))), (.int (2 : Int32)), (.ref b_12)])) rfl rfl (hb hby at_37)
    have N_15 := Fr.snoc X_15 N_14 g_b_12
    have fw_15 : own_arr .int Z h_15 b_12 5 (own_upd (own_upd (own_upd (fun _ => 0) 0 (p2 &&& (7 : Int32))) 1 (((p2.toUInt32 >>> ((3 : Int32) &&& 31).toUInt32).toInt32) &&& (7 : Int32))) 2 (((p2.toUInt32 >>> ((6 : Int32) &&& 31).toUInt32).toInt32) &&& (7 : Int32))) := own_arr.set Ar_15 Sz_15 At_15 W_15
    have Z_15 : n0 ≤ h_15.size := Nat.le_trans Z_14 (Keep.of_wr W_15).1
    have K_15 : Keep h0 h_15 [] := K_14.wr W_15 (Or.inr sz_b_12)
    have fo_16 := fw_15
    obtain ⟨cl_16, Ar_16, Sz_16, At_16⟩ := fo_16
    obtain ⟨T_16, h_16, X_16, e_16, W_16, st_16⟩ := stI X_15 hx hZ e_15 Ar_16 (j := (3 : Int32)) (own_inb Sz_16 (by decide)) (g := (mkF m 47 #[.val (.int p1), .val (.int p2), .val (.int (1 : Int32)), .val (.ref b_12), .unset, .unset, .unset] [(.int (((p2.toUInt32 >>> ((9 : Int32) &&& 31).toUInt32).toInt32) &&& (7 : Int32))), (.int (3 : Int32)), (.ref b_12)])) rfl rfl (hb hby at_47)
    have N_16 := Fr.snoc X_16 N_15 g_b_12
    have fw_16 : own_arr .int Z h_16 b_12 5 (own_upd (own_upd (own_upd (own_upd (fun _ => 0) 0 (p2 &&& (7 : Int32))) 1 (((p2.toUInt32 >>> ((3 : Int32) &&& 31).toUInt32).toInt32) &&& (7 : Int32))) 2 (((p2.toUInt32 >>> ((6 : Int32) &&& 31).toUInt32).toInt32) &&& (7 : Int32))) 3 (((p2.toUInt32 >>> ((9 : Int32) &&& 31).toUInt32).toInt32) &&& (7 : Int32))) := own_arr.set Ar_16 Sz_16 At_16 W_16
    have Z_16 : n0 ≤ h_16.size := Nat.le_trans Z_15 (Keep.of_wr W_16).1
    have K_16 : Keep h0 h_16 [] := K_15.wr W_16 (Or.inr sz_b_12)
    have fo_17 := fw_16
    obtain ⟨cl_17, Ar_17, Sz_17, At_17⟩ := fo_17
    obtain ⟨T_17, h_17, X_17, e_17, W_17, st_17⟩ := stI X_16 hx hZ e_16 Ar_17 (j := (4 : Int32)) (own_inb Sz_17 (by decide)) (g := (mkF m 57 #[.val (.int p1), .val (.int p2), .val (.int (1 : Int32)), .val (.ref b_12), .unset, .unset, .unset] [(.int (((p2.toUInt32 >>> ((12 : Int32) &&& 31).toUInt32).toInt32) &&& (7 : Int32))), (.int (4 : Int32)), (.ref b_12)])) rfl rfl (hb hby at_57)
    have N_17 := Fr.snoc X_17 N_16 g_b_12
    have fw_17 : own_arr .int Z h_17 b_12 5 (own_upd (own_upd (own_upd (own_upd (own_upd (fun _ => 0) 0 (p2 &&& (7 : Int32))) 1 (((p2.toUInt32 >>> ((3 : Int32) &&& 31).toUInt32).toInt32) &&& (7 : Int32))) 2 (((p2.toUInt32 >>> ((6 : Int32) &&& 31).toUInt32).toInt32) &&& (7 : Int32))) 3 (((p2.toUInt32 >>> ((9 : Int32) &&& 31).toUInt32).toInt32) &&& (7 : Int32))) 4 (((p2.toUInt32 >>> ((12 : Int32) &&& 31).toUInt32).toInt32) &&& (7 : Int32))) := own_arr.set Ar_17 Sz_17 At_17 W_17
    have Z_17 : n0 ≤ h_17.size := Nat.le_trans Z_16 (Keep.of_wr W_17).1
    have K_17 : Keep h0 h_17 [] := K_16.wr W_17 (Or.inr sz_b_12)
    obtain ⟨f5, hf5, ht5⟩ := own_tail (own_upd (own_upd (own_upd (own_upd (own_upd (fun _ => 0) 0 (p2 &&& (7 : Int32))) 1 (((p2.toUInt32 >>> ((3 : Int32) &&& 31).toUInt32).toInt32) &&& (7 : Int32))) 2 (((p2.toUInt32 >>> ((6 : Int32) &&& 31).toUInt32).toInt32) &&& (7 : Int32))) 3 (((p2.toUInt32 >>> ((9 : Int32) &&& 31).toUInt32).toInt32) &&& (7 : Int32))) 4 (((p2.toUInt32 >>> ((12 : Int32) &&& 31).toUInt32).toInt32) &&& (7 : Int32)))
    have fq5 := fw_17.eqv hf5
    obtain ⟨T_18, h_18, k_18, X_18, e_18, E_18, A_18, st_18⟩ := newP X_17 hx hZ (hw _ (List.mem_of_getElem? (i := 1) rfl)) e_17 (g := (mkF m 59 #[.val (.int p1), .val (.int p2), .val (.int (1 : Int32)), .val (.ref b_12), .unset, .unset, .unset] [(.int (1 : Int32))])) rfl (hb hby at_59) rfl (by decide) (cap := 1) (by decide) (by decide) (by decide) (by decide)
    obtain ⟨b_18, g_18⟩ : ∃ z, z = h_17.size := ⟨_, rfl⟩
    rw [← g_18] at A_18 st_18
    have ne_b_12_b_18 : b_12 ≠ b_18 := Nat.ne_of_lt (Nat.lt_of_lt_of_le fq5.lt (Nat.le_of_eq g_18.symm))
    have g_b_18 : n0 ≤ b_18 := Nat.le_trans Z_17 (Nat.le_of_eq g_18.symm)
    have sz_b_18 : h0.size ≤ b_18 := Nat.le_trans (K_17).1 (Nat.le_of_eq g_18.symm)
    have f_18_0 : own_arr .int Z h_18 b_12 5 f5 := fq5.ext E_18
    have Z_18 : n0 ≤ h_18.size := Nat.le_trans Z_17 E_18.1
    have K_18 : Keep h0 h_18 [] := K_17.ext E_18
    have fa_18 : own_arr .int Z h_18 b_18 1 (fun _ => 0) := own_arr.newI A_18 rfl
    obtain ⟨_, _, ⟨T_19, L_19, k_19, n_19⟩, -, X_19, ⟨Lc_19, hQ_19, l_19, y_19, z_19⟩, st_19⟩ := Jvm.LawKit.callS X_18 hx (y := (⟨"com/example/borderwork/borderwork/zarrays/ZArraysToBorderArrayPinLaw", "lcp", "([III)I"⟩ : MethodName)) hown (mvT hZ (hw _ (List.mem_of_getElem? (i := 6) rfl))) (mvT hZ (hw _ (List.mem_of_getElem? (i := 7) rfl))) (mvT hZ (hw _ (List.mem_of_getElem? (i := 8) rfl))) (mvT hZ (hw _ (List.mem_of_getElem? (i := 9) rfl))) (by decide) (backOf (W := 2) (rm2 l Z a0 hw [] b_12 (1 : Int32) (0 : Int32) f5 h_18 n0 Z_18 f_18_0 (by decide) (by decide) (by decide)) hZ (hw _ (List.mem_of_getElem? (i := 9) rfl)) (hw _ (List.mem_of_getElem? (i := 8) rfl)) (by decide) (by decide)) (g := (mkF m 73 #[.val (.int p1), .val (.int p2), .val (.int (1 : Int32)), .val (.ref b_12), .val (.ref b_18), .unset, .unset] [(.int (0 : Int32)), (.int (1 : Int32)), (.ref b_12), (.int (0 : Int32)), (.ref b_18)])) rfl (by rw [hml]; rfl) (argsL := [(.ref b_12), (.int (1 : Int32)), (.int (0 : Int32))]) (rest := [(.int (0 : Int32)), (.ref b_18)]) (lenOf pd_3 rfl) rfl (by show 2 * 0 + _ ≤ _; exact Nat.le_of_eq rfl) (hb hby at_73) (fun _ _ => ⟨rfl, e_18, (by decide : 2 + 0 ≤ _), (by decide : 6 + 0 ≤ _)⟩)
    dsimp only [Pt.U, Pt.locs, Pt.cells, Pt.slots] at X_19 l_19 y_19 z_19 st_19 hQ_19
    subst l_19 y_19 z_19
    obtain ⟨rfl, N_19q, e_19⟩ := hQ_19
    have N_19 := Fr.app N_17 N_19q
    have fo_20 := fa_18
    obtain ⟨cl_20, Ar_20, Sz_20, At_20⟩ := fo_20
    obtain ⟨T_20, h_20, X_20, e_20, W_20, st_20⟩ := stI X_19 hx hZ e_19 Ar_20 (j := (0 : Int32)) (own_inb Sz_20 (by decide)) (g := (mkF m 76 #[.val (.int p1), .val (.int p2), .val (.int (1 : Int32)), .val (.ref b_12), .val (.ref b_18), .unset, .unset] [(.int (own_lcp (1 : Int32) (0 : Int32) f5)), (.int (0 : Int32)), (.ref b_18)])) rfl rfl (hb hby at_76)
    have N_20 := Fr.snoc X_20 N_19 g_b_18
    have fw_20 : own_arr .int Z h_20 b_18 1 (own_upd (fun _ => 0) 0 (own_lcp (1 : Int32) (0 : Int32) f5)) := own_arr.set Ar_20 Sz_20 At_20 W_20
    have f_20_0 : own_arr .int Z h_20 b_12 5 f5 := f_18_0.other W_20 ne_b_12_b_18
    have Z_20 : n0 ≤ h_20.size := Nat.le_trans Z_18 (Keep.of_wr W_20).1
    have K_20 : Keep h0 h_20 [] := K_18.wr W_20 (Or.inr sz_b_18)
    obtain ⟨fz, hfz⟩ : ∃ z : Nat → Int32, z = (own_upd (fun _ => 0) 0 (own_lcp (1 : Int32) (0 : Int32) f5)) := ⟨_, rfl⟩
    rw [← hfz] at fw_20
    have z_0 : fz 0 = own_lcp (1 : Int32) (0 : Int32) f5 := by rw [hfz]; rfl
    obtain ⟨_, _, ⟨T_21, L_21, k_21, n_21⟩, -, X_21, ⟨Lc_21, hQ_21, l_21, y_21, z_21⟩, st_21⟩ := Jvm.LawKit.callS X_20 hx (y := (⟨"com/example/borderwork/borderwork/zarrays/ZArrays", "toBorderArray", "([I)[I"⟩ : MethodName)) hown (mvT hZ (hw _ (List.mem_of_getElem? (i := 2) rfl))) (mvT hZ (hw _ (List.mem_of_getElem? (i := 3) rfl))) (mvT hZ (hw _ (List.mem_of_getElem? (i := 4) rfl))) (mvT hZ (hw _ (List.mem_of_getElem? (i := 5) rfl))) (by decide) (backOf (W := 0) (rm1_1 l Z a0 hw [] b_18 fz h_20 n0 Z_20 fw_20 (z_0.trans (own_whole1 f5))) hZ (hw _ (List.mem_of_getElem? (i := 5) rfl)) (hw _ (List.mem_of_getElem? (i := 4) rfl)) (by decide) (by decide)) (g := (mkF m 139 #[.val (.int p1), .val (.int p2), .val (.int (1 : Int32)), .val (.ref b_12), .val (.ref b_18), .unset, .unset] [(.ref b_18)])) rfl (by rw [hml]; rfl) (argsL := [(.ref b_18)]) (rest := []) (lenOf pd_2 rfl) rfl (by show 2 * 0 + _ ≤ _; exact Nat.le_of_eq rfl) (hb hby at_139) (fun _ _ => ⟨rfl, e_20, (by decide : 2 + 1 ≤ _), (by decide : 6 + 1 ≤ _)⟩)
    dsimp only [Pt.U, Pt.locs, Pt.cells, Pt.slots] at X_21 l_21 y_21 z_21 st_21 hQ_21
    subst l_21 y_21 z_21
    obtain ⟨r_21, rfl, N_21q, Kc_21, o_21_0⟩ := hQ_21
    have f_21_0 : own_arr .int Z T_21.heap b_12 5 f5 := f_20_0.keep Kc_21 (List.not_mem_nil)
    have f_21_1 : own_arr .int Z T_21.heap b_18 1 fz := fw_20.keep Kc_21 (List.not_mem_nil)
    have Z_21 : n0 ≤ T_21.heap.size := Nat.le_trans Z_20 Kc_21.1
    have K_21 : Keep h0 T_21.heap [] := K_20.trans Kc_21 (fun x hx => nomatch hx)
    have N_21 := Fr.app N_20 N_21q
    have fo_23 := o_21_0
    obtain ⟨cl_23, Ar_23, Sz_23, At_23⟩ := fo_23
    obtain ⟨_, _, ⟨T_24, L_24, k_24, n_24⟩, -, X_24, ⟨Lc_24, hQ_24, l_24, y_24, z_24⟩, st_24⟩ := Jvm.LawKit.callS X_21 hx (y := (⟨"com/example/borderwork/borderwork/zarrays/ZArraysToBorderArrayPinLaw", "border", "([II)I"⟩ : MethodName)) hown (mvT hZ (hw _ (List.mem_of_getElem? (i := 10) rfl))) (mvT hZ (hw _ (List.mem_of_getElem? (i := 11) rfl))) (mvT hZ (hw _ (List.mem_of_getElem? (i := 8) rfl))) (mvT hZ (hw _ (List.mem_of_getElem? (i := 12) rfl))) (by decide) (backOf (W := 1) (rm3 l Z a0 hw [] b_12 (0 : Int32) f5 T_21.heap n0 Z_21 f_21_0 (by decide) (by decide)) hZ (hw _ (List.mem_of_getElem? (i := 12) rfl)) (hw _ (List.mem_of_getElem? (i := 8) rfl)) (by decide) (by decide)) (g := (mkF m 173 #[.val (.int p1), .val (.int p2), .val (.int (1 : Int32)), .val (.ref b_12), .val (.ref b_18), .val (.ref r_21), .val (.int (1 : Int32))] [(.int (0 : Int32)), (.ref b_12), (.int ((own_out 1 fz) 0))])) rfl (by rw [hml]; rfl) (argsL := [(.ref b_12), (.int (0 : Int32))]) (rest := [(.int ((own_out 1 fz) 0))]) (lenOf pd_4 rfl) rfl (by show 2 * 0 + _ ≤ _; exact Nat.le_of_eq rfl) (hb hby at_173) (fun _ _ => ⟨rfl, rfl, (by decide : 3 + 0 ≤ _), (by decide : 7 + 0 ≤ _)⟩)
    dsimp only [Pt.U, Pt.locs, Pt.cells, Pt.slots] at X_24 l_24 y_24 z_24 st_24 hQ_24
    subst l_24 y_24 z_24
    obtain ⟨rfl, N_24q, e_24⟩ := hQ_24
    have N_24 := Fr.app N_21 N_24q
    obtain ⟨fs, hr, hrun, hended, hW, hsame⟩ := X_24.leave (v := some (.int (1 : Int32))) (fun h => by rw [Bd.returns] at h; cases h)
    refine ⟨_, _, pr_1 _ ?_, hrun, hended, _, _, rfl, ?_, ⟨_, rfl⟩, hW, hsame.mono (by decide) (by decide)⟩
    · show Steps p.tables e below (s₁.setTop (mkF m 8 #[.val (.int p1), .val (.int p2), .val (.int (1 : Int32)), .unset, .unset, .unset, .unset] [])) _
      refine XS.iconst X0.here hx rfl (hb hby at_8) ?_
      show Steps p.tables e below (s₁.setTop (mkF m 9 #[.val (.int p1), .val (.int p2), .val (.int (1 : Int32)), .unset, .unset, .unset, .unset] [(.int (5 : Int32))])) _
      refine st_12 _ ?_
      show Steps p.tables e below (T_12.setTop (mkF m 11 #[.val (.int p1), .val (.int p2), .val (.int (1 : Int32)), .unset, .unset, .unset, .unset] [(.ref b_12)])) _
      refine XS.astoreN X_12.here hx rfl (hb hby at_11) rfl rfl (l' := #[.val (.int p1), .val (.int p2), .val (.int (1 : Int32)), .val (.ref b_12), .unset, .unset, .unset]) rfl ?_
      show Steps p.tables e below (T_12.setTop (mkF m 12 #[.val (.int p1), .val (.int p2), .val (.int (1 : Int32)), .val (.ref b_12), .unset, .unset, .unset] [])) _
      refine XS.aloadN X_12.here hx rfl (hb hby at_12) rfl rfl ?_
      show Steps p.tables e below (T_12.setTop (mkF m 13 #[.val (.int p1), .val (.int p2), .val (.int (1 : Int32)), .val (.ref b_12), .unset, .unset, .unset] [(.ref b_12)])) _
      refine XS.iconst X_12.here hx rfl (hb hby at_13) ?_
      show Steps p.tables e below (T_12.setTop (mkF m 14 #[.val (.int p1), .val (.int p2), .val (.int (1 : Int32)), .val (.ref b_12), .unset, .unset, .unset] [(.int (0 : Int32)), (.ref b_12)])) _
      refine XS.iloadN X_12.here hx rfl (hb hby at_14) rfl ?_
      show Steps p.tables e below (T_12.setTop (mkF m 15 #[.val (.int p1), .val (.int p2), .val (.int (1 : Int32)), .val (.ref b_12), .unset, .unset, .unset] [(.int p2), (.int (0 : Int32)), (.ref b_12)])) _
      refine XS.bipush X_12.here hx rfl (hb hby at_15) ?_
      show Steps p.tables e below (T_12.setTop (mkF m 17 #[.val (.int p1), .val (.int p2), .val (.int (1 : Int32)), .val (.ref b_12), .unset, .unset, .unset] [(.int (7 : Int32)), (.int p2), (.int (0 : Int32)), (.ref b_12)])) _
      refine XS.iand X_12.here hx rfl (hb hby at_17) rfl ?_
      show Steps p.tables e below (T_12.setTop (mkF m 18 #[.val (.int p1), .val (.int p2), .val (.int (1 : Int32)), .val (.ref b_12), .unset, .unset, .unset] [(.int (p2 &&& (7 : Int32))), (.int (0 : Int32)), (.ref b_12)])) _
      refine st_13 _ ?_
      show Steps p.tables e below (T_13.setTop (mkF m 19 #[.val (.int p1), .val (.int p2), .val (.int (1 : Int32)), .val (.ref b_12), .unset, .unset, .unset] [])) _
      refine XS.aloadN X_13.here hx rfl (hb hby at_19) rfl rfl ?_
      show Steps p.tables e below (T_13.setTop (mkF m 20 #[.val (.int p1), .val (.int p2), .val (.int (1 : Int32)), .val (.ref b_12), .unset, .unset, .unset] [(.ref b_12)])) _
      refine XS.iconst X_13.here hx rfl (hb hby at_20) ?_
      show Steps p.tables e below (T_13.setTop (mkF m 21 #[.val (.int p1), .val (.int p2), .val (.int (1 : Int32)), .val (.ref b_12), .unset, .unset, .unset] [(.int (1 : Int32)), (.ref b_12)])) _
      refine XS.iloadN X_13.here hx rfl (hb hby at_21) rfl ?_
      show Steps p.tables e below (T_13.setTop (mkF m 22 #[.val (.int p1), .val (.int p2), .val (.int (1 : Int32)), .val (.ref b_12), .unset, .unset, .unset] [(.int p2), (.int (1 : Int32)), (.ref b_12)])) _
      refine XS.iconst X_13.here hx rfl (hb hby at_22) ?_
      show Steps p.tables e below (T_13.setTop (mkF m 23 #[.val (.int p1), .val (.int p2), .val (.int (1 : Int32)), .val (.ref b_12), .unset, .unset, .unset] [(.int (3 : Int32)), (.int p2), (.int (1 : Int32)), (.ref b_12)])) _
      refine XS.iushr X_13.here hx rfl (hb hby at_23) rfl ?_
      show Steps p.tables e below (T_13.setTop (mkF m 24 #[.val (.int p1), .val (.int p2), .val (.int (1 : Int32)), .val (.ref b_12), .unset, .unset, .unset] [(.int ((p2.toUInt32 >>> ((3 : Int32) &&& 31).toUInt32).toInt32)), (.int (1 : Int32)), (.ref b_12)])) _
      refine XS.bipush X_13.here hx rfl (hb hby at_24) ?_
      show Steps p.tables e below (T_13.setTop (mkF m 26 #[.val (.int p1), .val (.int p2), .val (.int (1 : Int32)), .val (.ref b_12), .unset, .unset, .unset] [(.int (7 : Int32)), (.int ((p2.toUInt32 >>> ((3 : Int32) &&& 31).toUInt32).toInt32)), (.int (1 : Int32)), (.ref b_12)])) _
      refine XS.iand X_13.here hx rfl (hb hby at_26) rfl ?_
      show Steps p.tables e below (T_13.setTop (mkF m 27 #[.val (.int p1), .val (.int p2), .val (.int (1 : Int32)), .val (.ref b_12), .unset, .unset, .unset] [(.int (((p2.toUInt32 >>> ((3 : Int32) &&& 31).toUInt32).toInt32) &&& (7 : Int32))), (.int (1 : Int32)), (.ref b_12)])) _
      refine st_14 _ ?_
      show Steps p.tables e below (T_14.setTop (mkF m 28 #[.val (.int p1), .val (.int p2), .val (.int (1 : Int32)), .val (.ref b_12), .unset, .unset, .unset] [])) _
      refine XS.aloadN X_14.here hx rfl (hb hby at_28) rfl rfl ?_
      show Steps p.tables e below (T_14.setTop (mkF m 29 #[.val (.int p1), .val (.int p2), .val (.int (1 : Int32)), .val (.ref b_12), .unset, .unset, .unset] [(.ref b_12)])) _
      refine XS.iconst X_14.here hx rfl (hb hby at_29) ?_
      show Steps p.tables e below (T_14.setTop (mkF m 30 #[.val (.int p1), .val (.int p2), .val (.int (1 : Int32)), .val (.ref b_12), .unset, .unset, .unset] [(.int (2 : Int32)), (.ref b_12)])) _
      refine XS.iloadN X_14.here hx rfl (hb hby at_30) rfl ?_
      show Steps p.tables e below (T_14.setTop (mkF m 31 #[.val (.int p1), .val (.int p2), .val (.int (1 : Int32)), .val (.ref b_12), .unset, .unset, .unset] [(.int p2), (.int (2 : Int32)), (.ref b_12)])) _
      refine XS.bipush X_14.here hx rfl (hb hby at_31) ?_
      show Steps p.tables e below (T_14.setTop (mkF m 33 #[.val (.int p1), .val (.int p2), .val (.int (1 : Int32)), .val (.ref b_12), .unset, .unset, .unset] [(.int (6 : Int32)), (.int p2), (.int (2 : Int32)), (.ref b_12)])) _
      refine XS.iushr X_14.here hx rfl (hb hby at_33) rfl ?_
      show Steps p.tables e below (T_14.setTop (mkF m 34 #[.val (.int p1), .val (.int p2), .val (.int (1 : Int32)), .val (.ref b_12), .unset, .unset, .unset] [(.int ((p2.toUInt32 >>> ((6 : Int32) &&& 31).toUInt32).toInt32)), (.int (2 : Int32)), (.ref b_12)])) _
      refine XS.bipush X_14.here hx rfl (hb hby at_34) ?_
      show Steps p.tables e below (T_14.setTop (mkF m 36 #[.val (.int p1), .val (.int p2), .val (.int (1 : Int32)), .val (.ref b_12), .unset, .unset, .unset] [(.int (7 : Int32)), (.int ((p2.toUInt32 >>> ((6 : Int32) &&& 31).toUInt32).toInt32)), (.int (2 : Int32)), (.ref b_12)])) _
      refine XS.iand X_14.here hx rfl (hb hby at_36) rfl ?_
      show Steps p.tables e below (T_14.setTop (mkF m 37 #[.val (.int p1), .val (.int p2), .val (.int (1 : Int32)), .val (.ref b_12), .unset, .unset, .unset] [(.int (((p2.toUInt32 >>> ((6 : Int32) &&& 31).toUInt32).toInt32) &&& (7 : Int32))), (.int (2 : Int32)), (.ref b_12)])) _
      refine st_15 _ ?_
      show Steps p.tables e below (T_15.setTop (mkF m 38 #[.val (.int p1), .val (.int p2), .val (.int (1 : Int32)), .val (.ref b_12), .unset, .unset, .unset] [])) _
      refine XS.aloadN X_15.here hx rfl (hb hby at_38) rfl rfl ?_
      show Steps p.tables e below (T_15.setTop (mkF m 39 #[.val (.int p1), .val (.int p2), .val (.int (1 : Int32)), .val (.ref b_12), .unset, .unset, .unset] [(.ref b_12)])) _
      refine XS.iconst X_15.here hx rfl (hb hby at_39) ?_
      show Steps p.tables e below (T_15.setTop (mkF m 40 #[.val (.int p1), .val (.int p2), .val (.int (1 : Int32)), .val (.ref b_12), .unset, .unset, .unset] [(.int (3 : Int32)), (.ref b_12)])) _
      refine XS.iloadN X_15.here hx rfl (hb hby at_40) rfl ?_
      show Steps p.tables e below (T_15.setTop (mkF m 41 #[.val (.int p1), .val (.int p2), .val (.int (1 : Int32)), .val (.ref b_12), .unset, .unset, .unset] [(.int p2), (.int (3 : Int32)), (.ref b_12)])) _
      refine XS.bipush X_15.here hx rfl (hb hby at_41) ?_
      show Steps p.tables e below (T_15.setTop (mkF m 43 #[.val (.int p1), .val (.int p2), .val (.int (1 : Int32)), .val (.ref b_12), .unset, .unset, .unset] [(.int (9 : Int32)), (.int p2), (.int (3 : Int32)), (.ref b_12)])) _
      refine XS.iushr X_15.here hx rfl (hb hby at_43) rfl ?_
      show Steps p.tables e below (T_15.setTop (mkF m 44 #[.val (.int p1), .val (.int p2), .val (.int (1 : Int32)), .val (.ref b_12), .unset, .unset, .unset] [(.int ((p2.toUInt32 >>> ((9 : Int32) &&& 31).toUInt32).toInt32)), (.int (3 : Int32)), (.ref b_12)])) _
      refine XS.bipush X_15.here hx rfl (hb hby at_44) ?_
      show Steps p.tables e below (T_15.setTop (mkF m 46 #[.val (.int p1), .val (.int p2), .val (.int (1 : Int32)), .val (.ref b_12), .unset, .unset, .unset] [(.int (7 : Int32)), (.int ((p2.toUInt32 >>> ((9 : Int32) &&& 31).toUInt32).toInt32)), (.int (3 : Int32)), (.ref b_12)])) _
      refine XS.iand X_15.here hx rfl (hb hby at_46) rfl ?_
      show Steps p.tables e below (T_15.setTop (mkF m 47 #[.val (.int p1), .val (.int p2), .val (.int (1 : Int32)), .val (.ref b_12), .unset, .unset, .unset] [(.int (((p2.toUInt32 >>> ((9 : Int32) &&& 31).toUInt32).toInt32) &&& (7 : Int32))), (.int (3 : Int32)), (.ref b_12)])) _
      refine st_16 _ ?_
      show Steps p.tables e below (T_16.setTop (mkF m 48 #[.val (.int p1), .val (.int p2), .val (.int (1 : Int32)), .val (.ref b_12), .unset, .unset, .unset] [])) _
      refine XS.aloadN X_16.here hx rfl (hb hby at_48) rfl rfl ?_
      show Steps p.tables e below (T_16.setTop (mkF m 49 #[.val (.int p1), .val (.int p2), .val (.int (1 : Int32)), .val (.ref b_12), .unset, .unset, .unset] [(.ref b_12)])) _
      refine XS.iconst X_16.here hx rfl (hb hby at_49) ?_
      show Steps p.tables e below (T_16.setTop (mkF m 50 #[.val (.int p1), .val (.int p2), .val (.int (1 : Int32)), .val (.ref b_12), .unset, .unset, .unset] [(.int (4 : Int32)), (.ref b_12)])) _
      refine XS.iloadN X_16.here hx rfl (hb hby at_50) rfl ?_
      show Steps p.tables e below (T_16.setTop (mkF m 51 #[.val (.int p1), .val (.int p2), .val (.int (1 : Int32)), .val (.ref b_12), .unset, .unset, .unset] [(.int p2), (.int (4 : Int32)), (.ref b_12)])) _
      refine XS.bipush X_16.here hx rfl (hb hby at_51) ?_
      show Steps p.tables e below (T_16.setTop (mkF m 53 #[.val (.int p1), .val (.int p2), .val (.int (1 : Int32)), .val (.ref b_12), .unset, .unset, .unset] [(.int (12 : Int32)), (.int p2), (.int (4 : Int32)), (.ref b_12)])) _
      refine XS.iushr X_16.here hx rfl (hb hby at_53) rfl ?_
      show Steps p.tables e below (T_16.setTop (mkF m 54 #[.val (.int p1), .val (.int p2), .val (.int (1 : Int32)), .val (.ref b_12), .unset, .unset, .unset] [(.int ((p2.toUInt32 >>> ((12 : Int32) &&& 31).toUInt32).toInt32)), (.int (4 : Int32)), (.ref b_12)])) _
      refine XS.bipush X_16.here hx rfl (hb hby at_54) ?_
      show Steps p.tables e below (T_16.setTop (mkF m 56 #[.val (.int p1), .val (.int p2), .val (.int (1 : Int32)), .val (.ref b_12), .unset, .unset, .unset] [(.int (7 : Int32)), (.int ((p2.toUInt32 >>> ((12 : Int32) &&& 31).toUInt32).toInt32)), (.int (4 : Int32)), (.ref b_12)])) _
      refine XS.iand X_16.here hx rfl (hb hby at_56) rfl ?_
      show Steps p.tables e below (T_16.setTop (mkF m 57 #[.val (.int p1), .val (.int p2), .val (.int (1 : Int32)), .val (.ref b_12), .unset, .unset, .unset] [(.int (((p2.toUInt32 >>> ((12 : Int32) &&& 31).toUInt32).toInt32) &&& (7 : Int32))), (.int (4 : Int32)), (.ref b_12)])) _
      refine st_17 _ ?_
      show Steps p.tables e below (T_17.setTop (mkF m 58 #[.val (.int p1), .val (.int p2), .val (.int (1 : Int32)), .val (.ref b_12), .unset, .unset, .unset] [])) _
      refine XS.iloadN X_17.here hx rfl (hb hby at_58) rfl ?_
      show Steps p.tables e below (T_17.setTop (mkF m 59 #[.val (.int p1), .val (.int p2), .val (.int (1 : Int32)), .val (.ref b_12), .unset, .unset, .unset] [(.int (1 : Int32))])) _
      refine st_18 _ ?_
      show Steps p.tables e below (T_18.setTop (mkF m 61 #[.val (.int p1), .val (.int p2), .val (.int (1 : Int32)), .val (.ref b_12), .unset, .unset, .unset] [(.ref b_18)])) _
      refine XS.astore X_18.here hx rfl (hb hby at_61) rfl rfl (l' := #[.val (.int p1), .val (.int p2), .val (.int (1 : Int32)), .val (.ref b_12), .val (.ref b_18), .unset, .unset]) rfl ?_
      show Steps p.tables e below (T_18.setTop (mkF m 63 #[.val (.int p1), .val (.int p2), .val (.int (1 : Int32)), .val (.ref b_12), .val (.ref b_18), .unset, .unset] [])) _
      refine XS.iloadN X_18.here hx rfl (hb hby at_63) rfl ?_
      show Steps p.tables e below (T_18.setTop (mkF m 64 #[.val (.int p1), .val (.int p2), .val (.int (1 : Int32)), .val (.ref b_12), .val (.ref b_18), .unset, .unset] [(.int (1 : Int32))])) _
      refine XS.ifNo X_18.here hx rfl (hb hby at_64) rfl ((if0 _ _).trans (tlt (by decide : (0 : Int32) < (1 : Int32))).2.2.2) ?_
      show Steps p.tables e below (T_18.setTop (mkF m 67 #[.val (.int p1), .val (.int p2), .val (.int (1 : Int32)), .val (.ref b_12), .val (.ref b_18), .unset, .unset] [])) _
      refine XS.aload X_18.here hx rfl (hb hby at_67) rfl rfl ?_
      show Steps p.tables e below (T_18.setTop (mkF m 69 #[.val (.int p1), .val (.int p2), .val (.int (1 : Int32)), .val (.ref b_12), .val (.ref b_18), .unset, .unset] [(.ref b_18)])) _
      refine XS.iconst X_18.here hx rfl (hb hby at_69) ?_
      show Steps p.tables e below (T_18.setTop (mkF m 70 #[.val (.int p1), .val (.int p2), .val (.int (1 : Int32)), .val (.ref b_12), .val (.ref b_18), .unset, .unset] [(.int (0 : Int32)), (.ref b_18)])) _
      refine XS.aloadN X_18.here hx rfl (hb hby at_70) rfl rfl ?_
      show Steps p.tables e below (T_18.setTop (mkF m 71 #[.val (.int p1), .val (.int p2), .val (.int (1 : Int32)), .val (.ref b_12), .val (.ref b_18), .unset, .unset] [(.ref b_12), (.int (0 : Int32)), (.ref b_18)])) _
      refine XS.iloadN X_18.here hx rfl (hb hby at_71) rfl ?_
      show Steps p.tables e below (T_18.setTop (mkF m 72 #[.val (.int p1), .val (.int p2), .val (.int (1 : Int32)), .val (.ref b_12), .val (.ref b_18), .unset, .unset] [(.int (1 : Int32)), (.ref b_12), (.int (0 : Int32)), (.ref b_18)])) _
      refine XS.iconst X_18.here hx rfl (hb hby at_72) ?_
      show Steps p.tables e below (T_18.setTop (mkF m 73 #[.val (.int p1), .val (.int p2), .val (.int (1 : Int32)), .val (.ref b_12), .val (.ref b_18), .unset, .unset] [(.int (0 : Int32)), (.int (1 : Int32)), (.ref b_12), (.int (0 : Int32)), (.ref b_18)])) _
      refine st_19 _ ?_
      show Steps p.tables e below (T_19.setTop (mkF m 76 #[.val (.int p1), .val (.int p2), .val (.int (1 : Int32)), .val (.ref b_12), .val (.ref b_18), .unset, .unset] [(.int (own_lcp (1 : Int32) (0 : Int32) f5)), (.int (0 : Int32)), (.ref b_18)])) _
      refine st_20 _ ?_
      show Steps p.tables e below (T_20.setTop (mkF m 77 #[.val (.int p1), .val (.int p2), .val (.int (1 : Int32)), .val (.ref b_12), .val (.ref b_18), .unset, .unset] [])) _
      refine XS.iloadN X_20.here hx rfl (hb hby at_77) rfl ?_
      show Steps p.tables e below (T_20.setTop (mkF m 78 #[.val (.int p1), .val (.int p2), .val (.int (1 : Int32)), .val (.ref b_12), .val (.ref b_18), .unset, .unset] [(.int (1 : Int32))])) _
      refine XS.iconst X_20.here hx rfl (hb hby at_78) ?_
      show Steps p.tables e below (T_20.setTop (mkF m 79 #[.val (.int p1), .val (.int p2), .val (.int (1 : Int32)), .val (.ref b_12), .val (.ref b_18), .unset, .unset] [(.int (1 : Int32)), (.int (1 : Int32))])) _
      refine XS.icmpYes X_20.here hx rfl (pc0 := 79) (pc' := 92) rfl (hb hby at_79) rfl (flt (by decide : ¬ ((1 : Int32) < (1 : Int32)))).2.2.2 (by decide) (by decide) ?_
      show Steps p.tables e below (T_20.setTop (mkF m 92 #[.val (.int p1), .val (.int p2), .val (.int (1 : Int32)), .val (.ref b_12), .val (.ref b_18), .unset, .unset] [])) _
      refine XS.iloadN X_20.here hx rfl (hb hby at_92) rfl ?_
      show Steps p.tables e below (T_20.setTop (mkF m 93 #[.val (.int p1), .val (.int p2), .val (.int (1 : Int32)), .val (.ref b_12), .val (.ref b_18), .unset, .unset] [(.int (1 : Int32))])) _
      refine XS.iconst X_20.here hx rfl (hb hby at_93) ?_
      show Steps p.tables e below (T_20.setTop (mkF m 94 #[.val (.int p1), .val (.int p2), .val (.int (1 : Int32)), .val (.ref b_12), .val (.ref b_18), .unset, .unset] [(.int (2 : Int32)), (.int (1 : Int32))])) _
      refine XS.icmpYes X_20.here hx rfl (pc0 := 94) (pc' := 107) rfl (hb hby at_94) rfl (flt (by decide : ¬ ((2 : Int32) < (1 : Int32)))).2.2.2 (by decide) (by decide) ?_
      show Steps p.tables e below (T_20.setTop (mkF m 107 #[.val (.int p1), .val (.int p2), .val (.int (1 : Int32)), .val (.ref b_12), .val (.ref b_18), .unset, .unset] [])) _
      refine XS.iloadN X_20.here hx rfl (hb hby at_107) rfl ?_
      show Steps p.tables e below (T_20.setTop (mkF m 108 #[.val (.int p1), .val (.int p2), .val (.int (1 : Int32)), .val (.ref b_12), .val (.ref b_18), .unset, .unset] [(.int (1 : Int32))])) _
      refine XS.iconst X_20.here hx rfl (hb hby at_108) ?_
      show Steps p.tables e below (T_20.setTop (mkF m 109 #[.val (.int p1), .val (.int p2), .val (.int (1 : Int32)), .val (.ref b_12), .val (.ref b_18), .unset, .unset] [(.int (3 : Int32)), (.int (1 : Int32))])) _
      refine XS.icmpYes X_20.here hx rfl (pc0 := 109) (pc' := 122) rfl (hb hby at_109) rfl (flt (by decide : ¬ ((3 : Int32) < (1 : Int32)))).2.2.2 (by decide) (by decide) ?_
      show Steps p.tables e below (T_20.setTop (mkF m 122 #[.val (.int p1), .val (.int p2), .val (.int (1 : Int32)), .val (.ref b_12), .val (.ref b_18), .unset, .unset] [])) _
      refine XS.iloadN X_20.here hx rfl (hb hby at_122) rfl ?_
      show Steps p.tables e below (T_20.setTop (mkF m 123 #[.val (.int p1), .val (.int p2), .val (.int (1 : Int32)), .val (.ref b_12), .val (.ref b_18), .unset, .unset] [(.int (1 : Int32))])) _
      refine XS.iconst X_20.here hx rfl (hb hby at_123) ?_
      show Steps p.tables e below (T_20.setTop (mkF m 124 #[.val (.int p1), .val (.int p2), .val (.int (1 : Int32)), .val (.ref b_12), .val (.ref b_18), .unset, .unset] [(.int (4 : Int32)), (.int (1 : Int32))])) _
      refine XS.icmpYes X_20.here hx rfl (pc0 := 124) (pc' := 137) rfl (hb hby at_124) rfl (flt (by decide : ¬ ((4 : Int32) < (1 : Int32)))).2.2.2 (by decide) (by decide) ?_
      show Steps p.tables e below (T_20.setTop (mkF m 137 #[.val (.int p1), .val (.int p2), .val (.int (1 : Int32)), .val (.ref b_12), .val (.ref b_18), .unset, .unset] [])) _
      refine XS.aload X_20.here hx rfl (hb hby at_137) rfl rfl ?_
      show Steps p.tables e below (T_20.setTop (mkF m 139 #[.val (.int p1), .val (.int p2), .val (.int (1 : Int32)), .val (.ref b_12), .val (.ref b_18), .unset, .unset] [(.ref b_18)])) _
      refine st_21 _ ?_
      show Steps p.tables e below (T_21.setTop (mkF m 142 #[.val (.int p1), .val (.int p2), .val (.int (1 : Int32)), .val (.ref b_12), .val (.ref b_18), .unset, .unset] [(.ref r_21)])) _
      refine XS.astore X_21.here hx rfl (hb hby at_142) rfl rfl (l' := #[.val (.int p1), .val (.int p2), .val (.int (1 : Int32)), .val (.ref b_12), .val (.ref b_18), .val (.ref r_21), .unset]) rfl ?_
      show Steps p.tables e below (T_21.setTop (mkF m 144 #[.val (.int p1), .val (.int p2), .val (.int (1 : Int32)), .val (.ref b_12), .val (.ref b_18), .val (.ref r_21), .unset] [])) _
      refine XS.aload X_21.here hx rfl (hb hby at_144) rfl rfl ?_
      show Steps p.tables e below (T_21.setTop (mkF m 146 #[.val (.int p1), .val (.int p2), .val (.int (1 : Int32)), .val (.ref b_12), .val (.ref b_18), .val (.ref r_21), .unset] [(.ref r_21)])) _
      refine X_21.arraylength hx Ar_23.1 (State.isArrayOf_alike hZ.alike Ar_23.2.1) (g := (mkF m 146 #[.val (.int p1), .val (.int p2), .val (.int (1 : Int32)), .val (.ref b_12), .val (.ref b_18), .val (.ref r_21), .unset] [(.ref r_21)])) rfl rfl (hb hby at_146) _ ?_
      rw [Sz_23]
      show Steps p.tables e below (T_21.setTop (mkF m 147 #[.val (.int p1), .val (.int p2), .val (.int (1 : Int32)), .val (.ref b_12), .val (.ref b_18), .val (.ref r_21), .unset] [(.int (1 : Int32))])) _
      refine XS.iloadN X_21.here hx rfl (hb hby at_147) rfl ?_
      show Steps p.tables e below (T_21.setTop (mkF m 148 #[.val (.int p1), .val (.int p2), .val (.int (1 : Int32)), .val (.ref b_12), .val (.ref b_18), .val (.ref r_21), .unset] [(.int (1 : Int32)), (.int (1 : Int32))])) _
      refine XS.icmpNo X_21.here hx rfl (hb hby at_148) rfl (teq (by decide : (1 : Int32) = (1 : Int32))).2 ?_
      show Steps p.tables e below (T_21.setTop (mkF m 151 #[.val (.int p1), .val (.int p2), .val (.int (1 : Int32)), .val (.ref b_12), .val (.ref b_18), .val (.ref r_21), .unset] [])) _
      refine XS.iconst X_21.here hx rfl (hb hby at_151) ?_
      show Steps p.tables e below (T_21.setTop (mkF m 152 #[.val (.int p1), .val (.int p2), .val (.int (1 : Int32)), .val (.ref b_12), .val (.ref b_18), .val (.ref r_21), .unset] [(.int (1 : Int32))])) _
      refine XS.goto X_21.here hx rfl (pc0 := 152) (pc' := 156) rfl (hb hby at_152) (by decide) (by decide) ?_
      show Steps p.tables e below (T_21.setTop (mkF m 156 #[.val (.int p1), .val (.int p2), .val (.int (1 : Int32)), .val (.ref b_12), .val (.ref b_18), .val (.ref r_21), .unset] [(.int (1 : Int32))])) _
      refine XS.istore X_21.here hx rfl (hb hby at_156) rfl (l' := #[.val (.int p1), .val (.int p2), .val (.int (1 : Int32)), .val (.ref b_12), .val (.ref b_18), .val (.ref r_21), .val (.int (1 : Int32))]) rfl ?_
      show Steps p.tables e below (T_21.setTop (mkF m 158 #[.val (.int p1), .val (.int p2), .val (.int (1 : Int32)), .val (.ref b_12), .val (.ref b_18), .val (.ref r_21), .val (.int (1 : Int32))] [])) _
      refine XS.iloadN X_21.here hx rfl (hb hby at_158) rfl ?_
      show Steps p.tables e below (T_21.setTop (mkF m 159 #[.val (.int p1), .val (.int p2), .val (.int (1 : Int32)), .val (.ref b_12), .val (.ref b_18), .val (.ref r_21), .val (.int (1 : Int32))] [(.int (1 : Int32))])) _
      refine XS.ifNo X_21.here hx rfl (hb hby at_159) rfl ((if0 _ _).trans (tlt (by decide : (0 : Int32) < (1 : Int32))).2.2.2) ?_
      show Steps p.tables e below (T_21.setTop (mkF m 162 #[.val (.int p1), .val (.int p2), .val (.int (1 : Int32)), .val (.ref b_12), .val (.ref b_18), .val (.ref r_21), .val (.int (1 : Int32))] [])) _
      refine XS.iload X_21.here hx rfl (hb hby at_162) rfl ?_
      show Steps p.tables e below (T_21.setTop (mkF m 164 #[.val (.int p1), .val (.int p2), .val (.int (1 : Int32)), .val (.ref b_12), .val (.ref b_18), .val (.ref r_21), .val (.int (1 : Int32))] [(.int (1 : Int32))])) _
      refine XS.ifNo X_21.here hx rfl (hb hby at_164) rfl ((if0 _ _).trans (feq (by decide : ¬ ((1 : Int32) = (0 : Int32)))).1) ?_
      show Steps p.tables e below (T_21.setTop (mkF m 167 #[.val (.int p1), .val (.int p2), .val (.int (1 : Int32)), .val (.ref b_12), .val (.ref b_18), .val (.ref r_21), .val (.int (1 : Int32))] [])) _
      refine XS.aload X_21.here hx rfl (hb hby at_167) rfl rfl ?_
      show Steps p.tables e below (T_21.setTop (mkF m 169 #[.val (.int p1), .val (.int p2), .val (.int (1 : Int32)), .val (.ref b_12), .val (.ref b_18), .val (.ref r_21), .val (.int (1 : Int32))] [(.ref r_21)])) _
      refine XS.iconst X_21.here hx rfl (hb hby at_169) ?_
      show Steps p.tables e below (T_21.setTop (mkF m 170 #[.val (.int p1), .val (.int p2), .val (.int (1 : Int32)), .val (.ref b_12), .val (.ref b_18), .val (.ref r_21), .val (.int (1 : Int32))] [(.int (0 : Int32)), (.ref r_21)])) _
      refine X_21.iaload hx (j := (0 : Int32)) (v := (.int ((own_out 1 fz) 0))) Ar_23.1 (State.isArrayOf_alike hZ.alike Ar_23.2.1) Ar_23.2.2 (own_inb Sz_23 (show ¬ ((0 : Int32) < 0 ∨ 1 ≤ ((0 : Int32)).toNatClampNeg) from (by decide))) (by have q := At_23 _ (own_ltn (show ¬ ((0 : Int32) < 0 ∨ 1 ≤ ((0 : Int32)).toNatClampNeg) from (by decide))); rw [show ((0 : Int32)).toNatClampNeg = 0 from by decide] at q ⊢; exact q) (g := (mkF m 170 #[.val (.int p1), .val (.int p2), .val (.int (1 : Int32)), .val (.ref b_12), .val (.ref b_18), .val (.ref r_21), .val (.int (1 : Int32))] [(.int (0 : Int32)), (.ref r_21)])) rfl rfl (hb hby at_170) _ ?_
      show Steps p.tables e below (T_21.setTop (mkF m 171 #[.val (.int p1), .val (.int p2), .val (.int (1 : Int32)), .val (.ref b_12), .val (.ref b_18), .val (.ref r_21), .val (.int (1 : Int32))] [(.int ((own_out 1 fz) 0))])) _
      refine XS.aloadN X_21.here hx rfl (hb hby at_171) rfl rfl ?_
      show Steps p.tables e below (T_21.setTop (mkF m 172 #[.val (.int p1), .val (.int p2), .val (.int (1 : Int32)), .val (.ref b_12), .val (.ref b_18), .val (.ref r_21), .val (.int (1 : Int32))] [(.ref b_12), (.int ((own_out 1 fz) 0))])) _
      refine XS.iconst X_21.here hx rfl (hb hby at_172) ?_
      show Steps p.tables e below (T_21.setTop (mkF m 173 #[.val (.int p1), .val (.int p2), .val (.int (1 : Int32)), .val (.ref b_12), .val (.ref b_18), .val (.ref r_21), .val (.int (1 : Int32))] [(.int (0 : Int32)), (.ref b_12), (.int ((own_out 1 fz) 0))])) _
      refine st_24 _ ?_
      show Steps p.tables e below (T_24.setTop (mkF m 176 #[.val (.int p1), .val (.int p2), .val (.int (1 : Int32)), .val (.ref b_12), .val (.ref b_18), .val (.ref r_21), .val (.int (1 : Int32))] [(.int (own_border (0 : Int32) f5)), (.int ((own_out 1 fz) 0))])) _
      refine XS.icmpNo X_24.here hx rfl (hb hby at_176) rfl (teq (own_good1_0 f5 fz ht5  : ((own_out 1 fz) 0) = (own_border (0 : Int32) f5))).2 ?_
      show Steps p.tables e below (T_24.setTop (mkF m 179 #[.val (.int p1), .val (.int p2), .val (.int (1 : Int32)), .val (.ref b_12), .val (.ref b_18), .val (.ref r_21), .val (.int (1 : Int32))] [])) _
      refine XS.iconst X_24.here hx rfl (hb hby at_179) ?_
      show Steps p.tables e below (T_24.setTop (mkF m 180 #[.val (.int p1), .val (.int p2), .val (.int (1 : Int32)), .val (.ref b_12), .val (.ref b_18), .val (.ref r_21), .val (.int (1 : Int32))] [(.int (1 : Int32))])) _
      refine XS.goto X_24.here hx rfl (pc0 := 180) (pc' := 184) rfl (hb hby at_180) (by decide) (by decide) ?_
      show Steps p.tables e below (T_24.setTop (mkF m 184 #[.val (.int p1), .val (.int p2), .val (.int (1 : Int32)), .val (.ref b_12), .val (.ref b_18), .val (.ref r_21), .val (.int (1 : Int32))] [(.int (1 : Int32))])) _
      refine XS.istore X_24.here hx rfl (hb hby at_184) rfl (l' := #[.val (.int p1), .val (.int p2), .val (.int (1 : Int32)), .val (.ref b_12), .val (.ref b_18), .val (.ref r_21), .val (.int (1 : Int32))]) rfl ?_
      show Steps p.tables e below (T_24.setTop (mkF m 186 #[.val (.int p1), .val (.int p2), .val (.int (1 : Int32)), .val (.ref b_12), .val (.ref b_18), .val (.ref r_21), .val (.int (1 : Int32))] [])) _
      refine XS.iloadN X_24.here hx rfl (hb hby at_186) rfl ?_
      show Steps p.tables e below (T_24.setTop (mkF m 187 #[.val (.int p1), .val (.int p2), .val (.int (1 : Int32)), .val (.ref b_12), .val (.ref b_18), .val (.ref r_21), .val (.int (1 : Int32))] [(.int (1 : Int32))])) _
      refine XS.iconst X_24.here hx rfl (hb hby at_187) ?_
      show Steps p.tables e below (T_24.setTop (mkF m 188 #[.val (.int p1), .val (.int p2), .val (.int (1 : Int32)), .val (.ref b_12), .val (.ref b_18), .val (.ref r_21), .val (.int (1 : Int32))] [(.int (1 : Int32)), (.int (1 : Int32))])) _
      refine XS.icmpYes X_24.here hx rfl (pc0 := 188) (pc' := 215) rfl (hb hby at_188) rfl (flt (by decide : ¬ ((1 : Int32) < (1 : Int32)))).2.2.2 (by decide) (by decide) ?_
      show Steps p.tables e below (T_24.setTop (mkF m 215 #[.val (.int p1), .val (.int p2), .val (.int (1 : Int32)), .val (.ref b_12), .val (.ref b_18), .val (.ref r_21), .val (.int (1 : Int32))] [])) _
      refine XS.iloadN X_24.here hx rfl (hb hby at_215) rfl ?_
      show Steps p.tables e below (T_24.setTop (mkF m 216 #[.val (.int p1), .val (.int p2), .val (.int (1 : Int32)), .val (.ref b_12), .val (.ref b_18), .val (.ref r_21), .val (.int (1 : Int32))] [(.int (1 : Int32))])) _
      refine XS.iconst X_24.here hx rfl (hb hby at_216) ?_
      show Steps p.tables e below (T_24.setTop (mkF m 217 #[.val (.int p1), .val (.int p2), .val (.int (1 : Int32)), .val (.ref b_12), .val (.ref b_18), .val (.ref r_21), .val (.int (1 : Int32))] [(.int (2 : Int32)), (.int (1 : Int32))])) _
      refine XS.icmpYes X_24.here hx rfl (pc0 := 217) (pc' := 244) rfl (hb hby at_217) rfl (flt (by decide : ¬ ((2 : Int32) < (1 : Int32)))).2.2.2 (by decide) (by decide) ?_
      show Steps p.tables e below (T_24.setTop (mkF m 244 #[.val (.int p1), .val (.int p2), .val (.int (1 : Int32)), .val (.ref b_12), .val (.ref b_18), .val (.ref r_21), .val (.int (1 : Int32))] [])) _
      refine XS.iloadN X_24.here hx rfl (hb hby at_244) rfl ?_
      show Steps p.tables e below (T_24.setTop (mkF m 245 #[.val (.int p1), .val (.int p2), .val (.int (1 : Int32)), .val (.ref b_12), .val (.ref b_18), .val (.ref r_21), .val (.int (1 : Int32))] [(.int (1 : Int32))])) _
      refine XS.iconst X_24.here hx rfl (hb hby at_245) ?_
      show Steps p.tables e below (T_24.setTop (mkF m 246 #[.val (.int p1), .val (.int p2), .val (.int (1 : Int32)), .val (.ref b_12), .val (.ref b_18), .val (.ref r_21), .val (.int (1 : Int32))] [(.int (3 : Int32)), (.int (1 : Int32))])) _
      refine XS.icmpYes X_24.here hx rfl (pc0 := 246) (pc' := 273) rfl (hb hby at_246) rfl (flt (by decide : ¬ ((3 : Int32) < (1 : Int32)))).2.2.2 (by decide) (by decide) ?_
      show Steps p.tables e below (T_24.setTop (mkF m 273 #[.val (.int p1), .val (.int p2), .val (.int (1 : Int32)), .val (.ref b_12), .val (.ref b_18), .val (.ref r_21), .val (.int (1 : Int32))] [])) _
      refine XS.iloadN X_24.here hx rfl (hb hby at_273) rfl ?_
      show Steps p.tables e below (T_24.setTop (mkF m 274 #[.val (.int p1), .val (.int p2), .val (.int (1 : Int32)), .val (.ref b_12), .val (.ref b_18), .val (.ref r_21), .val (.int (1 : Int32))] [(.int (1 : Int32))])) _
      refine XS.iconst X_24.here hx rfl (hb hby at_274) ?_
      show Steps p.tables e below (T_24.setTop (mkF m 275 #[.val (.int p1), .val (.int p2), .val (.int (1 : Int32)), .val (.ref b_12), .val (.ref b_18), .val (.ref r_21), .val (.int (1 : Int32))] [(.int (4 : Int32)), (.int (1 : Int32))])) _
      refine XS.icmpYes X_24.here hx rfl (pc0 := 275) (pc' := 302) rfl (hb hby at_275) rfl (flt (by decide : ¬ ((4 : Int32) < (1 : Int32)))).2.2.2 (by decide) (by decide) ?_
      show Steps p.tables e below (T_24.setTop (mkF m 302 #[.val (.int p1), .val (.int p2), .val (.int (1 : Int32)), .val (.ref b_12), .val (.ref b_18), .val (.ref r_21), .val (.int (1 : Int32))] [])) _
      refine XS.iload X_24.here hx rfl (hb hby at_302) rfl ?_
      show Steps p.tables e below (T_24.setTop (mkF m 304 #[.val (.int p1), .val (.int p2), .val (.int (1 : Int32)), .val (.ref b_12), .val (.ref b_18), .val (.ref r_21), .val (.int (1 : Int32))] [(.int (1 : Int32))])) _
      exact retN X_24 hx (t := .boolean) Bd.returns (by simp) (hb hby at_304) hr
    · exact ⟨rfl, N_24⟩
  · obtain ⟨T_25, h_25, k_25, X_25, e_25, E_25, A_25, st_25⟩ := newP X0 hx hZ (hw _ (List.mem_of_getElem? (i := 1) rfl)) e0 (g := (mkF m 9 #[.val (.int p1), .val (.int p2), .val (.int (2 : Int32)), .unset, .unset, .unset, .unset] [(.int (5 : Int32))])) rfl (hb hby at_9) rfl (by decide) (cap := 5) (by decide) (by decide) (by decide) (by decide)
    obtain ⟨b_25, g_25⟩ : ∃ z, z = h0.size := ⟨_, rfl⟩
    rw [← g_25] at A_25 st_25
    have g_b_25 : n0 ≤ b_25 := Nat.le_trans Z0 (Nat.le_of_eq g_25.symm)
    have sz_b_25 : h0.size ≤ b_25 := Nat.le_trans ((Keep.refl h0 [])).1 (Nat.le_of_eq g_25.symm)
    have Z_25 : n0 ≤ h_25.size := Nat.le_trans Z0 E_25.1
    have K_25 : Keep h0 h_25 [] := (Keep.refl h0 []).ext E_25
    have fa_25 : own_arr .int Z h_25 b_25 5 (fun _ => 0) := own_arr.newI A_25 rfl
    have fo_26 := fa_25
    obtain ⟨cl_26, Ar_26, Sz_26, At_26⟩ := fo_26
    obtain ⟨T_26, h_26, X_26, e_26, W_26, st_26⟩ := stI X_25 hx hZ e_25 Ar_26 (j := (0 : Int32)) (own_inb Sz_26 (by decide)) (g := (mkF m 18 #[.val (.int p1), .val (.int p2), .val (.int (2 : Int32)), .val (.ref b_25), .unset, .unset, .unset] [(.int (p2 &&& (7 : Int32))), (.int (0 : Int32)), (.ref b_25)])) rfl rfl (hb hby at_18)
    have N_26 := Fr.snoc X_26 N0 g_b_25
    have fw_26 : own_arr .int Z h_26 b_25 5 (own_upd (fun _ => 0) 0 (p2 &&& (7 : Int32))) := own_arr.set Ar_26 Sz_26 At_26 W_26
    have Z_26 : n0 ≤ h_26.size := Nat.le_trans Z_25 (Keep.of_wr W_26).1
    have K_26 : Keep h0 h_26 [] := K_25.wr W_26 (Or.inr sz_b_25)
    have fo_27 := fw_26
    obtain ⟨cl_27, Ar_27, Sz_27, At_27⟩ := fo_27
    obtain ⟨T_27, h_27, X_27, e_27, W_27, st_27⟩ := stI X_26 hx hZ e_26 Ar_27 (j := (1 : Int32)) (own_inb Sz_27 (by decide)) (g := (mkF m 27 #[.val (.int p1), .val (.int p2), .val (.int (2 : Int32)), .val (.ref b_25), .unset, .unset, .unset] [(.int (((p2.toUInt32 >>> ((3 : Int32) &&& 31).toUInt32).toInt32) &&& (7 : Int32))), (.int (1 : Int32)), (.ref b_25)])) rfl rfl (hb hby at_27)
    have N_27 := Fr.snoc X_27 N_26 g_b_25
    have fw_27 : own_arr .int Z h_27 b_25 5 (own_upd (own_upd (fun _ => 0) 0 (p2 &&& (7 : Int32))) 1 (((p2.toUInt32 >>> ((3 : Int32) &&& 31).toUInt32).toInt32) &&& (7 : Int32))) := own_arr.set Ar_27 Sz_27 At_27 W_27
    have Z_27 : n0 ≤ h_27.size := Nat.le_trans Z_26 (Keep.of_wr W_27).1
    have K_27 : Keep h0 h_27 [] := K_26.wr W_27 (Or.inr sz_b_25)
    have fo_28 := fw_27
    obtain ⟨cl_28, Ar_28, Sz_28, At_28⟩ := fo_28
    obtain ⟨T_28, h_28, X_28, e_28, W_28, st_28⟩ := stI X_27 hx hZ e_27 Ar_28 (j := (2 : Int32)) (own_inb Sz_28 (by decide)) (g := (mkF m 37 #[.val (.int p1), .val (.int p2), .val (.int (2 : Int32)), .val (.ref b_25), .unset, .unset, .unset] [(.int (((p2.toUInt32 >>> ((6 : Int32) &&& 31).toUInt32).toInt32) &&& (7 : Int32))), (.int (2 : Int32)), (.ref b_25)])) rfl rfl (hb hby at_37)
    have N_28 := Fr.snoc X_28 N_27 g_b_25
    have fw_28 : own_arr .int Z h_28 b_25 5 (own_upd (own_upd (own_upd (fun _ => 0) 0 (p2 &&& (7 : Int32))) 1 (((p2.toUInt32 >>> ((3 : Int32) &&& 31).toUInt32).toInt32) &&& (7 : Int32))) 2 (((p2.toUInt32 >>> ((6 : Int32) &&& 31).toUInt32).toInt32) &&& (7 : Int32))) := own_arr.set Ar_28 Sz_28 At_28 W_28
    have Z_28 : n0 ≤ h_28.size := Nat.le_trans Z_27 (Keep.of_wr W_28).1
    have K_28 : Keep h0 h_28 [] := K_27.wr W_28 (Or.inr sz_b_25)
    have fo_29 := fw_28
    obtain ⟨cl_29, Ar_29, Sz_29, At_29⟩ := fo_29
    obtain ⟨T_29, h_29, X_29, e_29, W_29, st_29⟩ := stI X_28 hx hZ e_28 Ar_29 (j := (3 : Int32)) (own_inb Sz_29 (by decide)) (g := (mkF m 47 #[.val (.int p1), .val (.int p2), .val (.int (2 : Int32)), .val (.ref b_25), .unset, .unset, .unset] [(.int (((p2.toUInt32 >>> ((9 : Int32) &&& 31).toUInt32).toInt32) &&& (7 : Int32))), (.int (3 : Int32)), (.ref b_25)])) rfl rfl (hb hby at_47)
    have N_29 := Fr.snoc X_29 N_28 g_b_25
    have fw_29 : own_arr .int Z h_29 b_25 5 (own_upd (own_upd (own_upd (own_upd (fun _ => 0) 0 (p2 &&& (7 : Int32))) 1 (((p2.toUInt32 >>> ((3 : Int32) &&& 31).toUInt32).toInt32) &&& (7 : Int32))) 2 (((p2.toUInt32 >>> ((6 : Int32) &&& 31).toUInt32).toInt32) &&& (7 : Int32))) 3 (((p2.toUInt32 >>> ((9 : Int32) &&& 31).toUInt32).toInt32) &&& (7 : Int32))) := own_arr.set Ar_29 Sz_29 At_29 W_29
    have Z_29 : n0 ≤ h_29.size := Nat.le_trans Z_28 (Keep.of_wr W_29).1
    have K_29 : Keep h0 h_29 [] := K_28.wr W_29 (Or.inr sz_b_25)
    have fo_30 := fw_29
    obtain ⟨cl_30, Ar_30, Sz_30, At_30⟩ := fo_30
    obtain ⟨T_30, h_30, X_30, e_30, W_30, st_30⟩ := stI X_29 hx hZ e_29 Ar_30 (j := (4 : Int32)) (own_inb Sz_30 (by decide)) (g := (mkF m 57 #[.val (.int p1), .val (.int p2), .val (.int (2 : Int32)), .val (.ref b_25), .unset, .unset, .unset] [(.int (((p2.toUInt32 >>> ((12 : Int32) &&& 31).toUInt32).toInt32) &&& (7 : Int32))), (.int (4 : Int32)), (.ref b_25)])) rfl rfl (hb hby at_57)
    have N_30 := Fr.snoc X_30 N_29 g_b_25
    have fw_30 : own_arr .int Z h_30 b_25 5 (own_upd (own_upd (own_upd (own_upd (own_upd (fun _ => 0) 0 (p2 &&& (7 : Int32))) 1 (((p2.toUInt32 >>> ((3 : Int32) &&& 31).toUInt32).toInt32) &&& (7 : Int32))) 2 (((p2.toUInt32 >>> ((6 : Int32) &&& 31).toUInt32).toInt32) &&& (7 : Int32))) 3 (((p2.toUInt32 >>> ((9 : Int32) &&& 31).toUInt32).toInt32) &&& (7 : Int32))) 4 (((p2.toUInt32 >>> ((12 : Int32) &&& 31).toUInt32).toInt32) &&& (7 : Int32))) := own_arr.set Ar_30 Sz_30 At_30 W_30
    have Z_30 : n0 ≤ h_30.size := Nat.le_trans Z_29 (Keep.of_wr W_30).1
    have K_30 : Keep h0 h_30 [] := K_29.wr W_30 (Or.inr sz_b_25)
    obtain ⟨f5, hf5, ht5⟩ := own_tail (own_upd (own_upd (own_upd (own_upd (own_upd (fun _ => 0) 0 (p2 &&& (7 : Int32))) 1 (((p2.toUInt32 >>> ((3 : Int32) &&& 31).toUInt32).toInt32) &&& (7 : Int32))) 2 (((p2.toUInt32 >>> ((6 : Int32) &&& 31).toUInt32).toInt32) &&& (7 : Int32))) 3 (((p2.toUInt32 >>> ((9 : Int32) &&& 31).toUInt32).toInt32) &&& (7 : Int32))) 4 (((p2.toUInt32 >>> ((12 : Int32) &&& 31).toUInt32).toInt32) &&& (7 : Int32)))
    have fq5 := fw_30.eqv hf5
    obtain ⟨T_31, h_31, k_31, X_31, e_31, E_31, A_31, st_31⟩ := newP X_30 hx hZ (hw _ (List.mem_of_getElem? (i := 1) rfl)) e_30 (g := (mkF m 59 #[.val (.int p1), .val (.int p2), .val (.int (2 : Int32)), .val (.ref b_25), .unset, .unset, .unset] [(.int (2 : Int32))])) rfl (hb hby at_59) rfl (by decide) (cap := 2) (by decide) (by decide) (by decide) (by decide)
    obtain ⟨b_31, g_31⟩ : ∃ z, z = h_30.size := ⟨_, rfl⟩
    rw [← g_31] at A_31 st_31
    have ne_b_25_b_31 : b_25 ≠ b_31 := Nat.ne_of_lt (Nat.lt_of_lt_of_le fq5.lt (Nat.le_of_eq g_31.symm))
    have g_b_31 : n0 ≤ b_31 := Nat.le_trans Z_30 (Nat.le_of_eq g_31.symm)
    have sz_b_31 : h0.size ≤ b_31 := Nat.le_trans (K_30).1 (Nat.le_of_eq g_31.symm)
    have f_31_0 : own_arr .int Z h_31 b_25 5 f5 := fq5.ext E_31
    have Z_31 : n0 ≤ h_31.size := Nat.le_trans Z_30 E_31.1
    have K_31 : Keep h0 h_31 [] := K_30.ext E_31
    have fa_31 : own_arr .int Z h_31 b_31 2 (fun _ => 0) := own_arr.newI A_31 rfl
    obtain ⟨_, _, ⟨T_32, L_32, k_32, n_32⟩, -, X_32, ⟨Lc_32, hQ_32, l_32, y_32, z_32⟩, st_32⟩ := Jvm.LawKit.callS X_31 hx (y := (⟨"com/example/borderwork/borderwork/zarrays/ZArraysToBorderArrayPinLaw", "lcp", "([III)I"⟩ : MethodName)) hown (mvT hZ (hw _ (List.mem_of_getElem? (i := 6) rfl))) (mvT hZ (hw _ (List.mem_of_getElem? (i := 7) rfl))) (mvT hZ (hw _ (List.mem_of_getElem? (i := 8) rfl))) (mvT hZ (hw _ (List.mem_of_getElem? (i := 9) rfl))) (by decide) (backOf (W := 2) (rm2 l Z a0 hw [] b_25 (2 : Int32) (0 : Int32) f5 h_31 n0 Z_31 f_31_0 (by decide) (by decide) (by decide)) hZ (hw _ (List.mem_of_getElem? (i := 9) rfl)) (hw _ (List.mem_of_getElem? (i := 8) rfl)) (by decide) (by decide)) (g := (mkF m 73 #[.val (.int p1), .val (.int p2), .val (.int (2 : Int32)), .val (.ref b_25), .val (.ref b_31), .unset, .unset] [(.int (0 : Int32)), (.int (2 : Int32)), (.ref b_25), (.int (0 : Int32)), (.ref b_31)])) rfl (by rw [hml]; rfl) (argsL := [(.ref b_25), (.int (2 : Int32)), (.int (0 : Int32))]) (rest := [(.int (0 : Int32)), (.ref b_31)]) (lenOf pd_3 rfl) rfl (by show 2 * 0 + _ ≤ _; exact Nat.le_of_eq rfl) (hb hby at_73) (fun _ _ => ⟨rfl, e_31, (by decide : 2 + 0 ≤ _), (by decide : 7 + 0 ≤ _)⟩)
    dsimp only [Pt.U, Pt.locs, Pt.cells, Pt.slots] at X_32 l_32 y_32 z_32 st_32 hQ_32
    subst l_32 y_32 z_32
    obtain ⟨rfl, N_32q, e_32⟩ := hQ_32
    have N_32 := Fr.app N_30 N_32q
    have fo_33 := fa_31
    obtain ⟨cl_33, Ar_33, Sz_33, At_33⟩ := fo_33
    obtain ⟨T_33, h_33, X_33, e_33, W_33, st_33⟩ := stI X_32 hx hZ e_32 Ar_33 (j := (0 : Int32)) (own_inb Sz_33 (by decide)) (g := (mkF m 76 #[.val (.int p1), .val (.int p2), .val (.int (2 : Int32)), .val (.ref b_25), .val (.ref b_31), .unset, .unset] [(.int (own_lcp (2 : Int32) (0 : Int32) f5)), (.int (0 : Int32)), (.ref b_31)])) rfl rfl (hb hby at_76)
    have N_33 := Fr.snoc X_33 N_32 g_b_31
    have fw_33 : own_arr .int Z h_33 b_31 2 (own_upd (fun _ => 0) 0 (own_lcp (2 : Int32) (0 : Int32) f5)) := own_arr.set Ar_33 Sz_33 At_33 W_33
    have f_33_0 : own_arr .int Z h_33 b_25 5 f5 := f_31_0.other W_33 ne_b_25_b_31
    have Z_33 : n0 ≤ h_33.size := Nat.le_trans Z_31 (Keep.of_wr W_33).1
    have K_33 : Keep h0 h_33 [] := K_31.wr W_33 (Or.inr sz_b_31)
    obtain ⟨_, _, ⟨T_34, L_34, k_34, n_34⟩, -, X_34, ⟨Lc_34, hQ_34, l_34, y_34, z_34⟩, st_34⟩ := Jvm.LawKit.callS X_33 hx (y := (⟨"com/example/borderwork/borderwork/zarrays/ZArraysToBorderArrayPinLaw", "lcp", "([III)I"⟩ : MethodName)) hown (mvT hZ (hw _ (List.mem_of_getElem? (i := 6) rfl))) (mvT hZ (hw _ (List.mem_of_getElem? (i := 7) rfl))) (mvT hZ (hw _ (List.mem_of_getElem? (i := 8) rfl))) (mvT hZ (hw _ (List.mem_of_getElem? (i := 9) rfl))) (by decide) (backOf (W := 2) (rm2 l Z a0 hw [] b_25 (2 : Int32) (1 : Int32) f5 h_33 n0 Z_33 f_33_0 (by decide) (by decide) (by decide)) hZ (hw _ (List.mem_of_getElem? (i := 9) rfl)) (hw _ (List.mem_of_getElem? (i := 8) rfl)) (by decide) (by decide)) (g := (mkF m 88 #[.val (.int p1), .val (.int p2), .val (.int (2 : Int32)), .val (.ref b_25), .val (.ref b_31), .unset, .unset] [(.int (1 : Int32)), (.int (2 : Int32)), (.ref b_25), (.int (1 : Int32)), (.ref b_31)])) rfl (by rw [hml]; rfl) (argsL := [(.ref b_25), (.int (2 : Int32)), (.int (1 : Int32))]) (rest := [(.int (1 : Int32)), (.ref b_31)]) (lenOf pd_3 rfl) rfl (by show 2 * 0 + _ ≤ _; exact Nat.le_of_eq rfl) (hb hby at_88) (fun _ _ => ⟨rfl, e_33, (by decide : 2 + 0 ≤ _), (by decide : 7 + 0 ≤ _)⟩)
    dsimp only [Pt.U, Pt.locs, Pt.cells, Pt.slots] at X_34 l_34 y_34 z_34 st_34 hQ_34
    subst l_34 y_34 z_34
    obtain ⟨rfl, N_34q, e_34⟩ := hQ_34
    have N_34 := Fr.app N_33 N_34q
    have fo_35 := fw_33
    obtain ⟨cl_35, Ar_35, Sz_35, At_35⟩ := fo_35
    obtain ⟨T_35, h_35, X_35, e_35, W_35, st_35⟩ := stI X_34 hx hZ e_34 Ar_35 (j := (1 : Int32)) (own_inb Sz_35 (by decide)) (g := (mkF m 91 #[.val (.int p1), .val (.int p2), .val (.int (2 : Int32)), .val (.ref b_25), .val (.ref b_31), .unset, .unset] [(.int (own_lcp (2 : Int32) (1 : Int32) f5)), (.int (1 : Int32)), (.ref b_31)])) rfl rfl (hb hby at_91)
    have N_35 := Fr.snoc X_35 N_34 g_b_31
    have fw_35 : own_arr .int Z h_35 b_31 2 (own_upd (own_upd (fun _ => 0) 0 (own_lcp (2 : Int32) (0 : Int32) f5)) 1 (own_lcp (2 : Int32) (1 : Int32) f5)) := own_arr.set Ar_35 Sz_35 At_35 W_35
    have f_35_0 : own_arr .int Z h_35 b_25 5 f5 := f_33_0.other W_35 ne_b_25_b_31
    have Z_35 : n0 ≤ h_35.size := Nat.le_trans Z_33 (Keep.of_wr W_35).1
    have K_35 : Keep h0 h_35 [] := K_33.wr W_35 (Or.inr sz_b_31)
    obtain ⟨fz, hfz⟩ : ∃ z : Nat → Int32, z = (own_upd (own_upd (fun _ => 0) 0 (own_lcp (2 : Int32) (0 : Int32) f5)) 1 (own_lcp (2 : Int32) (1 : Int32) f5)) := ⟨_, rfl⟩
    rw [← hfz] at fw_35
    have z_0 : fz 0 = own_lcp (2 : Int32) (0 : Int32) f5 := by rw [hfz]; rfl
    have z_1 : fz 1 = own_lcp (2 : Int32) (1 : Int32) f5 := by rw [hfz]; rfl
    obtain ⟨_, _, ⟨T_36, L_36, k_36, n_36⟩, -, X_36, ⟨Lc_36, hQ_36, l_36, y_36, z_36⟩, st_36⟩ := Jvm.LawKit.callS X_35 hx (y := (⟨"com/example/borderwork/borderwork/zarrays/ZArrays", "toBorderArray", "([I)[I"⟩ : MethodName)) hown (mvT hZ (hw _ (List.mem_of_getElem? (i := 2) rfl))) (mvT hZ (hw _ (List.mem_of_getElem? (i := 3) rfl))) (mvT hZ (hw _ (List.mem_of_getElem? (i := 4) rfl))) (mvT hZ (hw _ (List.mem_of_getElem? (i := 5) rfl))) (by decide) (backOf (W := 0) (rm1_2 l Z a0 hw [] b_31 fz h_35 n0 Z_35 fw_35 (z_0.trans (own_whole2 f5)) (by rw [z_1]; exact (own_lcp_b _ _ f5 (by decide)).1) (by rw [z_1]; exact (own_lcp_b _ _ f5 (by decide)).2)) hZ (hw _ (List.mem_of_getElem? (i := 5) rfl)) (hw _ (List.mem_of_getElem? (i := 4) rfl)) (by decide) (by decide)) (g := (mkF m 139 #[.val (.int p1), .val (.int p2), .val (.int (2 : Int32)), .val (.ref b_25), .val (.ref b_31), .unset, .unset] [(.ref b_31)])) rfl (by rw [hml]; rfl) (argsL := [(.ref b_31)]) (rest := []) (lenOf pd_2 rfl) rfl (by show 2 * 0 + _ ≤ _; exact Nat.le_of_eq rfl) (hb hby at_139) (fun _ _ => ⟨rfl, e_35, (by decide : 2 + 1 ≤ _), (by decide : 7 + 2 ≤ _)⟩)
    dsimp only [Pt.U, Pt.locs, Pt.cells, Pt.slots] at X_36 l_36 y_36 z_36 st_36 hQ_36
    subst l_36 y_36 z_36
    obtain ⟨r_36, rfl, N_36q, Kc_36, o_36_0⟩ := hQ_36
    have f_36_0 : own_arr .int Z T_36.heap b_25 5 f5 := f_35_0.keep Kc_36 (List.not_mem_nil)
    have f_36_1 : own_arr .int Z T_36.heap b_31 2 fz := fw_35.keep Kc_36 (List.not_mem_nil)
    have Z_36 : n0 ≤ T_36.heap.size := Nat.le_trans Z_35 Kc_36.1
    have K_36 : Keep h0 T_36.heap [] := K_35.trans Kc_36 (fun x hx => nomatch hx)
    have N_36 := Fr.app N_35 N_36q
    have fo_38 := o_36_0
    obtain ⟨cl_38, Ar_38, Sz_38, At_38⟩ := fo_38
    obtain ⟨_, _, ⟨T_39, L_39, k_39, n_39⟩, -, X_39, ⟨Lc_39, hQ_39, l_39, y_39, z_39⟩, st_39⟩ := Jvm.LawKit.callS X_36 hx (y := (⟨"com/example/borderwork/borderwork/zarrays/ZArraysToBorderArrayPinLaw", "border", "([II)I"⟩ : MethodName)) hown (mvT hZ (hw _ (List.mem_of_getElem? (i := 10) rfl))) (mvT hZ (hw _ (List.mem_of_getElem? (i := 11) rfl))) (mvT hZ (hw _ (List.mem_of_getElem? (i := 8) rfl))) (mvT hZ (hw _ (List.mem_of_getElem? (i := 12) rfl))) (by decide) (backOf (W := 1) (rm3 l Z a0 hw [] b_25 (0 : Int32) f5 T_36.heap n0 Z_36 f_36_0 (by decide) (by decide)) hZ (hw _ (List.mem_of_getElem? (i := 12) rfl)) (hw _ (List.mem_of_getElem? (i := 8) rfl)) (by decide) (by decide)) (g := (mkF m 173 #[.val (.int p1), .val (.int p2), .val (.int (2 : Int32)), .val (.ref b_25), .val (.ref b_31), .val (.ref r_36), .val (.int (1 : Int32))] [(.int (0 : Int32)), (.ref b_25), (.int ((own_out 2 fz) 0))])) rfl (by rw [hml]; rfl) (argsL := [(.ref b_25), (.int (0 : Int32))]) (rest := [(.int ((own_out 2 fz) 0))]) (lenOf pd_4 rfl) rfl (by show 2 * 0 + _ ≤ _; exact Nat.le_of_eq rfl) (hb hby at_173) (fun _ _ => ⟨rfl, rfl, (by decide : 3 + 0 ≤ _), (by decide : 9 + 0 ≤ _)⟩)
    dsimp only [Pt.U, Pt.locs, Pt.cells, Pt.slots] at X_39 l_39 y_39 z_39 st_39 hQ_39
    subst l_39 y_39 z_39
    obtain ⟨rfl, N_39q, e_39⟩ := hQ_39
    have N_39 := Fr.app N_36 N_39q
    obtain ⟨_, _, ⟨T_40, L_40, k_40, n_40⟩, -, X_40, ⟨Lc_40, hQ_40, l_40, y_40, z_40⟩, st_40⟩ := Jvm.LawKit.callS X_39 hx (y := (⟨"com/example/borderwork/borderwork/zarrays/ZArraysToBorderArrayPinLaw", "border", "([II)I"⟩ : MethodName)) hown (mvT hZ (hw _ (List.mem_of_getElem? (i := 10) rfl))) (mvT hZ (hw _ (List.mem_of_getElem? (i := 11) rfl))) (mvT hZ (hw _ (List.mem_of_getElem? (i := 8) rfl))) (mvT hZ (hw _ (List.mem_of_getElem? (i := 12) rfl))) (by decide) (backOf (W := 1) (rm3 l Z a0 hw [] b_25 (1 : Int32) f5 T_36.heap n0 Z_36 f_36_0 (by decide) (by decide)) hZ (hw _ (List.mem_of_getElem? (i := 12) rfl)) (hw _ (List.mem_of_getElem? (i := 8) rfl)) (by decide) (by decide)) (g := (mkF m 202 #[.val (.int p1), .val (.int p2), .val (.int (2 : Int32)), .val (.ref b_25), .val (.ref b_31), .val (.ref r_36), .val (.int (1 : Int32))] [(.int (1 : Int32)), (.ref b_25), (.int ((own_out 2 fz) 1))])) rfl (by rw [hml]; rfl) (argsL := [(.ref b_25), (.int (1 : Int32))]) (rest := [(.int ((own_out 2 fz) 1))]) (lenOf pd_4 rfl) rfl (by show 2 * 0 + _ ≤ _; exact Nat.le_of_eq rfl) (hb hby at_202) (fun _ _ => ⟨rfl, e_39, (by decide : 3 + 0 ≤ _), (by decide : 9 + 0 ≤ _)⟩)
    dsimp only [Pt.U, Pt.locs, Pt.cells, Pt.slots] at X_40 l_40 y_40 z_40 st_40 hQ_40
    subst l_40 y_40 z_40
    obtain ⟨rfl, N_40q, e_40⟩ := hQ_40
    have N_40 := Fr.app N_39 N_40q
    obtain ⟨fs, hr, hrun, hended, hW, hsame⟩ := X_40.leave (v := some (.int (1 : Int32))) (fun h => by rw [Bd.returns] at h; cases h)
    refine ⟨_, _, pr_1 _ ?_, hrun, hended, _, _, rfl, ?_, ⟨_, rfl⟩, hW, hsame.mono (by decide) (by decide)⟩
    · show Steps p.tables e below (s₁.setTop (mkF m 8 #[.val (.int p1), .val (.int p2), .val (.int (2 : Int32)), .unset, .unset, .unset, .unset] [])) _
      refine XS.iconst X0.here hx rfl (hb hby at_8) ?_
      show Steps p.tables e below (s₁.setTop (mkF m 9 #[.val (.int p1), .val (.int p2), .val (.int (2 : Int32)), .unset, .unset, .unset, .unset] [(.int (5 : Int32))])) _
      refine st_25 _ ?_
      show Steps p.tables e below (T_25.setTop (mkF m 11 #[.val (.int p1), .val (.int p2), .val (.int (2 : Int32)), .unset, .unset, .unset, .unset] [(.ref b_25)])) _
      refine XS.astoreN X_25.here hx rfl (hb hby at_11) rfl rfl (l' := #[.val (.int p1), .val (.int p2), .val (.int (2 : Int32)), .val (.ref b_25), .unset, .unset, .unset]) rfl ?_
      show Steps p.tables e below (T_25.setTop (mkF m 12 #[.val (.int p1), .val (.int p2), .val (.int (2 : Int32)), .val (.ref b_25), .unset, .unset, .unset] [])) _
      refine XS.aloadN X_25.here hx rfl (hb hby at_12) rfl rfl ?_
      show Steps p.tables e below (T_25.setTop (mkF m 13 #[.val (.int p1), .val (.int p2), .val (.int (2 : Int32)), .val (.ref b_25), .unset, .unset, .unset] [(.ref b_25)])) _
      refine XS.iconst X_25.here hx rfl (hb hby at_13) ?_
      show Steps p.tables e below (T_25.setTop (mkF m 14 #[.val (.int p1), .val (.int p2), .val (.int (2 : Int32)), .val (.ref b_25), .unset, .unset, .unset] [(.int (0 : Int32)), (.ref b_25)])) _
      refine XS.iloadN X_25.here hx rfl (hb hby at_14) rfl ?_
      show Steps p.tables e below (T_25.setTop (mkF m 15 #[.val (.int p1), .val (.int p2), .val (.int (2 : Int32)), .val (.ref b_25), .unset, .unset, .unset] [(.int p2), (.int (0 : Int32)), (.ref b_25)])) _
      refine XS.bipush X_25.here hx rfl (hb hby at_15) ?_
      show Steps p.tables e below (T_25.setTop (mkF m 17 #[.val (.int p1), .val (.int p2), .val (.int (2 : Int32)), .val (.ref b_25), .unset, .unset, .unset] [(.int (7 : Int32)), (.int p2), (.int (0 : Int32)), (.ref b_25)])) _
      refine XS.iand X_25.here hx rfl (hb hby at_17) rfl ?_
      show Steps p.tables e below (T_25.setTop (mkF m 18 #[.val (.int p1), .val (.int p2), .val (.int (2 : Int32)), .val (.ref b_25), .unset, .unset, .unset] [(.int (p2 &&& (7 : Int32))), (.int (0 : Int32)), (.ref b_25)])) _
      refine st_26 _ ?_
      show Steps p.tables e below (T_26.setTop (mkF m 19 #[.val (.int p1), .val (.int p2), .val (.int (2 : Int32)), .val (.ref b_25), .unset, .unset, .unset] [])) _
      refine XS.aloadN X_26.here hx rfl (hb hby at_19) rfl rfl ?_
      show Steps p.tables e below (T_26.setTop (mkF m 20 #[.val (.int p1), .val (.int p2), .val (.int (2 : Int32)), .val (.ref b_25), .unset, .unset, .unset] [(.ref b_25)])) _
      refine XS.iconst X_26.here hx rfl (hb hby at_20) ?_
      show Steps p.tables e below (T_26.setTop (mkF m 21 #[.val (.int p1), .val (.int p2), .val (.int (2 : Int32)), .val (.ref b_25), .unset, .unset, .unset] [(.int (1 : Int32)), (.ref b_25)])) _
      refine XS.iloadN X_26.here hx rfl (hb hby at_21) rfl ?_
      show Steps p.tables e below (T_26.setTop (mkF m 22 #[.val (.int p1), .val (.int p2), .val (.int (2 : Int32)), .val (.ref b_25), .unset, .unset, .unset] [(.int p2), (.int (1 : Int32)), (.ref b_25)])) _
      refine XS.iconst X_26.here hx rfl (hb hby at_22) ?_
      show Steps p.tables e below (T_26.setTop (mkF m 23 #[.val (.int p1), .val (.int p2), .val (.int (2 : Int32)), .val (.ref b_25), .unset, .unset, .unset] [(.int (3 : Int32)), (.int p2), (.int (1 : Int32)), (.ref b_25)])) _
      refine XS.iushr X_26.here hx rfl (hb hby at_23) rfl ?_
      show Steps p.tables e below (T_26.setTop (mkF m 24 #[.val (.int p1), .val (.int p2), .val (.int (2 : Int32)), .val (.ref b_25), .unset, .unset, .unset] [(.int ((p2.toUInt32 >>> ((3 : Int32) &&& 31).toUInt32).toInt32)), (.int (1 : Int32)), (.ref b_25)])) _
      refine XS.bipush X_26.here hx rfl (hb hby at_24) ?_
      show Steps p.tables e below (T_26.setTop (mkF m 26 #[.val (.int p1), .val (.int p2), .val (.int (2 : Int32)), .val (.ref b_25), .unset, .unset, .unset] [(.int (7 : Int32)), (.int ((p2.toUInt32 >>> ((3 : Int32) &&& 31).toUInt32).toInt32)), (.int (1 : Int32)), (.ref b_25)])) _
      refine XS.iand X_26.here hx rfl (hb hby at_26) rfl ?_
      show Steps p.tables e below (T_26.setTop (mkF m 27 #[.val (.int p1), .val (.int p2), .val (.int (2 : Int32)), .val (.ref b_25), .unset, .unset, .unset] [(.int (((p2.toUInt32 >>> ((3 : Int32) &&& 31).toUInt32).toInt32) &&& (7 : Int32))), (.int (1 : Int32)), (.ref b_25)])) _
      refine st_27 _ ?_
      show Steps p.tables e below (T_27.setTop (mkF m 28 #[.val (.int p1), .val (.int p2), .val (.int (2 : Int32)), .val (.ref b_25), .unset, .unset, .unset] [])) _
      refine XS.aloadN X_27.here hx rfl (hb hby at_28) rfl rfl ?_
      show Steps p.tables e below (T_27.setTop (mkF m 29 #[.val (.int p1), .val (.int p2), .val (.int (2 : Int32)), .val (.ref b_25), .unset, .unset, .unset] [(.ref b_25)])) _
      refine XS.iconst X_27.here hx rfl (hb hby at_29) ?_
      show Steps p.tables e below (T_27.setTop (mkF m 30 #[.val (.int p1), .val (.int p2), .val (.int (2 : Int32)), .val (.ref b_25), .unset, .unset, .unset] [(.int (2 : Int32)), (.ref b_25)])) _
      refine XS.iloadN X_27.here hx rfl (hb hby at_30) rfl ?_
      show Steps p.tables e below (T_27.setTop (mkF m 31 #[.val (.int p1), .val (.int p2), .val (.int (2 : Int32)), .val (.ref b_25), .unset, .unset, .unset] [(.int p2), (.int (2 : Int32)), (.ref b_25)])) _
      refine XS.bipush X_27.here hx rfl (hb hby at_31) ?_
      show Steps p.tables e below (T_27.setTop (mkF m 33 #[.val (.int p1), .val (.int p2), .val (.int (2 : Int32)), .val (.ref b_25), .unset, .unset, .unset] [(.int (6 : Int32)), (.int p2), (.int (2 : Int32)), (.ref b_25)])) _
      refine XS.iushr X_27.here hx rfl (hb hby at_33) rfl ?_
      show Steps p.tables e below (T_27.setTop (mkF m 34 #[.val (.int p1), .val (.int p2), .val (.int (2 : Int32)), .val (.ref b_25), .unset, .unset, .unset] [(.int ((p2.toUInt32 >>> ((6 : Int32) &&& 31).toUInt32).toInt32)), (.int (2 : Int32)), (.ref b_25)])) _
      refine XS.bipush X_27.here hx rfl (hb hby at_34) ?_
      show Steps p.tables e below (T_27.setTop (mkF m 36 #[.val (.int p1), .val (.int p2), .val (.int (2 : Int32)), .val (.ref b_25), .unset, .unset, .unset] [(.int (7 : Int32)), (.int ((p2.toUInt32 >>> ((6 : Int32) &&& 31).toUInt32).toInt32)), (.int (2 : Int32)), (.ref b_25)])) _
      refine XS.iand X_27.here hx rfl (hb hby at_36) rfl ?_
      show Steps p.tables e below (T_27.setTop (mkF m 37 #[.val (.int p1), .val (.int p2), .val (.int (2 : Int32)), .val (.ref b_25), .unset, .unset, .unset] [(.int (((p2.toUInt32 >>> ((6 : Int32) &&& 31).toUInt32).toInt32) &&& (7 : Int32))), (.int (2 : Int32)), (.ref b_25)])) _
      refine st_28 _ ?_
      show Steps p.tables e below (T_28.setTop (mkF m 38 #[.val (.int p1), .val (.int p2), .val (.int (2 : Int32)), .val (.ref b_25), .unset, .unset, .unset] [])) _
      refine XS.aloadN X_28.here hx rfl (hb hby at_38) rfl rfl ?_
      show Steps p.tables e below (T_28.setTop (mkF m 39 #[.val (.int p1), .val (.int p2), .val (.int (2 : Int32)), .val (.ref b_25), .unset, .unset, .unset] [(.ref b_25)])) _
      refine XS.iconst X_28.here hx rfl (hb hby at_39) ?_
      show Steps p.tables e below (T_28.setTop (mkF m 40 #[.val (.int p1), .val (.int p2), .val (.int (2 : Int32)), .val (.ref b_25), .unset, .unset, .unset] [(.int (3 : Int32)), (.ref b_25)])) _
      refine XS.iloadN X_28.here hx rfl (hb hby at_40) rfl ?_
      show Steps p.tables e below (T_28.setTop (mkF m 41 #[.val (.int p1), .val (.int p2), .val (.int (2 : Int32)), .val (.ref b_25), .unset, .unset, .unset] [(.int p2), (.int (3 : Int32)), (.ref b_25)])) _
      refine XS.bipush X_28.here hx rfl (hb hby at_41) ?_
      show Steps p.tables e below (T_28.setTop (mkF m 43 #[.val (.int p1), .val (.int p2), .val (.int (2 : Int32)), .val (.ref b_25), .unset, .unset, .unset] [(.int (9 : Int32)), (.int p2), (.int (3 : Int32)), (.ref b_25)])) _
      refine XS.iushr X_28.here hx rfl (hb hby at_43) rfl ?_
      show Steps p.tables e below (T_28.setTop (mkF m 44 #[.val (.int p1), .val (.int p2), .val (.int (2 : Int32)), .val (.ref b_25), .unset, .unset, .unset] [(.int ((p2.toUInt32 >>> ((9 : Int32) &&& 31).toUInt32).toInt32)), (.int (3 : Int32)), (.ref b_25)])) _
      refine XS.bipush X_28.here hx rfl (hb hby at_44) ?_
      show Steps p.tables e below (T_28.setTop (mkF m 46 #[.val (.int p1), .val (.int p2), .val (.int (2 : Int32)), .val (.ref b_25), .unset, .unset, .unset] [(.int (7 : Int32)), (.int ((p2.toUInt32 >>> ((9 : Int32) &&& 31).toUInt32).toInt32)), (.int (3 : Int32)), (.ref b_25)])) _
      refine XS.iand X_28.here hx rfl (hb hby at_46) rfl ?_
      show Steps p.tables e below (T_28.setTop (mkF m 47 #[.val (.int p1), .val (.int p2), .val (.int (2 : Int32)), .val (.ref b_25), .unset, .unset, .unset] [(.int (((p2.toUInt32 >>> ((9 : Int32) &&& 31).toUInt32).toInt32) &&& (7 : Int32))), (.int (3 : Int32)), (.ref b_25)])) _
      refine st_29 _ ?_
      show Steps p.tables e below (T_29.setTop (mkF m 48 #[.val (.int p1), .val (.int p2), .val (.int (2 : Int32)), .val (.ref b_25), .unset, .unset, .unset] [])) _
      refine XS.aloadN X_29.here hx rfl (hb hby at_48) rfl rfl ?_
      show Steps p.tables e below (T_29.setTop (mkF m 49 #[.val (.int p1), .val (.int p2), .val (.int (2 : Int32)), .val (.ref b_25), .unset, .unset, .unset] [(.ref b_25)])) _
      refine XS.iconst X_29.here hx rfl (hb hby at_49) ?_
      show Steps p.tables e below (T_29.setTop (mkF m 50 #[.val (.int p1), .val (.int p2), .val (.int (2 : Int32)), .val (.ref b_25), .unset, .unset, .unset] [(.int (4 : Int32)), (.ref b_25)])) _
      refine XS.iloadN X_29.here hx rfl (hb hby at_50) rfl ?_
      show Steps p.tables e below (T_29.setTop (mkF m 51 #[.val (.int p1), .val (.int p2), .val (.int (2 : Int32)), .val (.ref b_25), .unset, .unset, .unset] [(.int p2), (.int (4 : Int32)), (.ref b_25)])) _
      refine XS.bipush X_29.here hx rfl (hb hby at_51) ?_
      show Steps p.tables e below (T_29.setTop (mkF m 53 #[.val (.int p1), .val (.int p2), .val (.int (2 : Int32)), .val (.ref b_25), .unset, .unset, .unset] [(.int (12 : Int32)), (.int p2), (.int (4 : Int32)), (.ref b_25)])) _
      refine XS.iushr X_29.here hx rfl (hb hby at_53) rfl ?_
      show Steps p.tables e below (T_29.setTop (mkF m 54 #[.val (.int p1), .val (.int p2), .val (.int (2 : Int32)), .val (.ref b_25), .unset, .unset, .unset] [(.int ((p2.toUInt32 >>> ((12 : Int32) &&& 31).toUInt32).toInt32)), (.int (4 : Int32)), (.ref b_25)])) _
      refine XS.bipush X_29.here hx rfl (hb hby at_54) ?_
      show Steps p.tables e below (T_29.setTop (mkF m 56 #[.val (.int p1), .val (.int p2), .val (.int (2 : Int32)), .val (.ref b_25), .unset, .unset, .unset] [(.int (7 : Int32)), (.int ((p2.toUInt32 >>> ((12 : Int32) &&& 31).toUInt32).toInt32)), (.int (4 : Int32)), (.ref b_25)])) _
      refine XS.iand X_29.here hx rfl (hb hby at_56) rfl ?_
      show Steps p.tables e below (T_29.setTop (mkF m 57 #[.val (.int p1), .val (.int p2), .val (.int (2 : Int32)), .val (.ref b_25), .unset, .unset, .unset] [(.int (((p2.toUInt32 >>> ((12 : Int32) &&& 31).toUInt32).toInt32) &&& (7 : Int32))), (.int (4 : Int32)), (.ref b_25)])) _
      refine st_30 _ ?_
      show Steps p.tables e below (T_30.setTop (mkF m 58 #[.val (.int p1), .val (.int p2), .val (.int (2 : Int32)), .val (.ref b_25), .unset, .unset, .unset] [])) _
      refine XS.iloadN X_30.here hx rfl (hb hby at_58) rfl ?_
      show Steps p.tables e below (T_30.setTop (mkF m 59 #[.val (.int p1), .val (.int p2), .val (.int (2 : Int32)), .val (.ref b_25), .unset, .unset, .unset] [(.int (2 : Int32))])) _
      refine st_31 _ ?_
      show Steps p.tables e below (T_31.setTop (mkF m 61 #[.val (.int p1), .val (.int p2), .val (.int (2 : Int32)), .val (.ref b_25), .unset, .unset, .unset] [(.ref b_31)])) _
      refine XS.astore X_31.here hx rfl (hb hby at_61) rfl rfl (l' := #[.val (.int p1), .val (.int p2), .val (.int (2 : Int32)), .val (.ref b_25), .val (.ref b_31), .unset, .unset]) rfl ?_
      show Steps p.tables e below (T_31.setTop (mkF m 63 #[.val (.int p1), .val (.int p2), .val (.int (2 : Int32)), .val (.ref b_25), .val (.ref b_31), .unset, .unset] [])) _
      refine XS.iloadN X_31.here hx rfl (hb hby at_63) rfl ?_
      show Steps p.tables e below (T_31.setTop (mkF m 64 #[.val (.int p1), .val (.int p2), .val (.int (2 : Int32)), .val (.ref b_25), .val (.ref b_31), .unset, .unset] [(.int (2 : Int32))])) _
      refine XS.ifNo X_31.here hx rfl (hb hby at_64) rfl ((if0 _ _).trans (tlt (by decide : (0 : Int32) < (2 : Int32))).2.2.2) ?_
      show Steps p.tables e below (T_31.setTop (mkF m 67 #[.val (.int p1), .val (.int p2), .val (.int (2 : Int32)), .val (.ref b_25), .val (.ref b_31), .unset, .unset] [])) _
      refine XS.aload X_31.here hx rfl (hb hby at_67) rfl rfl ?_
      show Steps p.tables e below (T_31.setTop (mkF m 69 #[.val (.int p1), .val (.int p2), .val (.int (2 : Int32)), .val (.ref b_25), .val (.ref b_31), .unset, .unset] [(.ref b_31)])) _
      refine XS.iconst X_31.here hx rfl (hb hby at_69) ?_
      show Steps p.tables e below (T_31.setTop (mkF m 70 #[.val (.int p1), .val (.int p2), .val (.int (2 : Int32)), .val (.ref b_25), .val (.ref b_31), .unset, .unset] [(.int (0 : Int32)), (.ref b_31)])) _
      refine XS.aloadN X_31.here hx rfl (hb hby at_70) rfl rfl ?_
      show Steps p.tables e below (T_31.setTop (mkF m 71 #[.val (.int p1), .val (.int p2), .val (.int (2 : Int32)), .val (.ref b_25), .val (.ref b_31), .unset, .unset] [(.ref b_25), (.int (0 : Int32)), (.ref b_31)])) _
      refine XS.iloadN X_31.here hx rfl (hb hby at_71) rfl ?_
      show Steps p.tables e below (T_31.setTop (mkF m 72 #[.val (.int p1), .val (.int p2), .val (.int (2 : Int32)), .val (.ref b_25), .val (.ref b_31), .unset, .unset] [(.int (2 : Int32)), (.ref b_25), (.int (0 : Int32)), (.ref b_31)])) _
      refine XS.iconst X_31.here hx rfl (hb hby at_72) ?_
      show Steps p.tables e below (T_31.setTop (mkF m 73 #[.val (.int p1), .val (.int p2), .val (.int (2 : Int32)), .val (.ref b_25), .val (.ref b_31), .unset, .unset] [(.int (0 : Int32)), (.int (2 : Int32)), (.ref b_25), (.int (0 : Int32)), (.ref b_31)])) _
      refine st_32 _ ?_
      show Steps p.tables e below (T_32.setTop (mkF m 76 #[.val (.int p1), .val (.int p2), .val (.int (2 : Int32)), .val (.ref b_25), .val (.ref b_31), .unset, .unset] [(.int (own_lcp (2 : Int32) (0 : Int32) f5)), (.int (0 : Int32)), (.ref b_31)])) _
      refine st_33 _ ?_
      show Steps p.tables e below (T_33.setTop (mkF m 77 #[.val (.int p1), .val (.int p2), .val (.int (2 : Int32)), .val (.ref b_25), .val (.ref b_31), .unset, .unset] [])) _
      refine XS.iloadN X_33.here hx rfl (hb hby at_77) rfl ?_
      show Steps p.tables e below (T_33.setTop (mkF m 78 #[.val (.int p1), .val (.int p2), .val (.int (2 : Int32)), .val (.ref b_25), .val (.ref b_31), .unset, .unset] [(.int (2 : Int32))])) _
      refine XS.iconst X_33.here hx rfl (hb hby at_78) ?_
      show Steps p.tables e below (T_33.setTop (mkF m 79 #[.val (.int p1), .val (.int p2), .val (.int (2 : Int32)), .val (.ref b_25), .val (.ref b_31), .unset, .unset] [(.int (1 : Int32)), (.int (2 : Int32))])) _
      refine XS.icmpNo X_33.here hx rfl (hb hby at_79) rfl (tlt (by decide : (1 : Int32) < (2 : Int32))).2.2.2 ?_
      show Steps p.tables e below (T_33.setTop (mkF m 82 #[.val (.int p1), .val (.int p2), .val (.int (2 : Int32)), .val (.ref b_25), .val (.ref b_31), .unset, .unset] [])) _
      refine XS.aload X_33.here hx rfl (hb hby at_82) rfl rfl ?_
      show Steps p.tables e below (T_33.setTop (mkF m 84 #[.val (.int p1), .val (.int p2), .val (.int (2 : Int32)), .val (.ref b_25), .val (.ref b_31), .unset, .unset] [(.ref b_31)])) _
      refine XS.iconst X_33.here hx rfl (hb hby at_84) ?_
      show Steps p.tables e below (T_33.setTop (mkF m 85 #[.val (.int p1), .val (.int p2), .val (.int (2 : Int32)), .val (.ref b_25), .val (.ref b_31), .unset, .unset] [(.int (1 : Int32)), (.ref b_31)])) _
      refine XS.aloadN X_33.here hx rfl (hb hby at_85) rfl rfl ?_
      show Steps p.tables e below (T_33.setTop (mkF m 86 #[.val (.int p1), .val (.int p2), .val (.int (2 : Int32)), .val (.ref b_25), .val (.ref b_31), .unset, .unset] [(.ref b_25), (.int (1 : Int32)), (.ref b_31)])) _
      refine XS.iloadN X_33.here hx rfl (hb hby at_86) rfl ?_
      show Steps p.tables e below (T_33.setTop (mkF m 87 #[.val (.int p1), .val (.int p2), .val (.int (2 : Int32)), .val (.ref b_25), .val (.ref b_31), .unset, .unset] [(.int (2 : Int32)), (.ref b_25), (.int (1 : Int32)), (.ref b_31)])) _
      refine XS.iconst X_33.here hx rfl (hb hby at_87) ?_
      show Steps p.tables e below (T_33.setTop (mkF m 88 #[.val (.int p1), .val (.int p2), .val (.int (2 : Int32)), .val (.ref b_25), .val (.ref b_31), .unset, .unset] [(.int (1 : Int32)), (.int (2 : Int32)), (.ref b_25), (.int (1 : Int32)), (.ref b_31)])) _
      refine st_34 _ ?_
      show Steps p.tables e below (T_34.setTop (mkF m 91 #[.val (.int p1), .val (.int p2), .val (.int (2 : Int32)), .val (.ref b_25), .val (.ref b_31), .unset, .unset] [(.int (own_lcp (2 : Int32) (1 : Int32) f5)), (.int (1 : Int32)), (.ref b_31)])) _
      refine st_35 _ ?_
      show Steps p.tables e below (T_35.setTop (mkF m 92 #[.val (.int p1), .val (.int p2), .val (.int (2 : Int32)), .val (.ref b_25), .val (.ref b_31), .unset, .unset] [])) _
      refine XS.iloadN X_35.here hx rfl (hb hby at_92) rfl ?_
      show Steps p.tables e below (T_35.setTop (mkF m 93 #[.val (.int p1), .val (.int p2), .val (.int (2 : Int32)), .val (.ref b_25), .val (.ref b_31), .unset, .unset] [(.int (2 : Int32))])) _
      refine XS.iconst X_35.here hx rfl (hb hby at_93) ?_
      show Steps p.tables e below (T_35.setTop (mkF m 94 #[.val (.int p1), .val (.int p2), .val (.int (2 : Int32)), .val (.ref b_25), .val (.ref b_31), .unset, .unset] [(.int (2 : Int32)), (.int (2 : Int32))])) _
      refine XS.icmpYes X_35.here hx rfl (pc0 := 94) (pc' := 107) rfl (hb hby at_94) rfl (flt (by decide : ¬ ((2 : Int32) < (2 : Int32)))).2.2.2 (by decide) (by decide) ?_
      show Steps p.tables e below (T_35.setTop (mkF m 107 #[.val (.int p1), .val (.int p2), .val (.int (2 : Int32)), .val (.ref b_25), .val (.ref b_31), .unset, .unset] [])) _
      refine XS.iloadN X_35.here hx rfl (hb hby at_107) rfl ?_
      show Steps p.tables e below (T_35.setTop (mkF m 108 #[.val (.int p1), .val (.int p2), .val (.int (2 : Int32)), .val (.ref b_25), .val (.ref b_31), .unset, .unset] [(.int (2 : Int32))])) _
      refine XS.iconst X_35.here hx rfl (hb hby at_108) ?_
      show Steps p.tables e below (T_35.setTop (mkF m 109 #[.val (.int p1), .val (.int p2), .val (.int (2 : Int32)), .val (.ref b_25), .val (.ref b_31), .unset, .unset] [(.int (3 : Int32)), (.int (2 : Int32))])) _
      refine XS.icmpYes X_35.here hx rfl (pc0 := 109) (pc' := 122) rfl (hb hby at_109) rfl (flt (by decide : ¬ ((3 : Int32) < (2 : Int32)))).2.2.2 (by decide) (by decide) ?_
      show Steps p.tables e below (T_35.setTop (mkF m 122 #[.val (.int p1), .val (.int p2), .val (.int (2 : Int32)), .val (.ref b_25), .val (.ref b_31), .unset, .unset] [])) _
      refine XS.iloadN X_35.here hx rfl (hb hby at_122) rfl ?_
      show Steps p.tables e below (T_35.setTop (mkF m 123 #[.val (.int p1), .val (.int p2), .val (.int (2 : Int32)), .val (.ref b_25), .val (.ref b_31), .unset, .unset] [(.int (2 : Int32))])) _
      refine XS.iconst X_35.here hx rfl (hb hby at_123) ?_
      show Steps p.tables e below (T_35.setTop (mkF m 124 #[.val (.int p1), .val (.int p2), .val (.int (2 : Int32)), .val (.ref b_25), .val (.ref b_31), .unset, .unset] [(.int (4 : Int32)), (.int (2 : Int32))])) _
      refine XS.icmpYes X_35.here hx rfl (pc0 := 124) (pc' := 137) rfl (hb hby at_124) rfl (flt (by decide : ¬ ((4 : Int32) < (2 : Int32)))).2.2.2 (by decide) (by decide) ?_
      show Steps p.tables e below (T_35.setTop (mkF m 137 #[.val (.int p1), .val (.int p2), .val (.int (2 : Int32)), .val (.ref b_25), .val (.ref b_31), .unset, .unset] [])) _
      refine XS.aload X_35.here hx rfl (hb hby at_137) rfl rfl ?_
      show Steps p.tables e below (T_35.setTop (mkF m 139 #[.val (.int p1), .val (.int p2), .val (.int (2 : Int32)), .val (.ref b_25), .val (.ref b_31), .unset, .unset] [(.ref b_31)])) _
      refine st_36 _ ?_
      show Steps p.tables e below (T_36.setTop (mkF m 142 #[.val (.int p1), .val (.int p2), .val (.int (2 : Int32)), .val (.ref b_25), .val (.ref b_31), .unset, .unset] [(.ref r_36)])) _
      refine XS.astore X_36.here hx rfl (hb hby at_142) rfl rfl (l' := #[.val (.int p1), .val (.int p2), .val (.int (2 : Int32)), .val (.ref b_25), .val (.ref b_31), .val (.ref r_36), .unset]) rfl ?_
      show Steps p.tables e below (T_36.setTop (mkF m 144 #[.val (.int p1), .val (.int p2), .val (.int (2 : Int32)), .val (.ref b_25), .val (.ref b_31), .val (.ref r_36), .unset] [])) _
      refine XS.aload X_36.here hx rfl (hb hby at_144) rfl rfl ?_
      show Steps p.tables e below (T_36.setTop (mkF m 146 #[.val (.int p1), .val (.int p2), .val (.int (2 : Int32)), .val (.ref b_25), .val (.ref b_31), .val (.ref r_36), .unset] [(.ref r_36)])) _
      refine X_36.arraylength hx Ar_38.1 (State.isArrayOf_alike hZ.alike Ar_38.2.1) (g := (mkF m 146 #[.val (.int p1), .val (.int p2), .val (.int (2 : Int32)), .val (.ref b_25), .val (.ref b_31), .val (.ref r_36), .unset] [(.ref r_36)])) rfl rfl (hb hby at_146) _ ?_
      rw [Sz_38]
      show Steps p.tables e below (T_36.setTop (mkF m 147 #[.val (.int p1), .val (.int p2), .val (.int (2 : Int32)), .val (.ref b_25), .val (.ref b_31), .val (.ref r_36), .unset] [(.int (2 : Int32))])) _
      refine XS.iloadN X_36.here hx rfl (hb hby at_147) rfl ?_
      show Steps p.tables e below (T_36.setTop (mkF m 148 #[.val (.int p1), .val (.int p2), .val (.int (2 : Int32)), .val (.ref b_25), .val (.ref b_31), .val (.ref r_36), .unset] [(.int (2 : Int32)), (.int (2 : Int32))])) _
      refine XS.icmpNo X_36.here hx rfl (hb hby at_148) rfl (teq (by decide : (2 : Int32) = (2 : Int32))).2 ?_
      show Steps p.tables e below (T_36.setTop (mkF m 151 #[.val (.int p1), .val (.int p2), .val (.int (2 : Int32)), .val (.ref b_25), .val (.ref b_31), .val (.ref r_36), .unset] [])) _
      refine XS.iconst X_36.here hx rfl (hb hby at_151) ?_
      show Steps p.tables e below (T_36.setTop (mkF m 152 #[.val (.int p1), .val (.int p2), .val (.int (2 : Int32)), .val (.ref b_25), .val (.ref b_31), .val (.ref r_36), .unset] [(.int (1 : Int32))])) _
      refine XS.goto X_36.here hx rfl (pc0 := 152) (pc' := 156) rfl (hb hby at_152) (by decide) (by decide) ?_
      show Steps p.tables e below (T_36.setTop (mkF m 156 #[.val (.int p1), .val (.int p2), .val (.int (2 : Int32)), .val (.ref b_25), .val (.ref b_31), .val (.ref r_36), .unset] [(.int (1 : Int32))])) _
      refine XS.istore X_36.here hx rfl (hb hby at_156) rfl (l' := #[.val (.int p1), .val (.int p2), .val (.int (2 : Int32)), .val (.ref b_25), .val (.ref b_31), .val (.ref r_36), .val (.int (1 : Int32))]) rfl ?_
      show Steps p.tables e below (T_36.setTop (mkF m 158 #[.val (.int p1), .val (.int p2), .val (.int (2 : Int32)), .val (.ref b_25), .val (.ref b_31), .val (.ref r_36), .val (.int (1 : Int32))] [])) _
      refine XS.iloadN X_36.here hx rfl (hb hby at_158) rfl ?_
      show Steps p.tables e below (T_36.setTop (mkF m 159 #[.val (.int p1), .val (.int p2), .val (.int (2 : Int32)), .val (.ref b_25), .val (.ref b_31), .val (.ref r_36), .val (.int (1 : Int32))] [(.int (2 : Int32))])) _
      refine XS.ifNo X_36.here hx rfl (hb hby at_159) rfl ((if0 _ _).trans (tlt (by decide : (0 : Int32) < (2 : Int32))).2.2.2) ?_
      show Steps p.tables e below (T_36.setTop (mkF m 162 #[.val (.int p1), .val (.int p2), .val (.int (2 : Int32)), .val (.ref b_25), .val (.ref b_31), .val (.ref r_36), .val (.int (1 : Int32))] [])) _
      refine XS.iload X_36.here hx rfl (hb hby at_162) rfl ?_
      show Steps p.tables e below (T_36.setTop (mkF m 164 #[.val (.int p1), .val (.int p2), .val (.int (2 : Int32)), .val (.ref b_25), .val (.ref b_31), .val (.ref r_36), .val (.int (1 : Int32))] [(.int (1 : Int32))])) _
      refine XS.ifNo X_36.here hx rfl (hb hby at_164) rfl ((if0 _ _).trans (feq (by decide : ¬ ((1 : Int32) = (0 : Int32)))).1) ?_
      show Steps p.tables e below (T_36.setTop (mkF m 167 #[.val (.int p1), .val (.int p2), .val (.int (2 : Int32)), .val (.ref b_25), .val (.ref b_31), .val (.ref r_36), .val (.int (1 : Int32))] [])) _
      refine XS.aload X_36.here hx rfl (hb hby at_167) rfl rfl ?_
      show Steps p.tables e below (T_36.setTop (mkF m 169 #[.val (.int p1), .val (.int p2), .val (.int (2 : Int32)), .val (.ref b_25), .val (.ref b_31), .val (.ref r_36), .val (.int (1 : Int32))] [(.ref r_36)])) _
      refine XS.iconst X_36.here hx rfl (hb hby at_169) ?_
      show Steps p.tables e below (T_36.setTop (mkF m 170 #[.val (.int p1), .val (.int p2), .val (.int (2 : Int32)), .val (.ref b_25), .val (.ref b_31), .val (.ref r_36), .val (.int (1 : Int32))] [(.int (0 : Int32)), (.ref r_36)])) _
      refine X_36.iaload hx (j := (0 : Int32)) (v := (.int ((own_out 2 fz) 0))) Ar_38.1 (State.isArrayOf_alike hZ.alike Ar_38.2.1) Ar_38.2.2 (own_inb Sz_38 (show ¬ ((0 : Int32) < 0 ∨ 2 ≤ ((0 : Int32)).toNatClampNeg) from (by decide))) (by have q := At_38 _ (own_ltn (show ¬ ((0 : Int32) < 0 ∨ 2 ≤ ((0 : Int32)).toNatClampNeg) from (by decide))); rw [show ((0 : Int32)).toNatClampNeg = 0 from by decide] at q ⊢; exact q) (g := (mkF m 170 #[.val (.int p1), .val (.int p2), .val (.int (2 : Int32)), .val (.ref b_25), .val (.ref b_31), .val (.ref r_36), .val (.int (1 : Int32))] [(.int (0 : Int32)), (.ref r_36)])) rfl rfl (hb hby at_170) _ ?_
      show Steps p.tables e below (T_36.setTop (mkF m 171 #[.val (.int p1), .val (.int p2), .val (.int (2 : Int32)), .val (.ref b_25), .val (.ref b_31), .val (.ref r_36), .val (.int (1 : Int32))] [(.int ((own_out 2 fz) 0))])) _
      refine XS.aloadN X_36.here hx rfl (hb hby at_171) rfl rfl ?_
      show Steps p.tables e below (T_36.setTop (mkF m 172 #[.val (.int p1), .val (.int p2), .val (.int (2 : Int32)), .val (.ref b_25), .val (.ref b_31), .val (.ref r_36), .val (.int (1 : Int32))] [(.ref b_25), (.int ((own_out 2 fz) 0))])) _
      refine XS.iconst X_36.here hx rfl (hb hby at_172) ?_
      show Steps p.tables e below (T_36.setTop (mkF m 173 #[.val (.int p1), .val (.int p2), .val (.int (2 : Int32)), .val (.ref b_25), .val (.ref b_31), .val (.ref r_36), .val (.int (1 : Int32))] [(.int (0 : Int32)), (.ref b_25), (.int ((own_out 2 fz) 0))])) _
      refine st_39 _ ?_
      show Steps p.tables e below (T_39.setTop (mkF m 176 #[.val (.int p1), .val (.int p2), .val (.int (2 : Int32)), .val (.ref b_25), .val (.ref b_31), .val (.ref r_36), .val (.int (1 : Int32))] [(.int (own_border (0 : Int32) f5)), (.int ((own_out 2 fz) 0))])) _
      refine XS.icmpNo X_39.here hx rfl (hb hby at_176) rfl (teq (own_good2_0 f5 fz ht5 z_1 : ((own_out 2 fz) 0) = (own_border (0 : Int32) f5))).2 ?_
      show Steps p.tables e below (T_39.setTop (mkF m 179 #[.val (.int p1), .val (.int p2), .val (.int (2 : Int32)), .val (.ref b_25), .val (.ref b_31), .val (.ref r_36), .val (.int (1 : Int32))] [])) _
      refine XS.iconst X_39.here hx rfl (hb hby at_179) ?_
      show Steps p.tables e below (T_39.setTop (mkF m 180 #[.val (.int p1), .val (.int p2), .val (.int (2 : Int32)), .val (.ref b_25), .val (.ref b_31), .val (.ref r_36), .val (.int (1 : Int32))] [(.int (1 : Int32))])) _
      refine XS.goto X_39.here hx rfl (pc0 := 180) (pc' := 184) rfl (hb hby at_180) (by decide) (by decide) ?_
      show Steps p.tables e below (T_39.setTop (mkF m 184 #[.val (.int p1), .val (.int p2), .val (.int (2 : Int32)), .val (.ref b_25), .val (.ref b_31), .val (.ref r_36), .val (.int (1 : Int32))] [(.int (1 : Int32))])) _
      refine XS.istore X_39.here hx rfl (hb hby at_184) rfl (l' := #[.val (.int p1), .val (.int p2), .val (.int (2 : Int32)), .val (.ref b_25), .val (.ref b_31), .val (.ref r_36), .val (.int (1 : Int32))]) rfl ?_
      show Steps p.tables e below (T_39.setTop (mkF m 186 #[.val (.int p1), .val (.int p2), .val (.int (2 : Int32)), .val (.ref b_25), .val (.ref b_31), .val (.ref r_36), .val (.int (1 : Int32))] [])) _
      refine XS.iloadN X_39.here hx rfl (hb hby at_186) rfl ?_
      show Steps p.tables e below (T_39.setTop (mkF m 187 #[.val (.int p1), .val (.int p2), .val (.int (2 : Int32)), .val (.ref b_25), .val (.ref b_31), .val (.ref r_36), .val (.int (1 : Int32))] [(.int (2 : Int32))])) _
      refine XS.iconst X_39.here hx rfl (hb hby at_187) ?_
      show Steps p.tables e below (T_39.setTop (mkF m 188 #[.val (.int p1), .val (.int p2), .val (.int (2 : Int32)), .val (.ref b_25), .val (.ref b_31), .val (.ref r_36), .val (.int (1 : Int32))] [(.int (1 : Int32)), (.int (2 : Int32))])) _
      refine XS.icmpNo X_39.here hx rfl (hb hby at_188) rfl (tlt (by decide : (1 : Int32) < (2 : Int32))).2.2.2 ?_
      show Steps p.tables e below (T_39.setTop (mkF m 191 #[.val (.int p1), .val (.int p2), .val (.int (2 : Int32)), .val (.ref b_25), .val (.ref b_31), .val (.ref r_36), .val (.int (1 : Int32))] [])) _
      refine XS.iload X_39.here hx rfl (hb hby at_191) rfl ?_
      show Steps p.tables e below (T_39.setTop (mkF m 193 #[.val (.int p1), .val (.int p2), .val (.int (2 : Int32)), .val (.ref b_25), .val (.ref b_31), .val (.ref r_36), .val (.int (1 : Int32))] [(.int (1 : Int32))])) _
      refine XS.ifNo X_39.here hx rfl (hb hby at_193) rfl ((if0 _ _).trans (feq (by decide : ¬ ((1 : Int32) = (0 : Int32)))).1) ?_
      show Steps p.tables e below (T_39.setTop (mkF m 196 #[.val (.int p1), .val (.int p2), .val (.int (2 : Int32)), .val (.ref b_25), .val (.ref b_31), .val (.ref r_36), .val (.int (1 : Int32))] [])) _
      refine XS.aload X_39.here hx rfl (hb hby at_196) rfl rfl ?_
      show Steps p.tables e below (T_39.setTop (mkF m 198 #[.val (.int p1), .val (.int p2), .val (.int (2 : Int32)), .val (.ref b_25), .val (.ref b_31), .val (.ref r_36), .val (.int (1 : Int32))] [(.ref r_36)])) _
      refine XS.iconst X_39.here hx rfl (hb hby at_198) ?_
      show Steps p.tables e below (T_39.setTop (mkF m 199 #[.val (.int p1), .val (.int p2), .val (.int (2 : Int32)), .val (.ref b_25), .val (.ref b_31), .val (.ref r_36), .val (.int (1 : Int32))] [(.int (1 : Int32)), (.ref r_36)])) _
      refine X_39.iaload hx (j := (1 : Int32)) (v := (.int ((own_out 2 fz) 1))) (by rw [e_39]; exact Ar_38.1) (State.isArrayOf_alike hZ.alike Ar_38.2.1) Ar_38.2.2 (own_inb Sz_38 (show ¬ ((1 : Int32) < 0 ∨ 2 ≤ ((1 : Int32)).toNatClampNeg) from (by decide))) (by have q := At_38 _ (own_ltn (show ¬ ((1 : Int32) < 0 ∨ 2 ≤ ((1 : Int32)).toNatClampNeg) from (by decide))); rw [show ((1 : Int32)).toNatClampNeg = 1 from by decide] at q ⊢; exact q) (g := (mkF m 199 #[.val (.int p1), .val (.int p2), .val (.int (2 : Int32)), .val (.ref b_25), .val (.ref b_31), .val (.ref r_36), .val (.int (1 : Int32))] [(.int (1 : Int32)), (.ref r_36)])) rfl rfl (hb hby at_199) _ ?_
      show Steps p.tables e below (T_39.setTop (mkF m 200 #[.val (.int p1), .val (.int p2), .val (.int (2 : Int32)), .val (.ref b_25), .val (.ref b_31), .val (.ref r_36), .val (.int (1 : Int32))] [(.int ((own_out 2 fz) 1))])) _
      refine XS.aloadN X_39.here hx rfl (hb hby at_200) rfl rfl ?_
      show Steps p.tables e below (T_39.setTop (mkF m 201 #[.val (.int p1), .val (.int p2), .val (.int (2 : Int32)), .val (.ref b_25), .val (.ref b_31), .val (.ref r_36), .val (.int (1 : Int32))] [(.ref b_25), (.int ((own_out 2 fz) 1))])) _
      refine XS.iconst X_39.here hx rfl (hb hby at_201) ?_
      show Steps p.tables e below (T_39.setTop (mkF m 202 #[.val (.int p1), .val (.int p2), .val (.int (2 : Int32)), .val (.ref b_25), .val (.ref b_31), .val (.ref r_36), .val (.int (1 : Int32))] [(.int (1 : Int32)), (.ref b_25), (.int ((own_out 2 fz) 1))])) _
      refine st_40 _ ?_
      show Steps p.tables e below (T_40.setTop (mkF m 205 #[.val (.int p1), .val (.int p2), .val (.int (2 : Int32)), .val (.ref b_25), .val (.ref b_31), .val (.ref r_36), .val (.int (1 : Int32))] [(.int (own_border (1 : Int32) f5)), (.int ((own_out 2 fz) 1))])) _
      refine XS.icmpNo X_40.here hx rfl (hb hby at_205) rfl (teq (own_good2_1 f5 fz ht5 z_1 : ((own_out 2 fz) 1) = (own_border (1 : Int32) f5))).2 ?_
      show Steps p.tables e below (T_40.setTop (mkF m 208 #[.val (.int p1), .val (.int p2), .val (.int (2 : Int32)), .val (.ref b_25), .val (.ref b_31), .val (.ref r_36), .val (.int (1 : Int32))] [])) _
      refine XS.iconst X_40.here hx rfl (hb hby at_208) ?_
      show Steps p.tables e below (T_40.setTop (mkF m 209 #[.val (.int p1), .val (.int p2), .val (.int (2 : Int32)), .val (.ref b_25), .val (.ref b_31), .val (.ref r_36), .val (.int (1 : Int32))] [(.int (1 : Int32))])) _
      refine XS.goto X_40.here hx rfl (pc0 := 209) (pc' := 213) rfl (hb hby at_209) (by decide) (by decide) ?_
      show Steps p.tables e below (T_40.setTop (mkF m 213 #[.val (.int p1), .val (.int p2), .val (.int (2 : Int32)), .val (.ref b_25), .val (.ref b_31), .val (.ref r_36), .val (.int (1 : Int32))] [(.int (1 : Int32))])) _
      refine XS.istore X_40.here hx rfl (hb hby at_213) rfl (l' := #[.val (.int p1), .val (.int p2), .val (.int (2 : Int32)), .val (.ref b_25), .val (.ref b_31), .val (.ref r_36), .val (.int (1 : Int32))]) rfl ?_
      show Steps p.tables e below (T_40.setTop (mkF m 215 #[.val (.int p1), .val (.int p2), .val (.int (2 : Int32)), .val (.ref b_25), .val (.ref b_31), .val (.ref r_36), .val (.int (1 : Int32))] [])) _
      refine XS.iloadN X_40.here hx rfl (hb hby at_215) rfl ?_
      show Steps p.tables e below (T_40.setTop (mkF m 216 #[.val (.int p1), .val (.int p2), .val (.int (2 : Int32)), .val (.ref b_25), .val (.ref b_31), .val (.ref r_36), .val (.int (1 : Int32))] [(.int (2 : Int32))])) _
      refine XS.iconst X_40.here hx rfl (hb hby at_216) ?_
      show Steps p.tables e below (T_40.setTop (mkF m 217 #[.val (.int p1), .val (.int p2), .val (.int (2 : Int32)), .val (.ref b_25), .val (.ref b_31), .val (.ref r_36), .val (.int (1 : Int32))] [(.int (2 : Int32)), (.int (2 : Int32))])) _
      refine XS.icmpYes X_40.here hx rfl (pc0 := 217) (pc' := 244) rfl (hb hby at_217) rfl (flt (by decide : ¬ ((2 : Int32) < (2 : Int32)))).2.2.2 (by decide) (by decide) ?_
      show Steps p.tables e below (T_40.setTop (mkF m 244 #[.val (.int p1), .val (.int p2), .val (.int (2 : Int32)), .val (.ref b_25), .val (.ref b_31), .val (.ref r_36), .val (.int (1 : Int32))] [])) _
      refine XS.iloadN X_40.here hx rfl (hb hby at_244) rfl ?_
      show Steps p.tables e below (T_40.setTop (mkF m 245 #[.val (.int p1), .val (.int p2), .val (.int (2 : Int32)), .val (.ref b_25), .val (.ref b_31), .val (.ref r_36), .val (.int (1 : Int32))] [(.int (2 : Int32))])) _
      refine XS.iconst X_40.here hx rfl (hb hby at_245) ?_
      show Steps p.tables e below (T_40.setTop (mkF m 246 #[.val (.int p1), .val (.int p2), .val (.int (2 : Int32)), .val (.ref b_25), .val (.ref b_31), .val (.ref r_36), .val (.int (1 : Int32))] [(.int (3 : Int32)), (.int (2 : Int32))])) _
      refine XS.icmpYes X_40.here hx rfl (pc0 := 246) (pc' := 273) rfl (hb hby at_246) rfl (flt (by decide : ¬ ((3 : Int32) < (2 : Int32)))).2.2.2 (by decide) (by decide) ?_
      show Steps p.tables e below (T_40.setTop (mkF m 273 #[.val (.int p1), .val (.int p2), .val (.int (2 : Int32)), .val (.ref b_25), .val (.ref b_31), .val (.ref r_36), .val (.int (1 : Int32))] [])) _
      refine XS.iloadN X_40.here hx rfl (hb hby at_273) rfl ?_
      show Steps p.tables e below (T_40.setTop (mkF m 274 #[.val (.int p1), .val (.int p2), .val (.int (2 : Int32)), .val (.ref b_25), .val (.ref b_31), .val (.ref r_36), .val (.int (1 : Int32))] [(.int (2 : Int32))])) _
      refine XS.iconst X_40.here hx rfl (hb hby at_274) ?_
      show Steps p.tables e below (T_40.setTop (mkF m 275 #[.val (.int p1), .val (.int p2), .val (.int (2 : Int32)), .val (.ref b_25), .val (.ref b_31), .val (.ref r_36), .val (.int (1 : Int32))] [(.int (4 : Int32)), (.int (2 : Int32))])) _
      refine XS.icmpYes X_40.here hx rfl (pc0 := 275) (pc' := 302) rfl (hb hby at_275) rfl (flt (by decide : ¬ ((4 : Int32) < (2 : Int32)))).2.2.2 (by decide) (by decide) ?_
      show Steps p.tables e below (T_40.setTop (mkF m 302 #[.val (.int p1), .val (.int p2), .val (.int (2 : Int32)), .val (.ref b_25), .val (.ref b_31), .val (.ref r_36), .val (.int (1 : Int32))] [])) _
      refine XS.iload X_40.here hx rfl (hb hby at_302) rfl ?_
      show Steps p.tables e below (T_40.setTop (mkF m 304 #[.val (.int p1), .val (.int p2), .val (.int (2 : Int32)), .val (.ref b_25), .val (.ref b_31), .val (.ref r_36), .val (.int (1 : Int32))] [(.int (1 : Int32))])) _
      exact retN X_40 hx (t := .boolean) Bd.returns (by simp) (hb hby at_304) hr
    · exact ⟨rfl, N_40⟩
  · obtain ⟨T_41, h_41, k_41, X_41, e_41, E_41, A_41, st_41⟩ := newP X0 hx hZ (hw _ (List.mem_of_getElem? (i := 1) rfl)) e0 (g := (mkF m 9 #[.val (.int p1), .val (.int p2), .val (.int (3 : Int32)), .unset, .unset, .unset, .unset] [(.int (5 : Int32))])) rfl (hb hby at_9) rfl (by decide) (cap := 5) (by decide) (by decide) (by decide) (by decide)
    obtain ⟨b_41, g_41⟩ : ∃ z, z = h0.size := ⟨_, rfl⟩
    rw [← g_41] at A_41 st_41
    have g_b_41 : n0 ≤ b_41 := Nat.le_trans Z0 (Nat.le_of_eq g_41.symm)
    have sz_b_41 : h0.size ≤ b_41 := Nat.le_trans ((Keep.refl h0 [])).1 (Nat.le_of_eq g_41.symm)
    have Z_41 : n0 ≤ h_41.size := Nat.le_trans Z0 E_41.1
    have K_41 : Keep h0 h_41 [] := (Keep.refl h0 []).ext E_41
    have fa_41 : own_arr .int Z h_41 b_41 5 (fun _ => 0) := own_arr.newI A_41 rfl
    have fo_42 := fa_41
    obtain ⟨cl_42, Ar_42, Sz_42, At_42⟩ := fo_42
    obtain ⟨T_42, h_42, X_42, e_42, W_42, st_42⟩ := stI X_41 hx hZ e_41 Ar_42 (j := (0 : Int32)) (own_inb Sz_42 (by decide)) (g := (mkF m 18 #[.val (.int p1), .val (.int p2), .val (.int (3 : Int32)), .val (.ref b_41), .unset, .unset, .unset] [(.int (p2 &&& (7 : Int32))), (.int (0 : Int32)), (.ref b_41)])) rfl rfl (hb hby at_18)
    have N_42 := Fr.snoc X_42 N0 g_b_41
    have fw_42 : own_arr .int Z h_42 b_41 5 (own_upd (fun _ => 0) 0 (p2 &&& (7 : Int32))) := own_arr.set Ar_42 Sz_42 At_42 W_42
    have Z_42 : n0 ≤ h_42.size := Nat.le_trans Z_41 (Keep.of_wr W_42).1
    have K_42 : Keep h0 h_42 [] := K_41.wr W_42 (Or.inr sz_b_41)
    have fo_43 := fw_42
    obtain ⟨cl_43, Ar_43, Sz_43, At_43⟩ := fo_43
    obtain ⟨T_43, h_43, X_43, e_43, W_43, st_43⟩ := stI X_42 hx hZ e_42 Ar_43 (j := (1 : Int32)) (own_inb Sz_43 (by decide)) (g := (mkF m 27 #[.val (.int p1), .val (.int p2), .val (.int (3 : Int32)), .val (.ref b_41), .unset, .unset, .unset] [(.int (((p2.toUInt32 >>> ((3 : Int32) &&& 31).toUInt32).toInt32) &&& (7 : Int32))), (.int (1 : Int32)), (.ref b_41)])) rfl rfl (hb hby at_27)
    have N_43 := Fr.snoc X_43 N_42 g_b_41
    have fw_43 : own_arr .int Z h_43 b_41 5 (own_upd (own_upd (fun _ => 0) 0 (p2 &&& (7 : Int32))) 1 (((p2.toUInt32 >>> ((3 : Int32) &&& 31).toUInt32).toInt32) &&& (7 : Int32))) := own_arr.set Ar_43 Sz_43 At_43 W_43
    have Z_43 : n0 ≤ h_43.size := Nat.le_trans Z_42 (Keep.of_wr W_43).1
    have K_43 : Keep h0 h_43 [] := K_42.wr W_43 (Or.inr sz_b_41)
    have fo_44 := fw_43
    obtain ⟨cl_44, Ar_44, Sz_44, At_44⟩ := fo_44
    obtain ⟨T_44, h_44, X_44, e_44, W_44, st_44⟩ := stI X_43 hx hZ e_43 Ar_44 (j := (2 : Int32)) (own_inb Sz_44 (by decide)) (g := (mkF m 37 #[.val (.int p1), .val (.int p2), .val (.int (3 : Int32)), .val (.ref b_41), .unset, .unset, .unset] [(.int (((p2.toUInt32 >>> ((6 : Int32) &&& 31).toUInt32).toInt32) &&& (7 : Int32))), (.int (2 : Int32)), (.ref b_41)])) rfl rfl (hb hby at_37)
    have N_44 := Fr.snoc X_44 N_43 g_b_41
    have fw_44 : own_arr .int Z h_44 b_41 5 (own_upd (own_upd (own_upd (fun _ => 0) 0 (p2 &&& (7 : Int32))) 1 (((p2.toUInt32 >>> ((3 : Int32) &&& 31).toUInt32).toInt32) &&& (7 : Int32))) 2 (((p2.toUInt32 >>> ((6 : Int32) &&& 31).toUInt32).toInt32) &&& (7 : Int32))) := own_arr.set Ar_44 Sz_44 At_44 W_44
    have Z_44 : n0 ≤ h_44.size := Nat.le_trans Z_43 (Keep.of_wr W_44).1
    have K_44 : Keep h0 h_44 [] := K_43.wr W_44 (Or.inr sz_b_41)
    have fo_45 := fw_44
    obtain ⟨cl_45, Ar_45, Sz_45, At_45⟩ := fo_45
    obtain ⟨T_45, h_45, X_45, e_45, W_45, st_45⟩ := stI X_44 hx hZ e_44 Ar_45 (j := (3 : Int32)) (own_inb Sz_45 (by decide)) (g := (mkF m 47 #[.val (.int p1), .val (.int p2), .val (.int (3 : Int32)), .val (.ref b_41), .unset, .unset, .unset] [(.int (((p2.toUInt32 >>> ((9 : Int32) &&& 31).toUInt32).toInt32) &&& (7 : Int32))), (.int (3 : Int32)), (.ref b_41)])) rfl rfl (hb hby at_47)
    have N_45 := Fr.snoc X_45 N_44 g_b_41
    have fw_45 : own_arr .int Z h_45 b_41 5 (own_upd (own_upd (own_upd (own_upd (fun _ => 0) 0 (p2 &&& (7 : Int32))) 1 (((p2.toUInt32 >>> ((3 : Int32) &&& 31).toUInt32).toInt32) &&& (7 : Int32))) 2 (((p2.toUInt32 >>> ((6 : Int32) &&& 31).toUInt32).toInt32) &&& (7 : Int32))) 3 (((p2.toUInt32 >>> ((9 : Int32) &&& 31).toUInt32).toInt32) &&& (7 : Int32))) := own_arr.set Ar_45 Sz_45 At_45 W_45
    have Z_45 : n0 ≤ h_45.size := Nat.le_trans Z_44 (Keep.of_wr W_45).1
    have K_45 : Keep h0 h_45 [] := K_44.wr W_45 (Or.inr sz_b_41)
    have fo_46 := fw_45
    obtain ⟨cl_46, Ar_46, Sz_46, At_46⟩ := fo_46
    obtain ⟨T_46, h_46, X_46, e_46, W_46, st_46⟩ := stI X_45 hx hZ e_45 Ar_46 (j := (4 : Int32)) (own_inb Sz_46 (by decide)) (g := (mkF m 57 #[.val (.int p1), .val (.int p2), .val (.int (3 : Int32)), .val (.ref b_41), .unset, .unset, .unset] [(.int (((p2.toUInt32 >>> ((12 : Int32) &&& 31).toUInt32).toInt32) &&& (7 : Int32))), (.int (4 : Int32)), (.ref b_41)])) rfl rfl (hb hby at_57)
    have N_46 := Fr.snoc X_46 N_45 g_b_41
    have fw_46 : own_arr .int Z h_46 b_41 5 (own_upd (own_upd (own_upd (own_upd (own_upd (fun _ => 0) 0 (p2 &&& (7 : Int32))) 1 (((p2.toUInt32 >>> ((3 : Int32) &&& 31).toUInt32).toInt32) &&& (7 : Int32))) 2 (((p2.toUInt32 >>> ((6 : Int32) &&& 31).toUInt32).toInt32) &&& (7 : Int32))) 3 (((p2.toUInt32 >>> ((9 : Int32) &&& 31).toUInt32).toInt32) &&& (7 : Int32))) 4 (((p2.toUInt32 >>> ((12 : Int32) &&& 31).toUInt32).toInt32) &&& (7 : Int32))) := own_arr.set Ar_46 Sz_46 At_46 W_46
    have Z_46 : n0 ≤ h_46.size := Nat.le_trans Z_45 (Keep.of_wr W_46).1
    have K_46 : Keep h0 h_46 [] := K_45.wr W_46 (Or.inr sz_b_41)
    obtain ⟨f5, hf5, ht5⟩ := own_tail (own_upd (own_upd (own_upd (own_upd (own_upd (fun _ => 0) 0 (p2 &&& (7 : Int32))) 1 (((p2.toUInt32 >>> ((3 : Int32) &&& 31).toUInt32).toInt32) &&& (7 : Int32))) 2 (((p2.toUInt32 >>> ((6 : Int32) &&& 31).toUInt32).toInt32) &&& (7 : Int32))) 3 (((p2.toUInt32 >>> ((9 : Int32) &&& 31).toUInt32).toInt32) &&& (7 : Int32))) 4 (((p2.toUInt32 >>> ((12 : Int32) &&& 31).toUInt32).toInt32) &&& (7 : Int32)))
    have fq5 := fw_46.eqv hf5
    obtain ⟨T_47, h_47, k_47, X_47, e_47, E_47, A_47, st_47⟩ := newP X_46 hx hZ (hw _ (List.mem_of_getElem? (i := 1) rfl)) e_46 (g := (mkF m 59 #[.val (.int p1), .val (.int p2), .val (.int (3 : Int32)), .val (.ref b_41), .unset, .unset, .unset] [(.int (3 : Int32))])) rfl (hb hby at_59) rfl (by decide) (cap := 3) (by decide) (by decide) (by decide) (by decide)
    obtain ⟨b_47, g_47⟩ : ∃ z, z = h_46.size := ⟨_, rfl⟩
    rw [← g_47] at A_47 st_47
    have ne_b_41_b_47 : b_41 ≠ b_47 := Nat.ne_of_lt (Nat.lt_of_lt_of_le fq5.lt (Nat.le_of_eq g_47.symm))
    have g_b_47 : n0 ≤ b_47 := Nat.le_trans Z_46 (Nat.le_of_eq g_47.symm)
    have sz_b_47 : h0.size ≤ b_47 := Nat.le_trans (K_46).1 (Nat.le_of_eq g_47.symm)
    have f_47_0 : own_arr .int Z h_47 b_41 5 f5 := fq5.ext E_47
    have Z_47 : n0 ≤ h_47.size := Nat.le_trans Z_46 E_47.1
    have K_47 : Keep h0 h_47 [] := K_46.ext E_47
    have fa_47 : own_arr .int Z h_47 b_47 3 (fun _ => 0) := own_arr.newI A_47 rfl
    obtain ⟨_, _, ⟨T_48, L_48, k_48, n_48⟩, -, X_48, ⟨Lc_48, hQ_48, l_48, y_48, z_48⟩, st_48⟩ := Jvm.LawKit.callS X_47 hx (y := (⟨"com/example/borderwork/borderwork/zarrays/ZArraysToBorderArrayPinLaw", "lcp", "([III)I"⟩ : MethodName)) hown (mvT hZ (hw _ (List.mem_of_getElem? (i := 6) rfl))) (mvT hZ (hw _ (List.mem_of_getElem? (i := 7) rfl))) (mvT hZ (hw _ (List.mem_of_getElem? (i := 8) rfl))) (mvT hZ (hw _ (List.mem_of_getElem? (i := 9) rfl))) (by decide) (backOf (W := 2) (rm2 l Z a0 hw [] b_41 (3 : Int32) (0 : Int32) f5 h_47 n0 Z_47 f_47_0 (by decide) (by decide) (by decide)) hZ (hw _ (List.mem_of_getElem? (i := 9) rfl)) (hw _ (List.mem_of_getElem? (i := 8) rfl)) (by decide) (by decide)) (g := (mkF m 73 #[.val (.int p1), .val (.int p2), .val (.int (3 : Int32)), .val (.ref b_41), .val (.ref b_47), .unset, .unset] [(.int (0 : Int32)), (.int (3 : Int32)), (.ref b_41), (.int (0 : Int32)), (.ref b_47)])) rfl (by rw [hml]; rfl) (argsL := [(.ref b_41), (.int (3 : Int32)), (.int (0 : Int32))]) (rest := [(.int (0 : Int32)), (.ref b_47)]) (lenOf pd_3 rfl) rfl (by show 2 * 0 + _ ≤ _; exact Nat.le_of_eq rfl) (hb hby at_73) (fun _ _ => ⟨rfl, e_47, (by decide : 2 + 0 ≤ _), (by decide : 8 + 0 ≤ _)⟩)
    dsimp only [Pt.U, Pt.locs, Pt.cells, Pt.slots] at X_48 l_48 y_48 z_48 st_48 hQ_48
    subst l_48 y_48 z_48
    obtain ⟨rfl, N_48q, e_48⟩ := hQ_48
    have N_48 := Fr.app N_46 N_48q
    have fo_49 := fa_47
    obtain ⟨cl_49, Ar_49, Sz_49, At_49⟩ := fo_49
    obtain ⟨T_49, h_49, X_49, e_49, W_49, st_49⟩ := stI X_48 hx hZ e_48 Ar_49 (j := (0 : Int32)) (own_inb Sz_49 (by decide)) (g := (mkF m 76 #[.val (.int p1), .val (.int p2), .val (.int (3 : Int32)), .val (.ref b_41), .val (.ref b_47), .unset, .unset] [(.int (own_lcp (3 : Int32) (0 : Int32) f5)), (.int (0 : Int32)), (.ref b_47)])) rfl rfl (hb hby at_76)
    have N_49 := Fr.snoc X_49 N_48 g_b_47
    have fw_49 : own_arr .int Z h_49 b_47 3 (own_upd (fun _ => 0) 0 (own_lcp (3 : Int32) (0 : Int32) f5)) := own_arr.set Ar_49 Sz_49 At_49 W_49
    have f_49_0 : own_arr .int Z h_49 b_41 5 f5 := f_47_0.other W_49 ne_b_41_b_47
    have Z_49 : n0 ≤ h_49.size := Nat.le_trans Z_47 (Keep.of_wr W_49).1
    have K_49 : Keep h0 h_49 [] := K_47.wr W_49 (Or.inr sz_b_47)
    obtain ⟨_, _, ⟨T_50, L_50, k_50, n_50⟩, -, X_50, ⟨Lc_50, hQ_50, l_50, y_50, z_50⟩, st_50⟩ := Jvm.LawKit.callS X_49 hx (y := (⟨"com/example/borderwork/borderwork/zarrays/ZArraysToBorderArrayPinLaw", "lcp", "([III)I"⟩ : MethodName)) hown (mvT hZ (hw _ (List.mem_of_getElem? (i := 6) rfl))) (mvT hZ (hw _ (List.mem_of_getElem? (i := 7) rfl))) (mvT hZ (hw _ (List.mem_of_getElem? (i := 8) rfl))) (mvT hZ (hw _ (List.mem_of_getElem? (i := 9) rfl))) (by decide) (backOf (W := 2) (rm2 l Z a0 hw [] b_41 (3 : Int32) (1 : Int32) f5 h_49 n0 Z_49 f_49_0 (by decide) (by decide) (by decide)) hZ (hw _ (List.mem_of_getElem? (i := 9) rfl)) (hw _ (List.mem_of_getElem? (i := 8) rfl)) (by decide) (by decide)) (g := (mkF m 88 #[.val (.int p1), .val (.int p2), .val (.int (3 : Int32)), .val (.ref b_41), .val (.ref b_47), .unset, .unset] [(.int (1 : Int32)), (.int (3 : Int32)), (.ref b_41), (.int (1 : Int32)), (.ref b_47)])) rfl (by rw [hml]; rfl) (argsL := [(.ref b_41), (.int (3 : Int32)), (.int (1 : Int32))]) (rest := [(.int (1 : Int32)), (.ref b_47)]) (lenOf pd_3 rfl) rfl (by show 2 * 0 + _ ≤ _; exact Nat.le_of_eq rfl) (hb hby at_88) (fun _ _ => ⟨rfl, e_49, (by decide : 2 + 0 ≤ _), (by decide : 8 + 0 ≤ _)⟩)
    dsimp only [Pt.U, Pt.locs, Pt.cells, Pt.slots] at X_50 l_50 y_50 z_50 st_50 hQ_50
    subst l_50 y_50 z_50
    obtain ⟨rfl, N_50q, e_50⟩ := hQ_50
    have N_50 := Fr.app N_49 N_50q
    have fo_51 := fw_49
    obtain ⟨cl_51, Ar_51, Sz_51, At_51⟩ := fo_51
    obtain ⟨T_51, h_51, X_51, e_51, W_51, st_51⟩ := stI X_50 hx hZ e_50 Ar_51 (j := (1 : Int32)) (own_inb Sz_51 (by decide)) (g := (mkF m 91 #[.val (.int p1), .val (.int p2), .val (.int (3 : Int32)), .val (.ref b_41), .val (.ref b_47), .unset, .unset] [(.int (own_lcp (3 : Int32) (1 : Int32) f5)), (.int (1 : Int32)), (.ref b_47)])) rfl rfl (hb hby at_91)
    have N_51 := Fr.snoc X_51 N_50 g_b_47
    have fw_51 : own_arr .int Z h_51 b_47 3 (own_upd (own_upd (fun _ => 0) 0 (own_lcp (3 : Int32) (0 : Int32) f5)) 1 (own_lcp (3 : Int32) (1 : Int32) f5)) := own_arr.set Ar_51 Sz_51 At_51 W_51
    have f_51_0 : own_arr .int Z h_51 b_41 5 f5 := f_49_0.other W_51 ne_b_41_b_47
    have Z_51 : n0 ≤ h_51.size := Nat.le_trans Z_49 (Keep.of_wr W_51).1
    have K_51 : Keep h0 h_51 [] := K_49.wr W_51 (Or.inr sz_b_47)
    obtain ⟨_, _, ⟨T_52, L_52, k_52, n_52⟩, -, X_52, ⟨Lc_52, hQ_52, l_52, y_52, z_52⟩, st_52⟩ := Jvm.LawKit.callS X_51 hx (y := (⟨"com/example/borderwork/borderwork/zarrays/ZArraysToBorderArrayPinLaw", "lcp", "([III)I"⟩ : MethodName)) hown (mvT hZ (hw _ (List.mem_of_getElem? (i := 6) rfl))) (mvT hZ (hw _ (List.mem_of_getElem? (i := 7) rfl))) (mvT hZ (hw _ (List.mem_of_getElem? (i := 8) rfl))) (mvT hZ (hw _ (List.mem_of_getElem? (i := 9) rfl))) (by decide) (backOf (W := 2) (rm2 l Z a0 hw [] b_41 (3 : Int32) (2 : Int32) f5 h_51 n0 Z_51 f_51_0 (by decide) (by decide) (by decide)) hZ (hw _ (List.mem_of_getElem? (i := 9) rfl)) (hw _ (List.mem_of_getElem? (i := 8) rfl)) (by decide) (by decide)) (g := (mkF m 103 #[.val (.int p1), .val (.int p2), .val (.int (3 : Int32)), .val (.ref b_41), .val (.ref b_47), .unset, .unset] [(.int (2 : Int32)), (.int (3 : Int32)), (.ref b_41), (.int (2 : Int32)), (.ref b_47)])) rfl (by rw [hml]; rfl) (argsL := [(.ref b_41), (.int (3 : Int32)), (.int (2 : Int32))]) (rest := [(.int (2 : Int32)), (.ref b_47)]) (lenOf pd_3 rfl) rfl (by show 2 * 0 + _ ≤ _; exact Nat.le_of_eq rfl) (hb hby at_103) (fun _ _ => ⟨rfl, e_51, (by decide : 2 + 0 ≤ _), (by decide : 8 + 0 ≤ _)⟩)
    dsimp only [Pt.U, Pt.locs, Pt.cells, Pt.slots] at X_52 l_52 y_52 z_52 st_52 hQ_52
    subst l_52 y_52 z_52
    obtain ⟨rfl, N_52q, e_52⟩ := hQ_52
    have N_52 := Fr.app N_51 N_52q
    have fo_53 := fw_51
    obtain ⟨cl_53, Ar_53, Sz_53, At_53⟩ := fo_53
    obtain ⟨T_53, h_53, X_53, e_53, W_53, st_53⟩ := stI X_52 hx hZ e_52 Ar_53 (j := (2 : Int32)) (own_inb Sz_53 (by decide)) (g := (mkF m 106 #[.val (.int p1), .val (.int p2), .val (.int (3 : Int32)), .val (.ref b_41), .val (.ref b_47), .unset, .unset] [(.int (own_lcp (3 : Int32) (2 : Int32) f5)), (.int (2 : Int32)), (.ref b_47)])) rfl rfl (hb hby at_106)
    have N_53 := Fr.snoc X_53 N_52 g_b_47
    have fw_53 : own_arr .int Z h_53 b_47 3 (own_upd (own_upd (own_upd (fun _ => 0) 0 (own_lcp (3 : Int32) (0 : Int32) f5)) 1 (own_lcp (3 : Int32) (1 : Int32) f5)) 2 (own_lcp (3 : Int32) (2 : Int32) f5)) := own_arr.set Ar_53 Sz_53 At_53 W_53
    have f_53_0 : own_arr .int Z h_53 b_41 5 f5 := f_51_0.other W_53 ne_b_41_b_47
    have Z_53 : n0 ≤ h_53.size := Nat.le_trans Z_51 (Keep.of_wr W_53).1
    have K_53 : Keep h0 h_53 [] := K_51.wr W_53 (Or.inr sz_b_47)
    obtain ⟨fz, hfz⟩ : ∃ z : Nat → Int32, z = (own_upd (own_upd (own_upd (fun _ => 0) 0 (own_lcp (3 : Int32) (0 : Int32) f5)) 1 (own_lcp (3 : Int32) (1 : Int32) f5)) 2 (own_lcp (3 : Int32) (2 : Int32) f5)) := ⟨_, rfl⟩
    rw [← hfz] at fw_53
    have z_0 : fz 0 = own_lcp (3 : Int32) (0 : Int32) f5 := by rw [hfz]; rfl
    have z_1 : fz 1 = own_lcp (3 : Int32) (1 : Int32) f5 := by rw [hfz]; rfl
    have z_2 : fz 2 = own_lcp (3 : Int32) (2 : Int32) f5 := by rw [hfz]; rfl
    obtain ⟨_, _, ⟨T_54, L_54, k_54, n_54⟩, -, X_54, ⟨Lc_54, hQ_54, l_54, y_54, z_54⟩, st_54⟩ := Jvm.LawKit.callS X_53 hx (y := (⟨"com/example/borderwork/borderwork/zarrays/ZArrays", "toBorderArray", "([I)[I"⟩ : MethodName)) hown (mvT hZ (hw _ (List.mem_of_getElem? (i := 2) rfl))) (mvT hZ (hw _ (List.mem_of_getElem? (i := 3) rfl))) (mvT hZ (hw _ (List.mem_of_getElem? (i := 4) rfl))) (mvT hZ (hw _ (List.mem_of_getElem? (i := 5) rfl))) (by decide) (backOf (W := 0) (rm1_3 l Z a0 hw [] b_47 fz h_53 n0 Z_53 fw_53 (z_0.trans (own_whole3 f5)) (by rw [z_1]; exact (own_lcp_b _ _ f5 (by decide)).1) (by rw [z_1]; exact (own_lcp_b _ _ f5 (by decide)).2) (by rw [z_2]; exact (own_lcp_b _ _ f5 (by decide)).1) (by rw [z_2]; exact (own_lcp_b _ _ f5 (by decide)).2)) hZ (hw _ (List.mem_of_getElem? (i := 5) rfl)) (hw _ (List.mem_of_getElem? (i := 4) rfl)) (by decide) (by decide)) (g := (mkF m 139 #[.val (.int p1), .val (.int p2), .val (.int (3 : Int32)), .val (.ref b_41), .val (.ref b_47), .unset, .unset] [(.ref b_47)])) rfl (by rw [hml]; rfl) (argsL := [(.ref b_47)]) (rest := []) (lenOf pd_2 rfl) rfl (by show 2 * 0 + _ ≤ _; exact Nat.le_of_eq rfl) (hb hby at_139) (fun _ _ => ⟨rfl, e_53, (by decide : 2 + 1 ≤ _), (by decide : 8 + 3 ≤ _)⟩)
    dsimp only [Pt.U, Pt.locs, Pt.cells, Pt.slots] at X_54 l_54 y_54 z_54 st_54 hQ_54
    subst l_54 y_54 z_54
    obtain ⟨r_54, rfl, N_54q, Kc_54, o_54_0⟩ := hQ_54
    have f_54_0 : own_arr .int Z T_54.heap b_41 5 f5 := f_53_0.keep Kc_54 (List.not_mem_nil)
    have f_54_1 : own_arr .int Z T_54.heap b_47 3 fz := fw_53.keep Kc_54 (List.not_mem_nil)
    have Z_54 : n0 ≤ T_54.heap.size := Nat.le_trans Z_53 Kc_54.1
    have K_54 : Keep h0 T_54.heap [] := K_53.trans Kc_54 (fun x hx => nomatch hx)
    have N_54 := Fr.app N_53 N_54q
    have fo_56 := o_54_0
    obtain ⟨cl_56, Ar_56, Sz_56, At_56⟩ := fo_56
    obtain ⟨_, _, ⟨T_57, L_57, k_57, n_57⟩, -, X_57, ⟨Lc_57, hQ_57, l_57, y_57, z_57⟩, st_57⟩ := Jvm.LawKit.callS X_54 hx (y := (⟨"com/example/borderwork/borderwork/zarrays/ZArraysToBorderArrayPinLaw", "border", "([II)I"⟩ : MethodName)) hown (mvT hZ (hw _ (List.mem_of_getElem? (i := 10) rfl))) (mvT hZ (hw _ (List.mem_of_getElem? (i := 11) rfl))) (mvT hZ (hw _ (List.mem_of_getElem? (i := 8) rfl))) (mvT hZ (hw _ (List.mem_of_getElem? (i := 12) rfl))) (by decide) (backOf (W := 1) (rm3 l Z a0 hw [] b_41 (0 : Int32) f5 T_54.heap n0 Z_54 f_54_0 (by decide) (by decide)) hZ (hw _ (List.mem_of_getElem? (i := 12) rfl)) (hw _ (List.mem_of_getElem? (i := 8) rfl)) (by decide) (by decide)) (g := (mkF m 173 #[.val (.int p1), .val (.int p2), .val (.int (3 : Int32)), .val (.ref b_41), .val (.ref b_47), .val (.ref r_54), .val (.int (1 : Int32))] [(.int (0 : Int32)), (.ref b_41), (.int ((own_out 3 fz) 0))])) rfl (by rw [hml]; rfl) (argsL := [(.ref b_41), (.int (0 : Int32))]) (rest := [(.int ((own_out 3 fz) 0))]) (lenOf pd_4 rfl) rfl (by show 2 * 0 + _ ≤ _; exact Nat.le_of_eq rfl) (hb hby at_173) (fun _ _ => ⟨rfl, rfl, (by decide : 3 + 0 ≤ _), (by decide : 11 + 0 ≤ _)⟩)
    dsimp only [Pt.U, Pt.locs, Pt.cells, Pt.slots] at X_57 l_57 y_57 z_57 st_57 hQ_57
    subst l_57 y_57 z_57
    obtain ⟨rfl, N_57q, e_57⟩ := hQ_57
    have N_57 := Fr.app N_54 N_57q
    obtain ⟨_, _, ⟨T_58, L_58, k_58, n_58⟩, -, X_58, ⟨Lc_58, hQ_58, l_58, y_58, z_58⟩, st_58⟩ := Jvm.LawKit.callS X_57 hx (y := (⟨"com/example/borderwork/borderwork/zarrays/ZArraysToBorderArrayPinLaw", "border", "([II)I"⟩ : MethodName)) hown (mvT hZ (hw _ (List.mem_of_getElem? (i := 10) rfl))) (mvT hZ (hw _ (List.mem_of_getElem? (i := 11) rfl))) (mvT hZ (hw _ (List.mem_of_getElem? (i := 8) rfl))) (mvT hZ (hw _ (List.mem_of_getElem? (i := 12) rfl))) (by decide) (backOf (W := 1) (rm3 l Z a0 hw [] b_41 (1 : Int32) f5 T_54.heap n0 Z_54 f_54_0 (by decide) (by decide)) hZ (hw _ (List.mem_of_getElem? (i := 12) rfl)) (hw _ (List.mem_of_getElem? (i := 8) rfl)) (by decide) (by decide)) (g := (mkF m 202 #[.val (.int p1), .val (.int p2), .val (.int (3 : Int32)), .val (.ref b_41), .val (.ref b_47), .val (.ref r_54), .val (.int (1 : Int32))] [(.int (1 : Int32)), (.ref b_41), (.int ((own_out 3 fz) 1))])) rfl (by rw [hml]; rfl) (argsL := [(.ref b_41), (.int (1 : Int32))]) (rest := [(.int ((own_out 3 fz) 1))]) (lenOf pd_4 rfl) rfl (by show 2 * 0 + _ ≤ _; exact Nat.le_of_eq rfl) (hb hby at_202) (fun _ _ => ⟨rfl, e_57, (by decide : 3 + 0 ≤ _), (by decide : 11 + 0 ≤ _)⟩)
    dsimp only [Pt.U, Pt.locs, Pt.cells, Pt.slots] at X_58 l_58 y_58 z_58 st_58 hQ_58
    subst l_58 y_58 z_58
    obtain ⟨rfl, N_58q, e_58⟩ := hQ_58
    have N_58 := Fr.app N_57 N_58q
    obtain ⟨_, _, ⟨T_59, L_59, k_59, n_59⟩, -, X_59, ⟨Lc_59, hQ_59, l_59, y_59, z_59⟩, st_59⟩ := Jvm.LawKit.callS X_58 hx (y := (⟨"com/example/borderwork/borderwork/zarrays/ZArraysToBorderArrayPinLaw", "border", "([II)I"⟩ : MethodName)) hown (mvT hZ (hw _ (List.mem_of_getElem? (i := 10) rfl))) (mvT hZ (hw _ (List.mem_of_getElem? (i := 11) rfl))) (mvT hZ (hw _ (List.mem_of_getElem? (i := 8) rfl))) (mvT hZ (hw _ (List.mem_of_getElem? (i := 12) rfl))) (by decide) (backOf (W := 1) (rm3 l Z a0 hw [] b_41 (2 : Int32) f5 T_54.heap n0 Z_54 f_54_0 (by decide) (by decide)) hZ (hw _ (List.mem_of_getElem? (i := 12) rfl)) (hw _ (List.mem_of_getElem? (i := 8) rfl)) (by decide) (by decide)) (g := (mkF m 231 #[.val (.int p1), .val (.int p2), .val (.int (3 : Int32)), .val (.ref b_41), .val (.ref b_47), .val (.ref r_54), .val (.int (1 : Int32))] [(.int (2 : Int32)), (.ref b_41), (.int ((own_out 3 fz) 2))])) rfl (by rw [hml]; rfl) (argsL := [(.ref b_41), (.int (2 : Int32))]) (rest := [(.int ((own_out 3 fz) 2))]) (lenOf pd_4 rfl) rfl (by show 2 * 0 + _ ≤ _; exact Nat.le_of_eq rfl) (hb hby at_231) (fun _ _ => ⟨rfl, e_58, (by decide : 3 + 0 ≤ _), (by decide : 11 + 0 ≤ _)⟩)
    dsimp only [Pt.U, Pt.locs, Pt.cells, Pt.slots] at X_59 l_59 y_59 z_59 st_59 hQ_59
    subst l_59 y_59 z_59
    obtain ⟨rfl, N_59q, e_59⟩ := hQ_59
    have N_59 := Fr.app N_58 N_59q
    obtain ⟨fs, hr, hrun, hended, hW, hsame⟩ := X_59.leave (v := some (.int (1 : Int32))) (fun h => by rw [Bd.returns] at h; cases h)
    refine ⟨_, _, pr_1 _ ?_, hrun, hended, _, _, rfl, ?_, ⟨_, rfl⟩, hW, hsame.mono (by decide) (by decide)⟩
    · show Steps p.tables e below (s₁.setTop (mkF m 8 #[.val (.int p1), .val (.int p2), .val (.int (3 : Int32)), .unset, .unset, .unset, .unset] [])) _
      refine XS.iconst X0.here hx rfl (hb hby at_8) ?_
      show Steps p.tables e below (s₁.setTop (mkF m 9 #[.val (.int p1), .val (.int p2), .val (.int (3 : Int32)), .unset, .unset, .unset, .unset] [(.int (5 : Int32))])) _
      refine st_41 _ ?_
      show Steps p.tables e below (T_41.setTop (mkF m 11 #[.val (.int p1), .val (.int p2), .val (.int (3 : Int32)), .unset, .unset, .unset, .unset] [(.ref b_41)])) _
      refine XS.astoreN X_41.here hx rfl (hb hby at_11) rfl rfl (l' := #[.val (.int p1), .val (.int p2), .val (.int (3 : Int32)), .val (.ref b_41), .unset, .unset, .unset]) rfl ?_
      show Steps p.tables e below (T_41.setTop (mkF m 12 #[.val (.int p1), .val (.int p2), .val (.int (3 : Int32)), .val (.ref b_41), .unset, .unset, .unset] [])) _
      refine XS.aloadN X_41.here hx rfl (hb hby at_12) rfl rfl ?_
      show Steps p.tables e below (T_41.setTop (mkF m 13 #[.val (.int p1), .val (.int p2), .val (.int (3 : Int32)), .val (.ref b_41), .unset, .unset, .unset] [(.ref b_41)])) _
      refine XS.iconst X_41.here hx rfl (hb hby at_13) ?_
      show Steps p.tables e below (T_41.setTop (mkF m 14 #[.val (.int p1), .val (.int p2), .val (.int (3 : Int32)), .val (.ref b_41), .unset, .unset, .unset] [(.int (0 : Int32)), (.ref b_41)])) _
      refine XS.iloadN X_41.here hx rfl (hb hby at_14) rfl ?_
      show Steps p.tables e below (T_41.setTop (mkF m 15 #[.val (.int p1), .val (.int p2), .val (.int (3 : Int32)), .val (.ref b_41), .unset, .unset, .unset] [(.int p2), (.int (0 : Int32)), (.ref b_41)])) _
      refine XS.bipush X_41.here hx rfl (hb hby at_15) ?_
      show Steps p.tables e below (T_41.setTop (mkF m 17 #[.val (.int p1), .val (.int p2), .val (.int (3 : Int32)), .val (.ref b_41), .unset, .unset, .unset] [(.int (7 : Int32)), (.int p2), (.int (0 : Int32)), (.ref b_41)])) _
      refine XS.iand X_41.here hx rfl (hb hby at_17) rfl ?_
      show Steps p.tables e below (T_41.setTop (mkF m 18 #[.val (.int p1), .val (.int p2), .val (.int (3 : Int32)), .val (.ref b_41), .unset, .unset, .unset] [(.int (p2 &&& (7 : Int32))), (.int (0 : Int32)), (.ref b_41)])) _
      refine st_42 _ ?_
      show Steps p.tables e below (T_42.setTop (mkF m 19 #[.val (.int p1), .val (.int p2), .val (.int (3 : Int32)), .val (.ref b_41), .unset, .unset, .unset] [])) _
      refine XS.aloadN X_42.here hx rfl (hb hby at_19) rfl rfl ?_
      show Steps p.tables e below (T_42.setTop (mkF m 20 #[.val (.int p1), .val (.int p2), .val (.int (3 : Int32)), .val (.ref b_41), .unset, .unset, .unset] [(.ref b_41)])) _
      refine XS.iconst X_42.here hx rfl (hb hby at_20) ?_
      show Steps p.tables e below (T_42.setTop (mkF m 21 #[.val (.int p1), .val (.int p2), .val (.int (3 : Int32)), .val (.ref b_41), .unset, .unset, .unset] [(.int (1 : Int32)), (.ref b_41)])) _
      refine XS.iloadN X_42.here hx rfl (hb hby at_21) rfl ?_
      show Steps p.tables e below (T_42.setTop (mkF m 22 #[.val (.int p1), .val (.int p2), .val (.int (3 : Int32)), .val (.ref b_41), .unset, .unset, .unset] [(.int p2), (.int (1 : Int32)), (.ref b_41)])) _
      refine XS.iconst X_42.here hx rfl (hb hby at_22) ?_
      show Steps p.tables e below (T_42.setTop (mkF m 23 #[.val (.int p1), .val (.int p2), .val (.int (3 : Int32)), .val (.ref b_41), .unset, .unset, .unset] [(.int (3 : Int32)), (.int p2), (.int (1 : Int32)), (.ref b_41)])) _
      refine XS.iushr X_42.here hx rfl (hb hby at_23) rfl ?_
      show Steps p.tables e below (T_42.setTop (mkF m 24 #[.val (.int p1), .val (.int p2), .val (.int (3 : Int32)), .val (.ref b_41), .unset, .unset, .unset] [(.int ((p2.toUInt32 >>> ((3 : Int32) &&& 31).toUInt32).toInt32)), (.int (1 : Int32)), (.ref b_41)])) _
      refine XS.bipush X_42.here hx rfl (hb hby at_24) ?_
      show Steps p.tables e below (T_42.setTop (mkF m 26 #[.val (.int p1), .val (.int p2), .val (.int (3 : Int32)), .val (.ref b_41), .unset, .unset, .unset] [(.int (7 : Int32)), (.int ((p2.toUInt32 >>> ((3 : Int32) &&& 31).toUInt32).toInt32)), (.int (1 : Int32)), (.ref b_41)])) _
      refine XS.iand X_42.here hx rfl (hb hby at_26) rfl ?_
      show Steps p.tables e below (T_42.setTop (mkF m 27 #[.val (.int p1), .val (.int p2), .val (.int (3 : Int32)), .val (.ref b_41), .unset, .unset, .unset] [(.int (((p2.toUInt32 >>> ((3 : Int32) &&& 31).toUInt32).toInt32) &&& (7 : Int32))), (.int (1 : Int32)), (.ref b_41)])) _
      refine st_43 _ ?_
      show Steps p.tables e below (T_43.setTop (mkF m 28 #[.val (.int p1), .val (.int p2), .val (.int (3 : Int32)), .val (.ref b_41), .unset, .unset, .unset] [])) _
      refine XS.aloadN X_43.here hx rfl (hb hby at_28) rfl rfl ?_
      show Steps p.tables e below (T_43.setTop (mkF m 29 #[.val (.int p1), .val (.int p2), .val (.int (3 : Int32)), .val (.ref b_41), .unset, .unset, .unset] [(.ref b_41)])) _
      refine XS.iconst X_43.here hx rfl (hb hby at_29) ?_
      show Steps p.tables e below (T_43.setTop (mkF m 30 #[.val (.int p1), .val (.int p2), .val (.int (3 : Int32)), .val (.ref b_41), .unset, .unset, .unset] [(.int (2 : Int32)), (.ref b_41)])) _
      refine XS.iloadN X_43.here hx rfl (hb hby at_30) rfl ?_
      show Steps p.tables e below (T_43.setTop (mkF m 31 #[.val (.int p1), .val (.int p2), .val (.int (3 : Int32)), .val (.ref b_41), .unset, .unset, .unset] [(.int p2), (.int (2 : Int32)), (.ref b_41)])) _
      refine XS.bipush X_43.here hx rfl (hb hby at_31) ?_
      show Steps p.tables e below (T_43.setTop (mkF m 33 #[.val (.int p1), .val (.int p2), .val (.int (3 : Int32)), .val (.ref b_41), .unset, .unset, .unset] [(.int (6 : Int32)), (.int p2), (.int (2 : Int32)), (.ref b_41)])) _
      refine XS.iushr X_43.here hx rfl (hb hby at_33) rfl ?_
      show Steps p.tables e below (T_43.setTop (mkF m 34 #[.val (.int p1), .val (.int p2), .val (.int (3 : Int32)), .val (.ref b_41), .unset, .unset, .unset] [(.int ((p2.toUInt32 >>> ((6 : Int32) &&& 31).toUInt32).toInt32)), (.int (2 : Int32)), (.ref b_41)])) _
      refine XS.bipush X_43.here hx rfl (hb hby at_34) ?_
      show Steps p.tables e below (T_43.setTop (mkF m 36 #[.val (.int p1), .val (.int p2), .val (.int (3 : Int32)), .val (.ref b_41), .unset, .unset, .unset] [(.int (7 : Int32)), (.int ((p2.toUInt32 >>> ((6 : Int32) &&& 31).toUInt32).toInt32)), (.int (2 : Int32)), (.ref b_41)])) _
      refine XS.iand X_43.here hx rfl (hb hby at_36) rfl ?_
      show Steps p.tables e below (T_43.setTop (mkF m 37 #[.val (.int p1), .val (.int p2), .val (.int (3 : Int32)), .val (.ref b_41), .unset, .unset, .unset] [(.int (((p2.toUInt32 >>> ((6 : Int32) &&& 31).toUInt32).toInt32) &&& (7 : Int32))), (.int (2 : Int32)), (.ref b_41)])) _
      refine st_44 _ ?_
      show Steps p.tables e below (T_44.setTop (mkF m 38 #[.val (.int p1), .val (.int p2), .val (.int (3 : Int32)), .val (.ref b_41), .unset, .unset, .unset] [])) _
      refine XS.aloadN X_44.here hx rfl (hb hby at_38) rfl rfl ?_
      show Steps p.tables e below (T_44.setTop (mkF m 39 #[.val (.int p1), .val (.int p2), .val (.int (3 : Int32)), .val (.ref b_41), .unset, .unset, .unset] [(.ref b_41)])) _
      refine XS.iconst X_44.here hx rfl (hb hby at_39) ?_
      show Steps p.tables e below (T_44.setTop (mkF m 40 #[.val (.int p1), .val (.int p2), .val (.int (3 : Int32)), .val (.ref b_41), .unset, .unset, .unset] [(.int (3 : Int32)), (.ref b_41)])) _
      refine XS.iloadN X_44.here hx rfl (hb hby at_40) rfl ?_
      show Steps p.tables e below (T_44.setTop (mkF m 41 #[.val (.int p1), .val (.int p2), .val (.int (3 : Int32)), .val (.ref b_41), .unset, .unset, .unset] [(.int p2), (.int (3 : Int32)), (.ref b_41)])) _
      refine XS.bipush X_44.here hx rfl (hb hby at_41) ?_
      show Steps p.tables e below (T_44.setTop (mkF m 43 #[.val (.int p1), .val (.int p2), .val (.int (3 : Int32)), .val (.ref b_41), .unset, .unset, .unset] [(.int (9 : Int32)), (.int p2), (.int (3 : Int32)), (.ref b_41)])) _
      refine XS.iushr X_44.here hx rfl (hb hby at_43) rfl ?_
      show Steps p.tables e below (T_44.setTop (mkF m 44 #[.val (.int p1), .val (.int p2), .val (.int (3 : Int32)), .val (.ref b_41), .unset, .unset, .unset] [(.int ((p2.toUInt32 >>> ((9 : Int32) &&& 31).toUInt32).toInt32)), (.int (3 : Int32)), (.ref b_41)])) _
      refine XS.bipush X_44.here hx rfl (hb hby at_44) ?_
      show Steps p.tables e below (T_44.setTop (mkF m 46 #[.val (.int p1), .val (.int p2), .val (.int (3 : Int32)), .val (.ref b_41), .unset, .unset, .unset] [(.int (7 : Int32)), (.int ((p2.toUInt32 >>> ((9 : Int32) &&& 31).toUInt32).toInt32)), (.int (3 : Int32)), (.ref b_41)])) _
      refine XS.iand X_44.here hx rfl (hb hby at_46) rfl ?_
      show Steps p.tables e below (T_44.setTop (mkF m 47 #[.val (.int p1), .val (.int p2), .val (.int (3 : Int32)), .val (.ref b_41), .unset, .unset, .unset] [(.int (((p2.toUInt32 >>> ((9 : Int32) &&& 31).toUInt32).toInt32) &&& (7 : Int32))), (.int (3 : Int32)), (.ref b_41)])) _
      refine st_45 _ ?_
      show Steps p.tables e below (T_45.setTop (mkF m 48 #[.val (.int p1), .val (.int p2), .val (.int (3 : Int32)), .val (.ref b_41), .unset, .unset, .unset] [])) _
      refine XS.aloadN X_45.here hx rfl (hb hby at_48) rfl rfl ?_
      show Steps p.tables e below (T_45.setTop (mkF m 49 #[.val (.int p1), .val (.int p2), .val (.int (3 : Int32)), .val (.ref b_41), .unset, .unset, .unset] [(.ref b_41)])) _
      refine XS.iconst X_45.here hx rfl (hb hby at_49) ?_
      show Steps p.tables e below (T_45.setTop (mkF m 50 #[.val (.int p1), .val (.int p2), .val (.int (3 : Int32)), .val (.ref b_41), .unset, .unset, .unset] [(.int (4 : Int32)), (.ref b_41)])) _
      refine XS.iloadN X_45.here hx rfl (hb hby at_50) rfl ?_
      show Steps p.tables e below (T_45.setTop (mkF m 51 #[.val (.int p1), .val (.int p2), .val (.int (3 : Int32)), .val (.ref b_41), .unset, .unset, .unset] [(.int p2), (.int (4 : Int32)), (.ref b_41)])) _
      refine XS.bipush X_45.here hx rfl (hb hby at_51) ?_
      show Steps p.tables e below (T_45.setTop (mkF m 53 #[.val (.int p1), .val (.int p2), .val (.int (3 : Int32)), .val (.ref b_41), .unset, .unset, .unset] [(.int (12 : Int32)), (.int p2), (.int (4 : Int32)), (.ref b_41)])) _
      refine XS.iushr X_45.here hx rfl (hb hby at_53) rfl ?_
      show Steps p.tables e below (T_45.setTop (mkF m 54 #[.val (.int p1), .val (.int p2), .val (.int (3 : Int32)), .val (.ref b_41), .unset, .unset, .unset] [(.int ((p2.toUInt32 >>> ((12 : Int32) &&& 31).toUInt32).toInt32)), (.int (4 : Int32)), (.ref b_41)])) _
      refine XS.bipush X_45.here hx rfl (hb hby at_54) ?_
      show Steps p.tables e below (T_45.setTop (mkF m 56 #[.val (.int p1), .val (.int p2), .val (.int (3 : Int32)), .val (.ref b_41), .unset, .unset, .unset] [(.int (7 : Int32)), (.int ((p2.toUInt32 >>> ((12 : Int32) &&& 31).toUInt32).toInt32)), (.int (4 : Int32)), (.ref b_41)])) _
      refine XS.iand X_45.here hx rfl (hb hby at_56) rfl ?_
      show Steps p.tables e below (T_45.setTop (mkF m 57 #[.val (.int p1), .val (.int p2), .val (.int (3 : Int32)), .val (.ref b_41), .unset, .unset, .unset] [(.int (((p2.toUInt32 >>> ((12 : Int32) &&& 31).toUInt32).toInt32) &&& (7 : Int32))), (.int (4 : Int32)), (.ref b_41)])) _
      refine st_46 _ ?_
      show Steps p.tables e below (T_46.setTop (mkF m 58 #[.val (.int p1), .val (.int p2), .val (.int (3 : Int32)), .val (.ref b_41), .unset, .unset, .unset] [])) _
      refine XS.iloadN X_46.here hx rfl (hb hby at_58) rfl ?_
      show Steps p.tables e below (T_46.setTop (mkF m 59 #[.val (.int p1), .val (.int p2), .val (.int (3 : Int32)), .val (.ref b_41), .unset, .unset, .unset] [(.int (3 : Int32))])) _
      refine st_47 _ ?_
      show Steps p.tables e below (T_47.setTop (mkF m 61 #[.val (.int p1), .val (.int p2), .val (.int (3 : Int32)), .val (.ref b_41), .unset, .unset, .unset] [(.ref b_47)])) _
      refine XS.astore X_47.here hx rfl (hb hby at_61) rfl rfl (l' := #[.val (.int p1), .val (.int p2), .val (.int (3 : Int32)), .val (.ref b_41), .val (.ref b_47), .unset, .unset]) rfl ?_
      show Steps p.tables e below (T_47.setTop (mkF m 63 #[.val (.int p1), .val (.int p2), .val (.int (3 : Int32)), .val (.ref b_41), .val (.ref b_47), .unset, .unset] [])) _
      refine XS.iloadN X_47.here hx rfl (hb hby at_63) rfl ?_
      show Steps p.tables e below (T_47.setTop (mkF m 64 #[.val (.int p1), .val (.int p2), .val (.int (3 : Int32)), .val (.ref b_41), .val (.ref b_47), .unset, .unset] [(.int (3 : Int32))])) _
      refine XS.ifNo X_47.here hx rfl (hb hby at_64) rfl ((if0 _ _).trans (tlt (by decide : (0 : Int32) < (3 : Int32))).2.2.2) ?_
      show Steps p.tables e below (T_47.setTop (mkF m 67 #[.val (.int p1), .val (.int p2), .val (.int (3 : Int32)), .val (.ref b_41), .val (.ref b_47), .unset, .unset] [])) _
      refine XS.aload X_47.here hx rfl (hb hby at_67) rfl rfl ?_
      show Steps p.tables e below (T_47.setTop (mkF m 69 #[.val (.int p1), .val (.int p2), .val (.int (3 : Int32)), .val (.ref b_41), .val (.ref b_47), .unset, .unset] [(.ref b_47)])) _
      refine XS.iconst X_47.here hx rfl (hb hby at_69) ?_
      show Steps p.tables e below (T_47.setTop (mkF m 70 #[.val (.int p1), .val (.int p2), .val (.int (3 : Int32)), .val (.ref b_41), .val (.ref b_47), .unset, .unset] [(.int (0 : Int32)), (.ref b_47)])) _
      refine XS.aloadN X_47.here hx rfl (hb hby at_70) rfl rfl ?_
      show Steps p.tables e below (T_47.setTop (mkF m 71 #[.val (.int p1), .val (.int p2), .val (.int (3 : Int32)), .val (.ref b_41), .val (.ref b_47), .unset, .unset] [(.ref b_41), (.int (0 : Int32)), (.ref b_47)])) _
      refine XS.iloadN X_47.here hx rfl (hb hby at_71) rfl ?_
      show Steps p.tables e below (T_47.setTop (mkF m 72 #[.val (.int p1), .val (.int p2), .val (.int (3 : Int32)), .val (.ref b_41), .val (.ref b_47), .unset, .unset] [(.int (3 : Int32)), (.ref b_41), (.int (0 : Int32)), (.ref b_47)])) _
      refine XS.iconst X_47.here hx rfl (hb hby at_72) ?_
      show Steps p.tables e below (T_47.setTop (mkF m 73 #[.val (.int p1), .val (.int p2), .val (.int (3 : Int32)), .val (.ref b_41), .val (.ref b_47), .unset, .unset] [(.int (0 : Int32)), (.int (3 : Int32)), (.ref b_41), (.int (0 : Int32)), (.ref b_47)])) _
      refine st_48 _ ?_
      show Steps p.tables e below (T_48.setTop (mkF m 76 #[.val (.int p1), .val (.int p2), .val (.int (3 : Int32)), .val (.ref b_41), .val (.ref b_47), .unset, .unset] [(.int (own_lcp (3 : Int32) (0 : Int32) f5)), (.int (0 : Int32)), (.ref b_47)])) _
      refine st_49 _ ?_
      show Steps p.tables e below (T_49.setTop (mkF m 77 #[.val (.int p1), .val (.int p2), .val (.int (3 : Int32)), .val (.ref b_41), .val (.ref b_47), .unset, .unset] [])) _
      refine XS.iloadN X_49.here hx rfl (hb hby at_77) rfl ?_
      show Steps p.tables e below (T_49.setTop (mkF m 78 #[.val (.int p1), .val (.int p2), .val (.int (3 : Int32)), .val (.ref b_41), .val (.ref b_47), .unset, .unset] [(.int (3 : Int32))])) _
      refine XS.iconst X_49.here hx rfl (hb hby at_78) ?_
      show Steps p.tables e below (T_49.setTop (mkF m 79 #[.val (.int p1), .val (.int p2), .val (.int (3 : Int32)), .val (.ref b_41), .val (.ref b_47), .unset, .unset] [(.int (1 : Int32)), (.int (3 : Int32))])) _
      refine XS.icmpNo X_49.here hx rfl (hb hby at_79) rfl (tlt (by decide : (1 : Int32) < (3 : Int32))).2.2.2 ?_
      show Steps p.tables e below (T_49.setTop (mkF m 82 #[.val (.int p1), .val (.int p2), .val (.int (3 : Int32)), .val (.ref b_41), .val (.ref b_47), .unset, .unset] [])) _
      refine XS.aload X_49.here hx rfl (hb hby at_82) rfl rfl ?_
      show Steps p.tables e below (T_49.setTop (mkF m 84 #[.val (.int p1), .val (.int p2), .val (.int (3 : Int32)), .val (.ref b_41), .val (.ref b_47), .unset, .unset] [(.ref b_47)])) _
      refine XS.iconst X_49.here hx rfl (hb hby at_84) ?_
      show Steps p.tables e below (T_49.setTop (mkF m 85 #[.val (.int p1), .val (.int p2), .val (.int (3 : Int32)), .val (.ref b_41), .val (.ref b_47), .unset, .unset] [(.int (1 : Int32)), (.ref b_47)])) _
      refine XS.aloadN X_49.here hx rfl (hb hby at_85) rfl rfl ?_
      show Steps p.tables e below (T_49.setTop (mkF m 86 #[.val (.int p1), .val (.int p2), .val (.int (3 : Int32)), .val (.ref b_41), .val (.ref b_47), .unset, .unset] [(.ref b_41), (.int (1 : Int32)), (.ref b_47)])) _
      refine XS.iloadN X_49.here hx rfl (hb hby at_86) rfl ?_
      show Steps p.tables e below (T_49.setTop (mkF m 87 #[.val (.int p1), .val (.int p2), .val (.int (3 : Int32)), .val (.ref b_41), .val (.ref b_47), .unset, .unset] [(.int (3 : Int32)), (.ref b_41), (.int (1 : Int32)), (.ref b_47)])) _
      refine XS.iconst X_49.here hx rfl (hb hby at_87) ?_
      show Steps p.tables e below (T_49.setTop (mkF m 88 #[.val (.int p1), .val (.int p2), .val (.int (3 : Int32)), .val (.ref b_41), .val (.ref b_47), .unset, .unset] [(.int (1 : Int32)), (.int (3 : Int32)), (.ref b_41), (.int (1 : Int32)), (.ref b_47)])) _
      refine st_50 _ ?_
      show Steps p.tables e below (T_50.setTop (mkF m 91 #[.val (.int p1), .val (.int p2), .val (.int (3 : Int32)), .val (.ref b_41), .val (.ref b_47), .unset, .unset] [(.int (own_lcp (3 : Int32) (1 : Int32) f5)), (.int (1 : Int32)), (.ref b_47)])) _
      refine st_51 _ ?_
      show Steps p.tables e below (T_51.setTop (mkF m 92 #[.val (.int p1), .val (.int p2), .val (.int (3 : Int32)), .val (.ref b_41), .val (.ref b_47), .unset, .unset] [])) _
      refine XS.iloadN X_51.here hx rfl (hb hby at_92) rfl ?_
      show Steps p.tables e below (T_51.setTop (mkF m 93 #[.val (.int p1), .val (.int p2), .val (.int (3 : Int32)), .val (.ref b_41), .val (.ref b_47), .unset, .unset] [(.int (3 : Int32))])) _
      refine XS.iconst X_51.here hx rfl (hb hby at_93) ?_
      show Steps p.tables e below (T_51.setTop (mkF m 94 #[.val (.int p1), .val (.int p2), .val (.int (3 : Int32)), .val (.ref b_41), .val (.ref b_47), .unset, .unset] [(.int (2 : Int32)), (.int (3 : Int32))])) _
      refine XS.icmpNo X_51.here hx rfl (hb hby at_94) rfl (tlt (by decide : (2 : Int32) < (3 : Int32))).2.2.2 ?_
      show Steps p.tables e below (T_51.setTop (mkF m 97 #[.val (.int p1), .val (.int p2), .val (.int (3 : Int32)), .val (.ref b_41), .val (.ref b_47), .unset, .unset] [])) _
      refine XS.aload X_51.here hx rfl (hb hby at_97) rfl rfl ?_
      show Steps p.tables e below (T_51.setTop (mkF m 99 #[.val (.int p1), .val (.int p2), .val (.int (3 : Int32)), .val (.ref b_41), .val (.ref b_47), .unset, .unset] [(.ref b_47)])) _
      refine XS.iconst X_51.here hx rfl (hb hby at_99) ?_
      show Steps p.tables e below (T_51.setTop (mkF m 100 #[.val (.int p1), .val (.int p2), .val (.int (3 : Int32)), .val (.ref b_41), .val (.ref b_47), .unset, .unset] [(.int (2 : Int32)), (.ref b_47)])) _
      refine XS.aloadN X_51.here hx rfl (hb hby at_100) rfl rfl ?_
      show Steps p.tables e below (T_51.setTop (mkF m 101 #[.val (.int p1), .val (.int p2), .val (.int (3 : Int32)), .val (.ref b_41), .val (.ref b_47), .unset, .unset] [(.ref b_41), (.int (2 : Int32)), (.ref b_47)])) _
      refine XS.iloadN X_51.here hx rfl (hb hby at_101) rfl ?_
      show Steps p.tables e below (T_51.setTop (mkF m 102 #[.val (.int p1), .val (.int p2), .val (.int (3 : Int32)), .val (.ref b_41), .val (.ref b_47), .unset, .unset] [(.int (3 : Int32)), (.ref b_41), (.int (2 : Int32)), (.ref b_47)])) _
      refine XS.iconst X_51.here hx rfl (hb hby at_102) ?_
      show Steps p.tables e below (T_51.setTop (mkF m 103 #[.val (.int p1), .val (.int p2), .val (.int (3 : Int32)), .val (.ref b_41), .val (.ref b_47), .unset, .unset] [(.int (2 : Int32)), (.int (3 : Int32)), (.ref b_41), (.int (2 : Int32)), (.ref b_47)])) _
      refine st_52 _ ?_
      show Steps p.tables e below (T_52.setTop (mkF m 106 #[.val (.int p1), .val (.int p2), .val (.int (3 : Int32)), .val (.ref b_41), .val (.ref b_47), .unset, .unset] [(.int (own_lcp (3 : Int32) (2 : Int32) f5)), (.int (2 : Int32)), (.ref b_47)])) _
      refine st_53 _ ?_
      show Steps p.tables e below (T_53.setTop (mkF m 107 #[.val (.int p1), .val (.int p2), .val (.int (3 : Int32)), .val (.ref b_41), .val (.ref b_47), .unset, .unset] [])) _
      refine XS.iloadN X_53.here hx rfl (hb hby at_107) rfl ?_
      show Steps p.tables e below (T_53.setTop (mkF m 108 #[.val (.int p1), .val (.int p2), .val (.int (3 : Int32)), .val (.ref b_41), .val (.ref b_47), .unset, .unset] [(.int (3 : Int32))])) _
      refine XS.iconst X_53.here hx rfl (hb hby at_108) ?_
      show Steps p.tables e below (T_53.setTop (mkF m 109 #[.val (.int p1), .val (.int p2), .val (.int (3 : Int32)), .val (.ref b_41), .val (.ref b_47), .unset, .unset] [(.int (3 : Int32)), (.int (3 : Int32))])) _
      refine XS.icmpYes X_53.here hx rfl (pc0 := 109) (pc' := 122) rfl (hb hby at_109) rfl (flt (by decide : ¬ ((3 : Int32) < (3 : Int32)))).2.2.2 (by decide) (by decide) ?_
      show Steps p.tables e below (T_53.setTop (mkF m 122 #[.val (.int p1), .val (.int p2), .val (.int (3 : Int32)), .val (.ref b_41), .val (.ref b_47), .unset, .unset] [])) _
      refine XS.iloadN X_53.here hx rfl (hb hby at_122) rfl ?_
      show Steps p.tables e below (T_53.setTop (mkF m 123 #[.val (.int p1), .val (.int p2), .val (.int (3 : Int32)), .val (.ref b_41), .val (.ref b_47), .unset, .unset] [(.int (3 : Int32))])) _
      refine XS.iconst X_53.here hx rfl (hb hby at_123) ?_
      show Steps p.tables e below (T_53.setTop (mkF m 124 #[.val (.int p1), .val (.int p2), .val (.int (3 : Int32)), .val (.ref b_41), .val (.ref b_47), .unset, .unset] [(.int (4 : Int32)), (.int (3 : Int32))])) _
      refine XS.icmpYes X_53.here hx rfl (pc0 := 124) (pc' := 137) rfl (hb hby at_124) rfl (flt (by decide : ¬ ((4 : Int32) < (3 : Int32)))).2.2.2 (by decide) (by decide) ?_
      show Steps p.tables e below (T_53.setTop (mkF m 137 #[.val (.int p1), .val (.int p2), .val (.int (3 : Int32)), .val (.ref b_41), .val (.ref b_47), .unset, .unset] [])) _
      refine XS.aload X_53.here hx rfl (hb hby at_137) rfl rfl ?_
      show Steps p.tables e below (T_53.setTop (mkF m 139 #[.val (.int p1), .val (.int p2), .val (.int (3 : Int32)), .val (.ref b_41), .val (.ref b_47), .unset, .unset] [(.ref b_47)])) _
      refine st_54 _ ?_
      show Steps p.tables e below (T_54.setTop (mkF m 142 #[.val (.int p1), .val (.int p2), .val (.int (3 : Int32)), .val (.ref b_41), .val (.ref b_47), .unset, .unset] [(.ref r_54)])) _
      refine XS.astore X_54.here hx rfl (hb hby at_142) rfl rfl (l' := #[.val (.int p1), .val (.int p2), .val (.int (3 : Int32)), .val (.ref b_41), .val (.ref b_47), .val (.ref r_54), .unset]) rfl ?_
      show Steps p.tables e below (T_54.setTop (mkF m 144 #[.val (.int p1), .val (.int p2), .val (.int (3 : Int32)), .val (.ref b_41), .val (.ref b_47), .val (.ref r_54), .unset] [])) _
      refine XS.aload X_54.here hx rfl (hb hby at_144) rfl rfl ?_
      show Steps p.tables e below (T_54.setTop (mkF m 146 #[.val (.int p1), .val (.int p2), .val (.int (3 : Int32)), .val (.ref b_41), .val (.ref b_47), .val (.ref r_54), .unset] [(.ref r_54)])) _
      refine X_54.arraylength hx Ar_56.1 (State.isArrayOf_alike hZ.alike Ar_56.2.1) (g := (mkF m 146 #[.val (.int p1), .val (.int p2), .val (.int (3 : Int32)), .val (.ref b_41), .val (.ref b_47), .val (.ref r_54), .unset] [(.ref r_54)])) rfl rfl (hb hby at_146) _ ?_
      rw [Sz_56]
      show Steps p.tables e below (T_54.setTop (mkF m 147 #[.val (.int p1), .val (.int p2), .val (.int (3 : Int32)), .val (.ref b_41), .val (.ref b_47), .val (.ref r_54), .unset] [(.int (3 : Int32))])) _
      refine XS.iloadN X_54.here hx rfl (hb hby at_147) rfl ?_
      show Steps p.tables e below (T_54.setTop (mkF m 148 #[.val (.int p1), .val (.int p2), .val (.int (3 : Int32)), .val (.ref b_41), .val (.ref b_47), .val (.ref r_54), .unset] [(.int (3 : Int32)), (.int (3 : Int32))])) _
      refine XS.icmpNo X_54.here hx rfl (hb hby at_148) rfl (teq (by decide : (3 : Int32) = (3 : Int32))).2 ?_
      show Steps p.tables e below (T_54.setTop (mkF m 151 #[.val (.int p1), .val (.int p2), .val (.int (3 : Int32)), .val (.ref b_41), .val (.ref b_47), .val (.ref r_54), .unset] [])) _
      refine XS.iconst X_54.here hx rfl (hb hby at_151) ?_
      show Steps p.tables e below (T_54.setTop (mkF m 152 #[.val (.int p1), .val (.int p2), .val (.int (3 : Int32)), .val (.ref b_41), .val (.ref b_47), .val (.ref r_54), .unset] [(.int (1 : Int32))])) _
      refine XS.goto X_54.here hx rfl (pc0 := 152) (pc' := 156) rfl (hb hby at_152) (by decide) (by decide) ?_
      show Steps p.tables e below (T_54.setTop (mkF m 156 #[.val (.int p1), .val (.int p2), .val (.int (3 : Int32)), .val (.ref b_41), .val (.ref b_47), .val (.ref r_54), .unset] [(.int (1 : Int32))])) _
      refine XS.istore X_54.here hx rfl (hb hby at_156) rfl (l' := #[.val (.int p1), .val (.int p2), .val (.int (3 : Int32)), .val (.ref b_41), .val (.ref b_47), .val (.ref r_54), .val (.int (1 : Int32))]) rfl ?_
      show Steps p.tables e below (T_54.setTop (mkF m 158 #[.val (.int p1), .val (.int p2), .val (.int (3 : Int32)), .val (.ref b_41), .val (.ref b_47), .val (.ref r_54), .val (.int (1 : Int32))] [])) _
      refine XS.iloadN X_54.here hx rfl (hb hby at_158) rfl ?_
      show Steps p.tables e below (T_54.setTop (mkF m 159 #[.val (.int p1), .val (.int p2), .val (.int (3 : Int32)), .val (.ref b_41), .val (.ref b_47), .val (.ref r_54), .val (.int (1 : Int32))] [(.int (3 : Int32))])) _
      refine XS.ifNo X_54.here hx rfl (hb hby at_159) rfl ((if0 _ _).trans (tlt (by decide : (0 : Int32) < (3 : Int32))).2.2.2) ?_
      show Steps p.tables e below (T_54.setTop (mkF m 162 #[.val (.int p1), .val (.int p2), .val (.int (3 : Int32)), .val (.ref b_41), .val (.ref b_47), .val (.ref r_54), .val (.int (1 : Int32))] [])) _
      refine XS.iload X_54.here hx rfl (hb hby at_162) rfl ?_
      show Steps p.tables e below (T_54.setTop (mkF m 164 #[.val (.int p1), .val (.int p2), .val (.int (3 : Int32)), .val (.ref b_41), .val (.ref b_47), .val (.ref r_54), .val (.int (1 : Int32))] [(.int (1 : Int32))])) _
      refine XS.ifNo X_54.here hx rfl (hb hby at_164) rfl ((if0 _ _).trans (feq (by decide : ¬ ((1 : Int32) = (0 : Int32)))).1) ?_
      show Steps p.tables e below (T_54.setTop (mkF m 167 #[.val (.int p1), .val (.int p2), .val (.int (3 : Int32)), .val (.ref b_41), .val (.ref b_47), .val (.ref r_54), .val (.int (1 : Int32))] [])) _
      refine XS.aload X_54.here hx rfl (hb hby at_167) rfl rfl ?_
      show Steps p.tables e below (T_54.setTop (mkF m 169 #[.val (.int p1), .val (.int p2), .val (.int (3 : Int32)), .val (.ref b_41), .val (.ref b_47), .val (.ref r_54), .val (.int (1 : Int32))] [(.ref r_54)])) _
      refine XS.iconst X_54.here hx rfl (hb hby at_169) ?_
      show Steps p.tables e below (T_54.setTop (mkF m 170 #[.val (.int p1), .val (.int p2), .val (.int (3 : Int32)), .val (.ref b_41), .val (.ref b_47), .val (.ref r_54), .val (.int (1 : Int32))] [(.int (0 : Int32)), (.ref r_54)])) _
      refine X_54.iaload hx (j := (0 : Int32)) (v := (.int ((own_out 3 fz) 0))) Ar_56.1 (State.isArrayOf_alike hZ.alike Ar_56.2.1) Ar_56.2.2 (own_inb Sz_56 (show ¬ ((0 : Int32) < 0 ∨ 3 ≤ ((0 : Int32)).toNatClampNeg) from (by decide))) (by have q := At_56 _ (own_ltn (show ¬ ((0 : Int32) < 0 ∨ 3 ≤ ((0 : Int32)).toNatClampNeg) from (by decide))); rw [show ((0 : Int32)).toNatClampNeg = 0 from by decide] at q ⊢; exact q) (g := (mkF m 170 #[.val (.int p1), .val (.int p2), .val (.int (3 : Int32)), .val (.ref b_41), .val (.ref b_47), .val (.ref r_54), .val (.int (1 : Int32))] [(.int (0 : Int32)), (.ref r_54)])) rfl rfl (hb hby at_170) _ ?_
      show Steps p.tables e below (T_54.setTop (mkF m 171 #[.val (.int p1), .val (.int p2), .val (.int (3 : Int32)), .val (.ref b_41), .val (.ref b_47), .val (.ref r_54), .val (.int (1 : Int32))] [(.int ((own_out 3 fz) 0))])) _
      refine XS.aloadN X_54.here hx rfl (hb hby at_171) rfl rfl ?_
      show Steps p.tables e below (T_54.setTop (mkF m 172 #[.val (.int p1), .val (.int p2), .val (.int (3 : Int32)), .val (.ref b_41), .val (.ref b_47), .val (.ref r_54), .val (.int (1 : Int32))] [(.ref b_41), (.int ((own_out 3 fz) 0))])) _
      refine XS.iconst X_54.here hx rfl (hb hby at_172) ?_
      show Steps p.tables e below (T_54.setTop (mkF m 173 #[.val (.int p1), .val (.int p2), .val (.int (3 : Int32)), .val (.ref b_41), .val (.ref b_47), .val (.ref r_54), .val (.int (1 : Int32))] [(.int (0 : Int32)), (.ref b_41), (.int ((own_out 3 fz) 0))])) _
      refine st_57 _ ?_
      show Steps p.tables e below (T_57.setTop (mkF m 176 #[.val (.int p1), .val (.int p2), .val (.int (3 : Int32)), .val (.ref b_41), .val (.ref b_47), .val (.ref r_54), .val (.int (1 : Int32))] [(.int (own_border (0 : Int32) f5)), (.int ((own_out 3 fz) 0))])) _
      refine XS.icmpNo X_57.here hx rfl (hb hby at_176) rfl (teq (own_good3_0 f5 fz ht5 z_1 z_2 : ((own_out 3 fz) 0) = (own_border (0 : Int32) f5))).2 ?_
      show Steps p.tables e below (T_57.setTop (mkF m 179 #[.val (.int p1), .val (.int p2), .val (.int (3 : Int32)), .val (.ref b_41), .val (.ref b_47), .val (.ref r_54), .val (.int (1 : Int32))] [])) _
      refine XS.iconst X_57.here hx rfl (hb hby at_179) ?_
      show Steps p.tables e below (T_57.setTop (mkF m 180 #[.val (.int p1), .val (.int p2), .val (.int (3 : Int32)), .val (.ref b_41), .val (.ref b_47), .val (.ref r_54), .val (.int (1 : Int32))] [(.int (1 : Int32))])) _
      refine XS.goto X_57.here hx rfl (pc0 := 180) (pc' := 184) rfl (hb hby at_180) (by decide) (by decide) ?_
      show Steps p.tables e below (T_57.setTop (mkF m 184 #[.val (.int p1), .val (.int p2), .val (.int (3 : Int32)), .val (.ref b_41), .val (.ref b_47), .val (.ref r_54), .val (.int (1 : Int32))] [(.int (1 : Int32))])) _
      refine XS.istore X_57.here hx rfl (hb hby at_184) rfl (l' := #[.val (.int p1), .val (.int p2), .val (.int (3 : Int32)), .val (.ref b_41), .val (.ref b_47), .val (.ref r_54), .val (.int (1 : Int32))]) rfl ?_
      show Steps p.tables e below (T_57.setTop (mkF m 186 #[.val (.int p1), .val (.int p2), .val (.int (3 : Int32)), .val (.ref b_41), .val (.ref b_47), .val (.ref r_54), .val (.int (1 : Int32))] [])) _
      refine XS.iloadN X_57.here hx rfl (hb hby at_186) rfl ?_
      show Steps p.tables e below (T_57.setTop (mkF m 187 #[.val (.int p1), .val (.int p2), .val (.int (3 : Int32)), .val (.ref b_41), .val (.ref b_47), .val (.ref r_54), .val (.int (1 : Int32))] [(.int (3 : Int32))])) _
      refine XS.iconst X_57.here hx rfl (hb hby at_187) ?_
      show Steps p.tables e below (T_57.setTop (mkF m 188 #[.val (.int p1), .val (.int p2), .val (.int (3 : Int32)), .val (.ref b_41), .val (.ref b_47), .val (.ref r_54), .val (.int (1 : Int32))] [(.int (1 : Int32)), (.int (3 : Int32))])) _
      refine XS.icmpNo X_57.here hx rfl (hb hby at_188) rfl (tlt (by decide : (1 : Int32) < (3 : Int32))).2.2.2 ?_
      show Steps p.tables e below (T_57.setTop (mkF m 191 #[.val (.int p1), .val (.int p2), .val (.int (3 : Int32)), .val (.ref b_41), .val (.ref b_47), .val (.ref r_54), .val (.int (1 : Int32))] [])) _
      refine XS.iload X_57.here hx rfl (hb hby at_191) rfl ?_
      show Steps p.tables e below (T_57.setTop (mkF m 193 #[.val (.int p1), .val (.int p2), .val (.int (3 : Int32)), .val (.ref b_41), .val (.ref b_47), .val (.ref r_54), .val (.int (1 : Int32))] [(.int (1 : Int32))])) _
      refine XS.ifNo X_57.here hx rfl (hb hby at_193) rfl ((if0 _ _).trans (feq (by decide : ¬ ((1 : Int32) = (0 : Int32)))).1) ?_
      show Steps p.tables e below (T_57.setTop (mkF m 196 #[.val (.int p1), .val (.int p2), .val (.int (3 : Int32)), .val (.ref b_41), .val (.ref b_47), .val (.ref r_54), .val (.int (1 : Int32))] [])) _
      refine XS.aload X_57.here hx rfl (hb hby at_196) rfl rfl ?_
      show Steps p.tables e below (T_57.setTop (mkF m 198 #[.val (.int p1), .val (.int p2), .val (.int (3 : Int32)), .val (.ref b_41), .val (.ref b_47), .val (.ref r_54), .val (.int (1 : Int32))] [(.ref r_54)])) _
      refine XS.iconst X_57.here hx rfl (hb hby at_198) ?_
      show Steps p.tables e below (T_57.setTop (mkF m 199 #[.val (.int p1), .val (.int p2), .val (.int (3 : Int32)), .val (.ref b_41), .val (.ref b_47), .val (.ref r_54), .val (.int (1 : Int32))] [(.int (1 : Int32)), (.ref r_54)])) _
      refine X_57.iaload hx (j := (1 : Int32)) (v := (.int ((own_out 3 fz) 1))) (by rw [e_57]; exact Ar_56.1) (State.isArrayOf_alike hZ.alike Ar_56.2.1) Ar_56.2.2 (own_inb Sz_56 (show ¬ ((1 : Int32) < 0 ∨ 3 ≤ ((1 : Int32)).toNatClampNeg) from (by decide))) (by have q := At_56 _ (own_ltn (show ¬ ((1 : Int32) < 0 ∨ 3 ≤ ((1 : Int32)).toNatClampNeg) from (by decide))); rw [show ((1 : Int32)).toNatClampNeg = 1 from by decide] at q ⊢; exact q) (g := (mkF m 199 #[.val (.int p1), .val (.int p2), .val (.int (3 : Int32)), .val (.ref b_41), .val (.ref b_47), .val (.ref r_54), .val (.int (1 : Int32))] [(.int (1 : Int32)), (.ref r_54)])) rfl rfl (hb hby at_199) _ ?_
      show Steps p.tables e below (T_57.setTop (mkF m 200 #[.val (.int p1), .val (.int p2), .val (.int (3 : Int32)), .val (.ref b_41), .val (.ref b_47), .val (.ref r_54), .val (.int (1 : Int32))] [(.int ((own_out 3 fz) 1))])) _
      refine XS.aloadN X_57.here hx rfl (hb hby at_200) rfl rfl ?_
      show Steps p.tables e below (T_57.setTop (mkF m 201 #[.val (.int p1), .val (.int p2), .val (.int (3 : Int32)), .val (.ref b_41), .val (.ref b_47), .val (.ref r_54), .val (.int (1 : Int32))] [(.ref b_41), (.int ((own_out 3 fz) 1))])) _
      refine XS.iconst X_57.here hx rfl (hb hby at_201) ?_
      show Steps p.tables e below (T_57.setTop (mkF m 202 #[.val (.int p1), .val (.int p2), .val (.int (3 : Int32)), .val (.ref b_41), .val (.ref b_47), .val (.ref r_54), .val (.int (1 : Int32))] [(.int (1 : Int32)), (.ref b_41), (.int ((own_out 3 fz) 1))])) _
      refine st_58 _ ?_
      show Steps p.tables e below (T_58.setTop (mkF m 205 #[.val (.int p1), .val (.int p2), .val (.int (3 : Int32)), .val (.ref b_41), .val (.ref b_47), .val (.ref r_54), .val (.int (1 : Int32))] [(.int (own_border (1 : Int32) f5)), (.int ((own_out 3 fz) 1))])) _
      refine XS.icmpNo X_58.here hx rfl (hb hby at_205) rfl (teq (own_good3_1 f5 fz ht5 z_1 z_2 : ((own_out 3 fz) 1) = (own_border (1 : Int32) f5))).2 ?_
      show Steps p.tables e below (T_58.setTop (mkF m 208 #[.val (.int p1), .val (.int p2), .val (.int (3 : Int32)), .val (.ref b_41), .val (.ref b_47), .val (.ref r_54), .val (.int (1 : Int32))] [])) _
      refine XS.iconst X_58.here hx rfl (hb hby at_208) ?_
      show Steps p.tables e below (T_58.setTop (mkF m 209 #[.val (.int p1), .val (.int p2), .val (.int (3 : Int32)), .val (.ref b_41), .val (.ref b_47), .val (.ref r_54), .val (.int (1 : Int32))] [(.int (1 : Int32))])) _
      refine XS.goto X_58.here hx rfl (pc0 := 209) (pc' := 213) rfl (hb hby at_209) (by decide) (by decide) ?_
      show Steps p.tables e below (T_58.setTop (mkF m 213 #[.val (.int p1), .val (.int p2), .val (.int (3 : Int32)), .val (.ref b_41), .val (.ref b_47), .val (.ref r_54), .val (.int (1 : Int32))] [(.int (1 : Int32))])) _
      refine XS.istore X_58.here hx rfl (hb hby at_213) rfl (l' := #[.val (.int p1), .val (.int p2), .val (.int (3 : Int32)), .val (.ref b_41), .val (.ref b_47), .val (.ref r_54), .val (.int (1 : Int32))]) rfl ?_
      show Steps p.tables e below (T_58.setTop (mkF m 215 #[.val (.int p1), .val (.int p2), .val (.int (3 : Int32)), .val (.ref b_41), .val (.ref b_47), .val (.ref r_54), .val (.int (1 : Int32))] [])) _
      refine XS.iloadN X_58.here hx rfl (hb hby at_215) rfl ?_
      show Steps p.tables e below (T_58.setTop (mkF m 216 #[.val (.int p1), .val (.int p2), .val (.int (3 : Int32)), .val (.ref b_41), .val (.ref b_47), .val (.ref r_54), .val (.int (1 : Int32))] [(.int (3 : Int32))])) _
      refine XS.iconst X_58.here hx rfl (hb hby at_216) ?_
      show Steps p.tables e below (T_58.setTop (mkF m 217 #[.val (.int p1), .val (.int p2), .val (.int (3 : Int32)), .val (.ref b_41), .val (.ref b_47), .val (.ref r_54), .val (.int (1 : Int32))] [(.int (2 : Int32)), (.int (3 : Int32))])) _
      refine XS.icmpNo X_58.here hx rfl (hb hby at_217) rfl (tlt (by decide : (2 : Int32) < (3 : Int32))).2.2.2 ?_
      show Steps p.tables e below (T_58.setTop (mkF m 220 #[.val (.int p1), .val (.int p2), .val (.int (3 : Int32)), .val (.ref b_41), .val (.ref b_47), .val (.ref r_54), .val (.int (1 : Int32))] [])) _
      refine XS.iload X_58.here hx rfl (hb hby at_220) rfl ?_
      show Steps p.tables e below (T_58.setTop (mkF m 222 #[.val (.int p1), .val (.int p2), .val (.int (3 : Int32)), .val (.ref b_41), .val (.ref b_47), .val (.ref r_54), .val (.int (1 : Int32))] [(.int (1 : Int32))])) _
      refine XS.ifNo X_58.here hx rfl (hb hby at_222) rfl ((if0 _ _).trans (feq (by decide : ¬ ((1 : Int32) = (0 : Int32)))).1) ?_
      show Steps p.tables e below (T_58.setTop (mkF m 225 #[.val (.int p1), .val (.int p2), .val (.int (3 : Int32)), .val (.ref b_41), .val (.ref b_47), .val (.ref r_54), .val (.int (1 : Int32))] [])) _
      refine XS.aload X_58.here hx rfl (hb hby at_225) rfl rfl ?_
      show Steps p.tables e below (T_58.setTop (mkF m 227 #[.val (.int p1), .val (.int p2), .val (.int (3 : Int32)), .val (.ref b_41), .val (.ref b_47), .val (.ref r_54), .val (.int (1 : Int32))] [(.ref r_54)])) _
      refine XS.iconst X_58.here hx rfl (hb hby at_227) ?_
      show Steps p.tables e below (T_58.setTop (mkF m 228 #[.val (.int p1), .val (.int p2), .val (.int (3 : Int32)), .val (.ref b_41), .val (.ref b_47), .val (.ref r_54), .val (.int (1 : Int32))] [(.int (2 : Int32)), (.ref r_54)])) _
      refine X_58.iaload hx (j := (2 : Int32)) (v := (.int ((own_out 3 fz) 2))) (by rw [e_58]; exact Ar_56.1) (State.isArrayOf_alike hZ.alike Ar_56.2.1) Ar_56.2.2 (own_inb Sz_56 (show ¬ ((2 : Int32) < 0 ∨ 3 ≤ ((2 : Int32)).toNatClampNeg) from (by decide))) (by have q := At_56 _ (own_ltn (show ¬ ((2 : Int32) < 0 ∨ 3 ≤ ((2 : Int32)).toNatClampNeg) from (by decide))); rw [show ((2 : Int32)).toNatClampNeg = 2 from by decide] at q ⊢; exact q) (g := (mkF m 228 #[.val (.int p1), .val (.int p2), .val (.int (3 : Int32)), .val (.ref b_41), .val (.ref b_47), .val (.ref r_54), .val (.int (1 : Int32))] [(.int (2 : Int32)), (.ref r_54)])) rfl rfl (hb hby at_228) _ ?_
      show Steps p.tables e below (T_58.setTop (mkF m 229 #[.val (.int p1), .val (.int p2), .val (.int (3 : Int32)), .val (.ref b_41), .val (.ref b_47), .val (.ref r_54), .val (.int (1 : Int32))] [(.int ((own_out 3 fz) 2))])) _
      refine XS.aloadN X_58.here hx rfl (hb hby at_229) rfl rfl ?_
      show Steps p.tables e below (T_58.setTop (mkF m 230 #[.val (.int p1), .val (.int p2), .val (.int (3 : Int32)), .val (.ref b_41), .val (.ref b_47), .val (.ref r_54), .val (.int (1 : Int32))] [(.ref b_41), (.int ((own_out 3 fz) 2))])) _
      refine XS.iconst X_58.here hx rfl (hb hby at_230) ?_
      show Steps p.tables e below (T_58.setTop (mkF m 231 #[.val (.int p1), .val (.int p2), .val (.int (3 : Int32)), .val (.ref b_41), .val (.ref b_47), .val (.ref r_54), .val (.int (1 : Int32))] [(.int (2 : Int32)), (.ref b_41), (.int ((own_out 3 fz) 2))])) _
      refine st_59 _ ?_
      show Steps p.tables e below (T_59.setTop (mkF m 234 #[.val (.int p1), .val (.int p2), .val (.int (3 : Int32)), .val (.ref b_41), .val (.ref b_47), .val (.ref r_54), .val (.int (1 : Int32))] [(.int (own_border (2 : Int32) f5)), (.int ((own_out 3 fz) 2))])) _
      refine XS.icmpNo X_59.here hx rfl (hb hby at_234) rfl (teq (own_good3_2 f5 fz ht5 z_1 z_2 : ((own_out 3 fz) 2) = (own_border (2 : Int32) f5))).2 ?_
      show Steps p.tables e below (T_59.setTop (mkF m 237 #[.val (.int p1), .val (.int p2), .val (.int (3 : Int32)), .val (.ref b_41), .val (.ref b_47), .val (.ref r_54), .val (.int (1 : Int32))] [])) _
      refine XS.iconst X_59.here hx rfl (hb hby at_237) ?_
      show Steps p.tables e below (T_59.setTop (mkF m 238 #[.val (.int p1), .val (.int p2), .val (.int (3 : Int32)), .val (.ref b_41), .val (.ref b_47), .val (.ref r_54), .val (.int (1 : Int32))] [(.int (1 : Int32))])) _
      refine XS.goto X_59.here hx rfl (pc0 := 238) (pc' := 242) rfl (hb hby at_238) (by decide) (by decide) ?_
      show Steps p.tables e below (T_59.setTop (mkF m 242 #[.val (.int p1), .val (.int p2), .val (.int (3 : Int32)), .val (.ref b_41), .val (.ref b_47), .val (.ref r_54), .val (.int (1 : Int32))] [(.int (1 : Int32))])) _
      refine XS.istore X_59.here hx rfl (hb hby at_242) rfl (l' := #[.val (.int p1), .val (.int p2), .val (.int (3 : Int32)), .val (.ref b_41), .val (.ref b_47), .val (.ref r_54), .val (.int (1 : Int32))]) rfl ?_
      show Steps p.tables e below (T_59.setTop (mkF m 244 #[.val (.int p1), .val (.int p2), .val (.int (3 : Int32)), .val (.ref b_41), .val (.ref b_47), .val (.ref r_54), .val (.int (1 : Int32))] [])) _
      refine XS.iloadN X_59.here hx rfl (hb hby at_244) rfl ?_
      show Steps p.tables e below (T_59.setTop (mkF m 245 #[.val (.int p1), .val (.int p2), .val (.int (3 : Int32)), .val (.ref b_41), .val (.ref b_47), .val (.ref r_54), .val (.int (1 : Int32))] [(.int (3 : Int32))])) _
      refine XS.iconst X_59.here hx rfl (hb hby at_245) ?_
      show Steps p.tables e below (T_59.setTop (mkF m 246 #[.val (.int p1), .val (.int p2), .val (.int (3 : Int32)), .val (.ref b_41), .val (.ref b_47), .val (.ref r_54), .val (.int (1 : Int32))] [(.int (3 : Int32)), (.int (3 : Int32))])) _
      refine XS.icmpYes X_59.here hx rfl (pc0 := 246) (pc' := 273) rfl (hb hby at_246) rfl (flt (by decide : ¬ ((3 : Int32) < (3 : Int32)))).2.2.2 (by decide) (by decide) ?_
      show Steps p.tables e below (T_59.setTop (mkF m 273 #[.val (.int p1), .val (.int p2), .val (.int (3 : Int32)), .val (.ref b_41), .val (.ref b_47), .val (.ref r_54), .val (.int (1 : Int32))] [])) _
      refine XS.iloadN X_59.here hx rfl (hb hby at_273) rfl ?_
      show Steps p.tables e below (T_59.setTop (mkF m 274 #[.val (.int p1), .val (.int p2), .val (.int (3 : Int32)), .val (.ref b_41), .val (.ref b_47), .val (.ref r_54), .val (.int (1 : Int32))] [(.int (3 : Int32))])) _
      refine XS.iconst X_59.here hx rfl (hb hby at_274) ?_
      show Steps p.tables e below (T_59.setTop (mkF m 275 #[.val (.int p1), .val (.int p2), .val (.int (3 : Int32)), .val (.ref b_41), .val (.ref b_47), .val (.ref r_54), .val (.int (1 : Int32))] [(.int (4 : Int32)), (.int (3 : Int32))])) _
      refine XS.icmpYes X_59.here hx rfl (pc0 := 275) (pc' := 302) rfl (hb hby at_275) rfl (flt (by decide : ¬ ((4 : Int32) < (3 : Int32)))).2.2.2 (by decide) (by decide) ?_
      show Steps p.tables e below (T_59.setTop (mkF m 302 #[.val (.int p1), .val (.int p2), .val (.int (3 : Int32)), .val (.ref b_41), .val (.ref b_47), .val (.ref r_54), .val (.int (1 : Int32))] [])) _
      refine XS.iload X_59.here hx rfl (hb hby at_302) rfl ?_
      show Steps p.tables e below (T_59.setTop (mkF m 304 #[.val (.int p1), .val (.int p2), .val (.int (3 : Int32)), .val (.ref b_41), .val (.ref b_47), .val (.ref r_54), .val (.int (1 : Int32))] [(.int (1 : Int32))])) _
      exact retN X_59 hx (t := .boolean) Bd.returns (by simp) (hb hby at_304) hr
    · exact ⟨rfl, N_59⟩
  · obtain ⟨T_60, h_60, k_60, X_60, e_60, E_60, A_60, st_60⟩ := newP X0 hx hZ (hw _ (List.mem_of_getElem? (i := 1) rfl)) e0 (g := (mkF m 9 #[.val (.int p1), .val (.int p2), .val (.int (4 : Int32)), .unset, .unset, .unset, .unset] [(.int (5 : Int32))])) rfl (hb hby at_9) rfl (by decide) (cap := 5) (by decide) (by decide) (by decide) (by decide)
    obtain ⟨b_60, g_60⟩ : ∃ z, z = h0.size := ⟨_, rfl⟩
    rw [← g_60] at A_60 st_60
    have g_b_60 : n0 ≤ b_60 := Nat.le_trans Z0 (Nat.le_of_eq g_60.symm)
    have sz_b_60 : h0.size ≤ b_60 := Nat.le_trans ((Keep.refl h0 [])).1 (Nat.le_of_eq g_60.symm)
    have Z_60 : n0 ≤ h_60.size := Nat.le_trans Z0 E_60.1
    have K_60 : Keep h0 h_60 [] := (Keep.refl h0 []).ext E_60
    have fa_60 : own_arr .int Z h_60 b_60 5 (fun _ => 0) := own_arr.newI A_60 rfl
    have fo_61 := fa_60
    obtain ⟨cl_61, Ar_61, Sz_61, At_61⟩ := fo_61
    obtain ⟨T_61, h_61, X_61, e_61, W_61, st_61⟩ := stI X_60 hx hZ e_60 Ar_61 (j := (0 : Int32)) (own_inb Sz_61 (by decide)) (g := (mkF m 18 #[.val (.int p1), .val (.int p2), .val (.int (4 : Int32)), .val (.ref b_60), .unset, .unset, .unset] [(.int (p2 &&& (7 : Int32))), (.int (0 : Int32)), (.ref b_60)])) rfl rfl (hb hby at_18)
    have N_61 := Fr.snoc X_61 N0 g_b_60
    have fw_61 : own_arr .int Z h_61 b_60 5 (own_upd (fun _ => 0) 0 (p2 &&& (7 : Int32))) := own_arr.set Ar_61 Sz_61 At_61 W_61
    have Z_61 : n0 ≤ h_61.size := Nat.le_trans Z_60 (Keep.of_wr W_61).1
    have K_61 : Keep h0 h_61 [] := K_60.wr W_61 (Or.inr sz_b_60)
    have fo_62 := fw_61
    obtain ⟨cl_62, Ar_62, Sz_62, At_62⟩ := fo_62
    obtain ⟨T_62, h_62, X_62, e_62, W_62, st_62⟩ := stI X_61 hx hZ e_61 Ar_62 (j := (1 : Int32)) (own_inb Sz_62 (by decide)) (g := (mkF m 27 #[.val (.int p1), .val (.int p2), .val (.int (4 : Int32)), .val (.ref b_60), .unset, .unset, .unset] [(.int (((p2.toUInt32 >>> ((3 : Int32) &&& 31).toUInt32).toInt32) &&& (7 : Int32))), (.int (1 : Int32)), (.ref b_60)])) rfl rfl (hb hby at_27)
    have N_62 := Fr.snoc X_62 N_61 g_b_60
    have fw_62 : own_arr .int Z h_62 b_60 5 (own_upd (own_upd (fun _ => 0) 0 (p2 &&& (7 : Int32))) 1 (((p2.toUInt32 >>> ((3 : Int32) &&& 31).toUInt32).toInt32) &&& (7 : Int32))) := own_arr.set Ar_62 Sz_62 At_62 W_62
    have Z_62 : n0 ≤ h_62.size := Nat.le_trans Z_61 (Keep.of_wr W_62).1
    have K_62 : Keep h0 h_62 [] := K_61.wr W_62 (Or.inr sz_b_60)
    have fo_63 := fw_62
    obtain ⟨cl_63, Ar_63, Sz_63, At_63⟩ := fo_63
    obtain ⟨T_63, h_63, X_63, e_63, W_63, st_63⟩ := stI X_62 hx hZ e_62 Ar_63 (j := (2 : Int32)) (own_inb Sz_63 (by decide)) (g := (mkF m 37 #[.val (.int p1), .val (.int p2), .val (.int (4 : Int32)), .val (.ref b_60), .unset, .unset, .unset] [(.int (((p2.toUInt32 >>> ((6 : Int32) &&& 31).toUInt32).toInt32) &&& (7 : Int32))), (.int (2 : Int32)), (.ref b_60)])) rfl rfl (hb hby at_37)
    have N_63 := Fr.snoc X_63 N_62 g_b_60
    have fw_63 : own_arr .int Z h_63 b_60 5 (own_upd (own_upd (own_upd (fun _ => 0) 0 (p2 &&& (7 : Int32))) 1 (((p2.toUInt32 >>> ((3 : Int32) &&& 31).toUInt32).toInt32) &&& (7 : Int32))) 2 (((p2.toUInt32 >>> ((6 : Int32) &&& 31).toUInt32).toInt32) &&& (7 : Int32))) := own_arr.set Ar_63 Sz_63 At_63 W_63
    have Z_63 : n0 ≤ h_63.size := Nat.le_trans Z_62 (Keep.of_wr W_63).1
    have K_63 : Keep h0 h_63 [] := K_62.wr W_63 (Or.inr sz_b_60)
    have fo_64 := fw_63
    obtain ⟨cl_64, Ar_64, Sz_64, At_64⟩ := fo_64
    obtain ⟨T_64, h_64, X_64, e_64, W_64, st_64⟩ := stI X_63 hx hZ e_63 Ar_64 (j := (3 : Int32)) (own_inb Sz_64 (by decide)) (g := (mkF m 47 #[.val (.int p1), .val (.int p2), .val (.int (4 : Int32)), .val (.ref b_60), .unset, .unset, .unset] [(.int (((p2.toUInt32 >>> ((9 : Int32) &&& 31).toUInt32).toInt32) &&& (7 : Int32))), (.int (3 : Int32)), (.ref b_60)])) rfl rfl (hb hby at_47)
    have N_64 := Fr.snoc X_64 N_63 g_b_60
    have fw_64 : own_arr .int Z h_64 b_60 5 (own_upd (own_upd (own_upd (own_upd (fun _ => 0) 0 (p2 &&& (7 : Int32))) 1 (((p2.toUInt32 >>> ((3 : Int32) &&& 31).toUInt32).toInt32) &&& (7 : Int32))) 2 (((p2.toUInt32 >>> ((6 : Int32) &&& 31).toUInt32).toInt32) &&& (7 : Int32))) 3 (((p2.toUInt32 >>> ((9 : Int32) &&& 31).toUInt32).toInt32) &&& (7 : Int32))) := own_arr.set Ar_64 Sz_64 At_64 W_64
    have Z_64 : n0 ≤ h_64.size := Nat.le_trans Z_63 (Keep.of_wr W_64).1
    have K_64 : Keep h0 h_64 [] := K_63.wr W_64 (Or.inr sz_b_60)
    have fo_65 := fw_64
    obtain ⟨cl_65, Ar_65, Sz_65, At_65⟩ := fo_65
    obtain ⟨T_65, h_65, X_65, e_65, W_65, st_65⟩ := stI X_64 hx hZ e_64 Ar_65 (j := (4 : Int32)) (own_inb Sz_65 (by decide)) (g := (mkF m 57 #[.val (.int p1), .val (.int p2), .val (.int (4 : Int32)), .val (.ref b_60), .unset, .unset, .unset] [(.int (((p2.toUInt32 >>> ((12 : Int32) &&& 31).toUInt32).toInt32) &&& (7 : Int32))), (.int (4 : Int32)), (.ref b_60)])) rfl rfl (hb hby at_57)
    have N_65 := Fr.snoc X_65 N_64 g_b_60
    have fw_65 : own_arr .int Z h_65 b_60 5 (own_upd (own_upd (own_upd (own_upd (own_upd (fun _ => 0) 0 (p2 &&& (7 : Int32))) 1 (((p2.toUInt32 >>> ((3 : Int32) &&& 31).toUInt32).toInt32) &&& (7 : Int32))) 2 (((p2.toUInt32 >>> ((6 : Int32) &&& 31).toUInt32).toInt32) &&& (7 : Int32))) 3 (((p2.toUInt32 >>> ((9 : Int32) &&& 31).toUInt32).toInt32) &&& (7 : Int32))) 4 (((p2.toUInt32 >>> ((12 : Int32) &&& 31).toUInt32).toInt32) &&& (7 : Int32))) := own_arr.set Ar_65 Sz_65 At_65 W_65
    have Z_65 : n0 ≤ h_65.size := Nat.le_trans Z_64 (Keep.of_wr W_65).1
    have K_65 : Keep h0 h_65 [] := K_64.wr W_65 (Or.inr sz_b_60)
    obtain ⟨f5, hf5, ht5⟩ := own_tail (own_upd (own_upd (own_upd (own_upd (own_upd (fun _ => 0) 0 (p2 &&& (7 : Int32))) 1 (((p2.toUInt32 >>> ((3 : Int32) &&& 31).toUInt32).toInt32) &&& (7 : Int32))) 2 (((p2.toUInt32 >>> ((6 : Int32) &&& 31).toUInt32).toInt32) &&& (7 : Int32))) 3 (((p2.toUInt32 >>> ((9 : Int32) &&& 31).toUInt32).toInt32) &&& (7 : Int32))) 4 (((p2.toUInt32 >>> ((12 : Int32) &&& 31).toUInt32).toInt32) &&& (7 : Int32)))
    have fq5 := fw_65.eqv hf5
    obtain ⟨T_66, h_66, k_66, X_66, e_66, E_66, A_66, st_66⟩ := newP X_65 hx hZ (hw _ (List.mem_of_getElem? (i := 1) rfl)) e_65 (g := (mkF m 59 #[.val (.int p1), .val (.int p2), .val (.int (4 : Int32)), .val (.ref b_60), .unset, .unset, .unset] [(.int (4 : Int32))])) rfl (hb hby at_59) rfl (by decide) (cap := 4) (by decide) (by decide) (by decide) (by decide)
    obtain ⟨b_66, g_66⟩ : ∃ z, z = h_65.size := ⟨_, rfl⟩
    rw [← g_66] at A_66 st_66
    have ne_b_60_b_66 : b_60 ≠ b_66 := Nat.ne_of_lt (Nat.lt_of_lt_of_le fq5.lt (Nat.le_of_eq g_66.symm))
    have g_b_66 : n0 ≤ b_66 := Nat.le_trans Z_65 (Nat.le_of_eq g_66.symm)
    have sz_b_66 : h0.size ≤ b_66 := Nat.le_trans (K_65).1 (Nat.le_of_eq g_66.symm)
    have f_66_0 : own_arr .int Z h_66 b_60 5 f5 := fq5.ext E_66
    have Z_66 : n0 ≤ h_66.size := Nat.le_trans Z_65 E_66.1
    have K_66 : Keep h0 h_66 [] := K_65.ext E_66
    have fa_66 : own_arr .int Z h_66 b_66 4 (fun _ => 0) := own_arr.newI A_66 rfl
    obtain ⟨_, _, ⟨T_67, L_67, k_67, n_67⟩, -, X_67, ⟨Lc_67, hQ_67, l_67, y_67, z_67⟩, st_67⟩ := Jvm.LawKit.callS X_66 hx (y := (⟨"com/example/borderwork/borderwork/zarrays/ZArraysToBorderArrayPinLaw", "lcp", "([III)I"⟩ : MethodName)) hown (mvT hZ (hw _ (List.mem_of_getElem? (i := 6) rfl))) (mvT hZ (hw _ (List.mem_of_getElem? (i := 7) rfl))) (mvT hZ (hw _ (List.mem_of_getElem? (i := 8) rfl))) (mvT hZ (hw _ (List.mem_of_getElem? (i := 9) rfl))) (by decide) (backOf (W := 2) (rm2 l Z a0 hw [] b_60 (4 : Int32) (0 : Int32) f5 h_66 n0 Z_66 f_66_0 (by decide) (by decide) (by decide)) hZ (hw _ (List.mem_of_getElem? (i := 9) rfl)) (hw _ (List.mem_of_getElem? (i := 8) rfl)) (by decide) (by decide)) (g := (mkF m 73 #[.val (.int p1), .val (.int p2), .val (.int (4 : Int32)), .val (.ref b_60), .val (.ref b_66), .unset, .unset] [(.int (0 : Int32)), (.int (4 : Int32)), (.ref b_60), (.int (0 : Int32)), (.ref b_66)])) rfl (by rw [hml]; rfl) (argsL := [(.ref b_60), (.int (4 : Int32)), (.int (0 : Int32))]) (rest := [(.int (0 : Int32)), (.ref b_66)]) (lenOf pd_3 rfl) rfl (by show 2 * 0 + _ ≤ _; exact Nat.le_of_eq rfl) (hb hby at_73) (fun _ _ => ⟨rfl, e_66, (by decide : 2 + 0 ≤ _), (by decide : 9 + 0 ≤ _)⟩)
    dsimp only [Pt.U, Pt.locs, Pt.cells, Pt.slots] at X_67 l_67 y_67 z_67 st_67 hQ_67
    subst l_67 y_67 z_67
    obtain ⟨rfl, N_67q, e_67⟩ := hQ_67
    have N_67 := Fr.app N_65 N_67q
    have fo_68 := fa_66
    obtain ⟨cl_68, Ar_68, Sz_68, At_68⟩ := fo_68
    obtain ⟨T_68, h_68, X_68, e_68, W_68, st_68⟩ := stI X_67 hx hZ e_67 Ar_68 (j := (0 : Int32)) (own_inb Sz_68 (by decide)) (g := (mkF m 76 #[.val (.int p1), .val (.int p2), .val (.int (4 : Int32)), .val (.ref b_60), .val (.ref b_66), .unset, .unset] [(.int (own_lcp (4 : Int32) (0 : Int32) f5)), (.int (0 : Int32)), (.ref b_66)])) rfl rfl (hb hby at_76)
    have N_68 := Fr.snoc X_68 N_67 g_b_66
    have fw_68 : own_arr .int Z h_68 b_66 4 (own_upd (fun _ => 0) 0 (own_lcp (4 : Int32) (0 : Int32) f5)) := own_arr.set Ar_68 Sz_68 At_68 W_68
    have f_68_0 : own_arr .int Z h_68 b_60 5 f5 := f_66_0.other W_68 ne_b_60_b_66
    have Z_68 : n0 ≤ h_68.size := Nat.le_trans Z_66 (Keep.of_wr W_68).1
    have K_68 : Keep h0 h_68 [] := K_66.wr W_68 (Or.inr sz_b_66)
    obtain ⟨_, _, ⟨T_69, L_69, k_69, n_69⟩, -, X_69, ⟨Lc_69, hQ_69, l_69, y_69, z_69⟩, st_69⟩ := Jvm.LawKit.callS X_68 hx (y := (⟨"com/example/borderwork/borderwork/zarrays/ZArraysToBorderArrayPinLaw", "lcp", "([III)I"⟩ : MethodName)) hown (mvT hZ (hw _ (List.mem_of_getElem? (i := 6) rfl))) (mvT hZ (hw _ (List.mem_of_getElem? (i := 7) rfl))) (mvT hZ (hw _ (List.mem_of_getElem? (i := 8) rfl))) (mvT hZ (hw _ (List.mem_of_getElem? (i := 9) rfl))) (by decide) (backOf (W := 2) (rm2 l Z a0 hw [] b_60 (4 : Int32) (1 : Int32) f5 h_68 n0 Z_68 f_68_0 (by decide) (by decide) (by decide)) hZ (hw _ (List.mem_of_getElem? (i := 9) rfl)) (hw _ (List.mem_of_getElem? (i := 8) rfl)) (by decide) (by decide)) (g := (mkF m 88 #[.val (.int p1), .val (.int p2), .val (.int (4 : Int32)), .val (.ref b_60), .val (.ref b_66), .unset, .unset] [(.int (1 : Int32)), (.int (4 : Int32)), (.ref b_60), (.int (1 : Int32)), (.ref b_66)])) rfl (by rw [hml]; rfl) (argsL := [(.ref b_60), (.int (4 : Int32)), (.int (1 : Int32))]) (rest := [(.int (1 : Int32)), (.ref b_66)]) (lenOf pd_3 rfl) rfl (by show 2 * 0 + _ ≤ _; exact Nat.le_of_eq rfl) (hb hby at_88) (fun _ _ => ⟨rfl, e_68, (by decide : 2 + 0 ≤ _), (by decide : 9 + 0 ≤ _)⟩)
    dsimp only [Pt.U, Pt.locs, Pt.cells, Pt.slots] at X_69 l_69 y_69 z_69 st_69 hQ_69
    subst l_69 y_69 z_69
    obtain ⟨rfl, N_69q, e_69⟩ := hQ_69
    have N_69 := Fr.app N_68 N_69q
    have fo_70 := fw_68
    obtain ⟨cl_70, Ar_70, Sz_70, At_70⟩ := fo_70
    obtain ⟨T_70, h_70, X_70, e_70, W_70, st_70⟩ := stI X_69 hx hZ e_69 Ar_70 (j := (1 : Int32)) (own_inb Sz_70 (by decide)) (g := (mkF m 91 #[.val (.int p1), .val (.int p2), .val (.int (4 : Int32)), .val (.ref b_60), .val (.ref b_66), .unset, .unset] [(.int (own_lcp (4 : Int32) (1 : Int32) f5)), (.int (1 : Int32)), (.ref b_66)])) rfl rfl (hb hby at_91)
    have N_70 := Fr.snoc X_70 N_69 g_b_66
    have fw_70 : own_arr .int Z h_70 b_66 4 (own_upd (own_upd (fun _ => 0) 0 (own_lcp (4 : Int32) (0 : Int32) f5)) 1 (own_lcp (4 : Int32) (1 : Int32) f5)) := own_arr.set Ar_70 Sz_70 At_70 W_70
    have f_70_0 : own_arr .int Z h_70 b_60 5 f5 := f_68_0.other W_70 ne_b_60_b_66
    have Z_70 : n0 ≤ h_70.size := Nat.le_trans Z_68 (Keep.of_wr W_70).1
    have K_70 : Keep h0 h_70 [] := K_68.wr W_70 (Or.inr sz_b_66)
    obtain ⟨_, _, ⟨T_71, L_71, k_71, n_71⟩, -, X_71, ⟨Lc_71, hQ_71, l_71, y_71, z_71⟩, st_71⟩ := Jvm.LawKit.callS X_70 hx (y := (⟨"com/example/borderwork/borderwork/zarrays/ZArraysToBorderArrayPinLaw", "lcp", "([III)I"⟩ : MethodName)) hown (mvT hZ (hw _ (List.mem_of_getElem? (i := 6) rfl))) (mvT hZ (hw _ (List.mem_of_getElem? (i := 7) rfl))) (mvT hZ (hw _ (List.mem_of_getElem? (i := 8) rfl))) (mvT hZ (hw _ (List.mem_of_getElem? (i := 9) rfl))) (by decide) (backOf (W := 2) (rm2 l Z a0 hw [] b_60 (4 : Int32) (2 : Int32) f5 h_70 n0 Z_70 f_70_0 (by decide) (by decide) (by decide)) hZ (hw _ (List.mem_of_getElem? (i := 9) rfl)) (hw _ (List.mem_of_getElem? (i := 8) rfl)) (by decide) (by decide)) (g := (mkF m 103 #[.val (.int p1), .val (.int p2), .val (.int (4 : Int32)), .val (.ref b_60), .val (.ref b_66), .unset, .unset] [(.int (2 : Int32)), (.int (4 : Int32)), (.ref b_60), (.int (2 : Int32)), (.ref b_66)])) rfl (by rw [hml]; rfl) (argsL := [(.ref b_60), (.int (4 : Int32)), (.int (2 : Int32))]) (rest := [(.int (2 : Int32)), (.ref b_66)]) (lenOf pd_3 rfl) rfl (by show 2 * 0 + _ ≤ _; exact Nat.le_of_eq rfl) (hb hby at_103) (fun _ _ => ⟨rfl, e_70, (by decide : 2 + 0 ≤ _), (by decide : 9 + 0 ≤ _)⟩)
    dsimp only [Pt.U, Pt.locs, Pt.cells, Pt.slots] at X_71 l_71 y_71 z_71 st_71 hQ_71
    subst l_71 y_71 z_71
    obtain ⟨rfl, N_71q, e_71⟩ := hQ_71
    have N_71 := Fr.app N_70 N_71q
    have fo_72 := fw_70
    obtain ⟨cl_72, Ar_72, Sz_72, At_72⟩ := fo_72
    obtain ⟨T_72, h_72, X_72, e_72, W_72, st_72⟩ := stI X_71 hx hZ e_71 Ar_72 (j := (2 : Int32)) (own_inb Sz_72 (by decide)) (g := (mkF m 106 #[.val (.int p1), .val (.int p2), .val (.int (4 : Int32)), .val (.ref b_60), .val (.ref b_66), .unset, .unset] [(.int (own_lcp (4 : Int32) (2 : Int32) f5)), (.int (2 : Int32)), (.ref b_66)])) rfl rfl (hb hby at_106)
    have N_72 := Fr.snoc X_72 N_71 g_b_66
    have fw_72 : own_arr .int Z h_72 b_66 4 (own_upd (own_upd (own_upd (fun _ => 0) 0 (own_lcp (4 : Int32) (0 : Int32) f5)) 1 (own_lcp (4 : Int32) (1 : Int32) f5)) 2 (own_lcp (4 : Int32) (2 : Int32) f5)) := own_arr.set Ar_72 Sz_72 At_72 W_72
    have f_72_0 : own_arr .int Z h_72 b_60 5 f5 := f_70_0.other W_72 ne_b_60_b_66
    have Z_72 : n0 ≤ h_72.size := Nat.le_trans Z_70 (Keep.of_wr W_72).1
    have K_72 : Keep h0 h_72 [] := K_70.wr W_72 (Or.inr sz_b_66)
    obtain ⟨_, _, ⟨T_73, L_73, k_73, n_73⟩, -, X_73, ⟨Lc_73, hQ_73, l_73, y_73, z_73⟩, st_73⟩ := Jvm.LawKit.callS X_72 hx (y := (⟨"com/example/borderwork/borderwork/zarrays/ZArraysToBorderArrayPinLaw", "lcp", "([III)I"⟩ : MethodName)) hown (mvT hZ (hw _ (List.mem_of_getElem? (i := 6) rfl))) (mvT hZ (hw _ (List.mem_of_getElem? (i := 7) rfl))) (mvT hZ (hw _ (List.mem_of_getElem? (i := 8) rfl))) (mvT hZ (hw _ (List.mem_of_getElem? (i := 9) rfl))) (by decide) (backOf (W := 2) (rm2 l Z a0 hw [] b_60 (4 : Int32) (3 : Int32) f5 h_72 n0 Z_72 f_72_0 (by decide) (by decide) (by decide)) hZ (hw _ (List.mem_of_getElem? (i := 9) rfl)) (hw _ (List.mem_of_getElem? (i := 8) rfl)) (by decide) (by decide)) (g := (mkF m 118 #[.val (.int p1), .val (.int p2), .val (.int (4 : Int32)), .val (.ref b_60), .val (.ref b_66), .unset, .unset] [(.int (3 : Int32)), (.int (4 : Int32)), (.ref b_60), (.int (3 : Int32)), (.ref b_66)])) rfl (by rw [hml]; rfl) (argsL := [(.ref b_60), (.int (4 : Int32)), (.int (3 : Int32))]) (rest := [(.int (3 : Int32)), (.ref b_66)]) (lenOf pd_3 rfl) rfl (by show 2 * 0 + _ ≤ _; exact Nat.le_of_eq rfl) (hb hby at_118) (fun _ _ => ⟨rfl, e_72, (by decide : 2 + 0 ≤ _), (by decide : 9 + 0 ≤ _)⟩)
    dsimp only [Pt.U, Pt.locs, Pt.cells, Pt.slots] at X_73 l_73 y_73 z_73 st_73 hQ_73
    subst l_73 y_73 z_73
    obtain ⟨rfl, N_73q, e_73⟩ := hQ_73
    have N_73 := Fr.app N_72 N_73q
    have fo_74 := fw_72
    obtain ⟨cl_74, Ar_74, Sz_74, At_74⟩ := fo_74
    obtain ⟨T_74, h_74, X_74, e_74, W_74, st_74⟩ := stI X_73 hx hZ e_73 Ar_74 (j := (3 : Int32)) (own_inb Sz_74 (by decide)) (g := (mkF m 121 #[.val (.int p1), .val (.int p2), .val (.int (4 : Int32)), .val (.ref b_60), .val (.ref b_66), .unset, .unset] [(.int (own_lcp (4 : Int32) (3 : Int32) f5)), (.int (3 : Int32)), (.ref b_66)])) rfl rfl (hb hby at_121)
    have N_74 := Fr.snoc X_74 N_73 g_b_66
    have fw_74 : own_arr .int Z h_74 b_66 4 (own_upd (own_upd (own_upd (own_upd (fun _ => 0) 0 (own_lcp (4 : Int32) (0 : Int32) f5)) 1 (own_lcp (4 : Int32) (1 : Int32) f5)) 2 (own_lcp (4 : Int32) (2 : Int32) f5)) 3 (own_lcp (4 : Int32) (3 : Int32) f5)) := own_arr.set Ar_74 Sz_74 At_74 W_74
    have f_74_0 : own_arr .int Z h_74 b_60 5 f5 := f_72_0.other W_74 ne_b_60_b_66
    have Z_74 : n0 ≤ h_74.size := Nat.le_trans Z_72 (Keep.of_wr W_74).1
    have K_74 : Keep h0 h_74 [] := K_72.wr W_74 (Or.inr sz_b_66)
    obtain ⟨fz, hfz⟩ : ∃ z : Nat → Int32, z = (own_upd (own_upd (own_upd (own_upd (fun _ => 0) 0 (own_lcp (4 : Int32) (0 : Int32) f5)) 1 (own_lcp (4 : Int32) (1 : Int32) f5)) 2 (own_lcp (4 : Int32) (2 : Int32) f5)) 3 (own_lcp (4 : Int32) (3 : Int32) f5)) := ⟨_, rfl⟩
    rw [← hfz] at fw_74
    have z_0 : fz 0 = own_lcp (4 : Int32) (0 : Int32) f5 := by rw [hfz]; rfl
    have z_1 : fz 1 = own_lcp (4 : Int32) (1 : Int32) f5 := by rw [hfz]; rfl
    have z_2 : fz 2 = own_lcp (4 : Int32) (2 : Int32) f5 := by rw [hfz]; rfl
    have z_3 : fz 3 = own_lcp (4 : Int32) (3 : Int32) f5 := by rw [hfz]; rfl
    obtain ⟨_, _, ⟨T_75, L_75, k_75, n_75⟩, -, X_75, ⟨Lc_75, hQ_75, l_75, y_75, z_75⟩, st_75⟩ := Jvm.LawKit.callS X_74 hx (y := (⟨"com/example/borderwork/borderwork/zarrays/ZArrays", "toBorderArray", "([I)[I"⟩ : MethodName)) hown (mvT hZ (hw _ (List.mem_of_getElem? (i := 2) rfl))) (mvT hZ (hw _ (List.mem_of_getElem? (i := 3) rfl))) (mvT hZ (hw _ (List.mem_of_getElem? (i := 4) rfl))) (mvT hZ (hw _ (List.mem_of_getElem? (i := 5) rfl))) (by decide) (backOf (W := 0) (rm1_4 l Z a0 hw [] b_66 fz h_74 n0 Z_74 fw_74 (z_0.trans (own_whole4 f5)) (by rw [z_1]; exact (own_lcp_b _ _ f5 (by decide)).1) (by rw [z_1]; exact (own_lcp_b _ _ f5 (by decide)).2) (by rw [z_2]; exact (own_lcp_b _ _ f5 (by decide)).1) (by rw [z_2]; exact (own_lcp_b _ _ f5 (by decide)).2) (by rw [z_3]; exact (own_lcp_b _ _ f5 (by decide)).1) (by rw [z_3]; exact (own_lcp_b _ _ f5 (by decide)).2)) hZ (hw _ (List.mem_of_getElem? (i := 5) rfl)) (hw _ (List.mem_of_getElem? (i := 4) rfl)) (by decide) (by decide)) (g := (mkF m 139 #[.val (.int p1), .val (.int p2), .val (.int (4 : Int32)), .val (.ref b_60), .val (.ref b_66), .unset, .unset] [(.ref b_66)])) rfl (by rw [hml]; rfl) (argsL := [(.ref b_66)]) (rest := []) (lenOf pd_2 rfl) rfl (by show 2 * 0 + _ ≤ _; exact Nat.le_of_eq rfl) (hb hby at_139) (fun _ _ => ⟨rfl, e_74, (by decide : 2 + 1 ≤ _), (by decide : 9 + 4 ≤ _)⟩)
    dsimp only [Pt.U, Pt.locs, Pt.cells, Pt.slots] at X_75 l_75 y_75 z_75 st_75 hQ_75
    subst l_75 y_75 z_75
    obtain ⟨r_75, rfl, N_75q, Kc_75, o_75_0⟩ := hQ_75
    have f_75_0 : own_arr .int Z T_75.heap b_60 5 f5 := f_74_0.keep Kc_75 (List.not_mem_nil)
    have f_75_1 : own_arr .int Z T_75.heap b_66 4 fz := fw_74.keep Kc_75 (List.not_mem_nil)
    have Z_75 : n0 ≤ T_75.heap.size := Nat.le_trans Z_74 Kc_75.1
    have K_75 : Keep h0 T_75.heap [] := K_74.trans Kc_75 (fun x hx => nomatch hx)
    have N_75 := Fr.app N_74 N_75q
    have fo_77 := o_75_0
    obtain ⟨cl_77, Ar_77, Sz_77, At_77⟩ := fo_77
    obtain ⟨_, _, ⟨T_78, L_78, k_78, n_78⟩, -, X_78, ⟨Lc_78, hQ_78, l_78, y_78, z_78⟩, st_78⟩ := Jvm.LawKit.callS X_75 hx (y := (⟨"com/example/borderwork/borderwork/zarrays/ZArraysToBorderArrayPinLaw", "border", "([II)I"⟩ : MethodName)) hown (mvT hZ (hw _ (List.mem_of_getElem? (i := 10) rfl))) (mvT hZ (hw _ (List.mem_of_getElem? (i := 11) rfl))) (mvT hZ (hw _ (List.mem_of_getElem? (i := 8) rfl))) (mvT hZ (hw _ (List.mem_of_getElem? (i := 12) rfl))) (by decide) (backOf (W := 1) (rm3 l Z a0 hw [] b_60 (0 : Int32) f5 T_75.heap n0 Z_75 f_75_0 (by decide) (by decide)) hZ (hw _ (List.mem_of_getElem? (i := 12) rfl)) (hw _ (List.mem_of_getElem? (i := 8) rfl)) (by decide) (by decide)) (g := (mkF m 173 #[.val (.int p1), .val (.int p2), .val (.int (4 : Int32)), .val (.ref b_60), .val (.ref b_66), .val (.ref r_75), .val (.int (1 : Int32))] [(.int (0 : Int32)), (.ref b_60), (.int ((own_out 4 fz) 0))])) rfl (by rw [hml]; rfl) (argsL := [(.ref b_60), (.int (0 : Int32))]) (rest := [(.int ((own_out 4 fz) 0))]) (lenOf pd_4 rfl) rfl (by show 2 * 0 + _ ≤ _; exact Nat.le_of_eq rfl) (hb hby at_173) (fun _ _ => ⟨rfl, rfl, (by decide : 3 + 0 ≤ _), (by decide : 13 + 0 ≤ _)⟩)
    dsimp only [Pt.U, Pt.locs, Pt.cells, Pt.slots] at X_78 l_78 y_78 z_78 st_78 hQ_78
    subst l_78 y_78 z_78
    obtain ⟨rfl, N_78q, e_78⟩ := hQ_78
    have N_78 := Fr.app N_75 N_78q
    obtain ⟨_, _, ⟨T_79, L_79, k_79, n_79⟩, -, X_79, ⟨Lc_79, hQ_79, l_79, y_79, z_79⟩, st_79⟩ := Jvm.LawKit.callS X_78 hx (y := (⟨"com/example/borderwork/borderwork/zarrays/ZArraysToBorderArrayPinLaw", "border", "([II)I"⟩ : MethodName)) hown (mvT hZ (hw _ (List.mem_of_getElem? (i := 10) rfl))) (mvT hZ (hw _ (List.mem_of_getElem? (i := 11) rfl))) (mvT hZ (hw _ (List.mem_of_getElem? (i := 8) rfl))) (mvT hZ (hw _ (List.mem_of_getElem? (i := 12) rfl))) (by decide) (backOf (W := 1) (rm3 l Z a0 hw [] b_60 (1 : Int32) f5 T_75.heap n0 Z_75 f_75_0 (by decide) (by decide)) hZ (hw _ (List.mem_of_getElem? (i := 12) rfl)) (hw _ (List.mem_of_getElem? (i := 8) rfl)) (by decide) (by decide)) (g := (mkF m 202 #[.val (.int p1), .val (.int p2), .val (.int (4 : Int32)), .val (.ref b_60), .val (.ref b_66), .val (.ref r_75), .val (.int (1 : Int32))] [(.int (1 : Int32)), (.ref b_60), (.int ((own_out 4 fz) 1))])) rfl (by rw [hml]; rfl) (argsL := [(.ref b_60), (.int (1 : Int32))]) (rest := [(.int ((own_out 4 fz) 1))]) (lenOf pd_4 rfl) rfl (by show 2 * 0 + _ ≤ _; exact Nat.le_of_eq rfl) (hb hby at_202) (fun _ _ => ⟨rfl, e_78, (by decide : 3 + 0 ≤ _), (by decide : 13 + 0 ≤ _)⟩)
    dsimp only [Pt.U, Pt.locs, Pt.cells, Pt.slots] at X_79 l_79 y_79 z_79 st_79 hQ_79
    subst l_79 y_79 z_79
    obtain ⟨rfl, N_79q, e_79⟩ := hQ_79
    have N_79 := Fr.app N_78 N_79q
    obtain ⟨_, _, ⟨T_80, L_80, k_80, n_80⟩, -, X_80, ⟨Lc_80, hQ_80, l_80, y_80, z_80⟩, st_80⟩ := Jvm.LawKit.callS X_79 hx (y := (⟨"com/example/borderwork/borderwork/zarrays/ZArraysToBorderArrayPinLaw", "border", "([II)I"⟩ : MethodName)) hown (mvT hZ (hw _ (List.mem_of_getElem? (i := 10) rfl))) (mvT hZ (hw _ (List.mem_of_getElem? (i := 11) rfl))) (mvT hZ (hw _ (List.mem_of_getElem? (i := 8) rfl))) (mvT hZ (hw _ (List.mem_of_getElem? (i := 12) rfl))) (by decide) (backOf (W := 1) (rm3 l Z a0 hw [] b_60 (2 : Int32) f5 T_75.heap n0 Z_75 f_75_0 (by decide) (by decide)) hZ (hw _ (List.mem_of_getElem? (i := 12) rfl)) (hw _ (List.mem_of_getElem? (i := 8) rfl)) (by decide) (by decide)) (g := (mkF m 231 #[.val (.int p1), .val (.int p2), .val (.int (4 : Int32)), .val (.ref b_60), .val (.ref b_66), .val (.ref r_75), .val (.int (1 : Int32))] [(.int (2 : Int32)), (.ref b_60), (.int ((own_out 4 fz) 2))])) rfl (by rw [hml]; rfl) (argsL := [(.ref b_60), (.int (2 : Int32))]) (rest := [(.int ((own_out 4 fz) 2))]) (lenOf pd_4 rfl) rfl (by show 2 * 0 + _ ≤ _; exact Nat.le_of_eq rfl) (hb hby at_231) (fun _ _ => ⟨rfl, e_79, (by decide : 3 + 0 ≤ _), (by decide : 13 + 0 ≤ _)⟩)
    dsimp only [Pt.U, Pt.locs, Pt.cells, Pt.slots] at X_80 l_80 y_80 z_80 st_80 hQ_80
    subst l_80 y_80 z_80
    obtain ⟨rfl, N_80q, e_80⟩ := hQ_80
    have N_80 := Fr.app N_79 N_80q
    obtain ⟨_, _, ⟨T_81, L_81, k_81, n_81⟩, -, X_81, ⟨Lc_81, hQ_81, l_81, y_81, z_81⟩, st_81⟩ := Jvm.LawKit.callS X_80 hx (y := (⟨"com/example/borderwork/borderwork/zarrays/ZArraysToBorderArrayPinLaw", "border", "([II)I"⟩ : MethodName)) hown (mvT hZ (hw _ (List.mem_of_getElem? (i := 10) rfl))) (mvT hZ (hw _ (List.mem_of_getElem? (i := 11) rfl))) (mvT hZ (hw _ (List.mem_of_getElem? (i := 8) rfl))) (mvT hZ (hw _ (List.mem_of_getElem? (i := 12) rfl))) (by decide) (backOf (W := 1) (rm3 l Z a0 hw [] b_60 (3 : Int32) f5 T_75.heap n0 Z_75 f_75_0 (by decide) (by decide)) hZ (hw _ (List.mem_of_getElem? (i := 12) rfl)) (hw _ (List.mem_of_getElem? (i := 8) rfl)) (by decide) (by decide)) (g := (mkF m 260 #[.val (.int p1), .val (.int p2), .val (.int (4 : Int32)), .val (.ref b_60), .val (.ref b_66), .val (.ref r_75), .val (.int (1 : Int32))] [(.int (3 : Int32)), (.ref b_60), (.int ((own_out 4 fz) 3))])) rfl (by rw [hml]; rfl) (argsL := [(.ref b_60), (.int (3 : Int32))]) (rest := [(.int ((own_out 4 fz) 3))]) (lenOf pd_4 rfl) rfl (by show 2 * 0 + _ ≤ _; exact Nat.le_of_eq rfl) (hb hby at_260) (fun _ _ => ⟨rfl, e_80, (by decide : 3 + 0 ≤ _), (by decide : 13 + 0 ≤ _)⟩)
    dsimp only [Pt.U, Pt.locs, Pt.cells, Pt.slots] at X_81 l_81 y_81 z_81 st_81 hQ_81
    subst l_81 y_81 z_81
    obtain ⟨rfl, N_81q, e_81⟩ := hQ_81
    have N_81 := Fr.app N_80 N_81q
    obtain ⟨fs, hr, hrun, hended, hW, hsame⟩ := X_81.leave (v := some (.int (1 : Int32))) (fun h => by rw [Bd.returns] at h; cases h)
    refine ⟨_, _, pr_1 _ ?_, hrun, hended, _, _, rfl, ?_, ⟨_, rfl⟩, hW, hsame.mono (by decide) (by decide)⟩
    · show Steps p.tables e below (s₁.setTop (mkF m 8 #[.val (.int p1), .val (.int p2), .val (.int (4 : Int32)), .unset, .unset, .unset, .unset] [])) _
      refine XS.iconst X0.here hx rfl (hb hby at_8) ?_
      show Steps p.tables e below (s₁.setTop (mkF m 9 #[.val (.int p1), .val (.int p2), .val (.int (4 : Int32)), .unset, .unset, .unset, .unset] [(.int (5 : Int32))])) _
      refine st_60 _ ?_
      show Steps p.tables e below (T_60.setTop (mkF m 11 #[.val (.int p1), .val (.int p2), .val (.int (4 : Int32)), .unset, .unset, .unset, .unset] [(.ref b_60)])) _
      refine XS.astoreN X_60.here hx rfl (hb hby at_11) rfl rfl (l' := #[.val (.int p1), .val (.int p2), .val (.int (4 : Int32)), .val (.ref b_60), .unset, .unset, .unset]) rfl ?_
      show Steps p.tables e below (T_60.setTop (mkF m 12 #[.val (.int p1), .val (.int p2), .val (.int (4 : Int32)), .val (.ref b_60), .unset, .unset, .unset] [])) _
      refine XS.aloadN X_60.here hx rfl (hb hby at_12) rfl rfl ?_
      show Steps p.tables e below (T_60.setTop (mkF m 13 #[.val (.int p1), .val (.int p2), .val (.int (4 : Int32)), .val (.ref b_60), .unset, .unset, .unset] [(.ref b_60)])) _
      refine XS.iconst X_60.here hx rfl (hb hby at_13) ?_
      show Steps p.tables e below (T_60.setTop (mkF m 14 #[.val (.int p1), .val (.int p2), .val (.int (4 : Int32)), .val (.ref b_60), .unset, .unset, .unset] [(.int (0 : Int32)), (.ref b_60)])) _
      refine XS.iloadN X_60.here hx rfl (hb hby at_14) rfl ?_
      show Steps p.tables e below (T_60.setTop (mkF m 15 #[.val (.int p1), .val (.int p2), .val (.int (4 : Int32)), .val (.ref b_60), .unset, .unset, .unset] [(.int p2), (.int (0 : Int32)), (.ref b_60)])) _
      refine XS.bipush X_60.here hx rfl (hb hby at_15) ?_
      show Steps p.tables e below (T_60.setTop (mkF m 17 #[.val (.int p1), .val (.int p2), .val (.int (4 : Int32)), .val (.ref b_60), .unset, .unset, .unset] [(.int (7 : Int32)), (.int p2), (.int (0 : Int32)), (.ref b_60)])) _
      refine XS.iand X_60.here hx rfl (hb hby at_17) rfl ?_
      show Steps p.tables e below (T_60.setTop (mkF m 18 #[.val (.int p1), .val (.int p2), .val (.int (4 : Int32)), .val (.ref b_60), .unset, .unset, .unset] [(.int (p2 &&& (7 : Int32))), (.int (0 : Int32)), (.ref b_60)])) _
      refine st_61 _ ?_
      show Steps p.tables e below (T_61.setTop (mkF m 19 #[.val (.int p1), .val (.int p2), .val (.int (4 : Int32)), .val (.ref b_60), .unset, .unset, .unset] [])) _
      refine XS.aloadN X_61.here hx rfl (hb hby at_19) rfl rfl ?_
      show Steps p.tables e below (T_61.setTop (mkF m 20 #[.val (.int p1), .val (.int p2), .val (.int (4 : Int32)), .val (.ref b_60), .unset, .unset, .unset] [(.ref b_60)])) _
      refine XS.iconst X_61.here hx rfl (hb hby at_20) ?_
      show Steps p.tables e below (T_61.setTop (mkF m 21 #[.val (.int p1), .val (.int p2), .val (.int (4 : Int32)), .val (.ref b_60), .unset, .unset, .unset] [(.int (1 : Int32)), (.ref b_60)])) _
      refine XS.iloadN X_61.here hx rfl (hb hby at_21) rfl ?_
      show Steps p.tables e below (T_61.setTop (mkF m 22 #[.val (.int p1), .val (.int p2), .val (.int (4 : Int32)), .val (.ref b_60), .unset, .unset, .unset] [(.int p2), (.int (1 : Int32)), (.ref b_60)])) _
      refine XS.iconst X_61.here hx rfl (hb hby at_22) ?_
      show Steps p.tables e below (T_61.setTop (mkF m 23 #[.val (.int p1), .val (.int p2), .val (.int (4 : Int32)), .val (.ref b_60), .unset, .unset, .unset] [(.int (3 : Int32)), (.int p2), (.int (1 : Int32)), (.ref b_60)])) _
      refine XS.iushr X_61.here hx rfl (hb hby at_23) rfl ?_
      show Steps p.tables e below (T_61.setTop (mkF m 24 #[.val (.int p1), .val (.int p2), .val (.int (4 : Int32)), .val (.ref b_60), .unset, .unset, .unset] [(.int ((p2.toUInt32 >>> ((3 : Int32) &&& 31).toUInt32).toInt32)), (.int (1 : Int32)), (.ref b_60)])) _
      refine XS.bipush X_61.here hx rfl (hb hby at_24) ?_
      show Steps p.tables e below (T_61.setTop (mkF m 26 #[.val (.int p1), .val (.int p2), .val (.int (4 : Int32)), .val (.ref b_60), .unset, .unset, .unset] [(.int (7 : Int32)), (.int ((p2.toUInt32 >>> ((3 : Int32) &&& 31).toUInt32).toInt32)), (.int (1 : Int32)), (.ref b_60)])) _
      refine XS.iand X_61.here hx rfl (hb hby at_26) rfl ?_
      show Steps p.tables e below (T_61.setTop (mkF m 27 #[.val (.int p1), .val (.int p2), .val (.int (4 : Int32)), .val (.ref b_60), .unset, .unset, .unset] [(.int (((p2.toUInt32 >>> ((3 : Int32) &&& 31).toUInt32).toInt32) &&& (7 : Int32))), (.int (1 : Int32)), (.ref b_60)])) _
      refine st_62 _ ?_
      show Steps p.tables e below (T_62.setTop (mkF m 28 #[.val (.int p1), .val (.int p2), .val (.int (4 : Int32)), .val (.ref b_60), .unset, .unset, .unset] [])) _
      refine XS.aloadN X_62.here hx rfl (hb hby at_28) rfl rfl ?_
      show Steps p.tables e below (T_62.setTop (mkF m 29 #[.val (.int p1), .val (.int p2), .val (.int (4 : Int32)), .val (.ref b_60), .unset, .unset, .unset] [(.ref b_60)])) _
      refine XS.iconst X_62.here hx rfl (hb hby at_29) ?_
      show Steps p.tables e below (T_62.setTop (mkF m 30 #[.val (.int p1), .val (.int p2), .val (.int (4 : Int32)), .val (.ref b_60), .unset, .unset, .unset] [(.int (2 : Int32)), (.ref b_60)])) _
      refine XS.iloadN X_62.here hx rfl (hb hby at_30) rfl ?_
      show Steps p.tables e below (T_62.setTop (mkF m 31 #[.val (.int p1), .val (.int p2), .val (.int (4 : Int32)), .val (.ref b_60), .unset, .unset, .unset] [(.int p2), (.int (2 : Int32)), (.ref b_60)])) _
      refine XS.bipush X_62.here hx rfl (hb hby at_31) ?_
      show Steps p.tables e below (T_62.setTop (mkF m 33 #[.val (.int p1), .val (.int p2), .val (.int (4 : Int32)), .val (.ref b_60), .unset, .unset, .unset] [(.int (6 : Int32)), (.int p2), (.int (2 : Int32)), (.ref b_60)])) _
      refine XS.iushr X_62.here hx rfl (hb hby at_33) rfl ?_
      show Steps p.tables e below (T_62.setTop (mkF m 34 #[.val (.int p1), .val (.int p2), .val (.int (4 : Int32)), .val (.ref b_60), .unset, .unset, .unset] [(.int ((p2.toUInt32 >>> ((6 : Int32) &&& 31).toUInt32).toInt32)), (.int (2 : Int32)), (.ref b_60)])) _
      refine XS.bipush X_62.here hx rfl (hb hby at_34) ?_
      show Steps p.tables e below (T_62.setTop (mkF m 36 #[.val (.int p1), .val (.int p2), .val (.int (4 : Int32)), .val (.ref b_60), .unset, .unset, .unset] [(.int (7 : Int32)), (.int ((p2.toUInt32 >>> ((6 : Int32) &&& 31).toUInt32).toInt32)), (.int (2 : Int32)), (.ref b_60)])) _
      refine XS.iand X_62.here hx rfl (hb hby at_36) rfl ?_
      show Steps p.tables e below (T_62.setTop (mkF m 37 #[.val (.int p1), .val (.int p2), .val (.int (4 : Int32)), .val (.ref b_60), .unset, .unset, .unset] [(.int (((p2.toUInt32 >>> ((6 : Int32) &&& 31).toUInt32).toInt32) &&& (7 : Int32))), (.int (2 : Int32)), (.ref b_60)])) _
      refine st_63 _ ?_
      show Steps p.tables e below (T_63.setTop (mkF m 38 #[.val (.int p1), .val (.int p2), .val (.int (4 : Int32)), .val (.ref b_60), .unset, .unset, .unset] [])) _
      refine XS.aloadN X_63.here hx rfl (hb hby at_38) rfl rfl ?_
      show Steps p.tables e below (T_63.setTop (mkF m 39 #[.val (.int p1), .val (.int p2), .val (.int (4 : Int32)), .val (.ref b_60), .unset, .unset, .unset] [(.ref b_60)])) _
      refine XS.iconst X_63.here hx rfl (hb hby at_39) ?_
      show Steps p.tables e below (T_63.setTop (mkF m 40 #[.val (.int p1), .val (.int p2), .val (.int (4 : Int32)), .val (.ref b_60), .unset, .unset, .unset] [(.int (3 : Int32)), (.ref b_60)])) _
      refine XS.iloadN X_63.here hx rfl (hb hby at_40) rfl ?_
      show Steps p.tables e below (T_63.setTop (mkF m 41 #[.val (.int p1), .val (.int p2), .val (.int (4 : Int32)), .val (.ref b_60), .unset, .unset, .unset] [(.int p2), (.int (3 : Int32)), (.ref b_60)])) _
      refine XS.bipush X_63.here hx rfl (hb hby at_41) ?_
      show Steps p.tables e below (T_63.setTop (mkF m 43 #[.val (.int p1), .val (.int p2), .val (.int (4 : Int32)), .val (.ref b_60), .unset, .unset, .unset] [(.int (9 : Int32)), (.int p2), (.int (3 : Int32)), (.ref b_60)])) _
      refine XS.iushr X_63.here hx rfl (hb hby at_43) rfl ?_
      show Steps p.tables e below (T_63.setTop (mkF m 44 #[.val (.int p1), .val (.int p2), .val (.int (4 : Int32)), .val (.ref b_60), .unset, .unset, .unset] [(.int ((p2.toUInt32 >>> ((9 : Int32) &&& 31).toUInt32).toInt32)), (.int (3 : Int32)), (.ref b_60)])) _
      refine XS.bipush X_63.here hx rfl (hb hby at_44) ?_
      show Steps p.tables e below (T_63.setTop (mkF m 46 #[.val (.int p1), .val (.int p2), .val (.int (4 : Int32)), .val (.ref b_60), .unset, .unset, .unset] [(.int (7 : Int32)), (.int ((p2.toUInt32 >>> ((9 : Int32) &&& 31).toUInt32).toInt32)), (.int (3 : Int32)), (.ref b_60)])) _
      refine XS.iand X_63.here hx rfl (hb hby at_46) rfl ?_
      show Steps p.tables e below (T_63.setTop (mkF m 47 #[.val (.int p1), .val (.int p2), .val (.int (4 : Int32)), .val (.ref b_60), .unset, .unset, .unset] [(.int (((p2.toUInt32 >>> ((9 : Int32) &&& 31).toUInt32).toInt32) &&& (7 : Int32))), (.int (3 : Int32)), (.ref b_60)])) _
      refine st_64 _ ?_
      show Steps p.tables e below (T_64.setTop (mkF m 48 #[.val (.int p1), .val (.int p2), .val (.int (4 : Int32)), .val (.ref b_60), .unset, .unset, .unset] [])) _
      refine XS.aloadN X_64.here hx rfl (hb hby at_48) rfl rfl ?_
      show Steps p.tables e below (T_64.setTop (mkF m 49 #[.val (.int p1), .val (.int p2), .val (.int (4 : Int32)), .val (.ref b_60), .unset, .unset, .unset] [(.ref b_60)])) _
      refine XS.iconst X_64.here hx rfl (hb hby at_49) ?_
      show Steps p.tables e below (T_64.setTop (mkF m 50 #[.val (.int p1), .val (.int p2), .val (.int (4 : Int32)), .val (.ref b_60), .unset, .unset, .unset] [(.int (4 : Int32)), (.ref b_60)])) _
      refine XS.iloadN X_64.here hx rfl (hb hby at_50) rfl ?_
      show Steps p.tables e below (T_64.setTop (mkF m 51 #[.val (.int p1), .val (.int p2), .val (.int (4 : Int32)), .val (.ref b_60), .unset, .unset, .unset] [(.int p2), (.int (4 : Int32)), (.ref b_60)])) _
      refine XS.bipush X_64.here hx rfl (hb hby at_51) ?_
      show Steps p.tables e below (T_64.setTop (mkF m 53 #[.val (.int p1), .val (.int p2), .val (.int (4 : Int32)), .val (.ref b_60), .unset, .unset, .unset] [(.int (12 : Int32)), (.int p2), (.int (4 : Int32)), (.ref b_60)])) _
      refine XS.iushr X_64.here hx rfl (hb hby at_53) rfl ?_
      show Steps p.tables e below (T_64.setTop (mkF m 54 #[.val (.int p1), .val (.int p2), .val (.int (4 : Int32)), .val (.ref b_60), .unset, .unset, .unset] [(.int ((p2.toUInt32 >>> ((12 : Int32) &&& 31).toUInt32).toInt32)), (.int (4 : Int32)), (.ref b_60)])) _
      refine XS.bipush X_64.here hx rfl (hb hby at_54) ?_
      show Steps p.tables e below (T_64.setTop (mkF m 56 #[.val (.int p1), .val (.int p2), .val (.int (4 : Int32)), .val (.ref b_60), .unset, .unset, .unset] [(.int (7 : Int32)), (.int ((p2.toUInt32 >>> ((12 : Int32) &&& 31).toUInt32).toInt32)), (.int (4 : Int32)), (.ref b_60)])) _
      refine XS.iand X_64.here hx rfl (hb hby at_56) rfl ?_
      show Steps p.tables e below (T_64.setTop (mkF m 57 #[.val (.int p1), .val (.int p2), .val (.int (4 : Int32)), .val (.ref b_60), .unset, .unset, .unset] [(.int (((p2.toUInt32 >>> ((12 : Int32) &&& 31).toUInt32).toInt32) &&& (7 : Int32))), (.int (4 : Int32)), (.ref b_60)])) _
      refine st_65 _ ?_
      show Steps p.tables e below (T_65.setTop (mkF m 58 #[.val (.int p1), .val (.int p2), .val (.int (4 : Int32)), .val (.ref b_60), .unset, .unset, .unset] [])) _
      refine XS.iloadN X_65.here hx rfl (hb hby at_58) rfl ?_
      show Steps p.tables e below (T_65.setTop (mkF m 59 #[.val (.int p1), .val (.int p2), .val (.int (4 : Int32)), .val (.ref b_60), .unset, .unset, .unset] [(.int (4 : Int32))])) _
      refine st_66 _ ?_
      show Steps p.tables e below (T_66.setTop (mkF m 61 #[.val (.int p1), .val (.int p2), .val (.int (4 : Int32)), .val (.ref b_60), .unset, .unset, .unset] [(.ref b_66)])) _
      refine XS.astore X_66.here hx rfl (hb hby at_61) rfl rfl (l' := #[.val (.int p1), .val (.int p2), .val (.int (4 : Int32)), .val (.ref b_60), .val (.ref b_66), .unset, .unset]) rfl ?_
      show Steps p.tables e below (T_66.setTop (mkF m 63 #[.val (.int p1), .val (.int p2), .val (.int (4 : Int32)), .val (.ref b_60), .val (.ref b_66), .unset, .unset] [])) _
      refine XS.iloadN X_66.here hx rfl (hb hby at_63) rfl ?_
      show Steps p.tables e below (T_66.setTop (mkF m 64 #[.val (.int p1), .val (.int p2), .val (.int (4 : Int32)), .val (.ref b_60), .val (.ref b_66), .unset, .unset] [(.int (4 : Int32))])) _
      refine XS.ifNo X_66.here hx rfl (hb hby at_64) rfl ((if0 _ _).trans (tlt (by decide : (0 : Int32) < (4 : Int32))).2.2.2) ?_
      show Steps p.tables e below (T_66.setTop (mkF m 67 #[.val (.int p1), .val (.int p2), .val (.int (4 : Int32)), .val (.ref b_60), .val (.ref b_66), .unset, .unset] [])) _
      refine XS.aload X_66.here hx rfl (hb hby at_67) rfl rfl ?_
      show Steps p.tables e below (T_66.setTop (mkF m 69 #[.val (.int p1), .val (.int p2), .val (.int (4 : Int32)), .val (.ref b_60), .val (.ref b_66), .unset, .unset] [(.ref b_66)])) _
      refine XS.iconst X_66.here hx rfl (hb hby at_69) ?_
      show Steps p.tables e below (T_66.setTop (mkF m 70 #[.val (.int p1), .val (.int p2), .val (.int (4 : Int32)), .val (.ref b_60), .val (.ref b_66), .unset, .unset] [(.int (0 : Int32)), (.ref b_66)])) _
      refine XS.aloadN X_66.here hx rfl (hb hby at_70) rfl rfl ?_
      show Steps p.tables e below (T_66.setTop (mkF m 71 #[.val (.int p1), .val (.int p2), .val (.int (4 : Int32)), .val (.ref b_60), .val (.ref b_66), .unset, .unset] [(.ref b_60), (.int (0 : Int32)), (.ref b_66)])) _
      refine XS.iloadN X_66.here hx rfl (hb hby at_71) rfl ?_
      show Steps p.tables e below (T_66.setTop (mkF m 72 #[.val (.int p1), .val (.int p2), .val (.int (4 : Int32)), .val (.ref b_60), .val (.ref b_66), .unset, .unset] [(.int (4 : Int32)), (.ref b_60), (.int (0 : Int32)), (.ref b_66)])) _
      refine XS.iconst X_66.here hx rfl (hb hby at_72) ?_
      show Steps p.tables e below (T_66.setTop (mkF m 73 #[.val (.int p1), .val (.int p2), .val (.int (4 : Int32)), .val (.ref b_60), .val (.ref b_66), .unset, .unset] [(.int (0 : Int32)), (.int (4 : Int32)), (.ref b_60), (.int (0 : Int32)), (.ref b_66)])) _
      refine st_67 _ ?_
      show Steps p.tables e below (T_67.setTop (mkF m 76 #[.val (.int p1), .val (.int p2), .val (.int (4 : Int32)), .val (.ref b_60), .val (.ref b_66), .unset, .unset] [(.int (own_lcp (4 : Int32) (0 : Int32) f5)), (.int (0 : Int32)), (.ref b_66)])) _
      refine st_68 _ ?_
      show Steps p.tables e below (T_68.setTop (mkF m 77 #[.val (.int p1), .val (.int p2), .val (.int (4 : Int32)), .val (.ref b_60), .val (.ref b_66), .unset, .unset] [])) _
      refine XS.iloadN X_68.here hx rfl (hb hby at_77) rfl ?_
      show Steps p.tables e below (T_68.setTop (mkF m 78 #[.val (.int p1), .val (.int p2), .val (.int (4 : Int32)), .val (.ref b_60), .val (.ref b_66), .unset, .unset] [(.int (4 : Int32))])) _
      refine XS.iconst X_68.here hx rfl (hb hby at_78) ?_
      show Steps p.tables e below (T_68.setTop (mkF m 79 #[.val (.int p1), .val (.int p2), .val (.int (4 : Int32)), .val (.ref b_60), .val (.ref b_66), .unset, .unset] [(.int (1 : Int32)), (.int (4 : Int32))])) _
      refine XS.icmpNo X_68.here hx rfl (hb hby at_79) rfl (tlt (by decide : (1 : Int32) < (4 : Int32))).2.2.2 ?_
      show Steps p.tables e below (T_68.setTop (mkF m 82 #[.val (.int p1), .val (.int p2), .val (.int (4 : Int32)), .val (.ref b_60), .val (.ref b_66), .unset, .unset] [])) _
      refine XS.aload X_68.here hx rfl (hb hby at_82) rfl rfl ?_
      show Steps p.tables e below (T_68.setTop (mkF m 84 #[.val (.int p1), .val (.int p2), .val (.int (4 : Int32)), .val (.ref b_60), .val (.ref b_66), .unset, .unset] [(.ref b_66)])) _
      refine XS.iconst X_68.here hx rfl (hb hby at_84) ?_
      show Steps p.tables e below (T_68.setTop (mkF m 85 #[.val (.int p1), .val (.int p2), .val (.int (4 : Int32)), .val (.ref b_60), .val (.ref b_66), .unset, .unset] [(.int (1 : Int32)), (.ref b_66)])) _
      refine XS.aloadN X_68.here hx rfl (hb hby at_85) rfl rfl ?_
      show Steps p.tables e below (T_68.setTop (mkF m 86 #[.val (.int p1), .val (.int p2), .val (.int (4 : Int32)), .val (.ref b_60), .val (.ref b_66), .unset, .unset] [(.ref b_60), (.int (1 : Int32)), (.ref b_66)])) _
      refine XS.iloadN X_68.here hx rfl (hb hby at_86) rfl ?_
      show Steps p.tables e below (T_68.setTop (mkF m 87 #[.val (.int p1), .val (.int p2), .val (.int (4 : Int32)), .val (.ref b_60), .val (.ref b_66), .unset, .unset] [(.int (4 : Int32)), (.ref b_60), (.int (1 : Int32)), (.ref b_66)])) _
      refine XS.iconst X_68.here hx rfl (hb hby at_87) ?_
      show Steps p.tables e below (T_68.setTop (mkF m 88 #[.val (.int p1), .val (.int p2), .val (.int (4 : Int32)), .val (.ref b_60), .val (.ref b_66), .unset, .unset] [(.int (1 : Int32)), (.int (4 : Int32)), (.ref b_60), (.int (1 : Int32)), (.ref b_66)])) _
      refine st_69 _ ?_
      show Steps p.tables e below (T_69.setTop (mkF m 91 #[.val (.int p1), .val (.int p2), .val (.int (4 : Int32)), .val (.ref b_60), .val (.ref b_66), .unset, .unset] [(.int (own_lcp (4 : Int32) (1 : Int32) f5)), (.int (1 : Int32)), (.ref b_66)])) _
      refine st_70 _ ?_
      show Steps p.tables e below (T_70.setTop (mkF m 92 #[.val (.int p1), .val (.int p2), .val (.int (4 : Int32)), .val (.ref b_60), .val (.ref b_66), .unset, .unset] [])) _
      refine XS.iloadN X_70.here hx rfl (hb hby at_92) rfl ?_
      show Steps p.tables e below (T_70.setTop (mkF m 93 #[.val (.int p1), .val (.int p2), .val (.int (4 : Int32)), .val (.ref b_60), .val (.ref b_66), .unset, .unset] [(.int (4 : Int32))])) _
      refine XS.iconst X_70.here hx rfl (hb hby at_93) ?_
      show Steps p.tables e below (T_70.setTop (mkF m 94 #[.val (.int p1), .val (.int p2), .val (.int (4 : Int32)), .val (.ref b_60), .val (.ref b_66), .unset, .unset] [(.int (2 : Int32)), (.int (4 : Int32))])) _
      refine XS.icmpNo X_70.here hx rfl (hb hby at_94) rfl (tlt (by decide : (2 : Int32) < (4 : Int32))).2.2.2 ?_
      show Steps p.tables e below (T_70.setTop (mkF m 97 #[.val (.int p1), .val (.int p2), .val (.int (4 : Int32)), .val (.ref b_60), .val (.ref b_66), .unset, .unset] [])) _
      refine XS.aload X_70.here hx rfl (hb hby at_97) rfl rfl ?_
      show Steps p.tables e below (T_70.setTop (mkF m 99 #[.val (.int p1), .val (.int p2), .val (.int (4 : Int32)), .val (.ref b_60), .val (.ref b_66), .unset, .unset] [(.ref b_66)])) _
      refine XS.iconst X_70.here hx rfl (hb hby at_99) ?_
      show Steps p.tables e below (T_70.setTop (mkF m 100 #[.val (.int p1), .val (.int p2), .val (.int (4 : Int32)), .val (.ref b_60), .val (.ref b_66), .unset, .unset] [(.int (2 : Int32)), (.ref b_66)])) _
      refine XS.aloadN X_70.here hx rfl (hb hby at_100) rfl rfl ?_
      show Steps p.tables e below (T_70.setTop (mkF m 101 #[.val (.int p1), .val (.int p2), .val (.int (4 : Int32)), .val (.ref b_60), .val (.ref b_66), .unset, .unset] [(.ref b_60), (.int (2 : Int32)), (.ref b_66)])) _
      refine XS.iloadN X_70.here hx rfl (hb hby at_101) rfl ?_
      show Steps p.tables e below (T_70.setTop (mkF m 102 #[.val (.int p1), .val (.int p2), .val (.int (4 : Int32)), .val (.ref b_60), .val (.ref b_66), .unset, .unset] [(.int (4 : Int32)), (.ref b_60), (.int (2 : Int32)), (.ref b_66)])) _
      refine XS.iconst X_70.here hx rfl (hb hby at_102) ?_
      show Steps p.tables e below (T_70.setTop (mkF m 103 #[.val (.int p1), .val (.int p2), .val (.int (4 : Int32)), .val (.ref b_60), .val (.ref b_66), .unset, .unset] [(.int (2 : Int32)), (.int (4 : Int32)), (.ref b_60), (.int (2 : Int32)), (.ref b_66)])) _
      refine st_71 _ ?_
      show Steps p.tables e below (T_71.setTop (mkF m 106 #[.val (.int p1), .val (.int p2), .val (.int (4 : Int32)), .val (.ref b_60), .val (.ref b_66), .unset, .unset] [(.int (own_lcp (4 : Int32) (2 : Int32) f5)), (.int (2 : Int32)), (.ref b_66)])) _
      refine st_72 _ ?_
      show Steps p.tables e below (T_72.setTop (mkF m 107 #[.val (.int p1), .val (.int p2), .val (.int (4 : Int32)), .val (.ref b_60), .val (.ref b_66), .unset, .unset] [])) _
      refine XS.iloadN X_72.here hx rfl (hb hby at_107) rfl ?_
      show Steps p.tables e below (T_72.setTop (mkF m 108 #[.val (.int p1), .val (.int p2), .val (.int (4 : Int32)), .val (.ref b_60), .val (.ref b_66), .unset, .unset] [(.int (4 : Int32))])) _
      refine XS.iconst X_72.here hx rfl (hb hby at_108) ?_
      show Steps p.tables e below (T_72.setTop (mkF m 109 #[.val (.int p1), .val (.int p2), .val (.int (4 : Int32)), .val (.ref b_60), .val (.ref b_66), .unset, .unset] [(.int (3 : Int32)), (.int (4 : Int32))])) _
      refine XS.icmpNo X_72.here hx rfl (hb hby at_109) rfl (tlt (by decide : (3 : Int32) < (4 : Int32))).2.2.2 ?_
      show Steps p.tables e below (T_72.setTop (mkF m 112 #[.val (.int p1), .val (.int p2), .val (.int (4 : Int32)), .val (.ref b_60), .val (.ref b_66), .unset, .unset] [])) _
      refine XS.aload X_72.here hx rfl (hb hby at_112) rfl rfl ?_
      show Steps p.tables e below (T_72.setTop (mkF m 114 #[.val (.int p1), .val (.int p2), .val (.int (4 : Int32)), .val (.ref b_60), .val (.ref b_66), .unset, .unset] [(.ref b_66)])) _
      refine XS.iconst X_72.here hx rfl (hb hby at_114) ?_
      show Steps p.tables e below (T_72.setTop (mkF m 115 #[.val (.int p1), .val (.int p2), .val (.int (4 : Int32)), .val (.ref b_60), .val (.ref b_66), .unset, .unset] [(.int (3 : Int32)), (.ref b_66)])) _
      refine XS.aloadN X_72.here hx rfl (hb hby at_115) rfl rfl ?_
      show Steps p.tables e below (T_72.setTop (mkF m 116 #[.val (.int p1), .val (.int p2), .val (.int (4 : Int32)), .val (.ref b_60), .val (.ref b_66), .unset, .unset] [(.ref b_60), (.int (3 : Int32)), (.ref b_66)])) _
      refine XS.iloadN X_72.here hx rfl (hb hby at_116) rfl ?_
      show Steps p.tables e below (T_72.setTop (mkF m 117 #[.val (.int p1), .val (.int p2), .val (.int (4 : Int32)), .val (.ref b_60), .val (.ref b_66), .unset, .unset] [(.int (4 : Int32)), (.ref b_60), (.int (3 : Int32)), (.ref b_66)])) _
      refine XS.iconst X_72.here hx rfl (hb hby at_117) ?_
      show Steps p.tables e below (T_72.setTop (mkF m 118 #[.val (.int p1), .val (.int p2), .val (.int (4 : Int32)), .val (.ref b_60), .val (.ref b_66), .unset, .unset] [(.int (3 : Int32)), (.int (4 : Int32)), (.ref b_60), (.int (3 : Int32)), (.ref b_66)])) _
      refine st_73 _ ?_
      show Steps p.tables e below (T_73.setTop (mkF m 121 #[.val (.int p1), .val (.int p2), .val (.int (4 : Int32)), .val (.ref b_60), .val (.ref b_66), .unset, .unset] [(.int (own_lcp (4 : Int32) (3 : Int32) f5)), (.int (3 : Int32)), (.ref b_66)])) _
      refine st_74 _ ?_
      show Steps p.tables e below (T_74.setTop (mkF m 122 #[.val (.int p1), .val (.int p2), .val (.int (4 : Int32)), .val (.ref b_60), .val (.ref b_66), .unset, .unset] [])) _
      refine XS.iloadN X_74.here hx rfl (hb hby at_122) rfl ?_
      show Steps p.tables e below (T_74.setTop (mkF m 123 #[.val (.int p1), .val (.int p2), .val (.int (4 : Int32)), .val (.ref b_60), .val (.ref b_66), .unset, .unset] [(.int (4 : Int32))])) _
      refine XS.iconst X_74.here hx rfl (hb hby at_123) ?_
      show Steps p.tables e below (T_74.setTop (mkF m 124 #[.val (.int p1), .val (.int p2), .val (.int (4 : Int32)), .val (.ref b_60), .val (.ref b_66), .unset, .unset] [(.int (4 : Int32)), (.int (4 : Int32))])) _
      refine XS.icmpYes X_74.here hx rfl (pc0 := 124) (pc' := 137) rfl (hb hby at_124) rfl (flt (by decide : ¬ ((4 : Int32) < (4 : Int32)))).2.2.2 (by decide) (by decide) ?_
      show Steps p.tables e below (T_74.setTop (mkF m 137 #[.val (.int p1), .val (.int p2), .val (.int (4 : Int32)), .val (.ref b_60), .val (.ref b_66), .unset, .unset] [])) _
      refine XS.aload X_74.here hx rfl (hb hby at_137) rfl rfl ?_
      show Steps p.tables e below (T_74.setTop (mkF m 139 #[.val (.int p1), .val (.int p2), .val (.int (4 : Int32)), .val (.ref b_60), .val (.ref b_66), .unset, .unset] [(.ref b_66)])) _
      refine st_75 _ ?_
      show Steps p.tables e below (T_75.setTop (mkF m 142 #[.val (.int p1), .val (.int p2), .val (.int (4 : Int32)), .val (.ref b_60), .val (.ref b_66), .unset, .unset] [(.ref r_75)])) _
      refine XS.astore X_75.here hx rfl (hb hby at_142) rfl rfl (l' := #[.val (.int p1), .val (.int p2), .val (.int (4 : Int32)), .val (.ref b_60), .val (.ref b_66), .val (.ref r_75), .unset]) rfl ?_
      show Steps p.tables e below (T_75.setTop (mkF m 144 #[.val (.int p1), .val (.int p2), .val (.int (4 : Int32)), .val (.ref b_60), .val (.ref b_66), .val (.ref r_75), .unset] [])) _
      refine XS.aload X_75.here hx rfl (hb hby at_144) rfl rfl ?_
      show Steps p.tables e below (T_75.setTop (mkF m 146 #[.val (.int p1), .val (.int p2), .val (.int (4 : Int32)), .val (.ref b_60), .val (.ref b_66), .val (.ref r_75), .unset] [(.ref r_75)])) _
      refine X_75.arraylength hx Ar_77.1 (State.isArrayOf_alike hZ.alike Ar_77.2.1) (g := (mkF m 146 #[.val (.int p1), .val (.int p2), .val (.int (4 : Int32)), .val (.ref b_60), .val (.ref b_66), .val (.ref r_75), .unset] [(.ref r_75)])) rfl rfl (hb hby at_146) _ ?_
      rw [Sz_77]
      show Steps p.tables e below (T_75.setTop (mkF m 147 #[.val (.int p1), .val (.int p2), .val (.int (4 : Int32)), .val (.ref b_60), .val (.ref b_66), .val (.ref r_75), .unset] [(.int (4 : Int32))])) _
      refine XS.iloadN X_75.here hx rfl (hb hby at_147) rfl ?_
      show Steps p.tables e below (T_75.setTop (mkF m 148 #[.val (.int p1), .val (.int p2), .val (.int (4 : Int32)), .val (.ref b_60), .val (.ref b_66), .val (.ref r_75), .unset] [(.int (4 : Int32)), (.int (4 : Int32))])) _
      refine XS.icmpNo X_75.here hx rfl (hb hby at_148) rfl (teq (by decide : (4 : Int32) = (4 : Int32))).2 ?_
      show Steps p.tables e below (T_75.setTop (mkF m 151 #[.val (.int p1), .val (.int p2), .val (.int (4 : Int32)), .val (.ref b_60), .val (.ref b_66), .val (.ref r_75), .unset] [])) _
      refine XS.iconst X_75.here hx rfl (hb hby at_151) ?_
      show Steps p.tables e below (T_75.setTop (mkF m 152 #[.val (.int p1), .val (.int p2), .val (.int (4 : Int32)), .val (.ref b_60), .val (.ref b_66), .val (.ref r_75), .unset] [(.int (1 : Int32))])) _
      refine XS.goto X_75.here hx rfl (pc0 := 152) (pc' := 156) rfl (hb hby at_152) (by decide) (by decide) ?_
      show Steps p.tables e below (T_75.setTop (mkF m 156 #[.val (.int p1), .val (.int p2), .val (.int (4 : Int32)), .val (.ref b_60), .val (.ref b_66), .val (.ref r_75), .unset] [(.int (1 : Int32))])) _
      refine XS.istore X_75.here hx rfl (hb hby at_156) rfl (l' := #[.val (.int p1), .val (.int p2), .val (.int (4 : Int32)), .val (.ref b_60), .val (.ref b_66), .val (.ref r_75), .val (.int (1 : Int32))]) rfl ?_
      show Steps p.tables e below (T_75.setTop (mkF m 158 #[.val (.int p1), .val (.int p2), .val (.int (4 : Int32)), .val (.ref b_60), .val (.ref b_66), .val (.ref r_75), .val (.int (1 : Int32))] [])) _
      refine XS.iloadN X_75.here hx rfl (hb hby at_158) rfl ?_
      show Steps p.tables e below (T_75.setTop (mkF m 159 #[.val (.int p1), .val (.int p2), .val (.int (4 : Int32)), .val (.ref b_60), .val (.ref b_66), .val (.ref r_75), .val (.int (1 : Int32))] [(.int (4 : Int32))])) _
      refine XS.ifNo X_75.here hx rfl (hb hby at_159) rfl ((if0 _ _).trans (tlt (by decide : (0 : Int32) < (4 : Int32))).2.2.2) ?_
      show Steps p.tables e below (T_75.setTop (mkF m 162 #[.val (.int p1), .val (.int p2), .val (.int (4 : Int32)), .val (.ref b_60), .val (.ref b_66), .val (.ref r_75), .val (.int (1 : Int32))] [])) _
      refine XS.iload X_75.here hx rfl (hb hby at_162) rfl ?_
      show Steps p.tables e below (T_75.setTop (mkF m 164 #[.val (.int p1), .val (.int p2), .val (.int (4 : Int32)), .val (.ref b_60), .val (.ref b_66), .val (.ref r_75), .val (.int (1 : Int32))] [(.int (1 : Int32))])) _
      refine XS.ifNo X_75.here hx rfl (hb hby at_164) rfl ((if0 _ _).trans (feq (by decide : ¬ ((1 : Int32) = (0 : Int32)))).1) ?_
      show Steps p.tables e below (T_75.setTop (mkF m 167 #[.val (.int p1), .val (.int p2), .val (.int (4 : Int32)), .val (.ref b_60), .val (.ref b_66), .val (.ref r_75), .val (.int (1 : Int32))] [])) _
      refine XS.aload X_75.here hx rfl (hb hby at_167) rfl rfl ?_
      show Steps p.tables e below (T_75.setTop (mkF m 169 #[.val (.int p1), .val (.int p2), .val (.int (4 : Int32)), .val (.ref b_60), .val (.ref b_66), .val (.ref r_75), .val (.int (1 : Int32))] [(.ref r_75)])) _
      refine XS.iconst X_75.here hx rfl (hb hby at_169) ?_
      show Steps p.tables e below (T_75.setTop (mkF m 170 #[.val (.int p1), .val (.int p2), .val (.int (4 : Int32)), .val (.ref b_60), .val (.ref b_66), .val (.ref r_75), .val (.int (1 : Int32))] [(.int (0 : Int32)), (.ref r_75)])) _
      refine X_75.iaload hx (j := (0 : Int32)) (v := (.int ((own_out 4 fz) 0))) Ar_77.1 (State.isArrayOf_alike hZ.alike Ar_77.2.1) Ar_77.2.2 (own_inb Sz_77 (show ¬ ((0 : Int32) < 0 ∨ 4 ≤ ((0 : Int32)).toNatClampNeg) from (by decide))) (by have q := At_77 _ (own_ltn (show ¬ ((0 : Int32) < 0 ∨ 4 ≤ ((0 : Int32)).toNatClampNeg) from (by decide))); rw [show ((0 : Int32)).toNatClampNeg = 0 from by decide] at q ⊢; exact q) (g := (mkF m 170 #[.val (.int p1), .val (.int p2), .val (.int (4 : Int32)), .val (.ref b_60), .val (.ref b_66), .val (.ref r_75), .val (.int (1 : Int32))] [(.int (0 : Int32)), (.ref r_75)])) rfl rfl (hb hby at_170) _ ?_
      show Steps p.tables e below (T_75.setTop (mkF m 171 #[.val (.int p1), .val (.int p2), .val (.int (4 : Int32)), .val (.ref b_60), .val (.ref b_66), .val (.ref r_75), .val (.int (1 : Int32))] [(.int ((own_out 4 fz) 0))])) _
      refine XS.aloadN X_75.here hx rfl (hb hby at_171) rfl rfl ?_
      show Steps p.tables e below (T_75.setTop (mkF m 172 #[.val (.int p1), .val (.int p2), .val (.int (4 : Int32)), .val (.ref b_60), .val (.ref b_66), .val (.ref r_75), .val (.int (1 : Int32))] [(.ref b_60), (.int ((own_out 4 fz) 0))])) _
      refine XS.iconst X_75.here hx rfl (hb hby at_172) ?_
      show Steps p.tables e below (T_75.setTop (mkF m 173 #[.val (.int p1), .val (.int p2), .val (.int (4 : Int32)), .val (.ref b_60), .val (.ref b_66), .val (.ref r_75), .val (.int (1 : Int32))] [(.int (0 : Int32)), (.ref b_60), (.int ((own_out 4 fz) 0))])) _
      refine st_78 _ ?_
      show Steps p.tables e below (T_78.setTop (mkF m 176 #[.val (.int p1), .val (.int p2), .val (.int (4 : Int32)), .val (.ref b_60), .val (.ref b_66), .val (.ref r_75), .val (.int (1 : Int32))] [(.int (own_border (0 : Int32) f5)), (.int ((own_out 4 fz) 0))])) _
      refine XS.icmpNo X_78.here hx rfl (hb hby at_176) rfl (teq (own_good4_0 f5 fz ht5 z_1 z_2 z_3 : ((own_out 4 fz) 0) = (own_border (0 : Int32) f5))).2 ?_
      show Steps p.tables e below (T_78.setTop (mkF m 179 #[.val (.int p1), .val (.int p2), .val (.int (4 : Int32)), .val (.ref b_60), .val (.ref b_66), .val (.ref r_75), .val (.int (1 : Int32))] [])) _
      refine XS.iconst X_78.here hx rfl (hb hby at_179) ?_
      show Steps p.tables e below (T_78.setTop (mkF m 180 #[.val (.int p1), .val (.int p2), .val (.int (4 : Int32)), .val (.ref b_60), .val (.ref b_66), .val (.ref r_75), .val (.int (1 : Int32))] [(.int (1 : Int32))])) _
      refine XS.goto X_78.here hx rfl (pc0 := 180) (pc' := 184) rfl (hb hby at_180) (by decide) (by decide) ?_
      show Steps p.tables e below (T_78.setTop (mkF m 184 #[.val (.int p1), .val (.int p2), .val (.int (4 : Int32)), .val (.ref b_60), .val (.ref b_66), .val (.ref r_75), .val (.int (1 : Int32))] [(.int (1 : Int32))])) _
      refine XS.istore X_78.here hx rfl (hb hby at_184) rfl (l' := #[.val (.int p1), .val (.int p2), .val (.int (4 : Int32)), .val (.ref b_60), .val (.ref b_66), .val (.ref r_75), .val (.int (1 : Int32))]) rfl ?_
      show Steps p.tables e below (T_78.setTop (mkF m 186 #[.val (.int p1), .val (.int p2), .val (.int (4 : Int32)), .val (.ref b_60), .val (.ref b_66), .val (.ref r_75), .val (.int (1 : Int32))] [])) _
      refine XS.iloadN X_78.here hx rfl (hb hby at_186) rfl ?_
      show Steps p.tables e below (T_78.setTop (mkF m 187 #[.val (.int p1), .val (.int p2), .val (.int (4 : Int32)), .val (.ref b_60), .val (.ref b_66), .val (.ref r_75), .val (.int (1 : Int32))] [(.int (4 : Int32))])) _
      refine XS.iconst X_78.here hx rfl (hb hby at_187) ?_
      show Steps p.tables e below (T_78.setTop (mkF m 188 #[.val (.int p1), .val (.int p2), .val (.int (4 : Int32)), .val (.ref b_60), .val (.ref b_66), .val (.ref r_75), .val (.int (1 : Int32))] [(.int (1 : Int32)), (.int (4 : Int32))])) _
      refine XS.icmpNo X_78.here hx rfl (hb hby at_188) rfl (tlt (by decide : (1 : Int32) < (4 : Int32))).2.2.2 ?_
      show Steps p.tables e below (T_78.setTop (mkF m 191 #[.val (.int p1), .val (.int p2), .val (.int (4 : Int32)), .val (.ref b_60), .val (.ref b_66), .val (.ref r_75), .val (.int (1 : Int32))] [])) _
      refine XS.iload X_78.here hx rfl (hb hby at_191) rfl ?_
      show Steps p.tables e below (T_78.setTop (mkF m 193 #[.val (.int p1), .val (.int p2), .val (.int (4 : Int32)), .val (.ref b_60), .val (.ref b_66), .val (.ref r_75), .val (.int (1 : Int32))] [(.int (1 : Int32))])) _
      refine XS.ifNo X_78.here hx rfl (hb hby at_193) rfl ((if0 _ _).trans (feq (by decide : ¬ ((1 : Int32) = (0 : Int32)))).1) ?_
      show Steps p.tables e below (T_78.setTop (mkF m 196 #[.val (.int p1), .val (.int p2), .val (.int (4 : Int32)), .val (.ref b_60), .val (.ref b_66), .val (.ref r_75), .val (.int (1 : Int32))] [])) _
      refine XS.aload X_78.here hx rfl (hb hby at_196) rfl rfl ?_
      show Steps p.tables e below (T_78.setTop (mkF m 198 #[.val (.int p1), .val (.int p2), .val (.int (4 : Int32)), .val (.ref b_60), .val (.ref b_66), .val (.ref r_75), .val (.int (1 : Int32))] [(.ref r_75)])) _
      refine XS.iconst X_78.here hx rfl (hb hby at_198) ?_
      show Steps p.tables e below (T_78.setTop (mkF m 199 #[.val (.int p1), .val (.int p2), .val (.int (4 : Int32)), .val (.ref b_60), .val (.ref b_66), .val (.ref r_75), .val (.int (1 : Int32))] [(.int (1 : Int32)), (.ref r_75)])) _
      refine X_78.iaload hx (j := (1 : Int32)) (v := (.int ((own_out 4 fz) 1))) (by rw [e_78]; exact Ar_77.1) (State.isArrayOf_alike hZ.alike Ar_77.2.1) Ar_77.2.2 (own_inb Sz_77 (show ¬ ((1 : Int32) < 0 ∨ 4 ≤ ((1 : Int32)).toNatClampNeg) from (by decide))) (by have q := At_77 _ (own_ltn (show ¬ ((1 : Int32) < 0 ∨ 4 ≤ ((1 : Int32)).toNatClampNeg) from (by decide))); rw [show ((1 : Int32)).toNatClampNeg = 1 from by decide] at q ⊢; exact q) (g := (mkF m 199 #[.val (.int p1), .val (.int p2), .val (.int (4 : Int32)), .val (.ref b_60), .val (.ref b_66), .val (.ref r_75), .val (.int (1 : Int32))] [(.int (1 : Int32)), (.ref r_75)])) rfl rfl (hb hby at_199) _ ?_
      show Steps p.tables e below (T_78.setTop (mkF m 200 #[.val (.int p1), .val (.int p2), .val (.int (4 : Int32)), .val (.ref b_60), .val (.ref b_66), .val (.ref r_75), .val (.int (1 : Int32))] [(.int ((own_out 4 fz) 1))])) _
      refine XS.aloadN X_78.here hx rfl (hb hby at_200) rfl rfl ?_
      show Steps p.tables e below (T_78.setTop (mkF m 201 #[.val (.int p1), .val (.int p2), .val (.int (4 : Int32)), .val (.ref b_60), .val (.ref b_66), .val (.ref r_75), .val (.int (1 : Int32))] [(.ref b_60), (.int ((own_out 4 fz) 1))])) _
      refine XS.iconst X_78.here hx rfl (hb hby at_201) ?_
      show Steps p.tables e below (T_78.setTop (mkF m 202 #[.val (.int p1), .val (.int p2), .val (.int (4 : Int32)), .val (.ref b_60), .val (.ref b_66), .val (.ref r_75), .val (.int (1 : Int32))] [(.int (1 : Int32)), (.ref b_60), (.int ((own_out 4 fz) 1))])) _
      refine st_79 _ ?_
      show Steps p.tables e below (T_79.setTop (mkF m 205 #[.val (.int p1), .val (.int p2), .val (.int (4 : Int32)), .val (.ref b_60), .val (.ref b_66), .val (.ref r_75), .val (.int (1 : Int32))] [(.int (own_border (1 : Int32) f5)), (.int ((own_out 4 fz) 1))])) _
      refine XS.icmpNo X_79.here hx rfl (hb hby at_205) rfl (teq (own_good4_1 f5 fz ht5 z_1 z_2 z_3 : ((own_out 4 fz) 1) = (own_border (1 : Int32) f5))).2 ?_
      show Steps p.tables e below (T_79.setTop (mkF m 208 #[.val (.int p1), .val (.int p2), .val (.int (4 : Int32)), .val (.ref b_60), .val (.ref b_66), .val (.ref r_75), .val (.int (1 : Int32))] [])) _
      refine XS.iconst X_79.here hx rfl (hb hby at_208) ?_
      show Steps p.tables e below (T_79.setTop (mkF m 209 #[.val (.int p1), .val (.int p2), .val (.int (4 : Int32)), .val (.ref b_60), .val (.ref b_66), .val (.ref r_75), .val (.int (1 : Int32))] [(.int (1 : Int32))])) _
      refine XS.goto X_79.here hx rfl (pc0 := 209) (pc' := 213) rfl (hb hby at_209) (by decide) (by decide) ?_
      show Steps p.tables e below (T_79.setTop (mkF m 213 #[.val (.int p1), .val (.int p2), .val (.int (4 : Int32)), .val (.ref b_60), .val (.ref b_66), .val (.ref r_75), .val (.int (1 : Int32))] [(.int (1 : Int32))])) _
      refine XS.istore X_79.here hx rfl (hb hby at_213) rfl (l' := #[.val (.int p1), .val (.int p2), .val (.int (4 : Int32)), .val (.ref b_60), .val (.ref b_66), .val (.ref r_75), .val (.int (1 : Int32))]) rfl ?_
      show Steps p.tables e below (T_79.setTop (mkF m 215 #[.val (.int p1), .val (.int p2), .val (.int (4 : Int32)), .val (.ref b_60), .val (.ref b_66), .val (.ref r_75), .val (.int (1 : Int32))] [])) _
      refine XS.iloadN X_79.here hx rfl (hb hby at_215) rfl ?_
      show Steps p.tables e below (T_79.setTop (mkF m 216 #[.val (.int p1), .val (.int p2), .val (.int (4 : Int32)), .val (.ref b_60), .val (.ref b_66), .val (.ref r_75), .val (.int (1 : Int32))] [(.int (4 : Int32))])) _
      refine XS.iconst X_79.here hx rfl (hb hby at_216) ?_
      show Steps p.tables e below (T_79.setTop (mkF m 217 #[.val (.int p1), .val (.int p2), .val (.int (4 : Int32)), .val (.ref b_60), .val (.ref b_66), .val (.ref r_75), .val (.int (1 : Int32))] [(.int (2 : Int32)), (.int (4 : Int32))])) _
      refine XS.icmpNo X_79.here hx rfl (hb hby at_217) rfl (tlt (by decide : (2 : Int32) < (4 : Int32))).2.2.2 ?_
      show Steps p.tables e below (T_79.setTop (mkF m 220 #[.val (.int p1), .val (.int p2), .val (.int (4 : Int32)), .val (.ref b_60), .val (.ref b_66), .val (.ref r_75), .val (.int (1 : Int32))] [])) _
      refine XS.iload X_79.here hx rfl (hb hby at_220) rfl ?_
      show Steps p.tables e below (T_79.setTop (mkF m 222 #[.val (.int p1), .val (.int p2), .val (.int (4 : Int32)), .val (.ref b_60), .val (.ref b_66), .val (.ref r_75), .val (.int (1 : Int32))] [(.int (1 : Int32))])) _
      refine XS.ifNo X_79.here hx rfl (hb hby at_222) rfl ((if0 _ _).trans (feq (by decide : ¬ ((1 : Int32) = (0 : Int32)))).1) ?_
      show Steps p.tables e below (T_79.setTop (mkF m 225 #[.val (.int p1), .val (.int p2), .val (.int (4 : Int32)), .val (.ref b_60), .val (.ref b_66), .val (.ref r_75), .val (.int (1 : Int32))] [])) _
      refine XS.aload X_79.here hx rfl (hb hby at_225) rfl rfl ?_
      show Steps p.tables e below (T_79.setTop (mkF m 227 #[.val (.int p1), .val (.int p2), .val (.int (4 : Int32)), .val (.ref b_60), .val (.ref b_66), .val (.ref r_75), .val (.int (1 : Int32))] [(.ref r_75)])) _
      refine XS.iconst X_79.here hx rfl (hb hby at_227) ?_
      show Steps p.tables e below (T_79.setTop (mkF m 228 #[.val (.int p1), .val (.int p2), .val (.int (4 : Int32)), .val (.ref b_60), .val (.ref b_66), .val (.ref r_75), .val (.int (1 : Int32))] [(.int (2 : Int32)), (.ref r_75)])) _
      refine X_79.iaload hx (j := (2 : Int32)) (v := (.int ((own_out 4 fz) 2))) (by rw [e_79]; exact Ar_77.1) (State.isArrayOf_alike hZ.alike Ar_77.2.1) Ar_77.2.2 (own_inb Sz_77 (show ¬ ((2 : Int32) < 0 ∨ 4 ≤ ((2 : Int32)).toNatClampNeg) from (by decide))) (by have q := At_77 _ (own_ltn (show ¬ ((2 : Int32) < 0 ∨ 4 ≤ ((2 : Int32)).toNatClampNeg) from (by decide))); rw [show ((2 : Int32)).toNatClampNeg = 2 from by decide] at q ⊢; exact q) (g := (mkF m 228 #[.val (.int p1), .val (.int p2), .val (.int (4 : Int32)), .val (.ref b_60), .val (.ref b_66), .val (.ref r_75), .val (.int (1 : Int32))] [(.int (2 : Int32)), (.ref r_75)])) rfl rfl (hb hby at_228) _ ?_
      show Steps p.tables e below (T_79.setTop (mkF m 229 #[.val (.int p1), .val (.int p2), .val (.int (4 : Int32)), .val (.ref b_60), .val (.ref b_66), .val (.ref r_75), .val (.int (1 : Int32))] [(.int ((own_out 4 fz) 2))])) _
      refine XS.aloadN X_79.here hx rfl (hb hby at_229) rfl rfl ?_
      show Steps p.tables e below (T_79.setTop (mkF m 230 #[.val (.int p1), .val (.int p2), .val (.int (4 : Int32)), .val (.ref b_60), .val (.ref b_66), .val (.ref r_75), .val (.int (1 : Int32))] [(.ref b_60), (.int ((own_out 4 fz) 2))])) _
      refine XS.iconst X_79.here hx rfl (hb hby at_230) ?_
      show Steps p.tables e below (T_79.setTop (mkF m 231 #[.val (.int p1), .val (.int p2), .val (.int (4 : Int32)), .val (.ref b_60), .val (.ref b_66), .val (.ref r_75), .val (.int (1 : Int32))] [(.int (2 : Int32)), (.ref b_60), (.int ((own_out 4 fz) 2))])) _
      refine st_80 _ ?_
      show Steps p.tables e below (T_80.setTop (mkF m 234 #[.val (.int p1), .val (.int p2), .val (.int (4 : Int32)), .val (.ref b_60), .val (.ref b_66), .val (.ref r_75), .val (.int (1 : Int32))] [(.int (own_border (2 : Int32) f5)), (.int ((own_out 4 fz) 2))])) _
      refine XS.icmpNo X_80.here hx rfl (hb hby at_234) rfl (teq (own_good4_2 f5 fz ht5 z_1 z_2 z_3 : ((own_out 4 fz) 2) = (own_border (2 : Int32) f5))).2 ?_
      show Steps p.tables e below (T_80.setTop (mkF m 237 #[.val (.int p1), .val (.int p2), .val (.int (4 : Int32)), .val (.ref b_60), .val (.ref b_66), .val (.ref r_75), .val (.int (1 : Int32))] [])) _
      refine XS.iconst X_80.here hx rfl (hb hby at_237) ?_
      show Steps p.tables e below (T_80.setTop (mkF m 238 #[.val (.int p1), .val (.int p2), .val (.int (4 : Int32)), .val (.ref b_60), .val (.ref b_66), .val (.ref r_75), .val (.int (1 : Int32))] [(.int (1 : Int32))])) _
      refine XS.goto X_80.here hx rfl (pc0 := 238) (pc' := 242) rfl (hb hby at_238) (by decide) (by decide) ?_
      show Steps p.tables e below (T_80.setTop (mkF m 242 #[.val (.int p1), .val (.int p2), .val (.int (4 : Int32)), .val (.ref b_60), .val (.ref b_66), .val (.ref r_75), .val (.int (1 : Int32))] [(.int (1 : Int32))])) _
      refine XS.istore X_80.here hx rfl (hb hby at_242) rfl (l' := #[.val (.int p1), .val (.int p2), .val (.int (4 : Int32)), .val (.ref b_60), .val (.ref b_66), .val (.ref r_75), .val (.int (1 : Int32))]) rfl ?_
      show Steps p.tables e below (T_80.setTop (mkF m 244 #[.val (.int p1), .val (.int p2), .val (.int (4 : Int32)), .val (.ref b_60), .val (.ref b_66), .val (.ref r_75), .val (.int (1 : Int32))] [])) _
      refine XS.iloadN X_80.here hx rfl (hb hby at_244) rfl ?_
      show Steps p.tables e below (T_80.setTop (mkF m 245 #[.val (.int p1), .val (.int p2), .val (.int (4 : Int32)), .val (.ref b_60), .val (.ref b_66), .val (.ref r_75), .val (.int (1 : Int32))] [(.int (4 : Int32))])) _
      refine XS.iconst X_80.here hx rfl (hb hby at_245) ?_
      show Steps p.tables e below (T_80.setTop (mkF m 246 #[.val (.int p1), .val (.int p2), .val (.int (4 : Int32)), .val (.ref b_60), .val (.ref b_66), .val (.ref r_75), .val (.int (1 : Int32))] [(.int (3 : Int32)), (.int (4 : Int32))])) _
      refine XS.icmpNo X_80.here hx rfl (hb hby at_246) rfl (tlt (by decide : (3 : Int32) < (4 : Int32))).2.2.2 ?_
      show Steps p.tables e below (T_80.setTop (mkF m 249 #[.val (.int p1), .val (.int p2), .val (.int (4 : Int32)), .val (.ref b_60), .val (.ref b_66), .val (.ref r_75), .val (.int (1 : Int32))] [])) _
      refine XS.iload X_80.here hx rfl (hb hby at_249) rfl ?_
      show Steps p.tables e below (T_80.setTop (mkF m 251 #[.val (.int p1), .val (.int p2), .val (.int (4 : Int32)), .val (.ref b_60), .val (.ref b_66), .val (.ref r_75), .val (.int (1 : Int32))] [(.int (1 : Int32))])) _
      refine XS.ifNo X_80.here hx rfl (hb hby at_251) rfl ((if0 _ _).trans (feq (by decide : ¬ ((1 : Int32) = (0 : Int32)))).1) ?_
      show Steps p.tables e below (T_80.setTop (mkF m 254 #[.val (.int p1), .val (.int p2), .val (.int (4 : Int32)), .val (.ref b_60), .val (.ref b_66), .val (.ref r_75), .val (.int (1 : Int32))] [])) _
      refine XS.aload X_80.here hx rfl (hb hby at_254) rfl rfl ?_
      show Steps p.tables e below (T_80.setTop (mkF m 256 #[.val (.int p1), .val (.int p2), .val (.int (4 : Int32)), .val (.ref b_60), .val (.ref b_66), .val (.ref r_75), .val (.int (1 : Int32))] [(.ref r_75)])) _
      refine XS.iconst X_80.here hx rfl (hb hby at_256) ?_
      show Steps p.tables e below (T_80.setTop (mkF m 257 #[.val (.int p1), .val (.int p2), .val (.int (4 : Int32)), .val (.ref b_60), .val (.ref b_66), .val (.ref r_75), .val (.int (1 : Int32))] [(.int (3 : Int32)), (.ref r_75)])) _
      refine X_80.iaload hx (j := (3 : Int32)) (v := (.int ((own_out 4 fz) 3))) (by rw [e_80]; exact Ar_77.1) (State.isArrayOf_alike hZ.alike Ar_77.2.1) Ar_77.2.2 (own_inb Sz_77 (show ¬ ((3 : Int32) < 0 ∨ 4 ≤ ((3 : Int32)).toNatClampNeg) from (by decide))) (by have q := At_77 _ (own_ltn (show ¬ ((3 : Int32) < 0 ∨ 4 ≤ ((3 : Int32)).toNatClampNeg) from (by decide))); rw [show ((3 : Int32)).toNatClampNeg = 3 from by decide] at q ⊢; exact q) (g := (mkF m 257 #[.val (.int p1), .val (.int p2), .val (.int (4 : Int32)), .val (.ref b_60), .val (.ref b_66), .val (.ref r_75), .val (.int (1 : Int32))] [(.int (3 : Int32)), (.ref r_75)])) rfl rfl (hb hby at_257) _ ?_
      show Steps p.tables e below (T_80.setTop (mkF m 258 #[.val (.int p1), .val (.int p2), .val (.int (4 : Int32)), .val (.ref b_60), .val (.ref b_66), .val (.ref r_75), .val (.int (1 : Int32))] [(.int ((own_out 4 fz) 3))])) _
      refine XS.aloadN X_80.here hx rfl (hb hby at_258) rfl rfl ?_
      show Steps p.tables e below (T_80.setTop (mkF m 259 #[.val (.int p1), .val (.int p2), .val (.int (4 : Int32)), .val (.ref b_60), .val (.ref b_66), .val (.ref r_75), .val (.int (1 : Int32))] [(.ref b_60), (.int ((own_out 4 fz) 3))])) _
      refine XS.iconst X_80.here hx rfl (hb hby at_259) ?_
      show Steps p.tables e below (T_80.setTop (mkF m 260 #[.val (.int p1), .val (.int p2), .val (.int (4 : Int32)), .val (.ref b_60), .val (.ref b_66), .val (.ref r_75), .val (.int (1 : Int32))] [(.int (3 : Int32)), (.ref b_60), (.int ((own_out 4 fz) 3))])) _
      refine st_81 _ ?_
      show Steps p.tables e below (T_81.setTop (mkF m 263 #[.val (.int p1), .val (.int p2), .val (.int (4 : Int32)), .val (.ref b_60), .val (.ref b_66), .val (.ref r_75), .val (.int (1 : Int32))] [(.int (own_border (3 : Int32) f5)), (.int ((own_out 4 fz) 3))])) _
      refine XS.icmpNo X_81.here hx rfl (hb hby at_263) rfl (teq (own_good4_3 f5 fz ht5 z_1 z_2 z_3 : ((own_out 4 fz) 3) = (own_border (3 : Int32) f5))).2 ?_
      show Steps p.tables e below (T_81.setTop (mkF m 266 #[.val (.int p1), .val (.int p2), .val (.int (4 : Int32)), .val (.ref b_60), .val (.ref b_66), .val (.ref r_75), .val (.int (1 : Int32))] [])) _
      refine XS.iconst X_81.here hx rfl (hb hby at_266) ?_
      show Steps p.tables e below (T_81.setTop (mkF m 267 #[.val (.int p1), .val (.int p2), .val (.int (4 : Int32)), .val (.ref b_60), .val (.ref b_66), .val (.ref r_75), .val (.int (1 : Int32))] [(.int (1 : Int32))])) _
      refine XS.goto X_81.here hx rfl (pc0 := 267) (pc' := 271) rfl (hb hby at_267) (by decide) (by decide) ?_
      show Steps p.tables e below (T_81.setTop (mkF m 271 #[.val (.int p1), .val (.int p2), .val (.int (4 : Int32)), .val (.ref b_60), .val (.ref b_66), .val (.ref r_75), .val (.int (1 : Int32))] [(.int (1 : Int32))])) _
      refine XS.istore X_81.here hx rfl (hb hby at_271) rfl (l' := #[.val (.int p1), .val (.int p2), .val (.int (4 : Int32)), .val (.ref b_60), .val (.ref b_66), .val (.ref r_75), .val (.int (1 : Int32))]) rfl ?_
      show Steps p.tables e below (T_81.setTop (mkF m 273 #[.val (.int p1), .val (.int p2), .val (.int (4 : Int32)), .val (.ref b_60), .val (.ref b_66), .val (.ref r_75), .val (.int (1 : Int32))] [])) _
      refine XS.iloadN X_81.here hx rfl (hb hby at_273) rfl ?_
      show Steps p.tables e below (T_81.setTop (mkF m 274 #[.val (.int p1), .val (.int p2), .val (.int (4 : Int32)), .val (.ref b_60), .val (.ref b_66), .val (.ref r_75), .val (.int (1 : Int32))] [(.int (4 : Int32))])) _
      refine XS.iconst X_81.here hx rfl (hb hby at_274) ?_
      show Steps p.tables e below (T_81.setTop (mkF m 275 #[.val (.int p1), .val (.int p2), .val (.int (4 : Int32)), .val (.ref b_60), .val (.ref b_66), .val (.ref r_75), .val (.int (1 : Int32))] [(.int (4 : Int32)), (.int (4 : Int32))])) _
      refine XS.icmpYes X_81.here hx rfl (pc0 := 275) (pc' := 302) rfl (hb hby at_275) rfl (flt (by decide : ¬ ((4 : Int32) < (4 : Int32)))).2.2.2 (by decide) (by decide) ?_
      show Steps p.tables e below (T_81.setTop (mkF m 302 #[.val (.int p1), .val (.int p2), .val (.int (4 : Int32)), .val (.ref b_60), .val (.ref b_66), .val (.ref r_75), .val (.int (1 : Int32))] [])) _
      refine XS.iload X_81.here hx rfl (hb hby at_302) rfl ?_
      show Steps p.tables e below (T_81.setTop (mkF m 304 #[.val (.int p1), .val (.int p2), .val (.int (4 : Int32)), .val (.ref b_60), .val (.ref b_66), .val (.ref r_75), .val (.int (1 : Int32))] [(.int (1 : Int32))])) _
      exact retN X_81 hx (t := .boolean) Bd.returns (by simp) (hb hby at_304) hr
    · exact ⟨rfl, N_81⟩
  · obtain ⟨T_82, h_82, k_82, X_82, e_82, E_82, A_82, st_82⟩ := newP X0 hx hZ (hw _ (List.mem_of_getElem? (i := 1) rfl)) e0 (g := (mkF m 9 #[.val (.int p1), .val (.int p2), .val (.int (5 : Int32)), .unset, .unset, .unset, .unset] [(.int (5 : Int32))])) rfl (hb hby at_9) rfl (by decide) (cap := 5) (by decide) (by decide) (by decide) (by decide)
    obtain ⟨b_82, g_82⟩ : ∃ z, z = h0.size := ⟨_, rfl⟩
    rw [← g_82] at A_82 st_82
    have g_b_82 : n0 ≤ b_82 := Nat.le_trans Z0 (Nat.le_of_eq g_82.symm)
    have sz_b_82 : h0.size ≤ b_82 := Nat.le_trans ((Keep.refl h0 [])).1 (Nat.le_of_eq g_82.symm)
    have Z_82 : n0 ≤ h_82.size := Nat.le_trans Z0 E_82.1
    have K_82 : Keep h0 h_82 [] := (Keep.refl h0 []).ext E_82
    have fa_82 : own_arr .int Z h_82 b_82 5 (fun _ => 0) := own_arr.newI A_82 rfl
    have fo_83 := fa_82
    obtain ⟨cl_83, Ar_83, Sz_83, At_83⟩ := fo_83
    obtain ⟨T_83, h_83, X_83, e_83, W_83, st_83⟩ := stI X_82 hx hZ e_82 Ar_83 (j := (0 : Int32)) (own_inb Sz_83 (by decide)) (g := (mkF m 18 #[.val (.int p1), .val (.int p2), .val (.int (5 : Int32)), .val (.ref b_82), .unset, .unset, .unset] [(.int (p2 &&& (7 : Int32))), (.int (0 : Int32)), (.ref b_82)])) rfl rfl (hb hby at_18)
    have N_83 := Fr.snoc X_83 N0 g_b_82
    have fw_83 : own_arr .int Z h_83 b_82 5 (own_upd (fun _ => 0) 0 (p2 &&& (7 : Int32))) := own_arr.set Ar_83 Sz_83 At_83 W_83
    have Z_83 : n0 ≤ h_83.size := Nat.le_trans Z_82 (Keep.of_wr W_83).1
    have K_83 : Keep h0 h_83 [] := K_82.wr W_83 (Or.inr sz_b_82)
    have fo_84 := fw_83
    obtain ⟨cl_84, Ar_84, Sz_84, At_84⟩ := fo_84
    obtain ⟨T_84, h_84, X_84, e_84, W_84, st_84⟩ := stI X_83 hx hZ e_83 Ar_84 (j := (1 : Int32)) (own_inb Sz_84 (by decide)) (g := (mkF m 27 #[.val (.int p1), .val (.int p2), .val (.int (5 : Int32)), .val (.ref b_82), .unset, .unset, .unset] [(.int (((p2.toUInt32 >>> ((3 : Int32) &&& 31).toUInt32).toInt32) &&& (7 : Int32))), (.int (1 : Int32)), (.ref b_82)])) rfl rfl (hb hby at_27)
    have N_84 := Fr.snoc X_84 N_83 g_b_82
    have fw_84 : own_arr .int Z h_84 b_82 5 (own_upd (own_upd (fun _ => 0) 0 (p2 &&& (7 : Int32))) 1 (((p2.toUInt32 >>> ((3 : Int32) &&& 31).toUInt32).toInt32) &&& (7 : Int32))) := own_arr.set Ar_84 Sz_84 At_84 W_84
    have Z_84 : n0 ≤ h_84.size := Nat.le_trans Z_83 (Keep.of_wr W_84).1
    have K_84 : Keep h0 h_84 [] := K_83.wr W_84 (Or.inr sz_b_82)
    have fo_85 := fw_84
    obtain ⟨cl_85, Ar_85, Sz_85, At_85⟩ := fo_85
    obtain ⟨T_85, h_85, X_85, e_85, W_85, st_85⟩ := stI X_84 hx hZ e_84 Ar_85 (j := (2 : Int32)) (own_inb Sz_85 (by decide)) (g := (mkF m 37 #[.val (.int p1), .val (.int p2), .val (.int (5 : Int32)), .val (.ref b_82), .unset, .unset, .unset] [(.int (((p2.toUInt32 >>> ((6 : Int32) &&& 31).toUInt32).toInt32) &&& (7 : Int32))), (.int (2 : Int32)), (.ref b_82)])) rfl rfl (hb hby at_37)
    have N_85 := Fr.snoc X_85 N_84 g_b_82
    have fw_85 : own_arr .int Z h_85 b_82 5 (own_upd (own_upd (own_upd (fun _ => 0) 0 (p2 &&& (7 : Int32))) 1 (((p2.toUInt32 >>> ((3 : Int32) &&& 31).toUInt32).toInt32) &&& (7 : Int32))) 2 (((p2.toUInt32 >>> ((6 : Int32) &&& 31).toUInt32).toInt32) &&& (7 : Int32))) := own_arr.set Ar_85 Sz_85 At_85 W_85
    have Z_85 : n0 ≤ h_85.size := Nat.le_trans Z_84 (Keep.of_wr W_85).1
    have K_85 : Keep h0 h_85 [] := K_84.wr W_85 (Or.inr sz_b_82)
    have fo_86 := fw_85
    obtain ⟨cl_86, Ar_86, Sz_86, At_86⟩ := fo_86
    obtain ⟨T_86, h_86, X_86, e_86, W_86, st_86⟩ := stI X_85 hx hZ e_85 Ar_86 (j := (3 : Int32)) (own_inb Sz_86 (by decide)) (g := (mkF m 47 #[.val (.int p1), .val (.int p2), .val (.int (5 : Int32)), .val (.ref b_82), .unset, .unset, .unset] [(.int (((p2.toUInt32 >>> ((9 : Int32) &&& 31).toUInt32).toInt32) &&& (7 : Int32))), (.int (3 : Int32)), (.ref b_82)])) rfl rfl (hb hby at_47)
    have N_86 := Fr.snoc X_86 N_85 g_b_82
    have fw_86 : own_arr .int Z h_86 b_82 5 (own_upd (own_upd (own_upd (own_upd (fun _ => 0) 0 (p2 &&& (7 : Int32))) 1 (((p2.toUInt32 >>> ((3 : Int32) &&& 31).toUInt32).toInt32) &&& (7 : Int32))) 2 (((p2.toUInt32 >>> ((6 : Int32) &&& 31).toUInt32).toInt32) &&& (7 : Int32))) 3 (((p2.toUInt32 >>> ((9 : Int32) &&& 31).toUInt32).toInt32) &&& (7 : Int32))) := own_arr.set Ar_86 Sz_86 At_86 W_86
    have Z_86 : n0 ≤ h_86.size := Nat.le_trans Z_85 (Keep.of_wr W_86).1
    have K_86 : Keep h0 h_86 [] := K_85.wr W_86 (Or.inr sz_b_82)
    have fo_87 := fw_86
    obtain ⟨cl_87, Ar_87, Sz_87, At_87⟩ := fo_87
    obtain ⟨T_87, h_87, X_87, e_87, W_87, st_87⟩ := stI X_86 hx hZ e_86 Ar_87 (j := (4 : Int32)) (own_inb Sz_87 (by decide)) (g := (mkF m 57 #[.val (.int p1), .val (.int p2), .val (.int (5 : Int32)), .val (.ref b_82), .unset, .unset, .unset] [(.int (((p2.toUInt32 >>> ((12 : Int32) &&& 31).toUInt32).toInt32) &&& (7 : Int32))), (.int (4 : Int32)), (.ref b_82)])) rfl rfl (hb hby at_57)
    have N_87 := Fr.snoc X_87 N_86 g_b_82
    have fw_87 : own_arr .int Z h_87 b_82 5 (own_upd (own_upd (own_upd (own_upd (own_upd (fun _ => 0) 0 (p2 &&& (7 : Int32))) 1 (((p2.toUInt32 >>> ((3 : Int32) &&& 31).toUInt32).toInt32) &&& (7 : Int32))) 2 (((p2.toUInt32 >>> ((6 : Int32) &&& 31).toUInt32).toInt32) &&& (7 : Int32))) 3 (((p2.toUInt32 >>> ((9 : Int32) &&& 31).toUInt32).toInt32) &&& (7 : Int32))) 4 (((p2.toUInt32 >>> ((12 : Int32) &&& 31).toUInt32).toInt32) &&& (7 : Int32))) := own_arr.set Ar_87 Sz_87 At_87 W_87
    have Z_87 : n0 ≤ h_87.size := Nat.le_trans Z_86 (Keep.of_wr W_87).1
    have K_87 : Keep h0 h_87 [] := K_86.wr W_87 (Or.inr sz_b_82)
    obtain ⟨f5, hf5, ht5⟩ := own_tail (own_upd (own_upd (own_upd (own_upd (own_upd (fun _ => 0) 0 (p2 &&& (7 : Int32))) 1 (((p2.toUInt32 >>> ((3 : Int32) &&& 31).toUInt32).toInt32) &&& (7 : Int32))) 2 (((p2.toUInt32 >>> ((6 : Int32) &&& 31).toUInt32).toInt32) &&& (7 : Int32))) 3 (((p2.toUInt32 >>> ((9 : Int32) &&& 31).toUInt32).toInt32) &&& (7 : Int32))) 4 (((p2.toUInt32 >>> ((12 : Int32) &&& 31).toUInt32).toInt32) &&& (7 : Int32)))
    have fq5 := fw_87.eqv hf5
    obtain ⟨T_88, h_88, k_88, X_88, e_88, E_88, A_88, st_88⟩ := newP X_87 hx hZ (hw _ (List.mem_of_getElem? (i := 1) rfl)) e_87 (g := (mkF m 59 #[.val (.int p1), .val (.int p2), .val (.int (5 : Int32)), .val (.ref b_82), .unset, .unset, .unset] [(.int (5 : Int32))])) rfl (hb hby at_59) rfl (by decide) (cap := 5) (by decide) (by decide) (by decide) (by decide)
    obtain ⟨b_88, g_88⟩ : ∃ z, z = h_87.size := ⟨_, rfl⟩
    rw [← g_88] at A_88 st_88
    have ne_b_82_b_88 : b_82 ≠ b_88 := Nat.ne_of_lt (Nat.lt_of_lt_of_le fq5.lt (Nat.le_of_eq g_88.symm))
    have g_b_88 : n0 ≤ b_88 := Nat.le_trans Z_87 (Nat.le_of_eq g_88.symm)
    have sz_b_88 : h0.size ≤ b_88 := Nat.le_trans (K_87).1 (Nat.le_of_eq g_88.symm)
    have f_88_0 : own_arr .int Z h_88 b_82 5 f5 := fq5.ext E_88
    have Z_88 : n0 ≤ h_88.size := Nat.le_trans Z_87 E_88.1
    have K_88 : Keep h0 h_88 [] := K_87.ext E_88
    have fa_88 : own_arr .int Z h_88 b_88 5 (fun _ => 0) := own_arr.newI A_88 rfl
    obtain ⟨_, _, ⟨T_89, L_89, k_89, n_89⟩, -, X_89, ⟨Lc_89, hQ_89, l_89, y_89, z_89⟩, st_89⟩ := Jvm.LawKit.callS X_88 hx (y := (⟨"com/example/borderwork/borderwork/zarrays/ZArraysToBorderArrayPinLaw", "lcp", "([III)I"⟩ : MethodName)) hown (mvT hZ (hw _ (List.mem_of_getElem? (i := 6) rfl))) (mvT hZ (hw _ (List.mem_of_getElem? (i := 7) rfl))) (mvT hZ (hw _ (List.mem_of_getElem? (i := 8) rfl))) (mvT hZ (hw _ (List.mem_of_getElem? (i := 9) rfl))) (by decide) (backOf (W := 2) (rm2 l Z a0 hw [] b_82 (5 : Int32) (0 : Int32) f5 h_88 n0 Z_88 f_88_0 (by decide) (by decide) (by decide)) hZ (hw _ (List.mem_of_getElem? (i := 9) rfl)) (hw _ (List.mem_of_getElem? (i := 8) rfl)) (by decide) (by decide)) (g := (mkF m 73 #[.val (.int p1), .val (.int p2), .val (.int (5 : Int32)), .val (.ref b_82), .val (.ref b_88), .unset, .unset] [(.int (0 : Int32)), (.int (5 : Int32)), (.ref b_82), (.int (0 : Int32)), (.ref b_88)])) rfl (by rw [hml]; rfl) (argsL := [(.ref b_82), (.int (5 : Int32)), (.int (0 : Int32))]) (rest := [(.int (0 : Int32)), (.ref b_88)]) (lenOf pd_3 rfl) rfl (by show 2 * 0 + _ ≤ _; exact Nat.le_of_eq rfl) (hb hby at_73) (fun _ _ => ⟨rfl, e_88, (by decide : 2 + 0 ≤ _), (by decide : 10 + 0 ≤ _)⟩)
    dsimp only [Pt.U, Pt.locs, Pt.cells, Pt.slots] at X_89 l_89 y_89 z_89 st_89 hQ_89
    subst l_89 y_89 z_89
    obtain ⟨rfl, N_89q, e_89⟩ := hQ_89
    have N_89 := Fr.app N_87 N_89q
    have fo_90 := fa_88
    obtain ⟨cl_90, Ar_90, Sz_90, At_90⟩ := fo_90
    obtain ⟨T_90, h_90, X_90, e_90, W_90, st_90⟩ := stI X_89 hx hZ e_89 Ar_90 (j := (0 : Int32)) (own_inb Sz_90 (by decide)) (g := (mkF m 76 #[.val (.int p1), .val (.int p2), .val (.int (5 : Int32)), .val (.ref b_82), .val (.ref b_88), .unset, .unset] [(.int (own_lcp (5 : Int32) (0 : Int32) f5)), (.int (0 : Int32)), (.ref b_88)])) rfl rfl (hb hby at_76)
    have N_90 := Fr.snoc X_90 N_89 g_b_88
    have fw_90 : own_arr .int Z h_90 b_88 5 (own_upd (fun _ => 0) 0 (own_lcp (5 : Int32) (0 : Int32) f5)) := own_arr.set Ar_90 Sz_90 At_90 W_90
    have f_90_0 : own_arr .int Z h_90 b_82 5 f5 := f_88_0.other W_90 ne_b_82_b_88
    have Z_90 : n0 ≤ h_90.size := Nat.le_trans Z_88 (Keep.of_wr W_90).1
    have K_90 : Keep h0 h_90 [] := K_88.wr W_90 (Or.inr sz_b_88)
    obtain ⟨_, _, ⟨T_91, L_91, k_91, n_91⟩, -, X_91, ⟨Lc_91, hQ_91, l_91, y_91, z_91⟩, st_91⟩ := Jvm.LawKit.callS X_90 hx (y := (⟨"com/example/borderwork/borderwork/zarrays/ZArraysToBorderArrayPinLaw", "lcp", "([III)I"⟩ : MethodName)) hown (mvT hZ (hw _ (List.mem_of_getElem? (i := 6) rfl))) (mvT hZ (hw _ (List.mem_of_getElem? (i := 7) rfl))) (mvT hZ (hw _ (List.mem_of_getElem? (i := 8) rfl))) (mvT hZ (hw _ (List.mem_of_getElem? (i := 9) rfl))) (by decide) (backOf (W := 2) (rm2 l Z a0 hw [] b_82 (5 : Int32) (1 : Int32) f5 h_90 n0 Z_90 f_90_0 (by decide) (by decide) (by decide)) hZ (hw _ (List.mem_of_getElem? (i := 9) rfl)) (hw _ (List.mem_of_getElem? (i := 8) rfl)) (by decide) (by decide)) (g := (mkF m 88 #[.val (.int p1), .val (.int p2), .val (.int (5 : Int32)), .val (.ref b_82), .val (.ref b_88), .unset, .unset] [(.int (1 : Int32)), (.int (5 : Int32)), (.ref b_82), (.int (1 : Int32)), (.ref b_88)])) rfl (by rw [hml]; rfl) (argsL := [(.ref b_82), (.int (5 : Int32)), (.int (1 : Int32))]) (rest := [(.int (1 : Int32)), (.ref b_88)]) (lenOf pd_3 rfl) rfl (by show 2 * 0 + _ ≤ _; exact Nat.le_of_eq rfl) (hb hby at_88) (fun _ _ => ⟨rfl, e_90, (by decide : 2 + 0 ≤ _), (by decide : 10 + 0 ≤ _)⟩)
    dsimp only [Pt.U, Pt.locs, Pt.cells, Pt.slots] at X_91 l_91 y_91 z_91 st_91 hQ_91
    subst l_91 y_91 z_91
    obtain ⟨rfl, N_91q, e_91⟩ := hQ_91
    have N_91 := Fr.app N_90 N_91q
    have fo_92 := fw_90
    obtain ⟨cl_92, Ar_92, Sz_92, At_92⟩ := fo_92
    obtain ⟨T_92, h_92, X_92, e_92, W_92, st_92⟩ := stI X_91 hx hZ e_91 Ar_92 (j := (1 : Int32)) (own_inb Sz_92 (by decide)) (g := (mkF m 91 #[.val (.int p1), .val (.int p2), .val (.int (5 : Int32)), .val (.ref b_82), .val (.ref b_88), .unset, .unset] [(.int (own_lcp (5 : Int32) (1 : Int32) f5)), (.int (1 : Int32)), (.ref b_88)])) rfl rfl (hb hby at_91)
    have N_92 := Fr.snoc X_92 N_91 g_b_88
    have fw_92 : own_arr .int Z h_92 b_88 5 (own_upd (own_upd (fun _ => 0) 0 (own_lcp (5 : Int32) (0 : Int32) f5)) 1 (own_lcp (5 : Int32) (1 : Int32) f5)) := own_arr.set Ar_92 Sz_92 At_92 W_92
    have f_92_0 : own_arr .int Z h_92 b_82 5 f5 := f_90_0.other W_92 ne_b_82_b_88
    have Z_92 : n0 ≤ h_92.size := Nat.le_trans Z_90 (Keep.of_wr W_92).1
    have K_92 : Keep h0 h_92 [] := K_90.wr W_92 (Or.inr sz_b_88)
    obtain ⟨_, _, ⟨T_93, L_93, k_93, n_93⟩, -, X_93, ⟨Lc_93, hQ_93, l_93, y_93, z_93⟩, st_93⟩ := Jvm.LawKit.callS X_92 hx (y := (⟨"com/example/borderwork/borderwork/zarrays/ZArraysToBorderArrayPinLaw", "lcp", "([III)I"⟩ : MethodName)) hown (mvT hZ (hw _ (List.mem_of_getElem? (i := 6) rfl))) (mvT hZ (hw _ (List.mem_of_getElem? (i := 7) rfl))) (mvT hZ (hw _ (List.mem_of_getElem? (i := 8) rfl))) (mvT hZ (hw _ (List.mem_of_getElem? (i := 9) rfl))) (by decide) (backOf (W := 2) (rm2 l Z a0 hw [] b_82 (5 : Int32) (2 : Int32) f5 h_92 n0 Z_92 f_92_0 (by decide) (by decide) (by decide)) hZ (hw _ (List.mem_of_getElem? (i := 9) rfl)) (hw _ (List.mem_of_getElem? (i := 8) rfl)) (by decide) (by decide)) (g := (mkF m 103 #[.val (.int p1), .val (.int p2), .val (.int (5 : Int32)), .val (.ref b_82), .val (.ref b_88), .unset, .unset] [(.int (2 : Int32)), (.int (5 : Int32)), (.ref b_82), (.int (2 : Int32)), (.ref b_88)])) rfl (by rw [hml]; rfl) (argsL := [(.ref b_82), (.int (5 : Int32)), (.int (2 : Int32))]) (rest := [(.int (2 : Int32)), (.ref b_88)]) (lenOf pd_3 rfl) rfl (by show 2 * 0 + _ ≤ _; exact Nat.le_of_eq rfl) (hb hby at_103) (fun _ _ => ⟨rfl, e_92, (by decide : 2 + 0 ≤ _), (by decide : 10 + 0 ≤ _)⟩)
    dsimp only [Pt.U, Pt.locs, Pt.cells, Pt.slots] at X_93 l_93 y_93 z_93 st_93 hQ_93
    subst l_93 y_93 z_93
    obtain ⟨rfl, N_93q, e_93⟩ := hQ_93
    have N_93 := Fr.app N_92 N_93q
    have fo_94 := fw_92
    obtain ⟨cl_94, Ar_94, Sz_94, At_94⟩ := fo_94
    obtain ⟨T_94, h_94, X_94, e_94, W_94, st_94⟩ := stI X_93 hx hZ e_93 Ar_94 (j := (2 : Int32)) (own_inb Sz_94 (by decide)) (g := (mkF m 106 #[.val (.int p1), .val (.int p2), .val (.int (5 : Int32)), .val (.ref b_82), .val (.ref b_88), .unset, .unset] [(.int (own_lcp (5 : Int32) (2 : Int32) f5)), (.int (2 : Int32)), (.ref b_88)])) rfl rfl (hb hby at_106)
    have N_94 := Fr.snoc X_94 N_93 g_b_88
    have fw_94 : own_arr .int Z h_94 b_88 5 (own_upd (own_upd (own_upd (fun _ => 0) 0 (own_lcp (5 : Int32) (0 : Int32) f5)) 1 (own_lcp (5 : Int32) (1 : Int32) f5)) 2 (own_lcp (5 : Int32) (2 : Int32) f5)) := own_arr.set Ar_94 Sz_94 At_94 W_94
    have f_94_0 : own_arr .int Z h_94 b_82 5 f5 := f_92_0.other W_94 ne_b_82_b_88
    have Z_94 : n0 ≤ h_94.size := Nat.le_trans Z_92 (Keep.of_wr W_94).1
    have K_94 : Keep h0 h_94 [] := K_92.wr W_94 (Or.inr sz_b_88)
    obtain ⟨_, _, ⟨T_95, L_95, k_95, n_95⟩, -, X_95, ⟨Lc_95, hQ_95, l_95, y_95, z_95⟩, st_95⟩ := Jvm.LawKit.callS X_94 hx (y := (⟨"com/example/borderwork/borderwork/zarrays/ZArraysToBorderArrayPinLaw", "lcp", "([III)I"⟩ : MethodName)) hown (mvT hZ (hw _ (List.mem_of_getElem? (i := 6) rfl))) (mvT hZ (hw _ (List.mem_of_getElem? (i := 7) rfl))) (mvT hZ (hw _ (List.mem_of_getElem? (i := 8) rfl))) (mvT hZ (hw _ (List.mem_of_getElem? (i := 9) rfl))) (by decide) (backOf (W := 2) (rm2 l Z a0 hw [] b_82 (5 : Int32) (3 : Int32) f5 h_94 n0 Z_94 f_94_0 (by decide) (by decide) (by decide)) hZ (hw _ (List.mem_of_getElem? (i := 9) rfl)) (hw _ (List.mem_of_getElem? (i := 8) rfl)) (by decide) (by decide)) (g := (mkF m 118 #[.val (.int p1), .val (.int p2), .val (.int (5 : Int32)), .val (.ref b_82), .val (.ref b_88), .unset, .unset] [(.int (3 : Int32)), (.int (5 : Int32)), (.ref b_82), (.int (3 : Int32)), (.ref b_88)])) rfl (by rw [hml]; rfl) (argsL := [(.ref b_82), (.int (5 : Int32)), (.int (3 : Int32))]) (rest := [(.int (3 : Int32)), (.ref b_88)]) (lenOf pd_3 rfl) rfl (by show 2 * 0 + _ ≤ _; exact Nat.le_of_eq rfl) (hb hby at_118) (fun _ _ => ⟨rfl, e_94, (by decide : 2 + 0 ≤ _), (by decide : 10 + 0 ≤ _)⟩)
    dsimp only [Pt.U, Pt.locs, Pt.cells, Pt.slots] at X_95 l_95 y_95 z_95 st_95 hQ_95
    subst l_95 y_95 z_95
    obtain ⟨rfl, N_95q, e_95⟩ := hQ_95
    have N_95 := Fr.app N_94 N_95q
    have fo_96 := fw_94
    obtain ⟨cl_96, Ar_96, Sz_96, At_96⟩ := fo_96
    obtain ⟨T_96, h_96, X_96, e_96, W_96, st_96⟩ := stI X_95 hx hZ e_95 Ar_96 (j := (3 : Int32)) (own_inb Sz_96 (by decide)) (g := (mkF m 121 #[.val (.int p1), .val (.int p2), .val (.int (5 : Int32)), .val (.ref b_82), .val (.ref b_88), .unset, .unset] [(.int (own_lcp (5 : Int32) (3 : Int32) f5)), (.int (3 : Int32)), (.ref b_88)])) rfl rfl (hb hby at_121)
    have N_96 := Fr.snoc X_96 N_95 g_b_88
    have fw_96 : own_arr .int Z h_96 b_88 5 (own_upd (own_upd (own_upd (own_upd (fun _ => 0) 0 (own_lcp (5 : Int32) (0 : Int32) f5)) 1 (own_lcp (5 : Int32) (1 : Int32) f5)) 2 (own_lcp (5 : Int32) (2 : Int32) f5)) 3 (own_lcp (5 : Int32) (3 : Int32) f5)) := own_arr.set Ar_96 Sz_96 At_96 W_96
    have f_96_0 : own_arr .int Z h_96 b_82 5 f5 := f_94_0.other W_96 ne_b_82_b_88
    have Z_96 : n0 ≤ h_96.size := Nat.le_trans Z_94 (Keep.of_wr W_96).1
    have K_96 : Keep h0 h_96 [] := K_94.wr W_96 (Or.inr sz_b_88)
    obtain ⟨_, _, ⟨T_97, L_97, k_97, n_97⟩, -, X_97, ⟨Lc_97, hQ_97, l_97, y_97, z_97⟩, st_97⟩ := Jvm.LawKit.callS X_96 hx (y := (⟨"com/example/borderwork/borderwork/zarrays/ZArraysToBorderArrayPinLaw", "lcp", "([III)I"⟩ : MethodName)) hown (mvT hZ (hw _ (List.mem_of_getElem? (i := 6) rfl))) (mvT hZ (hw _ (List.mem_of_getElem? (i := 7) rfl))) (mvT hZ (hw _ (List.mem_of_getElem? (i := 8) rfl))) (mvT hZ (hw _ (List.mem_of_getElem? (i := 9) rfl))) (by decide) (backOf (W := 2) (rm2 l Z a0 hw [] b_82 (5 : Int32) (4 : Int32) f5 h_96 n0 Z_96 f_96_0 (by decide) (by decide) (by decide)) hZ (hw _ (List.mem_of_getElem? (i := 9) rfl)) (hw _ (List.mem_of_getElem? (i := 8) rfl)) (by decide) (by decide)) (g := (mkF m 133 #[.val (.int p1), .val (.int p2), .val (.int (5 : Int32)), .val (.ref b_82), .val (.ref b_88), .unset, .unset] [(.int (4 : Int32)), (.int (5 : Int32)), (.ref b_82), (.int (4 : Int32)), (.ref b_88)])) rfl (by rw [hml]; rfl) (argsL := [(.ref b_82), (.int (5 : Int32)), (.int (4 : Int32))]) (rest := [(.int (4 : Int32)), (.ref b_88)]) (lenOf pd_3 rfl) rfl (by show 2 * 0 + _ ≤ _; exact Nat.le_of_eq rfl) (hb hby at_133) (fun _ _ => ⟨rfl, e_96, (by decide : 2 + 0 ≤ _), (by decide : 10 + 0 ≤ _)⟩)
    dsimp only [Pt.U, Pt.locs, Pt.cells, Pt.slots] at X_97 l_97 y_97 z_97 st_97 hQ_97
    subst l_97 y_97 z_97
    obtain ⟨rfl, N_97q, e_97⟩ := hQ_97
    have N_97 := Fr.app N_96 N_97q
    have fo_98 := fw_96
    obtain ⟨cl_98, Ar_98, Sz_98, At_98⟩ := fo_98
    obtain ⟨T_98, h_98, X_98, e_98, W_98, st_98⟩ := stI X_97 hx hZ e_97 Ar_98 (j := (4 : Int32)) (own_inb Sz_98 (by decide)) (g := (mkF m 136 #[.val (.int p1), .val (.int p2), .val (.int (5 : Int32)), .val (.ref b_82), .val (.ref b_88), .unset, .unset] [(.int (own_lcp (5 : Int32) (4 : Int32) f5)), (.int (4 : Int32)), (.ref b_88)])) rfl rfl (hb hby at_136)
    have N_98 := Fr.snoc X_98 N_97 g_b_88
    have fw_98 : own_arr .int Z h_98 b_88 5 (own_upd (own_upd (own_upd (own_upd (own_upd (fun _ => 0) 0 (own_lcp (5 : Int32) (0 : Int32) f5)) 1 (own_lcp (5 : Int32) (1 : Int32) f5)) 2 (own_lcp (5 : Int32) (2 : Int32) f5)) 3 (own_lcp (5 : Int32) (3 : Int32) f5)) 4 (own_lcp (5 : Int32) (4 : Int32) f5)) := own_arr.set Ar_98 Sz_98 At_98 W_98
    have f_98_0 : own_arr .int Z h_98 b_82 5 f5 := f_96_0.other W_98 ne_b_82_b_88
    have Z_98 : n0 ≤ h_98.size := Nat.le_trans Z_96 (Keep.of_wr W_98).1
    have K_98 : Keep h0 h_98 [] := K_96.wr W_98 (Or.inr sz_b_88)
    obtain ⟨fz, hfz⟩ : ∃ z : Nat → Int32, z = (own_upd (own_upd (own_upd (own_upd (own_upd (fun _ => 0) 0 (own_lcp (5 : Int32) (0 : Int32) f5)) 1 (own_lcp (5 : Int32) (1 : Int32) f5)) 2 (own_lcp (5 : Int32) (2 : Int32) f5)) 3 (own_lcp (5 : Int32) (3 : Int32) f5)) 4 (own_lcp (5 : Int32) (4 : Int32) f5)) := ⟨_, rfl⟩
    rw [← hfz] at fw_98
    have z_0 : fz 0 = own_lcp (5 : Int32) (0 : Int32) f5 := by rw [hfz]; rfl
    have z_1 : fz 1 = own_lcp (5 : Int32) (1 : Int32) f5 := by rw [hfz]; rfl
    have z_2 : fz 2 = own_lcp (5 : Int32) (2 : Int32) f5 := by rw [hfz]; rfl
    have z_3 : fz 3 = own_lcp (5 : Int32) (3 : Int32) f5 := by rw [hfz]; rfl
    have z_4 : fz 4 = own_lcp (5 : Int32) (4 : Int32) f5 := by rw [hfz]; rfl
    obtain ⟨_, _, ⟨T_99, L_99, k_99, n_99⟩, -, X_99, ⟨Lc_99, hQ_99, l_99, y_99, z_99⟩, st_99⟩ := Jvm.LawKit.callS X_98 hx (y := (⟨"com/example/borderwork/borderwork/zarrays/ZArrays", "toBorderArray", "([I)[I"⟩ : MethodName)) hown (mvT hZ (hw _ (List.mem_of_getElem? (i := 2) rfl))) (mvT hZ (hw _ (List.mem_of_getElem? (i := 3) rfl))) (mvT hZ (hw _ (List.mem_of_getElem? (i := 4) rfl))) (mvT hZ (hw _ (List.mem_of_getElem? (i := 5) rfl))) (by decide) (backOf (W := 0) (rm1_5 l Z a0 hw [] b_88 fz h_98 n0 Z_98 fw_98 (z_0.trans (own_whole5 f5)) (by rw [z_1]; exact (own_lcp_b _ _ f5 (by decide)).1) (by rw [z_1]; exact (own_lcp_b _ _ f5 (by decide)).2) (by rw [z_2]; exact (own_lcp_b _ _ f5 (by decide)).1) (by rw [z_2]; exact (own_lcp_b _ _ f5 (by decide)).2) (by rw [z_3]; exact (own_lcp_b _ _ f5 (by decide)).1) (by rw [z_3]; exact (own_lcp_b _ _ f5 (by decide)).2) (by rw [z_4]; exact (own_lcp_b _ _ f5 (by decide)).1) (by rw [z_4]; exact (own_lcp_b _ _ f5 (by decide)).2)) hZ (hw _ (List.mem_of_getElem? (i := 5) rfl)) (hw _ (List.mem_of_getElem? (i := 4) rfl)) (by decide) (by decide)) (g := (mkF m 139 #[.val (.int p1), .val (.int p2), .val (.int (5 : Int32)), .val (.ref b_82), .val (.ref b_88), .unset, .unset] [(.ref b_88)])) rfl (by rw [hml]; rfl) (argsL := [(.ref b_88)]) (rest := []) (lenOf pd_2 rfl) rfl (by show 2 * 0 + _ ≤ _; exact Nat.le_of_eq rfl) (hb hby at_139) (fun _ _ => ⟨rfl, e_98, (by decide : 2 + 1 ≤ _), (by decide : 10 + 5 ≤ _)⟩)
    dsimp only [Pt.U, Pt.locs, Pt.cells, Pt.slots] at X_99 l_99 y_99 z_99 st_99 hQ_99
    subst l_99 y_99 z_99
    obtain ⟨r_99, rfl, N_99q, Kc_99, o_99_0⟩ := hQ_99
    have f_99_0 : own_arr .int Z T_99.heap b_82 5 f5 := f_98_0.keep Kc_99 (List.not_mem_nil)
    have f_99_1 : own_arr .int Z T_99.heap b_88 5 fz := fw_98.keep Kc_99 (List.not_mem_nil)
    have Z_99 : n0 ≤ T_99.heap.size := Nat.le_trans Z_98 Kc_99.1
    have K_99 : Keep h0 T_99.heap [] := K_98.trans Kc_99 (fun x hx => nomatch hx)
    have N_99 := Fr.app N_98 N_99q
    have fo_101 := o_99_0
    obtain ⟨cl_101, Ar_101, Sz_101, At_101⟩ := fo_101
    obtain ⟨_, _, ⟨T_102, L_102, k_102, n_102⟩, -, X_102, ⟨Lc_102, hQ_102, l_102, y_102, z_102⟩, st_102⟩ := Jvm.LawKit.callS X_99 hx (y := (⟨"com/example/borderwork/borderwork/zarrays/ZArraysToBorderArrayPinLaw", "border", "([II)I"⟩ : MethodName)) hown (mvT hZ (hw _ (List.mem_of_getElem? (i := 10) rfl))) (mvT hZ (hw _ (List.mem_of_getElem? (i := 11) rfl))) (mvT hZ (hw _ (List.mem_of_getElem? (i := 8) rfl))) (mvT hZ (hw _ (List.mem_of_getElem? (i := 12) rfl))) (by decide) (backOf (W := 1) (rm3 l Z a0 hw [] b_82 (0 : Int32) f5 T_99.heap n0 Z_99 f_99_0 (by decide) (by decide)) hZ (hw _ (List.mem_of_getElem? (i := 12) rfl)) (hw _ (List.mem_of_getElem? (i := 8) rfl)) (by decide) (by decide)) (g := (mkF m 173 #[.val (.int p1), .val (.int p2), .val (.int (5 : Int32)), .val (.ref b_82), .val (.ref b_88), .val (.ref r_99), .val (.int (1 : Int32))] [(.int (0 : Int32)), (.ref b_82), (.int ((own_out 5 fz) 0))])) rfl (by rw [hml]; rfl) (argsL := [(.ref b_82), (.int (0 : Int32))]) (rest := [(.int ((own_out 5 fz) 0))]) (lenOf pd_4 rfl) rfl (by show 2 * 0 + _ ≤ _; exact Nat.le_of_eq rfl) (hb hby at_173) (fun _ _ => ⟨rfl, rfl, (by decide : 3 + 0 ≤ _), (by decide : 15 + 0 ≤ _)⟩)
    dsimp only [Pt.U, Pt.locs, Pt.cells, Pt.slots] at X_102 l_102 y_102 z_102 st_102 hQ_102
    subst l_102 y_102 z_102
    obtain ⟨rfl, N_102q, e_102⟩ := hQ_102
    have N_102 := Fr.app N_99 N_102q
    obtain ⟨_, _, ⟨T_103, L_103, k_103, n_103⟩, -, X_103, ⟨Lc_103, hQ_103, l_103, y_103, z_103⟩, st_103⟩ := Jvm.LawKit.callS X_102 hx (y := (⟨"com/example/borderwork/borderwork/zarrays/ZArraysToBorderArrayPinLaw", "border", "([II)I"⟩ : MethodName)) hown (mvT hZ (hw _ (List.mem_of_getElem? (i := 10) rfl))) (mvT hZ (hw _ (List.mem_of_getElem? (i := 11) rfl))) (mvT hZ (hw _ (List.mem_of_getElem? (i := 8) rfl))) (mvT hZ (hw _ (List.mem_of_getElem? (i := 12) rfl))) (by decide) (backOf (W := 1) (rm3 l Z a0 hw [] b_82 (1 : Int32) f5 T_99.heap n0 Z_99 f_99_0 (by decide) (by decide)) hZ (hw _ (List.mem_of_getElem? (i := 12) rfl)) (hw _ (List.mem_of_getElem? (i := 8) rfl)) (by decide) (by decide)) (g := (mkF m 202 #[.val (.int p1), .val (.int p2), .val (.int (5 : Int32)), .val (.ref b_82), .val (.ref b_88), .val (.ref r_99), .val (.int (1 : Int32))] [(.int (1 : Int32)), (.ref b_82), (.int ((own_out 5 fz) 1))])) rfl (by rw [hml]; rfl) (argsL := [(.ref b_82), (.int (1 : Int32))]) (rest := [(.int ((own_out 5 fz) 1))]) (lenOf pd_4 rfl) rfl (by show 2 * 0 + _ ≤ _; exact Nat.le_of_eq rfl) (hb hby at_202) (fun _ _ => ⟨rfl, e_102, (by decide : 3 + 0 ≤ _), (by decide : 15 + 0 ≤ _)⟩)
    dsimp only [Pt.U, Pt.locs, Pt.cells, Pt.slots] at X_103 l_103 y_103 z_103 st_103 hQ_103
    subst l_103 y_103 z_103
    obtain ⟨rfl, N_103q, e_103⟩ := hQ_103
    have N_103 := Fr.app N_102 N_103q
    obtain ⟨_, _, ⟨T_104, L_104, k_104, n_104⟩, -, X_104, ⟨Lc_104, hQ_104, l_104, y_104, z_104⟩, st_104⟩ := Jvm.LawKit.callS X_103 hx (y := (⟨"com/example/borderwork/borderwork/zarrays/ZArraysToBorderArrayPinLaw", "border", "([II)I"⟩ : MethodName)) hown (mvT hZ (hw _ (List.mem_of_getElem? (i := 10) rfl))) (mvT hZ (hw _ (List.mem_of_getElem? (i := 11) rfl))) (mvT hZ (hw _ (List.mem_of_getElem? (i := 8) rfl))) (mvT hZ (hw _ (List.mem_of_getElem? (i := 12) rfl))) (by decide) (backOf (W := 1) (rm3 l Z a0 hw [] b_82 (2 : Int32) f5 T_99.heap n0 Z_99 f_99_0 (by decide) (by decide)) hZ (hw _ (List.mem_of_getElem? (i := 12) rfl)) (hw _ (List.mem_of_getElem? (i := 8) rfl)) (by decide) (by decide)) (g := (mkF m 231 #[.val (.int p1), .val (.int p2), .val (.int (5 : Int32)), .val (.ref b_82), .val (.ref b_88), .val (.ref r_99), .val (.int (1 : Int32))] [(.int (2 : Int32)), (.ref b_82), (.int ((own_out 5 fz) 2))])) rfl (by rw [hml]; rfl) (argsL := [(.ref b_82), (.int (2 : Int32))]) (rest := [(.int ((own_out 5 fz) 2))]) (lenOf pd_4 rfl) rfl (by show 2 * 0 + _ ≤ _; exact Nat.le_of_eq rfl) (hb hby at_231) (fun _ _ => ⟨rfl, e_103, (by decide : 3 + 0 ≤ _), (by decide : 15 + 0 ≤ _)⟩)
    dsimp only [Pt.U, Pt.locs, Pt.cells, Pt.slots] at X_104 l_104 y_104 z_104 st_104 hQ_104
    subst l_104 y_104 z_104
    obtain ⟨rfl, N_104q, e_104⟩ := hQ_104
    have N_104 := Fr.app N_103 N_104q
    obtain ⟨_, _, ⟨T_105, L_105, k_105, n_105⟩, -, X_105, ⟨Lc_105, hQ_105, l_105, y_105, z_105⟩, st_105⟩ := Jvm.LawKit.callS X_104 hx (y := (⟨"com/example/borderwork/borderwork/zarrays/ZArraysToBorderArrayPinLaw", "border", "([II)I"⟩ : MethodName)) hown (mvT hZ (hw _ (List.mem_of_getElem? (i := 10) rfl))) (mvT hZ (hw _ (List.mem_of_getElem? (i := 11) rfl))) (mvT hZ (hw _ (List.mem_of_getElem? (i := 8) rfl))) (mvT hZ (hw _ (List.mem_of_getElem? (i := 12) rfl))) (by decide) (backOf (W := 1) (rm3 l Z a0 hw [] b_82 (3 : Int32) f5 T_99.heap n0 Z_99 f_99_0 (by decide) (by decide)) hZ (hw _ (List.mem_of_getElem? (i := 12) rfl)) (hw _ (List.mem_of_getElem? (i := 8) rfl)) (by decide) (by decide)) (g := (mkF m 260 #[.val (.int p1), .val (.int p2), .val (.int (5 : Int32)), .val (.ref b_82), .val (.ref b_88), .val (.ref r_99), .val (.int (1 : Int32))] [(.int (3 : Int32)), (.ref b_82), (.int ((own_out 5 fz) 3))])) rfl (by rw [hml]; rfl) (argsL := [(.ref b_82), (.int (3 : Int32))]) (rest := [(.int ((own_out 5 fz) 3))]) (lenOf pd_4 rfl) rfl (by show 2 * 0 + _ ≤ _; exact Nat.le_of_eq rfl) (hb hby at_260) (fun _ _ => ⟨rfl, e_104, (by decide : 3 + 0 ≤ _), (by decide : 15 + 0 ≤ _)⟩)
    dsimp only [Pt.U, Pt.locs, Pt.cells, Pt.slots] at X_105 l_105 y_105 z_105 st_105 hQ_105
    subst l_105 y_105 z_105
    obtain ⟨rfl, N_105q, e_105⟩ := hQ_105
    have N_105 := Fr.app N_104 N_105q
    obtain ⟨_, _, ⟨T_106, L_106, k_106, n_106⟩, -, X_106, ⟨Lc_106, hQ_106, l_106, y_106, z_106⟩, st_106⟩ := Jvm.LawKit.callS X_105 hx (y := (⟨"com/example/borderwork/borderwork/zarrays/ZArraysToBorderArrayPinLaw", "border", "([II)I"⟩ : MethodName)) hown (mvT hZ (hw _ (List.mem_of_getElem? (i := 10) rfl))) (mvT hZ (hw _ (List.mem_of_getElem? (i := 11) rfl))) (mvT hZ (hw _ (List.mem_of_getElem? (i := 8) rfl))) (mvT hZ (hw _ (List.mem_of_getElem? (i := 12) rfl))) (by decide) (backOf (W := 1) (rm3 l Z a0 hw [] b_82 (4 : Int32) f5 T_99.heap n0 Z_99 f_99_0 (by decide) (by decide)) hZ (hw _ (List.mem_of_getElem? (i := 12) rfl)) (hw _ (List.mem_of_getElem? (i := 8) rfl)) (by decide) (by decide)) (g := (mkF m 289 #[.val (.int p1), .val (.int p2), .val (.int (5 : Int32)), .val (.ref b_82), .val (.ref b_88), .val (.ref r_99), .val (.int (1 : Int32))] [(.int (4 : Int32)), (.ref b_82), (.int ((own_out 5 fz) 4))])) rfl (by rw [hml]; rfl) (argsL := [(.ref b_82), (.int (4 : Int32))]) (rest := [(.int ((own_out 5 fz) 4))]) (lenOf pd_4 rfl) rfl (by show 2 * 0 + _ ≤ _; exact Nat.le_of_eq rfl) (hb hby at_289) (fun _ _ => ⟨rfl, e_105, (by decide : 3 + 0 ≤ _), (by decide : 15 + 0 ≤ _)⟩)
    dsimp only [Pt.U, Pt.locs, Pt.cells, Pt.slots] at X_106 l_106 y_106 z_106 st_106 hQ_106
    subst l_106 y_106 z_106
    obtain ⟨rfl, N_106q, e_106⟩ := hQ_106
    have N_106 := Fr.app N_105 N_106q
    obtain ⟨fs, hr, hrun, hended, hW, hsame⟩ := X_106.leave (v := some (.int (1 : Int32))) (fun h => by rw [Bd.returns] at h; cases h)
    refine ⟨_, _, pr_1 _ ?_, hrun, hended, _, _, rfl, ?_, ⟨_, rfl⟩, hW, hsame.mono (by decide) (by decide)⟩
    · show Steps p.tables e below (s₁.setTop (mkF m 8 #[.val (.int p1), .val (.int p2), .val (.int (5 : Int32)), .unset, .unset, .unset, .unset] [])) _
      refine XS.iconst X0.here hx rfl (hb hby at_8) ?_
      show Steps p.tables e below (s₁.setTop (mkF m 9 #[.val (.int p1), .val (.int p2), .val (.int (5 : Int32)), .unset, .unset, .unset, .unset] [(.int (5 : Int32))])) _
      refine st_82 _ ?_
      show Steps p.tables e below (T_82.setTop (mkF m 11 #[.val (.int p1), .val (.int p2), .val (.int (5 : Int32)), .unset, .unset, .unset, .unset] [(.ref b_82)])) _
      refine XS.astoreN X_82.here hx rfl (hb hby at_11) rfl rfl (l' := #[.val (.int p1), .val (.int p2), .val (.int (5 : Int32)), .val (.ref b_82), .unset, .unset, .unset]) rfl ?_
      show Steps p.tables e below (T_82.setTop (mkF m 12 #[.val (.int p1), .val (.int p2), .val (.int (5 : Int32)), .val (.ref b_82), .unset, .unset, .unset] [])) _
      refine XS.aloadN X_82.here hx rfl (hb hby at_12) rfl rfl ?_
      show Steps p.tables e below (T_82.setTop (mkF m 13 #[.val (.int p1), .val (.int p2), .val (.int (5 : Int32)), .val (.ref b_82), .unset, .unset, .unset] [(.ref b_82)])) _
      refine XS.iconst X_82.here hx rfl (hb hby at_13) ?_
      show Steps p.tables e below (T_82.setTop (mkF m 14 #[.val (.int p1), .val (.int p2), .val (.int (5 : Int32)), .val (.ref b_82), .unset, .unset, .unset] [(.int (0 : Int32)), (.ref b_82)])) _
      refine XS.iloadN X_82.here hx rfl (hb hby at_14) rfl ?_
      show Steps p.tables e below (T_82.setTop (mkF m 15 #[.val (.int p1), .val (.int p2), .val (.int (5 : Int32)), .val (.ref b_82), .unset, .unset, .unset] [(.int p2), (.int (0 : Int32)), (.ref b_82)])) _
      refine XS.bipush X_82.here hx rfl (hb hby at_15) ?_
      show Steps p.tables e below (T_82.setTop (mkF m 17 #[.val (.int p1), .val (.int p2), .val (.int (5 : Int32)), .val (.ref b_82), .unset, .unset, .unset] [(.int (7 : Int32)), (.int p2), (.int (0 : Int32)), (.ref b_82)])) _
      refine XS.iand X_82.here hx rfl (hb hby at_17) rfl ?_
      show Steps p.tables e below (T_82.setTop (mkF m 18 #[.val (.int p1), .val (.int p2), .val (.int (5 : Int32)), .val (.ref b_82), .unset, .unset, .unset] [(.int (p2 &&& (7 : Int32))), (.int (0 : Int32)), (.ref b_82)])) _
      refine st_83 _ ?_
      show Steps p.tables e below (T_83.setTop (mkF m 19 #[.val (.int p1), .val (.int p2), .val (.int (5 : Int32)), .val (.ref b_82), .unset, .unset, .unset] [])) _
      refine XS.aloadN X_83.here hx rfl (hb hby at_19) rfl rfl ?_
      show Steps p.tables e below (T_83.setTop (mkF m 20 #[.val (.int p1), .val (.int p2), .val (.int (5 : Int32)), .val (.ref b_82), .unset, .unset, .unset] [(.ref b_82)])) _
      refine XS.iconst X_83.here hx rfl (hb hby at_20) ?_
      show Steps p.tables e below (T_83.setTop (mkF m 21 #[.val (.int p1), .val (.int p2), .val (.int (5 : Int32)), .val (.ref b_82), .unset, .unset, .unset] [(.int (1 : Int32)), (.ref b_82)])) _
      refine XS.iloadN X_83.here hx rfl (hb hby at_21) rfl ?_
      show Steps p.tables e below (T_83.setTop (mkF m 22 #[.val (.int p1), .val (.int p2), .val (.int (5 : Int32)), .val (.ref b_82), .unset, .unset, .unset] [(.int p2), (.int (1 : Int32)), (.ref b_82)])) _
      refine XS.iconst X_83.here hx rfl (hb hby at_22) ?_
      show Steps p.tables e below (T_83.setTop (mkF m 23 #[.val (.int p1), .val (.int p2), .val (.int (5 : Int32)), .val (.ref b_82), .unset, .unset, .unset] [(.int (3 : Int32)), (.int p2), (.int (1 : Int32)), (.ref b_82)])) _
      refine XS.iushr X_83.here hx rfl (hb hby at_23) rfl ?_
      show Steps p.tables e below (T_83.setTop (mkF m 24 #[.val (.int p1), .val (.int p2), .val (.int (5 : Int32)), .val (.ref b_82), .unset, .unset, .unset] [(.int ((p2.toUInt32 >>> ((3 : Int32) &&& 31).toUInt32).toInt32)), (.int (1 : Int32)), (.ref b_82)])) _
      refine XS.bipush X_83.here hx rfl (hb hby at_24) ?_
      show Steps p.tables e below (T_83.setTop (mkF m 26 #[.val (.int p1), .val (.int p2), .val (.int (5 : Int32)), .val (.ref b_82), .unset, .unset, .unset] [(.int (7 : Int32)), (.int ((p2.toUInt32 >>> ((3 : Int32) &&& 31).toUInt32).toInt32)), (.int (1 : Int32)), (.ref b_82)])) _
      refine XS.iand X_83.here hx rfl (hb hby at_26) rfl ?_
      show Steps p.tables e below (T_83.setTop (mkF m 27 #[.val (.int p1), .val (.int p2), .val (.int (5 : Int32)), .val (.ref b_82), .unset, .unset, .unset] [(.int (((p2.toUInt32 >>> ((3 : Int32) &&& 31).toUInt32).toInt32) &&& (7 : Int32))), (.int (1 : Int32)), (.ref b_82)])) _
      refine st_84 _ ?_
      show Steps p.tables e below (T_84.setTop (mkF m 28 #[.val (.int p1), .val (.int p2), .val (.int (5 : Int32)), .val (.ref b_82), .unset, .unset, .unset] [])) _
      refine XS.aloadN X_84.here hx rfl (hb hby at_28) rfl rfl ?_
      show Steps p.tables e below (T_84.setTop (mkF m 29 #[.val (.int p1), .val (.int p2), .val (.int (5 : Int32)), .val (.ref b_82), .unset, .unset, .unset] [(.ref b_82)])) _
      refine XS.iconst X_84.here hx rfl (hb hby at_29) ?_
      show Steps p.tables e below (T_84.setTop (mkF m 30 #[.val (.int p1), .val (.int p2), .val (.int (5 : Int32)), .val (.ref b_82), .unset, .unset, .unset] [(.int (2 : Int32)), (.ref b_82)])) _
      refine XS.iloadN X_84.here hx rfl (hb hby at_30) rfl ?_
      show Steps p.tables e below (T_84.setTop (mkF m 31 #[.val (.int p1), .val (.int p2), .val (.int (5 : Int32)), .val (.ref b_82), .unset, .unset, .unset] [(.int p2), (.int (2 : Int32)), (.ref b_82)])) _
      refine XS.bipush X_84.here hx rfl (hb hby at_31) ?_
      show Steps p.tables e below (T_84.setTop (mkF m 33 #[.val (.int p1), .val (.int p2), .val (.int (5 : Int32)), .val (.ref b_82), .unset, .unset, .unset] [(.int (6 : Int32)), (.int p2), (.int (2 : Int32)), (.ref b_82)])) _
      refine XS.iushr X_84.here hx rfl (hb hby at_33) rfl ?_
      show Steps p.tables e below (T_84.setTop (mkF m 34 #[.val (.int p1), .val (.int p2), .val (.int (5 : Int32)), .val (.ref b_82), .unset, .unset, .unset] [(.int ((p2.toUInt32 >>> ((6 : Int32) &&& 31).toUInt32).toInt32)), (.int (2 : Int32)), (.ref b_82)])) _
      refine XS.bipush X_84.here hx rfl (hb hby at_34) ?_
      show Steps p.tables e below (T_84.setTop (mkF m 36 #[.val (.int p1), .val (.int p2), .val (.int (5 : Int32)), .val (.ref b_82), .unset, .unset, .unset] [(.int (7 : Int32)), (.int ((p2.toUInt32 >>> ((6 : Int32) &&& 31).toUInt32).toInt32)), (.int (2 : Int32)), (.ref b_82)])) _
      refine XS.iand X_84.here hx rfl (hb hby at_36) rfl ?_
      show Steps p.tables e below (T_84.setTop (mkF m 37 #[.val (.int p1), .val (.int p2), .val (.int (5 : Int32)), .val (.ref b_82), .unset, .unset, .unset] [(.int (((p2.toUInt32 >>> ((6 : Int32) &&& 31).toUInt32).toInt32) &&& (7 : Int32))), (.int (2 : Int32)), (.ref b_82)])) _
      refine st_85 _ ?_
      show Steps p.tables e below (T_85.setTop (mkF m 38 #[.val (.int p1), .val (.int p2), .val (.int (5 : Int32)), .val (.ref b_82), .unset, .unset, .unset] [])) _
      refine XS.aloadN X_85.here hx rfl (hb hby at_38) rfl rfl ?_
      show Steps p.tables e below (T_85.setTop (mkF m 39 #[.val (.int p1), .val (.int p2), .val (.int (5 : Int32)), .val (.ref b_82), .unset, .unset, .unset] [(.ref b_82)])) _
      refine XS.iconst X_85.here hx rfl (hb hby at_39) ?_
      show Steps p.tables e below (T_85.setTop (mkF m 40 #[.val (.int p1), .val (.int p2), .val (.int (5 : Int32)), .val (.ref b_82), .unset, .unset, .unset] [(.int (3 : Int32)), (.ref b_82)])) _
      refine XS.iloadN X_85.here hx rfl (hb hby at_40) rfl ?_
      show Steps p.tables e below (T_85.setTop (mkF m 41 #[.val (.int p1), .val (.int p2), .val (.int (5 : Int32)), .val (.ref b_82), .unset, .unset, .unset] [(.int p2), (.int (3 : Int32)), (.ref b_82)])) _
      refine XS.bipush X_85.here hx rfl (hb hby at_41) ?_
      show Steps p.tables e below (T_85.setTop (mkF m 43 #[.val (.int p1), .val (.int p2), .val (.int (5 : Int32)), .val (.ref b_82), .unset, .unset, .unset] [(.int (9 : Int32)), (.int p2), (.int (3 : Int32)), (.ref b_82)])) _
      refine XS.iushr X_85.here hx rfl (hb hby at_43) rfl ?_
      show Steps p.tables e below (T_85.setTop (mkF m 44 #[.val (.int p1), .val (.int p2), .val (.int (5 : Int32)), .val (.ref b_82), .unset, .unset, .unset] [(.int ((p2.toUInt32 >>> ((9 : Int32) &&& 31).toUInt32).toInt32)), (.int (3 : Int32)), (.ref b_82)])) _
      refine XS.bipush X_85.here hx rfl (hb hby at_44) ?_
      show Steps p.tables e below (T_85.setTop (mkF m 46 #[.val (.int p1), .val (.int p2), .val (.int (5 : Int32)), .val (.ref b_82), .unset, .unset, .unset] [(.int (7 : Int32)), (.int ((p2.toUInt32 >>> ((9 : Int32) &&& 31).toUInt32).toInt32)), (.int (3 : Int32)), (.ref b_82)])) _
      refine XS.iand X_85.here hx rfl (hb hby at_46) rfl ?_
      show Steps p.tables e below (T_85.setTop (mkF m 47 #[.val (.int p1), .val (.int p2), .val (.int (5 : Int32)), .val (.ref b_82), .unset, .unset, .unset] [(.int (((p2.toUInt32 >>> ((9 : Int32) &&& 31).toUInt32).toInt32) &&& (7 : Int32))), (.int (3 : Int32)), (.ref b_82)])) _
      refine st_86 _ ?_
      show Steps p.tables e below (T_86.setTop (mkF m 48 #[.val (.int p1), .val (.int p2), .val (.int (5 : Int32)), .val (.ref b_82), .unset, .unset, .unset] [])) _
      refine XS.aloadN X_86.here hx rfl (hb hby at_48) rfl rfl ?_
      show Steps p.tables e below (T_86.setTop (mkF m 49 #[.val (.int p1), .val (.int p2), .val (.int (5 : Int32)), .val (.ref b_82), .unset, .unset, .unset] [(.ref b_82)])) _
      refine XS.iconst X_86.here hx rfl (hb hby at_49) ?_
      show Steps p.tables e below (T_86.setTop (mkF m 50 #[.val (.int p1), .val (.int p2), .val (.int (5 : Int32)), .val (.ref b_82), .unset, .unset, .unset] [(.int (4 : Int32)), (.ref b_82)])) _
      refine XS.iloadN X_86.here hx rfl (hb hby at_50) rfl ?_
      show Steps p.tables e below (T_86.setTop (mkF m 51 #[.val (.int p1), .val (.int p2), .val (.int (5 : Int32)), .val (.ref b_82), .unset, .unset, .unset] [(.int p2), (.int (4 : Int32)), (.ref b_82)])) _
      refine XS.bipush X_86.here hx rfl (hb hby at_51) ?_
      show Steps p.tables e below (T_86.setTop (mkF m 53 #[.val (.int p1), .val (.int p2), .val (.int (5 : Int32)), .val (.ref b_82), .unset, .unset, .unset] [(.int (12 : Int32)), (.int p2), (.int (4 : Int32)), (.ref b_82)])) _
      refine XS.iushr X_86.here hx rfl (hb hby at_53) rfl ?_
      show Steps p.tables e below (T_86.setTop (mkF m 54 #[.val (.int p1), .val (.int p2), .val (.int (5 : Int32)), .val (.ref b_82), .unset, .unset, .unset] [(.int ((p2.toUInt32 >>> ((12 : Int32) &&& 31).toUInt32).toInt32)), (.int (4 : Int32)), (.ref b_82)])) _
      refine XS.bipush X_86.here hx rfl (hb hby at_54) ?_
      show Steps p.tables e below (T_86.setTop (mkF m 56 #[.val (.int p1), .val (.int p2), .val (.int (5 : Int32)), .val (.ref b_82), .unset, .unset, .unset] [(.int (7 : Int32)), (.int ((p2.toUInt32 >>> ((12 : Int32) &&& 31).toUInt32).toInt32)), (.int (4 : Int32)), (.ref b_82)])) _
      refine XS.iand X_86.here hx rfl (hb hby at_56) rfl ?_
      show Steps p.tables e below (T_86.setTop (mkF m 57 #[.val (.int p1), .val (.int p2), .val (.int (5 : Int32)), .val (.ref b_82), .unset, .unset, .unset] [(.int (((p2.toUInt32 >>> ((12 : Int32) &&& 31).toUInt32).toInt32) &&& (7 : Int32))), (.int (4 : Int32)), (.ref b_82)])) _
      refine st_87 _ ?_
      show Steps p.tables e below (T_87.setTop (mkF m 58 #[.val (.int p1), .val (.int p2), .val (.int (5 : Int32)), .val (.ref b_82), .unset, .unset, .unset] [])) _
      refine XS.iloadN X_87.here hx rfl (hb hby at_58) rfl ?_
      show Steps p.tables e below (T_87.setTop (mkF m 59 #[.val (.int p1), .val (.int p2), .val (.int (5 : Int32)), .val (.ref b_82), .unset, .unset, .unset] [(.int (5 : Int32))])) _
      refine st_88 _ ?_
      show Steps p.tables e below (T_88.setTop (mkF m 61 #[.val (.int p1), .val (.int p2), .val (.int (5 : Int32)), .val (.ref b_82), .unset, .unset, .unset] [(.ref b_88)])) _
      refine XS.astore X_88.here hx rfl (hb hby at_61) rfl rfl (l' := #[.val (.int p1), .val (.int p2), .val (.int (5 : Int32)), .val (.ref b_82), .val (.ref b_88), .unset, .unset]) rfl ?_
      show Steps p.tables e below (T_88.setTop (mkF m 63 #[.val (.int p1), .val (.int p2), .val (.int (5 : Int32)), .val (.ref b_82), .val (.ref b_88), .unset, .unset] [])) _
      refine XS.iloadN X_88.here hx rfl (hb hby at_63) rfl ?_
      show Steps p.tables e below (T_88.setTop (mkF m 64 #[.val (.int p1), .val (.int p2), .val (.int (5 : Int32)), .val (.ref b_82), .val (.ref b_88), .unset, .unset] [(.int (5 : Int32))])) _
      refine XS.ifNo X_88.here hx rfl (hb hby at_64) rfl ((if0 _ _).trans (tlt (by decide : (0 : Int32) < (5 : Int32))).2.2.2) ?_
      show Steps p.tables e below (T_88.setTop (mkF m 67 #[.val (.int p1), .val (.int p2), .val (.int (5 : Int32)), .val (.ref b_82), .val (.ref b_88), .unset, .unset] [])) _
      refine XS.aload X_88.here hx rfl (hb hby at_67) rfl rfl ?_
      show Steps p.tables e below (T_88.setTop (mkF m 69 #[.val (.int p1), .val (.int p2), .val (.int (5 : Int32)), .val (.ref b_82), .val (.ref b_88), .unset, .unset] [(.ref b_88)])) _
      refine XS.iconst X_88.here hx rfl (hb hby at_69) ?_
      show Steps p.tables e below (T_88.setTop (mkF m 70 #[.val (.int p1), .val (.int p2), .val (.int (5 : Int32)), .val (.ref b_82), .val (.ref b_88), .unset, .unset] [(.int (0 : Int32)), (.ref b_88)])) _
      refine XS.aloadN X_88.here hx rfl (hb hby at_70) rfl rfl ?_
      show Steps p.tables e below (T_88.setTop (mkF m 71 #[.val (.int p1), .val (.int p2), .val (.int (5 : Int32)), .val (.ref b_82), .val (.ref b_88), .unset, .unset] [(.ref b_82), (.int (0 : Int32)), (.ref b_88)])) _
      refine XS.iloadN X_88.here hx rfl (hb hby at_71) rfl ?_
      show Steps p.tables e below (T_88.setTop (mkF m 72 #[.val (.int p1), .val (.int p2), .val (.int (5 : Int32)), .val (.ref b_82), .val (.ref b_88), .unset, .unset] [(.int (5 : Int32)), (.ref b_82), (.int (0 : Int32)), (.ref b_88)])) _
      refine XS.iconst X_88.here hx rfl (hb hby at_72) ?_
      show Steps p.tables e below (T_88.setTop (mkF m 73 #[.val (.int p1), .val (.int p2), .val (.int (5 : Int32)), .val (.ref b_82), .val (.ref b_88), .unset, .unset] [(.int (0 : Int32)), (.int (5 : Int32)), (.ref b_82), (.int (0 : Int32)), (.ref b_88)])) _
      refine st_89 _ ?_
      show Steps p.tables e below (T_89.setTop (mkF m 76 #[.val (.int p1), .val (.int p2), .val (.int (5 : Int32)), .val (.ref b_82), .val (.ref b_88), .unset, .unset] [(.int (own_lcp (5 : Int32) (0 : Int32) f5)), (.int (0 : Int32)), (.ref b_88)])) _
      refine st_90 _ ?_
      show Steps p.tables e below (T_90.setTop (mkF m 77 #[.val (.int p1), .val (.int p2), .val (.int (5 : Int32)), .val (.ref b_82), .val (.ref b_88), .unset, .unset] [])) _
      refine XS.iloadN X_90.here hx rfl (hb hby at_77) rfl ?_
      show Steps p.tables e below (T_90.setTop (mkF m 78 #[.val (.int p1), .val (.int p2), .val (.int (5 : Int32)), .val (.ref b_82), .val (.ref b_88), .unset, .unset] [(.int (5 : Int32))])) _
      refine XS.iconst X_90.here hx rfl (hb hby at_78) ?_
      show Steps p.tables e below (T_90.setTop (mkF m 79 #[.val (.int p1), .val (.int p2), .val (.int (5 : Int32)), .val (.ref b_82), .val (.ref b_88), .unset, .unset] [(.int (1 : Int32)), (.int (5 : Int32))])) _
      refine XS.icmpNo X_90.here hx rfl (hb hby at_79) rfl (tlt (by decide : (1 : Int32) < (5 : Int32))).2.2.2 ?_
      show Steps p.tables e below (T_90.setTop (mkF m 82 #[.val (.int p1), .val (.int p2), .val (.int (5 : Int32)), .val (.ref b_82), .val (.ref b_88), .unset, .unset] [])) _
      refine XS.aload X_90.here hx rfl (hb hby at_82) rfl rfl ?_
      show Steps p.tables e below (T_90.setTop (mkF m 84 #[.val (.int p1), .val (.int p2), .val (.int (5 : Int32)), .val (.ref b_82), .val (.ref b_88), .unset, .unset] [(.ref b_88)])) _
      refine XS.iconst X_90.here hx rfl (hb hby at_84) ?_
      show Steps p.tables e below (T_90.setTop (mkF m 85 #[.val (.int p1), .val (.int p2), .val (.int (5 : Int32)), .val (.ref b_82), .val (.ref b_88), .unset, .unset] [(.int (1 : Int32)), (.ref b_88)])) _
      refine XS.aloadN X_90.here hx rfl (hb hby at_85) rfl rfl ?_
      show Steps p.tables e below (T_90.setTop (mkF m 86 #[.val (.int p1), .val (.int p2), .val (.int (5 : Int32)), .val (.ref b_82), .val (.ref b_88), .unset, .unset] [(.ref b_82), (.int (1 : Int32)), (.ref b_88)])) _
      refine XS.iloadN X_90.here hx rfl (hb hby at_86) rfl ?_
      show Steps p.tables e below (T_90.setTop (mkF m 87 #[.val (.int p1), .val (.int p2), .val (.int (5 : Int32)), .val (.ref b_82), .val (.ref b_88), .unset, .unset] [(.int (5 : Int32)), (.ref b_82), (.int (1 : Int32)), (.ref b_88)])) _
      refine XS.iconst X_90.here hx rfl (hb hby at_87) ?_
      show Steps p.tables e below (T_90.setTop (mkF m 88 #[.val (.int p1), .val (.int p2), .val (.int (5 : Int32)), .val (.ref b_82), .val (.ref b_88), .unset, .unset] [(.int (1 : Int32)), (.int (5 : Int32)), (.ref b_82), (.int (1 : Int32)), (.ref b_88)])) _
      refine st_91 _ ?_
      show Steps p.tables e below (T_91.setTop (mkF m 91 #[.val (.int p1), .val (.int p2), .val (.int (5 : Int32)), .val (.ref b_82), .val (.ref b_88), .unset, .unset] [(.int (own_lcp (5 : Int32) (1 : Int32) f5)), (.int (1 : Int32)), (.ref b_88)])) _
      refine st_92 _ ?_
      show Steps p.tables e below (T_92.setTop (mkF m 92 #[.val (.int p1), .val (.int p2), .val (.int (5 : Int32)), .val (.ref b_82), .val (.ref b_88), .unset, .unset] [])) _
      refine XS.iloadN X_92.here hx rfl (hb hby at_92) rfl ?_
      show Steps p.tables e below (T_92.setTop (mkF m 93 #[.val (.int p1), .val (.int p2), .val (.int (5 : Int32)), .val (.ref b_82), .val (.ref b_88), .unset, .unset] [(.int (5 : Int32))])) _
      refine XS.iconst X_92.here hx rfl (hb hby at_93) ?_
      show Steps p.tables e below (T_92.setTop (mkF m 94 #[.val (.int p1), .val (.int p2), .val (.int (5 : Int32)), .val (.ref b_82), .val (.ref b_88), .unset, .unset] [(.int (2 : Int32)), (.int (5 : Int32))])) _
      refine XS.icmpNo X_92.here hx rfl (hb hby at_94) rfl (tlt (by decide : (2 : Int32) < (5 : Int32))).2.2.2 ?_
      show Steps p.tables e below (T_92.setTop (mkF m 97 #[.val (.int p1), .val (.int p2), .val (.int (5 : Int32)), .val (.ref b_82), .val (.ref b_88), .unset, .unset] [])) _
      refine XS.aload X_92.here hx rfl (hb hby at_97) rfl rfl ?_
      show Steps p.tables e below (T_92.setTop (mkF m 99 #[.val (.int p1), .val (.int p2), .val (.int (5 : Int32)), .val (.ref b_82), .val (.ref b_88), .unset, .unset] [(.ref b_88)])) _
      refine XS.iconst X_92.here hx rfl (hb hby at_99) ?_
      show Steps p.tables e below (T_92.setTop (mkF m 100 #[.val (.int p1), .val (.int p2), .val (.int (5 : Int32)), .val (.ref b_82), .val (.ref b_88), .unset, .unset] [(.int (2 : Int32)), (.ref b_88)])) _
      refine XS.aloadN X_92.here hx rfl (hb hby at_100) rfl rfl ?_
      show Steps p.tables e below (T_92.setTop (mkF m 101 #[.val (.int p1), .val (.int p2), .val (.int (5 : Int32)), .val (.ref b_82), .val (.ref b_88), .unset, .unset] [(.ref b_82), (.int (2 : Int32)), (.ref b_88)])) _
      refine XS.iloadN X_92.here hx rfl (hb hby at_101) rfl ?_
      show Steps p.tables e below (T_92.setTop (mkF m 102 #[.val (.int p1), .val (.int p2), .val (.int (5 : Int32)), .val (.ref b_82), .val (.ref b_88), .unset, .unset] [(.int (5 : Int32)), (.ref b_82), (.int (2 : Int32)), (.ref b_88)])) _
      refine XS.iconst X_92.here hx rfl (hb hby at_102) ?_
      show Steps p.tables e below (T_92.setTop (mkF m 103 #[.val (.int p1), .val (.int p2), .val (.int (5 : Int32)), .val (.ref b_82), .val (.ref b_88), .unset, .unset] [(.int (2 : Int32)), (.int (5 : Int32)), (.ref b_82), (.int (2 : Int32)), (.ref b_88)])) _
      refine st_93 _ ?_
      show Steps p.tables e below (T_93.setTop (mkF m 106 #[.val (.int p1), .val (.int p2), .val (.int (5 : Int32)), .val (.ref b_82), .val (.ref b_88), .unset, .unset] [(.int (own_lcp (5 : Int32) (2 : Int32) f5)), (.int (2 : Int32)), (.ref b_88)])) _
      refine st_94 _ ?_
      show Steps p.tables e below (T_94.setTop (mkF m 107 #[.val (.int p1), .val (.int p2), .val (.int (5 : Int32)), .val (.ref b_82), .val (.ref b_88), .unset, .unset] [])) _
      refine XS.iloadN X_94.here hx rfl (hb hby at_107) rfl ?_
      show Steps p.tables e below (T_94.setTop (mkF m 108 #[.val (.int p1), .val (.int p2), .val (.int (5 : Int32)), .val (.ref b_82), .val (.ref b_88), .unset, .unset] [(.int (5 : Int32))])) _
      refine XS.iconst X_94.here hx rfl (hb hby at_108) ?_
      show Steps p.tables e below (T_94.setTop (mkF m 109 #[.val (.int p1), .val (.int p2), .val (.int (5 : Int32)), .val (.ref b_82), .val (.ref b_88), .unset, .unset] [(.int (3 : Int32)), (.int (5 : Int32))])) _
      refine XS.icmpNo X_94.here hx rfl (hb hby at_109) rfl (tlt (by decide : (3 : Int32) < (5 : Int32))).2.2.2 ?_
      show Steps p.tables e below (T_94.setTop (mkF m 112 #[.val (.int p1), .val (.int p2), .val (.int (5 : Int32)), .val (.ref b_82), .val (.ref b_88), .unset, .unset] [])) _
      refine XS.aload X_94.here hx rfl (hb hby at_112) rfl rfl ?_
      show Steps p.tables e below (T_94.setTop (mkF m 114 #[.val (.int p1), .val (.int p2), .val (.int (5 : Int32)), .val (.ref b_82), .val (.ref b_88), .unset, .unset] [(.ref b_88)])) _
      refine XS.iconst X_94.here hx rfl (hb hby at_114) ?_
      show Steps p.tables e below (T_94.setTop (mkF m 115 #[.val (.int p1), .val (.int p2), .val (.int (5 : Int32)), .val (.ref b_82), .val (.ref b_88), .unset, .unset] [(.int (3 : Int32)), (.ref b_88)])) _
      refine XS.aloadN X_94.here hx rfl (hb hby at_115) rfl rfl ?_
      show Steps p.tables e below (T_94.setTop (mkF m 116 #[.val (.int p1), .val (.int p2), .val (.int (5 : Int32)), .val (.ref b_82), .val (.ref b_88), .unset, .unset] [(.ref b_82), (.int (3 : Int32)), (.ref b_88)])) _
      refine XS.iloadN X_94.here hx rfl (hb hby at_116) rfl ?_
      show Steps p.tables e below (T_94.setTop (mkF m 117 #[.val (.int p1), .val (.int p2), .val (.int (5 : Int32)), .val (.ref b_82), .val (.ref b_88), .unset, .unset] [(.int (5 : Int32)), (.ref b_82), (.int (3 : Int32)), (.ref b_88)])) _
      refine XS.iconst X_94.here hx rfl (hb hby at_117) ?_
      show Steps p.tables e below (T_94.setTop (mkF m 118 #[.val (.int p1), .val (.int p2), .val (.int (5 : Int32)), .val (.ref b_82), .val (.ref b_88), .unset, .unset] [(.int (3 : Int32)), (.int (5 : Int32)), (.ref b_82), (.int (3 : Int32)), (.ref b_88)])) _
      refine st_95 _ ?_
      show Steps p.tables e below (T_95.setTop (mkF m 121 #[.val (.int p1), .val (.int p2), .val (.int (5 : Int32)), .val (.ref b_82), .val (.ref b_88), .unset, .unset] [(.int (own_lcp (5 : Int32) (3 : Int32) f5)), (.int (3 : Int32)), (.ref b_88)])) _
      refine st_96 _ ?_
      show Steps p.tables e below (T_96.setTop (mkF m 122 #[.val (.int p1), .val (.int p2), .val (.int (5 : Int32)), .val (.ref b_82), .val (.ref b_88), .unset, .unset] [])) _
      refine XS.iloadN X_96.here hx rfl (hb hby at_122) rfl ?_
      show Steps p.tables e below (T_96.setTop (mkF m 123 #[.val (.int p1), .val (.int p2), .val (.int (5 : Int32)), .val (.ref b_82), .val (.ref b_88), .unset, .unset] [(.int (5 : Int32))])) _
      refine XS.iconst X_96.here hx rfl (hb hby at_123) ?_
      show Steps p.tables e below (T_96.setTop (mkF m 124 #[.val (.int p1), .val (.int p2), .val (.int (5 : Int32)), .val (.ref b_82), .val (.ref b_88), .unset, .unset] [(.int (4 : Int32)), (.int (5 : Int32))])) _
      refine XS.icmpNo X_96.here hx rfl (hb hby at_124) rfl (tlt (by decide : (4 : Int32) < (5 : Int32))).2.2.2 ?_
      show Steps p.tables e below (T_96.setTop (mkF m 127 #[.val (.int p1), .val (.int p2), .val (.int (5 : Int32)), .val (.ref b_82), .val (.ref b_88), .unset, .unset] [])) _
      refine XS.aload X_96.here hx rfl (hb hby at_127) rfl rfl ?_
      show Steps p.tables e below (T_96.setTop (mkF m 129 #[.val (.int p1), .val (.int p2), .val (.int (5 : Int32)), .val (.ref b_82), .val (.ref b_88), .unset, .unset] [(.ref b_88)])) _
      refine XS.iconst X_96.here hx rfl (hb hby at_129) ?_
      show Steps p.tables e below (T_96.setTop (mkF m 130 #[.val (.int p1), .val (.int p2), .val (.int (5 : Int32)), .val (.ref b_82), .val (.ref b_88), .unset, .unset] [(.int (4 : Int32)), (.ref b_88)])) _
      refine XS.aloadN X_96.here hx rfl (hb hby at_130) rfl rfl ?_
      show Steps p.tables e below (T_96.setTop (mkF m 131 #[.val (.int p1), .val (.int p2), .val (.int (5 : Int32)), .val (.ref b_82), .val (.ref b_88), .unset, .unset] [(.ref b_82), (.int (4 : Int32)), (.ref b_88)])) _
      refine XS.iloadN X_96.here hx rfl (hb hby at_131) rfl ?_
      show Steps p.tables e below (T_96.setTop (mkF m 132 #[.val (.int p1), .val (.int p2), .val (.int (5 : Int32)), .val (.ref b_82), .val (.ref b_88), .unset, .unset] [(.int (5 : Int32)), (.ref b_82), (.int (4 : Int32)), (.ref b_88)])) _
      refine XS.iconst X_96.here hx rfl (hb hby at_132) ?_
      show Steps p.tables e below (T_96.setTop (mkF m 133 #[.val (.int p1), .val (.int p2), .val (.int (5 : Int32)), .val (.ref b_82), .val (.ref b_88), .unset, .unset] [(.int (4 : Int32)), (.int (5 : Int32)), (.ref b_82), (.int (4 : Int32)), (.ref b_88)])) _
      refine st_97 _ ?_
      show Steps p.tables e below (T_97.setTop (mkF m 136 #[.val (.int p1), .val (.int p2), .val (.int (5 : Int32)), .val (.ref b_82), .val (.ref b_88), .unset, .unset] [(.int (own_lcp (5 : Int32) (4 : Int32) f5)), (.int (4 : Int32)), (.ref b_88)])) _
      refine st_98 _ ?_
      show Steps p.tables e below (T_98.setTop (mkF m 137 #[.val (.int p1), .val (.int p2), .val (.int (5 : Int32)), .val (.ref b_82), .val (.ref b_88), .unset, .unset] [])) _
      refine XS.aload X_98.here hx rfl (hb hby at_137) rfl rfl ?_
      show Steps p.tables e below (T_98.setTop (mkF m 139 #[.val (.int p1), .val (.int p2), .val (.int (5 : Int32)), .val (.ref b_82), .val (.ref b_88), .unset, .unset] [(.ref b_88)])) _
      refine st_99 _ ?_
      show Steps p.tables e below (T_99.setTop (mkF m 142 #[.val (.int p1), .val (.int p2), .val (.int (5 : Int32)), .val (.ref b_82), .val (.ref b_88), .unset, .unset] [(.ref r_99)])) _
      refine XS.astore X_99.here hx rfl (hb hby at_142) rfl rfl (l' := #[.val (.int p1), .val (.int p2), .val (.int (5 : Int32)), .val (.ref b_82), .val (.ref b_88), .val (.ref r_99), .unset]) rfl ?_
      show Steps p.tables e below (T_99.setTop (mkF m 144 #[.val (.int p1), .val (.int p2), .val (.int (5 : Int32)), .val (.ref b_82), .val (.ref b_88), .val (.ref r_99), .unset] [])) _
      refine XS.aload X_99.here hx rfl (hb hby at_144) rfl rfl ?_
      show Steps p.tables e below (T_99.setTop (mkF m 146 #[.val (.int p1), .val (.int p2), .val (.int (5 : Int32)), .val (.ref b_82), .val (.ref b_88), .val (.ref r_99), .unset] [(.ref r_99)])) _
      refine X_99.arraylength hx Ar_101.1 (State.isArrayOf_alike hZ.alike Ar_101.2.1) (g := (mkF m 146 #[.val (.int p1), .val (.int p2), .val (.int (5 : Int32)), .val (.ref b_82), .val (.ref b_88), .val (.ref r_99), .unset] [(.ref r_99)])) rfl rfl (hb hby at_146) _ ?_
      rw [Sz_101]
      show Steps p.tables e below (T_99.setTop (mkF m 147 #[.val (.int p1), .val (.int p2), .val (.int (5 : Int32)), .val (.ref b_82), .val (.ref b_88), .val (.ref r_99), .unset] [(.int (5 : Int32))])) _
      refine XS.iloadN X_99.here hx rfl (hb hby at_147) rfl ?_
      show Steps p.tables e below (T_99.setTop (mkF m 148 #[.val (.int p1), .val (.int p2), .val (.int (5 : Int32)), .val (.ref b_82), .val (.ref b_88), .val (.ref r_99), .unset] [(.int (5 : Int32)), (.int (5 : Int32))])) _
      refine XS.icmpNo X_99.here hx rfl (hb hby at_148) rfl (teq (by decide : (5 : Int32) = (5 : Int32))).2 ?_
      show Steps p.tables e below (T_99.setTop (mkF m 151 #[.val (.int p1), .val (.int p2), .val (.int (5 : Int32)), .val (.ref b_82), .val (.ref b_88), .val (.ref r_99), .unset] [])) _
      refine XS.iconst X_99.here hx rfl (hb hby at_151) ?_
      show Steps p.tables e below (T_99.setTop (mkF m 152 #[.val (.int p1), .val (.int p2), .val (.int (5 : Int32)), .val (.ref b_82), .val (.ref b_88), .val (.ref r_99), .unset] [(.int (1 : Int32))])) _
      refine XS.goto X_99.here hx rfl (pc0 := 152) (pc' := 156) rfl (hb hby at_152) (by decide) (by decide) ?_
      show Steps p.tables e below (T_99.setTop (mkF m 156 #[.val (.int p1), .val (.int p2), .val (.int (5 : Int32)), .val (.ref b_82), .val (.ref b_88), .val (.ref r_99), .unset] [(.int (1 : Int32))])) _
      refine XS.istore X_99.here hx rfl (hb hby at_156) rfl (l' := #[.val (.int p1), .val (.int p2), .val (.int (5 : Int32)), .val (.ref b_82), .val (.ref b_88), .val (.ref r_99), .val (.int (1 : Int32))]) rfl ?_
      show Steps p.tables e below (T_99.setTop (mkF m 158 #[.val (.int p1), .val (.int p2), .val (.int (5 : Int32)), .val (.ref b_82), .val (.ref b_88), .val (.ref r_99), .val (.int (1 : Int32))] [])) _
      refine XS.iloadN X_99.here hx rfl (hb hby at_158) rfl ?_
      show Steps p.tables e below (T_99.setTop (mkF m 159 #[.val (.int p1), .val (.int p2), .val (.int (5 : Int32)), .val (.ref b_82), .val (.ref b_88), .val (.ref r_99), .val (.int (1 : Int32))] [(.int (5 : Int32))])) _
      refine XS.ifNo X_99.here hx rfl (hb hby at_159) rfl ((if0 _ _).trans (tlt (by decide : (0 : Int32) < (5 : Int32))).2.2.2) ?_
      show Steps p.tables e below (T_99.setTop (mkF m 162 #[.val (.int p1), .val (.int p2), .val (.int (5 : Int32)), .val (.ref b_82), .val (.ref b_88), .val (.ref r_99), .val (.int (1 : Int32))] [])) _
      refine XS.iload X_99.here hx rfl (hb hby at_162) rfl ?_
      show Steps p.tables e below (T_99.setTop (mkF m 164 #[.val (.int p1), .val (.int p2), .val (.int (5 : Int32)), .val (.ref b_82), .val (.ref b_88), .val (.ref r_99), .val (.int (1 : Int32))] [(.int (1 : Int32))])) _
      refine XS.ifNo X_99.here hx rfl (hb hby at_164) rfl ((if0 _ _).trans (feq (by decide : ¬ ((1 : Int32) = (0 : Int32)))).1) ?_
      show Steps p.tables e below (T_99.setTop (mkF m 167 #[.val (.int p1), .val (.int p2), .val (.int (5 : Int32)), .val (.ref b_82), .val (.ref b_88), .val (.ref r_99), .val (.int (1 : Int32))] [])) _
      refine XS.aload X_99.here hx rfl (hb hby at_167) rfl rfl ?_
      show Steps p.tables e below (T_99.setTop (mkF m 169 #[.val (.int p1), .val (.int p2), .val (.int (5 : Int32)), .val (.ref b_82), .val (.ref b_88), .val (.ref r_99), .val (.int (1 : Int32))] [(.ref r_99)])) _
      refine XS.iconst X_99.here hx rfl (hb hby at_169) ?_
      show Steps p.tables e below (T_99.setTop (mkF m 170 #[.val (.int p1), .val (.int p2), .val (.int (5 : Int32)), .val (.ref b_82), .val (.ref b_88), .val (.ref r_99), .val (.int (1 : Int32))] [(.int (0 : Int32)), (.ref r_99)])) _
      refine X_99.iaload hx (j := (0 : Int32)) (v := (.int ((own_out 5 fz) 0))) Ar_101.1 (State.isArrayOf_alike hZ.alike Ar_101.2.1) Ar_101.2.2 (own_inb Sz_101 (show ¬ ((0 : Int32) < 0 ∨ 5 ≤ ((0 : Int32)).toNatClampNeg) from (by decide))) (by have q := At_101 _ (own_ltn (show ¬ ((0 : Int32) < 0 ∨ 5 ≤ ((0 : Int32)).toNatClampNeg) from (by decide))); rw [show ((0 : Int32)).toNatClampNeg = 0 from by decide] at q ⊢; exact q) (g := (mkF m 170 #[.val (.int p1), .val (.int p2), .val (.int (5 : Int32)), .val (.ref b_82), .val (.ref b_88), .val (.ref r_99), .val (.int (1 : Int32))] [(.int (0 : Int32)), (.ref r_99)])) rfl rfl (hb hby at_170) _ ?_
      show Steps p.tables e below (T_99.setTop (mkF m 171 #[.val (.int p1), .val (.int p2), .val (.int (5 : Int32)), .val (.ref b_82), .val (.ref b_88), .val (.ref r_99), .val (.int (1 : Int32))] [(.int ((own_out 5 fz) 0))])) _
      refine XS.aloadN X_99.here hx rfl (hb hby at_171) rfl rfl ?_
      show Steps p.tables e below (T_99.setTop (mkF m 172 #[.val (.int p1), .val (.int p2), .val (.int (5 : Int32)), .val (.ref b_82), .val (.ref b_88), .val (.ref r_99), .val (.int (1 : Int32))] [(.ref b_82), (.int ((own_out 5 fz) 0))])) _
      refine XS.iconst X_99.here hx rfl (hb hby at_172) ?_
      show Steps p.tables e below (T_99.setTop (mkF m 173 #[.val (.int p1), .val (.int p2), .val (.int (5 : Int32)), .val (.ref b_82), .val (.ref b_88), .val (.ref r_99), .val (.int (1 : Int32))] [(.int (0 : Int32)), (.ref b_82), (.int ((own_out 5 fz) 0))])) _
      refine st_102 _ ?_
      show Steps p.tables e below (T_102.setTop (mkF m 176 #[.val (.int p1), .val (.int p2), .val (.int (5 : Int32)), .val (.ref b_82), .val (.ref b_88), .val (.ref r_99), .val (.int (1 : Int32))] [(.int (own_border (0 : Int32) f5)), (.int ((own_out 5 fz) 0))])) _
      refine XS.icmpNo X_102.here hx rfl (hb hby at_176) rfl (teq (own_good5_0 f5 fz ht5 z_1 z_2 z_3 z_4 : ((own_out 5 fz) 0) = (own_border (0 : Int32) f5))).2 ?_
      show Steps p.tables e below (T_102.setTop (mkF m 179 #[.val (.int p1), .val (.int p2), .val (.int (5 : Int32)), .val (.ref b_82), .val (.ref b_88), .val (.ref r_99), .val (.int (1 : Int32))] [])) _
      refine XS.iconst X_102.here hx rfl (hb hby at_179) ?_
      show Steps p.tables e below (T_102.setTop (mkF m 180 #[.val (.int p1), .val (.int p2), .val (.int (5 : Int32)), .val (.ref b_82), .val (.ref b_88), .val (.ref r_99), .val (.int (1 : Int32))] [(.int (1 : Int32))])) _
      refine XS.goto X_102.here hx rfl (pc0 := 180) (pc' := 184) rfl (hb hby at_180) (by decide) (by decide) ?_
      show Steps p.tables e below (T_102.setTop (mkF m 184 #[.val (.int p1), .val (.int p2), .val (.int (5 : Int32)), .val (.ref b_82), .val (.ref b_88), .val (.ref r_99), .val (.int (1 : Int32))] [(.int (1 : Int32))])) _
      refine XS.istore X_102.here hx rfl (hb hby at_184) rfl (l' := #[.val (.int p1), .val (.int p2), .val (.int (5 : Int32)), .val (.ref b_82), .val (.ref b_88), .val (.ref r_99), .val (.int (1 : Int32))]) rfl ?_
      show Steps p.tables e below (T_102.setTop (mkF m 186 #[.val (.int p1), .val (.int p2), .val (.int (5 : Int32)), .val (.ref b_82), .val (.ref b_88), .val (.ref r_99), .val (.int (1 : Int32))] [])) _
      refine XS.iloadN X_102.here hx rfl (hb hby at_186) rfl ?_
      show Steps p.tables e below (T_102.setTop (mkF m 187 #[.val (.int p1), .val (.int p2), .val (.int (5 : Int32)), .val (.ref b_82), .val (.ref b_88), .val (.ref r_99), .val (.int (1 : Int32))] [(.int (5 : Int32))])) _
      refine XS.iconst X_102.here hx rfl (hb hby at_187) ?_
      show Steps p.tables e below (T_102.setTop (mkF m 188 #[.val (.int p1), .val (.int p2), .val (.int (5 : Int32)), .val (.ref b_82), .val (.ref b_88), .val (.ref r_99), .val (.int (1 : Int32))] [(.int (1 : Int32)), (.int (5 : Int32))])) _
      refine XS.icmpNo X_102.here hx rfl (hb hby at_188) rfl (tlt (by decide : (1 : Int32) < (5 : Int32))).2.2.2 ?_
      show Steps p.tables e below (T_102.setTop (mkF m 191 #[.val (.int p1), .val (.int p2), .val (.int (5 : Int32)), .val (.ref b_82), .val (.ref b_88), .val (.ref r_99), .val (.int (1 : Int32))] [])) _
      refine XS.iload X_102.here hx rfl (hb hby at_191) rfl ?_
      show Steps p.tables e below (T_102.setTop (mkF m 193 #[.val (.int p1), .val (.int p2), .val (.int (5 : Int32)), .val (.ref b_82), .val (.ref b_88), .val (.ref r_99), .val (.int (1 : Int32))] [(.int (1 : Int32))])) _
      refine XS.ifNo X_102.here hx rfl (hb hby at_193) rfl ((if0 _ _).trans (feq (by decide : ¬ ((1 : Int32) = (0 : Int32)))).1) ?_
      show Steps p.tables e below (T_102.setTop (mkF m 196 #[.val (.int p1), .val (.int p2), .val (.int (5 : Int32)), .val (.ref b_82), .val (.ref b_88), .val (.ref r_99), .val (.int (1 : Int32))] [])) _
      refine XS.aload X_102.here hx rfl (hb hby at_196) rfl rfl ?_
      show Steps p.tables e below (T_102.setTop (mkF m 198 #[.val (.int p1), .val (.int p2), .val (.int (5 : Int32)), .val (.ref b_82), .val (.ref b_88), .val (.ref r_99), .val (.int (1 : Int32))] [(.ref r_99)])) _
      refine XS.iconst X_102.here hx rfl (hb hby at_198) ?_
      show Steps p.tables e below (T_102.setTop (mkF m 199 #[.val (.int p1), .val (.int p2), .val (.int (5 : Int32)), .val (.ref b_82), .val (.ref b_88), .val (.ref r_99), .val (.int (1 : Int32))] [(.int (1 : Int32)), (.ref r_99)])) _
      refine X_102.iaload hx (j := (1 : Int32)) (v := (.int ((own_out 5 fz) 1))) (by rw [e_102]; exact Ar_101.1) (State.isArrayOf_alike hZ.alike Ar_101.2.1) Ar_101.2.2 (own_inb Sz_101 (show ¬ ((1 : Int32) < 0 ∨ 5 ≤ ((1 : Int32)).toNatClampNeg) from (by decide))) (by have q := At_101 _ (own_ltn (show ¬ ((1 : Int32) < 0 ∨ 5 ≤ ((1 : Int32)).toNatClampNeg) from (by decide))); rw [show ((1 : Int32)).toNatClampNeg = 1 from by decide] at q ⊢; exact q) (g := (mkF m 199 #[.val (.int p1), .val (.int p2), .val (.int (5 : Int32)), .val (.ref b_82), .val (.ref b_88), .val (.ref r_99), .val (.int (1 : Int32))] [(.int (1 : Int32)), (.ref r_99)])) rfl rfl (hb hby at_199) _ ?_
      show Steps p.tables e below (T_102.setTop (mkF m 200 #[.val (.int p1), .val (.int p2), .val (.int (5 : Int32)), .val (.ref b_82), .val (.ref b_88), .val (.ref r_99), .val (.int (1 : Int32))] [(.int ((own_out 5 fz) 1))])) _
      refine XS.aloadN X_102.here hx rfl (hb hby at_200) rfl rfl ?_
      show Steps p.tables e below (T_102.setTop (mkF m 201 #[.val (.int p1), .val (.int p2), .val (.int (5 : Int32)), .val (.ref b_82), .val (.ref b_88), .val (.ref r_99), .val (.int (1 : Int32))] [(.ref b_82), (.int ((own_out 5 fz) 1))])) _
      refine XS.iconst X_102.here hx rfl (hb hby at_201) ?_
      show Steps p.tables e below (T_102.setTop (mkF m 202 #[.val (.int p1), .val (.int p2), .val (.int (5 : Int32)), .val (.ref b_82), .val (.ref b_88), .val (.ref r_99), .val (.int (1 : Int32))] [(.int (1 : Int32)), (.ref b_82), (.int ((own_out 5 fz) 1))])) _
      refine st_103 _ ?_
      show Steps p.tables e below (T_103.setTop (mkF m 205 #[.val (.int p1), .val (.int p2), .val (.int (5 : Int32)), .val (.ref b_82), .val (.ref b_88), .val (.ref r_99), .val (.int (1 : Int32))] [(.int (own_border (1 : Int32) f5)), (.int ((own_out 5 fz) 1))])) _
      refine XS.icmpNo X_103.here hx rfl (hb hby at_205) rfl (teq (own_good5_1 f5 fz ht5 z_1 z_2 z_3 z_4 : ((own_out 5 fz) 1) = (own_border (1 : Int32) f5))).2 ?_
      show Steps p.tables e below (T_103.setTop (mkF m 208 #[.val (.int p1), .val (.int p2), .val (.int (5 : Int32)), .val (.ref b_82), .val (.ref b_88), .val (.ref r_99), .val (.int (1 : Int32))] [])) _
      refine XS.iconst X_103.here hx rfl (hb hby at_208) ?_
      show Steps p.tables e below (T_103.setTop (mkF m 209 #[.val (.int p1), .val (.int p2), .val (.int (5 : Int32)), .val (.ref b_82), .val (.ref b_88), .val (.ref r_99), .val (.int (1 : Int32))] [(.int (1 : Int32))])) _
      refine XS.goto X_103.here hx rfl (pc0 := 209) (pc' := 213) rfl (hb hby at_209) (by decide) (by decide) ?_
      show Steps p.tables e below (T_103.setTop (mkF m 213 #[.val (.int p1), .val (.int p2), .val (.int (5 : Int32)), .val (.ref b_82), .val (.ref b_88), .val (.ref r_99), .val (.int (1 : Int32))] [(.int (1 : Int32))])) _
      refine XS.istore X_103.here hx rfl (hb hby at_213) rfl (l' := #[.val (.int p1), .val (.int p2), .val (.int (5 : Int32)), .val (.ref b_82), .val (.ref b_88), .val (.ref r_99), .val (.int (1 : Int32))]) rfl ?_
      show Steps p.tables e below (T_103.setTop (mkF m 215 #[.val (.int p1), .val (.int p2), .val (.int (5 : Int32)), .val (.ref b_82), .val (.ref b_88), .val (.ref r_99), .val (.int (1 : Int32))] [])) _
      refine XS.iloadN X_103.here hx rfl (hb hby at_215) rfl ?_
      show Steps p.tables e below (T_103.setTop (mkF m 216 #[.val (.int p1), .val (.int p2), .val (.int (5 : Int32)), .val (.ref b_82), .val (.ref b_88), .val (.ref r_99), .val (.int (1 : Int32))] [(.int (5 : Int32))])) _
      refine XS.iconst X_103.here hx rfl (hb hby at_216) ?_
      show Steps p.tables e below (T_103.setTop (mkF m 217 #[.val (.int p1), .val (.int p2), .val (.int (5 : Int32)), .val (.ref b_82), .val (.ref b_88), .val (.ref r_99), .val (.int (1 : Int32))] [(.int (2 : Int32)), (.int (5 : Int32))])) _
      refine XS.icmpNo X_103.here hx rfl (hb hby at_217) rfl (tlt (by decide : (2 : Int32) < (5 : Int32))).2.2.2 ?_
      show Steps p.tables e below (T_103.setTop (mkF m 220 #[.val (.int p1), .val (.int p2), .val (.int (5 : Int32)), .val (.ref b_82), .val (.ref b_88), .val (.ref r_99), .val (.int (1 : Int32))] [])) _
      refine XS.iload X_103.here hx rfl (hb hby at_220) rfl ?_
      show Steps p.tables e below (T_103.setTop (mkF m 222 #[.val (.int p1), .val (.int p2), .val (.int (5 : Int32)), .val (.ref b_82), .val (.ref b_88), .val (.ref r_99), .val (.int (1 : Int32))] [(.int (1 : Int32))])) _
      refine XS.ifNo X_103.here hx rfl (hb hby at_222) rfl ((if0 _ _).trans (feq (by decide : ¬ ((1 : Int32) = (0 : Int32)))).1) ?_
      show Steps p.tables e below (T_103.setTop (mkF m 225 #[.val (.int p1), .val (.int p2), .val (.int (5 : Int32)), .val (.ref b_82), .val (.ref b_88), .val (.ref r_99), .val (.int (1 : Int32))] [])) _
      refine XS.aload X_103.here hx rfl (hb hby at_225) rfl rfl ?_
      show Steps p.tables e below (T_103.setTop (mkF m 227 #[.val (.int p1), .val (.int p2), .val (.int (5 : Int32)), .val (.ref b_82), .val (.ref b_88), .val (.ref r_99), .val (.int (1 : Int32))] [(.ref r_99)])) _
      refine XS.iconst X_103.here hx rfl (hb hby at_227) ?_
      show Steps p.tables e below (T_103.setTop (mkF m 228 #[.val (.int p1), .val (.int p2), .val (.int (5 : Int32)), .val (.ref b_82), .val (.ref b_88), .val (.ref r_99), .val (.int (1 : Int32))] [(.int (2 : Int32)), (.ref r_99)])) _
      refine X_103.iaload hx (j := (2 : Int32)) (v := (.int ((own_out 5 fz) 2))) (by rw [e_103]; exact Ar_101.1) (State.isArrayOf_alike hZ.alike Ar_101.2.1) Ar_101.2.2 (own_inb Sz_101 (show ¬ ((2 : Int32) < 0 ∨ 5 ≤ ((2 : Int32)).toNatClampNeg) from (by decide))) (by have q := At_101 _ (own_ltn (show ¬ ((2 : Int32) < 0 ∨ 5 ≤ ((2 : Int32)).toNatClampNeg) from (by decide))); rw [show ((2 : Int32)).toNatClampNeg = 2 from by decide] at q ⊢; exact q) (g := (mkF m 228 #[.val (.int p1), .val (.int p2), .val (.int (5 : Int32)), .val (.ref b_82), .val (.ref b_88), .val (.ref r_99), .val (.int (1 : Int32))] [(.int (2 : Int32)), (.ref r_99)])) rfl rfl (hb hby at_228) _ ?_
      show Steps p.tables e below (T_103.setTop (mkF m 229 #[.val (.int p1), .val (.int p2), .val (.int (5 : Int32)), .val (.ref b_82), .val (.ref b_88), .val (.ref r_99), .val (.int (1 : Int32))] [(.int ((own_out 5 fz) 2))])) _
      refine XS.aloadN X_103.here hx rfl (hb hby at_229) rfl rfl ?_
      show Steps p.tables e below (T_103.setTop (mkF m 230 #[.val (.int p1), .val (.int p2), .val (.int (5 : Int32)), .val (.ref b_82), .val (.ref b_88), .val (.ref r_99), .val (.int (1 : Int32))] [(.ref b_82), (.int ((own_out 5 fz) 2))])) _
      refine XS.iconst X_103.here hx rfl (hb hby at_230) ?_
      show Steps p.tables e below (T_103.setTop (mkF m 231 #[.val (.int p1), .val (.int p2), .val (.int (5 : Int32)), .val (.ref b_82), .val (.ref b_88), .val (.ref r_99), .val (.int (1 : Int32))] [(.int (2 : Int32)), (.ref b_82), (.int ((own_out 5 fz) 2))])) _
      refine st_104 _ ?_
      show Steps p.tables e below (T_104.setTop (mkF m 234 #[.val (.int p1), .val (.int p2), .val (.int (5 : Int32)), .val (.ref b_82), .val (.ref b_88), .val (.ref r_99), .val (.int (1 : Int32))] [(.int (own_border (2 : Int32) f5)), (.int ((own_out 5 fz) 2))])) _
      refine XS.icmpNo X_104.here hx rfl (hb hby at_234) rfl (teq (own_good5_2 f5 fz ht5 z_1 z_2 z_3 z_4 : ((own_out 5 fz) 2) = (own_border (2 : Int32) f5))).2 ?_
      show Steps p.tables e below (T_104.setTop (mkF m 237 #[.val (.int p1), .val (.int p2), .val (.int (5 : Int32)), .val (.ref b_82), .val (.ref b_88), .val (.ref r_99), .val (.int (1 : Int32))] [])) _
      refine XS.iconst X_104.here hx rfl (hb hby at_237) ?_
      show Steps p.tables e below (T_104.setTop (mkF m 238 #[.val (.int p1), .val (.int p2), .val (.int (5 : Int32)), .val (.ref b_82), .val (.ref b_88), .val (.ref r_99), .val (.int (1 : Int32))] [(.int (1 : Int32))])) _
      refine XS.goto X_104.here hx rfl (pc0 := 238) (pc' := 242) rfl (hb hby at_238) (by decide) (by decide) ?_
      show Steps p.tables e below (T_104.setTop (mkF m 242 #[.val (.int p1), .val (.int p2), .val (.int (5 : Int32)), .val (.ref b_82), .val (.ref b_88), .val (.ref r_99), .val (.int (1 : Int32))] [(.int (1 : Int32))])) _
      refine XS.istore X_104.here hx rfl (hb hby at_242) rfl (l' := #[.val (.int p1), .val (.int p2), .val (.int (5 : Int32)), .val (.ref b_82), .val (.ref b_88), .val (.ref r_99), .val (.int (1 : Int32))]) rfl ?_
      show Steps p.tables e below (T_104.setTop (mkF m 244 #[.val (.int p1), .val (.int p2), .val (.int (5 : Int32)), .val (.ref b_82), .val (.ref b_88), .val (.ref r_99), .val (.int (1 : Int32))] [])) _
      refine XS.iloadN X_104.here hx rfl (hb hby at_244) rfl ?_
      show Steps p.tables e below (T_104.setTop (mkF m 245 #[.val (.int p1), .val (.int p2), .val (.int (5 : Int32)), .val (.ref b_82), .val (.ref b_88), .val (.ref r_99), .val (.int (1 : Int32))] [(.int (5 : Int32))])) _
      refine XS.iconst X_104.here hx rfl (hb hby at_245) ?_
      show Steps p.tables e below (T_104.setTop (mkF m 246 #[.val (.int p1), .val (.int p2), .val (.int (5 : Int32)), .val (.ref b_82), .val (.ref b_88), .val (.ref r_99), .val (.int (1 : Int32))] [(.int (3 : Int32)), (.int (5 : Int32))])) _
      refine XS.icmpNo X_104.here hx rfl (hb hby at_246) rfl (tlt (by decide : (3 : Int32) < (5 : Int32))).2.2.2 ?_
      show Steps p.tables e below (T_104.setTop (mkF m 249 #[.val (.int p1), .val (.int p2), .val (.int (5 : Int32)), .val (.ref b_82), .val (.ref b_88), .val (.ref r_99), .val (.int (1 : Int32))] [])) _
      refine XS.iload X_104.here hx rfl (hb hby at_249) rfl ?_
      show Steps p.tables e below (T_104.setTop (mkF m 251 #[.val (.int p1), .val (.int p2), .val (.int (5 : Int32)), .val (.ref b_82), .val (.ref b_88), .val (.ref r_99), .val (.int (1 : Int32))] [(.int (1 : Int32))])) _
      refine XS.ifNo X_104.here hx rfl (hb hby at_251) rfl ((if0 _ _).trans (feq (by decide : ¬ ((1 : Int32) = (0 : Int32)))).1) ?_
      show Steps p.tables e below (T_104.setTop (mkF m 254 #[.val (.int p1), .val (.int p2), .val (.int (5 : Int32)), .val (.ref b_82), .val (.ref b_88), .val (.ref r_99), .val (.int (1 : Int32))] [])) _
      refine XS.aload X_104.here hx rfl (hb hby at_254) rfl rfl ?_
      show Steps p.tables e below (T_104.setTop (mkF m 256 #[.val (.int p1), .val (.int p2), .val (.int (5 : Int32)), .val (.ref b_82), .val (.ref b_88), .val (.ref r_99), .val (.int (1 : Int32))] [(.ref r_99)])) _
      refine XS.iconst X_104.here hx rfl (hb hby at_256) ?_
      show Steps p.tables e below (T_104.setTop (mkF m 257 #[.val (.int p1), .val (.int p2), .val (.int (5 : Int32)), .val (.ref b_82), .val (.ref b_88), .val (.ref r_99), .val (.int (1 : Int32))] [(.int (3 : Int32)), (.ref r_99)])) _
      refine X_104.iaload hx (j := (3 : Int32)) (v := (.int ((own_out 5 fz) 3))) (by rw [e_104]; exact Ar_101.1) (State.isArrayOf_alike hZ.alike Ar_101.2.1) Ar_101.2.2 (own_inb Sz_101 (show ¬ ((3 : Int32) < 0 ∨ 5 ≤ ((3 : Int32)).toNatClampNeg) from (by decide))) (by have q := At_101 _ (own_ltn (show ¬ ((3 : Int32) < 0 ∨ 5 ≤ ((3 : Int32)).toNatClampNeg) from (by decide))); rw [show ((3 : Int32)).toNatClampNeg = 3 from by decide] at q ⊢; exact q) (g := (mkF m 257 #[.val (.int p1), .val (.int p2), .val (.int (5 : Int32)), .val (.ref b_82), .val (.ref b_88), .val (.ref r_99), .val (.int (1 : Int32))] [(.int (3 : Int32)), (.ref r_99)])) rfl rfl (hb hby at_257) _ ?_
      show Steps p.tables e below (T_104.setTop (mkF m 258 #[.val (.int p1), .val (.int p2), .val (.int (5 : Int32)), .val (.ref b_82), .val (.ref b_88), .val (.ref r_99), .val (.int (1 : Int32))] [(.int ((own_out 5 fz) 3))])) _
      refine XS.aloadN X_104.here hx rfl (hb hby at_258) rfl rfl ?_
      show Steps p.tables e below (T_104.setTop (mkF m 259 #[.val (.int p1), .val (.int p2), .val (.int (5 : Int32)), .val (.ref b_82), .val (.ref b_88), .val (.ref r_99), .val (.int (1 : Int32))] [(.ref b_82), (.int ((own_out 5 fz) 3))])) _
      refine XS.iconst X_104.here hx rfl (hb hby at_259) ?_
      show Steps p.tables e below (T_104.setTop (mkF m 260 #[.val (.int p1), .val (.int p2), .val (.int (5 : Int32)), .val (.ref b_82), .val (.ref b_88), .val (.ref r_99), .val (.int (1 : Int32))] [(.int (3 : Int32)), (.ref b_82), (.int ((own_out 5 fz) 3))])) _
      refine st_105 _ ?_
      show Steps p.tables e below (T_105.setTop (mkF m 263 #[.val (.int p1), .val (.int p2), .val (.int (5 : Int32)), .val (.ref b_82), .val (.ref b_88), .val (.ref r_99), .val (.int (1 : Int32))] [(.int (own_border (3 : Int32) f5)), (.int ((own_out 5 fz) 3))])) _
      refine XS.icmpNo X_105.here hx rfl (hb hby at_263) rfl (teq (own_good5_3 f5 fz ht5 z_1 z_2 z_3 z_4 : ((own_out 5 fz) 3) = (own_border (3 : Int32) f5))).2 ?_
      show Steps p.tables e below (T_105.setTop (mkF m 266 #[.val (.int p1), .val (.int p2), .val (.int (5 : Int32)), .val (.ref b_82), .val (.ref b_88), .val (.ref r_99), .val (.int (1 : Int32))] [])) _
      refine XS.iconst X_105.here hx rfl (hb hby at_266) ?_
      show Steps p.tables e below (T_105.setTop (mkF m 267 #[.val (.int p1), .val (.int p2), .val (.int (5 : Int32)), .val (.ref b_82), .val (.ref b_88), .val (.ref r_99), .val (.int (1 : Int32))] [(.int (1 : Int32))])) _
      refine XS.goto X_105.here hx rfl (pc0 := 267) (pc' := 271) rfl (hb hby at_267) (by decide) (by decide) ?_
      show Steps p.tables e below (T_105.setTop (mkF m 271 #[.val (.int p1), .val (.int p2), .val (.int (5 : Int32)), .val (.ref b_82), .val (.ref b_88), .val (.ref r_99), .val (.int (1 : Int32))] [(.int (1 : Int32))])) _
      refine XS.istore X_105.here hx rfl (hb hby at_271) rfl (l' := #[.val (.int p1), .val (.int p2), .val (.int (5 : Int32)), .val (.ref b_82), .val (.ref b_88), .val (.ref r_99), .val (.int (1 : Int32))]) rfl ?_
      show Steps p.tables e below (T_105.setTop (mkF m 273 #[.val (.int p1), .val (.int p2), .val (.int (5 : Int32)), .val (.ref b_82), .val (.ref b_88), .val (.ref r_99), .val (.int (1 : Int32))] [])) _
      refine XS.iloadN X_105.here hx rfl (hb hby at_273) rfl ?_
      show Steps p.tables e below (T_105.setTop (mkF m 274 #[.val (.int p1), .val (.int p2), .val (.int (5 : Int32)), .val (.ref b_82), .val (.ref b_88), .val (.ref r_99), .val (.int (1 : Int32))] [(.int (5 : Int32))])) _
      refine XS.iconst X_105.here hx rfl (hb hby at_274) ?_
      show Steps p.tables e below (T_105.setTop (mkF m 275 #[.val (.int p1), .val (.int p2), .val (.int (5 : Int32)), .val (.ref b_82), .val (.ref b_88), .val (.ref r_99), .val (.int (1 : Int32))] [(.int (4 : Int32)), (.int (5 : Int32))])) _
      refine XS.icmpNo X_105.here hx rfl (hb hby at_275) rfl (tlt (by decide : (4 : Int32) < (5 : Int32))).2.2.2 ?_
      show Steps p.tables e below (T_105.setTop (mkF m 278 #[.val (.int p1), .val (.int p2), .val (.int (5 : Int32)), .val (.ref b_82), .val (.ref b_88), .val (.ref r_99), .val (.int (1 : Int32))] [])) _
      refine XS.iload X_105.here hx rfl (hb hby at_278) rfl ?_
      show Steps p.tables e below (T_105.setTop (mkF m 280 #[.val (.int p1), .val (.int p2), .val (.int (5 : Int32)), .val (.ref b_82), .val (.ref b_88), .val (.ref r_99), .val (.int (1 : Int32))] [(.int (1 : Int32))])) _
      refine XS.ifNo X_105.here hx rfl (hb hby at_280) rfl ((if0 _ _).trans (feq (by decide : ¬ ((1 : Int32) = (0 : Int32)))).1) ?_
      show Steps p.tables e below (T_105.setTop (mkF m 283 #[.val (.int p1), .val (.int p2), .val (.int (5 : Int32)), .val (.ref b_82), .val (.ref b_88), .val (.ref r_99), .val (.int (1 : Int32))] [])) _
      refine XS.aload X_105.here hx rfl (hb hby at_283) rfl rfl ?_
      show Steps p.tables e below (T_105.setTop (mkF m 285 #[.val (.int p1), .val (.int p2), .val (.int (5 : Int32)), .val (.ref b_82), .val (.ref b_88), .val (.ref r_99), .val (.int (1 : Int32))] [(.ref r_99)])) _
      refine XS.iconst X_105.here hx rfl (hb hby at_285) ?_
      show Steps p.tables e below (T_105.setTop (mkF m 286 #[.val (.int p1), .val (.int p2), .val (.int (5 : Int32)), .val (.ref b_82), .val (.ref b_88), .val (.ref r_99), .val (.int (1 : Int32))] [(.int (4 : Int32)), (.ref r_99)])) _
      refine X_105.iaload hx (j := (4 : Int32)) (v := (.int ((own_out 5 fz) 4))) (by rw [e_105]; exact Ar_101.1) (State.isArrayOf_alike hZ.alike Ar_101.2.1) Ar_101.2.2 (own_inb Sz_101 (show ¬ ((4 : Int32) < 0 ∨ 5 ≤ ((4 : Int32)).toNatClampNeg) from (by decide))) (by have q := At_101 _ (own_ltn (show ¬ ((4 : Int32) < 0 ∨ 5 ≤ ((4 : Int32)).toNatClampNeg) from (by decide))); rw [show ((4 : Int32)).toNatClampNeg = 4 from by decide] at q ⊢; exact q) (g := (mkF m 286 #[.val (.int p1), .val (.int p2), .val (.int (5 : Int32)), .val (.ref b_82), .val (.ref b_88), .val (.ref r_99), .val (.int (1 : Int32))] [(.int (4 : Int32)), (.ref r_99)])) rfl rfl (hb hby at_286) _ ?_
      show Steps p.tables e below (T_105.setTop (mkF m 287 #[.val (.int p1), .val (.int p2), .val (.int (5 : Int32)), .val (.ref b_82), .val (.ref b_88), .val (.ref r_99), .val (.int (1 : Int32))] [(.int ((own_out 5 fz) 4))])) _
      refine XS.aloadN X_105.here hx rfl (hb hby at_287) rfl rfl ?_
      show Steps p.tables e below (T_105.setTop (mkF m 288 #[.val (.int p1), .val (.int p2), .val (.int (5 : Int32)), .val (.ref b_82), .val (.ref b_88), .val (.ref r_99), .val (.int (1 : Int32))] [(.ref b_82), (.int ((own_out 5 fz) 4))])) _
      refine XS.iconst X_105.here hx rfl (hb hby at_288) ?_
      show Steps p.tables e below (T_105.setTop (mkF m 289 #[.val (.int p1), .val (.int p2), .val (.int (5 : Int32)), .val (.ref b_82), .val (.ref b_88), .val (.ref r_99), .val (.int (1 : Int32))] [(.int (4 : Int32)), (.ref b_82), (.int ((own_out 5 fz) 4))])) _
      refine st_106 _ ?_
      show Steps p.tables e below (T_106.setTop (mkF m 292 #[.val (.int p1), .val (.int p2), .val (.int (5 : Int32)), .val (.ref b_82), .val (.ref b_88), .val (.ref r_99), .val (.int (1 : Int32))] [(.int (own_border (4 : Int32) f5)), (.int ((own_out 5 fz) 4))])) _
      refine XS.icmpNo X_106.here hx rfl (hb hby at_292) rfl (teq (own_good5_4 f5 fz ht5 z_1 z_2 z_3 z_4 : ((own_out 5 fz) 4) = (own_border (4 : Int32) f5))).2 ?_
      show Steps p.tables e below (T_106.setTop (mkF m 295 #[.val (.int p1), .val (.int p2), .val (.int (5 : Int32)), .val (.ref b_82), .val (.ref b_88), .val (.ref r_99), .val (.int (1 : Int32))] [])) _
      refine XS.iconst X_106.here hx rfl (hb hby at_295) ?_
      show Steps p.tables e below (T_106.setTop (mkF m 296 #[.val (.int p1), .val (.int p2), .val (.int (5 : Int32)), .val (.ref b_82), .val (.ref b_88), .val (.ref r_99), .val (.int (1 : Int32))] [(.int (1 : Int32))])) _
      refine XS.goto X_106.here hx rfl (pc0 := 296) (pc' := 300) rfl (hb hby at_296) (by decide) (by decide) ?_
      show Steps p.tables e below (T_106.setTop (mkF m 300 #[.val (.int p1), .val (.int p2), .val (.int (5 : Int32)), .val (.ref b_82), .val (.ref b_88), .val (.ref r_99), .val (.int (1 : Int32))] [(.int (1 : Int32))])) _
      refine XS.istore X_106.here hx rfl (hb hby at_300) rfl (l' := #[.val (.int p1), .val (.int p2), .val (.int (5 : Int32)), .val (.ref b_82), .val (.ref b_88), .val (.ref r_99), .val (.int (1 : Int32))]) rfl ?_
      show Steps p.tables e below (T_106.setTop (mkF m 302 #[.val (.int p1), .val (.int p2), .val (.int (5 : Int32)), .val (.ref b_82), .val (.ref b_88), .val (.ref r_99), .val (.int (1 : Int32))] [])) _
      refine XS.iload X_106.here hx rfl (hb hby at_302) rfl ?_
      show Steps p.tables e below (T_106.setTop (mkF m 304 #[.val (.int p1), .val (.int p2), .val (.int (5 : Int32)), .val (.ref b_82), .val (.ref b_88), .val (.ref r_99), .val (.int (1 : Int32))] [(.int (1 : Int32))])) _
      exact retN X_106 hx (t := .boolean) Bd.returns (by simp) (hb hby at_304) hr
    · exact ⟨rfl, N_106⟩
set_option maxRecDepth 65536 in
set_option maxHeartbeats 40000000 in
theorem comes_1 {Post : Tables → Env → Array Value → State → Outcome → State → Prop} (hpost : ∀ tb e args s v u, (limb_1_1.after args s (.returned v) u = true ∧ limb_1_2.after args s (.returned v) u = true ∧ True) → FrameEnd s (.returned v) u (Jvm.fieldLocs frame_1_writes args s ++ Jvm.arrayLocs frame_1_arrays args s ++ Jvm.staticLocs frame_1_statics s) 16 128 → Post tb e args s (.returned v) u) :
    ArmFor flags0 classFile x code maxLocals ret World_1 tables_1 room_1 Calls_1 rest_1 Pre_1 Post := by
  intro l hfl _ _ p e ha hc hk s m args below hf hA hF happ hP
  obtain ⟨hcalls, hrest, hpre⟩ := hP
  obtain ⟨-, -, -, hnamed, -, -, -, hat⟩ := (Spec.applies_iff hf).mp happ
  obtain ⟨hg, hn⟩ := and_e (Cond.before_iff.mp (show (Jvm.Cond.and given_1 narrow_1).before args s = true from hpre))
  obtain ⟨g0, r0⟩ := and_e hg
  obtain ⟨g1, r1⟩ := and_e r0
  obtain ⟨w0, w1, rfl⟩ : ∃ w0 w1 : Value, args = #[w0, w1] := by
    have hs : args.size = 2 := by simpa [Cond.value, given_1] using g0
    obtain ⟨L⟩ := args
    match L, hs with
    | [w0, w1], _ => exact ⟨w0, w1, rfl⟩
  have hw := fun d (hd : d ∈ tables_1) => atoms_spec (ws := Jvm.Cond.code x code maxLocals ret :: tables_1) hat d (List.mem_cons_of_mem _ hd)
  obtain ⟨i0, ei0⟩ := is_v g1
  obtain rfl : w0 = (.int i0) := Option.some.inj ei0
  obtain ⟨i1, ei1⟩ := is_v r1
  obtain rfl : w1 = (.int i1) := Option.some.inj ei1
  obtain ⟨n, o, h1, h2, h3, _, L, rfl, ⟨rfl, N⟩, hq⟩ := rm0 l s _ hw tables_1 i0 i1 s.heap s.heap.size (Nat.le_refl _)  p e ha hc hk s m _ below hf ((Spec.applies_iff_loose hf).mp happ).1 ⟨rfl, State.Warmed39.refl s, rfl⟩ trivial
  refine ⟨n, _, h1, h2, h3, hpost _ _ _ _ _ _ ⟨Cond.after_iff.mpr rfl, Cond.after_iff.mpr (eq_i res_at (Term.int_eval (1)) rfl), trivial⟩ ⟨hq.1, hq.2.1, (hq.2.2.sift fun y hy => Or.inr (N y hy)).mono (by decide) (by decide)⟩⟩
theorem main_1_1 : Claimed_1_1 := comes_1 fun _ _ _ _ _ _ h hF => ⟨h.1, hF⟩
theorem main_1_2 : Claimed_1_2 := comes_1 fun _ _ _ _ _ _ h hF => ⟨h.2.1, hF⟩
end Jvm.Pilot.@@N@@
namespace Jvm.Pilot.@@N@@
open Jvm Jvm.ClassFile Sem Op Lib Jvm.Free Jvm.Stand Jvm.Pilot.@@N@@.Jvm.D
/-! MADE BY PROGRAM (witnessworld.py) out of the Statement's table words and the real class files: 9 classes; the members and pool entries that the words name. The judged class is class 1, her method 1. -/
namespace start1
open Jvm.ClassFile
def u (s : String) : CpInfo := .utf8 (stringToUtf16 s)
/-- a pool by its gaps: so many unusable entries, then the entry; so many at the end -/
def gap : Nat → List CpInfo → List CpInfo
  | 0, r => r
  | n + 1, r => .unusable :: gap n r
def poolList (es : List (Nat × CpInfo)) (last : Nat) : List CpInfo := es.foldr (fun e r => gap e.1 (e.2 :: r)) (gap last [])
def pool (es : List (Nat × CpInfo)) (last : Nat) : Array CpInfo := ⟨poolList es last⟩
def fileOf (pool : Array CpInfo) (this : Nat) (attrs : Array Attribute := #[]) (ms : Array MethodInfo := #[]) (fl : Nat := 33) (sup : Nat := 0) (ifs : Array Nat := #[]) (fds : Array FieldInfo := #[]) : ClassFile where
  minorVersion := 0
  majorVersion := 65
  constantPool := pool
  accessFlags := fl
  thisClass := this
  superClass := sup
  interfaces := ifs
  fields := fds
  methods := ms
  attributes := attrs
def plain (name : String) (sup : Option ClassId) : Class where
  name := name
  kind := .ordinary
  loader := none
  accessFlags := 33
  super := sup
  interfaces := #[]
  cf := none
  fields := #[]
  methods := #[]
  instanceTypes := #[]
  staticTypes := #[]
  resolved := #[]
  callSites := []
  init := .initialized
  statics := none
  mirror := none

def pool0 : Array CpInfo := pool [(5, u "<init>"), (0, u "()V"), (1, .class_ 10), (1, u "java/lang/Object")] 113

def k0m0 : Method := { name := "<init>", desc := "()V", sig := { parameters := [], returnType := none }, accessFlags := 1, code := none }
/-- java/lang/Object -/
def k0 : Class := { plain "java/lang/Object" none with
  accessFlags := 33
  interfaces := #[]
  cf := some (fileOf pool0 8 #[] #[{ accessFlags := 1, nameIndex := 5, descriptorIndex := 6, attributes := #[] }] 33 0 #[] #[])
  fields := #[]
  methods := #[k0m0]
  instanceTypes := #[]
  staticTypes := #[]
  resolved := Array.replicate 124 none
  statics := none }

def pool1 : Array CpInfo := pool [(2, .class_ 4), (1, u "java/lang/Object"), (0, u "<init>"), (0, u "()V"), (0, .integer 2147483647), (0, .methodref 9 10), (0, .class_ 11), (0, .nameAndType 12 13), (0, u "com/example/borderwork/borderwork/zarrays/ZArraysToBorderArrayPinLaw"), (0, u "lcp"), (0, u "([III)I"), (0, .methodref 15 16), (0, .class_ 17), (0, .nameAndType 18 19), (0, u "com/example/borderwork/borderwork/zarrays/ZArrays"), (0, u "toBorderArray"), (0, u "([I)[I"), (0, .methodref 9 21), (0, .nameAndType 22 23), (0, u "border"), (0, u "([II)I"), (0, .methodref 9 25), (0, .nameAndType 26 27), (0, u "same"), (0, u "([III)Z"), (2, u "law"), (0, u "(II)Z")] 5

def k1m0 : Method := { name := "<init>", desc := "()V", sig := { parameters := [], returnType := none }, accessFlags := 2, code := none }
def k1c1 : Code := { maxStack := 5, maxLocals := 7, code := code, exceptionTable := #[], attributes := #[] }
def k1m1 : Method := { name := "law", desc := "(II)Z", sig := { parameters := [.int, .int], returnType := some .boolean }, accessFlags := 9, code := some k1c1 }
def k1c2 : Code := { maxStack := 4, maxLocals := 4, code := method_3_code, exceptionTable := #[], attributes := #[] }
def k1m2 : Method := { name := "lcp", desc := "([III)I", sig := { parameters := [(.array .int), .int, .int], returnType := some .int }, accessFlags := 10, code := some k1c2 }
def k1c3 : Code := { maxStack := 4, maxLocals := 3, code := method_4_code, exceptionTable := #[], attributes := #[] }
def k1m3 : Method := { name := "same", desc := "([III)Z", sig := { parameters := [(.array .int), .int, .int], returnType := some .boolean }, accessFlags := 10, code := some k1c3 }
def k1c4 : Code := { maxStack := 3, maxLocals := 3, code := method_5_code, exceptionTable := #[], attributes := #[] }
def k1m4 : Method := { name := "border", desc := "([II)I", sig := { parameters := [(.array .int), .int], returnType := some .int }, accessFlags := 10, code := some k1c4 }
/-- com/example/borderwork/borderwork/zarrays/ZArraysToBorderArrayPinLaw -/
def k1 : Class := { plain "com/example/borderwork/borderwork/zarrays/ZArraysToBorderArrayPinLaw" (some 0) with
  accessFlags := 49
  interfaces := #[]
  cf := some (fileOf pool1 9 #[] #[{ accessFlags := 2, nameIndex := 5, descriptorIndex := 6, attributes := #[] }, { accessFlags := 9, nameIndex := 30, descriptorIndex := 31, attributes := #[] }, { accessFlags := 10, nameIndex := 12, descriptorIndex := 13, attributes := #[] }, { accessFlags := 10, nameIndex := 26, descriptorIndex := 27, attributes := #[] }, { accessFlags := 10, nameIndex := 22, descriptorIndex := 23, attributes := #[] }] 49 2 #[] #[])
  fields := #[]
  methods := #[k1m0, k1m1, k1m2, k1m3, k1m4]
  instanceTypes := #[]
  staticTypes := #[]
  resolved := Array.replicate 37 none
  statics := none }

def pool2 : Array CpInfo := pool [(2, .class_ 4), (1, u "java/lang/Object"), (0, u "<init>"), (0, u "()V"), (33, .class_ 42), (1, u "com/example/borderwork/borderwork/zarrays/ZArrays"), (1, u "([I)[I"), (10, u "toBorderArray")] 25

def k2m0 : Method := { name := "<init>", desc := "()V", sig := { parameters := [], returnType := none }, accessFlags := 2, code := none }
def k2c1 : Code := { maxStack := 6, maxLocals := 6, code := prog_20_method_8_code, exceptionTable := #[], attributes := #[] }
def k2m1 : Method := { name := "toBorderArray", desc := "([I)[I", sig := { parameters := [(.array .int)], returnType := some (.array .int) }, accessFlags := 9, code := some k2c1 }
/-- com/example/borderwork/borderwork/zarrays/ZArrays -/
def k2 : Class := { plain "com/example/borderwork/borderwork/zarrays/ZArrays" (some 0) with
  accessFlags := 49
  interfaces := #[]
  cf := some (fileOf pool2 40 #[] #[{ accessFlags := 2, nameIndex := 5, descriptorIndex := 6, attributes := #[] }, { accessFlags := 9, nameIndex := 55, descriptorIndex := 44, attributes := #[] }] 49 2 #[] #[])
  fields := #[]
  methods := #[k2m0, k2m1]
  instanceTypes := #[]
  staticTypes := #[]
  resolved := Array.replicate 81 none
  statics := none }

def pool3 : Array CpInfo := pool [(1, u "java/lang/Cloneable"), (0, .class_ 1), (0, u "java/lang/Object"), (0, .class_ 3)] 3

/-- java/lang/Cloneable -/
def k3 : Class := { plain "java/lang/Cloneable" (some 0) with
  accessFlags := 1537
  interfaces := #[]
  cf := some (fileOf pool3 2 #[] #[] 1537 4 #[] #[])
  fields := #[]
  methods := #[]
  instanceTypes := #[]
  staticTypes := #[]
  resolved := Array.replicate 8 none
  statics := none }

def pool4 : Array CpInfo := pool [(1, u "java/io/Serializable"), (0, .class_ 1), (0, u "java/lang/Object"), (0, .class_ 3)] 3

/-- java/io/Serializable -/
def k4 : Class := { plain "java/io/Serializable" (some 0) with
  accessFlags := 1537
  interfaces := #[]
  cf := some (fileOf pool4 2 #[] #[] 1537 4 #[] #[])
  fields := #[]
  methods := #[]
  instanceTypes := #[]
  staticTypes := #[]
  resolved := Array.replicate 8 none
  statics := none }

/-- the primitive byte -/
def k5 : Class := { plain "byte" none with kind := .primitive 'B', accessFlags := 0x411 }
/-- [B -/
def k6 : Class := { plain "[B" (some 0) with kind := .array 5 .byte, interfaces := #[3, 4], accessFlags := 1041 }

/-- the primitive int -/
def k7 : Class := { plain "int" none with kind := .primitive 'I', accessFlags := 0x411 }
/-- [I -/
def k8 : Class := { plain "[I" (some 0) with kind := .array 7 .int, interfaces := #[3, 4], accessFlags := 1041 }

def heap : Heap := #[]
def classes : Array Class := #[k0, k1, k2, k3, k4, k5, k6, k7, k8]
def interned : List (Array UInt16 × Addr) := []
def slotsUsed : Nat := 0
def theMethod : MethodId := ⟨1, 1⟩
def args0 : Array Value := #[.int 5, .int 1234]
def aboutOver (below : List Frame) : State where
  vm := { classes := classes, interned := interned.toArray }
  heap := heap
  slotsUsed := slotsUsed
  threads := #[{ frames := .invoking theMethod args0 :: below }]
def below0 : List Frame := [.native { method := ⟨0, 0⟩, args := #[] }]
def about1 : State := aboutOver below0
def p0 : Program := .bare "" "" ""
def e0 : Env := launch0.env 0 0 0
theorem w_frames : about1.frames = Frame.invoking theMethod args0 :: below0 := rfl
set_option maxRecDepth 65536 in
theorem w_args : argsFit about1.vm theMethod args0 = true := by decide +kernel
set_option maxRecDepth 65536 in
theorem w_heap : heapFits about1 = true := by decide +kernel
set_option maxRecDepth 65536 in
theorem w_runnable : about1.curStatus? = some .runnable := by decide +kernel
set_option maxRecDepth 65536 in
theorem w_alone : about1.alone = true := by decide +kernel
set_option maxRecDepth 65536 in
theorem w_named : about1.methodNamed? x = some theMethod := by decide +kernel
set_option maxRecDepth 65536 in
theorem w_hears : about1.hears theMethod below0 = true := by decide +kernel
set_option maxRecDepth 65536 in
theorem w_ripe : about1.ripe theMethod args0 below0 = true := by decide +kernel
theorem w_running : about1.status = .running := rfl
set_option maxRecDepth 65536 in
theorem w_room : about1.hasRoom e0.platform room_1 = true :=
  launch0.hasRoom_least _ room_1 (by decide +kernel) (by decide +kernel) (by decide +kernel) (by decide +kernel) (by decide +kernel) (by decide +kernel)
theorem allAtoms_all (ts : List Jvm.Cond) (a : Array Jvm.Value) (st : Jvm.State) : (allAtoms ts).before a st = ts.all (fun c => c.before a st) := by
  induction ts with
  | nil => rfl
  | cons c t ih =>
    show (Jvm.Cond.and c (allAtoms t)).before a st = _
    rw [Jvm.Cond.before_and, ih, List.all_cons]
def words1 : List Jvm.Cond := Jvm.Cond.code x code maxLocals ret :: tables_1
/-- a 'code' word, met by the world's own term for the bytes: nothing is compared byte by byte -/
theorem code_word {y : MethodName} {bytes : ByteArray} {mx : Nat} {rt : Option FieldType} {a : Array Value} {s : State} {m : MethodId} {meth : Method} {c : Code} (h1 : s.methodNamed? y = some m) (h2 : s.vm.method? m = some meth) (h3 : meth.code = some c) (h4 : c.code = bytes)
    (h5 : (c.maxLocals == mx && c.exceptionTable.isEmpty && decide (c.maxStack ≤ mostOperands) && decide (meth.sig.returnType = rt) && !meth.locks && decide (parseMethodDescriptor y.desc = some meth.sig)) = true) : (Jvm.Cond.code y bytes mx rt).before a s = true := by
  simp only [Bool.and_eq_true, beq_iff_eq, Bool.not_eq_true', decide_eq_true_eq] at h5
  obtain ⟨⟨⟨⟨⟨g1, g2⟩, g3⟩, g4⟩, g5⟩, g6⟩ := h5
  simp [Cond.before, Cond.holds, Cond.value, h1, h2, h3, h4, g1, g2, g3, g4, g5, g6]
def isCode : Jvm.Cond → Bool
  | .code _ _ _ _ => true
  | _ => false
theorem all_split {L : List Jvm.Cond} {P : Jvm.Cond → Bool} (h1 : L.all (fun c => isCode c || P c) = true) (h2 : ∀ c ∈ L.filter isCode, P c = true) : L.all P = true := by
  refine List.all_eq_true.mpr fun c hc => ?_
  have h := List.all_eq_true.mp h1 c hc
  rcases Bool.eq_false_or_eq_true (isCode c) with hi | hi
  · exact h2 c (List.mem_filter.mpr ⟨hc, hi⟩)
  · simpa [hi] using h
set_option maxRecDepth 65536 in
theorem w_c0 : (Jvm.Cond.code x code maxLocals ret).before args0 about1 = true := code_word (m := ⟨1, 1⟩) (meth := k1m1) (c := k1c1) (by decide +kernel) rfl rfl rfl (by decide +kernel)
set_option maxRecDepth 65536 in
theorem w_c1 : (Jvm.Cond.code ({ cls := "com/example/borderwork/borderwork/zarrays/ZArrays", name := "toBorderArray", desc := "([I)[I" } : Jvm.MethodName) prog_20_method_8_code (6 : Nat) (Option.some (Jvm.ClassFile.FieldType.array Jvm.ClassFile.FieldType.int))).before args0 about1 = true := code_word (m := ⟨2, 1⟩) (meth := k2m1) (c := k2c1) (by decide +kernel) rfl rfl rfl (by decide +kernel)
set_option maxRecDepth 65536 in
theorem w_c2 : (Jvm.Cond.code ({ cls := "com/example/borderwork/borderwork/zarrays/ZArraysToBorderArrayPinLaw", name := "lcp", desc := "([III)I" } : Jvm.MethodName) method_3_code (4 : Nat) (Option.some Jvm.ClassFile.FieldType.int)).before args0 about1 = true := code_word (m := ⟨1, 2⟩) (meth := k1m2) (c := k1c2) (by decide +kernel) rfl rfl rfl (by decide +kernel)
set_option maxRecDepth 65536 in
theorem w_c3 : (Jvm.Cond.code ({ cls := "com/example/borderwork/borderwork/zarrays/ZArraysToBorderArrayPinLaw", name := "border", desc := "([II)I" } : Jvm.MethodName) method_5_code (3 : Nat) (Option.some Jvm.ClassFile.FieldType.int)).before args0 about1 = true := code_word (m := ⟨1, 4⟩) (meth := k1m4) (c := k1c4) (by decide +kernel) rfl rfl rfl (by decide +kernel)
set_option maxRecDepth 65536 in
theorem w_c4 : (Jvm.Cond.code ({ cls := "com/example/borderwork/borderwork/zarrays/ZArraysToBorderArrayPinLaw", name := "same", desc := "([III)Z" } : Jvm.MethodName) method_4_code (3 : Nat) (Option.some Jvm.ClassFile.FieldType.boolean)).before args0 about1 = true := code_word (m := ⟨1, 3⟩) (meth := k1m3) (c := k1c3) (by decide +kernel) rfl rfl rfl (by decide +kernel)
def codes1 : List Jvm.Cond := [Jvm.Cond.code x code maxLocals ret, Jvm.Cond.code ({ cls := "com/example/borderwork/borderwork/zarrays/ZArrays", name := "toBorderArray", desc := "([I)[I" } : Jvm.MethodName) prog_20_method_8_code (6 : Nat) (Option.some (Jvm.ClassFile.FieldType.array Jvm.ClassFile.FieldType.int)), Jvm.Cond.code ({ cls := "com/example/borderwork/borderwork/zarrays/ZArraysToBorderArrayPinLaw", name := "lcp", desc := "([III)I" } : Jvm.MethodName) method_3_code (4 : Nat) (Option.some Jvm.ClassFile.FieldType.int), Jvm.Cond.code ({ cls := "com/example/borderwork/borderwork/zarrays/ZArraysToBorderArrayPinLaw", name := "border", desc := "([II)I" } : Jvm.MethodName) method_5_code (3 : Nat) (Option.some Jvm.ClassFile.FieldType.int), Jvm.Cond.code ({ cls := "com/example/borderwork/borderwork/zarrays/ZArraysToBorderArrayPinLaw", name := "same", desc := "([III)Z" } : Jvm.MethodName) method_4_code (3 : Nat) (Option.some Jvm.ClassFile.FieldType.boolean)]
set_option maxRecDepth 65536 in
theorem codes_eq : words1.filter isCode = codes1 := rfl
theorem w_codes : ∀ c ∈ words1.filter isCode, c.before args0 about1 = true := by
  rw [codes_eq]
  intro c hc
  simp only [codes1, List.mem_cons, List.not_mem_nil, or_false] at hc
  rcases hc with rfl | rfl | rfl | rfl | rfl
  · exact w_c0
  · exact w_c1
  · exact w_c2
  · exact w_c3
  · exact w_c4
set_option maxRecDepth 65536 in
theorem w_t1 : words1.all (fun c => isCode c || c.before args0 about1) = true := by decide +kernel
theorem w_tables : (allAtoms (Jvm.Cond.code x code maxLocals ret :: tables_1)).before args0 about1 = true := by
  rw [allAtoms_all]
  show words1.all (fun c => c.before args0 about1) = true
  refine all_split ?_ w_codes
  rw [w_t1]
set_option maxRecDepth 65536 in
theorem w_case : (Jvm.Cond.and given_1 narrow_1).before args0 about1 = true := by decide +kernel
theorem w_applies : (headSpec (Jvm.Cond.code x code maxLocals ret :: tables_1) room_1).applies x e0.platform about1 = true :=
  (Spec.applies_iff w_frames).mpr ⟨w_running, w_runnable, w_alone, w_named, w_hears, w_ripe, w_room, w_tables⟩
theorem atStart : AtStart classFile x code maxLocals ret World_1 tables_1 room_1 Calls_1 rest_1 Pre_1 launch0 p0 e0 about1 theMethod args0 below0 :=
  ⟨lists_1, trivial, launch0.admits_env _ _ _, launch0.least_env, fairChoices_fair.cas, fairChoices_fair.clock, w_frames, w_args, w_heap, w_applies, trivial, trivial, w_case⟩
end start1
theorem witness_1 : WitnessClaimed_1 := ⟨start1.p0, start1.e0, start1.about1, start1.theMethod, start1.args0, start1.below0, start1.atStart⟩
end Jvm.Pilot.@@N@@
