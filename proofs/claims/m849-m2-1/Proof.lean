import JvmDerived
import JvmDerived.Pilot.@@N@@Statement
import JvmDerived.Pilot.@@N@@Code
set_option linter.unusedVariables false
set_option linter.unusedSimpArgs false

namespace Jvm.Pilot.@@N@@
open Jvm Jvm.ClassFile Sem Op Lib Jvm.Free Jvm.Stand Jvm.LawKit Jvm.RoadKit Bundle Jvm.Pilot.@@N@@.Jvm.D
/-- the run from A comes to a state of which P holds -/
def own_Go (tb : Tables) (e : Env) (below : List Frame) (P : State → Prop) (A : State) : Prop := ∃ U, Steps tb e below A U ∧ P U
theorem own_go {tb : Tables} {e : Env} {below : List Frame} {P : State → Prop} {A B : State} (h : ∀ t, Steps tb e below B t → Steps tb e below A t) (k : own_Go tb e below P B) : own_Go tb e below P A := by
  obtain ⟨U, h1, h2⟩ := k; exact ⟨U, h U h1, h2⟩
theorem own_goT {tb : Tables} {e : Env} {below : List Frame} {P : State → Prop} {A B : State} (h : Steps tb e below A B) (k : own_Go tb e below P B) : own_Go tb e below P A := by
  obtain ⟨U, h1, h2⟩ := k; exact ⟨U, h.trans h1, h2⟩
/-- the body's end: it returned, and Q says of what -/
def own_End (s : State) (below : List Frame) (Q : Option Value → Heap → List Loc → Prop) (cells slots : Nat) (t : State) : Prop := ∃ o, t.status = .running ∧ Ended t below o ∧ ∃ v L, o = .returned v ∧ Q v t.heap L ∧ FrameEnd s o t L cells slots
theorem own_body {tb : Tables} {e : Env} {below : List Frame} {s A : State} {Q : Option Value → Heap → List Loc → Prop} {cells slots : Nat} (k : own_Go tb e below (own_End s below Q cells slots) A) :
    ∃ s₂ o, Steps tb e below A s₂ ∧ s₂.status = .running ∧ Ended s₂ below o ∧ ∃ v L, o = .returned v ∧ Q v s₂.heap L ∧ FrameEnd s o s₂ L cells slots := by
  obtain ⟨U, h1, o, h2, h3, h4⟩ := k; exact ⟨U, o, h1, h2, h3, h4⟩
theorem own_ret {p : Program} {l : Launch} {e : Env} {R : Room} {s : State} {m : MethodId} {args : Array Value} {below : List Frame} {meth : Method} {c : Code} {T A : State} {locs : List Loc} {cells slots : Nat} {Q : Option Value → Heap → List Loc → Prop} {cs ss : Nat}
    (X : Stand p l e R s m args below meth c T locs cells slots) (hlk : meth.locks = false) {v : Option Value} (hv : meth.sig.returnType = none → v = none)
    (hst : ∀ fs : List Frame, (∀ (f : JFrame) (acts : List Action), f.method = m → f.locked = none → f.entered = [] → (doReturn e (T.setTop f) acts v).1 = T.setFrames fs) → Steps p.tables e below A (T.setFrames fs))
    (hQ : Q v T.heap locs) (hc : cells ≤ cs) (hs : slots ≤ ss) : own_Go p.tables e below (own_End s below Q cs ss) A := by
  obtain ⟨fs, hr, hrun, hended, hW, hsame⟩ := X.leave (v := v) hv hlk
  exact ⟨_, hst fs hr, _, hrun, hended, _, _, rfl, hQ, ⟨_, rfl⟩, hW, hsame.mono hc hs⟩
theorem own_ef (m : MethodId) (as : Array Value) (n : Nat) (Ls : Array Slot) (h : argsToLocals as n = Ls) : entryFrame m as n = mkF m 0 Ls [] := by rw [← h]; rfl
/-- a body's contract in this family -/
abbrev own_Met (l : Launch) (Z : State) (ws : List Jvm.Cond) (y : MethodName) (bytes : ByteArray) (maxL : Nat) (ret : Option FieldType) (rm : Room) (as : Array Value) (h0 : Heap) (Q : Option Value → Heap → List Loc → Prop) : Prop :=
  MetFree l y (head1 (Jvm.Cond.code y bytes maxL ret :: ws) rm) (fun a U => a = as ∧ Z.Warmed39 U.vm ∧ U.heap = h0) (fun _ _ _ _ _ => True) (fun _ U o U' => ∃ v L, o = .returned v ∧ Q v U'.heap L ∧ FrameEnd U o U' L rm.cells rm.slots)
theorem own_sta_keep {Z : State} {h h' : Heap} {C n d : String} {v : Value} {ws : List Addr} (F : Sta Z h C n d v) (K : Keep h h' ws) (q : ∀ a ∈ ws, ∃ C', Exa Z h a C') : Sta Z h' C n d v := by
  obtain ⟨cf, i, k, f, st, cell, h1, h2, h3, h4, h5, h6, h7⟩ := F
  refine ⟨cf, i, k, f, st, cell, h1, h2, h3, h4, K.2.1 st cell h5 fun hm => ?_, h6, h7⟩
  obtain ⟨C', cell', k', e1, -, -, e4, -⟩ := q st hm
  cases h5.symm.trans e1
  rw [e4] at h6; cases h6
theorem own_back {p : Program} {l : Launch} {e : Env} {R : Room} {s : State} {args : Array Value} {below : List Frame} {Z : State} {a0 : Array Value} {h : Heap} {y : MethodName} {bytes : ByteArray} {maxL : Nat} {ret : Option FieldType} {rm : Room} {len W : Nat} {as' : Array Value} {Q : Option Value → Heap → List Loc → Prop}
    (hM : own_Met l Z [] y bytes maxL ret rm as' h Q) (hZ : Z.Warmed39 s.vm) (wc : (Cond.code y bytes maxL ret).before a0 Z = true) (wz : (Cond.initialized y.cls).before a0 Z = true) (hf : rm.frames + 1 ≤ R.frames) (hl : W + (maxL + 11) + rm.locals ≤ R.locals) :
    Back l R p e below s args y len W (fun A a => a = as' ∧ A.U.heap = h ∧ A.cells + rm.cells ≤ R.cells ∧ A.slots + rm.slots ≤ R.slots)
      (fun A _ v B => ∃ L, Q v B.U.heap L ∧ B.locs = A.locs ++ L ∧ B.cells = A.cells + rm.cells ∧ B.slots = A.slots + rm.slots) :=
  backOf (Q := Q) hM hZ wc wz hf hl
theorem own_hp {T : State} {h : Heap} {a : Addr} {cl : Cell} (eT : T.heap = h) (h1 : h[a]? = some cl) : T.heap[a]? = some cl := by rw [eT]; exact h1
def own_asl : List Value → List Slot
  | [] => []
  | v :: r => if v.category = 2 then .val v :: .second :: own_asl r else .val v :: own_asl r
def own_apu (acc : Array Slot) (v : Value) : Array Slot := if v.category = 2 then (acc.push (.val v)).push .second else acc.push (.val v)
theorem own_al1 (l : List Value) (a : Array Slot) : (l.foldl own_apu a).toList = a.toList ++ own_asl l := by
  induction l generalizing a with
  | nil => simp [own_asl]
  | cons v r ih =>
    rw [List.foldl_cons, ih]
    by_cases h : v.category = 2 <;> simp [own_asl, own_apu, h]
theorem own_al (l : List Value) (n : Nat) (L : List Slot) (h : own_asl l ++ List.replicate (n - (own_asl l).length) .unset = L) : argsToLocals l.toArray n = L.toArray := by
  have q : argsToLocals l.toArray n = l.foldl own_apu #[] ++ Array.replicate (n - (l.foldl own_apu #[]).size) .unset := by
    rw [← List.foldl_toArray]; rfl
  have k := own_al1 l #[]
  rw [q, ← h]
  apply Array.toList_inj.mp
  rw [Array.toList_append, k, ← Array.length_toList, k]; simp

def own_av (zd zn : Int32) : UInt64 := if zd = 0 then 0 else FP.ddiv (FP.i2d zn) (FP.i2d zd)
def own_avN (d q r : Nat) : UInt64 := FP.ddiv (FP.i2d (Int32.ofNat (d * q + r))) (FP.i2d (Int32.ofNat d))
def own_mN (k : Nat) : UInt64 := FP.dmul (FP.i2d (Int32.ofNat k)) 4598175219545276416
def own_pN (q k : Nat) : UInt64 := FP.dadd (FP.i2d (Int32.ofNat q)) (own_mN k)
def own_nn64 (x : UInt64) : Bool := decide (x &&& 0x7fffffffffffffff ≤ 0x7ff0000000000000)
def own_okA (d q r : Nat) (a : UInt64) : Bool := own_nn64 a && (List.range 5).all fun k => let p := own_pN q k
  if 4 * r < k * d then decide (cmpValue (FP.dcmp a p) .g = -1) else if 4 * r = k * d then decide (cmpValue (FP.dcmp a p) .l = 0) else decide (cmpValue (FP.dcmp p a) .g = -1)
theorem own_all1 : ((List.range 5).all fun k => own_nn64 (own_mN k) && (List.range 64).all fun q => own_nn64 (own_pN q k)) = true := by decide +kernel
theorem own_all2 : ((List.range 8).all fun d => (List.range 64).all fun q => (List.range d).all fun r => own_okA d q r (own_avN d q r)) = true := by decide +kernel
theorem own_nat {x : Int32} {N : Nat} (h1 : 0 ≤ x.toInt) (h2 : x.toInt < N) (hN : N ≤ 1000) : ∃ n : Nat, x = Int32.ofNat n ∧ n < N ∧ (n : Int) = x.toInt := by
  refine ⟨x.toInt.toNat, ?_, by omega, by omega⟩
  apply Int32.toInt_inj.mp
  rw [Int32.toInt_ofNat_small (by omega)]; omega
theorem own_d (x : Int32) : 0 ≤ (x &&& 7).toInt ∧ (x &&& 7).toInt < 8 := by
  have h := c_mask x 7 3 (by decide) (by decide); omega
theorem own_q (x : Int32) : 0 ≤ (x &&& 63).toInt ∧ (x &&& 63).toInt < 64 := by
  have h := c_mask x 63 6 (by decide) (by decide); omega
theorem own_k (x : Int32) : 0 ≤ ((x &&& 2147483647) % 5).toInt ∧ ((x &&& 2147483647) % 5).toInt < 5 := by
  have h := c_mask x 2147483647 31 (by decide) (by decide)
  have h2 := (c_irem (x &&& 2147483647) 5 5 rfl).1 (by omega); omega
theorem own_r {d : Int32} (x : Int32) (h1 : 0 ≤ d.toInt) (h0 : ¬ d = 0) : 0 ≤ ((x &&& 2147483647) % d).toInt ∧ ((x &&& 2147483647) % d).toInt < d.toInt := by
  have h := c_mask x 2147483647 31 (by decide) (by decide)
  have e0 : (0 : Int32).toInt = 0 := rfl
  rw [← Int32.toInt_inj, e0] at h0
  have b := (c_iremV (x &&& 2147483647) d).1 (by omega) (by omega); omega
theorem own_n {d q r : Int32} (d1 : 0 ≤ d.toInt) (d2 : d.toInt < 8) (q1 : 0 ≤ q.toInt) (q2 : q.toInt < 64) (r1 : 0 ≤ r.toInt) (r2 : r.toInt < d.toInt) : 0 ≤ (d * q + r).toInt ∧ (d * q + r).toInt ≤ 447 := by
  obtain ⟨m, rfl, hm, em⟩ := own_nat (N := 8) d1 d2 (by decide)
  have a := c_imul (Int32.ofNat m) q; have ra := rng32 (Int32.ofNat m * q); have b := c_iadd (Int32.ofNat m * q) r; have rb := rng32 (Int32.ofNat m * q + r)
  rw [← em] at a r2
  have : m = 0 ∨ m = 1 ∨ m = 2 ∨ m = 3 ∨ m = 4 ∨ m = 5 ∨ m = 6 ∨ m = 7 := by omega
  generalize (Int32.ofNat m * q).toInt = u at a ra b
  generalize (Int32.ofNat m * q + r).toInt = w at b rb ⊢
  have hmq : 0 ≤ (m : Int) * q.toInt ∧ (m : Int) * q.toInt ≤ 441 := by
    rcases this with rfl | rfl | rfl | rfl | rfl | rfl | rfl | rfl <;> omega
  generalize (m : Int) * q.toInt = z at a hmq
  have hu : u = z := by omega
  subst hu
  omega
theorem own_d1 {d : Int32} (d1 : 0 ≤ d.toInt) (d2 : d.toInt < 8) : ¬ d + 1 < 0 ∧ (d + 1).toNatClampNeg ≤ 8 ∧ ¬ d < 0 ∧ d.toNatClampNeg ≤ 7 := by
  have a := c_iadd d 1; have r := rng32 (d + 1); have e1 : (1 : Int32).toInt = 1 := rfl
  have e0 : (0 : Int32).toInt = 0 := rfl
  simp only [Int32.lt_iff_toInt_lt, e0, Int32.toNatClampNeg]; omega
theorem own_n1 {n : Int32} (d1 : 0 ≤ n.toInt) (d2 : n.toInt ≤ 447) : ¬ n < 0 ∧ n.toNatClampNeg ≤ 447 := by
  have e0 : (0 : Int32).toInt = 0 := rfl
  simp only [Int32.lt_iff_toInt_lt, e0, Int32.toNatClampNeg]; omega
theorem own_sm {n : Nat} (h : n < 1000) : (Int32.ofNat n).toInt = n := Int32.toInt_ofNat_small (by omega)
theorem own_fin {d q r k : Int32} (d1 : 0 ≤ d.toInt) (d2 : d.toInt < 8) (q1 : 0 ≤ q.toInt) (q2 : q.toInt < 64) (r1 : 0 ≤ r.toInt) (r2 : r.toInt < d.toInt) (k1 : 0 ≤ k.toInt) (k2 : k.toInt < 5) :
    Jvm.Free.Fl.NoNaN64 (FP.ddiv (FP.i2d (d * q + r)) (FP.i2d d)) ∧ Jvm.Free.Fl.NoNaN64 (FP.dmul (FP.i2d k) 4598175219545276416) ∧ Jvm.Free.Fl.NoNaN64 (FP.dadd (FP.i2d q) (FP.dmul (FP.i2d k) 4598175219545276416)) ∧
    (4 * r < k * d → cmpValue (FP.dcmp (FP.ddiv (FP.i2d (d * q + r)) (FP.i2d d)) (FP.dadd (FP.i2d q) (FP.dmul (FP.i2d k) 4598175219545276416))) .g = -1) ∧
    (4 * r = k * d → cmpValue (FP.dcmp (FP.ddiv (FP.i2d (d * q + r)) (FP.i2d d)) (FP.dadd (FP.i2d q) (FP.dmul (FP.i2d k) 4598175219545276416))) .l = 0) ∧
    (¬ 4 * r < k * d → ¬ 4 * r = k * d → cmpValue (FP.dcmp (FP.dadd (FP.i2d q) (FP.dmul (FP.i2d k) 4598175219545276416)) (FP.ddiv (FP.i2d (d * q + r)) (FP.i2d d))) .g = -1) := by
  obtain ⟨D, rfl, hD, eD⟩ := own_nat (N := 8) d1 d2 (by decide)
  obtain ⟨Q, rfl, hQ, eQ⟩ := own_nat (N := 64) q1 q2 (by decide)
  obtain ⟨R, rfl, hR, eR⟩ := own_nat (x := r) (N := 8) r1 (by omega) (by decide)
  obtain ⟨K, rfl, hK, eK⟩ := own_nat (N := 5) k1 k2 (by decide)
  have hRD : R < D := by omega
  have a1 := List.all_eq_true.mp own_all1 K (List.mem_range.mpr hK)
  rw [Bool.and_eq_true] at a1
  have a2 := List.all_eq_true.mp a1.2 Q (List.mem_range.mpr hQ)
  have b1 := List.all_eq_true.mp (List.all_eq_true.mp (List.all_eq_true.mp own_all2 D (List.mem_range.mpr hD)) Q (List.mem_range.mpr hQ)) R (List.mem_range.mpr hRD)
  simp only [own_okA, Bool.and_eq_true] at b1
  have b2 := List.all_eq_true.mp b1.2 K (List.mem_range.mpr hK)
  have en : Int32.ofNat D * Int32.ofNat Q + Int32.ofNat R = Int32.ofNat (D * Q + R) := by rw [← Int32.ofNat_mul, ← Int32.ofNat_add]
  have e4 : (4 : Int32) * Int32.ofNat R = Int32.ofNat (4 * R) := by rw [Int32.ofNat_mul]; rfl
  have ek : Int32.ofNat K * Int32.ofNat D = Int32.ofNat (K * D) := by rw [← Int32.ofNat_mul]
  have hKD : K * D < 1000 := by have : K * D ≤ 5 * 8 := Nat.mul_le_mul (by omega) (by omega); omega
  have lt_iff : (4 : Int32) * Int32.ofNat R < Int32.ofNat K * Int32.ofNat D ↔ 4 * R < K * D := by
    rw [e4, ek, Int32.lt_iff_toInt_lt, own_sm (by omega), own_sm hKD]; omega
  have eq_iff : (4 : Int32) * Int32.ofNat R = Int32.ofNat K * Int32.ofNat D ↔ 4 * R = K * D := by
    rw [e4, ek, ← Int32.toInt_inj, own_sm (by omega), own_sm hKD]; omega
  rw [en, lt_iff, eq_iff]
  refine ⟨of_decide_eq_true b1.1, of_decide_eq_true a1.1, of_decide_eq_true a2, fun h => ?_, fun h => ?_, fun h h' => ?_⟩
  · rw [if_pos h] at b2; exact of_decide_eq_true b2
  · rw [if_neg (by omega), if_pos h] at b2; exact of_decide_eq_true b2
  · rw [if_neg h, if_neg h'] at b2; exact of_decide_eq_true b2
theorem own_d8_0 : decode jdk_33_method_47_code 0 = .ok (.iload_n 0, 1) := by decide +kernel
theorem own_d8_1 : decode jdk_33_method_47_code 1 = .ok (.ifCond .gt 14, 3) := by decide +kernel
theorem own_d8_4 : decode jdk_33_method_47_code 4 = .ok (.iload_n 0, 1) := by decide +kernel
theorem own_d8_5 : decode jdk_33_method_47_code 5 = .ok (.ifCond .ne 8, 3) := by decide +kernel
theorem own_d8_8 : decode jdk_33_method_47_code 8 = .ok (.bipush 32, 2) := by decide +kernel
theorem own_d8_10 : decode jdk_33_method_47_code 10 = .ok (.goto 4, 3) := by decide +kernel
theorem own_d8_13 : decode jdk_33_method_47_code 13 = .ok (.iconst 0, 1) := by decide +kernel
theorem own_d8_14 : decode jdk_33_method_47_code 14 = .ok (.ireturn, 1) := by decide +kernel
theorem own_d8_15 : decode jdk_33_method_47_code 15 = .ok (.bipush 31, 2) := by decide +kernel
theorem own_d8_17 : decode jdk_33_method_47_code 17 = .ok (.istore_n 1, 1) := by decide +kernel
theorem own_d8_18 : decode jdk_33_method_47_code 18 = .ok (.iload_n 0, 1) := by decide +kernel
theorem own_d8_19 : decode jdk_33_method_47_code 19 = .ok (.ldc_w 264, 3) := by decide +kernel
theorem own_d8_22 : decode jdk_33_method_47_code 22 = .ok (.if_icmp .lt 11, 3) := by decide +kernel
theorem own_d8_25 : decode jdk_33_method_47_code 25 = .ok (.iinc 1 (-16), 3) := by decide +kernel
theorem own_d8_28 : decode jdk_33_method_47_code 28 = .ok (.iload_n 0, 1) := by decide +kernel
theorem own_d8_29 : decode jdk_33_method_47_code 29 = .ok (.bipush 16, 2) := by decide +kernel
theorem own_d8_31 : decode jdk_33_method_47_code 31 = .ok (.iushr, 1) := by decide +kernel
theorem own_d8_32 : decode jdk_33_method_47_code 32 = .ok (.istore_n 0, 1) := by decide +kernel
theorem own_d8_33 : decode jdk_33_method_47_code 33 = .ok (.iload_n 0, 1) := by decide +kernel
theorem own_d8_34 : decode jdk_33_method_47_code 34 = .ok (.sipush 256, 3) := by decide +kernel
theorem own_d8_37 : decode jdk_33_method_47_code 37 = .ok (.if_icmp .lt 11, 3) := by decide +kernel
theorem own_d8_40 : decode jdk_33_method_47_code 40 = .ok (.iinc 1 (-8), 3) := by decide +kernel
theorem own_d8_43 : decode jdk_33_method_47_code 43 = .ok (.iload_n 0, 1) := by decide +kernel
theorem own_d8_44 : decode jdk_33_method_47_code 44 = .ok (.bipush 8, 2) := by decide +kernel
theorem own_d8_46 : decode jdk_33_method_47_code 46 = .ok (.iushr, 1) := by decide +kernel
theorem own_d8_47 : decode jdk_33_method_47_code 47 = .ok (.istore_n 0, 1) := by decide +kernel
theorem own_d8_48 : decode jdk_33_method_47_code 48 = .ok (.iload_n 0, 1) := by decide +kernel
theorem own_d8_49 : decode jdk_33_method_47_code 49 = .ok (.bipush 16, 2) := by decide +kernel
theorem own_d8_51 : decode jdk_33_method_47_code 51 = .ok (.if_icmp .lt 10, 3) := by decide +kernel
theorem own_d8_54 : decode jdk_33_method_47_code 54 = .ok (.iinc 1 (-4), 3) := by decide +kernel
theorem own_d8_57 : decode jdk_33_method_47_code 57 = .ok (.iload_n 0, 1) := by decide +kernel
theorem own_d8_58 : decode jdk_33_method_47_code 58 = .ok (.iconst 4, 1) := by decide +kernel
theorem own_d8_59 : decode jdk_33_method_47_code 59 = .ok (.iushr, 1) := by decide +kernel
theorem own_d8_60 : decode jdk_33_method_47_code 60 = .ok (.istore_n 0, 1) := by decide +kernel
theorem own_d8_61 : decode jdk_33_method_47_code 61 = .ok (.iload_n 0, 1) := by decide +kernel
theorem own_d8_62 : decode jdk_33_method_47_code 62 = .ok (.iconst 4, 1) := by decide +kernel
theorem own_d8_63 : decode jdk_33_method_47_code 63 = .ok (.if_icmp .lt 10, 3) := by decide +kernel
theorem own_d8_66 : decode jdk_33_method_47_code 66 = .ok (.iinc 1 (-2), 3) := by decide +kernel
theorem own_d8_69 : decode jdk_33_method_47_code 69 = .ok (.iload_n 0, 1) := by decide +kernel
theorem own_d8_70 : decode jdk_33_method_47_code 70 = .ok (.iconst 2, 1) := by decide +kernel
theorem own_d8_71 : decode jdk_33_method_47_code 71 = .ok (.iushr, 1) := by decide +kernel
theorem own_d8_72 : decode jdk_33_method_47_code 72 = .ok (.istore_n 0, 1) := by decide +kernel
theorem own_d8_73 : decode jdk_33_method_47_code 73 = .ok (.iload_n 1, 1) := by decide +kernel
theorem own_d8_74 : decode jdk_33_method_47_code 74 = .ok (.iload_n 0, 1) := by decide +kernel
theorem own_d8_75 : decode jdk_33_method_47_code 75 = .ok (.iconst 1, 1) := by decide +kernel
theorem own_d8_76 : decode jdk_33_method_47_code 76 = .ok (.iushr, 1) := by decide +kernel
theorem own_d8_77 : decode jdk_33_method_47_code 77 = .ok (.isub, 1) := by decide +kernel
theorem own_d8_78 : decode jdk_33_method_47_code 78 = .ok (.ireturn, 1) := by decide +kernel
theorem own_pn0 : plainName "java/lang/Integer" = true := by first | (simp [plainName, overriddenIn]; done) | decide +kernel
set_option maxRecDepth 65536 in
set_option maxHeartbeats 40000000 in
theorem own_rmN (l : Launch) (Z : State) (a0 : Array Value) (hw : ∀ d ∈ tables_1, d.before a0 Z = true)  (h0 : Heap) (n0 : Nat) (Z0 : n0 ≤ h0.size)  :
    own_Met l Z [] (⟨"java/lang/Integer", "numberOfLeadingZeros", "(I)I"⟩ : MethodName) jdk_33_method_47_code 2 (some .int) ({ frames := 0, cells := 0, slots := 0, locals := 0 } : Room) #[(.int (-1 : Int32))] h0 (fun v h L => v = some (.int 0) ∧ Fr n0 L ∧ h = h0) := by
  refine MetFree.of_bodySF (plainFor_of_name own_pn0) hisR ?_
  intro p e s m args below meth c s₁ Bd hml0 hP hK
  obtain ⟨rfl, hZ, hh⟩ := hP
  have hx := Bd.exec
  have hby := Bd.bytes
  have hml : c.maxLocals = 2 := hml0
  have hown : s.vm.findClass "java/lang/Integer" = some m.cls := findClass_of_methodNamed Bd.named
  have hnm := (name_of_methodNamed Bd.named Bd.method).1
  have hlk : meth.locks = false := Bd.notSynchronized
  have X0 : Stand p l e ({ frames := 0, cells := 0, slots := 0, locals := 0 } : Room) s m #[(.int (-1 : Int32))] below meth c s₁ [] 0 0 := Stand.of_body Bd
  have e0 : s₁.heap = h0 := by rw [← hh, Bd.state]; rfl
  have N0 := Fr.nil n0
  refine own_body (Q := fun v h L => v = some (.int 0) ∧ Fr n0 L ∧ h = h0) ?_
  refine own_go (fun _ kont => castTop (own_ef m #[(.int (-1 : Int32))] 2 #[.val (.int (-1 : Int32)), .unset] (own_al [(.int (-1 : Int32))] 2 [.val (.int (-1 : Int32)), .unset] rfl)) kont) ?_
  show own_Go _ _ _ _ (s₁.setTop (mkF m 0 #[.val (.int (-1 : Int32)), .unset] []))
  refine own_go (fun _ kont => XS.iloadN X0.here hx rfl (hb hby own_d8_0) rfl kont) ?_
  show own_Go _ _ _ _ (s₁.setTop (mkF m 1 #[.val (.int (-1 : Int32)), .unset] [(.int (-1 : Int32))]))
  refine own_go (fun _ kont => XS.ifNo X0.here hx rfl (hb hby own_d8_1) rfl ((if0 _ _).trans (flt (by decide)).2.2.1) kont) ?_
  show own_Go _ _ _ _ (s₁.setTop (mkF m 4 #[.val (.int (-1 : Int32)), .unset] []))
  refine own_go (fun _ kont => XS.iloadN X0.here hx rfl (hb hby own_d8_4) rfl kont) ?_
  show own_Go _ _ _ _ (s₁.setTop (mkF m 5 #[.val (.int (-1 : Int32)), .unset] [(.int (-1 : Int32))]))
  refine own_go (fun _ kont => XS.ifYes X0.here hx rfl (pc0 := 5) (pc' := 13) rfl (hb hby own_d8_5) rfl ((if0 _ _).trans (feq (by decide)).2) (by decide) (by decide) kont) ?_
  show own_Go _ _ _ _ (s₁.setTop (mkF m 13 #[.val (.int (-1 : Int32)), .unset] []))
  refine own_go (fun _ kont => XS.iconst X0.here hx rfl (hb hby own_d8_13) kont) ?_
  show own_Go _ _ _ _ (s₁.setTop (mkF m 14 #[.val (.int (-1 : Int32)), .unset] [(.int (0 : Int32))]))
  refine own_ret X0 hlk (v := some (.int (0 : Int32))) (fun h => by rw [Bd.returns] at h; cases h) (fun fs hr => retOut X0 hx Bd.returns rfl (Or.inl ⟨rfl, Or.inl rfl, _, rfl⟩) (hb hby own_d8_14) hr) ?_ (by decide) (by decide)
  try rw [e0]
  exact ⟨rfl, N0, rfl⟩
theorem own_d7_0 : decode jdk_69_method_4_code 0 = .ok (.iconst (-1), 1) := by decide +kernel
theorem own_d7_1 : decode jdk_69_method_4_code 1 = .ok (.iload_n 0, 1) := by decide +kernel
theorem own_d7_2 : decode jdk_69_method_4_code 2 = .ok (.iconst 1, 1) := by decide +kernel
theorem own_d7_3 : decode jdk_69_method_4_code 3 = .ok (.isub, 1) := by decide +kernel
theorem own_d7_4 : decode jdk_69_method_4_code 4 = .ok (.invokestatic 34, 3) := by decide +kernel
theorem own_d7_7 : decode jdk_69_method_4_code 7 = .ok (.iushr, 1) := by decide +kernel
theorem own_d7_8 : decode jdk_69_method_4_code 8 = .ok (.istore_n 1, 1) := by decide +kernel
theorem own_d7_9 : decode jdk_69_method_4_code 9 = .ok (.iload_n 1, 1) := by decide +kernel
theorem own_d7_10 : decode jdk_69_method_4_code 10 = .ok (.ifCond .ge 7, 3) := by decide +kernel
theorem own_d7_13 : decode jdk_69_method_4_code 13 = .ok (.iconst 1, 1) := by decide +kernel
theorem own_d7_14 : decode jdk_69_method_4_code 14 = .ok (.goto 17, 3) := by decide +kernel
theorem own_d7_17 : decode jdk_69_method_4_code 17 = .ok (.iload_n 1, 1) := by decide +kernel
theorem own_d7_18 : decode jdk_69_method_4_code 18 = .ok (.ldc 42, 2) := by decide +kernel
theorem own_d7_20 : decode jdk_69_method_4_code 20 = .ok (.if_icmp .lt 8, 3) := by decide +kernel
theorem own_d7_23 : decode jdk_69_method_4_code 23 = .ok (.ldc 42, 2) := by decide +kernel
theorem own_d7_25 : decode jdk_69_method_4_code 25 = .ok (.goto 6, 3) := by decide +kernel
theorem own_d7_28 : decode jdk_69_method_4_code 28 = .ok (.iload_n 1, 1) := by decide +kernel
theorem own_d7_29 : decode jdk_69_method_4_code 29 = .ok (.iconst 1, 1) := by decide +kernel
theorem own_d7_30 : decode jdk_69_method_4_code 30 = .ok (.iadd, 1) := by decide +kernel
theorem own_d7_31 : decode jdk_69_method_4_code 31 = .ok (.ireturn, 1) := by decide +kernel
theorem own_pn1 : plainName "java/util/HashMap" = true := by first | (simp [plainName, overriddenIn]; done) | decide +kernel
theorem own_pd0 : parseMethodDescriptor "(I)I" = some ⟨[.int], some .int⟩ := by decide +kernel
set_option maxRecDepth 65536 in
set_option maxHeartbeats 40000000 in
theorem own_rmS (l : Launch) (Z : State) (a0 : Array Value) (hw : ∀ d ∈ tables_1, d.before a0 Z = true)  (h0 : Heap) (n0 : Nat) (Z0 : n0 ≤ h0.size)  :
    own_Met l Z [] (⟨"java/util/HashMap", "tableSizeFor", "(I)I"⟩ : MethodName) jdk_69_method_4_code 2 (some .int) ({ frames := 1, cells := 0, slots := 0, locals := 14 } : Room) #[(.int (0 : Int32))] h0 (fun v h L => v = some (.int 1) ∧ Fr n0 L ∧ h = h0) := by
  refine MetFree.of_bodySF (plainFor_of_name own_pn1) hisR ?_
  intro p e s m args below meth c s₁ Bd hml0 hP hK
  obtain ⟨rfl, hZ, hh⟩ := hP
  have hx := Bd.exec
  have hby := Bd.bytes
  have hml : c.maxLocals = 2 := hml0
  have hown : s.vm.findClass "java/util/HashMap" = some m.cls := findClass_of_methodNamed Bd.named
  have hnm := (name_of_methodNamed Bd.named Bd.method).1
  have hlk : meth.locks = false := Bd.notSynchronized
  have X0 : Stand p l e ({ frames := 1, cells := 0, slots := 0, locals := 14 } : Room) s m #[(.int (0 : Int32))] below meth c s₁ [] 0 0 := Stand.of_body Bd
  have e0 : s₁.heap = h0 := by rw [← hh, Bd.state]; rfl
  have N0 := Fr.nil n0
  refine own_body (Q := fun v h L => v = some (.int 1) ∧ Fr n0 L ∧ h = h0) ?_
  refine own_go (fun _ kont => castTop (own_ef m #[(.int (0 : Int32))] 2 #[.val (.int (0 : Int32)), .unset] (own_al [(.int (0 : Int32))] 2 [.val (.int (0 : Int32)), .unset] rfl)) kont) ?_
  show own_Go _ _ _ _ (s₁.setTop (mkF m 0 #[.val (.int (0 : Int32)), .unset] []))
  refine own_go (fun _ kont => XS.iconst X0.here hx rfl (hb hby own_d7_0) kont) ?_
  show own_Go _ _ _ _ (s₁.setTop (mkF m 1 #[.val (.int (0 : Int32)), .unset] [(.int (-1 : Int32))]))
  refine own_go (fun _ kont => XS.iloadN X0.here hx rfl (hb hby own_d7_1) rfl kont) ?_
  show own_Go _ _ _ _ (s₁.setTop (mkF m 2 #[.val (.int (0 : Int32)), .unset] [(.int (0 : Int32)), (.int (-1 : Int32))]))
  refine own_go (fun _ kont => XS.iconst X0.here hx rfl (hb hby own_d7_2) kont) ?_
  show own_Go _ _ _ _ (s₁.setTop (mkF m 3 #[.val (.int (0 : Int32)), .unset] [(.int (1 : Int32)), (.int (0 : Int32)), (.int (-1 : Int32))]))
  refine own_go (fun _ kont => XS.isub X0.here hx rfl (hb hby own_d7_3) rfl kont) ?_
  show own_Go _ _ _ _ (s₁.setTop (mkF m 4 #[.val (.int (0 : Int32)), .unset] [(.int (-1 : Int32)), (.int (-1 : Int32))]))
  obtain ⟨_, _, ⟨T1, L1, k1, n1⟩, -, X1, ⟨Lc1, hQ1, l1, y1, z1⟩, st1⟩ := Jvm.LawKit.callS X0 hx (y := (⟨"java/lang/Integer", "numberOfLeadingZeros", "(I)I"⟩ : MethodName)) hown (mvT hZ (hw _ (List.mem_of_getElem? (i := 57) rfl))) (mvT hZ (hw _ (List.mem_of_getElem? (i := 58) rfl))) (mvT hZ (hw _ (List.mem_of_getElem? (i := 59) rfl))) (mvT hZ (hw _ (List.mem_of_getElem? (i := 60) rfl))) (by decide) (own_back (W := 1) (own_rmN l Z a0 hw h0 n0 Z0) hZ (hw _ (List.mem_of_getElem? (i := 60) rfl)) (hw _ (List.mem_of_getElem? (i := 59) rfl)) (by decide) (by decide)) (g := (mkF m 4 #[.val (.int (0 : Int32)), .unset] [(.int (-1 : Int32)), (.int (-1 : Int32))])) rfl (by rw [hml]; rfl) (argsL := [(.int (-1 : Int32))]) (rest := [(.int (-1 : Int32))]) (lenOf own_pd0 rfl) rfl (by show 2 * 0 + _ ≤ _; exact Nat.le_of_eq rfl) (hb hby own_d7_4) (fun _ _ => ⟨rfl, e0, (by decide : 0 + 0 ≤ _), (by decide : 0 + 0 ≤ _)⟩)
  dsimp only [Pt.U, Pt.locs, Pt.cells, Pt.slots] at X1 l1 y1 z1 st1 hQ1
  subst l1 y1 z1
  obtain ⟨rfl, Nq1, eq1⟩ := hQ1
  have NF1 := Fr.app N0 Nq1
  refine own_go st1 ?_
  show own_Go _ _ _ _ (T1.setTop (mkF m 7 #[.val (.int (0 : Int32)), .unset] [(.int (0 : Int32)), (.int (-1 : Int32))]))
  refine own_go (fun _ kont => XS.iushr X1.here hx rfl (hb hby own_d7_7) rfl kont) ?_
  show own_Go _ _ _ _ (T1.setTop (mkF m 8 #[.val (.int (0 : Int32)), .unset] [(.int (-1 : Int32))]))
  refine own_go (fun _ kont => XS.istoreN X1.here hx rfl (hb hby own_d7_8) rfl (l' := #[.val (.int (0 : Int32)), .val (.int (-1 : Int32))]) rfl kont) ?_
  show own_Go _ _ _ _ (T1.setTop (mkF m 9 #[.val (.int (0 : Int32)), .val (.int (-1 : Int32))] []))
  refine own_go (fun _ kont => XS.iloadN X1.here hx rfl (hb hby own_d7_9) rfl kont) ?_
  show own_Go _ _ _ _ (T1.setTop (mkF m 10 #[.val (.int (0 : Int32)), .val (.int (-1 : Int32))] [(.int (-1 : Int32))]))
  refine own_go (fun _ kont => XS.ifNo X1.here hx rfl (hb hby own_d7_10) rfl ((if0 _ _).trans (tlt (by decide)).2.1) kont) ?_
  show own_Go _ _ _ _ (T1.setTop (mkF m 13 #[.val (.int (0 : Int32)), .val (.int (-1 : Int32))] []))
  refine own_go (fun _ kont => XS.iconst X1.here hx rfl (hb hby own_d7_13) kont) ?_
  show own_Go _ _ _ _ (T1.setTop (mkF m 14 #[.val (.int (0 : Int32)), .val (.int (-1 : Int32))] [(.int (1 : Int32))]))
  refine own_go (fun _ kont => XS.goto X1.here hx rfl (pc0 := 14) (pc' := 31) rfl (hb hby own_d7_14) (by decide) (by decide) kont) ?_
  show own_Go _ _ _ _ (T1.setTop (mkF m 31 #[.val (.int (0 : Int32)), .val (.int (-1 : Int32))] [(.int (1 : Int32))]))
  refine own_ret X1 hlk (v := some (.int (1 : Int32))) (fun h => by rw [Bd.returns] at h; cases h) (fun fs hr => retOut X1 hx Bd.returns rfl (Or.inl ⟨rfl, Or.inl rfl, _, rfl⟩) (hb hby own_d7_31) hr) ?_ (by decide) (by decide)
  try rw [eq1]
  exact ⟨rfl, NF1, rfl⟩
theorem own_d6_0 : decode jdk_118_method_6_code 0 = .ok (.fload_n 0, 1) := by decide +kernel
theorem own_d6_1 : decode jdk_118_method_6_code 1 = .ok (.fload_n 0, 1) := by decide +kernel
theorem own_d6_2 : decode jdk_118_method_6_code 2 = .ok (.fcmp .l, 1) := by decide +kernel
theorem own_d6_3 : decode jdk_118_method_6_code 3 = .ok (.ifCond .eq 7, 3) := by decide +kernel
theorem own_d6_6 : decode jdk_118_method_6_code 6 = .ok (.iconst 1, 1) := by decide +kernel
theorem own_d6_7 : decode jdk_118_method_6_code 7 = .ok (.goto 4, 3) := by decide +kernel
theorem own_d6_10 : decode jdk_118_method_6_code 10 = .ok (.iconst 0, 1) := by decide +kernel
theorem own_d6_11 : decode jdk_118_method_6_code 11 = .ok (.ireturn, 1) := by decide +kernel
set_option maxRecDepth 65536 in
set_option maxHeartbeats 40000000 in
theorem own_rmF (l : Launch) (Z : State) (a0 : Array Value) (hw : ∀ d ∈ tables_1, d.before a0 Z = true)  (h0 : Heap) (n0 : Nat) (Z0 : n0 ≤ h0.size)  :
    own_Met l Z [] (⟨"java/lang/Float", "isNaN", "(F)Z"⟩ : MethodName) jdk_118_method_6_code 1 (some .boolean) ({ frames := 0, cells := 0, slots := 0, locals := 0 } : Room) #[(.float (1061158912 : UInt32))] h0 (fun v h L => v = some (.int 0) ∧ Fr n0 L ∧ h = h0) := by
  refine MetFree.of_bodySF (by decide +kernel) hisR ?_
  intro p e s m args below meth c s₁ Bd hml0 hP hK
  obtain ⟨rfl, hZ, hh⟩ := hP
  have hx := Bd.exec
  have hby := Bd.bytes
  have hml : c.maxLocals = 1 := hml0
  have hown : s.vm.findClass "java/lang/Float" = some m.cls := findClass_of_methodNamed Bd.named
  have hnm := (name_of_methodNamed Bd.named Bd.method).1
  have hlk : meth.locks = false := Bd.notSynchronized
  have X0 : Stand p l e ({ frames := 0, cells := 0, slots := 0, locals := 0 } : Room) s m #[(.float (1061158912 : UInt32))] below meth c s₁ [] 0 0 := Stand.of_body Bd
  have e0 : s₁.heap = h0 := by rw [← hh, Bd.state]; rfl
  have N0 := Fr.nil n0
  refine own_body (Q := fun v h L => v = some (.int 0) ∧ Fr n0 L ∧ h = h0) ?_
  refine own_go (fun _ kont => castTop (own_ef m #[(.float (1061158912 : UInt32))] 1 #[.val (.float (1061158912 : UInt32))] (own_al [(.float (1061158912 : UInt32))] 1 [.val (.float (1061158912 : UInt32))] rfl)) kont) ?_
  show own_Go _ _ _ _ (s₁.setTop (mkF m 0 #[.val (.float (1061158912 : UInt32))] []))
  refine own_go (fun _ kont => XS.floadN X0.here hx rfl (hb hby own_d6_0) rfl kont) ?_
  show own_Go _ _ _ _ (s₁.setTop (mkF m 1 #[.val (.float (1061158912 : UInt32))] [(.float (1061158912 : UInt32))]))
  refine own_go (fun _ kont => XS.floadN X0.here hx rfl (hb hby own_d6_1) rfl kont) ?_
  show own_Go _ _ _ _ (s₁.setTop (mkF m 2 #[.val (.float (1061158912 : UInt32))] [(.float (1061158912 : UInt32)), (.float (1061158912 : UInt32))]))
  refine own_go (fun _ kont => XS.fcmpS X0.here hx rfl (hb hby own_d6_2) rfl (v := (0 : Int32)) (by decide +kernel) kont) ?_
  show own_Go _ _ _ _ (s₁.setTop (mkF m 3 #[.val (.float (1061158912 : UInt32))] [(.int (0 : Int32))]))
  refine own_go (fun _ kont => XS.ifYes X0.here hx rfl (pc0 := 3) (pc' := 10) rfl (hb hby own_d6_3) rfl ((if0 _ _).trans (teq (by decide)).1) (by decide) (by decide) kont) ?_
  show own_Go _ _ _ _ (s₁.setTop (mkF m 10 #[.val (.float (1061158912 : UInt32))] []))
  refine own_go (fun _ kont => XS.iconst X0.here hx rfl (hb hby own_d6_10) kont) ?_
  show own_Go _ _ _ _ (s₁.setTop (mkF m 11 #[.val (.float (1061158912 : UInt32))] [(.int (0 : Int32))]))
  refine own_ret X0 hlk (v := some (.int (0 : Int32))) (fun h => by rw [Bd.returns] at h; cases h) (fun fs hr => retN X0 hx (t := .boolean) Bd.returns (by simp) (hb hby own_d6_11) hr) ?_ (by decide) (by decide)
  try rw [e0]
  exact ⟨rfl, N0, rfl⟩
theorem own_d5_0 : decode jdk_71_method_1_code 0 = .ok (.aload_n 0, 1) := by decide +kernel
theorem own_d5_1 : decode jdk_71_method_1_code 1 = .ok (.invokespecial 1, 3) := by decide +kernel
theorem own_d5_4 : decode jdk_71_method_1_code 4 = .ok (.return_, 1) := by decide +kernel
theorem own_pn2 : plainName "java/util/AbstractMap" = true := by first | (simp [plainName, overriddenIn]; done) | decide +kernel
set_option maxRecDepth 65536 in
set_option maxHeartbeats 40000000 in
theorem own_rmA (l : Launch) (Z : State) (a0 : Array Value) (hw : ∀ d ∈ tables_1, d.before a0 Z = true) (a1 : Addr) (h0 : Heap) (n0 : Nat) (Z0 : n0 ≤ h0.size)  :
    own_Met l Z [] (⟨"java/util/AbstractMap", "<init>", "()V"⟩ : MethodName) jdk_71_method_1_code 1 none ({ frames := 1, cells := 0, slots := 0, locals := 12 } : Room) #[(.ref a1)] h0 (fun v h L => v = none ∧ Fr n0 L ∧ h = h0) := by
  refine MetFree.of_bodySF (plainFor_of_name own_pn2) hisR ?_
  intro p e s m args below meth c s₁ Bd hml0 hP hK
  obtain ⟨rfl, hZ, hh⟩ := hP
  have hx := Bd.exec
  have hby := Bd.bytes
  have hml : c.maxLocals = 1 := hml0
  have hown : s.vm.findClass "java/util/AbstractMap" = some m.cls := findClass_of_methodNamed Bd.named
  have hnm := (name_of_methodNamed Bd.named Bd.method).1
  have hlk : meth.locks = false := Bd.notSynchronized
  have X0 : Stand p l e ({ frames := 1, cells := 0, slots := 0, locals := 12 } : Room) s m #[(.ref a1)] below meth c s₁ [] 0 0 := Stand.of_body Bd
  have e0 : s₁.heap = h0 := by rw [← hh, Bd.state]; rfl
  have N0 := Fr.nil n0
  refine own_body (Q := fun v h L => v = none ∧ Fr n0 L ∧ h = h0) ?_
  refine own_go (fun _ kont => castTop (own_ef m #[(.ref a1)] 1 #[.val (.ref a1)] (own_al [(.ref a1)] 1 [.val (.ref a1)] rfl)) kont) ?_
  show own_Go _ _ _ _ (s₁.setTop (mkF m 0 #[.val (.ref a1)] []))
  refine own_go (fun _ kont => XS.aloadN X0.here hx rfl (hb hby own_d5_0) rfl rfl kont) ?_
  show own_Go _ _ _ _ (s₁.setTop (mkF m 1 #[.val (.ref a1)] [(.ref a1)]))
  obtain ⟨T1, X1, e1, st1⟩ := initO X0 hx hZ hown (hw _ (List.mem_of_getElem? (i := 46) rfl)) (hw _ (List.mem_of_getElem? (i := 11) rfl)) (hw _ (List.mem_of_getElem? (i := 12) rfl)) e0 (g := (mkF m 1 #[.val (.ref a1)] [(.ref a1)])) rfl (by rw [hml]; rfl) rfl (hb hby own_d5_1) (by decide) (W := 0) (by show 2 * 0 + _ ≤ _; exact Nat.le_of_eq rfl) (by decide)
  refine own_go st1 ?_
  show own_Go _ _ _ _ (T1.setTop (mkF m 4 #[.val (.ref a1)] []))
  refine own_ret X1 hlk (v := none) (fun _ => rfl) (fun fs hr => X1.returnOut hx Bd.returns (hb hby own_d5_4) hr) ?_ (by decide) (by decide)
  try rw [e1]
  exact ⟨rfl, N0, rfl⟩
theorem own_d4_0 : decode jdk_69_method_5_code 0 = .ok (.aload_n 0, 1) := by decide +kernel
theorem own_d4_1 : decode jdk_69_method_5_code 1 = .ok (.invokespecial 43, 3) := by decide +kernel
theorem own_d4_4 : decode jdk_69_method_5_code 4 = .ok (.iload_n 1, 1) := by decide +kernel
theorem own_d4_5 : decode jdk_69_method_5_code 5 = .ok (.ifCond .ge 30, 3) := by decide +kernel
theorem own_d4_8 : decode jdk_69_method_5_code 8 = .ok (.new 49, 3) := by decide +kernel
theorem own_d4_11 : decode jdk_69_method_5_code 11 = .ok (.dup, 1) := by decide +kernel
theorem own_d4_12 : decode jdk_69_method_5_code 12 = .ok (.new 51, 3) := by decide +kernel
theorem own_d4_15 : decode jdk_69_method_5_code 15 = .ok (.dup, 1) := by decide +kernel
theorem own_d4_16 : decode jdk_69_method_5_code 16 = .ok (.invokespecial 53, 3) := by decide +kernel
theorem own_d4_19 : decode jdk_69_method_5_code 19 = .ok (.ldc 54, 2) := by decide +kernel
theorem own_d4_21 : decode jdk_69_method_5_code 21 = .ok (.invokevirtual 56, 3) := by decide +kernel
theorem own_d4_24 : decode jdk_69_method_5_code 24 = .ok (.iload_n 1, 1) := by decide +kernel
theorem own_d4_25 : decode jdk_69_method_5_code 25 = .ok (.invokevirtual 60, 3) := by decide +kernel
theorem own_d4_28 : decode jdk_69_method_5_code 28 = .ok (.invokevirtual 63, 3) := by decide +kernel
theorem own_d4_31 : decode jdk_69_method_5_code 31 = .ok (.invokespecial 67, 3) := by decide +kernel
theorem own_d4_34 : decode jdk_69_method_5_code 34 = .ok (.athrow, 1) := by decide +kernel
theorem own_d4_35 : decode jdk_69_method_5_code 35 = .ok (.iload_n 1, 1) := by decide +kernel
theorem own_d4_36 : decode jdk_69_method_5_code 36 = .ok (.ldc 42, 2) := by decide +kernel
theorem own_d4_38 : decode jdk_69_method_5_code 38 = .ok (.if_icmp .le 6, 3) := by decide +kernel
theorem own_d4_41 : decode jdk_69_method_5_code 41 = .ok (.ldc 42, 2) := by decide +kernel
theorem own_d4_43 : decode jdk_69_method_5_code 43 = .ok (.istore_n 1, 1) := by decide +kernel
theorem own_d4_44 : decode jdk_69_method_5_code 44 = .ok (.fload_n 2, 1) := by decide +kernel
theorem own_d4_45 : decode jdk_69_method_5_code 45 = .ok (.fconst 0, 1) := by decide +kernel
theorem own_d4_46 : decode jdk_69_method_5_code 46 = .ok (.fcmp .g, 1) := by decide +kernel
theorem own_d4_47 : decode jdk_69_method_5_code 47 = .ok (.ifCond .le 10, 3) := by decide +kernel
theorem own_d4_50 : decode jdk_69_method_5_code 50 = .ok (.fload_n 2, 1) := by decide +kernel
theorem own_d4_51 : decode jdk_69_method_5_code 51 = .ok (.invokestatic 70, 3) := by decide +kernel
theorem own_d4_54 : decode jdk_69_method_5_code 54 = .ok (.ifCond .eq 30, 3) := by decide +kernel
theorem own_d4_57 : decode jdk_69_method_5_code 57 = .ok (.new 49, 3) := by decide +kernel
theorem own_d4_60 : decode jdk_69_method_5_code 60 = .ok (.dup, 1) := by decide +kernel
theorem own_d4_61 : decode jdk_69_method_5_code 61 = .ok (.new 51, 3) := by decide +kernel
theorem own_d4_64 : decode jdk_69_method_5_code 64 = .ok (.dup, 1) := by decide +kernel
theorem own_d4_65 : decode jdk_69_method_5_code 65 = .ok (.invokespecial 53, 3) := by decide +kernel
theorem own_d4_68 : decode jdk_69_method_5_code 68 = .ok (.ldc 76, 2) := by decide +kernel
theorem own_d4_70 : decode jdk_69_method_5_code 70 = .ok (.invokevirtual 56, 3) := by decide +kernel
theorem own_d4_73 : decode jdk_69_method_5_code 73 = .ok (.fload_n 2, 1) := by decide +kernel
theorem own_d4_74 : decode jdk_69_method_5_code 74 = .ok (.invokevirtual 78, 3) := by decide +kernel
theorem own_d4_77 : decode jdk_69_method_5_code 77 = .ok (.invokevirtual 63, 3) := by decide +kernel
theorem own_d4_80 : decode jdk_69_method_5_code 80 = .ok (.invokespecial 67, 3) := by decide +kernel
theorem own_d4_83 : decode jdk_69_method_5_code 83 = .ok (.athrow, 1) := by decide +kernel
theorem own_d4_84 : decode jdk_69_method_5_code 84 = .ok (.aload_n 0, 1) := by decide +kernel
theorem own_d4_85 : decode jdk_69_method_5_code 85 = .ok (.fload_n 2, 1) := by decide +kernel
theorem own_d4_86 : decode jdk_69_method_5_code 86 = .ok (.putfield 81, 3) := by decide +kernel
theorem own_d4_89 : decode jdk_69_method_5_code 89 = .ok (.aload_n 0, 1) := by decide +kernel
theorem own_d4_90 : decode jdk_69_method_5_code 90 = .ok (.iload_n 1, 1) := by decide +kernel
theorem own_d4_91 : decode jdk_69_method_5_code 91 = .ok (.invokestatic 85, 3) := by decide +kernel
theorem own_d4_94 : decode jdk_69_method_5_code 94 = .ok (.putfield 88, 3) := by decide +kernel
theorem own_d4_97 : decode jdk_69_method_5_code 97 = .ok (.return_, 1) := by decide +kernel
theorem own_pd1 : parseMethodDescriptor "()V" = some ⟨[], none⟩ := by decide +kernel
theorem own_pd2 : parseMethodDescriptor "(F)Z" = some ⟨[.float], some .boolean⟩ := by decide +kernel
set_option maxRecDepth 65536 in
set_option maxHeartbeats 40000000 in
theorem own_rmH2 (l : Launch) (Z : State) (a0 : Array Value) (hw : ∀ d ∈ tables_1, d.before a0 Z = true) (a1 : Addr) (h0 : Heap) (n0 : Nat) (Z0 : n0 ≤ h0.size) (E1 : Exa Z h0 a1 "java/util/HashMap") (F1 : Fld Z h0 a1 "java/util/HashMap" "loadFactor" "F" (.float 0)) (F2 : Fld Z h0 a1 "java/util/HashMap" "threshold" "I" (.int 0)) (ge_a1 : n0 ≤ a1) :
    own_Met l Z [] (⟨"java/util/HashMap", "<init>", "(IF)V"⟩ : MethodName) jdk_69_method_5_code 3 none ({ frames := 2, cells := 0, slots := 0, locals := 28 } : Room) #[(.ref a1), (.int (0 : Int32)), (.float (1061158912 : UInt32))] h0 (fun v h L => v = none ∧ Fr n0 L ∧ Keep h0 h [a1]) := by
  refine MetFree.of_bodySF (plainFor_of_name own_pn1) hisR ?_
  intro p e s m args below meth c s₁ Bd hml0 hP hK
  obtain ⟨rfl, hZ, hh⟩ := hP
  have hx := Bd.exec
  have hby := Bd.bytes
  have hml : c.maxLocals = 3 := hml0
  have hown : s.vm.findClass "java/util/HashMap" = some m.cls := findClass_of_methodNamed Bd.named
  have hnm := (name_of_methodNamed Bd.named Bd.method).1
  have hlk : meth.locks = false := Bd.notSynchronized
  have X0 : Stand p l e ({ frames := 2, cells := 0, slots := 0, locals := 28 } : Room) s m #[(.ref a1), (.int (0 : Int32)), (.float (1061158912 : UInt32))] below meth c s₁ [] 0 0 := Stand.of_body Bd
  have e0 : s₁.heap = h0 := by rw [← hh, Bd.state]; rfl
  have N0 := Fr.nil n0
  refine own_body (Q := fun v h L => v = none ∧ Fr n0 L ∧ Keep h0 h [a1]) ?_
  refine own_go (fun _ kont => castTop (own_ef m #[(.ref a1), (.int (0 : Int32)), (.float (1061158912 : UInt32))] 3 #[.val (.ref a1), .val (.int (0 : Int32)), .val (.float (1061158912 : UInt32))] (own_al [(.ref a1), (.int (0 : Int32)), (.float (1061158912 : UInt32))] 3 [.val (.ref a1), .val (.int (0 : Int32)), .val (.float (1061158912 : UInt32))] rfl)) kont) ?_
  show own_Go _ _ _ _ (s₁.setTop (mkF m 0 #[.val (.ref a1), .val (.int (0 : Int32)), .val (.float (1061158912 : UInt32))] []))
  have K0 : Keep h0 h0 [a1] := Keep.refl _ _
  refine own_go (fun _ kont => XS.aloadN X0.here hx rfl (hb hby own_d4_0) rfl rfl kont) ?_
  show own_Go _ _ _ _ (s₁.setTop (mkF m 1 #[.val (.ref a1), .val (.int (0 : Int32)), .val (.float (1061158912 : UInt32))] [(.ref a1)]))
  obtain ⟨_, _, ⟨T1, L1, k1, n1⟩, -, X1, ⟨Lc1, hQ1, l1, y1, z1⟩, st1⟩ := X0.specialBack hx (y := (⟨"java/util/AbstractMap", "<init>", "()V"⟩ : MethodName)) rfl hown (mvT hZ (hw _ (List.mem_of_getElem? (i := 40) rfl))) (mvT hZ (hw _ (List.mem_of_getElem? (i := 41) rfl))) (mvT hZ (hw _ (List.mem_of_getElem? (i := 45) rfl))) (by decide) (own_back (W := 0) (own_rmA l Z a0 hw a1 h0 n0 Z0) hZ (hw _ (List.mem_of_getElem? (i := 45) rfl)) (hw _ (List.mem_of_getElem? (i := 44) rfl)) (by decide) (by decide)) (g := (mkF m 1 #[.val (.ref a1), .val (.int (0 : Int32)), .val (.float (1061158912 : UInt32))] [(.ref a1)])) rfl (by rw [hml]; rfl) (Steps.refl _) (a := a1) (argsL := []) (rest := []) (lenOf own_pd1 rfl) rfl (by show 2 * 0 + _ ≤ _; exact Nat.le_of_eq rfl) (hb hby own_d4_1) (fun _ _ => ⟨rfl, e0, (by decide : 0 + 0 ≤ _), (by decide : 0 + 0 ≤ _)⟩)
  dsimp only [Pt.U, Pt.locs, Pt.cells, Pt.slots] at X1 l1 y1 z1 st1 hQ1
  subst l1 y1 z1
  obtain ⟨rfl, Nq1, eq1⟩ := hQ1
  have NF1 := Fr.app N0 Nq1
  refine own_goT st1 ?_
  show own_Go _ _ _ _ (T1.setTop (mkF m 4 #[.val (.ref a1), .val (.int (0 : Int32)), .val (.float (1061158912 : UInt32))] []))
  refine own_go (fun _ kont => XS.iloadN X1.here hx rfl (hb hby own_d4_4) rfl kont) ?_
  show own_Go _ _ _ _ (T1.setTop (mkF m 5 #[.val (.ref a1), .val (.int (0 : Int32)), .val (.float (1061158912 : UInt32))] [(.int (0 : Int32))]))
  refine own_go (fun _ kont => XS.ifYes X1.here hx rfl (pc0 := 5) (pc' := 35) rfl (hb hby own_d4_5) rfl ((if0 _ _).trans (flt (by decide)).2.1) (by decide) (by decide) kont) ?_
  show own_Go _ _ _ _ (T1.setTop (mkF m 35 #[.val (.ref a1), .val (.int (0 : Int32)), .val (.float (1061158912 : UInt32))] []))
  refine own_go (fun _ kont => XS.iloadN X1.here hx rfl (hb hby own_d4_35) rfl kont) ?_
  show own_Go _ _ _ _ (T1.setTop (mkF m 36 #[.val (.ref a1), .val (.int (0 : Int32)), .val (.float (1061158912 : UInt32))] [(.int (0 : Int32))]))
  refine own_go (X1.ldcInt hx hown (mvT hZ (hw _ (List.mem_of_getElem? (i := 47) rfl))) (g := (mkF m 36 #[.val (.ref a1), .val (.int (0 : Int32)), .val (.float (1061158912 : UInt32))] [(.int (0 : Int32))])) rfl (hb hby own_d4_36)) ?_
  show own_Go _ _ _ _ (T1.setTop (mkF m 38 #[.val (.ref a1), .val (.int (0 : Int32)), .val (.float (1061158912 : UInt32))] [(.int (1073741824 : Int32)), (.int (0 : Int32))]))
  refine own_go (fun _ kont => XS.icmpYes X1.here hx rfl (pc0 := 38) (pc' := 44) rfl (hb hby own_d4_38) rfl (flt (by decide)).2.2.2 (by decide) (by decide) kont) ?_
  show own_Go _ _ _ _ (T1.setTop (mkF m 44 #[.val (.ref a1), .val (.int (0 : Int32)), .val (.float (1061158912 : UInt32))] []))
  refine own_go (fun _ kont => XS.floadN X1.here hx rfl (hb hby own_d4_44) rfl kont) ?_
  show own_Go _ _ _ _ (T1.setTop (mkF m 45 #[.val (.ref a1), .val (.int (0 : Int32)), .val (.float (1061158912 : UInt32))] [(.float (1061158912 : UInt32))]))
  refine own_go (fun _ kont => XS.fconst0 X1.here hx rfl (hb hby own_d4_45) (v := 0) (by decide +kernel) kont) ?_
  show own_Go _ _ _ _ (T1.setTop (mkF m 46 #[.val (.ref a1), .val (.int (0 : Int32)), .val (.float (1061158912 : UInt32))] [(.float (0 : UInt32)), (.float (1061158912 : UInt32))]))
  refine own_go (fun _ kont => XS.fcmpS X1.here hx rfl (hb hby own_d4_46) rfl (v := (1 : Int32)) (by decide +kernel) kont) ?_
  show own_Go _ _ _ _ (T1.setTop (mkF m 47 #[.val (.ref a1), .val (.int (0 : Int32)), .val (.float (1061158912 : UInt32))] [(.int (1 : Int32))]))
  refine own_go (fun _ kont => XS.ifNo X1.here hx rfl (hb hby own_d4_47) rfl ((if0 _ _).trans (tlt (by decide)).2.2.2) kont) ?_
  show own_Go _ _ _ _ (T1.setTop (mkF m 50 #[.val (.ref a1), .val (.int (0 : Int32)), .val (.float (1061158912 : UInt32))] []))
  refine own_go (fun _ kont => XS.floadN X1.here hx rfl (hb hby own_d4_50) rfl kont) ?_
  show own_Go _ _ _ _ (T1.setTop (mkF m 51 #[.val (.ref a1), .val (.int (0 : Int32)), .val (.float (1061158912 : UInt32))] [(.float (1061158912 : UInt32))]))
  obtain ⟨_, _, ⟨T2, L2, k2, n2⟩, -, X2, ⟨Lc2, hQ2, l2, y2, z2⟩, st2⟩ := Jvm.LawKit.callS X1 hx (y := (⟨"java/lang/Float", "isNaN", "(F)Z"⟩ : MethodName)) hown (mvT hZ (hw _ (List.mem_of_getElem? (i := 48) rfl))) (mvT hZ (hw _ (List.mem_of_getElem? (i := 49) rfl))) (mvT hZ (hw _ (List.mem_of_getElem? (i := 50) rfl))) (mvT hZ (hw _ (List.mem_of_getElem? (i := 51) rfl))) (by decide) (own_back (W := 0) (own_rmF l Z a0 hw h0 n0 Z0) hZ (hw _ (List.mem_of_getElem? (i := 51) rfl)) (hw _ (List.mem_of_getElem? (i := 50) rfl)) (by decide) (by decide)) (g := (mkF m 51 #[.val (.ref a1), .val (.int (0 : Int32)), .val (.float (1061158912 : UInt32))] [(.float (1061158912 : UInt32))])) rfl (by rw [hml]; rfl) (argsL := [(.float (1061158912 : UInt32))]) (rest := []) (lenOf own_pd2 rfl) rfl (by show 2 * 0 + _ ≤ _; exact Nat.le_of_eq rfl) (hb hby own_d4_51) (fun _ _ => ⟨rfl, eq1, (by decide : 0 + 0 ≤ _), (by decide : 0 + 0 ≤ _)⟩)
  dsimp only [Pt.U, Pt.locs, Pt.cells, Pt.slots] at X2 l2 y2 z2 st2 hQ2
  subst l2 y2 z2
  obtain ⟨rfl, Nq2, eq2⟩ := hQ2
  have NF2 := Fr.app NF1 Nq2
  refine own_go st2 ?_
  show own_Go _ _ _ _ (T2.setTop (mkF m 54 #[.val (.ref a1), .val (.int (0 : Int32)), .val (.float (1061158912 : UInt32))] [(.int (0 : Int32))]))
  refine own_go (fun _ kont => XS.ifYes X2.here hx rfl (pc0 := 54) (pc' := 84) rfl (hb hby own_d4_54) rfl ((if0 _ _).trans (teq (by decide)).1) (by decide) (by decide) kont) ?_
  show own_Go _ _ _ _ (T2.setTop (mkF m 84 #[.val (.ref a1), .val (.int (0 : Int32)), .val (.float (1061158912 : UInt32))] []))
  refine own_go (fun _ kont => XS.aloadN X2.here hx rfl (hb hby own_d4_84) rfl rfl kont) ?_
  show own_Go _ _ _ _ (T2.setTop (mkF m 85 #[.val (.ref a1), .val (.int (0 : Int32)), .val (.float (1061158912 : UInt32))] [(.ref a1)]))
  refine own_go (fun _ kont => XS.floadN X2.here hx rfl (hb hby own_d4_85) rfl kont) ?_
  show own_Go _ _ _ _ (T2.setTop (mkF m 86 #[.val (.ref a1), .val (.int (0 : Int32)), .val (.float (1061158912 : UInt32))] [(.float (1061158912 : UInt32)), (.ref a1)]))
  obtain ⟨T3, h3, X3, e3, W3, st3⟩ := putF X2 hx hZ hown (host := "") (Or.inl (hw _ (List.mem_of_getElem? (i := 52) rfl))) Via.refl eq2 F1 E1 (Or.inr ⟨(hw _ (List.mem_of_getElem? (i := 53) rfl)), rfl, hnm⟩) (hw _ (List.mem_of_getElem? (i := 30) rfl)) (ty := .float) (by decide) rfl rfl (g := (mkF m 86 #[.val (.ref a1), .val (.int (0 : Int32)), .val (.float (1061158912 : UInt32))] [(.float (1061158912 : UInt32)), (.ref a1)])) rfl rfl (hb hby own_d4_86)
  refine own_go st3 ?_
  have NF3 := Fr.snoc X3 NF2 ge_a1
  replace F1 := F1.same W3
  replace E1 := E1.wr W3
  replace F2 := F2.other W3 (Or.inr (slot_ne (Or.inl (hw _ (List.mem_of_getElem? (i := 62) rfl))) (Or.inr (hw _ (List.mem_of_getElem? (i := 53) rfl))) (by decide) (t := .int) (t' := .float) (by decide) (by decide)))
  replace Z0 := Nat.le_trans Z0 (Keep.of_wr W3).1
  replace K0 := K0.wr W3 (Or.inl (List.mem_of_getElem? (i := 0) rfl))
  show own_Go _ _ _ _ (T3.setTop (mkF m 89 #[.val (.ref a1), .val (.int (0 : Int32)), .val (.float (1061158912 : UInt32))] []))
  refine own_go (fun _ kont => XS.aloadN X3.here hx rfl (hb hby own_d4_89) rfl rfl kont) ?_
  show own_Go _ _ _ _ (T3.setTop (mkF m 90 #[.val (.ref a1), .val (.int (0 : Int32)), .val (.float (1061158912 : UInt32))] [(.ref a1)]))
  refine own_go (fun _ kont => XS.iloadN X3.here hx rfl (hb hby own_d4_90) rfl kont) ?_
  show own_Go _ _ _ _ (T3.setTop (mkF m 91 #[.val (.ref a1), .val (.int (0 : Int32)), .val (.float (1061158912 : UInt32))] [(.int (0 : Int32)), (.ref a1)]))
  obtain ⟨_, _, ⟨T4, L4, k4, n4⟩, -, X4, ⟨Lc4, hQ4, l4, y4, z4⟩, st4⟩ := Jvm.LawKit.callS X3 hx (y := (⟨"java/util/HashMap", "tableSizeFor", "(I)I"⟩ : MethodName)) hown (mvT hZ (hw _ (List.mem_of_getElem? (i := 54) rfl))) (mvT hZ (hw _ (List.mem_of_getElem? (i := 55) rfl))) (mvT hZ (hw _ (List.mem_of_getElem? (i := 31) rfl))) (mvT hZ (hw _ (List.mem_of_getElem? (i := 56) rfl))) (by decide) (own_back (W := 1) (own_rmS l Z a0 hw h3 n0 Z0) hZ (hw _ (List.mem_of_getElem? (i := 56) rfl)) (hw _ (List.mem_of_getElem? (i := 31) rfl)) (by decide) (by decide)) (g := (mkF m 91 #[.val (.ref a1), .val (.int (0 : Int32)), .val (.float (1061158912 : UInt32))] [(.int (0 : Int32)), (.ref a1)])) rfl (by rw [hml]; rfl) (argsL := [(.int (0 : Int32))]) (rest := [(.ref a1)]) (lenOf own_pd0 rfl) rfl (by show 2 * 0 + _ ≤ _; exact Nat.le_of_eq rfl) (hb hby own_d4_91) (fun _ _ => ⟨rfl, e3, (by decide : 0 + 0 ≤ _), (by decide : 0 + 0 ≤ _)⟩)
  dsimp only [Pt.U, Pt.locs, Pt.cells, Pt.slots] at X4 l4 y4 z4 st4 hQ4
  subst l4 y4 z4
  obtain ⟨rfl, Nq4, eq4⟩ := hQ4
  have NF4 := Fr.app NF3 Nq4
  refine own_go st4 ?_
  show own_Go _ _ _ _ (T4.setTop (mkF m 94 #[.val (.ref a1), .val (.int (0 : Int32)), .val (.float (1061158912 : UInt32))] [(.int (1 : Int32)), (.ref a1)]))
  obtain ⟨T5, h5, X5, e5, W5, st5⟩ := putF X4 hx hZ hown (host := "") (Or.inl (hw _ (List.mem_of_getElem? (i := 61) rfl))) Via.refl eq4 F2 E1 (Or.inl (hw _ (List.mem_of_getElem? (i := 62) rfl))) (hw _ (List.mem_of_getElem? (i := 30) rfl)) (ty := .int) (by decide) rfl rfl (g := (mkF m 94 #[.val (.ref a1), .val (.int (0 : Int32)), .val (.float (1061158912 : UInt32))] [(.int (1 : Int32)), (.ref a1)])) rfl rfl (hb hby own_d4_94)
  refine own_go st5 ?_
  have NF5 := Fr.snoc X5 NF4 ge_a1
  replace F2 := F2.same W5
  replace E1 := E1.wr W5
  replace F1 := F1.other W5 (Or.inr (slot_ne (Or.inr (hw _ (List.mem_of_getElem? (i := 53) rfl))) (Or.inl (hw _ (List.mem_of_getElem? (i := 62) rfl))) (by decide) (t := .float) (t' := .int) (by decide) (by decide)))
  replace Z0 := Nat.le_trans Z0 (Keep.of_wr W5).1
  replace K0 := K0.wr W5 (Or.inl (List.mem_of_getElem? (i := 0) rfl))
  show own_Go _ _ _ _ (T5.setTop (mkF m 97 #[.val (.ref a1), .val (.int (0 : Int32)), .val (.float (1061158912 : UInt32))] []))
  refine own_ret X5 hlk (v := none) (fun _ => rfl) (fun fs hr => X5.returnOut hx Bd.returns (hb hby own_d4_97) hr) ?_ (by decide) (by decide)
  try rw [e5]
  exact ⟨rfl, NF5, K0⟩
theorem own_d3_0 : decode jdk_69_method_6_code 0 = .ok (.aload_n 0, 1) := by decide +kernel
theorem own_d3_1 : decode jdk_69_method_6_code 1 = .ok (.iload_n 1, 1) := by decide +kernel
theorem own_d3_2 : decode jdk_69_method_6_code 2 = .ok (.ldc 92, 2) := by decide +kernel
theorem own_d3_4 : decode jdk_69_method_6_code 4 = .ok (.invokespecial 93, 3) := by decide +kernel
theorem own_d3_7 : decode jdk_69_method_6_code 7 = .ok (.return_, 1) := by decide +kernel
theorem own_pd3 : parseMethodDescriptor "(IF)V" = some ⟨[.int, .float], none⟩ := by decide +kernel
set_option maxRecDepth 65536 in
set_option maxHeartbeats 40000000 in
theorem own_rmH1 (l : Launch) (Z : State) (a0 : Array Value) (hw : ∀ d ∈ tables_1, d.before a0 Z = true) (a1 : Addr) (h0 : Heap) (n0 : Nat) (Z0 : n0 ≤ h0.size) (E1 : Exa Z h0 a1 "java/util/HashMap") (F1 : Fld Z h0 a1 "java/util/HashMap" "loadFactor" "F" (.float 0)) (F2 : Fld Z h0 a1 "java/util/HashMap" "threshold" "I" (.int 0)) (ge_a1 : n0 ≤ a1) :
    own_Met l Z [] (⟨"java/util/HashMap", "<init>", "(I)V"⟩ : MethodName) jdk_69_method_6_code 2 none ({ frames := 3, cells := 0, slots := 0, locals := 42 } : Room) #[(.ref a1), (.int (0 : Int32))] h0 (fun v h L => v = none ∧ Fr n0 L ∧ Keep h0 h [a1]) := by
  refine MetFree.of_bodySF (plainFor_of_name own_pn1) hisR ?_
  intro p e s m args below meth c s₁ Bd hml0 hP hK
  obtain ⟨rfl, hZ, hh⟩ := hP
  have hx := Bd.exec
  have hby := Bd.bytes
  have hml : c.maxLocals = 2 := hml0
  have hown : s.vm.findClass "java/util/HashMap" = some m.cls := findClass_of_methodNamed Bd.named
  have hnm := (name_of_methodNamed Bd.named Bd.method).1
  have hlk : meth.locks = false := Bd.notSynchronized
  have X0 : Stand p l e ({ frames := 3, cells := 0, slots := 0, locals := 42 } : Room) s m #[(.ref a1), (.int (0 : Int32))] below meth c s₁ [] 0 0 := Stand.of_body Bd
  have e0 : s₁.heap = h0 := by rw [← hh, Bd.state]; rfl
  have N0 := Fr.nil n0
  refine own_body (Q := fun v h L => v = none ∧ Fr n0 L ∧ Keep h0 h [a1]) ?_
  refine own_go (fun _ kont => castTop (own_ef m #[(.ref a1), (.int (0 : Int32))] 2 #[.val (.ref a1), .val (.int (0 : Int32))] (own_al [(.ref a1), (.int (0 : Int32))] 2 [.val (.ref a1), .val (.int (0 : Int32))] rfl)) kont) ?_
  show own_Go _ _ _ _ (s₁.setTop (mkF m 0 #[.val (.ref a1), .val (.int (0 : Int32))] []))
  have K0 : Keep h0 h0 [a1] := Keep.refl _ _
  refine own_go (fun _ kont => XS.aloadN X0.here hx rfl (hb hby own_d3_0) rfl rfl kont) ?_
  show own_Go _ _ _ _ (s₁.setTop (mkF m 1 #[.val (.ref a1), .val (.int (0 : Int32))] [(.ref a1)]))
  refine own_go (fun _ kont => XS.iloadN X0.here hx rfl (hb hby own_d3_1) rfl kont) ?_
  show own_Go _ _ _ _ (s₁.setTop (mkF m 2 #[.val (.ref a1), .val (.int (0 : Int32))] [(.int (0 : Int32)), (.ref a1)]))
  refine own_go (X0.ldcFloatC hx hown (mvT hZ (hw _ (List.mem_of_getElem? (i := 35) rfl))) (g := (mkF m 2 #[.val (.ref a1), .val (.int (0 : Int32))] [(.int (0 : Int32)), (.ref a1)])) rfl (hb hby own_d3_2)) ?_
  show own_Go _ _ _ _ (s₁.setTop (mkF m 4 #[.val (.ref a1), .val (.int (0 : Int32))] [(.float (1061158912 : UInt32)), (.int (0 : Int32)), (.ref a1)]))
  obtain ⟨_, _, ⟨T1, L1, k1, n1⟩, -, X1, ⟨Lc1, hQ1, l1, y1, z1⟩, st1⟩ := X0.specialBack hx (y := (⟨"java/util/HashMap", "<init>", "(IF)V"⟩ : MethodName)) rfl hown (mvT hZ (hw _ (List.mem_of_getElem? (i := 36) rfl))) (mvT hZ (hw _ (List.mem_of_getElem? (i := 37) rfl))) (mvT hZ (hw _ (List.mem_of_getElem? (i := 39) rfl))) (by decide) (own_back (W := 0) (own_rmH2 l Z a0 hw a1 h0 n0 Z0 E1 F1 F2 ge_a1) hZ (hw _ (List.mem_of_getElem? (i := 39) rfl)) (hw _ (List.mem_of_getElem? (i := 31) rfl)) (by decide) (by decide)) (g := (mkF m 4 #[.val (.ref a1), .val (.int (0 : Int32))] [(.float (1061158912 : UInt32)), (.int (0 : Int32)), (.ref a1)])) rfl (by rw [hml]; rfl) (Steps.refl _) (a := a1) (argsL := [(.int (0 : Int32)), (.float (1061158912 : UInt32))]) (rest := []) (lenOf own_pd3 rfl) rfl (by show 2 * 0 + _ ≤ _; exact Nat.le_of_eq rfl) (hb hby own_d3_4) (fun _ _ => ⟨rfl, e0, (by decide : 0 + 0 ≤ _), (by decide : 0 + 0 ≤ _)⟩)
  dsimp only [Pt.U, Pt.locs, Pt.cells, Pt.slots] at X1 l1 y1 z1 st1 hQ1
  subst l1 y1 z1
  obtain ⟨rfl, Nq1, K1⟩ := hQ1
  have NF1 := Fr.app N0 Nq1
  refine own_goT st1 ?_
  replace E1 := E1.keep K1
  replace Z0 := Nat.le_trans Z0 K1.1
  replace K0 := K0.trans K1 (allS (Or.inl (List.mem_of_getElem? (i := 0) rfl)) all0)
  show own_Go _ _ _ _ (T1.setTop (mkF m 7 #[.val (.ref a1), .val (.int (0 : Int32))] []))
  refine own_ret X1 hlk (v := none) (fun _ => rfl) (fun fs hr => X1.returnOut hx Bd.returns (hb hby own_d3_7) hr) ?_ (by decide) (by decide)
  skip
  exact ⟨rfl, NF1, K0⟩
theorem own_d1_0 : decode prog_16_method_1_code 0 = .ok (.aload_n 0, 1) := by decide +kernel
theorem own_d1_1 : decode prog_16_method_1_code 1 = .ok (.invokespecial 1, 3) := by decide +kernel
theorem own_d1_4 : decode prog_16_method_1_code 4 = .ok (.aload_n 0, 1) := by decide +kernel
theorem own_d1_5 : decode prog_16_method_1_code 5 = .ok (.aload_n 1, 1) := by decide +kernel
theorem own_d1_6 : decode prog_16_method_1_code 6 = .ok (.putfield 7, 3) := by decide +kernel
theorem own_d1_9 : decode prog_16_method_1_code 9 = .ok (.aload_n 0, 1) := by decide +kernel
theorem own_d1_10 : decode prog_16_method_1_code 10 = .ok (.aload_n 2, 1) := by decide +kernel
theorem own_d1_11 : decode prog_16_method_1_code 11 = .ok (.putfield 13, 3) := by decide +kernel
theorem own_d1_14 : decode prog_16_method_1_code 14 = .ok (.aload_n 0, 1) := by decide +kernel
theorem own_d1_15 : decode prog_16_method_1_code 15 = .ok (.aload_n 3, 1) := by decide +kernel
theorem own_d1_16 : decode prog_16_method_1_code 16 = .ok (.putfield 17, 3) := by decide +kernel
theorem own_d1_19 : decode prog_16_method_1_code 19 = .ok (.aload_n 0, 1) := by decide +kernel
theorem own_d1_20 : decode prog_16_method_1_code 20 = .ok (.aload 4, 2) := by decide +kernel
theorem own_d1_22 : decode prog_16_method_1_code 22 = .ok (.putfield 20, 3) := by decide +kernel
theorem own_d1_25 : decode prog_16_method_1_code 25 = .ok (.aload_n 0, 1) := by decide +kernel
theorem own_d1_26 : decode prog_16_method_1_code 26 = .ok (.aload 5, 2) := by decide +kernel
theorem own_d1_28 : decode prog_16_method_1_code 28 = .ok (.putfield 23, 3) := by decide +kernel
theorem own_d1_31 : decode prog_16_method_1_code 31 = .ok (.aload_n 0, 1) := by decide +kernel
theorem own_d1_32 : decode prog_16_method_1_code 32 = .ok (.aload 6, 2) := by decide +kernel
theorem own_d1_34 : decode prog_16_method_1_code 34 = .ok (.putfield 26, 3) := by decide +kernel
theorem own_d1_37 : decode prog_16_method_1_code 37 = .ok (.aload_n 0, 1) := by decide +kernel
theorem own_d1_38 : decode prog_16_method_1_code 38 = .ok (.aload 7, 2) := by decide +kernel
theorem own_d1_40 : decode prog_16_method_1_code 40 = .ok (.putfield 29, 3) := by decide +kernel
theorem own_d1_43 : decode prog_16_method_1_code 43 = .ok (.aload_n 0, 1) := by decide +kernel
theorem own_d1_44 : decode prog_16_method_1_code 44 = .ok (.aload 8, 2) := by decide +kernel
theorem own_d1_46 : decode prog_16_method_1_code 46 = .ok (.putfield 32, 3) := by decide +kernel
theorem own_d1_49 : decode prog_16_method_1_code 49 = .ok (.aload_n 0, 1) := by decide +kernel
theorem own_d1_50 : decode prog_16_method_1_code 50 = .ok (.new 35, 3) := by decide +kernel
theorem own_d1_53 : decode prog_16_method_1_code 53 = .ok (.dup, 1) := by decide +kernel
theorem own_d1_54 : decode prog_16_method_1_code 54 = .ok (.iconst 2, 1) := by decide +kernel
theorem own_d1_55 : decode prog_16_method_1_code 55 = .ok (.aload 4, 2) := by decide +kernel
theorem own_d1_57 : decode prog_16_method_1_code 57 = .ok (.arraylength, 1) := by decide +kernel
theorem own_d1_58 : decode prog_16_method_1_code 58 = .ok (.imul, 1) := by decide +kernel
theorem own_d1_59 : decode prog_16_method_1_code 59 = .ok (.invokespecial 37, 3) := by decide +kernel
theorem own_d1_62 : decode prog_16_method_1_code 62 = .ok (.putfield 40, 3) := by decide +kernel
theorem own_d1_65 : decode prog_16_method_1_code 65 = .ok (.iconst 0, 1) := by decide +kernel
theorem own_d1_66 : decode prog_16_method_1_code 66 = .ok (.istore 9, 2) := by decide +kernel
theorem own_d1_68 : decode prog_16_method_1_code 68 = .ok (.iload 9, 2) := by decide +kernel
theorem own_d1_70 : decode prog_16_method_1_code 70 = .ok (.aload 4, 2) := by decide +kernel
theorem own_d1_72 : decode prog_16_method_1_code 72 = .ok (.arraylength, 1) := by decide +kernel
theorem own_d1_73 : decode prog_16_method_1_code 73 = .ok (.if_icmp .ge 29, 3) := by decide +kernel
theorem own_d1_76 : decode prog_16_method_1_code 76 = .ok (.aload_n 0, 1) := by decide +kernel
theorem own_d1_77 : decode prog_16_method_1_code 77 = .ok (.getfield 40, 3) := by decide +kernel
theorem own_d1_80 : decode prog_16_method_1_code 80 = .ok (.aload 4, 2) := by decide +kernel
theorem own_d1_82 : decode prog_16_method_1_code 82 = .ok (.iload 9, 2) := by decide +kernel
theorem own_d1_84 : decode prog_16_method_1_code 84 = .ok (.aaload, 1) := by decide +kernel
theorem own_d1_85 : decode prog_16_method_1_code 85 = .ok (.iload 9, 2) := by decide +kernel
theorem own_d1_87 : decode prog_16_method_1_code 87 = .ok (.invokestatic 44, 3) := by decide +kernel
theorem own_d1_90 : decode prog_16_method_1_code 90 = .ok (.invokeinterface 50 3, 5) := by decide +kernel
theorem own_d1_95 : decode prog_16_method_1_code 95 = .ok (.pop, 1) := by decide +kernel
theorem own_d1_96 : decode prog_16_method_1_code 96 = .ok (.iinc 9 1, 3) := by decide +kernel
theorem own_d1_99 : decode prog_16_method_1_code 99 = .ok (.goto (-31), 3) := by decide +kernel
theorem own_d1_102 : decode prog_16_method_1_code 102 = .ok (.return_, 1) := by decide +kernel
theorem own_pn3 : plainName "com/example/lissage/lissage/Index" = true := by first | (simp [plainName, overriddenIn]; done) | decide +kernel
theorem own_pd4 : parseMethodDescriptor "(I)V" = some ⟨[.int], none⟩ := by decide +kernel
set_option maxRecDepth 65536 in
set_option maxHeartbeats 40000000 in
theorem own_rmI (l : Launch) (Z : State) (a0 : Array Value) (hw : ∀ d ∈ tables_1, d.before a0 Z = true) (t : Addr) (a1 : Addr) (a2 : Addr) (a3 : Addr) (a4 : Addr) (a5 : Addr) (a6 : Addr) (a7 : Addr) (a8 : Addr) (k4 : ClassId) (h0 : Heap) (n0 : Nat) (Z0 : n0 ≤ h0.size) (E1 : Exa Z h0 t "com/example/lissage/lissage/Index") (F_docnos : Fld Z h0 t "com/example/lissage/lissage/Index" "docnos" "[Ljava/lang/String;" .null) (F_documentStarts : Fld Z h0 t "com/example/lissage/lissage/Index" "documentStarts" "[I" .null) (F_documentTerms : Fld Z h0 t "com/example/lissage/lissage/Index" "documentTerms" "[I" .null) (F_terms : Fld Z h0 t "com/example/lissage/lissage/Index" "terms" "[Ljava/lang/String;" .null) (F_termStarts : Fld Z h0 t "com/example/lissage/lissage/Index" "termStarts" "[I" .null) (F_postingDocuments : Fld Z h0 t "com/example/lissage/lissage/Index" "postingDocuments" "[I" .null) (F_postingStarts : Fld Z h0 t "com/example/lissage/lissage/Index" "postingStarts" "[I" .null) (F_positions : Fld Z h0 t "com/example/lissage/lissage/Index" "positions" "[I" .null) (F_termNumbers : Fld Z h0 t "com/example/lissage/lissage/Index" "termNumbers" "Ljava/util/Map;" .null) (ge_t : n0 ≤ t) (V4 : Arv Z h0 a4 k4 (.object "java/lang/String") 0 [] .null) (ne_t_a4 : t ≠ a4) :
    own_Met l Z [] (⟨"com/example/lissage/lissage/Index", "<init>", "([Ljava/lang/String;[I[I[Ljava/lang/String;[I[I[I[I)V"⟩ : MethodName) prog_16_method_1_code 10 none ({ frames := 4, cells := 1, slots := 8, locals := 57 } : Room) #[(.ref t), (.ref a1), (.ref a2), (.ref a3), (.ref a4), (.ref a5), (.ref a6), (.ref a7), (.ref a8)] h0 (fun v h L => v = none ∧ Fr n0 L ∧ Keep h0 h [t] ∧ Exa Z h t "com/example/lissage/lissage/Index" ∧ Fld Z h t "com/example/lissage/lissage/Index" "postingStarts" "[I" (.ref a7) ∧ Fld Z h t "com/example/lissage/lissage/Index" "docnos" "[Ljava/lang/String;" (.ref a1) ∧ Fld Z h t "com/example/lissage/lissage/Index" "documentTerms" "[I" (.ref a3)) := by
  refine MetFree.of_bodySF (plainFor_of_name own_pn3) hisR ?_
  intro p e s m args below meth c s₁ Bd hml0 hP hK
  obtain ⟨rfl, hZ, hh⟩ := hP
  have hx := Bd.exec
  have hby := Bd.bytes
  have hml : c.maxLocals = 10 := hml0
  have hown : s.vm.findClass "com/example/lissage/lissage/Index" = some m.cls := findClass_of_methodNamed Bd.named
  have hnm := (name_of_methodNamed Bd.named Bd.method).1
  have hlk : meth.locks = false := Bd.notSynchronized
  have X0 : Stand p l e ({ frames := 4, cells := 1, slots := 8, locals := 57 } : Room) s m #[(.ref t), (.ref a1), (.ref a2), (.ref a3), (.ref a4), (.ref a5), (.ref a6), (.ref a7), (.ref a8)] below meth c s₁ [] 0 0 := Stand.of_body Bd
  have e0 : s₁.heap = h0 := by rw [← hh, Bd.state]; rfl
  have N0 := Fr.nil n0
  refine own_body (Q := fun v h L => v = none ∧ Fr n0 L ∧ Keep h0 h [t] ∧ Exa Z h t "com/example/lissage/lissage/Index" ∧ Fld Z h t "com/example/lissage/lissage/Index" "postingStarts" "[I" (.ref a7) ∧ Fld Z h t "com/example/lissage/lissage/Index" "docnos" "[Ljava/lang/String;" (.ref a1) ∧ Fld Z h t "com/example/lissage/lissage/Index" "documentTerms" "[I" (.ref a3)) ?_
  refine own_go (fun _ kont => castTop (own_ef m #[(.ref t), (.ref a1), (.ref a2), (.ref a3), (.ref a4), (.ref a5), (.ref a6), (.ref a7), (.ref a8)] 10 #[.val (.ref t), .val (.ref a1), .val (.ref a2), .val (.ref a3), .val (.ref a4), .val (.ref a5), .val (.ref a6), .val (.ref a7), .val (.ref a8), .unset] (own_al [(.ref t), (.ref a1), (.ref a2), (.ref a3), (.ref a4), (.ref a5), (.ref a6), (.ref a7), (.ref a8)] 10 [.val (.ref t), .val (.ref a1), .val (.ref a2), .val (.ref a3), .val (.ref a4), .val (.ref a5), .val (.ref a6), .val (.ref a7), .val (.ref a8), .unset] rfl)) kont) ?_
  show own_Go _ _ _ _ (s₁.setTop (mkF m 0 #[.val (.ref t), .val (.ref a1), .val (.ref a2), .val (.ref a3), .val (.ref a4), .val (.ref a5), .val (.ref a6), .val (.ref a7), .val (.ref a8), .unset] []))
  have K0 : Keep h0 h0 [t] := Keep.refl _ _
  refine own_go (fun _ kont => XS.aloadN X0.here hx rfl (hb hby own_d1_0) rfl rfl kont) ?_
  show own_Go _ _ _ _ (s₁.setTop (mkF m 1 #[.val (.ref t), .val (.ref a1), .val (.ref a2), .val (.ref a3), .val (.ref a4), .val (.ref a5), .val (.ref a6), .val (.ref a7), .val (.ref a8), .unset] [(.ref t)]))
  obtain ⟨T1, X1, e1, st1⟩ := initO X0 hx hZ hown (hw _ (List.mem_of_getElem? (i := 10) rfl)) (hw _ (List.mem_of_getElem? (i := 11) rfl)) (hw _ (List.mem_of_getElem? (i := 12) rfl)) e0 (g := (mkF m 1 #[.val (.ref t), .val (.ref a1), .val (.ref a2), .val (.ref a3), .val (.ref a4), .val (.ref a5), .val (.ref a6), .val (.ref a7), .val (.ref a8), .unset] [(.ref t)])) rfl (by rw [hml]; rfl) rfl (hb hby own_d1_1) (by decide) (W := 0) (by show 2 * 0 + _ ≤ _; exact Nat.le_of_eq rfl) (by decide)
  refine own_go st1 ?_
  show own_Go _ _ _ _ (T1.setTop (mkF m 4 #[.val (.ref t), .val (.ref a1), .val (.ref a2), .val (.ref a3), .val (.ref a4), .val (.ref a5), .val (.ref a6), .val (.ref a7), .val (.ref a8), .unset] []))
  refine own_go (fun _ kont => XS.aloadN X1.here hx rfl (hb hby own_d1_4) rfl rfl kont) ?_
  show own_Go _ _ _ _ (T1.setTop (mkF m 5 #[.val (.ref t), .val (.ref a1), .val (.ref a2), .val (.ref a3), .val (.ref a4), .val (.ref a5), .val (.ref a6), .val (.ref a7), .val (.ref a8), .unset] [(.ref t)]))
  refine own_go (fun _ kont => XS.aloadN X1.here hx rfl (hb hby own_d1_5) rfl rfl kont) ?_
  show own_Go _ _ _ _ (T1.setTop (mkF m 6 #[.val (.ref t), .val (.ref a1), .val (.ref a2), .val (.ref a3), .val (.ref a4), .val (.ref a5), .val (.ref a6), .val (.ref a7), .val (.ref a8), .unset] [(.ref a1), (.ref t)]))
  obtain ⟨T2, h2, X2, e2, W2, st2⟩ := putF X1 hx hZ hown (host := "") (Or.inl (hw _ (List.mem_of_getElem? (i := 13) rfl))) Via.refl e1 F_docnos E1 (Or.inr ⟨(hw _ (List.mem_of_getElem? (i := 14) rfl)), rfl, hnm⟩) (hw _ (List.mem_of_getElem? (i := 2) rfl)) (ty := (.array (.object "java/lang/String"))) (by decide) rfl rfl (g := (mkF m 6 #[.val (.ref t), .val (.ref a1), .val (.ref a2), .val (.ref a3), .val (.ref a4), .val (.ref a5), .val (.ref a6), .val (.ref a7), .val (.ref a8), .unset] [(.ref a1), (.ref t)])) rfl rfl (hb hby own_d1_6)
  refine own_go st2 ?_
  have NF2 := Fr.snoc X2 N0 ge_t
  replace F_docnos := F_docnos.same W2
  replace E1 := E1.wr W2
  replace F_documentStarts := F_documentStarts.other W2 (Or.inr (slot_ne (Or.inr (hw _ (List.mem_of_getElem? (i := 16) rfl))) (Or.inr (hw _ (List.mem_of_getElem? (i := 14) rfl))) (by decide) (t := (.array .int)) (t' := (.array (.object "java/lang/String"))) (by decide) (by decide)))
  replace F_documentTerms := F_documentTerms.other W2 (Or.inr (slot_ne (Or.inr (hw _ (List.mem_of_getElem? (i := 18) rfl))) (Or.inr (hw _ (List.mem_of_getElem? (i := 14) rfl))) (by decide) (t := (.array .int)) (t' := (.array (.object "java/lang/String"))) (by decide) (by decide)))
  replace F_terms := F_terms.other W2 (Or.inr (slot_ne (Or.inr (hw _ (List.mem_of_getElem? (i := 20) rfl))) (Or.inr (hw _ (List.mem_of_getElem? (i := 14) rfl))) (by decide) (t := (.array (.object "java/lang/String"))) (t' := (.array (.object "java/lang/String"))) (by decide) (by decide)))
  replace F_termStarts := F_termStarts.other W2 (Or.inr (slot_ne (Or.inr (hw _ (List.mem_of_getElem? (i := 22) rfl))) (Or.inr (hw _ (List.mem_of_getElem? (i := 14) rfl))) (by decide) (t := (.array .int)) (t' := (.array (.object "java/lang/String"))) (by decide) (by decide)))
  replace F_postingDocuments := F_postingDocuments.other W2 (Or.inr (slot_ne (Or.inr (hw _ (List.mem_of_getElem? (i := 24) rfl))) (Or.inr (hw _ (List.mem_of_getElem? (i := 14) rfl))) (by decide) (t := (.array .int)) (t' := (.array (.object "java/lang/String"))) (by decide) (by decide)))
  replace F_postingStarts := F_postingStarts.other W2 (Or.inr (slot_ne (Or.inr (hw _ (List.mem_of_getElem? (i := 26) rfl))) (Or.inr (hw _ (List.mem_of_getElem? (i := 14) rfl))) (by decide) (t := (.array .int)) (t' := (.array (.object "java/lang/String"))) (by decide) (by decide)))
  replace F_positions := F_positions.other W2 (Or.inr (slot_ne (Or.inr (hw _ (List.mem_of_getElem? (i := 28) rfl))) (Or.inr (hw _ (List.mem_of_getElem? (i := 14) rfl))) (by decide) (t := (.array .int)) (t' := (.array (.object "java/lang/String"))) (by decide) (by decide)))
  replace F_termNumbers := F_termNumbers.other W2 (Or.inr (slot_ne (Or.inr (hw _ (List.mem_of_getElem? (i := 64) rfl))) (Or.inr (hw _ (List.mem_of_getElem? (i := 14) rfl))) (by decide) (t := (.object "java/util/Map")) (t' := (.array (.object "java/lang/String"))) (by decide) (by decide)))
  replace V4 := V4.other W2 (Ne.symm ne_t_a4)
  replace Z0 := Nat.le_trans Z0 (Keep.of_wr W2).1
  replace K0 := K0.wr W2 (Or.inl (List.mem_of_getElem? (i := 0) rfl))
  show own_Go _ _ _ _ (T2.setTop (mkF m 9 #[.val (.ref t), .val (.ref a1), .val (.ref a2), .val (.ref a3), .val (.ref a4), .val (.ref a5), .val (.ref a6), .val (.ref a7), .val (.ref a8), .unset] []))
  refine own_go (fun _ kont => XS.aloadN X2.here hx rfl (hb hby own_d1_9) rfl rfl kont) ?_
  show own_Go _ _ _ _ (T2.setTop (mkF m 10 #[.val (.ref t), .val (.ref a1), .val (.ref a2), .val (.ref a3), .val (.ref a4), .val (.ref a5), .val (.ref a6), .val (.ref a7), .val (.ref a8), .unset] [(.ref t)]))
  refine own_go (fun _ kont => XS.aloadN X2.here hx rfl (hb hby own_d1_10) rfl rfl kont) ?_
  show own_Go _ _ _ _ (T2.setTop (mkF m 11 #[.val (.ref t), .val (.ref a1), .val (.ref a2), .val (.ref a3), .val (.ref a4), .val (.ref a5), .val (.ref a6), .val (.ref a7), .val (.ref a8), .unset] [(.ref a2), (.ref t)]))
  obtain ⟨T3, h3, X3, e3, W3, st3⟩ := putF X2 hx hZ hown (host := "") (Or.inl (hw _ (List.mem_of_getElem? (i := 15) rfl))) Via.refl e2 F_documentStarts E1 (Or.inr ⟨(hw _ (List.mem_of_getElem? (i := 16) rfl)), rfl, hnm⟩) (hw _ (List.mem_of_getElem? (i := 2) rfl)) (ty := (.array .int)) (by decide) rfl rfl (g := (mkF m 11 #[.val (.ref t), .val (.ref a1), .val (.ref a2), .val (.ref a3), .val (.ref a4), .val (.ref a5), .val (.ref a6), .val (.ref a7), .val (.ref a8), .unset] [(.ref a2), (.ref t)])) rfl rfl (hb hby own_d1_11)
  refine own_go st3 ?_
  have NF3 := Fr.snoc X3 NF2 ge_t
  replace F_documentStarts := F_documentStarts.same W3
  replace E1 := E1.wr W3
  replace F_docnos := F_docnos.other W3 (Or.inr (slot_ne (Or.inr (hw _ (List.mem_of_getElem? (i := 14) rfl))) (Or.inr (hw _ (List.mem_of_getElem? (i := 16) rfl))) (by decide) (t := (.array (.object "java/lang/String"))) (t' := (.array .int)) (by decide) (by decide)))
  replace F_documentTerms := F_documentTerms.other W3 (Or.inr (slot_ne (Or.inr (hw _ (List.mem_of_getElem? (i := 18) rfl))) (Or.inr (hw _ (List.mem_of_getElem? (i := 16) rfl))) (by decide) (t := (.array .int)) (t' := (.array .int)) (by decide) (by decide)))
  replace F_terms := F_terms.other W3 (Or.inr (slot_ne (Or.inr (hw _ (List.mem_of_getElem? (i := 20) rfl))) (Or.inr (hw _ (List.mem_of_getElem? (i := 16) rfl))) (by decide) (t := (.array (.object "java/lang/String"))) (t' := (.array .int)) (by decide) (by decide)))
  replace F_termStarts := F_termStarts.other W3 (Or.inr (slot_ne (Or.inr (hw _ (List.mem_of_getElem? (i := 22) rfl))) (Or.inr (hw _ (List.mem_of_getElem? (i := 16) rfl))) (by decide) (t := (.array .int)) (t' := (.array .int)) (by decide) (by decide)))
  replace F_postingDocuments := F_postingDocuments.other W3 (Or.inr (slot_ne (Or.inr (hw _ (List.mem_of_getElem? (i := 24) rfl))) (Or.inr (hw _ (List.mem_of_getElem? (i := 16) rfl))) (by decide) (t := (.array .int)) (t' := (.array .int)) (by decide) (by decide)))
  replace F_postingStarts := F_postingStarts.other W3 (Or.inr (slot_ne (Or.inr (hw _ (List.mem_of_getElem? (i := 26) rfl))) (Or.inr (hw _ (List.mem_of_getElem? (i := 16) rfl))) (by decide) (t := (.array .int)) (t' := (.array .int)) (by decide) (by decide)))
  replace F_positions := F_positions.other W3 (Or.inr (slot_ne (Or.inr (hw _ (List.mem_of_getElem? (i := 28) rfl))) (Or.inr (hw _ (List.mem_of_getElem? (i := 16) rfl))) (by decide) (t := (.array .int)) (t' := (.array .int)) (by decide) (by decide)))
  replace F_termNumbers := F_termNumbers.other W3 (Or.inr (slot_ne (Or.inr (hw _ (List.mem_of_getElem? (i := 64) rfl))) (Or.inr (hw _ (List.mem_of_getElem? (i := 16) rfl))) (by decide) (t := (.object "java/util/Map")) (t' := (.array .int)) (by decide) (by decide)))
  replace V4 := V4.other W3 (Ne.symm ne_t_a4)
  replace Z0 := Nat.le_trans Z0 (Keep.of_wr W3).1
  replace K0 := K0.wr W3 (Or.inl (List.mem_of_getElem? (i := 0) rfl))
  show own_Go _ _ _ _ (T3.setTop (mkF m 14 #[.val (.ref t), .val (.ref a1), .val (.ref a2), .val (.ref a3), .val (.ref a4), .val (.ref a5), .val (.ref a6), .val (.ref a7), .val (.ref a8), .unset] []))
  refine own_go (fun _ kont => XS.aloadN X3.here hx rfl (hb hby own_d1_14) rfl rfl kont) ?_
  show own_Go _ _ _ _ (T3.setTop (mkF m 15 #[.val (.ref t), .val (.ref a1), .val (.ref a2), .val (.ref a3), .val (.ref a4), .val (.ref a5), .val (.ref a6), .val (.ref a7), .val (.ref a8), .unset] [(.ref t)]))
  refine own_go (fun _ kont => XS.aloadN X3.here hx rfl (hb hby own_d1_15) rfl rfl kont) ?_
  show own_Go _ _ _ _ (T3.setTop (mkF m 16 #[.val (.ref t), .val (.ref a1), .val (.ref a2), .val (.ref a3), .val (.ref a4), .val (.ref a5), .val (.ref a6), .val (.ref a7), .val (.ref a8), .unset] [(.ref a3), (.ref t)]))
  obtain ⟨T4, h4, X4, e4, W4, st4⟩ := putF X3 hx hZ hown (host := "") (Or.inl (hw _ (List.mem_of_getElem? (i := 17) rfl))) Via.refl e3 F_documentTerms E1 (Or.inr ⟨(hw _ (List.mem_of_getElem? (i := 18) rfl)), rfl, hnm⟩) (hw _ (List.mem_of_getElem? (i := 2) rfl)) (ty := (.array .int)) (by decide) rfl rfl (g := (mkF m 16 #[.val (.ref t), .val (.ref a1), .val (.ref a2), .val (.ref a3), .val (.ref a4), .val (.ref a5), .val (.ref a6), .val (.ref a7), .val (.ref a8), .unset] [(.ref a3), (.ref t)])) rfl rfl (hb hby own_d1_16)
  refine own_go st4 ?_
  have NF4 := Fr.snoc X4 NF3 ge_t
  replace F_documentTerms := F_documentTerms.same W4
  replace E1 := E1.wr W4
  replace F_docnos := F_docnos.other W4 (Or.inr (slot_ne (Or.inr (hw _ (List.mem_of_getElem? (i := 14) rfl))) (Or.inr (hw _ (List.mem_of_getElem? (i := 18) rfl))) (by decide) (t := (.array (.object "java/lang/String"))) (t' := (.array .int)) (by decide) (by decide)))
  replace F_documentStarts := F_documentStarts.other W4 (Or.inr (slot_ne (Or.inr (hw _ (List.mem_of_getElem? (i := 16) rfl))) (Or.inr (hw _ (List.mem_of_getElem? (i := 18) rfl))) (by decide) (t := (.array .int)) (t' := (.array .int)) (by decide) (by decide)))
  replace F_terms := F_terms.other W4 (Or.inr (slot_ne (Or.inr (hw _ (List.mem_of_getElem? (i := 20) rfl))) (Or.inr (hw _ (List.mem_of_getElem? (i := 18) rfl))) (by decide) (t := (.array (.object "java/lang/String"))) (t' := (.array .int)) (by decide) (by decide)))
  replace F_termStarts := F_termStarts.other W4 (Or.inr (slot_ne (Or.inr (hw _ (List.mem_of_getElem? (i := 22) rfl))) (Or.inr (hw _ (List.mem_of_getElem? (i := 18) rfl))) (by decide) (t := (.array .int)) (t' := (.array .int)) (by decide) (by decide)))
  replace F_postingDocuments := F_postingDocuments.other W4 (Or.inr (slot_ne (Or.inr (hw _ (List.mem_of_getElem? (i := 24) rfl))) (Or.inr (hw _ (List.mem_of_getElem? (i := 18) rfl))) (by decide) (t := (.array .int)) (t' := (.array .int)) (by decide) (by decide)))
  replace F_postingStarts := F_postingStarts.other W4 (Or.inr (slot_ne (Or.inr (hw _ (List.mem_of_getElem? (i := 26) rfl))) (Or.inr (hw _ (List.mem_of_getElem? (i := 18) rfl))) (by decide) (t := (.array .int)) (t' := (.array .int)) (by decide) (by decide)))
  replace F_positions := F_positions.other W4 (Or.inr (slot_ne (Or.inr (hw _ (List.mem_of_getElem? (i := 28) rfl))) (Or.inr (hw _ (List.mem_of_getElem? (i := 18) rfl))) (by decide) (t := (.array .int)) (t' := (.array .int)) (by decide) (by decide)))
  replace F_termNumbers := F_termNumbers.other W4 (Or.inr (slot_ne (Or.inr (hw _ (List.mem_of_getElem? (i := 64) rfl))) (Or.inr (hw _ (List.mem_of_getElem? (i := 18) rfl))) (by decide) (t := (.object "java/util/Map")) (t' := (.array .int)) (by decide) (by decide)))
  replace V4 := V4.other W4 (Ne.symm ne_t_a4)
  replace Z0 := Nat.le_trans Z0 (Keep.of_wr W4).1
  replace K0 := K0.wr W4 (Or.inl (List.mem_of_getElem? (i := 0) rfl))
  show own_Go _ _ _ _ (T4.setTop (mkF m 19 #[.val (.ref t), .val (.ref a1), .val (.ref a2), .val (.ref a3), .val (.ref a4), .val (.ref a5), .val (.ref a6), .val (.ref a7), .val (.ref a8), .unset] []))
  refine own_go (fun _ kont => XS.aloadN X4.here hx rfl (hb hby own_d1_19) rfl rfl kont) ?_
  show own_Go _ _ _ _ (T4.setTop (mkF m 20 #[.val (.ref t), .val (.ref a1), .val (.ref a2), .val (.ref a3), .val (.ref a4), .val (.ref a5), .val (.ref a6), .val (.ref a7), .val (.ref a8), .unset] [(.ref t)]))
  refine own_go (fun _ kont => XS.aload X4.here hx rfl (hb hby own_d1_20) rfl rfl kont) ?_
  show own_Go _ _ _ _ (T4.setTop (mkF m 22 #[.val (.ref t), .val (.ref a1), .val (.ref a2), .val (.ref a3), .val (.ref a4), .val (.ref a5), .val (.ref a6), .val (.ref a7), .val (.ref a8), .unset] [(.ref a4), (.ref t)]))
  obtain ⟨T5, h5, X5, e5, W5, st5⟩ := putF X4 hx hZ hown (host := "") (Or.inl (hw _ (List.mem_of_getElem? (i := 19) rfl))) Via.refl e4 F_terms E1 (Or.inr ⟨(hw _ (List.mem_of_getElem? (i := 20) rfl)), rfl, hnm⟩) (hw _ (List.mem_of_getElem? (i := 2) rfl)) (ty := (.array (.object "java/lang/String"))) (by decide) rfl rfl (g := (mkF m 22 #[.val (.ref t), .val (.ref a1), .val (.ref a2), .val (.ref a3), .val (.ref a4), .val (.ref a5), .val (.ref a6), .val (.ref a7), .val (.ref a8), .unset] [(.ref a4), (.ref t)])) rfl rfl (hb hby own_d1_22)
  refine own_go st5 ?_
  have NF5 := Fr.snoc X5 NF4 ge_t
  replace F_terms := F_terms.same W5
  replace E1 := E1.wr W5
  replace F_docnos := F_docnos.other W5 (Or.inr (slot_ne (Or.inr (hw _ (List.mem_of_getElem? (i := 14) rfl))) (Or.inr (hw _ (List.mem_of_getElem? (i := 20) rfl))) (by decide) (t := (.array (.object "java/lang/String"))) (t' := (.array (.object "java/lang/String"))) (by decide) (by decide)))
  replace F_documentStarts := F_documentStarts.other W5 (Or.inr (slot_ne (Or.inr (hw _ (List.mem_of_getElem? (i := 16) rfl))) (Or.inr (hw _ (List.mem_of_getElem? (i := 20) rfl))) (by decide) (t := (.array .int)) (t' := (.array (.object "java/lang/String"))) (by decide) (by decide)))
  replace F_documentTerms := F_documentTerms.other W5 (Or.inr (slot_ne (Or.inr (hw _ (List.mem_of_getElem? (i := 18) rfl))) (Or.inr (hw _ (List.mem_of_getElem? (i := 20) rfl))) (by decide) (t := (.array .int)) (t' := (.array (.object "java/lang/String"))) (by decide) (by decide)))
  replace F_termStarts := F_termStarts.other W5 (Or.inr (slot_ne (Or.inr (hw _ (List.mem_of_getElem? (i := 22) rfl))) (Or.inr (hw _ (List.mem_of_getElem? (i := 20) rfl))) (by decide) (t := (.array .int)) (t' := (.array (.object "java/lang/String"))) (by decide) (by decide)))
  replace F_postingDocuments := F_postingDocuments.other W5 (Or.inr (slot_ne (Or.inr (hw _ (List.mem_of_getElem? (i := 24) rfl))) (Or.inr (hw _ (List.mem_of_getElem? (i := 20) rfl))) (by decide) (t := (.array .int)) (t' := (.array (.object "java/lang/String"))) (by decide) (by decide)))
  replace F_postingStarts := F_postingStarts.other W5 (Or.inr (slot_ne (Or.inr (hw _ (List.mem_of_getElem? (i := 26) rfl))) (Or.inr (hw _ (List.mem_of_getElem? (i := 20) rfl))) (by decide) (t := (.array .int)) (t' := (.array (.object "java/lang/String"))) (by decide) (by decide)))
  replace F_positions := F_positions.other W5 (Or.inr (slot_ne (Or.inr (hw _ (List.mem_of_getElem? (i := 28) rfl))) (Or.inr (hw _ (List.mem_of_getElem? (i := 20) rfl))) (by decide) (t := (.array .int)) (t' := (.array (.object "java/lang/String"))) (by decide) (by decide)))
  replace F_termNumbers := F_termNumbers.other W5 (Or.inr (slot_ne (Or.inr (hw _ (List.mem_of_getElem? (i := 64) rfl))) (Or.inr (hw _ (List.mem_of_getElem? (i := 20) rfl))) (by decide) (t := (.object "java/util/Map")) (t' := (.array (.object "java/lang/String"))) (by decide) (by decide)))
  replace V4 := V4.other W5 (Ne.symm ne_t_a4)
  replace Z0 := Nat.le_trans Z0 (Keep.of_wr W5).1
  replace K0 := K0.wr W5 (Or.inl (List.mem_of_getElem? (i := 0) rfl))
  show own_Go _ _ _ _ (T5.setTop (mkF m 25 #[.val (.ref t), .val (.ref a1), .val (.ref a2), .val (.ref a3), .val (.ref a4), .val (.ref a5), .val (.ref a6), .val (.ref a7), .val (.ref a8), .unset] []))
  refine own_go (fun _ kont => XS.aloadN X5.here hx rfl (hb hby own_d1_25) rfl rfl kont) ?_
  show own_Go _ _ _ _ (T5.setTop (mkF m 26 #[.val (.ref t), .val (.ref a1), .val (.ref a2), .val (.ref a3), .val (.ref a4), .val (.ref a5), .val (.ref a6), .val (.ref a7), .val (.ref a8), .unset] [(.ref t)]))
  refine own_go (fun _ kont => XS.aload X5.here hx rfl (hb hby own_d1_26) rfl rfl kont) ?_
  show own_Go _ _ _ _ (T5.setTop (mkF m 28 #[.val (.ref t), .val (.ref a1), .val (.ref a2), .val (.ref a3), .val (.ref a4), .val (.ref a5), .val (.ref a6), .val (.ref a7), .val (.ref a8), .unset] [(.ref a5), (.ref t)]))
  obtain ⟨T6, h6, X6, e6, W6, st6⟩ := putF X5 hx hZ hown (host := "") (Or.inl (hw _ (List.mem_of_getElem? (i := 21) rfl))) Via.refl e5 F_termStarts E1 (Or.inr ⟨(hw _ (List.mem_of_getElem? (i := 22) rfl)), rfl, hnm⟩) (hw _ (List.mem_of_getElem? (i := 2) rfl)) (ty := (.array .int)) (by decide) rfl rfl (g := (mkF m 28 #[.val (.ref t), .val (.ref a1), .val (.ref a2), .val (.ref a3), .val (.ref a4), .val (.ref a5), .val (.ref a6), .val (.ref a7), .val (.ref a8), .unset] [(.ref a5), (.ref t)])) rfl rfl (hb hby own_d1_28)
  refine own_go st6 ?_
  have NF6 := Fr.snoc X6 NF5 ge_t
  replace F_termStarts := F_termStarts.same W6
  replace E1 := E1.wr W6
  replace F_docnos := F_docnos.other W6 (Or.inr (slot_ne (Or.inr (hw _ (List.mem_of_getElem? (i := 14) rfl))) (Or.inr (hw _ (List.mem_of_getElem? (i := 22) rfl))) (by decide) (t := (.array (.object "java/lang/String"))) (t' := (.array .int)) (by decide) (by decide)))
  replace F_documentStarts := F_documentStarts.other W6 (Or.inr (slot_ne (Or.inr (hw _ (List.mem_of_getElem? (i := 16) rfl))) (Or.inr (hw _ (List.mem_of_getElem? (i := 22) rfl))) (by decide) (t := (.array .int)) (t' := (.array .int)) (by decide) (by decide)))
  replace F_documentTerms := F_documentTerms.other W6 (Or.inr (slot_ne (Or.inr (hw _ (List.mem_of_getElem? (i := 18) rfl))) (Or.inr (hw _ (List.mem_of_getElem? (i := 22) rfl))) (by decide) (t := (.array .int)) (t' := (.array .int)) (by decide) (by decide)))
  replace F_terms := F_terms.other W6 (Or.inr (slot_ne (Or.inr (hw _ (List.mem_of_getElem? (i := 20) rfl))) (Or.inr (hw _ (List.mem_of_getElem? (i := 22) rfl))) (by decide) (t := (.array (.object "java/lang/String"))) (t' := (.array .int)) (by decide) (by decide)))
  replace F_postingDocuments := F_postingDocuments.other W6 (Or.inr (slot_ne (Or.inr (hw _ (List.mem_of_getElem? (i := 24) rfl))) (Or.inr (hw _ (List.mem_of_getElem? (i := 22) rfl))) (by decide) (t := (.array .int)) (t' := (.array .int)) (by decide) (by decide)))
  replace F_postingStarts := F_postingStarts.other W6 (Or.inr (slot_ne (Or.inr (hw _ (List.mem_of_getElem? (i := 26) rfl))) (Or.inr (hw _ (List.mem_of_getElem? (i := 22) rfl))) (by decide) (t := (.array .int)) (t' := (.array .int)) (by decide) (by decide)))
  replace F_positions := F_positions.other W6 (Or.inr (slot_ne (Or.inr (hw _ (List.mem_of_getElem? (i := 28) rfl))) (Or.inr (hw _ (List.mem_of_getElem? (i := 22) rfl))) (by decide) (t := (.array .int)) (t' := (.array .int)) (by decide) (by decide)))
  replace F_termNumbers := F_termNumbers.other W6 (Or.inr (slot_ne (Or.inr (hw _ (List.mem_of_getElem? (i := 64) rfl))) (Or.inr (hw _ (List.mem_of_getElem? (i := 22) rfl))) (by decide) (t := (.object "java/util/Map")) (t' := (.array .int)) (by decide) (by decide)))
  replace V4 := V4.other W6 (Ne.symm ne_t_a4)
  replace Z0 := Nat.le_trans Z0 (Keep.of_wr W6).1
  replace K0 := K0.wr W6 (Or.inl (List.mem_of_getElem? (i := 0) rfl))
  show own_Go _ _ _ _ (T6.setTop (mkF m 31 #[.val (.ref t), .val (.ref a1), .val (.ref a2), .val (.ref a3), .val (.ref a4), .val (.ref a5), .val (.ref a6), .val (.ref a7), .val (.ref a8), .unset] []))
  refine own_go (fun _ kont => XS.aloadN X6.here hx rfl (hb hby own_d1_31) rfl rfl kont) ?_
  show own_Go _ _ _ _ (T6.setTop (mkF m 32 #[.val (.ref t), .val (.ref a1), .val (.ref a2), .val (.ref a3), .val (.ref a4), .val (.ref a5), .val (.ref a6), .val (.ref a7), .val (.ref a8), .unset] [(.ref t)]))
  refine own_go (fun _ kont => XS.aload X6.here hx rfl (hb hby own_d1_32) rfl rfl kont) ?_
  show own_Go _ _ _ _ (T6.setTop (mkF m 34 #[.val (.ref t), .val (.ref a1), .val (.ref a2), .val (.ref a3), .val (.ref a4), .val (.ref a5), .val (.ref a6), .val (.ref a7), .val (.ref a8), .unset] [(.ref a6), (.ref t)]))
  obtain ⟨T7, h7, X7, e7, W7, st7⟩ := putF X6 hx hZ hown (host := "") (Or.inl (hw _ (List.mem_of_getElem? (i := 23) rfl))) Via.refl e6 F_postingDocuments E1 (Or.inr ⟨(hw _ (List.mem_of_getElem? (i := 24) rfl)), rfl, hnm⟩) (hw _ (List.mem_of_getElem? (i := 2) rfl)) (ty := (.array .int)) (by decide) rfl rfl (g := (mkF m 34 #[.val (.ref t), .val (.ref a1), .val (.ref a2), .val (.ref a3), .val (.ref a4), .val (.ref a5), .val (.ref a6), .val (.ref a7), .val (.ref a8), .unset] [(.ref a6), (.ref t)])) rfl rfl (hb hby own_d1_34)
  refine own_go st7 ?_
  have NF7 := Fr.snoc X7 NF6 ge_t
  replace F_postingDocuments := F_postingDocuments.same W7
  replace E1 := E1.wr W7
  replace F_docnos := F_docnos.other W7 (Or.inr (slot_ne (Or.inr (hw _ (List.mem_of_getElem? (i := 14) rfl))) (Or.inr (hw _ (List.mem_of_getElem? (i := 24) rfl))) (by decide) (t := (.array (.object "java/lang/String"))) (t' := (.array .int)) (by decide) (by decide)))
  replace F_documentStarts := F_documentStarts.other W7 (Or.inr (slot_ne (Or.inr (hw _ (List.mem_of_getElem? (i := 16) rfl))) (Or.inr (hw _ (List.mem_of_getElem? (i := 24) rfl))) (by decide) (t := (.array .int)) (t' := (.array .int)) (by decide) (by decide)))
  replace F_documentTerms := F_documentTerms.other W7 (Or.inr (slot_ne (Or.inr (hw _ (List.mem_of_getElem? (i := 18) rfl))) (Or.inr (hw _ (List.mem_of_getElem? (i := 24) rfl))) (by decide) (t := (.array .int)) (t' := (.array .int)) (by decide) (by decide)))
  replace F_terms := F_terms.other W7 (Or.inr (slot_ne (Or.inr (hw _ (List.mem_of_getElem? (i := 20) rfl))) (Or.inr (hw _ (List.mem_of_getElem? (i := 24) rfl))) (by decide) (t := (.array (.object "java/lang/String"))) (t' := (.array .int)) (by decide) (by decide)))
  replace F_termStarts := F_termStarts.other W7 (Or.inr (slot_ne (Or.inr (hw _ (List.mem_of_getElem? (i := 22) rfl))) (Or.inr (hw _ (List.mem_of_getElem? (i := 24) rfl))) (by decide) (t := (.array .int)) (t' := (.array .int)) (by decide) (by decide)))
  replace F_postingStarts := F_postingStarts.other W7 (Or.inr (slot_ne (Or.inr (hw _ (List.mem_of_getElem? (i := 26) rfl))) (Or.inr (hw _ (List.mem_of_getElem? (i := 24) rfl))) (by decide) (t := (.array .int)) (t' := (.array .int)) (by decide) (by decide)))
  replace F_positions := F_positions.other W7 (Or.inr (slot_ne (Or.inr (hw _ (List.mem_of_getElem? (i := 28) rfl))) (Or.inr (hw _ (List.mem_of_getElem? (i := 24) rfl))) (by decide) (t := (.array .int)) (t' := (.array .int)) (by decide) (by decide)))
  replace F_termNumbers := F_termNumbers.other W7 (Or.inr (slot_ne (Or.inr (hw _ (List.mem_of_getElem? (i := 64) rfl))) (Or.inr (hw _ (List.mem_of_getElem? (i := 24) rfl))) (by decide) (t := (.object "java/util/Map")) (t' := (.array .int)) (by decide) (by decide)))
  replace V4 := V4.other W7 (Ne.symm ne_t_a4)
  replace Z0 := Nat.le_trans Z0 (Keep.of_wr W7).1
  replace K0 := K0.wr W7 (Or.inl (List.mem_of_getElem? (i := 0) rfl))
  show own_Go _ _ _ _ (T7.setTop (mkF m 37 #[.val (.ref t), .val (.ref a1), .val (.ref a2), .val (.ref a3), .val (.ref a4), .val (.ref a5), .val (.ref a6), .val (.ref a7), .val (.ref a8), .unset] []))
  refine own_go (fun _ kont => XS.aloadN X7.here hx rfl (hb hby own_d1_37) rfl rfl kont) ?_
  show own_Go _ _ _ _ (T7.setTop (mkF m 38 #[.val (.ref t), .val (.ref a1), .val (.ref a2), .val (.ref a3), .val (.ref a4), .val (.ref a5), .val (.ref a6), .val (.ref a7), .val (.ref a8), .unset] [(.ref t)]))
  refine own_go (fun _ kont => XS.aload X7.here hx rfl (hb hby own_d1_38) rfl rfl kont) ?_
  show own_Go _ _ _ _ (T7.setTop (mkF m 40 #[.val (.ref t), .val (.ref a1), .val (.ref a2), .val (.ref a3), .val (.ref a4), .val (.ref a5), .val (.ref a6), .val (.ref a7), .val (.ref a8), .unset] [(.ref a7), (.ref t)]))
  obtain ⟨T8, h8, X8, e8, W8, st8⟩ := putF X7 hx hZ hown (host := "") (Or.inl (hw _ (List.mem_of_getElem? (i := 25) rfl))) Via.refl e7 F_postingStarts E1 (Or.inr ⟨(hw _ (List.mem_of_getElem? (i := 26) rfl)), rfl, hnm⟩) (hw _ (List.mem_of_getElem? (i := 2) rfl)) (ty := (.array .int)) (by decide) rfl rfl (g := (mkF m 40 #[.val (.ref t), .val (.ref a1), .val (.ref a2), .val (.ref a3), .val (.ref a4), .val (.ref a5), .val (.ref a6), .val (.ref a7), .val (.ref a8), .unset] [(.ref a7), (.ref t)])) rfl rfl (hb hby own_d1_40)
  refine own_go st8 ?_
  have NF8 := Fr.snoc X8 NF7 ge_t
  replace F_postingStarts := F_postingStarts.same W8
  replace E1 := E1.wr W8
  replace F_docnos := F_docnos.other W8 (Or.inr (slot_ne (Or.inr (hw _ (List.mem_of_getElem? (i := 14) rfl))) (Or.inr (hw _ (List.mem_of_getElem? (i := 26) rfl))) (by decide) (t := (.array (.object "java/lang/String"))) (t' := (.array .int)) (by decide) (by decide)))
  replace F_documentStarts := F_documentStarts.other W8 (Or.inr (slot_ne (Or.inr (hw _ (List.mem_of_getElem? (i := 16) rfl))) (Or.inr (hw _ (List.mem_of_getElem? (i := 26) rfl))) (by decide) (t := (.array .int)) (t' := (.array .int)) (by decide) (by decide)))
  replace F_documentTerms := F_documentTerms.other W8 (Or.inr (slot_ne (Or.inr (hw _ (List.mem_of_getElem? (i := 18) rfl))) (Or.inr (hw _ (List.mem_of_getElem? (i := 26) rfl))) (by decide) (t := (.array .int)) (t' := (.array .int)) (by decide) (by decide)))
  replace F_terms := F_terms.other W8 (Or.inr (slot_ne (Or.inr (hw _ (List.mem_of_getElem? (i := 20) rfl))) (Or.inr (hw _ (List.mem_of_getElem? (i := 26) rfl))) (by decide) (t := (.array (.object "java/lang/String"))) (t' := (.array .int)) (by decide) (by decide)))
  replace F_termStarts := F_termStarts.other W8 (Or.inr (slot_ne (Or.inr (hw _ (List.mem_of_getElem? (i := 22) rfl))) (Or.inr (hw _ (List.mem_of_getElem? (i := 26) rfl))) (by decide) (t := (.array .int)) (t' := (.array .int)) (by decide) (by decide)))
  replace F_postingDocuments := F_postingDocuments.other W8 (Or.inr (slot_ne (Or.inr (hw _ (List.mem_of_getElem? (i := 24) rfl))) (Or.inr (hw _ (List.mem_of_getElem? (i := 26) rfl))) (by decide) (t := (.array .int)) (t' := (.array .int)) (by decide) (by decide)))
  replace F_positions := F_positions.other W8 (Or.inr (slot_ne (Or.inr (hw _ (List.mem_of_getElem? (i := 28) rfl))) (Or.inr (hw _ (List.mem_of_getElem? (i := 26) rfl))) (by decide) (t := (.array .int)) (t' := (.array .int)) (by decide) (by decide)))
  replace F_termNumbers := F_termNumbers.other W8 (Or.inr (slot_ne (Or.inr (hw _ (List.mem_of_getElem? (i := 64) rfl))) (Or.inr (hw _ (List.mem_of_getElem? (i := 26) rfl))) (by decide) (t := (.object "java/util/Map")) (t' := (.array .int)) (by decide) (by decide)))
  replace V4 := V4.other W8 (Ne.symm ne_t_a4)
  replace Z0 := Nat.le_trans Z0 (Keep.of_wr W8).1
  replace K0 := K0.wr W8 (Or.inl (List.mem_of_getElem? (i := 0) rfl))
  show own_Go _ _ _ _ (T8.setTop (mkF m 43 #[.val (.ref t), .val (.ref a1), .val (.ref a2), .val (.ref a3), .val (.ref a4), .val (.ref a5), .val (.ref a6), .val (.ref a7), .val (.ref a8), .unset] []))
  refine own_go (fun _ kont => XS.aloadN X8.here hx rfl (hb hby own_d1_43) rfl rfl kont) ?_
  show own_Go _ _ _ _ (T8.setTop (mkF m 44 #[.val (.ref t), .val (.ref a1), .val (.ref a2), .val (.ref a3), .val (.ref a4), .val (.ref a5), .val (.ref a6), .val (.ref a7), .val (.ref a8), .unset] [(.ref t)]))
  refine own_go (fun _ kont => XS.aload X8.here hx rfl (hb hby own_d1_44) rfl rfl kont) ?_
  show own_Go _ _ _ _ (T8.setTop (mkF m 46 #[.val (.ref t), .val (.ref a1), .val (.ref a2), .val (.ref a3), .val (.ref a4), .val (.ref a5), .val (.ref a6), .val (.ref a7), .val (.ref a8), .unset] [(.ref a8), (.ref t)]))
  obtain ⟨T9, h9, X9, e9, W9, st9⟩ := putF X8 hx hZ hown (host := "") (Or.inl (hw _ (List.mem_of_getElem? (i := 27) rfl))) Via.refl e8 F_positions E1 (Or.inr ⟨(hw _ (List.mem_of_getElem? (i := 28) rfl)), rfl, hnm⟩) (hw _ (List.mem_of_getElem? (i := 2) rfl)) (ty := (.array .int)) (by decide) rfl rfl (g := (mkF m 46 #[.val (.ref t), .val (.ref a1), .val (.ref a2), .val (.ref a3), .val (.ref a4), .val (.ref a5), .val (.ref a6), .val (.ref a7), .val (.ref a8), .unset] [(.ref a8), (.ref t)])) rfl rfl (hb hby own_d1_46)
  refine own_go st9 ?_
  have NF9 := Fr.snoc X9 NF8 ge_t
  replace F_positions := F_positions.same W9
  replace E1 := E1.wr W9
  replace F_docnos := F_docnos.other W9 (Or.inr (slot_ne (Or.inr (hw _ (List.mem_of_getElem? (i := 14) rfl))) (Or.inr (hw _ (List.mem_of_getElem? (i := 28) rfl))) (by decide) (t := (.array (.object "java/lang/String"))) (t' := (.array .int)) (by decide) (by decide)))
  replace F_documentStarts := F_documentStarts.other W9 (Or.inr (slot_ne (Or.inr (hw _ (List.mem_of_getElem? (i := 16) rfl))) (Or.inr (hw _ (List.mem_of_getElem? (i := 28) rfl))) (by decide) (t := (.array .int)) (t' := (.array .int)) (by decide) (by decide)))
  replace F_documentTerms := F_documentTerms.other W9 (Or.inr (slot_ne (Or.inr (hw _ (List.mem_of_getElem? (i := 18) rfl))) (Or.inr (hw _ (List.mem_of_getElem? (i := 28) rfl))) (by decide) (t := (.array .int)) (t' := (.array .int)) (by decide) (by decide)))
  replace F_terms := F_terms.other W9 (Or.inr (slot_ne (Or.inr (hw _ (List.mem_of_getElem? (i := 20) rfl))) (Or.inr (hw _ (List.mem_of_getElem? (i := 28) rfl))) (by decide) (t := (.array (.object "java/lang/String"))) (t' := (.array .int)) (by decide) (by decide)))
  replace F_termStarts := F_termStarts.other W9 (Or.inr (slot_ne (Or.inr (hw _ (List.mem_of_getElem? (i := 22) rfl))) (Or.inr (hw _ (List.mem_of_getElem? (i := 28) rfl))) (by decide) (t := (.array .int)) (t' := (.array .int)) (by decide) (by decide)))
  replace F_postingDocuments := F_postingDocuments.other W9 (Or.inr (slot_ne (Or.inr (hw _ (List.mem_of_getElem? (i := 24) rfl))) (Or.inr (hw _ (List.mem_of_getElem? (i := 28) rfl))) (by decide) (t := (.array .int)) (t' := (.array .int)) (by decide) (by decide)))
  replace F_postingStarts := F_postingStarts.other W9 (Or.inr (slot_ne (Or.inr (hw _ (List.mem_of_getElem? (i := 26) rfl))) (Or.inr (hw _ (List.mem_of_getElem? (i := 28) rfl))) (by decide) (t := (.array .int)) (t' := (.array .int)) (by decide) (by decide)))
  replace F_termNumbers := F_termNumbers.other W9 (Or.inr (slot_ne (Or.inr (hw _ (List.mem_of_getElem? (i := 64) rfl))) (Or.inr (hw _ (List.mem_of_getElem? (i := 28) rfl))) (by decide) (t := (.object "java/util/Map")) (t' := (.array .int)) (by decide) (by decide)))
  replace V4 := V4.other W9 (Ne.symm ne_t_a4)
  replace Z0 := Nat.le_trans Z0 (Keep.of_wr W9).1
  replace K0 := K0.wr W9 (Or.inl (List.mem_of_getElem? (i := 0) rfl))
  show own_Go _ _ _ _ (T9.setTop (mkF m 49 #[.val (.ref t), .val (.ref a1), .val (.ref a2), .val (.ref a3), .val (.ref a4), .val (.ref a5), .val (.ref a6), .val (.ref a7), .val (.ref a8), .unset] []))
  refine own_go (fun _ kont => XS.aloadN X9.here hx rfl (hb hby own_d1_49) rfl rfl kont) ?_
  show own_Go _ _ _ _ (T9.setTop (mkF m 50 #[.val (.ref t), .val (.ref a1), .val (.ref a2), .val (.ref a3), .val (.ref a4), .val (.ref a5), .val (.ref a6), .val (.ref a7), .val (.ref a8), .unset] [(.ref t)]))
  obtain ⟨T10, h10, X10, e10, E10, A10, D10, -, st10⟩ := newO X9 hx hZ hown (hw _ (List.mem_of_getElem? (i := 29) rfl)) (hw _ (List.mem_of_getElem? (i := 30) rfl)) (hw _ (List.mem_of_getElem? (i := 31) rfl)) e9 (g := (mkF m 50 #[.val (.ref t), .val (.ref a1), .val (.ref a2), .val (.ref a3), .val (.ref a4), .val (.ref a5), .val (.ref a6), .val (.ref a7), .val (.ref a8), .unset] [(.ref t)])) rfl (hb hby own_d1_50) (by decide) (by decide)
  obtain ⟨b10, g10⟩ : ∃ z, z = h9.size := ⟨_, rfl⟩
  rw [← g10] at A10 D10 st10
  refine own_go st10 ?_
  have ge_b10 : n0 ≤ b10 := Nat.le_trans Z0 (Nat.le_of_eq g10.symm)
  have ne_t_b10 : t ≠ b10 := Nat.ne_of_lt (Nat.lt_of_lt_of_le E1.lt (Nat.le_of_eq g10.symm))
  have ne_a4_b10 : a4 ≠ b10 := Nat.ne_of_lt (Nat.lt_of_lt_of_le V4.lt (Nat.le_of_eq g10.symm))
  have sz_b10 : h0.size ≤ b10 := Nat.le_trans K0.1 (Nat.le_of_eq g10.symm)
  replace E1 := E1.ext E10
  replace F_docnos := F_docnos.ext E10
  replace F_documentStarts := F_documentStarts.ext E10
  replace F_documentTerms := F_documentTerms.ext E10
  replace F_terms := F_terms.ext E10
  replace F_termStarts := F_termStarts.ext E10
  replace F_postingDocuments := F_postingDocuments.ext E10
  replace F_postingStarts := F_postingStarts.ext E10
  replace F_positions := F_positions.ext E10
  replace F_termNumbers := F_termNumbers.ext E10
  replace V4 := V4.ext E10
  replace Z0 := Nat.le_trans Z0 E10.1
  replace K0 := K0.ext E10
  have F_loadFactor_b10 : Fld Z h10 b10 "java/util/HashMap" "loadFactor" "F" (.float (0 : UInt32)) := D10 (Or.inr (hw _ (List.mem_of_getElem? (i := 53) rfl))) (ty := .float) (by decide)
  have F_threshold_b10 : Fld Z h10 b10 "java/util/HashMap" "threshold" "I" (.int (0 : Int32)) := D10 (Or.inl (hw _ (List.mem_of_getElem? (i := 62) rfl))) (ty := .int) (by decide)
  show own_Go _ _ _ _ (T10.setTop (mkF m 53 #[.val (.ref t), .val (.ref a1), .val (.ref a2), .val (.ref a3), .val (.ref a4), .val (.ref a5), .val (.ref a6), .val (.ref a7), .val (.ref a8), .unset] [(.ref b10), (.ref t)]))
  refine own_go (fun _ kont => XS.dup X10.here hx rfl (hb hby own_d1_53) rfl rfl kont) ?_
  show own_Go _ _ _ _ (T10.setTop (mkF m 54 #[.val (.ref t), .val (.ref a1), .val (.ref a2), .val (.ref a3), .val (.ref a4), .val (.ref a5), .val (.ref a6), .val (.ref a7), .val (.ref a8), .unset] [(.ref b10), (.ref b10), (.ref t)]))
  refine own_go (fun _ kont => XS.iconst X10.here hx rfl (hb hby own_d1_54) kont) ?_
  show own_Go _ _ _ _ (T10.setTop (mkF m 55 #[.val (.ref t), .val (.ref a1), .val (.ref a2), .val (.ref a3), .val (.ref a4), .val (.ref a5), .val (.ref a6), .val (.ref a7), .val (.ref a8), .unset] [(.int (2 : Int32)), (.ref b10), (.ref b10), (.ref t)]))
  refine own_go (fun _ kont => XS.aload X10.here hx rfl (hb hby own_d1_55) rfl rfl kont) ?_
  show own_Go _ _ _ _ (T10.setTop (mkF m 57 #[.val (.ref t), .val (.ref a1), .val (.ref a2), .val (.ref a3), .val (.ref a4), .val (.ref a5), .val (.ref a6), .val (.ref a7), .val (.ref a8), .unset] [(.ref a4), (.int (2 : Int32)), (.ref b10), (.ref b10), (.ref t)]))
  obtain ⟨cl11, Ar11, -, Sz11, Ng11, -, -⟩ := id V4
  refine own_go (X10.arraylength hx (own_hp e10 Ar11.1) (State.isArrayOf_alike hZ.alike Ar11.2.1) (g := (mkF m 57 #[.val (.ref t), .val (.ref a1), .val (.ref a2), .val (.ref a3), .val (.ref a4), .val (.ref a5), .val (.ref a6), .val (.ref a7), .val (.ref a8), .unset] [(.ref a4), (.int (2 : Int32)), (.ref b10), (.ref b10), (.ref t)])) rfl rfl (hb hby own_d1_57)) ?_
  rw [len_of Sz11 Ng11]
  show own_Go _ _ _ _ (T10.setTop (mkF m 58 #[.val (.ref t), .val (.ref a1), .val (.ref a2), .val (.ref a3), .val (.ref a4), .val (.ref a5), .val (.ref a6), .val (.ref a7), .val (.ref a8), .unset] [(.int (0 : Int32)), (.int (2 : Int32)), (.ref b10), (.ref b10), (.ref t)]))
  refine own_go (fun _ kont => XS.imul X10.here hx rfl (hb hby own_d1_58) rfl kont) ?_
  show own_Go _ _ _ _ (T10.setTop (mkF m 59 #[.val (.ref t), .val (.ref a1), .val (.ref a2), .val (.ref a3), .val (.ref a4), .val (.ref a5), .val (.ref a6), .val (.ref a7), .val (.ref a8), .unset] [(.int (0 : Int32)), (.ref b10), (.ref b10), (.ref t)]))
  obtain ⟨_, _, ⟨T12, L12, k12, n12⟩, -, X12, ⟨Lc12, hQ12, l12, y12, z12⟩, st12⟩ := X10.specialBack hx (y := (⟨"java/util/HashMap", "<init>", "(I)V"⟩ : MethodName)) rfl hown (mvT hZ (hw _ (List.mem_of_getElem? (i := 32) rfl))) (mvT hZ (hw _ (List.mem_of_getElem? (i := 33) rfl))) (mvT hZ (hw _ (List.mem_of_getElem? (i := 34) rfl))) (by decide) (own_back (W := 2) (own_rmH1 l Z a0 hw b10 h10 n0 Z0 A10 F_loadFactor_b10 F_threshold_b10 ge_b10) hZ (hw _ (List.mem_of_getElem? (i := 34) rfl)) (hw _ (List.mem_of_getElem? (i := 31) rfl)) (by decide) (by decide)) (g := (mkF m 59 #[.val (.ref t), .val (.ref a1), .val (.ref a2), .val (.ref a3), .val (.ref a4), .val (.ref a5), .val (.ref a6), .val (.ref a7), .val (.ref a8), .unset] [(.int (0 : Int32)), (.ref b10), (.ref b10), (.ref t)])) rfl (by rw [hml]; rfl) (Steps.refl _) (a := b10) (argsL := [(.int (0 : Int32))]) (rest := [(.ref b10), (.ref t)]) (lenOf own_pd4 rfl) rfl (by show 2 * 0 + _ ≤ _; exact Nat.le_of_eq rfl) (hb hby own_d1_59) (fun _ _ => ⟨rfl, e10, (by decide : 1 + 0 ≤ _), (by decide : 8 + 0 ≤ _)⟩)
  dsimp only [Pt.U, Pt.locs, Pt.cells, Pt.slots] at X12 l12 y12 z12 st12 hQ12
  subst l12 y12 z12
  obtain ⟨rfl, Nq12, K12⟩ := hQ12
  have NF12 := Fr.app NF9 Nq12
  refine own_goT st12 ?_
  replace E1 := E1.keep K12
  replace F_docnos := F_docnos.keep K12 (ninS ne_t_b10 nin0)
  replace F_documentStarts := F_documentStarts.keep K12 (ninS ne_t_b10 nin0)
  replace F_documentTerms := F_documentTerms.keep K12 (ninS ne_t_b10 nin0)
  replace F_terms := F_terms.keep K12 (ninS ne_t_b10 nin0)
  replace F_termStarts := F_termStarts.keep K12 (ninS ne_t_b10 nin0)
  replace F_postingDocuments := F_postingDocuments.keep K12 (ninS ne_t_b10 nin0)
  replace F_postingStarts := F_postingStarts.keep K12 (ninS ne_t_b10 nin0)
  replace F_positions := F_positions.keep K12 (ninS ne_t_b10 nin0)
  replace F_termNumbers := F_termNumbers.keep K12 (ninS ne_t_b10 nin0)
  replace V4 := V4.keep K12 (ninS ne_a4_b10 nin0)
  replace A10 := A10.keep K12
  replace Z0 := Nat.le_trans Z0 K12.1
  replace K0 := K0.trans K12 (allS (Or.inr sz_b10) all0)
  show own_Go _ _ _ _ (T12.setTop (mkF m 62 #[.val (.ref t), .val (.ref a1), .val (.ref a2), .val (.ref a3), .val (.ref a4), .val (.ref a5), .val (.ref a6), .val (.ref a7), .val (.ref a8), .unset] [(.ref b10), (.ref t)]))
  obtain ⟨T13, h13, X13, e13, W13, st13⟩ := putF X12 hx hZ hown (host := "") (Or.inl (hw _ (List.mem_of_getElem? (i := 63) rfl))) Via.refl rfl F_termNumbers E1 (Or.inr ⟨(hw _ (List.mem_of_getElem? (i := 64) rfl)), rfl, hnm⟩) (hw _ (List.mem_of_getElem? (i := 2) rfl)) (ty := (.object "java/util/Map")) (by decide) rfl rfl (g := (mkF m 62 #[.val (.ref t), .val (.ref a1), .val (.ref a2), .val (.ref a3), .val (.ref a4), .val (.ref a5), .val (.ref a6), .val (.ref a7), .val (.ref a8), .unset] [(.ref b10), (.ref t)])) rfl rfl (hb hby own_d1_62)
  refine own_go st13 ?_
  have NF13 := Fr.snoc X13 NF12 ge_t
  replace F_termNumbers := F_termNumbers.same W13
  replace E1 := E1.wr W13
  replace F_docnos := F_docnos.other W13 (Or.inr (slot_ne (Or.inr (hw _ (List.mem_of_getElem? (i := 14) rfl))) (Or.inr (hw _ (List.mem_of_getElem? (i := 64) rfl))) (by decide) (t := (.array (.object "java/lang/String"))) (t' := (.object "java/util/Map")) (by decide) (by decide)))
  replace F_documentStarts := F_documentStarts.other W13 (Or.inr (slot_ne (Or.inr (hw _ (List.mem_of_getElem? (i := 16) rfl))) (Or.inr (hw _ (List.mem_of_getElem? (i := 64) rfl))) (by decide) (t := (.array .int)) (t' := (.object "java/util/Map")) (by decide) (by decide)))
  replace F_documentTerms := F_documentTerms.other W13 (Or.inr (slot_ne (Or.inr (hw _ (List.mem_of_getElem? (i := 18) rfl))) (Or.inr (hw _ (List.mem_of_getElem? (i := 64) rfl))) (by decide) (t := (.array .int)) (t' := (.object "java/util/Map")) (by decide) (by decide)))
  replace F_terms := F_terms.other W13 (Or.inr (slot_ne (Or.inr (hw _ (List.mem_of_getElem? (i := 20) rfl))) (Or.inr (hw _ (List.mem_of_getElem? (i := 64) rfl))) (by decide) (t := (.array (.object "java/lang/String"))) (t' := (.object "java/util/Map")) (by decide) (by decide)))
  replace F_termStarts := F_termStarts.other W13 (Or.inr (slot_ne (Or.inr (hw _ (List.mem_of_getElem? (i := 22) rfl))) (Or.inr (hw _ (List.mem_of_getElem? (i := 64) rfl))) (by decide) (t := (.array .int)) (t' := (.object "java/util/Map")) (by decide) (by decide)))
  replace F_postingDocuments := F_postingDocuments.other W13 (Or.inr (slot_ne (Or.inr (hw _ (List.mem_of_getElem? (i := 24) rfl))) (Or.inr (hw _ (List.mem_of_getElem? (i := 64) rfl))) (by decide) (t := (.array .int)) (t' := (.object "java/util/Map")) (by decide) (by decide)))
  replace F_postingStarts := F_postingStarts.other W13 (Or.inr (slot_ne (Or.inr (hw _ (List.mem_of_getElem? (i := 26) rfl))) (Or.inr (hw _ (List.mem_of_getElem? (i := 64) rfl))) (by decide) (t := (.array .int)) (t' := (.object "java/util/Map")) (by decide) (by decide)))
  replace F_positions := F_positions.other W13 (Or.inr (slot_ne (Or.inr (hw _ (List.mem_of_getElem? (i := 28) rfl))) (Or.inr (hw _ (List.mem_of_getElem? (i := 64) rfl))) (by decide) (t := (.array .int)) (t' := (.object "java/util/Map")) (by decide) (by decide)))
  replace V4 := V4.other W13 (Ne.symm ne_t_a4)
  replace A10 := A10.wr W13
  replace Z0 := Nat.le_trans Z0 (Keep.of_wr W13).1
  replace K0 := K0.wr W13 (Or.inl (List.mem_of_getElem? (i := 0) rfl))
  show own_Go _ _ _ _ (T13.setTop (mkF m 65 #[.val (.ref t), .val (.ref a1), .val (.ref a2), .val (.ref a3), .val (.ref a4), .val (.ref a5), .val (.ref a6), .val (.ref a7), .val (.ref a8), .unset] []))
  refine own_go (fun _ kont => XS.iconst X13.here hx rfl (hb hby own_d1_65) kont) ?_
  show own_Go _ _ _ _ (T13.setTop (mkF m 66 #[.val (.ref t), .val (.ref a1), .val (.ref a2), .val (.ref a3), .val (.ref a4), .val (.ref a5), .val (.ref a6), .val (.ref a7), .val (.ref a8), .unset] [(.int (0 : Int32))]))
  refine own_go (fun _ kont => XS.istore X13.here hx rfl (hb hby own_d1_66) rfl (l' := #[.val (.ref t), .val (.ref a1), .val (.ref a2), .val (.ref a3), .val (.ref a4), .val (.ref a5), .val (.ref a6), .val (.ref a7), .val (.ref a8), .val (.int (0 : Int32))]) rfl kont) ?_
  show own_Go _ _ _ _ (T13.setTop (mkF m 68 #[.val (.ref t), .val (.ref a1), .val (.ref a2), .val (.ref a3), .val (.ref a4), .val (.ref a5), .val (.ref a6), .val (.ref a7), .val (.ref a8), .val (.int (0 : Int32))] []))
  refine own_go (fun _ kont => XS.iload X13.here hx rfl (hb hby own_d1_68) rfl kont) ?_
  show own_Go _ _ _ _ (T13.setTop (mkF m 70 #[.val (.ref t), .val (.ref a1), .val (.ref a2), .val (.ref a3), .val (.ref a4), .val (.ref a5), .val (.ref a6), .val (.ref a7), .val (.ref a8), .val (.int (0 : Int32))] [(.int (0 : Int32))]))
  refine own_go (fun _ kont => XS.aload X13.here hx rfl (hb hby own_d1_70) rfl rfl kont) ?_
  show own_Go _ _ _ _ (T13.setTop (mkF m 72 #[.val (.ref t), .val (.ref a1), .val (.ref a2), .val (.ref a3), .val (.ref a4), .val (.ref a5), .val (.ref a6), .val (.ref a7), .val (.ref a8), .val (.int (0 : Int32))] [(.ref a4), (.int (0 : Int32))]))
  obtain ⟨cl14, Ar14, -, Sz14, Ng14, -, -⟩ := id V4
  refine own_go (X13.arraylength hx (own_hp e13 Ar14.1) (State.isArrayOf_alike hZ.alike Ar14.2.1) (g := (mkF m 72 #[.val (.ref t), .val (.ref a1), .val (.ref a2), .val (.ref a3), .val (.ref a4), .val (.ref a5), .val (.ref a6), .val (.ref a7), .val (.ref a8), .val (.int (0 : Int32))] [(.ref a4), (.int (0 : Int32))])) rfl rfl (hb hby own_d1_72)) ?_
  rw [len_of Sz14 Ng14]
  show own_Go _ _ _ _ (T13.setTop (mkF m 73 #[.val (.ref t), .val (.ref a1), .val (.ref a2), .val (.ref a3), .val (.ref a4), .val (.ref a5), .val (.ref a6), .val (.ref a7), .val (.ref a8), .val (.int (0 : Int32))] [(.int (0 : Int32)), (.int (0 : Int32))]))
  refine own_go (fun _ kont => XS.icmpYes X13.here hx rfl (pc0 := 73) (pc' := 102) rfl (hb hby own_d1_73) rfl (flt (by decide)).2.1 (by decide) (by decide) kont) ?_
  show own_Go _ _ _ _ (T13.setTop (mkF m 102 #[.val (.ref t), .val (.ref a1), .val (.ref a2), .val (.ref a3), .val (.ref a4), .val (.ref a5), .val (.ref a6), .val (.ref a7), .val (.ref a8), .val (.int (0 : Int32))] []))
  refine own_ret X13 hlk (v := none) (fun _ => rfl) (fun fs hr => X13.returnOut hx Bd.returns (hb hby own_d1_102) hr) ?_ (by decide) (by decide)
  try rw [e13]
  exact ⟨rfl, NF13, K0, E1, F_postingStarts, F_docnos, F_documentTerms⟩
theorem own_d9_0 : decode prog_16_method_6_code 0 = .ok (.aload_n 0, 1) := by decide +kernel
theorem own_d9_1 : decode prog_16_method_6_code 1 = .ok (.getfield 7, 3) := by decide +kernel
theorem own_d9_4 : decode prog_16_method_6_code 4 = .ok (.arraylength, 1) := by decide +kernel
theorem own_d9_5 : decode prog_16_method_6_code 5 = .ok (.ifCond .ne 7, 3) := by decide +kernel
theorem own_d9_8 : decode prog_16_method_6_code 8 = .ok (.dconst 0, 1) := by decide +kernel
theorem own_d9_9 : decode prog_16_method_6_code 9 = .ok (.goto 16, 3) := by decide +kernel
theorem own_d9_12 : decode prog_16_method_6_code 12 = .ok (.aload_n 0, 1) := by decide +kernel
theorem own_d9_13 : decode prog_16_method_6_code 13 = .ok (.getfield 17, 3) := by decide +kernel
theorem own_d9_16 : decode prog_16_method_6_code 16 = .ok (.arraylength, 1) := by decide +kernel
theorem own_d9_17 : decode prog_16_method_6_code 17 = .ok (.i2d, 1) := by decide +kernel
theorem own_d9_18 : decode prog_16_method_6_code 18 = .ok (.aload_n 0, 1) := by decide +kernel
theorem own_d9_19 : decode prog_16_method_6_code 19 = .ok (.getfield 7, 3) := by decide +kernel
theorem own_d9_22 : decode prog_16_method_6_code 22 = .ok (.arraylength, 1) := by decide +kernel
theorem own_d9_23 : decode prog_16_method_6_code 23 = .ok (.i2d, 1) := by decide +kernel
theorem own_d9_24 : decode prog_16_method_6_code 24 = .ok (.ddiv, 1) := by decide +kernel
theorem own_d9_25 : decode prog_16_method_6_code 25 = .ok (.dreturn, 1) := by decide +kernel
set_option maxRecDepth 65536 in
set_option maxHeartbeats 40000000 in
theorem own_rmV (l : Launch) (Z : State) (a0 : Array Value) (hw : ∀ d ∈ tables_1, d.before a0 Z = true) (t : Addr) (a1 : Addr) (a3 : Addr) (k1 : ClassId) (k3 : ClassId) (zd : Int32) (zn : Int32) (h0 : Heap) (n0 : Nat) (Z0 : n0 ≤ h0.size) (F1 : Fld Z h0 t "com/example/lissage/lissage/Index" "docnos" "[Ljava/lang/String;" (.ref a1)) (F3 : Fld Z h0 t "com/example/lissage/lissage/Index" "documentTerms" "[I" (.ref a3)) (V1 : Arv Z h0 a1 k1 (.object "java/lang/String") zd [] .null) (V3 : Arv Z h0 a3 k3 .int zn [] (.int 0)) (hn : ¬ zd = 0 → Jvm.Free.Fl.NoNaN64 (FP.ddiv (FP.i2d zn) (FP.i2d zd))) :
    own_Met l Z [] (⟨"com/example/lissage/lissage/Index", "averageLength", "()D"⟩ : MethodName) prog_16_method_6_code 1 (some .double) ({ frames := 0, cells := 0, slots := 0, locals := 0 } : Room) #[(.ref t)] h0 (fun v h L => v = some (.double (own_av zd zn)) ∧ Fr n0 L ∧ h = h0) := by
  refine MetFree.of_bodySF (plainFor_of_name own_pn3) hisR ?_
  intro p e s m args below meth c s₁ Bd hml0 hP hK
  obtain ⟨rfl, hZ, hh⟩ := hP
  have hx := Bd.exec
  have hby := Bd.bytes
  have hml : c.maxLocals = 1 := hml0
  have hown : s.vm.findClass "com/example/lissage/lissage/Index" = some m.cls := findClass_of_methodNamed Bd.named
  have hnm := (name_of_methodNamed Bd.named Bd.method).1
  have hlk : meth.locks = false := Bd.notSynchronized
  have X0 : Stand p l e ({ frames := 0, cells := 0, slots := 0, locals := 0 } : Room) s m #[(.ref t)] below meth c s₁ [] 0 0 := Stand.of_body Bd
  have e0 : s₁.heap = h0 := by rw [← hh, Bd.state]; rfl
  have N0 := Fr.nil n0
  refine own_body (Q := fun v h L => v = some (.double (own_av zd zn)) ∧ Fr n0 L ∧ h = h0) ?_
  refine own_go (fun _ kont => castTop (own_ef m #[(.ref t)] 1 #[.val (.ref t)] (own_al [(.ref t)] 1 [.val (.ref t)] rfl)) kont) ?_
  show own_Go _ _ _ _ (s₁.setTop (mkF m 0 #[.val (.ref t)] []))
  refine own_go (fun _ kont => XS.aloadN X0.here hx rfl (hb hby own_d9_0) rfl rfl kont) ?_
  show own_Go _ _ _ _ (s₁.setTop (mkF m 1 #[.val (.ref t)] [(.ref t)]))
  obtain ⟨T1, X1, e1, st1⟩ := getF X0 hx hZ hown (host := "") (Or.inl (hw _ (List.mem_of_getElem? (i := 13) rfl))) Via.refl e0 F1 (g := (mkF m 1 #[.val (.ref t)] [(.ref t)])) rfl rfl (hb hby own_d9_1)
  refine own_go st1 ?_
  show own_Go _ _ _ _ (T1.setTop (mkF m 4 #[.val (.ref t)] [(.ref a1)]))
  obtain ⟨cl2, Ar2, -, Sz2, Ng2, -, -⟩ := id V1
  refine own_go (X1.arraylength hx (own_hp e1 Ar2.1) (State.isArrayOf_alike hZ.alike Ar2.2.1) (g := (mkF m 4 #[.val (.ref t)] [(.ref a1)])) rfl rfl (hb hby own_d9_4)) ?_
  rw [len_of Sz2 Ng2]
  show own_Go _ _ _ _ (T1.setTop (mkF m 5 #[.val (.ref t)] [(.int zd)]))
  by_cases hz : zd = (0 : Int32)
  · have _h := hz
    refine own_go (fun _ kont => XS.ifNo X1.here hx rfl (hb hby own_d9_5) rfl ((if0 _ _).trans (teq hz).2) kont) ?_
    show own_Go _ _ _ _ (T1.setTop (mkF m 8 #[.val (.ref t)] []))
    refine own_go (fun _ kont => XS.dconst0 X1.here hx rfl (hb hby own_d9_8) (v := 0) (by decide +kernel) kont) ?_
    show own_Go _ _ _ _ (T1.setTop (mkF m 9 #[.val (.ref t)] [(.double (0 : UInt64))]))
    refine own_go (fun _ kont => XS.goto X1.here hx rfl (pc0 := 9) (pc' := 25) rfl (hb hby own_d9_9) (by decide) (by decide) kont) ?_
    show own_Go _ _ _ _ (T1.setTop (mkF m 25 #[.val (.ref t)] [(.double (0 : UInt64))]))
    refine own_ret X1 hlk (v := some (.double (0 : UInt64))) (fun h => by rw [Bd.returns] at h; cases h) (fun fs hr => retOut X1 hx Bd.returns rfl (Or.inr (Or.inr (Or.inl ⟨rfl, rfl, _, rfl⟩))) (hb hby own_d9_25) hr) ?_ (by decide) (by decide)
    try rw [e1]
    exact ⟨by rw [show own_av zd zn = (0 : UInt64) from if_pos hz], N0, rfl⟩
  · have _h := hz
    refine own_go (fun _ kont => XS.ifYes X1.here hx rfl (pc0 := 5) (pc' := 12) rfl (hb hby own_d9_5) rfl ((if0 _ _).trans (feq hz).2) (by decide) (by decide) kont) ?_
    show own_Go _ _ _ _ (T1.setTop (mkF m 12 #[.val (.ref t)] []))
    refine own_go (fun _ kont => XS.aloadN X1.here hx rfl (hb hby own_d9_12) rfl rfl kont) ?_
    show own_Go _ _ _ _ (T1.setTop (mkF m 13 #[.val (.ref t)] [(.ref t)]))
    obtain ⟨T3, X3, e3, st3⟩ := getF X1 hx hZ hown (host := "") (Or.inl (hw _ (List.mem_of_getElem? (i := 17) rfl))) Via.refl e1 F3 (g := (mkF m 13 #[.val (.ref t)] [(.ref t)])) rfl rfl (hb hby own_d9_13)
    refine own_go st3 ?_
    show own_Go _ _ _ _ (T3.setTop (mkF m 16 #[.val (.ref t)] [(.ref a3)]))
    obtain ⟨cl4, Ar4, -, Sz4, Ng4, -, -⟩ := id V3
    refine own_go (X3.arraylength hx (own_hp e3 Ar4.1) (State.isArrayOf_alike hZ.alike Ar4.2.1) (g := (mkF m 16 #[.val (.ref t)] [(.ref a3)])) rfl rfl (hb hby own_d9_16)) ?_
    rw [len_of Sz4 Ng4]
    show own_Go _ _ _ _ (T3.setTop (mkF m 17 #[.val (.ref t)] [(.int zn)]))
    refine own_go (fun _ kont => XS.i2dS X3.here hx rfl (hb hby own_d9_17) rfl (v := (FP.i2d zn)) rfl kont) ?_
    show own_Go _ _ _ _ (T3.setTop (mkF m 18 #[.val (.ref t)] [(.double (FP.i2d zn))]))
    refine own_go (fun _ kont => XS.aloadN X3.here hx rfl (hb hby own_d9_18) rfl rfl kont) ?_
    show own_Go _ _ _ _ (T3.setTop (mkF m 19 #[.val (.ref t)] [(.ref t), (.double (FP.i2d zn))]))
    obtain ⟨T5, X5, e5, st5⟩ := getF X3 hx hZ hown (host := "") (Or.inl (hw _ (List.mem_of_getElem? (i := 13) rfl))) Via.refl e3 F1 (g := (mkF m 19 #[.val (.ref t)] [(.ref t), (.double (FP.i2d zn))])) rfl rfl (hb hby own_d9_19)
    refine own_go st5 ?_
    show own_Go _ _ _ _ (T5.setTop (mkF m 22 #[.val (.ref t)] [(.ref a1), (.double (FP.i2d zn))]))
    obtain ⟨cl6, Ar6, -, Sz6, Ng6, -, -⟩ := id V1
    refine own_go (X5.arraylength hx (own_hp e5 Ar6.1) (State.isArrayOf_alike hZ.alike Ar6.2.1) (g := (mkF m 22 #[.val (.ref t)] [(.ref a1), (.double (FP.i2d zn))])) rfl rfl (hb hby own_d9_22)) ?_
    rw [len_of Sz6 Ng6]
    show own_Go _ _ _ _ (T5.setTop (mkF m 23 #[.val (.ref t)] [(.int zd), (.double (FP.i2d zn))]))
    refine own_go (fun _ kont => XS.i2dS X5.here hx rfl (hb hby own_d9_23) rfl (v := (FP.i2d zd)) rfl kont) ?_
    show own_Go _ _ _ _ (T5.setTop (mkF m 24 #[.val (.ref t)] [(.double (FP.i2d zd)), (.double (FP.i2d zn))]))
    refine own_go (fun _ kont => XS.ddivS X5.here hx rfl (hb hby own_d9_24) rfl (hn hz) (v := (FP.ddiv (FP.i2d zn) (FP.i2d zd))) rfl kont) ?_
    show own_Go _ _ _ _ (T5.setTop (mkF m 25 #[.val (.ref t)] [(.double (FP.ddiv (FP.i2d zn) (FP.i2d zd)))]))
    refine own_ret X5 hlk (v := some (.double (FP.ddiv (FP.i2d zn) (FP.i2d zd)))) (fun h => by rw [Bd.returns] at h; cases h) (fun fs hr => retOut X5 hx Bd.returns rfl (Or.inr (Or.inr (Or.inl ⟨rfl, rfl, _, rfl⟩))) (hb hby own_d9_25) hr) ?_ (by decide) (by decide)
    try rw [e5]
    exact ⟨by rw [show own_av zd zn = (FP.ddiv (FP.i2d zn) (FP.i2d zd)) from if_neg hz], N0, rfl⟩
theorem own_pn4 : plainName "com/example/lissage/lissage/IndexAverageLengthPinLaw" = true := by first | (simp [plainName, overriddenIn]; done) | decide +kernel
theorem own_pd5 : parseMethodDescriptor "([Ljava/lang/String;[I[I[Ljava/lang/String;[I[I[I[I)V" = some ⟨[(.array (.object "java/lang/String")), (.array .int), (.array .int), (.array (.object "java/lang/String")), (.array .int), (.array .int), (.array .int), (.array .int)], none⟩ := by decide +kernel
theorem own_pd6 : parseMethodDescriptor "()D" = some ⟨[], some .double⟩ := by decide +kernel
set_option maxRecDepth 65536 in
set_option maxHeartbeats 40000000 in
theorem own_rm0 (l : Launch) (Z : State) (a0 : Array Value) (hw : ∀ d ∈ tables_1, d.before a0 Z = true) (p1 : Int32) (p2 : Int32) (p3 : Int32) (p4 : Int32) (h0 : Heap) (n0 : Nat) (Z0 : n0 ≤ h0.size)  :
    own_Met l Z tables_1 x code maxLocals ret room_1 #[(.int p1), (.int p2), (.int p3), (.int p4)] h0 (fun v h L => v = some (.int 1) ∧ Fr n0 L) := by
  refine MetFree.of_bodySF (plainFor_of_name own_pn4) hisR ?_
  intro p e s m args below meth c s₁ Bd hml0 hP hK
  obtain ⟨rfl, hZ, hh⟩ := hP
  have hx := Bd.exec
  have hby := Bd.bytes
  have hml : c.maxLocals = 16 := hml0
  have hown : s.vm.findClass "com/example/lissage/lissage/IndexAverageLengthPinLaw" = some m.cls := findClass_of_methodNamed Bd.named
  have hnm := (name_of_methodNamed Bd.named Bd.method).1
  have hlk : meth.locks = false := Bd.notSynchronized
  have X0 : Stand p l e room_1 s m #[(.int p1), (.int p2), (.int p3), (.int p4)] below meth c s₁ [] 0 0 := Stand.of_body Bd
  have e0 : s₁.heap = h0 := by rw [← hh, Bd.state]; rfl
  have N0 := Fr.nil n0
  refine own_body (Q := fun v h L => v = some (.int 1) ∧ Fr n0 L) ?_
  refine own_go (fun _ kont => castTop (own_ef m #[(.int p1), (.int p2), (.int p3), (.int p4)] maxLocals #[.val (.int p1), .val (.int p2), .val (.int p3), .val (.int p4), .unset, .unset, .unset, .unset, .unset, .unset, .unset, .unset, .unset, .unset, .unset, .unset] (own_al [(.int p1), (.int p2), (.int p3), (.int p4)] maxLocals [.val (.int p1), .val (.int p2), .val (.int p3), .val (.int p4), .unset, .unset, .unset, .unset, .unset, .unset, .unset, .unset, .unset, .unset, .unset, .unset] rfl)) kont) ?_
  show own_Go _ _ _ _ (s₁.setTop (mkF m 0 #[.val (.int p1), .val (.int p2), .val (.int p3), .val (.int p4), .unset, .unset, .unset, .unset, .unset, .unset, .unset, .unset, .unset, .unset, .unset, .unset] []))
  have K0 : Keep h0 h0 [] := Keep.refl _ _
  refine own_go (fun _ kont => XS.iloadN X0.here hx rfl (hb hby at_0) rfl kont) ?_
  show own_Go _ _ _ _ (s₁.setTop (mkF m 1 #[.val (.int p1), .val (.int p2), .val (.int p3), .val (.int p4), .unset, .unset, .unset, .unset, .unset, .unset, .unset, .unset, .unset, .unset, .unset, .unset] [(.int p2)]))
  refine own_go (fun _ kont => XS.bipush X0.here hx rfl (hb hby at_1) kont) ?_
  show own_Go _ _ _ _ (s₁.setTop (mkF m 3 #[.val (.int p1), .val (.int p2), .val (.int p3), .val (.int p4), .unset, .unset, .unset, .unset, .unset, .unset, .unset, .unset, .unset, .unset, .unset, .unset] [(.int (7 : Int32)), (.int p2)]))
  refine own_go (fun _ kont => XS.iand X0.here hx rfl (hb hby at_3) rfl kont) ?_
  show own_Go _ _ _ _ (s₁.setTop (mkF m 4 #[.val (.int p1), .val (.int p2), .val (.int p3), .val (.int p4), .unset, .unset, .unset, .unset, .unset, .unset, .unset, .unset, .unset, .unset, .unset, .unset] [(.int (p2 &&& (7 : Int32)))]))
  obtain ⟨d1, d2⟩ := own_d p2
  generalize hd : (p2 &&& (7 : Int32)) = d
  rw [hd] at d1 d2
  show own_Go _ _ _ _ (s₁.setTop (mkF m 4 #[.val (.int p1), .val (.int p2), .val (.int p3), .val (.int p4), .unset, .unset, .unset, .unset, .unset, .unset, .unset, .unset, .unset, .unset, .unset, .unset] [(.int d)]))
  refine own_go (fun _ kont => XS.istore X0.here hx rfl (hb hby at_4) rfl (l' := #[.val (.int p1), .val (.int p2), .val (.int p3), .val (.int p4), .val (.int d), .unset, .unset, .unset, .unset, .unset, .unset, .unset, .unset, .unset, .unset, .unset]) rfl kont) ?_
  show own_Go _ _ _ _ (s₁.setTop (mkF m 6 #[.val (.int p1), .val (.int p2), .val (.int p3), .val (.int p4), .val (.int d), .unset, .unset, .unset, .unset, .unset, .unset, .unset, .unset, .unset, .unset, .unset] []))
  refine own_go (fun _ kont => XS.iloadN X0.here hx rfl (hb hby at_6) rfl kont) ?_
  show own_Go _ _ _ _ (s₁.setTop (mkF m 7 #[.val (.int p1), .val (.int p2), .val (.int p3), .val (.int p4), .val (.int d), .unset, .unset, .unset, .unset, .unset, .unset, .unset, .unset, .unset, .unset, .unset] [(.int p1)]))
  refine own_go (fun _ kont => XS.bipush X0.here hx rfl (hb hby at_7) kont) ?_
  show own_Go _ _ _ _ (s₁.setTop (mkF m 9 #[.val (.int p1), .val (.int p2), .val (.int p3), .val (.int p4), .val (.int d), .unset, .unset, .unset, .unset, .unset, .unset, .unset, .unset, .unset, .unset, .unset] [(.int (63 : Int32)), (.int p1)]))
  refine own_go (fun _ kont => XS.iand X0.here hx rfl (hb hby at_9) rfl kont) ?_
  show own_Go _ _ _ _ (s₁.setTop (mkF m 10 #[.val (.int p1), .val (.int p2), .val (.int p3), .val (.int p4), .val (.int d), .unset, .unset, .unset, .unset, .unset, .unset, .unset, .unset, .unset, .unset, .unset] [(.int (p1 &&& (63 : Int32)))]))
  obtain ⟨q1, q2⟩ := own_q p1
  generalize hq : (p1 &&& (63 : Int32)) = q
  rw [hq] at q1 q2
  show own_Go _ _ _ _ (s₁.setTop (mkF m 10 #[.val (.int p1), .val (.int p2), .val (.int p3), .val (.int p4), .val (.int d), .unset, .unset, .unset, .unset, .unset, .unset, .unset, .unset, .unset, .unset, .unset] [(.int q)]))
  refine own_go (fun _ kont => XS.istore X0.here hx rfl (hb hby at_10) rfl (l' := #[.val (.int p1), .val (.int p2), .val (.int p3), .val (.int p4), .val (.int d), .val (.int q), .unset, .unset, .unset, .unset, .unset, .unset, .unset, .unset, .unset, .unset]) rfl kont) ?_
  show own_Go _ _ _ _ (s₁.setTop (mkF m 12 #[.val (.int p1), .val (.int p2), .val (.int p3), .val (.int p4), .val (.int d), .val (.int q), .unset, .unset, .unset, .unset, .unset, .unset, .unset, .unset, .unset, .unset] []))
  refine own_go (fun _ kont => XS.iload X0.here hx rfl (hb hby at_12) rfl kont) ?_
  show own_Go _ _ _ _ (s₁.setTop (mkF m 14 #[.val (.int p1), .val (.int p2), .val (.int p3), .val (.int p4), .val (.int d), .val (.int q), .unset, .unset, .unset, .unset, .unset, .unset, .unset, .unset, .unset, .unset] [(.int d)]))
  by_cases hd : d = (0 : Int32)
  · have _h := hd
    refine own_go (fun _ kont => XS.ifNo X0.here hx rfl (hb hby at_14) rfl ((if0 _ _).trans (teq hd).2) kont) ?_
    show own_Go _ _ _ _ (s₁.setTop (mkF m 17 #[.val (.int p1), .val (.int p2), .val (.int p3), .val (.int p4), .val (.int d), .val (.int q), .unset, .unset, .unset, .unset, .unset, .unset, .unset, .unset, .unset, .unset] []))
    refine own_go (fun _ kont => XS.iconst X0.here hx rfl (hb hby at_17) kont) ?_
    show own_Go _ _ _ _ (s₁.setTop (mkF m 18 #[.val (.int p1), .val (.int p2), .val (.int p3), .val (.int p4), .val (.int d), .val (.int q), .unset, .unset, .unset, .unset, .unset, .unset, .unset, .unset, .unset, .unset] [(.int (0 : Int32))]))
    refine own_go (fun _ kont => XS.goto X0.here hx rfl (pc0 := 18) (pc' := 28) rfl (hb hby at_18) (by decide) (by decide) kont) ?_
    show own_Go _ _ _ _ (s₁.setTop (mkF m 28 #[.val (.int p1), .val (.int p2), .val (.int p3), .val (.int p4), .val (.int d), .val (.int q), .unset, .unset, .unset, .unset, .unset, .unset, .unset, .unset, .unset, .unset] [(.int (0 : Int32))]))
    refine own_go (fun _ kont => XS.istore X0.here hx rfl (hb hby at_28) rfl (l' := #[.val (.int p1), .val (.int p2), .val (.int p3), .val (.int p4), .val (.int d), .val (.int q), .val (.int (0 : Int32)), .unset, .unset, .unset, .unset, .unset, .unset, .unset, .unset, .unset]) rfl kont) ?_
    show own_Go _ _ _ _ (s₁.setTop (mkF m 30 #[.val (.int p1), .val (.int p2), .val (.int p3), .val (.int p4), .val (.int d), .val (.int q), .val (.int (0 : Int32)), .unset, .unset, .unset, .unset, .unset, .unset, .unset, .unset, .unset] []))
    refine own_go (fun _ kont => XS.iload X0.here hx rfl (hb hby at_30) rfl kont) ?_
    show own_Go _ _ _ _ (s₁.setTop (mkF m 32 #[.val (.int p1), .val (.int p2), .val (.int p3), .val (.int p4), .val (.int d), .val (.int q), .val (.int (0 : Int32)), .unset, .unset, .unset, .unset, .unset, .unset, .unset, .unset, .unset] [(.int d)]))
    refine own_go (fun _ kont => XS.ifNo X0.here hx rfl (hb hby at_32) rfl ((if0 _ _).trans (teq hd).2) kont) ?_
    show own_Go _ _ _ _ (s₁.setTop (mkF m 35 #[.val (.int p1), .val (.int p2), .val (.int p3), .val (.int p4), .val (.int d), .val (.int q), .val (.int (0 : Int32)), .unset, .unset, .unset, .unset, .unset, .unset, .unset, .unset, .unset] []))
    refine own_go (fun _ kont => XS.iload X0.here hx rfl (hb hby at_35) rfl kont) ?_
    show own_Go _ _ _ _ (s₁.setTop (mkF m 37 #[.val (.int p1), .val (.int p2), .val (.int p3), .val (.int p4), .val (.int d), .val (.int q), .val (.int (0 : Int32)), .unset, .unset, .unset, .unset, .unset, .unset, .unset, .unset, .unset] [(.int q)]))
    refine own_go (fun _ kont => XS.goto X0.here hx rfl (pc0 := 37) (pc' := 48) rfl (hb hby at_37) (by decide) (by decide) kont) ?_
    show own_Go _ _ _ _ (s₁.setTop (mkF m 48 #[.val (.int p1), .val (.int p2), .val (.int p3), .val (.int p4), .val (.int d), .val (.int q), .val (.int (0 : Int32)), .unset, .unset, .unset, .unset, .unset, .unset, .unset, .unset, .unset] [(.int q)]))
    have hdd := own_d1 d1 d2
    have hnn := own_n1 q1 (by omega : q.toInt ≤ 447)
    show own_Go _ _ _ _ (s₁.setTop (mkF m 48 #[.val (.int p1), .val (.int p2), .val (.int p3), .val (.int p4), .val (.int d), .val (.int q), .val (.int (0 : Int32)), .unset, .unset, .unset, .unset, .unset, .unset, .unset, .unset, .unset] [(.int q)]))
    refine own_go (fun _ kont => XS.istore X0.here hx rfl (hb hby at_48) rfl (l' := #[.val (.int p1), .val (.int p2), .val (.int p3), .val (.int p4), .val (.int d), .val (.int q), .val (.int (0 : Int32)), .val (.int q), .unset, .unset, .unset, .unset, .unset, .unset, .unset, .unset]) rfl kont) ?_
    show own_Go _ _ _ _ (s₁.setTop (mkF m 50 #[.val (.int p1), .val (.int p2), .val (.int p3), .val (.int p4), .val (.int d), .val (.int q), .val (.int (0 : Int32)), .val (.int q), .unset, .unset, .unset, .unset, .unset, .unset, .unset, .unset] []))
    obtain ⟨T1, h1, X1, e1, E1, A1, D1, -, st1⟩ := newO X0 hx hZ hown (hw _ (List.mem_of_getElem? (i := 1) rfl)) (hw _ (List.mem_of_getElem? (i := 2) rfl)) (hw _ (List.mem_of_getElem? (i := 3) rfl)) e0 (g := (mkF m 50 #[.val (.int p1), .val (.int p2), .val (.int p3), .val (.int p4), .val (.int d), .val (.int q), .val (.int (0 : Int32)), .val (.int q), .unset, .unset, .unset, .unset, .unset, .unset, .unset, .unset] [])) rfl (hb hby at_50) (by decide) (by decide)
    obtain ⟨b1, g1⟩ : ∃ z, z = h0.size := ⟨_, rfl⟩
    rw [← g1] at A1 D1 st1
    refine own_go st1 ?_
    have ge_b1 : n0 ≤ b1 := Nat.le_trans Z0 (Nat.le_of_eq g1.symm)
    have sz_b1 : h0.size ≤ b1 := Nat.le_trans K0.1 (Nat.le_of_eq g1.symm)
    replace Z0 := Nat.le_trans Z0 E1.1
    replace K0 := K0.ext E1
    have F_docnos_b1 : Fld Z h1 b1 "com/example/lissage/lissage/Index" "docnos" "[Ljava/lang/String;" .null := D1 (Or.inr (hw _ (List.mem_of_getElem? (i := 14) rfl))) (ty := (.array (.object "java/lang/String"))) (by decide)
    have F_documentStarts_b1 : Fld Z h1 b1 "com/example/lissage/lissage/Index" "documentStarts" "[I" .null := D1 (Or.inr (hw _ (List.mem_of_getElem? (i := 16) rfl))) (ty := (.array .int)) (by decide)
    have F_documentTerms_b1 : Fld Z h1 b1 "com/example/lissage/lissage/Index" "documentTerms" "[I" .null := D1 (Or.inr (hw _ (List.mem_of_getElem? (i := 18) rfl))) (ty := (.array .int)) (by decide)
    have F_terms_b1 : Fld Z h1 b1 "com/example/lissage/lissage/Index" "terms" "[Ljava/lang/String;" .null := D1 (Or.inr (hw _ (List.mem_of_getElem? (i := 20) rfl))) (ty := (.array (.object "java/lang/String"))) (by decide)
    have F_termStarts_b1 : Fld Z h1 b1 "com/example/lissage/lissage/Index" "termStarts" "[I" .null := D1 (Or.inr (hw _ (List.mem_of_getElem? (i := 22) rfl))) (ty := (.array .int)) (by decide)
    have F_postingDocuments_b1 : Fld Z h1 b1 "com/example/lissage/lissage/Index" "postingDocuments" "[I" .null := D1 (Or.inr (hw _ (List.mem_of_getElem? (i := 24) rfl))) (ty := (.array .int)) (by decide)
    have F_postingStarts_b1 : Fld Z h1 b1 "com/example/lissage/lissage/Index" "postingStarts" "[I" .null := D1 (Or.inr (hw _ (List.mem_of_getElem? (i := 26) rfl))) (ty := (.array .int)) (by decide)
    have F_positions_b1 : Fld Z h1 b1 "com/example/lissage/lissage/Index" "positions" "[I" .null := D1 (Or.inr (hw _ (List.mem_of_getElem? (i := 28) rfl))) (ty := (.array .int)) (by decide)
    have F_termNumbers_b1 : Fld Z h1 b1 "com/example/lissage/lissage/Index" "termNumbers" "Ljava/util/Map;" .null := D1 (Or.inr (hw _ (List.mem_of_getElem? (i := 64) rfl))) (ty := (.object "java/util/Map")) (by decide)
    show own_Go _ _ _ _ (T1.setTop (mkF m 53 #[.val (.int p1), .val (.int p2), .val (.int p3), .val (.int p4), .val (.int d), .val (.int q), .val (.int (0 : Int32)), .val (.int q), .unset, .unset, .unset, .unset, .unset, .unset, .unset, .unset] [(.ref b1)]))
    refine own_go (fun _ kont => XS.dup X1.here hx rfl (hb hby at_53) rfl rfl kont) ?_
    show own_Go _ _ _ _ (T1.setTop (mkF m 54 #[.val (.int p1), .val (.int p2), .val (.int p3), .val (.int p4), .val (.int d), .val (.int q), .val (.int (0 : Int32)), .val (.int q), .unset, .unset, .unset, .unset, .unset, .unset, .unset, .unset] [(.ref b1), (.ref b1)]))
    refine own_go (fun _ kont => XS.iload X1.here hx rfl (hb hby at_54) rfl kont) ?_
    show own_Go _ _ _ _ (T1.setTop (mkF m 56 #[.val (.int p1), .val (.int p2), .val (.int p3), .val (.int p4), .val (.int d), .val (.int q), .val (.int (0 : Int32)), .val (.int q), .unset, .unset, .unset, .unset, .unset, .unset, .unset, .unset] [(.int d), (.ref b1), (.ref b1)]))
    obtain ⟨T2, h2, k2, X2, e2, E2, A2, O2, st2⟩ := newR X1 hx hZ hown (hw _ (List.mem_of_getElem? (i := 4) rfl)) (hw _ (List.mem_of_getElem? (i := 5) rfl)) e1 (g := (mkF m 56 #[.val (.int p1), .val (.int p2), .val (.int p3), .val (.int p4), .val (.int d), .val (.int q), .val (.int (0 : Int32)), .val (.int q), .unset, .unset, .unset, .unset, .unset, .unset, .unset, .unset] [(.int d), (.ref b1), (.ref b1)])) rfl (hb hby at_56) rfl hdd.2.2.1 (cap := 7) hdd.2.2.2 (by decide) (by decide) (by decide)
    obtain ⟨b2, g2⟩ : ∃ z, z = h1.size := ⟨_, rfl⟩
    rw [← g2] at A2 st2
    refine own_go st2 ?_
    have ge_b2 : n0 ≤ b2 := Nat.le_trans Z0 (Nat.le_of_eq g2.symm)
    have ne_b1_b2 : b1 ≠ b2 := Nat.ne_of_lt (Nat.lt_of_lt_of_le A1.lt (Nat.le_of_eq g2.symm))
    have sz_b2 : h0.size ≤ b2 := Nat.le_trans K0.1 (Nat.le_of_eq g2.symm)
    replace A1 := A1.ext E2
    replace F_docnos_b1 := F_docnos_b1.ext E2
    replace F_documentStarts_b1 := F_documentStarts_b1.ext E2
    replace F_documentTerms_b1 := F_documentTerms_b1.ext E2
    replace F_terms_b1 := F_terms_b1.ext E2
    replace F_termStarts_b1 := F_termStarts_b1.ext E2
    replace F_postingDocuments_b1 := F_postingDocuments_b1.ext E2
    replace F_postingStarts_b1 := F_postingStarts_b1.ext E2
    replace F_positions_b1 := F_positions_b1.ext E2
    replace F_termNumbers_b1 := F_termNumbers_b1.ext E2
    replace Z0 := Nat.le_trans Z0 E2.1
    replace K0 := K0.ext E2
    have V_b2 : Arv Z h2 b2 k2 (.object "java/lang/String") d [] .null := Arv.new A2 hdd.2.2.1
    show own_Go _ _ _ _ (T2.setTop (mkF m 59 #[.val (.int p1), .val (.int p2), .val (.int p3), .val (.int p4), .val (.int d), .val (.int q), .val (.int (0 : Int32)), .val (.int q), .unset, .unset, .unset, .unset, .unset, .unset, .unset, .unset] [(.ref b2), (.ref b1), (.ref b1)]))
    refine own_go (fun _ kont => XS.iload X2.here hx rfl (hb hby at_59) rfl kont) ?_
    show own_Go _ _ _ _ (T2.setTop (mkF m 61 #[.val (.int p1), .val (.int p2), .val (.int p3), .val (.int p4), .val (.int d), .val (.int q), .val (.int (0 : Int32)), .val (.int q), .unset, .unset, .unset, .unset, .unset, .unset, .unset, .unset] [(.int d), (.ref b2), (.ref b1), (.ref b1)]))
    refine own_go (fun _ kont => XS.iconst X2.here hx rfl (hb hby at_61) kont) ?_
    show own_Go _ _ _ _ (T2.setTop (mkF m 62 #[.val (.int p1), .val (.int p2), .val (.int p3), .val (.int p4), .val (.int d), .val (.int q), .val (.int (0 : Int32)), .val (.int q), .unset, .unset, .unset, .unset, .unset, .unset, .unset, .unset] [(.int (1 : Int32)), (.int d), (.ref b2), (.ref b1), (.ref b1)]))
    refine own_go (fun _ kont => XS.iadd X2.here hx rfl (hb hby at_62) rfl kont) ?_
    show own_Go _ _ _ _ (T2.setTop (mkF m 63 #[.val (.int p1), .val (.int p2), .val (.int p3), .val (.int p4), .val (.int d), .val (.int q), .val (.int (0 : Int32)), .val (.int q), .unset, .unset, .unset, .unset, .unset, .unset, .unset, .unset] [(.int (d + (1 : Int32))), (.ref b2), (.ref b1), (.ref b1)]))
    obtain ⟨T3, h3, k3, X3, e3, E3, A3, st3⟩ := newP X2 hx hZ (hw _ (List.mem_of_getElem? (i := 6) rfl)) e2 (g := (mkF m 63 #[.val (.int p1), .val (.int p2), .val (.int p3), .val (.int p4), .val (.int d), .val (.int q), .val (.int (0 : Int32)), .val (.int q), .unset, .unset, .unset, .unset, .unset, .unset, .unset, .unset] [(.int (d + (1 : Int32))), (.ref b2), (.ref b1), (.ref b1)])) rfl (hb hby at_63) rfl hdd.1 (cap := 8) hdd.2.1 (by decide) (by decide) (by decide)
    obtain ⟨b3, g3⟩ : ∃ z, z = h2.size := ⟨_, rfl⟩
    rw [← g3] at A3 st3
    refine own_go st3 ?_
    have ge_b3 : n0 ≤ b3 := Nat.le_trans Z0 (Nat.le_of_eq g3.symm)
    have ne_b1_b3 : b1 ≠ b3 := Nat.ne_of_lt (Nat.lt_of_lt_of_le A1.lt (Nat.le_of_eq g3.symm))
    have ne_b2_b3 : b2 ≠ b3 := Nat.ne_of_lt (Nat.lt_of_lt_of_le V_b2.lt (Nat.le_of_eq g3.symm))
    have sz_b3 : h0.size ≤ b3 := Nat.le_trans K0.1 (Nat.le_of_eq g3.symm)
    replace A1 := A1.ext E3
    replace F_docnos_b1 := F_docnos_b1.ext E3
    replace F_documentStarts_b1 := F_documentStarts_b1.ext E3
    replace F_documentTerms_b1 := F_documentTerms_b1.ext E3
    replace F_terms_b1 := F_terms_b1.ext E3
    replace F_termStarts_b1 := F_termStarts_b1.ext E3
    replace F_postingDocuments_b1 := F_postingDocuments_b1.ext E3
    replace F_postingStarts_b1 := F_postingStarts_b1.ext E3
    replace F_positions_b1 := F_positions_b1.ext E3
    replace F_termNumbers_b1 := F_termNumbers_b1.ext E3
    replace V_b2 := V_b2.ext E3
    replace Z0 := Nat.le_trans Z0 E3.1
    replace K0 := K0.ext E3
    have V_b3 : Arv Z h3 b3 k3 .int (d + (1 : Int32)) [] (.int (0 : Int32)) := Arv.new A3 hdd.1
    show own_Go _ _ _ _ (T3.setTop (mkF m 65 #[.val (.int p1), .val (.int p2), .val (.int p3), .val (.int p4), .val (.int d), .val (.int q), .val (.int (0 : Int32)), .val (.int q), .unset, .unset, .unset, .unset, .unset, .unset, .unset, .unset] [(.ref b3), (.ref b2), (.ref b1), (.ref b1)]))
    refine own_go (fun _ kont => XS.iload X3.here hx rfl (hb hby at_65) rfl kont) ?_
    show own_Go _ _ _ _ (T3.setTop (mkF m 67 #[.val (.int p1), .val (.int p2), .val (.int p3), .val (.int p4), .val (.int d), .val (.int q), .val (.int (0 : Int32)), .val (.int q), .unset, .unset, .unset, .unset, .unset, .unset, .unset, .unset] [(.int q), (.ref b3), (.ref b2), (.ref b1), (.ref b1)]))
    obtain ⟨T4, h4, k4, X4, e4, E4, A4, st4⟩ := newP X3 hx hZ (hw _ (List.mem_of_getElem? (i := 6) rfl)) e3 (g := (mkF m 67 #[.val (.int p1), .val (.int p2), .val (.int p3), .val (.int p4), .val (.int d), .val (.int q), .val (.int (0 : Int32)), .val (.int q), .unset, .unset, .unset, .unset, .unset, .unset, .unset, .unset] [(.int q), (.ref b3), (.ref b2), (.ref b1), (.ref b1)])) rfl (hb hby at_67) rfl hnn.1 (cap := 447) hnn.2 (by decide) (by decide) (by decide)
    obtain ⟨b4, g4⟩ : ∃ z, z = h3.size := ⟨_, rfl⟩
    rw [← g4] at A4 st4
    refine own_go st4 ?_
    have ge_b4 : n0 ≤ b4 := Nat.le_trans Z0 (Nat.le_of_eq g4.symm)
    have ne_b1_b4 : b1 ≠ b4 := Nat.ne_of_lt (Nat.lt_of_lt_of_le A1.lt (Nat.le_of_eq g4.symm))
    have ne_b2_b4 : b2 ≠ b4 := Nat.ne_of_lt (Nat.lt_of_lt_of_le V_b2.lt (Nat.le_of_eq g4.symm))
    have ne_b3_b4 : b3 ≠ b4 := Nat.ne_of_lt (Nat.lt_of_lt_of_le V_b3.lt (Nat.le_of_eq g4.symm))
    have sz_b4 : h0.size ≤ b4 := Nat.le_trans K0.1 (Nat.le_of_eq g4.symm)
    replace A1 := A1.ext E4
    replace F_docnos_b1 := F_docnos_b1.ext E4
    replace F_documentStarts_b1 := F_documentStarts_b1.ext E4
    replace F_documentTerms_b1 := F_documentTerms_b1.ext E4
    replace F_terms_b1 := F_terms_b1.ext E4
    replace F_termStarts_b1 := F_termStarts_b1.ext E4
    replace F_postingDocuments_b1 := F_postingDocuments_b1.ext E4
    replace F_postingStarts_b1 := F_postingStarts_b1.ext E4
    replace F_positions_b1 := F_positions_b1.ext E4
    replace F_termNumbers_b1 := F_termNumbers_b1.ext E4
    replace V_b2 := V_b2.ext E4
    replace V_b3 := V_b3.ext E4
    replace Z0 := Nat.le_trans Z0 E4.1
    replace K0 := K0.ext E4
    have V_b4 : Arv Z h4 b4 k4 .int q [] (.int (0 : Int32)) := Arv.new A4 hnn.1
    show own_Go _ _ _ _ (T4.setTop (mkF m 69 #[.val (.int p1), .val (.int p2), .val (.int p3), .val (.int p4), .val (.int d), .val (.int q), .val (.int (0 : Int32)), .val (.int q), .unset, .unset, .unset, .unset, .unset, .unset, .unset, .unset] [(.ref b4), (.ref b3), (.ref b2), (.ref b1), (.ref b1)]))
    refine own_go (fun _ kont => XS.iconst X4.here hx rfl (hb hby at_69) kont) ?_
    show own_Go _ _ _ _ (T4.setTop (mkF m 70 #[.val (.int p1), .val (.int p2), .val (.int p3), .val (.int p4), .val (.int d), .val (.int q), .val (.int (0 : Int32)), .val (.int q), .unset, .unset, .unset, .unset, .unset, .unset, .unset, .unset] [(.int (0 : Int32)), (.ref b4), (.ref b3), (.ref b2), (.ref b1), (.ref b1)]))
    obtain ⟨T5, h5, k5, X5, e5, E5, A5, O5, st5⟩ := newR X4 hx hZ hown (hw _ (List.mem_of_getElem? (i := 4) rfl)) (hw _ (List.mem_of_getElem? (i := 5) rfl)) e4 (g := (mkF m 70 #[.val (.int p1), .val (.int p2), .val (.int p3), .val (.int p4), .val (.int d), .val (.int q), .val (.int (0 : Int32)), .val (.int q), .unset, .unset, .unset, .unset, .unset, .unset, .unset, .unset] [(.int (0 : Int32)), (.ref b4), (.ref b3), (.ref b2), (.ref b1), (.ref b1)])) rfl (hb hby at_70) rfl (by decide) (cap := 0) (by decide) (by decide) (by decide) (by decide)
    obtain ⟨b5, g5⟩ : ∃ z, z = h4.size := ⟨_, rfl⟩
    rw [← g5] at A5 st5
    refine own_go st5 ?_
    have ge_b5 : n0 ≤ b5 := Nat.le_trans Z0 (Nat.le_of_eq g5.symm)
    have ne_b1_b5 : b1 ≠ b5 := Nat.ne_of_lt (Nat.lt_of_lt_of_le A1.lt (Nat.le_of_eq g5.symm))
    have ne_b2_b5 : b2 ≠ b5 := Nat.ne_of_lt (Nat.lt_of_lt_of_le V_b2.lt (Nat.le_of_eq g5.symm))
    have ne_b3_b5 : b3 ≠ b5 := Nat.ne_of_lt (Nat.lt_of_lt_of_le V_b3.lt (Nat.le_of_eq g5.symm))
    have ne_b4_b5 : b4 ≠ b5 := Nat.ne_of_lt (Nat.lt_of_lt_of_le V_b4.lt (Nat.le_of_eq g5.symm))
    have sz_b5 : h0.size ≤ b5 := Nat.le_trans K0.1 (Nat.le_of_eq g5.symm)
    replace A1 := A1.ext E5
    replace F_docnos_b1 := F_docnos_b1.ext E5
    replace F_documentStarts_b1 := F_documentStarts_b1.ext E5
    replace F_documentTerms_b1 := F_documentTerms_b1.ext E5
    replace F_terms_b1 := F_terms_b1.ext E5
    replace F_termStarts_b1 := F_termStarts_b1.ext E5
    replace F_postingDocuments_b1 := F_postingDocuments_b1.ext E5
    replace F_postingStarts_b1 := F_postingStarts_b1.ext E5
    replace F_positions_b1 := F_positions_b1.ext E5
    replace F_termNumbers_b1 := F_termNumbers_b1.ext E5
    replace V_b2 := V_b2.ext E5
    replace V_b3 := V_b3.ext E5
    replace V_b4 := V_b4.ext E5
    replace Z0 := Nat.le_trans Z0 E5.1
    replace K0 := K0.ext E5
    have V_b5 : Arv Z h5 b5 k5 (.object "java/lang/String") (0 : Int32) [] .null := Arv.new A5 (by decide)
    show own_Go _ _ _ _ (T5.setTop (mkF m 73 #[.val (.int p1), .val (.int p2), .val (.int p3), .val (.int p4), .val (.int d), .val (.int q), .val (.int (0 : Int32)), .val (.int q), .unset, .unset, .unset, .unset, .unset, .unset, .unset, .unset] [(.ref b5), (.ref b4), (.ref b3), (.ref b2), (.ref b1), (.ref b1)]))
    refine own_go (fun _ kont => XS.iconst X5.here hx rfl (hb hby at_73) kont) ?_
    show own_Go _ _ _ _ (T5.setTop (mkF m 74 #[.val (.int p1), .val (.int p2), .val (.int p3), .val (.int p4), .val (.int d), .val (.int q), .val (.int (0 : Int32)), .val (.int q), .unset, .unset, .unset, .unset, .unset, .unset, .unset, .unset] [(.int (1 : Int32)), (.ref b5), (.ref b4), (.ref b3), (.ref b2), (.ref b1), (.ref b1)]))
    obtain ⟨T6, h6, k6, X6, e6, E6, A6, st6⟩ := newP X5 hx hZ (hw _ (List.mem_of_getElem? (i := 6) rfl)) e5 (g := (mkF m 74 #[.val (.int p1), .val (.int p2), .val (.int p3), .val (.int p4), .val (.int d), .val (.int q), .val (.int (0 : Int32)), .val (.int q), .unset, .unset, .unset, .unset, .unset, .unset, .unset, .unset] [(.int (1 : Int32)), (.ref b5), (.ref b4), (.ref b3), (.ref b2), (.ref b1), (.ref b1)])) rfl (hb hby at_74) rfl (by decide) (cap := 1) (by decide) (by decide) (by decide) (by decide)
    obtain ⟨b6, g6⟩ : ∃ z, z = h5.size := ⟨_, rfl⟩
    rw [← g6] at A6 st6
    refine own_go st6 ?_
    have ge_b6 : n0 ≤ b6 := Nat.le_trans Z0 (Nat.le_of_eq g6.symm)
    have ne_b1_b6 : b1 ≠ b6 := Nat.ne_of_lt (Nat.lt_of_lt_of_le A1.lt (Nat.le_of_eq g6.symm))
    have ne_b2_b6 : b2 ≠ b6 := Nat.ne_of_lt (Nat.lt_of_lt_of_le V_b2.lt (Nat.le_of_eq g6.symm))
    have ne_b3_b6 : b3 ≠ b6 := Nat.ne_of_lt (Nat.lt_of_lt_of_le V_b3.lt (Nat.le_of_eq g6.symm))
    have ne_b4_b6 : b4 ≠ b6 := Nat.ne_of_lt (Nat.lt_of_lt_of_le V_b4.lt (Nat.le_of_eq g6.symm))
    have ne_b5_b6 : b5 ≠ b6 := Nat.ne_of_lt (Nat.lt_of_lt_of_le V_b5.lt (Nat.le_of_eq g6.symm))
    have sz_b6 : h0.size ≤ b6 := Nat.le_trans K0.1 (Nat.le_of_eq g6.symm)
    replace A1 := A1.ext E6
    replace F_docnos_b1 := F_docnos_b1.ext E6
    replace F_documentStarts_b1 := F_documentStarts_b1.ext E6
    replace F_documentTerms_b1 := F_documentTerms_b1.ext E6
    replace F_terms_b1 := F_terms_b1.ext E6
    replace F_termStarts_b1 := F_termStarts_b1.ext E6
    replace F_postingDocuments_b1 := F_postingDocuments_b1.ext E6
    replace F_postingStarts_b1 := F_postingStarts_b1.ext E6
    replace F_positions_b1 := F_positions_b1.ext E6
    replace F_termNumbers_b1 := F_termNumbers_b1.ext E6
    replace V_b2 := V_b2.ext E6
    replace V_b3 := V_b3.ext E6
    replace V_b4 := V_b4.ext E6
    replace V_b5 := V_b5.ext E6
    replace Z0 := Nat.le_trans Z0 E6.1
    replace K0 := K0.ext E6
    have V_b6 : Arv Z h6 b6 k6 .int (1 : Int32) [(.int (0 : Int32))] (.int (0 : Int32)) := (Arv.new A6 (by decide)).pad (pad_rep [] (.int (0 : Int32)) 1)
    show own_Go _ _ _ _ (T6.setTop (mkF m 76 #[.val (.int p1), .val (.int p2), .val (.int p3), .val (.int p4), .val (.int d), .val (.int q), .val (.int (0 : Int32)), .val (.int q), .unset, .unset, .unset, .unset, .unset, .unset, .unset, .unset] [(.ref b6), (.ref b5), (.ref b4), (.ref b3), (.ref b2), (.ref b1), (.ref b1)]))
    refine own_go (fun _ kont => XS.iconst X6.here hx rfl (hb hby at_76) kont) ?_
    show own_Go _ _ _ _ (T6.setTop (mkF m 77 #[.val (.int p1), .val (.int p2), .val (.int p3), .val (.int p4), .val (.int d), .val (.int q), .val (.int (0 : Int32)), .val (.int q), .unset, .unset, .unset, .unset, .unset, .unset, .unset, .unset] [(.int (0 : Int32)), (.ref b6), (.ref b5), (.ref b4), (.ref b3), (.ref b2), (.ref b1), (.ref b1)]))
    obtain ⟨T7, h7, k7, X7, e7, E7, A7, st7⟩ := newP X6 hx hZ (hw _ (List.mem_of_getElem? (i := 6) rfl)) e6 (g := (mkF m 77 #[.val (.int p1), .val (.int p2), .val (.int p3), .val (.int p4), .val (.int d), .val (.int q), .val (.int (0 : Int32)), .val (.int q), .unset, .unset, .unset, .unset, .unset, .unset, .unset, .unset] [(.int (0 : Int32)), (.ref b6), (.ref b5), (.ref b4), (.ref b3), (.ref b2), (.ref b1), (.ref b1)])) rfl (hb hby at_77) rfl (by decide) (cap := 0) (by decide) (by decide) (by decide) (by decide)
    obtain ⟨b7, g7⟩ : ∃ z, z = h6.size := ⟨_, rfl⟩
    rw [← g7] at A7 st7
    refine own_go st7 ?_
    have ge_b7 : n0 ≤ b7 := Nat.le_trans Z0 (Nat.le_of_eq g7.symm)
    have ne_b1_b7 : b1 ≠ b7 := Nat.ne_of_lt (Nat.lt_of_lt_of_le A1.lt (Nat.le_of_eq g7.symm))
    have ne_b2_b7 : b2 ≠ b7 := Nat.ne_of_lt (Nat.lt_of_lt_of_le V_b2.lt (Nat.le_of_eq g7.symm))
    have ne_b3_b7 : b3 ≠ b7 := Nat.ne_of_lt (Nat.lt_of_lt_of_le V_b3.lt (Nat.le_of_eq g7.symm))
    have ne_b4_b7 : b4 ≠ b7 := Nat.ne_of_lt (Nat.lt_of_lt_of_le V_b4.lt (Nat.le_of_eq g7.symm))
    have ne_b5_b7 : b5 ≠ b7 := Nat.ne_of_lt (Nat.lt_of_lt_of_le V_b5.lt (Nat.le_of_eq g7.symm))
    have ne_b6_b7 : b6 ≠ b7 := Nat.ne_of_lt (Nat.lt_of_lt_of_le V_b6.lt (Nat.le_of_eq g7.symm))
    have sz_b7 : h0.size ≤ b7 := Nat.le_trans K0.1 (Nat.le_of_eq g7.symm)
    replace A1 := A1.ext E7
    replace F_docnos_b1 := F_docnos_b1.ext E7
    replace F_documentStarts_b1 := F_documentStarts_b1.ext E7
    replace F_documentTerms_b1 := F_documentTerms_b1.ext E7
    replace F_terms_b1 := F_terms_b1.ext E7
    replace F_termStarts_b1 := F_termStarts_b1.ext E7
    replace F_postingDocuments_b1 := F_postingDocuments_b1.ext E7
    replace F_postingStarts_b1 := F_postingStarts_b1.ext E7
    replace F_positions_b1 := F_positions_b1.ext E7
    replace F_termNumbers_b1 := F_termNumbers_b1.ext E7
    replace V_b2 := V_b2.ext E7
    replace V_b3 := V_b3.ext E7
    replace V_b4 := V_b4.ext E7
    replace V_b5 := V_b5.ext E7
    replace V_b6 := V_b6.ext E7
    replace Z0 := Nat.le_trans Z0 E7.1
    replace K0 := K0.ext E7
    have V_b7 : Arv Z h7 b7 k7 .int (0 : Int32) [] (.int (0 : Int32)) := Arv.new A7 (by decide)
    show own_Go _ _ _ _ (T7.setTop (mkF m 79 #[.val (.int p1), .val (.int p2), .val (.int p3), .val (.int p4), .val (.int d), .val (.int q), .val (.int (0 : Int32)), .val (.int q), .unset, .unset, .unset, .unset, .unset, .unset, .unset, .unset] [(.ref b7), (.ref b6), (.ref b5), (.ref b4), (.ref b3), (.ref b2), (.ref b1), (.ref b1)]))
    refine own_go (fun _ kont => XS.iconst X7.here hx rfl (hb hby at_79) kont) ?_
    show own_Go _ _ _ _ (T7.setTop (mkF m 80 #[.val (.int p1), .val (.int p2), .val (.int p3), .val (.int p4), .val (.int d), .val (.int q), .val (.int (0 : Int32)), .val (.int q), .unset, .unset, .unset, .unset, .unset, .unset, .unset, .unset] [(.int (1 : Int32)), (.ref b7), (.ref b6), (.ref b5), (.ref b4), (.ref b3), (.ref b2), (.ref b1), (.ref b1)]))
    obtain ⟨T8, h8, k8, X8, e8, E8, A8, st8⟩ := newP X7 hx hZ (hw _ (List.mem_of_getElem? (i := 6) rfl)) e7 (g := (mkF m 80 #[.val (.int p1), .val (.int p2), .val (.int p3), .val (.int p4), .val (.int d), .val (.int q), .val (.int (0 : Int32)), .val (.int q), .unset, .unset, .unset, .unset, .unset, .unset, .unset, .unset] [(.int (1 : Int32)), (.ref b7), (.ref b6), (.ref b5), (.ref b4), (.ref b3), (.ref b2), (.ref b1), (.ref b1)])) rfl (hb hby at_80) rfl (by decide) (cap := 1) (by decide) (by decide) (by decide) (by decide)
    obtain ⟨b8, g8⟩ : ∃ z, z = h7.size := ⟨_, rfl⟩
    rw [← g8] at A8 st8
    refine own_go st8 ?_
    have ge_b8 : n0 ≤ b8 := Nat.le_trans Z0 (Nat.le_of_eq g8.symm)
    have ne_b1_b8 : b1 ≠ b8 := Nat.ne_of_lt (Nat.lt_of_lt_of_le A1.lt (Nat.le_of_eq g8.symm))
    have ne_b2_b8 : b2 ≠ b8 := Nat.ne_of_lt (Nat.lt_of_lt_of_le V_b2.lt (Nat.le_of_eq g8.symm))
    have ne_b3_b8 : b3 ≠ b8 := Nat.ne_of_lt (Nat.lt_of_lt_of_le V_b3.lt (Nat.le_of_eq g8.symm))
    have ne_b4_b8 : b4 ≠ b8 := Nat.ne_of_lt (Nat.lt_of_lt_of_le V_b4.lt (Nat.le_of_eq g8.symm))
    have ne_b5_b8 : b5 ≠ b8 := Nat.ne_of_lt (Nat.lt_of_lt_of_le V_b5.lt (Nat.le_of_eq g8.symm))
    have ne_b6_b8 : b6 ≠ b8 := Nat.ne_of_lt (Nat.lt_of_lt_of_le V_b6.lt (Nat.le_of_eq g8.symm))
    have ne_b7_b8 : b7 ≠ b8 := Nat.ne_of_lt (Nat.lt_of_lt_of_le V_b7.lt (Nat.le_of_eq g8.symm))
    have sz_b8 : h0.size ≤ b8 := Nat.le_trans K0.1 (Nat.le_of_eq g8.symm)
    replace A1 := A1.ext E8
    replace F_docnos_b1 := F_docnos_b1.ext E8
    replace F_documentStarts_b1 := F_documentStarts_b1.ext E8
    replace F_documentTerms_b1 := F_documentTerms_b1.ext E8
    replace F_terms_b1 := F_terms_b1.ext E8
    replace F_termStarts_b1 := F_termStarts_b1.ext E8
    replace F_postingDocuments_b1 := F_postingDocuments_b1.ext E8
    replace F_postingStarts_b1 := F_postingStarts_b1.ext E8
    replace F_positions_b1 := F_positions_b1.ext E8
    replace F_termNumbers_b1 := F_termNumbers_b1.ext E8
    replace V_b2 := V_b2.ext E8
    replace V_b3 := V_b3.ext E8
    replace V_b4 := V_b4.ext E8
    replace V_b5 := V_b5.ext E8
    replace V_b6 := V_b6.ext E8
    replace V_b7 := V_b7.ext E8
    replace Z0 := Nat.le_trans Z0 E8.1
    replace K0 := K0.ext E8
    have V_b8 : Arv Z h8 b8 k8 .int (1 : Int32) [(.int (0 : Int32))] (.int (0 : Int32)) := (Arv.new A8 (by decide)).pad (pad_rep [] (.int (0 : Int32)) 1)
    show own_Go _ _ _ _ (T8.setTop (mkF m 82 #[.val (.int p1), .val (.int p2), .val (.int p3), .val (.int p4), .val (.int d), .val (.int q), .val (.int (0 : Int32)), .val (.int q), .unset, .unset, .unset, .unset, .unset, .unset, .unset, .unset] [(.ref b8), (.ref b7), (.ref b6), (.ref b5), (.ref b4), (.ref b3), (.ref b2), (.ref b1), (.ref b1)]))
    refine own_go (fun _ kont => XS.iconst X8.here hx rfl (hb hby at_82) kont) ?_
    show own_Go _ _ _ _ (T8.setTop (mkF m 83 #[.val (.int p1), .val (.int p2), .val (.int p3), .val (.int p4), .val (.int d), .val (.int q), .val (.int (0 : Int32)), .val (.int q), .unset, .unset, .unset, .unset, .unset, .unset, .unset, .unset] [(.int (0 : Int32)), (.ref b8), (.ref b7), (.ref b6), (.ref b5), (.ref b4), (.ref b3), (.ref b2), (.ref b1), (.ref b1)]))
    obtain ⟨T9, h9, k9, X9, e9, E9, A9, st9⟩ := newP X8 hx hZ (hw _ (List.mem_of_getElem? (i := 6) rfl)) e8 (g := (mkF m 83 #[.val (.int p1), .val (.int p2), .val (.int p3), .val (.int p4), .val (.int d), .val (.int q), .val (.int (0 : Int32)), .val (.int q), .unset, .unset, .unset, .unset, .unset, .unset, .unset, .unset] [(.int (0 : Int32)), (.ref b8), (.ref b7), (.ref b6), (.ref b5), (.ref b4), (.ref b3), (.ref b2), (.ref b1), (.ref b1)])) rfl (hb hby at_83) rfl (by decide) (cap := 0) (by decide) (by decide) (by decide) (by decide)
    obtain ⟨b9, g9⟩ : ∃ z, z = h8.size := ⟨_, rfl⟩
    rw [← g9] at A9 st9
    refine own_go st9 ?_
    have ge_b9 : n0 ≤ b9 := Nat.le_trans Z0 (Nat.le_of_eq g9.symm)
    have ne_b1_b9 : b1 ≠ b9 := Nat.ne_of_lt (Nat.lt_of_lt_of_le A1.lt (Nat.le_of_eq g9.symm))
    have ne_b2_b9 : b2 ≠ b9 := Nat.ne_of_lt (Nat.lt_of_lt_of_le V_b2.lt (Nat.le_of_eq g9.symm))
    have ne_b3_b9 : b3 ≠ b9 := Nat.ne_of_lt (Nat.lt_of_lt_of_le V_b3.lt (Nat.le_of_eq g9.symm))
    have ne_b4_b9 : b4 ≠ b9 := Nat.ne_of_lt (Nat.lt_of_lt_of_le V_b4.lt (Nat.le_of_eq g9.symm))
    have ne_b5_b9 : b5 ≠ b9 := Nat.ne_of_lt (Nat.lt_of_lt_of_le V_b5.lt (Nat.le_of_eq g9.symm))
    have ne_b6_b9 : b6 ≠ b9 := Nat.ne_of_lt (Nat.lt_of_lt_of_le V_b6.lt (Nat.le_of_eq g9.symm))
    have ne_b7_b9 : b7 ≠ b9 := Nat.ne_of_lt (Nat.lt_of_lt_of_le V_b7.lt (Nat.le_of_eq g9.symm))
    have ne_b8_b9 : b8 ≠ b9 := Nat.ne_of_lt (Nat.lt_of_lt_of_le V_b8.lt (Nat.le_of_eq g9.symm))
    have sz_b9 : h0.size ≤ b9 := Nat.le_trans K0.1 (Nat.le_of_eq g9.symm)
    replace A1 := A1.ext E9
    replace F_docnos_b1 := F_docnos_b1.ext E9
    replace F_documentStarts_b1 := F_documentStarts_b1.ext E9
    replace F_documentTerms_b1 := F_documentTerms_b1.ext E9
    replace F_terms_b1 := F_terms_b1.ext E9
    replace F_termStarts_b1 := F_termStarts_b1.ext E9
    replace F_postingDocuments_b1 := F_postingDocuments_b1.ext E9
    replace F_postingStarts_b1 := F_postingStarts_b1.ext E9
    replace F_positions_b1 := F_positions_b1.ext E9
    replace F_termNumbers_b1 := F_termNumbers_b1.ext E9
    replace V_b2 := V_b2.ext E9
    replace V_b3 := V_b3.ext E9
    replace V_b4 := V_b4.ext E9
    replace V_b5 := V_b5.ext E9
    replace V_b6 := V_b6.ext E9
    replace V_b7 := V_b7.ext E9
    replace V_b8 := V_b8.ext E9
    replace Z0 := Nat.le_trans Z0 E9.1
    replace K0 := K0.ext E9
    have V_b9 : Arv Z h9 b9 k9 .int (0 : Int32) [] (.int (0 : Int32)) := Arv.new A9 (by decide)
    show own_Go _ _ _ _ (T9.setTop (mkF m 85 #[.val (.int p1), .val (.int p2), .val (.int p3), .val (.int p4), .val (.int d), .val (.int q), .val (.int (0 : Int32)), .val (.int q), .unset, .unset, .unset, .unset, .unset, .unset, .unset, .unset] [(.ref b9), (.ref b8), (.ref b7), (.ref b6), (.ref b5), (.ref b4), (.ref b3), (.ref b2), (.ref b1), (.ref b1)]))
    obtain ⟨_, _, ⟨T10, L10, k10, n10⟩, -, X10, ⟨Lc10, hQ10, l10, y10, z10⟩, st10⟩ := X9.specialBack hx (y := (⟨"com/example/lissage/lissage/Index", "<init>", "([Ljava/lang/String;[I[I[Ljava/lang/String;[I[I[I[I)V"⟩ : MethodName)) rfl hown (mvT hZ (hw _ (List.mem_of_getElem? (i := 7) rfl))) (mvT hZ (hw _ (List.mem_of_getElem? (i := 8) rfl))) (mvT hZ (hw _ (List.mem_of_getElem? (i := 9) rfl))) (by decide) (own_back (W := 1) (own_rmI l Z a0 hw b1 b2 b3 b4 b5 b6 b7 b8 b9 k5 h9 n0 Z0 A1 F_docnos_b1 F_documentStarts_b1 F_documentTerms_b1 F_terms_b1 F_termStarts_b1 F_postingDocuments_b1 F_postingStarts_b1 F_positions_b1 F_termNumbers_b1 ge_b1 V_b5 ne_b1_b5) hZ (hw _ (List.mem_of_getElem? (i := 9) rfl)) (hw _ (List.mem_of_getElem? (i := 3) rfl)) (by decide) (by decide)) (g := (mkF m 85 #[.val (.int p1), .val (.int p2), .val (.int p3), .val (.int p4), .val (.int d), .val (.int q), .val (.int (0 : Int32)), .val (.int q), .unset, .unset, .unset, .unset, .unset, .unset, .unset, .unset] [(.ref b9), (.ref b8), (.ref b7), (.ref b6), (.ref b5), (.ref b4), (.ref b3), (.ref b2), (.ref b1), (.ref b1)])) rfl (by rw [hml]; rfl) (Steps.refl _) (a := b1) (argsL := [(.ref b2), (.ref b3), (.ref b4), (.ref b5), (.ref b6), (.ref b7), (.ref b8), (.ref b9)]) (rest := [(.ref b1)]) (lenOf own_pd5 rfl) rfl (by show 2 * 0 + _ ≤ _; exact Nat.le_of_eq rfl) (hb hby at_85) (fun _ _ => ⟨rfl, e9, (by decide : 9 + 1 ≤ _), (by decide : 473 + 8 ≤ _)⟩)
    dsimp only [Pt.U, Pt.locs, Pt.cells, Pt.slots] at X10 l10 y10 z10 st10 hQ10
    subst l10 y10 z10
    obtain ⟨rfl, Nq10, K10, Ex10, _, Fd10, Ft10⟩ := hQ10
    have NF10 := Fr.app N0 Nq10
    refine own_goT st10 ?_
    replace A1 := A1.keep K10
    replace V_b2 := V_b2.keep K10 (ninS (Ne.symm ne_b1_b2) nin0)
    replace V_b3 := V_b3.keep K10 (ninS (Ne.symm ne_b1_b3) nin0)
    replace V_b4 := V_b4.keep K10 (ninS (Ne.symm ne_b1_b4) nin0)
    replace V_b5 := V_b5.keep K10 (ninS (Ne.symm ne_b1_b5) nin0)
    replace V_b6 := V_b6.keep K10 (ninS (Ne.symm ne_b1_b6) nin0)
    replace V_b7 := V_b7.keep K10 (ninS (Ne.symm ne_b1_b7) nin0)
    replace V_b8 := V_b8.keep K10 (ninS (Ne.symm ne_b1_b8) nin0)
    replace V_b9 := V_b9.keep K10 (ninS (Ne.symm ne_b1_b9) nin0)
    replace Z0 := Nat.le_trans Z0 K10.1
    replace K0 := K0.trans K10 (allS (Or.inr sz_b1) all0)
    show own_Go _ _ _ _ (T10.setTop (mkF m 88 #[.val (.int p1), .val (.int p2), .val (.int p3), .val (.int p4), .val (.int d), .val (.int q), .val (.int (0 : Int32)), .val (.int q), .unset, .unset, .unset, .unset, .unset, .unset, .unset, .unset] [(.ref b1)]))
    refine own_go (fun _ kont => XS.astore X10.here hx rfl (hb hby at_88) rfl rfl (l' := #[.val (.int p1), .val (.int p2), .val (.int p3), .val (.int p4), .val (.int d), .val (.int q), .val (.int (0 : Int32)), .val (.int q), .val (.ref b1), .unset, .unset, .unset, .unset, .unset, .unset, .unset]) rfl kont) ?_
    show own_Go _ _ _ _ (T10.setTop (mkF m 90 #[.val (.int p1), .val (.int p2), .val (.int p3), .val (.int p4), .val (.int d), .val (.int q), .val (.int (0 : Int32)), .val (.int q), .val (.ref b1), .unset, .unset, .unset, .unset, .unset, .unset, .unset] []))
    refine own_go (fun _ kont => XS.aload X10.here hx rfl (hb hby at_90) rfl rfl kont) ?_
    show own_Go _ _ _ _ (T10.setTop (mkF m 92 #[.val (.int p1), .val (.int p2), .val (.int p3), .val (.int p4), .val (.int d), .val (.int q), .val (.int (0 : Int32)), .val (.int q), .val (.ref b1), .unset, .unset, .unset, .unset, .unset, .unset, .unset] [(.ref b1)]))
    obtain ⟨cq11, kq11, q11a, q11b, q11c⟩ := isOf hZ rfl A1
    obtain ⟨_, _, ⟨T11, L11, k11, n11⟩, -, X11, ⟨Lc11, hQ11, l11, y11, z11⟩, st11⟩ := X10.virtualBack hx (y := (⟨"com/example/lissage/lissage/Index", "averageLength", "()D"⟩ : MethodName)) (z := (⟨"com/example/lissage/lissage/Index", "averageLength", "()D"⟩ : MethodName)) hown (mvT hZ (hw _ (List.mem_of_getElem? (i := 65) rfl))) (mvT hZ (hw _ (List.mem_of_getElem? (i := 66) rfl))) (notFace_of_selects (args := #[]) (mvT hZ (hw _ (List.mem_of_getElem? (i := 68) rfl)))) (mvT hZ (hw _ (List.mem_of_getElem? (i := 68) rfl))) (mvT hZ (hw _ (List.mem_of_getElem? (i := 67) rfl))) (by decide) (own_back (W := 0) (own_rmV l Z a0 hw b1 b2 b4 k2 k4 d q T10.heap n0 Z0 Fd10 Ft10 V_b2 V_b4 (fun q => absurd hd q)) hZ (hw _ (List.mem_of_getElem? (i := 69) rfl)) (hw _ (List.mem_of_getElem? (i := 3) rfl)) (by decide) (by decide)) q11a q11c (g := (mkF m 92 #[.val (.int p1), .val (.int p2), .val (.int p3), .val (.int p4), .val (.int d), .val (.int q), .val (.int (0 : Int32)), .val (.int q), .val (.ref b1), .unset, .unset, .unset, .unset, .unset, .unset, .unset] [(.ref b1)])) rfl (by rw [hml]; rfl) (Steps.refl _) (argsL := []) (rest := []) (lenOf own_pd6 rfl) rfl (by show 2 * 0 + _ ≤ _; exact Nat.le_of_eq rfl) (hb hby at_92) (fun _ _ => ⟨rfl, rfl, (by decide : 10 + 0 ≤ _), (by decide : 481 + 0 ≤ _)⟩)
    dsimp only [Pt.U, Pt.locs, Pt.cells, Pt.slots] at X11 l11 y11 z11 st11 hQ11
    subst l11 y11 z11
    obtain ⟨rfl, Nq11, eq11⟩ := hQ11
    have NF11 := Fr.app NF10 Nq11
    refine own_goT st11 ?_
    show own_Go _ _ _ _ (T11.setTop (mkF m 95 #[.val (.int p1), .val (.int p2), .val (.int p3), .val (.int p4), .val (.int d), .val (.int q), .val (.int (0 : Int32)), .val (.int q), .val (.ref b1), .unset, .unset, .unset, .unset, .unset, .unset, .unset] [(.double (own_av d q))]))
    rw [show own_av d q = (0 : UInt64) from if_pos hd]
    show own_Go _ _ _ _ (T11.setTop (mkF m 95 #[.val (.int p1), .val (.int p2), .val (.int p3), .val (.int p4), .val (.int d), .val (.int q), .val (.int (0 : Int32)), .val (.int q), .val (.ref b1), .unset, .unset, .unset, .unset, .unset, .unset, .unset] [(.double (0 : UInt64))]))
    refine own_go (fun _ kont => XS.dstore X11.here hx rfl (hb hby at_95) rfl (l' := #[.val (.int p1), .val (.int p2), .val (.int p3), .val (.int p4), .val (.int d), .val (.int q), .val (.int (0 : Int32)), .val (.int q), .val (.ref b1), .val (.double (0 : UInt64)), .second, .unset, .unset, .unset, .unset, .unset]) rfl kont) ?_
    show own_Go _ _ _ _ (T11.setTop (mkF m 97 #[.val (.int p1), .val (.int p2), .val (.int p3), .val (.int p4), .val (.int d), .val (.int q), .val (.int (0 : Int32)), .val (.int q), .val (.ref b1), .val (.double (0 : UInt64)), .second, .unset, .unset, .unset, .unset, .unset] []))
    refine own_go (fun _ kont => XS.iload X11.here hx rfl (hb hby at_97) rfl kont) ?_
    show own_Go _ _ _ _ (T11.setTop (mkF m 99 #[.val (.int p1), .val (.int p2), .val (.int p3), .val (.int p4), .val (.int d), .val (.int q), .val (.int (0 : Int32)), .val (.int q), .val (.ref b1), .val (.double (0 : UInt64)), .second, .unset, .unset, .unset, .unset, .unset] [(.int d)]))
    refine own_go (fun _ kont => XS.ifNo X11.here hx rfl (hb hby at_99) rfl ((if0 _ _).trans (teq hd).2) kont) ?_
    show own_Go _ _ _ _ (T11.setTop (mkF m 102 #[.val (.int p1), .val (.int p2), .val (.int p3), .val (.int p4), .val (.int d), .val (.int q), .val (.int (0 : Int32)), .val (.int q), .val (.ref b1), .val (.double (0 : UInt64)), .second, .unset, .unset, .unset, .unset, .unset] []))
    refine own_go (fun _ kont => XS.dload X11.here hx rfl (hb hby at_102) rfl kont) ?_
    show own_Go _ _ _ _ (T11.setTop (mkF m 104 #[.val (.int p1), .val (.int p2), .val (.int p3), .val (.int p4), .val (.int d), .val (.int q), .val (.int (0 : Int32)), .val (.int q), .val (.ref b1), .val (.double (0 : UInt64)), .second, .unset, .unset, .unset, .unset, .unset] [(.double (0 : UInt64))]))
    refine own_go (fun _ kont => XS.dconst0 X11.here hx rfl (hb hby at_104) (v := 0) (by decide +kernel) kont) ?_
    show own_Go _ _ _ _ (T11.setTop (mkF m 105 #[.val (.int p1), .val (.int p2), .val (.int p3), .val (.int p4), .val (.int d), .val (.int q), .val (.int (0 : Int32)), .val (.int q), .val (.ref b1), .val (.double (0 : UInt64)), .second, .unset, .unset, .unset, .unset, .unset] [(.double (0 : UInt64)), (.double (0 : UInt64))]))
    refine own_go (fun _ kont => XS.dcmpS X11.here hx rfl (hb hby at_105) rfl (v := (0 : Int32)) (by decide +kernel) kont) ?_
    show own_Go _ _ _ _ (T11.setTop (mkF m 106 #[.val (.int p1), .val (.int p2), .val (.int p3), .val (.int p4), .val (.int d), .val (.int q), .val (.int (0 : Int32)), .val (.int q), .val (.ref b1), .val (.double (0 : UInt64)), .second, .unset, .unset, .unset, .unset, .unset] [(.int (0 : Int32))]))
    refine own_go (fun _ kont => XS.ifNo X11.here hx rfl (hb hby at_106) rfl ((if0 _ _).trans (teq (by decide)).2) kont) ?_
    show own_Go _ _ _ _ (T11.setTop (mkF m 109 #[.val (.int p1), .val (.int p2), .val (.int p3), .val (.int p4), .val (.int d), .val (.int q), .val (.int (0 : Int32)), .val (.int q), .val (.ref b1), .val (.double (0 : UInt64)), .second, .unset, .unset, .unset, .unset, .unset] []))
    refine own_go (fun _ kont => XS.iconst X11.here hx rfl (hb hby at_109) kont) ?_
    show own_Go _ _ _ _ (T11.setTop (mkF m 110 #[.val (.int p1), .val (.int p2), .val (.int p3), .val (.int p4), .val (.int d), .val (.int q), .val (.int (0 : Int32)), .val (.int q), .val (.ref b1), .val (.double (0 : UInt64)), .second, .unset, .unset, .unset, .unset, .unset] [(.int (1 : Int32))]))
    refine own_go (fun _ kont => XS.goto X11.here hx rfl (pc0 := 110) (pc' := 114) rfl (hb hby at_110) (by decide) (by decide) kont) ?_
    show own_Go _ _ _ _ (T11.setTop (mkF m 114 #[.val (.int p1), .val (.int p2), .val (.int p3), .val (.int p4), .val (.int d), .val (.int q), .val (.int (0 : Int32)), .val (.int q), .val (.ref b1), .val (.double (0 : UInt64)), .second, .unset, .unset, .unset, .unset, .unset] [(.int (1 : Int32))]))
    refine own_ret X11 hlk (v := some (.int (1 : Int32))) (fun h => by rw [Bd.returns] at h; cases h) (fun fs hr => retN X11 hx (t := .boolean) Bd.returns (by simp) (hb hby at_114) hr) ?_ (by decide) (by decide)
    try rw [eq11]
    exact ⟨rfl, NF11⟩
  · have _h := hd
    refine own_go (fun _ kont => XS.ifYes X0.here hx rfl (pc0 := 14) (pc' := 21) rfl (hb hby at_14) rfl ((if0 _ _).trans (feq hd).2) (by decide) (by decide) kont) ?_
    show own_Go _ _ _ _ (s₁.setTop (mkF m 21 #[.val (.int p1), .val (.int p2), .val (.int p3), .val (.int p4), .val (.int d), .val (.int q), .unset, .unset, .unset, .unset, .unset, .unset, .unset, .unset, .unset, .unset] []))
    refine own_go (fun _ kont => XS.iloadN X0.here hx rfl (hb hby at_21) rfl kont) ?_
    show own_Go _ _ _ _ (s₁.setTop (mkF m 22 #[.val (.int p1), .val (.int p2), .val (.int p3), .val (.int p4), .val (.int d), .val (.int q), .unset, .unset, .unset, .unset, .unset, .unset, .unset, .unset, .unset, .unset] [(.int p3)]))
    refine own_go (X0.ldcInt hx hown (mvT hZ (hw _ (List.mem_of_getElem? (i := 0) rfl))) (g := (mkF m 22 #[.val (.int p1), .val (.int p2), .val (.int p3), .val (.int p4), .val (.int d), .val (.int q), .unset, .unset, .unset, .unset, .unset, .unset, .unset, .unset, .unset, .unset] [(.int p3)])) rfl (hb hby at_22)) ?_
    show own_Go _ _ _ _ (s₁.setTop (mkF m 24 #[.val (.int p1), .val (.int p2), .val (.int p3), .val (.int p4), .val (.int d), .val (.int q), .unset, .unset, .unset, .unset, .unset, .unset, .unset, .unset, .unset, .unset] [(.int (2147483647 : Int32)), (.int p3)]))
    refine own_go (fun _ kont => XS.iand X0.here hx rfl (hb hby at_24) rfl kont) ?_
    show own_Go _ _ _ _ (s₁.setTop (mkF m 25 #[.val (.int p1), .val (.int p2), .val (.int p3), .val (.int p4), .val (.int d), .val (.int q), .unset, .unset, .unset, .unset, .unset, .unset, .unset, .unset, .unset, .unset] [(.int (p3 &&& (2147483647 : Int32)))]))
    refine own_go (fun _ kont => XS.iload X0.here hx rfl (hb hby at_25) rfl kont) ?_
    show own_Go _ _ _ _ (s₁.setTop (mkF m 27 #[.val (.int p1), .val (.int p2), .val (.int p3), .val (.int p4), .val (.int d), .val (.int q), .unset, .unset, .unset, .unset, .unset, .unset, .unset, .unset, .unset, .unset] [(.int d), (.int (p3 &&& (2147483647 : Int32)))]))
    refine own_go (fun _ kont => iremM X0 hx rfl (hb hby at_27) rfl hd kont) ?_
    show own_Go _ _ _ _ (s₁.setTop (mkF m 28 #[.val (.int p1), .val (.int p2), .val (.int p3), .val (.int p4), .val (.int d), .val (.int q), .unset, .unset, .unset, .unset, .unset, .unset, .unset, .unset, .unset, .unset] [(.int ((p3 &&& (2147483647 : Int32)) % d))]))
    obtain ⟨r1, r2⟩ := own_r p3 d1 hd
    generalize hr : ((p3 &&& (2147483647 : Int32)) % d) = r
    rw [hr] at r1 r2
    show own_Go _ _ _ _ (s₁.setTop (mkF m 28 #[.val (.int p1), .val (.int p2), .val (.int p3), .val (.int p4), .val (.int d), .val (.int q), .unset, .unset, .unset, .unset, .unset, .unset, .unset, .unset, .unset, .unset] [(.int r)]))
    refine own_go (fun _ kont => XS.istore X0.here hx rfl (hb hby at_28) rfl (l' := #[.val (.int p1), .val (.int p2), .val (.int p3), .val (.int p4), .val (.int d), .val (.int q), .val (.int r), .unset, .unset, .unset, .unset, .unset, .unset, .unset, .unset, .unset]) rfl kont) ?_
    show own_Go _ _ _ _ (s₁.setTop (mkF m 30 #[.val (.int p1), .val (.int p2), .val (.int p3), .val (.int p4), .val (.int d), .val (.int q), .val (.int r), .unset, .unset, .unset, .unset, .unset, .unset, .unset, .unset, .unset] []))
    refine own_go (fun _ kont => XS.iload X0.here hx rfl (hb hby at_30) rfl kont) ?_
    show own_Go _ _ _ _ (s₁.setTop (mkF m 32 #[.val (.int p1), .val (.int p2), .val (.int p3), .val (.int p4), .val (.int d), .val (.int q), .val (.int r), .unset, .unset, .unset, .unset, .unset, .unset, .unset, .unset, .unset] [(.int d)]))
    refine own_go (fun _ kont => XS.ifYes X0.here hx rfl (pc0 := 32) (pc' := 40) rfl (hb hby at_32) rfl ((if0 _ _).trans (feq hd).2) (by decide) (by decide) kont) ?_
    show own_Go _ _ _ _ (s₁.setTop (mkF m 40 #[.val (.int p1), .val (.int p2), .val (.int p3), .val (.int p4), .val (.int d), .val (.int q), .val (.int r), .unset, .unset, .unset, .unset, .unset, .unset, .unset, .unset, .unset] []))
    refine own_go (fun _ kont => XS.iload X0.here hx rfl (hb hby at_40) rfl kont) ?_
    show own_Go _ _ _ _ (s₁.setTop (mkF m 42 #[.val (.int p1), .val (.int p2), .val (.int p3), .val (.int p4), .val (.int d), .val (.int q), .val (.int r), .unset, .unset, .unset, .unset, .unset, .unset, .unset, .unset, .unset] [(.int d)]))
    refine own_go (fun _ kont => XS.iload X0.here hx rfl (hb hby at_42) rfl kont) ?_
    show own_Go _ _ _ _ (s₁.setTop (mkF m 44 #[.val (.int p1), .val (.int p2), .val (.int p3), .val (.int p4), .val (.int d), .val (.int q), .val (.int r), .unset, .unset, .unset, .unset, .unset, .unset, .unset, .unset, .unset] [(.int q), (.int d)]))
    refine own_go (fun _ kont => XS.imul X0.here hx rfl (hb hby at_44) rfl kont) ?_
    show own_Go _ _ _ _ (s₁.setTop (mkF m 45 #[.val (.int p1), .val (.int p2), .val (.int p3), .val (.int p4), .val (.int d), .val (.int q), .val (.int r), .unset, .unset, .unset, .unset, .unset, .unset, .unset, .unset, .unset] [(.int (d * q))]))
    refine own_go (fun _ kont => XS.iload X0.here hx rfl (hb hby at_45) rfl kont) ?_
    show own_Go _ _ _ _ (s₁.setTop (mkF m 47 #[.val (.int p1), .val (.int p2), .val (.int p3), .val (.int p4), .val (.int d), .val (.int q), .val (.int r), .unset, .unset, .unset, .unset, .unset, .unset, .unset, .unset, .unset] [(.int r), (.int (d * q))]))
    refine own_go (fun _ kont => XS.iadd X0.here hx rfl (hb hby at_47) rfl kont) ?_
    show own_Go _ _ _ _ (s₁.setTop (mkF m 48 #[.val (.int p1), .val (.int p2), .val (.int p3), .val (.int p4), .val (.int d), .val (.int q), .val (.int r), .unset, .unset, .unset, .unset, .unset, .unset, .unset, .unset, .unset] [(.int ((d * q) + r))]))
    have hdd := own_d1 d1 d2
    obtain ⟨n1, n2⟩ := own_n d1 d2 q1 q2 r1 r2
    generalize hn : ((d * q) + r) = n
    rw [hn] at n1 n2
    have hnn := own_n1 n1 n2
    show own_Go _ _ _ _ (s₁.setTop (mkF m 48 #[.val (.int p1), .val (.int p2), .val (.int p3), .val (.int p4), .val (.int d), .val (.int q), .val (.int r), .unset, .unset, .unset, .unset, .unset, .unset, .unset, .unset, .unset] [(.int n)]))
    refine own_go (fun _ kont => XS.istore X0.here hx rfl (hb hby at_48) rfl (l' := #[.val (.int p1), .val (.int p2), .val (.int p3), .val (.int p4), .val (.int d), .val (.int q), .val (.int r), .val (.int n), .unset, .unset, .unset, .unset, .unset, .unset, .unset, .unset]) rfl kont) ?_
    show own_Go _ _ _ _ (s₁.setTop (mkF m 50 #[.val (.int p1), .val (.int p2), .val (.int p3), .val (.int p4), .val (.int d), .val (.int q), .val (.int r), .val (.int n), .unset, .unset, .unset, .unset, .unset, .unset, .unset, .unset] []))
    obtain ⟨T12, h12, X12, e12, E12, A12, D12, -, st12⟩ := newO X0 hx hZ hown (hw _ (List.mem_of_getElem? (i := 1) rfl)) (hw _ (List.mem_of_getElem? (i := 2) rfl)) (hw _ (List.mem_of_getElem? (i := 3) rfl)) e0 (g := (mkF m 50 #[.val (.int p1), .val (.int p2), .val (.int p3), .val (.int p4), .val (.int d), .val (.int q), .val (.int r), .val (.int n), .unset, .unset, .unset, .unset, .unset, .unset, .unset, .unset] [])) rfl (hb hby at_50) (by decide) (by decide)
    obtain ⟨b12, g12⟩ : ∃ z, z = h0.size := ⟨_, rfl⟩
    rw [← g12] at A12 D12 st12
    refine own_go st12 ?_
    have ge_b12 : n0 ≤ b12 := Nat.le_trans Z0 (Nat.le_of_eq g12.symm)
    have sz_b12 : h0.size ≤ b12 := Nat.le_trans K0.1 (Nat.le_of_eq g12.symm)
    replace Z0 := Nat.le_trans Z0 E12.1
    replace K0 := K0.ext E12
    have F_docnos_b12 : Fld Z h12 b12 "com/example/lissage/lissage/Index" "docnos" "[Ljava/lang/String;" .null := D12 (Or.inr (hw _ (List.mem_of_getElem? (i := 14) rfl))) (ty := (.array (.object "java/lang/String"))) (by decide)
    have F_documentStarts_b12 : Fld Z h12 b12 "com/example/lissage/lissage/Index" "documentStarts" "[I" .null := D12 (Or.inr (hw _ (List.mem_of_getElem? (i := 16) rfl))) (ty := (.array .int)) (by decide)
    have F_documentTerms_b12 : Fld Z h12 b12 "com/example/lissage/lissage/Index" "documentTerms" "[I" .null := D12 (Or.inr (hw _ (List.mem_of_getElem? (i := 18) rfl))) (ty := (.array .int)) (by decide)
    have F_terms_b12 : Fld Z h12 b12 "com/example/lissage/lissage/Index" "terms" "[Ljava/lang/String;" .null := D12 (Or.inr (hw _ (List.mem_of_getElem? (i := 20) rfl))) (ty := (.array (.object "java/lang/String"))) (by decide)
    have F_termStarts_b12 : Fld Z h12 b12 "com/example/lissage/lissage/Index" "termStarts" "[I" .null := D12 (Or.inr (hw _ (List.mem_of_getElem? (i := 22) rfl))) (ty := (.array .int)) (by decide)
    have F_postingDocuments_b12 : Fld Z h12 b12 "com/example/lissage/lissage/Index" "postingDocuments" "[I" .null := D12 (Or.inr (hw _ (List.mem_of_getElem? (i := 24) rfl))) (ty := (.array .int)) (by decide)
    have F_postingStarts_b12 : Fld Z h12 b12 "com/example/lissage/lissage/Index" "postingStarts" "[I" .null := D12 (Or.inr (hw _ (List.mem_of_getElem? (i := 26) rfl))) (ty := (.array .int)) (by decide)
    have F_positions_b12 : Fld Z h12 b12 "com/example/lissage/lissage/Index" "positions" "[I" .null := D12 (Or.inr (hw _ (List.mem_of_getElem? (i := 28) rfl))) (ty := (.array .int)) (by decide)
    have F_termNumbers_b12 : Fld Z h12 b12 "com/example/lissage/lissage/Index" "termNumbers" "Ljava/util/Map;" .null := D12 (Or.inr (hw _ (List.mem_of_getElem? (i := 64) rfl))) (ty := (.object "java/util/Map")) (by decide)
    show own_Go _ _ _ _ (T12.setTop (mkF m 53 #[.val (.int p1), .val (.int p2), .val (.int p3), .val (.int p4), .val (.int d), .val (.int q), .val (.int r), .val (.int n), .unset, .unset, .unset, .unset, .unset, .unset, .unset, .unset] [(.ref b12)]))
    refine own_go (fun _ kont => XS.dup X12.here hx rfl (hb hby at_53) rfl rfl kont) ?_
    show own_Go _ _ _ _ (T12.setTop (mkF m 54 #[.val (.int p1), .val (.int p2), .val (.int p3), .val (.int p4), .val (.int d), .val (.int q), .val (.int r), .val (.int n), .unset, .unset, .unset, .unset, .unset, .unset, .unset, .unset] [(.ref b12), (.ref b12)]))
    refine own_go (fun _ kont => XS.iload X12.here hx rfl (hb hby at_54) rfl kont) ?_
    show own_Go _ _ _ _ (T12.setTop (mkF m 56 #[.val (.int p1), .val (.int p2), .val (.int p3), .val (.int p4), .val (.int d), .val (.int q), .val (.int r), .val (.int n), .unset, .unset, .unset, .unset, .unset, .unset, .unset, .unset] [(.int d), (.ref b12), (.ref b12)]))
    obtain ⟨T13, h13, k13, X13, e13, E13, A13, O13, st13⟩ := newR X12 hx hZ hown (hw _ (List.mem_of_getElem? (i := 4) rfl)) (hw _ (List.mem_of_getElem? (i := 5) rfl)) e12 (g := (mkF m 56 #[.val (.int p1), .val (.int p2), .val (.int p3), .val (.int p4), .val (.int d), .val (.int q), .val (.int r), .val (.int n), .unset, .unset, .unset, .unset, .unset, .unset, .unset, .unset] [(.int d), (.ref b12), (.ref b12)])) rfl (hb hby at_56) rfl hdd.2.2.1 (cap := 7) hdd.2.2.2 (by decide) (by decide) (by decide)
    obtain ⟨b13, g13⟩ : ∃ z, z = h12.size := ⟨_, rfl⟩
    rw [← g13] at A13 st13
    refine own_go st13 ?_
    have ge_b13 : n0 ≤ b13 := Nat.le_trans Z0 (Nat.le_of_eq g13.symm)
    have ne_b12_b13 : b12 ≠ b13 := Nat.ne_of_lt (Nat.lt_of_lt_of_le A12.lt (Nat.le_of_eq g13.symm))
    have sz_b13 : h0.size ≤ b13 := Nat.le_trans K0.1 (Nat.le_of_eq g13.symm)
    replace A12 := A12.ext E13
    replace F_docnos_b12 := F_docnos_b12.ext E13
    replace F_documentStarts_b12 := F_documentStarts_b12.ext E13
    replace F_documentTerms_b12 := F_documentTerms_b12.ext E13
    replace F_terms_b12 := F_terms_b12.ext E13
    replace F_termStarts_b12 := F_termStarts_b12.ext E13
    replace F_postingDocuments_b12 := F_postingDocuments_b12.ext E13
    replace F_postingStarts_b12 := F_postingStarts_b12.ext E13
    replace F_positions_b12 := F_positions_b12.ext E13
    replace F_termNumbers_b12 := F_termNumbers_b12.ext E13
    replace Z0 := Nat.le_trans Z0 E13.1
    replace K0 := K0.ext E13
    have V_b13 : Arv Z h13 b13 k13 (.object "java/lang/String") d [] .null := Arv.new A13 hdd.2.2.1
    show own_Go _ _ _ _ (T13.setTop (mkF m 59 #[.val (.int p1), .val (.int p2), .val (.int p3), .val (.int p4), .val (.int d), .val (.int q), .val (.int r), .val (.int n), .unset, .unset, .unset, .unset, .unset, .unset, .unset, .unset] [(.ref b13), (.ref b12), (.ref b12)]))
    refine own_go (fun _ kont => XS.iload X13.here hx rfl (hb hby at_59) rfl kont) ?_
    show own_Go _ _ _ _ (T13.setTop (mkF m 61 #[.val (.int p1), .val (.int p2), .val (.int p3), .val (.int p4), .val (.int d), .val (.int q), .val (.int r), .val (.int n), .unset, .unset, .unset, .unset, .unset, .unset, .unset, .unset] [(.int d), (.ref b13), (.ref b12), (.ref b12)]))
    refine own_go (fun _ kont => XS.iconst X13.here hx rfl (hb hby at_61) kont) ?_
    show own_Go _ _ _ _ (T13.setTop (mkF m 62 #[.val (.int p1), .val (.int p2), .val (.int p3), .val (.int p4), .val (.int d), .val (.int q), .val (.int r), .val (.int n), .unset, .unset, .unset, .unset, .unset, .unset, .unset, .unset] [(.int (1 : Int32)), (.int d), (.ref b13), (.ref b12), (.ref b12)]))
    refine own_go (fun _ kont => XS.iadd X13.here hx rfl (hb hby at_62) rfl kont) ?_
    show own_Go _ _ _ _ (T13.setTop (mkF m 63 #[.val (.int p1), .val (.int p2), .val (.int p3), .val (.int p4), .val (.int d), .val (.int q), .val (.int r), .val (.int n), .unset, .unset, .unset, .unset, .unset, .unset, .unset, .unset] [(.int (d + (1 : Int32))), (.ref b13), (.ref b12), (.ref b12)]))
    obtain ⟨T14, h14, k14, X14, e14, E14, A14, st14⟩ := newP X13 hx hZ (hw _ (List.mem_of_getElem? (i := 6) rfl)) e13 (g := (mkF m 63 #[.val (.int p1), .val (.int p2), .val (.int p3), .val (.int p4), .val (.int d), .val (.int q), .val (.int r), .val (.int n), .unset, .unset, .unset, .unset, .unset, .unset, .unset, .unset] [(.int (d + (1 : Int32))), (.ref b13), (.ref b12), (.ref b12)])) rfl (hb hby at_63) rfl hdd.1 (cap := 8) hdd.2.1 (by decide) (by decide) (by decide)
    obtain ⟨b14, g14⟩ : ∃ z, z = h13.size := ⟨_, rfl⟩
    rw [← g14] at A14 st14
    refine own_go st14 ?_
    have ge_b14 : n0 ≤ b14 := Nat.le_trans Z0 (Nat.le_of_eq g14.symm)
    have ne_b12_b14 : b12 ≠ b14 := Nat.ne_of_lt (Nat.lt_of_lt_of_le A12.lt (Nat.le_of_eq g14.symm))
    have ne_b13_b14 : b13 ≠ b14 := Nat.ne_of_lt (Nat.lt_of_lt_of_le V_b13.lt (Nat.le_of_eq g14.symm))
    have sz_b14 : h0.size ≤ b14 := Nat.le_trans K0.1 (Nat.le_of_eq g14.symm)
    replace A12 := A12.ext E14
    replace F_docnos_b12 := F_docnos_b12.ext E14
    replace F_documentStarts_b12 := F_documentStarts_b12.ext E14
    replace F_documentTerms_b12 := F_documentTerms_b12.ext E14
    replace F_terms_b12 := F_terms_b12.ext E14
    replace F_termStarts_b12 := F_termStarts_b12.ext E14
    replace F_postingDocuments_b12 := F_postingDocuments_b12.ext E14
    replace F_postingStarts_b12 := F_postingStarts_b12.ext E14
    replace F_positions_b12 := F_positions_b12.ext E14
    replace F_termNumbers_b12 := F_termNumbers_b12.ext E14
    replace V_b13 := V_b13.ext E14
    replace Z0 := Nat.le_trans Z0 E14.1
    replace K0 := K0.ext E14
    have V_b14 : Arv Z h14 b14 k14 .int (d + (1 : Int32)) [] (.int (0 : Int32)) := Arv.new A14 hdd.1
    show own_Go _ _ _ _ (T14.setTop (mkF m 65 #[.val (.int p1), .val (.int p2), .val (.int p3), .val (.int p4), .val (.int d), .val (.int q), .val (.int r), .val (.int n), .unset, .unset, .unset, .unset, .unset, .unset, .unset, .unset] [(.ref b14), (.ref b13), (.ref b12), (.ref b12)]))
    refine own_go (fun _ kont => XS.iload X14.here hx rfl (hb hby at_65) rfl kont) ?_
    show own_Go _ _ _ _ (T14.setTop (mkF m 67 #[.val (.int p1), .val (.int p2), .val (.int p3), .val (.int p4), .val (.int d), .val (.int q), .val (.int r), .val (.int n), .unset, .unset, .unset, .unset, .unset, .unset, .unset, .unset] [(.int n), (.ref b14), (.ref b13), (.ref b12), (.ref b12)]))
    obtain ⟨T15, h15, k15, X15, e15, E15, A15, st15⟩ := newP X14 hx hZ (hw _ (List.mem_of_getElem? (i := 6) rfl)) e14 (g := (mkF m 67 #[.val (.int p1), .val (.int p2), .val (.int p3), .val (.int p4), .val (.int d), .val (.int q), .val (.int r), .val (.int n), .unset, .unset, .unset, .unset, .unset, .unset, .unset, .unset] [(.int n), (.ref b14), (.ref b13), (.ref b12), (.ref b12)])) rfl (hb hby at_67) rfl hnn.1 (cap := 447) hnn.2 (by decide) (by decide) (by decide)
    obtain ⟨b15, g15⟩ : ∃ z, z = h14.size := ⟨_, rfl⟩
    rw [← g15] at A15 st15
    refine own_go st15 ?_
    have ge_b15 : n0 ≤ b15 := Nat.le_trans Z0 (Nat.le_of_eq g15.symm)
    have ne_b12_b15 : b12 ≠ b15 := Nat.ne_of_lt (Nat.lt_of_lt_of_le A12.lt (Nat.le_of_eq g15.symm))
    have ne_b13_b15 : b13 ≠ b15 := Nat.ne_of_lt (Nat.lt_of_lt_of_le V_b13.lt (Nat.le_of_eq g15.symm))
    have ne_b14_b15 : b14 ≠ b15 := Nat.ne_of_lt (Nat.lt_of_lt_of_le V_b14.lt (Nat.le_of_eq g15.symm))
    have sz_b15 : h0.size ≤ b15 := Nat.le_trans K0.1 (Nat.le_of_eq g15.symm)
    replace A12 := A12.ext E15
    replace F_docnos_b12 := F_docnos_b12.ext E15
    replace F_documentStarts_b12 := F_documentStarts_b12.ext E15
    replace F_documentTerms_b12 := F_documentTerms_b12.ext E15
    replace F_terms_b12 := F_terms_b12.ext E15
    replace F_termStarts_b12 := F_termStarts_b12.ext E15
    replace F_postingDocuments_b12 := F_postingDocuments_b12.ext E15
    replace F_postingStarts_b12 := F_postingStarts_b12.ext E15
    replace F_positions_b12 := F_positions_b12.ext E15
    replace F_termNumbers_b12 := F_termNumbers_b12.ext E15
    replace V_b13 := V_b13.ext E15
    replace V_b14 := V_b14.ext E15
    replace Z0 := Nat.le_trans Z0 E15.1
    replace K0 := K0.ext E15
    have V_b15 : Arv Z h15 b15 k15 .int n [] (.int (0 : Int32)) := Arv.new A15 hnn.1
    show own_Go _ _ _ _ (T15.setTop (mkF m 69 #[.val (.int p1), .val (.int p2), .val (.int p3), .val (.int p4), .val (.int d), .val (.int q), .val (.int r), .val (.int n), .unset, .unset, .unset, .unset, .unset, .unset, .unset, .unset] [(.ref b15), (.ref b14), (.ref b13), (.ref b12), (.ref b12)]))
    refine own_go (fun _ kont => XS.iconst X15.here hx rfl (hb hby at_69) kont) ?_
    show own_Go _ _ _ _ (T15.setTop (mkF m 70 #[.val (.int p1), .val (.int p2), .val (.int p3), .val (.int p4), .val (.int d), .val (.int q), .val (.int r), .val (.int n), .unset, .unset, .unset, .unset, .unset, .unset, .unset, .unset] [(.int (0 : Int32)), (.ref b15), (.ref b14), (.ref b13), (.ref b12), (.ref b12)]))
    obtain ⟨T16, h16, k16, X16, e16, E16, A16, O16, st16⟩ := newR X15 hx hZ hown (hw _ (List.mem_of_getElem? (i := 4) rfl)) (hw _ (List.mem_of_getElem? (i := 5) rfl)) e15 (g := (mkF m 70 #[.val (.int p1), .val (.int p2), .val (.int p3), .val (.int p4), .val (.int d), .val (.int q), .val (.int r), .val (.int n), .unset, .unset, .unset, .unset, .unset, .unset, .unset, .unset] [(.int (0 : Int32)), (.ref b15), (.ref b14), (.ref b13), (.ref b12), (.ref b12)])) rfl (hb hby at_70) rfl (by decide) (cap := 0) (by decide) (by decide) (by decide) (by decide)
    obtain ⟨b16, g16⟩ : ∃ z, z = h15.size := ⟨_, rfl⟩
    rw [← g16] at A16 st16
    refine own_go st16 ?_
    have ge_b16 : n0 ≤ b16 := Nat.le_trans Z0 (Nat.le_of_eq g16.symm)
    have ne_b12_b16 : b12 ≠ b16 := Nat.ne_of_lt (Nat.lt_of_lt_of_le A12.lt (Nat.le_of_eq g16.symm))
    have ne_b13_b16 : b13 ≠ b16 := Nat.ne_of_lt (Nat.lt_of_lt_of_le V_b13.lt (Nat.le_of_eq g16.symm))
    have ne_b14_b16 : b14 ≠ b16 := Nat.ne_of_lt (Nat.lt_of_lt_of_le V_b14.lt (Nat.le_of_eq g16.symm))
    have ne_b15_b16 : b15 ≠ b16 := Nat.ne_of_lt (Nat.lt_of_lt_of_le V_b15.lt (Nat.le_of_eq g16.symm))
    have sz_b16 : h0.size ≤ b16 := Nat.le_trans K0.1 (Nat.le_of_eq g16.symm)
    replace A12 := A12.ext E16
    replace F_docnos_b12 := F_docnos_b12.ext E16
    replace F_documentStarts_b12 := F_documentStarts_b12.ext E16
    replace F_documentTerms_b12 := F_documentTerms_b12.ext E16
    replace F_terms_b12 := F_terms_b12.ext E16
    replace F_termStarts_b12 := F_termStarts_b12.ext E16
    replace F_postingDocuments_b12 := F_postingDocuments_b12.ext E16
    replace F_postingStarts_b12 := F_postingStarts_b12.ext E16
    replace F_positions_b12 := F_positions_b12.ext E16
    replace F_termNumbers_b12 := F_termNumbers_b12.ext E16
    replace V_b13 := V_b13.ext E16
    replace V_b14 := V_b14.ext E16
    replace V_b15 := V_b15.ext E16
    replace Z0 := Nat.le_trans Z0 E16.1
    replace K0 := K0.ext E16
    have V_b16 : Arv Z h16 b16 k16 (.object "java/lang/String") (0 : Int32) [] .null := Arv.new A16 (by decide)
    show own_Go _ _ _ _ (T16.setTop (mkF m 73 #[.val (.int p1), .val (.int p2), .val (.int p3), .val (.int p4), .val (.int d), .val (.int q), .val (.int r), .val (.int n), .unset, .unset, .unset, .unset, .unset, .unset, .unset, .unset] [(.ref b16), (.ref b15), (.ref b14), (.ref b13), (.ref b12), (.ref b12)]))
    refine own_go (fun _ kont => XS.iconst X16.here hx rfl (hb hby at_73) kont) ?_
    show own_Go _ _ _ _ (T16.setTop (mkF m 74 #[.val (.int p1), .val (.int p2), .val (.int p3), .val (.int p4), .val (.int d), .val (.int q), .val (.int r), .val (.int n), .unset, .unset, .unset, .unset, .unset, .unset, .unset, .unset] [(.int (1 : Int32)), (.ref b16), (.ref b15), (.ref b14), (.ref b13), (.ref b12), (.ref b12)]))
    obtain ⟨T17, h17, k17, X17, e17, E17, A17, st17⟩ := newP X16 hx hZ (hw _ (List.mem_of_getElem? (i := 6) rfl)) e16 (g := (mkF m 74 #[.val (.int p1), .val (.int p2), .val (.int p3), .val (.int p4), .val (.int d), .val (.int q), .val (.int r), .val (.int n), .unset, .unset, .unset, .unset, .unset, .unset, .unset, .unset] [(.int (1 : Int32)), (.ref b16), (.ref b15), (.ref b14), (.ref b13), (.ref b12), (.ref b12)])) rfl (hb hby at_74) rfl (by decide) (cap := 1) (by decide) (by decide) (by decide) (by decide)
    obtain ⟨b17, g17⟩ : ∃ z, z = h16.size := ⟨_, rfl⟩
    rw [← g17] at A17 st17
    refine own_go st17 ?_
    have ge_b17 : n0 ≤ b17 := Nat.le_trans Z0 (Nat.le_of_eq g17.symm)
    have ne_b12_b17 : b12 ≠ b17 := Nat.ne_of_lt (Nat.lt_of_lt_of_le A12.lt (Nat.le_of_eq g17.symm))
    have ne_b13_b17 : b13 ≠ b17 := Nat.ne_of_lt (Nat.lt_of_lt_of_le V_b13.lt (Nat.le_of_eq g17.symm))
    have ne_b14_b17 : b14 ≠ b17 := Nat.ne_of_lt (Nat.lt_of_lt_of_le V_b14.lt (Nat.le_of_eq g17.symm))
    have ne_b15_b17 : b15 ≠ b17 := Nat.ne_of_lt (Nat.lt_of_lt_of_le V_b15.lt (Nat.le_of_eq g17.symm))
    have ne_b16_b17 : b16 ≠ b17 := Nat.ne_of_lt (Nat.lt_of_lt_of_le V_b16.lt (Nat.le_of_eq g17.symm))
    have sz_b17 : h0.size ≤ b17 := Nat.le_trans K0.1 (Nat.le_of_eq g17.symm)
    replace A12 := A12.ext E17
    replace F_docnos_b12 := F_docnos_b12.ext E17
    replace F_documentStarts_b12 := F_documentStarts_b12.ext E17
    replace F_documentTerms_b12 := F_documentTerms_b12.ext E17
    replace F_terms_b12 := F_terms_b12.ext E17
    replace F_termStarts_b12 := F_termStarts_b12.ext E17
    replace F_postingDocuments_b12 := F_postingDocuments_b12.ext E17
    replace F_postingStarts_b12 := F_postingStarts_b12.ext E17
    replace F_positions_b12 := F_positions_b12.ext E17
    replace F_termNumbers_b12 := F_termNumbers_b12.ext E17
    replace V_b13 := V_b13.ext E17
    replace V_b14 := V_b14.ext E17
    replace V_b15 := V_b15.ext E17
    replace V_b16 := V_b16.ext E17
    replace Z0 := Nat.le_trans Z0 E17.1
    replace K0 := K0.ext E17
    have V_b17 : Arv Z h17 b17 k17 .int (1 : Int32) [(.int (0 : Int32))] (.int (0 : Int32)) := (Arv.new A17 (by decide)).pad (pad_rep [] (.int (0 : Int32)) 1)
    show own_Go _ _ _ _ (T17.setTop (mkF m 76 #[.val (.int p1), .val (.int p2), .val (.int p3), .val (.int p4), .val (.int d), .val (.int q), .val (.int r), .val (.int n), .unset, .unset, .unset, .unset, .unset, .unset, .unset, .unset] [(.ref b17), (.ref b16), (.ref b15), (.ref b14), (.ref b13), (.ref b12), (.ref b12)]))
    refine own_go (fun _ kont => XS.iconst X17.here hx rfl (hb hby at_76) kont) ?_
    show own_Go _ _ _ _ (T17.setTop (mkF m 77 #[.val (.int p1), .val (.int p2), .val (.int p3), .val (.int p4), .val (.int d), .val (.int q), .val (.int r), .val (.int n), .unset, .unset, .unset, .unset, .unset, .unset, .unset, .unset] [(.int (0 : Int32)), (.ref b17), (.ref b16), (.ref b15), (.ref b14), (.ref b13), (.ref b12), (.ref b12)]))
    obtain ⟨T18, h18, k18, X18, e18, E18, A18, st18⟩ := newP X17 hx hZ (hw _ (List.mem_of_getElem? (i := 6) rfl)) e17 (g := (mkF m 77 #[.val (.int p1), .val (.int p2), .val (.int p3), .val (.int p4), .val (.int d), .val (.int q), .val (.int r), .val (.int n), .unset, .unset, .unset, .unset, .unset, .unset, .unset, .unset] [(.int (0 : Int32)), (.ref b17), (.ref b16), (.ref b15), (.ref b14), (.ref b13), (.ref b12), (.ref b12)])) rfl (hb hby at_77) rfl (by decide) (cap := 0) (by decide) (by decide) (by decide) (by decide)
    obtain ⟨b18, g18⟩ : ∃ z, z = h17.size := ⟨_, rfl⟩
    rw [← g18] at A18 st18
    refine own_go st18 ?_
    have ge_b18 : n0 ≤ b18 := Nat.le_trans Z0 (Nat.le_of_eq g18.symm)
    have ne_b12_b18 : b12 ≠ b18 := Nat.ne_of_lt (Nat.lt_of_lt_of_le A12.lt (Nat.le_of_eq g18.symm))
    have ne_b13_b18 : b13 ≠ b18 := Nat.ne_of_lt (Nat.lt_of_lt_of_le V_b13.lt (Nat.le_of_eq g18.symm))
    have ne_b14_b18 : b14 ≠ b18 := Nat.ne_of_lt (Nat.lt_of_lt_of_le V_b14.lt (Nat.le_of_eq g18.symm))
    have ne_b15_b18 : b15 ≠ b18 := Nat.ne_of_lt (Nat.lt_of_lt_of_le V_b15.lt (Nat.le_of_eq g18.symm))
    have ne_b16_b18 : b16 ≠ b18 := Nat.ne_of_lt (Nat.lt_of_lt_of_le V_b16.lt (Nat.le_of_eq g18.symm))
    have ne_b17_b18 : b17 ≠ b18 := Nat.ne_of_lt (Nat.lt_of_lt_of_le V_b17.lt (Nat.le_of_eq g18.symm))
    have sz_b18 : h0.size ≤ b18 := Nat.le_trans K0.1 (Nat.le_of_eq g18.symm)
    replace A12 := A12.ext E18
    replace F_docnos_b12 := F_docnos_b12.ext E18
    replace F_documentStarts_b12 := F_documentStarts_b12.ext E18
    replace F_documentTerms_b12 := F_documentTerms_b12.ext E18
    replace F_terms_b12 := F_terms_b12.ext E18
    replace F_termStarts_b12 := F_termStarts_b12.ext E18
    replace F_postingDocuments_b12 := F_postingDocuments_b12.ext E18
    replace F_postingStarts_b12 := F_postingStarts_b12.ext E18
    replace F_positions_b12 := F_positions_b12.ext E18
    replace F_termNumbers_b12 := F_termNumbers_b12.ext E18
    replace V_b13 := V_b13.ext E18
    replace V_b14 := V_b14.ext E18
    replace V_b15 := V_b15.ext E18
    replace V_b16 := V_b16.ext E18
    replace V_b17 := V_b17.ext E18
    replace Z0 := Nat.le_trans Z0 E18.1
    replace K0 := K0.ext E18
    have V_b18 : Arv Z h18 b18 k18 .int (0 : Int32) [] (.int (0 : Int32)) := Arv.new A18 (by decide)
    show own_Go _ _ _ _ (T18.setTop (mkF m 79 #[.val (.int p1), .val (.int p2), .val (.int p3), .val (.int p4), .val (.int d), .val (.int q), .val (.int r), .val (.int n), .unset, .unset, .unset, .unset, .unset, .unset, .unset, .unset] [(.ref b18), (.ref b17), (.ref b16), (.ref b15), (.ref b14), (.ref b13), (.ref b12), (.ref b12)]))
    refine own_go (fun _ kont => XS.iconst X18.here hx rfl (hb hby at_79) kont) ?_
    show own_Go _ _ _ _ (T18.setTop (mkF m 80 #[.val (.int p1), .val (.int p2), .val (.int p3), .val (.int p4), .val (.int d), .val (.int q), .val (.int r), .val (.int n), .unset, .unset, .unset, .unset, .unset, .unset, .unset, .unset] [(.int (1 : Int32)), (.ref b18), (.ref b17), (.ref b16), (.ref b15), (.ref b14), (.ref b13), (.ref b12), (.ref b12)]))
    obtain ⟨T19, h19, k19, X19, e19, E19, A19, st19⟩ := newP X18 hx hZ (hw _ (List.mem_of_getElem? (i := 6) rfl)) e18 (g := (mkF m 80 #[.val (.int p1), .val (.int p2), .val (.int p3), .val (.int p4), .val (.int d), .val (.int q), .val (.int r), .val (.int n), .unset, .unset, .unset, .unset, .unset, .unset, .unset, .unset] [(.int (1 : Int32)), (.ref b18), (.ref b17), (.ref b16), (.ref b15), (.ref b14), (.ref b13), (.ref b12), (.ref b12)])) rfl (hb hby at_80) rfl (by decide) (cap := 1) (by decide) (by decide) (by decide) (by decide)
    obtain ⟨b19, g19⟩ : ∃ z, z = h18.size := ⟨_, rfl⟩
    rw [← g19] at A19 st19
    refine own_go st19 ?_
    have ge_b19 : n0 ≤ b19 := Nat.le_trans Z0 (Nat.le_of_eq g19.symm)
    have ne_b12_b19 : b12 ≠ b19 := Nat.ne_of_lt (Nat.lt_of_lt_of_le A12.lt (Nat.le_of_eq g19.symm))
    have ne_b13_b19 : b13 ≠ b19 := Nat.ne_of_lt (Nat.lt_of_lt_of_le V_b13.lt (Nat.le_of_eq g19.symm))
    have ne_b14_b19 : b14 ≠ b19 := Nat.ne_of_lt (Nat.lt_of_lt_of_le V_b14.lt (Nat.le_of_eq g19.symm))
    have ne_b15_b19 : b15 ≠ b19 := Nat.ne_of_lt (Nat.lt_of_lt_of_le V_b15.lt (Nat.le_of_eq g19.symm))
    have ne_b16_b19 : b16 ≠ b19 := Nat.ne_of_lt (Nat.lt_of_lt_of_le V_b16.lt (Nat.le_of_eq g19.symm))
    have ne_b17_b19 : b17 ≠ b19 := Nat.ne_of_lt (Nat.lt_of_lt_of_le V_b17.lt (Nat.le_of_eq g19.symm))
    have ne_b18_b19 : b18 ≠ b19 := Nat.ne_of_lt (Nat.lt_of_lt_of_le V_b18.lt (Nat.le_of_eq g19.symm))
    have sz_b19 : h0.size ≤ b19 := Nat.le_trans K0.1 (Nat.le_of_eq g19.symm)
    replace A12 := A12.ext E19
    replace F_docnos_b12 := F_docnos_b12.ext E19
    replace F_documentStarts_b12 := F_documentStarts_b12.ext E19
    replace F_documentTerms_b12 := F_documentTerms_b12.ext E19
    replace F_terms_b12 := F_terms_b12.ext E19
    replace F_termStarts_b12 := F_termStarts_b12.ext E19
    replace F_postingDocuments_b12 := F_postingDocuments_b12.ext E19
    replace F_postingStarts_b12 := F_postingStarts_b12.ext E19
    replace F_positions_b12 := F_positions_b12.ext E19
    replace F_termNumbers_b12 := F_termNumbers_b12.ext E19
    replace V_b13 := V_b13.ext E19
    replace V_b14 := V_b14.ext E19
    replace V_b15 := V_b15.ext E19
    replace V_b16 := V_b16.ext E19
    replace V_b17 := V_b17.ext E19
    replace V_b18 := V_b18.ext E19
    replace Z0 := Nat.le_trans Z0 E19.1
    replace K0 := K0.ext E19
    have V_b19 : Arv Z h19 b19 k19 .int (1 : Int32) [(.int (0 : Int32))] (.int (0 : Int32)) := (Arv.new A19 (by decide)).pad (pad_rep [] (.int (0 : Int32)) 1)
    show own_Go _ _ _ _ (T19.setTop (mkF m 82 #[.val (.int p1), .val (.int p2), .val (.int p3), .val (.int p4), .val (.int d), .val (.int q), .val (.int r), .val (.int n), .unset, .unset, .unset, .unset, .unset, .unset, .unset, .unset] [(.ref b19), (.ref b18), (.ref b17), (.ref b16), (.ref b15), (.ref b14), (.ref b13), (.ref b12), (.ref b12)]))
    refine own_go (fun _ kont => XS.iconst X19.here hx rfl (hb hby at_82) kont) ?_
    show own_Go _ _ _ _ (T19.setTop (mkF m 83 #[.val (.int p1), .val (.int p2), .val (.int p3), .val (.int p4), .val (.int d), .val (.int q), .val (.int r), .val (.int n), .unset, .unset, .unset, .unset, .unset, .unset, .unset, .unset] [(.int (0 : Int32)), (.ref b19), (.ref b18), (.ref b17), (.ref b16), (.ref b15), (.ref b14), (.ref b13), (.ref b12), (.ref b12)]))
    obtain ⟨T20, h20, k20, X20, e20, E20, A20, st20⟩ := newP X19 hx hZ (hw _ (List.mem_of_getElem? (i := 6) rfl)) e19 (g := (mkF m 83 #[.val (.int p1), .val (.int p2), .val (.int p3), .val (.int p4), .val (.int d), .val (.int q), .val (.int r), .val (.int n), .unset, .unset, .unset, .unset, .unset, .unset, .unset, .unset] [(.int (0 : Int32)), (.ref b19), (.ref b18), (.ref b17), (.ref b16), (.ref b15), (.ref b14), (.ref b13), (.ref b12), (.ref b12)])) rfl (hb hby at_83) rfl (by decide) (cap := 0) (by decide) (by decide) (by decide) (by decide)
    obtain ⟨b20, g20⟩ : ∃ z, z = h19.size := ⟨_, rfl⟩
    rw [← g20] at A20 st20
    refine own_go st20 ?_
    have ge_b20 : n0 ≤ b20 := Nat.le_trans Z0 (Nat.le_of_eq g20.symm)
    have ne_b12_b20 : b12 ≠ b20 := Nat.ne_of_lt (Nat.lt_of_lt_of_le A12.lt (Nat.le_of_eq g20.symm))
    have ne_b13_b20 : b13 ≠ b20 := Nat.ne_of_lt (Nat.lt_of_lt_of_le V_b13.lt (Nat.le_of_eq g20.symm))
    have ne_b14_b20 : b14 ≠ b20 := Nat.ne_of_lt (Nat.lt_of_lt_of_le V_b14.lt (Nat.le_of_eq g20.symm))
    have ne_b15_b20 : b15 ≠ b20 := Nat.ne_of_lt (Nat.lt_of_lt_of_le V_b15.lt (Nat.le_of_eq g20.symm))
    have ne_b16_b20 : b16 ≠ b20 := Nat.ne_of_lt (Nat.lt_of_lt_of_le V_b16.lt (Nat.le_of_eq g20.symm))
    have ne_b17_b20 : b17 ≠ b20 := Nat.ne_of_lt (Nat.lt_of_lt_of_le V_b17.lt (Nat.le_of_eq g20.symm))
    have ne_b18_b20 : b18 ≠ b20 := Nat.ne_of_lt (Nat.lt_of_lt_of_le V_b18.lt (Nat.le_of_eq g20.symm))
    have ne_b19_b20 : b19 ≠ b20 := Nat.ne_of_lt (Nat.lt_of_lt_of_le V_b19.lt (Nat.le_of_eq g20.symm))
    have sz_b20 : h0.size ≤ b20 := Nat.le_trans K0.1 (Nat.le_of_eq g20.symm)
    replace A12 := A12.ext E20
    replace F_docnos_b12 := F_docnos_b12.ext E20
    replace F_documentStarts_b12 := F_documentStarts_b12.ext E20
    replace F_documentTerms_b12 := F_documentTerms_b12.ext E20
    replace F_terms_b12 := F_terms_b12.ext E20
    replace F_termStarts_b12 := F_termStarts_b12.ext E20
    replace F_postingDocuments_b12 := F_postingDocuments_b12.ext E20
    replace F_postingStarts_b12 := F_postingStarts_b12.ext E20
    replace F_positions_b12 := F_positions_b12.ext E20
    replace F_termNumbers_b12 := F_termNumbers_b12.ext E20
    replace V_b13 := V_b13.ext E20
    replace V_b14 := V_b14.ext E20
    replace V_b15 := V_b15.ext E20
    replace V_b16 := V_b16.ext E20
    replace V_b17 := V_b17.ext E20
    replace V_b18 := V_b18.ext E20
    replace V_b19 := V_b19.ext E20
    replace Z0 := Nat.le_trans Z0 E20.1
    replace K0 := K0.ext E20
    have V_b20 : Arv Z h20 b20 k20 .int (0 : Int32) [] (.int (0 : Int32)) := Arv.new A20 (by decide)
    show own_Go _ _ _ _ (T20.setTop (mkF m 85 #[.val (.int p1), .val (.int p2), .val (.int p3), .val (.int p4), .val (.int d), .val (.int q), .val (.int r), .val (.int n), .unset, .unset, .unset, .unset, .unset, .unset, .unset, .unset] [(.ref b20), (.ref b19), (.ref b18), (.ref b17), (.ref b16), (.ref b15), (.ref b14), (.ref b13), (.ref b12), (.ref b12)]))
    obtain ⟨_, _, ⟨T21, L21, k21, n21⟩, -, X21, ⟨Lc21, hQ21, l21, y21, z21⟩, st21⟩ := X20.specialBack hx (y := (⟨"com/example/lissage/lissage/Index", "<init>", "([Ljava/lang/String;[I[I[Ljava/lang/String;[I[I[I[I)V"⟩ : MethodName)) rfl hown (mvT hZ (hw _ (List.mem_of_getElem? (i := 7) rfl))) (mvT hZ (hw _ (List.mem_of_getElem? (i := 8) rfl))) (mvT hZ (hw _ (List.mem_of_getElem? (i := 9) rfl))) (by decide) (own_back (W := 1) (own_rmI l Z a0 hw b12 b13 b14 b15 b16 b17 b18 b19 b20 k16 h20 n0 Z0 A12 F_docnos_b12 F_documentStarts_b12 F_documentTerms_b12 F_terms_b12 F_termStarts_b12 F_postingDocuments_b12 F_postingStarts_b12 F_positions_b12 F_termNumbers_b12 ge_b12 V_b16 ne_b12_b16) hZ (hw _ (List.mem_of_getElem? (i := 9) rfl)) (hw _ (List.mem_of_getElem? (i := 3) rfl)) (by decide) (by decide)) (g := (mkF m 85 #[.val (.int p1), .val (.int p2), .val (.int p3), .val (.int p4), .val (.int d), .val (.int q), .val (.int r), .val (.int n), .unset, .unset, .unset, .unset, .unset, .unset, .unset, .unset] [(.ref b20), (.ref b19), (.ref b18), (.ref b17), (.ref b16), (.ref b15), (.ref b14), (.ref b13), (.ref b12), (.ref b12)])) rfl (by rw [hml]; rfl) (Steps.refl _) (a := b12) (argsL := [(.ref b13), (.ref b14), (.ref b15), (.ref b16), (.ref b17), (.ref b18), (.ref b19), (.ref b20)]) (rest := [(.ref b12)]) (lenOf own_pd5 rfl) rfl (by show 2 * 0 + _ ≤ _; exact Nat.le_of_eq rfl) (hb hby at_85) (fun _ _ => ⟨rfl, e20, (by decide : 9 + 1 ≤ _), (by decide : 473 + 8 ≤ _)⟩)
    dsimp only [Pt.U, Pt.locs, Pt.cells, Pt.slots] at X21 l21 y21 z21 st21 hQ21
    subst l21 y21 z21
    obtain ⟨rfl, Nq21, K21, Ex21, _, Fd21, Ft21⟩ := hQ21
    have NF21 := Fr.app N0 Nq21
    refine own_goT st21 ?_
    replace A12 := A12.keep K21
    replace V_b13 := V_b13.keep K21 (ninS (Ne.symm ne_b12_b13) nin0)
    replace V_b14 := V_b14.keep K21 (ninS (Ne.symm ne_b12_b14) nin0)
    replace V_b15 := V_b15.keep K21 (ninS (Ne.symm ne_b12_b15) nin0)
    replace V_b16 := V_b16.keep K21 (ninS (Ne.symm ne_b12_b16) nin0)
    replace V_b17 := V_b17.keep K21 (ninS (Ne.symm ne_b12_b17) nin0)
    replace V_b18 := V_b18.keep K21 (ninS (Ne.symm ne_b12_b18) nin0)
    replace V_b19 := V_b19.keep K21 (ninS (Ne.symm ne_b12_b19) nin0)
    replace V_b20 := V_b20.keep K21 (ninS (Ne.symm ne_b12_b20) nin0)
    replace Z0 := Nat.le_trans Z0 K21.1
    replace K0 := K0.trans K21 (allS (Or.inr sz_b12) all0)
    show own_Go _ _ _ _ (T21.setTop (mkF m 88 #[.val (.int p1), .val (.int p2), .val (.int p3), .val (.int p4), .val (.int d), .val (.int q), .val (.int r), .val (.int n), .unset, .unset, .unset, .unset, .unset, .unset, .unset, .unset] [(.ref b12)]))
    refine own_go (fun _ kont => XS.astore X21.here hx rfl (hb hby at_88) rfl rfl (l' := #[.val (.int p1), .val (.int p2), .val (.int p3), .val (.int p4), .val (.int d), .val (.int q), .val (.int r), .val (.int n), .val (.ref b12), .unset, .unset, .unset, .unset, .unset, .unset, .unset]) rfl kont) ?_
    show own_Go _ _ _ _ (T21.setTop (mkF m 90 #[.val (.int p1), .val (.int p2), .val (.int p3), .val (.int p4), .val (.int d), .val (.int q), .val (.int r), .val (.int n), .val (.ref b12), .unset, .unset, .unset, .unset, .unset, .unset, .unset] []))
    refine own_go (fun _ kont => XS.aload X21.here hx rfl (hb hby at_90) rfl rfl kont) ?_
    show own_Go _ _ _ _ (T21.setTop (mkF m 92 #[.val (.int p1), .val (.int p2), .val (.int p3), .val (.int p4), .val (.int d), .val (.int q), .val (.int r), .val (.int n), .val (.ref b12), .unset, .unset, .unset, .unset, .unset, .unset, .unset] [(.ref b12)]))
    obtain ⟨cq22, kq22, q22a, q22b, q22c⟩ := isOf hZ rfl A12
    obtain ⟨_, _, ⟨T22, L22, k22, n22⟩, -, X22, ⟨Lc22, hQ22, l22, y22, z22⟩, st22⟩ := X21.virtualBack hx (y := (⟨"com/example/lissage/lissage/Index", "averageLength", "()D"⟩ : MethodName)) (z := (⟨"com/example/lissage/lissage/Index", "averageLength", "()D"⟩ : MethodName)) hown (mvT hZ (hw _ (List.mem_of_getElem? (i := 65) rfl))) (mvT hZ (hw _ (List.mem_of_getElem? (i := 66) rfl))) (notFace_of_selects (args := #[]) (mvT hZ (hw _ (List.mem_of_getElem? (i := 68) rfl)))) (mvT hZ (hw _ (List.mem_of_getElem? (i := 68) rfl))) (mvT hZ (hw _ (List.mem_of_getElem? (i := 67) rfl))) (by decide) (own_back (W := 0) (own_rmV l Z a0 hw b12 b13 b15 k13 k15 d n T21.heap n0 Z0 Fd21 Ft21 V_b13 V_b15 (fun _ => by rw [← hn]; exact (own_fin (k := 0) d1 d2 q1 q2 r1 r2 (by decide) (by decide)).1)) hZ (hw _ (List.mem_of_getElem? (i := 69) rfl)) (hw _ (List.mem_of_getElem? (i := 3) rfl)) (by decide) (by decide)) q22a q22c (g := (mkF m 92 #[.val (.int p1), .val (.int p2), .val (.int p3), .val (.int p4), .val (.int d), .val (.int q), .val (.int r), .val (.int n), .val (.ref b12), .unset, .unset, .unset, .unset, .unset, .unset, .unset] [(.ref b12)])) rfl (by rw [hml]; rfl) (Steps.refl _) (argsL := []) (rest := []) (lenOf own_pd6 rfl) rfl (by show 2 * 0 + _ ≤ _; exact Nat.le_of_eq rfl) (hb hby at_92) (fun _ _ => ⟨rfl, rfl, (by decide : 10 + 0 ≤ _), (by decide : 481 + 0 ≤ _)⟩)
    dsimp only [Pt.U, Pt.locs, Pt.cells, Pt.slots] at X22 l22 y22 z22 st22 hQ22
    subst l22 y22 z22
    obtain ⟨rfl, Nq22, eq22⟩ := hQ22
    have NF22 := Fr.app NF21 Nq22
    refine own_goT st22 ?_
    show own_Go _ _ _ _ (T22.setTop (mkF m 95 #[.val (.int p1), .val (.int p2), .val (.int p3), .val (.int p4), .val (.int d), .val (.int q), .val (.int r), .val (.int n), .val (.ref b12), .unset, .unset, .unset, .unset, .unset, .unset, .unset] [(.double (own_av d n))]))
    rw [show own_av d n = (FP.ddiv (FP.i2d n) (FP.i2d d)) from if_neg hd]
    show own_Go _ _ _ _ (T22.setTop (mkF m 95 #[.val (.int p1), .val (.int p2), .val (.int p3), .val (.int p4), .val (.int d), .val (.int q), .val (.int r), .val (.int n), .val (.ref b12), .unset, .unset, .unset, .unset, .unset, .unset, .unset] [(.double (FP.ddiv (FP.i2d n) (FP.i2d d)))]))
    refine own_go (fun _ kont => XS.dstore X22.here hx rfl (hb hby at_95) rfl (l' := #[.val (.int p1), .val (.int p2), .val (.int p3), .val (.int p4), .val (.int d), .val (.int q), .val (.int r), .val (.int n), .val (.ref b12), .val (.double (FP.ddiv (FP.i2d n) (FP.i2d d))), .second, .unset, .unset, .unset, .unset, .unset]) rfl kont) ?_
    show own_Go _ _ _ _ (T22.setTop (mkF m 97 #[.val (.int p1), .val (.int p2), .val (.int p3), .val (.int p4), .val (.int d), .val (.int q), .val (.int r), .val (.int n), .val (.ref b12), .val (.double (FP.ddiv (FP.i2d n) (FP.i2d d))), .second, .unset, .unset, .unset, .unset, .unset] []))
    refine own_go (fun _ kont => XS.iload X22.here hx rfl (hb hby at_97) rfl kont) ?_
    show own_Go _ _ _ _ (T22.setTop (mkF m 99 #[.val (.int p1), .val (.int p2), .val (.int p3), .val (.int p4), .val (.int d), .val (.int q), .val (.int r), .val (.int n), .val (.ref b12), .val (.double (FP.ddiv (FP.i2d n) (FP.i2d d))), .second, .unset, .unset, .unset, .unset, .unset] [(.int d)]))
    refine own_go (fun _ kont => XS.ifYes X22.here hx rfl (pc0 := 99) (pc' := 115) rfl (hb hby at_99) rfl ((if0 _ _).trans (feq hd).2) (by decide) (by decide) kont) ?_
    show own_Go _ _ _ _ (T22.setTop (mkF m 115 #[.val (.int p1), .val (.int p2), .val (.int p3), .val (.int p4), .val (.int d), .val (.int q), .val (.int r), .val (.int n), .val (.ref b12), .val (.double (FP.ddiv (FP.i2d n) (FP.i2d d))), .second, .unset, .unset, .unset, .unset, .unset] []))
    refine own_go (fun _ kont => XS.iloadN X22.here hx rfl (hb hby at_115) rfl kont) ?_
    show own_Go _ _ _ _ (T22.setTop (mkF m 116 #[.val (.int p1), .val (.int p2), .val (.int p3), .val (.int p4), .val (.int d), .val (.int q), .val (.int r), .val (.int n), .val (.ref b12), .val (.double (FP.ddiv (FP.i2d n) (FP.i2d d))), .second, .unset, .unset, .unset, .unset, .unset] [(.int p4)]))
    refine own_go (X22.ldcInt hx hown (mvT hZ (hw _ (List.mem_of_getElem? (i := 0) rfl))) (g := (mkF m 116 #[.val (.int p1), .val (.int p2), .val (.int p3), .val (.int p4), .val (.int d), .val (.int q), .val (.int r), .val (.int n), .val (.ref b12), .val (.double (FP.ddiv (FP.i2d n) (FP.i2d d))), .second, .unset, .unset, .unset, .unset, .unset] [(.int p4)])) rfl (hb hby at_116)) ?_
    show own_Go _ _ _ _ (T22.setTop (mkF m 118 #[.val (.int p1), .val (.int p2), .val (.int p3), .val (.int p4), .val (.int d), .val (.int q), .val (.int r), .val (.int n), .val (.ref b12), .val (.double (FP.ddiv (FP.i2d n) (FP.i2d d))), .second, .unset, .unset, .unset, .unset, .unset] [(.int (2147483647 : Int32)), (.int p4)]))
    refine own_go (fun _ kont => XS.iand X22.here hx rfl (hb hby at_118) rfl kont) ?_
    show own_Go _ _ _ _ (T22.setTop (mkF m 119 #[.val (.int p1), .val (.int p2), .val (.int p3), .val (.int p4), .val (.int d), .val (.int q), .val (.int r), .val (.int n), .val (.ref b12), .val (.double (FP.ddiv (FP.i2d n) (FP.i2d d))), .second, .unset, .unset, .unset, .unset, .unset] [(.int (p4 &&& (2147483647 : Int32)))]))
    refine own_go (fun _ kont => XS.iconst X22.here hx rfl (hb hby at_119) kont) ?_
    show own_Go _ _ _ _ (T22.setTop (mkF m 120 #[.val (.int p1), .val (.int p2), .val (.int p3), .val (.int p4), .val (.int d), .val (.int q), .val (.int r), .val (.int n), .val (.ref b12), .val (.double (FP.ddiv (FP.i2d n) (FP.i2d d))), .second, .unset, .unset, .unset, .unset, .unset] [(.int (5 : Int32)), (.int (p4 &&& (2147483647 : Int32)))]))
    refine own_go (fun _ kont => iremM X22 hx rfl (hb hby at_120) rfl (by decide) kont) ?_
    show own_Go _ _ _ _ (T22.setTop (mkF m 121 #[.val (.int p1), .val (.int p2), .val (.int p3), .val (.int p4), .val (.int d), .val (.int q), .val (.int r), .val (.int n), .val (.ref b12), .val (.double (FP.ddiv (FP.i2d n) (FP.i2d d))), .second, .unset, .unset, .unset, .unset, .unset] [(.int ((p4 &&& (2147483647 : Int32)) % (5 : Int32)))]))
    obtain ⟨k1, k2⟩ := own_k p4
    generalize hk : ((p4 &&& (2147483647 : Int32)) % (5 : Int32)) = k
    rw [hk] at k1 k2
    obtain ⟨f1, f2, f3, f4, f5, f6⟩ := own_fin d1 d2 q1 q2 r1 r2 k1 k2
    rw [hn] at f1 f4 f5 f6
    show own_Go _ _ _ _ (T22.setTop (mkF m 121 #[.val (.int p1), .val (.int p2), .val (.int p3), .val (.int p4), .val (.int d), .val (.int q), .val (.int r), .val (.int n), .val (.ref b12), .val (.double (FP.ddiv (FP.i2d n) (FP.i2d d))), .second, .unset, .unset, .unset, .unset, .unset] [(.int k)]))
    refine own_go (fun _ kont => XS.istore X22.here hx rfl (hb hby at_121) rfl (l' := #[.val (.int p1), .val (.int p2), .val (.int p3), .val (.int p4), .val (.int d), .val (.int q), .val (.int r), .val (.int n), .val (.ref b12), .val (.double (FP.ddiv (FP.i2d n) (FP.i2d d))), .second, .val (.int k), .unset, .unset, .unset, .unset]) rfl kont) ?_
    show own_Go _ _ _ _ (T22.setTop (mkF m 123 #[.val (.int p1), .val (.int p2), .val (.int p3), .val (.int p4), .val (.int d), .val (.int q), .val (.int r), .val (.int n), .val (.ref b12), .val (.double (FP.ddiv (FP.i2d n) (FP.i2d d))), .second, .val (.int k), .unset, .unset, .unset, .unset] []))
    refine own_go (fun _ kont => XS.iload X22.here hx rfl (hb hby at_123) rfl kont) ?_
    show own_Go _ _ _ _ (T22.setTop (mkF m 125 #[.val (.int p1), .val (.int p2), .val (.int p3), .val (.int p4), .val (.int d), .val (.int q), .val (.int r), .val (.int n), .val (.ref b12), .val (.double (FP.ddiv (FP.i2d n) (FP.i2d d))), .second, .val (.int k), .unset, .unset, .unset, .unset] [(.int q)]))
    refine own_go (fun _ kont => XS.i2dS X22.here hx rfl (hb hby at_125) rfl (v := (FP.i2d q)) rfl kont) ?_
    show own_Go _ _ _ _ (T22.setTop (mkF m 126 #[.val (.int p1), .val (.int p2), .val (.int p3), .val (.int p4), .val (.int d), .val (.int q), .val (.int r), .val (.int n), .val (.ref b12), .val (.double (FP.ddiv (FP.i2d n) (FP.i2d d))), .second, .val (.int k), .unset, .unset, .unset, .unset] [(.double (FP.i2d q))]))
    refine own_go (fun _ kont => XS.iload X22.here hx rfl (hb hby at_126) rfl kont) ?_
    show own_Go _ _ _ _ (T22.setTop (mkF m 128 #[.val (.int p1), .val (.int p2), .val (.int p3), .val (.int p4), .val (.int d), .val (.int q), .val (.int r), .val (.int n), .val (.ref b12), .val (.double (FP.ddiv (FP.i2d n) (FP.i2d d))), .second, .val (.int k), .unset, .unset, .unset, .unset] [(.int k), (.double (FP.i2d q))]))
    refine own_go (fun _ kont => XS.i2dS X22.here hx rfl (hb hby at_128) rfl (v := (FP.i2d k)) rfl kont) ?_
    show own_Go _ _ _ _ (T22.setTop (mkF m 129 #[.val (.int p1), .val (.int p2), .val (.int p3), .val (.int p4), .val (.int d), .val (.int q), .val (.int r), .val (.int n), .val (.ref b12), .val (.double (FP.ddiv (FP.i2d n) (FP.i2d d))), .second, .val (.int k), .unset, .unset, .unset, .unset] [(.double (FP.i2d k)), (.double (FP.i2d q))]))
    refine own_go (X22.ldc2DoubleC hx hown (mvT hZ (hw _ (List.mem_of_getElem? (i := 70) rfl))) (g := (mkF m 129 #[.val (.int p1), .val (.int p2), .val (.int p3), .val (.int p4), .val (.int d), .val (.int q), .val (.int r), .val (.int n), .val (.ref b12), .val (.double (FP.ddiv (FP.i2d n) (FP.i2d d))), .second, .val (.int k), .unset, .unset, .unset, .unset] [(.double (FP.i2d k)), (.double (FP.i2d q))])) rfl (hb hby at_129)) ?_
    show own_Go _ _ _ _ (T22.setTop (mkF m 132 #[.val (.int p1), .val (.int p2), .val (.int p3), .val (.int p4), .val (.int d), .val (.int q), .val (.int r), .val (.int n), .val (.ref b12), .val (.double (FP.ddiv (FP.i2d n) (FP.i2d d))), .second, .val (.int k), .unset, .unset, .unset, .unset] [(.double (4598175219545276416 : UInt64)), (.double (FP.i2d k)), (.double (FP.i2d q))]))
    refine own_go (fun _ kont => XS.dmulS X22.here hx rfl (hb hby at_132) rfl f2 (v := (FP.dmul (FP.i2d k) (4598175219545276416 : UInt64))) rfl kont) ?_
    show own_Go _ _ _ _ (T22.setTop (mkF m 133 #[.val (.int p1), .val (.int p2), .val (.int p3), .val (.int p4), .val (.int d), .val (.int q), .val (.int r), .val (.int n), .val (.ref b12), .val (.double (FP.ddiv (FP.i2d n) (FP.i2d d))), .second, .val (.int k), .unset, .unset, .unset, .unset] [(.double (FP.dmul (FP.i2d k) (4598175219545276416 : UInt64))), (.double (FP.i2d q))]))
    refine own_go (fun _ kont => XS.daddS X22.here hx rfl (hb hby at_133) rfl f3 (v := (FP.dadd (FP.i2d q) (FP.dmul (FP.i2d k) (4598175219545276416 : UInt64)))) rfl kont) ?_
    show own_Go _ _ _ _ (T22.setTop (mkF m 134 #[.val (.int p1), .val (.int p2), .val (.int p3), .val (.int p4), .val (.int d), .val (.int q), .val (.int r), .val (.int n), .val (.ref b12), .val (.double (FP.ddiv (FP.i2d n) (FP.i2d d))), .second, .val (.int k), .unset, .unset, .unset, .unset] [(.double (FP.dadd (FP.i2d q) (FP.dmul (FP.i2d k) (4598175219545276416 : UInt64))))]))
    refine own_go (fun _ kont => XS.dstore X22.here hx rfl (hb hby at_134) rfl (l' := #[.val (.int p1), .val (.int p2), .val (.int p3), .val (.int p4), .val (.int d), .val (.int q), .val (.int r), .val (.int n), .val (.ref b12), .val (.double (FP.ddiv (FP.i2d n) (FP.i2d d))), .second, .val (.int k), .val (.double (FP.dadd (FP.i2d q) (FP.dmul (FP.i2d k) (4598175219545276416 : UInt64)))), .second, .unset, .unset]) rfl kont) ?_
    show own_Go _ _ _ _ (T22.setTop (mkF m 136 #[.val (.int p1), .val (.int p2), .val (.int p3), .val (.int p4), .val (.int d), .val (.int q), .val (.int r), .val (.int n), .val (.ref b12), .val (.double (FP.ddiv (FP.i2d n) (FP.i2d d))), .second, .val (.int k), .val (.double (FP.dadd (FP.i2d q) (FP.dmul (FP.i2d k) (4598175219545276416 : UInt64)))), .second, .unset, .unset] []))
    refine own_go (fun _ kont => XS.iconst X22.here hx rfl (hb hby at_136) kont) ?_
    show own_Go _ _ _ _ (T22.setTop (mkF m 137 #[.val (.int p1), .val (.int p2), .val (.int p3), .val (.int p4), .val (.int d), .val (.int q), .val (.int r), .val (.int n), .val (.ref b12), .val (.double (FP.ddiv (FP.i2d n) (FP.i2d d))), .second, .val (.int k), .val (.double (FP.dadd (FP.i2d q) (FP.dmul (FP.i2d k) (4598175219545276416 : UInt64)))), .second, .unset, .unset] [(.int (4 : Int32))]))
    refine own_go (fun _ kont => XS.iload X22.here hx rfl (hb hby at_137) rfl kont) ?_
    show own_Go _ _ _ _ (T22.setTop (mkF m 139 #[.val (.int p1), .val (.int p2), .val (.int p3), .val (.int p4), .val (.int d), .val (.int q), .val (.int r), .val (.int n), .val (.ref b12), .val (.double (FP.ddiv (FP.i2d n) (FP.i2d d))), .second, .val (.int k), .val (.double (FP.dadd (FP.i2d q) (FP.dmul (FP.i2d k) (4598175219545276416 : UInt64)))), .second, .unset, .unset] [(.int r), (.int (4 : Int32))]))
    refine own_go (fun _ kont => XS.imul X22.here hx rfl (hb hby at_139) rfl kont) ?_
    show own_Go _ _ _ _ (T22.setTop (mkF m 140 #[.val (.int p1), .val (.int p2), .val (.int p3), .val (.int p4), .val (.int d), .val (.int q), .val (.int r), .val (.int n), .val (.ref b12), .val (.double (FP.ddiv (FP.i2d n) (FP.i2d d))), .second, .val (.int k), .val (.double (FP.dadd (FP.i2d q) (FP.dmul (FP.i2d k) (4598175219545276416 : UInt64)))), .second, .unset, .unset] [(.int ((4 : Int32) * r))]))
    refine own_go (fun _ kont => XS.istore X22.here hx rfl (hb hby at_140) rfl (l' := #[.val (.int p1), .val (.int p2), .val (.int p3), .val (.int p4), .val (.int d), .val (.int q), .val (.int r), .val (.int n), .val (.ref b12), .val (.double (FP.ddiv (FP.i2d n) (FP.i2d d))), .second, .val (.int k), .val (.double (FP.dadd (FP.i2d q) (FP.dmul (FP.i2d k) (4598175219545276416 : UInt64)))), .second, .val (.int ((4 : Int32) * r)), .unset]) rfl kont) ?_
    show own_Go _ _ _ _ (T22.setTop (mkF m 142 #[.val (.int p1), .val (.int p2), .val (.int p3), .val (.int p4), .val (.int d), .val (.int q), .val (.int r), .val (.int n), .val (.ref b12), .val (.double (FP.ddiv (FP.i2d n) (FP.i2d d))), .second, .val (.int k), .val (.double (FP.dadd (FP.i2d q) (FP.dmul (FP.i2d k) (4598175219545276416 : UInt64)))), .second, .val (.int ((4 : Int32) * r)), .unset] []))
    refine own_go (fun _ kont => XS.iload X22.here hx rfl (hb hby at_142) rfl kont) ?_
    show own_Go _ _ _ _ (T22.setTop (mkF m 144 #[.val (.int p1), .val (.int p2), .val (.int p3), .val (.int p4), .val (.int d), .val (.int q), .val (.int r), .val (.int n), .val (.ref b12), .val (.double (FP.ddiv (FP.i2d n) (FP.i2d d))), .second, .val (.int k), .val (.double (FP.dadd (FP.i2d q) (FP.dmul (FP.i2d k) (4598175219545276416 : UInt64)))), .second, .val (.int ((4 : Int32) * r)), .unset] [(.int k)]))
    refine own_go (fun _ kont => XS.iload X22.here hx rfl (hb hby at_144) rfl kont) ?_
    show own_Go _ _ _ _ (T22.setTop (mkF m 146 #[.val (.int p1), .val (.int p2), .val (.int p3), .val (.int p4), .val (.int d), .val (.int q), .val (.int r), .val (.int n), .val (.ref b12), .val (.double (FP.ddiv (FP.i2d n) (FP.i2d d))), .second, .val (.int k), .val (.double (FP.dadd (FP.i2d q) (FP.dmul (FP.i2d k) (4598175219545276416 : UInt64)))), .second, .val (.int ((4 : Int32) * r)), .unset] [(.int d), (.int k)]))
    refine own_go (fun _ kont => XS.imul X22.here hx rfl (hb hby at_146) rfl kont) ?_
    show own_Go _ _ _ _ (T22.setTop (mkF m 147 #[.val (.int p1), .val (.int p2), .val (.int p3), .val (.int p4), .val (.int d), .val (.int q), .val (.int r), .val (.int n), .val (.ref b12), .val (.double (FP.ddiv (FP.i2d n) (FP.i2d d))), .second, .val (.int k), .val (.double (FP.dadd (FP.i2d q) (FP.dmul (FP.i2d k) (4598175219545276416 : UInt64)))), .second, .val (.int ((4 : Int32) * r)), .unset] [(.int (k * d))]))
    refine own_go (fun _ kont => XS.istore X22.here hx rfl (hb hby at_147) rfl (l' := #[.val (.int p1), .val (.int p2), .val (.int p3), .val (.int p4), .val (.int d), .val (.int q), .val (.int r), .val (.int n), .val (.ref b12), .val (.double (FP.ddiv (FP.i2d n) (FP.i2d d))), .second, .val (.int k), .val (.double (FP.dadd (FP.i2d q) (FP.dmul (FP.i2d k) (4598175219545276416 : UInt64)))), .second, .val (.int ((4 : Int32) * r)), .val (.int (k * d))]) rfl kont) ?_
    show own_Go _ _ _ _ (T22.setTop (mkF m 149 #[.val (.int p1), .val (.int p2), .val (.int p3), .val (.int p4), .val (.int d), .val (.int q), .val (.int r), .val (.int n), .val (.ref b12), .val (.double (FP.ddiv (FP.i2d n) (FP.i2d d))), .second, .val (.int k), .val (.double (FP.dadd (FP.i2d q) (FP.dmul (FP.i2d k) (4598175219545276416 : UInt64)))), .second, .val (.int ((4 : Int32) * r)), .val (.int (k * d))] []))
    refine own_go (fun _ kont => XS.iload X22.here hx rfl (hb hby at_149) rfl kont) ?_
    show own_Go _ _ _ _ (T22.setTop (mkF m 151 #[.val (.int p1), .val (.int p2), .val (.int p3), .val (.int p4), .val (.int d), .val (.int q), .val (.int r), .val (.int n), .val (.ref b12), .val (.double (FP.ddiv (FP.i2d n) (FP.i2d d))), .second, .val (.int k), .val (.double (FP.dadd (FP.i2d q) (FP.dmul (FP.i2d k) (4598175219545276416 : UInt64)))), .second, .val (.int ((4 : Int32) * r)), .val (.int (k * d))] [(.int ((4 : Int32) * r))]))
    refine own_go (fun _ kont => XS.iload X22.here hx rfl (hb hby at_151) rfl kont) ?_
    show own_Go _ _ _ _ (T22.setTop (mkF m 153 #[.val (.int p1), .val (.int p2), .val (.int p3), .val (.int p4), .val (.int d), .val (.int q), .val (.int r), .val (.int n), .val (.ref b12), .val (.double (FP.ddiv (FP.i2d n) (FP.i2d d))), .second, .val (.int k), .val (.double (FP.dadd (FP.i2d q) (FP.dmul (FP.i2d k) (4598175219545276416 : UInt64)))), .second, .val (.int ((4 : Int32) * r)), .val (.int (k * d))] [(.int (k * d)), (.int ((4 : Int32) * r))]))
    by_cases hA : ((4 : Int32) * r) < (k * d)
    · have _h := hA
      refine own_go (fun _ kont => XS.icmpNo X22.here hx rfl (hb hby at_153) rfl (tlt hA).2.1 kont) ?_
      show own_Go _ _ _ _ (T22.setTop (mkF m 156 #[.val (.int p1), .val (.int p2), .val (.int p3), .val (.int p4), .val (.int d), .val (.int q), .val (.int r), .val (.int n), .val (.ref b12), .val (.double (FP.ddiv (FP.i2d n) (FP.i2d d))), .second, .val (.int k), .val (.double (FP.dadd (FP.i2d q) (FP.dmul (FP.i2d k) (4598175219545276416 : UInt64)))), .second, .val (.int ((4 : Int32) * r)), .val (.int (k * d))] []))
      refine own_go (fun _ kont => XS.dload X22.here hx rfl (hb hby at_156) rfl kont) ?_
      show own_Go _ _ _ _ (T22.setTop (mkF m 158 #[.val (.int p1), .val (.int p2), .val (.int p3), .val (.int p4), .val (.int d), .val (.int q), .val (.int r), .val (.int n), .val (.ref b12), .val (.double (FP.ddiv (FP.i2d n) (FP.i2d d))), .second, .val (.int k), .val (.double (FP.dadd (FP.i2d q) (FP.dmul (FP.i2d k) (4598175219545276416 : UInt64)))), .second, .val (.int ((4 : Int32) * r)), .val (.int (k * d))] [(.double (FP.ddiv (FP.i2d n) (FP.i2d d)))]))
      refine own_go (fun _ kont => XS.dload X22.here hx rfl (hb hby at_158) rfl kont) ?_
      show own_Go _ _ _ _ (T22.setTop (mkF m 160 #[.val (.int p1), .val (.int p2), .val (.int p3), .val (.int p4), .val (.int d), .val (.int q), .val (.int r), .val (.int n), .val (.ref b12), .val (.double (FP.ddiv (FP.i2d n) (FP.i2d d))), .second, .val (.int k), .val (.double (FP.dadd (FP.i2d q) (FP.dmul (FP.i2d k) (4598175219545276416 : UInt64)))), .second, .val (.int ((4 : Int32) * r)), .val (.int (k * d))] [(.double (FP.dadd (FP.i2d q) (FP.dmul (FP.i2d k) (4598175219545276416 : UInt64)))), (.double (FP.ddiv (FP.i2d n) (FP.i2d d)))]))
      refine own_go (fun _ kont => XS.dcmpS X22.here hx rfl (hb hby at_160) rfl (v := (-1 : Int32)) (f4 hA) kont) ?_
      show own_Go _ _ _ _ (T22.setTop (mkF m 161 #[.val (.int p1), .val (.int p2), .val (.int p3), .val (.int p4), .val (.int d), .val (.int q), .val (.int r), .val (.int n), .val (.ref b12), .val (.double (FP.ddiv (FP.i2d n) (FP.i2d d))), .second, .val (.int k), .val (.double (FP.dadd (FP.i2d q) (FP.dmul (FP.i2d k) (4598175219545276416 : UInt64)))), .second, .val (.int ((4 : Int32) * r)), .val (.int (k * d))] [(.int (-1 : Int32))]))
      refine own_go (fun _ kont => XS.ifNo X22.here hx rfl (hb hby at_161) rfl ((if0 _ _).trans (tlt (by decide)).2.1) kont) ?_
      show own_Go _ _ _ _ (T22.setTop (mkF m 164 #[.val (.int p1), .val (.int p2), .val (.int p3), .val (.int p4), .val (.int d), .val (.int q), .val (.int r), .val (.int n), .val (.ref b12), .val (.double (FP.ddiv (FP.i2d n) (FP.i2d d))), .second, .val (.int k), .val (.double (FP.dadd (FP.i2d q) (FP.dmul (FP.i2d k) (4598175219545276416 : UInt64)))), .second, .val (.int ((4 : Int32) * r)), .val (.int (k * d))] []))
      refine own_go (fun _ kont => XS.iconst X22.here hx rfl (hb hby at_164) kont) ?_
      show own_Go _ _ _ _ (T22.setTop (mkF m 165 #[.val (.int p1), .val (.int p2), .val (.int p3), .val (.int p4), .val (.int d), .val (.int q), .val (.int r), .val (.int n), .val (.ref b12), .val (.double (FP.ddiv (FP.i2d n) (FP.i2d d))), .second, .val (.int k), .val (.double (FP.dadd (FP.i2d q) (FP.dmul (FP.i2d k) (4598175219545276416 : UInt64)))), .second, .val (.int ((4 : Int32) * r)), .val (.int (k * d))] [(.int (1 : Int32))]))
      refine own_go (fun _ kont => XS.goto X22.here hx rfl (pc0 := 165) (pc' := 169) rfl (hb hby at_165) (by decide) (by decide) kont) ?_
      show own_Go _ _ _ _ (T22.setTop (mkF m 169 #[.val (.int p1), .val (.int p2), .val (.int p3), .val (.int p4), .val (.int d), .val (.int q), .val (.int r), .val (.int n), .val (.ref b12), .val (.double (FP.ddiv (FP.i2d n) (FP.i2d d))), .second, .val (.int k), .val (.double (FP.dadd (FP.i2d q) (FP.dmul (FP.i2d k) (4598175219545276416 : UInt64)))), .second, .val (.int ((4 : Int32) * r)), .val (.int (k * d))] [(.int (1 : Int32))]))
      refine own_ret X22 hlk (v := some (.int (1 : Int32))) (fun h => by rw [Bd.returns] at h; cases h) (fun fs hr => retN X22 hx (t := .boolean) Bd.returns (by simp) (hb hby at_169) hr) ?_ (by decide) (by decide)
      try rw [eq22]
      exact ⟨rfl, NF22⟩
    · have _h := hA
      refine own_go (fun _ kont => XS.icmpYes X22.here hx rfl (pc0 := 153) (pc' := 170) rfl (hb hby at_153) rfl (flt hA).2.1 (by decide) (by decide) kont) ?_
      show own_Go _ _ _ _ (T22.setTop (mkF m 170 #[.val (.int p1), .val (.int p2), .val (.int p3), .val (.int p4), .val (.int d), .val (.int q), .val (.int r), .val (.int n), .val (.ref b12), .val (.double (FP.ddiv (FP.i2d n) (FP.i2d d))), .second, .val (.int k), .val (.double (FP.dadd (FP.i2d q) (FP.dmul (FP.i2d k) (4598175219545276416 : UInt64)))), .second, .val (.int ((4 : Int32) * r)), .val (.int (k * d))] []))
      refine own_go (fun _ kont => XS.iload X22.here hx rfl (hb hby at_170) rfl kont) ?_
      show own_Go _ _ _ _ (T22.setTop (mkF m 172 #[.val (.int p1), .val (.int p2), .val (.int p3), .val (.int p4), .val (.int d), .val (.int q), .val (.int r), .val (.int n), .val (.ref b12), .val (.double (FP.ddiv (FP.i2d n) (FP.i2d d))), .second, .val (.int k), .val (.double (FP.dadd (FP.i2d q) (FP.dmul (FP.i2d k) (4598175219545276416 : UInt64)))), .second, .val (.int ((4 : Int32) * r)), .val (.int (k * d))] [(.int ((4 : Int32) * r))]))
      refine own_go (fun _ kont => XS.iload X22.here hx rfl (hb hby at_172) rfl kont) ?_
      show own_Go _ _ _ _ (T22.setTop (mkF m 174 #[.val (.int p1), .val (.int p2), .val (.int p3), .val (.int p4), .val (.int d), .val (.int q), .val (.int r), .val (.int n), .val (.ref b12), .val (.double (FP.ddiv (FP.i2d n) (FP.i2d d))), .second, .val (.int k), .val (.double (FP.dadd (FP.i2d q) (FP.dmul (FP.i2d k) (4598175219545276416 : UInt64)))), .second, .val (.int ((4 : Int32) * r)), .val (.int (k * d))] [(.int (k * d)), (.int ((4 : Int32) * r))]))
      by_cases hB : ((4 : Int32) * r) = (k * d)
      · have _h := hB
        refine own_go (fun _ kont => XS.icmpNo X22.here hx rfl (hb hby at_174) rfl (teq hB).2 kont) ?_
        show own_Go _ _ _ _ (T22.setTop (mkF m 177 #[.val (.int p1), .val (.int p2), .val (.int p3), .val (.int p4), .val (.int d), .val (.int q), .val (.int r), .val (.int n), .val (.ref b12), .val (.double (FP.ddiv (FP.i2d n) (FP.i2d d))), .second, .val (.int k), .val (.double (FP.dadd (FP.i2d q) (FP.dmul (FP.i2d k) (4598175219545276416 : UInt64)))), .second, .val (.int ((4 : Int32) * r)), .val (.int (k * d))] []))
        refine own_go (fun _ kont => XS.dload X22.here hx rfl (hb hby at_177) rfl kont) ?_
        show own_Go _ _ _ _ (T22.setTop (mkF m 179 #[.val (.int p1), .val (.int p2), .val (.int p3), .val (.int p4), .val (.int d), .val (.int q), .val (.int r), .val (.int n), .val (.ref b12), .val (.double (FP.ddiv (FP.i2d n) (FP.i2d d))), .second, .val (.int k), .val (.double (FP.dadd (FP.i2d q) (FP.dmul (FP.i2d k) (4598175219545276416 : UInt64)))), .second, .val (.int ((4 : Int32) * r)), .val (.int (k * d))] [(.double (FP.ddiv (FP.i2d n) (FP.i2d d)))]))
        refine own_go (fun _ kont => XS.dload X22.here hx rfl (hb hby at_179) rfl kont) ?_
        show own_Go _ _ _ _ (T22.setTop (mkF m 181 #[.val (.int p1), .val (.int p2), .val (.int p3), .val (.int p4), .val (.int d), .val (.int q), .val (.int r), .val (.int n), .val (.ref b12), .val (.double (FP.ddiv (FP.i2d n) (FP.i2d d))), .second, .val (.int k), .val (.double (FP.dadd (FP.i2d q) (FP.dmul (FP.i2d k) (4598175219545276416 : UInt64)))), .second, .val (.int ((4 : Int32) * r)), .val (.int (k * d))] [(.double (FP.dadd (FP.i2d q) (FP.dmul (FP.i2d k) (4598175219545276416 : UInt64)))), (.double (FP.ddiv (FP.i2d n) (FP.i2d d)))]))
        refine own_go (fun _ kont => XS.dcmpS X22.here hx rfl (hb hby at_181) rfl (v := (0 : Int32)) (f5 hB) kont) ?_
        show own_Go _ _ _ _ (T22.setTop (mkF m 182 #[.val (.int p1), .val (.int p2), .val (.int p3), .val (.int p4), .val (.int d), .val (.int q), .val (.int r), .val (.int n), .val (.ref b12), .val (.double (FP.ddiv (FP.i2d n) (FP.i2d d))), .second, .val (.int k), .val (.double (FP.dadd (FP.i2d q) (FP.dmul (FP.i2d k) (4598175219545276416 : UInt64)))), .second, .val (.int ((4 : Int32) * r)), .val (.int (k * d))] [(.int (0 : Int32))]))
        refine own_go (fun _ kont => XS.ifNo X22.here hx rfl (hb hby at_182) rfl ((if0 _ _).trans (teq (by decide)).2) kont) ?_
        show own_Go _ _ _ _ (T22.setTop (mkF m 185 #[.val (.int p1), .val (.int p2), .val (.int p3), .val (.int p4), .val (.int d), .val (.int q), .val (.int r), .val (.int n), .val (.ref b12), .val (.double (FP.ddiv (FP.i2d n) (FP.i2d d))), .second, .val (.int k), .val (.double (FP.dadd (FP.i2d q) (FP.dmul (FP.i2d k) (4598175219545276416 : UInt64)))), .second, .val (.int ((4 : Int32) * r)), .val (.int (k * d))] []))
        refine own_go (fun _ kont => XS.iconst X22.here hx rfl (hb hby at_185) kont) ?_
        show own_Go _ _ _ _ (T22.setTop (mkF m 186 #[.val (.int p1), .val (.int p2), .val (.int p3), .val (.int p4), .val (.int d), .val (.int q), .val (.int r), .val (.int n), .val (.ref b12), .val (.double (FP.ddiv (FP.i2d n) (FP.i2d d))), .second, .val (.int k), .val (.double (FP.dadd (FP.i2d q) (FP.dmul (FP.i2d k) (4598175219545276416 : UInt64)))), .second, .val (.int ((4 : Int32) * r)), .val (.int (k * d))] [(.int (1 : Int32))]))
        refine own_go (fun _ kont => XS.goto X22.here hx rfl (pc0 := 186) (pc' := 190) rfl (hb hby at_186) (by decide) (by decide) kont) ?_
        show own_Go _ _ _ _ (T22.setTop (mkF m 190 #[.val (.int p1), .val (.int p2), .val (.int p3), .val (.int p4), .val (.int d), .val (.int q), .val (.int r), .val (.int n), .val (.ref b12), .val (.double (FP.ddiv (FP.i2d n) (FP.i2d d))), .second, .val (.int k), .val (.double (FP.dadd (FP.i2d q) (FP.dmul (FP.i2d k) (4598175219545276416 : UInt64)))), .second, .val (.int ((4 : Int32) * r)), .val (.int (k * d))] [(.int (1 : Int32))]))
        refine own_ret X22 hlk (v := some (.int (1 : Int32))) (fun h => by rw [Bd.returns] at h; cases h) (fun fs hr => retN X22 hx (t := .boolean) Bd.returns (by simp) (hb hby at_190) hr) ?_ (by decide) (by decide)
        try rw [eq22]
        exact ⟨rfl, NF22⟩
      · have _h := hB
        refine own_go (fun _ kont => XS.icmpYes X22.here hx rfl (pc0 := 174) (pc' := 191) rfl (hb hby at_174) rfl (feq hB).2 (by decide) (by decide) kont) ?_
        show own_Go _ _ _ _ (T22.setTop (mkF m 191 #[.val (.int p1), .val (.int p2), .val (.int p3), .val (.int p4), .val (.int d), .val (.int q), .val (.int r), .val (.int n), .val (.ref b12), .val (.double (FP.ddiv (FP.i2d n) (FP.i2d d))), .second, .val (.int k), .val (.double (FP.dadd (FP.i2d q) (FP.dmul (FP.i2d k) (4598175219545276416 : UInt64)))), .second, .val (.int ((4 : Int32) * r)), .val (.int (k * d))] []))
        refine own_go (fun _ kont => XS.dload X22.here hx rfl (hb hby at_191) rfl kont) ?_
        show own_Go _ _ _ _ (T22.setTop (mkF m 193 #[.val (.int p1), .val (.int p2), .val (.int p3), .val (.int p4), .val (.int d), .val (.int q), .val (.int r), .val (.int n), .val (.ref b12), .val (.double (FP.ddiv (FP.i2d n) (FP.i2d d))), .second, .val (.int k), .val (.double (FP.dadd (FP.i2d q) (FP.dmul (FP.i2d k) (4598175219545276416 : UInt64)))), .second, .val (.int ((4 : Int32) * r)), .val (.int (k * d))] [(.double (FP.dadd (FP.i2d q) (FP.dmul (FP.i2d k) (4598175219545276416 : UInt64))))]))
        refine own_go (fun _ kont => XS.dload X22.here hx rfl (hb hby at_193) rfl kont) ?_
        show own_Go _ _ _ _ (T22.setTop (mkF m 195 #[.val (.int p1), .val (.int p2), .val (.int p3), .val (.int p4), .val (.int d), .val (.int q), .val (.int r), .val (.int n), .val (.ref b12), .val (.double (FP.ddiv (FP.i2d n) (FP.i2d d))), .second, .val (.int k), .val (.double (FP.dadd (FP.i2d q) (FP.dmul (FP.i2d k) (4598175219545276416 : UInt64)))), .second, .val (.int ((4 : Int32) * r)), .val (.int (k * d))] [(.double (FP.ddiv (FP.i2d n) (FP.i2d d))), (.double (FP.dadd (FP.i2d q) (FP.dmul (FP.i2d k) (4598175219545276416 : UInt64))))]))
        refine own_go (fun _ kont => XS.dcmpS X22.here hx rfl (hb hby at_195) rfl (v := (-1 : Int32)) (f6 hA hB) kont) ?_
        show own_Go _ _ _ _ (T22.setTop (mkF m 196 #[.val (.int p1), .val (.int p2), .val (.int p3), .val (.int p4), .val (.int d), .val (.int q), .val (.int r), .val (.int n), .val (.ref b12), .val (.double (FP.ddiv (FP.i2d n) (FP.i2d d))), .second, .val (.int k), .val (.double (FP.dadd (FP.i2d q) (FP.dmul (FP.i2d k) (4598175219545276416 : UInt64)))), .second, .val (.int ((4 : Int32) * r)), .val (.int (k * d))] [(.int (-1 : Int32))]))
        refine own_go (fun _ kont => XS.ifNo X22.here hx rfl (hb hby at_196) rfl ((if0 _ _).trans (tlt (by decide)).2.1) kont) ?_
        show own_Go _ _ _ _ (T22.setTop (mkF m 199 #[.val (.int p1), .val (.int p2), .val (.int p3), .val (.int p4), .val (.int d), .val (.int q), .val (.int r), .val (.int n), .val (.ref b12), .val (.double (FP.ddiv (FP.i2d n) (FP.i2d d))), .second, .val (.int k), .val (.double (FP.dadd (FP.i2d q) (FP.dmul (FP.i2d k) (4598175219545276416 : UInt64)))), .second, .val (.int ((4 : Int32) * r)), .val (.int (k * d))] []))
        refine own_go (fun _ kont => XS.iconst X22.here hx rfl (hb hby at_199) kont) ?_
        show own_Go _ _ _ _ (T22.setTop (mkF m 200 #[.val (.int p1), .val (.int p2), .val (.int p3), .val (.int p4), .val (.int d), .val (.int q), .val (.int r), .val (.int n), .val (.ref b12), .val (.double (FP.ddiv (FP.i2d n) (FP.i2d d))), .second, .val (.int k), .val (.double (FP.dadd (FP.i2d q) (FP.dmul (FP.i2d k) (4598175219545276416 : UInt64)))), .second, .val (.int ((4 : Int32) * r)), .val (.int (k * d))] [(.int (1 : Int32))]))
        refine own_go (fun _ kont => XS.goto X22.here hx rfl (pc0 := 200) (pc' := 204) rfl (hb hby at_200) (by decide) (by decide) kont) ?_
        show own_Go _ _ _ _ (T22.setTop (mkF m 204 #[.val (.int p1), .val (.int p2), .val (.int p3), .val (.int p4), .val (.int d), .val (.int q), .val (.int r), .val (.int n), .val (.ref b12), .val (.double (FP.ddiv (FP.i2d n) (FP.i2d d))), .second, .val (.int k), .val (.double (FP.dadd (FP.i2d q) (FP.dmul (FP.i2d k) (4598175219545276416 : UInt64)))), .second, .val (.int ((4 : Int32) * r)), .val (.int (k * d))] [(.int (1 : Int32))]))
        refine own_ret X22 hlk (v := some (.int (1 : Int32))) (fun h => by rw [Bd.returns] at h; cases h) (fun fs hr => retN X22 hx (t := .boolean) Bd.returns (by simp) (hb hby at_204) hr) ?_ (by decide) (by decide)
        try rw [eq22]
        exact ⟨rfl, NF22⟩
set_option maxRecDepth 65536 in
set_option maxHeartbeats 40000000 in
theorem own_comes {Post : Tables → Env → Array Value → State → Outcome → State → Prop} (hpost : ∀ tb e args s v u, (limb_1_1.after args s (.returned v) u = true ∧ limb_1_2.after args s (.returned v) u = true ∧ True) → FrameEnd s (.returned v) u (Jvm.fieldLocs frame_1_writes args s ++ Jvm.arrayLocs frame_1_arrays args s ++ Jvm.staticLocs frame_1_statics s) 32 1024 → Post tb e args s (.returned v) u) :
    ArmFor flags0 classFile x code maxLocals ret World_1 tables_1 room_1 Calls_1 rest_1 Pre_1 Post := by
  intro l hfl _ _ p e ha hc hk s m args below hf hA hF happ hP
  obtain ⟨hcalls, hrest, hpre⟩ := hP
  obtain ⟨-, -, -, hnamed, -, -, -, hat⟩ := (Spec.applies_iff hf).mp happ
  obtain ⟨hg, hn⟩ := and_e (Cond.before_iff.mp (show (Jvm.Cond.and given_1 narrow_1).before args s = true from hpre))
  obtain ⟨hcount, hg⟩ := and_e hg
  obtain ⟨ha0, hg⟩ := and_e hg
  obtain ⟨ha1, hg⟩ := and_e hg
  obtain ⟨ha2, hg⟩ := and_e hg
  obtain ⟨w0, w1, w2, w3, rfl⟩ : ∃ w0 w1 w2 w3 : Value, args = #[w0, w1, w2, w3] := by
    have hs : args.size = 4 := by simpa [Cond.value, given_1] using hcount
    obtain ⟨L⟩ := args
    match L, hs with
    | [w0, w1, w2, w3], _ => exact ⟨w0, w1, w2, w3, rfl⟩
  have hw := fun d (hd : d ∈ tables_1) => atoms_spec (ws := Jvm.Cond.code x code maxLocals ret :: tables_1) hat d (List.mem_cons_of_mem _ hd)
  have hfit : Fit s := fun {y c} hc i hi => by
    obtain ⟨ha, rfl⟩ := Array.getElem?_eq_some_iff.mp hc
    have q := List.all_eq_true.mp ((Array.all_eq_true_iff_forall_mem.mp hF) _ (Array.getElem_mem ha)) i (List.mem_range.mpr hi)
    simpa [Array.getElem?_eq_getElem hi] using q
  obtain ⟨i0, ei0⟩ := is_v ha0
  obtain rfl : w0 = (.int i0) := Option.some.inj ei0
  obtain ⟨i1, ei1⟩ := is_v ha1
  obtain rfl : w1 = (.int i1) := Option.some.inj ei1
  obtain ⟨i2, ei2⟩ := is_v ha2
  obtain rfl : w2 = (.int i2) := Option.some.inj ei2
  obtain ⟨i3, ei3⟩ := is_v hg
  obtain rfl : w3 = (.int i3) := Option.some.inj ei3
  obtain ⟨n, o, h1, h2, h3, _, L, rfl, ⟨rfl, N⟩, hq⟩ := own_rm0 l s _ hw i0 i1 i2 i3 s.heap s.heap.size (Nat.le_refl _)  p e ha hc hk s m _ below hf ((Spec.applies_iff_loose hf).mp happ).1 ⟨rfl, State.Warmed39.refl s, rfl⟩ trivial
  refine ⟨n, _, h1, h2, h3, hpost _ _ _ _ _ _ ⟨Cond.after_iff.mpr rfl, Cond.after_iff.mpr (eq_i res_at (Term.int_eval (1)) rfl), trivial⟩ ⟨hq.1, hq.2.1, (hq.2.2.sift fun y hy => Or.inr (N y hy)).mono (by decide) (by decide)⟩⟩
theorem main_1_1 : Claimed_1_1 := own_comes fun _ _ _ _ _ _ h hF => ⟨h.1, hF⟩
theorem main_1_2 : Claimed_1_2 := own_comes fun _ _ _ _ _ _ h hF => ⟨h.2.1, hF⟩
end Jvm.Pilot.@@N@@
namespace Jvm.Pilot.@@N@@
open Jvm Jvm.ClassFile Sem Op Lib Jvm.Free Jvm.Stand Jvm.Pilot.@@N@@.Jvm.D
/-! MADE BY PROGRAM (witnessworld.py) out of the Statement's table words and the real class files: 21 classes; the members and pool entries that the words name. The judged class is class 1, her method 1. -/
namespace start1
open Jvm.ClassFile
def u (s : String) : CpInfo := .utf8 (stringToUtf16 s)
/-- a pool by its gaps: so many unusable entries, then the entry; so many at the end -/
def gap : Nat → List CpInfo → List CpInfo
  | 0, r => r
  | n + 1, r => .unusable :: gap n r
def poolList (es : List (Nat × CpInfo)) (last : Nat) : List CpInfo := es.foldr (fun e r => gap e.1 (e.2 :: r)) (gap last [])
def pool (es : List (Nat × CpInfo)) (last : Nat) : Array CpInfo := ⟨poolList es last⟩
def fileOf (pool : Array CpInfo) (this : Nat) (attrs : Array Attribute := #[]) (ms : Array MethodInfo := #[]) (fl : Nat := 33) (sup : Nat := 0) (ifs : Array Nat := #[]) (fds : Array FieldInfo := #[]) : ClassFile where
  minorVersion := 0
  majorVersion := 65
  constantPool := pool
  accessFlags := fl
  thisClass := this
  superClass := sup
  interfaces := ifs
  fields := fds
  methods := ms
  attributes := attrs
def plain (name : String) (sup : Option ClassId) : Class where
  name := name
  kind := .ordinary
  loader := none
  accessFlags := 33
  super := sup
  interfaces := #[]
  cf := none
  fields := #[]
  methods := #[]
  instanceTypes := #[]
  staticTypes := #[]
  resolved := #[]
  callSites := []
  init := .initialized
  statics := none
  mirror := none

def pool0 : Array CpInfo := pool [(5, u "<init>"), (0, u "()V"), (1, .class_ 10), (1, u "java/lang/Object")] 113

def k0c0 : Code := { maxStack := 0, maxLocals := 1, code := object_method_1_code, exceptionTable := #[], attributes := #[] }
def k0m0 : Method := { name := "<init>", desc := "()V", sig := { parameters := [], returnType := none }, accessFlags := 1, code := some k0c0 }
/-- java/lang/Object -/
def k0 : Class := { plain "java/lang/Object" none with
  accessFlags := 33
  interfaces := #[]
  cf := some (fileOf pool0 8 #[] #[{ accessFlags := 1, nameIndex := 5, descriptorIndex := 6, attributes := #[] }] 33 0 #[] #[])
  fields := #[]
  methods := #[k0m0]
  instanceTypes := #[]
  staticTypes := #[]
  resolved := Array.replicate 124 none
  statics := none }

def pool1 : Array CpInfo := pool [(2, .class_ 4), (1, u "java/lang/Object"), (0, u "<init>"), (0, u "()V"), (0, .integer 2147483647), (0, .class_ 9), (0, u "com/example/lissage/lissage/Index"), (0, .class_ 11), (0, u "java/lang/String"), (0, .methodref 8 13), (0, .nameAndType 5 14), (0, u "([Ljava/lang/String;[I[I[Ljava/lang/String;[I[I[I[I)V"), (0, .methodref 8 16), (0, .nameAndType 17 18), (0, u "averageLength"), (0, u "()D"), (0, .double 4598175219545276416), (1, .class_ 22), (0, u "com/example/lissage/lissage/IndexAverageLengthPinLaw"), (2, u "law"), (0, u "(IIII)Z")] 3

def k1m0 : Method := { name := "<init>", desc := "()V", sig := { parameters := [], returnType := none }, accessFlags := 2, code := none }
def k1c1 : Code := { maxStack := 10, maxLocals := 16, code := code, exceptionTable := #[], attributes := #[] }
def k1m1 : Method := { name := "law", desc := "(IIII)Z", sig := { parameters := [.int, .int, .int, .int], returnType := some .boolean }, accessFlags := 9, code := some k1c1 }
/-- com/example/lissage/lissage/IndexAverageLengthPinLaw -/
def k1 : Class := { plain "com/example/lissage/lissage/IndexAverageLengthPinLaw" (some 0) with
  accessFlags := 49
  interfaces := #[]
  cf := some (fileOf pool1 21 #[] #[{ accessFlags := 2, nameIndex := 5, descriptorIndex := 6, attributes := #[] }, { accessFlags := 9, nameIndex := 25, descriptorIndex := 26, attributes := #[] }] 49 2 #[] #[])
  fields := #[]
  methods := #[k1m0, k1m1]
  instanceTypes := #[]
  staticTypes := #[]
  resolved := Array.replicate 30 none
  statics := none }

def pool2 : Array CpInfo := pool [(1, .methodref 2 3), (0, .class_ 4), (0, .nameAndType 5 6), (0, u "java/lang/Object"), (0, u "<init>"), (0, u "()V"), (0, .fieldref 8 9), (0, .class_ 10), (0, .nameAndType 11 12), (0, u "com/example/lissage/lissage/Index"), (0, u "docnos"), (0, u "[Ljava/lang/String;"), (0, .fieldref 8 14), (0, .nameAndType 15 16), (0, u "documentStarts"), (0, u "[I"), (0, .fieldref 8 18), (0, .nameAndType 19 16), (0, u "documentTerms"), (0, .fieldref 8 21), (0, .nameAndType 22 12), (0, u "terms"), (0, .fieldref 8 24), (0, .nameAndType 25 16), (0, u "termStarts"), (0, .fieldref 8 27), (0, .nameAndType 28 16), (0, u "postingDocuments"), (0, .fieldref 8 30), (0, .nameAndType 31 16), (0, u "postingStarts"), (0, .fieldref 8 33), (0, .nameAndType 34 16), (0, u "positions"), (0, .class_ 36), (0, u "java/util/HashMap"), (0, .methodref 35 38), (0, .nameAndType 5 39), (0, u "(I)V"), (0, .fieldref 8 41), (0, .nameAndType 42 43), (0, u "termNumbers"), (0, u "Ljava/util/Map;"), (63, u "([Ljava/lang/String;[I[I[Ljava/lang/String;[I[I[I[I)V"), (13, u "averageLength"), (0, u "()D")] 13

def k2c0 : Code := { maxStack := 5, maxLocals := 10, code := prog_16_method_1_code, exceptionTable := #[], attributes := #[] }
def k2m0 : Method := { name := "<init>", desc := "([Ljava/lang/String;[I[I[Ljava/lang/String;[I[I[I[I)V", sig := { parameters := [(.array (.object "java/lang/String")), (.array .int), (.array .int), (.array (.object "java/lang/String")), (.array .int), (.array .int), (.array .int), (.array .int)], returnType := none }, accessFlags := 0, code := some k2c0 }
def k2c1 : Code := { maxStack := 4, maxLocals := 1, code := prog_16_method_6_code, exceptionTable := #[], attributes := #[] }
def k2m1 : Method := { name := "averageLength", desc := "()D", sig := { parameters := [], returnType := some .double }, accessFlags := 1, code := some k2c1 }
/-- com/example/lissage/lissage/Index -/
def k2 : Class := { plain "com/example/lissage/lissage/Index" (some 0) with
  accessFlags := 49
  interfaces := #[]
  cf := some (fileOf pool2 8 #[] #[{ accessFlags := 0, nameIndex := 5, descriptorIndex := 107, attributes := #[] }, { accessFlags := 1, nameIndex := 121, descriptorIndex := 122, attributes := #[] }] 49 2 #[] #[{ accessFlags := 16, nameIndex := 11, descriptorIndex := 12, attributes := #[] }, { accessFlags := 16, nameIndex := 15, descriptorIndex := 16, attributes := #[] }, { accessFlags := 16, nameIndex := 19, descriptorIndex := 16, attributes := #[] }, { accessFlags := 16, nameIndex := 22, descriptorIndex := 12, attributes := #[] }, { accessFlags := 16, nameIndex := 25, descriptorIndex := 16, attributes := #[] }, { accessFlags := 16, nameIndex := 28, descriptorIndex := 16, attributes := #[] }, { accessFlags := 16, nameIndex := 31, descriptorIndex := 16, attributes := #[] }, { accessFlags := 16, nameIndex := 34, descriptorIndex := 16, attributes := #[] }, { accessFlags := 18, nameIndex := 42, descriptorIndex := 43, attributes := #[] }])
  fields := #[{ name := "docnos", type := (.array (.object "java/lang/String")), accessFlags := 16, slot := 0, constantValue := 0 }, { name := "documentStarts", type := (.array .int), accessFlags := 16, slot := 1, constantValue := 0 }, { name := "documentTerms", type := (.array .int), accessFlags := 16, slot := 2, constantValue := 0 }, { name := "terms", type := (.array (.object "java/lang/String")), accessFlags := 16, slot := 3, constantValue := 0 }, { name := "termStarts", type := (.array .int), accessFlags := 16, slot := 4, constantValue := 0 }, { name := "postingDocuments", type := (.array .int), accessFlags := 16, slot := 5, constantValue := 0 }, { name := "postingStarts", type := (.array .int), accessFlags := 16, slot := 6, constantValue := 0 }, { name := "positions", type := (.array .int), accessFlags := 16, slot := 7, constantValue := 0 }, { name := "termNumbers", type := (.object "java/util/Map"), accessFlags := 18, slot := 8, constantValue := 0 }]
  methods := #[k2m0, k2m1]
  instanceTypes := #[(.array (.object "java/lang/String")), (.array .int), (.array .int), (.array (.object "java/lang/String")), (.array .int), (.array .int), (.array .int), (.array .int), (.object "java/util/Map")]
  staticTypes := #[]
  resolved := Array.replicate 136 none
  statics := none }

def pool3 : Array CpInfo := pool [(1, .class_ 2), (0, u "java/io/Serializable"), (0, .class_ 4), (0, u "java/lang/Object")] 2

/-- java/io/Serializable -/
def k3 : Class := { plain "java/io/Serializable" (some 0) with
  accessFlags := 1537
  interfaces := #[]
  cf := some (fileOf pool3 1 #[] #[] 1537 3 #[] #[])
  fields := #[]
  methods := #[]
  instanceTypes := #[]
  staticTypes := #[]
  resolved := Array.replicate 7 none
  statics := none }

def pool4 : Array CpInfo := pool [(1, .class_ 2), (0, u "java/lang/Comparable"), (0, .class_ 4), (0, u "java/lang/Object")] 7

/-- java/lang/Comparable -/
def k4 : Class := { plain "java/lang/Comparable" (some 0) with
  accessFlags := 1537
  interfaces := #[]
  cf := some (fileOf pool4 1 #[] #[] 1537 3 #[] #[])
  fields := #[]
  methods := #[]
  instanceTypes := #[]
  staticTypes := #[]
  resolved := Array.replicate 12 none
  statics := none }

def pool5 : Array CpInfo := pool [(2, .class_ 4), (1, u "java/lang/CharSequence"), (42, .class_ 48), (0, u "java/lang/CharSequence$1CodePointIterator"), (10, .class_ 60), (0, u "java/lang/CharSequence$1CharIterator"), (5, .class_ 67), (0, u "java/lang/Object")] 63

/-- java/lang/CharSequence -/
def k5 : Class := { plain "java/lang/CharSequence" (some 0) with
  accessFlags := 1537
  interfaces := #[]
  cf := some (fileOf pool5 2 #[.nestMembers #[47, 59]] #[] 1537 66 #[] #[])
  fields := #[]
  methods := #[]
  instanceTypes := #[]
  staticTypes := #[]
  resolved := Array.replicate 131 none
  statics := none }

def pool6 : Array CpInfo := pool [(1, .class_ 2), (0, u "java/lang/constant/Constable"), (0, .class_ 4), (0, u "java/lang/Object")] 6

/-- java/lang/constant/Constable -/
def k6 : Class := { plain "java/lang/constant/Constable" (some 0) with
  accessFlags := 1537
  interfaces := #[]
  cf := some (fileOf pool6 1 #[] #[] 1537 3 #[] #[])
  fields := #[]
  methods := #[]
  instanceTypes := #[]
  staticTypes := #[]
  resolved := Array.replicate 11 none
  statics := none }

def pool7 : Array CpInfo := pool [(1, .class_ 2), (0, u "java/lang/constant/ConstantDesc"), (0, .class_ 4), (0, u "java/lang/Object")] 32

/-- java/lang/constant/ConstantDesc -/
def k7 : Class := { plain "java/lang/constant/ConstantDesc" (some 0) with
  accessFlags := 1537
  interfaces := #[]
  cf := some (fileOf pool7 1 #[] #[] 1537 3 #[] #[])
  fields := #[]
  methods := #[]
  instanceTypes := #[]
  staticTypes := #[]
  resolved := Array.replicate 37 none
  statics := none }

def pool8 : Array CpInfo := pool [(2, .class_ 4), (1, u "java/lang/Object"), (0, u "<init>"), (0, u "()V"), (3, .class_ 12), (1, u "java/lang/String"), (0, u "value"), (0, u "[B"), (2, u "coder"), (0, u "B"), (2, u "hash"), (0, u "I"), (2, u "hashIsZero"), (0, u "Z"), (13, u "COMPACT_STRINGS"), (534, .class_ 576), (0, u "java/lang/CharSequence"), (22, u "CASE_INSENSITIVE_ORDER"), (0, u "Ljava/util/Comparator;"), (500, u "serialPersistentFields"), (0, u "[Ljava/io/ObjectStreamField;"), (0, .class_ 1104), (0, u "java/lang/String$CaseInsensitiveComparator"), (1, .class_ 1107), (0, u "java/io/Serializable"), (0, .class_ 1109), (0, u "java/lang/Comparable"), (0, .class_ 1111), (0, u "java/lang/constant/Constable"), (0, .class_ 1113), (0, u "java/lang/constant/ConstantDesc"), (2, u "serialVersionUID"), (0, u "J"), (3, u "REPL"), (0, u "C"), (2, u "LATIN1"), (1, u "UTF16")] 323

def k8m0 : Method := { name := "<init>", desc := "()V", sig := { parameters := [], returnType := none }, accessFlags := 1, code := none }
/-- java/lang/String -/
def k8 : Class := { plain "java/lang/String" (some 0) with
  accessFlags := 49
  interfaces := #[3, 4, 5, 6, 7]
  cf := some (fileOf pool8 10 #[.nestMembers #[1103]] #[{ accessFlags := 1, nameIndex := 5, descriptorIndex := 6, attributes := #[] }] 49 2 #[1106, 1108, 575, 1110, 1112] #[{ accessFlags := 18, nameIndex := 13, descriptorIndex := 14, attributes := #[] }, { accessFlags := 18, nameIndex := 17, descriptorIndex := 18, attributes := #[] }, { accessFlags := 2, nameIndex := 21, descriptorIndex := 22, attributes := #[] }, { accessFlags := 2, nameIndex := 25, descriptorIndex := 26, attributes := #[] }, { accessFlags := 26, nameIndex := 1116, descriptorIndex := 1117, attributes := #[] }, { accessFlags := 24, nameIndex := 40, descriptorIndex := 26, attributes := #[] }, { accessFlags := 26, nameIndex := 1101, descriptorIndex := 1102, attributes := #[] }, { accessFlags := 26, nameIndex := 1121, descriptorIndex := 1122, attributes := #[] }, { accessFlags := 25, nameIndex := 599, descriptorIndex := 600, attributes := #[] }, { accessFlags := 24, nameIndex := 1125, descriptorIndex := 18, attributes := #[] }, { accessFlags := 24, nameIndex := 1127, descriptorIndex := 18, attributes := #[] }])
  fields := #[{ name := "value", type := (.array .byte), accessFlags := 18, slot := 0, constantValue := 0 }, { name := "coder", type := .byte, accessFlags := 18, slot := 1, constantValue := 0 }, { name := "hash", type := .int, accessFlags := 2, slot := 2, constantValue := 0 }, { name := "hashIsZero", type := .boolean, accessFlags := 2, slot := 3, constantValue := 0 }, { name := "serialVersionUID", type := .long, accessFlags := 26, slot := 0, constantValue := 0 }, { name := "COMPACT_STRINGS", type := .boolean, accessFlags := 24, slot := 1, constantValue := 0 }, { name := "serialPersistentFields", type := (.array (.object "java/io/ObjectStreamField")), accessFlags := 26, slot := 2, constantValue := 0 }, { name := "REPL", type := .char, accessFlags := 26, slot := 3, constantValue := 0 }, { name := "CASE_INSENSITIVE_ORDER", type := (.object "java/util/Comparator"), accessFlags := 25, slot := 4, constantValue := 0 }, { name := "LATIN1", type := .byte, accessFlags := 24, slot := 5, constantValue := 0 }, { name := "UTF16", type := .byte, accessFlags := 24, slot := 6, constantValue := 0 }]
  methods := #[k8m0]
  instanceTypes := #[(.array .byte), .byte, .int, .boolean]
  staticTypes := #[.long, .boolean, (.array (.object "java/io/ObjectStreamField")), .char, (.object "java/util/Comparator"), .byte, .byte]
  resolved := Array.replicate 1451 none
  statics := none }

def pool9 : Array CpInfo := pool [(2, .class_ 4), (1, u "java/util/Map"), (31, .class_ 37), (0, u "java/util/Map$Entry"), (55, .class_ 94), (0, u "java/lang/Object")] 168

/-- java/util/Map -/
def k9 : Class := { plain "java/util/Map" (some 0) with
  accessFlags := 1537
  interfaces := #[]
  cf := some (fileOf pool9 2 #[.nestMembers #[36]] #[] 1537 93 #[] #[])
  fields := #[]
  methods := #[]
  instanceTypes := #[]
  staticTypes := #[]
  resolved := Array.replicate 263 none
  statics := none }

def pool10 : Array CpInfo := pool [(1, .methodref 2 3), (0, .class_ 4), (0, .nameAndType 5 6), (0, u "java/lang/Object"), (0, u "<init>"), (0, u "()V"), (1, .class_ 10), (1, u "java/util/AbstractMap"), (42, .class_ 54), (0, u "java/util/Map"), (9, u "keySet"), (0, u "Ljava/util/Set;"), (0, .class_ 67), (0, u "java/util/AbstractMap$1"), (5, u "values"), (0, u "Ljava/util/Collection;"), (0, .class_ 76), (0, u "java/util/AbstractMap$2"), (104, .class_ 182), (0, u "java/util/AbstractMap$ViewCollection"), (0, .class_ 184), (0, u "java/util/AbstractMap$SimpleImmutableEntry"), (0, .class_ 186), (0, u "java/util/AbstractMap$SimpleEntry"), (0, .class_ 188), (0, u "java/util/AbstractMap$2$1"), (0, .class_ 190), (0, u "java/util/AbstractMap$1$1")] 5

def k10c0 : Code := { maxStack := 1, maxLocals := 1, code := jdk_71_method_1_code, exceptionTable := #[], attributes := #[] }
def k10m0 : Method := { name := "<init>", desc := "()V", sig := { parameters := [], returnType := none }, accessFlags := 4, code := some k10c0 }
/-- java/util/AbstractMap -/
def k10 : Class := { plain "java/util/AbstractMap" (some 0) with
  accessFlags := 1057
  interfaces := #[9]
  cf := some (fileOf pool10 8 #[.nestMembers #[181, 183, 185, 75, 187, 66, 189]] #[{ accessFlags := 4, nameIndex := 5, descriptorIndex := 6, attributes := #[] }] 1057 2 #[53] #[{ accessFlags := 128, nameIndex := 64, descriptorIndex := 65, attributes := #[] }, { accessFlags := 128, nameIndex := 73, descriptorIndex := 74, attributes := #[] }])
  fields := #[{ name := "keySet", type := (.object "java/util/Set"), accessFlags := 128, slot := 0, constantValue := 0 }, { name := "values", type := (.object "java/util/Collection"), accessFlags := 128, slot := 1, constantValue := 0 }]
  methods := #[k10m0]
  instanceTypes := #[(.object "java/util/Set"), (.object "java/util/Collection")]
  staticTypes := #[]
  resolved := Array.replicate 196 none
  statics := none }

def pool11 : Array CpInfo := pool [(1, .class_ 2), (0, u "java/lang/Cloneable"), (0, .class_ 4), (0, u "java/lang/Object")] 2

/-- java/lang/Cloneable -/
def k11 : Class := { plain "java/lang/Cloneable" (some 0) with
  accessFlags := 1537
  interfaces := #[]
  cf := some (fileOf pool11 1 #[] #[] 1537 3 #[] #[])
  fields := #[]
  methods := #[]
  instanceTypes := #[]
  staticTypes := #[]
  resolved := Array.replicate 7 none
  statics := none }

def pool12 : Array CpInfo := pool [(34, .methodref 35 36), (0, .class_ 37), (0, .nameAndType 38 39), (0, u "java/lang/Integer"), (0, u "numberOfLeadingZeros"), (0, u "(I)I"), (0, .class_ 41), (0, u "java/util/HashMap"), (0, .integer 1073741824), (0, .methodref 44 45), (0, .class_ 46), (0, .nameAndType 47 48), (0, u "java/util/AbstractMap"), (0, u "<init>"), (0, u "()V"), (21, .methodref 71 72), (0, .class_ 73), (0, .nameAndType 74 75), (0, u "java/lang/Float"), (0, u "isNaN"), (0, u "(F)Z"), (5, .fieldref 40 82), (0, .nameAndType 83 84), (0, u "loadFactor"), (0, u "F"), (0, .methodref 40 86), (0, .nameAndType 87 39), (0, u "tableSizeFor"), (0, .fieldref 40 89), (0, .nameAndType 90 91), (0, u "threshold"), (0, u "I"), (0, .float 1061158912), (0, .methodref 40 94), (0, .nameAndType 47 95), (0, u "(IF)V"), (5, .class_ 103), (1, u "java/util/Map"), (0, u "size"), (2, u "table"), (0, u "[Ljava/util/HashMap$Node;"), (14, u "entrySet"), (39, .class_ 165), (1, u "java/util/HashMap$Node"), (14, .class_ 181), (0, u "java/util/HashMap$TreeNode"), (22, u "modCount"), (37, u "Ljava/util/Set;"), (0, .class_ 244), (0, u "java/util/HashMap$KeySet"), (18, .class_ 264), (0, u "java/util/HashMap$Values"), (3, .class_ 269), (0, u "java/util/HashMap$EntrySet"), (48, u "(I)V"), (27, .class_ 348), (1, u "java/util/HashMap$UnsafeHolder"), (43, .class_ 393), (0, u "java/lang/Cloneable"), (0, .class_ 395), (0, u "java/io/Serializable"), (0, u "serialVersionUID"), (0, u "J"), (3, u "DEFAULT_INITIAL_CAPACITY"), (1, u "MAXIMUM_CAPACITY"), (0, u "DEFAULT_LOAD_FACTOR"), (0, u "TREEIFY_THRESHOLD"), (1, u "UNTREEIFY_THRESHOLD"), (1, u "MIN_TREEIFY_CAPACITY"), (186, .class_ 597), (0, u "java/util/HashMap$EntrySpliterator"), (0, .class_ 599), (0, u "java/util/HashMap$ValueSpliterator"), (0, .class_ 601), (0, u "java/util/HashMap$KeySpliterator"), (0, .class_ 603), (0, u "java/util/HashMap$HashMapSpliterator"), (0, .class_ 605), (0, u "java/util/HashMap$EntryIterator"), (0, .class_ 607), (0, u "java/util/HashMap$ValueIterator"), (0, .class_ 609), (0, u "java/util/HashMap$KeyIterator"), (0, .class_ 611), (0, u "java/util/HashMap$HashIterator")] 17

def k12c0 : Code := { maxStack := 3, maxLocals := 2, code := jdk_69_method_4_code, exceptionTable := #[], attributes := #[] }
def k12m0 : Method := { name := "tableSizeFor", desc := "(I)I", sig := { parameters := [.int], returnType := some .int }, accessFlags := 24, code := some k12c0 }
def k12c1 : Code := { maxStack := 4, maxLocals := 3, code := jdk_69_method_5_code, exceptionTable := #[], attributes := #[] }
def k12m1 : Method := { name := "<init>", desc := "(IF)V", sig := { parameters := [.int, .float], returnType := none }, accessFlags := 1, code := some k12c1 }
def k12c2 : Code := { maxStack := 3, maxLocals := 2, code := jdk_69_method_6_code, exceptionTable := #[], attributes := #[] }
def k12m2 : Method := { name := "<init>", desc := "(I)V", sig := { parameters := [.int], returnType := none }, accessFlags := 1, code := some k12c2 }
def k12m3 : Method := { name := "<init>", desc := "()V", sig := { parameters := [], returnType := none }, accessFlags := 1, code := none }
/-- java/util/HashMap -/
def k12 : Class := { plain "java/util/HashMap" (some 10) with
  accessFlags := 33
  interfaces := #[9, 11, 3]
  cf := some (fileOf pool12 40 #[.nestMembers #[180, 596, 598, 600, 602, 604, 606, 608, 610, 346, 268, 263, 243, 163]] #[{ accessFlags := 24, nameIndex := 87, descriptorIndex := 39, attributes := #[] }, { accessFlags := 1, nameIndex := 47, descriptorIndex := 95, attributes := #[] }, { accessFlags := 1, nameIndex := 47, descriptorIndex := 318, attributes := #[] }, { accessFlags := 1, nameIndex := 47, descriptorIndex := 48, attributes := #[] }] 33 44 #[101, 392, 394] #[{ accessFlags := 26, nameIndex := 396, descriptorIndex := 397, attributes := #[] }, { accessFlags := 24, nameIndex := 401, descriptorIndex := 91, attributes := #[] }, { accessFlags := 24, nameIndex := 403, descriptorIndex := 91, attributes := #[] }, { accessFlags := 24, nameIndex := 404, descriptorIndex := 84, attributes := #[] }, { accessFlags := 24, nameIndex := 405, descriptorIndex := 91, attributes := #[] }, { accessFlags := 24, nameIndex := 407, descriptorIndex := 91, attributes := #[] }, { accessFlags := 24, nameIndex := 409, descriptorIndex := 91, attributes := #[] }, { accessFlags := 128, nameIndex := 107, descriptorIndex := 108, attributes := #[] }, { accessFlags := 128, nameIndex := 123, descriptorIndex := 242, attributes := #[] }, { accessFlags := 128, nameIndex := 104, descriptorIndex := 91, attributes := #[] }, { accessFlags := 128, nameIndex := 204, descriptorIndex := 91, attributes := #[] }, { accessFlags := 0, nameIndex := 90, descriptorIndex := 91, attributes := #[] }, { accessFlags := 16, nameIndex := 83, descriptorIndex := 84, attributes := #[] }])
  fields := #[{ name := "serialVersionUID", type := .long, accessFlags := 26, slot := 0, constantValue := 0 }, { name := "DEFAULT_INITIAL_CAPACITY", type := .int, accessFlags := 24, slot := 1, constantValue := 0 }, { name := "MAXIMUM_CAPACITY", type := .int, accessFlags := 24, slot := 2, constantValue := 0 }, { name := "DEFAULT_LOAD_FACTOR", type := .float, accessFlags := 24, slot := 3, constantValue := 0 }, { name := "TREEIFY_THRESHOLD", type := .int, accessFlags := 24, slot := 4, constantValue := 0 }, { name := "UNTREEIFY_THRESHOLD", type := .int, accessFlags := 24, slot := 5, constantValue := 0 }, { name := "MIN_TREEIFY_CAPACITY", type := .int, accessFlags := 24, slot := 6, constantValue := 0 }, { name := "table", type := (.array (.object "java/util/HashMap$Node")), accessFlags := 128, slot := 2, constantValue := 0 }, { name := "entrySet", type := (.object "java/util/Set"), accessFlags := 128, slot := 3, constantValue := 0 }, { name := "size", type := .int, accessFlags := 128, slot := 4, constantValue := 0 }, { name := "modCount", type := .int, accessFlags := 128, slot := 5, constantValue := 0 }, { name := "threshold", type := .int, accessFlags := 0, slot := 6, constantValue := 0 }, { name := "loadFactor", type := .float, accessFlags := 16, slot := 7, constantValue := 0 }]
  methods := #[k12m0, k12m1, k12m2, k12m3]
  instanceTypes := #[(.object "java/util/Set"), (.object "java/util/Collection"), (.array (.object "java/util/HashMap$Node")), (.object "java/util/Set"), .int, .int, .int, .float]
  staticTypes := #[.long, .int, .int, .float, .int, .int, .int]
  resolved := Array.replicate 629 none
  statics := none }

def pool13 : Array CpInfo := pool [(2, .class_ 4), (1, u "java/lang/Object"), (0, u "<init>"), (0, u "()V"), (1, .class_ 10), (1, u "java/lang/Number"), (2, .class_ 14), (0, u "java/io/Serializable"), (0, u "serialVersionUID"), (0, u "J")] 20

def k13m0 : Method := { name := "<init>", desc := "()V", sig := { parameters := [], returnType := none }, accessFlags := 1, code := none }
/-- java/lang/Number -/
def k13 : Class := { plain "java/lang/Number" (some 0) with
  accessFlags := 1057
  interfaces := #[3]
  cf := some (fileOf pool13 8 #[] #[{ accessFlags := 1, nameIndex := 5, descriptorIndex := 6, attributes := #[] }] 1057 2 #[13] #[{ accessFlags := 26, nameIndex := 15, descriptorIndex := 16, attributes := #[] }])
  fields := #[{ name := "serialVersionUID", type := .long, accessFlags := 26, slot := 0, constantValue := 0 }]
  methods := #[k13m0]
  instanceTypes := #[]
  staticTypes := #[.long]
  resolved := Array.replicate 37 none
  statics := none }

def pool14 : Array CpInfo := pool [(1, .class_ 2), (0, u "java/lang/Float"), (48, .class_ 53), (1, u "java/lang/Number"), (3, u "value"), (0, u "F"), (2, u "isNaN"), (0, u "(F)Z"), (28, u "$assertionsDisabled"), (0, u "Z"), (52, u "TYPE"), (0, u "Ljava/lang/Class;"), (0, .class_ 148), (0, u "java/lang/Comparable"), (0, .class_ 150), (0, u "java/lang/constant/Constable"), (0, .class_ 152), (0, u "java/lang/constant/ConstantDesc"), (0, u "POSITIVE_INFINITY"), (1, u "NEGATIVE_INFINITY"), (1, u "NaN"), (1, u "MAX_VALUE"), (0, u "MIN_NORMAL"), (0, u "MIN_VALUE"), (1, u "SIZE"), (0, u "I"), (1, u "PRECISION"), (1, u "MAX_EXPONENT"), (1, u "MIN_EXPONENT"), (1, u "BYTES"), (3, u "serialVersionUID"), (0, u "J")] 101

def k14c0 : Code := { maxStack := 2, maxLocals := 1, code := jdk_118_method_6_code, exceptionTable := #[], attributes := #[] }
def k14m0 : Method := { name := "isNaN", desc := "(F)Z", sig := { parameters := [.float], returnType := some .boolean }, accessFlags := 9, code := some k14c0 }
/-- java/lang/Float -/
def k14 : Class := { plain "java/lang/Float" (some 13) with
  accessFlags := 49
  interfaces := #[4, 6, 7]
  cf := some (fileOf pool14 1 #[] #[{ accessFlags := 9, nameIndex := 61, descriptorIndex := 62, attributes := #[] }] 49 51 #[147, 149, 151] #[{ accessFlags := 25, nameIndex := 153, descriptorIndex := 58, attributes := #[] }, { accessFlags := 25, nameIndex := 155, descriptorIndex := 58, attributes := #[] }, { accessFlags := 25, nameIndex := 157, descriptorIndex := 58, attributes := #[] }, { accessFlags := 25, nameIndex := 159, descriptorIndex := 58, attributes := #[] }, { accessFlags := 25, nameIndex := 160, descriptorIndex := 58, attributes := #[] }, { accessFlags := 25, nameIndex := 161, descriptorIndex := 58, attributes := #[] }, { accessFlags := 25, nameIndex := 163, descriptorIndex := 164, attributes := #[] }, { accessFlags := 25, nameIndex := 166, descriptorIndex := 164, attributes := #[] }, { accessFlags := 25, nameIndex := 168, descriptorIndex := 164, attributes := #[] }, { accessFlags := 25, nameIndex := 170, descriptorIndex := 164, attributes := #[] }, { accessFlags := 25, nameIndex := 172, descriptorIndex := 164, attributes := #[] }, { accessFlags := 25, nameIndex := 145, descriptorIndex := 146, attributes := #[] }, { accessFlags := 18, nameIndex := 57, descriptorIndex := 58, attributes := #[] }, { accessFlags := 26, nameIndex := 176, descriptorIndex := 177, attributes := #[] }, { accessFlags := 4120, nameIndex := 91, descriptorIndex := 92, attributes := #[] }])
  fields := #[{ name := "POSITIVE_INFINITY", type := .float, accessFlags := 25, slot := 0, constantValue := 0 }, { name := "NEGATIVE_INFINITY", type := .float, accessFlags := 25, slot := 1, constantValue := 0 }, { name := "NaN", type := .float, accessFlags := 25, slot := 2, constantValue := 0 }, { name := "MAX_VALUE", type := .float, accessFlags := 25, slot := 3, constantValue := 0 }, { name := "MIN_NORMAL", type := .float, accessFlags := 25, slot := 4, constantValue := 0 }, { name := "MIN_VALUE", type := .float, accessFlags := 25, slot := 5, constantValue := 0 }, { name := "SIZE", type := .int, accessFlags := 25, slot := 6, constantValue := 0 }, { name := "PRECISION", type := .int, accessFlags := 25, slot := 7, constantValue := 0 }, { name := "MAX_EXPONENT", type := .int, accessFlags := 25, slot := 8, constantValue := 0 }, { name := "MIN_EXPONENT", type := .int, accessFlags := 25, slot := 9, constantValue := 0 }, { name := "BYTES", type := .int, accessFlags := 25, slot := 10, constantValue := 0 }, { name := "TYPE", type := (.object "java/lang/Class"), accessFlags := 25, slot := 11, constantValue := 0 }, { name := "value", type := .float, accessFlags := 18, slot := 0, constantValue := 0 }, { name := "serialVersionUID", type := .long, accessFlags := 26, slot := 12, constantValue := 0 }, { name := "$assertionsDisabled", type := .boolean, accessFlags := 4120, slot := 13, constantValue := 0 }]
  methods := #[k14m0]
  instanceTypes := #[.float]
  staticTypes := #[.float, .float, .float, .float, .float, .float, .int, .int, .int, .int, .int, (.object "java/lang/Class"), .long, .boolean]
  resolved := Array.replicate 279 none
  statics := none }

def pool15 : Array CpInfo := pool [(1, .class_ 2), (0, u "java/lang/Integer"), (16, u "digits"), (0, u "[C"), (32, u "numberOfLeadingZeros"), (0, u "(I)I"), (30, u "DigitOnes"), (0, u "[B"), (2, u "DigitTens"), (99, .class_ 190), (0, u "java/lang/Integer$IntegerCache"), (3, u "I"), (8, .class_ 204), (0, u "java/lang/Number"), (2, u "value"), (94, u "TYPE"), (0, u "Ljava/lang/Class;"), (0, .class_ 305), (0, u "java/lang/Comparable"), (0, .class_ 307), (0, u "java/lang/constant/Constable"), (0, .class_ 309), (0, u "java/lang/constant/ConstantDesc"), (0, u "MIN_VALUE"), (1, u "MAX_VALUE"), (3, u "SIZE"), (1, u "BYTES"), (1, u "serialVersionUID"), (0, u "J")] 131

def k15c0 : Code := { maxStack := 3, maxLocals := 2, code := jdk_33_method_47_code, exceptionTable := #[], attributes := #[] }
def k15m0 : Method := { name := "numberOfLeadingZeros", desc := "(I)I", sig := { parameters := [.int], returnType := some .int }, accessFlags := 9, code := some k15c0 }
/-- java/lang/Integer -/
def k15 : Class := { plain "java/lang/Integer" (some 13) with
  accessFlags := 49
  interfaces := #[4, 6, 7]
  cf := some (fileOf pool15 1 #[.nestMembers #[189]] #[{ accessFlags := 9, nameIndex := 53, descriptorIndex := 54, attributes := #[] }] 49 203 #[304, 306, 308] #[{ accessFlags := 25, nameIndex := 310, descriptorIndex := 194, attributes := #[] }, { accessFlags := 25, nameIndex := 312, descriptorIndex := 194, attributes := #[] }, { accessFlags := 25, nameIndex := 302, descriptorIndex := 303, attributes := #[] }, { accessFlags := 24, nameIndex := 19, descriptorIndex := 20, attributes := #[] }, { accessFlags := 24, nameIndex := 89, descriptorIndex := 86, attributes := #[] }, { accessFlags := 24, nameIndex := 85, descriptorIndex := 86, attributes := #[] }, { accessFlags := 18, nameIndex := 207, descriptorIndex := 194, attributes := #[] }, { accessFlags := 25, nameIndex := 316, descriptorIndex := 194, attributes := #[] }, { accessFlags := 25, nameIndex := 318, descriptorIndex := 194, attributes := #[] }, { accessFlags := 26, nameIndex := 320, descriptorIndex := 321, attributes := #[] }])
  fields := #[{ name := "MIN_VALUE", type := .int, accessFlags := 25, slot := 0, constantValue := 0 }, { name := "MAX_VALUE", type := .int, accessFlags := 25, slot := 1, constantValue := 0 }, { name := "TYPE", type := (.object "java/lang/Class"), accessFlags := 25, slot := 2, constantValue := 0 }, { name := "digits", type := (.array .char), accessFlags := 24, slot := 3, constantValue := 0 }, { name := "DigitTens", type := (.array .byte), accessFlags := 24, slot := 4, constantValue := 0 }, { name := "DigitOnes", type := (.array .byte), accessFlags := 24, slot := 5, constantValue := 0 }, { name := "value", type := .int, accessFlags := 18, slot := 0, constantValue := 0 }, { name := "SIZE", type := .int, accessFlags := 25, slot := 6, constantValue := 0 }, { name := "BYTES", type := .int, accessFlags := 25, slot := 7, constantValue := 0 }, { name := "serialVersionUID", type := .long, accessFlags := 26, slot := 8, constantValue := 0 }]
  methods := #[k15m0]
  instanceTypes := #[.int]
  staticTypes := #[.int, .int, (.object "java/lang/Class"), (.array .char), (.array .byte), (.array .byte), .int, .int, .long]
  resolved := Array.replicate 453 none
  statics := none }

/-- the primitive byte -/
def k16 : Class := { plain "byte" none with kind := .primitive 'B', accessFlags := 0x411 }
/-- [B -/
def k17 : Class := { plain "[B" (some 0) with kind := .array 16 .byte, interfaces := #[11, 3], accessFlags := 1041 }

/-- the primitive int -/
def k18 : Class := { plain "int" none with kind := .primitive 'I', accessFlags := 0x411 }
/-- [I -/
def k19 : Class := { plain "[I" (some 0) with kind := .array 18 .int, interfaces := #[11, 3], accessFlags := 1041 }

/-- [Ljava/lang/String; -/
def k20 : Class := { plain "[Ljava/lang/String;" (some 0) with kind := .array 8 (.object "java/lang/String"), interfaces := #[11, 3], accessFlags := 1041 }

def heap : Heap := #[]
def classes : Array Class := #[k0, k1, k2, k3, k4, k5, k6, k7, k8, k9, k10, k11, k12, k13, k14, k15, k16, k17, k18, k19, k20]
def interned : List (Array UInt16 × Addr) := []
def slotsUsed : Nat := 0
def theMethod : MethodId := ⟨1, 1⟩
def args0 : Array Value := #[.int 5, .int 5, .int 5, .int 5]
def aboutOver (below : List Frame) : State where
  vm := { classes := classes, interned := interned.toArray }
  heap := heap
  slotsUsed := slotsUsed
  threads := #[{ frames := .invoking theMethod args0 :: below }]
def below0 : List Frame := [.native { method := ⟨0, 0⟩, args := #[] }]
def about1 : State := aboutOver below0
def p0 : Program := .bare "" "" ""
def e0 : Env := launch0.env 0 0 0
theorem w_frames : about1.frames = Frame.invoking theMethod args0 :: below0 := rfl
set_option maxRecDepth 65536 in
theorem w_args : argsFit about1.vm theMethod args0 = true := by decide +kernel
set_option maxRecDepth 65536 in
theorem w_heap : heapFits about1 = true := by decide +kernel
set_option maxRecDepth 65536 in
theorem w_runnable : about1.curStatus? = some .runnable := by decide +kernel
set_option maxRecDepth 65536 in
theorem w_alone : about1.alone = true := by decide +kernel
set_option maxRecDepth 65536 in
theorem w_named : about1.methodNamed? x = some theMethod := by decide +kernel
set_option maxRecDepth 65536 in
theorem w_hears : about1.hears theMethod below0 = true := by decide +kernel
set_option maxRecDepth 65536 in
theorem w_ripe : about1.ripe theMethod args0 below0 = true := by decide +kernel
theorem w_running : about1.status = .running := rfl
set_option maxRecDepth 65536 in
theorem w_room : about1.hasRoom e0.platform room_1 = true :=
  launch0.hasRoom_least _ room_1 (by decide +kernel) (by decide +kernel) (by decide +kernel) (by decide +kernel) (by decide +kernel) (by decide +kernel)
theorem allAtoms_all (ts : List Jvm.Cond) (a : Array Jvm.Value) (st : Jvm.State) : (allAtoms ts).before a st = ts.all (fun c => c.before a st) := by
  induction ts with
  | nil => rfl
  | cons c t ih =>
    show (Jvm.Cond.and c (allAtoms t)).before a st = _
    rw [Jvm.Cond.before_and, ih, List.all_cons]
def words1 : List Jvm.Cond := Jvm.Cond.code x code maxLocals ret :: tables_1
/-- a 'code' word, met by the world's own term for the bytes: nothing is compared byte by byte -/
theorem code_word {y : MethodName} {bytes : ByteArray} {mx : Nat} {rt : Option FieldType} {a : Array Value} {s : State} {m : MethodId} {meth : Method} {c : Code} (h1 : s.methodNamed? y = some m) (h2 : s.vm.method? m = some meth) (h3 : meth.code = some c) (h4 : c.code = bytes)
    (h5 : (c.maxLocals == mx && c.exceptionTable.isEmpty && decide (c.maxStack ≤ mostOperands) && decide (meth.sig.returnType = rt) && !meth.locks && decide (parseMethodDescriptor y.desc = some meth.sig)) = true) : (Jvm.Cond.code y bytes mx rt).before a s = true := by
  simp only [Bool.and_eq_true, beq_iff_eq, Bool.not_eq_true', decide_eq_true_eq] at h5
  obtain ⟨⟨⟨⟨⟨g1, g2⟩, g3⟩, g4⟩, g5⟩, g6⟩ := h5
  simp [Cond.before, Cond.holds, Cond.value, h1, h2, h3, h4, g1, g2, g3, g4, g5, g6]
def isCode : Jvm.Cond → Bool
  | .code _ _ _ _ => true
  | _ => false
theorem all_split {L : List Jvm.Cond} {P : Jvm.Cond → Bool} (h1 : L.all (fun c => isCode c || P c) = true) (h2 : ∀ c ∈ L.filter isCode, P c = true) : L.all P = true := by
  refine List.all_eq_true.mpr fun c hc => ?_
  have h := List.all_eq_true.mp h1 c hc
  rcases Bool.eq_false_or_eq_true (isCode c) with hi | hi
  · exact h2 c (List.mem_filter.mpr ⟨hc, hi⟩)
  · simpa [hi] using h
set_option maxRecDepth 65536 in
theorem w_c0 : (Jvm.Cond.code x code maxLocals ret).before args0 about1 = true := code_word (m := ⟨1, 1⟩) (meth := k1m1) (c := k1c1) (by decide +kernel) rfl rfl rfl (by decide +kernel)
set_option maxRecDepth 65536 in
theorem w_c1 : (Jvm.Cond.code ({ cls := "com/example/lissage/lissage/Index", name := "<init>", desc := "([Ljava/lang/String;[I[I[Ljava/lang/String;[I[I[I[I)V" } : Jvm.MethodName) prog_16_method_1_code (10 : Nat) (Option.none : Option Jvm.ClassFile.FieldType)).before args0 about1 = true := code_word (m := ⟨2, 0⟩) (meth := k2m0) (c := k2c0) (by decide +kernel) rfl rfl rfl (by decide +kernel)
set_option maxRecDepth 65536 in
theorem w_c2 : (Jvm.Cond.code ({ cls := "java/lang/Object", name := "<init>", desc := "()V" } : Jvm.MethodName) object_method_1_code (1 : Nat) (Option.none : Option Jvm.ClassFile.FieldType)).before args0 about1 = true := code_word (m := ⟨0, 0⟩) (meth := k0m0) (c := k0c0) (by decide +kernel) rfl rfl rfl (by decide +kernel)
set_option maxRecDepth 65536 in
theorem w_c3 : (Jvm.Cond.code ({ cls := "java/util/HashMap", name := "<init>", desc := "(I)V" } : Jvm.MethodName) jdk_69_method_6_code (2 : Nat) (Option.none : Option Jvm.ClassFile.FieldType)).before args0 about1 = true := code_word (m := ⟨12, 2⟩) (meth := k12m2) (c := k12c2) (by decide +kernel) rfl rfl rfl (by decide +kernel)
set_option maxRecDepth 65536 in
theorem w_c4 : (Jvm.Cond.code ({ cls := "java/util/HashMap", name := "<init>", desc := "(IF)V" } : Jvm.MethodName) jdk_69_method_5_code (3 : Nat) (Option.none : Option Jvm.ClassFile.FieldType)).before args0 about1 = true := code_word (m := ⟨12, 1⟩) (meth := k12m1) (c := k12c1) (by decide +kernel) rfl rfl rfl (by decide +kernel)
set_option maxRecDepth 65536 in
theorem w_c5 : (Jvm.Cond.code ({ cls := "java/util/AbstractMap", name := "<init>", desc := "()V" } : Jvm.MethodName) jdk_71_method_1_code (1 : Nat) (Option.none : Option Jvm.ClassFile.FieldType)).before args0 about1 = true := code_word (m := ⟨10, 0⟩) (meth := k10m0) (c := k10c0) (by decide +kernel) rfl rfl rfl (by decide +kernel)
set_option maxRecDepth 65536 in
theorem w_c6 : (Jvm.Cond.code ({ cls := "java/lang/Float", name := "isNaN", desc := "(F)Z" } : Jvm.MethodName) jdk_118_method_6_code (1 : Nat) (Option.some Jvm.ClassFile.FieldType.boolean)).before args0 about1 = true := code_word (m := ⟨14, 0⟩) (meth := k14m0) (c := k14c0) (by decide +kernel) rfl rfl rfl (by decide +kernel)
set_option maxRecDepth 65536 in
theorem w_c7 : (Jvm.Cond.code ({ cls := "java/util/HashMap", name := "tableSizeFor", desc := "(I)I" } : Jvm.MethodName) jdk_69_method_4_code (2 : Nat) (Option.some Jvm.ClassFile.FieldType.int)).before args0 about1 = true := code_word (m := ⟨12, 0⟩) (meth := k12m0) (c := k12c0) (by decide +kernel) rfl rfl rfl (by decide +kernel)
set_option maxRecDepth 65536 in
theorem w_c8 : (Jvm.Cond.code ({ cls := "java/lang/Integer", name := "numberOfLeadingZeros", desc := "(I)I" } : Jvm.MethodName) jdk_33_method_47_code (2 : Nat) (Option.some Jvm.ClassFile.FieldType.int)).before args0 about1 = true := code_word (m := ⟨15, 0⟩) (meth := k15m0) (c := k15c0) (by decide +kernel) rfl rfl rfl (by decide +kernel)
set_option maxRecDepth 65536 in
theorem w_c9 : (Jvm.Cond.code ({ cls := "com/example/lissage/lissage/Index", name := "averageLength", desc := "()D" } : Jvm.MethodName) prog_16_method_6_code (1 : Nat) (Option.some Jvm.ClassFile.FieldType.double)).before args0 about1 = true := code_word (m := ⟨2, 1⟩) (meth := k2m1) (c := k2c1) (by decide +kernel) rfl rfl rfl (by decide +kernel)
def codes1 : List Jvm.Cond := [Jvm.Cond.code x code maxLocals ret, Jvm.Cond.code ({ cls := "com/example/lissage/lissage/Index", name := "<init>", desc := "([Ljava/lang/String;[I[I[Ljava/lang/String;[I[I[I[I)V" } : Jvm.MethodName) prog_16_method_1_code (10 : Nat) (Option.none : Option Jvm.ClassFile.FieldType), Jvm.Cond.code ({ cls := "java/lang/Object", name := "<init>", desc := "()V" } : Jvm.MethodName) object_method_1_code (1 : Nat) (Option.none : Option Jvm.ClassFile.FieldType), Jvm.Cond.code ({ cls := "java/util/HashMap", name := "<init>", desc := "(I)V" } : Jvm.MethodName) jdk_69_method_6_code (2 : Nat) (Option.none : Option Jvm.ClassFile.FieldType), Jvm.Cond.code ({ cls := "java/util/HashMap", name := "<init>", desc := "(IF)V" } : Jvm.MethodName) jdk_69_method_5_code (3 : Nat) (Option.none : Option Jvm.ClassFile.FieldType), Jvm.Cond.code ({ cls := "java/util/AbstractMap", name := "<init>", desc := "()V" } : Jvm.MethodName) jdk_71_method_1_code (1 : Nat) (Option.none : Option Jvm.ClassFile.FieldType), Jvm.Cond.code ({ cls := "java/lang/Float", name := "isNaN", desc := "(F)Z" } : Jvm.MethodName) jdk_118_method_6_code (1 : Nat) (Option.some Jvm.ClassFile.FieldType.boolean), Jvm.Cond.code ({ cls := "java/util/HashMap", name := "tableSizeFor", desc := "(I)I" } : Jvm.MethodName) jdk_69_method_4_code (2 : Nat) (Option.some Jvm.ClassFile.FieldType.int), Jvm.Cond.code ({ cls := "java/lang/Integer", name := "numberOfLeadingZeros", desc := "(I)I" } : Jvm.MethodName) jdk_33_method_47_code (2 : Nat) (Option.some Jvm.ClassFile.FieldType.int), Jvm.Cond.code ({ cls := "com/example/lissage/lissage/Index", name := "averageLength", desc := "()D" } : Jvm.MethodName) prog_16_method_6_code (1 : Nat) (Option.some Jvm.ClassFile.FieldType.double)]
set_option maxRecDepth 65536 in
theorem codes_eq : words1.filter isCode = codes1 := rfl
theorem w_codes : ∀ c ∈ words1.filter isCode, c.before args0 about1 = true := by
  rw [codes_eq]
  intro c hc
  simp only [codes1, List.mem_cons, List.not_mem_nil, or_false] at hc
  rcases hc with rfl | rfl | rfl | rfl | rfl | rfl | rfl | rfl | rfl | rfl
  · exact w_c0
  · exact w_c1
  · exact w_c2
  · exact w_c3
  · exact w_c4
  · exact w_c5
  · exact w_c6
  · exact w_c7
  · exact w_c8
  · exact w_c9
set_option maxRecDepth 65536 in
theorem w_t1 : (words1.take 24).all (fun c => isCode c || c.before args0 about1) = true := by decide +kernel
set_option maxRecDepth 65536 in
theorem w_t2 : ((words1.drop 24).take 24).all (fun c => isCode c || c.before args0 about1) = true := by decide +kernel
set_option maxRecDepth 65536 in
theorem w_t3 : ((words1.drop 24).drop 24).all (fun c => isCode c || c.before args0 about1) = true := by decide +kernel
theorem w_tables : (allAtoms (Jvm.Cond.code x code maxLocals ret :: tables_1)).before args0 about1 = true := by
  rw [allAtoms_all]
  show words1.all (fun c => c.before args0 about1) = true
  refine all_split ?_ w_codes
  rw [← List.take_append_drop 24 words1, List.all_append, w_t1, ← List.take_append_drop 24 (words1.drop 24), List.all_append, w_t2, w_t3]
  rfl
set_option maxRecDepth 65536 in
theorem w_case : (Jvm.Cond.and given_1 narrow_1).before args0 about1 = true := by decide +kernel
theorem w_applies : (headSpec (Jvm.Cond.code x code maxLocals ret :: tables_1) room_1).applies x e0.platform about1 = true :=
  (Spec.applies_iff w_frames).mpr ⟨w_running, w_runnable, w_alone, w_named, w_hears, w_ripe, w_room, w_tables⟩
theorem atStart : AtStart classFile x code maxLocals ret World_1 tables_1 room_1 Calls_1 rest_1 Pre_1 launch0 p0 e0 about1 theMethod args0 below0 :=
  ⟨lists_1, trivial, launch0.admits_env _ _ _, launch0.least_env, fairChoices_fair.cas, fairChoices_fair.clock, w_frames, w_args, w_heap, w_applies, trivial, trivial, w_case⟩
end start1
theorem witness_1 : WitnessClaimed_1 := ⟨start1.p0, start1.e0, start1.about1, start1.theMethod, start1.args0, start1.below0, start1.atStart⟩
end Jvm.Pilot.@@N@@
