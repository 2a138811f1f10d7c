import JvmDerived
import JvmDerived.Pilot.@@N@@Statement
import JvmDerived.Pilot.@@N@@Code
set_option linter.unusedVariables false
set_option linter.unusedSimpArgs false

namespace Jvm.Pilot.@@N@@
open Jvm Jvm.ClassFile Sem Op Lib Jvm.Free Jvm.Stand Jvm.LawKit Jvm.RoadKit Bundle Jvm.Pilot.@@N@@.Jvm.D
/-- the run from A comes to a state of which P holds -/
def own_Go (tb : Tables) (e : Env) (below : List Frame) (P : State → Prop) (A : State) : Prop := ∃ U, Steps tb e below A U ∧ P U
theorem own_go {tb : Tables} {e : Env} {below : List Frame} {P : State → Prop} {A B : State} (h : ∀ t, Steps tb e below B t → Steps tb e below A t) (k : own_Go tb e below P B) : own_Go tb e below P A := by
  obtain ⟨U, h1, h2⟩ := k; exact ⟨U, h U h1, h2⟩
theorem own_goT {tb : Tables} {e : Env} {below : List Frame} {P : State → Prop} {A B : State} (h : Steps tb e below A B) (k : own_Go tb e below P B) : own_Go tb e below P A := by
  obtain ⟨U, h1, h2⟩ := k; exact ⟨U, h.trans h1, h2⟩
/-- the body's end: it returned, and Q says of what -/
def own_End (s : State) (below : List Frame) (Q : Option Value → Heap → List Loc → Prop) (cells slots : Nat) (t : State) : Prop := ∃ o, t.status = .running ∧ Ended t below o ∧ ∃ v L, o = .returned v ∧ Q v t.heap L ∧ FrameEnd s o t L cells slots
theorem own_body {tb : Tables} {e : Env} {below : List Frame} {s A : State} {Q : Option Value → Heap → List Loc → Prop} {cells slots : Nat} (k : own_Go tb e below (own_End s below Q cells slots) A) :
    ∃ s₂ o, Steps tb e below A s₂ ∧ s₂.status = .running ∧ Ended s₂ below o ∧ ∃ v L, o = .returned v ∧ Q v s₂.heap L ∧ FrameEnd s o s₂ L cells slots := by
  obtain ⟨U, h1, o, h2, h3, h4⟩ := k; exact ⟨U, o, h1, h2, h3, h4⟩
theorem own_ret {p : Program} {l : Launch} {e : Env} {R : Room} {s : State} {m : MethodId} {args : Array Value} {below : List Frame} {meth : Method} {c : Code} {T A : State} {locs : List Loc} {cells slots : Nat} {Q : Option Value → Heap → List Loc → Prop} {cs ss : Nat}
    (X : Stand p l e R s m args below meth c T locs cells slots) (hlk : meth.locks = false) {v : Option Value} (hv : meth.sig.returnType = none → v = none)
    (hst : ∀ fs : List Frame, (∀ (f : JFrame) (acts : List Action), f.method = m → f.locked = none → f.entered = [] → (doReturn e (T.setTop f) acts v).1 = T.setFrames fs) → Steps p.tables e below A (T.setFrames fs))
    (hQ : Q v T.heap locs) (hc : cells ≤ cs) (hs : slots ≤ ss) : own_Go p.tables e below (own_End s below Q cs ss) A := by
  obtain ⟨fs, hr, hrun, hended, hW, hsame⟩ := X.leave (v := v) hv hlk
  exact ⟨_, hst fs hr, _, hrun, hended, _, _, rfl, hQ, ⟨_, rfl⟩, hW, hsame.mono hc hs⟩
theorem own_ef (m : MethodId) (as : Array Value) (n : Nat) (Ls : Array Slot) (h : argsToLocals as n = Ls) : entryFrame m as n = mkF m 0 Ls [] := by rw [← h]; rfl
/-- a body's contract in this family -/
abbrev own_Met (l : Launch) (Z : State) (ws : List Jvm.Cond) (y : MethodName) (bytes : ByteArray) (maxL : Nat) (ret : Option FieldType) (rm : Room) (as : Array Value) (h0 : Heap) (Q : Option Value → Heap → List Loc → Prop) : Prop :=
  MetFree l y (head1 (Jvm.Cond.code y bytes maxL ret :: ws) rm) (fun a U => a = as ∧ Z.Warmed39 U.vm ∧ U.heap = h0) (fun _ _ _ _ _ => True) (fun _ U o U' => ∃ v L, o = .returned v ∧ Q v U'.heap L ∧ FrameEnd U o U' L rm.cells rm.slots)
theorem own_sta_keep {Z : State} {h h' : Heap} {C n d : String} {v : Value} {ws : List Addr} (F : Sta Z h C n d v) (K : Keep h h' ws) (q : ∀ a ∈ ws, ∃ C', Exa Z h a C') : Sta Z h' C n d v := by
  obtain ⟨cf, i, k, f, st, cell, h1, h2, h3, h4, h5, h6, h7⟩ := F
  refine ⟨cf, i, k, f, st, cell, h1, h2, h3, h4, K.2.1 st cell h5 fun hm => ?_, h6, h7⟩
  obtain ⟨C', cell', k', e1, -, -, e4, -⟩ := q st hm
  cases h5.symm.trans e1
  rw [e4] at h6; cases h6
theorem own_back {p : Program} {l : Launch} {e : Env} {R : Room} {s : State} {args : Array Value} {below : List Frame} {Z : State} {a0 : Array Value} {h : Heap} {y : MethodName} {bytes : ByteArray} {maxL : Nat} {ret : Option FieldType} {rm : Room} {len W : Nat} {as' : Array Value} {Q : Option Value → Heap → List Loc → Prop}
    (hM : own_Met l Z [] y bytes maxL ret rm as' h Q) (hZ : Z.Warmed39 s.vm) (wc : (Cond.code y bytes maxL ret).before a0 Z = true) (wz : (Cond.initialized y.cls).before a0 Z = true) (hf : rm.frames + 1 ≤ R.frames) (hl : W + (maxL + 11) + rm.locals ≤ R.locals) :
    Back l R p e below s args y len W (fun A a => a = as' ∧ A.U.heap = h ∧ A.cells + rm.cells ≤ R.cells ∧ A.slots + rm.slots ≤ R.slots)
      (fun A _ v B => ∃ L, Q v B.U.heap L ∧ B.locs = A.locs ++ L ∧ B.cells = A.cells + rm.cells ∧ B.slots = A.slots + rm.slots) :=
  backOf (Q := Q) hM hZ wc wz hf hl
theorem own_hp {T : State} {h : Heap} {a : Addr} {cl : Cell} (eT : T.heap = h) (h1 : h[a]? = some cl) : T.heap[a]? = some cl := by rw [eT]; exact h1
def own_asl : List Value → List Slot
  | [] => []
  | v :: r => if v.category = 2 then .val v :: .second :: own_asl r else .val v :: own_asl r
def own_apu (acc : Array Slot) (v : Value) : Array Slot := if v.category = 2 then (acc.push (.val v)).push .second else acc.push (.val v)
theorem own_al1 (l : List Value) (a : Array Slot) : (l.foldl own_apu a).toList = a.toList ++ own_asl l := by
  induction l generalizing a with
  | nil => simp [own_asl]
  | cons v r ih =>
    rw [List.foldl_cons, ih]
    by_cases h : v.category = 2 <;> simp [own_asl, own_apu, h]
theorem own_al (l : List Value) (n : Nat) (L : List Slot) (h : own_asl l ++ List.replicate (n - (own_asl l).length) .unset = L) : argsToLocals l.toArray n = L.toArray := by
  have q : argsToLocals l.toArray n = l.foldl own_apu #[] ++ Array.replicate (n - (l.foldl own_apu #[]).size) .unset := by
    rw [← List.foldl_toArray]; rfl
  have k := own_al1 l #[]
  rw [q, ← h]
  apply Array.toList_inj.mp
  rw [Array.toList_append, k, ← Array.length_toList, k]; simp

def own_P (a b c d i : Int32) : Int32 := if i = 0 then 0 else if i = 1 then a else if i = 2 then a + b else if i = 3 then a + b + c else a + b + c + d
def own_acc (lo hi i : Int32) (x : Int64) (v : Int32) : Int64 := if ¬ i < lo ∧ i < hi then x + v.toInt64 else x
def own_min (p q : Int32) : Int32 := if q < p then q else p
def own_max (p q : Int32) : Int32 := if p < q then q else p
theorem own_mask (x : Int32) : 0 ≤ (x &&& 536870911).toInt ∧ (x &&& 536870911).toInt < 536870912 := by
  have h := c_mask x 536870911 29 (by decide) (by decide); omega
theorem own_m5 (x : Int32) : 0 ≤ ((x &&& 2147483647) % 5).toInt ∧ ((x &&& 2147483647) % 5).toInt < 5 := by
  have h := c_mask x 2147483647 31 (by decide) (by decide)
  have h2 := (c_irem (x &&& 2147483647) 5 5 rfl).1 (by omega); omega
theorem own_mm {s t : Int32} (h1 : 0 ≤ s.toInt) (h2 : s.toInt < 5) (h3 : 0 ≤ t.toInt) (h4 : t.toInt < 5) : 0 ≤ (own_min s t).toInt ∧ (own_min s t).toInt ≤ (own_max s t).toInt ∧ (own_max s t).toInt < 5 := by
  unfold own_min own_max
  simp only [Int32.lt_iff_toInt_lt]
  split <;> split <;> omega
theorem own_five {i : Int32} (h1 : 0 ≤ i.toInt) (h2 : i.toInt < 5) : i = 0 ∨ i = 1 ∨ i = 2 ∨ i = 3 ∨ i = 4 := by
  have e0 : (0 : Int32).toInt = 0 := rfl
  have e1 : (1 : Int32).toInt = 1 := rfl
  have e2 : (2 : Int32).toInt = 2 := rfl
  have e3 : (3 : Int32).toInt = 3 := rfl
  have e4 : (4 : Int32).toInt = 4 := rfl
  simp only [← Int32.toInt_inj, e0, e1, e2, e3, e4]; omega
theorem own_inb {i : Int32} (h1 : 0 ≤ i.toInt) (h2 : i.toInt < 5) : ¬ i < 0 ∧ i < 5 := by
  rcases own_five h1 h2 with rfl | rfl | rfl | rfl | rfl <;> decide
theorem own_get {a b c d i : Int32} (h1 : 0 ≤ i.toInt) (h2 : i.toInt < 5) : ([(.int 0), (.int a), (.int (a + b)), (.int (a + b + c)), (.int (a + b + c + d))] : List Value).getD i.toNatClampNeg (.int 0) = .int (own_P a b c d i) := by
  rcases own_five h1 h2 with rfl | rfl | rfl | rfl | rfl <;> rfl
theorem own_accI {lo hi i v : Int32} {x : Int64} (h1 : 0 ≤ x.toInt) (h2 : x.toInt < 4000000000) (h3 : 0 ≤ v.toInt) : (own_acc lo hi i x v).toInt = x.toInt + (if ¬ i < lo ∧ i < hi then v.toInt else 0) := by
  unfold own_acc
  have r := rng32 v
  split
  · have a := c_ladd x v.toInt64; have b := rng64 (x + v.toInt64); rw [c_i2l] at a; omega
  · omega
theorem own_fin {a b c d lo hi : Int32} (a1 : 0 ≤ a.toInt) (a2 : a.toInt < 536870912) (b1 : 0 ≤ b.toInt) (b2 : b.toInt < 536870912) (c1 : 0 ≤ c.toInt) (c2 : c.toInt < 536870912) (d1 : 0 ≤ d.toInt) (d2 : d.toInt < 536870912)
    (l1 : 0 ≤ lo.toInt) (l2 : lo.toInt ≤ hi.toInt) (l3 : hi.toInt < 5) : (own_P a b c d hi - own_P a b c d lo).toInt64 = own_acc lo hi 3 (own_acc lo hi 2 (own_acc lo hi 1 (own_acc lo hi 0 0 a) b) c) d := by
  apply Int64.toInt_inj.mp
  have z0 : (0 : Int64).toInt = 0 := rfl
  have A1 := own_accI (lo := lo) (hi := hi) (i := 0) (v := a) (x := 0) (by omega) (by omega) a1
  generalize hx1 : own_acc lo hi 0 0 a = x1 at A1 ⊢
  have B1 : 0 ≤ x1.toInt ∧ x1.toInt < 600000000 := by rw [A1]; split <;> omega
  have A2 := own_accI (lo := lo) (hi := hi) (i := 1) (v := b) (x := x1) (by omega) (by omega) b1
  generalize hx2 : own_acc lo hi 1 x1 b = x2 at A2 ⊢
  have B2 : 0 ≤ x2.toInt ∧ x2.toInt < 1200000000 := by rw [A2]; split <;> omega
  have A3 := own_accI (lo := lo) (hi := hi) (i := 2) (v := c) (x := x2) (by omega) (by omega) c1
  generalize hx3 : own_acc lo hi 2 x2 c = x3 at A3 ⊢
  have B3 : 0 ≤ x3.toInt ∧ x3.toInt < 1800000000 := by rw [A3]; split <;> omega
  have A4 := own_accI (lo := lo) (hi := hi) (i := 3) (v := d) (x := x3) (by omega) (by omega) d1
  rw [A4, A3, A2, A1, z0, c_i2l]
  have s1 := c_iadd a b; have r1 := rng32 (a + b)
  have s2 := c_iadd (a + b) c; have r2 := rng32 (a + b + c)
  have s3 := c_iadd (a + b + c) d; have r3 := rng32 (a + b + c + d)
  have t := c_isub (own_P a b c d hi) (own_P a b c d lo); have rt := rng32 (own_P a b c d hi - own_P a b c d lo)
  have e0 : (0 : Int32).toInt = 0 := rfl
  have e1 : (1 : Int32).toInt = 1 := rfl
  have e2 : (2 : Int32).toInt = 2 := rfl
  have e3 : (3 : Int32).toInt = 3 := rfl
  have e4 : (4 : Int32).toInt = 4 := rfl
  have P0 : own_P a b c d 0 = 0 := rfl
  have P1 : own_P a b c d 1 = a := rfl
  have P2 : own_P a b c d 2 = a + b := rfl
  have P3 : own_P a b c d 3 = a + b + c := rfl
  have P4 : own_P a b c d 4 = a + b + c + d := rfl
  rcases own_five l1 (by omega) with rfl | rfl | rfl | rfl | rfl <;> rcases own_five (by omega) l3 with rfl | rfl | rfl | rfl | rfl <;>
    simp only [Int32.lt_iff_toInt_lt, P0, P1, P2, P3, P4, e0, e1, e2, e3, e4] at * <;> simp at * <;> omega
theorem own_d1_0 : decode jdk_29_method_69_code 0 = .ok (.iload_n 0, 1) := by decide +kernel
theorem own_d1_1 : decode jdk_29_method_69_code 1 = .ok (.iload_n 1, 1) := by decide +kernel
theorem own_d1_2 : decode jdk_29_method_69_code 2 = .ok (.if_icmp .gt 7, 3) := by decide +kernel
theorem own_d1_5 : decode jdk_29_method_69_code 5 = .ok (.iload_n 0, 1) := by decide +kernel
theorem own_d1_6 : decode jdk_29_method_69_code 6 = .ok (.goto 4, 3) := by decide +kernel
theorem own_d1_9 : decode jdk_29_method_69_code 9 = .ok (.iload_n 1, 1) := by decide +kernel
theorem own_d1_10 : decode jdk_29_method_69_code 10 = .ok (.ireturn, 1) := by decide +kernel
set_option maxRecDepth 65536 in
set_option maxHeartbeats 40000000 in
theorem own_rmMin (l : Launch) (Z : State) (a0 : Array Value) (hw : ∀ d ∈ tables_1, d.before a0 Z = true) (x1 : Int32) (x2 : Int32) (h0 : Heap) (n0 : Nat) (Z0 : n0 ≤ h0.size)  :
    own_Met l Z [] (⟨"java/lang/Math", "min", "(II)I"⟩ : MethodName) jdk_29_method_69_code 2 (some .int) ({ frames := 0, cells := 0, slots := 0, locals := 0 } : Room) #[(.int x1), (.int x2)] h0 (fun v h L => v = some (.int (own_min x1 x2)) ∧ Fr n0 L ∧ h = h0) := by
  refine MetFree.of_bodySF (Jvm.Free.JP.mathPlain rfl (by decide +kernel)) hisR ?_
  intro p e s m args below meth c s₁ Bd hml0 hP hK
  obtain ⟨rfl, hZ, hh⟩ := hP
  have hx := Bd.exec
  have hby := Bd.bytes
  have hml : c.maxLocals = 2 := hml0
  have hown : s.vm.findClass "java/lang/Math" = some m.cls := findClass_of_methodNamed Bd.named
  have hnm := (name_of_methodNamed Bd.named Bd.method).1
  have hlk : meth.locks = false := Bd.notSynchronized
  have X0 : Stand p l e ({ frames := 0, cells := 0, slots := 0, locals := 0 } : Room) s m #[(.int x1), (.int x2)] below meth c s₁ [] 0 0 := Stand.of_body Bd
  have e0 : s₁.heap = h0 := by rw [← hh, Bd.state]; rfl
  have N0 := Fr.nil n0
  refine own_body (Q := fun v h L => v = some (.int (own_min x1 x2)) ∧ Fr n0 L ∧ h = h0) ?_
  refine own_go (fun _ kont => castTop (own_ef m #[(.int x1), (.int x2)] 2 #[.val (.int x1), .val (.int x2)] (own_al [(.int x1), (.int x2)] 2 [.val (.int x1), .val (.int x2)] rfl)) kont) ?_
  show own_Go _ _ _ _ (s₁.setTop (mkF m 0 #[.val (.int x1), .val (.int x2)] []))
  refine own_go (fun _ kont => XS.iloadN X0.here hx rfl (hb hby own_d1_0) rfl kont) ?_
  show own_Go _ _ _ _ (s₁.setTop (mkF m 1 #[.val (.int x1), .val (.int x2)] [(.int x1)]))
  refine own_go (fun _ kont => XS.iloadN X0.here hx rfl (hb hby own_d1_1) rfl kont) ?_
  show own_Go _ _ _ _ (s₁.setTop (mkF m 2 #[.val (.int x1), .val (.int x2)] [(.int x2), (.int x1)]))
  by_cases hc : x2 < x1
  · have _h := hc
    refine own_go (fun _ kont => XS.icmpYes X0.here hx rfl (pc0 := 2) (pc' := 9) rfl (hb hby own_d1_2) rfl (tlt hc).2.2.1 (by decide) (by decide) kont) ?_
    show own_Go _ _ _ _ (s₁.setTop (mkF m 9 #[.val (.int x1), .val (.int x2)] []))
    refine own_go (fun _ kont => XS.iloadN X0.here hx rfl (hb hby own_d1_9) rfl kont) ?_
    show own_Go _ _ _ _ (s₁.setTop (mkF m 10 #[.val (.int x1), .val (.int x2)] [(.int x2)]))
    refine own_ret X0 hlk (v := some (.int x2)) (fun h => by rw [Bd.returns] at h; cases h) (fun fs hr => retOut X0 hx Bd.returns rfl (Or.inl ⟨rfl, Or.inl rfl, _, rfl⟩) (hb hby own_d1_10) hr) ?_ (by decide) (by decide)
    try rw [e0]
    exact ⟨by simp [own_min, hc], N0, rfl⟩
  · have _h := hc
    refine own_go (fun _ kont => XS.icmpNo X0.here hx rfl (hb hby own_d1_2) rfl (flt hc).2.2.1 kont) ?_
    show own_Go _ _ _ _ (s₁.setTop (mkF m 5 #[.val (.int x1), .val (.int x2)] []))
    refine own_go (fun _ kont => XS.iloadN X0.here hx rfl (hb hby own_d1_5) rfl kont) ?_
    show own_Go _ _ _ _ (s₁.setTop (mkF m 6 #[.val (.int x1), .val (.int x2)] [(.int x1)]))
    refine own_go (fun _ kont => XS.goto X0.here hx rfl (pc0 := 6) (pc' := 10) rfl (hb hby own_d1_6) (by decide) (by decide) kont) ?_
    show own_Go _ _ _ _ (s₁.setTop (mkF m 10 #[.val (.int x1), .val (.int x2)] [(.int x1)]))
    refine own_ret X0 hlk (v := some (.int x1)) (fun h => by rw [Bd.returns] at h; cases h) (fun fs hr => retOut X0 hx Bd.returns rfl (Or.inl ⟨rfl, Or.inl rfl, _, rfl⟩) (hb hby own_d1_10) hr) ?_ (by decide) (by decide)
    try rw [e0]
    exact ⟨by simp [own_min, hc], N0, rfl⟩
theorem own_d2_0 : decode jdk_29_method_65_code 0 = .ok (.iload_n 0, 1) := by decide +kernel
theorem own_d2_1 : decode jdk_29_method_65_code 1 = .ok (.iload_n 1, 1) := by decide +kernel
theorem own_d2_2 : decode jdk_29_method_65_code 2 = .ok (.if_icmp .lt 7, 3) := by decide +kernel
theorem own_d2_5 : decode jdk_29_method_65_code 5 = .ok (.iload_n 0, 1) := by decide +kernel
theorem own_d2_6 : decode jdk_29_method_65_code 6 = .ok (.goto 4, 3) := by decide +kernel
theorem own_d2_9 : decode jdk_29_method_65_code 9 = .ok (.iload_n 1, 1) := by decide +kernel
theorem own_d2_10 : decode jdk_29_method_65_code 10 = .ok (.ireturn, 1) := by decide +kernel
set_option maxRecDepth 65536 in
set_option maxHeartbeats 40000000 in
theorem own_rmMax (l : Launch) (Z : State) (a0 : Array Value) (hw : ∀ d ∈ tables_1, d.before a0 Z = true) (x1 : Int32) (x2 : Int32) (h0 : Heap) (n0 : Nat) (Z0 : n0 ≤ h0.size)  :
    own_Met l Z [] (⟨"java/lang/Math", "max", "(II)I"⟩ : MethodName) jdk_29_method_65_code 2 (some .int) ({ frames := 0, cells := 0, slots := 0, locals := 0 } : Room) #[(.int x1), (.int x2)] h0 (fun v h L => v = some (.int (own_max x1 x2)) ∧ Fr n0 L ∧ h = h0) := by
  refine MetFree.of_bodySF (Jvm.Free.JP.mathPlain rfl (by decide +kernel)) hisR ?_
  intro p e s m args below meth c s₁ Bd hml0 hP hK
  obtain ⟨rfl, hZ, hh⟩ := hP
  have hx := Bd.exec
  have hby := Bd.bytes
  have hml : c.maxLocals = 2 := hml0
  have hown : s.vm.findClass "java/lang/Math" = some m.cls := findClass_of_methodNamed Bd.named
  have hnm := (name_of_methodNamed Bd.named Bd.method).1
  have hlk : meth.locks = false := Bd.notSynchronized
  have X0 : Stand p l e ({ frames := 0, cells := 0, slots := 0, locals := 0 } : Room) s m #[(.int x1), (.int x2)] below meth c s₁ [] 0 0 := Stand.of_body Bd
  have e0 : s₁.heap = h0 := by rw [← hh, Bd.state]; rfl
  have N0 := Fr.nil n0
  refine own_body (Q := fun v h L => v = some (.int (own_max x1 x2)) ∧ Fr n0 L ∧ h = h0) ?_
  refine own_go (fun _ kont => castTop (own_ef m #[(.int x1), (.int x2)] 2 #[.val (.int x1), .val (.int x2)] (own_al [(.int x1), (.int x2)] 2 [.val (.int x1), .val (.int x2)] rfl)) kont) ?_
  show own_Go _ _ _ _ (s₁.setTop (mkF m 0 #[.val (.int x1), .val (.int x2)] []))
  refine own_go (fun _ kont => XS.iloadN X0.here hx rfl (hb hby own_d2_0) rfl kont) ?_
  show own_Go _ _ _ _ (s₁.setTop (mkF m 1 #[.val (.int x1), .val (.int x2)] [(.int x1)]))
  refine own_go (fun _ kont => XS.iloadN X0.here hx rfl (hb hby own_d2_1) rfl kont) ?_
  show own_Go _ _ _ _ (s₁.setTop (mkF m 2 #[.val (.int x1), .val (.int x2)] [(.int x2), (.int x1)]))
  by_cases hc : x1 < x2
  · have _h := hc
    refine own_go (fun _ kont => XS.icmpYes X0.here hx rfl (pc0 := 2) (pc' := 9) rfl (hb hby own_d2_2) rfl (tlt hc).1 (by decide) (by decide) kont) ?_
    show own_Go _ _ _ _ (s₁.setTop (mkF m 9 #[.val (.int x1), .val (.int x2)] []))
    refine own_go (fun _ kont => XS.iloadN X0.here hx rfl (hb hby own_d2_9) rfl kont) ?_
    show own_Go _ _ _ _ (s₁.setTop (mkF m 10 #[.val (.int x1), .val (.int x2)] [(.int x2)]))
    refine own_ret X0 hlk (v := some (.int x2)) (fun h => by rw [Bd.returns] at h; cases h) (fun fs hr => retOut X0 hx Bd.returns rfl (Or.inl ⟨rfl, Or.inl rfl, _, rfl⟩) (hb hby own_d2_10) hr) ?_ (by decide) (by decide)
    try rw [e0]
    exact ⟨by simp [own_max, hc], N0, rfl⟩
  · have _h := hc
    refine own_go (fun _ kont => XS.icmpNo X0.here hx rfl (hb hby own_d2_2) rfl (flt hc).1 kont) ?_
    show own_Go _ _ _ _ (s₁.setTop (mkF m 5 #[.val (.int x1), .val (.int x2)] []))
    refine own_go (fun _ kont => XS.iloadN X0.here hx rfl (hb hby own_d2_5) rfl kont) ?_
    show own_Go _ _ _ _ (s₁.setTop (mkF m 6 #[.val (.int x1), .val (.int x2)] [(.int x1)]))
    refine own_go (fun _ kont => XS.goto X0.here hx rfl (pc0 := 6) (pc' := 10) rfl (hb hby own_d2_6) (by decide) (by decide) kont) ?_
    show own_Go _ _ _ _ (s₁.setTop (mkF m 10 #[.val (.int x1), .val (.int x2)] [(.int x1)]))
    refine own_ret X0 hlk (v := some (.int x1)) (fun h => by rw [Bd.returns] at h; cases h) (fun fs hr => retOut X0 hx Bd.returns rfl (Or.inl ⟨rfl, Or.inl rfl, _, rfl⟩) (hb hby own_d2_10) hr) ?_ (by decide) (by decide)
    try rw [e0]
    exact ⟨by simp [own_max, hc], N0, rfl⟩
theorem own_d10_0 : decode jdk_33_method_47_code 0 = .ok (.iload_n 0, 1) := by decide +kernel
theorem own_d10_1 : decode jdk_33_method_47_code 1 = .ok (.ifCond .gt 14, 3) := by decide +kernel
theorem own_d10_4 : decode jdk_33_method_47_code 4 = .ok (.iload_n 0, 1) := by decide +kernel
theorem own_d10_5 : decode jdk_33_method_47_code 5 = .ok (.ifCond .ne 8, 3) := by decide +kernel
theorem own_d10_8 : decode jdk_33_method_47_code 8 = .ok (.bipush 32, 2) := by decide +kernel
theorem own_d10_10 : decode jdk_33_method_47_code 10 = .ok (.goto 4, 3) := by decide +kernel
theorem own_d10_13 : decode jdk_33_method_47_code 13 = .ok (.iconst 0, 1) := by decide +kernel
theorem own_d10_14 : decode jdk_33_method_47_code 14 = .ok (.ireturn, 1) := by decide +kernel
theorem own_d10_15 : decode jdk_33_method_47_code 15 = .ok (.bipush 31, 2) := by decide +kernel
theorem own_d10_17 : decode jdk_33_method_47_code 17 = .ok (.istore_n 1, 1) := by decide +kernel
theorem own_d10_18 : decode jdk_33_method_47_code 18 = .ok (.iload_n 0, 1) := by decide +kernel
theorem own_d10_19 : decode jdk_33_method_47_code 19 = .ok (.ldc_w 264, 3) := by decide +kernel
theorem own_d10_22 : decode jdk_33_method_47_code 22 = .ok (.if_icmp .lt 11, 3) := by decide +kernel
theorem own_d10_25 : decode jdk_33_method_47_code 25 = .ok (.iinc 1 (-16), 3) := by decide +kernel
theorem own_d10_28 : decode jdk_33_method_47_code 28 = .ok (.iload_n 0, 1) := by decide +kernel
theorem own_d10_29 : decode jdk_33_method_47_code 29 = .ok (.bipush 16, 2) := by decide +kernel
theorem own_d10_31 : decode jdk_33_method_47_code 31 = .ok (.iushr, 1) := by decide +kernel
theorem own_d10_32 : decode jdk_33_method_47_code 32 = .ok (.istore_n 0, 1) := by decide +kernel
theorem own_d10_33 : decode jdk_33_method_47_code 33 = .ok (.iload_n 0, 1) := by decide +kernel
theorem own_d10_34 : decode jdk_33_method_47_code 34 = .ok (.sipush 256, 3) := by decide +kernel
theorem own_d10_37 : decode jdk_33_method_47_code 37 = .ok (.if_icmp .lt 11, 3) := by decide +kernel
theorem own_d10_40 : decode jdk_33_method_47_code 40 = .ok (.iinc 1 (-8), 3) := by decide +kernel
theorem own_d10_43 : decode jdk_33_method_47_code 43 = .ok (.iload_n 0, 1) := by decide +kernel
theorem own_d10_44 : decode jdk_33_method_47_code 44 = .ok (.bipush 8, 2) := by decide +kernel
theorem own_d10_46 : decode jdk_33_method_47_code 46 = .ok (.iushr, 1) := by decide +kernel
theorem own_d10_47 : decode jdk_33_method_47_code 47 = .ok (.istore_n 0, 1) := by decide +kernel
theorem own_d10_48 : decode jdk_33_method_47_code 48 = .ok (.iload_n 0, 1) := by decide +kernel
theorem own_d10_49 : decode jdk_33_method_47_code 49 = .ok (.bipush 16, 2) := by decide +kernel
theorem own_d10_51 : decode jdk_33_method_47_code 51 = .ok (.if_icmp .lt 10, 3) := by decide +kernel
theorem own_d10_54 : decode jdk_33_method_47_code 54 = .ok (.iinc 1 (-4), 3) := by decide +kernel
theorem own_d10_57 : decode jdk_33_method_47_code 57 = .ok (.iload_n 0, 1) := by decide +kernel
theorem own_d10_58 : decode jdk_33_method_47_code 58 = .ok (.iconst 4, 1) := by decide +kernel
theorem own_d10_59 : decode jdk_33_method_47_code 59 = .ok (.iushr, 1) := by decide +kernel
theorem own_d10_60 : decode jdk_33_method_47_code 60 = .ok (.istore_n 0, 1) := by decide +kernel
theorem own_d10_61 : decode jdk_33_method_47_code 61 = .ok (.iload_n 0, 1) := by decide +kernel
theorem own_d10_62 : decode jdk_33_method_47_code 62 = .ok (.iconst 4, 1) := by decide +kernel
theorem own_d10_63 : decode jdk_33_method_47_code 63 = .ok (.if_icmp .lt 10, 3) := by decide +kernel
theorem own_d10_66 : decode jdk_33_method_47_code 66 = .ok (.iinc 1 (-2), 3) := by decide +kernel
theorem own_d10_69 : decode jdk_33_method_47_code 69 = .ok (.iload_n 0, 1) := by decide +kernel
theorem own_d10_70 : decode jdk_33_method_47_code 70 = .ok (.iconst 2, 1) := by decide +kernel
theorem own_d10_71 : decode jdk_33_method_47_code 71 = .ok (.iushr, 1) := by decide +kernel
theorem own_d10_72 : decode jdk_33_method_47_code 72 = .ok (.istore_n 0, 1) := by decide +kernel
theorem own_d10_73 : decode jdk_33_method_47_code 73 = .ok (.iload_n 1, 1) := by decide +kernel
theorem own_d10_74 : decode jdk_33_method_47_code 74 = .ok (.iload_n 0, 1) := by decide +kernel
theorem own_d10_75 : decode jdk_33_method_47_code 75 = .ok (.iconst 1, 1) := by decide +kernel
theorem own_d10_76 : decode jdk_33_method_47_code 76 = .ok (.iushr, 1) := by decide +kernel
theorem own_d10_77 : decode jdk_33_method_47_code 77 = .ok (.isub, 1) := by decide +kernel
theorem own_d10_78 : decode jdk_33_method_47_code 78 = .ok (.ireturn, 1) := by decide +kernel
theorem own_pn0 : plainName "java/lang/Integer" = true := by first | (simp [plainName, overriddenIn]; done) | decide +kernel
set_option maxRecDepth 65536 in
set_option maxHeartbeats 40000000 in
theorem own_rmN (l : Launch) (Z : State) (a0 : Array Value) (hw : ∀ d ∈ tables_1, d.before a0 Z = true)  (h0 : Heap) (n0 : Nat) (Z0 : n0 ≤ h0.size)  :
    own_Met l Z [] (⟨"java/lang/Integer", "numberOfLeadingZeros", "(I)I"⟩ : MethodName) jdk_33_method_47_code 2 (some .int) ({ frames := 0, cells := 0, slots := 0, locals := 0 } : Room) #[(.int (-1 : Int32))] h0 (fun v h L => v = some (.int 0) ∧ Fr n0 L ∧ h = h0) := by
  refine MetFree.of_bodySF (plainFor_of_name own_pn0) hisR ?_
  intro p e s m args below meth c s₁ Bd hml0 hP hK
  obtain ⟨rfl, hZ, hh⟩ := hP
  have hx := Bd.exec
  have hby := Bd.bytes
  have hml : c.maxLocals = 2 := hml0
  have hown : s.vm.findClass "java/lang/Integer" = some m.cls := findClass_of_methodNamed Bd.named
  have hnm := (name_of_methodNamed Bd.named Bd.method).1
  have hlk : meth.locks = false := Bd.notSynchronized
  have X0 : Stand p l e ({ frames := 0, cells := 0, slots := 0, locals := 0 } : Room) s m #[(.int (-1 : Int32))] below meth c s₁ [] 0 0 := Stand.of_body Bd
  have e0 : s₁.heap = h0 := by rw [← hh, Bd.state]; rfl
  have N0 := Fr.nil n0
  refine own_body (Q := fun v h L => v = some (.int 0) ∧ Fr n0 L ∧ h = h0) ?_
  refine own_go (fun _ kont => castTop (own_ef m #[(.int (-1 : Int32))] 2 #[.val (.int (-1 : Int32)), .unset] (own_al [(.int (-1 : Int32))] 2 [.val (.int (-1 : Int32)), .unset] rfl)) kont) ?_
  show own_Go _ _ _ _ (s₁.setTop (mkF m 0 #[.val (.int (-1 : Int32)), .unset] []))
  refine own_go (fun _ kont => XS.iloadN X0.here hx rfl (hb hby own_d10_0) rfl kont) ?_
  show own_Go _ _ _ _ (s₁.setTop (mkF m 1 #[.val (.int (-1 : Int32)), .unset] [(.int (-1 : Int32))]))
  refine own_go (fun _ kont => XS.ifNo X0.here hx rfl (hb hby own_d10_1) rfl ((if0 _ _).trans (flt (by decide)).2.2.1) kont) ?_
  show own_Go _ _ _ _ (s₁.setTop (mkF m 4 #[.val (.int (-1 : Int32)), .unset] []))
  refine own_go (fun _ kont => XS.iloadN X0.here hx rfl (hb hby own_d10_4) rfl kont) ?_
  show own_Go _ _ _ _ (s₁.setTop (mkF m 5 #[.val (.int (-1 : Int32)), .unset] [(.int (-1 : Int32))]))
  refine own_go (fun _ kont => XS.ifYes X0.here hx rfl (pc0 := 5) (pc' := 13) rfl (hb hby own_d10_5) rfl ((if0 _ _).trans (feq (by decide)).2) (by decide) (by decide) kont) ?_
  show own_Go _ _ _ _ (s₁.setTop (mkF m 13 #[.val (.int (-1 : Int32)), .unset] []))
  refine own_go (fun _ kont => XS.iconst X0.here hx rfl (hb hby own_d10_13) kont) ?_
  show own_Go _ _ _ _ (s₁.setTop (mkF m 14 #[.val (.int (-1 : Int32)), .unset] [(.int (0 : Int32))]))
  refine own_ret X0 hlk (v := some (.int (0 : Int32))) (fun h => by rw [Bd.returns] at h; cases h) (fun fs hr => retOut X0 hx Bd.returns rfl (Or.inl ⟨rfl, Or.inl rfl, _, rfl⟩) (hb hby own_d10_14) hr) ?_ (by decide) (by decide)
  try rw [e0]
  exact ⟨rfl, N0, rfl⟩
theorem own_d9_0 : decode jdk_69_method_4_code 0 = .ok (.iconst (-1), 1) := by decide +kernel
theorem own_d9_1 : decode jdk_69_method_4_code 1 = .ok (.iload_n 0, 1) := by decide +kernel
theorem own_d9_2 : decode jdk_69_method_4_code 2 = .ok (.iconst 1, 1) := by decide +kernel
theorem own_d9_3 : decode jdk_69_method_4_code 3 = .ok (.isub, 1) := by decide +kernel
theorem own_d9_4 : decode jdk_69_method_4_code 4 = .ok (.invokestatic 34, 3) := by decide +kernel
theorem own_d9_7 : decode jdk_69_method_4_code 7 = .ok (.iushr, 1) := by decide +kernel
theorem own_d9_8 : decode jdk_69_method_4_code 8 = .ok (.istore_n 1, 1) := by decide +kernel
theorem own_d9_9 : decode jdk_69_method_4_code 9 = .ok (.iload_n 1, 1) := by decide +kernel
theorem own_d9_10 : decode jdk_69_method_4_code 10 = .ok (.ifCond .ge 7, 3) := by decide +kernel
theorem own_d9_13 : decode jdk_69_method_4_code 13 = .ok (.iconst 1, 1) := by decide +kernel
theorem own_d9_14 : decode jdk_69_method_4_code 14 = .ok (.goto 17, 3) := by decide +kernel
theorem own_d9_17 : decode jdk_69_method_4_code 17 = .ok (.iload_n 1, 1) := by decide +kernel
theorem own_d9_18 : decode jdk_69_method_4_code 18 = .ok (.ldc 42, 2) := by decide +kernel
theorem own_d9_20 : decode jdk_69_method_4_code 20 = .ok (.if_icmp .lt 8, 3) := by decide +kernel
theorem own_d9_23 : decode jdk_69_method_4_code 23 = .ok (.ldc 42, 2) := by decide +kernel
theorem own_d9_25 : decode jdk_69_method_4_code 25 = .ok (.goto 6, 3) := by decide +kernel
theorem own_d9_28 : decode jdk_69_method_4_code 28 = .ok (.iload_n 1, 1) := by decide +kernel
theorem own_d9_29 : decode jdk_69_method_4_code 29 = .ok (.iconst 1, 1) := by decide +kernel
theorem own_d9_30 : decode jdk_69_method_4_code 30 = .ok (.iadd, 1) := by decide +kernel
theorem own_d9_31 : decode jdk_69_method_4_code 31 = .ok (.ireturn, 1) := by decide +kernel
theorem own_pn1 : plainName "java/util/HashMap" = true := by first | (simp [plainName, overriddenIn]; done) | decide +kernel
theorem own_pd0 : parseMethodDescriptor "(I)I" = some ⟨[.int], some .int⟩ := by decide +kernel
set_option maxRecDepth 65536 in
set_option maxHeartbeats 40000000 in
theorem own_rmS (l : Launch) (Z : State) (a0 : Array Value) (hw : ∀ d ∈ tables_1, d.before a0 Z = true)  (h0 : Heap) (n0 : Nat) (Z0 : n0 ≤ h0.size)  :
    own_Met l Z [] (⟨"java/util/HashMap", "tableSizeFor", "(I)I"⟩ : MethodName) jdk_69_method_4_code 2 (some .int) ({ frames := 1, cells := 0, slots := 0, locals := 14 } : Room) #[(.int (0 : Int32))] h0 (fun v h L => v = some (.int 1) ∧ Fr n0 L ∧ h = h0) := by
  refine MetFree.of_bodySF (plainFor_of_name own_pn1) hisR ?_
  intro p e s m args below meth c s₁ Bd hml0 hP hK
  obtain ⟨rfl, hZ, hh⟩ := hP
  have hx := Bd.exec
  have hby := Bd.bytes
  have hml : c.maxLocals = 2 := hml0
  have hown : s.vm.findClass "java/util/HashMap" = some m.cls := findClass_of_methodNamed Bd.named
  have hnm := (name_of_methodNamed Bd.named Bd.method).1
  have hlk : meth.locks = false := Bd.notSynchronized
  have X0 : Stand p l e ({ frames := 1, cells := 0, slots := 0, locals := 14 } : Room) s m #[(.int (0 : Int32))] below meth c s₁ [] 0 0 := Stand.of_body Bd
  have e0 : s₁.heap = h0 := by rw [← hh, Bd.state]; rfl
  have N0 := Fr.nil n0
  refine own_body (Q := fun v h L => v = some (.int 1) ∧ Fr n0 L ∧ h = h0) ?_
  refine own_go (fun _ kont => castTop (own_ef m #[(.int (0 : Int32))] 2 #[.val (.int (0 : Int32)), .unset] (own_al [(.int (0 : Int32))] 2 [.val (.int (0 : Int32)), .unset] rfl)) kont) ?_
  show own_Go _ _ _ _ (s₁.setTop (mkF m 0 #[.val (.int (0 : Int32)), .unset] []))
  refine own_go (fun _ kont => XS.iconst X0.here hx rfl (hb hby own_d9_0) kont) ?_
  show own_Go _ _ _ _ (s₁.setTop (mkF m 1 #[.val (.int (0 : Int32)), .unset] [(.int (-1 : Int32))]))
  refine own_go (fun _ kont => XS.iloadN X0.here hx rfl (hb hby own_d9_1) rfl kont) ?_
  show own_Go _ _ _ _ (s₁.setTop (mkF m 2 #[.val (.int (0 : Int32)), .unset] [(.int (0 : Int32)), (.int (-1 : Int32))]))
  refine own_go (fun _ kont => XS.iconst X0.here hx rfl (hb hby own_d9_2) kont) ?_
  show own_Go _ _ _ _ (s₁.setTop (mkF m 3 #[.val (.int (0 : Int32)), .unset] [(.int (1 : Int32)), (.int (0 : Int32)), (.int (-1 : Int32))]))
  refine own_go (fun _ kont => XS.isub X0.here hx rfl (hb hby own_d9_3) rfl kont) ?_
  show own_Go _ _ _ _ (s₁.setTop (mkF m 4 #[.val (.int (0 : Int32)), .unset] [(.int (-1 : Int32)), (.int (-1 : Int32))]))
  obtain ⟨_, _, ⟨T1, L1, k1, n1⟩, -, X1, ⟨Lc1, hQ1, l1, y1, z1⟩, st1⟩ := Jvm.LawKit.callS X0 hx (y := (⟨"java/lang/Integer", "numberOfLeadingZeros", "(I)I"⟩ : MethodName)) hown (mvT hZ (hw _ (List.mem_of_getElem? (i := 65) rfl))) (mvT hZ (hw _ (List.mem_of_getElem? (i := 66) rfl))) (mvT hZ (hw _ (List.mem_of_getElem? (i := 67) rfl))) (mvT hZ (hw _ (List.mem_of_getElem? (i := 68) rfl))) (by decide) (own_back (W := 1) (own_rmN l Z a0 hw h0 n0 Z0) hZ (hw _ (List.mem_of_getElem? (i := 68) rfl)) (hw _ (List.mem_of_getElem? (i := 67) rfl)) (by decide) (by decide)) (g := (mkF m 4 #[.val (.int (0 : Int32)), .unset] [(.int (-1 : Int32)), (.int (-1 : Int32))])) rfl (by rw [hml]; rfl) (argsL := [(.int (-1 : Int32))]) (rest := [(.int (-1 : Int32))]) (lenOf own_pd0 rfl) rfl (by show 2 * 0 + _ ≤ _; exact Nat.le_of_eq rfl) (hb hby own_d9_4) (fun _ _ => ⟨rfl, e0, (by decide : 0 + 0 ≤ _), (by decide : 0 + 0 ≤ _)⟩)
  dsimp only [Pt.U, Pt.locs, Pt.cells, Pt.slots] at X1 l1 y1 z1 st1 hQ1
  subst l1 y1 z1
  obtain ⟨rfl, Nq1, eq1⟩ := hQ1
  have NF1 := Fr.app N0 Nq1
  refine own_go st1 ?_
  show own_Go _ _ _ _ (T1.setTop (mkF m 7 #[.val (.int (0 : Int32)), .unset] [(.int (0 : Int32)), (.int (-1 : Int32))]))
  refine own_go (fun _ kont => XS.iushr X1.here hx rfl (hb hby own_d9_7) rfl kont) ?_
  show own_Go _ _ _ _ (T1.setTop (mkF m 8 #[.val (.int (0 : Int32)), .unset] [(.int (-1 : Int32))]))
  refine own_go (fun _ kont => XS.istoreN X1.here hx rfl (hb hby own_d9_8) rfl (l' := #[.val (.int (0 : Int32)), .val (.int (-1 : Int32))]) rfl kont) ?_
  show own_Go _ _ _ _ (T1.setTop (mkF m 9 #[.val (.int (0 : Int32)), .val (.int (-1 : Int32))] []))
  refine own_go (fun _ kont => XS.iloadN X1.here hx rfl (hb hby own_d9_9) rfl kont) ?_
  show own_Go _ _ _ _ (T1.setTop (mkF m 10 #[.val (.int (0 : Int32)), .val (.int (-1 : Int32))] [(.int (-1 : Int32))]))
  refine own_go (fun _ kont => XS.ifNo X1.here hx rfl (hb hby own_d9_10) rfl ((if0 _ _).trans (tlt (by decide)).2.1) kont) ?_
  show own_Go _ _ _ _ (T1.setTop (mkF m 13 #[.val (.int (0 : Int32)), .val (.int (-1 : Int32))] []))
  refine own_go (fun _ kont => XS.iconst X1.here hx rfl (hb hby own_d9_13) kont) ?_
  show own_Go _ _ _ _ (T1.setTop (mkF m 14 #[.val (.int (0 : Int32)), .val (.int (-1 : Int32))] [(.int (1 : Int32))]))
  refine own_go (fun _ kont => XS.goto X1.here hx rfl (pc0 := 14) (pc' := 31) rfl (hb hby own_d9_14) (by decide) (by decide) kont) ?_
  show own_Go _ _ _ _ (T1.setTop (mkF m 31 #[.val (.int (0 : Int32)), .val (.int (-1 : Int32))] [(.int (1 : Int32))]))
  refine own_ret X1 hlk (v := some (.int (1 : Int32))) (fun h => by rw [Bd.returns] at h; cases h) (fun fs hr => retOut X1 hx Bd.returns rfl (Or.inl ⟨rfl, Or.inl rfl, _, rfl⟩) (hb hby own_d9_31) hr) ?_ (by decide) (by decide)
  try rw [eq1]
  exact ⟨rfl, NF1, rfl⟩
theorem own_d8_0 : decode jdk_118_method_6_code 0 = .ok (.fload_n 0, 1) := by decide +kernel
theorem own_d8_1 : decode jdk_118_method_6_code 1 = .ok (.fload_n 0, 1) := by decide +kernel
theorem own_d8_2 : decode jdk_118_method_6_code 2 = .ok (.fcmp .l, 1) := by decide +kernel
theorem own_d8_3 : decode jdk_118_method_6_code 3 = .ok (.ifCond .eq 7, 3) := by decide +kernel
theorem own_d8_6 : decode jdk_118_method_6_code 6 = .ok (.iconst 1, 1) := by decide +kernel
theorem own_d8_7 : decode jdk_118_method_6_code 7 = .ok (.goto 4, 3) := by decide +kernel
theorem own_d8_10 : decode jdk_118_method_6_code 10 = .ok (.iconst 0, 1) := by decide +kernel
theorem own_d8_11 : decode jdk_118_method_6_code 11 = .ok (.ireturn, 1) := by decide +kernel
set_option maxRecDepth 65536 in
set_option maxHeartbeats 40000000 in
theorem own_rmF (l : Launch) (Z : State) (a0 : Array Value) (hw : ∀ d ∈ tables_1, d.before a0 Z = true)  (h0 : Heap) (n0 : Nat) (Z0 : n0 ≤ h0.size)  :
    own_Met l Z [] (⟨"java/lang/Float", "isNaN", "(F)Z"⟩ : MethodName) jdk_118_method_6_code 1 (some .boolean) ({ frames := 0, cells := 0, slots := 0, locals := 0 } : Room) #[(.float (1061158912 : UInt32))] h0 (fun v h L => v = some (.int 0) ∧ Fr n0 L ∧ h = h0) := by
  refine MetFree.of_bodySF (by decide +kernel) hisR ?_
  intro p e s m args below meth c s₁ Bd hml0 hP hK
  obtain ⟨rfl, hZ, hh⟩ := hP
  have hx := Bd.exec
  have hby := Bd.bytes
  have hml : c.maxLocals = 1 := hml0
  have hown : s.vm.findClass "java/lang/Float" = some m.cls := findClass_of_methodNamed Bd.named
  have hnm := (name_of_methodNamed Bd.named Bd.method).1
  have hlk : meth.locks = false := Bd.notSynchronized
  have X0 : Stand p l e ({ frames := 0, cells := 0, slots := 0, locals := 0 } : Room) s m #[(.float (1061158912 : UInt32))] below meth c s₁ [] 0 0 := Stand.of_body Bd
  have e0 : s₁.heap = h0 := by rw [← hh, Bd.state]; rfl
  have N0 := Fr.nil n0
  refine own_body (Q := fun v h L => v = some (.int 0) ∧ Fr n0 L ∧ h = h0) ?_
  refine own_go (fun _ kont => castTop (own_ef m #[(.float (1061158912 : UInt32))] 1 #[.val (.float (1061158912 : UInt32))] (own_al [(.float (1061158912 : UInt32))] 1 [.val (.float (1061158912 : UInt32))] rfl)) kont) ?_
  show own_Go _ _ _ _ (s₁.setTop (mkF m 0 #[.val (.float (1061158912 : UInt32))] []))
  refine own_go (fun _ kont => XS.floadN X0.here hx rfl (hb hby own_d8_0) rfl kont) ?_
  show own_Go _ _ _ _ (s₁.setTop (mkF m 1 #[.val (.float (1061158912 : UInt32))] [(.float (1061158912 : UInt32))]))
  refine own_go (fun _ kont => XS.floadN X0.here hx rfl (hb hby own_d8_1) rfl kont) ?_
  show own_Go _ _ _ _ (s₁.setTop (mkF m 2 #[.val (.float (1061158912 : UInt32))] [(.float (1061158912 : UInt32)), (.float (1061158912 : UInt32))]))
  refine own_go (fun _ kont => XS.fcmpS X0.here hx rfl (hb hby own_d8_2) rfl (v := (0 : Int32)) (by decide +kernel) kont) ?_
  show own_Go _ _ _ _ (s₁.setTop (mkF m 3 #[.val (.float (1061158912 : UInt32))] [(.int (0 : Int32))]))
  refine own_go (fun _ kont => XS.ifYes X0.here hx rfl (pc0 := 3) (pc' := 10) rfl (hb hby own_d8_3) rfl ((if0 _ _).trans (teq (by decide)).1) (by decide) (by decide) kont) ?_
  show own_Go _ _ _ _ (s₁.setTop (mkF m 10 #[.val (.float (1061158912 : UInt32))] []))
  refine own_go (fun _ kont => XS.iconst X0.here hx rfl (hb hby own_d8_10) kont) ?_
  show own_Go _ _ _ _ (s₁.setTop (mkF m 11 #[.val (.float (1061158912 : UInt32))] [(.int (0 : Int32))]))
  refine own_ret X0 hlk (v := some (.int (0 : Int32))) (fun h => by rw [Bd.returns] at h; cases h) (fun fs hr => retN X0 hx (t := .boolean) Bd.returns (by simp) (hb hby own_d8_11) hr) ?_ (by decide) (by decide)
  try rw [e0]
  exact ⟨rfl, N0, rfl⟩
theorem own_d7_0 : decode jdk_71_method_1_code 0 = .ok (.aload_n 0, 1) := by decide +kernel
theorem own_d7_1 : decode jdk_71_method_1_code 1 = .ok (.invokespecial 1, 3) := by decide +kernel
theorem own_d7_4 : decode jdk_71_method_1_code 4 = .ok (.return_, 1) := by decide +kernel
theorem own_pn2 : plainName "java/util/AbstractMap" = true := by first | (simp [plainName, overriddenIn]; done) | decide +kernel
set_option maxRecDepth 65536 in
set_option maxHeartbeats 40000000 in
theorem own_rmA (l : Launch) (Z : State) (a0 : Array Value) (hw : ∀ d ∈ tables_1, d.before a0 Z = true) (a1 : Addr) (h0 : Heap) (n0 : Nat) (Z0 : n0 ≤ h0.size)  :
    own_Met l Z [] (⟨"java/util/AbstractMap", "<init>", "()V"⟩ : MethodName) jdk_71_method_1_code 1 none ({ frames := 1, cells := 0, slots := 0, locals := 12 } : Room) #[(.ref a1)] h0 (fun v h L => v = none ∧ Fr n0 L ∧ h = h0) := by
  refine MetFree.of_bodySF (plainFor_of_name own_pn2) hisR ?_
  intro p e s m args below meth c s₁ Bd hml0 hP hK
  obtain ⟨rfl, hZ, hh⟩ := hP
  have hx := Bd.exec
  have hby := Bd.bytes
  have hml : c.maxLocals = 1 := hml0
  have hown : s.vm.findClass "java/util/AbstractMap" = some m.cls := findClass_of_methodNamed Bd.named
  have hnm := (name_of_methodNamed Bd.named Bd.method).1
  have hlk : meth.locks = false := Bd.notSynchronized
  have X0 : Stand p l e ({ frames := 1, cells := 0, slots := 0, locals := 12 } : Room) s m #[(.ref a1)] below meth c s₁ [] 0 0 := Stand.of_body Bd
  have e0 : s₁.heap = h0 := by rw [← hh, Bd.state]; rfl
  have N0 := Fr.nil n0
  refine own_body (Q := fun v h L => v = none ∧ Fr n0 L ∧ h = h0) ?_
  refine own_go (fun _ kont => castTop (own_ef m #[(.ref a1)] 1 #[.val (.ref a1)] (own_al [(.ref a1)] 1 [.val (.ref a1)] rfl)) kont) ?_
  show own_Go _ _ _ _ (s₁.setTop (mkF m 0 #[.val (.ref a1)] []))
  refine own_go (fun _ kont => XS.aloadN X0.here hx rfl (hb hby own_d7_0) rfl rfl kont) ?_
  show own_Go _ _ _ _ (s₁.setTop (mkF m 1 #[.val (.ref a1)] [(.ref a1)]))
  obtain ⟨T1, X1, e1, st1⟩ := initO X0 hx hZ hown (hw _ (List.mem_of_getElem? (i := 54) rfl)) (hw _ (List.mem_of_getElem? (i := 19) rfl)) (hw _ (List.mem_of_getElem? (i := 20) rfl)) e0 (g := (mkF m 1 #[.val (.ref a1)] [(.ref a1)])) rfl (by rw [hml]; rfl) rfl (hb hby own_d7_1) (by decide) (W := 0) (by show 2 * 0 + _ ≤ _; exact Nat.le_of_eq rfl) (by decide)
  refine own_go st1 ?_
  show own_Go _ _ _ _ (T1.setTop (mkF m 4 #[.val (.ref a1)] []))
  refine own_ret X1 hlk (v := none) (fun _ => rfl) (fun fs hr => X1.returnOut hx Bd.returns (hb hby own_d7_4) hr) ?_ (by decide) (by decide)
  try rw [e1]
  exact ⟨rfl, N0, rfl⟩
theorem own_d6_0 : decode jdk_69_method_5_code 0 = .ok (.aload_n 0, 1) := by decide +kernel
theorem own_d6_1 : decode jdk_69_method_5_code 1 = .ok (.invokespecial 43, 3) := by decide +kernel
theorem own_d6_4 : decode jdk_69_method_5_code 4 = .ok (.iload_n 1, 1) := by decide +kernel
theorem own_d6_5 : decode jdk_69_method_5_code 5 = .ok (.ifCond .ge 30, 3) := by decide +kernel
theorem own_d6_8 : decode jdk_69_method_5_code 8 = .ok (.new 49, 3) := by decide +kernel
theorem own_d6_11 : decode jdk_69_method_5_code 11 = .ok (.dup, 1) := by decide +kernel
theorem own_d6_12 : decode jdk_69_method_5_code 12 = .ok (.new 51, 3) := by decide +kernel
theorem own_d6_15 : decode jdk_69_method_5_code 15 = .ok (.dup, 1) := by decide +kernel
theorem own_d6_16 : decode jdk_69_method_5_code 16 = .ok (.invokespecial 53, 3) := by decide +kernel
theorem own_d6_19 : decode jdk_69_method_5_code 19 = .ok (.ldc 54, 2) := by decide +kernel
theorem own_d6_21 : decode jdk_69_method_5_code 21 = .ok (.invokevirtual 56, 3) := by decide +kernel
theorem own_d6_24 : decode jdk_69_method_5_code 24 = .ok (.iload_n 1, 1) := by decide +kernel
theorem own_d6_25 : decode jdk_69_method_5_code 25 = .ok (.invokevirtual 60, 3) := by decide +kernel
theorem own_d6_28 : decode jdk_69_method_5_code 28 = .ok (.invokevirtual 63, 3) := by decide +kernel
theorem own_d6_31 : decode jdk_69_method_5_code 31 = .ok (.invokespecial 67, 3) := by decide +kernel
theorem own_d6_34 : decode jdk_69_method_5_code 34 = .ok (.athrow, 1) := by decide +kernel
theorem own_d6_35 : decode jdk_69_method_5_code 35 = .ok (.iload_n 1, 1) := by decide +kernel
theorem own_d6_36 : decode jdk_69_method_5_code 36 = .ok (.ldc 42, 2) := by decide +kernel
theorem own_d6_38 : decode jdk_69_method_5_code 38 = .ok (.if_icmp .le 6, 3) := by decide +kernel
theorem own_d6_41 : decode jdk_69_method_5_code 41 = .ok (.ldc 42, 2) := by decide +kernel
theorem own_d6_43 : decode jdk_69_method_5_code 43 = .ok (.istore_n 1, 1) := by decide +kernel
theorem own_d6_44 : decode jdk_69_method_5_code 44 = .ok (.fload_n 2, 1) := by decide +kernel
theorem own_d6_45 : decode jdk_69_method_5_code 45 = .ok (.fconst 0, 1) := by decide +kernel
theorem own_d6_46 : decode jdk_69_method_5_code 46 = .ok (.fcmp .g, 1) := by decide +kernel
theorem own_d6_47 : decode jdk_69_method_5_code 47 = .ok (.ifCond .le 10, 3) := by decide +kernel
theorem own_d6_50 : decode jdk_69_method_5_code 50 = .ok (.fload_n 2, 1) := by decide +kernel
theorem own_d6_51 : decode jdk_69_method_5_code 51 = .ok (.invokestatic 70, 3) := by decide +kernel
theorem own_d6_54 : decode jdk_69_method_5_code 54 = .ok (.ifCond .eq 30, 3) := by decide +kernel
theorem own_d6_57 : decode jdk_69_method_5_code 57 = .ok (.new 49, 3) := by decide +kernel
theorem own_d6_60 : decode jdk_69_method_5_code 60 = .ok (.dup, 1) := by decide +kernel
theorem own_d6_61 : decode jdk_69_method_5_code 61 = .ok (.new 51, 3) := by decide +kernel
theorem own_d6_64 : decode jdk_69_method_5_code 64 = .ok (.dup, 1) := by decide +kernel
theorem own_d6_65 : decode jdk_69_method_5_code 65 = .ok (.invokespecial 53, 3) := by decide +kernel
theorem own_d6_68 : decode jdk_69_method_5_code 68 = .ok (.ldc 76, 2) := by decide +kernel
theorem own_d6_70 : decode jdk_69_method_5_code 70 = .ok (.invokevirtual 56, 3) := by decide +kernel
theorem own_d6_73 : decode jdk_69_method_5_code 73 = .ok (.fload_n 2, 1) := by decide +kernel
theorem own_d6_74 : decode jdk_69_method_5_code 74 = .ok (.invokevirtual 78, 3) := by decide +kernel
theorem own_d6_77 : decode jdk_69_method_5_code 77 = .ok (.invokevirtual 63, 3) := by decide +kernel
theorem own_d6_80 : decode jdk_69_method_5_code 80 = .ok (.invokespecial 67, 3) := by decide +kernel
theorem own_d6_83 : decode jdk_69_method_5_code 83 = .ok (.athrow, 1) := by decide +kernel
theorem own_d6_84 : decode jdk_69_method_5_code 84 = .ok (.aload_n 0, 1) := by decide +kernel
theorem own_d6_85 : decode jdk_69_method_5_code 85 = .ok (.fload_n 2, 1) := by decide +kernel
theorem own_d6_86 : decode jdk_69_method_5_code 86 = .ok (.putfield 81, 3) := by decide +kernel
theorem own_d6_89 : decode jdk_69_method_5_code 89 = .ok (.aload_n 0, 1) := by decide +kernel
theorem own_d6_90 : decode jdk_69_method_5_code 90 = .ok (.iload_n 1, 1) := by decide +kernel
theorem own_d6_91 : decode jdk_69_method_5_code 91 = .ok (.invokestatic 85, 3) := by decide +kernel
theorem own_d6_94 : decode jdk_69_method_5_code 94 = .ok (.putfield 88, 3) := by decide +kernel
theorem own_d6_97 : decode jdk_69_method_5_code 97 = .ok (.return_, 1) := by decide +kernel
theorem own_pd1 : parseMethodDescriptor "()V" = some ⟨[], none⟩ := by decide +kernel
theorem own_pd2 : parseMethodDescriptor "(F)Z" = some ⟨[.float], some .boolean⟩ := by decide +kernel
set_option maxRecDepth 65536 in
set_option maxHeartbeats 40000000 in
theorem own_rmH2 (l : Launch) (Z : State) (a0 : Array Value) (hw : ∀ d ∈ tables_1, d.before a0 Z = true) (a1 : Addr) (h0 : Heap) (n0 : Nat) (Z0 : n0 ≤ h0.size) (E1 : Exa Z h0 a1 "java/util/HashMap") (F1 : Fld Z h0 a1 "java/util/HashMap" "loadFactor" "F" (.float 0)) (F2 : Fld Z h0 a1 "java/util/HashMap" "threshold" "I" (.int 0)) (ge_a1 : n0 ≤ a1) :
    own_Met l Z [] (⟨"java/util/HashMap", "<init>", "(IF)V"⟩ : MethodName) jdk_69_method_5_code 3 none ({ frames := 2, cells := 0, slots := 0, locals := 28 } : Room) #[(.ref a1), (.int (0 : Int32)), (.float (1061158912 : UInt32))] h0 (fun v h L => v = none ∧ Fr n0 L ∧ Keep h0 h [a1]) := by
  refine MetFree.of_bodySF (plainFor_of_name own_pn1) hisR ?_
  intro p e s m args below meth c s₁ Bd hml0 hP hK
  obtain ⟨rfl, hZ, hh⟩ := hP
  have hx := Bd.exec
  have hby := Bd.bytes
  have hml : c.maxLocals = 3 := hml0
  have hown : s.vm.findClass "java/util/HashMap" = some m.cls := findClass_of_methodNamed Bd.named
  have hnm := (name_of_methodNamed Bd.named Bd.method).1
  have hlk : meth.locks = false := Bd.notSynchronized
  have X0 : Stand p l e ({ frames := 2, cells := 0, slots := 0, locals := 28 } : Room) s m #[(.ref a1), (.int (0 : Int32)), (.float (1061158912 : UInt32))] below meth c s₁ [] 0 0 := Stand.of_body Bd
  have e0 : s₁.heap = h0 := by rw [← hh, Bd.state]; rfl
  have N0 := Fr.nil n0
  refine own_body (Q := fun v h L => v = none ∧ Fr n0 L ∧ Keep h0 h [a1]) ?_
  refine own_go (fun _ kont => castTop (own_ef m #[(.ref a1), (.int (0 : Int32)), (.float (1061158912 : UInt32))] 3 #[.val (.ref a1), .val (.int (0 : Int32)), .val (.float (1061158912 : UInt32))] (own_al [(.ref a1), (.int (0 : Int32)), (.float (1061158912 : UInt32))] 3 [.val (.ref a1), .val (.int (0 : Int32)), .val (.float (1061158912 : UInt32))] rfl)) kont) ?_
  show own_Go _ _ _ _ (s₁.setTop (mkF m 0 #[.val (.ref a1), .val (.int (0 : Int32)), .val (.float (1061158912 : UInt32))] []))
  have K0 : Keep h0 h0 [a1] := Keep.refl _ _
  refine own_go (fun _ kont => XS.aloadN X0.here hx rfl (hb hby own_d6_0) rfl rfl kont) ?_
  show own_Go _ _ _ _ (s₁.setTop (mkF m 1 #[.val (.ref a1), .val (.int (0 : Int32)), .val (.float (1061158912 : UInt32))] [(.ref a1)]))
  obtain ⟨_, _, ⟨T1, L1, k1, n1⟩, -, X1, ⟨Lc1, hQ1, l1, y1, z1⟩, st1⟩ := X0.specialBack hx (y := (⟨"java/util/AbstractMap", "<init>", "()V"⟩ : MethodName)) rfl hown (mvT hZ (hw _ (List.mem_of_getElem? (i := 48) rfl))) (mvT hZ (hw _ (List.mem_of_getElem? (i := 49) rfl))) (mvT hZ (hw _ (List.mem_of_getElem? (i := 53) rfl))) (by decide) (own_back (W := 0) (own_rmA l Z a0 hw a1 h0 n0 Z0) hZ (hw _ (List.mem_of_getElem? (i := 53) rfl)) (hw _ (List.mem_of_getElem? (i := 52) rfl)) (by decide) (by decide)) (g := (mkF m 1 #[.val (.ref a1), .val (.int (0 : Int32)), .val (.float (1061158912 : UInt32))] [(.ref a1)])) rfl (by rw [hml]; rfl) (Steps.refl _) (a := a1) (argsL := []) (rest := []) (lenOf own_pd1 rfl) rfl (by show 2 * 0 + _ ≤ _; exact Nat.le_of_eq rfl) (hb hby own_d6_1) (fun _ _ => ⟨rfl, e0, (by decide : 0 + 0 ≤ _), (by decide : 0 + 0 ≤ _)⟩)
  dsimp only [Pt.U, Pt.locs, Pt.cells, Pt.slots] at X1 l1 y1 z1 st1 hQ1
  subst l1 y1 z1
  obtain ⟨rfl, Nq1, eq1⟩ := hQ1
  have NF1 := Fr.app N0 Nq1
  refine own_goT st1 ?_
  show own_Go _ _ _ _ (T1.setTop (mkF m 4 #[.val (.ref a1), .val (.int (0 : Int32)), .val (.float (1061158912 : UInt32))] []))
  refine own_go (fun _ kont => XS.iloadN X1.here hx rfl (hb hby own_d6_4) rfl kont) ?_
  show own_Go _ _ _ _ (T1.setTop (mkF m 5 #[.val (.ref a1), .val (.int (0 : Int32)), .val (.float (1061158912 : UInt32))] [(.int (0 : Int32))]))
  refine own_go (fun _ kont => XS.ifYes X1.here hx rfl (pc0 := 5) (pc' := 35) rfl (hb hby own_d6_5) rfl ((if0 _ _).trans (flt (by decide)).2.1) (by decide) (by decide) kont) ?_
  show own_Go _ _ _ _ (T1.setTop (mkF m 35 #[.val (.ref a1), .val (.int (0 : Int32)), .val (.float (1061158912 : UInt32))] []))
  refine own_go (fun _ kont => XS.iloadN X1.here hx rfl (hb hby own_d6_35) rfl kont) ?_
  show own_Go _ _ _ _ (T1.setTop (mkF m 36 #[.val (.ref a1), .val (.int (0 : Int32)), .val (.float (1061158912 : UInt32))] [(.int (0 : Int32))]))
  refine own_go (X1.ldcInt hx hown (mvT hZ (hw _ (List.mem_of_getElem? (i := 55) rfl))) (g := (mkF m 36 #[.val (.ref a1), .val (.int (0 : Int32)), .val (.float (1061158912 : UInt32))] [(.int (0 : Int32))])) rfl (hb hby own_d6_36)) ?_
  show own_Go _ _ _ _ (T1.setTop (mkF m 38 #[.val (.ref a1), .val (.int (0 : Int32)), .val (.float (1061158912 : UInt32))] [(.int (1073741824 : Int32)), (.int (0 : Int32))]))
  refine own_go (fun _ kont => XS.icmpYes X1.here hx rfl (pc0 := 38) (pc' := 44) rfl (hb hby own_d6_38) rfl (flt (by decide)).2.2.2 (by decide) (by decide) kont) ?_
  show own_Go _ _ _ _ (T1.setTop (mkF m 44 #[.val (.ref a1), .val (.int (0 : Int32)), .val (.float (1061158912 : UInt32))] []))
  refine own_go (fun _ kont => XS.floadN X1.here hx rfl (hb hby own_d6_44) rfl kont) ?_
  show own_Go _ _ _ _ (T1.setTop (mkF m 45 #[.val (.ref a1), .val (.int (0 : Int32)), .val (.float (1061158912 : UInt32))] [(.float (1061158912 : UInt32))]))
  refine own_go (fun _ kont => XS.fconst0 X1.here hx rfl (hb hby own_d6_45) (v := 0) (by decide +kernel) kont) ?_
  show own_Go _ _ _ _ (T1.setTop (mkF m 46 #[.val (.ref a1), .val (.int (0 : Int32)), .val (.float (1061158912 : UInt32))] [(.float (0 : UInt32)), (.float (1061158912 : UInt32))]))
  refine own_go (fun _ kont => XS.fcmpS X1.here hx rfl (hb hby own_d6_46) rfl (v := (1 : Int32)) (by decide +kernel) kont) ?_
  show own_Go _ _ _ _ (T1.setTop (mkF m 47 #[.val (.ref a1), .val (.int (0 : Int32)), .val (.float (1061158912 : UInt32))] [(.int (1 : Int32))]))
  refine own_go (fun _ kont => XS.ifNo X1.here hx rfl (hb hby own_d6_47) rfl ((if0 _ _).trans (tlt (by decide)).2.2.2) kont) ?_
  show own_Go _ _ _ _ (T1.setTop (mkF m 50 #[.val (.ref a1), .val (.int (0 : Int32)), .val (.float (1061158912 : UInt32))] []))
  refine own_go (fun _ kont => XS.floadN X1.here hx rfl (hb hby own_d6_50) rfl kont) ?_
  show own_Go _ _ _ _ (T1.setTop (mkF m 51 #[.val (.ref a1), .val (.int (0 : Int32)), .val (.float (1061158912 : UInt32))] [(.float (1061158912 : UInt32))]))
  obtain ⟨_, _, ⟨T2, L2, k2, n2⟩, -, X2, ⟨Lc2, hQ2, l2, y2, z2⟩, st2⟩ := Jvm.LawKit.callS X1 hx (y := (⟨"java/lang/Float", "isNaN", "(F)Z"⟩ : MethodName)) hown (mvT hZ (hw _ (List.mem_of_getElem? (i := 56) rfl))) (mvT hZ (hw _ (List.mem_of_getElem? (i := 57) rfl))) (mvT hZ (hw _ (List.mem_of_getElem? (i := 58) rfl))) (mvT hZ (hw _ (List.mem_of_getElem? (i := 59) rfl))) (by decide) (own_back (W := 0) (own_rmF l Z a0 hw h0 n0 Z0) hZ (hw _ (List.mem_of_getElem? (i := 59) rfl)) (hw _ (List.mem_of_getElem? (i := 58) rfl)) (by decide) (by decide)) (g := (mkF m 51 #[.val (.ref a1), .val (.int (0 : Int32)), .val (.float (1061158912 : UInt32))] [(.float (1061158912 : UInt32))])) rfl (by rw [hml]; rfl) (argsL := [(.float (1061158912 : UInt32))]) (rest := []) (lenOf own_pd2 rfl) rfl (by show 2 * 0 + _ ≤ _; exact Nat.le_of_eq rfl) (hb hby own_d6_51) (fun _ _ => ⟨rfl, eq1, (by decide : 0 + 0 ≤ _), (by decide : 0 + 0 ≤ _)⟩)
  dsimp only [Pt.U, Pt.locs, Pt.cells, Pt.slots] at X2 l2 y2 z2 st2 hQ2
  subst l2 y2 z2
  obtain ⟨rfl, Nq2, eq2⟩ := hQ2
  have NF2 := Fr.app NF1 Nq2
  refine own_go st2 ?_
  show own_Go _ _ _ _ (T2.setTop (mkF m 54 #[.val (.ref a1), .val (.int (0 : Int32)), .val (.float (1061158912 : UInt32))] [(.int (0 : Int32))]))
  refine own_go (fun _ kont => XS.ifYes X2.here hx rfl (pc0 := 54) (pc' := 84) rfl (hb hby own_d6_54) rfl ((if0 _ _).trans (teq (by decide)).1) (by decide) (by decide) kont) ?_
  show own_Go _ _ _ _ (T2.setTop (mkF m 84 #[.val (.ref a1), .val (.int (0 : Int32)), .val (.float (1061158912 : UInt32))] []))
  refine own_go (fun _ kont => XS.aloadN X2.here hx rfl (hb hby own_d6_84) rfl rfl kont) ?_
  show own_Go _ _ _ _ (T2.setTop (mkF m 85 #[.val (.ref a1), .val (.int (0 : Int32)), .val (.float (1061158912 : UInt32))] [(.ref a1)]))
  refine own_go (fun _ kont => XS.floadN X2.here hx rfl (hb hby own_d6_85) rfl kont) ?_
  show own_Go _ _ _ _ (T2.setTop (mkF m 86 #[.val (.ref a1), .val (.int (0 : Int32)), .val (.float (1061158912 : UInt32))] [(.float (1061158912 : UInt32)), (.ref a1)]))
  obtain ⟨T3, h3, X3, e3, W3, st3⟩ := putF X2 hx hZ hown (host := "") (Or.inl (hw _ (List.mem_of_getElem? (i := 60) rfl))) Via.refl eq2 F1 E1 (Or.inr ⟨(hw _ (List.mem_of_getElem? (i := 61) rfl)), rfl, hnm⟩) (hw _ (List.mem_of_getElem? (i := 38) rfl)) (ty := .float) (by decide) rfl rfl (g := (mkF m 86 #[.val (.ref a1), .val (.int (0 : Int32)), .val (.float (1061158912 : UInt32))] [(.float (1061158912 : UInt32)), (.ref a1)])) rfl rfl (hb hby own_d6_86)
  refine own_go st3 ?_
  have NF3 := Fr.snoc X3 NF2 ge_a1
  replace F1 := F1.same W3
  replace E1 := E1.wr W3
  replace F2 := F2.other W3 (Or.inr (slot_ne (Or.inl (hw _ (List.mem_of_getElem? (i := 70) rfl))) (Or.inr (hw _ (List.mem_of_getElem? (i := 61) rfl))) (by decide) (t := .int) (t' := .float) (by decide) (by decide)))
  replace Z0 := Nat.le_trans Z0 (Keep.of_wr W3).1
  replace K0 := K0.wr W3 (Or.inl (List.mem_of_getElem? (i := 0) rfl))
  show own_Go _ _ _ _ (T3.setTop (mkF m 89 #[.val (.ref a1), .val (.int (0 : Int32)), .val (.float (1061158912 : UInt32))] []))
  refine own_go (fun _ kont => XS.aloadN X3.here hx rfl (hb hby own_d6_89) rfl rfl kont) ?_
  show own_Go _ _ _ _ (T3.setTop (mkF m 90 #[.val (.ref a1), .val (.int (0 : Int32)), .val (.float (1061158912 : UInt32))] [(.ref a1)]))
  refine own_go (fun _ kont => XS.iloadN X3.here hx rfl (hb hby own_d6_90) rfl kont) ?_
  show own_Go _ _ _ _ (T3.setTop (mkF m 91 #[.val (.ref a1), .val (.int (0 : Int32)), .val (.float (1061158912 : UInt32))] [(.int (0 : Int32)), (.ref a1)]))
  obtain ⟨_, _, ⟨T4, L4, k4, n4⟩, -, X4, ⟨Lc4, hQ4, l4, y4, z4⟩, st4⟩ := Jvm.LawKit.callS X3 hx (y := (⟨"java/util/HashMap", "tableSizeFor", "(I)I"⟩ : MethodName)) hown (mvT hZ (hw _ (List.mem_of_getElem? (i := 62) rfl))) (mvT hZ (hw _ (List.mem_of_getElem? (i := 63) rfl))) (mvT hZ (hw _ (List.mem_of_getElem? (i := 39) rfl))) (mvT hZ (hw _ (List.mem_of_getElem? (i := 64) rfl))) (by decide) (own_back (W := 1) (own_rmS l Z a0 hw h3 n0 Z0) hZ (hw _ (List.mem_of_getElem? (i := 64) rfl)) (hw _ (List.mem_of_getElem? (i := 39) rfl)) (by decide) (by decide)) (g := (mkF m 91 #[.val (.ref a1), .val (.int (0 : Int32)), .val (.float (1061158912 : UInt32))] [(.int (0 : Int32)), (.ref a1)])) rfl (by rw [hml]; rfl) (argsL := [(.int (0 : Int32))]) (rest := [(.ref a1)]) (lenOf own_pd0 rfl) rfl (by show 2 * 0 + _ ≤ _; exact Nat.le_of_eq rfl) (hb hby own_d6_91) (fun _ _ => ⟨rfl, e3, (by decide : 0 + 0 ≤ _), (by decide : 0 + 0 ≤ _)⟩)
  dsimp only [Pt.U, Pt.locs, Pt.cells, Pt.slots] at X4 l4 y4 z4 st4 hQ4
  subst l4 y4 z4
  obtain ⟨rfl, Nq4, eq4⟩ := hQ4
  have NF4 := Fr.app NF3 Nq4
  refine own_go st4 ?_
  show own_Go _ _ _ _ (T4.setTop (mkF m 94 #[.val (.ref a1), .val (.int (0 : Int32)), .val (.float (1061158912 : UInt32))] [(.int (1 : Int32)), (.ref a1)]))
  obtain ⟨T5, h5, X5, e5, W5, st5⟩ := putF X4 hx hZ hown (host := "") (Or.inl (hw _ (List.mem_of_getElem? (i := 69) rfl))) Via.refl eq4 F2 E1 (Or.inl (hw _ (List.mem_of_getElem? (i := 70) rfl))) (hw _ (List.mem_of_getElem? (i := 38) rfl)) (ty := .int) (by decide) rfl rfl (g := (mkF m 94 #[.val (.ref a1), .val (.int (0 : Int32)), .val (.float (1061158912 : UInt32))] [(.int (1 : Int32)), (.ref a1)])) rfl rfl (hb hby own_d6_94)
  refine own_go st5 ?_
  have NF5 := Fr.snoc X5 NF4 ge_a1
  replace F2 := F2.same W5
  replace E1 := E1.wr W5
  replace F1 := F1.other W5 (Or.inr (slot_ne (Or.inr (hw _ (List.mem_of_getElem? (i := 61) rfl))) (Or.inl (hw _ (List.mem_of_getElem? (i := 70) rfl))) (by decide) (t := .float) (t' := .int) (by decide) (by decide)))
  replace Z0 := Nat.le_trans Z0 (Keep.of_wr W5).1
  replace K0 := K0.wr W5 (Or.inl (List.mem_of_getElem? (i := 0) rfl))
  show own_Go _ _ _ _ (T5.setTop (mkF m 97 #[.val (.ref a1), .val (.int (0 : Int32)), .val (.float (1061158912 : UInt32))] []))
  refine own_ret X5 hlk (v := none) (fun _ => rfl) (fun fs hr => X5.returnOut hx Bd.returns (hb hby own_d6_97) hr) ?_ (by decide) (by decide)
  try rw [e5]
  exact ⟨rfl, NF5, K0⟩
theorem own_d5_0 : decode jdk_69_method_6_code 0 = .ok (.aload_n 0, 1) := by decide +kernel
theorem own_d5_1 : decode jdk_69_method_6_code 1 = .ok (.iload_n 1, 1) := by decide +kernel
theorem own_d5_2 : decode jdk_69_method_6_code 2 = .ok (.ldc 92, 2) := by decide +kernel
theorem own_d5_4 : decode jdk_69_method_6_code 4 = .ok (.invokespecial 93, 3) := by decide +kernel
theorem own_d5_7 : decode jdk_69_method_6_code 7 = .ok (.return_, 1) := by decide +kernel
theorem own_pd3 : parseMethodDescriptor "(IF)V" = some ⟨[.int, .float], none⟩ := by decide +kernel
set_option maxRecDepth 65536 in
set_option maxHeartbeats 40000000 in
theorem own_rmH1 (l : Launch) (Z : State) (a0 : Array Value) (hw : ∀ d ∈ tables_1, d.before a0 Z = true) (a1 : Addr) (h0 : Heap) (n0 : Nat) (Z0 : n0 ≤ h0.size) (E1 : Exa Z h0 a1 "java/util/HashMap") (F1 : Fld Z h0 a1 "java/util/HashMap" "loadFactor" "F" (.float 0)) (F2 : Fld Z h0 a1 "java/util/HashMap" "threshold" "I" (.int 0)) (ge_a1 : n0 ≤ a1) :
    own_Met l Z [] (⟨"java/util/HashMap", "<init>", "(I)V"⟩ : MethodName) jdk_69_method_6_code 2 none ({ frames := 3, cells := 0, slots := 0, locals := 42 } : Room) #[(.ref a1), (.int (0 : Int32))] h0 (fun v h L => v = none ∧ Fr n0 L ∧ Keep h0 h [a1]) := by
  refine MetFree.of_bodySF (plainFor_of_name own_pn1) hisR ?_
  intro p e s m args below meth c s₁ Bd hml0 hP hK
  obtain ⟨rfl, hZ, hh⟩ := hP
  have hx := Bd.exec
  have hby := Bd.bytes
  have hml : c.maxLocals = 2 := hml0
  have hown : s.vm.findClass "java/util/HashMap" = some m.cls := findClass_of_methodNamed Bd.named
  have hnm := (name_of_methodNamed Bd.named Bd.method).1
  have hlk : meth.locks = false := Bd.notSynchronized
  have X0 : Stand p l e ({ frames := 3, cells := 0, slots := 0, locals := 42 } : Room) s m #[(.ref a1), (.int (0 : Int32))] below meth c s₁ [] 0 0 := Stand.of_body Bd
  have e0 : s₁.heap = h0 := by rw [← hh, Bd.state]; rfl
  have N0 := Fr.nil n0
  refine own_body (Q := fun v h L => v = none ∧ Fr n0 L ∧ Keep h0 h [a1]) ?_
  refine own_go (fun _ kont => castTop (own_ef m #[(.ref a1), (.int (0 : Int32))] 2 #[.val (.ref a1), .val (.int (0 : Int32))] (own_al [(.ref a1), (.int (0 : Int32))] 2 [.val (.ref a1), .val (.int (0 : Int32))] rfl)) kont) ?_
  show own_Go _ _ _ _ (s₁.setTop (mkF m 0 #[.val (.ref a1), .val (.int (0 : Int32))] []))
  have K0 : Keep h0 h0 [a1] := Keep.refl _ _
  refine own_go (fun _ kont => XS.aloadN X0.here hx rfl (hb hby own_d5_0) rfl rfl kont) ?_
  show own_Go _ _ _ _ (s₁.setTop (mkF m 1 #[.val (.ref a1), .val (.int (0 : Int32))] [(.ref a1)]))
  refine own_go (fun _ kont => XS.iloadN X0.here hx rfl (hb hby own_d5_1) rfl kont) ?_
  show own_Go _ _ _ _ (s₁.setTop (mkF m 2 #[.val (.ref a1), .val (.int (0 : Int32))] [(.int (0 : Int32)), (.ref a1)]))
  refine own_go (X0.ldcFloatC hx hown (mvT hZ (hw _ (List.mem_of_getElem? (i := 43) rfl))) (g := (mkF m 2 #[.val (.ref a1), .val (.int (0 : Int32))] [(.int (0 : Int32)), (.ref a1)])) rfl (hb hby own_d5_2)) ?_
  show own_Go _ _ _ _ (s₁.setTop (mkF m 4 #[.val (.ref a1), .val (.int (0 : Int32))] [(.float (1061158912 : UInt32)), (.int (0 : Int32)), (.ref a1)]))
  obtain ⟨_, _, ⟨T1, L1, k1, n1⟩, -, X1, ⟨Lc1, hQ1, l1, y1, z1⟩, st1⟩ := X0.specialBack hx (y := (⟨"java/util/HashMap", "<init>", "(IF)V"⟩ : MethodName)) rfl hown (mvT hZ (hw _ (List.mem_of_getElem? (i := 44) rfl))) (mvT hZ (hw _ (List.mem_of_getElem? (i := 45) rfl))) (mvT hZ (hw _ (List.mem_of_getElem? (i := 47) rfl))) (by decide) (own_back (W := 0) (own_rmH2 l Z a0 hw a1 h0 n0 Z0 E1 F1 F2 ge_a1) hZ (hw _ (List.mem_of_getElem? (i := 47) rfl)) (hw _ (List.mem_of_getElem? (i := 39) rfl)) (by decide) (by decide)) (g := (mkF m 4 #[.val (.ref a1), .val (.int (0 : Int32))] [(.float (1061158912 : UInt32)), (.int (0 : Int32)), (.ref a1)])) rfl (by rw [hml]; rfl) (Steps.refl _) (a := a1) (argsL := [(.int (0 : Int32)), (.float (1061158912 : UInt32))]) (rest := []) (lenOf own_pd3 rfl) rfl (by show 2 * 0 + _ ≤ _; exact Nat.le_of_eq rfl) (hb hby own_d5_4) (fun _ _ => ⟨rfl, e0, (by decide : 0 + 0 ≤ _), (by decide : 0 + 0 ≤ _)⟩)
  dsimp only [Pt.U, Pt.locs, Pt.cells, Pt.slots] at X1 l1 y1 z1 st1 hQ1
  subst l1 y1 z1
  obtain ⟨rfl, Nq1, K1⟩ := hQ1
  have NF1 := Fr.app N0 Nq1
  refine own_goT st1 ?_
  replace E1 := E1.keep K1
  replace Z0 := Nat.le_trans Z0 K1.1
  replace K0 := K0.trans K1 (allS (Or.inl (List.mem_of_getElem? (i := 0) rfl)) all0)
  show own_Go _ _ _ _ (T1.setTop (mkF m 7 #[.val (.ref a1), .val (.int (0 : Int32))] []))
  refine own_ret X1 hlk (v := none) (fun _ => rfl) (fun fs hr => X1.returnOut hx Bd.returns (hb hby own_d5_7) hr) ?_ (by decide) (by decide)
  skip
  exact ⟨rfl, NF1, K0⟩
theorem own_d3_0 : decode prog_16_method_1_code 0 = .ok (.aload_n 0, 1) := by decide +kernel
theorem own_d3_1 : decode prog_16_method_1_code 1 = .ok (.invokespecial 1, 3) := by decide +kernel
theorem own_d3_4 : decode prog_16_method_1_code 4 = .ok (.aload_n 0, 1) := by decide +kernel
theorem own_d3_5 : decode prog_16_method_1_code 5 = .ok (.aload_n 1, 1) := by decide +kernel
theorem own_d3_6 : decode prog_16_method_1_code 6 = .ok (.putfield 7, 3) := by decide +kernel
theorem own_d3_9 : decode prog_16_method_1_code 9 = .ok (.aload_n 0, 1) := by decide +kernel
theorem own_d3_10 : decode prog_16_method_1_code 10 = .ok (.aload_n 2, 1) := by decide +kernel
theorem own_d3_11 : decode prog_16_method_1_code 11 = .ok (.putfield 13, 3) := by decide +kernel
theorem own_d3_14 : decode prog_16_method_1_code 14 = .ok (.aload_n 0, 1) := by decide +kernel
theorem own_d3_15 : decode prog_16_method_1_code 15 = .ok (.aload_n 3, 1) := by decide +kernel
theorem own_d3_16 : decode prog_16_method_1_code 16 = .ok (.putfield 17, 3) := by decide +kernel
theorem own_d3_19 : decode prog_16_method_1_code 19 = .ok (.aload_n 0, 1) := by decide +kernel
theorem own_d3_20 : decode prog_16_method_1_code 20 = .ok (.aload 4, 2) := by decide +kernel
theorem own_d3_22 : decode prog_16_method_1_code 22 = .ok (.putfield 20, 3) := by decide +kernel
theorem own_d3_25 : decode prog_16_method_1_code 25 = .ok (.aload_n 0, 1) := by decide +kernel
theorem own_d3_26 : decode prog_16_method_1_code 26 = .ok (.aload 5, 2) := by decide +kernel
theorem own_d3_28 : decode prog_16_method_1_code 28 = .ok (.putfield 23, 3) := by decide +kernel
theorem own_d3_31 : decode prog_16_method_1_code 31 = .ok (.aload_n 0, 1) := by decide +kernel
theorem own_d3_32 : decode prog_16_method_1_code 32 = .ok (.aload 6, 2) := by decide +kernel
theorem own_d3_34 : decode prog_16_method_1_code 34 = .ok (.putfield 26, 3) := by decide +kernel
theorem own_d3_37 : decode prog_16_method_1_code 37 = .ok (.aload_n 0, 1) := by decide +kernel
theorem own_d3_38 : decode prog_16_method_1_code 38 = .ok (.aload 7, 2) := by decide +kernel
theorem own_d3_40 : decode prog_16_method_1_code 40 = .ok (.putfield 29, 3) := by decide +kernel
theorem own_d3_43 : decode prog_16_method_1_code 43 = .ok (.aload_n 0, 1) := by decide +kernel
theorem own_d3_44 : decode prog_16_method_1_code 44 = .ok (.aload 8, 2) := by decide +kernel
theorem own_d3_46 : decode prog_16_method_1_code 46 = .ok (.putfield 32, 3) := by decide +kernel
theorem own_d3_49 : decode prog_16_method_1_code 49 = .ok (.aload_n 0, 1) := by decide +kernel
theorem own_d3_50 : decode prog_16_method_1_code 50 = .ok (.new 35, 3) := by decide +kernel
theorem own_d3_53 : decode prog_16_method_1_code 53 = .ok (.dup, 1) := by decide +kernel
theorem own_d3_54 : decode prog_16_method_1_code 54 = .ok (.iconst 2, 1) := by decide +kernel
theorem own_d3_55 : decode prog_16_method_1_code 55 = .ok (.aload 4, 2) := by decide +kernel
theorem own_d3_57 : decode prog_16_method_1_code 57 = .ok (.arraylength, 1) := by decide +kernel
theorem own_d3_58 : decode prog_16_method_1_code 58 = .ok (.imul, 1) := by decide +kernel
theorem own_d3_59 : decode prog_16_method_1_code 59 = .ok (.invokespecial 37, 3) := by decide +kernel
theorem own_d3_62 : decode prog_16_method_1_code 62 = .ok (.putfield 40, 3) := by decide +kernel
theorem own_d3_65 : decode prog_16_method_1_code 65 = .ok (.iconst 0, 1) := by decide +kernel
theorem own_d3_66 : decode prog_16_method_1_code 66 = .ok (.istore 9, 2) := by decide +kernel
theorem own_d3_68 : decode prog_16_method_1_code 68 = .ok (.iload 9, 2) := by decide +kernel
theorem own_d3_70 : decode prog_16_method_1_code 70 = .ok (.aload 4, 2) := by decide +kernel
theorem own_d3_72 : decode prog_16_method_1_code 72 = .ok (.arraylength, 1) := by decide +kernel
theorem own_d3_73 : decode prog_16_method_1_code 73 = .ok (.if_icmp .ge 29, 3) := by decide +kernel
theorem own_d3_76 : decode prog_16_method_1_code 76 = .ok (.aload_n 0, 1) := by decide +kernel
theorem own_d3_77 : decode prog_16_method_1_code 77 = .ok (.getfield 40, 3) := by decide +kernel
theorem own_d3_80 : decode prog_16_method_1_code 80 = .ok (.aload 4, 2) := by decide +kernel
theorem own_d3_82 : decode prog_16_method_1_code 82 = .ok (.iload 9, 2) := by decide +kernel
theorem own_d3_84 : decode prog_16_method_1_code 84 = .ok (.aaload, 1) := by decide +kernel
theorem own_d3_85 : decode prog_16_method_1_code 85 = .ok (.iload 9, 2) := by decide +kernel
theorem own_d3_87 : decode prog_16_method_1_code 87 = .ok (.invokestatic 44, 3) := by decide +kernel
theorem own_d3_90 : decode prog_16_method_1_code 90 = .ok (.invokeinterface 50 3, 5) := by decide +kernel
theorem own_d3_95 : decode prog_16_method_1_code 95 = .ok (.pop, 1) := by decide +kernel
theorem own_d3_96 : decode prog_16_method_1_code 96 = .ok (.iinc 9 1, 3) := by decide +kernel
theorem own_d3_99 : decode prog_16_method_1_code 99 = .ok (.goto (-31), 3) := by decide +kernel
theorem own_d3_102 : decode prog_16_method_1_code 102 = .ok (.return_, 1) := by decide +kernel
theorem own_pn3 : plainName "com/example/lissage/lissage/Index" = true := by first | (simp [plainName, overriddenIn]; done) | decide +kernel
theorem own_pd4 : parseMethodDescriptor "(I)V" = some ⟨[.int], none⟩ := by decide +kernel
set_option maxRecDepth 65536 in
set_option maxHeartbeats 40000000 in
theorem own_rmI (l : Launch) (Z : State) (a0 : Array Value) (hw : ∀ d ∈ tables_1, d.before a0 Z = true) (t : Addr) (a1 : Addr) (a2 : Addr) (a3 : Addr) (a4 : Addr) (a5 : Addr) (a6 : Addr) (a7 : Addr) (a8 : Addr) (k4 : ClassId) (h0 : Heap) (n0 : Nat) (Z0 : n0 ≤ h0.size) (E1 : Exa Z h0 t "com/example/lissage/lissage/Index") (F_docnos : Fld Z h0 t "com/example/lissage/lissage/Index" "docnos" "[Ljava/lang/String;" .null) (F_documentStarts : Fld Z h0 t "com/example/lissage/lissage/Index" "documentStarts" "[I" .null) (F_documentTerms : Fld Z h0 t "com/example/lissage/lissage/Index" "documentTerms" "[I" .null) (F_terms : Fld Z h0 t "com/example/lissage/lissage/Index" "terms" "[Ljava/lang/String;" .null) (F_termStarts : Fld Z h0 t "com/example/lissage/lissage/Index" "termStarts" "[I" .null) (F_postingDocuments : Fld Z h0 t "com/example/lissage/lissage/Index" "postingDocuments" "[I" .null) (F_postingStarts : Fld Z h0 t "com/example/lissage/lissage/Index" "postingStarts" "[I" .null) (F_positions : Fld Z h0 t "com/example/lissage/lissage/Index" "positions" "[I" .null) (F_termNumbers : Fld Z h0 t "com/example/lissage/lissage/Index" "termNumbers" "Ljava/util/Map;" .null) (ge_t : n0 ≤ t) (V4 : Arv Z h0 a4 k4 (.object "java/lang/String") 0 [] .null) (ne_t_a4 : t ≠ a4) :
    own_Met l Z [] (⟨"com/example/lissage/lissage/Index", "<init>", "([Ljava/lang/String;[I[I[Ljava/lang/String;[I[I[I[I)V"⟩ : MethodName) prog_16_method_1_code 10 none ({ frames := 4, cells := 1, slots := 8, locals := 57 } : Room) #[(.ref t), (.ref a1), (.ref a2), (.ref a3), (.ref a4), (.ref a5), (.ref a6), (.ref a7), (.ref a8)] h0 (fun v h L => v = none ∧ Fr n0 L ∧ Keep h0 h [t] ∧ Exa Z h t "com/example/lissage/lissage/Index" ∧ Fld Z h t "com/example/lissage/lissage/Index" "postingStarts" "[I" (.ref a7) ∧ Fld Z h t "com/example/lissage/lissage/Index" "docnos" "[Ljava/lang/String;" (.ref a1) ∧ Fld Z h t "com/example/lissage/lissage/Index" "documentTerms" "[I" (.ref a3)) := by
  refine MetFree.of_bodySF (plainFor_of_name own_pn3) hisR ?_
  intro p e s m args below meth c s₁ Bd hml0 hP hK
  obtain ⟨rfl, hZ, hh⟩ := hP
  have hx := Bd.exec
  have hby := Bd.bytes
  have hml : c.maxLocals = 10 := hml0
  have hown : s.vm.findClass "com/example/lissage/lissage/Index" = some m.cls := findClass_of_methodNamed Bd.named
  have hnm := (name_of_methodNamed Bd.named Bd.method).1
  have hlk : meth.locks = false := Bd.notSynchronized
  have X0 : Stand p l e ({ frames := 4, cells := 1, slots := 8, locals := 57 } : Room) s m #[(.ref t), (.ref a1), (.ref a2), (.ref a3), (.ref a4), (.ref a5), (.ref a6), (.ref a7), (.ref a8)] below meth c s₁ [] 0 0 := Stand.of_body Bd
  have e0 : s₁.heap = h0 := by rw [← hh, Bd.state]; rfl
  have N0 := Fr.nil n0
  refine own_body (Q := fun v h L => v = none ∧ Fr n0 L ∧ Keep h0 h [t] ∧ Exa Z h t "com/example/lissage/lissage/Index" ∧ Fld Z h t "com/example/lissage/lissage/Index" "postingStarts" "[I" (.ref a7) ∧ Fld Z h t "com/example/lissage/lissage/Index" "docnos" "[Ljava/lang/String;" (.ref a1) ∧ Fld Z h t "com/example/lissage/lissage/Index" "documentTerms" "[I" (.ref a3)) ?_
  refine own_go (fun _ kont => castTop (own_ef m #[(.ref t), (.ref a1), (.ref a2), (.ref a3), (.ref a4), (.ref a5), (.ref a6), (.ref a7), (.ref a8)] 10 #[.val (.ref t), .val (.ref a1), .val (.ref a2), .val (.ref a3), .val (.ref a4), .val (.ref a5), .val (.ref a6), .val (.ref a7), .val (.ref a8), .unset] (own_al [(.ref t), (.ref a1), (.ref a2), (.ref a3), (.ref a4), (.ref a5), (.ref a6), (.ref a7), (.ref a8)] 10 [.val (.ref t), .val (.ref a1), .val (.ref a2), .val (.ref a3), .val (.ref a4), .val (.ref a5), .val (.ref a6), .val (.ref a7), .val (.ref a8), .unset] rfl)) kont) ?_
  show own_Go _ _ _ _ (s₁.setTop (mkF m 0 #[.val (.ref t), .val (.ref a1), .val (.ref a2), .val (.ref a3), .val (.ref a4), .val (.ref a5), .val (.ref a6), .val (.ref a7), .val (.ref a8), .unset] []))
  have K0 : Keep h0 h0 [t] := Keep.refl _ _
  refine own_go (fun _ kont => XS.aloadN X0.here hx rfl (hb hby own_d3_0) rfl rfl kont) ?_
  show own_Go _ _ _ _ (s₁.setTop (mkF m 1 #[.val (.ref t), .val (.ref a1), .val (.ref a2), .val (.ref a3), .val (.ref a4), .val (.ref a5), .val (.ref a6), .val (.ref a7), .val (.ref a8), .unset] [(.ref t)]))
  obtain ⟨T1, X1, e1, st1⟩ := initO X0 hx hZ hown (hw _ (List.mem_of_getElem? (i := 18) rfl)) (hw _ (List.mem_of_getElem? (i := 19) rfl)) (hw _ (List.mem_of_getElem? (i := 20) rfl)) e0 (g := (mkF m 1 #[.val (.ref t), .val (.ref a1), .val (.ref a2), .val (.ref a3), .val (.ref a4), .val (.ref a5), .val (.ref a6), .val (.ref a7), .val (.ref a8), .unset] [(.ref t)])) rfl (by rw [hml]; rfl) rfl (hb hby own_d3_1) (by decide) (W := 0) (by show 2 * 0 + _ ≤ _; exact Nat.le_of_eq rfl) (by decide)
  refine own_go st1 ?_
  show own_Go _ _ _ _ (T1.setTop (mkF m 4 #[.val (.ref t), .val (.ref a1), .val (.ref a2), .val (.ref a3), .val (.ref a4), .val (.ref a5), .val (.ref a6), .val (.ref a7), .val (.ref a8), .unset] []))
  refine own_go (fun _ kont => XS.aloadN X1.here hx rfl (hb hby own_d3_4) rfl rfl kont) ?_
  show own_Go _ _ _ _ (T1.setTop (mkF m 5 #[.val (.ref t), .val (.ref a1), .val (.ref a2), .val (.ref a3), .val (.ref a4), .val (.ref a5), .val (.ref a6), .val (.ref a7), .val (.ref a8), .unset] [(.ref t)]))
  refine own_go (fun _ kont => XS.aloadN X1.here hx rfl (hb hby own_d3_5) rfl rfl kont) ?_
  show own_Go _ _ _ _ (T1.setTop (mkF m 6 #[.val (.ref t), .val (.ref a1), .val (.ref a2), .val (.ref a3), .val (.ref a4), .val (.ref a5), .val (.ref a6), .val (.ref a7), .val (.ref a8), .unset] [(.ref a1), (.ref t)]))
  obtain ⟨T2, h2, X2, e2, W2, st2⟩ := putF X1 hx hZ hown (host := "") (Or.inl (hw _ (List.mem_of_getElem? (i := 21) rfl))) Via.refl e1 F_docnos E1 (Or.inr ⟨(hw _ (List.mem_of_getElem? (i := 22) rfl)), rfl, hnm⟩) (hw _ (List.mem_of_getElem? (i := 11) rfl)) (ty := (.array (.object "java/lang/String"))) (by decide) rfl rfl (g := (mkF m 6 #[.val (.ref t), .val (.ref a1), .val (.ref a2), .val (.ref a3), .val (.ref a4), .val (.ref a5), .val (.ref a6), .val (.ref a7), .val (.ref a8), .unset] [(.ref a1), (.ref t)])) rfl rfl (hb hby own_d3_6)
  refine own_go st2 ?_
  have NF2 := Fr.snoc X2 N0 ge_t
  replace F_docnos := F_docnos.same W2
  replace E1 := E1.wr W2
  replace F_documentStarts := F_documentStarts.other W2 (Or.inr (slot_ne (Or.inr (hw _ (List.mem_of_getElem? (i := 24) rfl))) (Or.inr (hw _ (List.mem_of_getElem? (i := 22) rfl))) (by decide) (t := (.array .int)) (t' := (.array (.object "java/lang/String"))) (by decide) (by decide)))
  replace F_documentTerms := F_documentTerms.other W2 (Or.inr (slot_ne (Or.inr (hw _ (List.mem_of_getElem? (i := 26) rfl))) (Or.inr (hw _ (List.mem_of_getElem? (i := 22) rfl))) (by decide) (t := (.array .int)) (t' := (.array (.object "java/lang/String"))) (by decide) (by decide)))
  replace F_terms := F_terms.other W2 (Or.inr (slot_ne (Or.inr (hw _ (List.mem_of_getElem? (i := 28) rfl))) (Or.inr (hw _ (List.mem_of_getElem? (i := 22) rfl))) (by decide) (t := (.array (.object "java/lang/String"))) (t' := (.array (.object "java/lang/String"))) (by decide) (by decide)))
  replace F_termStarts := F_termStarts.other W2 (Or.inr (slot_ne (Or.inr (hw _ (List.mem_of_getElem? (i := 30) rfl))) (Or.inr (hw _ (List.mem_of_getElem? (i := 22) rfl))) (by decide) (t := (.array .int)) (t' := (.array (.object "java/lang/String"))) (by decide) (by decide)))
  replace F_postingDocuments := F_postingDocuments.other W2 (Or.inr (slot_ne (Or.inr (hw _ (List.mem_of_getElem? (i := 32) rfl))) (Or.inr (hw _ (List.mem_of_getElem? (i := 22) rfl))) (by decide) (t := (.array .int)) (t' := (.array (.object "java/lang/String"))) (by decide) (by decide)))
  replace F_postingStarts := F_postingStarts.other W2 (Or.inr (slot_ne (Or.inr (hw _ (List.mem_of_getElem? (i := 34) rfl))) (Or.inr (hw _ (List.mem_of_getElem? (i := 22) rfl))) (by decide) (t := (.array .int)) (t' := (.array (.object "java/lang/String"))) (by decide) (by decide)))
  replace F_positions := F_positions.other W2 (Or.inr (slot_ne (Or.inr (hw _ (List.mem_of_getElem? (i := 36) rfl))) (Or.inr (hw _ (List.mem_of_getElem? (i := 22) rfl))) (by decide) (t := (.array .int)) (t' := (.array (.object "java/lang/String"))) (by decide) (by decide)))
  replace F_termNumbers := F_termNumbers.other W2 (Or.inr (slot_ne (Or.inr (hw _ (List.mem_of_getElem? (i := 72) rfl))) (Or.inr (hw _ (List.mem_of_getElem? (i := 22) rfl))) (by decide) (t := (.object "java/util/Map")) (t' := (.array (.object "java/lang/String"))) (by decide) (by decide)))
  replace V4 := V4.other W2 (Ne.symm ne_t_a4)
  replace Z0 := Nat.le_trans Z0 (Keep.of_wr W2).1
  replace K0 := K0.wr W2 (Or.inl (List.mem_of_getElem? (i := 0) rfl))
  show own_Go _ _ _ _ (T2.setTop (mkF m 9 #[.val (.ref t), .val (.ref a1), .val (.ref a2), .val (.ref a3), .val (.ref a4), .val (.ref a5), .val (.ref a6), .val (.ref a7), .val (.ref a8), .unset] []))
  refine own_go (fun _ kont => XS.aloadN X2.here hx rfl (hb hby own_d3_9) rfl rfl kont) ?_
  show own_Go _ _ _ _ (T2.setTop (mkF m 10 #[.val (.ref t), .val (.ref a1), .val (.ref a2), .val (.ref a3), .val (.ref a4), .val (.ref a5), .val (.ref a6), .val (.ref a7), .val (.ref a8), .unset] [(.ref t)]))
  refine own_go (fun _ kont => XS.aloadN X2.here hx rfl (hb hby own_d3_10) rfl rfl kont) ?_
  show own_Go _ _ _ _ (T2.setTop (mkF m 11 #[.val (.ref t), .val (.ref a1), .val (.ref a2), .val (.ref a3), .val (.ref a4), .val (.ref a5), .val (.ref a6), .val (.ref a7), .val (.ref a8), .unset] [(.ref a2), (.ref t)]))
  obtain ⟨T3, h3, X3, e3, W3, st3⟩ := putF X2 hx hZ hown (host := "") (Or.inl (hw _ (List.mem_of_getElem? (i := 23) rfl))) Via.refl e2 F_documentStarts E1 (Or.inr ⟨(hw _ (List.mem_of_getElem? (i := 24) rfl)), rfl, hnm⟩) (hw _ (List.mem_of_getElem? (i := 11) rfl)) (ty := (.array .int)) (by decide) rfl rfl (g := (mkF m 11 #[.val (.ref t), .val (.ref a1), .val (.ref a2), .val (.ref a3), .val (.ref a4), .val (.ref a5), .val (.ref a6), .val (.ref a7), .val (.ref a8), .unset] [(.ref a2), (.ref t)])) rfl rfl (hb hby own_d3_11)
  refine own_go st3 ?_
  have NF3 := Fr.snoc X3 NF2 ge_t
  replace F_documentStarts := F_documentStarts.same W3
  replace E1 := E1.wr W3
  replace F_docnos := F_docnos.other W3 (Or.inr (slot_ne (Or.inr (hw _ (List.mem_of_getElem? (i := 22) rfl))) (Or.inr (hw _ (List.mem_of_getElem? (i := 24) rfl))) (by decide) (t := (.array (.object "java/lang/String"))) (t' := (.array .int)) (by decide) (by decide)))
  replace F_documentTerms := F_documentTerms.other W3 (Or.inr (slot_ne (Or.inr (hw _ (List.mem_of_getElem? (i := 26) rfl))) (Or.inr (hw _ (List.mem_of_getElem? (i := 24) rfl))) (by decide) (t := (.array .int)) (t' := (.array .int)) (by decide) (by decide)))
  replace F_terms := F_terms.other W3 (Or.inr (slot_ne (Or.inr (hw _ (List.mem_of_getElem? (i := 28) rfl))) (Or.inr (hw _ (List.mem_of_getElem? (i := 24) rfl))) (by decide) (t := (.array (.object "java/lang/String"))) (t' := (.array .int)) (by decide) (by decide)))
  replace F_termStarts := F_termStarts.other W3 (Or.inr (slot_ne (Or.inr (hw _ (List.mem_of_getElem? (i := 30) rfl))) (Or.inr (hw _ (List.mem_of_getElem? (i := 24) rfl))) (by decide) (t := (.array .int)) (t' := (.array .int)) (by decide) (by decide)))
  replace F_postingDocuments := F_postingDocuments.other W3 (Or.inr (slot_ne (Or.inr (hw _ (List.mem_of_getElem? (i := 32) rfl))) (Or.inr (hw _ (List.mem_of_getElem? (i := 24) rfl))) (by decide) (t := (.array .int)) (t' := (.array .int)) (by decide) (by decide)))
  replace F_postingStarts := F_postingStarts.other W3 (Or.inr (slot_ne (Or.inr (hw _ (List.mem_of_getElem? (i := 34) rfl))) (Or.inr (hw _ (List.mem_of_getElem? (i := 24) rfl))) (by decide) (t := (.array .int)) (t' := (.array .int)) (by decide) (by decide)))
  replace F_positions := F_positions.other W3 (Or.inr (slot_ne (Or.inr (hw _ (List.mem_of_getElem? (i := 36) rfl))) (Or.inr (hw _ (List.mem_of_getElem? (i := 24) rfl))) (by decide) (t := (.array .int)) (t' := (.array .int)) (by decide) (by decide)))
  replace F_termNumbers := F_termNumbers.other W3 (Or.inr (slot_ne (Or.inr (hw _ (List.mem_of_getElem? (i := 72) rfl))) (Or.inr (hw _ (List.mem_of_getElem? (i := 24) rfl))) (by decide) (t := (.object "java/util/Map")) (t' := (.array .int)) (by decide) (by decide)))
  replace V4 := V4.other W3 (Ne.symm ne_t_a4)
  replace Z0 := Nat.le_trans Z0 (Keep.of_wr W3).1
  replace K0 := K0.wr W3 (Or.inl (List.mem_of_getElem? (i := 0) rfl))
  show own_Go _ _ _ _ (T3.setTop (mkF m 14 #[.val (.ref t), .val (.ref a1), .val (.ref a2), .val (.ref a3), .val (.ref a4), .val (.ref a5), .val (.ref a6), .val (.ref a7), .val (.ref a8), .unset] []))
  refine own_go (fun _ kont => XS.aloadN X3.here hx rfl (hb hby own_d3_14) rfl rfl kont) ?_
  show own_Go _ _ _ _ (T3.setTop (mkF m 15 #[.val (.ref t), .val (.ref a1), .val (.ref a2), .val (.ref a3), .val (.ref a4), .val (.ref a5), .val (.ref a6), .val (.ref a7), .val (.ref a8), .unset] [(.ref t)]))
  refine own_go (fun _ kont => XS.aloadN X3.here hx rfl (hb hby own_d3_15) rfl rfl kont) ?_
  show own_Go _ _ _ _ (T3.setTop (mkF m 16 #[.val (.ref t), .val (.ref a1), .val (.ref a2), .val (.ref a3), .val (.ref a4), .val (.ref a5), .val (.ref a6), .val (.ref a7), .val (.ref a8), .unset] [(.ref a3), (.ref t)]))
  obtain ⟨T4, h4, X4, e4, W4, st4⟩ := putF X3 hx hZ hown (host := "") (Or.inl (hw _ (List.mem_of_getElem? (i := 25) rfl))) Via.refl e3 F_documentTerms E1 (Or.inr ⟨(hw _ (List.mem_of_getElem? (i := 26) rfl)), rfl, hnm⟩) (hw _ (List.mem_of_getElem? (i := 11) rfl)) (ty := (.array .int)) (by decide) rfl rfl (g := (mkF m 16 #[.val (.ref t), .val (.ref a1), .val (.ref a2), .val (.ref a3), .val (.ref a4), .val (.ref a5), .val (.ref a6), .val (.ref a7), .val (.ref a8), .unset] [(.ref a3), (.ref t)])) rfl rfl (hb hby own_d3_16)
  refine own_go st4 ?_
  have NF4 := Fr.snoc X4 NF3 ge_t
  replace F_documentTerms := F_documentTerms.same W4
  replace E1 := E1.wr W4
  replace F_docnos := F_docnos.other W4 (Or.inr (slot_ne (Or.inr (hw _ (List.mem_of_getElem? (i := 22) rfl))) (Or.inr (hw _ (List.mem_of_getElem? (i := 26) rfl))) (by decide) (t := (.array (.object "java/lang/String"))) (t' := (.array .int)) (by decide) (by decide)))
  replace F_documentStarts := F_documentStarts.other W4 (Or.inr (slot_ne (Or.inr (hw _ (List.mem_of_getElem? (i := 24) rfl))) (Or.inr (hw _ (List.mem_of_getElem? (i := 26) rfl))) (by decide) (t := (.array .int)) (t' := (.array .int)) (by decide) (by decide)))
  replace F_terms := F_terms.other W4 (Or.inr (slot_ne (Or.inr (hw _ (List.mem_of_getElem? (i := 28) rfl))) (Or.inr (hw _ (List.mem_of_getElem? (i := 26) rfl))) (by decide) (t := (.array (.object "java/lang/String"))) (t' := (.array .int)) (by decide) (by decide)))
  replace F_termStarts := F_termStarts.other W4 (Or.inr (slot_ne (Or.inr (hw _ (List.mem_of_getElem? (i := 30) rfl))) (Or.inr (hw _ (List.mem_of_getElem? (i := 26) rfl))) (by decide) (t := (.array .int)) (t' := (.array .int)) (by decide) (by decide)))
  replace F_postingDocuments := F_postingDocuments.other W4 (Or.inr (slot_ne (Or.inr (hw _ (List.mem_of_getElem? (i := 32) rfl))) (Or.inr (hw _ (List.mem_of_getElem? (i := 26) rfl))) (by decide) (t := (.array .int)) (t' := (.array .int)) (by decide) (by decide)))
  replace F_postingStarts := F_postingStarts.other W4 (Or.inr (slot_ne (Or.inr (hw _ (List.mem_of_getElem? (i := 34) rfl))) (Or.inr (hw _ (List.mem_of_getElem? (i := 26) rfl))) (by decide) (t := (.array .int)) (t' := (.array .int)) (by decide) (by decide)))
  replace F_positions := F_positions.other W4 (Or.inr (slot_ne (Or.inr (hw _ (List.mem_of_getElem? (i := 36) rfl))) (Or.inr (hw _ (List.mem_of_getElem? (i := 26) rfl))) (by decide) (t := (.array .int)) (t' := (.array .int)) (by decide) (by decide)))
  replace F_termNumbers := F_termNumbers.other W4 (Or.inr (slot_ne (Or.inr (hw _ (List.mem_of_getElem? (i := 72) rfl))) (Or.inr (hw _ (List.mem_of_getElem? (i := 26) rfl))) (by decide) (t := (.object "java/util/Map")) (t' := (.array .int)) (by decide) (by decide)))
  replace V4 := V4.other W4 (Ne.symm ne_t_a4)
  replace Z0 := Nat.le_trans Z0 (Keep.of_wr W4).1
  replace K0 := K0.wr W4 (Or.inl (List.mem_of_getElem? (i := 0) rfl))
  show own_Go _ _ _ _ (T4.setTop (mkF m 19 #[.val (.ref t), .val (.ref a1), .val (.ref a2), .val (.ref a3), .val (.ref a4), .val (.ref a5), .val (.ref a6), .val (.ref a7), .val (.ref a8), .unset] []))
  refine own_go (fun _ kont => XS.aloadN X4.here hx rfl (hb hby own_d3_19) rfl rfl kont) ?_
  show own_Go _ _ _ _ (T4.setTop (mkF m 20 #[.val (.ref t), .val (.ref a1), .val (.ref a2), .val (.ref a3), .val (.ref a4), .val (.ref a5), .val (.ref a6), .val (.ref a7), .val (.ref a8), .unset] [(.ref t)]))
  refine own_go (fun _ kont => XS.aload X4.here hx rfl (hb hby own_d3_20) rfl rfl kont) ?_
  show own_Go _ _ _ _ (T4.setTop (mkF m 22 #[.val (.ref t), .val (.ref a1), .val (.ref a2), .val (.ref a3), .val (.ref a4), .val (.ref a5), .val (.ref a6), .val (.ref a7), .val (.ref a8), .unset] [(.ref a4), (.ref t)]))
  obtain ⟨T5, h5, X5, e5, W5, st5⟩ := putF X4 hx hZ hown (host := "") (Or.inl (hw _ (List.mem_of_getElem? (i := 27) rfl))) Via.refl e4 F_terms E1 (Or.inr ⟨(hw _ (List.mem_of_getElem? (i := 28) rfl)), rfl, hnm⟩) (hw _ (List.mem_of_getElem? (i := 11) rfl)) (ty := (.array (.object "java/lang/String"))) (by decide) rfl rfl (g := (mkF m 22 #[.val (.ref t), .val (.ref a1), .val (.ref a2), .val (.ref a3), .val (.ref a4), .val (.ref a5), .val (.ref a6), .val (.ref a7), .val (.ref a8), .unset] [(.ref a4), (.ref t)])) rfl rfl (hb hby own_d3_22)
  refine own_go st5 ?_
  have NF5 := Fr.snoc X5 NF4 ge_t
  replace F_terms := F_terms.same W5
  replace E1 := E1.wr W5
  replace F_docnos := F_docnos.other W5 (Or.inr (slot_ne (Or.inr (hw _ (List.mem_of_getElem? (i := 22) rfl))) (Or.inr (hw _ (List.mem_of_getElem? (i := 28) rfl))) (by decide) (t := (.array (.object "java/lang/String"))) (t' := (.array (.object "java/lang/String"))) (by decide) (by decide)))
  replace F_documentStarts := F_documentStarts.other W5 (Or.inr (slot_ne (Or.inr (hw _ (List.mem_of_getElem? (i := 24) rfl))) (Or.inr (hw _ (List.mem_of_getElem? (i := 28) rfl))) (by decide) (t := (.array .int)) (t' := (.array (.object "java/lang/String"))) (by decide) (by decide)))
  replace F_documentTerms := F_documentTerms.other W5 (Or.inr (slot_ne (Or.inr (hw _ (List.mem_of_getElem? (i := 26) rfl))) (Or.inr (hw _ (List.mem_of_getElem? (i := 28) rfl))) (by decide) (t := (.array .int)) (t' := (.array (.object "java/lang/String"))) (by decide) (by decide)))
  replace F_termStarts := F_termStarts.other W5 (Or.inr (slot_ne (Or.inr (hw _ (List.mem_of_getElem? (i := 30) rfl))) (Or.inr (hw _ (List.mem_of_getElem? (i := 28) rfl))) (by decide) (t := (.array .int)) (t' := (.array (.object "java/lang/String"))) (by decide) (by decide)))
  replace F_postingDocuments := F_postingDocuments.other W5 (Or.inr (slot_ne (Or.inr (hw _ (List.mem_of_getElem? (i := 32) rfl))) (Or.inr (hw _ (List.mem_of_getElem? (i := 28) rfl))) (by decide) (t := (.array .int)) (t' := (.array (.object "java/lang/String"))) (by decide) (by decide)))
  replace F_postingStarts := F_postingStarts.other W5 (Or.inr (slot_ne (Or.inr (hw _ (List.mem_of_getElem? (i := 34) rfl))) (Or.inr (hw _ (List.mem_of_getElem? (i := 28) rfl))) (by decide) (t := (.array .int)) (t' := (.array (.object "java/lang/String"))) (by decide) (by decide)))
  replace F_positions := F_positions.other W5 (Or.inr (slot_ne (Or.inr (hw _ (List.mem_of_getElem? (i := 36) rfl))) (Or.inr (hw _ (List.mem_of_getElem? (i := 28) rfl))) (by decide) (t := (.array .int)) (t' := (.array (.object "java/lang/String"))) (by decide) (by decide)))
  replace F_termNumbers := F_termNumbers.other W5 (Or.inr (slot_ne (Or.inr (hw _ (List.mem_of_getElem? (i := 72) rfl))) (Or.inr (hw _ (List.mem_of_getElem? (i := 28) rfl))) (by decide) (t := (.object "java/util/Map")) (t' := (.array (.object "java/lang/String"))) (by decide) (by decide)))
  replace V4 := V4.other W5 (Ne.symm ne_t_a4)
  replace Z0 := Nat.le_trans Z0 (Keep.of_wr W5).1
  replace K0 := K0.wr W5 (Or.inl (List.mem_of_getElem? (i := 0) rfl))
  show own_Go _ _ _ _ (T5.setTop (mkF m 25 #[.val (.ref t), .val (.ref a1), .val (.ref a2), .val (.ref a3), .val (.ref a4), .val (.ref a5), .val (.ref a6), .val (.ref a7), .val (.ref a8), .unset] []))
  refine own_go (fun _ kont => XS.aloadN X5.here hx rfl (hb hby own_d3_25) rfl rfl kont) ?_
  show own_Go _ _ _ _ (T5.setTop (mkF m 26 #[.val (.ref t), .val (.ref a1), .val (.ref a2), .val (.ref a3), .val (.ref a4), .val (.ref a5), .val (.ref a6), .val (.ref a7), .val (.ref a8), .unset] [(.ref t)]))
  refine own_go (fun _ kont => XS.aload X5.here hx rfl (hb hby own_d3_26) rfl rfl kont) ?_
  show own_Go _ _ _ _ (T5.setTop (mkF m 28 #[.val (.ref t), .val (.ref a1), .val (.ref a2), .val (.ref a3), .val (.ref a4), .val (.ref a5), .val (.ref a6), .val (.ref a7), .val (.ref a8), .unset] [(.ref a5), (.ref t)]))
  obtain ⟨T6, h6, X6, e6, W6, st6⟩ := putF X5 hx hZ hown (host := "") (Or.inl (hw _ (List.mem_of_getElem? (i := 29) rfl))) Via.refl e5 F_termStarts E1 (Or.inr ⟨(hw _ (List.mem_of_getElem? (i := 30) rfl)), rfl, hnm⟩) (hw _ (List.mem_of_getElem? (i := 11) rfl)) (ty := (.array .int)) (by decide) rfl rfl (g := (mkF m 28 #[.val (.ref t), .val (.ref a1), .val (.ref a2), .val (.ref a3), .val (.ref a4), .val (.ref a5), .val (.ref a6), .val (.ref a7), .val (.ref a8), .unset] [(.ref a5), (.ref t)])) rfl rfl (hb hby own_d3_28)
  refine own_go st6 ?_
  have NF6 := Fr.snoc X6 NF5 ge_t
  replace F_termStarts := F_termStarts.same W6
  replace E1 := E1.wr W6
  replace F_docnos := F_docnos.other W6 (Or.inr (slot_ne (Or.inr (hw _ (List.mem_of_getElem? (i := 22) rfl))) (Or.inr (hw _ (List.mem_of_getElem? (i := 30) rfl))) (by decide) (t := (.array (.object "java/lang/String"))) (t' := (.array .int)) (by decide) (by decide)))
  replace F_documentStarts := F_documentStarts.other W6 (Or.inr (slot_ne (Or.inr (hw _ (List.mem_of_getElem? (i := 24) rfl))) (Or.inr (hw _ (List.mem_of_getElem? (i := 30) rfl))) (by decide) (t := (.array .int)) (t' := (.array .int)) (by decide) (by decide)))
  replace F_documentTerms := F_documentTerms.other W6 (Or.inr (slot_ne (Or.inr (hw _ (List.mem_of_getElem? (i := 26) rfl))) (Or.inr (hw _ (List.mem_of_getElem? (i := 30) rfl))) (by decide) (t := (.array .int)) (t' := (.array .int)) (by decide) (by decide)))
  replace F_terms := F_terms.other W6 (Or.inr (slot_ne (Or.inr (hw _ (List.mem_of_getElem? (i := 28) rfl))) (Or.inr (hw _ (List.mem_of_getElem? (i := 30) rfl))) (by decide) (t := (.array (.object "java/lang/String"))) (t' := (.array .int)) (by decide) (by decide)))
  replace F_postingDocuments := F_postingDocuments.other W6 (Or.inr (slot_ne (Or.inr (hw _ (List.mem_of_getElem? (i := 32) rfl))) (Or.inr (hw _ (List.mem_of_getElem? (i := 30) rfl))) (by decide) (t := (.array .int)) (t' := (.array .int)) (by decide) (by decide)))
  replace F_postingStarts := F_postingStarts.other W6 (Or.inr (slot_ne (Or.inr (hw _ (List.mem_of_getElem? (i := 34) rfl))) (Or.inr (hw _ (List.mem_of_getElem? (i := 30) rfl))) (by decide) (t := (.array .int)) (t' := (.array .int)) (by decide) (by decide)))
  replace F_positions := F_positions.other W6 (Or.inr (slot_ne (Or.inr (hw _ (List.mem_of_getElem? (i := 36) rfl))) (Or.inr (hw _ (List.mem_of_getElem? (i := 30) rfl))) (by decide) (t := (.array .int)) (t' := (.array .int)) (by decide) (by decide)))
  replace F_termNumbers := F_termNumbers.other W6 (Or.inr (slot_ne (Or.inr (hw _ (List.mem_of_getElem? (i := 72) rfl))) (Or.inr (hw _ (List.mem_of_getElem? (i := 30) rfl))) (by decide) (t := (.object "java/util/Map")) (t' := (.array .int)) (by decide) (by decide)))
  replace V4 := V4.other W6 (Ne.symm ne_t_a4)
  replace Z0 := Nat.le_trans Z0 (Keep.of_wr W6).1
  replace K0 := K0.wr W6 (Or.inl (List.mem_of_getElem? (i := 0) rfl))
  show own_Go _ _ _ _ (T6.setTop (mkF m 31 #[.val (.ref t), .val (.ref a1), .val (.ref a2), .val (.ref a3), .val (.ref a4), .val (.ref a5), .val (.ref a6), .val (.ref a7), .val (.ref a8), .unset] []))
  refine own_go (fun _ kont => XS.aloadN X6.here hx rfl (hb hby own_d3_31) rfl rfl kont) ?_
  show own_Go _ _ _ _ (T6.setTop (mkF m 32 #[.val (.ref t), .val (.ref a1), .val (.ref a2), .val (.ref a3), .val (.ref a4), .val (.ref a5), .val (.ref a6), .val (.ref a7), .val (.ref a8), .unset] [(.ref t)]))
  refine own_go (fun _ kont => XS.aload X6.here hx rfl (hb hby own_d3_32) rfl rfl kont) ?_
  show own_Go _ _ _ _ (T6.setTop (mkF m 34 #[.val (.ref t), .val (.ref a1), .val (.ref a2), .val (.ref a3), .val (.ref a4), .val (.ref a5), .val (.ref a6), .val (.ref a7), .val (.ref a8), .unset] [(.ref a6), (.ref t)]))
  obtain ⟨T7, h7, X7, e7, W7, st7⟩ := putF X6 hx hZ hown (host := "") (Or.inl (hw _ (List.mem_of_getElem? (i := 31) rfl))) Via.refl e6 F_postingDocuments E1 (Or.inr ⟨(hw _ (List.mem_of_getElem? (i := 32) rfl)), rfl, hnm⟩) (hw _ (List.mem_of_getElem? (i := 11) rfl)) (ty := (.array .int)) (by decide) rfl rfl (g := (mkF m 34 #[.val (.ref t), .val (.ref a1), .val (.ref a2), .val (.ref a3), .val (.ref a4), .val (.ref a5), .val (.ref a6), .val (.ref a7), .val (.ref a8), .unset] [(.ref a6), (.ref t)])) rfl rfl (hb hby own_d3_34)
  refine own_go st7 ?_
  have NF7 := Fr.snoc X7 NF6 ge_t
  replace F_postingDocuments := F_postingDocuments.same W7
  replace E1 := E1.wr W7
  replace F_docnos := F_docnos.other W7 (Or.inr (slot_ne (Or.inr (hw _ (List.mem_of_getElem? (i := 22) rfl))) (Or.inr (hw _ (List.mem_of_getElem? (i := 32) rfl))) (by decide) (t := (.array (.object "java/lang/String"))) (t' := (.array .int)) (by decide) (by decide)))
  replace F_documentStarts := F_documentStarts.other W7 (Or.inr (slot_ne (Or.inr (hw _ (List.mem_of_getElem? (i := 24) rfl))) (Or.inr (hw _ (List.mem_of_getElem? (i := 32) rfl))) (by decide) (t := (.array .int)) (t' := (.array .int)) (by decide) (by decide)))
  replace F_documentTerms := F_documentTerms.other W7 (Or.inr (slot_ne (Or.inr (hw _ (List.mem_of_getElem? (i := 26) rfl))) (Or.inr (hw _ (List.mem_of_getElem? (i := 32) rfl))) (by decide) (t := (.array .int)) (t' := (.array .int)) (by decide) (by decide)))
  replace F_terms := F_terms.other W7 (Or.inr (slot_ne (Or.inr (hw _ (List.mem_of_getElem? (i := 28) rfl))) (Or.inr (hw _ (List.mem_of_getElem? (i := 32) rfl))) (by decide) (t := (.array (.object "java/lang/String"))) (t' := (.array .int)) (by decide) (by decide)))
  replace F_termStarts := F_termStarts.other W7 (Or.inr (slot_ne (Or.inr (hw _ (List.mem_of_getElem? (i := 30) rfl))) (Or.inr (hw _ (List.mem_of_getElem? (i := 32) rfl))) (by decide) (t := (.array .int)) (t' := (.array .int)) (by decide) (by decide)))
  replace F_postingStarts := F_postingStarts.other W7 (Or.inr (slot_ne (Or.inr (hw _ (List.mem_of_getElem? (i := 34) rfl))) (Or.inr (hw _ (List.mem_of_getElem? (i := 32) rfl))) (by decide) (t := (.array .int)) (t' := (.array .int)) (by decide) (by decide)))
  replace F_positions := F_positions.other W7 (Or.inr (slot_ne (Or.inr (hw _ (List.mem_of_getElem? (i := 36) rfl))) (Or.inr (hw _ (List.mem_of_getElem? (i := 32) rfl))) (by decide) (t := (.array .int)) (t' := (.array .int)) (by decide) (by decide)))
  replace F_termNumbers := F_termNumbers.other W7 (Or.inr (slot_ne (Or.inr (hw _ (List.mem_of_getElem? (i := 72) rfl))) (Or.inr (hw _ (List.mem_of_getElem? (i := 32) rfl))) (by decide) (t := (.object "java/util/Map")) (t' := (.array .int)) (by decide) (by decide)))
  replace V4 := V4.other W7 (Ne.symm ne_t_a4)
  replace Z0 := Nat.le_trans Z0 (Keep.of_wr W7).1
  replace K0 := K0.wr W7 (Or.inl (List.mem_of_getElem? (i := 0) rfl))
  show own_Go _ _ _ _ (T7.setTop (mkF m 37 #[.val (.ref t), .val (.ref a1), .val (.ref a2), .val (.ref a3), .val (.ref a4), .val (.ref a5), .val (.ref a6), .val (.ref a7), .val (.ref a8), .unset] []))
  refine own_go (fun _ kont => XS.aloadN X7.here hx rfl (hb hby own_d3_37) rfl rfl kont) ?_
  show own_Go _ _ _ _ (T7.setTop (mkF m 38 #[.val (.ref t), .val (.ref a1), .val (.ref a2), .val (.ref a3), .val (.ref a4), .val (.ref a5), .val (.ref a6), .val (.ref a7), .val (.ref a8), .unset] [(.ref t)]))
  refine own_go (fun _ kont => XS.aload X7.here hx rfl (hb hby own_d3_38) rfl rfl kont) ?_
  show own_Go _ _ _ _ (T7.setTop (mkF m 40 #[.val (.ref t), .val (.ref a1), .val (.ref a2), .val (.ref a3), .val (.ref a4), .val (.ref a5), .val (.ref a6), .val (.ref a7), .val (.ref a8), .unset] [(.ref a7), (.ref t)]))
  obtain ⟨T8, h8, X8, e8, W8, st8⟩ := putF X7 hx hZ hown (host := "") (Or.inl (hw _ (List.mem_of_getElem? (i := 33) rfl))) Via.refl e7 F_postingStarts E1 (Or.inr ⟨(hw _ (List.mem_of_getElem? (i := 34) rfl)), rfl, hnm⟩) (hw _ (List.mem_of_getElem? (i := 11) rfl)) (ty := (.array .int)) (by decide) rfl rfl (g := (mkF m 40 #[.val (.ref t), .val (.ref a1), .val (.ref a2), .val (.ref a3), .val (.ref a4), .val (.ref a5), .val (.ref a6), .val (.ref a7), .val (.ref a8), .unset] [(.ref a7), (.ref t)])) rfl rfl (hb hby own_d3_40)
  refine own_go st8 ?_
  have NF8 := Fr.snoc X8 NF7 ge_t
  replace F_postingStarts := F_postingStarts.same W8
  replace E1 := E1.wr W8
  replace F_docnos := F_docnos.other W8 (Or.inr (slot_ne (Or.inr (hw _ (List.mem_of_getElem? (i := 22) rfl))) (Or.inr (hw _ (List.mem_of_getElem? (i := 34) rfl))) (by decide) (t := (.array (.object "java/lang/String"))) (t' := (.array .int)) (by decide) (by decide)))
  replace F_documentStarts := F_documentStarts.other W8 (Or.inr (slot_ne (Or.inr (hw _ (List.mem_of_getElem? (i := 24) rfl))) (Or.inr (hw _ (List.mem_of_getElem? (i := 34) rfl))) (by decide) (t := (.array .int)) (t' := (.array .int)) (by decide) (by decide)))
  replace F_documentTerms := F_documentTerms.other W8 (Or.inr (slot_ne (Or.inr (hw _ (List.mem_of_getElem? (i := 26) rfl))) (Or.inr (hw _ (List.mem_of_getElem? (i := 34) rfl))) (by decide) (t := (.array .int)) (t' := (.array .int)) (by decide) (by decide)))
  replace F_terms := F_terms.other W8 (Or.inr (slot_ne (Or.inr (hw _ (List.mem_of_getElem? (i := 28) rfl))) (Or.inr (hw _ (List.mem_of_getElem? (i := 34) rfl))) (by decide) (t := (.array (.object "java/lang/String"))) (t' := (.array .int)) (by decide) (by decide)))
  replace F_termStarts := F_termStarts.other W8 (Or.inr (slot_ne (Or.inr (hw _ (List.mem_of_getElem? (i := 30) rfl))) (Or.inr (hw _ (List.mem_of_getElem? (i := 34) rfl))) (by decide) (t := (.array .int)) (t' := (.array .int)) (by decide) (by decide)))
  replace F_postingDocuments := F_postingDocuments.other W8 (Or.inr (slot_ne (Or.inr (hw _ (List.mem_of_getElem? (i := 32) rfl))) (Or.inr (hw _ (List.mem_of_getElem? (i := 34) rfl))) (by decide) (t := (.array .int)) (t' := (.array .int)) (by decide) (by decide)))
  replace F_positions := F_positions.other W8 (Or.inr (slot_ne (Or.inr (hw _ (List.mem_of_getElem? (i := 36) rfl))) (Or.inr (hw _ (List.mem_of_getElem? (i := 34) rfl))) (by decide) (t := (.array .int)) (t' := (.array .int)) (by decide) (by decide)))
  replace F_termNumbers := F_termNumbers.other W8 (Or.inr (slot_ne (Or.inr (hw _ (List.mem_of_getElem? (i := 72) rfl))) (Or.inr (hw _ (List.mem_of_getElem? (i := 34) rfl))) (by decide) (t := (.object "java/util/Map")) (t' := (.array .int)) (by decide) (by decide)))
  replace V4 := V4.other W8 (Ne.symm ne_t_a4)
  replace Z0 := Nat.le_trans Z0 (Keep.of_wr W8).1
  replace K0 := K0.wr W8 (Or.inl (List.mem_of_getElem? (i := 0) rfl))
  show own_Go _ _ _ _ (T8.setTop (mkF m 43 #[.val (.ref t), .val (.ref a1), .val (.ref a2), .val (.ref a3), .val (.ref a4), .val (.ref a5), .val (.ref a6), .val (.ref a7), .val (.ref a8), .unset] []))
  refine own_go (fun _ kont => XS.aloadN X8.here hx rfl (hb hby own_d3_43) rfl rfl kont) ?_
  show own_Go _ _ _ _ (T8.setTop (mkF m 44 #[.val (.ref t), .val (.ref a1), .val (.ref a2), .val (.ref a3), .val (.ref a4), .val (.ref a5), .val (.ref a6), .val (.ref a7), .val (.ref a8), .unset] [(.ref t)]))
  refine own_go (fun _ kont => XS.aload X8.here hx rfl (hb hby own_d3_44) rfl rfl kont) ?_
  show own_Go _ _ _ _ (T8.setTop (mkF m 46 #[.val (.ref t), .val (.ref a1), .val (.ref a2), .val (.ref a3), .val (.ref a4), .val (.ref a5), .val (.ref a6), .val (.ref a7), .val (.ref a8), .unset] [(.ref a8), (.ref t)]))
  obtain ⟨T9, h9, X9, e9, W9, st9⟩ := putF X8 hx hZ hown (host := "") (Or.inl (hw _ (List.mem_of_getElem? (i := 35) rfl))) Via.refl e8 F_positions E1 (Or.inr ⟨(hw _ (List.mem_of_getElem? (i := 36) rfl)), rfl, hnm⟩) (hw _ (List.mem_of_getElem? (i := 11) rfl)) (ty := (.array .int)) (by decide) rfl rfl (g := (mkF m 46 #[.val (.ref t), .val (.ref a1), .val (.ref a2), .val (.ref a3), .val (.ref a4), .val (.ref a5), .val (.ref a6), .val (.ref a7), .val (.ref a8), .unset] [(.ref a8), (.ref t)])) rfl rfl (hb hby own_d3_46)
  refine own_go st9 ?_
  have NF9 := Fr.snoc X9 NF8 ge_t
  replace F_positions := F_positions.same W9
  replace E1 := E1.wr W9
  replace F_docnos := F_docnos.other W9 (Or.inr (slot_ne (Or.inr (hw _ (List.mem_of_getElem? (i := 22) rfl))) (Or.inr (hw _ (List.mem_of_getElem? (i := 36) rfl))) (by decide) (t := (.array (.object "java/lang/String"))) (t' := (.array .int)) (by decide) (by decide)))
  replace F_documentStarts := F_documentStarts.other W9 (Or.inr (slot_ne (Or.inr (hw _ (List.mem_of_getElem? (i := 24) rfl))) (Or.inr (hw _ (List.mem_of_getElem? (i := 36) rfl))) (by decide) (t := (.array .int)) (t' := (.array .int)) (by decide) (by decide)))
  replace F_documentTerms := F_documentTerms.other W9 (Or.inr (slot_ne (Or.inr (hw _ (List.mem_of_getElem? (i := 26) rfl))) (Or.inr (hw _ (List.mem_of_getElem? (i := 36) rfl))) (by decide) (t := (.array .int)) (t' := (.array .int)) (by decide) (by decide)))
  replace F_terms := F_terms.other W9 (Or.inr (slot_ne (Or.inr (hw _ (List.mem_of_getElem? (i := 28) rfl))) (Or.inr (hw _ (List.mem_of_getElem? (i := 36) rfl))) (by decide) (t := (.array (.object "java/lang/String"))) (t' := (.array .int)) (by decide) (by decide)))
  replace F_termStarts := F_termStarts.other W9 (Or.inr (slot_ne (Or.inr (hw _ (List.mem_of_getElem? (i := 30) rfl))) (Or.inr (hw _ (List.mem_of_getElem? (i := 36) rfl))) (by decide) (t := (.array .int)) (t' := (.array .int)) (by decide) (by decide)))
  replace F_postingDocuments := F_postingDocuments.other W9 (Or.inr (slot_ne (Or.inr (hw _ (List.mem_of_getElem? (i := 32) rfl))) (Or.inr (hw _ (List.mem_of_getElem? (i := 36) rfl))) (by decide) (t := (.array .int)) (t' := (.array .int)) (by decide) (by decide)))
  replace F_postingStarts := F_postingStarts.other W9 (Or.inr (slot_ne (Or.inr (hw _ (List.mem_of_getElem? (i := 34) rfl))) (Or.inr (hw _ (List.mem_of_getElem? (i := 36) rfl))) (by decide) (t := (.array .int)) (t' := (.array .int)) (by decide) (by decide)))
  replace F_termNumbers := F_termNumbers.other W9 (Or.inr (slot_ne (Or.inr (hw _ (List.mem_of_getElem? (i := 72) rfl))) (Or.inr (hw _ (List.mem_of_getElem? (i := 36) rfl))) (by decide) (t := (.object "java/util/Map")) (t' := (.array .int)) (by decide) (by decide)))
  replace V4 := V4.other W9 (Ne.symm ne_t_a4)
  replace Z0 := Nat.le_trans Z0 (Keep.of_wr W9).1
  replace K0 := K0.wr W9 (Or.inl (List.mem_of_getElem? (i := 0) rfl))
  show own_Go _ _ _ _ (T9.setTop (mkF m 49 #[.val (.ref t), .val (.ref a1), .val (.ref a2), .val (.ref a3), .val (.ref a4), .val (.ref a5), .val (.ref a6), .val (.ref a7), .val (.ref a8), .unset] []))
  refine own_go (fun _ kont => XS.aloadN X9.here hx rfl (hb hby own_d3_49) rfl rfl kont) ?_
  show own_Go _ _ _ _ (T9.setTop (mkF m 50 #[.val (.ref t), .val (.ref a1), .val (.ref a2), .val (.ref a3), .val (.ref a4), .val (.ref a5), .val (.ref a6), .val (.ref a7), .val (.ref a8), .unset] [(.ref t)]))
  obtain ⟨T10, h10, X10, e10, E10, A10, D10, -, st10⟩ := newO X9 hx hZ hown (hw _ (List.mem_of_getElem? (i := 37) rfl)) (hw _ (List.mem_of_getElem? (i := 38) rfl)) (hw _ (List.mem_of_getElem? (i := 39) rfl)) e9 (g := (mkF m 50 #[.val (.ref t), .val (.ref a1), .val (.ref a2), .val (.ref a3), .val (.ref a4), .val (.ref a5), .val (.ref a6), .val (.ref a7), .val (.ref a8), .unset] [(.ref t)])) rfl (hb hby own_d3_50) (by decide) (by decide)
  obtain ⟨b10, g10⟩ : ∃ z, z = h9.size := ⟨_, rfl⟩
  rw [← g10] at A10 D10 st10
  refine own_go st10 ?_
  have ge_b10 : n0 ≤ b10 := Nat.le_trans Z0 (Nat.le_of_eq g10.symm)
  have ne_t_b10 : t ≠ b10 := Nat.ne_of_lt (Nat.lt_of_lt_of_le E1.lt (Nat.le_of_eq g10.symm))
  have ne_a4_b10 : a4 ≠ b10 := Nat.ne_of_lt (Nat.lt_of_lt_of_le V4.lt (Nat.le_of_eq g10.symm))
  have sz_b10 : h0.size ≤ b10 := Nat.le_trans K0.1 (Nat.le_of_eq g10.symm)
  replace E1 := E1.ext E10
  replace F_docnos := F_docnos.ext E10
  replace F_documentStarts := F_documentStarts.ext E10
  replace F_documentTerms := F_documentTerms.ext E10
  replace F_terms := F_terms.ext E10
  replace F_termStarts := F_termStarts.ext E10
  replace F_postingDocuments := F_postingDocuments.ext E10
  replace F_postingStarts := F_postingStarts.ext E10
  replace F_positions := F_positions.ext E10
  replace F_termNumbers := F_termNumbers.ext E10
  replace V4 := V4.ext E10
  replace Z0 := Nat.le_trans Z0 E10.1
  replace K0 := K0.ext E10
  have F_loadFactor_b10 : Fld Z h10 b10 "java/util/HashMap" "loadFactor" "F" (.float (0 : UInt32)) := D10 (Or.inr (hw _ (List.mem_of_getElem? (i := 61) rfl))) (ty := .float) (by decide)
  have F_threshold_b10 : Fld Z h10 b10 "java/util/HashMap" "threshold" "I" (.int (0 : Int32)) := D10 (Or.inl (hw _ (List.mem_of_getElem? (i := 70) rfl))) (ty := .int) (by decide)
  show own_Go _ _ _ _ (T10.setTop (mkF m 53 #[.val (.ref t), .val (.ref a1), .val (.ref a2), .val (.ref a3), .val (.ref a4), .val (.ref a5), .val (.ref a6), .val (.ref a7), .val (.ref a8), .unset] [(.ref b10), (.ref t)]))
  refine own_go (fun _ kont => XS.dup X10.here hx rfl (hb hby own_d3_53) rfl rfl kont) ?_
  show own_Go _ _ _ _ (T10.setTop (mkF m 54 #[.val (.ref t), .val (.ref a1), .val (.ref a2), .val (.ref a3), .val (.ref a4), .val (.ref a5), .val (.ref a6), .val (.ref a7), .val (.ref a8), .unset] [(.ref b10), (.ref b10), (.ref t)]))
  refine own_go (fun _ kont => XS.iconst X10.here hx rfl (hb hby own_d3_54) kont) ?_
  show own_Go _ _ _ _ (T10.setTop (mkF m 55 #[.val (.ref t), .val (.ref a1), .val (.ref a2), .val (.ref a3), .val (.ref a4), .val (.ref a5), .val (.ref a6), .val (.ref a7), .val (.ref a8), .unset] [(.int (2 : Int32)), (.ref b10), (.ref b10), (.ref t)]))
  refine own_go (fun _ kont => XS.aload X10.here hx rfl (hb hby own_d3_55) rfl rfl kont) ?_
  show own_Go _ _ _ _ (T10.setTop (mkF m 57 #[.val (.ref t), .val (.ref a1), .val (.ref a2), .val (.ref a3), .val (.ref a4), .val (.ref a5), .val (.ref a6), .val (.ref a7), .val (.ref a8), .unset] [(.ref a4), (.int (2 : Int32)), (.ref b10), (.ref b10), (.ref t)]))
  obtain ⟨cl11, Ar11, -, Sz11, Ng11, -, -⟩ := id V4
  refine own_go (X10.arraylength hx (own_hp e10 Ar11.1) (State.isArrayOf_alike hZ.alike Ar11.2.1) (g := (mkF m 57 #[.val (.ref t), .val (.ref a1), .val (.ref a2), .val (.ref a3), .val (.ref a4), .val (.ref a5), .val (.ref a6), .val (.ref a7), .val (.ref a8), .unset] [(.ref a4), (.int (2 : Int32)), (.ref b10), (.ref b10), (.ref t)])) rfl rfl (hb hby own_d3_57)) ?_
  rw [len_of Sz11 Ng11]
  show own_Go _ _ _ _ (T10.setTop (mkF m 58 #[.val (.ref t), .val (.ref a1), .val (.ref a2), .val (.ref a3), .val (.ref a4), .val (.ref a5), .val (.ref a6), .val (.ref a7), .val (.ref a8), .unset] [(.int (0 : Int32)), (.int (2 : Int32)), (.ref b10), (.ref b10), (.ref t)]))
  refine own_go (fun _ kont => XS.imul X10.here hx rfl (hb hby own_d3_58) rfl kont) ?_
  show own_Go _ _ _ _ (T10.setTop (mkF m 59 #[.val (.ref t), .val (.ref a1), .val (.ref a2), .val (.ref a3), .val (.ref a4), .val (.ref a5), .val (.ref a6), .val (.ref a7), .val (.ref a8), .unset] [(.int (0 : Int32)), (.ref b10), (.ref b10), (.ref t)]))
  obtain ⟨_, _, ⟨T12, L12, k12, n12⟩, -, X12, ⟨Lc12, hQ12, l12, y12, z12⟩, st12⟩ := X10.specialBack hx (y := (⟨"java/util/HashMap", "<init>", "(I)V"⟩ : MethodName)) rfl hown (mvT hZ (hw _ (List.mem_of_getElem? (i := 40) rfl))) (mvT hZ (hw _ (List.mem_of_getElem? (i := 41) rfl))) (mvT hZ (hw _ (List.mem_of_getElem? (i := 42) rfl))) (by decide) (own_back (W := 2) (own_rmH1 l Z a0 hw b10 h10 n0 Z0 A10 F_loadFactor_b10 F_threshold_b10 ge_b10) hZ (hw _ (List.mem_of_getElem? (i := 42) rfl)) (hw _ (List.mem_of_getElem? (i := 39) rfl)) (by decide) (by decide)) (g := (mkF m 59 #[.val (.ref t), .val (.ref a1), .val (.ref a2), .val (.ref a3), .val (.ref a4), .val (.ref a5), .val (.ref a6), .val (.ref a7), .val (.ref a8), .unset] [(.int (0 : Int32)), (.ref b10), (.ref b10), (.ref t)])) rfl (by rw [hml]; rfl) (Steps.refl _) (a := b10) (argsL := [(.int (0 : Int32))]) (rest := [(.ref b10), (.ref t)]) (lenOf own_pd4 rfl) rfl (by show 2 * 0 + _ ≤ _; exact Nat.le_of_eq rfl) (hb hby own_d3_59) (fun _ _ => ⟨rfl, e10, (by decide : 1 + 0 ≤ _), (by decide : 8 + 0 ≤ _)⟩)
  dsimp only [Pt.U, Pt.locs, Pt.cells, Pt.slots] at X12 l12 y12 z12 st12 hQ12
  subst l12 y12 z12
  obtain ⟨rfl, Nq12, K12⟩ := hQ12
  have NF12 := Fr.app NF9 Nq12
  refine own_goT st12 ?_
  replace E1 := E1.keep K12
  replace F_docnos := F_docnos.keep K12 (ninS ne_t_b10 nin0)
  replace F_documentStarts := F_documentStarts.keep K12 (ninS ne_t_b10 nin0)
  replace F_documentTerms := F_documentTerms.keep K12 (ninS ne_t_b10 nin0)
  replace F_terms := F_terms.keep K12 (ninS ne_t_b10 nin0)
  replace F_termStarts := F_termStarts.keep K12 (ninS ne_t_b10 nin0)
  replace F_postingDocuments := F_postingDocuments.keep K12 (ninS ne_t_b10 nin0)
  replace F_postingStarts := F_postingStarts.keep K12 (ninS ne_t_b10 nin0)
  replace F_positions := F_positions.keep K12 (ninS ne_t_b10 nin0)
  replace F_termNumbers := F_termNumbers.keep K12 (ninS ne_t_b10 nin0)
  replace V4 := V4.keep K12 (ninS ne_a4_b10 nin0)
  replace A10 := A10.keep K12
  replace Z0 := Nat.le_trans Z0 K12.1
  replace K0 := K0.trans K12 (allS (Or.inr sz_b10) all0)
  show own_Go _ _ _ _ (T12.setTop (mkF m 62 #[.val (.ref t), .val (.ref a1), .val (.ref a2), .val (.ref a3), .val (.ref a4), .val (.ref a5), .val (.ref a6), .val (.ref a7), .val (.ref a8), .unset] [(.ref b10), (.ref t)]))
  obtain ⟨T13, h13, X13, e13, W13, st13⟩ := putF X12 hx hZ hown (host := "") (Or.inl (hw _ (List.mem_of_getElem? (i := 71) rfl))) Via.refl rfl F_termNumbers E1 (Or.inr ⟨(hw _ (List.mem_of_getElem? (i := 72) rfl)), rfl, hnm⟩) (hw _ (List.mem_of_getElem? (i := 11) rfl)) (ty := (.object "java/util/Map")) (by decide) rfl rfl (g := (mkF m 62 #[.val (.ref t), .val (.ref a1), .val (.ref a2), .val (.ref a3), .val (.ref a4), .val (.ref a5), .val (.ref a6), .val (.ref a7), .val (.ref a8), .unset] [(.ref b10), (.ref t)])) rfl rfl (hb hby own_d3_62)
  refine own_go st13 ?_
  have NF13 := Fr.snoc X13 NF12 ge_t
  replace F_termNumbers := F_termNumbers.same W13
  replace E1 := E1.wr W13
  replace F_docnos := F_docnos.other W13 (Or.inr (slot_ne (Or.inr (hw _ (List.mem_of_getElem? (i := 22) rfl))) (Or.inr (hw _ (List.mem_of_getElem? (i := 72) rfl))) (by decide) (t := (.array (.object "java/lang/String"))) (t' := (.object "java/util/Map")) (by decide) (by decide)))
  replace F_documentStarts := F_documentStarts.other W13 (Or.inr (slot_ne (Or.inr (hw _ (List.mem_of_getElem? (i := 24) rfl))) (Or.inr (hw _ (List.mem_of_getElem? (i := 72) rfl))) (by decide) (t := (.array .int)) (t' := (.object "java/util/Map")) (by decide) (by decide)))
  replace F_documentTerms := F_documentTerms.other W13 (Or.inr (slot_ne (Or.inr (hw _ (List.mem_of_getElem? (i := 26) rfl))) (Or.inr (hw _ (List.mem_of_getElem? (i := 72) rfl))) (by decide) (t := (.array .int)) (t' := (.object "java/util/Map")) (by decide) (by decide)))
  replace F_terms := F_terms.other W13 (Or.inr (slot_ne (Or.inr (hw _ (List.mem_of_getElem? (i := 28) rfl))) (Or.inr (hw _ (List.mem_of_getElem? (i := 72) rfl))) (by decide) (t := (.array (.object "java/lang/String"))) (t' := (.object "java/util/Map")) (by decide) (by decide)))
  replace F_termStarts := F_termStarts.other W13 (Or.inr (slot_ne (Or.inr (hw _ (List.mem_of_getElem? (i := 30) rfl))) (Or.inr (hw _ (List.mem_of_getElem? (i := 72) rfl))) (by decide) (t := (.array .int)) (t' := (.object "java/util/Map")) (by decide) (by decide)))
  replace F_postingDocuments := F_postingDocuments.other W13 (Or.inr (slot_ne (Or.inr (hw _ (List.mem_of_getElem? (i := 32) rfl))) (Or.inr (hw _ (List.mem_of_getElem? (i := 72) rfl))) (by decide) (t := (.array .int)) (t' := (.object "java/util/Map")) (by decide) (by decide)))
  replace F_postingStarts := F_postingStarts.other W13 (Or.inr (slot_ne (Or.inr (hw _ (List.mem_of_getElem? (i := 34) rfl))) (Or.inr (hw _ (List.mem_of_getElem? (i := 72) rfl))) (by decide) (t := (.array .int)) (t' := (.object "java/util/Map")) (by decide) (by decide)))
  replace F_positions := F_positions.other W13 (Or.inr (slot_ne (Or.inr (hw _ (List.mem_of_getElem? (i := 36) rfl))) (Or.inr (hw _ (List.mem_of_getElem? (i := 72) rfl))) (by decide) (t := (.array .int)) (t' := (.object "java/util/Map")) (by decide) (by decide)))
  replace V4 := V4.other W13 (Ne.symm ne_t_a4)
  replace A10 := A10.wr W13
  replace Z0 := Nat.le_trans Z0 (Keep.of_wr W13).1
  replace K0 := K0.wr W13 (Or.inl (List.mem_of_getElem? (i := 0) rfl))
  show own_Go _ _ _ _ (T13.setTop (mkF m 65 #[.val (.ref t), .val (.ref a1), .val (.ref a2), .val (.ref a3), .val (.ref a4), .val (.ref a5), .val (.ref a6), .val (.ref a7), .val (.ref a8), .unset] []))
  refine own_go (fun _ kont => XS.iconst X13.here hx rfl (hb hby own_d3_65) kont) ?_
  show own_Go _ _ _ _ (T13.setTop (mkF m 66 #[.val (.ref t), .val (.ref a1), .val (.ref a2), .val (.ref a3), .val (.ref a4), .val (.ref a5), .val (.ref a6), .val (.ref a7), .val (.ref a8), .unset] [(.int (0 : Int32))]))
  refine own_go (fun _ kont => XS.istore X13.here hx rfl (hb hby own_d3_66) rfl (l' := #[.val (.ref t), .val (.ref a1), .val (.ref a2), .val (.ref a3), .val (.ref a4), .val (.ref a5), .val (.ref a6), .val (.ref a7), .val (.ref a8), .val (.int (0 : Int32))]) rfl kont) ?_
  show own_Go _ _ _ _ (T13.setTop (mkF m 68 #[.val (.ref t), .val (.ref a1), .val (.ref a2), .val (.ref a3), .val (.ref a4), .val (.ref a5), .val (.ref a6), .val (.ref a7), .val (.ref a8), .val (.int (0 : Int32))] []))
  refine own_go (fun _ kont => XS.iload X13.here hx rfl (hb hby own_d3_68) rfl kont) ?_
  show own_Go _ _ _ _ (T13.setTop (mkF m 70 #[.val (.ref t), .val (.ref a1), .val (.ref a2), .val (.ref a3), .val (.ref a4), .val (.ref a5), .val (.ref a6), .val (.ref a7), .val (.ref a8), .val (.int (0 : Int32))] [(.int (0 : Int32))]))
  refine own_go (fun _ kont => XS.aload X13.here hx rfl (hb hby own_d3_70) rfl rfl kont) ?_
  show own_Go _ _ _ _ (T13.setTop (mkF m 72 #[.val (.ref t), .val (.ref a1), .val (.ref a2), .val (.ref a3), .val (.ref a4), .val (.ref a5), .val (.ref a6), .val (.ref a7), .val (.ref a8), .val (.int (0 : Int32))] [(.ref a4), (.int (0 : Int32))]))
  obtain ⟨cl14, Ar14, -, Sz14, Ng14, -, -⟩ := id V4
  refine own_go (X13.arraylength hx (own_hp e13 Ar14.1) (State.isArrayOf_alike hZ.alike Ar14.2.1) (g := (mkF m 72 #[.val (.ref t), .val (.ref a1), .val (.ref a2), .val (.ref a3), .val (.ref a4), .val (.ref a5), .val (.ref a6), .val (.ref a7), .val (.ref a8), .val (.int (0 : Int32))] [(.ref a4), (.int (0 : Int32))])) rfl rfl (hb hby own_d3_72)) ?_
  rw [len_of Sz14 Ng14]
  show own_Go _ _ _ _ (T13.setTop (mkF m 73 #[.val (.ref t), .val (.ref a1), .val (.ref a2), .val (.ref a3), .val (.ref a4), .val (.ref a5), .val (.ref a6), .val (.ref a7), .val (.ref a8), .val (.int (0 : Int32))] [(.int (0 : Int32)), (.int (0 : Int32))]))
  refine own_go (fun _ kont => XS.icmpYes X13.here hx rfl (pc0 := 73) (pc' := 102) rfl (hb hby own_d3_73) rfl (flt (by decide)).2.1 (by decide) (by decide) kont) ?_
  show own_Go _ _ _ _ (T13.setTop (mkF m 102 #[.val (.ref t), .val (.ref a1), .val (.ref a2), .val (.ref a3), .val (.ref a4), .val (.ref a5), .val (.ref a6), .val (.ref a7), .val (.ref a8), .val (.int (0 : Int32))] []))
  refine own_ret X13 hlk (v := none) (fun _ => rfl) (fun fs hr => X13.returnOut hx Bd.returns (hb hby own_d3_102) hr) ?_ (by decide) (by decide)
  try rw [e13]
  exact ⟨rfl, NF13, K0, E1, F_postingStarts, F_docnos, F_documentTerms⟩
theorem own_d11_0 : decode prog_31_method_1_code 0 = .ok (.aload_n 0, 1) := by decide +kernel
theorem own_d11_1 : decode prog_31_method_1_code 1 = .ok (.invokespecial 1, 3) := by decide +kernel
theorem own_d11_4 : decode prog_31_method_1_code 4 = .ok (.aload_n 0, 1) := by decide +kernel
theorem own_d11_5 : decode prog_31_method_1_code 5 = .ok (.aload_n 1, 1) := by decide +kernel
theorem own_d11_6 : decode prog_31_method_1_code 6 = .ok (.putfield 7, 3) := by decide +kernel
theorem own_d11_9 : decode prog_31_method_1_code 9 = .ok (.aload_n 0, 1) := by decide +kernel
theorem own_d11_10 : decode prog_31_method_1_code 10 = .ok (.iload_n 2, 1) := by decide +kernel
theorem own_d11_11 : decode prog_31_method_1_code 11 = .ok (.putfield 13, 3) := by decide +kernel
theorem own_d11_14 : decode prog_31_method_1_code 14 = .ok (.aload_n 0, 1) := by decide +kernel
theorem own_d11_15 : decode prog_31_method_1_code 15 = .ok (.iload_n 3, 1) := by decide +kernel
theorem own_d11_16 : decode prog_31_method_1_code 16 = .ok (.putfield 17, 3) := by decide +kernel
theorem own_d11_19 : decode prog_31_method_1_code 19 = .ok (.return_, 1) := by decide +kernel
theorem own_pn4 : plainName "com/example/lissage/lissage/Postings" = true := by first | (simp [plainName, overriddenIn]; done) | decide +kernel
set_option maxRecDepth 65536 in
set_option maxHeartbeats 40000000 in
theorem own_rmP (l : Launch) (Z : State) (a0 : Array Value) (hw : ∀ d ∈ tables_1, d.before a0 Z = true) (t : Addr) (a2 : Addr) (p3 : Int32) (p4 : Int32) (h0 : Heap) (n0 : Nat) (Z0 : n0 ≤ h0.size) (E1 : Exa Z h0 t "com/example/lissage/lissage/Postings") (F_index : Fld Z h0 t "com/example/lissage/lissage/Postings" "index" "Lcom/example/lissage/lissage/Index;" .null) (F_start : Fld Z h0 t "com/example/lissage/lissage/Postings" "start" "I" (.int 0)) (F_end : Fld Z h0 t "com/example/lissage/lissage/Postings" "end" "I" (.int 0)) (ge_t : n0 ≤ t) :
    own_Met l Z [] (⟨"com/example/lissage/lissage/Postings", "<init>", "(Lcom/example/lissage/lissage/Index;II)V"⟩ : MethodName) prog_31_method_1_code 4 none ({ frames := 1, cells := 0, slots := 0, locals := 12 } : Room) #[(.ref t), (.ref a2), (.int p3), (.int p4)] h0 (fun v h L => v = none ∧ Fr n0 L ∧ Keep h0 h [t] ∧ Fld Z h t "com/example/lissage/lissage/Postings" "index" "Lcom/example/lissage/lissage/Index;" (.ref a2) ∧ Fld Z h t "com/example/lissage/lissage/Postings" "start" "I" (.int p3) ∧ Fld Z h t "com/example/lissage/lissage/Postings" "end" "I" (.int p4)) := by
  refine MetFree.of_bodySF (plainFor_of_name own_pn4) hisR ?_
  intro p e s m args below meth c s₁ Bd hml0 hP hK
  obtain ⟨rfl, hZ, hh⟩ := hP
  have hx := Bd.exec
  have hby := Bd.bytes
  have hml : c.maxLocals = 4 := hml0
  have hown : s.vm.findClass "com/example/lissage/lissage/Postings" = some m.cls := findClass_of_methodNamed Bd.named
  have hnm := (name_of_methodNamed Bd.named Bd.method).1
  have hlk : meth.locks = false := Bd.notSynchronized
  have X0 : Stand p l e ({ frames := 1, cells := 0, slots := 0, locals := 12 } : Room) s m #[(.ref t), (.ref a2), (.int p3), (.int p4)] below meth c s₁ [] 0 0 := Stand.of_body Bd
  have e0 : s₁.heap = h0 := by rw [← hh, Bd.state]; rfl
  have N0 := Fr.nil n0
  refine own_body (Q := fun v h L => v = none ∧ Fr n0 L ∧ Keep h0 h [t] ∧ Fld Z h t "com/example/lissage/lissage/Postings" "index" "Lcom/example/lissage/lissage/Index;" (.ref a2) ∧ Fld Z h t "com/example/lissage/lissage/Postings" "start" "I" (.int p3) ∧ Fld Z h t "com/example/lissage/lissage/Postings" "end" "I" (.int p4)) ?_
  refine own_go (fun _ kont => castTop (own_ef m #[(.ref t), (.ref a2), (.int p3), (.int p4)] 4 #[.val (.ref t), .val (.ref a2), .val (.int p3), .val (.int p4)] (own_al [(.ref t), (.ref a2), (.int p3), (.int p4)] 4 [.val (.ref t), .val (.ref a2), .val (.int p3), .val (.int p4)] rfl)) kont) ?_
  show own_Go _ _ _ _ (s₁.setTop (mkF m 0 #[.val (.ref t), .val (.ref a2), .val (.int p3), .val (.int p4)] []))
  have K0 : Keep h0 h0 [t] := Keep.refl _ _
  refine own_go (fun _ kont => XS.aloadN X0.here hx rfl (hb hby own_d11_0) rfl rfl kont) ?_
  show own_Go _ _ _ _ (s₁.setTop (mkF m 1 #[.val (.ref t), .val (.ref a2), .val (.int p3), .val (.int p4)] [(.ref t)]))
  obtain ⟨T1, X1, e1, st1⟩ := initO X0 hx hZ hown (hw _ (List.mem_of_getElem? (i := 79) rfl)) (hw _ (List.mem_of_getElem? (i := 19) rfl)) (hw _ (List.mem_of_getElem? (i := 20) rfl)) e0 (g := (mkF m 1 #[.val (.ref t), .val (.ref a2), .val (.int p3), .val (.int p4)] [(.ref t)])) rfl (by rw [hml]; rfl) rfl (hb hby own_d11_1) (by decide) (W := 0) (by show 2 * 0 + _ ≤ _; exact Nat.le_of_eq rfl) (by decide)
  refine own_go st1 ?_
  show own_Go _ _ _ _ (T1.setTop (mkF m 4 #[.val (.ref t), .val (.ref a2), .val (.int p3), .val (.int p4)] []))
  refine own_go (fun _ kont => XS.aloadN X1.here hx rfl (hb hby own_d11_4) rfl rfl kont) ?_
  show own_Go _ _ _ _ (T1.setTop (mkF m 5 #[.val (.ref t), .val (.ref a2), .val (.int p3), .val (.int p4)] [(.ref t)]))
  refine own_go (fun _ kont => XS.aloadN X1.here hx rfl (hb hby own_d11_5) rfl rfl kont) ?_
  show own_Go _ _ _ _ (T1.setTop (mkF m 6 #[.val (.ref t), .val (.ref a2), .val (.int p3), .val (.int p4)] [(.ref a2), (.ref t)]))
  obtain ⟨T2, h2, X2, e2, W2, st2⟩ := putF X1 hx hZ hown (host := "") (Or.inl (hw _ (List.mem_of_getElem? (i := 80) rfl))) Via.refl e1 F_index E1 (Or.inr ⟨(hw _ (List.mem_of_getElem? (i := 81) rfl)), rfl, hnm⟩) (hw _ (List.mem_of_getElem? (i := 74) rfl)) (ty := (.object "com/example/lissage/lissage/Index")) (by decide) rfl rfl (g := (mkF m 6 #[.val (.ref t), .val (.ref a2), .val (.int p3), .val (.int p4)] [(.ref a2), (.ref t)])) rfl rfl (hb hby own_d11_6)
  refine own_go st2 ?_
  have NF2 := Fr.snoc X2 N0 ge_t
  replace F_index := F_index.same W2
  replace E1 := E1.wr W2
  replace F_start := F_start.other W2 (Or.inr (slot_ne (Or.inr (hw _ (List.mem_of_getElem? (i := 83) rfl))) (Or.inr (hw _ (List.mem_of_getElem? (i := 81) rfl))) (by decide) (t := .int) (t' := (.object "com/example/lissage/lissage/Index")) (by decide) (by decide)))
  replace F_end := F_end.other W2 (Or.inr (slot_ne (Or.inr (hw _ (List.mem_of_getElem? (i := 85) rfl))) (Or.inr (hw _ (List.mem_of_getElem? (i := 81) rfl))) (by decide) (t := .int) (t' := (.object "com/example/lissage/lissage/Index")) (by decide) (by decide)))
  replace Z0 := Nat.le_trans Z0 (Keep.of_wr W2).1
  replace K0 := K0.wr W2 (Or.inl (List.mem_of_getElem? (i := 0) rfl))
  show own_Go _ _ _ _ (T2.setTop (mkF m 9 #[.val (.ref t), .val (.ref a2), .val (.int p3), .val (.int p4)] []))
  refine own_go (fun _ kont => XS.aloadN X2.here hx rfl (hb hby own_d11_9) rfl rfl kont) ?_
  show own_Go _ _ _ _ (T2.setTop (mkF m 10 #[.val (.ref t), .val (.ref a2), .val (.int p3), .val (.int p4)] [(.ref t)]))
  refine own_go (fun _ kont => XS.iloadN X2.here hx rfl (hb hby own_d11_10) rfl kont) ?_
  show own_Go _ _ _ _ (T2.setTop (mkF m 11 #[.val (.ref t), .val (.ref a2), .val (.int p3), .val (.int p4)] [(.int p3), (.ref t)]))
  obtain ⟨T3, h3, X3, e3, W3, st3⟩ := putF X2 hx hZ hown (host := "") (Or.inl (hw _ (List.mem_of_getElem? (i := 82) rfl))) Via.refl e2 F_start E1 (Or.inr ⟨(hw _ (List.mem_of_getElem? (i := 83) rfl)), rfl, hnm⟩) (hw _ (List.mem_of_getElem? (i := 74) rfl)) (ty := .int) (by decide) rfl rfl (g := (mkF m 11 #[.val (.ref t), .val (.ref a2), .val (.int p3), .val (.int p4)] [(.int p3), (.ref t)])) rfl rfl (hb hby own_d11_11)
  refine own_go st3 ?_
  have NF3 := Fr.snoc X3 NF2 ge_t
  replace F_start := F_start.same W3
  replace E1 := E1.wr W3
  replace F_index := F_index.other W3 (Or.inr (slot_ne (Or.inr (hw _ (List.mem_of_getElem? (i := 81) rfl))) (Or.inr (hw _ (List.mem_of_getElem? (i := 83) rfl))) (by decide) (t := (.object "com/example/lissage/lissage/Index")) (t' := .int) (by decide) (by decide)))
  replace F_end := F_end.other W3 (Or.inr (slot_ne (Or.inr (hw _ (List.mem_of_getElem? (i := 85) rfl))) (Or.inr (hw _ (List.mem_of_getElem? (i := 83) rfl))) (by decide) (t := .int) (t' := .int) (by decide) (by decide)))
  replace Z0 := Nat.le_trans Z0 (Keep.of_wr W3).1
  replace K0 := K0.wr W3 (Or.inl (List.mem_of_getElem? (i := 0) rfl))
  show own_Go _ _ _ _ (T3.setTop (mkF m 14 #[.val (.ref t), .val (.ref a2), .val (.int p3), .val (.int p4)] []))
  refine own_go (fun _ kont => XS.aloadN X3.here hx rfl (hb hby own_d11_14) rfl rfl kont) ?_
  show own_Go _ _ _ _ (T3.setTop (mkF m 15 #[.val (.ref t), .val (.ref a2), .val (.int p3), .val (.int p4)] [(.ref t)]))
  refine own_go (fun _ kont => XS.iloadN X3.here hx rfl (hb hby own_d11_15) rfl kont) ?_
  show own_Go _ _ _ _ (T3.setTop (mkF m 16 #[.val (.ref t), .val (.ref a2), .val (.int p3), .val (.int p4)] [(.int p4), (.ref t)]))
  obtain ⟨T4, h4, X4, e4, W4, st4⟩ := putF X3 hx hZ hown (host := "") (Or.inl (hw _ (List.mem_of_getElem? (i := 84) rfl))) Via.refl e3 F_end E1 (Or.inr ⟨(hw _ (List.mem_of_getElem? (i := 85) rfl)), rfl, hnm⟩) (hw _ (List.mem_of_getElem? (i := 74) rfl)) (ty := .int) (by decide) rfl rfl (g := (mkF m 16 #[.val (.ref t), .val (.ref a2), .val (.int p3), .val (.int p4)] [(.int p4), (.ref t)])) rfl rfl (hb hby own_d11_16)
  refine own_go st4 ?_
  have NF4 := Fr.snoc X4 NF3 ge_t
  replace F_end := F_end.same W4
  replace E1 := E1.wr W4
  replace F_index := F_index.other W4 (Or.inr (slot_ne (Or.inr (hw _ (List.mem_of_getElem? (i := 81) rfl))) (Or.inr (hw _ (List.mem_of_getElem? (i := 85) rfl))) (by decide) (t := (.object "com/example/lissage/lissage/Index")) (t' := .int) (by decide) (by decide)))
  replace F_start := F_start.other W4 (Or.inr (slot_ne (Or.inr (hw _ (List.mem_of_getElem? (i := 83) rfl))) (Or.inr (hw _ (List.mem_of_getElem? (i := 85) rfl))) (by decide) (t := .int) (t' := .int) (by decide) (by decide)))
  replace Z0 := Nat.le_trans Z0 (Keep.of_wr W4).1
  replace K0 := K0.wr W4 (Or.inl (List.mem_of_getElem? (i := 0) rfl))
  show own_Go _ _ _ _ (T4.setTop (mkF m 19 #[.val (.ref t), .val (.ref a2), .val (.int p3), .val (.int p4)] []))
  refine own_ret X4 hlk (v := none) (fun _ => rfl) (fun fs hr => X4.returnOut hx Bd.returns (hb hby own_d11_19) hr) ?_ (by decide) (by decide)
  try rw [e4]
  exact ⟨rfl, NF4, K0, F_index, F_start, F_end⟩
theorem own_d12_0 : decode prog_31_method_3_code 0 = .ok (.aload_n 0, 1) := by decide +kernel
theorem own_d12_1 : decode prog_31_method_3_code 1 = .ok (.getfield 7, 3) := by decide +kernel
theorem own_d12_4 : decode prog_31_method_3_code 4 = .ok (.getfield 20, 3) := by decide +kernel
theorem own_d12_7 : decode prog_31_method_3_code 7 = .ok (.aload_n 0, 1) := by decide +kernel
theorem own_d12_8 : decode prog_31_method_3_code 8 = .ok (.getfield 17, 3) := by decide +kernel
theorem own_d12_11 : decode prog_31_method_3_code 11 = .ok (.iaload, 1) := by decide +kernel
theorem own_d12_12 : decode prog_31_method_3_code 12 = .ok (.aload_n 0, 1) := by decide +kernel
theorem own_d12_13 : decode prog_31_method_3_code 13 = .ok (.getfield 7, 3) := by decide +kernel
theorem own_d12_16 : decode prog_31_method_3_code 16 = .ok (.getfield 20, 3) := by decide +kernel
theorem own_d12_19 : decode prog_31_method_3_code 19 = .ok (.aload_n 0, 1) := by decide +kernel
theorem own_d12_20 : decode prog_31_method_3_code 20 = .ok (.getfield 13, 3) := by decide +kernel
theorem own_d12_23 : decode prog_31_method_3_code 23 = .ok (.iaload, 1) := by decide +kernel
theorem own_d12_24 : decode prog_31_method_3_code 24 = .ok (.isub, 1) := by decide +kernel
theorem own_d12_25 : decode prog_31_method_3_code 25 = .ok (.i2l, 1) := by decide +kernel
theorem own_d12_26 : decode prog_31_method_3_code 26 = .ok (.lreturn, 1) := by decide +kernel
set_option maxRecDepth 65536 in
set_option maxHeartbeats 40000000 in
theorem own_rmC (l : Launch) (Z : State) (a0 : Array Value) (hw : ∀ d ∈ tables_1, d.before a0 Z = true) (t : Addr) (i : Addr) (q : Addr) (k : ClassId) (lo : Int32) (hi : Int32) (xa : Int32) (xb : Int32) (xc : Int32) (xd : Int32) (h0 : Heap) (n0 : Nat) (Z0 : n0 ≤ h0.size) (F1 : Fld Z h0 t "com/example/lissage/lissage/Postings" "index" "Lcom/example/lissage/lissage/Index;" (.ref i)) (F2 : Fld Z h0 t "com/example/lissage/lissage/Postings" "start" "I" (.int lo)) (F3 : Fld Z h0 t "com/example/lissage/lissage/Postings" "end" "I" (.int hi)) (F4 : Fld Z h0 i "com/example/lissage/lissage/Index" "postingStarts" "[I" (.ref q)) (V : Arv Z h0 q k .int 5 [(.int 0), (.int xa), (.int (xa + xb)), (.int (xa + xb + xc)), (.int (xa + xb + xc + xd))] (.int 0)) (l1 : 0 ≤ lo.toInt) (l2 : lo.toInt ≤ hi.toInt) (l3 : hi.toInt < 5) :
    own_Met l Z [] (⟨"com/example/lissage/lissage/Postings", "collectionFrequency", "()J"⟩ : MethodName) prog_31_method_3_code 1 (some .long) ({ frames := 0, cells := 0, slots := 0, locals := 0 } : Room) #[(.ref t)] h0 (fun v h L => v = some (.long (own_P xa xb xc xd hi - own_P xa xb xc xd lo).toInt64) ∧ Fr n0 L ∧ h = h0) := by
  refine MetFree.of_bodySF (plainFor_of_name own_pn4) hisR ?_
  intro p e s m args below meth c s₁ Bd hml0 hP hK
  obtain ⟨rfl, hZ, hh⟩ := hP
  have hx := Bd.exec
  have hby := Bd.bytes
  have hml : c.maxLocals = 1 := hml0
  have hown : s.vm.findClass "com/example/lissage/lissage/Postings" = some m.cls := findClass_of_methodNamed Bd.named
  have hnm := (name_of_methodNamed Bd.named Bd.method).1
  have hlk : meth.locks = false := Bd.notSynchronized
  have X0 : Stand p l e ({ frames := 0, cells := 0, slots := 0, locals := 0 } : Room) s m #[(.ref t)] below meth c s₁ [] 0 0 := Stand.of_body Bd
  have e0 : s₁.heap = h0 := by rw [← hh, Bd.state]; rfl
  have N0 := Fr.nil n0
  refine own_body (Q := fun v h L => v = some (.long (own_P xa xb xc xd hi - own_P xa xb xc xd lo).toInt64) ∧ Fr n0 L ∧ h = h0) ?_
  refine own_go (fun _ kont => castTop (own_ef m #[(.ref t)] 1 #[.val (.ref t)] (own_al [(.ref t)] 1 [.val (.ref t)] rfl)) kont) ?_
  show own_Go _ _ _ _ (s₁.setTop (mkF m 0 #[.val (.ref t)] []))
  refine own_go (fun _ kont => XS.aloadN X0.here hx rfl (hb hby own_d12_0) rfl rfl kont) ?_
  show own_Go _ _ _ _ (s₁.setTop (mkF m 1 #[.val (.ref t)] [(.ref t)]))
  obtain ⟨T1, X1, e1, st1⟩ := getF X0 hx hZ hown (host := "") (Or.inl (hw _ (List.mem_of_getElem? (i := 80) rfl))) Via.refl e0 F1 (g := (mkF m 1 #[.val (.ref t)] [(.ref t)])) rfl rfl (hb hby own_d12_1)
  refine own_go st1 ?_
  show own_Go _ _ _ _ (T1.setTop (mkF m 4 #[.val (.ref t)] [(.ref i)]))
  obtain ⟨T2, X2, e2, st2⟩ := getF X1 hx hZ hown (host := "") (Or.inl (hw _ (List.mem_of_getElem? (i := 91) rfl))) Via.refl e1 F4 (g := (mkF m 4 #[.val (.ref t)] [(.ref i)])) rfl rfl (hb hby own_d12_4)
  refine own_go st2 ?_
  show own_Go _ _ _ _ (T2.setTop (mkF m 7 #[.val (.ref t)] [(.ref q)]))
  refine own_go (fun _ kont => XS.aloadN X2.here hx rfl (hb hby own_d12_7) rfl rfl kont) ?_
  show own_Go _ _ _ _ (T2.setTop (mkF m 8 #[.val (.ref t)] [(.ref t), (.ref q)]))
  obtain ⟨T3, X3, e3, st3⟩ := getF X2 hx hZ hown (host := "") (Or.inl (hw _ (List.mem_of_getElem? (i := 84) rfl))) Via.refl e2 F3 (g := (mkF m 8 #[.val (.ref t)] [(.ref t), (.ref q)])) rfl rfl (hb hby own_d12_8)
  refine own_go st3 ?_
  show own_Go _ _ _ _ (T3.setTop (mkF m 11 #[.val (.ref t)] [(.int hi), (.ref q)]))
  obtain ⟨cl4, Ar4, q4, Sz4, Ng4, Hs4, Gs4⟩ := id V
  have hin4 : ¬ (hi < 0 ∨ cl4.slots.size ≤ (hi).toNatClampNeg) := inb_of Sz4 (own_inb (by omega) l3)
  have hat4 : cl4.slots[(hi).toNatClampNeg]? = some (.int (own_P xa xb xc xd hi)) := Hs4.at hin4 (own_get (by omega) l3)
  refine own_go (X3.iaload hx (j := hi) (v := (.int (own_P xa xb xc xd hi))) (own_hp e3 Ar4.1) (State.isArrayOf_alike hZ.alike Ar4.2.1) Ar4.2.2 hin4 hat4 (g := (mkF m 11 #[.val (.ref t)] [(.int hi), (.ref q)])) rfl rfl (hb hby own_d12_11)) ?_
  show own_Go _ _ _ _ (T3.setTop (mkF m 12 #[.val (.ref t)] [(.int (own_P xa xb xc xd hi))]))
  refine own_go (fun _ kont => XS.aloadN X3.here hx rfl (hb hby own_d12_12) rfl rfl kont) ?_
  show own_Go _ _ _ _ (T3.setTop (mkF m 13 #[.val (.ref t)] [(.ref t), (.int (own_P xa xb xc xd hi))]))
  obtain ⟨T5, X5, e5, st5⟩ := getF X3 hx hZ hown (host := "") (Or.inl (hw _ (List.mem_of_getElem? (i := 80) rfl))) Via.refl e3 F1 (g := (mkF m 13 #[.val (.ref t)] [(.ref t), (.int (own_P xa xb xc xd hi))])) rfl rfl (hb hby own_d12_13)
  refine own_go st5 ?_
  show own_Go _ _ _ _ (T5.setTop (mkF m 16 #[.val (.ref t)] [(.ref i), (.int (own_P xa xb xc xd hi))]))
  obtain ⟨T6, X6, e6, st6⟩ := getF X5 hx hZ hown (host := "") (Or.inl (hw _ (List.mem_of_getElem? (i := 91) rfl))) Via.refl e5 F4 (g := (mkF m 16 #[.val (.ref t)] [(.ref i), (.int (own_P xa xb xc xd hi))])) rfl rfl (hb hby own_d12_16)
  refine own_go st6 ?_
  show own_Go _ _ _ _ (T6.setTop (mkF m 19 #[.val (.ref t)] [(.ref q), (.int (own_P xa xb xc xd hi))]))
  refine own_go (fun _ kont => XS.aloadN X6.here hx rfl (hb hby own_d12_19) rfl rfl kont) ?_
  show own_Go _ _ _ _ (T6.setTop (mkF m 20 #[.val (.ref t)] [(.ref t), (.ref q), (.int (own_P xa xb xc xd hi))]))
  obtain ⟨T7, X7, e7, st7⟩ := getF X6 hx hZ hown (host := "") (Or.inl (hw _ (List.mem_of_getElem? (i := 82) rfl))) Via.refl e6 F2 (g := (mkF m 20 #[.val (.ref t)] [(.ref t), (.ref q), (.int (own_P xa xb xc xd hi))])) rfl rfl (hb hby own_d12_20)
  refine own_go st7 ?_
  show own_Go _ _ _ _ (T7.setTop (mkF m 23 #[.val (.ref t)] [(.int lo), (.ref q), (.int (own_P xa xb xc xd hi))]))
  obtain ⟨cl8, Ar8, q8, Sz8, Ng8, Hs8, Gs8⟩ := id V
  have hin8 : ¬ (lo < 0 ∨ cl8.slots.size ≤ (lo).toNatClampNeg) := inb_of Sz8 (own_inb l1 (by omega))
  have hat8 : cl8.slots[(lo).toNatClampNeg]? = some (.int (own_P xa xb xc xd lo)) := Hs8.at hin8 (own_get l1 (by omega))
  refine own_go (X7.iaload hx (j := lo) (v := (.int (own_P xa xb xc xd lo))) (own_hp e7 Ar8.1) (State.isArrayOf_alike hZ.alike Ar8.2.1) Ar8.2.2 hin8 hat8 (g := (mkF m 23 #[.val (.ref t)] [(.int lo), (.ref q), (.int (own_P xa xb xc xd hi))])) rfl rfl (hb hby own_d12_23)) ?_
  show own_Go _ _ _ _ (T7.setTop (mkF m 24 #[.val (.ref t)] [(.int (own_P xa xb xc xd lo)), (.int (own_P xa xb xc xd hi))]))
  refine own_go (fun _ kont => XS.isub X7.here hx rfl (hb hby own_d12_24) rfl kont) ?_
  show own_Go _ _ _ _ (T7.setTop (mkF m 25 #[.val (.ref t)] [(.int ((own_P xa xb xc xd hi) - (own_P xa xb xc xd lo)))]))
  refine own_go (fun _ kont => XS.i2l X7.here hx rfl (hb hby own_d12_25) rfl kont) ?_
  show own_Go _ _ _ _ (T7.setTop (mkF m 26 #[.val (.ref t)] [(.long (((own_P xa xb xc xd hi) - (own_P xa xb xc xd lo)).toInt64))]))
  refine own_ret X7 hlk (v := some (.long (((own_P xa xb xc xd hi) - (own_P xa xb xc xd lo)).toInt64))) (fun h => by rw [Bd.returns] at h; cases h) (fun fs hr => retOut X7 hx Bd.returns rfl (Or.inr (Or.inl ⟨rfl, rfl, _, rfl⟩)) (hb hby own_d12_26) hr) ?_ (by decide) (by decide)
  try rw [e7]
  exact ⟨rfl, N0, rfl⟩
theorem own_pn5 : plainName "com/example/lissage/lissage/PostingsCollectionFrequencyPinLaw" = true := by first | (simp [plainName, overriddenIn]; done) | decide +kernel
theorem own_pd5 : parseMethodDescriptor "(II)I" = some ⟨[.int, .int], some .int⟩ := by decide +kernel
theorem own_pd6 : parseMethodDescriptor "([Ljava/lang/String;[I[I[Ljava/lang/String;[I[I[I[I)V" = some ⟨[(.array (.object "java/lang/String")), (.array .int), (.array .int), (.array (.object "java/lang/String")), (.array .int), (.array .int), (.array .int), (.array .int)], none⟩ := by decide +kernel
theorem own_pd7 : parseMethodDescriptor "(Lcom/example/lissage/lissage/Index;II)V" = some ⟨[(.object "com/example/lissage/lissage/Index"), .int, .int], none⟩ := by decide +kernel
theorem own_pd8 : parseMethodDescriptor "()J" = some ⟨[], some .long⟩ := by decide +kernel
set_option maxRecDepth 65536 in
set_option maxHeartbeats 40000000 in
theorem own_rm0 (l : Launch) (Z : State) (a0 : Array Value) (hw : ∀ d ∈ tables_1, d.before a0 Z = true) (p1 : Int32) (p2 : Int32) (p3 : Int32) (p4 : Int32) (p5 : Int32) (p6 : Int32) (h0 : Heap) (n0 : Nat) (Z0 : n0 ≤ h0.size)  :
    own_Met l Z tables_1 x code maxLocals ret room_1 #[(.int p1), (.int p2), (.int p3), (.int p4), (.int p5), (.int p6)] h0 (fun v h L => v = some (.int 1) ∧ Fr n0 L) := by
  refine MetFree.of_bodySF (plainFor_of_name own_pn5) hisR ?_
  intro p e s m args below meth c s₁ Bd hml0 hP hK
  obtain ⟨rfl, hZ, hh⟩ := hP
  have hx := Bd.exec
  have hby := Bd.bytes
  have hml : c.maxLocals = 22 := hml0
  have hown : s.vm.findClass "com/example/lissage/lissage/PostingsCollectionFrequencyPinLaw" = some m.cls := findClass_of_methodNamed Bd.named
  have hnm := (name_of_methodNamed Bd.named Bd.method).1
  have hlk : meth.locks = false := Bd.notSynchronized
  have X0 : Stand p l e room_1 s m #[(.int p1), (.int p2), (.int p3), (.int p4), (.int p5), (.int p6)] below meth c s₁ [] 0 0 := Stand.of_body Bd
  have e0 : s₁.heap = h0 := by rw [← hh, Bd.state]; rfl
  have N0 := Fr.nil n0
  refine own_body (Q := fun v h L => v = some (.int 1) ∧ Fr n0 L) ?_
  refine own_go (fun _ kont => castTop (own_ef m #[(.int p1), (.int p2), (.int p3), (.int p4), (.int p5), (.int p6)] maxLocals #[.val (.int p1), .val (.int p2), .val (.int p3), .val (.int p4), .val (.int p5), .val (.int p6), .unset, .unset, .unset, .unset, .unset, .unset, .unset, .unset, .unset, .unset, .unset, .unset, .unset, .unset, .unset, .unset] (own_al [(.int p1), (.int p2), (.int p3), (.int p4), (.int p5), (.int p6)] maxLocals [.val (.int p1), .val (.int p2), .val (.int p3), .val (.int p4), .val (.int p5), .val (.int p6), .unset, .unset, .unset, .unset, .unset, .unset, .unset, .unset, .unset, .unset, .unset, .unset, .unset, .unset, .unset, .unset] rfl)) kont) ?_
  show own_Go _ _ _ _ (s₁.setTop (mkF m 0 #[.val (.int p1), .val (.int p2), .val (.int p3), .val (.int p4), .val (.int p5), .val (.int p6), .unset, .unset, .unset, .unset, .unset, .unset, .unset, .unset, .unset, .unset, .unset, .unset, .unset, .unset, .unset, .unset] []))
  have K0 : Keep h0 h0 [] := Keep.refl _ _
  refine own_go (fun _ kont => XS.iloadN X0.here hx rfl (hb hby at_0) rfl kont) ?_
  show own_Go _ _ _ _ (s₁.setTop (mkF m 1 #[.val (.int p1), .val (.int p2), .val (.int p3), .val (.int p4), .val (.int p5), .val (.int p6), .unset, .unset, .unset, .unset, .unset, .unset, .unset, .unset, .unset, .unset, .unset, .unset, .unset, .unset, .unset, .unset] [(.int p1)]))
  refine own_go (X0.ldcInt hx hown (mvT hZ (hw _ (List.mem_of_getElem? (i := 0) rfl))) (g := (mkF m 1 #[.val (.int p1), .val (.int p2), .val (.int p3), .val (.int p4), .val (.int p5), .val (.int p6), .unset, .unset, .unset, .unset, .unset, .unset, .unset, .unset, .unset, .unset, .unset, .unset, .unset, .unset, .unset, .unset] [(.int p1)])) rfl (hb hby at_1)) ?_
  show own_Go _ _ _ _ (s₁.setTop (mkF m 3 #[.val (.int p1), .val (.int p2), .val (.int p3), .val (.int p4), .val (.int p5), .val (.int p6), .unset, .unset, .unset, .unset, .unset, .unset, .unset, .unset, .unset, .unset, .unset, .unset, .unset, .unset, .unset, .unset] [(.int (536870911 : Int32)), (.int p1)]))
  refine own_go (fun _ kont => XS.iand X0.here hx rfl (hb hby at_3) rfl kont) ?_
  show own_Go _ _ _ _ (s₁.setTop (mkF m 4 #[.val (.int p1), .val (.int p2), .val (.int p3), .val (.int p4), .val (.int p5), .val (.int p6), .unset, .unset, .unset, .unset, .unset, .unset, .unset, .unset, .unset, .unset, .unset, .unset, .unset, .unset, .unset, .unset] [(.int (p1 &&& (536870911 : Int32)))]))
  obtain ⟨av1, av2⟩ := own_mask p1
  generalize hav : (p1 &&& (536870911 : Int32)) = av
  rw [hav] at av1 av2
  show own_Go _ _ _ _ (s₁.setTop (mkF m 4 #[.val (.int p1), .val (.int p2), .val (.int p3), .val (.int p4), .val (.int p5), .val (.int p6), .unset, .unset, .unset, .unset, .unset, .unset, .unset, .unset, .unset, .unset, .unset, .unset, .unset, .unset, .unset, .unset] [(.int av)]))
  refine own_go (fun _ kont => XS.istore X0.here hx rfl (hb hby at_4) rfl (l' := #[.val (.int p1), .val (.int p2), .val (.int p3), .val (.int p4), .val (.int p5), .val (.int p6), .val (.int av), .unset, .unset, .unset, .unset, .unset, .unset, .unset, .unset, .unset, .unset, .unset, .unset, .unset, .unset, .unset]) rfl kont) ?_
  show own_Go _ _ _ _ (s₁.setTop (mkF m 6 #[.val (.int p1), .val (.int p2), .val (.int p3), .val (.int p4), .val (.int p5), .val (.int p6), .val (.int av), .unset, .unset, .unset, .unset, .unset, .unset, .unset, .unset, .unset, .unset, .unset, .unset, .unset, .unset, .unset] []))
  refine own_go (fun _ kont => XS.iloadN X0.here hx rfl (hb hby at_6) rfl kont) ?_
  show own_Go _ _ _ _ (s₁.setTop (mkF m 7 #[.val (.int p1), .val (.int p2), .val (.int p3), .val (.int p4), .val (.int p5), .val (.int p6), .val (.int av), .unset, .unset, .unset, .unset, .unset, .unset, .unset, .unset, .unset, .unset, .unset, .unset, .unset, .unset, .unset] [(.int p2)]))
  refine own_go (X0.ldcInt hx hown (mvT hZ (hw _ (List.mem_of_getElem? (i := 0) rfl))) (g := (mkF m 7 #[.val (.int p1), .val (.int p2), .val (.int p3), .val (.int p4), .val (.int p5), .val (.int p6), .val (.int av), .unset, .unset, .unset, .unset, .unset, .unset, .unset, .unset, .unset, .unset, .unset, .unset, .unset, .unset, .unset] [(.int p2)])) rfl (hb hby at_7)) ?_
  show own_Go _ _ _ _ (s₁.setTop (mkF m 9 #[.val (.int p1), .val (.int p2), .val (.int p3), .val (.int p4), .val (.int p5), .val (.int p6), .val (.int av), .unset, .unset, .unset, .unset, .unset, .unset, .unset, .unset, .unset, .unset, .unset, .unset, .unset, .unset, .unset] [(.int (536870911 : Int32)), (.int p2)]))
  refine own_go (fun _ kont => XS.iand X0.here hx rfl (hb hby at_9) rfl kont) ?_
  show own_Go _ _ _ _ (s₁.setTop (mkF m 10 #[.val (.int p1), .val (.int p2), .val (.int p3), .val (.int p4), .val (.int p5), .val (.int p6), .val (.int av), .unset, .unset, .unset, .unset, .unset, .unset, .unset, .unset, .unset, .unset, .unset, .unset, .unset, .unset, .unset] [(.int (p2 &&& (536870911 : Int32)))]))
  obtain ⟨bv1, bv2⟩ := own_mask p2
  generalize hbv : (p2 &&& (536870911 : Int32)) = bv
  rw [hbv] at bv1 bv2
  show own_Go _ _ _ _ (s₁.setTop (mkF m 10 #[.val (.int p1), .val (.int p2), .val (.int p3), .val (.int p4), .val (.int p5), .val (.int p6), .val (.int av), .unset, .unset, .unset, .unset, .unset, .unset, .unset, .unset, .unset, .unset, .unset, .unset, .unset, .unset, .unset] [(.int bv)]))
  refine own_go (fun _ kont => XS.istore X0.here hx rfl (hb hby at_10) rfl (l' := #[.val (.int p1), .val (.int p2), .val (.int p3), .val (.int p4), .val (.int p5), .val (.int p6), .val (.int av), .val (.int bv), .unset, .unset, .unset, .unset, .unset, .unset, .unset, .unset, .unset, .unset, .unset, .unset, .unset, .unset]) rfl kont) ?_
  show own_Go _ _ _ _ (s₁.setTop (mkF m 12 #[.val (.int p1), .val (.int p2), .val (.int p3), .val (.int p4), .val (.int p5), .val (.int p6), .val (.int av), .val (.int bv), .unset, .unset, .unset, .unset, .unset, .unset, .unset, .unset, .unset, .unset, .unset, .unset, .unset, .unset] []))
  refine own_go (fun _ kont => XS.iloadN X0.here hx rfl (hb hby at_12) rfl kont) ?_
  show own_Go _ _ _ _ (s₁.setTop (mkF m 13 #[.val (.int p1), .val (.int p2), .val (.int p3), .val (.int p4), .val (.int p5), .val (.int p6), .val (.int av), .val (.int bv), .unset, .unset, .unset, .unset, .unset, .unset, .unset, .unset, .unset, .unset, .unset, .unset, .unset, .unset] [(.int p3)]))
  refine own_go (X0.ldcInt hx hown (mvT hZ (hw _ (List.mem_of_getElem? (i := 0) rfl))) (g := (mkF m 13 #[.val (.int p1), .val (.int p2), .val (.int p3), .val (.int p4), .val (.int p5), .val (.int p6), .val (.int av), .val (.int bv), .unset, .unset, .unset, .unset, .unset, .unset, .unset, .unset, .unset, .unset, .unset, .unset, .unset, .unset] [(.int p3)])) rfl (hb hby at_13)) ?_
  show own_Go _ _ _ _ (s₁.setTop (mkF m 15 #[.val (.int p1), .val (.int p2), .val (.int p3), .val (.int p4), .val (.int p5), .val (.int p6), .val (.int av), .val (.int bv), .unset, .unset, .unset, .unset, .unset, .unset, .unset, .unset, .unset, .unset, .unset, .unset, .unset, .unset] [(.int (536870911 : Int32)), (.int p3)]))
  refine own_go (fun _ kont => XS.iand X0.here hx rfl (hb hby at_15) rfl kont) ?_
  show own_Go _ _ _ _ (s₁.setTop (mkF m 16 #[.val (.int p1), .val (.int p2), .val (.int p3), .val (.int p4), .val (.int p5), .val (.int p6), .val (.int av), .val (.int bv), .unset, .unset, .unset, .unset, .unset, .unset, .unset, .unset, .unset, .unset, .unset, .unset, .unset, .unset] [(.int (p3 &&& (536870911 : Int32)))]))
  obtain ⟨cv1, cv2⟩ := own_mask p3
  generalize hcv : (p3 &&& (536870911 : Int32)) = cv
  rw [hcv] at cv1 cv2
  show own_Go _ _ _ _ (s₁.setTop (mkF m 16 #[.val (.int p1), .val (.int p2), .val (.int p3), .val (.int p4), .val (.int p5), .val (.int p6), .val (.int av), .val (.int bv), .unset, .unset, .unset, .unset, .unset, .unset, .unset, .unset, .unset, .unset, .unset, .unset, .unset, .unset] [(.int cv)]))
  refine own_go (fun _ kont => XS.istore X0.here hx rfl (hb hby at_16) rfl (l' := #[.val (.int p1), .val (.int p2), .val (.int p3), .val (.int p4), .val (.int p5), .val (.int p6), .val (.int av), .val (.int bv), .val (.int cv), .unset, .unset, .unset, .unset, .unset, .unset, .unset, .unset, .unset, .unset, .unset, .unset, .unset]) rfl kont) ?_
  show own_Go _ _ _ _ (s₁.setTop (mkF m 18 #[.val (.int p1), .val (.int p2), .val (.int p3), .val (.int p4), .val (.int p5), .val (.int p6), .val (.int av), .val (.int bv), .val (.int cv), .unset, .unset, .unset, .unset, .unset, .unset, .unset, .unset, .unset, .unset, .unset, .unset, .unset] []))
  refine own_go (fun _ kont => XS.iloadN X0.here hx rfl (hb hby at_18) rfl kont) ?_
  show own_Go _ _ _ _ (s₁.setTop (mkF m 19 #[.val (.int p1), .val (.int p2), .val (.int p3), .val (.int p4), .val (.int p5), .val (.int p6), .val (.int av), .val (.int bv), .val (.int cv), .unset, .unset, .unset, .unset, .unset, .unset, .unset, .unset, .unset, .unset, .unset, .unset, .unset] [(.int p4)]))
  refine own_go (X0.ldcInt hx hown (mvT hZ (hw _ (List.mem_of_getElem? (i := 0) rfl))) (g := (mkF m 19 #[.val (.int p1), .val (.int p2), .val (.int p3), .val (.int p4), .val (.int p5), .val (.int p6), .val (.int av), .val (.int bv), .val (.int cv), .unset, .unset, .unset, .unset, .unset, .unset, .unset, .unset, .unset, .unset, .unset, .unset, .unset] [(.int p4)])) rfl (hb hby at_19)) ?_
  show own_Go _ _ _ _ (s₁.setTop (mkF m 21 #[.val (.int p1), .val (.int p2), .val (.int p3), .val (.int p4), .val (.int p5), .val (.int p6), .val (.int av), .val (.int bv), .val (.int cv), .unset, .unset, .unset, .unset, .unset, .unset, .unset, .unset, .unset, .unset, .unset, .unset, .unset] [(.int (536870911 : Int32)), (.int p4)]))
  refine own_go (fun _ kont => XS.iand X0.here hx rfl (hb hby at_21) rfl kont) ?_
  show own_Go _ _ _ _ (s₁.setTop (mkF m 22 #[.val (.int p1), .val (.int p2), .val (.int p3), .val (.int p4), .val (.int p5), .val (.int p6), .val (.int av), .val (.int bv), .val (.int cv), .unset, .unset, .unset, .unset, .unset, .unset, .unset, .unset, .unset, .unset, .unset, .unset, .unset] [(.int (p4 &&& (536870911 : Int32)))]))
  obtain ⟨dv1, dv2⟩ := own_mask p4
  generalize hdv : (p4 &&& (536870911 : Int32)) = dv
  rw [hdv] at dv1 dv2
  show own_Go _ _ _ _ (s₁.setTop (mkF m 22 #[.val (.int p1), .val (.int p2), .val (.int p3), .val (.int p4), .val (.int p5), .val (.int p6), .val (.int av), .val (.int bv), .val (.int cv), .unset, .unset, .unset, .unset, .unset, .unset, .unset, .unset, .unset, .unset, .unset, .unset, .unset] [(.int dv)]))
  refine own_go (fun _ kont => XS.istore X0.here hx rfl (hb hby at_22) rfl (l' := #[.val (.int p1), .val (.int p2), .val (.int p3), .val (.int p4), .val (.int p5), .val (.int p6), .val (.int av), .val (.int bv), .val (.int cv), .val (.int dv), .unset, .unset, .unset, .unset, .unset, .unset, .unset, .unset, .unset, .unset, .unset, .unset]) rfl kont) ?_
  show own_Go _ _ _ _ (s₁.setTop (mkF m 24 #[.val (.int p1), .val (.int p2), .val (.int p3), .val (.int p4), .val (.int p5), .val (.int p6), .val (.int av), .val (.int bv), .val (.int cv), .val (.int dv), .unset, .unset, .unset, .unset, .unset, .unset, .unset, .unset, .unset, .unset, .unset, .unset] []))
  refine own_go (fun _ kont => XS.iload X0.here hx rfl (hb hby at_24) rfl kont) ?_
  show own_Go _ _ _ _ (s₁.setTop (mkF m 26 #[.val (.int p1), .val (.int p2), .val (.int p3), .val (.int p4), .val (.int p5), .val (.int p6), .val (.int av), .val (.int bv), .val (.int cv), .val (.int dv), .unset, .unset, .unset, .unset, .unset, .unset, .unset, .unset, .unset, .unset, .unset, .unset] [(.int p5)]))
  refine own_go (X0.ldcInt hx hown (mvT hZ (hw _ (List.mem_of_getElem? (i := 1) rfl))) (g := (mkF m 26 #[.val (.int p1), .val (.int p2), .val (.int p3), .val (.int p4), .val (.int p5), .val (.int p6), .val (.int av), .val (.int bv), .val (.int cv), .val (.int dv), .unset, .unset, .unset, .unset, .unset, .unset, .unset, .unset, .unset, .unset, .unset, .unset] [(.int p5)])) rfl (hb hby at_26)) ?_
  show own_Go _ _ _ _ (s₁.setTop (mkF m 28 #[.val (.int p1), .val (.int p2), .val (.int p3), .val (.int p4), .val (.int p5), .val (.int p6), .val (.int av), .val (.int bv), .val (.int cv), .val (.int dv), .unset, .unset, .unset, .unset, .unset, .unset, .unset, .unset, .unset, .unset, .unset, .unset] [(.int (2147483647 : Int32)), (.int p5)]))
  refine own_go (fun _ kont => XS.iand X0.here hx rfl (hb hby at_28) rfl kont) ?_
  show own_Go _ _ _ _ (s₁.setTop (mkF m 29 #[.val (.int p1), .val (.int p2), .val (.int p3), .val (.int p4), .val (.int p5), .val (.int p6), .val (.int av), .val (.int bv), .val (.int cv), .val (.int dv), .unset, .unset, .unset, .unset, .unset, .unset, .unset, .unset, .unset, .unset, .unset, .unset] [(.int (p5 &&& (2147483647 : Int32)))]))
  refine own_go (fun _ kont => XS.iconst X0.here hx rfl (hb hby at_29) kont) ?_
  show own_Go _ _ _ _ (s₁.setTop (mkF m 30 #[.val (.int p1), .val (.int p2), .val (.int p3), .val (.int p4), .val (.int p5), .val (.int p6), .val (.int av), .val (.int bv), .val (.int cv), .val (.int dv), .unset, .unset, .unset, .unset, .unset, .unset, .unset, .unset, .unset, .unset, .unset, .unset] [(.int (5 : Int32)), (.int (p5 &&& (2147483647 : Int32)))]))
  refine own_go (fun _ kont => iremM X0 hx rfl (hb hby at_30) rfl (by decide) kont) ?_
  show own_Go _ _ _ _ (s₁.setTop (mkF m 31 #[.val (.int p1), .val (.int p2), .val (.int p3), .val (.int p4), .val (.int p5), .val (.int p6), .val (.int av), .val (.int bv), .val (.int cv), .val (.int dv), .unset, .unset, .unset, .unset, .unset, .unset, .unset, .unset, .unset, .unset, .unset, .unset] [(.int ((p5 &&& (2147483647 : Int32)) % (5 : Int32)))]))
  obtain ⟨sv1, sv2⟩ := own_m5 p5
  generalize hsv : ((p5 &&& (2147483647 : Int32)) % (5 : Int32)) = sv
  rw [hsv] at sv1 sv2
  show own_Go _ _ _ _ (s₁.setTop (mkF m 31 #[.val (.int p1), .val (.int p2), .val (.int p3), .val (.int p4), .val (.int p5), .val (.int p6), .val (.int av), .val (.int bv), .val (.int cv), .val (.int dv), .unset, .unset, .unset, .unset, .unset, .unset, .unset, .unset, .unset, .unset, .unset, .unset] [(.int sv)]))
  refine own_go (fun _ kont => XS.istore X0.here hx rfl (hb hby at_31) rfl (l' := #[.val (.int p1), .val (.int p2), .val (.int p3), .val (.int p4), .val (.int p5), .val (.int p6), .val (.int av), .val (.int bv), .val (.int cv), .val (.int dv), .val (.int sv), .unset, .unset, .unset, .unset, .unset, .unset, .unset, .unset, .unset, .unset, .unset]) rfl kont) ?_
  show own_Go _ _ _ _ (s₁.setTop (mkF m 33 #[.val (.int p1), .val (.int p2), .val (.int p3), .val (.int p4), .val (.int p5), .val (.int p6), .val (.int av), .val (.int bv), .val (.int cv), .val (.int dv), .val (.int sv), .unset, .unset, .unset, .unset, .unset, .unset, .unset, .unset, .unset, .unset, .unset] []))
  refine own_go (fun _ kont => XS.iload X0.here hx rfl (hb hby at_33) rfl kont) ?_
  show own_Go _ _ _ _ (s₁.setTop (mkF m 35 #[.val (.int p1), .val (.int p2), .val (.int p3), .val (.int p4), .val (.int p5), .val (.int p6), .val (.int av), .val (.int bv), .val (.int cv), .val (.int dv), .val (.int sv), .unset, .unset, .unset, .unset, .unset, .unset, .unset, .unset, .unset, .unset, .unset] [(.int p6)]))
  refine own_go (X0.ldcInt hx hown (mvT hZ (hw _ (List.mem_of_getElem? (i := 1) rfl))) (g := (mkF m 35 #[.val (.int p1), .val (.int p2), .val (.int p3), .val (.int p4), .val (.int p5), .val (.int p6), .val (.int av), .val (.int bv), .val (.int cv), .val (.int dv), .val (.int sv), .unset, .unset, .unset, .unset, .unset, .unset, .unset, .unset, .unset, .unset, .unset] [(.int p6)])) rfl (hb hby at_35)) ?_
  show own_Go _ _ _ _ (s₁.setTop (mkF m 37 #[.val (.int p1), .val (.int p2), .val (.int p3), .val (.int p4), .val (.int p5), .val (.int p6), .val (.int av), .val (.int bv), .val (.int cv), .val (.int dv), .val (.int sv), .unset, .unset, .unset, .unset, .unset, .unset, .unset, .unset, .unset, .unset, .unset] [(.int (2147483647 : Int32)), (.int p6)]))
  refine own_go (fun _ kont => XS.iand X0.here hx rfl (hb hby at_37) rfl kont) ?_
  show own_Go _ _ _ _ (s₁.setTop (mkF m 38 #[.val (.int p1), .val (.int p2), .val (.int p3), .val (.int p4), .val (.int p5), .val (.int p6), .val (.int av), .val (.int bv), .val (.int cv), .val (.int dv), .val (.int sv), .unset, .unset, .unset, .unset, .unset, .unset, .unset, .unset, .unset, .unset, .unset] [(.int (p6 &&& (2147483647 : Int32)))]))
  refine own_go (fun _ kont => XS.iconst X0.here hx rfl (hb hby at_38) kont) ?_
  show own_Go _ _ _ _ (s₁.setTop (mkF m 39 #[.val (.int p1), .val (.int p2), .val (.int p3), .val (.int p4), .val (.int p5), .val (.int p6), .val (.int av), .val (.int bv), .val (.int cv), .val (.int dv), .val (.int sv), .unset, .unset, .unset, .unset, .unset, .unset, .unset, .unset, .unset, .unset, .unset] [(.int (5 : Int32)), (.int (p6 &&& (2147483647 : Int32)))]))
  refine own_go (fun _ kont => iremM X0 hx rfl (hb hby at_39) rfl (by decide) kont) ?_
  show own_Go _ _ _ _ (s₁.setTop (mkF m 40 #[.val (.int p1), .val (.int p2), .val (.int p3), .val (.int p4), .val (.int p5), .val (.int p6), .val (.int av), .val (.int bv), .val (.int cv), .val (.int dv), .val (.int sv), .unset, .unset, .unset, .unset, .unset, .unset, .unset, .unset, .unset, .unset, .unset] [(.int ((p6 &&& (2147483647 : Int32)) % (5 : Int32)))]))
  obtain ⟨tv1, tv2⟩ := own_m5 p6
  generalize htv : ((p6 &&& (2147483647 : Int32)) % (5 : Int32)) = tv
  rw [htv] at tv1 tv2
  show own_Go _ _ _ _ (s₁.setTop (mkF m 40 #[.val (.int p1), .val (.int p2), .val (.int p3), .val (.int p4), .val (.int p5), .val (.int p6), .val (.int av), .val (.int bv), .val (.int cv), .val (.int dv), .val (.int sv), .unset, .unset, .unset, .unset, .unset, .unset, .unset, .unset, .unset, .unset, .unset] [(.int tv)]))
  refine own_go (fun _ kont => XS.istore X0.here hx rfl (hb hby at_40) rfl (l' := #[.val (.int p1), .val (.int p2), .val (.int p3), .val (.int p4), .val (.int p5), .val (.int p6), .val (.int av), .val (.int bv), .val (.int cv), .val (.int dv), .val (.int sv), .val (.int tv), .unset, .unset, .unset, .unset, .unset, .unset, .unset, .unset, .unset, .unset]) rfl kont) ?_
  show own_Go _ _ _ _ (s₁.setTop (mkF m 42 #[.val (.int p1), .val (.int p2), .val (.int p3), .val (.int p4), .val (.int p5), .val (.int p6), .val (.int av), .val (.int bv), .val (.int cv), .val (.int dv), .val (.int sv), .val (.int tv), .unset, .unset, .unset, .unset, .unset, .unset, .unset, .unset, .unset, .unset] []))
  refine own_go (fun _ kont => XS.iload X0.here hx rfl (hb hby at_42) rfl kont) ?_
  show own_Go _ _ _ _ (s₁.setTop (mkF m 44 #[.val (.int p1), .val (.int p2), .val (.int p3), .val (.int p4), .val (.int p5), .val (.int p6), .val (.int av), .val (.int bv), .val (.int cv), .val (.int dv), .val (.int sv), .val (.int tv), .unset, .unset, .unset, .unset, .unset, .unset, .unset, .unset, .unset, .unset] [(.int sv)]))
  refine own_go (fun _ kont => XS.iload X0.here hx rfl (hb hby at_44) rfl kont) ?_
  show own_Go _ _ _ _ (s₁.setTop (mkF m 46 #[.val (.int p1), .val (.int p2), .val (.int p3), .val (.int p4), .val (.int p5), .val (.int p6), .val (.int av), .val (.int bv), .val (.int cv), .val (.int dv), .val (.int sv), .val (.int tv), .unset, .unset, .unset, .unset, .unset, .unset, .unset, .unset, .unset, .unset] [(.int tv), (.int sv)]))
  obtain ⟨_, _, ⟨T1, L1, k1, n1⟩, -, X1, ⟨Lc1, hQ1, l1, y1, z1⟩, st1⟩ := Jvm.LawKit.callS X0 hx (y := (⟨"java/lang/Math", "min", "(II)I"⟩ : MethodName)) hown (mvT hZ (hw _ (List.mem_of_getElem? (i := 2) rfl))) (mvT hZ (hw _ (List.mem_of_getElem? (i := 3) rfl))) (mvT hZ (hw _ (List.mem_of_getElem? (i := 4) rfl))) (mvT hZ (hw _ (List.mem_of_getElem? (i := 5) rfl))) (by decide) (own_back (W := 0) (own_rmMin l Z a0 hw sv tv h0 n0 Z0) hZ (hw _ (List.mem_of_getElem? (i := 5) rfl)) (hw _ (List.mem_of_getElem? (i := 4) rfl)) (by decide) (by decide)) (g := (mkF m 46 #[.val (.int p1), .val (.int p2), .val (.int p3), .val (.int p4), .val (.int p5), .val (.int p6), .val (.int av), .val (.int bv), .val (.int cv), .val (.int dv), .val (.int sv), .val (.int tv), .unset, .unset, .unset, .unset, .unset, .unset, .unset, .unset, .unset, .unset] [(.int tv), (.int sv)])) rfl (by rw [hml]; rfl) (argsL := [(.int sv), (.int tv)]) (rest := []) (lenOf own_pd5 rfl) rfl (by show 2 * 0 + _ ≤ _; exact Nat.le_of_eq rfl) (hb hby at_46) (fun _ _ => ⟨rfl, e0, (by decide : 0 + 0 ≤ _), (by decide : 0 + 0 ≤ _)⟩)
  dsimp only [Pt.U, Pt.locs, Pt.cells, Pt.slots] at X1 l1 y1 z1 st1 hQ1
  subst l1 y1 z1
  obtain ⟨rfl, Nq1, eq1⟩ := hQ1
  have NF1 := Fr.app N0 Nq1
  refine own_go st1 ?_
  show own_Go _ _ _ _ (T1.setTop (mkF m 49 #[.val (.int p1), .val (.int p2), .val (.int p3), .val (.int p4), .val (.int p5), .val (.int p6), .val (.int av), .val (.int bv), .val (.int cv), .val (.int dv), .val (.int sv), .val (.int tv), .unset, .unset, .unset, .unset, .unset, .unset, .unset, .unset, .unset, .unset] [(.int (own_min sv tv))]))
  refine own_go (fun _ kont => XS.istore X1.here hx rfl (hb hby at_49) rfl (l' := #[.val (.int p1), .val (.int p2), .val (.int p3), .val (.int p4), .val (.int p5), .val (.int p6), .val (.int av), .val (.int bv), .val (.int cv), .val (.int dv), .val (.int sv), .val (.int tv), .val (.int (own_min sv tv)), .unset, .unset, .unset, .unset, .unset, .unset, .unset, .unset, .unset]) rfl kont) ?_
  show own_Go _ _ _ _ (T1.setTop (mkF m 51 #[.val (.int p1), .val (.int p2), .val (.int p3), .val (.int p4), .val (.int p5), .val (.int p6), .val (.int av), .val (.int bv), .val (.int cv), .val (.int dv), .val (.int sv), .val (.int tv), .val (.int (own_min sv tv)), .unset, .unset, .unset, .unset, .unset, .unset, .unset, .unset, .unset] []))
  refine own_go (fun _ kont => XS.iload X1.here hx rfl (hb hby at_51) rfl kont) ?_
  show own_Go _ _ _ _ (T1.setTop (mkF m 53 #[.val (.int p1), .val (.int p2), .val (.int p3), .val (.int p4), .val (.int p5), .val (.int p6), .val (.int av), .val (.int bv), .val (.int cv), .val (.int dv), .val (.int sv), .val (.int tv), .val (.int (own_min sv tv)), .unset, .unset, .unset, .unset, .unset, .unset, .unset, .unset, .unset] [(.int sv)]))
  refine own_go (fun _ kont => XS.iload X1.here hx rfl (hb hby at_53) rfl kont) ?_
  show own_Go _ _ _ _ (T1.setTop (mkF m 55 #[.val (.int p1), .val (.int p2), .val (.int p3), .val (.int p4), .val (.int p5), .val (.int p6), .val (.int av), .val (.int bv), .val (.int cv), .val (.int dv), .val (.int sv), .val (.int tv), .val (.int (own_min sv tv)), .unset, .unset, .unset, .unset, .unset, .unset, .unset, .unset, .unset] [(.int tv), (.int sv)]))
  obtain ⟨_, _, ⟨T2, L2, k2, n2⟩, -, X2, ⟨Lc2, hQ2, l2, y2, z2⟩, st2⟩ := Jvm.LawKit.callS X1 hx (y := (⟨"java/lang/Math", "max", "(II)I"⟩ : MethodName)) hown (mvT hZ (hw _ (List.mem_of_getElem? (i := 6) rfl))) (mvT hZ (hw _ (List.mem_of_getElem? (i := 7) rfl))) (mvT hZ (hw _ (List.mem_of_getElem? (i := 4) rfl))) (mvT hZ (hw _ (List.mem_of_getElem? (i := 8) rfl))) (by decide) (own_back (W := 0) (own_rmMax l Z a0 hw sv tv h0 n0 Z0) hZ (hw _ (List.mem_of_getElem? (i := 8) rfl)) (hw _ (List.mem_of_getElem? (i := 4) rfl)) (by decide) (by decide)) (g := (mkF m 55 #[.val (.int p1), .val (.int p2), .val (.int p3), .val (.int p4), .val (.int p5), .val (.int p6), .val (.int av), .val (.int bv), .val (.int cv), .val (.int dv), .val (.int sv), .val (.int tv), .val (.int (own_min sv tv)), .unset, .unset, .unset, .unset, .unset, .unset, .unset, .unset, .unset] [(.int tv), (.int sv)])) rfl (by rw [hml]; rfl) (argsL := [(.int sv), (.int tv)]) (rest := []) (lenOf own_pd5 rfl) rfl (by show 2 * 0 + _ ≤ _; exact Nat.le_of_eq rfl) (hb hby at_55) (fun _ _ => ⟨rfl, eq1, (by decide : 0 + 0 ≤ _), (by decide : 0 + 0 ≤ _)⟩)
  dsimp only [Pt.U, Pt.locs, Pt.cells, Pt.slots] at X2 l2 y2 z2 st2 hQ2
  subst l2 y2 z2
  obtain ⟨rfl, Nq2, eq2⟩ := hQ2
  have NF2 := Fr.app NF1 Nq2
  refine own_go st2 ?_
  show own_Go _ _ _ _ (T2.setTop (mkF m 58 #[.val (.int p1), .val (.int p2), .val (.int p3), .val (.int p4), .val (.int p5), .val (.int p6), .val (.int av), .val (.int bv), .val (.int cv), .val (.int dv), .val (.int sv), .val (.int tv), .val (.int (own_min sv tv)), .unset, .unset, .unset, .unset, .unset, .unset, .unset, .unset, .unset] [(.int (own_max sv tv))]))
  obtain ⟨l1, l2, l3⟩ := own_mm sv1 sv2 tv1 tv2
  generalize hlo : (own_min sv tv) = lo
  generalize hhi : (own_max sv tv) = hi
  rw [hlo] at l1 l2
  rw [hhi] at l2 l3
  show own_Go _ _ _ _ (T2.setTop (mkF m 58 #[.val (.int p1), .val (.int p2), .val (.int p3), .val (.int p4), .val (.int p5), .val (.int p6), .val (.int av), .val (.int bv), .val (.int cv), .val (.int dv), .val (.int sv), .val (.int tv), .val (.int lo), .unset, .unset, .unset, .unset, .unset, .unset, .unset, .unset, .unset] [(.int hi)]))
  refine own_go (fun _ kont => XS.istore X2.here hx rfl (hb hby at_58) rfl (l' := #[.val (.int p1), .val (.int p2), .val (.int p3), .val (.int p4), .val (.int p5), .val (.int p6), .val (.int av), .val (.int bv), .val (.int cv), .val (.int dv), .val (.int sv), .val (.int tv), .val (.int lo), .val (.int hi), .unset, .unset, .unset, .unset, .unset, .unset, .unset, .unset]) rfl kont) ?_
  show own_Go _ _ _ _ (T2.setTop (mkF m 60 #[.val (.int p1), .val (.int p2), .val (.int p3), .val (.int p4), .val (.int p5), .val (.int p6), .val (.int av), .val (.int bv), .val (.int cv), .val (.int dv), .val (.int sv), .val (.int tv), .val (.int lo), .val (.int hi), .unset, .unset, .unset, .unset, .unset, .unset, .unset, .unset] []))
  refine own_go (fun _ kont => XS.iconst X2.here hx rfl (hb hby at_60) kont) ?_
  show own_Go _ _ _ _ (T2.setTop (mkF m 61 #[.val (.int p1), .val (.int p2), .val (.int p3), .val (.int p4), .val (.int p5), .val (.int p6), .val (.int av), .val (.int bv), .val (.int cv), .val (.int dv), .val (.int sv), .val (.int tv), .val (.int lo), .val (.int hi), .unset, .unset, .unset, .unset, .unset, .unset, .unset, .unset] [(.int (5 : Int32))]))
  obtain ⟨T3, h3, k3, X3, e3, E3, A3, st3⟩ := newP X2 hx hZ (hw _ (List.mem_of_getElem? (i := 9) rfl)) eq2 (g := (mkF m 61 #[.val (.int p1), .val (.int p2), .val (.int p3), .val (.int p4), .val (.int p5), .val (.int p6), .val (.int av), .val (.int bv), .val (.int cv), .val (.int dv), .val (.int sv), .val (.int tv), .val (.int lo), .val (.int hi), .unset, .unset, .unset, .unset, .unset, .unset, .unset, .unset] [(.int (5 : Int32))])) rfl (hb hby at_61) rfl (by decide) (cap := 5) (by decide) (by decide) (by decide) (by decide)
  obtain ⟨b3, g3⟩ : ∃ z, z = h0.size := ⟨_, rfl⟩
  rw [← g3] at A3 st3
  refine own_go st3 ?_
  have ge_b3 : n0 ≤ b3 := Nat.le_trans Z0 (Nat.le_of_eq g3.symm)
  have sz_b3 : h0.size ≤ b3 := Nat.le_trans K0.1 (Nat.le_of_eq g3.symm)
  replace Z0 := Nat.le_trans Z0 E3.1
  replace K0 := K0.ext E3
  have V_b3 : Arv Z h3 b3 k3 .int (5 : Int32) [(.int (0 : Int32)), (.int (0 : Int32)), (.int (0 : Int32)), (.int (0 : Int32)), (.int (0 : Int32))] (.int (0 : Int32)) := (Arv.new A3 (by decide)).pad (pad_rep [] (.int (0 : Int32)) 5)
  show own_Go _ _ _ _ (T3.setTop (mkF m 63 #[.val (.int p1), .val (.int p2), .val (.int p3), .val (.int p4), .val (.int p5), .val (.int p6), .val (.int av), .val (.int bv), .val (.int cv), .val (.int dv), .val (.int sv), .val (.int tv), .val (.int lo), .val (.int hi), .unset, .unset, .unset, .unset, .unset, .unset, .unset, .unset] [(.ref b3)]))
  refine own_go (fun _ kont => XS.dup X3.here hx rfl (hb hby at_63) rfl rfl kont) ?_
  show own_Go _ _ _ _ (T3.setTop (mkF m 64 #[.val (.int p1), .val (.int p2), .val (.int p3), .val (.int p4), .val (.int p5), .val (.int p6), .val (.int av), .val (.int bv), .val (.int cv), .val (.int dv), .val (.int sv), .val (.int tv), .val (.int lo), .val (.int hi), .unset, .unset, .unset, .unset, .unset, .unset, .unset, .unset] [(.ref b3), (.ref b3)]))
  refine own_go (fun _ kont => XS.iconst X3.here hx rfl (hb hby at_64) kont) ?_
  show own_Go _ _ _ _ (T3.setTop (mkF m 65 #[.val (.int p1), .val (.int p2), .val (.int p3), .val (.int p4), .val (.int p5), .val (.int p6), .val (.int av), .val (.int bv), .val (.int cv), .val (.int dv), .val (.int sv), .val (.int tv), .val (.int lo), .val (.int hi), .unset, .unset, .unset, .unset, .unset, .unset, .unset, .unset] [(.int (0 : Int32)), (.ref b3), (.ref b3)]))
  refine own_go (fun _ kont => XS.iconst X3.here hx rfl (hb hby at_65) kont) ?_
  show own_Go _ _ _ _ (T3.setTop (mkF m 66 #[.val (.int p1), .val (.int p2), .val (.int p3), .val (.int p4), .val (.int p5), .val (.int p6), .val (.int av), .val (.int bv), .val (.int cv), .val (.int dv), .val (.int sv), .val (.int tv), .val (.int lo), .val (.int hi), .unset, .unset, .unset, .unset, .unset, .unset, .unset, .unset] [(.int (0 : Int32)), (.int (0 : Int32)), (.ref b3), (.ref b3)]))
  obtain ⟨cl4, Ar4, q4, Sz4, Ng4, Hs4, Gs4⟩ := V_b3
  have hin4 : ¬ ((0 : Int32) < 0 ∨ cl4.slots.size ≤ ((0 : Int32)).toNatClampNeg) := inb_of Sz4 ⟨by decide, by decide⟩
  obtain ⟨T4, h4, X4, e4, W4, st4⟩ := stI X3 hx hZ e3 Ar4 (j := (0 : Int32)) hin4 (g := (mkF m 66 #[.val (.int p1), .val (.int p2), .val (.int p3), .val (.int p4), .val (.int p5), .val (.int p6), .val (.int av), .val (.int bv), .val (.int cv), .val (.int dv), .val (.int sv), .val (.int tv), .val (.int lo), .val (.int hi), .unset, .unset, .unset, .unset, .unset, .unset, .unset, .unset] [(.int (0 : Int32)), (.int (0 : Int32)), (.ref b3), (.ref b3)])) rfl rfl (hb hby at_66)
  refine own_go st4 ?_
  have NF4 := Fr.snoc X4 NF2 ge_b3
  replace V_b3 : Arv Z h4 b3 k3 .int (5 : Int32) [(.int (0 : Int32)), (.int (0 : Int32)), (.int (0 : Int32)), (.int (0 : Int32)), (.int (0 : Int32))] (.int (0 : Int32)) := Arv.set Ar4 q4 Sz4 Ng4 Hs4 Gs4 rfl W4 0 rfl (Nat.le_of_ble_eq_true rfl)
  replace Z0 := Nat.le_trans Z0 (Keep.of_wr W4).1
  replace K0 := K0.wr W4 (Or.inr sz_b3)
  show own_Go _ _ _ _ (T4.setTop (mkF m 67 #[.val (.int p1), .val (.int p2), .val (.int p3), .val (.int p4), .val (.int p5), .val (.int p6), .val (.int av), .val (.int bv), .val (.int cv), .val (.int dv), .val (.int sv), .val (.int tv), .val (.int lo), .val (.int hi), .unset, .unset, .unset, .unset, .unset, .unset, .unset, .unset] [(.ref b3)]))
  refine own_go (fun _ kont => XS.dup X4.here hx rfl (hb hby at_67) rfl rfl kont) ?_
  show own_Go _ _ _ _ (T4.setTop (mkF m 68 #[.val (.int p1), .val (.int p2), .val (.int p3), .val (.int p4), .val (.int p5), .val (.int p6), .val (.int av), .val (.int bv), .val (.int cv), .val (.int dv), .val (.int sv), .val (.int tv), .val (.int lo), .val (.int hi), .unset, .unset, .unset, .unset, .unset, .unset, .unset, .unset] [(.ref b3), (.ref b3)]))
  refine own_go (fun _ kont => XS.iconst X4.here hx rfl (hb hby at_68) kont) ?_
  show own_Go _ _ _ _ (T4.setTop (mkF m 69 #[.val (.int p1), .val (.int p2), .val (.int p3), .val (.int p4), .val (.int p5), .val (.int p6), .val (.int av), .val (.int bv), .val (.int cv), .val (.int dv), .val (.int sv), .val (.int tv), .val (.int lo), .val (.int hi), .unset, .unset, .unset, .unset, .unset, .unset, .unset, .unset] [(.int (1 : Int32)), (.ref b3), (.ref b3)]))
  refine own_go (fun _ kont => XS.iload X4.here hx rfl (hb hby at_69) rfl kont) ?_
  show own_Go _ _ _ _ (T4.setTop (mkF m 71 #[.val (.int p1), .val (.int p2), .val (.int p3), .val (.int p4), .val (.int p5), .val (.int p6), .val (.int av), .val (.int bv), .val (.int cv), .val (.int dv), .val (.int sv), .val (.int tv), .val (.int lo), .val (.int hi), .unset, .unset, .unset, .unset, .unset, .unset, .unset, .unset] [(.int av), (.int (1 : Int32)), (.ref b3), (.ref b3)]))
  obtain ⟨cl5, Ar5, q5, Sz5, Ng5, Hs5, Gs5⟩ := V_b3
  have hin5 : ¬ ((1 : Int32) < 0 ∨ cl5.slots.size ≤ ((1 : Int32)).toNatClampNeg) := inb_of Sz5 ⟨by decide, by decide⟩
  obtain ⟨T5, h5, X5, e5, W5, st5⟩ := stI X4 hx hZ e4 Ar5 (j := (1 : Int32)) hin5 (g := (mkF m 71 #[.val (.int p1), .val (.int p2), .val (.int p3), .val (.int p4), .val (.int p5), .val (.int p6), .val (.int av), .val (.int bv), .val (.int cv), .val (.int dv), .val (.int sv), .val (.int tv), .val (.int lo), .val (.int hi), .unset, .unset, .unset, .unset, .unset, .unset, .unset, .unset] [(.int av), (.int (1 : Int32)), (.ref b3), (.ref b3)])) rfl rfl (hb hby at_71)
  refine own_go st5 ?_
  have NF5 := Fr.snoc X5 NF4 ge_b3
  replace V_b3 : Arv Z h5 b3 k3 .int (5 : Int32) [(.int (0 : Int32)), (.int av), (.int (0 : Int32)), (.int (0 : Int32)), (.int (0 : Int32))] (.int (0 : Int32)) := Arv.set Ar5 q5 Sz5 Ng5 Hs5 Gs5 rfl W5 1 rfl (Nat.le_of_ble_eq_true rfl)
  replace Z0 := Nat.le_trans Z0 (Keep.of_wr W5).1
  replace K0 := K0.wr W5 (Or.inr sz_b3)
  show own_Go _ _ _ _ (T5.setTop (mkF m 72 #[.val (.int p1), .val (.int p2), .val (.int p3), .val (.int p4), .val (.int p5), .val (.int p6), .val (.int av), .val (.int bv), .val (.int cv), .val (.int dv), .val (.int sv), .val (.int tv), .val (.int lo), .val (.int hi), .unset, .unset, .unset, .unset, .unset, .unset, .unset, .unset] [(.ref b3)]))
  refine own_go (fun _ kont => XS.dup X5.here hx rfl (hb hby at_72) rfl rfl kont) ?_
  show own_Go _ _ _ _ (T5.setTop (mkF m 73 #[.val (.int p1), .val (.int p2), .val (.int p3), .val (.int p4), .val (.int p5), .val (.int p6), .val (.int av), .val (.int bv), .val (.int cv), .val (.int dv), .val (.int sv), .val (.int tv), .val (.int lo), .val (.int hi), .unset, .unset, .unset, .unset, .unset, .unset, .unset, .unset] [(.ref b3), (.ref b3)]))
  refine own_go (fun _ kont => XS.iconst X5.here hx rfl (hb hby at_73) kont) ?_
  show own_Go _ _ _ _ (T5.setTop (mkF m 74 #[.val (.int p1), .val (.int p2), .val (.int p3), .val (.int p4), .val (.int p5), .val (.int p6), .val (.int av), .val (.int bv), .val (.int cv), .val (.int dv), .val (.int sv), .val (.int tv), .val (.int lo), .val (.int hi), .unset, .unset, .unset, .unset, .unset, .unset, .unset, .unset] [(.int (2 : Int32)), (.ref b3), (.ref b3)]))
  refine own_go (fun _ kont => XS.iload X5.here hx rfl (hb hby at_74) rfl kont) ?_
  show own_Go _ _ _ _ (T5.setTop (mkF m 76 #[.val (.int p1), .val (.int p2), .val (.int p3), .val (.int p4), .val (.int p5), .val (.int p6), .val (.int av), .val (.int bv), .val (.int cv), .val (.int dv), .val (.int sv), .val (.int tv), .val (.int lo), .val (.int hi), .unset, .unset, .unset, .unset, .unset, .unset, .unset, .unset] [(.int av), (.int (2 : Int32)), (.ref b3), (.ref b3)]))
  refine own_go (fun _ kont => XS.iload X5.here hx rfl (hb hby at_76) rfl kont) ?_
  show own_Go _ _ _ _ (T5.setTop (mkF m 78 #[.val (.int p1), .val (.int p2), .val (.int p3), .val (.int p4), .val (.int p5), .val (.int p6), .val (.int av), .val (.int bv), .val (.int cv), .val (.int dv), .val (.int sv), .val (.int tv), .val (.int lo), .val (.int hi), .unset, .unset, .unset, .unset, .unset, .unset, .unset, .unset] [(.int bv), (.int av), (.int (2 : Int32)), (.ref b3), (.ref b3)]))
  refine own_go (fun _ kont => XS.iadd X5.here hx rfl (hb hby at_78) rfl kont) ?_
  show own_Go _ _ _ _ (T5.setTop (mkF m 79 #[.val (.int p1), .val (.int p2), .val (.int p3), .val (.int p4), .val (.int p5), .val (.int p6), .val (.int av), .val (.int bv), .val (.int cv), .val (.int dv), .val (.int sv), .val (.int tv), .val (.int lo), .val (.int hi), .unset, .unset, .unset, .unset, .unset, .unset, .unset, .unset] [(.int (av + bv)), (.int (2 : Int32)), (.ref b3), (.ref b3)]))
  obtain ⟨cl6, Ar6, q6, Sz6, Ng6, Hs6, Gs6⟩ := V_b3
  have hin6 : ¬ ((2 : Int32) < 0 ∨ cl6.slots.size ≤ ((2 : Int32)).toNatClampNeg) := inb_of Sz6 ⟨by decide, by decide⟩
  obtain ⟨T6, h6, X6, e6, W6, st6⟩ := stI X5 hx hZ e5 Ar6 (j := (2 : Int32)) hin6 (g := (mkF m 79 #[.val (.int p1), .val (.int p2), .val (.int p3), .val (.int p4), .val (.int p5), .val (.int p6), .val (.int av), .val (.int bv), .val (.int cv), .val (.int dv), .val (.int sv), .val (.int tv), .val (.int lo), .val (.int hi), .unset, .unset, .unset, .unset, .unset, .unset, .unset, .unset] [(.int (av + bv)), (.int (2 : Int32)), (.ref b3), (.ref b3)])) rfl rfl (hb hby at_79)
  refine own_go st6 ?_
  have NF6 := Fr.snoc X6 NF5 ge_b3
  replace V_b3 : Arv Z h6 b3 k3 .int (5 : Int32) [(.int (0 : Int32)), (.int av), (.int (av + bv)), (.int (0 : Int32)), (.int (0 : Int32))] (.int (0 : Int32)) := Arv.set Ar6 q6 Sz6 Ng6 Hs6 Gs6 rfl W6 2 rfl (Nat.le_of_ble_eq_true rfl)
  replace Z0 := Nat.le_trans Z0 (Keep.of_wr W6).1
  replace K0 := K0.wr W6 (Or.inr sz_b3)
  show own_Go _ _ _ _ (T6.setTop (mkF m 80 #[.val (.int p1), .val (.int p2), .val (.int p3), .val (.int p4), .val (.int p5), .val (.int p6), .val (.int av), .val (.int bv), .val (.int cv), .val (.int dv), .val (.int sv), .val (.int tv), .val (.int lo), .val (.int hi), .unset, .unset, .unset, .unset, .unset, .unset, .unset, .unset] [(.ref b3)]))
  refine own_go (fun _ kont => XS.dup X6.here hx rfl (hb hby at_80) rfl rfl kont) ?_
  show own_Go _ _ _ _ (T6.setTop (mkF m 81 #[.val (.int p1), .val (.int p2), .val (.int p3), .val (.int p4), .val (.int p5), .val (.int p6), .val (.int av), .val (.int bv), .val (.int cv), .val (.int dv), .val (.int sv), .val (.int tv), .val (.int lo), .val (.int hi), .unset, .unset, .unset, .unset, .unset, .unset, .unset, .unset] [(.ref b3), (.ref b3)]))
  refine own_go (fun _ kont => XS.iconst X6.here hx rfl (hb hby at_81) kont) ?_
  show own_Go _ _ _ _ (T6.setTop (mkF m 82 #[.val (.int p1), .val (.int p2), .val (.int p3), .val (.int p4), .val (.int p5), .val (.int p6), .val (.int av), .val (.int bv), .val (.int cv), .val (.int dv), .val (.int sv), .val (.int tv), .val (.int lo), .val (.int hi), .unset, .unset, .unset, .unset, .unset, .unset, .unset, .unset] [(.int (3 : Int32)), (.ref b3), (.ref b3)]))
  refine own_go (fun _ kont => XS.iload X6.here hx rfl (hb hby at_82) rfl kont) ?_
  show own_Go _ _ _ _ (T6.setTop (mkF m 84 #[.val (.int p1), .val (.int p2), .val (.int p3), .val (.int p4), .val (.int p5), .val (.int p6), .val (.int av), .val (.int bv), .val (.int cv), .val (.int dv), .val (.int sv), .val (.int tv), .val (.int lo), .val (.int hi), .unset, .unset, .unset, .unset, .unset, .unset, .unset, .unset] [(.int av), (.int (3 : Int32)), (.ref b3), (.ref b3)]))
  refine own_go (fun _ kont => XS.iload X6.here hx rfl (hb hby at_84) rfl kont) ?_
  show own_Go _ _ _ _ (T6.setTop (mkF m 86 #[.val (.int p1), .val (.int p2), .val (.int p3), .val (.int p4), .val (.int p5), .val (.int p6), .val (.int av), .val (.int bv), .val (.int cv), .val (.int dv), .val (.int sv), .val (.int tv), .val (.int lo), .val (.int hi), .unset, .unset, .unset, .unset, .unset, .unset, .unset, .unset] [(.int bv), (.int av), (.int (3 : Int32)), (.ref b3), (.ref b3)]))
  refine own_go (fun _ kont => XS.iadd X6.here hx rfl (hb hby at_86) rfl kont) ?_
  show own_Go _ _ _ _ (T6.setTop (mkF m 87 #[.val (.int p1), .val (.int p2), .val (.int p3), .val (.int p4), .val (.int p5), .val (.int p6), .val (.int av), .val (.int bv), .val (.int cv), .val (.int dv), .val (.int sv), .val (.int tv), .val (.int lo), .val (.int hi), .unset, .unset, .unset, .unset, .unset, .unset, .unset, .unset] [(.int (av + bv)), (.int (3 : Int32)), (.ref b3), (.ref b3)]))
  refine own_go (fun _ kont => XS.iload X6.here hx rfl (hb hby at_87) rfl kont) ?_
  show own_Go _ _ _ _ (T6.setTop (mkF m 89 #[.val (.int p1), .val (.int p2), .val (.int p3), .val (.int p4), .val (.int p5), .val (.int p6), .val (.int av), .val (.int bv), .val (.int cv), .val (.int dv), .val (.int sv), .val (.int tv), .val (.int lo), .val (.int hi), .unset, .unset, .unset, .unset, .unset, .unset, .unset, .unset] [(.int cv), (.int (av + bv)), (.int (3 : Int32)), (.ref b3), (.ref b3)]))
  refine own_go (fun _ kont => XS.iadd X6.here hx rfl (hb hby at_89) rfl kont) ?_
  show own_Go _ _ _ _ (T6.setTop (mkF m 90 #[.val (.int p1), .val (.int p2), .val (.int p3), .val (.int p4), .val (.int p5), .val (.int p6), .val (.int av), .val (.int bv), .val (.int cv), .val (.int dv), .val (.int sv), .val (.int tv), .val (.int lo), .val (.int hi), .unset, .unset, .unset, .unset, .unset, .unset, .unset, .unset] [(.int ((av + bv) + cv)), (.int (3 : Int32)), (.ref b3), (.ref b3)]))
  obtain ⟨cl7, Ar7, q7, Sz7, Ng7, Hs7, Gs7⟩ := V_b3
  have hin7 : ¬ ((3 : Int32) < 0 ∨ cl7.slots.size ≤ ((3 : Int32)).toNatClampNeg) := inb_of Sz7 ⟨by decide, by decide⟩
  obtain ⟨T7, h7, X7, e7, W7, st7⟩ := stI X6 hx hZ e6 Ar7 (j := (3 : Int32)) hin7 (g := (mkF m 90 #[.val (.int p1), .val (.int p2), .val (.int p3), .val (.int p4), .val (.int p5), .val (.int p6), .val (.int av), .val (.int bv), .val (.int cv), .val (.int dv), .val (.int sv), .val (.int tv), .val (.int lo), .val (.int hi), .unset, .unset, .unset, .unset, .unset, .unset, .unset, .unset] [(.int ((av + bv) + cv)), (.int (3 : Int32)), (.ref b3), (.ref b3)])) rfl rfl (hb hby at_90)
  refine own_go st7 ?_
  have NF7 := Fr.snoc X7 NF6 ge_b3
  replace V_b3 : Arv Z h7 b3 k3 .int (5 : Int32) [(.int (0 : Int32)), (.int av), (.int (av + bv)), (.int ((av + bv) + cv)), (.int (0 : Int32))] (.int (0 : Int32)) := Arv.set Ar7 q7 Sz7 Ng7 Hs7 Gs7 rfl W7 3 rfl (Nat.le_of_ble_eq_true rfl)
  replace Z0 := Nat.le_trans Z0 (Keep.of_wr W7).1
  replace K0 := K0.wr W7 (Or.inr sz_b3)
  show own_Go _ _ _ _ (T7.setTop (mkF m 91 #[.val (.int p1), .val (.int p2), .val (.int p3), .val (.int p4), .val (.int p5), .val (.int p6), .val (.int av), .val (.int bv), .val (.int cv), .val (.int dv), .val (.int sv), .val (.int tv), .val (.int lo), .val (.int hi), .unset, .unset, .unset, .unset, .unset, .unset, .unset, .unset] [(.ref b3)]))
  refine own_go (fun _ kont => XS.dup X7.here hx rfl (hb hby at_91) rfl rfl kont) ?_
  show own_Go _ _ _ _ (T7.setTop (mkF m 92 #[.val (.int p1), .val (.int p2), .val (.int p3), .val (.int p4), .val (.int p5), .val (.int p6), .val (.int av), .val (.int bv), .val (.int cv), .val (.int dv), .val (.int sv), .val (.int tv), .val (.int lo), .val (.int hi), .unset, .unset, .unset, .unset, .unset, .unset, .unset, .unset] [(.ref b3), (.ref b3)]))
  refine own_go (fun _ kont => XS.iconst X7.here hx rfl (hb hby at_92) kont) ?_
  show own_Go _ _ _ _ (T7.setTop (mkF m 93 #[.val (.int p1), .val (.int p2), .val (.int p3), .val (.int p4), .val (.int p5), .val (.int p6), .val (.int av), .val (.int bv), .val (.int cv), .val (.int dv), .val (.int sv), .val (.int tv), .val (.int lo), .val (.int hi), .unset, .unset, .unset, .unset, .unset, .unset, .unset, .unset] [(.int (4 : Int32)), (.ref b3), (.ref b3)]))
  refine own_go (fun _ kont => XS.iload X7.here hx rfl (hb hby at_93) rfl kont) ?_
  show own_Go _ _ _ _ (T7.setTop (mkF m 95 #[.val (.int p1), .val (.int p2), .val (.int p3), .val (.int p4), .val (.int p5), .val (.int p6), .val (.int av), .val (.int bv), .val (.int cv), .val (.int dv), .val (.int sv), .val (.int tv), .val (.int lo), .val (.int hi), .unset, .unset, .unset, .unset, .unset, .unset, .unset, .unset] [(.int av), (.int (4 : Int32)), (.ref b3), (.ref b3)]))
  refine own_go (fun _ kont => XS.iload X7.here hx rfl (hb hby at_95) rfl kont) ?_
  show own_Go _ _ _ _ (T7.setTop (mkF m 97 #[.val (.int p1), .val (.int p2), .val (.int p3), .val (.int p4), .val (.int p5), .val (.int p6), .val (.int av), .val (.int bv), .val (.int cv), .val (.int dv), .val (.int sv), .val (.int tv), .val (.int lo), .val (.int hi), .unset, .unset, .unset, .unset, .unset, .unset, .unset, .unset] [(.int bv), (.int av), (.int (4 : Int32)), (.ref b3), (.ref b3)]))
  refine own_go (fun _ kont => XS.iadd X7.here hx rfl (hb hby at_97) rfl kont) ?_
  show own_Go _ _ _ _ (T7.setTop (mkF m 98 #[.val (.int p1), .val (.int p2), .val (.int p3), .val (.int p4), .val (.int p5), .val (.int p6), .val (.int av), .val (.int bv), .val (.int cv), .val (.int dv), .val (.int sv), .val (.int tv), .val (.int lo), .val (.int hi), .unset, .unset, .unset, .unset, .unset, .unset, .unset, .unset] [(.int (av + bv)), (.int (4 : Int32)), (.ref b3), (.ref b3)]))
  refine own_go (fun _ kont => XS.iload X7.here hx rfl (hb hby at_98) rfl kont) ?_
  show own_Go _ _ _ _ (T7.setTop (mkF m 100 #[.val (.int p1), .val (.int p2), .val (.int p3), .val (.int p4), .val (.int p5), .val (.int p6), .val (.int av), .val (.int bv), .val (.int cv), .val (.int dv), .val (.int sv), .val (.int tv), .val (.int lo), .val (.int hi), .unset, .unset, .unset, .unset, .unset, .unset, .unset, .unset] [(.int cv), (.int (av + bv)), (.int (4 : Int32)), (.ref b3), (.ref b3)]))
  refine own_go (fun _ kont => XS.iadd X7.here hx rfl (hb hby at_100) rfl kont) ?_
  show own_Go _ _ _ _ (T7.setTop (mkF m 101 #[.val (.int p1), .val (.int p2), .val (.int p3), .val (.int p4), .val (.int p5), .val (.int p6), .val (.int av), .val (.int bv), .val (.int cv), .val (.int dv), .val (.int sv), .val (.int tv), .val (.int lo), .val (.int hi), .unset, .unset, .unset, .unset, .unset, .unset, .unset, .unset] [(.int ((av + bv) + cv)), (.int (4 : Int32)), (.ref b3), (.ref b3)]))
  refine own_go (fun _ kont => XS.iload X7.here hx rfl (hb hby at_101) rfl kont) ?_
  show own_Go _ _ _ _ (T7.setTop (mkF m 103 #[.val (.int p1), .val (.int p2), .val (.int p3), .val (.int p4), .val (.int p5), .val (.int p6), .val (.int av), .val (.int bv), .val (.int cv), .val (.int dv), .val (.int sv), .val (.int tv), .val (.int lo), .val (.int hi), .unset, .unset, .unset, .unset, .unset, .unset, .unset, .unset] [(.int dv), (.int ((av + bv) + cv)), (.int (4 : Int32)), (.ref b3), (.ref b3)]))
  refine own_go (fun _ kont => XS.iadd X7.here hx rfl (hb hby at_103) rfl kont) ?_
  show own_Go _ _ _ _ (T7.setTop (mkF m 104 #[.val (.int p1), .val (.int p2), .val (.int p3), .val (.int p4), .val (.int p5), .val (.int p6), .val (.int av), .val (.int bv), .val (.int cv), .val (.int dv), .val (.int sv), .val (.int tv), .val (.int lo), .val (.int hi), .unset, .unset, .unset, .unset, .unset, .unset, .unset, .unset] [(.int (((av + bv) + cv) + dv)), (.int (4 : Int32)), (.ref b3), (.ref b3)]))
  obtain ⟨cl8, Ar8, q8, Sz8, Ng8, Hs8, Gs8⟩ := V_b3
  have hin8 : ¬ ((4 : Int32) < 0 ∨ cl8.slots.size ≤ ((4 : Int32)).toNatClampNeg) := inb_of Sz8 ⟨by decide, by decide⟩
  obtain ⟨T8, h8, X8, e8, W8, st8⟩ := stI X7 hx hZ e7 Ar8 (j := (4 : Int32)) hin8 (g := (mkF m 104 #[.val (.int p1), .val (.int p2), .val (.int p3), .val (.int p4), .val (.int p5), .val (.int p6), .val (.int av), .val (.int bv), .val (.int cv), .val (.int dv), .val (.int sv), .val (.int tv), .val (.int lo), .val (.int hi), .unset, .unset, .unset, .unset, .unset, .unset, .unset, .unset] [(.int (((av + bv) + cv) + dv)), (.int (4 : Int32)), (.ref b3), (.ref b3)])) rfl rfl (hb hby at_104)
  refine own_go st8 ?_
  have NF8 := Fr.snoc X8 NF7 ge_b3
  replace V_b3 : Arv Z h8 b3 k3 .int (5 : Int32) [(.int (0 : Int32)), (.int av), (.int (av + bv)), (.int ((av + bv) + cv)), (.int (((av + bv) + cv) + dv))] (.int (0 : Int32)) := Arv.set Ar8 q8 Sz8 Ng8 Hs8 Gs8 rfl W8 4 rfl (Nat.le_of_ble_eq_true rfl)
  replace Z0 := Nat.le_trans Z0 (Keep.of_wr W8).1
  replace K0 := K0.wr W8 (Or.inr sz_b3)
  show own_Go _ _ _ _ (T8.setTop (mkF m 105 #[.val (.int p1), .val (.int p2), .val (.int p3), .val (.int p4), .val (.int p5), .val (.int p6), .val (.int av), .val (.int bv), .val (.int cv), .val (.int dv), .val (.int sv), .val (.int tv), .val (.int lo), .val (.int hi), .unset, .unset, .unset, .unset, .unset, .unset, .unset, .unset] [(.ref b3)]))
  refine own_go (fun _ kont => XS.astore X8.here hx rfl (hb hby at_105) rfl rfl (l' := #[.val (.int p1), .val (.int p2), .val (.int p3), .val (.int p4), .val (.int p5), .val (.int p6), .val (.int av), .val (.int bv), .val (.int cv), .val (.int dv), .val (.int sv), .val (.int tv), .val (.int lo), .val (.int hi), .val (.ref b3), .unset, .unset, .unset, .unset, .unset, .unset, .unset]) rfl kont) ?_
  show own_Go _ _ _ _ (T8.setTop (mkF m 107 #[.val (.int p1), .val (.int p2), .val (.int p3), .val (.int p4), .val (.int p5), .val (.int p6), .val (.int av), .val (.int bv), .val (.int cv), .val (.int dv), .val (.int sv), .val (.int tv), .val (.int lo), .val (.int hi), .val (.ref b3), .unset, .unset, .unset, .unset, .unset, .unset, .unset] []))
  refine own_go (fun _ kont => XS.iconst X8.here hx rfl (hb hby at_107) kont) ?_
  show own_Go _ _ _ _ (T8.setTop (mkF m 108 #[.val (.int p1), .val (.int p2), .val (.int p3), .val (.int p4), .val (.int p5), .val (.int p6), .val (.int av), .val (.int bv), .val (.int cv), .val (.int dv), .val (.int sv), .val (.int tv), .val (.int lo), .val (.int hi), .val (.ref b3), .unset, .unset, .unset, .unset, .unset, .unset, .unset] [(.int (4 : Int32))]))
  obtain ⟨T9, h9, k9, X9, e9, E9, A9, st9⟩ := newP X8 hx hZ (hw _ (List.mem_of_getElem? (i := 9) rfl)) e8 (g := (mkF m 108 #[.val (.int p1), .val (.int p2), .val (.int p3), .val (.int p4), .val (.int p5), .val (.int p6), .val (.int av), .val (.int bv), .val (.int cv), .val (.int dv), .val (.int sv), .val (.int tv), .val (.int lo), .val (.int hi), .val (.ref b3), .unset, .unset, .unset, .unset, .unset, .unset, .unset] [(.int (4 : Int32))])) rfl (hb hby at_108) rfl (by decide) (cap := 4) (by decide) (by decide) (by decide) (by decide)
  obtain ⟨b9, g9⟩ : ∃ z, z = h8.size := ⟨_, rfl⟩
  rw [← g9] at A9 st9
  refine own_go st9 ?_
  have ge_b9 : n0 ≤ b9 := Nat.le_trans Z0 (Nat.le_of_eq g9.symm)
  have ne_b3_b9 : b3 ≠ b9 := Nat.ne_of_lt (Nat.lt_of_lt_of_le V_b3.lt (Nat.le_of_eq g9.symm))
  have sz_b9 : h0.size ≤ b9 := Nat.le_trans K0.1 (Nat.le_of_eq g9.symm)
  replace V_b3 := V_b3.ext E9
  replace Z0 := Nat.le_trans Z0 E9.1
  replace K0 := K0.ext E9
  have V_b9 : Arv Z h9 b9 k9 .int (4 : Int32) [(.int (0 : Int32)), (.int (0 : Int32)), (.int (0 : Int32)), (.int (0 : Int32))] (.int (0 : Int32)) := (Arv.new A9 (by decide)).pad (pad_rep [] (.int (0 : Int32)) 4)
  show own_Go _ _ _ _ (T9.setTop (mkF m 110 #[.val (.int p1), .val (.int p2), .val (.int p3), .val (.int p4), .val (.int p5), .val (.int p6), .val (.int av), .val (.int bv), .val (.int cv), .val (.int dv), .val (.int sv), .val (.int tv), .val (.int lo), .val (.int hi), .val (.ref b3), .unset, .unset, .unset, .unset, .unset, .unset, .unset] [(.ref b9)]))
  refine own_go (fun _ kont => XS.dup X9.here hx rfl (hb hby at_110) rfl rfl kont) ?_
  show own_Go _ _ _ _ (T9.setTop (mkF m 111 #[.val (.int p1), .val (.int p2), .val (.int p3), .val (.int p4), .val (.int p5), .val (.int p6), .val (.int av), .val (.int bv), .val (.int cv), .val (.int dv), .val (.int sv), .val (.int tv), .val (.int lo), .val (.int hi), .val (.ref b3), .unset, .unset, .unset, .unset, .unset, .unset, .unset] [(.ref b9), (.ref b9)]))
  refine own_go (fun _ kont => XS.iconst X9.here hx rfl (hb hby at_111) kont) ?_
  show own_Go _ _ _ _ (T9.setTop (mkF m 112 #[.val (.int p1), .val (.int p2), .val (.int p3), .val (.int p4), .val (.int p5), .val (.int p6), .val (.int av), .val (.int bv), .val (.int cv), .val (.int dv), .val (.int sv), .val (.int tv), .val (.int lo), .val (.int hi), .val (.ref b3), .unset, .unset, .unset, .unset, .unset, .unset, .unset] [(.int (0 : Int32)), (.ref b9), (.ref b9)]))
  refine own_go (fun _ kont => XS.iconst X9.here hx rfl (hb hby at_112) kont) ?_
  show own_Go _ _ _ _ (T9.setTop (mkF m 113 #[.val (.int p1), .val (.int p2), .val (.int p3), .val (.int p4), .val (.int p5), .val (.int p6), .val (.int av), .val (.int bv), .val (.int cv), .val (.int dv), .val (.int sv), .val (.int tv), .val (.int lo), .val (.int hi), .val (.ref b3), .unset, .unset, .unset, .unset, .unset, .unset, .unset] [(.int (0 : Int32)), (.int (0 : Int32)), (.ref b9), (.ref b9)]))
  obtain ⟨cl10, Ar10, q10, Sz10, Ng10, Hs10, Gs10⟩ := V_b9
  have hin10 : ¬ ((0 : Int32) < 0 ∨ cl10.slots.size ≤ ((0 : Int32)).toNatClampNeg) := inb_of Sz10 ⟨by decide, by decide⟩
  obtain ⟨T10, h10, X10, e10, W10, st10⟩ := stI X9 hx hZ e9 Ar10 (j := (0 : Int32)) hin10 (g := (mkF m 113 #[.val (.int p1), .val (.int p2), .val (.int p3), .val (.int p4), .val (.int p5), .val (.int p6), .val (.int av), .val (.int bv), .val (.int cv), .val (.int dv), .val (.int sv), .val (.int tv), .val (.int lo), .val (.int hi), .val (.ref b3), .unset, .unset, .unset, .unset, .unset, .unset, .unset] [(.int (0 : Int32)), (.int (0 : Int32)), (.ref b9), (.ref b9)])) rfl rfl (hb hby at_113)
  refine own_go st10 ?_
  have NF10 := Fr.snoc X10 NF8 ge_b9
  replace V_b9 : Arv Z h10 b9 k9 .int (4 : Int32) [(.int (0 : Int32)), (.int (0 : Int32)), (.int (0 : Int32)), (.int (0 : Int32))] (.int (0 : Int32)) := Arv.set Ar10 q10 Sz10 Ng10 Hs10 Gs10 rfl W10 0 rfl (Nat.le_of_ble_eq_true rfl)
  replace V_b3 := V_b3.other W10 ne_b3_b9
  replace Z0 := Nat.le_trans Z0 (Keep.of_wr W10).1
  replace K0 := K0.wr W10 (Or.inr sz_b9)
  show own_Go _ _ _ _ (T10.setTop (mkF m 114 #[.val (.int p1), .val (.int p2), .val (.int p3), .val (.int p4), .val (.int p5), .val (.int p6), .val (.int av), .val (.int bv), .val (.int cv), .val (.int dv), .val (.int sv), .val (.int tv), .val (.int lo), .val (.int hi), .val (.ref b3), .unset, .unset, .unset, .unset, .unset, .unset, .unset] [(.ref b9)]))
  refine own_go (fun _ kont => XS.dup X10.here hx rfl (hb hby at_114) rfl rfl kont) ?_
  show own_Go _ _ _ _ (T10.setTop (mkF m 115 #[.val (.int p1), .val (.int p2), .val (.int p3), .val (.int p4), .val (.int p5), .val (.int p6), .val (.int av), .val (.int bv), .val (.int cv), .val (.int dv), .val (.int sv), .val (.int tv), .val (.int lo), .val (.int hi), .val (.ref b3), .unset, .unset, .unset, .unset, .unset, .unset, .unset] [(.ref b9), (.ref b9)]))
  refine own_go (fun _ kont => XS.iconst X10.here hx rfl (hb hby at_115) kont) ?_
  show own_Go _ _ _ _ (T10.setTop (mkF m 116 #[.val (.int p1), .val (.int p2), .val (.int p3), .val (.int p4), .val (.int p5), .val (.int p6), .val (.int av), .val (.int bv), .val (.int cv), .val (.int dv), .val (.int sv), .val (.int tv), .val (.int lo), .val (.int hi), .val (.ref b3), .unset, .unset, .unset, .unset, .unset, .unset, .unset] [(.int (1 : Int32)), (.ref b9), (.ref b9)]))
  refine own_go (fun _ kont => XS.iconst X10.here hx rfl (hb hby at_116) kont) ?_
  show own_Go _ _ _ _ (T10.setTop (mkF m 117 #[.val (.int p1), .val (.int p2), .val (.int p3), .val (.int p4), .val (.int p5), .val (.int p6), .val (.int av), .val (.int bv), .val (.int cv), .val (.int dv), .val (.int sv), .val (.int tv), .val (.int lo), .val (.int hi), .val (.ref b3), .unset, .unset, .unset, .unset, .unset, .unset, .unset] [(.int (1 : Int32)), (.int (1 : Int32)), (.ref b9), (.ref b9)]))
  obtain ⟨cl11, Ar11, q11, Sz11, Ng11, Hs11, Gs11⟩ := V_b9
  have hin11 : ¬ ((1 : Int32) < 0 ∨ cl11.slots.size ≤ ((1 : Int32)).toNatClampNeg) := inb_of Sz11 ⟨by decide, by decide⟩
  obtain ⟨T11, h11, X11, e11, W11, st11⟩ := stI X10 hx hZ e10 Ar11 (j := (1 : Int32)) hin11 (g := (mkF m 117 #[.val (.int p1), .val (.int p2), .val (.int p3), .val (.int p4), .val (.int p5), .val (.int p6), .val (.int av), .val (.int bv), .val (.int cv), .val (.int dv), .val (.int sv), .val (.int tv), .val (.int lo), .val (.int hi), .val (.ref b3), .unset, .unset, .unset, .unset, .unset, .unset, .unset] [(.int (1 : Int32)), (.int (1 : Int32)), (.ref b9), (.ref b9)])) rfl rfl (hb hby at_117)
  refine own_go st11 ?_
  have NF11 := Fr.snoc X11 NF10 ge_b9
  replace V_b9 : Arv Z h11 b9 k9 .int (4 : Int32) [(.int (0 : Int32)), (.int (1 : Int32)), (.int (0 : Int32)), (.int (0 : Int32))] (.int (0 : Int32)) := Arv.set Ar11 q11 Sz11 Ng11 Hs11 Gs11 rfl W11 1 rfl (Nat.le_of_ble_eq_true rfl)
  replace V_b3 := V_b3.other W11 ne_b3_b9
  replace Z0 := Nat.le_trans Z0 (Keep.of_wr W11).1
  replace K0 := K0.wr W11 (Or.inr sz_b9)
  show own_Go _ _ _ _ (T11.setTop (mkF m 118 #[.val (.int p1), .val (.int p2), .val (.int p3), .val (.int p4), .val (.int p5), .val (.int p6), .val (.int av), .val (.int bv), .val (.int cv), .val (.int dv), .val (.int sv), .val (.int tv), .val (.int lo), .val (.int hi), .val (.ref b3), .unset, .unset, .unset, .unset, .unset, .unset, .unset] [(.ref b9)]))
  refine own_go (fun _ kont => XS.dup X11.here hx rfl (hb hby at_118) rfl rfl kont) ?_
  show own_Go _ _ _ _ (T11.setTop (mkF m 119 #[.val (.int p1), .val (.int p2), .val (.int p3), .val (.int p4), .val (.int p5), .val (.int p6), .val (.int av), .val (.int bv), .val (.int cv), .val (.int dv), .val (.int sv), .val (.int tv), .val (.int lo), .val (.int hi), .val (.ref b3), .unset, .unset, .unset, .unset, .unset, .unset, .unset] [(.ref b9), (.ref b9)]))
  refine own_go (fun _ kont => XS.iconst X11.here hx rfl (hb hby at_119) kont) ?_
  show own_Go _ _ _ _ (T11.setTop (mkF m 120 #[.val (.int p1), .val (.int p2), .val (.int p3), .val (.int p4), .val (.int p5), .val (.int p6), .val (.int av), .val (.int bv), .val (.int cv), .val (.int dv), .val (.int sv), .val (.int tv), .val (.int lo), .val (.int hi), .val (.ref b3), .unset, .unset, .unset, .unset, .unset, .unset, .unset] [(.int (2 : Int32)), (.ref b9), (.ref b9)]))
  refine own_go (fun _ kont => XS.iconst X11.here hx rfl (hb hby at_120) kont) ?_
  show own_Go _ _ _ _ (T11.setTop (mkF m 121 #[.val (.int p1), .val (.int p2), .val (.int p3), .val (.int p4), .val (.int p5), .val (.int p6), .val (.int av), .val (.int bv), .val (.int cv), .val (.int dv), .val (.int sv), .val (.int tv), .val (.int lo), .val (.int hi), .val (.ref b3), .unset, .unset, .unset, .unset, .unset, .unset, .unset] [(.int (2 : Int32)), (.int (2 : Int32)), (.ref b9), (.ref b9)]))
  obtain ⟨cl12, Ar12, q12, Sz12, Ng12, Hs12, Gs12⟩ := V_b9
  have hin12 : ¬ ((2 : Int32) < 0 ∨ cl12.slots.size ≤ ((2 : Int32)).toNatClampNeg) := inb_of Sz12 ⟨by decide, by decide⟩
  obtain ⟨T12, h12, X12, e12, W12, st12⟩ := stI X11 hx hZ e11 Ar12 (j := (2 : Int32)) hin12 (g := (mkF m 121 #[.val (.int p1), .val (.int p2), .val (.int p3), .val (.int p4), .val (.int p5), .val (.int p6), .val (.int av), .val (.int bv), .val (.int cv), .val (.int dv), .val (.int sv), .val (.int tv), .val (.int lo), .val (.int hi), .val (.ref b3), .unset, .unset, .unset, .unset, .unset, .unset, .unset] [(.int (2 : Int32)), (.int (2 : Int32)), (.ref b9), (.ref b9)])) rfl rfl (hb hby at_121)
  refine own_go st12 ?_
  have NF12 := Fr.snoc X12 NF11 ge_b9
  replace V_b9 : Arv Z h12 b9 k9 .int (4 : Int32) [(.int (0 : Int32)), (.int (1 : Int32)), (.int (2 : Int32)), (.int (0 : Int32))] (.int (0 : Int32)) := Arv.set Ar12 q12 Sz12 Ng12 Hs12 Gs12 rfl W12 2 rfl (Nat.le_of_ble_eq_true rfl)
  replace V_b3 := V_b3.other W12 ne_b3_b9
  replace Z0 := Nat.le_trans Z0 (Keep.of_wr W12).1
  replace K0 := K0.wr W12 (Or.inr sz_b9)
  show own_Go _ _ _ _ (T12.setTop (mkF m 122 #[.val (.int p1), .val (.int p2), .val (.int p3), .val (.int p4), .val (.int p5), .val (.int p6), .val (.int av), .val (.int bv), .val (.int cv), .val (.int dv), .val (.int sv), .val (.int tv), .val (.int lo), .val (.int hi), .val (.ref b3), .unset, .unset, .unset, .unset, .unset, .unset, .unset] [(.ref b9)]))
  refine own_go (fun _ kont => XS.dup X12.here hx rfl (hb hby at_122) rfl rfl kont) ?_
  show own_Go _ _ _ _ (T12.setTop (mkF m 123 #[.val (.int p1), .val (.int p2), .val (.int p3), .val (.int p4), .val (.int p5), .val (.int p6), .val (.int av), .val (.int bv), .val (.int cv), .val (.int dv), .val (.int sv), .val (.int tv), .val (.int lo), .val (.int hi), .val (.ref b3), .unset, .unset, .unset, .unset, .unset, .unset, .unset] [(.ref b9), (.ref b9)]))
  refine own_go (fun _ kont => XS.iconst X12.here hx rfl (hb hby at_123) kont) ?_
  show own_Go _ _ _ _ (T12.setTop (mkF m 124 #[.val (.int p1), .val (.int p2), .val (.int p3), .val (.int p4), .val (.int p5), .val (.int p6), .val (.int av), .val (.int bv), .val (.int cv), .val (.int dv), .val (.int sv), .val (.int tv), .val (.int lo), .val (.int hi), .val (.ref b3), .unset, .unset, .unset, .unset, .unset, .unset, .unset] [(.int (3 : Int32)), (.ref b9), (.ref b9)]))
  refine own_go (fun _ kont => XS.iconst X12.here hx rfl (hb hby at_124) kont) ?_
  show own_Go _ _ _ _ (T12.setTop (mkF m 125 #[.val (.int p1), .val (.int p2), .val (.int p3), .val (.int p4), .val (.int p5), .val (.int p6), .val (.int av), .val (.int bv), .val (.int cv), .val (.int dv), .val (.int sv), .val (.int tv), .val (.int lo), .val (.int hi), .val (.ref b3), .unset, .unset, .unset, .unset, .unset, .unset, .unset] [(.int (3 : Int32)), (.int (3 : Int32)), (.ref b9), (.ref b9)]))
  obtain ⟨cl13, Ar13, q13, Sz13, Ng13, Hs13, Gs13⟩ := V_b9
  have hin13 : ¬ ((3 : Int32) < 0 ∨ cl13.slots.size ≤ ((3 : Int32)).toNatClampNeg) := inb_of Sz13 ⟨by decide, by decide⟩
  obtain ⟨T13, h13, X13, e13, W13, st13⟩ := stI X12 hx hZ e12 Ar13 (j := (3 : Int32)) hin13 (g := (mkF m 125 #[.val (.int p1), .val (.int p2), .val (.int p3), .val (.int p4), .val (.int p5), .val (.int p6), .val (.int av), .val (.int bv), .val (.int cv), .val (.int dv), .val (.int sv), .val (.int tv), .val (.int lo), .val (.int hi), .val (.ref b3), .unset, .unset, .unset, .unset, .unset, .unset, .unset] [(.int (3 : Int32)), (.int (3 : Int32)), (.ref b9), (.ref b9)])) rfl rfl (hb hby at_125)
  refine own_go st13 ?_
  have NF13 := Fr.snoc X13 NF12 ge_b9
  replace V_b9 : Arv Z h13 b9 k9 .int (4 : Int32) [(.int (0 : Int32)), (.int (1 : Int32)), (.int (2 : Int32)), (.int (3 : Int32))] (.int (0 : Int32)) := Arv.set Ar13 q13 Sz13 Ng13 Hs13 Gs13 rfl W13 3 rfl (Nat.le_of_ble_eq_true rfl)
  replace V_b3 := V_b3.other W13 ne_b3_b9
  replace Z0 := Nat.le_trans Z0 (Keep.of_wr W13).1
  replace K0 := K0.wr W13 (Or.inr sz_b9)
  show own_Go _ _ _ _ (T13.setTop (mkF m 126 #[.val (.int p1), .val (.int p2), .val (.int p3), .val (.int p4), .val (.int p5), .val (.int p6), .val (.int av), .val (.int bv), .val (.int cv), .val (.int dv), .val (.int sv), .val (.int tv), .val (.int lo), .val (.int hi), .val (.ref b3), .unset, .unset, .unset, .unset, .unset, .unset, .unset] [(.ref b9)]))
  refine own_go (fun _ kont => XS.astore X13.here hx rfl (hb hby at_126) rfl rfl (l' := #[.val (.int p1), .val (.int p2), .val (.int p3), .val (.int p4), .val (.int p5), .val (.int p6), .val (.int av), .val (.int bv), .val (.int cv), .val (.int dv), .val (.int sv), .val (.int tv), .val (.int lo), .val (.int hi), .val (.ref b3), .val (.ref b9), .unset, .unset, .unset, .unset, .unset, .unset]) rfl kont) ?_
  show own_Go _ _ _ _ (T13.setTop (mkF m 128 #[.val (.int p1), .val (.int p2), .val (.int p3), .val (.int p4), .val (.int p5), .val (.int p6), .val (.int av), .val (.int bv), .val (.int cv), .val (.int dv), .val (.int sv), .val (.int tv), .val (.int lo), .val (.int hi), .val (.ref b3), .val (.ref b9), .unset, .unset, .unset, .unset, .unset, .unset] []))
  obtain ⟨T14, h14, X14, e14, E14, A14, D14, -, st14⟩ := newO X13 hx hZ hown (hw _ (List.mem_of_getElem? (i := 10) rfl)) (hw _ (List.mem_of_getElem? (i := 11) rfl)) (hw _ (List.mem_of_getElem? (i := 12) rfl)) e13 (g := (mkF m 128 #[.val (.int p1), .val (.int p2), .val (.int p3), .val (.int p4), .val (.int p5), .val (.int p6), .val (.int av), .val (.int bv), .val (.int cv), .val (.int dv), .val (.int sv), .val (.int tv), .val (.int lo), .val (.int hi), .val (.ref b3), .val (.ref b9), .unset, .unset, .unset, .unset, .unset, .unset] [])) rfl (hb hby at_128) (by decide) (by decide)
  obtain ⟨b14, g14⟩ : ∃ z, z = h13.size := ⟨_, rfl⟩
  rw [← g14] at A14 D14 st14
  refine own_go st14 ?_
  have ge_b14 : n0 ≤ b14 := Nat.le_trans Z0 (Nat.le_of_eq g14.symm)
  have ne_b3_b14 : b3 ≠ b14 := Nat.ne_of_lt (Nat.lt_of_lt_of_le V_b3.lt (Nat.le_of_eq g14.symm))
  have ne_b9_b14 : b9 ≠ b14 := Nat.ne_of_lt (Nat.lt_of_lt_of_le V_b9.lt (Nat.le_of_eq g14.symm))
  have sz_b14 : h0.size ≤ b14 := Nat.le_trans K0.1 (Nat.le_of_eq g14.symm)
  replace V_b3 := V_b3.ext E14
  replace V_b9 := V_b9.ext E14
  replace Z0 := Nat.le_trans Z0 E14.1
  replace K0 := K0.ext E14
  have F_docnos_b14 : Fld Z h14 b14 "com/example/lissage/lissage/Index" "docnos" "[Ljava/lang/String;" .null := D14 (Or.inr (hw _ (List.mem_of_getElem? (i := 22) rfl))) (ty := (.array (.object "java/lang/String"))) (by decide)
  have F_documentStarts_b14 : Fld Z h14 b14 "com/example/lissage/lissage/Index" "documentStarts" "[I" .null := D14 (Or.inr (hw _ (List.mem_of_getElem? (i := 24) rfl))) (ty := (.array .int)) (by decide)
  have F_documentTerms_b14 : Fld Z h14 b14 "com/example/lissage/lissage/Index" "documentTerms" "[I" .null := D14 (Or.inr (hw _ (List.mem_of_getElem? (i := 26) rfl))) (ty := (.array .int)) (by decide)
  have F_terms_b14 : Fld Z h14 b14 "com/example/lissage/lissage/Index" "terms" "[Ljava/lang/String;" .null := D14 (Or.inr (hw _ (List.mem_of_getElem? (i := 28) rfl))) (ty := (.array (.object "java/lang/String"))) (by decide)
  have F_termStarts_b14 : Fld Z h14 b14 "com/example/lissage/lissage/Index" "termStarts" "[I" .null := D14 (Or.inr (hw _ (List.mem_of_getElem? (i := 30) rfl))) (ty := (.array .int)) (by decide)
  have F_postingDocuments_b14 : Fld Z h14 b14 "com/example/lissage/lissage/Index" "postingDocuments" "[I" .null := D14 (Or.inr (hw _ (List.mem_of_getElem? (i := 32) rfl))) (ty := (.array .int)) (by decide)
  have F_postingStarts_b14 : Fld Z h14 b14 "com/example/lissage/lissage/Index" "postingStarts" "[I" .null := D14 (Or.inr (hw _ (List.mem_of_getElem? (i := 34) rfl))) (ty := (.array .int)) (by decide)
  have F_positions_b14 : Fld Z h14 b14 "com/example/lissage/lissage/Index" "positions" "[I" .null := D14 (Or.inr (hw _ (List.mem_of_getElem? (i := 36) rfl))) (ty := (.array .int)) (by decide)
  have F_termNumbers_b14 : Fld Z h14 b14 "com/example/lissage/lissage/Index" "termNumbers" "Ljava/util/Map;" .null := D14 (Or.inr (hw _ (List.mem_of_getElem? (i := 72) rfl))) (ty := (.object "java/util/Map")) (by decide)
  show own_Go _ _ _ _ (T14.setTop (mkF m 131 #[.val (.int p1), .val (.int p2), .val (.int p3), .val (.int p4), .val (.int p5), .val (.int p6), .val (.int av), .val (.int bv), .val (.int cv), .val (.int dv), .val (.int sv), .val (.int tv), .val (.int lo), .val (.int hi), .val (.ref b3), .val (.ref b9), .unset, .unset, .unset, .unset, .unset, .unset] [(.ref b14)]))
  refine own_go (fun _ kont => XS.dup X14.here hx rfl (hb hby at_131) rfl rfl kont) ?_
  show own_Go _ _ _ _ (T14.setTop (mkF m 132 #[.val (.int p1), .val (.int p2), .val (.int p3), .val (.int p4), .val (.int p5), .val (.int p6), .val (.int av), .val (.int bv), .val (.int cv), .val (.int dv), .val (.int sv), .val (.int tv), .val (.int lo), .val (.int hi), .val (.ref b3), .val (.ref b9), .unset, .unset, .unset, .unset, .unset, .unset] [(.ref b14), (.ref b14)]))
  refine own_go (fun _ kont => XS.iconst X14.here hx rfl (hb hby at_132) kont) ?_
  show own_Go _ _ _ _ (T14.setTop (mkF m 133 #[.val (.int p1), .val (.int p2), .val (.int p3), .val (.int p4), .val (.int p5), .val (.int p6), .val (.int av), .val (.int bv), .val (.int cv), .val (.int dv), .val (.int sv), .val (.int tv), .val (.int lo), .val (.int hi), .val (.ref b3), .val (.ref b9), .unset, .unset, .unset, .unset, .unset, .unset] [(.int (0 : Int32)), (.ref b14), (.ref b14)]))
  obtain ⟨T15, h15, k15, X15, e15, E15, A15, O15, st15⟩ := newR X14 hx hZ hown (hw _ (List.mem_of_getElem? (i := 13) rfl)) (hw _ (List.mem_of_getElem? (i := 14) rfl)) e14 (g := (mkF m 133 #[.val (.int p1), .val (.int p2), .val (.int p3), .val (.int p4), .val (.int p5), .val (.int p6), .val (.int av), .val (.int bv), .val (.int cv), .val (.int dv), .val (.int sv), .val (.int tv), .val (.int lo), .val (.int hi), .val (.ref b3), .val (.ref b9), .unset, .unset, .unset, .unset, .unset, .unset] [(.int (0 : Int32)), (.ref b14), (.ref b14)])) rfl (hb hby at_133) rfl (by decide) (cap := 0) (by decide) (by decide) (by decide) (by decide)
  obtain ⟨b15, g15⟩ : ∃ z, z = h14.size := ⟨_, rfl⟩
  rw [← g15] at A15 st15
  refine own_go st15 ?_
  have ge_b15 : n0 ≤ b15 := Nat.le_trans Z0 (Nat.le_of_eq g15.symm)
  have ne_b3_b15 : b3 ≠ b15 := Nat.ne_of_lt (Nat.lt_of_lt_of_le V_b3.lt (Nat.le_of_eq g15.symm))
  have ne_b9_b15 : b9 ≠ b15 := Nat.ne_of_lt (Nat.lt_of_lt_of_le V_b9.lt (Nat.le_of_eq g15.symm))
  have ne_b14_b15 : b14 ≠ b15 := Nat.ne_of_lt (Nat.lt_of_lt_of_le A14.lt (Nat.le_of_eq g15.symm))
  have sz_b15 : h0.size ≤ b15 := Nat.le_trans K0.1 (Nat.le_of_eq g15.symm)
  replace V_b3 := V_b3.ext E15
  replace V_b9 := V_b9.ext E15
  replace A14 := A14.ext E15
  replace F_docnos_b14 := F_docnos_b14.ext E15
  replace F_documentStarts_b14 := F_documentStarts_b14.ext E15
  replace F_documentTerms_b14 := F_documentTerms_b14.ext E15
  replace F_terms_b14 := F_terms_b14.ext E15
  replace F_termStarts_b14 := F_termStarts_b14.ext E15
  replace F_postingDocuments_b14 := F_postingDocuments_b14.ext E15
  replace F_postingStarts_b14 := F_postingStarts_b14.ext E15
  replace F_positions_b14 := F_positions_b14.ext E15
  replace F_termNumbers_b14 := F_termNumbers_b14.ext E15
  replace Z0 := Nat.le_trans Z0 E15.1
  replace K0 := K0.ext E15
  have V_b15 : Arv Z h15 b15 k15 (.object "java/lang/String") (0 : Int32) [] .null := Arv.new A15 (by decide)
  show own_Go _ _ _ _ (T15.setTop (mkF m 136 #[.val (.int p1), .val (.int p2), .val (.int p3), .val (.int p4), .val (.int p5), .val (.int p6), .val (.int av), .val (.int bv), .val (.int cv), .val (.int dv), .val (.int sv), .val (.int tv), .val (.int lo), .val (.int hi), .val (.ref b3), .val (.ref b9), .unset, .unset, .unset, .unset, .unset, .unset] [(.ref b15), (.ref b14), (.ref b14)]))
  refine own_go (fun _ kont => XS.iconst X15.here hx rfl (hb hby at_136) kont) ?_
  show own_Go _ _ _ _ (T15.setTop (mkF m 137 #[.val (.int p1), .val (.int p2), .val (.int p3), .val (.int p4), .val (.int p5), .val (.int p6), .val (.int av), .val (.int bv), .val (.int cv), .val (.int dv), .val (.int sv), .val (.int tv), .val (.int lo), .val (.int hi), .val (.ref b3), .val (.ref b9), .unset, .unset, .unset, .unset, .unset, .unset] [(.int (1 : Int32)), (.ref b15), (.ref b14), (.ref b14)]))
  obtain ⟨T16, h16, k16, X16, e16, E16, A16, st16⟩ := newP X15 hx hZ (hw _ (List.mem_of_getElem? (i := 9) rfl)) e15 (g := (mkF m 137 #[.val (.int p1), .val (.int p2), .val (.int p3), .val (.int p4), .val (.int p5), .val (.int p6), .val (.int av), .val (.int bv), .val (.int cv), .val (.int dv), .val (.int sv), .val (.int tv), .val (.int lo), .val (.int hi), .val (.ref b3), .val (.ref b9), .unset, .unset, .unset, .unset, .unset, .unset] [(.int (1 : Int32)), (.ref b15), (.ref b14), (.ref b14)])) rfl (hb hby at_137) rfl (by decide) (cap := 1) (by decide) (by decide) (by decide) (by decide)
  obtain ⟨b16, g16⟩ : ∃ z, z = h15.size := ⟨_, rfl⟩
  rw [← g16] at A16 st16
  refine own_go st16 ?_
  have ge_b16 : n0 ≤ b16 := Nat.le_trans Z0 (Nat.le_of_eq g16.symm)
  have ne_b3_b16 : b3 ≠ b16 := Nat.ne_of_lt (Nat.lt_of_lt_of_le V_b3.lt (Nat.le_of_eq g16.symm))
  have ne_b9_b16 : b9 ≠ b16 := Nat.ne_of_lt (Nat.lt_of_lt_of_le V_b9.lt (Nat.le_of_eq g16.symm))
  have ne_b14_b16 : b14 ≠ b16 := Nat.ne_of_lt (Nat.lt_of_lt_of_le A14.lt (Nat.le_of_eq g16.symm))
  have ne_b15_b16 : b15 ≠ b16 := Nat.ne_of_lt (Nat.lt_of_lt_of_le V_b15.lt (Nat.le_of_eq g16.symm))
  have sz_b16 : h0.size ≤ b16 := Nat.le_trans K0.1 (Nat.le_of_eq g16.symm)
  replace V_b3 := V_b3.ext E16
  replace V_b9 := V_b9.ext E16
  replace A14 := A14.ext E16
  replace F_docnos_b14 := F_docnos_b14.ext E16
  replace F_documentStarts_b14 := F_documentStarts_b14.ext E16
  replace F_documentTerms_b14 := F_documentTerms_b14.ext E16
  replace F_terms_b14 := F_terms_b14.ext E16
  replace F_termStarts_b14 := F_termStarts_b14.ext E16
  replace F_postingDocuments_b14 := F_postingDocuments_b14.ext E16
  replace F_postingStarts_b14 := F_postingStarts_b14.ext E16
  replace F_positions_b14 := F_positions_b14.ext E16
  replace F_termNumbers_b14 := F_termNumbers_b14.ext E16
  replace V_b15 := V_b15.ext E16
  replace Z0 := Nat.le_trans Z0 E16.1
  replace K0 := K0.ext E16
  have V_b16 : Arv Z h16 b16 k16 .int (1 : Int32) [(.int (0 : Int32))] (.int (0 : Int32)) := (Arv.new A16 (by decide)).pad (pad_rep [] (.int (0 : Int32)) 1)
  show own_Go _ _ _ _ (T16.setTop (mkF m 139 #[.val (.int p1), .val (.int p2), .val (.int p3), .val (.int p4), .val (.int p5), .val (.int p6), .val (.int av), .val (.int bv), .val (.int cv), .val (.int dv), .val (.int sv), .val (.int tv), .val (.int lo), .val (.int hi), .val (.ref b3), .val (.ref b9), .unset, .unset, .unset, .unset, .unset, .unset] [(.ref b16), (.ref b15), (.ref b14), (.ref b14)]))
  refine own_go (fun _ kont => XS.dup X16.here hx rfl (hb hby at_139) rfl rfl kont) ?_
  show own_Go _ _ _ _ (T16.setTop (mkF m 140 #[.val (.int p1), .val (.int p2), .val (.int p3), .val (.int p4), .val (.int p5), .val (.int p6), .val (.int av), .val (.int bv), .val (.int cv), .val (.int dv), .val (.int sv), .val (.int tv), .val (.int lo), .val (.int hi), .val (.ref b3), .val (.ref b9), .unset, .unset, .unset, .unset, .unset, .unset] [(.ref b16), (.ref b16), (.ref b15), (.ref b14), (.ref b14)]))
  refine own_go (fun _ kont => XS.iconst X16.here hx rfl (hb hby at_140) kont) ?_
  show own_Go _ _ _ _ (T16.setTop (mkF m 141 #[.val (.int p1), .val (.int p2), .val (.int p3), .val (.int p4), .val (.int p5), .val (.int p6), .val (.int av), .val (.int bv), .val (.int cv), .val (.int dv), .val (.int sv), .val (.int tv), .val (.int lo), .val (.int hi), .val (.ref b3), .val (.ref b9), .unset, .unset, .unset, .unset, .unset, .unset] [(.int (0 : Int32)), (.ref b16), (.ref b16), (.ref b15), (.ref b14), (.ref b14)]))
  refine own_go (fun _ kont => XS.iconst X16.here hx rfl (hb hby at_141) kont) ?_
  show own_Go _ _ _ _ (T16.setTop (mkF m 142 #[.val (.int p1), .val (.int p2), .val (.int p3), .val (.int p4), .val (.int p5), .val (.int p6), .val (.int av), .val (.int bv), .val (.int cv), .val (.int dv), .val (.int sv), .val (.int tv), .val (.int lo), .val (.int hi), .val (.ref b3), .val (.ref b9), .unset, .unset, .unset, .unset, .unset, .unset] [(.int (0 : Int32)), (.int (0 : Int32)), (.ref b16), (.ref b16), (.ref b15), (.ref b14), (.ref b14)]))
  obtain ⟨cl17, Ar17, q17, Sz17, Ng17, Hs17, Gs17⟩ := V_b16
  have hin17 : ¬ ((0 : Int32) < 0 ∨ cl17.slots.size ≤ ((0 : Int32)).toNatClampNeg) := inb_of Sz17 ⟨by decide, by decide⟩
  obtain ⟨T17, h17, X17, e17, W17, st17⟩ := stI X16 hx hZ e16 Ar17 (j := (0 : Int32)) hin17 (g := (mkF m 142 #[.val (.int p1), .val (.int p2), .val (.int p3), .val (.int p4), .val (.int p5), .val (.int p6), .val (.int av), .val (.int bv), .val (.int cv), .val (.int dv), .val (.int sv), .val (.int tv), .val (.int lo), .val (.int hi), .val (.ref b3), .val (.ref b9), .unset, .unset, .unset, .unset, .unset, .unset] [(.int (0 : Int32)), (.int (0 : Int32)), (.ref b16), (.ref b16), (.ref b15), (.ref b14), (.ref b14)])) rfl rfl (hb hby at_142)
  refine own_go st17 ?_
  have NF17 := Fr.snoc X17 NF13 ge_b16
  replace V_b16 : Arv Z h17 b16 k16 .int (1 : Int32) [(.int (0 : Int32))] (.int (0 : Int32)) := Arv.set Ar17 q17 Sz17 Ng17 Hs17 Gs17 rfl W17 0 rfl (Nat.le_of_ble_eq_true rfl)
  replace V_b3 := V_b3.other W17 ne_b3_b16
  replace V_b9 := V_b9.other W17 ne_b9_b16
  replace A14 := A14.wr W17
  replace F_docnos_b14 := F_docnos_b14.other W17 (Or.inl ne_b14_b16)
  replace F_documentStarts_b14 := F_documentStarts_b14.other W17 (Or.inl ne_b14_b16)
  replace F_documentTerms_b14 := F_documentTerms_b14.other W17 (Or.inl ne_b14_b16)
  replace F_terms_b14 := F_terms_b14.other W17 (Or.inl ne_b14_b16)
  replace F_termStarts_b14 := F_termStarts_b14.other W17 (Or.inl ne_b14_b16)
  replace F_postingDocuments_b14 := F_postingDocuments_b14.other W17 (Or.inl ne_b14_b16)
  replace F_postingStarts_b14 := F_postingStarts_b14.other W17 (Or.inl ne_b14_b16)
  replace F_positions_b14 := F_positions_b14.other W17 (Or.inl ne_b14_b16)
  replace F_termNumbers_b14 := F_termNumbers_b14.other W17 (Or.inl ne_b14_b16)
  replace V_b15 := V_b15.other W17 ne_b15_b16
  replace Z0 := Nat.le_trans Z0 (Keep.of_wr W17).1
  replace K0 := K0.wr W17 (Or.inr sz_b16)
  show own_Go _ _ _ _ (T17.setTop (mkF m 143 #[.val (.int p1), .val (.int p2), .val (.int p3), .val (.int p4), .val (.int p5), .val (.int p6), .val (.int av), .val (.int bv), .val (.int cv), .val (.int dv), .val (.int sv), .val (.int tv), .val (.int lo), .val (.int hi), .val (.ref b3), .val (.ref b9), .unset, .unset, .unset, .unset, .unset, .unset] [(.ref b16), (.ref b15), (.ref b14), (.ref b14)]))
  refine own_go (fun _ kont => XS.iconst X17.here hx rfl (hb hby at_143) kont) ?_
  show own_Go _ _ _ _ (T17.setTop (mkF m 144 #[.val (.int p1), .val (.int p2), .val (.int p3), .val (.int p4), .val (.int p5), .val (.int p6), .val (.int av), .val (.int bv), .val (.int cv), .val (.int dv), .val (.int sv), .val (.int tv), .val (.int lo), .val (.int hi), .val (.ref b3), .val (.ref b9), .unset, .unset, .unset, .unset, .unset, .unset] [(.int (0 : Int32)), (.ref b16), (.ref b15), (.ref b14), (.ref b14)]))
  obtain ⟨T18, h18, k18, X18, e18, E18, A18, st18⟩ := newP X17 hx hZ (hw _ (List.mem_of_getElem? (i := 9) rfl)) e17 (g := (mkF m 144 #[.val (.int p1), .val (.int p2), .val (.int p3), .val (.int p4), .val (.int p5), .val (.int p6), .val (.int av), .val (.int bv), .val (.int cv), .val (.int dv), .val (.int sv), .val (.int tv), .val (.int lo), .val (.int hi), .val (.ref b3), .val (.ref b9), .unset, .unset, .unset, .unset, .unset, .unset] [(.int (0 : Int32)), (.ref b16), (.ref b15), (.ref b14), (.ref b14)])) rfl (hb hby at_144) rfl (by decide) (cap := 0) (by decide) (by decide) (by decide) (by decide)
  obtain ⟨b18, g18⟩ : ∃ z, z = h17.size := ⟨_, rfl⟩
  rw [← g18] at A18 st18
  refine own_go st18 ?_
  have ge_b18 : n0 ≤ b18 := Nat.le_trans Z0 (Nat.le_of_eq g18.symm)
  have ne_b3_b18 : b3 ≠ b18 := Nat.ne_of_lt (Nat.lt_of_lt_of_le V_b3.lt (Nat.le_of_eq g18.symm))
  have ne_b9_b18 : b9 ≠ b18 := Nat.ne_of_lt (Nat.lt_of_lt_of_le V_b9.lt (Nat.le_of_eq g18.symm))
  have ne_b14_b18 : b14 ≠ b18 := Nat.ne_of_lt (Nat.lt_of_lt_of_le A14.lt (Nat.le_of_eq g18.symm))
  have ne_b15_b18 : b15 ≠ b18 := Nat.ne_of_lt (Nat.lt_of_lt_of_le V_b15.lt (Nat.le_of_eq g18.symm))
  have ne_b16_b18 : b16 ≠ b18 := Nat.ne_of_lt (Nat.lt_of_lt_of_le V_b16.lt (Nat.le_of_eq g18.symm))
  have sz_b18 : h0.size ≤ b18 := Nat.le_trans K0.1 (Nat.le_of_eq g18.symm)
  replace V_b3 := V_b3.ext E18
  replace V_b9 := V_b9.ext E18
  replace A14 := A14.ext E18
  replace F_docnos_b14 := F_docnos_b14.ext E18
  replace F_documentStarts_b14 := F_documentStarts_b14.ext E18
  replace F_documentTerms_b14 := F_documentTerms_b14.ext E18
  replace F_terms_b14 := F_terms_b14.ext E18
  replace F_termStarts_b14 := F_termStarts_b14.ext E18
  replace F_postingDocuments_b14 := F_postingDocuments_b14.ext E18
  replace F_postingStarts_b14 := F_postingStarts_b14.ext E18
  replace F_positions_b14 := F_positions_b14.ext E18
  replace F_termNumbers_b14 := F_termNumbers_b14.ext E18
  replace V_b15 := V_b15.ext E18
  replace V_b16 := V_b16.ext E18
  replace Z0 := Nat.le_trans Z0 E18.1
  replace K0 := K0.ext E18
  have V_b18 : Arv Z h18 b18 k18 .int (0 : Int32) [] (.int (0 : Int32)) := Arv.new A18 (by decide)
  show own_Go _ _ _ _ (T18.setTop (mkF m 146 #[.val (.int p1), .val (.int p2), .val (.int p3), .val (.int p4), .val (.int p5), .val (.int p6), .val (.int av), .val (.int bv), .val (.int cv), .val (.int dv), .val (.int sv), .val (.int tv), .val (.int lo), .val (.int hi), .val (.ref b3), .val (.ref b9), .unset, .unset, .unset, .unset, .unset, .unset] [(.ref b18), (.ref b16), (.ref b15), (.ref b14), (.ref b14)]))
  refine own_go (fun _ kont => XS.iconst X18.here hx rfl (hb hby at_146) kont) ?_
  show own_Go _ _ _ _ (T18.setTop (mkF m 147 #[.val (.int p1), .val (.int p2), .val (.int p3), .val (.int p4), .val (.int p5), .val (.int p6), .val (.int av), .val (.int bv), .val (.int cv), .val (.int dv), .val (.int sv), .val (.int tv), .val (.int lo), .val (.int hi), .val (.ref b3), .val (.ref b9), .unset, .unset, .unset, .unset, .unset, .unset] [(.int (0 : Int32)), (.ref b18), (.ref b16), (.ref b15), (.ref b14), (.ref b14)]))
  obtain ⟨T19, h19, k19, X19, e19, E19, A19, O19, st19⟩ := newR X18 hx hZ hown (hw _ (List.mem_of_getElem? (i := 13) rfl)) (hw _ (List.mem_of_getElem? (i := 14) rfl)) e18 (g := (mkF m 147 #[.val (.int p1), .val (.int p2), .val (.int p3), .val (.int p4), .val (.int p5), .val (.int p6), .val (.int av), .val (.int bv), .val (.int cv), .val (.int dv), .val (.int sv), .val (.int tv), .val (.int lo), .val (.int hi), .val (.ref b3), .val (.ref b9), .unset, .unset, .unset, .unset, .unset, .unset] [(.int (0 : Int32)), (.ref b18), (.ref b16), (.ref b15), (.ref b14), (.ref b14)])) rfl (hb hby at_147) rfl (by decide) (cap := 0) (by decide) (by decide) (by decide) (by decide)
  obtain ⟨b19, g19⟩ : ∃ z, z = h18.size := ⟨_, rfl⟩
  rw [← g19] at A19 st19
  refine own_go st19 ?_
  have ge_b19 : n0 ≤ b19 := Nat.le_trans Z0 (Nat.le_of_eq g19.symm)
  have ne_b3_b19 : b3 ≠ b19 := Nat.ne_of_lt (Nat.lt_of_lt_of_le V_b3.lt (Nat.le_of_eq g19.symm))
  have ne_b9_b19 : b9 ≠ b19 := Nat.ne_of_lt (Nat.lt_of_lt_of_le V_b9.lt (Nat.le_of_eq g19.symm))
  have ne_b14_b19 : b14 ≠ b19 := Nat.ne_of_lt (Nat.lt_of_lt_of_le A14.lt (Nat.le_of_eq g19.symm))
  have ne_b15_b19 : b15 ≠ b19 := Nat.ne_of_lt (Nat.lt_of_lt_of_le V_b15.lt (Nat.le_of_eq g19.symm))
  have ne_b16_b19 : b16 ≠ b19 := Nat.ne_of_lt (Nat.lt_of_lt_of_le V_b16.lt (Nat.le_of_eq g19.symm))
  have ne_b18_b19 : b18 ≠ b19 := Nat.ne_of_lt (Nat.lt_of_lt_of_le V_b18.lt (Nat.le_of_eq g19.symm))
  have sz_b19 : h0.size ≤ b19 := Nat.le_trans K0.1 (Nat.le_of_eq g19.symm)
  replace V_b3 := V_b3.ext E19
  replace V_b9 := V_b9.ext E19
  replace A14 := A14.ext E19
  replace F_docnos_b14 := F_docnos_b14.ext E19
  replace F_documentStarts_b14 := F_documentStarts_b14.ext E19
  replace F_documentTerms_b14 := F_documentTerms_b14.ext E19
  replace F_terms_b14 := F_terms_b14.ext E19
  replace F_termStarts_b14 := F_termStarts_b14.ext E19
  replace F_postingDocuments_b14 := F_postingDocuments_b14.ext E19
  replace F_postingStarts_b14 := F_postingStarts_b14.ext E19
  replace F_positions_b14 := F_positions_b14.ext E19
  replace F_termNumbers_b14 := F_termNumbers_b14.ext E19
  replace V_b15 := V_b15.ext E19
  replace V_b16 := V_b16.ext E19
  replace V_b18 := V_b18.ext E19
  replace Z0 := Nat.le_trans Z0 E19.1
  replace K0 := K0.ext E19
  have V_b19 : Arv Z h19 b19 k19 (.object "java/lang/String") (0 : Int32) [] .null := Arv.new A19 (by decide)
  show own_Go _ _ _ _ (T19.setTop (mkF m 150 #[.val (.int p1), .val (.int p2), .val (.int p3), .val (.int p4), .val (.int p5), .val (.int p6), .val (.int av), .val (.int bv), .val (.int cv), .val (.int dv), .val (.int sv), .val (.int tv), .val (.int lo), .val (.int hi), .val (.ref b3), .val (.ref b9), .unset, .unset, .unset, .unset, .unset, .unset] [(.ref b19), (.ref b18), (.ref b16), (.ref b15), (.ref b14), (.ref b14)]))
  refine own_go (fun _ kont => XS.iconst X19.here hx rfl (hb hby at_150) kont) ?_
  show own_Go _ _ _ _ (T19.setTop (mkF m 151 #[.val (.int p1), .val (.int p2), .val (.int p3), .val (.int p4), .val (.int p5), .val (.int p6), .val (.int av), .val (.int bv), .val (.int cv), .val (.int dv), .val (.int sv), .val (.int tv), .val (.int lo), .val (.int hi), .val (.ref b3), .val (.ref b9), .unset, .unset, .unset, .unset, .unset, .unset] [(.int (1 : Int32)), (.ref b19), (.ref b18), (.ref b16), (.ref b15), (.ref b14), (.ref b14)]))
  obtain ⟨T20, h20, k20, X20, e20, E20, A20, st20⟩ := newP X19 hx hZ (hw _ (List.mem_of_getElem? (i := 9) rfl)) e19 (g := (mkF m 151 #[.val (.int p1), .val (.int p2), .val (.int p3), .val (.int p4), .val (.int p5), .val (.int p6), .val (.int av), .val (.int bv), .val (.int cv), .val (.int dv), .val (.int sv), .val (.int tv), .val (.int lo), .val (.int hi), .val (.ref b3), .val (.ref b9), .unset, .unset, .unset, .unset, .unset, .unset] [(.int (1 : Int32)), (.ref b19), (.ref b18), (.ref b16), (.ref b15), (.ref b14), (.ref b14)])) rfl (hb hby at_151) rfl (by decide) (cap := 1) (by decide) (by decide) (by decide) (by decide)
  obtain ⟨b20, g20⟩ : ∃ z, z = h19.size := ⟨_, rfl⟩
  rw [← g20] at A20 st20
  refine own_go st20 ?_
  have ge_b20 : n0 ≤ b20 := Nat.le_trans Z0 (Nat.le_of_eq g20.symm)
  have ne_b3_b20 : b3 ≠ b20 := Nat.ne_of_lt (Nat.lt_of_lt_of_le V_b3.lt (Nat.le_of_eq g20.symm))
  have ne_b9_b20 : b9 ≠ b20 := Nat.ne_of_lt (Nat.lt_of_lt_of_le V_b9.lt (Nat.le_of_eq g20.symm))
  have ne_b14_b20 : b14 ≠ b20 := Nat.ne_of_lt (Nat.lt_of_lt_of_le A14.lt (Nat.le_of_eq g20.symm))
  have ne_b15_b20 : b15 ≠ b20 := Nat.ne_of_lt (Nat.lt_of_lt_of_le V_b15.lt (Nat.le_of_eq g20.symm))
  have ne_b16_b20 : b16 ≠ b20 := Nat.ne_of_lt (Nat.lt_of_lt_of_le V_b16.lt (Nat.le_of_eq g20.symm))
  have ne_b18_b20 : b18 ≠ b20 := Nat.ne_of_lt (Nat.lt_of_lt_of_le V_b18.lt (Nat.le_of_eq g20.symm))
  have ne_b19_b20 : b19 ≠ b20 := Nat.ne_of_lt (Nat.lt_of_lt_of_le V_b19.lt (Nat.le_of_eq g20.symm))
  have sz_b20 : h0.size ≤ b20 := Nat.le_trans K0.1 (Nat.le_of_eq g20.symm)
  replace V_b3 := V_b3.ext E20
  replace V_b9 := V_b9.ext E20
  replace A14 := A14.ext E20
  replace F_docnos_b14 := F_docnos_b14.ext E20
  replace F_documentStarts_b14 := F_documentStarts_b14.ext E20
  replace F_documentTerms_b14 := F_documentTerms_b14.ext E20
  replace F_terms_b14 := F_terms_b14.ext E20
  replace F_termStarts_b14 := F_termStarts_b14.ext E20
  replace F_postingDocuments_b14 := F_postingDocuments_b14.ext E20
  replace F_postingStarts_b14 := F_postingStarts_b14.ext E20
  replace F_positions_b14 := F_positions_b14.ext E20
  replace F_termNumbers_b14 := F_termNumbers_b14.ext E20
  replace V_b15 := V_b15.ext E20
  replace V_b16 := V_b16.ext E20
  replace V_b18 := V_b18.ext E20
  replace V_b19 := V_b19.ext E20
  replace Z0 := Nat.le_trans Z0 E20.1
  replace K0 := K0.ext E20
  have V_b20 : Arv Z h20 b20 k20 .int (1 : Int32) [(.int (0 : Int32))] (.int (0 : Int32)) := (Arv.new A20 (by decide)).pad (pad_rep [] (.int (0 : Int32)) 1)
  show own_Go _ _ _ _ (T20.setTop (mkF m 153 #[.val (.int p1), .val (.int p2), .val (.int p3), .val (.int p4), .val (.int p5), .val (.int p6), .val (.int av), .val (.int bv), .val (.int cv), .val (.int dv), .val (.int sv), .val (.int tv), .val (.int lo), .val (.int hi), .val (.ref b3), .val (.ref b9), .unset, .unset, .unset, .unset, .unset, .unset] [(.ref b20), (.ref b19), (.ref b18), (.ref b16), (.ref b15), (.ref b14), (.ref b14)]))
  refine own_go (fun _ kont => XS.dup X20.here hx rfl (hb hby at_153) rfl rfl kont) ?_
  show own_Go _ _ _ _ (T20.setTop (mkF m 154 #[.val (.int p1), .val (.int p2), .val (.int p3), .val (.int p4), .val (.int p5), .val (.int p6), .val (.int av), .val (.int bv), .val (.int cv), .val (.int dv), .val (.int sv), .val (.int tv), .val (.int lo), .val (.int hi), .val (.ref b3), .val (.ref b9), .unset, .unset, .unset, .unset, .unset, .unset] [(.ref b20), (.ref b20), (.ref b19), (.ref b18), (.ref b16), (.ref b15), (.ref b14), (.ref b14)]))
  refine own_go (fun _ kont => XS.iconst X20.here hx rfl (hb hby at_154) kont) ?_
  show own_Go _ _ _ _ (T20.setTop (mkF m 155 #[.val (.int p1), .val (.int p2), .val (.int p3), .val (.int p4), .val (.int p5), .val (.int p6), .val (.int av), .val (.int bv), .val (.int cv), .val (.int dv), .val (.int sv), .val (.int tv), .val (.int lo), .val (.int hi), .val (.ref b3), .val (.ref b9), .unset, .unset, .unset, .unset, .unset, .unset] [(.int (0 : Int32)), (.ref b20), (.ref b20), (.ref b19), (.ref b18), (.ref b16), (.ref b15), (.ref b14), (.ref b14)]))
  refine own_go (fun _ kont => XS.iconst X20.here hx rfl (hb hby at_155) kont) ?_
  show own_Go _ _ _ _ (T20.setTop (mkF m 156 #[.val (.int p1), .val (.int p2), .val (.int p3), .val (.int p4), .val (.int p5), .val (.int p6), .val (.int av), .val (.int bv), .val (.int cv), .val (.int dv), .val (.int sv), .val (.int tv), .val (.int lo), .val (.int hi), .val (.ref b3), .val (.ref b9), .unset, .unset, .unset, .unset, .unset, .unset] [(.int (0 : Int32)), (.int (0 : Int32)), (.ref b20), (.ref b20), (.ref b19), (.ref b18), (.ref b16), (.ref b15), (.ref b14), (.ref b14)]))
  obtain ⟨cl21, Ar21, q21, Sz21, Ng21, Hs21, Gs21⟩ := V_b20
  have hin21 : ¬ ((0 : Int32) < 0 ∨ cl21.slots.size ≤ ((0 : Int32)).toNatClampNeg) := inb_of Sz21 ⟨by decide, by decide⟩
  obtain ⟨T21, h21, X21, e21, W21, st21⟩ := stI X20 hx hZ e20 Ar21 (j := (0 : Int32)) hin21 (g := (mkF m 156 #[.val (.int p1), .val (.int p2), .val (.int p3), .val (.int p4), .val (.int p5), .val (.int p6), .val (.int av), .val (.int bv), .val (.int cv), .val (.int dv), .val (.int sv), .val (.int tv), .val (.int lo), .val (.int hi), .val (.ref b3), .val (.ref b9), .unset, .unset, .unset, .unset, .unset, .unset] [(.int (0 : Int32)), (.int (0 : Int32)), (.ref b20), (.ref b20), (.ref b19), (.ref b18), (.ref b16), (.ref b15), (.ref b14), (.ref b14)])) rfl rfl (hb hby at_156)
  refine own_go st21 ?_
  have NF21 := Fr.snoc X21 NF17 ge_b20
  replace V_b20 : Arv Z h21 b20 k20 .int (1 : Int32) [(.int (0 : Int32))] (.int (0 : Int32)) := Arv.set Ar21 q21 Sz21 Ng21 Hs21 Gs21 rfl W21 0 rfl (Nat.le_of_ble_eq_true rfl)
  replace V_b3 := V_b3.other W21 ne_b3_b20
  replace V_b9 := V_b9.other W21 ne_b9_b20
  replace A14 := A14.wr W21
  replace F_docnos_b14 := F_docnos_b14.other W21 (Or.inl ne_b14_b20)
  replace F_documentStarts_b14 := F_documentStarts_b14.other W21 (Or.inl ne_b14_b20)
  replace F_documentTerms_b14 := F_documentTerms_b14.other W21 (Or.inl ne_b14_b20)
  replace F_terms_b14 := F_terms_b14.other W21 (Or.inl ne_b14_b20)
  replace F_termStarts_b14 := F_termStarts_b14.other W21 (Or.inl ne_b14_b20)
  replace F_postingDocuments_b14 := F_postingDocuments_b14.other W21 (Or.inl ne_b14_b20)
  replace F_postingStarts_b14 := F_postingStarts_b14.other W21 (Or.inl ne_b14_b20)
  replace F_positions_b14 := F_positions_b14.other W21 (Or.inl ne_b14_b20)
  replace F_termNumbers_b14 := F_termNumbers_b14.other W21 (Or.inl ne_b14_b20)
  replace V_b15 := V_b15.other W21 ne_b15_b20
  replace V_b16 := V_b16.other W21 ne_b16_b20
  replace V_b18 := V_b18.other W21 ne_b18_b20
  replace V_b19 := V_b19.other W21 ne_b19_b20
  replace Z0 := Nat.le_trans Z0 (Keep.of_wr W21).1
  replace K0 := K0.wr W21 (Or.inr sz_b20)
  show own_Go _ _ _ _ (T21.setTop (mkF m 157 #[.val (.int p1), .val (.int p2), .val (.int p3), .val (.int p4), .val (.int p5), .val (.int p6), .val (.int av), .val (.int bv), .val (.int cv), .val (.int dv), .val (.int sv), .val (.int tv), .val (.int lo), .val (.int hi), .val (.ref b3), .val (.ref b9), .unset, .unset, .unset, .unset, .unset, .unset] [(.ref b20), (.ref b19), (.ref b18), (.ref b16), (.ref b15), (.ref b14), (.ref b14)]))
  refine own_go (fun _ kont => XS.aload X21.here hx rfl (hb hby at_157) rfl rfl kont) ?_
  show own_Go _ _ _ _ (T21.setTop (mkF m 159 #[.val (.int p1), .val (.int p2), .val (.int p3), .val (.int p4), .val (.int p5), .val (.int p6), .val (.int av), .val (.int bv), .val (.int cv), .val (.int dv), .val (.int sv), .val (.int tv), .val (.int lo), .val (.int hi), .val (.ref b3), .val (.ref b9), .unset, .unset, .unset, .unset, .unset, .unset] [(.ref b9), (.ref b20), (.ref b19), (.ref b18), (.ref b16), (.ref b15), (.ref b14), (.ref b14)]))
  refine own_go (fun _ kont => XS.aload X21.here hx rfl (hb hby at_159) rfl rfl kont) ?_
  show own_Go _ _ _ _ (T21.setTop (mkF m 161 #[.val (.int p1), .val (.int p2), .val (.int p3), .val (.int p4), .val (.int p5), .val (.int p6), .val (.int av), .val (.int bv), .val (.int cv), .val (.int dv), .val (.int sv), .val (.int tv), .val (.int lo), .val (.int hi), .val (.ref b3), .val (.ref b9), .unset, .unset, .unset, .unset, .unset, .unset] [(.ref b3), (.ref b9), (.ref b20), (.ref b19), (.ref b18), (.ref b16), (.ref b15), (.ref b14), (.ref b14)]))
  refine own_go (fun _ kont => XS.iconst X21.here hx rfl (hb hby at_161) kont) ?_
  show own_Go _ _ _ _ (T21.setTop (mkF m 162 #[.val (.int p1), .val (.int p2), .val (.int p3), .val (.int p4), .val (.int p5), .val (.int p6), .val (.int av), .val (.int bv), .val (.int cv), .val (.int dv), .val (.int sv), .val (.int tv), .val (.int lo), .val (.int hi), .val (.ref b3), .val (.ref b9), .unset, .unset, .unset, .unset, .unset, .unset] [(.int (0 : Int32)), (.ref b3), (.ref b9), (.ref b20), (.ref b19), (.ref b18), (.ref b16), (.ref b15), (.ref b14), (.ref b14)]))
  obtain ⟨T22, h22, k22, X22, e22, E22, A22, st22⟩ := newP X21 hx hZ (hw _ (List.mem_of_getElem? (i := 9) rfl)) e21 (g := (mkF m 162 #[.val (.int p1), .val (.int p2), .val (.int p3), .val (.int p4), .val (.int p5), .val (.int p6), .val (.int av), .val (.int bv), .val (.int cv), .val (.int dv), .val (.int sv), .val (.int tv), .val (.int lo), .val (.int hi), .val (.ref b3), .val (.ref b9), .unset, .unset, .unset, .unset, .unset, .unset] [(.int (0 : Int32)), (.ref b3), (.ref b9), (.ref b20), (.ref b19), (.ref b18), (.ref b16), (.ref b15), (.ref b14), (.ref b14)])) rfl (hb hby at_162) rfl (by decide) (cap := 0) (by decide) (by decide) (by decide) (by decide)
  obtain ⟨b22, g22⟩ : ∃ z, z = h21.size := ⟨_, rfl⟩
  rw [← g22] at A22 st22
  refine own_go st22 ?_
  have ge_b22 : n0 ≤ b22 := Nat.le_trans Z0 (Nat.le_of_eq g22.symm)
  have ne_b3_b22 : b3 ≠ b22 := Nat.ne_of_lt (Nat.lt_of_lt_of_le V_b3.lt (Nat.le_of_eq g22.symm))
  have ne_b9_b22 : b9 ≠ b22 := Nat.ne_of_lt (Nat.lt_of_lt_of_le V_b9.lt (Nat.le_of_eq g22.symm))
  have ne_b14_b22 : b14 ≠ b22 := Nat.ne_of_lt (Nat.lt_of_lt_of_le A14.lt (Nat.le_of_eq g22.symm))
  have ne_b15_b22 : b15 ≠ b22 := Nat.ne_of_lt (Nat.lt_of_lt_of_le V_b15.lt (Nat.le_of_eq g22.symm))
  have ne_b16_b22 : b16 ≠ b22 := Nat.ne_of_lt (Nat.lt_of_lt_of_le V_b16.lt (Nat.le_of_eq g22.symm))
  have ne_b18_b22 : b18 ≠ b22 := Nat.ne_of_lt (Nat.lt_of_lt_of_le V_b18.lt (Nat.le_of_eq g22.symm))
  have ne_b19_b22 : b19 ≠ b22 := Nat.ne_of_lt (Nat.lt_of_lt_of_le V_b19.lt (Nat.le_of_eq g22.symm))
  have ne_b20_b22 : b20 ≠ b22 := Nat.ne_of_lt (Nat.lt_of_lt_of_le V_b20.lt (Nat.le_of_eq g22.symm))
  have sz_b22 : h0.size ≤ b22 := Nat.le_trans K0.1 (Nat.le_of_eq g22.symm)
  replace V_b3 := V_b3.ext E22
  replace V_b9 := V_b9.ext E22
  replace A14 := A14.ext E22
  replace F_docnos_b14 := F_docnos_b14.ext E22
  replace F_documentStarts_b14 := F_documentStarts_b14.ext E22
  replace F_documentTerms_b14 := F_documentTerms_b14.ext E22
  replace F_terms_b14 := F_terms_b14.ext E22
  replace F_termStarts_b14 := F_termStarts_b14.ext E22
  replace F_postingDocuments_b14 := F_postingDocuments_b14.ext E22
  replace F_postingStarts_b14 := F_postingStarts_b14.ext E22
  replace F_positions_b14 := F_positions_b14.ext E22
  replace F_termNumbers_b14 := F_termNumbers_b14.ext E22
  replace V_b15 := V_b15.ext E22
  replace V_b16 := V_b16.ext E22
  replace V_b18 := V_b18.ext E22
  replace V_b19 := V_b19.ext E22
  replace V_b20 := V_b20.ext E22
  replace Z0 := Nat.le_trans Z0 E22.1
  replace K0 := K0.ext E22
  have V_b22 : Arv Z h22 b22 k22 .int (0 : Int32) [] (.int (0 : Int32)) := Arv.new A22 (by decide)
  show own_Go _ _ _ _ (T22.setTop (mkF m 164 #[.val (.int p1), .val (.int p2), .val (.int p3), .val (.int p4), .val (.int p5), .val (.int p6), .val (.int av), .val (.int bv), .val (.int cv), .val (.int dv), .val (.int sv), .val (.int tv), .val (.int lo), .val (.int hi), .val (.ref b3), .val (.ref b9), .unset, .unset, .unset, .unset, .unset, .unset] [(.ref b22), (.ref b3), (.ref b9), (.ref b20), (.ref b19), (.ref b18), (.ref b16), (.ref b15), (.ref b14), (.ref b14)]))
  obtain ⟨_, _, ⟨T23, L23, k23, n23⟩, -, X23, ⟨Lc23, hQ23, l23, y23, z23⟩, st23⟩ := X22.specialBack hx (y := (⟨"com/example/lissage/lissage/Index", "<init>", "([Ljava/lang/String;[I[I[Ljava/lang/String;[I[I[I[I)V"⟩ : MethodName)) rfl hown (mvT hZ (hw _ (List.mem_of_getElem? (i := 15) rfl))) (mvT hZ (hw _ (List.mem_of_getElem? (i := 16) rfl))) (mvT hZ (hw _ (List.mem_of_getElem? (i := 17) rfl))) (by decide) (own_back (W := 1) (own_rmI l Z a0 hw b14 b15 b16 b18 b19 b20 b9 b3 b22 k19 h22 n0 Z0 A14 F_docnos_b14 F_documentStarts_b14 F_documentTerms_b14 F_terms_b14 F_termStarts_b14 F_postingDocuments_b14 F_postingStarts_b14 F_positions_b14 F_termNumbers_b14 ge_b14 V_b19 ne_b14_b19) hZ (hw _ (List.mem_of_getElem? (i := 17) rfl)) (hw _ (List.mem_of_getElem? (i := 12) rfl)) (by decide) (by decide)) (g := (mkF m 164 #[.val (.int p1), .val (.int p2), .val (.int p3), .val (.int p4), .val (.int p5), .val (.int p6), .val (.int av), .val (.int bv), .val (.int cv), .val (.int dv), .val (.int sv), .val (.int tv), .val (.int lo), .val (.int hi), .val (.ref b3), .val (.ref b9), .unset, .unset, .unset, .unset, .unset, .unset] [(.ref b22), (.ref b3), (.ref b9), (.ref b20), (.ref b19), (.ref b18), (.ref b16), (.ref b15), (.ref b14), (.ref b14)])) rfl (by rw [hml]; rfl) (Steps.refl _) (a := b14) (argsL := [(.ref b15), (.ref b16), (.ref b18), (.ref b19), (.ref b20), (.ref b9), (.ref b3), (.ref b22)]) (rest := [(.ref b14)]) (lenOf own_pd6 rfl) rfl (by show 2 * 0 + _ ≤ _; exact Nat.le_of_eq rfl) (hb hby at_164) (fun _ _ => ⟨rfl, e22, (by decide : 9 + 1 ≤ _), (by decide : 20 + 8 ≤ _)⟩)
  dsimp only [Pt.U, Pt.locs, Pt.cells, Pt.slots] at X23 l23 y23 z23 st23 hQ23
  subst l23 y23 z23
  obtain ⟨rfl, Nq23, K23, Ex23, Fp23, _, _⟩ := hQ23
  have NF23 := Fr.app NF21 Nq23
  refine own_goT st23 ?_
  replace V_b3 := V_b3.keep K23 (ninS ne_b3_b14 nin0)
  replace V_b9 := V_b9.keep K23 (ninS ne_b9_b14 nin0)
  replace A14 := A14.keep K23
  replace V_b15 := V_b15.keep K23 (ninS (Ne.symm ne_b14_b15) nin0)
  replace V_b16 := V_b16.keep K23 (ninS (Ne.symm ne_b14_b16) nin0)
  replace V_b18 := V_b18.keep K23 (ninS (Ne.symm ne_b14_b18) nin0)
  replace V_b19 := V_b19.keep K23 (ninS (Ne.symm ne_b14_b19) nin0)
  replace V_b20 := V_b20.keep K23 (ninS (Ne.symm ne_b14_b20) nin0)
  replace V_b22 := V_b22.keep K23 (ninS (Ne.symm ne_b14_b22) nin0)
  replace Z0 := Nat.le_trans Z0 K23.1
  replace K0 := K0.trans K23 (allS (Or.inr sz_b14) all0)
  show own_Go _ _ _ _ (T23.setTop (mkF m 167 #[.val (.int p1), .val (.int p2), .val (.int p3), .val (.int p4), .val (.int p5), .val (.int p6), .val (.int av), .val (.int bv), .val (.int cv), .val (.int dv), .val (.int sv), .val (.int tv), .val (.int lo), .val (.int hi), .val (.ref b3), .val (.ref b9), .unset, .unset, .unset, .unset, .unset, .unset] [(.ref b14)]))
  refine own_go (fun _ kont => XS.astore X23.here hx rfl (hb hby at_167) rfl rfl (l' := #[.val (.int p1), .val (.int p2), .val (.int p3), .val (.int p4), .val (.int p5), .val (.int p6), .val (.int av), .val (.int bv), .val (.int cv), .val (.int dv), .val (.int sv), .val (.int tv), .val (.int lo), .val (.int hi), .val (.ref b3), .val (.ref b9), .val (.ref b14), .unset, .unset, .unset, .unset, .unset]) rfl kont) ?_
  show own_Go _ _ _ _ (T23.setTop (mkF m 169 #[.val (.int p1), .val (.int p2), .val (.int p3), .val (.int p4), .val (.int p5), .val (.int p6), .val (.int av), .val (.int bv), .val (.int cv), .val (.int dv), .val (.int sv), .val (.int tv), .val (.int lo), .val (.int hi), .val (.ref b3), .val (.ref b9), .val (.ref b14), .unset, .unset, .unset, .unset, .unset] []))
  obtain ⟨T24, h24, X24, e24, E24, A24, D24, -, st24⟩ := newO X23 hx hZ hown (hw _ (List.mem_of_getElem? (i := 73) rfl)) (hw _ (List.mem_of_getElem? (i := 74) rfl)) (hw _ (List.mem_of_getElem? (i := 75) rfl)) rfl (g := (mkF m 169 #[.val (.int p1), .val (.int p2), .val (.int p3), .val (.int p4), .val (.int p5), .val (.int p6), .val (.int av), .val (.int bv), .val (.int cv), .val (.int dv), .val (.int sv), .val (.int tv), .val (.int lo), .val (.int hi), .val (.ref b3), .val (.ref b9), .val (.ref b14), .unset, .unset, .unset, .unset, .unset] [])) rfl (hb hby at_169) (by decide) (by decide)
  obtain ⟨b24, g24⟩ : ∃ z, z = T23.heap.size := ⟨_, rfl⟩
  rw [← g24] at A24 D24 st24
  refine own_go st24 ?_
  have ge_b24 : n0 ≤ b24 := Nat.le_trans Z0 (Nat.le_of_eq g24.symm)
  have ne_b3_b24 : b3 ≠ b24 := Nat.ne_of_lt (Nat.lt_of_lt_of_le V_b3.lt (Nat.le_of_eq g24.symm))
  have ne_b9_b24 : b9 ≠ b24 := Nat.ne_of_lt (Nat.lt_of_lt_of_le V_b9.lt (Nat.le_of_eq g24.symm))
  have ne_b14_b24 : b14 ≠ b24 := Nat.ne_of_lt (Nat.lt_of_lt_of_le A14.lt (Nat.le_of_eq g24.symm))
  have ne_b15_b24 : b15 ≠ b24 := Nat.ne_of_lt (Nat.lt_of_lt_of_le V_b15.lt (Nat.le_of_eq g24.symm))
  have ne_b16_b24 : b16 ≠ b24 := Nat.ne_of_lt (Nat.lt_of_lt_of_le V_b16.lt (Nat.le_of_eq g24.symm))
  have ne_b18_b24 : b18 ≠ b24 := Nat.ne_of_lt (Nat.lt_of_lt_of_le V_b18.lt (Nat.le_of_eq g24.symm))
  have ne_b19_b24 : b19 ≠ b24 := Nat.ne_of_lt (Nat.lt_of_lt_of_le V_b19.lt (Nat.le_of_eq g24.symm))
  have ne_b20_b24 : b20 ≠ b24 := Nat.ne_of_lt (Nat.lt_of_lt_of_le V_b20.lt (Nat.le_of_eq g24.symm))
  have ne_b22_b24 : b22 ≠ b24 := Nat.ne_of_lt (Nat.lt_of_lt_of_le V_b22.lt (Nat.le_of_eq g24.symm))
  have sz_b24 : h0.size ≤ b24 := Nat.le_trans K0.1 (Nat.le_of_eq g24.symm)
  replace V_b3 := V_b3.ext E24
  replace V_b9 := V_b9.ext E24
  replace A14 := A14.ext E24
  replace V_b15 := V_b15.ext E24
  replace V_b16 := V_b16.ext E24
  replace V_b18 := V_b18.ext E24
  replace V_b19 := V_b19.ext E24
  replace V_b20 := V_b20.ext E24
  replace V_b22 := V_b22.ext E24
  replace Fp23 := Fp23.ext E24
  replace Z0 := Nat.le_trans Z0 E24.1
  replace K0 := K0.ext E24
  have F_index_b24 : Fld Z h24 b24 "com/example/lissage/lissage/Postings" "index" "Lcom/example/lissage/lissage/Index;" .null := D24 (Or.inr (hw _ (List.mem_of_getElem? (i := 81) rfl))) (ty := (.object "com/example/lissage/lissage/Index")) (by decide)
  have F_start_b24 : Fld Z h24 b24 "com/example/lissage/lissage/Postings" "start" "I" (.int (0 : Int32)) := D24 (Or.inr (hw _ (List.mem_of_getElem? (i := 83) rfl))) (ty := .int) (by decide)
  have F_end_b24 : Fld Z h24 b24 "com/example/lissage/lissage/Postings" "end" "I" (.int (0 : Int32)) := D24 (Or.inr (hw _ (List.mem_of_getElem? (i := 85) rfl))) (ty := .int) (by decide)
  show own_Go _ _ _ _ (T24.setTop (mkF m 172 #[.val (.int p1), .val (.int p2), .val (.int p3), .val (.int p4), .val (.int p5), .val (.int p6), .val (.int av), .val (.int bv), .val (.int cv), .val (.int dv), .val (.int sv), .val (.int tv), .val (.int lo), .val (.int hi), .val (.ref b3), .val (.ref b9), .val (.ref b14), .unset, .unset, .unset, .unset, .unset] [(.ref b24)]))
  refine own_go (fun _ kont => XS.dup X24.here hx rfl (hb hby at_172) rfl rfl kont) ?_
  show own_Go _ _ _ _ (T24.setTop (mkF m 173 #[.val (.int p1), .val (.int p2), .val (.int p3), .val (.int p4), .val (.int p5), .val (.int p6), .val (.int av), .val (.int bv), .val (.int cv), .val (.int dv), .val (.int sv), .val (.int tv), .val (.int lo), .val (.int hi), .val (.ref b3), .val (.ref b9), .val (.ref b14), .unset, .unset, .unset, .unset, .unset] [(.ref b24), (.ref b24)]))
  refine own_go (fun _ kont => XS.aload X24.here hx rfl (hb hby at_173) rfl rfl kont) ?_
  show own_Go _ _ _ _ (T24.setTop (mkF m 175 #[.val (.int p1), .val (.int p2), .val (.int p3), .val (.int p4), .val (.int p5), .val (.int p6), .val (.int av), .val (.int bv), .val (.int cv), .val (.int dv), .val (.int sv), .val (.int tv), .val (.int lo), .val (.int hi), .val (.ref b3), .val (.ref b9), .val (.ref b14), .unset, .unset, .unset, .unset, .unset] [(.ref b14), (.ref b24), (.ref b24)]))
  refine own_go (fun _ kont => XS.iload X24.here hx rfl (hb hby at_175) rfl kont) ?_
  show own_Go _ _ _ _ (T24.setTop (mkF m 177 #[.val (.int p1), .val (.int p2), .val (.int p3), .val (.int p4), .val (.int p5), .val (.int p6), .val (.int av), .val (.int bv), .val (.int cv), .val (.int dv), .val (.int sv), .val (.int tv), .val (.int lo), .val (.int hi), .val (.ref b3), .val (.ref b9), .val (.ref b14), .unset, .unset, .unset, .unset, .unset] [(.int lo), (.ref b14), (.ref b24), (.ref b24)]))
  refine own_go (fun _ kont => XS.iload X24.here hx rfl (hb hby at_177) rfl kont) ?_
  show own_Go _ _ _ _ (T24.setTop (mkF m 179 #[.val (.int p1), .val (.int p2), .val (.int p3), .val (.int p4), .val (.int p5), .val (.int p6), .val (.int av), .val (.int bv), .val (.int cv), .val (.int dv), .val (.int sv), .val (.int tv), .val (.int lo), .val (.int hi), .val (.ref b3), .val (.ref b9), .val (.ref b14), .unset, .unset, .unset, .unset, .unset] [(.int hi), (.int lo), (.ref b14), (.ref b24), (.ref b24)]))
  obtain ⟨_, _, ⟨T25, L25, k25, n25⟩, -, X25, ⟨Lc25, hQ25, l25, y25, z25⟩, st25⟩ := X24.specialBack hx (y := (⟨"com/example/lissage/lissage/Postings", "<init>", "(Lcom/example/lissage/lissage/Index;II)V"⟩ : MethodName)) rfl hown (mvT hZ (hw _ (List.mem_of_getElem? (i := 76) rfl))) (mvT hZ (hw _ (List.mem_of_getElem? (i := 77) rfl))) (mvT hZ (hw _ (List.mem_of_getElem? (i := 78) rfl))) (by decide) (own_back (W := 1) (own_rmP l Z a0 hw b24 b14 lo hi h24 n0 Z0 A24 F_index_b24 F_start_b24 F_end_b24 ge_b24) hZ (hw _ (List.mem_of_getElem? (i := 78) rfl)) (hw _ (List.mem_of_getElem? (i := 75) rfl)) (by decide) (by decide)) (g := (mkF m 179 #[.val (.int p1), .val (.int p2), .val (.int p3), .val (.int p4), .val (.int p5), .val (.int p6), .val (.int av), .val (.int bv), .val (.int cv), .val (.int dv), .val (.int sv), .val (.int tv), .val (.int lo), .val (.int hi), .val (.ref b3), .val (.ref b9), .val (.ref b14), .unset, .unset, .unset, .unset, .unset] [(.int hi), (.int lo), (.ref b14), (.ref b24), (.ref b24)])) rfl (by rw [hml]; rfl) (Steps.refl _) (a := b24) (argsL := [(.ref b14), (.int lo), (.int hi)]) (rest := [(.ref b24)]) (lenOf own_pd7 rfl) rfl (by show 2 * 0 + _ ≤ _; exact Nat.le_of_eq rfl) (hb hby at_179) (fun _ _ => ⟨rfl, e24, (by decide : 11 + 0 ≤ _), (by decide : 31 + 0 ≤ _)⟩)
  dsimp only [Pt.U, Pt.locs, Pt.cells, Pt.slots] at X25 l25 y25 z25 st25 hQ25
  subst l25 y25 z25
  obtain ⟨rfl, Nq25, K25, Fi25, Fs25, Fe25⟩ := hQ25
  have NF25 := Fr.app NF23 Nq25
  refine own_goT st25 ?_
  replace V_b3 := V_b3.keep K25 (ninS ne_b3_b24 nin0)
  replace V_b9 := V_b9.keep K25 (ninS ne_b9_b24 nin0)
  replace A14 := A14.keep K25
  replace V_b15 := V_b15.keep K25 (ninS ne_b15_b24 nin0)
  replace V_b16 := V_b16.keep K25 (ninS ne_b16_b24 nin0)
  replace V_b18 := V_b18.keep K25 (ninS ne_b18_b24 nin0)
  replace V_b19 := V_b19.keep K25 (ninS ne_b19_b24 nin0)
  replace V_b20 := V_b20.keep K25 (ninS ne_b20_b24 nin0)
  replace V_b22 := V_b22.keep K25 (ninS ne_b22_b24 nin0)
  replace Fp23 := Fp23.keep K25 (ninS ne_b14_b24 nin0)
  replace A24 := A24.keep K25
  replace Z0 := Nat.le_trans Z0 K25.1
  replace K0 := K0.trans K25 (allS (Or.inr sz_b24) all0)
  show own_Go _ _ _ _ (T25.setTop (mkF m 182 #[.val (.int p1), .val (.int p2), .val (.int p3), .val (.int p4), .val (.int p5), .val (.int p6), .val (.int av), .val (.int bv), .val (.int cv), .val (.int dv), .val (.int sv), .val (.int tv), .val (.int lo), .val (.int hi), .val (.ref b3), .val (.ref b9), .val (.ref b14), .unset, .unset, .unset, .unset, .unset] [(.ref b24)]))
  refine own_go (fun _ kont => XS.astore X25.here hx rfl (hb hby at_182) rfl rfl (l' := #[.val (.int p1), .val (.int p2), .val (.int p3), .val (.int p4), .val (.int p5), .val (.int p6), .val (.int av), .val (.int bv), .val (.int cv), .val (.int dv), .val (.int sv), .val (.int tv), .val (.int lo), .val (.int hi), .val (.ref b3), .val (.ref b9), .val (.ref b14), .val (.ref b24), .unset, .unset, .unset, .unset]) rfl kont) ?_
  show own_Go _ _ _ _ (T25.setTop (mkF m 184 #[.val (.int p1), .val (.int p2), .val (.int p3), .val (.int p4), .val (.int p5), .val (.int p6), .val (.int av), .val (.int bv), .val (.int cv), .val (.int dv), .val (.int sv), .val (.int tv), .val (.int lo), .val (.int hi), .val (.ref b3), .val (.ref b9), .val (.ref b14), .val (.ref b24), .unset, .unset, .unset, .unset] []))
  refine own_go (fun _ kont => XS.aload X25.here hx rfl (hb hby at_184) rfl rfl kont) ?_
  show own_Go _ _ _ _ (T25.setTop (mkF m 186 #[.val (.int p1), .val (.int p2), .val (.int p3), .val (.int p4), .val (.int p5), .val (.int p6), .val (.int av), .val (.int bv), .val (.int cv), .val (.int dv), .val (.int sv), .val (.int tv), .val (.int lo), .val (.int hi), .val (.ref b3), .val (.ref b9), .val (.ref b14), .val (.ref b24), .unset, .unset, .unset, .unset] [(.ref b24)]))
  obtain ⟨cq26, kq26, q26a, q26b, q26c⟩ := isOf hZ rfl A24
  obtain ⟨_, _, ⟨T26, L26, k26, n26⟩, -, X26, ⟨Lc26, hQ26, l26, y26, z26⟩, st26⟩ := X25.virtualBack hx (y := (⟨"com/example/lissage/lissage/Postings", "collectionFrequency", "()J"⟩ : MethodName)) (z := (⟨"com/example/lissage/lissage/Postings", "collectionFrequency", "()J"⟩ : MethodName)) hown (mvT hZ (hw _ (List.mem_of_getElem? (i := 86) rfl))) (mvT hZ (hw _ (List.mem_of_getElem? (i := 87) rfl))) (notFace_of_selects (args := #[]) (mvT hZ (hw _ (List.mem_of_getElem? (i := 89) rfl)))) (mvT hZ (hw _ (List.mem_of_getElem? (i := 89) rfl))) (mvT hZ (hw _ (List.mem_of_getElem? (i := 88) rfl))) (by decide) (own_back (W := 0) (own_rmC l Z a0 hw b24 b14 b3 k3 lo hi av bv cv dv T25.heap n0 Z0 Fi25 Fs25 Fe25 Fp23 V_b3 l1 l2 l3) hZ (hw _ (List.mem_of_getElem? (i := 90) rfl)) (hw _ (List.mem_of_getElem? (i := 75) rfl)) (by decide) (by decide)) q26a q26c (g := (mkF m 186 #[.val (.int p1), .val (.int p2), .val (.int p3), .val (.int p4), .val (.int p5), .val (.int p6), .val (.int av), .val (.int bv), .val (.int cv), .val (.int dv), .val (.int sv), .val (.int tv), .val (.int lo), .val (.int hi), .val (.ref b3), .val (.ref b9), .val (.ref b14), .val (.ref b24), .unset, .unset, .unset, .unset] [(.ref b24)])) rfl (by rw [hml]; rfl) (Steps.refl _) (argsL := []) (rest := []) (lenOf own_pd8 rfl) rfl (by show 2 * 0 + _ ≤ _; exact Nat.le_of_eq rfl) (hb hby at_186) (fun _ _ => ⟨rfl, rfl, (by decide : 11 + 0 ≤ _), (by decide : 31 + 0 ≤ _)⟩)
  dsimp only [Pt.U, Pt.locs, Pt.cells, Pt.slots] at X26 l26 y26 z26 st26 hQ26
  subst l26 y26 z26
  obtain ⟨rfl, Nq26, eq26⟩ := hQ26
  have NF26 := Fr.app NF25 Nq26
  refine own_goT st26 ?_
  show own_Go _ _ _ _ (T26.setTop (mkF m 189 #[.val (.int p1), .val (.int p2), .val (.int p3), .val (.int p4), .val (.int p5), .val (.int p6), .val (.int av), .val (.int bv), .val (.int cv), .val (.int dv), .val (.int sv), .val (.int tv), .val (.int lo), .val (.int hi), .val (.ref b3), .val (.ref b9), .val (.ref b14), .val (.ref b24), .unset, .unset, .unset, .unset] [(.long (own_P av bv cv dv hi - own_P av bv cv dv lo).toInt64)]))
  generalize hcf : (own_P av bv cv dv hi - own_P av bv cv dv lo).toInt64 = cf
  show own_Go _ _ _ _ (T26.setTop (mkF m 189 #[.val (.int p1), .val (.int p2), .val (.int p3), .val (.int p4), .val (.int p5), .val (.int p6), .val (.int av), .val (.int bv), .val (.int cv), .val (.int dv), .val (.int sv), .val (.int tv), .val (.int lo), .val (.int hi), .val (.ref b3), .val (.ref b9), .val (.ref b14), .val (.ref b24), .unset, .unset, .unset, .unset] [(.long cf)]))
  refine own_go (fun _ kont => XS.lstore X26.here hx rfl (hb hby at_189) rfl (l' := #[.val (.int p1), .val (.int p2), .val (.int p3), .val (.int p4), .val (.int p5), .val (.int p6), .val (.int av), .val (.int bv), .val (.int cv), .val (.int dv), .val (.int sv), .val (.int tv), .val (.int lo), .val (.int hi), .val (.ref b3), .val (.ref b9), .val (.ref b14), .val (.ref b24), .val (.long cf), .second, .unset, .unset]) rfl kont) ?_
  show own_Go _ _ _ _ (T26.setTop (mkF m 191 #[.val (.int p1), .val (.int p2), .val (.int p3), .val (.int p4), .val (.int p5), .val (.int p6), .val (.int av), .val (.int bv), .val (.int cv), .val (.int dv), .val (.int sv), .val (.int tv), .val (.int lo), .val (.int hi), .val (.ref b3), .val (.ref b9), .val (.ref b14), .val (.ref b24), .val (.long cf), .second, .unset, .unset] []))
  refine own_go (fun _ kont => XS.lconst X26.here hx rfl (hb hby at_191) kont) ?_
  show own_Go _ _ _ _ (T26.setTop (mkF m 192 #[.val (.int p1), .val (.int p2), .val (.int p3), .val (.int p4), .val (.int p5), .val (.int p6), .val (.int av), .val (.int bv), .val (.int cv), .val (.int dv), .val (.int sv), .val (.int tv), .val (.int lo), .val (.int hi), .val (.ref b3), .val (.ref b9), .val (.ref b14), .val (.ref b24), .val (.long cf), .second, .unset, .unset] [(.long (0 : Int64))]))
  refine own_go (fun _ kont => XS.lstore X26.here hx rfl (hb hby at_192) rfl (l' := #[.val (.int p1), .val (.int p2), .val (.int p3), .val (.int p4), .val (.int p5), .val (.int p6), .val (.int av), .val (.int bv), .val (.int cv), .val (.int dv), .val (.int sv), .val (.int tv), .val (.int lo), .val (.int hi), .val (.ref b3), .val (.ref b9), .val (.ref b14), .val (.ref b24), .val (.long cf), .second, .val (.long (0 : Int64)), .second]) rfl kont) ?_
  show own_Go _ _ _ _ (T26.setTop (mkF m 194 #[.val (.int p1), .val (.int p2), .val (.int p3), .val (.int p4), .val (.int p5), .val (.int p6), .val (.int av), .val (.int bv), .val (.int cv), .val (.int dv), .val (.int sv), .val (.int tv), .val (.int lo), .val (.int hi), .val (.ref b3), .val (.ref b9), .val (.ref b14), .val (.ref b24), .val (.long cf), .second, .val (.long (0 : Int64)), .second] []))
  refine own_go (fun _ kont => XS.iload X26.here hx rfl (hb hby at_194) rfl kont) ?_
  show own_Go _ _ _ _ (T26.setTop (mkF m 196 #[.val (.int p1), .val (.int p2), .val (.int p3), .val (.int p4), .val (.int p5), .val (.int p6), .val (.int av), .val (.int bv), .val (.int cv), .val (.int dv), .val (.int sv), .val (.int tv), .val (.int lo), .val (.int hi), .val (.ref b3), .val (.ref b9), .val (.ref b14), .val (.ref b24), .val (.long cf), .second, .val (.long (0 : Int64)), .second] [(.int lo)]))
  have J213 : own_Go p.tables e below (own_End s below (fun v h L => v = some (.int 1) ∧ Fr n0 L) room_1.cells room_1.slots) (T26.setTop (mkF m 213 #[.val (.int p1), .val (.int p2), .val (.int p3), .val (.int p4), .val (.int p5), .val (.int p6), .val (.int av), .val (.int bv), .val (.int cv), .val (.int dv), .val (.int sv), .val (.int tv), .val (.int lo), .val (.int hi), .val (.ref b3), .val (.ref b9), .val (.ref b14), .val (.ref b24), .val (.long cf), .second, .val (.long (own_acc lo hi (0 : Int32) (0 : Int64) av)), .second] [])) := by
    generalize hy0 : (own_acc lo hi (0 : Int32) (0 : Int64) av) = y0
    show own_Go _ _ _ _ (T26.setTop (mkF m 213 #[.val (.int p1), .val (.int p2), .val (.int p3), .val (.int p4), .val (.int p5), .val (.int p6), .val (.int av), .val (.int bv), .val (.int cv), .val (.int dv), .val (.int sv), .val (.int tv), .val (.int lo), .val (.int hi), .val (.ref b3), .val (.ref b9), .val (.ref b14), .val (.ref b24), .val (.long cf), .second, .val (.long y0), .second] []))
    refine own_go (fun _ kont => XS.iload X26.here hx rfl (hb hby at_213) rfl kont) ?_
    show own_Go _ _ _ _ (T26.setTop (mkF m 215 #[.val (.int p1), .val (.int p2), .val (.int p3), .val (.int p4), .val (.int p5), .val (.int p6), .val (.int av), .val (.int bv), .val (.int cv), .val (.int dv), .val (.int sv), .val (.int tv), .val (.int lo), .val (.int hi), .val (.ref b3), .val (.ref b9), .val (.ref b14), .val (.ref b24), .val (.long cf), .second, .val (.long y0), .second] [(.int lo)]))
    refine own_go (fun _ kont => XS.iconst X26.here hx rfl (hb hby at_215) kont) ?_
    show own_Go _ _ _ _ (T26.setTop (mkF m 216 #[.val (.int p1), .val (.int p2), .val (.int p3), .val (.int p4), .val (.int p5), .val (.int p6), .val (.int av), .val (.int bv), .val (.int cv), .val (.int dv), .val (.int sv), .val (.int tv), .val (.int lo), .val (.int hi), .val (.ref b3), .val (.ref b9), .val (.ref b14), .val (.ref b24), .val (.long cf), .second, .val (.long y0), .second] [(.int (1 : Int32)), (.int lo)]))
    have J233 : own_Go p.tables e below (own_End s below (fun v h L => v = some (.int 1) ∧ Fr n0 L) room_1.cells room_1.slots) (T26.setTop (mkF m 233 #[.val (.int p1), .val (.int p2), .val (.int p3), .val (.int p4), .val (.int p5), .val (.int p6), .val (.int av), .val (.int bv), .val (.int cv), .val (.int dv), .val (.int sv), .val (.int tv), .val (.int lo), .val (.int hi), .val (.ref b3), .val (.ref b9), .val (.ref b14), .val (.ref b24), .val (.long cf), .second, .val (.long (own_acc lo hi (1 : Int32) y0 bv)), .second] [])) := by
      generalize hy1 : (own_acc lo hi (1 : Int32) y0 bv) = y1
      show own_Go _ _ _ _ (T26.setTop (mkF m 233 #[.val (.int p1), .val (.int p2), .val (.int p3), .val (.int p4), .val (.int p5), .val (.int p6), .val (.int av), .val (.int bv), .val (.int cv), .val (.int dv), .val (.int sv), .val (.int tv), .val (.int lo), .val (.int hi), .val (.ref b3), .val (.ref b9), .val (.ref b14), .val (.ref b24), .val (.long cf), .second, .val (.long y1), .second] []))
      refine own_go (fun _ kont => XS.iload X26.here hx rfl (hb hby at_233) rfl kont) ?_
      show own_Go _ _ _ _ (T26.setTop (mkF m 235 #[.val (.int p1), .val (.int p2), .val (.int p3), .val (.int p4), .val (.int p5), .val (.int p6), .val (.int av), .val (.int bv), .val (.int cv), .val (.int dv), .val (.int sv), .val (.int tv), .val (.int lo), .val (.int hi), .val (.ref b3), .val (.ref b9), .val (.ref b14), .val (.ref b24), .val (.long cf), .second, .val (.long y1), .second] [(.int lo)]))
      refine own_go (fun _ kont => XS.iconst X26.here hx rfl (hb hby at_235) kont) ?_
      show own_Go _ _ _ _ (T26.setTop (mkF m 236 #[.val (.int p1), .val (.int p2), .val (.int p3), .val (.int p4), .val (.int p5), .val (.int p6), .val (.int av), .val (.int bv), .val (.int cv), .val (.int dv), .val (.int sv), .val (.int tv), .val (.int lo), .val (.int hi), .val (.ref b3), .val (.ref b9), .val (.ref b14), .val (.ref b24), .val (.long cf), .second, .val (.long y1), .second] [(.int (2 : Int32)), (.int lo)]))
      have J253 : own_Go p.tables e below (own_End s below (fun v h L => v = some (.int 1) ∧ Fr n0 L) room_1.cells room_1.slots) (T26.setTop (mkF m 253 #[.val (.int p1), .val (.int p2), .val (.int p3), .val (.int p4), .val (.int p5), .val (.int p6), .val (.int av), .val (.int bv), .val (.int cv), .val (.int dv), .val (.int sv), .val (.int tv), .val (.int lo), .val (.int hi), .val (.ref b3), .val (.ref b9), .val (.ref b14), .val (.ref b24), .val (.long cf), .second, .val (.long (own_acc lo hi (2 : Int32) y1 cv)), .second] [])) := by
        generalize hy2 : (own_acc lo hi (2 : Int32) y1 cv) = y2
        show own_Go _ _ _ _ (T26.setTop (mkF m 253 #[.val (.int p1), .val (.int p2), .val (.int p3), .val (.int p4), .val (.int p5), .val (.int p6), .val (.int av), .val (.int bv), .val (.int cv), .val (.int dv), .val (.int sv), .val (.int tv), .val (.int lo), .val (.int hi), .val (.ref b3), .val (.ref b9), .val (.ref b14), .val (.ref b24), .val (.long cf), .second, .val (.long y2), .second] []))
        refine own_go (fun _ kont => XS.iload X26.here hx rfl (hb hby at_253) rfl kont) ?_
        show own_Go _ _ _ _ (T26.setTop (mkF m 255 #[.val (.int p1), .val (.int p2), .val (.int p3), .val (.int p4), .val (.int p5), .val (.int p6), .val (.int av), .val (.int bv), .val (.int cv), .val (.int dv), .val (.int sv), .val (.int tv), .val (.int lo), .val (.int hi), .val (.ref b3), .val (.ref b9), .val (.ref b14), .val (.ref b24), .val (.long cf), .second, .val (.long y2), .second] [(.int lo)]))
        refine own_go (fun _ kont => XS.iconst X26.here hx rfl (hb hby at_255) kont) ?_
        show own_Go _ _ _ _ (T26.setTop (mkF m 256 #[.val (.int p1), .val (.int p2), .val (.int p3), .val (.int p4), .val (.int p5), .val (.int p6), .val (.int av), .val (.int bv), .val (.int cv), .val (.int dv), .val (.int sv), .val (.int tv), .val (.int lo), .val (.int hi), .val (.ref b3), .val (.ref b9), .val (.ref b14), .val (.ref b24), .val (.long cf), .second, .val (.long y2), .second] [(.int (3 : Int32)), (.int lo)]))
        have J273 : own_Go p.tables e below (own_End s below (fun v h L => v = some (.int 1) ∧ Fr n0 L) room_1.cells room_1.slots) (T26.setTop (mkF m 273 #[.val (.int p1), .val (.int p2), .val (.int p3), .val (.int p4), .val (.int p5), .val (.int p6), .val (.int av), .val (.int bv), .val (.int cv), .val (.int dv), .val (.int sv), .val (.int tv), .val (.int lo), .val (.int hi), .val (.ref b3), .val (.ref b9), .val (.ref b14), .val (.ref b24), .val (.long cf), .second, .val (.long (own_acc lo hi (3 : Int32) y2 dv)), .second] [])) := by
          generalize hy3 : (own_acc lo hi (3 : Int32) y2 dv) = y3
          show own_Go _ _ _ _ (T26.setTop (mkF m 273 #[.val (.int p1), .val (.int p2), .val (.int p3), .val (.int p4), .val (.int p5), .val (.int p6), .val (.int av), .val (.int bv), .val (.int cv), .val (.int dv), .val (.int sv), .val (.int tv), .val (.int lo), .val (.int hi), .val (.ref b3), .val (.ref b9), .val (.ref b14), .val (.ref b24), .val (.long cf), .second, .val (.long y3), .second] []))
          refine own_go (fun _ kont => XS.lload X26.here hx rfl (hb hby at_273) rfl kont) ?_
          show own_Go _ _ _ _ (T26.setTop (mkF m 275 #[.val (.int p1), .val (.int p2), .val (.int p3), .val (.int p4), .val (.int p5), .val (.int p6), .val (.int av), .val (.int bv), .val (.int cv), .val (.int dv), .val (.int sv), .val (.int tv), .val (.int lo), .val (.int hi), .val (.ref b3), .val (.ref b9), .val (.ref b14), .val (.ref b24), .val (.long cf), .second, .val (.long y3), .second] [(.long cf)]))
          refine own_go (fun _ kont => XS.lload X26.here hx rfl (hb hby at_275) rfl kont) ?_
          show own_Go _ _ _ _ (T26.setTop (mkF m 277 #[.val (.int p1), .val (.int p2), .val (.int p3), .val (.int p4), .val (.int p5), .val (.int p6), .val (.int av), .val (.int bv), .val (.int cv), .val (.int dv), .val (.int sv), .val (.int tv), .val (.int lo), .val (.int hi), .val (.ref b3), .val (.ref b9), .val (.ref b14), .val (.ref b24), .val (.long cf), .second, .val (.long y3), .second] [(.long y3), (.long cf)]))
          refine own_go (fun _ kont => XS.lcmp X26.here hx rfl (hb hby at_277) rfl kont) ?_
          show own_Go _ _ _ _ (T26.setTop (mkF m 278 #[.val (.int p1), .val (.int p2), .val (.int p3), .val (.int p4), .val (.int p5), .val (.int p6), .val (.int av), .val (.int bv), .val (.int cv), .val (.int dv), .val (.int sv), .val (.int tv), .val (.int lo), .val (.int hi), .val (.ref b3), .val (.ref b9), .val (.ref b14), .val (.ref b24), .val (.long cf), .second, .val (.long y3), .second] [(.int (lcmpW cf y3))]))
          refine own_go (fun _ kont => XS.ifNo X26.here hx rfl (hb hby at_278) rfl ((if0 _ _).trans (teq ((lw_eq _ _).mpr (by rw [← hcf, ← hy3, ← hy2, ← hy1, ← hy0]; exact own_fin av1 av2 bv1 bv2 cv1 cv2 dv1 dv2 l1 l2 l3))).2) kont) ?_
          show own_Go _ _ _ _ (T26.setTop (mkF m 281 #[.val (.int p1), .val (.int p2), .val (.int p3), .val (.int p4), .val (.int p5), .val (.int p6), .val (.int av), .val (.int bv), .val (.int cv), .val (.int dv), .val (.int sv), .val (.int tv), .val (.int lo), .val (.int hi), .val (.ref b3), .val (.ref b9), .val (.ref b14), .val (.ref b24), .val (.long cf), .second, .val (.long y3), .second] []))
          refine own_go (fun _ kont => XS.iconst X26.here hx rfl (hb hby at_281) kont) ?_
          show own_Go _ _ _ _ (T26.setTop (mkF m 282 #[.val (.int p1), .val (.int p2), .val (.int p3), .val (.int p4), .val (.int p5), .val (.int p6), .val (.int av), .val (.int bv), .val (.int cv), .val (.int dv), .val (.int sv), .val (.int tv), .val (.int lo), .val (.int hi), .val (.ref b3), .val (.ref b9), .val (.ref b14), .val (.ref b24), .val (.long cf), .second, .val (.long y3), .second] [(.int (1 : Int32))]))
          refine own_go (fun _ kont => XS.goto X26.here hx rfl (pc0 := 282) (pc' := 286) rfl (hb hby at_282) (by decide) (by decide) kont) ?_
          show own_Go _ _ _ _ (T26.setTop (mkF m 286 #[.val (.int p1), .val (.int p2), .val (.int p3), .val (.int p4), .val (.int p5), .val (.int p6), .val (.int av), .val (.int bv), .val (.int cv), .val (.int dv), .val (.int sv), .val (.int tv), .val (.int lo), .val (.int hi), .val (.ref b3), .val (.ref b9), .val (.ref b14), .val (.ref b24), .val (.long cf), .second, .val (.long y3), .second] [(.int (1 : Int32))]))
          refine own_ret X26 hlk (v := some (.int (1 : Int32))) (fun h => by rw [Bd.returns] at h; cases h) (fun fs hr => retN X26 hx (t := .boolean) Bd.returns (by simp) (hb hby at_286) hr) ?_ (by decide) (by decide)
          try rw [eq26]
          exact ⟨rfl, NF26⟩
        by_cases hA3 : (3 : Int32) < lo
        · have _h := hA3
          refine own_go (fun _ kont => XS.icmpYes X26.here hx rfl (pc0 := 256) (pc' := 273) rfl (hb hby at_256) rfl (tlt hA3).2.2.1 (by decide) (by decide) kont) ?_
          show own_Go _ _ _ _ (T26.setTop (mkF m 273 #[.val (.int p1), .val (.int p2), .val (.int p3), .val (.int p4), .val (.int p5), .val (.int p6), .val (.int av), .val (.int bv), .val (.int cv), .val (.int dv), .val (.int sv), .val (.int tv), .val (.int lo), .val (.int hi), .val (.ref b3), .val (.ref b9), .val (.ref b14), .val (.ref b24), .val (.long cf), .second, .val (.long y2), .second] []))
          rw [show (own_acc lo hi (3 : Int32) y2 dv) = y2 from by simp [own_acc, hA3]] at J273
          exact J273
        · have _h := hA3
          refine own_go (fun _ kont => XS.icmpNo X26.here hx rfl (hb hby at_256) rfl (flt hA3).2.2.1 kont) ?_
          show own_Go _ _ _ _ (T26.setTop (mkF m 259 #[.val (.int p1), .val (.int p2), .val (.int p3), .val (.int p4), .val (.int p5), .val (.int p6), .val (.int av), .val (.int bv), .val (.int cv), .val (.int dv), .val (.int sv), .val (.int tv), .val (.int lo), .val (.int hi), .val (.ref b3), .val (.ref b9), .val (.ref b14), .val (.ref b24), .val (.long cf), .second, .val (.long y2), .second] []))
          refine own_go (fun _ kont => XS.iconst X26.here hx rfl (hb hby at_259) kont) ?_
          show own_Go _ _ _ _ (T26.setTop (mkF m 260 #[.val (.int p1), .val (.int p2), .val (.int p3), .val (.int p4), .val (.int p5), .val (.int p6), .val (.int av), .val (.int bv), .val (.int cv), .val (.int dv), .val (.int sv), .val (.int tv), .val (.int lo), .val (.int hi), .val (.ref b3), .val (.ref b9), .val (.ref b14), .val (.ref b24), .val (.long cf), .second, .val (.long y2), .second] [(.int (3 : Int32))]))
          refine own_go (fun _ kont => XS.iload X26.here hx rfl (hb hby at_260) rfl kont) ?_
          show own_Go _ _ _ _ (T26.setTop (mkF m 262 #[.val (.int p1), .val (.int p2), .val (.int p3), .val (.int p4), .val (.int p5), .val (.int p6), .val (.int av), .val (.int bv), .val (.int cv), .val (.int dv), .val (.int sv), .val (.int tv), .val (.int lo), .val (.int hi), .val (.ref b3), .val (.ref b9), .val (.ref b14), .val (.ref b24), .val (.long cf), .second, .val (.long y2), .second] [(.int hi), (.int (3 : Int32))]))
          by_cases hB3 : (3 : Int32) < hi
          · have _h := hB3
            refine own_go (fun _ kont => XS.icmpNo X26.here hx rfl (hb hby at_262) rfl (tlt hB3).2.1 kont) ?_
            show own_Go _ _ _ _ (T26.setTop (mkF m 265 #[.val (.int p1), .val (.int p2), .val (.int p3), .val (.int p4), .val (.int p5), .val (.int p6), .val (.int av), .val (.int bv), .val (.int cv), .val (.int dv), .val (.int sv), .val (.int tv), .val (.int lo), .val (.int hi), .val (.ref b3), .val (.ref b9), .val (.ref b14), .val (.ref b24), .val (.long cf), .second, .val (.long y2), .second] []))
            refine own_go (fun _ kont => XS.lload X26.here hx rfl (hb hby at_265) rfl kont) ?_
            show own_Go _ _ _ _ (T26.setTop (mkF m 267 #[.val (.int p1), .val (.int p2), .val (.int p3), .val (.int p4), .val (.int p5), .val (.int p6), .val (.int av), .val (.int bv), .val (.int cv), .val (.int dv), .val (.int sv), .val (.int tv), .val (.int lo), .val (.int hi), .val (.ref b3), .val (.ref b9), .val (.ref b14), .val (.ref b24), .val (.long cf), .second, .val (.long y2), .second] [(.long y2)]))
            refine own_go (fun _ kont => XS.iload X26.here hx rfl (hb hby at_267) rfl kont) ?_
            show own_Go _ _ _ _ (T26.setTop (mkF m 269 #[.val (.int p1), .val (.int p2), .val (.int p3), .val (.int p4), .val (.int p5), .val (.int p6), .val (.int av), .val (.int bv), .val (.int cv), .val (.int dv), .val (.int sv), .val (.int tv), .val (.int lo), .val (.int hi), .val (.ref b3), .val (.ref b9), .val (.ref b14), .val (.ref b24), .val (.long cf), .second, .val (.long y2), .second] [(.int dv), (.long y2)]))
            refine own_go (fun _ kont => XS.i2l X26.here hx rfl (hb hby at_269) rfl kont) ?_
            show own_Go _ _ _ _ (T26.setTop (mkF m 270 #[.val (.int p1), .val (.int p2), .val (.int p3), .val (.int p4), .val (.int p5), .val (.int p6), .val (.int av), .val (.int bv), .val (.int cv), .val (.int dv), .val (.int sv), .val (.int tv), .val (.int lo), .val (.int hi), .val (.ref b3), .val (.ref b9), .val (.ref b14), .val (.ref b24), .val (.long cf), .second, .val (.long y2), .second] [(.long (dv.toInt64)), (.long y2)]))
            refine own_go (fun _ kont => XS.ladd X26.here hx rfl (hb hby at_270) rfl kont) ?_
            show own_Go _ _ _ _ (T26.setTop (mkF m 271 #[.val (.int p1), .val (.int p2), .val (.int p3), .val (.int p4), .val (.int p5), .val (.int p6), .val (.int av), .val (.int bv), .val (.int cv), .val (.int dv), .val (.int sv), .val (.int tv), .val (.int lo), .val (.int hi), .val (.ref b3), .val (.ref b9), .val (.ref b14), .val (.ref b24), .val (.long cf), .second, .val (.long y2), .second] [(.long (y2 + (dv.toInt64)))]))
            refine own_go (fun _ kont => XS.lstore X26.here hx rfl (hb hby at_271) rfl (l' := #[.val (.int p1), .val (.int p2), .val (.int p3), .val (.int p4), .val (.int p5), .val (.int p6), .val (.int av), .val (.int bv), .val (.int cv), .val (.int dv), .val (.int sv), .val (.int tv), .val (.int lo), .val (.int hi), .val (.ref b3), .val (.ref b9), .val (.ref b14), .val (.ref b24), .val (.long cf), .second, .val (.long (y2 + (dv.toInt64))), .second]) rfl kont) ?_
            show own_Go _ _ _ _ (T26.setTop (mkF m 273 #[.val (.int p1), .val (.int p2), .val (.int p3), .val (.int p4), .val (.int p5), .val (.int p6), .val (.int av), .val (.int bv), .val (.int cv), .val (.int dv), .val (.int sv), .val (.int tv), .val (.int lo), .val (.int hi), .val (.ref b3), .val (.ref b9), .val (.ref b14), .val (.ref b24), .val (.long cf), .second, .val (.long (y2 + (dv.toInt64))), .second] []))
            rw [show (own_acc lo hi (3 : Int32) y2 dv) = (y2 + (dv.toInt64)) from by simp [own_acc, hA3, hB3]] at J273
            exact J273
          · have _h := hB3
            refine own_go (fun _ kont => XS.icmpYes X26.here hx rfl (pc0 := 262) (pc' := 273) rfl (hb hby at_262) rfl (flt hB3).2.1 (by decide) (by decide) kont) ?_
            show own_Go _ _ _ _ (T26.setTop (mkF m 273 #[.val (.int p1), .val (.int p2), .val (.int p3), .val (.int p4), .val (.int p5), .val (.int p6), .val (.int av), .val (.int bv), .val (.int cv), .val (.int dv), .val (.int sv), .val (.int tv), .val (.int lo), .val (.int hi), .val (.ref b3), .val (.ref b9), .val (.ref b14), .val (.ref b24), .val (.long cf), .second, .val (.long y2), .second] []))
            rw [show (own_acc lo hi (3 : Int32) y2 dv) = y2 from by simp [own_acc, hA3, hB3]] at J273
            exact J273
      by_cases hA2 : (2 : Int32) < lo
      · have _h := hA2
        refine own_go (fun _ kont => XS.icmpYes X26.here hx rfl (pc0 := 236) (pc' := 253) rfl (hb hby at_236) rfl (tlt hA2).2.2.1 (by decide) (by decide) kont) ?_
        show own_Go _ _ _ _ (T26.setTop (mkF m 253 #[.val (.int p1), .val (.int p2), .val (.int p3), .val (.int p4), .val (.int p5), .val (.int p6), .val (.int av), .val (.int bv), .val (.int cv), .val (.int dv), .val (.int sv), .val (.int tv), .val (.int lo), .val (.int hi), .val (.ref b3), .val (.ref b9), .val (.ref b14), .val (.ref b24), .val (.long cf), .second, .val (.long y1), .second] []))
        rw [show (own_acc lo hi (2 : Int32) y1 cv) = y1 from by simp [own_acc, hA2]] at J253
        exact J253
      · have _h := hA2
        refine own_go (fun _ kont => XS.icmpNo X26.here hx rfl (hb hby at_236) rfl (flt hA2).2.2.1 kont) ?_
        show own_Go _ _ _ _ (T26.setTop (mkF m 239 #[.val (.int p1), .val (.int p2), .val (.int p3), .val (.int p4), .val (.int p5), .val (.int p6), .val (.int av), .val (.int bv), .val (.int cv), .val (.int dv), .val (.int sv), .val (.int tv), .val (.int lo), .val (.int hi), .val (.ref b3), .val (.ref b9), .val (.ref b14), .val (.ref b24), .val (.long cf), .second, .val (.long y1), .second] []))
        refine own_go (fun _ kont => XS.iconst X26.here hx rfl (hb hby at_239) kont) ?_
        show own_Go _ _ _ _ (T26.setTop (mkF m 240 #[.val (.int p1), .val (.int p2), .val (.int p3), .val (.int p4), .val (.int p5), .val (.int p6), .val (.int av), .val (.int bv), .val (.int cv), .val (.int dv), .val (.int sv), .val (.int tv), .val (.int lo), .val (.int hi), .val (.ref b3), .val (.ref b9), .val (.ref b14), .val (.ref b24), .val (.long cf), .second, .val (.long y1), .second] [(.int (2 : Int32))]))
        refine own_go (fun _ kont => XS.iload X26.here hx rfl (hb hby at_240) rfl kont) ?_
        show own_Go _ _ _ _ (T26.setTop (mkF m 242 #[.val (.int p1), .val (.int p2), .val (.int p3), .val (.int p4), .val (.int p5), .val (.int p6), .val (.int av), .val (.int bv), .val (.int cv), .val (.int dv), .val (.int sv), .val (.int tv), .val (.int lo), .val (.int hi), .val (.ref b3), .val (.ref b9), .val (.ref b14), .val (.ref b24), .val (.long cf), .second, .val (.long y1), .second] [(.int hi), (.int (2 : Int32))]))
        by_cases hB2 : (2 : Int32) < hi
        · have _h := hB2
          refine own_go (fun _ kont => XS.icmpNo X26.here hx rfl (hb hby at_242) rfl (tlt hB2).2.1 kont) ?_
          show own_Go _ _ _ _ (T26.setTop (mkF m 245 #[.val (.int p1), .val (.int p2), .val (.int p3), .val (.int p4), .val (.int p5), .val (.int p6), .val (.int av), .val (.int bv), .val (.int cv), .val (.int dv), .val (.int sv), .val (.int tv), .val (.int lo), .val (.int hi), .val (.ref b3), .val (.ref b9), .val (.ref b14), .val (.ref b24), .val (.long cf), .second, .val (.long y1), .second] []))
          refine own_go (fun _ kont => XS.lload X26.here hx rfl (hb hby at_245) rfl kont) ?_
          show own_Go _ _ _ _ (T26.setTop (mkF m 247 #[.val (.int p1), .val (.int p2), .val (.int p3), .val (.int p4), .val (.int p5), .val (.int p6), .val (.int av), .val (.int bv), .val (.int cv), .val (.int dv), .val (.int sv), .val (.int tv), .val (.int lo), .val (.int hi), .val (.ref b3), .val (.ref b9), .val (.ref b14), .val (.ref b24), .val (.long cf), .second, .val (.long y1), .second] [(.long y1)]))
          refine own_go (fun _ kont => XS.iload X26.here hx rfl (hb hby at_247) rfl kont) ?_
          show own_Go _ _ _ _ (T26.setTop (mkF m 249 #[.val (.int p1), .val (.int p2), .val (.int p3), .val (.int p4), .val (.int p5), .val (.int p6), .val (.int av), .val (.int bv), .val (.int cv), .val (.int dv), .val (.int sv), .val (.int tv), .val (.int lo), .val (.int hi), .val (.ref b3), .val (.ref b9), .val (.ref b14), .val (.ref b24), .val (.long cf), .second, .val (.long y1), .second] [(.int cv), (.long y1)]))
          refine own_go (fun _ kont => XS.i2l X26.here hx rfl (hb hby at_249) rfl kont) ?_
          show own_Go _ _ _ _ (T26.setTop (mkF m 250 #[.val (.int p1), .val (.int p2), .val (.int p3), .val (.int p4), .val (.int p5), .val (.int p6), .val (.int av), .val (.int bv), .val (.int cv), .val (.int dv), .val (.int sv), .val (.int tv), .val (.int lo), .val (.int hi), .val (.ref b3), .val (.ref b9), .val (.ref b14), .val (.ref b24), .val (.long cf), .second, .val (.long y1), .second] [(.long (cv.toInt64)), (.long y1)]))
          refine own_go (fun _ kont => XS.ladd X26.here hx rfl (hb hby at_250) rfl kont) ?_
          show own_Go _ _ _ _ (T26.setTop (mkF m 251 #[.val (.int p1), .val (.int p2), .val (.int p3), .val (.int p4), .val (.int p5), .val (.int p6), .val (.int av), .val (.int bv), .val (.int cv), .val (.int dv), .val (.int sv), .val (.int tv), .val (.int lo), .val (.int hi), .val (.ref b3), .val (.ref b9), .val (.ref b14), .val (.ref b24), .val (.long cf), .second, .val (.long y1), .second] [(.long (y1 + (cv.toInt64)))]))
          refine own_go (fun _ kont => XS.lstore X26.here hx rfl (hb hby at_251) rfl (l' := #[.val (.int p1), .val (.int p2), .val (.int p3), .val (.int p4), .val (.int p5), .val (.int p6), .val (.int av), .val (.int bv), .val (.int cv), .val (.int dv), .val (.int sv), .val (.int tv), .val (.int lo), .val (.int hi), .val (.ref b3), .val (.ref b9), .val (.ref b14), .val (.ref b24), .val (.long cf), .second, .val (.long (y1 + (cv.toInt64))), .second]) rfl kont) ?_
          show own_Go _ _ _ _ (T26.setTop (mkF m 253 #[.val (.int p1), .val (.int p2), .val (.int p3), .val (.int p4), .val (.int p5), .val (.int p6), .val (.int av), .val (.int bv), .val (.int cv), .val (.int dv), .val (.int sv), .val (.int tv), .val (.int lo), .val (.int hi), .val (.ref b3), .val (.ref b9), .val (.ref b14), .val (.ref b24), .val (.long cf), .second, .val (.long (y1 + (cv.toInt64))), .second] []))
          rw [show (own_acc lo hi (2 : Int32) y1 cv) = (y1 + (cv.toInt64)) from by simp [own_acc, hA2, hB2]] at J253
          exact J253
        · have _h := hB2
          refine own_go (fun _ kont => XS.icmpYes X26.here hx rfl (pc0 := 242) (pc' := 253) rfl (hb hby at_242) rfl (flt hB2).2.1 (by decide) (by decide) kont) ?_
          show own_Go _ _ _ _ (T26.setTop (mkF m 253 #[.val (.int p1), .val (.int p2), .val (.int p3), .val (.int p4), .val (.int p5), .val (.int p6), .val (.int av), .val (.int bv), .val (.int cv), .val (.int dv), .val (.int sv), .val (.int tv), .val (.int lo), .val (.int hi), .val (.ref b3), .val (.ref b9), .val (.ref b14), .val (.ref b24), .val (.long cf), .second, .val (.long y1), .second] []))
          rw [show (own_acc lo hi (2 : Int32) y1 cv) = y1 from by simp [own_acc, hA2, hB2]] at J253
          exact J253
    by_cases hA1 : (1 : Int32) < lo
    · have _h := hA1
      refine own_go (fun _ kont => XS.icmpYes X26.here hx rfl (pc0 := 216) (pc' := 233) rfl (hb hby at_216) rfl (tlt hA1).2.2.1 (by decide) (by decide) kont) ?_
      show own_Go _ _ _ _ (T26.setTop (mkF m 233 #[.val (.int p1), .val (.int p2), .val (.int p3), .val (.int p4), .val (.int p5), .val (.int p6), .val (.int av), .val (.int bv), .val (.int cv), .val (.int dv), .val (.int sv), .val (.int tv), .val (.int lo), .val (.int hi), .val (.ref b3), .val (.ref b9), .val (.ref b14), .val (.ref b24), .val (.long cf), .second, .val (.long y0), .second] []))
      rw [show (own_acc lo hi (1 : Int32) y0 bv) = y0 from by simp [own_acc, hA1]] at J233
      exact J233
    · have _h := hA1
      refine own_go (fun _ kont => XS.icmpNo X26.here hx rfl (hb hby at_216) rfl (flt hA1).2.2.1 kont) ?_
      show own_Go _ _ _ _ (T26.setTop (mkF m 219 #[.val (.int p1), .val (.int p2), .val (.int p3), .val (.int p4), .val (.int p5), .val (.int p6), .val (.int av), .val (.int bv), .val (.int cv), .val (.int dv), .val (.int sv), .val (.int tv), .val (.int lo), .val (.int hi), .val (.ref b3), .val (.ref b9), .val (.ref b14), .val (.ref b24), .val (.long cf), .second, .val (.long y0), .second] []))
      refine own_go (fun _ kont => XS.iconst X26.here hx rfl (hb hby at_219) kont) ?_
      show own_Go _ _ _ _ (T26.setTop (mkF m 220 #[.val (.int p1), .val (.int p2), .val (.int p3), .val (.int p4), .val (.int p5), .val (.int p6), .val (.int av), .val (.int bv), .val (.int cv), .val (.int dv), .val (.int sv), .val (.int tv), .val (.int lo), .val (.int hi), .val (.ref b3), .val (.ref b9), .val (.ref b14), .val (.ref b24), .val (.long cf), .second, .val (.long y0), .second] [(.int (1 : Int32))]))
      refine own_go (fun _ kont => XS.iload X26.here hx rfl (hb hby at_220) rfl kont) ?_
      show own_Go _ _ _ _ (T26.setTop (mkF m 222 #[.val (.int p1), .val (.int p2), .val (.int p3), .val (.int p4), .val (.int p5), .val (.int p6), .val (.int av), .val (.int bv), .val (.int cv), .val (.int dv), .val (.int sv), .val (.int tv), .val (.int lo), .val (.int hi), .val (.ref b3), .val (.ref b9), .val (.ref b14), .val (.ref b24), .val (.long cf), .second, .val (.long y0), .second] [(.int hi), (.int (1 : Int32))]))
      by_cases hB1 : (1 : Int32) < hi
      · have _h := hB1
        refine own_go (fun _ kont => XS.icmpNo X26.here hx rfl (hb hby at_222) rfl (tlt hB1).2.1 kont) ?_
        show own_Go _ _ _ _ (T26.setTop (mkF m 225 #[.val (.int p1), .val (.int p2), .val (.int p3), .val (.int p4), .val (.int p5), .val (.int p6), .val (.int av), .val (.int bv), .val (.int cv), .val (.int dv), .val (.int sv), .val (.int tv), .val (.int lo), .val (.int hi), .val (.ref b3), .val (.ref b9), .val (.ref b14), .val (.ref b24), .val (.long cf), .second, .val (.long y0), .second] []))
        refine own_go (fun _ kont => XS.lload X26.here hx rfl (hb hby at_225) rfl kont) ?_
        show own_Go _ _ _ _ (T26.setTop (mkF m 227 #[.val (.int p1), .val (.int p2), .val (.int p3), .val (.int p4), .val (.int p5), .val (.int p6), .val (.int av), .val (.int bv), .val (.int cv), .val (.int dv), .val (.int sv), .val (.int tv), .val (.int lo), .val (.int hi), .val (.ref b3), .val (.ref b9), .val (.ref b14), .val (.ref b24), .val (.long cf), .second, .val (.long y0), .second] [(.long y0)]))
        refine own_go (fun _ kont => XS.iload X26.here hx rfl (hb hby at_227) rfl kont) ?_
        show own_Go _ _ _ _ (T26.setTop (mkF m 229 #[.val (.int p1), .val (.int p2), .val (.int p3), .val (.int p4), .val (.int p5), .val (.int p6), .val (.int av), .val (.int bv), .val (.int cv), .val (.int dv), .val (.int sv), .val (.int tv), .val (.int lo), .val (.int hi), .val (.ref b3), .val (.ref b9), .val (.ref b14), .val (.ref b24), .val (.long cf), .second, .val (.long y0), .second] [(.int bv), (.long y0)]))
        refine own_go (fun _ kont => XS.i2l X26.here hx rfl (hb hby at_229) rfl kont) ?_
        show own_Go _ _ _ _ (T26.setTop (mkF m 230 #[.val (.int p1), .val (.int p2), .val (.int p3), .val (.int p4), .val (.int p5), .val (.int p6), .val (.int av), .val (.int bv), .val (.int cv), .val (.int dv), .val (.int sv), .val (.int tv), .val (.int lo), .val (.int hi), .val (.ref b3), .val (.ref b9), .val (.ref b14), .val (.ref b24), .val (.long cf), .second, .val (.long y0), .second] [(.long (bv.toInt64)), (.long y0)]))
        refine own_go (fun _ kont => XS.ladd X26.here hx rfl (hb hby at_230) rfl kont) ?_
        show own_Go _ _ _ _ (T26.setTop (mkF m 231 #[.val (.int p1), .val (.int p2), .val (.int p3), .val (.int p4), .val (.int p5), .val (.int p6), .val (.int av), .val (.int bv), .val (.int cv), .val (.int dv), .val (.int sv), .val (.int tv), .val (.int lo), .val (.int hi), .val (.ref b3), .val (.ref b9), .val (.ref b14), .val (.ref b24), .val (.long cf), .second, .val (.long y0), .second] [(.long (y0 + (bv.toInt64)))]))
        refine own_go (fun _ kont => XS.lstore X26.here hx rfl (hb hby at_231) rfl (l' := #[.val (.int p1), .val (.int p2), .val (.int p3), .val (.int p4), .val (.int p5), .val (.int p6), .val (.int av), .val (.int bv), .val (.int cv), .val (.int dv), .val (.int sv), .val (.int tv), .val (.int lo), .val (.int hi), .val (.ref b3), .val (.ref b9), .val (.ref b14), .val (.ref b24), .val (.long cf), .second, .val (.long (y0 + (bv.toInt64))), .second]) rfl kont) ?_
        show own_Go _ _ _ _ (T26.setTop (mkF m 233 #[.val (.int p1), .val (.int p2), .val (.int p3), .val (.int p4), .val (.int p5), .val (.int p6), .val (.int av), .val (.int bv), .val (.int cv), .val (.int dv), .val (.int sv), .val (.int tv), .val (.int lo), .val (.int hi), .val (.ref b3), .val (.ref b9), .val (.ref b14), .val (.ref b24), .val (.long cf), .second, .val (.long (y0 + (bv.toInt64))), .second] []))
        rw [show (own_acc lo hi (1 : Int32) y0 bv) = (y0 + (bv.toInt64)) from by simp [own_acc, hA1, hB1]] at J233
        exact J233
      · have _h := hB1
        refine own_go (fun _ kont => XS.icmpYes X26.here hx rfl (pc0 := 222) (pc' := 233) rfl (hb hby at_222) rfl (flt hB1).2.1 (by decide) (by decide) kont) ?_
        show own_Go _ _ _ _ (T26.setTop (mkF m 233 #[.val (.int p1), .val (.int p2), .val (.int p3), .val (.int p4), .val (.int p5), .val (.int p6), .val (.int av), .val (.int bv), .val (.int cv), .val (.int dv), .val (.int sv), .val (.int tv), .val (.int lo), .val (.int hi), .val (.ref b3), .val (.ref b9), .val (.ref b14), .val (.ref b24), .val (.long cf), .second, .val (.long y0), .second] []))
        rw [show (own_acc lo hi (1 : Int32) y0 bv) = y0 from by simp [own_acc, hA1, hB1]] at J233
        exact J233
  by_cases hA0 : (0 : Int32) < lo
  · have _h := hA0
    refine own_go (fun _ kont => XS.ifYes X26.here hx rfl (pc0 := 196) (pc' := 213) rfl (hb hby at_196) rfl ((if0 _ _).trans (tlt hA0).2.2.1) (by decide) (by decide) kont) ?_
    show own_Go _ _ _ _ (T26.setTop (mkF m 213 #[.val (.int p1), .val (.int p2), .val (.int p3), .val (.int p4), .val (.int p5), .val (.int p6), .val (.int av), .val (.int bv), .val (.int cv), .val (.int dv), .val (.int sv), .val (.int tv), .val (.int lo), .val (.int hi), .val (.ref b3), .val (.ref b9), .val (.ref b14), .val (.ref b24), .val (.long cf), .second, .val (.long (0 : Int64)), .second] []))
    rw [show (own_acc lo hi (0 : Int32) (0 : Int64) av) = (0 : Int64) from by simp [own_acc, hA0]] at J213
    exact J213
  · have _h := hA0
    refine own_go (fun _ kont => XS.ifNo X26.here hx rfl (hb hby at_196) rfl ((if0 _ _).trans (flt hA0).2.2.1) kont) ?_
    show own_Go _ _ _ _ (T26.setTop (mkF m 199 #[.val (.int p1), .val (.int p2), .val (.int p3), .val (.int p4), .val (.int p5), .val (.int p6), .val (.int av), .val (.int bv), .val (.int cv), .val (.int dv), .val (.int sv), .val (.int tv), .val (.int lo), .val (.int hi), .val (.ref b3), .val (.ref b9), .val (.ref b14), .val (.ref b24), .val (.long cf), .second, .val (.long (0 : Int64)), .second] []))
    refine own_go (fun _ kont => XS.iconst X26.here hx rfl (hb hby at_199) kont) ?_
    show own_Go _ _ _ _ (T26.setTop (mkF m 200 #[.val (.int p1), .val (.int p2), .val (.int p3), .val (.int p4), .val (.int p5), .val (.int p6), .val (.int av), .val (.int bv), .val (.int cv), .val (.int dv), .val (.int sv), .val (.int tv), .val (.int lo), .val (.int hi), .val (.ref b3), .val (.ref b9), .val (.ref b14), .val (.ref b24), .val (.long cf), .second, .val (.long (0 : Int64)), .second] [(.int (0 : Int32))]))
    refine own_go (fun _ kont => XS.iload X26.here hx rfl (hb hby at_200) rfl kont) ?_
    show own_Go _ _ _ _ (T26.setTop (mkF m 202 #[.val (.int p1), .val (.int p2), .val (.int p3), .val (.int p4), .val (.int p5), .val (.int p6), .val (.int av), .val (.int bv), .val (.int cv), .val (.int dv), .val (.int sv), .val (.int tv), .val (.int lo), .val (.int hi), .val (.ref b3), .val (.ref b9), .val (.ref b14), .val (.ref b24), .val (.long cf), .second, .val (.long (0 : Int64)), .second] [(.int hi), (.int (0 : Int32))]))
    by_cases hB0 : (0 : Int32) < hi
    · have _h := hB0
      refine own_go (fun _ kont => XS.icmpNo X26.here hx rfl (hb hby at_202) rfl (tlt hB0).2.1 kont) ?_
      show own_Go _ _ _ _ (T26.setTop (mkF m 205 #[.val (.int p1), .val (.int p2), .val (.int p3), .val (.int p4), .val (.int p5), .val (.int p6), .val (.int av), .val (.int bv), .val (.int cv), .val (.int dv), .val (.int sv), .val (.int tv), .val (.int lo), .val (.int hi), .val (.ref b3), .val (.ref b9), .val (.ref b14), .val (.ref b24), .val (.long cf), .second, .val (.long (0 : Int64)), .second] []))
      refine own_go (fun _ kont => XS.lload X26.here hx rfl (hb hby at_205) rfl kont) ?_
      show own_Go _ _ _ _ (T26.setTop (mkF m 207 #[.val (.int p1), .val (.int p2), .val (.int p3), .val (.int p4), .val (.int p5), .val (.int p6), .val (.int av), .val (.int bv), .val (.int cv), .val (.int dv), .val (.int sv), .val (.int tv), .val (.int lo), .val (.int hi), .val (.ref b3), .val (.ref b9), .val (.ref b14), .val (.ref b24), .val (.long cf), .second, .val (.long (0 : Int64)), .second] [(.long (0 : Int64))]))
      refine own_go (fun _ kont => XS.iload X26.here hx rfl (hb hby at_207) rfl kont) ?_
      show own_Go _ _ _ _ (T26.setTop (mkF m 209 #[.val (.int p1), .val (.int p2), .val (.int p3), .val (.int p4), .val (.int p5), .val (.int p6), .val (.int av), .val (.int bv), .val (.int cv), .val (.int dv), .val (.int sv), .val (.int tv), .val (.int lo), .val (.int hi), .val (.ref b3), .val (.ref b9), .val (.ref b14), .val (.ref b24), .val (.long cf), .second, .val (.long (0 : Int64)), .second] [(.int av), (.long (0 : Int64))]))
      refine own_go (fun _ kont => XS.i2l X26.here hx rfl (hb hby at_209) rfl kont) ?_
      show own_Go _ _ _ _ (T26.setTop (mkF m 210 #[.val (.int p1), .val (.int p2), .val (.int p3), .val (.int p4), .val (.int p5), .val (.int p6), .val (.int av), .val (.int bv), .val (.int cv), .val (.int dv), .val (.int sv), .val (.int tv), .val (.int lo), .val (.int hi), .val (.ref b3), .val (.ref b9), .val (.ref b14), .val (.ref b24), .val (.long cf), .second, .val (.long (0 : Int64)), .second] [(.long (av.toInt64)), (.long (0 : Int64))]))
      refine own_go (fun _ kont => XS.ladd X26.here hx rfl (hb hby at_210) rfl kont) ?_
      show own_Go _ _ _ _ (T26.setTop (mkF m 211 #[.val (.int p1), .val (.int p2), .val (.int p3), .val (.int p4), .val (.int p5), .val (.int p6), .val (.int av), .val (.int bv), .val (.int cv), .val (.int dv), .val (.int sv), .val (.int tv), .val (.int lo), .val (.int hi), .val (.ref b3), .val (.ref b9), .val (.ref b14), .val (.ref b24), .val (.long cf), .second, .val (.long (0 : Int64)), .second] [(.long ((0 : Int64) + (av.toInt64)))]))
      refine own_go (fun _ kont => XS.lstore X26.here hx rfl (hb hby at_211) rfl (l' := #[.val (.int p1), .val (.int p2), .val (.int p3), .val (.int p4), .val (.int p5), .val (.int p6), .val (.int av), .val (.int bv), .val (.int cv), .val (.int dv), .val (.int sv), .val (.int tv), .val (.int lo), .val (.int hi), .val (.ref b3), .val (.ref b9), .val (.ref b14), .val (.ref b24), .val (.long cf), .second, .val (.long ((0 : Int64) + (av.toInt64))), .second]) rfl kont) ?_
      show own_Go _ _ _ _ (T26.setTop (mkF m 213 #[.val (.int p1), .val (.int p2), .val (.int p3), .val (.int p4), .val (.int p5), .val (.int p6), .val (.int av), .val (.int bv), .val (.int cv), .val (.int dv), .val (.int sv), .val (.int tv), .val (.int lo), .val (.int hi), .val (.ref b3), .val (.ref b9), .val (.ref b14), .val (.ref b24), .val (.long cf), .second, .val (.long ((0 : Int64) + (av.toInt64))), .second] []))
      rw [show (own_acc lo hi (0 : Int32) (0 : Int64) av) = ((0 : Int64) + (av.toInt64)) from by simp [own_acc, hA0, hB0]] at J213
      exact J213
    · have _h := hB0
      refine own_go (fun _ kont => XS.icmpYes X26.here hx rfl (pc0 := 202) (pc' := 213) rfl (hb hby at_202) rfl (flt hB0).2.1 (by decide) (by decide) kont) ?_
      show own_Go _ _ _ _ (T26.setTop (mkF m 213 #[.val (.int p1), .val (.int p2), .val (.int p3), .val (.int p4), .val (.int p5), .val (.int p6), .val (.int av), .val (.int bv), .val (.int cv), .val (.int dv), .val (.int sv), .val (.int tv), .val (.int lo), .val (.int hi), .val (.ref b3), .val (.ref b9), .val (.ref b14), .val (.ref b24), .val (.long cf), .second, .val (.long (0 : Int64)), .second] []))
      rw [show (own_acc lo hi (0 : Int32) (0 : Int64) av) = (0 : Int64) from by simp [own_acc, hA0, hB0]] at J213
      exact J213
set_option maxRecDepth 65536 in
set_option maxHeartbeats 40000000 in
theorem own_comes {Post : Tables → Env → Array Value → State → Outcome → State → Prop} (hpost : ∀ tb e args s v u, (limb_1_1.after args s (.returned v) u = true ∧ limb_1_2.after args s (.returned v) u = true ∧ True) → FrameEnd s (.returned v) u (Jvm.fieldLocs frame_1_writes args s ++ Jvm.arrayLocs frame_1_arrays args s ++ Jvm.staticLocs frame_1_statics s) 32 128 → Post tb e args s (.returned v) u) :
    ArmFor flags0 classFile x code maxLocals ret World_1 tables_1 room_1 Calls_1 rest_1 Pre_1 Post := by
  intro l hfl _ _ p e ha hc hk s m args below hf hA hF happ hP
  obtain ⟨hcalls, hrest, hpre⟩ := hP
  obtain ⟨-, -, -, hnamed, -, -, -, hat⟩ := (Spec.applies_iff hf).mp happ
  obtain ⟨hg, hn⟩ := and_e (Cond.before_iff.mp (show (Jvm.Cond.and given_1 narrow_1).before args s = true from hpre))
  obtain ⟨hcount, hg⟩ := and_e hg
  obtain ⟨ha0, hg⟩ := and_e hg
  obtain ⟨ha1, hg⟩ := and_e hg
  obtain ⟨ha2, hg⟩ := and_e hg
  obtain ⟨ha3, hg⟩ := and_e hg
  obtain ⟨ha4, hg⟩ := and_e hg
  obtain ⟨w0, w1, w2, w3, w4, w5, rfl⟩ : ∃ w0 w1 w2 w3 w4 w5 : Value, args = #[w0, w1, w2, w3, w4, w5] := by
    have hs : args.size = 6 := by simpa [Cond.value, given_1] using hcount
    obtain ⟨L⟩ := args
    match L, hs with
    | [w0, w1, w2, w3, w4, w5], _ => exact ⟨w0, w1, w2, w3, w4, w5, rfl⟩
  have hw := fun d (hd : d ∈ tables_1) => atoms_spec (ws := Jvm.Cond.code x code maxLocals ret :: tables_1) hat d (List.mem_cons_of_mem _ hd)
  have hfit : Fit s := fun {y c} hc i hi => by
    obtain ⟨ha, rfl⟩ := Array.getElem?_eq_some_iff.mp hc
    have q := List.all_eq_true.mp ((Array.all_eq_true_iff_forall_mem.mp hF) _ (Array.getElem_mem ha)) i (List.mem_range.mpr hi)
    simpa [Array.getElem?_eq_getElem hi] using q
  obtain ⟨i0, ei0⟩ := is_v ha0
  obtain rfl : w0 = (.int i0) := Option.some.inj ei0
  obtain ⟨i1, ei1⟩ := is_v ha1
  obtain rfl : w1 = (.int i1) := Option.some.inj ei1
  obtain ⟨i2, ei2⟩ := is_v ha2
  obtain rfl : w2 = (.int i2) := Option.some.inj ei2
  obtain ⟨i3, ei3⟩ := is_v ha3
  obtain rfl : w3 = (.int i3) := Option.some.inj ei3
  obtain ⟨i4, ei4⟩ := is_v ha4
  obtain rfl : w4 = (.int i4) := Option.some.inj ei4
  obtain ⟨i5, ei5⟩ := is_v hg
  obtain rfl : w5 = (.int i5) := Option.some.inj ei5
  obtain ⟨n, o, h1, h2, h3, _, L, rfl, ⟨rfl, N⟩, hq⟩ := own_rm0 l s _ hw i0 i1 i2 i3 i4 i5 s.heap s.heap.size (Nat.le_refl _)  p e ha hc hk s m _ below hf ((Spec.applies_iff_loose hf).mp happ).1 ⟨rfl, State.Warmed39.refl s, rfl⟩ trivial
  refine ⟨n, _, h1, h2, h3, hpost _ _ _ _ _ _ ⟨Cond.after_iff.mpr rfl, Cond.after_iff.mpr (eq_i res_at (Term.int_eval (1)) rfl), trivial⟩ ⟨hq.1, hq.2.1, (hq.2.2.sift fun y hy => Or.inr (N y hy)).mono (by decide) (by decide)⟩⟩
theorem main_1_1 : Claimed_1_1 := own_comes fun _ _ _ _ _ _ h hF => ⟨h.1, hF⟩
theorem main_1_2 : Claimed_1_2 := own_comes fun _ _ _ _ _ _ h hF => ⟨h.2.1, hF⟩
end Jvm.Pilot.@@N@@
namespace Jvm.Pilot.@@N@@
open Jvm Jvm.ClassFile Sem Op Lib Jvm.Free Jvm.Stand Jvm.Pilot.@@N@@.Jvm.D
/-! MADE BY PROGRAM (witnessworld.py) out of the Statement's table words and the real class files: 23 classes; the members and pool entries that the words name. The judged class is class 1, her method 1. -/
namespace start1
open Jvm.ClassFile
def u (s : String) : CpInfo := .utf8 (stringToUtf16 s)
/-- a pool by its gaps: so many unusable entries, then the entry; so many at the end -/
def gap : Nat → List CpInfo → List CpInfo
  | 0, r => r
  | n + 1, r => .unusable :: gap n r
def poolList (es : List (Nat × CpInfo)) (last : Nat) : List CpInfo := es.foldr (fun e r => gap e.1 (e.2 :: r)) (gap last [])
def pool (es : List (Nat × CpInfo)) (last : Nat) : Array CpInfo := ⟨poolList es last⟩
def fileOf (pool : Array CpInfo) (this : Nat) (attrs : Array Attribute := #[]) (ms : Array MethodInfo := #[]) (fl : Nat := 33) (sup : Nat := 0) (ifs : Array Nat := #[]) (fds : Array FieldInfo := #[]) : ClassFile where
  minorVersion := 0
  majorVersion := 65
  constantPool := pool
  accessFlags := fl
  thisClass := this
  superClass := sup
  interfaces := ifs
  fields := fds
  methods := ms
  attributes := attrs
def plain (name : String) (sup : Option ClassId) : Class where
  name := name
  kind := .ordinary
  loader := none
  accessFlags := 33
  super := sup
  interfaces := #[]
  cf := none
  fields := #[]
  methods := #[]
  instanceTypes := #[]
  staticTypes := #[]
  resolved := #[]
  callSites := []
  init := .initialized
  statics := none
  mirror := none

def pool0 : Array CpInfo := pool [(5, u "<init>"), (0, u "()V"), (1, .class_ 10), (1, u "java/lang/Object")] 113

def k0c0 : Code := { maxStack := 0, maxLocals := 1, code := object_method_1_code, exceptionTable := #[], attributes := #[] }
def k0m0 : Method := { name := "<init>", desc := "()V", sig := { parameters := [], returnType := none }, accessFlags := 1, code := some k0c0 }
/-- java/lang/Object -/
def k0 : Class := { plain "java/lang/Object" none with
  accessFlags := 33
  interfaces := #[]
  cf := some (fileOf pool0 8 #[] #[{ accessFlags := 1, nameIndex := 5, descriptorIndex := 6, attributes := #[] }] 33 0 #[] #[])
  fields := #[]
  methods := #[k0m0]
  instanceTypes := #[]
  staticTypes := #[]
  resolved := Array.replicate 124 none
  statics := none }

def pool1 : Array CpInfo := pool [(2, .class_ 4), (1, u "java/lang/Object"), (0, u "<init>"), (0, u "()V"), (0, .integer 536870911), (0, .integer 2147483647), (0, .methodref 10 11), (0, .class_ 12), (0, .nameAndType 13 14), (0, u "java/lang/Math"), (0, u "min"), (0, u "(II)I"), (0, .methodref 10 16), (0, .nameAndType 17 14), (0, u "max"), (0, .class_ 19), (0, u "com/example/lissage/lissage/Index"), (0, .class_ 21), (0, u "java/lang/String"), (0, .methodref 18 23), (0, .nameAndType 5 24), (0, u "([Ljava/lang/String;[I[I[Ljava/lang/String;[I[I[I[I)V"), (0, .class_ 26), (0, u "com/example/lissage/lissage/Postings"), (0, .methodref 25 28), (0, .nameAndType 5 29), (0, u "(Lcom/example/lissage/lissage/Index;II)V"), (0, .methodref 25 31), (0, .nameAndType 32 33), (0, u "collectionFrequency"), (0, u "()J"), (0, .class_ 35), (0, u "com/example/lissage/lissage/PostingsCollectionFrequencyPinLaw"), (2, u "law"), (0, u "(IIIIII)Z")] 5

def k1m0 : Method := { name := "<init>", desc := "()V", sig := { parameters := [], returnType := none }, accessFlags := 2, code := none }
def k1c1 : Code := { maxStack := 10, maxLocals := 22, code := code, exceptionTable := #[], attributes := #[] }
def k1m1 : Method := { name := "law", desc := "(IIIIII)Z", sig := { parameters := [.int, .int, .int, .int, .int, .int], returnType := some .boolean }, accessFlags := 9, code := some k1c1 }
/-- com/example/lissage/lissage/PostingsCollectionFrequencyPinLaw -/
def k1 : Class := { plain "com/example/lissage/lissage/PostingsCollectionFrequencyPinLaw" (some 0) with
  accessFlags := 49
  interfaces := #[]
  cf := some (fileOf pool1 34 #[] #[{ accessFlags := 2, nameIndex := 5, descriptorIndex := 6, attributes := #[] }, { accessFlags := 9, nameIndex := 38, descriptorIndex := 39, attributes := #[] }] 49 2 #[] #[])
  fields := #[]
  methods := #[k1m0, k1m1]
  instanceTypes := #[]
  staticTypes := #[]
  resolved := Array.replicate 45 none
  statics := none }

def pool2 : Array CpInfo := pool [(1, .class_ 2), (0, u "java/lang/Math"), (1, .class_ 6), (1, u "java/lang/Object"), (0, u "<init>"), (0, u "()V"), (89, .class_ 100), (1, u "java/lang/Math$RandomNumberGeneratorHolder"), (71, u "negativeZeroFloatBits"), (0, u "J"), (2, u "negativeZeroDoubleBits"), (21, u "max"), (2, u "min"), (43, u "$assertionsDisabled"), (0, u "Z"), (88, u "(II)I"), (2, u "twoToTheDoubleScaleDown"), (0, u "D"), (4, u "twoToTheDoubleScaleUp"), (9, u "E"), (3, u "PI"), (2, u "TAU"), (2, u "DEGREES_TO_RADIANS"), (0, u "RADIANS_TO_DEGREES")] 94

def k2m0 : Method := { name := "<init>", desc := "()V", sig := { parameters := [], returnType := none }, accessFlags := 2, code := none }
def k2c1 : Code := { maxStack := 2, maxLocals := 2, code := jdk_29_method_65_code, exceptionTable := #[], attributes := #[] }
def k2m1 : Method := { name := "max", desc := "(II)I", sig := { parameters := [.int, .int], returnType := some .int }, accessFlags := 9, code := some k2c1 }
def k2c2 : Code := { maxStack := 2, maxLocals := 2, code := jdk_29_method_69_code, exceptionTable := #[], attributes := #[] }
def k2m2 : Method := { name := "min", desc := "(II)I", sig := { parameters := [.int, .int], returnType := some .int }, accessFlags := 9, code := some k2c2 }
/-- java/lang/Math -/
def k2 : Class := { plain "java/lang/Math" (some 0) with
  accessFlags := 49
  interfaces := #[]
  cf := some (fileOf pool2 1 #[.nestMembers #[98]] #[{ accessFlags := 2, nameIndex := 7, descriptorIndex := 8, attributes := #[] }, { accessFlags := 9, nameIndex := 198, descriptorIndex := 335, attributes := #[] }, { accessFlags := 9, nameIndex := 201, descriptorIndex := 335, attributes := #[] }] 49 4 #[] #[{ accessFlags := 25, nameIndex := 354, descriptorIndex := 339, attributes := #[] }, { accessFlags := 25, nameIndex := 358, descriptorIndex := 339, attributes := #[] }, { accessFlags := 25, nameIndex := 361, descriptorIndex := 339, attributes := #[] }, { accessFlags := 26, nameIndex := 364, descriptorIndex := 339, attributes := #[] }, { accessFlags := 26, nameIndex := 365, descriptorIndex := 339, attributes := #[] }, { accessFlags := 26, nameIndex := 172, descriptorIndex := 173, attributes := #[] }, { accessFlags := 26, nameIndex := 176, descriptorIndex := 173, attributes := #[] }, { accessFlags := 8, nameIndex := 344, descriptorIndex := 339, attributes := #[] }, { accessFlags := 8, nameIndex := 338, descriptorIndex := 339, attributes := #[] }, { accessFlags := 4120, nameIndex := 245, descriptorIndex := 246, attributes := #[] }])
  fields := #[{ name := "E", type := .double, accessFlags := 25, slot := 0, constantValue := 0 }, { name := "PI", type := .double, accessFlags := 25, slot := 1, constantValue := 0 }, { name := "TAU", type := .double, accessFlags := 25, slot := 2, constantValue := 0 }, { name := "DEGREES_TO_RADIANS", type := .double, accessFlags := 26, slot := 3, constantValue := 0 }, { name := "RADIANS_TO_DEGREES", type := .double, accessFlags := 26, slot := 4, constantValue := 0 }, { name := "negativeZeroFloatBits", type := .long, accessFlags := 26, slot := 5, constantValue := 0 }, { name := "negativeZeroDoubleBits", type := .long, accessFlags := 26, slot := 6, constantValue := 0 }, { name := "twoToTheDoubleScaleUp", type := .double, accessFlags := 8, slot := 7, constantValue := 0 }, { name := "twoToTheDoubleScaleDown", type := .double, accessFlags := 8, slot := 8, constantValue := 0 }, { name := "$assertionsDisabled", type := .boolean, accessFlags := 4120, slot := 9, constantValue := 0 }]
  methods := #[k2m0, k2m1, k2m2]
  instanceTypes := #[]
  staticTypes := #[.double, .double, .double, .double, .double, .long, .long, .double, .double, .boolean]
  resolved := Array.replicate 460 none
  statics := none }

def pool3 : Array CpInfo := pool [(1, .methodref 2 3), (0, .class_ 4), (0, .nameAndType 5 6), (0, u "java/lang/Object"), (0, u "<init>"), (0, u "()V"), (0, .fieldref 8 9), (0, .class_ 10), (0, .nameAndType 11 12), (0, u "com/example/lissage/lissage/Index"), (0, u "docnos"), (0, u "[Ljava/lang/String;"), (0, .fieldref 8 14), (0, .nameAndType 15 16), (0, u "documentStarts"), (0, u "[I"), (0, .fieldref 8 18), (0, .nameAndType 19 16), (0, u "documentTerms"), (0, .fieldref 8 21), (0, .nameAndType 22 12), (0, u "terms"), (0, .fieldref 8 24), (0, .nameAndType 25 16), (0, u "termStarts"), (0, .fieldref 8 27), (0, .nameAndType 28 16), (0, u "postingDocuments"), (0, .fieldref 8 30), (0, .nameAndType 31 16), (0, u "postingStarts"), (0, .fieldref 8 33), (0, .nameAndType 34 16), (0, u "positions"), (0, .class_ 36), (0, u "java/util/HashMap"), (0, .methodref 35 38), (0, .nameAndType 5 39), (0, u "(I)V"), (0, .fieldref 8 41), (0, .nameAndType 42 43), (0, u "termNumbers"), (0, u "Ljava/util/Map;"), (63, u "([Ljava/lang/String;[I[I[Ljava/lang/String;[I[I[I[I)V")] 28

def k3c0 : Code := { maxStack := 5, maxLocals := 10, code := prog_16_method_1_code, exceptionTable := #[], attributes := #[] }
def k3m0 : Method := { name := "<init>", desc := "([Ljava/lang/String;[I[I[Ljava/lang/String;[I[I[I[I)V", sig := { parameters := [(.array (.object "java/lang/String")), (.array .int), (.array .int), (.array (.object "java/lang/String")), (.array .int), (.array .int), (.array .int), (.array .int)], returnType := none }, accessFlags := 0, code := some k3c0 }
/-- com/example/lissage/lissage/Index -/
def k3 : Class := { plain "com/example/lissage/lissage/Index" (some 0) with
  accessFlags := 49
  interfaces := #[]
  cf := some (fileOf pool3 8 #[] #[{ accessFlags := 0, nameIndex := 5, descriptorIndex := 107, attributes := #[] }] 49 2 #[] #[{ accessFlags := 16, nameIndex := 11, descriptorIndex := 12, attributes := #[] }, { accessFlags := 16, nameIndex := 15, descriptorIndex := 16, attributes := #[] }, { accessFlags := 16, nameIndex := 19, descriptorIndex := 16, attributes := #[] }, { accessFlags := 16, nameIndex := 22, descriptorIndex := 12, attributes := #[] }, { accessFlags := 16, nameIndex := 25, descriptorIndex := 16, attributes := #[] }, { accessFlags := 16, nameIndex := 28, descriptorIndex := 16, attributes := #[] }, { accessFlags := 16, nameIndex := 31, descriptorIndex := 16, attributes := #[] }, { accessFlags := 16, nameIndex := 34, descriptorIndex := 16, attributes := #[] }, { accessFlags := 18, nameIndex := 42, descriptorIndex := 43, attributes := #[] }])
  fields := #[{ name := "docnos", type := (.array (.object "java/lang/String")), accessFlags := 16, slot := 0, constantValue := 0 }, { name := "documentStarts", type := (.array .int), accessFlags := 16, slot := 1, constantValue := 0 }, { name := "documentTerms", type := (.array .int), accessFlags := 16, slot := 2, constantValue := 0 }, { name := "terms", type := (.array (.object "java/lang/String")), accessFlags := 16, slot := 3, constantValue := 0 }, { name := "termStarts", type := (.array .int), accessFlags := 16, slot := 4, constantValue := 0 }, { name := "postingDocuments", type := (.array .int), accessFlags := 16, slot := 5, constantValue := 0 }, { name := "postingStarts", type := (.array .int), accessFlags := 16, slot := 6, constantValue := 0 }, { name := "positions", type := (.array .int), accessFlags := 16, slot := 7, constantValue := 0 }, { name := "termNumbers", type := (.object "java/util/Map"), accessFlags := 18, slot := 8, constantValue := 0 }]
  methods := #[k3m0]
  instanceTypes := #[(.array (.object "java/lang/String")), (.array .int), (.array .int), (.array (.object "java/lang/String")), (.array .int), (.array .int), (.array .int), (.array .int), (.object "java/util/Map")]
  staticTypes := #[]
  resolved := Array.replicate 136 none
  statics := none }

def pool4 : Array CpInfo := pool [(1, .class_ 2), (0, u "java/io/Serializable"), (0, .class_ 4), (0, u "java/lang/Object")] 2

/-- java/io/Serializable -/
def k4 : Class := { plain "java/io/Serializable" (some 0) with
  accessFlags := 1537
  interfaces := #[]
  cf := some (fileOf pool4 1 #[] #[] 1537 3 #[] #[])
  fields := #[]
  methods := #[]
  instanceTypes := #[]
  staticTypes := #[]
  resolved := Array.replicate 7 none
  statics := none }

def pool5 : Array CpInfo := pool [(1, .class_ 2), (0, u "java/lang/Comparable"), (0, .class_ 4), (0, u "java/lang/Object")] 7

/-- java/lang/Comparable -/
def k5 : Class := { plain "java/lang/Comparable" (some 0) with
  accessFlags := 1537
  interfaces := #[]
  cf := some (fileOf pool5 1 #[] #[] 1537 3 #[] #[])
  fields := #[]
  methods := #[]
  instanceTypes := #[]
  staticTypes := #[]
  resolved := Array.replicate 12 none
  statics := none }

def pool6 : Array CpInfo := pool [(2, .class_ 4), (1, u "java/lang/CharSequence"), (42, .class_ 48), (0, u "java/lang/CharSequence$1CodePointIterator"), (10, .class_ 60), (0, u "java/lang/CharSequence$1CharIterator"), (5, .class_ 67), (0, u "java/lang/Object")] 63

/-- java/lang/CharSequence -/
def k6 : Class := { plain "java/lang/CharSequence" (some 0) with
  accessFlags := 1537
  interfaces := #[]
  cf := some (fileOf pool6 2 #[.nestMembers #[47, 59]] #[] 1537 66 #[] #[])
  fields := #[]
  methods := #[]
  instanceTypes := #[]
  staticTypes := #[]
  resolved := Array.replicate 131 none
  statics := none }

def pool7 : Array CpInfo := pool [(1, .class_ 2), (0, u "java/lang/constant/Constable"), (0, .class_ 4), (0, u "java/lang/Object")] 6

/-- java/lang/constant/Constable -/
def k7 : Class := { plain "java/lang/constant/Constable" (some 0) with
  accessFlags := 1537
  interfaces := #[]
  cf := some (fileOf pool7 1 #[] #[] 1537 3 #[] #[])
  fields := #[]
  methods := #[]
  instanceTypes := #[]
  staticTypes := #[]
  resolved := Array.replicate 11 none
  statics := none }

def pool8 : Array CpInfo := pool [(1, .class_ 2), (0, u "java/lang/constant/ConstantDesc"), (0, .class_ 4), (0, u "java/lang/Object")] 32

/-- java/lang/constant/ConstantDesc -/
def k8 : Class := { plain "java/lang/constant/ConstantDesc" (some 0) with
  accessFlags := 1537
  interfaces := #[]
  cf := some (fileOf pool8 1 #[] #[] 1537 3 #[] #[])
  fields := #[]
  methods := #[]
  instanceTypes := #[]
  staticTypes := #[]
  resolved := Array.replicate 37 none
  statics := none }

def pool9 : Array CpInfo := pool [(2, .class_ 4), (1, u "java/lang/Object"), (0, u "<init>"), (0, u "()V"), (3, .class_ 12), (1, u "java/lang/String"), (0, u "value"), (0, u "[B"), (2, u "coder"), (0, u "B"), (2, u "hash"), (0, u "I"), (2, u "hashIsZero"), (0, u "Z"), (13, u "COMPACT_STRINGS"), (534, .class_ 576), (0, u "java/lang/CharSequence"), (22, u "CASE_INSENSITIVE_ORDER"), (0, u "Ljava/util/Comparator;"), (500, u "serialPersistentFields"), (0, u "[Ljava/io/ObjectStreamField;"), (0, .class_ 1104), (0, u "java/lang/String$CaseInsensitiveComparator"), (1, .class_ 1107), (0, u "java/io/Serializable"), (0, .class_ 1109), (0, u "java/lang/Comparable"), (0, .class_ 1111), (0, u "java/lang/constant/Constable"), (0, .class_ 1113), (0, u "java/lang/constant/ConstantDesc"), (2, u "serialVersionUID"), (0, u "J"), (3, u "REPL"), (0, u "C"), (2, u "LATIN1"), (1, u "UTF16")] 323

def k9m0 : Method := { name := "<init>", desc := "()V", sig := { parameters := [], returnType := none }, accessFlags := 1, code := none }
/-- java/lang/String -/
def k9 : Class := { plain "java/lang/String" (some 0) with
  accessFlags := 49
  interfaces := #[4, 5, 6, 7, 8]
  cf := some (fileOf pool9 10 #[.nestMembers #[1103]] #[{ accessFlags := 1, nameIndex := 5, descriptorIndex := 6, attributes := #[] }] 49 2 #[1106, 1108, 575, 1110, 1112] #[{ accessFlags := 18, nameIndex := 13, descriptorIndex := 14, attributes := #[] }, { accessFlags := 18, nameIndex := 17, descriptorIndex := 18, attributes := #[] }, { accessFlags := 2, nameIndex := 21, descriptorIndex := 22, attributes := #[] }, { accessFlags := 2, nameIndex := 25, descriptorIndex := 26, attributes := #[] }, { accessFlags := 26, nameIndex := 1116, descriptorIndex := 1117, attributes := #[] }, { accessFlags := 24, nameIndex := 40, descriptorIndex := 26, attributes := #[] }, { accessFlags := 26, nameIndex := 1101, descriptorIndex := 1102, attributes := #[] }, { accessFlags := 26, nameIndex := 1121, descriptorIndex := 1122, attributes := #[] }, { accessFlags := 25, nameIndex := 599, descriptorIndex := 600, attributes := #[] }, { accessFlags := 24, nameIndex := 1125, descriptorIndex := 18, attributes := #[] }, { accessFlags := 24, nameIndex := 1127, descriptorIndex := 18, attributes := #[] }])
  fields := #[{ name := "value", type := (.array .byte), accessFlags := 18, slot := 0, constantValue := 0 }, { name := "coder", type := .byte, accessFlags := 18, slot := 1, constantValue := 0 }, { name := "hash", type := .int, accessFlags := 2, slot := 2, constantValue := 0 }, { name := "hashIsZero", type := .boolean, accessFlags := 2, slot := 3, constantValue := 0 }, { name := "serialVersionUID", type := .long, accessFlags := 26, slot := 0, constantValue := 0 }, { name := "COMPACT_STRINGS", type := .boolean, accessFlags := 24, slot := 1, constantValue := 0 }, { name := "serialPersistentFields", type := (.array (.object "java/io/ObjectStreamField")), accessFlags := 26, slot := 2, constantValue := 0 }, { name := "REPL", type := .char, accessFlags := 26, slot := 3, constantValue := 0 }, { name := "CASE_INSENSITIVE_ORDER", type := (.object "java/util/Comparator"), accessFlags := 25, slot := 4, constantValue := 0 }, { name := "LATIN1", type := .byte, accessFlags := 24, slot := 5, constantValue := 0 }, { name := "UTF16", type := .byte, accessFlags := 24, slot := 6, constantValue := 0 }]
  methods := #[k9m0]
  instanceTypes := #[(.array .byte), .byte, .int, .boolean]
  staticTypes := #[.long, .boolean, (.array (.object "java/io/ObjectStreamField")), .char, (.object "java/util/Comparator"), .byte, .byte]
  resolved := Array.replicate 1451 none
  statics := none }

def pool10 : Array CpInfo := pool [(2, .class_ 4), (1, u "java/util/Map"), (31, .class_ 37), (0, u "java/util/Map$Entry"), (55, .class_ 94), (0, u "java/lang/Object")] 168

/-- java/util/Map -/
def k10 : Class := { plain "java/util/Map" (some 0) with
  accessFlags := 1537
  interfaces := #[]
  cf := some (fileOf pool10 2 #[.nestMembers #[36]] #[] 1537 93 #[] #[])
  fields := #[]
  methods := #[]
  instanceTypes := #[]
  staticTypes := #[]
  resolved := Array.replicate 263 none
  statics := none }

def pool11 : Array CpInfo := pool [(1, .methodref 2 3), (0, .class_ 4), (0, .nameAndType 5 6), (0, u "java/lang/Object"), (0, u "<init>"), (0, u "()V"), (1, .class_ 10), (1, u "java/util/AbstractMap"), (42, .class_ 54), (0, u "java/util/Map"), (9, u "keySet"), (0, u "Ljava/util/Set;"), (0, .class_ 67), (0, u "java/util/AbstractMap$1"), (5, u "values"), (0, u "Ljava/util/Collection;"), (0, .class_ 76), (0, u "java/util/AbstractMap$2"), (104, .class_ 182), (0, u "java/util/AbstractMap$ViewCollection"), (0, .class_ 184), (0, u "java/util/AbstractMap$SimpleImmutableEntry"), (0, .class_ 186), (0, u "java/util/AbstractMap$SimpleEntry"), (0, .class_ 188), (0, u "java/util/AbstractMap$2$1"), (0, .class_ 190), (0, u "java/util/AbstractMap$1$1")] 5

def k11c0 : Code := { maxStack := 1, maxLocals := 1, code := jdk_71_method_1_code, exceptionTable := #[], attributes := #[] }
def k11m0 : Method := { name := "<init>", desc := "()V", sig := { parameters := [], returnType := none }, accessFlags := 4, code := some k11c0 }
/-- java/util/AbstractMap -/
def k11 : Class := { plain "java/util/AbstractMap" (some 0) with
  accessFlags := 1057
  interfaces := #[10]
  cf := some (fileOf pool11 8 #[.nestMembers #[181, 183, 185, 75, 187, 66, 189]] #[{ accessFlags := 4, nameIndex := 5, descriptorIndex := 6, attributes := #[] }] 1057 2 #[53] #[{ accessFlags := 128, nameIndex := 64, descriptorIndex := 65, attributes := #[] }, { accessFlags := 128, nameIndex := 73, descriptorIndex := 74, attributes := #[] }])
  fields := #[{ name := "keySet", type := (.object "java/util/Set"), accessFlags := 128, slot := 0, constantValue := 0 }, { name := "values", type := (.object "java/util/Collection"), accessFlags := 128, slot := 1, constantValue := 0 }]
  methods := #[k11m0]
  instanceTypes := #[(.object "java/util/Set"), (.object "java/util/Collection")]
  staticTypes := #[]
  resolved := Array.replicate 196 none
  statics := none }

def pool12 : Array CpInfo := pool [(1, .class_ 2), (0, u "java/lang/Cloneable"), (0, .class_ 4), (0, u "java/lang/Object")] 2

/-- java/lang/Cloneable -/
def k12 : Class := { plain "java/lang/Cloneable" (some 0) with
  accessFlags := 1537
  interfaces := #[]
  cf := some (fileOf pool12 1 #[] #[] 1537 3 #[] #[])
  fields := #[]
  methods := #[]
  instanceTypes := #[]
  staticTypes := #[]
  resolved := Array.replicate 7 none
  statics := none }

def pool13 : Array CpInfo := pool [(34, .methodref 35 36), (0, .class_ 37), (0, .nameAndType 38 39), (0, u "java/lang/Integer"), (0, u "numberOfLeadingZeros"), (0, u "(I)I"), (0, .class_ 41), (0, u "java/util/HashMap"), (0, .integer 1073741824), (0, .methodref 44 45), (0, .class_ 46), (0, .nameAndType 47 48), (0, u "java/util/AbstractMap"), (0, u "<init>"), (0, u "()V"), (21, .methodref 71 72), (0, .class_ 73), (0, .nameAndType 74 75), (0, u "java/lang/Float"), (0, u "isNaN"), (0, u "(F)Z"), (5, .fieldref 40 82), (0, .nameAndType 83 84), (0, u "loadFactor"), (0, u "F"), (0, .methodref 40 86), (0, .nameAndType 87 39), (0, u "tableSizeFor"), (0, .fieldref 40 89), (0, .nameAndType 90 91), (0, u "threshold"), (0, u "I"), (0, .float 1061158912), (0, .methodref 40 94), (0, .nameAndType 47 95), (0, u "(IF)V"), (5, .class_ 103), (1, u "java/util/Map"), (0, u "size"), (2, u "table"), (0, u "[Ljava/util/HashMap$Node;"), (14, u "entrySet"), (39, .class_ 165), (1, u "java/util/HashMap$Node"), (14, .class_ 181), (0, u "java/util/HashMap$TreeNode"), (22, u "modCount"), (37, u "Ljava/util/Set;"), (0, .class_ 244), (0, u "java/util/HashMap$KeySet"), (18, .class_ 264), (0, u "java/util/HashMap$Values"), (3, .class_ 269), (0, u "java/util/HashMap$EntrySet"), (48, u "(I)V"), (27, .class_ 348), (1, u "java/util/HashMap$UnsafeHolder"), (43, .class_ 393), (0, u "java/lang/Cloneable"), (0, .class_ 395), (0, u "java/io/Serializable"), (0, u "serialVersionUID"), (0, u "J"), (3, u "DEFAULT_INITIAL_CAPACITY"), (1, u "MAXIMUM_CAPACITY"), (0, u "DEFAULT_LOAD_FACTOR"), (0, u "TREEIFY_THRESHOLD"), (1, u "UNTREEIFY_THRESHOLD"), (1, u "MIN_TREEIFY_CAPACITY"), (186, .class_ 597), (0, u "java/util/HashMap$EntrySpliterator"), (0, .class_ 599), (0, u "java/util/HashMap$ValueSpliterator"), (0, .class_ 601), (0, u "java/util/HashMap$KeySpliterator"), (0, .class_ 603), (0, u "java/util/HashMap$HashMapSpliterator"), (0, .class_ 605), (0, u "java/util/HashMap$EntryIterator"), (0, .class_ 607), (0, u "java/util/HashMap$ValueIterator"), (0, .class_ 609), (0, u "java/util/HashMap$KeyIterator"), (0, .class_ 611), (0, u "java/util/HashMap$HashIterator")] 17

def k13c0 : Code := { maxStack := 3, maxLocals := 2, code := jdk_69_method_4_code, exceptionTable := #[], attributes := #[] }
def k13m0 : Method := { name := "tableSizeFor", desc := "(I)I", sig := { parameters := [.int], returnType := some .int }, accessFlags := 24, code := some k13c0 }
def k13c1 : Code := { maxStack := 4, maxLocals := 3, code := jdk_69_method_5_code, exceptionTable := #[], attributes := #[] }
def k13m1 : Method := { name := "<init>", desc := "(IF)V", sig := { parameters := [.int, .float], returnType := none }, accessFlags := 1, code := some k13c1 }
def k13c2 : Code := { maxStack := 3, maxLocals := 2, code := jdk_69_method_6_code, exceptionTable := #[], attributes := #[] }
def k13m2 : Method := { name := "<init>", desc := "(I)V", sig := { parameters := [.int], returnType := none }, accessFlags := 1, code := some k13c2 }
def k13m3 : Method := { name := "<init>", desc := "()V", sig := { parameters := [], returnType := none }, accessFlags := 1, code := none }
/-- java/util/HashMap -/
def k13 : Class := { plain "java/util/HashMap" (some 11) with
  accessFlags := 33
  interfaces := #[10, 12, 4]
  cf := some (fileOf pool13 40 #[.nestMembers #[180, 596, 598, 600, 602, 604, 606, 608, 610, 346, 268, 263, 243, 163]] #[{ accessFlags := 24, nameIndex := 87, descriptorIndex := 39, attributes := #[] }, { accessFlags := 1, nameIndex := 47, descriptorIndex := 95, attributes := #[] }, { accessFlags := 1, nameIndex := 47, descriptorIndex := 318, attributes := #[] }, { accessFlags := 1, nameIndex := 47, descriptorIndex := 48, attributes := #[] }] 33 44 #[101, 392, 394] #[{ accessFlags := 26, nameIndex := 396, descriptorIndex := 397, attributes := #[] }, { accessFlags := 24, nameIndex := 401, descriptorIndex := 91, attributes := #[] }, { accessFlags := 24, nameIndex := 403, descriptorIndex := 91, attributes := #[] }, { accessFlags := 24, nameIndex := 404, descriptorIndex := 84, attributes := #[] }, { accessFlags := 24, nameIndex := 405, descriptorIndex := 91, attributes := #[] }, { accessFlags := 24, nameIndex := 407, descriptorIndex := 91, attributes := #[] }, { accessFlags := 24, nameIndex := 409, descriptorIndex := 91, attributes := #[] }, { accessFlags := 128, nameIndex := 107, descriptorIndex := 108, attributes := #[] }, { accessFlags := 128, nameIndex := 123, descriptorIndex := 242, attributes := #[] }, { accessFlags := 128, nameIndex := 104, descriptorIndex := 91, attributes := #[] }, { accessFlags := 128, nameIndex := 204, descriptorIndex := 91, attributes := #[] }, { accessFlags := 0, nameIndex := 90, descriptorIndex := 91, attributes := #[] }, { accessFlags := 16, nameIndex := 83, descriptorIndex := 84, attributes := #[] }])
  fields := #[{ name := "serialVersionUID", type := .long, accessFlags := 26, slot := 0, constantValue := 0 }, { name := "DEFAULT_INITIAL_CAPACITY", type := .int, accessFlags := 24, slot := 1, constantValue := 0 }, { name := "MAXIMUM_CAPACITY", type := .int, accessFlags := 24, slot := 2, constantValue := 0 }, { name := "DEFAULT_LOAD_FACTOR", type := .float, accessFlags := 24, slot := 3, constantValue := 0 }, { name := "TREEIFY_THRESHOLD", type := .int, accessFlags := 24, slot := 4, constantValue := 0 }, { name := "UNTREEIFY_THRESHOLD", type := .int, accessFlags := 24, slot := 5, constantValue := 0 }, { name := "MIN_TREEIFY_CAPACITY", type := .int, accessFlags := 24, slot := 6, constantValue := 0 }, { name := "table", type := (.array (.object "java/util/HashMap$Node")), accessFlags := 128, slot := 2, constantValue := 0 }, { name := "entrySet", type := (.object "java/util/Set"), accessFlags := 128, slot := 3, constantValue := 0 }, { name := "size", type := .int, accessFlags := 128, slot := 4, constantValue := 0 }, { name := "modCount", type := .int, accessFlags := 128, slot := 5, constantValue := 0 }, { name := "threshold", type := .int, accessFlags := 0, slot := 6, constantValue := 0 }, { name := "loadFactor", type := .float, accessFlags := 16, slot := 7, constantValue := 0 }]
  methods := #[k13m0, k13m1, k13m2, k13m3]
  instanceTypes := #[(.object "java/util/Set"), (.object "java/util/Collection"), (.array (.object "java/util/HashMap$Node")), (.object "java/util/Set"), .int, .int, .int, .float]
  staticTypes := #[.long, .int, .int, .float, .int, .int, .int]
  resolved := Array.replicate 629 none
  statics := none }

def pool14 : Array CpInfo := pool [(2, .class_ 4), (1, u "java/lang/Object"), (0, u "<init>"), (0, u "()V"), (1, .class_ 10), (1, u "java/lang/Number"), (2, .class_ 14), (0, u "java/io/Serializable"), (0, u "serialVersionUID"), (0, u "J")] 20

def k14m0 : Method := { name := "<init>", desc := "()V", sig := { parameters := [], returnType := none }, accessFlags := 1, code := none }
/-- java/lang/Number -/
def k14 : Class := { plain "java/lang/Number" (some 0) with
  accessFlags := 1057
  interfaces := #[4]
  cf := some (fileOf pool14 8 #[] #[{ accessFlags := 1, nameIndex := 5, descriptorIndex := 6, attributes := #[] }] 1057 2 #[13] #[{ accessFlags := 26, nameIndex := 15, descriptorIndex := 16, attributes := #[] }])
  fields := #[{ name := "serialVersionUID", type := .long, accessFlags := 26, slot := 0, constantValue := 0 }]
  methods := #[k14m0]
  instanceTypes := #[]
  staticTypes := #[.long]
  resolved := Array.replicate 37 none
  statics := none }

def pool15 : Array CpInfo := pool [(1, .class_ 2), (0, u "java/lang/Float"), (48, .class_ 53), (1, u "java/lang/Number"), (3, u "value"), (0, u "F"), (2, u "isNaN"), (0, u "(F)Z"), (28, u "$assertionsDisabled"), (0, u "Z"), (52, u "TYPE"), (0, u "Ljava/lang/Class;"), (0, .class_ 148), (0, u "java/lang/Comparable"), (0, .class_ 150), (0, u "java/lang/constant/Constable"), (0, .class_ 152), (0, u "java/lang/constant/ConstantDesc"), (0, u "POSITIVE_INFINITY"), (1, u "NEGATIVE_INFINITY"), (1, u "NaN"), (1, u "MAX_VALUE"), (0, u "MIN_NORMAL"), (0, u "MIN_VALUE"), (1, u "SIZE"), (0, u "I"), (1, u "PRECISION"), (1, u "MAX_EXPONENT"), (1, u "MIN_EXPONENT"), (1, u "BYTES"), (3, u "serialVersionUID"), (0, u "J")] 101

def k15c0 : Code := { maxStack := 2, maxLocals := 1, code := jdk_118_method_6_code, exceptionTable := #[], attributes := #[] }
def k15m0 : Method := { name := "isNaN", desc := "(F)Z", sig := { parameters := [.float], returnType := some .boolean }, accessFlags := 9, code := some k15c0 }
/-- java/lang/Float -/
def k15 : Class := { plain "java/lang/Float" (some 14) with
  accessFlags := 49
  interfaces := #[5, 7, 8]
  cf := some (fileOf pool15 1 #[] #[{ accessFlags := 9, nameIndex := 61, descriptorIndex := 62, attributes := #[] }] 49 51 #[147, 149, 151] #[{ accessFlags := 25, nameIndex := 153, descriptorIndex := 58, attributes := #[] }, { accessFlags := 25, nameIndex := 155, descriptorIndex := 58, attributes := #[] }, { accessFlags := 25, nameIndex := 157, descriptorIndex := 58, attributes := #[] }, { accessFlags := 25, nameIndex := 159, descriptorIndex := 58, attributes := #[] }, { accessFlags := 25, nameIndex := 160, descriptorIndex := 58, attributes := #[] }, { accessFlags := 25, nameIndex := 161, descriptorIndex := 58, attributes := #[] }, { accessFlags := 25, nameIndex := 163, descriptorIndex := 164, attributes := #[] }, { accessFlags := 25, nameIndex := 166, descriptorIndex := 164, attributes := #[] }, { accessFlags := 25, nameIndex := 168, descriptorIndex := 164, attributes := #[] }, { accessFlags := 25, nameIndex := 170, descriptorIndex := 164, attributes := #[] }, { accessFlags := 25, nameIndex := 172, descriptorIndex := 164, attributes := #[] }, { accessFlags := 25, nameIndex := 145, descriptorIndex := 146, attributes := #[] }, { accessFlags := 18, nameIndex := 57, descriptorIndex := 58, attributes := #[] }, { accessFlags := 26, nameIndex := 176, descriptorIndex := 177, attributes := #[] }, { accessFlags := 4120, nameIndex := 91, descriptorIndex := 92, attributes := #[] }])
  fields := #[{ name := "POSITIVE_INFINITY", type := .float, accessFlags := 25, slot := 0, constantValue := 0 }, { name := "NEGATIVE_INFINITY", type := .float, accessFlags := 25, slot := 1, constantValue := 0 }, { name := "NaN", type := .float, accessFlags := 25, slot := 2, constantValue := 0 }, { name := "MAX_VALUE", type := .float, accessFlags := 25, slot := 3, constantValue := 0 }, { name := "MIN_NORMAL", type := .float, accessFlags := 25, slot := 4, constantValue := 0 }, { name := "MIN_VALUE", type := .float, accessFlags := 25, slot := 5, constantValue := 0 }, { name := "SIZE", type := .int, accessFlags := 25, slot := 6, constantValue := 0 }, { name := "PRECISION", type := .int, accessFlags := 25, slot := 7, constantValue := 0 }, { name := "MAX_EXPONENT", type := .int, accessFlags := 25, slot := 8, constantValue := 0 }, { name := "MIN_EXPONENT", type := .int, accessFlags := 25, slot := 9, constantValue := 0 }, { name := "BYTES", type := .int, accessFlags := 25, slot := 10, constantValue := 0 }, { name := "TYPE", type := (.object "java/lang/Class"), accessFlags := 25, slot := 11, constantValue := 0 }, { name := "value", type := .float, accessFlags := 18, slot := 0, constantValue := 0 }, { name := "serialVersionUID", type := .long, accessFlags := 26, slot := 12, constantValue := 0 }, { name := "$assertionsDisabled", type := .boolean, accessFlags := 4120, slot := 13, constantValue := 0 }]
  methods := #[k15m0]
  instanceTypes := #[.float]
  staticTypes := #[.float, .float, .float, .float, .float, .float, .int, .int, .int, .int, .int, (.object "java/lang/Class"), .long, .boolean]
  resolved := Array.replicate 279 none
  statics := none }

def pool16 : Array CpInfo := pool [(1, .class_ 2), (0, u "java/lang/Integer"), (16, u "digits"), (0, u "[C"), (32, u "numberOfLeadingZeros"), (0, u "(I)I"), (30, u "DigitOnes"), (0, u "[B"), (2, u "DigitTens"), (99, .class_ 190), (0, u "java/lang/Integer$IntegerCache"), (3, u "I"), (8, .class_ 204), (0, u "java/lang/Number"), (2, u "value"), (94, u "TYPE"), (0, u "Ljava/lang/Class;"), (0, .class_ 305), (0, u "java/lang/Comparable"), (0, .class_ 307), (0, u "java/lang/constant/Constable"), (0, .class_ 309), (0, u "java/lang/constant/ConstantDesc"), (0, u "MIN_VALUE"), (1, u "MAX_VALUE"), (3, u "SIZE"), (1, u "BYTES"), (1, u "serialVersionUID"), (0, u "J")] 131

def k16c0 : Code := { maxStack := 3, maxLocals := 2, code := jdk_33_method_47_code, exceptionTable := #[], attributes := #[] }
def k16m0 : Method := { name := "numberOfLeadingZeros", desc := "(I)I", sig := { parameters := [.int], returnType := some .int }, accessFlags := 9, code := some k16c0 }
/-- java/lang/Integer -/
def k16 : Class := { plain "java/lang/Integer" (some 14) with
  accessFlags := 49
  interfaces := #[5, 7, 8]
  cf := some (fileOf pool16 1 #[.nestMembers #[189]] #[{ accessFlags := 9, nameIndex := 53, descriptorIndex := 54, attributes := #[] }] 49 203 #[304, 306, 308] #[{ accessFlags := 25, nameIndex := 310, descriptorIndex := 194, attributes := #[] }, { accessFlags := 25, nameIndex := 312, descriptorIndex := 194, attributes := #[] }, { accessFlags := 25, nameIndex := 302, descriptorIndex := 303, attributes := #[] }, { accessFlags := 24, nameIndex := 19, descriptorIndex := 20, attributes := #[] }, { accessFlags := 24, nameIndex := 89, descriptorIndex := 86, attributes := #[] }, { accessFlags := 24, nameIndex := 85, descriptorIndex := 86, attributes := #[] }, { accessFlags := 18, nameIndex := 207, descriptorIndex := 194, attributes := #[] }, { accessFlags := 25, nameIndex := 316, descriptorIndex := 194, attributes := #[] }, { accessFlags := 25, nameIndex := 318, descriptorIndex := 194, attributes := #[] }, { accessFlags := 26, nameIndex := 320, descriptorIndex := 321, attributes := #[] }])
  fields := #[{ name := "MIN_VALUE", type := .int, accessFlags := 25, slot := 0, constantValue := 0 }, { name := "MAX_VALUE", type := .int, accessFlags := 25, slot := 1, constantValue := 0 }, { name := "TYPE", type := (.object "java/lang/Class"), accessFlags := 25, slot := 2, constantValue := 0 }, { name := "digits", type := (.array .char), accessFlags := 24, slot := 3, constantValue := 0 }, { name := "DigitTens", type := (.array .byte), accessFlags := 24, slot := 4, constantValue := 0 }, { name := "DigitOnes", type := (.array .byte), accessFlags := 24, slot := 5, constantValue := 0 }, { name := "value", type := .int, accessFlags := 18, slot := 0, constantValue := 0 }, { name := "SIZE", type := .int, accessFlags := 25, slot := 6, constantValue := 0 }, { name := "BYTES", type := .int, accessFlags := 25, slot := 7, constantValue := 0 }, { name := "serialVersionUID", type := .long, accessFlags := 26, slot := 8, constantValue := 0 }]
  methods := #[k16m0]
  instanceTypes := #[.int]
  staticTypes := #[.int, .int, (.object "java/lang/Class"), (.array .char), (.array .byte), (.array .byte), .int, .int, .long]
  resolved := Array.replicate 453 none
  statics := none }

def pool17 : Array CpInfo := pool [(1, .methodref 2 3), (0, .class_ 4), (0, .nameAndType 5 6), (0, u "java/lang/Object"), (0, u "<init>"), (0, u "()V"), (0, .fieldref 8 9), (0, .class_ 10), (0, .nameAndType 11 12), (0, u "com/example/lissage/lissage/Postings"), (0, u "index"), (0, u "Lcom/example/lissage/lissage/Index;"), (0, .fieldref 8 14), (0, .nameAndType 15 16), (0, u "start"), (0, u "I"), (0, .fieldref 8 18), (0, .nameAndType 19 16), (0, u "end"), (0, .fieldref 21 22), (0, .class_ 23), (0, .nameAndType 24 25), (0, u "com/example/lissage/lissage/Index"), (0, u "postingStarts"), (0, u "[I"), (2, u "collectionFrequency"), (0, u "()J"), (29, u "(Lcom/example/lissage/lissage/Index;II)V")] 13

def k17c0 : Code := { maxStack := 2, maxLocals := 4, code := prog_31_method_1_code, exceptionTable := #[], attributes := #[] }
def k17m0 : Method := { name := "<init>", desc := "(Lcom/example/lissage/lissage/Index;II)V", sig := { parameters := [(.object "com/example/lissage/lissage/Index"), .int, .int], returnType := none }, accessFlags := 0, code := some k17c0 }
def k17c1 : Code := { maxStack := 3, maxLocals := 1, code := prog_31_method_3_code, exceptionTable := #[], attributes := #[] }
def k17m1 : Method := { name := "collectionFrequency", desc := "()J", sig := { parameters := [], returnType := some .long }, accessFlags := 1, code := some k17c1 }
/-- com/example/lissage/lissage/Postings -/
def k17 : Class := { plain "com/example/lissage/lissage/Postings" (some 0) with
  accessFlags := 49
  interfaces := #[]
  cf := some (fileOf pool17 8 #[] #[{ accessFlags := 0, nameIndex := 5, descriptorIndex := 59, attributes := #[] }, { accessFlags := 1, nameIndex := 28, descriptorIndex := 29, attributes := #[] }] 49 2 #[] #[{ accessFlags := 18, nameIndex := 11, descriptorIndex := 12, attributes := #[] }, { accessFlags := 18, nameIndex := 15, descriptorIndex := 16, attributes := #[] }, { accessFlags := 18, nameIndex := 19, descriptorIndex := 16, attributes := #[] }])
  fields := #[{ name := "index", type := (.object "com/example/lissage/lissage/Index"), accessFlags := 18, slot := 0, constantValue := 0 }, { name := "start", type := .int, accessFlags := 18, slot := 1, constantValue := 0 }, { name := "end", type := .int, accessFlags := 18, slot := 2, constantValue := 0 }]
  methods := #[k17m0, k17m1]
  instanceTypes := #[(.object "com/example/lissage/lissage/Index"), .int, .int]
  staticTypes := #[]
  resolved := Array.replicate 73 none
  statics := none }

/-- the primitive byte -/
def k18 : Class := { plain "byte" none with kind := .primitive 'B', accessFlags := 0x411 }
/-- [B -/
def k19 : Class := { plain "[B" (some 0) with kind := .array 18 .byte, interfaces := #[12, 4], accessFlags := 1041 }

/-- the primitive int -/
def k20 : Class := { plain "int" none with kind := .primitive 'I', accessFlags := 0x411 }
/-- [I -/
def k21 : Class := { plain "[I" (some 0) with kind := .array 20 .int, interfaces := #[12, 4], accessFlags := 1041 }

/-- [Ljava/lang/String; -/
def k22 : Class := { plain "[Ljava/lang/String;" (some 0) with kind := .array 9 (.object "java/lang/String"), interfaces := #[12, 4], accessFlags := 1041 }

def heap : Heap := #[]
def classes : Array Class := #[k0, k1, k2, k3, k4, k5, k6, k7, k8, k9, k10, k11, k12, k13, k14, k15, k16, k17, k18, k19, k20, k21, k22]
def interned : List (Array UInt16 × Addr) := []
def slotsUsed : Nat := 0
def theMethod : MethodId := ⟨1, 1⟩
def args0 : Array Value := #[.int 5, .int 5, .int 5, .int 5, .int 5, .int 5]
def aboutOver (below : List Frame) : State where
  vm := { classes := classes, interned := interned.toArray }
  heap := heap
  slotsUsed := slotsUsed
  threads := #[{ frames := .invoking theMethod args0 :: below }]
def below0 : List Frame := [.native { method := ⟨0, 0⟩, args := #[] }]
def about1 : State := aboutOver below0
def p0 : Program := .bare "" "" ""
def e0 : Env := launch0.env 0 0 0
theorem w_frames : about1.frames = Frame.invoking theMethod args0 :: below0 := rfl
set_option maxRecDepth 65536 in
theorem w_args : argsFit about1.vm theMethod args0 = true := by decide +kernel
set_option maxRecDepth 65536 in
theorem w_heap : heapFits about1 = true := by decide +kernel
set_option maxRecDepth 65536 in
theorem w_runnable : about1.curStatus? = some .runnable := by decide +kernel
set_option maxRecDepth 65536 in
theorem w_alone : about1.alone = true := by decide +kernel
set_option maxRecDepth 65536 in
theorem w_named : about1.methodNamed? x = some theMethod := by decide +kernel
set_option maxRecDepth 65536 in
theorem w_hears : about1.hears theMethod below0 = true := by decide +kernel
set_option maxRecDepth 65536 in
theorem w_ripe : about1.ripe theMethod args0 below0 = true := by decide +kernel
theorem w_running : about1.status = .running := rfl
set_option maxRecDepth 65536 in
theorem w_room : about1.hasRoom e0.platform room_1 = true :=
  launch0.hasRoom_least _ room_1 (by decide +kernel) (by decide +kernel) (by decide +kernel) (by decide +kernel) (by decide +kernel) (by decide +kernel)
theorem allAtoms_all (ts : List Jvm.Cond) (a : Array Jvm.Value) (st : Jvm.State) : (allAtoms ts).before a st = ts.all (fun c => c.before a st) := by
  induction ts with
  | nil => rfl
  | cons c t ih =>
    show (Jvm.Cond.and c (allAtoms t)).before a st = _
    rw [Jvm.Cond.before_and, ih, List.all_cons]
def words1 : List Jvm.Cond := Jvm.Cond.code x code maxLocals ret :: tables_1
/-- a 'code' word, met by the world's own term for the bytes: nothing is compared byte by byte -/
theorem code_word {y : MethodName} {bytes : ByteArray} {mx : Nat} {rt : Option FieldType} {a : Array Value} {s : State} {m : MethodId} {meth : Method} {c : Code} (h1 : s.methodNamed? y = some m) (h2 : s.vm.method? m = some meth) (h3 : meth.code = some c) (h4 : c.code = bytes)
    (h5 : (c.maxLocals == mx && c.exceptionTable.isEmpty && decide (c.maxStack ≤ mostOperands) && decide (meth.sig.returnType = rt) && !meth.locks && decide (parseMethodDescriptor y.desc = some meth.sig)) = true) : (Jvm.Cond.code y bytes mx rt).before a s = true := by
  simp only [Bool.and_eq_true, beq_iff_eq, Bool.not_eq_true', decide_eq_true_eq] at h5
  obtain ⟨⟨⟨⟨⟨g1, g2⟩, g3⟩, g4⟩, g5⟩, g6⟩ := h5
  simp [Cond.before, Cond.holds, Cond.value, h1, h2, h3, h4, g1, g2, g3, g4, g5, g6]
def isCode : Jvm.Cond → Bool
  | .code _ _ _ _ => true
  | _ => false
theorem all_split {L : List Jvm.Cond} {P : Jvm.Cond → Bool} (h1 : L.all (fun c => isCode c || P c) = true) (h2 : ∀ c ∈ L.filter isCode, P c = true) : L.all P = true := by
  refine List.all_eq_true.mpr fun c hc => ?_
  have h := List.all_eq_true.mp h1 c hc
  rcases Bool.eq_false_or_eq_true (isCode c) with hi | hi
  · exact h2 c (List.mem_filter.mpr ⟨hc, hi⟩)
  · simpa [hi] using h
set_option maxRecDepth 65536 in
theorem w_c0 : (Jvm.Cond.code x code maxLocals ret).before args0 about1 = true := code_word (m := ⟨1, 1⟩) (meth := k1m1) (c := k1c1) (by decide +kernel) rfl rfl rfl (by decide +kernel)
set_option maxRecDepth 65536 in
theorem w_c1 : (Jvm.Cond.code ({ cls := "java/lang/Math", name := "min", desc := "(II)I" } : Jvm.MethodName) jdk_29_method_69_code (2 : Nat) (Option.some Jvm.ClassFile.FieldType.int)).before args0 about1 = true := code_word (m := ⟨2, 2⟩) (meth := k2m2) (c := k2c2) (by decide +kernel) rfl rfl rfl (by decide +kernel)
set_option maxRecDepth 65536 in
theorem w_c2 : (Jvm.Cond.code ({ cls := "java/lang/Math", name := "max", desc := "(II)I" } : Jvm.MethodName) jdk_29_method_65_code (2 : Nat) (Option.some Jvm.ClassFile.FieldType.int)).before args0 about1 = true := code_word (m := ⟨2, 1⟩) (meth := k2m1) (c := k2c1) (by decide +kernel) rfl rfl rfl (by decide +kernel)
set_option maxRecDepth 65536 in
theorem w_c3 : (Jvm.Cond.code ({ cls := "com/example/lissage/lissage/Index", name := "<init>", desc := "([Ljava/lang/String;[I[I[Ljava/lang/String;[I[I[I[I)V" } : Jvm.MethodName) prog_16_method_1_code (10 : Nat) (Option.none : Option Jvm.ClassFile.FieldType)).before args0 about1 = true := code_word (m := ⟨3, 0⟩) (meth := k3m0) (c := k3c0) (by decide +kernel) rfl rfl rfl (by decide +kernel)
set_option maxRecDepth 65536 in
theorem w_c4 : (Jvm.Cond.code ({ cls := "java/lang/Object", name := "<init>", desc := "()V" } : Jvm.MethodName) object_method_1_code (1 : Nat) (Option.none : Option Jvm.ClassFile.FieldType)).before args0 about1 = true := code_word (m := ⟨0, 0⟩) (meth := k0m0) (c := k0c0) (by decide +kernel) rfl rfl rfl (by decide +kernel)
set_option maxRecDepth 65536 in
theorem w_c5 : (Jvm.Cond.code ({ cls := "java/util/HashMap", name := "<init>", desc := "(I)V" } : Jvm.MethodName) jdk_69_method_6_code (2 : Nat) (Option.none : Option Jvm.ClassFile.FieldType)).before args0 about1 = true := code_word (m := ⟨13, 2⟩) (meth := k13m2) (c := k13c2) (by decide +kernel) rfl rfl rfl (by decide +kernel)
set_option maxRecDepth 65536 in
theorem w_c6 : (Jvm.Cond.code ({ cls := "java/util/HashMap", name := "<init>", desc := "(IF)V" } : Jvm.MethodName) jdk_69_method_5_code (3 : Nat) (Option.none : Option Jvm.ClassFile.FieldType)).before args0 about1 = true := code_word (m := ⟨13, 1⟩) (meth := k13m1) (c := k13c1) (by decide +kernel) rfl rfl rfl (by decide +kernel)
set_option maxRecDepth 65536 in
theorem w_c7 : (Jvm.Cond.code ({ cls := "java/util/AbstractMap", name := "<init>", desc := "()V" } : Jvm.MethodName) jdk_71_method_1_code (1 : Nat) (Option.none : Option Jvm.ClassFile.FieldType)).before args0 about1 = true := code_word (m := ⟨11, 0⟩) (meth := k11m0) (c := k11c0) (by decide +kernel) rfl rfl rfl (by decide +kernel)
set_option maxRecDepth 65536 in
theorem w_c8 : (Jvm.Cond.code ({ cls := "java/lang/Float", name := "isNaN", desc := "(F)Z" } : Jvm.MethodName) jdk_118_method_6_code (1 : Nat) (Option.some Jvm.ClassFile.FieldType.boolean)).before args0 about1 = true := code_word (m := ⟨15, 0⟩) (meth := k15m0) (c := k15c0) (by decide +kernel) rfl rfl rfl (by decide +kernel)
set_option maxRecDepth 65536 in
theorem w_c9 : (Jvm.Cond.code ({ cls := "java/util/HashMap", name := "tableSizeFor", desc := "(I)I" } : Jvm.MethodName) jdk_69_method_4_code (2 : Nat) (Option.some Jvm.ClassFile.FieldType.int)).before args0 about1 = true := code_word (m := ⟨13, 0⟩) (meth := k13m0) (c := k13c0) (by decide +kernel) rfl rfl rfl (by decide +kernel)
set_option maxRecDepth 65536 in
theorem w_c10 : (Jvm.Cond.code ({ cls := "java/lang/Integer", name := "numberOfLeadingZeros", desc := "(I)I" } : Jvm.MethodName) jdk_33_method_47_code (2 : Nat) (Option.some Jvm.ClassFile.FieldType.int)).before args0 about1 = true := code_word (m := ⟨16, 0⟩) (meth := k16m0) (c := k16c0) (by decide +kernel) rfl rfl rfl (by decide +kernel)
set_option maxRecDepth 65536 in
theorem w_c11 : (Jvm.Cond.code ({ cls := "com/example/lissage/lissage/Postings", name := "<init>", desc := "(Lcom/example/lissage/lissage/Index;II)V" } : Jvm.MethodName) prog_31_method_1_code (4 : Nat) (Option.none : Option Jvm.ClassFile.FieldType)).before args0 about1 = true := code_word (m := ⟨17, 0⟩) (meth := k17m0) (c := k17c0) (by decide +kernel) rfl rfl rfl (by decide +kernel)
set_option maxRecDepth 65536 in
theorem w_c12 : (Jvm.Cond.code ({ cls := "com/example/lissage/lissage/Postings", name := "collectionFrequency", desc := "()J" } : Jvm.MethodName) prog_31_method_3_code (1 : Nat) (Option.some Jvm.ClassFile.FieldType.long)).before args0 about1 = true := code_word (m := ⟨17, 1⟩) (meth := k17m1) (c := k17c1) (by decide +kernel) rfl rfl rfl (by decide +kernel)
def codes1 : List Jvm.Cond := [Jvm.Cond.code x code maxLocals ret, Jvm.Cond.code ({ cls := "java/lang/Math", name := "min", desc := "(II)I" } : Jvm.MethodName) jdk_29_method_69_code (2 : Nat) (Option.some Jvm.ClassFile.FieldType.int), Jvm.Cond.code ({ cls := "java/lang/Math", name := "max", desc := "(II)I" } : Jvm.MethodName) jdk_29_method_65_code (2 : Nat) (Option.some Jvm.ClassFile.FieldType.int), Jvm.Cond.code ({ cls := "com/example/lissage/lissage/Index", name := "<init>", desc := "([Ljava/lang/String;[I[I[Ljava/lang/String;[I[I[I[I)V" } : Jvm.MethodName) prog_16_method_1_code (10 : Nat) (Option.none : Option Jvm.ClassFile.FieldType), Jvm.Cond.code ({ cls := "java/lang/Object", name := "<init>", desc := "()V" } : Jvm.MethodName) object_method_1_code (1 : Nat) (Option.none : Option Jvm.ClassFile.FieldType), Jvm.Cond.code ({ cls := "java/util/HashMap", name := "<init>", desc := "(I)V" } : Jvm.MethodName) jdk_69_method_6_code (2 : Nat) (Option.none : Option Jvm.ClassFile.FieldType), Jvm.Cond.code ({ cls := "java/util/HashMap", name := "<init>", desc := "(IF)V" } : Jvm.MethodName) jdk_69_method_5_code (3 : Nat) (Option.none : Option Jvm.ClassFile.FieldType), Jvm.Cond.code ({ cls := "java/util/AbstractMap", name := "<init>", desc := "()V" } : Jvm.MethodName) jdk_71_method_1_code (1 : Nat) (Option.none : Option Jvm.ClassFile.FieldType), Jvm.Cond.code ({ cls := "java/lang/Float", name := "isNaN", desc := "(F)Z" } : Jvm.MethodName) jdk_118_method_6_code (1 : Nat) (Option.some Jvm.ClassFile.FieldType.boolean), Jvm.Cond.code ({ cls := "java/util/HashMap", name := "tableSizeFor", desc := "(I)I" } : Jvm.MethodName) jdk_69_method_4_code (2 : Nat) (Option.some Jvm.ClassFile.FieldType.int), Jvm.Cond.code ({ cls := "java/lang/Integer", name := "numberOfLeadingZeros", desc := "(I)I" } : Jvm.MethodName) jdk_33_method_47_code (2 : Nat) (Option.some Jvm.ClassFile.FieldType.int), Jvm.Cond.code ({ cls := "com/example/lissage/lissage/Postings", name := "<init>", desc := "(Lcom/example/lissage/lissage/Index;II)V" } : Jvm.MethodName) prog_31_method_1_code (4 : Nat) (Option.none : Option Jvm.ClassFile.FieldType), Jvm.Cond.code ({ cls := "com/example/lissage/lissage/Postings", name := "collectionFrequency", desc := "()J" } : Jvm.MethodName) prog_31_method_3_code (1 : Nat) (Option.some Jvm.ClassFile.FieldType.long)]
set_option maxRecDepth 65536 in
theorem codes_eq : words1.filter isCode = codes1 := rfl
theorem w_codes : ∀ c ∈ words1.filter isCode, c.before args0 about1 = true := by
  rw [codes_eq]
  intro c hc
  simp only [codes1, List.mem_cons, List.not_mem_nil, or_false] at hc
  rcases hc with rfl | rfl | rfl | rfl | rfl | rfl | rfl | rfl | rfl | rfl | rfl | rfl | rfl
  · exact w_c0
  · exact w_c1
  · exact w_c2
  · exact w_c3
  · exact w_c4
  · exact w_c5
  · exact w_c6
  · exact w_c7
  · exact w_c8
  · exact w_c9
  · exact w_c10
  · exact w_c11
  · exact w_c12
set_option maxRecDepth 65536 in
theorem w_t1 : (words1.take 24).all (fun c => isCode c || c.before args0 about1) = true := by decide +kernel
set_option maxRecDepth 65536 in
theorem w_t2 : ((words1.drop 24).take 24).all (fun c => isCode c || c.before args0 about1) = true := by decide +kernel
set_option maxRecDepth 65536 in
theorem w_t3 : (((words1.drop 24).drop 24).take 24).all (fun c => isCode c || c.before args0 about1) = true := by decide +kernel
set_option maxRecDepth 65536 in
theorem w_t4 : (((words1.drop 24).drop 24).drop 24).all (fun c => isCode c || c.before args0 about1) = true := by decide +kernel
theorem w_tables : (allAtoms (Jvm.Cond.code x code maxLocals ret :: tables_1)).before args0 about1 = true := by
  rw [allAtoms_all]
  show words1.all (fun c => c.before args0 about1) = true
  refine all_split ?_ w_codes
  rw [← List.take_append_drop 24 words1, List.all_append, w_t1, ← List.take_append_drop 24 (words1.drop 24), List.all_append, w_t2, ← List.take_append_drop 24 ((words1.drop 24).drop 24), List.all_append, w_t3, w_t4]
  rfl
set_option maxRecDepth 65536 in
theorem w_case : (Jvm.Cond.and given_1 narrow_1).before args0 about1 = true := by decide +kernel
theorem w_applies : (headSpec (Jvm.Cond.code x code maxLocals ret :: tables_1) room_1).applies x e0.platform about1 = true :=
  (Spec.applies_iff w_frames).mpr ⟨w_running, w_runnable, w_alone, w_named, w_hears, w_ripe, w_room, w_tables⟩
theorem atStart : AtStart classFile x code maxLocals ret World_1 tables_1 room_1 Calls_1 rest_1 Pre_1 launch0 p0 e0 about1 theMethod args0 below0 :=
  ⟨lists_1, trivial, launch0.admits_env _ _ _, launch0.least_env, fairChoices_fair.cas, fairChoices_fair.clock, w_frames, w_args, w_heap, w_applies, trivial, trivial, w_case⟩
end start1
theorem witness_1 : WitnessClaimed_1 := ⟨start1.p0, start1.e0, start1.about1, start1.theMethod, start1.args0, start1.below0, start1.atStart⟩
end Jvm.Pilot.@@N@@
