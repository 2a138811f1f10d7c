import JvmDerived
import JvmDerived.Pilot.@@N@@Statement
import JvmDerived.Pilot.@@N@@Code
set_option linter.unusedVariables false
set_option linter.unusedSimpArgs false

namespace Jvm.Pilot.@@N@@
open Jvm Jvm.ClassFile Sem Op Lib Jvm.Free Jvm.Stand Jvm.LawKit Jvm.RoadKit Bundle Jvm.Pilot.@@N@@.Jvm.D
/-- the run from A comes to a state of which P holds -/
def own_Go (tb : Tables) (e : Env) (below : List Frame) (P : State → Prop) (A : State) : Prop := ∃ U, Steps tb e below A U ∧ P U
theorem own_go {tb : Tables} {e : Env} {below : List Frame} {P : State → Prop} {A B : State} (h : ∀ t, Steps tb e below B t → Steps tb e below A t) (k : own_Go tb e below P B) : own_Go tb e below P A := by
  obtain ⟨U, h1, h2⟩ := k; exact ⟨U, h U h1, h2⟩
theorem own_goT {tb : Tables} {e : Env} {below : List Frame} {P : State → Prop} {A B : State} (h : Steps tb e below A B) (k : own_Go tb e below P B) : own_Go tb e below P A := by
  obtain ⟨U, h1, h2⟩ := k; exact ⟨U, h.trans h1, h2⟩
/-- the body's end: it returned, and Q says of what -/
def own_End (s : State) (below : List Frame) (Q : Option Value → Heap → List Loc → Prop) (cells slots : Nat) (t : State) : Prop := ∃ o, t.status = .running ∧ Ended t below o ∧ ∃ v L, o = .returned v ∧ Q v t.heap L ∧ FrameEnd s o t L cells slots
theorem own_body {tb : Tables} {e : Env} {below : List Frame} {s A : State} {Q : Option Value → Heap → List Loc → Prop} {cells slots : Nat} (k : own_Go tb e below (own_End s below Q cells slots) A) :
    ∃ s₂ o, Steps tb e below A s₂ ∧ s₂.status = .running ∧ Ended s₂ below o ∧ ∃ v L, o = .returned v ∧ Q v s₂.heap L ∧ FrameEnd s o s₂ L cells slots := by
  obtain ⟨U, h1, o, h2, h3, h4⟩ := k; exact ⟨U, o, h1, h2, h3, h4⟩
theorem own_ret {p : Program} {l : Launch} {e : Env} {R : Room} {s : State} {m : MethodId} {args : Array Value} {below : List Frame} {meth : Method} {c : Code} {T A : State} {locs : List Loc} {cells slots : Nat} {Q : Option Value → Heap → List Loc → Prop} {cs ss : Nat}
    (X : Stand p l e R s m args below meth c T locs cells slots) (hlk : meth.locks = false) {v : Option Value} (hv : meth.sig.returnType = none → v = none)
    (hst : ∀ fs : List Frame, (∀ (f : JFrame) (acts : List Action), f.method = m → f.locked = none → f.entered = [] → (doReturn e (T.setTop f) acts v).1 = T.setFrames fs) → Steps p.tables e below A (T.setFrames fs))
    (hQ : Q v T.heap locs) (hc : cells ≤ cs) (hs : slots ≤ ss) : own_Go p.tables e below (own_End s below Q cs ss) A := by
  obtain ⟨fs, hr, hrun, hended, hW, hsame⟩ := X.leave (v := v) hv hlk
  exact ⟨_, hst fs hr, _, hrun, hended, _, _, rfl, hQ, ⟨_, rfl⟩, hW, hsame.mono hc hs⟩
theorem own_ef (m : MethodId) (as : Array Value) (n : Nat) (Ls : Array Slot) (h : argsToLocals as n = Ls) : entryFrame m as n = mkF m 0 Ls [] := by rw [← h]; rfl
/-- a body's contract in this family -/
abbrev own_Met (l : Launch) (Z : State) (ws : List Jvm.Cond) (y : MethodName) (bytes : ByteArray) (maxL : Nat) (ret : Option FieldType) (rm : Room) (as : Array Value) (h0 : Heap) (Q : Option Value → Heap → List Loc → Prop) : Prop :=
  MetFree l y (head1 (Jvm.Cond.code y bytes maxL ret :: ws) rm) (fun a U => a = as ∧ Z.Warmed39 U.vm ∧ U.heap = h0) (fun _ _ _ _ _ => True) (fun _ U o U' => ∃ v L, o = .returned v ∧ Q v U'.heap L ∧ FrameEnd U o U' L rm.cells rm.slots)
theorem own_sta_keep {Z : State} {h h' : Heap} {C n d : String} {v : Value} {ws : List Addr} (F : Sta Z h C n d v) (K : Keep h h' ws) (q : ∀ a ∈ ws, ∃ C', Exa Z h a C') : Sta Z h' C n d v := by
  obtain ⟨cf, i, k, f, st, cell, h1, h2, h3, h4, h5, h6, h7⟩ := F
  refine ⟨cf, i, k, f, st, cell, h1, h2, h3, h4, K.2.1 st cell h5 fun hm => ?_, h6, h7⟩
  obtain ⟨C', cell', k', e1, -, -, e4, -⟩ := q st hm
  cases h5.symm.trans e1
  rw [e4] at h6; cases h6
theorem own_back {p : Program} {l : Launch} {e : Env} {R : Room} {s : State} {args : Array Value} {below : List Frame} {Z : State} {a0 : Array Value} {h : Heap} {y : MethodName} {bytes : ByteArray} {maxL : Nat} {ret : Option FieldType} {rm : Room} {len W : Nat} {as' : Array Value} {Q : Option Value → Heap → List Loc → Prop}
    (hM : own_Met l Z [] y bytes maxL ret rm as' h Q) (hZ : Z.Warmed39 s.vm) (wc : (Cond.code y bytes maxL ret).before a0 Z = true) (wz : (Cond.initialized y.cls).before a0 Z = true) (hf : rm.frames + 1 ≤ R.frames) (hl : W + (maxL + 11) + rm.locals ≤ R.locals) :
    Back l R p e below s args y len W (fun A a => a = as' ∧ A.U.heap = h ∧ A.cells + rm.cells ≤ R.cells ∧ A.slots + rm.slots ≤ R.slots)
      (fun A _ v B => ∃ L, Q v B.U.heap L ∧ B.locs = A.locs ++ L ∧ B.cells = A.cells + rm.cells ∧ B.slots = A.slots + rm.slots) :=
  backOf (Q := Q) hM hZ wc wz hf hl
theorem own_hp {T : State} {h : Heap} {a : Addr} {cl : Cell} (eT : T.heap = h) (h1 : h[a]? = some cl) : T.heap[a]? = some cl := by rw [eT]; exact h1
def own_sl : List Value → List Slot
  | [] => []
  | v :: r => if v.category = 2 then .val v :: .second :: own_sl r else .val v :: own_sl r
def own_pu (acc : Array Slot) (v : Value) : Array Slot := if v.category = 2 then (acc.push (.val v)).push .second else acc.push (.val v)
theorem own_al1 (l : List Value) (a : Array Slot) : (l.foldl own_pu a).toList = a.toList ++ own_sl l := by
  induction l generalizing a with
  | nil => simp [own_sl]
  | cons v r ih =>
    rw [List.foldl_cons, ih]
    by_cases h : v.category = 2 <;> simp [own_sl, own_pu, h]
theorem own_al (l : List Value) (n : Nat) (L : List Slot) (h : own_sl l ++ List.replicate (n - (own_sl l).length) .unset = L) : argsToLocals l.toArray n = L.toArray := by
  have q : argsToLocals l.toArray n = l.foldl own_pu #[] ++ Array.replicate (n - (l.foldl own_pu #[]).size) .unset := by
    rw [← List.foldl_toArray]; rfl
  have k := own_al1 l #[]
  rw [q, ← h]
  apply Array.toList_inj.mp
  rw [Array.toList_append, k, ← Array.length_toList, k]; simp

def own_ab (n o u d : Int64) : Int64 := if o < n + 32 then ((n + 32 + u - 1) / u) * u else if d < n then 2 * n else n
theorem own_len (x : Int64) : 0 ≤ (x &&& 2147483647).toInt ∧ (x &&& 2147483647).toInt ≤ 2147483647 := by
  have h := c_maskL x 2147483647 31 (by decide) (by decide); omega
theorem own_unit (x : Int64) : 1 ≤ (if (1 : Int64) < (x &&& 2147483647) then (x &&& 2147483647) else 1).toInt ∧ (if (1 : Int64) < (x &&& 2147483647) then (x &&& 2147483647) else 1).toInt ≤ 2147483647 := by
  have h := own_len x
  have e1 : (1 : Int64).toInt = 1 := rfl
  split
  · rename_i q; rw [Int64.lt_iff_toInt_lt, e1] at q; omega
  · rw [e1]; omega
theorem own_up {n u : Int64} (h1 : 0 ≤ n.toInt) (h2 : n.toInt ≤ 2147483647) (h3 : 1 ≤ u.toInt) (h4 : u.toInt ≤ 2147483647) :
    (((n + 32 + u - 1) / u) * u - ((((n + 32 + u - 1) / u) * u) / u) * u) = 0 ∧ ¬ ((n + 32 + u - 1) / u) * u < n + 32 ∧ ((n + 32 + u - 1) / u) * u - (n + 32) < u := by
  have e1 : (1 : Int64).toInt = 1 := rfl
  have e32 : (32 : Int64).toInt = 32 := rfl
  have a1 := c_ladd n 32; have r1 := rng64 (n + 32)
  have a2 := c_ladd (n + 32) u; have r2 := rng64 (n + 32 + u)
  have a3 := c_lsub (n + 32 + u) 1; have r3 := rng64 (n + 32 + u - 1)
  rw [e32] at a1; rw [e1] at a3
  have hu : u ≠ -1 := fun q => by rw [q] at h3; revert h3; decide
  have b1 : (n + 32).toInt = n.toInt + 32 := by omega
  have b3 : (n + 32 + u - 1).toInt = n.toInt + 32 + u.toInt - 1 := by omega
  have a4 := (c_ldiv (n + 32 + u - 1) u u.toInt rfl hu).1 (by omega)
  rw [b3] at a4
  generalize hQ : (n + 32 + u - 1) / u = Q at a4 ⊢
  generalize n.toInt = N at *
  generalize hU : u.toInt = U at *
  have d1 := Int.ediv_mul_le (N + 32 + U - 1) (show U ≠ 0 by omega)
  have d2 := Int.lt_ediv_add_one_mul_self (N + 32 + U - 1) (show 0 < U by omega)
  rw [← a4] at d1 d2
  have d3 : 0 ≤ Q.toInt := by rw [a4]; exact Int.ediv_nonneg (by omega) (by omega)
  have d4 : (Q.toInt + 1) * U = Q.toInt * U + U := by rw [Int.add_mul, Int.one_mul]
  rw [d4] at d2
  have a5 := c_lmul Q u; have r5 := rng64 (Q * u)
  rw [hU] at a5
  have d0 : 0 ≤ Q.toInt * U := Int.mul_nonneg d3 (by omega)
  have b5 : (Q * u).toInt = Q.toInt * U := by omega
  have a6 := (c_ldiv (Q * u) u u.toInt rfl hu).1 (by omega)
  rw [b5, hU, Int.mul_ediv_cancel _ (show U ≠ 0 by omega)] at a6
  have a7 : (Q * u) / u = Q := Int64.toInt_inj.mp a6
  refine ⟨?_, ?_, ?_⟩
  · rw [a7]; apply Int64.toInt_inj.mp
    have := c_lsub (Q * u) (Q * u); have := rng64 (Q * u - Q * u)
    have e0 : (0 : Int64).toInt = 0 := rfl
    omega
  · rw [Int64.lt_iff_toInt_lt, b5, b1]; omega
  · have a8 := c_lsub (Q * u) (n + 32); have r8 := rng64 (Q * u - (n + 32))
    rw [Int64.lt_iff_toInt_lt, hU]; omega
theorem own_dbl {n : Int64} : 2 * n = n + n := by
  apply Int64.toInt_inj.mp
  have a1 := c_lmul 2 n; have a2 := c_ladd n n; have r1 := rng64 (2 * n); have r2 := rng64 (n + n); have r3 := rng64 n
  have e2 : (2 : Int64).toInt = 2 := rfl
  rw [e2] at a1; omega
theorem own_nz {u : Int64} (h : 1 ≤ u.toInt) : u ≠ 0 := fun q => by rw [q] at h; revert h; decide
theorem own_d1_0 : decode jdk_29_method_66_code 0 = .ok (.lload_n 0, 1) := by decide +kernel
theorem own_d1_1 : decode jdk_29_method_66_code 1 = .ok (.lload_n 2, 1) := by decide +kernel
theorem own_d1_2 : decode jdk_29_method_66_code 2 = .ok (.lcmp, 1) := by decide +kernel
theorem own_d1_3 : decode jdk_29_method_66_code 3 = .ok (.ifCond .lt 7, 3) := by decide +kernel
theorem own_d1_6 : decode jdk_29_method_66_code 6 = .ok (.lload_n 0, 1) := by decide +kernel
theorem own_d1_7 : decode jdk_29_method_66_code 7 = .ok (.goto 4, 3) := by decide +kernel
theorem own_d1_10 : decode jdk_29_method_66_code 10 = .ok (.lload_n 2, 1) := by decide +kernel
theorem own_d1_11 : decode jdk_29_method_66_code 11 = .ok (.lreturn, 1) := by decide +kernel
set_option maxRecDepth 65536 in
set_option maxHeartbeats 40000000 in
theorem own_rmM (l : Launch) (Z : State) (a0 : Array Value) (hw : ∀ d ∈ tables_1, d.before a0 Z = true) (q1 : Int64) (q2 : Int64) (h0 : Heap) (n0 : Nat) (Z0 : n0 ≤ h0.size)  :
    own_Met l Z [] (⟨"java/lang/Math", "max", "(JJ)J"⟩ : MethodName) jdk_29_method_66_code 4 (some .long) ({ frames := 0, cells := 0, slots := 0, locals := 0 } : Room) #[(.long q1), (.long q2)] h0 (fun v h L => v = some (.long (if q1 < q2 then q2 else q1)) ∧ Fr n0 L ∧ h = h0) := by
  refine MetFree.of_bodySF (Jvm.Free.JP.mathPlain rfl (by decide +kernel)) hisR ?_
  intro p e s m args below meth c s₁ Bd hml0 hP hK
  obtain ⟨rfl, hZ, hh⟩ := hP
  have hx := Bd.exec
  have hby := Bd.bytes
  have hml : c.maxLocals = 4 := hml0
  have hown : s.vm.findClass "java/lang/Math" = some m.cls := findClass_of_methodNamed Bd.named
  have hnm := (name_of_methodNamed Bd.named Bd.method).1
  have hlk : meth.locks = false := Bd.notSynchronized
  have X0 : Stand p l e ({ frames := 0, cells := 0, slots := 0, locals := 0 } : Room) s m #[(.long q1), (.long q2)] below meth c s₁ [] 0 0 := Stand.of_body Bd
  have e0 : s₁.heap = h0 := by rw [← hh, Bd.state]; rfl
  have N0 := Fr.nil n0
  refine own_body (Q := fun v h L => v = some (.long (if q1 < q2 then q2 else q1)) ∧ Fr n0 L ∧ h = h0) ?_
  refine own_go (fun t k => castTop (own_ef m #[(.long q1), (.long q2)] 4 #[.val (.long q1), .second, .val (.long q2), .second] (own_al [(.long q1), (.long q2)] 4 [.val (.long q1), .second, .val (.long q2), .second] rfl)) k) ?_
  show own_Go _ _ _ _ (s₁.setTop (mkF m 0 #[.val (.long q1), .second, .val (.long q2), .second] []))
  refine own_go (fun _ k => XS.lloadN X0.here hx rfl (hb hby own_d1_0) rfl k) ?_
  show own_Go _ _ _ _ (s₁.setTop (mkF m 1 #[.val (.long q1), .second, .val (.long q2), .second] [(.long q1)]))
  refine own_go (fun _ k => XS.lloadN X0.here hx rfl (hb hby own_d1_1) rfl k) ?_
  show own_Go _ _ _ _ (s₁.setTop (mkF m 2 #[.val (.long q1), .second, .val (.long q2), .second] [(.long q2), (.long q1)]))
  refine own_go (fun _ k => XS.lcmp X0.here hx rfl (hb hby own_d1_2) rfl k) ?_
  show own_Go _ _ _ _ (s₁.setTop (mkF m 3 #[.val (.long q1), .second, .val (.long q2), .second] [(.int (lcmpW q1 q2))]))
  by_cases hc : q1 < q2
  · have _h := hc
    refine own_go (fun _ k => XS.ifYes X0.here hx rfl (pc0 := 3) (pc' := 10) rfl (hb hby own_d1_3) rfl ((if0 _ _).trans (tlt ((lw_lt _ _).mpr hc)).1) (by decide) (by decide) k) ?_
    show own_Go _ _ _ _ (s₁.setTop (mkF m 10 #[.val (.long q1), .second, .val (.long q2), .second] []))
    refine own_go (fun _ k => XS.lloadN X0.here hx rfl (hb hby own_d1_10) rfl k) ?_
    show own_Go _ _ _ _ (s₁.setTop (mkF m 11 #[.val (.long q1), .second, .val (.long q2), .second] [(.long q2)]))
    refine own_ret X0 hlk (v := some (.long q2)) (fun h => by rw [Bd.returns] at h; cases h) (fun fs hr => retOut X0 hx Bd.returns rfl (Or.inr (Or.inl ⟨rfl, rfl, _, rfl⟩)) (hb hby own_d1_11) hr) ?_ (by decide) (by decide)
    try rw [e0]
    exact ⟨by simp [hc], N0, rfl⟩
  · have _h := hc
    refine own_go (fun _ k => XS.ifNo X0.here hx rfl (hb hby own_d1_3) rfl ((if0 _ _).trans (flt (fun q => hc ((lw_lt _ _).mp q))).1) k) ?_
    show own_Go _ _ _ _ (s₁.setTop (mkF m 6 #[.val (.long q1), .second, .val (.long q2), .second] []))
    refine own_go (fun _ k => XS.lloadN X0.here hx rfl (hb hby own_d1_6) rfl k) ?_
    show own_Go _ _ _ _ (s₁.setTop (mkF m 7 #[.val (.long q1), .second, .val (.long q2), .second] [(.long q1)]))
    refine own_go (fun _ k => XS.goto X0.here hx rfl (pc0 := 7) (pc' := 11) rfl (hb hby own_d1_7) (by decide) (by decide) k) ?_
    show own_Go _ _ _ _ (s₁.setTop (mkF m 11 #[.val (.long q1), .second, .val (.long q2), .second] [(.long q1)]))
    refine own_ret X0 hlk (v := some (.long q1)) (fun h => by rw [Bd.returns] at h; cases h) (fun fs hr => retOut X0 hx Bd.returns rfl (Or.inr (Or.inl ⟨rfl, rfl, _, rfl⟩)) (hb hby own_d1_11) hr) ?_ (by decide) (by decide)
    try rw [e0]
    exact ⟨by simp [hc], N0, rfl⟩
theorem own_d3_0 : decode jdk_30_method_1_code 0 = .ok (.aload_n 0, 1) := by decide +kernel
theorem own_d3_1 : decode jdk_30_method_1_code 1 = .ok (.invokespecial 1, 3) := by decide +kernel
theorem own_d3_4 : decode jdk_30_method_1_code 4 = .ok (.return_, 1) := by decide +kernel
theorem own_pn0 : plainName "java/lang/Record" = true := by first | (simp [plainName, overriddenIn]; done) | decide +kernel
set_option maxRecDepth 65536 in
set_option maxHeartbeats 40000000 in
theorem own_rmR (l : Launch) (Z : State) (a0 : Array Value) (hw : ∀ d ∈ tables_1, d.before a0 Z = true) (a1 : Addr) (h0 : Heap) (n0 : Nat) (Z0 : n0 ≤ h0.size)  :
    own_Met l Z [] (⟨"java/lang/Record", "<init>", "()V"⟩ : MethodName) jdk_30_method_1_code 1 none ({ frames := 1, cells := 0, slots := 0, locals := 12 } : Room) #[(.ref a1)] h0 (fun v h L => v = none ∧ Fr n0 L ∧ h = h0) := by
  refine MetFree.of_bodySF (plainFor_of_name own_pn0) hisR ?_
  intro p e s m args below meth c s₁ Bd hml0 hP hK
  obtain ⟨rfl, hZ, hh⟩ := hP
  have hx := Bd.exec
  have hby := Bd.bytes
  have hml : c.maxLocals = 1 := hml0
  have hown : s.vm.findClass "java/lang/Record" = some m.cls := findClass_of_methodNamed Bd.named
  have hnm := (name_of_methodNamed Bd.named Bd.method).1
  have hlk : meth.locks = false := Bd.notSynchronized
  have X0 : Stand p l e ({ frames := 1, cells := 0, slots := 0, locals := 12 } : Room) s m #[(.ref a1)] below meth c s₁ [] 0 0 := Stand.of_body Bd
  have e0 : s₁.heap = h0 := by rw [← hh, Bd.state]; rfl
  have N0 := Fr.nil n0
  refine own_body (Q := fun v h L => v = none ∧ Fr n0 L ∧ h = h0) ?_
  refine own_go (fun t k => castTop (own_ef m #[(.ref a1)] 1 #[.val (.ref a1)] (own_al [(.ref a1)] 1 [.val (.ref a1)] rfl)) k) ?_
  show own_Go _ _ _ _ (s₁.setTop (mkF m 0 #[.val (.ref a1)] []))
  refine own_go (fun _ k => XS.aloadN X0.here hx rfl (hb hby own_d3_0) rfl rfl k) ?_
  show own_Go _ _ _ _ (s₁.setTop (mkF m 1 #[.val (.ref a1)] [(.ref a1)]))
  obtain ⟨T1, X1, e1, st1⟩ := initO X0 hx hZ hown (hw _ (List.mem_of_getElem? (i := 18) rfl)) (hw _ (List.mem_of_getElem? (i := 19) rfl)) (hw _ (List.mem_of_getElem? (i := 20) rfl)) e0 (g := (mkF m 1 #[.val (.ref a1)] [(.ref a1)])) rfl (by rw [hml]; rfl) rfl (hb hby own_d3_1) (by decide) (W := 0) (by show 2 * 0 + _ ≤ _; exact Nat.le_of_eq rfl) (by decide)
  refine own_go st1 ?_
  show own_Go _ _ _ _ (T1.setTop (mkF m 4 #[.val (.ref a1)] []))
  refine own_ret X1 hlk (v := none) (fun _ => rfl) (fun fs hr => X1.returnOut hx Bd.returns (hb hby own_d3_4) hr) ?_ (by decide) (by decide)
  try rw [e1]
  exact ⟨rfl, N0, rfl⟩
theorem own_d2_0 : decode prog_4_method_1_code 0 = .ok (.aload_n 0, 1) := by decide +kernel
theorem own_d2_1 : decode prog_4_method_1_code 1 = .ok (.invokespecial 3, 3) := by decide +kernel
theorem own_d2_4 : decode prog_4_method_1_code 4 = .ok (.aload_n 0, 1) := by decide +kernel
theorem own_d2_5 : decode prog_4_method_1_code 5 = .ok (.lload_n 1, 1) := by decide +kernel
theorem own_d2_6 : decode prog_4_method_1_code 6 = .ok (.putfield 9, 3) := by decide +kernel
theorem own_d2_9 : decode prog_4_method_1_code 9 = .ok (.aload_n 0, 1) := by decide +kernel
theorem own_d2_10 : decode prog_4_method_1_code 10 = .ok (.lload_n 3, 1) := by decide +kernel
theorem own_d2_11 : decode prog_4_method_1_code 11 = .ok (.putfield 15, 3) := by decide +kernel
theorem own_d2_14 : decode prog_4_method_1_code 14 = .ok (.aload_n 0, 1) := by decide +kernel
theorem own_d2_15 : decode prog_4_method_1_code 15 = .ok (.lload 5, 2) := by decide +kernel
theorem own_d2_17 : decode prog_4_method_1_code 17 = .ok (.putfield 18, 3) := by decide +kernel
theorem own_d2_20 : decode prog_4_method_1_code 20 = .ok (.return_, 1) := by decide +kernel
theorem own_pn1 : plainName "com/example/utopic/utopic/broker/HeapBudget$Layout" = true := by first | (simp [plainName, overriddenIn]; done) | decide +kernel
theorem own_pd0 : parseMethodDescriptor "()V" = some ⟨[], none⟩ := by decide +kernel
set_option maxRecDepth 65536 in
set_option maxHeartbeats 40000000 in
theorem own_rmI (l : Launch) (Z : State) (a0 : Array Value) (hw : ∀ d ∈ tables_1, d.before a0 Z = true) (a1 : Addr) (o : Int64) (u : Int64) (d : Int64) (h0 : Heap) (n0 : Nat) (Z0 : n0 ≤ h0.size) (E1 : Exa Z h0 a1 "com/example/utopic/utopic/broker/HeapBudget$Layout") (F_o : Fld Z h0 a1 "com/example/utopic/utopic/broker/HeapBudget$Layout" "ownPast" "J" (.long 0)) (F_u : Fld Z h0 a1 "com/example/utopic/utopic/broker/HeapBudget$Layout" "unit" "J" (.long 0)) (F_d : Fld Z h0 a1 "com/example/utopic/utopic/broker/HeapBudget$Layout" "doubledPast" "J" (.long 0)) (ge_a1 : n0 ≤ a1) :
    own_Met l Z [] (⟨"com/example/utopic/utopic/broker/HeapBudget$Layout", "<init>", "(JJJ)V"⟩ : MethodName) prog_4_method_1_code 7 none ({ frames := 2, cells := 0, slots := 0, locals := 24 } : Room) #[(.ref a1), (.long o), (.long u), (.long d)] h0 (fun v h L => v = none ∧ Fr n0 L ∧ Keep h0 h [a1] ∧ Fld Z h a1 "com/example/utopic/utopic/broker/HeapBudget$Layout" "ownPast" "J" (.long o) ∧ Fld Z h a1 "com/example/utopic/utopic/broker/HeapBudget$Layout" "unit" "J" (.long u) ∧ Fld Z h a1 "com/example/utopic/utopic/broker/HeapBudget$Layout" "doubledPast" "J" (.long d)) := by
  refine MetFree.of_bodySF (plainFor_of_name own_pn1) hisR ?_
  intro p e s m args below meth c s₁ Bd hml0 hP hK
  obtain ⟨rfl, hZ, hh⟩ := hP
  have hx := Bd.exec
  have hby := Bd.bytes
  have hml : c.maxLocals = 7 := hml0
  have hown : s.vm.findClass "com/example/utopic/utopic/broker/HeapBudget$Layout" = some m.cls := findClass_of_methodNamed Bd.named
  have hnm := (name_of_methodNamed Bd.named Bd.method).1
  have hlk : meth.locks = false := Bd.notSynchronized
  have X0 : Stand p l e ({ frames := 2, cells := 0, slots := 0, locals := 24 } : Room) s m #[(.ref a1), (.long o), (.long u), (.long d)] below meth c s₁ [] 0 0 := Stand.of_body Bd
  have e0 : s₁.heap = h0 := by rw [← hh, Bd.state]; rfl
  have N0 := Fr.nil n0
  refine own_body (Q := fun v h L => v = none ∧ Fr n0 L ∧ Keep h0 h [a1] ∧ Fld Z h a1 "com/example/utopic/utopic/broker/HeapBudget$Layout" "ownPast" "J" (.long o) ∧ Fld Z h a1 "com/example/utopic/utopic/broker/HeapBudget$Layout" "unit" "J" (.long u) ∧ Fld Z h a1 "com/example/utopic/utopic/broker/HeapBudget$Layout" "doubledPast" "J" (.long d)) ?_
  refine own_go (fun t k => castTop (own_ef m #[(.ref a1), (.long o), (.long u), (.long d)] 7 #[.val (.ref a1), .val (.long o), .second, .val (.long u), .second, .val (.long d), .second] (own_al [(.ref a1), (.long o), (.long u), (.long d)] 7 [.val (.ref a1), .val (.long o), .second, .val (.long u), .second, .val (.long d), .second] rfl)) k) ?_
  show own_Go _ _ _ _ (s₁.setTop (mkF m 0 #[.val (.ref a1), .val (.long o), .second, .val (.long u), .second, .val (.long d), .second] []))
  have K0 : Keep h0 h0 [a1] := Keep.refl _ _
  refine own_go (fun _ k => XS.aloadN X0.here hx rfl (hb hby own_d2_0) rfl rfl k) ?_
  show own_Go _ _ _ _ (s₁.setTop (mkF m 1 #[.val (.ref a1), .val (.long o), .second, .val (.long u), .second, .val (.long d), .second] [(.ref a1)]))
  obtain ⟨_, _, ⟨T1, L1, k1, n1⟩, -, X1, ⟨Lc1, hQ1, l1, y1, z1⟩, st1⟩ := X0.specialBack hx (y := (⟨"java/lang/Record", "<init>", "()V"⟩ : MethodName)) rfl hown (mvT hZ (hw _ (List.mem_of_getElem? (i := 13) rfl))) (mvT hZ (hw _ (List.mem_of_getElem? (i := 14) rfl))) (mvT hZ (hw _ (List.mem_of_getElem? (i := 17) rfl))) (by decide) (own_back (W := 0) (own_rmR l Z a0 hw a1 h0 n0 Z0) hZ (hw _ (List.mem_of_getElem? (i := 17) rfl)) (hw _ (List.mem_of_getElem? (i := 16) rfl)) (by decide) (by decide)) (g := (mkF m 1 #[.val (.ref a1), .val (.long o), .second, .val (.long u), .second, .val (.long d), .second] [(.ref a1)])) rfl (by rw [hml]; rfl) (Steps.refl _) (a := a1) (argsL := []) (rest := []) (lenOf own_pd0 rfl) rfl (by show 2 * 0 + _ ≤ _; exact Nat.le_of_eq rfl) (hb hby own_d2_1) (fun _ _ => ⟨rfl, e0, (by decide : 0 + 0 ≤ _), (by decide : 0 + 0 ≤ _)⟩)
  dsimp only [Pt.U, Pt.locs, Pt.cells, Pt.slots] at X1 l1 y1 z1 st1 hQ1
  subst l1 y1 z1
  obtain ⟨rfl, Nq1, eq1⟩ := hQ1
  have NF1 := Fr.app N0 Nq1
  refine own_goT st1 ?_
  show own_Go _ _ _ _ (T1.setTop (mkF m 4 #[.val (.ref a1), .val (.long o), .second, .val (.long u), .second, .val (.long d), .second] []))
  refine own_go (fun _ k => XS.aloadN X1.here hx rfl (hb hby own_d2_4) rfl rfl k) ?_
  show own_Go _ _ _ _ (T1.setTop (mkF m 5 #[.val (.ref a1), .val (.long o), .second, .val (.long u), .second, .val (.long d), .second] [(.ref a1)]))
  refine own_go (fun _ k => XS.lloadN X1.here hx rfl (hb hby own_d2_5) rfl k) ?_
  show own_Go _ _ _ _ (T1.setTop (mkF m 6 #[.val (.ref a1), .val (.long o), .second, .val (.long u), .second, .val (.long d), .second] [(.long o), (.ref a1)]))
  obtain ⟨T2, h2, X2, e2, W2, st2⟩ := putF X1 hx hZ hown (host := "") (Or.inl (hw _ (List.mem_of_getElem? (i := 21) rfl))) Via.refl eq1 F_o E1 (Or.inr ⟨(hw _ (List.mem_of_getElem? (i := 22) rfl)), rfl, hnm⟩) (hw _ (List.mem_of_getElem? (i := 8) rfl)) (ty := .long) (by decide) rfl rfl (g := (mkF m 6 #[.val (.ref a1), .val (.long o), .second, .val (.long u), .second, .val (.long d), .second] [(.long o), (.ref a1)])) rfl rfl (hb hby own_d2_6)
  refine own_go st2 ?_
  have NF2 := Fr.snoc X2 NF1 ge_a1
  replace F_o := F_o.same W2
  replace E1 := E1.wr W2
  replace F_u := F_u.other W2 (Or.inr (slot_ne (Or.inr (hw _ (List.mem_of_getElem? (i := 24) rfl))) (Or.inr (hw _ (List.mem_of_getElem? (i := 22) rfl))) (by decide) (t := .long) (t' := .long) (by decide) (by decide)))
  replace F_d := F_d.other W2 (Or.inr (slot_ne (Or.inr (hw _ (List.mem_of_getElem? (i := 26) rfl))) (Or.inr (hw _ (List.mem_of_getElem? (i := 22) rfl))) (by decide) (t := .long) (t' := .long) (by decide) (by decide)))
  replace Z0 := Nat.le_trans Z0 (Keep.of_wr W2).1
  replace K0 := K0.wr W2 (Or.inl (List.mem_of_getElem? (i := 0) rfl))
  show own_Go _ _ _ _ (T2.setTop (mkF m 9 #[.val (.ref a1), .val (.long o), .second, .val (.long u), .second, .val (.long d), .second] []))
  refine own_go (fun _ k => XS.aloadN X2.here hx rfl (hb hby own_d2_9) rfl rfl k) ?_
  show own_Go _ _ _ _ (T2.setTop (mkF m 10 #[.val (.ref a1), .val (.long o), .second, .val (.long u), .second, .val (.long d), .second] [(.ref a1)]))
  refine own_go (fun _ k => XS.lloadN X2.here hx rfl (hb hby own_d2_10) rfl k) ?_
  show own_Go _ _ _ _ (T2.setTop (mkF m 11 #[.val (.ref a1), .val (.long o), .second, .val (.long u), .second, .val (.long d), .second] [(.long u), (.ref a1)]))
  obtain ⟨T3, h3, X3, e3, W3, st3⟩ := putF X2 hx hZ hown (host := "") (Or.inl (hw _ (List.mem_of_getElem? (i := 23) rfl))) Via.refl e2 F_u E1 (Or.inr ⟨(hw _ (List.mem_of_getElem? (i := 24) rfl)), rfl, hnm⟩) (hw _ (List.mem_of_getElem? (i := 8) rfl)) (ty := .long) (by decide) rfl rfl (g := (mkF m 11 #[.val (.ref a1), .val (.long o), .second, .val (.long u), .second, .val (.long d), .second] [(.long u), (.ref a1)])) rfl rfl (hb hby own_d2_11)
  refine own_go st3 ?_
  have NF3 := Fr.snoc X3 NF2 ge_a1
  replace F_u := F_u.same W3
  replace E1 := E1.wr W3
  replace F_o := F_o.other W3 (Or.inr (slot_ne (Or.inr (hw _ (List.mem_of_getElem? (i := 22) rfl))) (Or.inr (hw _ (List.mem_of_getElem? (i := 24) rfl))) (by decide) (t := .long) (t' := .long) (by decide) (by decide)))
  replace F_d := F_d.other W3 (Or.inr (slot_ne (Or.inr (hw _ (List.mem_of_getElem? (i := 26) rfl))) (Or.inr (hw _ (List.mem_of_getElem? (i := 24) rfl))) (by decide) (t := .long) (t' := .long) (by decide) (by decide)))
  replace Z0 := Nat.le_trans Z0 (Keep.of_wr W3).1
  replace K0 := K0.wr W3 (Or.inl (List.mem_of_getElem? (i := 0) rfl))
  show own_Go _ _ _ _ (T3.setTop (mkF m 14 #[.val (.ref a1), .val (.long o), .second, .val (.long u), .second, .val (.long d), .second] []))
  refine own_go (fun _ k => XS.aloadN X3.here hx rfl (hb hby own_d2_14) rfl rfl k) ?_
  show own_Go _ _ _ _ (T3.setTop (mkF m 15 #[.val (.ref a1), .val (.long o), .second, .val (.long u), .second, .val (.long d), .second] [(.ref a1)]))
  refine own_go (fun _ k => XS.lload X3.here hx rfl (hb hby own_d2_15) rfl k) ?_
  show own_Go _ _ _ _ (T3.setTop (mkF m 17 #[.val (.ref a1), .val (.long o), .second, .val (.long u), .second, .val (.long d), .second] [(.long d), (.ref a1)]))
  obtain ⟨T4, h4, X4, e4, W4, st4⟩ := putF X3 hx hZ hown (host := "") (Or.inl (hw _ (List.mem_of_getElem? (i := 25) rfl))) Via.refl e3 F_d E1 (Or.inr ⟨(hw _ (List.mem_of_getElem? (i := 26) rfl)), rfl, hnm⟩) (hw _ (List.mem_of_getElem? (i := 8) rfl)) (ty := .long) (by decide) rfl rfl (g := (mkF m 17 #[.val (.ref a1), .val (.long o), .second, .val (.long u), .second, .val (.long d), .second] [(.long d), (.ref a1)])) rfl rfl (hb hby own_d2_17)
  refine own_go st4 ?_
  have NF4 := Fr.snoc X4 NF3 ge_a1
  replace F_d := F_d.same W4
  replace E1 := E1.wr W4
  replace F_o := F_o.other W4 (Or.inr (slot_ne (Or.inr (hw _ (List.mem_of_getElem? (i := 22) rfl))) (Or.inr (hw _ (List.mem_of_getElem? (i := 26) rfl))) (by decide) (t := .long) (t' := .long) (by decide) (by decide)))
  replace F_u := F_u.other W4 (Or.inr (slot_ne (Or.inr (hw _ (List.mem_of_getElem? (i := 24) rfl))) (Or.inr (hw _ (List.mem_of_getElem? (i := 26) rfl))) (by decide) (t := .long) (t' := .long) (by decide) (by decide)))
  replace Z0 := Nat.le_trans Z0 (Keep.of_wr W4).1
  replace K0 := K0.wr W4 (Or.inl (List.mem_of_getElem? (i := 0) rfl))
  show own_Go _ _ _ _ (T4.setTop (mkF m 20 #[.val (.ref a1), .val (.long o), .second, .val (.long u), .second, .val (.long d), .second] []))
  refine own_ret X4 hlk (v := none) (fun _ => rfl) (fun fs hr => X4.returnOut hx Bd.returns (hb hby own_d2_20) hr) ?_ (by decide) (by decide)
  try rw [e4]
  exact ⟨rfl, NF4, K0, F_o, F_u, F_d⟩
theorem own_d5_0 : decode prog_4_method_6_code 0 = .ok (.lload_n 1, 1) := by decide +kernel
theorem own_d5_1 : decode prog_4_method_6_code 1 = .ok (.ldc2_w 28, 3) := by decide +kernel
theorem own_d5_4 : decode prog_4_method_6_code 4 = .ok (.ladd, 1) := by decide +kernel
theorem own_d5_5 : decode prog_4_method_6_code 5 = .ok (.lstore_n 3, 1) := by decide +kernel
theorem own_d5_6 : decode prog_4_method_6_code 6 = .ok (.lload_n 3, 1) := by decide +kernel
theorem own_d5_7 : decode prog_4_method_6_code 7 = .ok (.aload_n 0, 1) := by decide +kernel
theorem own_d5_8 : decode prog_4_method_6_code 8 = .ok (.getfield 9, 3) := by decide +kernel
theorem own_d5_11 : decode prog_4_method_6_code 11 = .ok (.lcmp, 1) := by decide +kernel
theorem own_d5_12 : decode prog_4_method_6_code 12 = .ok (.ifCond .le 22, 3) := by decide +kernel
theorem own_d5_15 : decode prog_4_method_6_code 15 = .ok (.lload_n 3, 1) := by decide +kernel
theorem own_d5_16 : decode prog_4_method_6_code 16 = .ok (.aload_n 0, 1) := by decide +kernel
theorem own_d5_17 : decode prog_4_method_6_code 17 = .ok (.getfield 15, 3) := by decide +kernel
theorem own_d5_20 : decode prog_4_method_6_code 20 = .ok (.ladd, 1) := by decide +kernel
theorem own_d5_21 : decode prog_4_method_6_code 21 = .ok (.lconst 1, 1) := by decide +kernel
theorem own_d5_22 : decode prog_4_method_6_code 22 = .ok (.lsub, 1) := by decide +kernel
theorem own_d5_23 : decode prog_4_method_6_code 23 = .ok (.aload_n 0, 1) := by decide +kernel
theorem own_d5_24 : decode prog_4_method_6_code 24 = .ok (.getfield 15, 3) := by decide +kernel
theorem own_d5_27 : decode prog_4_method_6_code 27 = .ok (.ldiv, 1) := by decide +kernel
theorem own_d5_28 : decode prog_4_method_6_code 28 = .ok (.aload_n 0, 1) := by decide +kernel
theorem own_d5_29 : decode prog_4_method_6_code 29 = .ok (.getfield 15, 3) := by decide +kernel
theorem own_d5_32 : decode prog_4_method_6_code 32 = .ok (.lmul, 1) := by decide +kernel
theorem own_d5_33 : decode prog_4_method_6_code 33 = .ok (.lreturn, 1) := by decide +kernel
theorem own_d5_34 : decode prog_4_method_6_code 34 = .ok (.lload_n 1, 1) := by decide +kernel
theorem own_d5_35 : decode prog_4_method_6_code 35 = .ok (.aload_n 0, 1) := by decide +kernel
theorem own_d5_36 : decode prog_4_method_6_code 36 = .ok (.getfield 18, 3) := by decide +kernel
theorem own_d5_39 : decode prog_4_method_6_code 39 = .ok (.lcmp, 1) := by decide +kernel
theorem own_d5_40 : decode prog_4_method_6_code 40 = .ok (.ifCond .le 11, 3) := by decide +kernel
theorem own_d5_43 : decode prog_4_method_6_code 43 = .ok (.ldc2_w 21, 3) := by decide +kernel
theorem own_d5_46 : decode prog_4_method_6_code 46 = .ok (.lload_n 1, 1) := by decide +kernel
theorem own_d5_47 : decode prog_4_method_6_code 47 = .ok (.lmul, 1) := by decide +kernel
theorem own_d5_48 : decode prog_4_method_6_code 48 = .ok (.goto 4, 3) := by decide +kernel
theorem own_d5_51 : decode prog_4_method_6_code 51 = .ok (.lload_n 1, 1) := by decide +kernel
theorem own_d5_52 : decode prog_4_method_6_code 52 = .ok (.lreturn, 1) := by decide +kernel
set_option maxRecDepth 65536 in
set_option maxHeartbeats 40000000 in
theorem own_rmA (l : Launch) (Z : State) (a0 : Array Value) (hw : ∀ d ∈ tables_1, d.before a0 Z = true) (a1 : Addr) (n : Int64) (o : Int64) (u : Int64) (d : Int64) (h0 : Heap) (n0 : Nat) (Z0 : n0 ≤ h0.size) (F_o : Fld Z h0 a1 "com/example/utopic/utopic/broker/HeapBudget$Layout" "ownPast" "J" (.long o)) (F_u : Fld Z h0 a1 "com/example/utopic/utopic/broker/HeapBudget$Layout" "unit" "J" (.long u)) (F_d : Fld Z h0 a1 "com/example/utopic/utopic/broker/HeapBudget$Layout" "doubledPast" "J" (.long d)) (hu : u ≠ 0) :
    own_Met l Z [] (⟨"com/example/utopic/utopic/broker/HeapBudget$Layout", "arrayBytes", "(J)J"⟩ : MethodName) prog_4_method_6_code 5 (some .long) ({ frames := 0, cells := 0, slots := 0, locals := 0 } : Room) #[(.ref a1), (.long n)] h0 (fun v h L => v = some (.long (own_ab n o u d)) ∧ Fr n0 L ∧ h = h0) := by
  refine MetFree.of_bodySF (plainFor_of_name own_pn1) hisR ?_
  intro p e s m args below meth c s₁ Bd hml0 hP hK
  obtain ⟨rfl, hZ, hh⟩ := hP
  have hx := Bd.exec
  have hby := Bd.bytes
  have hml : c.maxLocals = 5 := hml0
  have hown : s.vm.findClass "com/example/utopic/utopic/broker/HeapBudget$Layout" = some m.cls := findClass_of_methodNamed Bd.named
  have hnm := (name_of_methodNamed Bd.named Bd.method).1
  have hlk : meth.locks = false := Bd.notSynchronized
  have X0 : Stand p l e ({ frames := 0, cells := 0, slots := 0, locals := 0 } : Room) s m #[(.ref a1), (.long n)] below meth c s₁ [] 0 0 := Stand.of_body Bd
  have e0 : s₁.heap = h0 := by rw [← hh, Bd.state]; rfl
  have N0 := Fr.nil n0
  refine own_body (Q := fun v h L => v = some (.long (own_ab n o u d)) ∧ Fr n0 L ∧ h = h0) ?_
  refine own_go (fun t k => castTop (own_ef m #[(.ref a1), (.long n)] 5 #[.val (.ref a1), .val (.long n), .second, .unset, .unset] (own_al [(.ref a1), (.long n)] 5 [.val (.ref a1), .val (.long n), .second, .unset, .unset] rfl)) k) ?_
  show own_Go _ _ _ _ (s₁.setTop (mkF m 0 #[.val (.ref a1), .val (.long n), .second, .unset, .unset] []))
  refine own_go (fun _ k => XS.lloadN X0.here hx rfl (hb hby own_d5_0) rfl k) ?_
  show own_Go _ _ _ _ (s₁.setTop (mkF m 1 #[.val (.ref a1), .val (.long n), .second, .unset, .unset] [(.long n)]))
  refine own_go (X0.ldc2Long hx hown (mvT hZ (hw _ (List.mem_of_getElem? (i := 32) rfl))) (g := (mkF m 1 #[.val (.ref a1), .val (.long n), .second, .unset, .unset] [(.long n)])) rfl (hb hby own_d5_1)) ?_
  show own_Go _ _ _ _ (s₁.setTop (mkF m 4 #[.val (.ref a1), .val (.long n), .second, .unset, .unset] [(.long (32 : Int64)), (.long n)]))
  refine own_go (fun _ k => XS.ladd X0.here hx rfl (hb hby own_d5_4) rfl k) ?_
  show own_Go _ _ _ _ (s₁.setTop (mkF m 5 #[.val (.ref a1), .val (.long n), .second, .unset, .unset] [(.long (n + (32 : Int64)))]))
  refine own_go (fun _ k => XS.lstoreN X0.here hx rfl (hb hby own_d5_5) rfl (l' := #[.val (.ref a1), .val (.long n), .second, .val (.long (n + (32 : Int64))), .second]) rfl k) ?_
  show own_Go _ _ _ _ (s₁.setTop (mkF m 6 #[.val (.ref a1), .val (.long n), .second, .val (.long (n + (32 : Int64))), .second] []))
  refine own_go (fun _ k => XS.lloadN X0.here hx rfl (hb hby own_d5_6) rfl k) ?_
  show own_Go _ _ _ _ (s₁.setTop (mkF m 7 #[.val (.ref a1), .val (.long n), .second, .val (.long (n + (32 : Int64))), .second] [(.long (n + (32 : Int64)))]))
  refine own_go (fun _ k => XS.aloadN X0.here hx rfl (hb hby own_d5_7) rfl rfl k) ?_
  show own_Go _ _ _ _ (s₁.setTop (mkF m 8 #[.val (.ref a1), .val (.long n), .second, .val (.long (n + (32 : Int64))), .second] [(.ref a1), (.long (n + (32 : Int64)))]))
  obtain ⟨T1, X1, e1, st1⟩ := getF X0 hx hZ hown (host := "") (Or.inl (hw _ (List.mem_of_getElem? (i := 21) rfl))) Via.refl e0 F_o (g := (mkF m 8 #[.val (.ref a1), .val (.long n), .second, .val (.long (n + (32 : Int64))), .second] [(.ref a1), (.long (n + (32 : Int64)))])) rfl rfl (hb hby own_d5_8)
  refine own_go st1 ?_
  show own_Go _ _ _ _ (T1.setTop (mkF m 11 #[.val (.ref a1), .val (.long n), .second, .val (.long (n + (32 : Int64))), .second] [(.long o), (.long (n + (32 : Int64)))]))
  refine own_go (fun _ k => XS.lcmp X1.here hx rfl (hb hby own_d5_11) rfl k) ?_
  show own_Go _ _ _ _ (T1.setTop (mkF m 12 #[.val (.ref a1), .val (.long n), .second, .val (.long (n + (32 : Int64))), .second] [(.int (lcmpW (n + (32 : Int64)) o))]))
  by_cases hc : o < (n + (32 : Int64))
  · have _h := hc
    refine own_go (fun _ k => XS.ifNo X1.here hx rfl (hb hby own_d5_12) rfl ((if0 _ _).trans (tlt ((lw_gt _ _).mpr hc)).2.2.2) k) ?_
    show own_Go _ _ _ _ (T1.setTop (mkF m 15 #[.val (.ref a1), .val (.long n), .second, .val (.long (n + (32 : Int64))), .second] []))
    refine own_go (fun _ k => XS.lloadN X1.here hx rfl (hb hby own_d5_15) rfl k) ?_
    show own_Go _ _ _ _ (T1.setTop (mkF m 16 #[.val (.ref a1), .val (.long n), .second, .val (.long (n + (32 : Int64))), .second] [(.long (n + (32 : Int64)))]))
    refine own_go (fun _ k => XS.aloadN X1.here hx rfl (hb hby own_d5_16) rfl rfl k) ?_
    show own_Go _ _ _ _ (T1.setTop (mkF m 17 #[.val (.ref a1), .val (.long n), .second, .val (.long (n + (32 : Int64))), .second] [(.ref a1), (.long (n + (32 : Int64)))]))
    obtain ⟨T2, X2, e2, st2⟩ := getF X1 hx hZ hown (host := "") (Or.inl (hw _ (List.mem_of_getElem? (i := 23) rfl))) Via.refl e1 F_u (g := (mkF m 17 #[.val (.ref a1), .val (.long n), .second, .val (.long (n + (32 : Int64))), .second] [(.ref a1), (.long (n + (32 : Int64)))])) rfl rfl (hb hby own_d5_17)
    refine own_go st2 ?_
    show own_Go _ _ _ _ (T2.setTop (mkF m 20 #[.val (.ref a1), .val (.long n), .second, .val (.long (n + (32 : Int64))), .second] [(.long u), (.long (n + (32 : Int64)))]))
    refine own_go (fun _ k => XS.ladd X2.here hx rfl (hb hby own_d5_20) rfl k) ?_
    show own_Go _ _ _ _ (T2.setTop (mkF m 21 #[.val (.ref a1), .val (.long n), .second, .val (.long (n + (32 : Int64))), .second] [(.long ((n + (32 : Int64)) + u))]))
    refine own_go (fun _ k => XS.lconst X2.here hx rfl (hb hby own_d5_21) k) ?_
    show own_Go _ _ _ _ (T2.setTop (mkF m 22 #[.val (.ref a1), .val (.long n), .second, .val (.long (n + (32 : Int64))), .second] [(.long (1 : Int64)), (.long ((n + (32 : Int64)) + u))]))
    refine own_go (fun _ k => XS.lsub X2.here hx rfl (hb hby own_d5_22) rfl k) ?_
    show own_Go _ _ _ _ (T2.setTop (mkF m 23 #[.val (.ref a1), .val (.long n), .second, .val (.long (n + (32 : Int64))), .second] [(.long (((n + (32 : Int64)) + u) - (1 : Int64)))]))
    refine own_go (fun _ k => XS.aloadN X2.here hx rfl (hb hby own_d5_23) rfl rfl k) ?_
    show own_Go _ _ _ _ (T2.setTop (mkF m 24 #[.val (.ref a1), .val (.long n), .second, .val (.long (n + (32 : Int64))), .second] [(.ref a1), (.long (((n + (32 : Int64)) + u) - (1 : Int64)))]))
    obtain ⟨T3, X3, e3, st3⟩ := getF X2 hx hZ hown (host := "") (Or.inl (hw _ (List.mem_of_getElem? (i := 23) rfl))) Via.refl e2 F_u (g := (mkF m 24 #[.val (.ref a1), .val (.long n), .second, .val (.long (n + (32 : Int64))), .second] [(.ref a1), (.long (((n + (32 : Int64)) + u) - (1 : Int64)))])) rfl rfl (hb hby own_d5_24)
    refine own_go st3 ?_
    show own_Go _ _ _ _ (T3.setTop (mkF m 27 #[.val (.ref a1), .val (.long n), .second, .val (.long (n + (32 : Int64))), .second] [(.long u), (.long (((n + (32 : Int64)) + u) - (1 : Int64)))]))
    refine own_go (fun _ k => XS.ldiv X3.here hx rfl (hb hby own_d5_27) rfl hu k) ?_
    show own_Go _ _ _ _ (T3.setTop (mkF m 28 #[.val (.ref a1), .val (.long n), .second, .val (.long (n + (32 : Int64))), .second] [(.long ((((n + (32 : Int64)) + u) - (1 : Int64)) / u))]))
    refine own_go (fun _ k => XS.aloadN X3.here hx rfl (hb hby own_d5_28) rfl rfl k) ?_
    show own_Go _ _ _ _ (T3.setTop (mkF m 29 #[.val (.ref a1), .val (.long n), .second, .val (.long (n + (32 : Int64))), .second] [(.ref a1), (.long ((((n + (32 : Int64)) + u) - (1 : Int64)) / u))]))
    obtain ⟨T4, X4, e4, st4⟩ := getF X3 hx hZ hown (host := "") (Or.inl (hw _ (List.mem_of_getElem? (i := 23) rfl))) Via.refl e3 F_u (g := (mkF m 29 #[.val (.ref a1), .val (.long n), .second, .val (.long (n + (32 : Int64))), .second] [(.ref a1), (.long ((((n + (32 : Int64)) + u) - (1 : Int64)) / u))])) rfl rfl (hb hby own_d5_29)
    refine own_go st4 ?_
    show own_Go _ _ _ _ (T4.setTop (mkF m 32 #[.val (.ref a1), .val (.long n), .second, .val (.long (n + (32 : Int64))), .second] [(.long u), (.long ((((n + (32 : Int64)) + u) - (1 : Int64)) / u))]))
    refine own_go (fun _ k => XS.lmul X4.here hx rfl (hb hby own_d5_32) rfl k) ?_
    show own_Go _ _ _ _ (T4.setTop (mkF m 33 #[.val (.ref a1), .val (.long n), .second, .val (.long (n + (32 : Int64))), .second] [(.long (((((n + (32 : Int64)) + u) - (1 : Int64)) / u) * u))]))
    refine own_ret X4 hlk (v := some (.long (((((n + (32 : Int64)) + u) - (1 : Int64)) / u) * u))) (fun h => by rw [Bd.returns] at h; cases h) (fun fs hr => retOut X4 hx Bd.returns rfl (Or.inr (Or.inl ⟨rfl, rfl, _, rfl⟩)) (hb hby own_d5_33) hr) ?_ (by decide) (by decide)
    try rw [e4]
    exact ⟨by simp only [own_ab, if_pos hc], N0, rfl⟩
  · have _h := hc
    refine own_go (fun _ k => XS.ifYes X1.here hx rfl (pc0 := 12) (pc' := 34) rfl (hb hby own_d5_12) rfl ((if0 _ _).trans (flt (fun q => hc ((lw_gt _ _).mp q))).2.2.2) (by decide) (by decide) k) ?_
    show own_Go _ _ _ _ (T1.setTop (mkF m 34 #[.val (.ref a1), .val (.long n), .second, .val (.long (n + (32 : Int64))), .second] []))
    refine own_go (fun _ k => XS.lloadN X1.here hx rfl (hb hby own_d5_34) rfl k) ?_
    show own_Go _ _ _ _ (T1.setTop (mkF m 35 #[.val (.ref a1), .val (.long n), .second, .val (.long (n + (32 : Int64))), .second] [(.long n)]))
    refine own_go (fun _ k => XS.aloadN X1.here hx rfl (hb hby own_d5_35) rfl rfl k) ?_
    show own_Go _ _ _ _ (T1.setTop (mkF m 36 #[.val (.ref a1), .val (.long n), .second, .val (.long (n + (32 : Int64))), .second] [(.ref a1), (.long n)]))
    obtain ⟨T5, X5, e5, st5⟩ := getF X1 hx hZ hown (host := "") (Or.inl (hw _ (List.mem_of_getElem? (i := 25) rfl))) Via.refl e1 F_d (g := (mkF m 36 #[.val (.ref a1), .val (.long n), .second, .val (.long (n + (32 : Int64))), .second] [(.ref a1), (.long n)])) rfl rfl (hb hby own_d5_36)
    refine own_go st5 ?_
    show own_Go _ _ _ _ (T5.setTop (mkF m 39 #[.val (.ref a1), .val (.long n), .second, .val (.long (n + (32 : Int64))), .second] [(.long d), (.long n)]))
    refine own_go (fun _ k => XS.lcmp X5.here hx rfl (hb hby own_d5_39) rfl k) ?_
    show own_Go _ _ _ _ (T5.setTop (mkF m 40 #[.val (.ref a1), .val (.long n), .second, .val (.long (n + (32 : Int64))), .second] [(.int (lcmpW n d))]))
    by_cases hd : d < n
    · have _h := hd
      refine own_go (fun _ k => XS.ifNo X5.here hx rfl (hb hby own_d5_40) rfl ((if0 _ _).trans (tlt ((lw_gt _ _).mpr hd)).2.2.2) k) ?_
      show own_Go _ _ _ _ (T5.setTop (mkF m 43 #[.val (.ref a1), .val (.long n), .second, .val (.long (n + (32 : Int64))), .second] []))
      refine own_go (X5.ldc2Long hx hown (mvT hZ (hw _ (List.mem_of_getElem? (i := 33) rfl))) (g := (mkF m 43 #[.val (.ref a1), .val (.long n), .second, .val (.long (n + (32 : Int64))), .second] [])) rfl (hb hby own_d5_43)) ?_
      show own_Go _ _ _ _ (T5.setTop (mkF m 46 #[.val (.ref a1), .val (.long n), .second, .val (.long (n + (32 : Int64))), .second] [(.long (2 : Int64))]))
      refine own_go (fun _ k => XS.lloadN X5.here hx rfl (hb hby own_d5_46) rfl k) ?_
      show own_Go _ _ _ _ (T5.setTop (mkF m 47 #[.val (.ref a1), .val (.long n), .second, .val (.long (n + (32 : Int64))), .second] [(.long n), (.long (2 : Int64))]))
      refine own_go (fun _ k => XS.lmul X5.here hx rfl (hb hby own_d5_47) rfl k) ?_
      show own_Go _ _ _ _ (T5.setTop (mkF m 48 #[.val (.ref a1), .val (.long n), .second, .val (.long (n + (32 : Int64))), .second] [(.long ((2 : Int64) * n))]))
      refine own_go (fun _ k => XS.goto X5.here hx rfl (pc0 := 48) (pc' := 52) rfl (hb hby own_d5_48) (by decide) (by decide) k) ?_
      show own_Go _ _ _ _ (T5.setTop (mkF m 52 #[.val (.ref a1), .val (.long n), .second, .val (.long (n + (32 : Int64))), .second] [(.long ((2 : Int64) * n))]))
      refine own_ret X5 hlk (v := some (.long ((2 : Int64) * n))) (fun h => by rw [Bd.returns] at h; cases h) (fun fs hr => retOut X5 hx Bd.returns rfl (Or.inr (Or.inl ⟨rfl, rfl, _, rfl⟩)) (hb hby own_d5_52) hr) ?_ (by decide) (by decide)
      try rw [e5]
      exact ⟨by simp [own_ab, hc, hd], N0, rfl⟩
    · have _h := hd
      refine own_go (fun _ k => XS.ifYes X5.here hx rfl (pc0 := 40) (pc' := 51) rfl (hb hby own_d5_40) rfl ((if0 _ _).trans (flt (fun q => hd ((lw_gt _ _).mp q))).2.2.2) (by decide) (by decide) k) ?_
      show own_Go _ _ _ _ (T5.setTop (mkF m 51 #[.val (.ref a1), .val (.long n), .second, .val (.long (n + (32 : Int64))), .second] []))
      refine own_go (fun _ k => XS.lloadN X5.here hx rfl (hb hby own_d5_51) rfl k) ?_
      show own_Go _ _ _ _ (T5.setTop (mkF m 52 #[.val (.ref a1), .val (.long n), .second, .val (.long (n + (32 : Int64))), .second] [(.long n)]))
      refine own_ret X5 hlk (v := some (.long n)) (fun h => by rw [Bd.returns] at h; cases h) (fun fs hr => retOut X5 hx Bd.returns rfl (Or.inr (Or.inl ⟨rfl, rfl, _, rfl⟩)) (hb hby own_d5_52) hr) ?_ (by decide) (by decide)
      try rw [e5]
      exact ⟨by simp [own_ab, hc, hd], N0, rfl⟩
theorem own_pn2 : plainName "com/example/utopic/utopic/broker/LayoutArrayBytesPinLaw" = true := by first | (simp [plainName, overriddenIn]; done) | decide +kernel
theorem own_pd1 : parseMethodDescriptor "(JJ)J" = some ⟨[.long, .long], some .long⟩ := by decide +kernel
theorem own_pd2 : parseMethodDescriptor "(JJJ)V" = some ⟨[.long, .long, .long], none⟩ := by decide +kernel
theorem own_pd3 : parseMethodDescriptor "(J)J" = some ⟨[.long], some .long⟩ := by decide +kernel
set_option maxRecDepth 65536 in
set_option maxHeartbeats 40000000 in
theorem own_rm0 (l : Launch) (Z : State) (a0 : Array Value) (hw : ∀ d ∈ tables_1, d.before a0 Z = true) (q1 : Int64) (q2 : Int64) (q3 : Int64) (q4 : Int64) (p5 : Int32) (h0 : Heap) (n0 : Nat) (Z0 : n0 ≤ h0.size)  :
    own_Met l Z tables_1 x code maxLocals ret room_1 #[(.long q1), (.long q2), (.long q3), (.long q4), (.int p5)] h0 (fun v h L => v = some (.int 1) ∧ Fr n0 L) := by
  refine MetFree.of_bodySF (plainFor_of_name own_pn2) hisR ?_
  intro p e s m args below meth c s₁ Bd hml0 hP hK
  obtain ⟨rfl, hZ, hh⟩ := hP
  have hx := Bd.exec
  have hby := Bd.bytes
  have hml : c.maxLocals = 22 := hml0
  have hown : s.vm.findClass "com/example/utopic/utopic/broker/LayoutArrayBytesPinLaw" = some m.cls := findClass_of_methodNamed Bd.named
  have hnm := (name_of_methodNamed Bd.named Bd.method).1
  have hlk : meth.locks = false := Bd.notSynchronized
  have X0 : Stand p l e room_1 s m #[(.long q1), (.long q2), (.long q3), (.long q4), (.int p5)] below meth c s₁ [] 0 0 := Stand.of_body Bd
  have e0 : s₁.heap = h0 := by rw [← hh, Bd.state]; rfl
  have N0 := Fr.nil n0
  refine own_body (Q := fun v h L => v = some (.int 1) ∧ Fr n0 L) ?_
  refine own_go (fun t k => castTop (own_ef m #[(.long q1), (.long q2), (.long q3), (.long q4), (.int p5)] maxLocals #[.val (.long q1), .second, .val (.long q2), .second, .val (.long q3), .second, .val (.long q4), .second, .val (.int p5), .unset, .unset, .unset, .unset, .unset, .unset, .unset, .unset, .unset, .unset, .unset, .unset, .unset] (own_al [(.long q1), (.long q2), (.long q3), (.long q4), (.int p5)] maxLocals [.val (.long q1), .second, .val (.long q2), .second, .val (.long q3), .second, .val (.long q4), .second, .val (.int p5), .unset, .unset, .unset, .unset, .unset, .unset, .unset, .unset, .unset, .unset, .unset, .unset, .unset] rfl)) k) ?_
  show own_Go _ _ _ _ (s₁.setTop (mkF m 0 #[.val (.long q1), .second, .val (.long q2), .second, .val (.long q3), .second, .val (.long q4), .second, .val (.int p5), .unset, .unset, .unset, .unset, .unset, .unset, .unset, .unset, .unset, .unset, .unset, .unset, .unset] []))
  have K0 : Keep h0 h0 [] := Keep.refl _ _
  refine own_go (fun _ k => XS.lloadN X0.here hx rfl (hb hby at_0) rfl k) ?_
  show own_Go _ _ _ _ (s₁.setTop (mkF m 1 #[.val (.long q1), .second, .val (.long q2), .second, .val (.long q3), .second, .val (.long q4), .second, .val (.int p5), .unset, .unset, .unset, .unset, .unset, .unset, .unset, .unset, .unset, .unset, .unset, .unset, .unset] [(.long q1)]))
  refine own_go (X0.ldc2Long hx hown (mvT hZ (hw _ (List.mem_of_getElem? (i := 0) rfl))) (g := (mkF m 1 #[.val (.long q1), .second, .val (.long q2), .second, .val (.long q3), .second, .val (.long q4), .second, .val (.int p5), .unset, .unset, .unset, .unset, .unset, .unset, .unset, .unset, .unset, .unset, .unset, .unset, .unset] [(.long q1)])) rfl (hb hby at_1)) ?_
  show own_Go _ _ _ _ (s₁.setTop (mkF m 4 #[.val (.long q1), .second, .val (.long q2), .second, .val (.long q3), .second, .val (.long q4), .second, .val (.int p5), .unset, .unset, .unset, .unset, .unset, .unset, .unset, .unset, .unset, .unset, .unset, .unset, .unset] [(.long (2147483647 : Int64)), (.long q1)]))
  refine own_go (fun _ k => XS.land X0.here hx rfl (hb hby at_4) rfl k) ?_
  show own_Go _ _ _ _ (s₁.setTop (mkF m 5 #[.val (.long q1), .second, .val (.long q2), .second, .val (.long q3), .second, .val (.long q4), .second, .val (.int p5), .unset, .unset, .unset, .unset, .unset, .unset, .unset, .unset, .unset, .unset, .unset, .unset, .unset] [(.long (q1 &&& (2147483647 : Int64)))]))
  obtain ⟨hn1, hn2⟩ := own_len q1
  generalize hn : (q1 &&& (2147483647 : Int64)) = n
  rw [hn] at hn1 hn2
  show own_Go _ _ _ _ (s₁.setTop (mkF m 5 #[.val (.long q1), .second, .val (.long q2), .second, .val (.long q3), .second, .val (.long q4), .second, .val (.int p5), .unset, .unset, .unset, .unset, .unset, .unset, .unset, .unset, .unset, .unset, .unset, .unset, .unset] [(.long n)]))
  refine own_go (fun _ k => XS.lstore X0.here hx rfl (hb hby at_5) rfl (l' := #[.val (.long q1), .second, .val (.long q2), .second, .val (.long q3), .second, .val (.long q4), .second, .val (.int p5), .val (.long n), .second, .unset, .unset, .unset, .unset, .unset, .unset, .unset, .unset, .unset, .unset, .unset]) rfl k) ?_
  show own_Go _ _ _ _ (s₁.setTop (mkF m 7 #[.val (.long q1), .second, .val (.long q2), .second, .val (.long q3), .second, .val (.long q4), .second, .val (.int p5), .val (.long n), .second, .unset, .unset, .unset, .unset, .unset, .unset, .unset, .unset, .unset, .unset, .unset] []))
  refine own_go (fun _ k => XS.lconst X0.here hx rfl (hb hby at_7) k) ?_
  show own_Go _ _ _ _ (s₁.setTop (mkF m 8 #[.val (.long q1), .second, .val (.long q2), .second, .val (.long q3), .second, .val (.long q4), .second, .val (.int p5), .val (.long n), .second, .unset, .unset, .unset, .unset, .unset, .unset, .unset, .unset, .unset, .unset, .unset] [(.long (1 : Int64))]))
  refine own_go (fun _ k => XS.lloadN X0.here hx rfl (hb hby at_8) rfl k) ?_
  show own_Go _ _ _ _ (s₁.setTop (mkF m 9 #[.val (.long q1), .second, .val (.long q2), .second, .val (.long q3), .second, .val (.long q4), .second, .val (.int p5), .val (.long n), .second, .unset, .unset, .unset, .unset, .unset, .unset, .unset, .unset, .unset, .unset, .unset] [(.long q2), (.long (1 : Int64))]))
  refine own_go (X0.ldc2Long hx hown (mvT hZ (hw _ (List.mem_of_getElem? (i := 0) rfl))) (g := (mkF m 9 #[.val (.long q1), .second, .val (.long q2), .second, .val (.long q3), .second, .val (.long q4), .second, .val (.int p5), .val (.long n), .second, .unset, .unset, .unset, .unset, .unset, .unset, .unset, .unset, .unset, .unset, .unset] [(.long q2), (.long (1 : Int64))])) rfl (hb hby at_9)) ?_
  show own_Go _ _ _ _ (s₁.setTop (mkF m 12 #[.val (.long q1), .second, .val (.long q2), .second, .val (.long q3), .second, .val (.long q4), .second, .val (.int p5), .val (.long n), .second, .unset, .unset, .unset, .unset, .unset, .unset, .unset, .unset, .unset, .unset, .unset] [(.long (2147483647 : Int64)), (.long q2), (.long (1 : Int64))]))
  refine own_go (fun _ k => XS.land X0.here hx rfl (hb hby at_12) rfl k) ?_
  show own_Go _ _ _ _ (s₁.setTop (mkF m 13 #[.val (.long q1), .second, .val (.long q2), .second, .val (.long q3), .second, .val (.long q4), .second, .val (.int p5), .val (.long n), .second, .unset, .unset, .unset, .unset, .unset, .unset, .unset, .unset, .unset, .unset, .unset] [(.long (q2 &&& (2147483647 : Int64))), (.long (1 : Int64))]))
  obtain ⟨_, _, ⟨T1, L1, k1, n1⟩, -, X1, ⟨Lc1, hQ1, l1, y1, z1⟩, st1⟩ := Jvm.LawKit.callS X0 hx (y := (⟨"java/lang/Math", "max", "(JJ)J"⟩ : MethodName)) hown (mvT hZ (hw _ (List.mem_of_getElem? (i := 1) rfl))) (mvT hZ (hw _ (List.mem_of_getElem? (i := 2) rfl))) (mvT hZ (hw _ (List.mem_of_getElem? (i := 3) rfl))) (mvT hZ (hw _ (List.mem_of_getElem? (i := 4) rfl))) (by decide) (own_back (W := 0) (own_rmM l Z a0 hw (1 : Int64) (q2 &&& (2147483647 : Int64)) h0 n0 Z0) hZ (hw _ (List.mem_of_getElem? (i := 4) rfl)) (hw _ (List.mem_of_getElem? (i := 3) rfl)) (by decide) (by decide)) (g := (mkF m 13 #[.val (.long q1), .second, .val (.long q2), .second, .val (.long q3), .second, .val (.long q4), .second, .val (.int p5), .val (.long n), .second, .unset, .unset, .unset, .unset, .unset, .unset, .unset, .unset, .unset, .unset, .unset] [(.long (q2 &&& (2147483647 : Int64))), (.long (1 : Int64))])) rfl (by rw [hml]; rfl) (argsL := [(.long (1 : Int64)), (.long (q2 &&& (2147483647 : Int64)))]) (rest := []) (lenOf own_pd1 rfl) rfl (by show 2 * 0 + _ ≤ _; exact Nat.le_of_eq rfl) (hb hby at_13) (fun _ _ => ⟨rfl, e0, (by decide : 0 + 0 ≤ _), (by decide : 0 + 0 ≤ _)⟩)
  dsimp only [Pt.U, Pt.locs, Pt.cells, Pt.slots] at X1 l1 y1 z1 st1 hQ1
  subst l1 y1 z1
  obtain ⟨rfl, Nq1, eq1⟩ := hQ1
  have NF1 := Fr.app N0 Nq1
  refine own_go st1 ?_
  show own_Go _ _ _ _ (T1.setTop (mkF m 16 #[.val (.long q1), .second, .val (.long q2), .second, .val (.long q3), .second, .val (.long q4), .second, .val (.int p5), .val (.long n), .second, .unset, .unset, .unset, .unset, .unset, .unset, .unset, .unset, .unset, .unset, .unset] [(.long (if (1 : Int64) < (q2 &&& (2147483647 : Int64)) then (q2 &&& (2147483647 : Int64)) else (1 : Int64)))]))
  obtain ⟨hu1, hu2⟩ := own_unit q2
  generalize hu0 : (if (1 : Int64) < (q2 &&& (2147483647 : Int64)) then (q2 &&& (2147483647 : Int64)) else (1 : Int64)) = u
  rw [hu0] at hu1 hu2
  have hu := own_nz hu1
  show own_Go _ _ _ _ (T1.setTop (mkF m 16 #[.val (.long q1), .second, .val (.long q2), .second, .val (.long q3), .second, .val (.long q4), .second, .val (.int p5), .val (.long n), .second, .unset, .unset, .unset, .unset, .unset, .unset, .unset, .unset, .unset, .unset, .unset] [(.long u)]))
  refine own_go (fun _ k => XS.lstore X1.here hx rfl (hb hby at_16) rfl (l' := #[.val (.long q1), .second, .val (.long q2), .second, .val (.long q3), .second, .val (.long q4), .second, .val (.int p5), .val (.long n), .second, .val (.long u), .second, .unset, .unset, .unset, .unset, .unset, .unset, .unset, .unset, .unset]) rfl k) ?_
  show own_Go _ _ _ _ (T1.setTop (mkF m 18 #[.val (.long q1), .second, .val (.long q2), .second, .val (.long q3), .second, .val (.long q4), .second, .val (.int p5), .val (.long n), .second, .val (.long u), .second, .unset, .unset, .unset, .unset, .unset, .unset, .unset, .unset, .unset] []))
  refine own_go (fun _ k => XS.lload X1.here hx rfl (hb hby at_18) rfl k) ?_
  show own_Go _ _ _ _ (T1.setTop (mkF m 20 #[.val (.long q1), .second, .val (.long q2), .second, .val (.long q3), .second, .val (.long q4), .second, .val (.int p5), .val (.long n), .second, .val (.long u), .second, .unset, .unset, .unset, .unset, .unset, .unset, .unset, .unset, .unset] [(.long n)]))
  refine own_go (X1.ldc2Long hx hown (mvT hZ (hw _ (List.mem_of_getElem? (i := 5) rfl))) (g := (mkF m 20 #[.val (.long q1), .second, .val (.long q2), .second, .val (.long q3), .second, .val (.long q4), .second, .val (.int p5), .val (.long n), .second, .val (.long u), .second, .unset, .unset, .unset, .unset, .unset, .unset, .unset, .unset, .unset] [(.long n)])) rfl (hb hby at_20)) ?_
  show own_Go _ _ _ _ (T1.setTop (mkF m 23 #[.val (.long q1), .second, .val (.long q2), .second, .val (.long q3), .second, .val (.long q4), .second, .val (.int p5), .val (.long n), .second, .val (.long u), .second, .unset, .unset, .unset, .unset, .unset, .unset, .unset, .unset, .unset] [(.long (32 : Int64)), (.long n)]))
  refine own_go (fun _ k => XS.ladd X1.here hx rfl (hb hby at_23) rfl k) ?_
  show own_Go _ _ _ _ (T1.setTop (mkF m 24 #[.val (.long q1), .second, .val (.long q2), .second, .val (.long q3), .second, .val (.long q4), .second, .val (.int p5), .val (.long n), .second, .val (.long u), .second, .unset, .unset, .unset, .unset, .unset, .unset, .unset, .unset, .unset] [(.long (n + (32 : Int64)))]))
  refine own_go (fun _ k => XS.lstore X1.here hx rfl (hb hby at_24) rfl (l' := #[.val (.long q1), .second, .val (.long q2), .second, .val (.long q3), .second, .val (.long q4), .second, .val (.int p5), .val (.long n), .second, .val (.long u), .second, .val (.long (n + (32 : Int64))), .second, .unset, .unset, .unset, .unset, .unset, .unset, .unset]) rfl k) ?_
  show own_Go _ _ _ _ (T1.setTop (mkF m 26 #[.val (.long q1), .second, .val (.long q2), .second, .val (.long q3), .second, .val (.long q4), .second, .val (.int p5), .val (.long n), .second, .val (.long u), .second, .val (.long (n + (32 : Int64))), .second, .unset, .unset, .unset, .unset, .unset, .unset, .unset] []))
  refine own_go (fun _ k => XS.iload X1.here hx rfl (hb hby at_26) rfl k) ?_
  show own_Go _ _ _ _ (T1.setTop (mkF m 28 #[.val (.long q1), .second, .val (.long q2), .second, .val (.long q3), .second, .val (.long q4), .second, .val (.int p5), .val (.long n), .second, .val (.long u), .second, .val (.long (n + (32 : Int64))), .second, .unset, .unset, .unset, .unset, .unset, .unset, .unset] [(.int p5)]))
  refine own_go (fun _ k => XS.iconst X1.here hx rfl (hb hby at_28) k) ?_
  show own_Go _ _ _ _ (T1.setTop (mkF m 29 #[.val (.long q1), .second, .val (.long q2), .second, .val (.long q3), .second, .val (.long q4), .second, .val (.int p5), .val (.long n), .second, .val (.long u), .second, .val (.long (n + (32 : Int64))), .second, .unset, .unset, .unset, .unset, .unset, .unset, .unset] [(.int (1 : Int32)), (.int p5)]))
  refine own_go (fun _ k => XS.iand X1.here hx rfl (hb hby at_29) rfl k) ?_
  show own_Go _ _ _ _ (T1.setTop (mkF m 30 #[.val (.long q1), .second, .val (.long q2), .second, .val (.long q3), .second, .val (.long q4), .second, .val (.int p5), .val (.long n), .second, .val (.long u), .second, .val (.long (n + (32 : Int64))), .second, .unset, .unset, .unset, .unset, .unset, .unset, .unset] [(.int (p5 &&& (1 : Int32)))]))
  have J53 : ∀ (o : Int64), own_Go p.tables e below (own_End s below (fun v h L => v = some (.int 1) ∧ Fr n0 L) room_1.cells room_1.slots) (T1.setTop (mkF m 53 #[.val (.long q1), .second, .val (.long q2), .second, .val (.long q3), .second, .val (.long q4), .second, .val (.int p5), .val (.long n), .second, .val (.long u), .second, .val (.long (n + (32 : Int64))), .second, .unset, .unset, .unset, .unset, .unset, .unset, .unset] [(.long o)])) := by
    intro o
    refine own_go (fun _ k => XS.lstore X1.here hx rfl (hb hby at_53) rfl (l' := #[.val (.long q1), .second, .val (.long q2), .second, .val (.long q3), .second, .val (.long q4), .second, .val (.int p5), .val (.long n), .second, .val (.long u), .second, .val (.long (n + (32 : Int64))), .second, .val (.long o), .second, .unset, .unset, .unset, .unset, .unset]) rfl k) ?_
    show own_Go _ _ _ _ (T1.setTop (mkF m 55 #[.val (.long q1), .second, .val (.long q2), .second, .val (.long q3), .second, .val (.long q4), .second, .val (.int p5), .val (.long n), .second, .val (.long u), .second, .val (.long (n + (32 : Int64))), .second, .val (.long o), .second, .unset, .unset, .unset, .unset, .unset] []))
    refine own_go (fun _ k => XS.iload X1.here hx rfl (hb hby at_55) rfl k) ?_
    show own_Go _ _ _ _ (T1.setTop (mkF m 57 #[.val (.long q1), .second, .val (.long q2), .second, .val (.long q3), .second, .val (.long q4), .second, .val (.int p5), .val (.long n), .second, .val (.long u), .second, .val (.long (n + (32 : Int64))), .second, .val (.long o), .second, .unset, .unset, .unset, .unset, .unset] [(.int p5)]))
    refine own_go (fun _ k => XS.bipush X1.here hx rfl (hb hby at_57) k) ?_
    show own_Go _ _ _ _ (T1.setTop (mkF m 59 #[.val (.long q1), .second, .val (.long q2), .second, .val (.long q3), .second, .val (.long q4), .second, .val (.int p5), .val (.long n), .second, .val (.long u), .second, .val (.long (n + (32 : Int64))), .second, .val (.long o), .second, .unset, .unset, .unset, .unset, .unset] [(.int (16 : Int32)), (.int p5)]))
    refine own_go (fun _ k => XS.iand X1.here hx rfl (hb hby at_59) rfl k) ?_
    show own_Go _ _ _ _ (T1.setTop (mkF m 60 #[.val (.long q1), .second, .val (.long q2), .second, .val (.long q3), .second, .val (.long q4), .second, .val (.int p5), .val (.long n), .second, .val (.long u), .second, .val (.long (n + (32 : Int64))), .second, .val (.long o), .second, .unset, .unset, .unset, .unset, .unset] [(.int (p5 &&& (16 : Int32)))]))
    have J83 : ∀ (d : Int64), own_Go p.tables e below (own_End s below (fun v h L => v = some (.int 1) ∧ Fr n0 L) room_1.cells room_1.slots) (T1.setTop (mkF m 83 #[.val (.long q1), .second, .val (.long q2), .second, .val (.long q3), .second, .val (.long q4), .second, .val (.int p5), .val (.long n), .second, .val (.long u), .second, .val (.long (n + (32 : Int64))), .second, .val (.long o), .second, .unset, .unset, .unset, .unset, .unset] [(.long d)])) := by
      intro d
      refine own_go (fun _ k => XS.lstore X1.here hx rfl (hb hby at_83) rfl (l' := #[.val (.long q1), .second, .val (.long q2), .second, .val (.long q3), .second, .val (.long q4), .second, .val (.int p5), .val (.long n), .second, .val (.long u), .second, .val (.long (n + (32 : Int64))), .second, .val (.long o), .second, .val (.long d), .second, .unset, .unset, .unset]) rfl k) ?_
      show own_Go _ _ _ _ (T1.setTop (mkF m 85 #[.val (.long q1), .second, .val (.long q2), .second, .val (.long q3), .second, .val (.long q4), .second, .val (.int p5), .val (.long n), .second, .val (.long u), .second, .val (.long (n + (32 : Int64))), .second, .val (.long o), .second, .val (.long d), .second, .unset, .unset, .unset] []))
      obtain ⟨T2, h2, X2, e2, E2, A2, D2, -, st2⟩ := newO X1 hx hZ hown (hw _ (List.mem_of_getElem? (i := 7) rfl)) (hw _ (List.mem_of_getElem? (i := 8) rfl)) (hw _ (List.mem_of_getElem? (i := 9) rfl)) eq1 (g := (mkF m 85 #[.val (.long q1), .second, .val (.long q2), .second, .val (.long q3), .second, .val (.long q4), .second, .val (.int p5), .val (.long n), .second, .val (.long u), .second, .val (.long (n + (32 : Int64))), .second, .val (.long o), .second, .val (.long d), .second, .unset, .unset, .unset] [])) rfl (hb hby at_85) (by decide) (by decide)
      obtain ⟨b2, g2⟩ : ∃ z, z = h0.size := ⟨_, rfl⟩
      rw [← g2] at A2 D2 st2
      refine own_go st2 ?_
      have ge_b2 : n0 ≤ b2 := Nat.le_trans Z0 (Nat.le_of_eq g2.symm)
      have sz_b2 : h0.size ≤ b2 := Nat.le_trans K0.1 (Nat.le_of_eq g2.symm)
      replace Z0 := Nat.le_trans Z0 E2.1
      replace K0 := K0.ext E2
      have F_ownPast_b2 : Fld Z h2 b2 "com/example/utopic/utopic/broker/HeapBudget$Layout" "ownPast" "J" (.long (0 : Int64)) := D2 (Or.inr (hw _ (List.mem_of_getElem? (i := 22) rfl))) (ty := .long) (by decide)
      have F_unit_b2 : Fld Z h2 b2 "com/example/utopic/utopic/broker/HeapBudget$Layout" "unit" "J" (.long (0 : Int64)) := D2 (Or.inr (hw _ (List.mem_of_getElem? (i := 24) rfl))) (ty := .long) (by decide)
      have F_doubledPast_b2 : Fld Z h2 b2 "com/example/utopic/utopic/broker/HeapBudget$Layout" "doubledPast" "J" (.long (0 : Int64)) := D2 (Or.inr (hw _ (List.mem_of_getElem? (i := 26) rfl))) (ty := .long) (by decide)
      show own_Go _ _ _ _ (T2.setTop (mkF m 88 #[.val (.long q1), .second, .val (.long q2), .second, .val (.long q3), .second, .val (.long q4), .second, .val (.int p5), .val (.long n), .second, .val (.long u), .second, .val (.long (n + (32 : Int64))), .second, .val (.long o), .second, .val (.long d), .second, .unset, .unset, .unset] [(.ref b2)]))
      refine own_go (fun _ k => XS.dup X2.here hx rfl (hb hby at_88) rfl rfl k) ?_
      show own_Go _ _ _ _ (T2.setTop (mkF m 89 #[.val (.long q1), .second, .val (.long q2), .second, .val (.long q3), .second, .val (.long q4), .second, .val (.int p5), .val (.long n), .second, .val (.long u), .second, .val (.long (n + (32 : Int64))), .second, .val (.long o), .second, .val (.long d), .second, .unset, .unset, .unset] [(.ref b2), (.ref b2)]))
      refine own_go (fun _ k => XS.lload X2.here hx rfl (hb hby at_89) rfl k) ?_
      show own_Go _ _ _ _ (T2.setTop (mkF m 91 #[.val (.long q1), .second, .val (.long q2), .second, .val (.long q3), .second, .val (.long q4), .second, .val (.int p5), .val (.long n), .second, .val (.long u), .second, .val (.long (n + (32 : Int64))), .second, .val (.long o), .second, .val (.long d), .second, .unset, .unset, .unset] [(.long o), (.ref b2), (.ref b2)]))
      refine own_go (fun _ k => XS.lload X2.here hx rfl (hb hby at_91) rfl k) ?_
      show own_Go _ _ _ _ (T2.setTop (mkF m 93 #[.val (.long q1), .second, .val (.long q2), .second, .val (.long q3), .second, .val (.long q4), .second, .val (.int p5), .val (.long n), .second, .val (.long u), .second, .val (.long (n + (32 : Int64))), .second, .val (.long o), .second, .val (.long d), .second, .unset, .unset, .unset] [(.long u), (.long o), (.ref b2), (.ref b2)]))
      refine own_go (fun _ k => XS.lload X2.here hx rfl (hb hby at_93) rfl k) ?_
      show own_Go _ _ _ _ (T2.setTop (mkF m 95 #[.val (.long q1), .second, .val (.long q2), .second, .val (.long q3), .second, .val (.long q4), .second, .val (.int p5), .val (.long n), .second, .val (.long u), .second, .val (.long (n + (32 : Int64))), .second, .val (.long o), .second, .val (.long d), .second, .unset, .unset, .unset] [(.long d), (.long u), (.long o), (.ref b2), (.ref b2)]))
      obtain ⟨_, _, ⟨T3, L3, k3, n3⟩, -, X3, ⟨Lc3, hQ3, l3, y3, z3⟩, st3⟩ := X2.specialBack hx (y := (⟨"com/example/utopic/utopic/broker/HeapBudget$Layout", "<init>", "(JJJ)V"⟩ : MethodName)) rfl hown (mvT hZ (hw _ (List.mem_of_getElem? (i := 10) rfl))) (mvT hZ (hw _ (List.mem_of_getElem? (i := 11) rfl))) (mvT hZ (hw _ (List.mem_of_getElem? (i := 12) rfl))) (by decide) (own_back (W := 1) (own_rmI l Z a0 hw b2 o u d h2 n0 Z0 A2 F_ownPast_b2 F_unit_b2 F_doubledPast_b2 ge_b2) hZ (hw _ (List.mem_of_getElem? (i := 12) rfl)) (hw _ (List.mem_of_getElem? (i := 9) rfl)) (by decide) (by decide)) (g := (mkF m 95 #[.val (.long q1), .second, .val (.long q2), .second, .val (.long q3), .second, .val (.long q4), .second, .val (.int p5), .val (.long n), .second, .val (.long u), .second, .val (.long (n + (32 : Int64))), .second, .val (.long o), .second, .val (.long d), .second, .unset, .unset, .unset] [(.long d), (.long u), (.long o), (.ref b2), (.ref b2)])) rfl (by rw [hml]; rfl) (Steps.refl _) (a := b2) (argsL := [(.long o), (.long u), (.long d)]) (rest := [(.ref b2)]) (lenOf own_pd2 rfl) rfl (by show 2 * 0 + _ ≤ _; exact Nat.le_of_eq rfl) (hb hby at_95) (fun _ _ => ⟨rfl, e2, (by decide : 1 + 0 ≤ _), (by decide : 3 + 0 ≤ _)⟩)
      dsimp only [Pt.U, Pt.locs, Pt.cells, Pt.slots] at X3 l3 y3 z3 st3 hQ3
      subst l3 y3 z3
      obtain ⟨rfl, Nq3, K3, Fo3, Fu3, Fd3⟩ := hQ3
      have NF3 := Fr.app NF1 Nq3
      refine own_goT st3 ?_
      replace A2 := A2.keep K3
      replace Z0 := Nat.le_trans Z0 K3.1
      replace K0 := K0.trans K3 (allS (Or.inr sz_b2) all0)
      show own_Go _ _ _ _ (T3.setTop (mkF m 98 #[.val (.long q1), .second, .val (.long q2), .second, .val (.long q3), .second, .val (.long q4), .second, .val (.int p5), .val (.long n), .second, .val (.long u), .second, .val (.long (n + (32 : Int64))), .second, .val (.long o), .second, .val (.long d), .second, .unset, .unset, .unset] [(.ref b2)]))
      refine own_go (fun _ k => XS.astore X3.here hx rfl (hb hby at_98) rfl rfl (l' := #[.val (.long q1), .second, .val (.long q2), .second, .val (.long q3), .second, .val (.long q4), .second, .val (.int p5), .val (.long n), .second, .val (.long u), .second, .val (.long (n + (32 : Int64))), .second, .val (.long o), .second, .val (.long d), .second, .val (.ref b2), .unset, .unset]) rfl k) ?_
      show own_Go _ _ _ _ (T3.setTop (mkF m 100 #[.val (.long q1), .second, .val (.long q2), .second, .val (.long q3), .second, .val (.long q4), .second, .val (.int p5), .val (.long n), .second, .val (.long u), .second, .val (.long (n + (32 : Int64))), .second, .val (.long o), .second, .val (.long d), .second, .val (.ref b2), .unset, .unset] []))
      refine own_go (fun _ k => XS.aload X3.here hx rfl (hb hby at_100) rfl rfl k) ?_
      show own_Go _ _ _ _ (T3.setTop (mkF m 102 #[.val (.long q1), .second, .val (.long q2), .second, .val (.long q3), .second, .val (.long q4), .second, .val (.int p5), .val (.long n), .second, .val (.long u), .second, .val (.long (n + (32 : Int64))), .second, .val (.long o), .second, .val (.long d), .second, .val (.ref b2), .unset, .unset] [(.ref b2)]))
      refine own_go (fun _ k => XS.lload X3.here hx rfl (hb hby at_102) rfl k) ?_
      show own_Go _ _ _ _ (T3.setTop (mkF m 104 #[.val (.long q1), .second, .val (.long q2), .second, .val (.long q3), .second, .val (.long q4), .second, .val (.int p5), .val (.long n), .second, .val (.long u), .second, .val (.long (n + (32 : Int64))), .second, .val (.long o), .second, .val (.long d), .second, .val (.ref b2), .unset, .unset] [(.long n), (.ref b2)]))
      obtain ⟨cq4, kq4, q4a, q4b, q4c⟩ := isOf hZ rfl A2
      obtain ⟨_, _, ⟨T4, L4, k4, n4⟩, -, X4, ⟨Lc4, hQ4, l4, y4, z4⟩, st4⟩ := X3.virtualBack hx (y := (⟨"com/example/utopic/utopic/broker/HeapBudget$Layout", "arrayBytes", "(J)J"⟩ : MethodName)) (z := (⟨"com/example/utopic/utopic/broker/HeapBudget$Layout", "arrayBytes", "(J)J"⟩ : MethodName)) hown (mvT hZ (hw _ (List.mem_of_getElem? (i := 27) rfl))) (mvT hZ (hw _ (List.mem_of_getElem? (i := 28) rfl))) (notFace_of_selects (args := #[]) (mvT hZ (hw _ (List.mem_of_getElem? (i := 30) rfl)))) (mvT hZ (hw _ (List.mem_of_getElem? (i := 30) rfl))) (mvT hZ (hw _ (List.mem_of_getElem? (i := 29) rfl))) (by decide) (own_back (W := 0) (own_rmA l Z a0 hw b2 n o u d T3.heap n0 Z0 Fo3 Fu3 Fd3 hu) hZ (hw _ (List.mem_of_getElem? (i := 31) rfl)) (hw _ (List.mem_of_getElem? (i := 9) rfl)) (by decide) (by decide)) q4a q4c (g := (mkF m 104 #[.val (.long q1), .second, .val (.long q2), .second, .val (.long q3), .second, .val (.long q4), .second, .val (.int p5), .val (.long n), .second, .val (.long u), .second, .val (.long (n + (32 : Int64))), .second, .val (.long o), .second, .val (.long d), .second, .val (.ref b2), .unset, .unset] [(.long n), (.ref b2)])) rfl (by rw [hml]; rfl) (Steps.refl _) (argsL := [(.long n)]) (rest := []) (lenOf own_pd3 rfl) rfl (by show 2 * 0 + _ ≤ _; exact Nat.le_of_eq rfl) (hb hby at_104) (fun _ _ => ⟨rfl, rfl, (by decide : 1 + 0 ≤ _), (by decide : 3 + 0 ≤ _)⟩)
      dsimp only [Pt.U, Pt.locs, Pt.cells, Pt.slots] at X4 l4 y4 z4 st4 hQ4
      subst l4 y4 z4
      obtain ⟨rfl, Nq4, eq4⟩ := hQ4
      have NF4 := Fr.app NF3 Nq4
      refine own_goT st4 ?_
      show own_Go _ _ _ _ (T4.setTop (mkF m 107 #[.val (.long q1), .second, .val (.long q2), .second, .val (.long q3), .second, .val (.long q4), .second, .val (.int p5), .val (.long n), .second, .val (.long u), .second, .val (.long (n + (32 : Int64))), .second, .val (.long o), .second, .val (.long d), .second, .val (.ref b2), .unset, .unset] [(.long (own_ab n o u d))]))
      refine own_go (fun _ k => XS.lstore X4.here hx rfl (hb hby at_107) rfl (l' := #[.val (.long q1), .second, .val (.long q2), .second, .val (.long q3), .second, .val (.long q4), .second, .val (.int p5), .val (.long n), .second, .val (.long u), .second, .val (.long (n + (32 : Int64))), .second, .val (.long o), .second, .val (.long d), .second, .val (.ref b2), .val (.long (own_ab n o u d)), .second]) rfl k) ?_
      show own_Go _ _ _ _ (T4.setTop (mkF m 109 #[.val (.long q1), .second, .val (.long q2), .second, .val (.long q3), .second, .val (.long q4), .second, .val (.int p5), .val (.long n), .second, .val (.long u), .second, .val (.long (n + (32 : Int64))), .second, .val (.long o), .second, .val (.long d), .second, .val (.ref b2), .val (.long (own_ab n o u d)), .second] []))
      refine own_go (fun _ k => XS.lload X4.here hx rfl (hb hby at_109) rfl k) ?_
      show own_Go _ _ _ _ (T4.setTop (mkF m 111 #[.val (.long q1), .second, .val (.long q2), .second, .val (.long q3), .second, .val (.long q4), .second, .val (.int p5), .val (.long n), .second, .val (.long u), .second, .val (.long (n + (32 : Int64))), .second, .val (.long o), .second, .val (.long d), .second, .val (.ref b2), .val (.long (own_ab n o u d)), .second] [(.long (n + (32 : Int64)))]))
      refine own_go (fun _ k => XS.lload X4.here hx rfl (hb hby at_111) rfl k) ?_
      show own_Go _ _ _ _ (T4.setTop (mkF m 113 #[.val (.long q1), .second, .val (.long q2), .second, .val (.long q3), .second, .val (.long q4), .second, .val (.int p5), .val (.long n), .second, .val (.long u), .second, .val (.long (n + (32 : Int64))), .second, .val (.long o), .second, .val (.long d), .second, .val (.ref b2), .val (.long (own_ab n o u d)), .second] [(.long o), (.long (n + (32 : Int64)))]))
      refine own_go (fun _ k => XS.lcmp X4.here hx rfl (hb hby at_113) rfl k) ?_
      show own_Go _ _ _ _ (T4.setTop (mkF m 114 #[.val (.long q1), .second, .val (.long q2), .second, .val (.long q3), .second, .val (.long q4), .second, .val (.int p5), .val (.long n), .second, .val (.long u), .second, .val (.long (n + (32 : Int64))), .second, .val (.long o), .second, .val (.long d), .second, .val (.ref b2), .val (.long (own_ab n o u d)), .second] [(.int (lcmpW (n + (32 : Int64)) o))]))
      by_cases hc114 : o < (n + (32 : Int64))
      · have _h := hc114
        obtain ⟨hr1, hr2, hr3⟩ := own_up hn1 hn2 hu1 hu2
        rw [show own_ab n o u d = ((n + 32 + u - 1) / u) * u from if_pos hc114]
        show own_Go _ _ _ _ (T4.setTop (mkF m 114 #[.val (.long q1), .second, .val (.long q2), .second, .val (.long q3), .second, .val (.long q4), .second, .val (.int p5), .val (.long n), .second, .val (.long u), .second, .val (.long (n + (32 : Int64))), .second, .val (.long o), .second, .val (.long d), .second, .val (.ref b2), .val (.long (((n + (32 : Int64) + u - (1 : Int64)) / u) * u)), .second] [(.int (lcmpW (n + (32 : Int64)) o))]))
        refine own_go (fun _ k => XS.ifNo X4.here hx rfl (hb hby at_114) rfl ((if0 _ _).trans (tlt ((lw_gt _ _).mpr hc114)).2.2.2) k) ?_
        show own_Go _ _ _ _ (T4.setTop (mkF m 117 #[.val (.long q1), .second, .val (.long q2), .second, .val (.long q3), .second, .val (.long q4), .second, .val (.int p5), .val (.long n), .second, .val (.long u), .second, .val (.long (n + (32 : Int64))), .second, .val (.long o), .second, .val (.long d), .second, .val (.ref b2), .val (.long (((n + (32 : Int64) + u - (1 : Int64)) / u) * u)), .second] []))
        refine own_go (fun _ k => XS.lload X4.here hx rfl (hb hby at_117) rfl k) ?_
        show own_Go _ _ _ _ (T4.setTop (mkF m 119 #[.val (.long q1), .second, .val (.long q2), .second, .val (.long q3), .second, .val (.long q4), .second, .val (.int p5), .val (.long n), .second, .val (.long u), .second, .val (.long (n + (32 : Int64))), .second, .val (.long o), .second, .val (.long d), .second, .val (.ref b2), .val (.long (((n + (32 : Int64) + u - (1 : Int64)) / u) * u)), .second] [(.long (((n + (32 : Int64) + u - (1 : Int64)) / u) * u))]))
        refine own_go (fun _ k => XS.lload X4.here hx rfl (hb hby at_119) rfl k) ?_
        show own_Go _ _ _ _ (T4.setTop (mkF m 121 #[.val (.long q1), .second, .val (.long q2), .second, .val (.long q3), .second, .val (.long q4), .second, .val (.int p5), .val (.long n), .second, .val (.long u), .second, .val (.long (n + (32 : Int64))), .second, .val (.long o), .second, .val (.long d), .second, .val (.ref b2), .val (.long (((n + (32 : Int64) + u - (1 : Int64)) / u) * u)), .second] [(.long u), (.long (((n + (32 : Int64) + u - (1 : Int64)) / u) * u))]))
        refine own_go (fun _ k => XS.lrem X4.here hx rfl (hb hby at_121) rfl hu k) ?_
        show own_Go _ _ _ _ (T4.setTop (mkF m 122 #[.val (.long q1), .second, .val (.long q2), .second, .val (.long q3), .second, .val (.long q4), .second, .val (.int p5), .val (.long n), .second, .val (.long u), .second, .val (.long (n + (32 : Int64))), .second, .val (.long o), .second, .val (.long d), .second, .val (.ref b2), .val (.long (((n + (32 : Int64) + u - (1 : Int64)) / u) * u)), .second] [(.long ((((n + (32 : Int64) + u - (1 : Int64)) / u) * u) - ((((n + (32 : Int64) + u - (1 : Int64)) / u) * u) / u) * u))]))
        refine own_go (fun _ k => XS.lconst X4.here hx rfl (hb hby at_122) k) ?_
        show own_Go _ _ _ _ (T4.setTop (mkF m 123 #[.val (.long q1), .second, .val (.long q2), .second, .val (.long q3), .second, .val (.long q4), .second, .val (.int p5), .val (.long n), .second, .val (.long u), .second, .val (.long (n + (32 : Int64))), .second, .val (.long o), .second, .val (.long d), .second, .val (.ref b2), .val (.long (((n + (32 : Int64) + u - (1 : Int64)) / u) * u)), .second] [(.long (0 : Int64)), (.long ((((n + (32 : Int64) + u - (1 : Int64)) / u) * u) - ((((n + (32 : Int64) + u - (1 : Int64)) / u) * u) / u) * u))]))
        refine own_go (fun _ k => XS.lcmp X4.here hx rfl (hb hby at_123) rfl k) ?_
        show own_Go _ _ _ _ (T4.setTop (mkF m 124 #[.val (.long q1), .second, .val (.long q2), .second, .val (.long q3), .second, .val (.long q4), .second, .val (.int p5), .val (.long n), .second, .val (.long u), .second, .val (.long (n + (32 : Int64))), .second, .val (.long o), .second, .val (.long d), .second, .val (.ref b2), .val (.long (((n + (32 : Int64) + u - (1 : Int64)) / u) * u)), .second] [(.int (lcmpW ((((n + (32 : Int64) + u - (1 : Int64)) / u) * u) - ((((n + (32 : Int64) + u - (1 : Int64)) / u) * u) / u) * u) (0 : Int64)))]))
        refine own_go (fun _ k => XS.ifNo X4.here hx rfl (hb hby at_124) rfl ((if0 _ _).trans (teq ((lw_eq _ _).mpr hr1)).2) k) ?_
        show own_Go _ _ _ _ (T4.setTop (mkF m 127 #[.val (.long q1), .second, .val (.long q2), .second, .val (.long q3), .second, .val (.long q4), .second, .val (.int p5), .val (.long n), .second, .val (.long u), .second, .val (.long (n + (32 : Int64))), .second, .val (.long o), .second, .val (.long d), .second, .val (.ref b2), .val (.long (((n + (32 : Int64) + u - (1 : Int64)) / u) * u)), .second] []))
        refine own_go (fun _ k => XS.lload X4.here hx rfl (hb hby at_127) rfl k) ?_
        show own_Go _ _ _ _ (T4.setTop (mkF m 129 #[.val (.long q1), .second, .val (.long q2), .second, .val (.long q3), .second, .val (.long q4), .second, .val (.int p5), .val (.long n), .second, .val (.long u), .second, .val (.long (n + (32 : Int64))), .second, .val (.long o), .second, .val (.long d), .second, .val (.ref b2), .val (.long (((n + (32 : Int64) + u - (1 : Int64)) / u) * u)), .second] [(.long (((n + (32 : Int64) + u - (1 : Int64)) / u) * u))]))
        refine own_go (fun _ k => XS.lload X4.here hx rfl (hb hby at_129) rfl k) ?_
        show own_Go _ _ _ _ (T4.setTop (mkF m 131 #[.val (.long q1), .second, .val (.long q2), .second, .val (.long q3), .second, .val (.long q4), .second, .val (.int p5), .val (.long n), .second, .val (.long u), .second, .val (.long (n + (32 : Int64))), .second, .val (.long o), .second, .val (.long d), .second, .val (.ref b2), .val (.long (((n + (32 : Int64) + u - (1 : Int64)) / u) * u)), .second] [(.long (n + (32 : Int64))), (.long (((n + (32 : Int64) + u - (1 : Int64)) / u) * u))]))
        refine own_go (fun _ k => XS.lcmp X4.here hx rfl (hb hby at_131) rfl k) ?_
        show own_Go _ _ _ _ (T4.setTop (mkF m 132 #[.val (.long q1), .second, .val (.long q2), .second, .val (.long q3), .second, .val (.long q4), .second, .val (.int p5), .val (.long n), .second, .val (.long u), .second, .val (.long (n + (32 : Int64))), .second, .val (.long o), .second, .val (.long d), .second, .val (.ref b2), .val (.long (((n + (32 : Int64) + u - (1 : Int64)) / u) * u)), .second] [(.int (lcmpW (((n + (32 : Int64) + u - (1 : Int64)) / u) * u) (n + (32 : Int64))))]))
        refine own_go (fun _ k => XS.ifNo X4.here hx rfl (hb hby at_132) rfl ((if0 _ _).trans (flt (fun q => hr2 ((lw_lt _ _).mp q))).1) k) ?_
        show own_Go _ _ _ _ (T4.setTop (mkF m 135 #[.val (.long q1), .second, .val (.long q2), .second, .val (.long q3), .second, .val (.long q4), .second, .val (.int p5), .val (.long n), .second, .val (.long u), .second, .val (.long (n + (32 : Int64))), .second, .val (.long o), .second, .val (.long d), .second, .val (.ref b2), .val (.long (((n + (32 : Int64) + u - (1 : Int64)) / u) * u)), .second] []))
        refine own_go (fun _ k => XS.lload X4.here hx rfl (hb hby at_135) rfl k) ?_
        show own_Go _ _ _ _ (T4.setTop (mkF m 137 #[.val (.long q1), .second, .val (.long q2), .second, .val (.long q3), .second, .val (.long q4), .second, .val (.int p5), .val (.long n), .second, .val (.long u), .second, .val (.long (n + (32 : Int64))), .second, .val (.long o), .second, .val (.long d), .second, .val (.ref b2), .val (.long (((n + (32 : Int64) + u - (1 : Int64)) / u) * u)), .second] [(.long (((n + (32 : Int64) + u - (1 : Int64)) / u) * u))]))
        refine own_go (fun _ k => XS.lload X4.here hx rfl (hb hby at_137) rfl k) ?_
        show own_Go _ _ _ _ (T4.setTop (mkF m 139 #[.val (.long q1), .second, .val (.long q2), .second, .val (.long q3), .second, .val (.long q4), .second, .val (.int p5), .val (.long n), .second, .val (.long u), .second, .val (.long (n + (32 : Int64))), .second, .val (.long o), .second, .val (.long d), .second, .val (.ref b2), .val (.long (((n + (32 : Int64) + u - (1 : Int64)) / u) * u)), .second] [(.long (n + (32 : Int64))), (.long (((n + (32 : Int64) + u - (1 : Int64)) / u) * u))]))
        refine own_go (fun _ k => XS.lsub X4.here hx rfl (hb hby at_139) rfl k) ?_
        show own_Go _ _ _ _ (T4.setTop (mkF m 140 #[.val (.long q1), .second, .val (.long q2), .second, .val (.long q3), .second, .val (.long q4), .second, .val (.int p5), .val (.long n), .second, .val (.long u), .second, .val (.long (n + (32 : Int64))), .second, .val (.long o), .second, .val (.long d), .second, .val (.ref b2), .val (.long (((n + (32 : Int64) + u - (1 : Int64)) / u) * u)), .second] [(.long ((((n + (32 : Int64) + u - (1 : Int64)) / u) * u) - (n + (32 : Int64))))]))
        refine own_go (fun _ k => XS.lload X4.here hx rfl (hb hby at_140) rfl k) ?_
        show own_Go _ _ _ _ (T4.setTop (mkF m 142 #[.val (.long q1), .second, .val (.long q2), .second, .val (.long q3), .second, .val (.long q4), .second, .val (.int p5), .val (.long n), .second, .val (.long u), .second, .val (.long (n + (32 : Int64))), .second, .val (.long o), .second, .val (.long d), .second, .val (.ref b2), .val (.long (((n + (32 : Int64) + u - (1 : Int64)) / u) * u)), .second] [(.long u), (.long ((((n + (32 : Int64) + u - (1 : Int64)) / u) * u) - (n + (32 : Int64))))]))
        refine own_go (fun _ k => XS.lcmp X4.here hx rfl (hb hby at_142) rfl k) ?_
        show own_Go _ _ _ _ (T4.setTop (mkF m 143 #[.val (.long q1), .second, .val (.long q2), .second, .val (.long q3), .second, .val (.long q4), .second, .val (.int p5), .val (.long n), .second, .val (.long u), .second, .val (.long (n + (32 : Int64))), .second, .val (.long o), .second, .val (.long d), .second, .val (.ref b2), .val (.long (((n + (32 : Int64) + u - (1 : Int64)) / u) * u)), .second] [(.int (lcmpW ((((n + (32 : Int64) + u - (1 : Int64)) / u) * u) - (n + (32 : Int64))) u))]))
        refine own_go (fun _ k => XS.ifNo X4.here hx rfl (hb hby at_143) rfl ((if0 _ _).trans (tlt ((lw_lt _ _).mpr hr3)).2.1) k) ?_
        show own_Go _ _ _ _ (T4.setTop (mkF m 146 #[.val (.long q1), .second, .val (.long q2), .second, .val (.long q3), .second, .val (.long q4), .second, .val (.int p5), .val (.long n), .second, .val (.long u), .second, .val (.long (n + (32 : Int64))), .second, .val (.long o), .second, .val (.long d), .second, .val (.ref b2), .val (.long (((n + (32 : Int64) + u - (1 : Int64)) / u) * u)), .second] []))
        refine own_go (fun _ k => XS.iconst X4.here hx rfl (hb hby at_146) k) ?_
        show own_Go _ _ _ _ (T4.setTop (mkF m 147 #[.val (.long q1), .second, .val (.long q2), .second, .val (.long q3), .second, .val (.long q4), .second, .val (.int p5), .val (.long n), .second, .val (.long u), .second, .val (.long (n + (32 : Int64))), .second, .val (.long o), .second, .val (.long d), .second, .val (.ref b2), .val (.long (((n + (32 : Int64) + u - (1 : Int64)) / u) * u)), .second] [(.int (1 : Int32))]))
        refine own_go (fun _ k => XS.goto X4.here hx rfl (pc0 := 147) (pc' := 151) rfl (hb hby at_147) (by decide) (by decide) k) ?_
        show own_Go _ _ _ _ (T4.setTop (mkF m 151 #[.val (.long q1), .second, .val (.long q2), .second, .val (.long q3), .second, .val (.long q4), .second, .val (.int p5), .val (.long n), .second, .val (.long u), .second, .val (.long (n + (32 : Int64))), .second, .val (.long o), .second, .val (.long d), .second, .val (.ref b2), .val (.long (((n + (32 : Int64) + u - (1 : Int64)) / u) * u)), .second] [(.int (1 : Int32))]))
        refine own_ret X4 hlk (v := some (.int (1 : Int32))) (fun h => by rw [Bd.returns] at h; cases h) (fun fs hr => retN X4 hx (t := .boolean) Bd.returns (by simp) (hb hby at_151) hr) ?_ (by decide) (by decide)
        try rw [eq4]
        exact ⟨rfl, NF4⟩
      · have _h := hc114
        refine own_go (fun _ k => XS.ifYes X4.here hx rfl (pc0 := 114) (pc' := 152) rfl (hb hby at_114) rfl ((if0 _ _).trans (flt (fun q => hc114 ((lw_gt _ _).mp q))).2.2.2) (by decide) (by decide) k) ?_
        show own_Go _ _ _ _ (T4.setTop (mkF m 152 #[.val (.long q1), .second, .val (.long q2), .second, .val (.long q3), .second, .val (.long q4), .second, .val (.int p5), .val (.long n), .second, .val (.long u), .second, .val (.long (n + (32 : Int64))), .second, .val (.long o), .second, .val (.long d), .second, .val (.ref b2), .val (.long (own_ab n o u d)), .second] []))
        refine own_go (fun _ k => XS.lload X4.here hx rfl (hb hby at_152) rfl k) ?_
        show own_Go _ _ _ _ (T4.setTop (mkF m 154 #[.val (.long q1), .second, .val (.long q2), .second, .val (.long q3), .second, .val (.long q4), .second, .val (.int p5), .val (.long n), .second, .val (.long u), .second, .val (.long (n + (32 : Int64))), .second, .val (.long o), .second, .val (.long d), .second, .val (.ref b2), .val (.long (own_ab n o u d)), .second] [(.long n)]))
        refine own_go (fun _ k => XS.lload X4.here hx rfl (hb hby at_154) rfl k) ?_
        show own_Go _ _ _ _ (T4.setTop (mkF m 156 #[.val (.long q1), .second, .val (.long q2), .second, .val (.long q3), .second, .val (.long q4), .second, .val (.int p5), .val (.long n), .second, .val (.long u), .second, .val (.long (n + (32 : Int64))), .second, .val (.long o), .second, .val (.long d), .second, .val (.ref b2), .val (.long (own_ab n o u d)), .second] [(.long d), (.long n)]))
        refine own_go (fun _ k => XS.lcmp X4.here hx rfl (hb hby at_156) rfl k) ?_
        show own_Go _ _ _ _ (T4.setTop (mkF m 157 #[.val (.long q1), .second, .val (.long q2), .second, .val (.long q3), .second, .val (.long q4), .second, .val (.int p5), .val (.long n), .second, .val (.long u), .second, .val (.long (n + (32 : Int64))), .second, .val (.long o), .second, .val (.long d), .second, .val (.ref b2), .val (.long (own_ab n o u d)), .second] [(.int (lcmpW n d))]))
        by_cases hc157 : d < n
        · have _h := hc157
          rw [show own_ab n o u d = (n + n) from (if_neg hc114).trans ((if_pos hc157).trans own_dbl)]
          show own_Go _ _ _ _ (T4.setTop (mkF m 157 #[.val (.long q1), .second, .val (.long q2), .second, .val (.long q3), .second, .val (.long q4), .second, .val (.int p5), .val (.long n), .second, .val (.long u), .second, .val (.long (n + (32 : Int64))), .second, .val (.long o), .second, .val (.long d), .second, .val (.ref b2), .val (.long (n + n)), .second] [(.int (lcmpW n d))]))
          refine own_go (fun _ k => XS.ifYes X4.here hx rfl (pc0 := 157) (pc' := 174) rfl (hb hby at_157) rfl ((if0 _ _).trans (tlt ((lw_gt _ _).mpr hc157)).2.2.1) (by decide) (by decide) k) ?_
          show own_Go _ _ _ _ (T4.setTop (mkF m 174 #[.val (.long q1), .second, .val (.long q2), .second, .val (.long q3), .second, .val (.long q4), .second, .val (.int p5), .val (.long n), .second, .val (.long u), .second, .val (.long (n + (32 : Int64))), .second, .val (.long o), .second, .val (.long d), .second, .val (.ref b2), .val (.long (n + n)), .second] []))
          refine own_go (fun _ k => XS.lload X4.here hx rfl (hb hby at_174) rfl k) ?_
          show own_Go _ _ _ _ (T4.setTop (mkF m 176 #[.val (.long q1), .second, .val (.long q2), .second, .val (.long q3), .second, .val (.long q4), .second, .val (.int p5), .val (.long n), .second, .val (.long u), .second, .val (.long (n + (32 : Int64))), .second, .val (.long o), .second, .val (.long d), .second, .val (.ref b2), .val (.long (n + n)), .second] [(.long (n + n))]))
          refine own_go (fun _ k => XS.lload X4.here hx rfl (hb hby at_176) rfl k) ?_
          show own_Go _ _ _ _ (T4.setTop (mkF m 178 #[.val (.long q1), .second, .val (.long q2), .second, .val (.long q3), .second, .val (.long q4), .second, .val (.int p5), .val (.long n), .second, .val (.long u), .second, .val (.long (n + (32 : Int64))), .second, .val (.long o), .second, .val (.long d), .second, .val (.ref b2), .val (.long (n + n)), .second] [(.long n), (.long (n + n))]))
          refine own_go (fun _ k => XS.lload X4.here hx rfl (hb hby at_178) rfl k) ?_
          show own_Go _ _ _ _ (T4.setTop (mkF m 180 #[.val (.long q1), .second, .val (.long q2), .second, .val (.long q3), .second, .val (.long q4), .second, .val (.int p5), .val (.long n), .second, .val (.long u), .second, .val (.long (n + (32 : Int64))), .second, .val (.long o), .second, .val (.long d), .second, .val (.ref b2), .val (.long (n + n)), .second] [(.long n), (.long n), (.long (n + n))]))
          refine own_go (fun _ k => XS.ladd X4.here hx rfl (hb hby at_180) rfl k) ?_
          show own_Go _ _ _ _ (T4.setTop (mkF m 181 #[.val (.long q1), .second, .val (.long q2), .second, .val (.long q3), .second, .val (.long q4), .second, .val (.int p5), .val (.long n), .second, .val (.long u), .second, .val (.long (n + (32 : Int64))), .second, .val (.long o), .second, .val (.long d), .second, .val (.ref b2), .val (.long (n + n)), .second] [(.long (n + n)), (.long (n + n))]))
          refine own_go (fun _ k => XS.lcmp X4.here hx rfl (hb hby at_181) rfl k) ?_
          show own_Go _ _ _ _ (T4.setTop (mkF m 182 #[.val (.long q1), .second, .val (.long q2), .second, .val (.long q3), .second, .val (.long q4), .second, .val (.int p5), .val (.long n), .second, .val (.long u), .second, .val (.long (n + (32 : Int64))), .second, .val (.long o), .second, .val (.long d), .second, .val (.ref b2), .val (.long (n + n)), .second] [(.int (lcmpW (n + n) (n + n)))]))
          refine own_go (fun _ k => XS.ifNo X4.here hx rfl (hb hby at_182) rfl ((if0 _ _).trans (teq ((lw_eq _ _).mpr rfl)).2) k) ?_
          show own_Go _ _ _ _ (T4.setTop (mkF m 185 #[.val (.long q1), .second, .val (.long q2), .second, .val (.long q3), .second, .val (.long q4), .second, .val (.int p5), .val (.long n), .second, .val (.long u), .second, .val (.long (n + (32 : Int64))), .second, .val (.long o), .second, .val (.long d), .second, .val (.ref b2), .val (.long (n + n)), .second] []))
          refine own_go (fun _ k => XS.iconst X4.here hx rfl (hb hby at_185) k) ?_
          show own_Go _ _ _ _ (T4.setTop (mkF m 186 #[.val (.long q1), .second, .val (.long q2), .second, .val (.long q3), .second, .val (.long q4), .second, .val (.int p5), .val (.long n), .second, .val (.long u), .second, .val (.long (n + (32 : Int64))), .second, .val (.long o), .second, .val (.long d), .second, .val (.ref b2), .val (.long (n + n)), .second] [(.int (1 : Int32))]))
          refine own_go (fun _ k => XS.goto X4.here hx rfl (pc0 := 186) (pc' := 190) rfl (hb hby at_186) (by decide) (by decide) k) ?_
          show own_Go _ _ _ _ (T4.setTop (mkF m 190 #[.val (.long q1), .second, .val (.long q2), .second, .val (.long q3), .second, .val (.long q4), .second, .val (.int p5), .val (.long n), .second, .val (.long u), .second, .val (.long (n + (32 : Int64))), .second, .val (.long o), .second, .val (.long d), .second, .val (.ref b2), .val (.long (n + n)), .second] [(.int (1 : Int32))]))
          refine own_ret X4 hlk (v := some (.int (1 : Int32))) (fun h => by rw [Bd.returns] at h; cases h) (fun fs hr => retN X4 hx (t := .boolean) Bd.returns (by simp) (hb hby at_190) hr) ?_ (by decide) (by decide)
          try rw [eq4]
          exact ⟨rfl, NF4⟩
        · have _h := hc157
          rw [show own_ab n o u d = n from (if_neg hc114).trans (if_neg hc157)]
          show own_Go _ _ _ _ (T4.setTop (mkF m 157 #[.val (.long q1), .second, .val (.long q2), .second, .val (.long q3), .second, .val (.long q4), .second, .val (.int p5), .val (.long n), .second, .val (.long u), .second, .val (.long (n + (32 : Int64))), .second, .val (.long o), .second, .val (.long d), .second, .val (.ref b2), .val (.long n), .second] [(.int (lcmpW n d))]))
          refine own_go (fun _ k => XS.ifNo X4.here hx rfl (hb hby at_157) rfl ((if0 _ _).trans (flt (fun q => hc157 ((lw_gt _ _).mp q))).2.2.1) k) ?_
          show own_Go _ _ _ _ (T4.setTop (mkF m 160 #[.val (.long q1), .second, .val (.long q2), .second, .val (.long q3), .second, .val (.long q4), .second, .val (.int p5), .val (.long n), .second, .val (.long u), .second, .val (.long (n + (32 : Int64))), .second, .val (.long o), .second, .val (.long d), .second, .val (.ref b2), .val (.long n), .second] []))
          refine own_go (fun _ k => XS.lload X4.here hx rfl (hb hby at_160) rfl k) ?_
          show own_Go _ _ _ _ (T4.setTop (mkF m 162 #[.val (.long q1), .second, .val (.long q2), .second, .val (.long q3), .second, .val (.long q4), .second, .val (.int p5), .val (.long n), .second, .val (.long u), .second, .val (.long (n + (32 : Int64))), .second, .val (.long o), .second, .val (.long d), .second, .val (.ref b2), .val (.long n), .second] [(.long n)]))
          refine own_go (fun _ k => XS.lload X4.here hx rfl (hb hby at_162) rfl k) ?_
          show own_Go _ _ _ _ (T4.setTop (mkF m 164 #[.val (.long q1), .second, .val (.long q2), .second, .val (.long q3), .second, .val (.long q4), .second, .val (.int p5), .val (.long n), .second, .val (.long u), .second, .val (.long (n + (32 : Int64))), .second, .val (.long o), .second, .val (.long d), .second, .val (.ref b2), .val (.long n), .second] [(.long n), (.long n)]))
          refine own_go (fun _ k => XS.lcmp X4.here hx rfl (hb hby at_164) rfl k) ?_
          show own_Go _ _ _ _ (T4.setTop (mkF m 165 #[.val (.long q1), .second, .val (.long q2), .second, .val (.long q3), .second, .val (.long q4), .second, .val (.int p5), .val (.long n), .second, .val (.long u), .second, .val (.long (n + (32 : Int64))), .second, .val (.long o), .second, .val (.long d), .second, .val (.ref b2), .val (.long n), .second] [(.int (lcmpW n n))]))
          refine own_go (fun _ k => XS.ifNo X4.here hx rfl (hb hby at_165) rfl ((if0 _ _).trans (teq ((lw_eq _ _).mpr rfl)).2) k) ?_
          show own_Go _ _ _ _ (T4.setTop (mkF m 168 #[.val (.long q1), .second, .val (.long q2), .second, .val (.long q3), .second, .val (.long q4), .second, .val (.int p5), .val (.long n), .second, .val (.long u), .second, .val (.long (n + (32 : Int64))), .second, .val (.long o), .second, .val (.long d), .second, .val (.ref b2), .val (.long n), .second] []))
          refine own_go (fun _ k => XS.iconst X4.here hx rfl (hb hby at_168) k) ?_
          show own_Go _ _ _ _ (T4.setTop (mkF m 169 #[.val (.long q1), .second, .val (.long q2), .second, .val (.long q3), .second, .val (.long q4), .second, .val (.int p5), .val (.long n), .second, .val (.long u), .second, .val (.long (n + (32 : Int64))), .second, .val (.long o), .second, .val (.long d), .second, .val (.ref b2), .val (.long n), .second] [(.int (1 : Int32))]))
          refine own_go (fun _ k => XS.goto X4.here hx rfl (pc0 := 169) (pc' := 173) rfl (hb hby at_169) (by decide) (by decide) k) ?_
          show own_Go _ _ _ _ (T4.setTop (mkF m 173 #[.val (.long q1), .second, .val (.long q2), .second, .val (.long q3), .second, .val (.long q4), .second, .val (.int p5), .val (.long n), .second, .val (.long u), .second, .val (.long (n + (32 : Int64))), .second, .val (.long o), .second, .val (.long d), .second, .val (.ref b2), .val (.long n), .second] [(.int (1 : Int32))]))
          refine own_ret X4 hlk (v := some (.int (1 : Int32))) (fun h => by rw [Bd.returns] at h; cases h) (fun fs hr => retN X4 hx (t := .boolean) Bd.returns (by simp) (hb hby at_173) hr) ?_ (by decide) (by decide)
          try rw [eq4]
          exact ⟨rfl, NF4⟩
    by_cases hc60 : (p5 &&& (16 : Int32)) = (0 : Int32)
    · have _h := hc60
      refine own_go (fun _ k => XS.ifYes X1.here hx rfl (pc0 := 60) (pc' := 68) rfl (hb hby at_60) rfl ((if0 _ _).trans (teq hc60).1) (by decide) (by decide) k) ?_
      show own_Go _ _ _ _ (T1.setTop (mkF m 68 #[.val (.long q1), .second, .val (.long q2), .second, .val (.long q3), .second, .val (.long q4), .second, .val (.int p5), .val (.long n), .second, .val (.long u), .second, .val (.long (n + (32 : Int64))), .second, .val (.long o), .second, .unset, .unset, .unset, .unset, .unset] []))
      refine own_go (fun _ k => XS.lload X1.here hx rfl (hb hby at_68) rfl k) ?_
      show own_Go _ _ _ _ (T1.setTop (mkF m 70 #[.val (.long q1), .second, .val (.long q2), .second, .val (.long q3), .second, .val (.long q4), .second, .val (.int p5), .val (.long n), .second, .val (.long u), .second, .val (.long (n + (32 : Int64))), .second, .val (.long o), .second, .unset, .unset, .unset, .unset, .unset] [(.long n)]))
      refine own_go (fun _ k => XS.iload X1.here hx rfl (hb hby at_70) rfl k) ?_
      show own_Go _ _ _ _ (T1.setTop (mkF m 72 #[.val (.long q1), .second, .val (.long q2), .second, .val (.long q3), .second, .val (.long q4), .second, .val (.int p5), .val (.long n), .second, .val (.long u), .second, .val (.long (n + (32 : Int64))), .second, .val (.long o), .second, .unset, .unset, .unset, .unset, .unset] [(.int p5), (.long n)]))
      refine own_go (fun _ k => XS.iconst X1.here hx rfl (hb hby at_72) k) ?_
      show own_Go _ _ _ _ (T1.setTop (mkF m 73 #[.val (.long q1), .second, .val (.long q2), .second, .val (.long q3), .second, .val (.long q4), .second, .val (.int p5), .val (.long n), .second, .val (.long u), .second, .val (.long (n + (32 : Int64))), .second, .val (.long o), .second, .unset, .unset, .unset, .unset, .unset] [(.int (5 : Int32)), (.int p5), (.long n)]))
      refine own_go (fun _ k => XS.ishr X1.here hx rfl (hb hby at_73) rfl k) ?_
      show own_Go _ _ _ _ (T1.setTop (mkF m 74 #[.val (.long q1), .second, .val (.long q2), .second, .val (.long q3), .second, .val (.long q4), .second, .val (.int p5), .val (.long n), .second, .val (.long u), .second, .val (.long (n + (32 : Int64))), .second, .val (.long o), .second, .unset, .unset, .unset, .unset, .unset] [(.int (p5 >>> ((5 : Int32) &&& 31))), (.long n)]))
      refine own_go (fun _ k => XS.bipush X1.here hx rfl (hb hby at_74) k) ?_
      show own_Go _ _ _ _ (T1.setTop (mkF m 76 #[.val (.long q1), .second, .val (.long q2), .second, .val (.long q3), .second, .val (.long q4), .second, .val (.int p5), .val (.long n), .second, .val (.long u), .second, .val (.long (n + (32 : Int64))), .second, .val (.long o), .second, .unset, .unset, .unset, .unset, .unset] [(.int (7 : Int32)), (.int (p5 >>> ((5 : Int32) &&& 31))), (.long n)]))
      refine own_go (fun _ k => XS.iand X1.here hx rfl (hb hby at_76) rfl k) ?_
      show own_Go _ _ _ _ (T1.setTop (mkF m 77 #[.val (.long q1), .second, .val (.long q2), .second, .val (.long q3), .second, .val (.long q4), .second, .val (.int p5), .val (.long n), .second, .val (.long u), .second, .val (.long (n + (32 : Int64))), .second, .val (.long o), .second, .unset, .unset, .unset, .unset, .unset] [(.int ((p5 >>> ((5 : Int32) &&& 31)) &&& (7 : Int32))), (.long n)]))
      refine own_go (fun _ k => XS.i2l X1.here hx rfl (hb hby at_77) rfl k) ?_
      show own_Go _ _ _ _ (T1.setTop (mkF m 78 #[.val (.long q1), .second, .val (.long q2), .second, .val (.long q3), .second, .val (.long q4), .second, .val (.int p5), .val (.long n), .second, .val (.long u), .second, .val (.long (n + (32 : Int64))), .second, .val (.long o), .second, .unset, .unset, .unset, .unset, .unset] [(.long (((p5 >>> ((5 : Int32) &&& 31)) &&& (7 : Int32)).toInt64)), (.long n)]))
      refine own_go (fun _ k => XS.ladd X1.here hx rfl (hb hby at_78) rfl k) ?_
      show own_Go _ _ _ _ (T1.setTop (mkF m 79 #[.val (.long q1), .second, .val (.long q2), .second, .val (.long q3), .second, .val (.long q4), .second, .val (.int p5), .val (.long n), .second, .val (.long u), .second, .val (.long (n + (32 : Int64))), .second, .val (.long o), .second, .unset, .unset, .unset, .unset, .unset] [(.long (n + (((p5 >>> ((5 : Int32) &&& 31)) &&& (7 : Int32)).toInt64)))]))
      refine own_go (X1.ldc2Long hx hown (mvT hZ (hw _ (List.mem_of_getElem? (i := 6) rfl))) (g := (mkF m 79 #[.val (.long q1), .second, .val (.long q2), .second, .val (.long q3), .second, .val (.long q4), .second, .val (.int p5), .val (.long n), .second, .val (.long u), .second, .val (.long (n + (32 : Int64))), .second, .val (.long o), .second, .unset, .unset, .unset, .unset, .unset] [(.long (n + (((p5 >>> ((5 : Int32) &&& 31)) &&& (7 : Int32)).toInt64)))])) rfl (hb hby at_79)) ?_
      show own_Go _ _ _ _ (T1.setTop (mkF m 82 #[.val (.long q1), .second, .val (.long q2), .second, .val (.long q3), .second, .val (.long q4), .second, .val (.int p5), .val (.long n), .second, .val (.long u), .second, .val (.long (n + (32 : Int64))), .second, .val (.long o), .second, .unset, .unset, .unset, .unset, .unset] [(.long (4 : Int64)), (.long (n + (((p5 >>> ((5 : Int32) &&& 31)) &&& (7 : Int32)).toInt64)))]))
      refine own_go (fun _ k => XS.lsub X1.here hx rfl (hb hby at_82) rfl k) ?_
      show own_Go _ _ _ _ (T1.setTop (mkF m 83 #[.val (.long q1), .second, .val (.long q2), .second, .val (.long q3), .second, .val (.long q4), .second, .val (.int p5), .val (.long n), .second, .val (.long u), .second, .val (.long (n + (32 : Int64))), .second, .val (.long o), .second, .unset, .unset, .unset, .unset, .unset] [(.long ((n + (((p5 >>> ((5 : Int32) &&& 31)) &&& (7 : Int32)).toInt64)) - (4 : Int64)))]))
      exact J83 _
    · have _h := hc60
      refine own_go (fun _ k => XS.ifNo X1.here hx rfl (hb hby at_60) rfl ((if0 _ _).trans (feq hc60).1) k) ?_
      show own_Go _ _ _ _ (T1.setTop (mkF m 63 #[.val (.long q1), .second, .val (.long q2), .second, .val (.long q3), .second, .val (.long q4), .second, .val (.int p5), .val (.long n), .second, .val (.long u), .second, .val (.long (n + (32 : Int64))), .second, .val (.long o), .second, .unset, .unset, .unset, .unset, .unset] []))
      refine own_go (fun _ k => XS.lload X1.here hx rfl (hb hby at_63) rfl k) ?_
      show own_Go _ _ _ _ (T1.setTop (mkF m 65 #[.val (.long q1), .second, .val (.long q2), .second, .val (.long q3), .second, .val (.long q4), .second, .val (.int p5), .val (.long n), .second, .val (.long u), .second, .val (.long (n + (32 : Int64))), .second, .val (.long o), .second, .unset, .unset, .unset, .unset, .unset] [(.long q4)]))
      refine own_go (fun _ k => XS.goto X1.here hx rfl (pc0 := 65) (pc' := 83) rfl (hb hby at_65) (by decide) (by decide) k) ?_
      show own_Go _ _ _ _ (T1.setTop (mkF m 83 #[.val (.long q1), .second, .val (.long q2), .second, .val (.long q3), .second, .val (.long q4), .second, .val (.int p5), .val (.long n), .second, .val (.long u), .second, .val (.long (n + (32 : Int64))), .second, .val (.long o), .second, .unset, .unset, .unset, .unset, .unset] [(.long q4)]))
      exact J83 _
  by_cases hc30 : (p5 &&& (1 : Int32)) = (0 : Int32)
  · have _h := hc30
    refine own_go (fun _ k => XS.ifYes X1.here hx rfl (pc0 := 30) (pc' := 38) rfl (hb hby at_30) rfl ((if0 _ _).trans (teq hc30).1) (by decide) (by decide) k) ?_
    show own_Go _ _ _ _ (T1.setTop (mkF m 38 #[.val (.long q1), .second, .val (.long q2), .second, .val (.long q3), .second, .val (.long q4), .second, .val (.int p5), .val (.long n), .second, .val (.long u), .second, .val (.long (n + (32 : Int64))), .second, .unset, .unset, .unset, .unset, .unset, .unset, .unset] []))
    refine own_go (fun _ k => XS.lload X1.here hx rfl (hb hby at_38) rfl k) ?_
    show own_Go _ _ _ _ (T1.setTop (mkF m 40 #[.val (.long q1), .second, .val (.long q2), .second, .val (.long q3), .second, .val (.long q4), .second, .val (.int p5), .val (.long n), .second, .val (.long u), .second, .val (.long (n + (32 : Int64))), .second, .unset, .unset, .unset, .unset, .unset, .unset, .unset] [(.long (n + (32 : Int64)))]))
    refine own_go (fun _ k => XS.iload X1.here hx rfl (hb hby at_40) rfl k) ?_
    show own_Go _ _ _ _ (T1.setTop (mkF m 42 #[.val (.long q1), .second, .val (.long q2), .second, .val (.long q3), .second, .val (.long q4), .second, .val (.int p5), .val (.long n), .second, .val (.long u), .second, .val (.long (n + (32 : Int64))), .second, .unset, .unset, .unset, .unset, .unset, .unset, .unset] [(.int p5), (.long (n + (32 : Int64)))]))
    refine own_go (fun _ k => XS.iconst X1.here hx rfl (hb hby at_42) k) ?_
    show own_Go _ _ _ _ (T1.setTop (mkF m 43 #[.val (.long q1), .second, .val (.long q2), .second, .val (.long q3), .second, .val (.long q4), .second, .val (.int p5), .val (.long n), .second, .val (.long u), .second, .val (.long (n + (32 : Int64))), .second, .unset, .unset, .unset, .unset, .unset, .unset, .unset] [(.int (1 : Int32)), (.int p5), (.long (n + (32 : Int64)))]))
    refine own_go (fun _ k => XS.ishr X1.here hx rfl (hb hby at_43) rfl k) ?_
    show own_Go _ _ _ _ (T1.setTop (mkF m 44 #[.val (.long q1), .second, .val (.long q2), .second, .val (.long q3), .second, .val (.long q4), .second, .val (.int p5), .val (.long n), .second, .val (.long u), .second, .val (.long (n + (32 : Int64))), .second, .unset, .unset, .unset, .unset, .unset, .unset, .unset] [(.int (p5 >>> ((1 : Int32) &&& 31))), (.long (n + (32 : Int64)))]))
    refine own_go (fun _ k => XS.bipush X1.here hx rfl (hb hby at_44) k) ?_
    show own_Go _ _ _ _ (T1.setTop (mkF m 46 #[.val (.long q1), .second, .val (.long q2), .second, .val (.long q3), .second, .val (.long q4), .second, .val (.int p5), .val (.long n), .second, .val (.long u), .second, .val (.long (n + (32 : Int64))), .second, .unset, .unset, .unset, .unset, .unset, .unset, .unset] [(.int (7 : Int32)), (.int (p5 >>> ((1 : Int32) &&& 31))), (.long (n + (32 : Int64)))]))
    refine own_go (fun _ k => XS.iand X1.here hx rfl (hb hby at_46) rfl k) ?_
    show own_Go _ _ _ _ (T1.setTop (mkF m 47 #[.val (.long q1), .second, .val (.long q2), .second, .val (.long q3), .second, .val (.long q4), .second, .val (.int p5), .val (.long n), .second, .val (.long u), .second, .val (.long (n + (32 : Int64))), .second, .unset, .unset, .unset, .unset, .unset, .unset, .unset] [(.int ((p5 >>> ((1 : Int32) &&& 31)) &&& (7 : Int32))), (.long (n + (32 : Int64)))]))
    refine own_go (fun _ k => XS.i2l X1.here hx rfl (hb hby at_47) rfl k) ?_
    show own_Go _ _ _ _ (T1.setTop (mkF m 48 #[.val (.long q1), .second, .val (.long q2), .second, .val (.long q3), .second, .val (.long q4), .second, .val (.int p5), .val (.long n), .second, .val (.long u), .second, .val (.long (n + (32 : Int64))), .second, .unset, .unset, .unset, .unset, .unset, .unset, .unset] [(.long (((p5 >>> ((1 : Int32) &&& 31)) &&& (7 : Int32)).toInt64)), (.long (n + (32 : Int64)))]))
    refine own_go (fun _ k => XS.ladd X1.here hx rfl (hb hby at_48) rfl k) ?_
    show own_Go _ _ _ _ (T1.setTop (mkF m 49 #[.val (.long q1), .second, .val (.long q2), .second, .val (.long q3), .second, .val (.long q4), .second, .val (.int p5), .val (.long n), .second, .val (.long u), .second, .val (.long (n + (32 : Int64))), .second, .unset, .unset, .unset, .unset, .unset, .unset, .unset] [(.long ((n + (32 : Int64)) + (((p5 >>> ((1 : Int32) &&& 31)) &&& (7 : Int32)).toInt64)))]))
    refine own_go (X1.ldc2Long hx hown (mvT hZ (hw _ (List.mem_of_getElem? (i := 6) rfl))) (g := (mkF m 49 #[.val (.long q1), .second, .val (.long q2), .second, .val (.long q3), .second, .val (.long q4), .second, .val (.int p5), .val (.long n), .second, .val (.long u), .second, .val (.long (n + (32 : Int64))), .second, .unset, .unset, .unset, .unset, .unset, .unset, .unset] [(.long ((n + (32 : Int64)) + (((p5 >>> ((1 : Int32) &&& 31)) &&& (7 : Int32)).toInt64)))])) rfl (hb hby at_49)) ?_
    show own_Go _ _ _ _ (T1.setTop (mkF m 52 #[.val (.long q1), .second, .val (.long q2), .second, .val (.long q3), .second, .val (.long q4), .second, .val (.int p5), .val (.long n), .second, .val (.long u), .second, .val (.long (n + (32 : Int64))), .second, .unset, .unset, .unset, .unset, .unset, .unset, .unset] [(.long (4 : Int64)), (.long ((n + (32 : Int64)) + (((p5 >>> ((1 : Int32) &&& 31)) &&& (7 : Int32)).toInt64)))]))
    refine own_go (fun _ k => XS.lsub X1.here hx rfl (hb hby at_52) rfl k) ?_
    show own_Go _ _ _ _ (T1.setTop (mkF m 53 #[.val (.long q1), .second, .val (.long q2), .second, .val (.long q3), .second, .val (.long q4), .second, .val (.int p5), .val (.long n), .second, .val (.long u), .second, .val (.long (n + (32 : Int64))), .second, .unset, .unset, .unset, .unset, .unset, .unset, .unset] [(.long (((n + (32 : Int64)) + (((p5 >>> ((1 : Int32) &&& 31)) &&& (7 : Int32)).toInt64)) - (4 : Int64)))]))
    exact J53 _
  · have _h := hc30
    refine own_go (fun _ k => XS.ifNo X1.here hx rfl (hb hby at_30) rfl ((if0 _ _).trans (feq hc30).1) k) ?_
    show own_Go _ _ _ _ (T1.setTop (mkF m 33 #[.val (.long q1), .second, .val (.long q2), .second, .val (.long q3), .second, .val (.long q4), .second, .val (.int p5), .val (.long n), .second, .val (.long u), .second, .val (.long (n + (32 : Int64))), .second, .unset, .unset, .unset, .unset, .unset, .unset, .unset] []))
    refine own_go (fun _ k => XS.lload X1.here hx rfl (hb hby at_33) rfl k) ?_
    show own_Go _ _ _ _ (T1.setTop (mkF m 35 #[.val (.long q1), .second, .val (.long q2), .second, .val (.long q3), .second, .val (.long q4), .second, .val (.int p5), .val (.long n), .second, .val (.long u), .second, .val (.long (n + (32 : Int64))), .second, .unset, .unset, .unset, .unset, .unset, .unset, .unset] [(.long q3)]))
    refine own_go (fun _ k => XS.goto X1.here hx rfl (pc0 := 35) (pc' := 53) rfl (hb hby at_35) (by decide) (by decide) k) ?_
    show own_Go _ _ _ _ (T1.setTop (mkF m 53 #[.val (.long q1), .second, .val (.long q2), .second, .val (.long q3), .second, .val (.long q4), .second, .val (.int p5), .val (.long n), .second, .val (.long u), .second, .val (.long (n + (32 : Int64))), .second, .unset, .unset, .unset, .unset, .unset, .unset, .unset] [(.long q3)]))
    exact J53 _
set_option maxRecDepth 65536 in
set_option maxHeartbeats 40000000 in
theorem own_comes {Post : Tables → Env → Array Value → State → Outcome → State → Prop} (hpost : ∀ tb e args s v u, (limb_1_1.after args s (.returned v) u = true ∧ limb_1_2.after args s (.returned v) u = true ∧ True) → FrameEnd s (.returned v) u (Jvm.fieldLocs frame_1_writes args s ++ Jvm.arrayLocs frame_1_arrays args s ++ Jvm.staticLocs frame_1_statics s) 16 128 → Post tb e args s (.returned v) u) :
    ArmFor flags0 classFile x code maxLocals ret World_1 tables_1 room_1 Calls_1 rest_1 Pre_1 Post := by
  intro l hfl _ _ p e ha hc hk s m args below hf hA hF happ hP
  obtain ⟨hcalls, hrest, hpre⟩ := hP
  obtain ⟨-, -, -, hnamed, -, -, -, hat⟩ := (Spec.applies_iff hf).mp happ
  obtain ⟨hg, hn⟩ := and_e (Cond.before_iff.mp (show (Jvm.Cond.and given_1 narrow_1).before args s = true from hpre))
  obtain ⟨hcount, hg⟩ := and_e hg
  obtain ⟨ha0, hg⟩ := and_e hg
  obtain ⟨ha1, hg⟩ := and_e hg
  obtain ⟨ha2, hg⟩ := and_e hg
  obtain ⟨ha3, hg⟩ := and_e hg
  obtain ⟨w0, w1, w2, w3, w4, rfl⟩ : ∃ w0 w1 w2 w3 w4 : Value, args = #[w0, w1, w2, w3, w4] := by
    have hs : args.size = 5 := by simpa [Cond.value, given_1] using hcount
    obtain ⟨L⟩ := args
    match L, hs with
    | [w0, w1, w2, w3, w4], _ => exact ⟨w0, w1, w2, w3, w4, rfl⟩
  have hw := fun d (hd : d ∈ tables_1) => atoms_spec (ws := Jvm.Cond.code x code maxLocals ret :: tables_1) hat d (List.mem_cons_of_mem _ hd)
  have hfit : Fit s := fun {y c} hc i hi => by
    obtain ⟨ha, rfl⟩ := Array.getElem?_eq_some_iff.mp hc
    have q := List.all_eq_true.mp ((Array.all_eq_true_iff_forall_mem.mp hF) _ (Array.getElem_mem ha)) i (List.mem_range.mpr hi)
    simpa [Array.getElem?_eq_getElem hi] using q
  obtain ⟨i0, ei0⟩ := isL_v ha0
  obtain rfl : w0 = (.long i0) := Option.some.inj ei0
  obtain ⟨i1, ei1⟩ := isL_v ha1
  obtain rfl : w1 = (.long i1) := Option.some.inj ei1
  obtain ⟨i2, ei2⟩ := isL_v ha2
  obtain rfl : w2 = (.long i2) := Option.some.inj ei2
  obtain ⟨i3, ei3⟩ := isL_v ha3
  obtain rfl : w3 = (.long i3) := Option.some.inj ei3
  obtain ⟨i4, ei4⟩ := is_v hg
  obtain rfl : w4 = (.int i4) := Option.some.inj ei4
  obtain ⟨n, o, h1, h2, h3, _, L, rfl, ⟨rfl, N⟩, hq⟩ := own_rm0 l s _ hw i0 i1 i2 i3 i4 s.heap s.heap.size (Nat.le_refl _)  p e ha hc hk s m _ below hf ((Spec.applies_iff_loose hf).mp happ).1 ⟨rfl, State.Warmed39.refl s, rfl⟩ trivial
  refine ⟨n, _, h1, h2, h3, hpost _ _ _ _ _ _ ⟨Cond.after_iff.mpr rfl, Cond.after_iff.mpr (eq_i res_at (Term.int_eval (1)) rfl), trivial⟩ ⟨hq.1, hq.2.1, (hq.2.2.sift fun y hy => Or.inr (N y hy)).mono (by decide) (by decide)⟩⟩
theorem main_1_1 : Claimed_1_1 := own_comes fun _ _ _ _ _ _ h hF => ⟨h.1, hF⟩
theorem main_1_2 : Claimed_1_2 := own_comes fun _ _ _ _ _ _ h hF => ⟨h.2.1, hF⟩
end Jvm.Pilot.@@N@@
namespace Jvm.Pilot.@@N@@
open Jvm Jvm.ClassFile Sem Op Lib Jvm.Free Jvm.Stand Jvm.Pilot.@@N@@.Jvm.D
/-! MADE BY PROGRAM (witnessworld.py) out of the Statement's table words and the real class files: 11 classes; the members and pool entries that the words name. The judged class is class 1, her method 1. -/
namespace start1
open Jvm.ClassFile
def u (s : String) : CpInfo := .utf8 (stringToUtf16 s)
/-- a pool by its gaps: so many unusable entries, then the entry; so many at the end -/
def gap : Nat → List CpInfo → List CpInfo
  | 0, r => r
  | n + 1, r => .unusable :: gap n r
def poolList (es : List (Nat × CpInfo)) (last : Nat) : List CpInfo := es.foldr (fun e r => gap e.1 (e.2 :: r)) (gap last [])
def pool (es : List (Nat × CpInfo)) (last : Nat) : Array CpInfo := ⟨poolList es last⟩
def fileOf (pool : Array CpInfo) (this : Nat) (attrs : Array Attribute := #[]) (ms : Array MethodInfo := #[]) (fl : Nat := 33) (sup : Nat := 0) (ifs : Array Nat := #[]) (fds : Array FieldInfo := #[]) : ClassFile where
  minorVersion := 0
  majorVersion := 65
  constantPool := pool
  accessFlags := fl
  thisClass := this
  superClass := sup
  interfaces := ifs
  fields := fds
  methods := ms
  attributes := attrs
def plain (name : String) (sup : Option ClassId) : Class where
  name := name
  kind := .ordinary
  loader := none
  accessFlags := 33
  super := sup
  interfaces := #[]
  cf := none
  fields := #[]
  methods := #[]
  instanceTypes := #[]
  staticTypes := #[]
  resolved := #[]
  callSites := []
  init := .initialized
  statics := none
  mirror := none

def pool0 : Array CpInfo := pool [(5, u "<init>"), (0, u "()V"), (1, .class_ 10), (1, u "java/lang/Object")] 113

def k0c0 : Code := { maxStack := 0, maxLocals := 1, code := object_method_1_code, exceptionTable := #[], attributes := #[] }
def k0m0 : Method := { name := "<init>", desc := "()V", sig := { parameters := [], returnType := none }, accessFlags := 1, code := some k0c0 }
/-- java/lang/Object -/
def k0 : Class := { plain "java/lang/Object" none with
  accessFlags := 33
  interfaces := #[]
  cf := some (fileOf pool0 8 #[] #[{ accessFlags := 1, nameIndex := 5, descriptorIndex := 6, attributes := #[] }] 33 0 #[] #[])
  fields := #[]
  methods := #[k0m0]
  instanceTypes := #[]
  staticTypes := #[]
  resolved := Array.replicate 124 none
  statics := none }

def pool1 : Array CpInfo := pool [(2, .class_ 4), (1, u "java/lang/Object"), (0, u "<init>"), (0, u "()V"), (0, .long 2147483647), (1, .methodref 10 11), (0, .class_ 12), (0, .nameAndType 13 14), (0, u "java/lang/Math"), (0, u "max"), (0, u "(JJ)J"), (0, .long 32), (1, .long 4), (1, .class_ 20), (0, u "com/example/utopic/utopic/broker/HeapBudget$Layout"), (0, .methodref 19 22), (0, .nameAndType 5 23), (0, u "(JJJ)V"), (0, .methodref 19 25), (0, .nameAndType 26 27), (0, u "arrayBytes"), (0, u "(J)J"), (0, .class_ 29), (0, u "com/example/utopic/utopic/broker/LayoutArrayBytesPinLaw"), (2, u "law"), (0, u "(JJJJI)Z")] 7

def k1m0 : Method := { name := "<init>", desc := "()V", sig := { parameters := [], returnType := none }, accessFlags := 1, code := none }
def k1c1 : Code := { maxStack := 8, maxLocals := 22, code := code, exceptionTable := #[], attributes := #[] }
def k1m1 : Method := { name := "law", desc := "(JJJJI)Z", sig := { parameters := [.long, .long, .long, .long, .int], returnType := some .boolean }, accessFlags := 9, code := some k1c1 }
/-- com/example/utopic/utopic/broker/LayoutArrayBytesPinLaw -/
def k1 : Class := { plain "com/example/utopic/utopic/broker/LayoutArrayBytesPinLaw" (some 0) with
  accessFlags := 49
  interfaces := #[]
  cf := some (fileOf pool1 28 #[] #[{ accessFlags := 1, nameIndex := 5, descriptorIndex := 6, attributes := #[] }, { accessFlags := 9, nameIndex := 32, descriptorIndex := 33, attributes := #[] }] 49 2 #[] #[])
  fields := #[]
  methods := #[k1m0, k1m1]
  instanceTypes := #[]
  staticTypes := #[]
  resolved := Array.replicate 41 none
  statics := none }

def pool2 : Array CpInfo := pool [(1, .class_ 2), (0, u "java/lang/Math"), (1, .class_ 6), (1, u "java/lang/Object"), (0, u "<init>"), (0, u "()V"), (89, .class_ 100), (1, u "java/lang/Math$RandomNumberGeneratorHolder"), (20, u "(JJ)J"), (50, u "negativeZeroFloatBits"), (0, u "J"), (2, u "negativeZeroDoubleBits"), (21, u "max"), (46, u "$assertionsDisabled"), (0, u "Z"), (91, u "twoToTheDoubleScaleDown"), (0, u "D"), (4, u "twoToTheDoubleScaleUp"), (9, u "E"), (3, u "PI"), (2, u "TAU"), (2, u "DEGREES_TO_RADIANS"), (0, u "RADIANS_TO_DEGREES")] 94

def k2m0 : Method := { name := "<init>", desc := "()V", sig := { parameters := [], returnType := none }, accessFlags := 2, code := none }
def k2c1 : Code := { maxStack := 4, maxLocals := 4, code := jdk_29_method_66_code, exceptionTable := #[], attributes := #[] }
def k2m1 : Method := { name := "max", desc := "(JJ)J", sig := { parameters := [.long, .long], returnType := some .long }, accessFlags := 9, code := some k2c1 }
/-- java/lang/Math -/
def k2 : Class := { plain "java/lang/Math" (some 0) with
  accessFlags := 49
  interfaces := #[]
  cf := some (fileOf pool2 1 #[.nestMembers #[98]] #[{ accessFlags := 2, nameIndex := 7, descriptorIndex := 8, attributes := #[] }, { accessFlags := 9, nameIndex := 198, descriptorIndex := 121, attributes := #[] }] 49 4 #[] #[{ accessFlags := 25, nameIndex := 354, descriptorIndex := 339, attributes := #[] }, { accessFlags := 25, nameIndex := 358, descriptorIndex := 339, attributes := #[] }, { accessFlags := 25, nameIndex := 361, descriptorIndex := 339, attributes := #[] }, { accessFlags := 26, nameIndex := 364, descriptorIndex := 339, attributes := #[] }, { accessFlags := 26, nameIndex := 365, descriptorIndex := 339, attributes := #[] }, { accessFlags := 26, nameIndex := 172, descriptorIndex := 173, attributes := #[] }, { accessFlags := 26, nameIndex := 176, descriptorIndex := 173, attributes := #[] }, { accessFlags := 8, nameIndex := 344, descriptorIndex := 339, attributes := #[] }, { accessFlags := 8, nameIndex := 338, descriptorIndex := 339, attributes := #[] }, { accessFlags := 4120, nameIndex := 245, descriptorIndex := 246, attributes := #[] }])
  fields := #[{ name := "E", type := .double, accessFlags := 25, slot := 0, constantValue := 0 }, { name := "PI", type := .double, accessFlags := 25, slot := 1, constantValue := 0 }, { name := "TAU", type := .double, accessFlags := 25, slot := 2, constantValue := 0 }, { name := "DEGREES_TO_RADIANS", type := .double, accessFlags := 26, slot := 3, constantValue := 0 }, { name := "RADIANS_TO_DEGREES", type := .double, accessFlags := 26, slot := 4, constantValue := 0 }, { name := "negativeZeroFloatBits", type := .long, accessFlags := 26, slot := 5, constantValue := 0 }, { name := "negativeZeroDoubleBits", type := .long, accessFlags := 26, slot := 6, constantValue := 0 }, { name := "twoToTheDoubleScaleUp", type := .double, accessFlags := 8, slot := 7, constantValue := 0 }, { name := "twoToTheDoubleScaleDown", type := .double, accessFlags := 8, slot := 8, constantValue := 0 }, { name := "$assertionsDisabled", type := .boolean, accessFlags := 4120, slot := 9, constantValue := 0 }]
  methods := #[k2m0, k2m1]
  instanceTypes := #[]
  staticTypes := #[.double, .double, .double, .double, .double, .long, .long, .double, .double, .boolean]
  resolved := Array.replicate 460 none
  statics := none }

def pool3 : Array CpInfo := pool [(1, .methodref 2 3), (0, .class_ 4), (0, .nameAndType 5 6), (0, u "java/lang/Object"), (0, u "<init>"), (0, u "()V"), (0, .class_ 8), (0, u "java/lang/Record")] 13

def k3c0 : Code := { maxStack := 1, maxLocals := 1, code := jdk_30_method_1_code, exceptionTable := #[], attributes := #[] }
def k3m0 : Method := { name := "<init>", desc := "()V", sig := { parameters := [], returnType := none }, accessFlags := 4, code := some k3c0 }
/-- java/lang/Record -/
def k3 : Class := { plain "java/lang/Record" (some 0) with
  accessFlags := 1057
  interfaces := #[]
  cf := some (fileOf pool3 7 #[] #[{ accessFlags := 4, nameIndex := 5, descriptorIndex := 6, attributes := #[] }] 1057 2 #[] #[])
  fields := #[]
  methods := #[k3m0]
  instanceTypes := #[]
  staticTypes := #[]
  resolved := Array.replicate 22 none
  statics := none }

def pool4 : Array CpInfo := pool [(1, .class_ 2), (0, u "com/example/utopic/utopic/broker/HeapBudget"), (0, .methodref 4 5), (0, .class_ 6), (0, .nameAndType 7 8), (0, u "java/lang/Record"), (0, u "<init>"), (0, u "()V"), (0, .fieldref 10 11), (0, .class_ 12), (0, .nameAndType 13 14), (0, u "com/example/utopic/utopic/broker/HeapBudget$Layout"), (0, u "ownPast"), (0, u "J"), (0, .fieldref 10 16), (0, .nameAndType 17 14), (0, u "unit"), (0, .fieldref 10 19), (0, .nameAndType 20 14), (0, u "doubledPast"), (0, .long 2), (5, u "(JJJ)V"), (0, .long 32), (19, u "(J)J"), (55, u "AMONG_OTHERS"), (0, u "Lcom/example/utopic/utopic/broker/HeapBudget$Layout;"), (2, u "UNTOLD"), (2, u "arrayBytes")] 49

def k4c0 : Code := { maxStack := 3, maxLocals := 7, code := prog_4_method_1_code, exceptionTable := #[], attributes := #[] }
def k4m0 : Method := { name := "<init>", desc := "(JJJ)V", sig := { parameters := [.long, .long, .long], returnType := none }, accessFlags := 0, code := some k4c0 }
def k4c1 : Code := { maxStack := 4, maxLocals := 5, code := prog_4_method_6_code, exceptionTable := #[], attributes := #[] }
def k4m1 : Method := { name := "arrayBytes", desc := "(J)J", sig := { parameters := [.long], returnType := some .long }, accessFlags := 0, code := some k4c1 }
/-- com/example/utopic/utopic/broker/HeapBudget$Layout -/
def k4 : Class := { plain "com/example/utopic/utopic/broker/HeapBudget$Layout" (some 3) with
  accessFlags := 48
  interfaces := #[]
  cf := some (fileOf pool4 10 #[.nestHost 1] #[{ accessFlags := 0, nameIndex := 7, descriptorIndex := 27, attributes := #[] }, { accessFlags := 0, nameIndex := 111, descriptorIndex := 48, attributes := #[] }] 48 4 #[] #[{ accessFlags := 18, nameIndex := 13, descriptorIndex := 14, attributes := #[] }, { accessFlags := 18, nameIndex := 17, descriptorIndex := 14, attributes := #[] }, { accessFlags := 18, nameIndex := 20, descriptorIndex := 14, attributes := #[] }, { accessFlags := 24, nameIndex := 104, descriptorIndex := 105, attributes := #[] }, { accessFlags := 24, nameIndex := 108, descriptorIndex := 105, attributes := #[] }])
  fields := #[{ name := "ownPast", type := .long, accessFlags := 18, slot := 0, constantValue := 0 }, { name := "unit", type := .long, accessFlags := 18, slot := 1, constantValue := 0 }, { name := "doubledPast", type := .long, accessFlags := 18, slot := 2, constantValue := 0 }, { name := "AMONG_OTHERS", type := (.object "com/example/utopic/utopic/broker/HeapBudget$Layout"), accessFlags := 24, slot := 0, constantValue := 0 }, { name := "UNTOLD", type := (.object "com/example/utopic/utopic/broker/HeapBudget$Layout"), accessFlags := 24, slot := 1, constantValue := 0 }]
  methods := #[k4m0, k4m1]
  instanceTypes := #[.long, .long, .long]
  staticTypes := #[(.object "com/example/utopic/utopic/broker/HeapBudget$Layout"), (.object "com/example/utopic/utopic/broker/HeapBudget$Layout")]
  resolved := Array.replicate 161 none
  statics := none }

def pool5 : Array CpInfo := pool [(1, u "java/lang/Cloneable"), (0, .class_ 1), (0, u "java/lang/Object"), (0, .class_ 3)] 3

/-- java/lang/Cloneable -/
def k5 : Class := { plain "java/lang/Cloneable" (some 0) with
  accessFlags := 1537
  interfaces := #[]
  cf := some (fileOf pool5 2 #[] #[] 1537 4 #[] #[])
  fields := #[]
  methods := #[]
  instanceTypes := #[]
  staticTypes := #[]
  resolved := Array.replicate 8 none
  statics := none }

def pool6 : Array CpInfo := pool [(1, u "java/io/Serializable"), (0, .class_ 1), (0, u "java/lang/Object"), (0, .class_ 3)] 3

/-- java/io/Serializable -/
def k6 : Class := { plain "java/io/Serializable" (some 0) with
  accessFlags := 1537
  interfaces := #[]
  cf := some (fileOf pool6 2 #[] #[] 1537 4 #[] #[])
  fields := #[]
  methods := #[]
  instanceTypes := #[]
  staticTypes := #[]
  resolved := Array.replicate 8 none
  statics := none }

/-- the primitive byte -/
def k7 : Class := { plain "byte" none with kind := .primitive 'B', accessFlags := 0x411 }
/-- [B -/
def k8 : Class := { plain "[B" (some 0) with kind := .array 7 .byte, interfaces := #[5, 6], accessFlags := 1041 }

/-- the primitive int -/
def k9 : Class := { plain "int" none with kind := .primitive 'I', accessFlags := 0x411 }
/-- [I -/
def k10 : Class := { plain "[I" (some 0) with kind := .array 9 .int, interfaces := #[5, 6], accessFlags := 1041 }

def heap : Heap := #[]
def classes : Array Class := #[k0, k1, k2, k3, k4, k5, k6, k7, k8, k9, k10]
def interned : List (Array UInt16 × Addr) := []
def slotsUsed : Nat := 0
def theMethod : MethodId := ⟨1, 1⟩
def args0 : Array Value := #[.long 5, .long 6, .long 7, .long 8, .int 9]
def aboutOver (below : List Frame) : State where
  vm := { classes := classes, interned := interned.toArray }
  heap := heap
  slotsUsed := slotsUsed
  threads := #[{ frames := .invoking theMethod args0 :: below }]
def below0 : List Frame := [.native { method := ⟨0, 0⟩, args := #[] }]
def about1 : State := aboutOver below0
def p0 : Program := .bare "" "" ""
def e0 : Env := launch0.env 0 0 0
theorem w_frames : about1.frames = Frame.invoking theMethod args0 :: below0 := rfl
set_option maxRecDepth 65536 in
theorem w_args : argsFit about1.vm theMethod args0 = true := by decide +kernel
set_option maxRecDepth 65536 in
theorem w_heap : heapFits about1 = true := by decide +kernel
set_option maxRecDepth 65536 in
theorem w_runnable : about1.curStatus? = some .runnable := by decide +kernel
set_option maxRecDepth 65536 in
theorem w_alone : about1.alone = true := by decide +kernel
set_option maxRecDepth 65536 in
theorem w_named : about1.methodNamed? x = some theMethod := by decide +kernel
set_option maxRecDepth 65536 in
theorem w_hears : about1.hears theMethod below0 = true := by decide +kernel
set_option maxRecDepth 65536 in
theorem w_ripe : about1.ripe theMethod args0 below0 = true := by decide +kernel
theorem w_running : about1.status = .running := rfl
set_option maxRecDepth 65536 in
theorem w_room : about1.hasRoom e0.platform room_1 = true :=
  launch0.hasRoom_least _ room_1 (by decide +kernel) (by decide +kernel) (by decide +kernel) (by decide +kernel) (by decide +kernel) (by decide +kernel)
theorem allAtoms_all (ts : List Jvm.Cond) (a : Array Jvm.Value) (st : Jvm.State) : (allAtoms ts).before a st = ts.all (fun c => c.before a st) := by
  induction ts with
  | nil => rfl
  | cons c t ih =>
    show (Jvm.Cond.and c (allAtoms t)).before a st = _
    rw [Jvm.Cond.before_and, ih, List.all_cons]
def words1 : List Jvm.Cond := Jvm.Cond.code x code maxLocals ret :: tables_1
/-- a 'code' word, met by the world's own term for the bytes: nothing is compared byte by byte -/
theorem code_word {y : MethodName} {bytes : ByteArray} {mx : Nat} {rt : Option FieldType} {a : Array Value} {s : State} {m : MethodId} {meth : Method} {c : Code} (h1 : s.methodNamed? y = some m) (h2 : s.vm.method? m = some meth) (h3 : meth.code = some c) (h4 : c.code = bytes)
    (h5 : (c.maxLocals == mx && c.exceptionTable.isEmpty && decide (c.maxStack ≤ mostOperands) && decide (meth.sig.returnType = rt) && !meth.locks && decide (parseMethodDescriptor y.desc = some meth.sig)) = true) : (Jvm.Cond.code y bytes mx rt).before a s = true := by
  simp only [Bool.and_eq_true, beq_iff_eq, Bool.not_eq_true', decide_eq_true_eq] at h5
  obtain ⟨⟨⟨⟨⟨g1, g2⟩, g3⟩, g4⟩, g5⟩, g6⟩ := h5
  simp [Cond.before, Cond.holds, Cond.value, h1, h2, h3, h4, g1, g2, g3, g4, g5, g6]
def isCode : Jvm.Cond → Bool
  | .code _ _ _ _ => true
  | _ => false
theorem all_split {L : List Jvm.Cond} {P : Jvm.Cond → Bool} (h1 : L.all (fun c => isCode c || P c) = true) (h2 : ∀ c ∈ L.filter isCode, P c = true) : L.all P = true := by
  refine List.all_eq_true.mpr fun c hc => ?_
  have h := List.all_eq_true.mp h1 c hc
  rcases Bool.eq_false_or_eq_true (isCode c) with hi | hi
  · exact h2 c (List.mem_filter.mpr ⟨hc, hi⟩)
  · simpa [hi] using h
set_option maxRecDepth 65536 in
theorem w_c0 : (Jvm.Cond.code x code maxLocals ret).before args0 about1 = true := code_word (m := ⟨1, 1⟩) (meth := k1m1) (c := k1c1) (by decide +kernel) rfl rfl rfl (by decide +kernel)
set_option maxRecDepth 65536 in
theorem w_c1 : (Jvm.Cond.code ({ cls := "java/lang/Math", name := "max", desc := "(JJ)J" } : Jvm.MethodName) jdk_29_method_66_code (4 : Nat) (Option.some Jvm.ClassFile.FieldType.long)).before args0 about1 = true := code_word (m := ⟨2, 1⟩) (meth := k2m1) (c := k2c1) (by decide +kernel) rfl rfl rfl (by decide +kernel)
set_option maxRecDepth 65536 in
theorem w_c2 : (Jvm.Cond.code ({ cls := "com/example/utopic/utopic/broker/HeapBudget$Layout", name := "<init>", desc := "(JJJ)V" } : Jvm.MethodName) prog_4_method_1_code (7 : Nat) (Option.none : Option Jvm.ClassFile.FieldType)).before args0 about1 = true := code_word (m := ⟨4, 0⟩) (meth := k4m0) (c := k4c0) (by decide +kernel) rfl rfl rfl (by decide +kernel)
set_option maxRecDepth 65536 in
theorem w_c3 : (Jvm.Cond.code ({ cls := "java/lang/Record", name := "<init>", desc := "()V" } : Jvm.MethodName) jdk_30_method_1_code (1 : Nat) (Option.none : Option Jvm.ClassFile.FieldType)).before args0 about1 = true := code_word (m := ⟨3, 0⟩) (meth := k3m0) (c := k3c0) (by decide +kernel) rfl rfl rfl (by decide +kernel)
set_option maxRecDepth 65536 in
theorem w_c4 : (Jvm.Cond.code ({ cls := "java/lang/Object", name := "<init>", desc := "()V" } : Jvm.MethodName) object_method_1_code (1 : Nat) (Option.none : Option Jvm.ClassFile.FieldType)).before args0 about1 = true := code_word (m := ⟨0, 0⟩) (meth := k0m0) (c := k0c0) (by decide +kernel) rfl rfl rfl (by decide +kernel)
set_option maxRecDepth 65536 in
theorem w_c5 : (Jvm.Cond.code ({ cls := "com/example/utopic/utopic/broker/HeapBudget$Layout", name := "arrayBytes", desc := "(J)J" } : Jvm.MethodName) prog_4_method_6_code (5 : Nat) (Option.some Jvm.ClassFile.FieldType.long)).before args0 about1 = true := code_word (m := ⟨4, 1⟩) (meth := k4m1) (c := k4c1) (by decide +kernel) rfl rfl rfl (by decide +kernel)
def codes1 : List Jvm.Cond := [Jvm.Cond.code x code maxLocals ret, Jvm.Cond.code ({ cls := "java/lang/Math", name := "max", desc := "(JJ)J" } : Jvm.MethodName) jdk_29_method_66_code (4 : Nat) (Option.some Jvm.ClassFile.FieldType.long), Jvm.Cond.code ({ cls := "com/example/utopic/utopic/broker/HeapBudget$Layout", name := "<init>", desc := "(JJJ)V" } : Jvm.MethodName) prog_4_method_1_code (7 : Nat) (Option.none : Option Jvm.ClassFile.FieldType), Jvm.Cond.code ({ cls := "java/lang/Record", name := "<init>", desc := "()V" } : Jvm.MethodName) jdk_30_method_1_code (1 : Nat) (Option.none : Option Jvm.ClassFile.FieldType), Jvm.Cond.code ({ cls := "java/lang/Object", name := "<init>", desc := "()V" } : Jvm.MethodName) object_method_1_code (1 : Nat) (Option.none : Option Jvm.ClassFile.FieldType), Jvm.Cond.code ({ cls := "com/example/utopic/utopic/broker/HeapBudget$Layout", name := "arrayBytes", desc := "(J)J" } : Jvm.MethodName) prog_4_method_6_code (5 : Nat) (Option.some Jvm.ClassFile.FieldType.long)]
set_option maxRecDepth 65536 in
theorem codes_eq : words1.filter isCode = codes1 := rfl
theorem w_codes : ∀ c ∈ words1.filter isCode, c.before args0 about1 = true := by
  rw [codes_eq]
  intro c hc
  simp only [codes1, List.mem_cons, List.not_mem_nil, or_false] at hc
  rcases hc with rfl | rfl | rfl | rfl | rfl | rfl
  · exact w_c0
  · exact w_c1
  · exact w_c2
  · exact w_c3
  · exact w_c4
  · exact w_c5
set_option maxRecDepth 65536 in
theorem w_t1 : (words1.take 24).all (fun c => isCode c || c.before args0 about1) = true := by decide +kernel
set_option maxRecDepth 65536 in
theorem w_t2 : (words1.drop 24).all (fun c => isCode c || c.before args0 about1) = true := by decide +kernel
theorem w_tables : (allAtoms (Jvm.Cond.code x code maxLocals ret :: tables_1)).before args0 about1 = true := by
  rw [allAtoms_all]
  show words1.all (fun c => c.before args0 about1) = true
  refine all_split ?_ w_codes
  rw [← List.take_append_drop 24 words1, List.all_append, w_t1, w_t2]
  rfl
set_option maxRecDepth 65536 in
theorem w_case : (Jvm.Cond.and given_1 narrow_1).before args0 about1 = true := by decide +kernel
theorem w_applies : (headSpec (Jvm.Cond.code x code maxLocals ret :: tables_1) room_1).applies x e0.platform about1 = true :=
  (Spec.applies_iff w_frames).mpr ⟨w_running, w_runnable, w_alone, w_named, w_hears, w_ripe, w_room, w_tables⟩
theorem atStart : AtStart classFile x code maxLocals ret World_1 tables_1 room_1 Calls_1 rest_1 Pre_1 launch0 p0 e0 about1 theMethod args0 below0 :=
  ⟨lists_1, trivial, launch0.admits_env _ _ _, launch0.least_env, fairChoices_fair.cas, fairChoices_fair.clock, w_frames, w_args, w_heap, w_applies, trivial, trivial, w_case⟩
end start1
theorem witness_1 : WitnessClaimed_1 := ⟨start1.p0, start1.e0, start1.about1, start1.theMethod, start1.args0, start1.below0, start1.atStart⟩
end Jvm.Pilot.@@N@@
