import JvmDerived
import JvmDerived.Pilot.@@N@@Statement
import JvmDerived.Pilot.@@N@@Code
set_option linter.unusedVariables false
set_option linter.unusedSimpArgs false

namespace Jvm.Pilot.@@N@@
open Jvm Jvm.ClassFile Sem Op Lib Jvm.Free Jvm.Stand Jvm.LawKit Jvm.RoadKit Bundle Jvm.Pilot.@@N@@.Jvm.D
/-- the run from A comes to a state of which P holds -/
def own_Go (tb : Tables) (e : Env) (below : List Frame) (P : State → Prop) (A : State) : Prop := ∃ U, Steps tb e below A U ∧ P U
theorem own_go {tb : Tables} {e : Env} {below : List Frame} {P : State → Prop} {A B : State} (h : ∀ t, Steps tb e below B t → Steps tb e below A t) (k : own_Go tb e below P B) : own_Go tb e below P A := by
  obtain ⟨U, h1, h2⟩ := k; exact ⟨U, h U h1, h2⟩
theorem own_goT {tb : Tables} {e : Env} {below : List Frame} {P : State → Prop} {A B : State} (h : Steps tb e below A B) (k : own_Go tb e below P B) : own_Go tb e below P A := by
  obtain ⟨U, h1, h2⟩ := k; exact ⟨U, h.trans h1, h2⟩
/-- the body's end: it returned, and Q says of what -/
def own_End (s : State) (below : List Frame) (Q : Option Value → Heap → List Loc → Prop) (cells slots : Nat) (t : State) : Prop := ∃ o, t.status = .running ∧ Ended t below o ∧ ∃ v L, o = .returned v ∧ Q v t.heap L ∧ FrameEnd s o t L cells slots
theorem own_body {tb : Tables} {e : Env} {below : List Frame} {s A : State} {Q : Option Value → Heap → List Loc → Prop} {cells slots : Nat} (k : own_Go tb e below (own_End s below Q cells slots) A) :
    ∃ s₂ o, Steps tb e below A s₂ ∧ s₂.status = .running ∧ Ended s₂ below o ∧ ∃ v L, o = .returned v ∧ Q v s₂.heap L ∧ FrameEnd s o s₂ L cells slots := by
  obtain ⟨U, h1, o, h2, h3, h4⟩ := k; exact ⟨U, o, h1, h2, h3, h4⟩
theorem own_ret {p : Program} {l : Launch} {e : Env} {R : Room} {s : State} {m : MethodId} {args : Array Value} {below : List Frame} {meth : Method} {c : Code} {T A : State} {locs : List Loc} {cells slots : Nat} {Q : Option Value → Heap → List Loc → Prop} {cs ss : Nat}
    (X : Stand p l e R s m args below meth c T locs cells slots) (hlk : meth.locks = false) {v : Option Value} (hv : meth.sig.returnType = none → v = none)
    (hst : ∀ fs : List Frame, (∀ (f : JFrame) (acts : List Action), f.method = m → f.locked = none → f.entered = [] → (doReturn e (T.setTop f) acts v).1 = T.setFrames fs) → Steps p.tables e below A (T.setFrames fs))
    (hQ : Q v T.heap locs) (hc : cells ≤ cs) (hs : slots ≤ ss) : own_Go p.tables e below (own_End s below Q cs ss) A := by
  obtain ⟨fs, hr, hrun, hended, hW, hsame⟩ := X.leave (v := v) hv hlk
  exact ⟨_, hst fs hr, _, hrun, hended, _, _, rfl, hQ, ⟨_, rfl⟩, hW, hsame.mono hc hs⟩
theorem own_ef (m : MethodId) (as : Array Value) (n : Nat) (Ls : Array Slot) (h : argsToLocals as n = Ls) : entryFrame m as n = mkF m 0 Ls [] := by rw [← h]; rfl
/-- a body's contract in this family -/
abbrev own_Met (l : Launch) (Z : State) (ws : List Jvm.Cond) (y : MethodName) (bytes : ByteArray) (maxL : Nat) (ret : Option FieldType) (rm : Room) (as : Array Value) (h0 : Heap) (Q : Option Value → Heap → List Loc → Prop) : Prop :=
  MetFree l y (head1 (Jvm.Cond.code y bytes maxL ret :: ws) rm) (fun a U => a = as ∧ Z.Warmed39 U.vm ∧ U.heap = h0) (fun _ _ _ _ _ => True) (fun _ U o U' => ∃ v L, o = .returned v ∧ Q v U'.heap L ∧ FrameEnd U o U' L rm.cells rm.slots)
theorem own_sta_keep {Z : State} {h h' : Heap} {C n d : String} {v : Value} {ws : List Addr} (F : Sta Z h C n d v) (K : Keep h h' ws) (q : ∀ a ∈ ws, ∃ C', Exa Z h a C') : Sta Z h' C n d v := by
  obtain ⟨cf, i, k, f, st, cell, h1, h2, h3, h4, h5, h6, h7⟩ := F
  refine ⟨cf, i, k, f, st, cell, h1, h2, h3, h4, K.2.1 st cell h5 fun hm => ?_, h6, h7⟩
  obtain ⟨C', cell', k', e1, -, -, e4, -⟩ := q st hm
  cases h5.symm.trans e1
  rw [e4] at h6; cases h6
theorem own_back {p : Program} {l : Launch} {e : Env} {R : Room} {s : State} {args : Array Value} {below : List Frame} {Z : State} {a0 : Array Value} {h : Heap} {y : MethodName} {bytes : ByteArray} {maxL : Nat} {ret : Option FieldType} {rm : Room} {len W : Nat} {as' : Array Value} {Q : Option Value → Heap → List Loc → Prop}
    (hM : own_Met l Z [] y bytes maxL ret rm as' h Q) (hZ : Z.Warmed39 s.vm) (wc : (Cond.code y bytes maxL ret).before a0 Z = true) (wz : (Cond.initialized y.cls).before a0 Z = true) (hf : rm.frames + 1 ≤ R.frames) (hl : W + (maxL + 11) + rm.locals ≤ R.locals) :
    Back l R p e below s args y len W (fun A a => a = as' ∧ A.U.heap = h ∧ A.cells + rm.cells ≤ R.cells ∧ A.slots + rm.slots ≤ R.slots)
      (fun A _ v B => ∃ L, Q v B.U.heap L ∧ B.locs = A.locs ++ L ∧ B.cells = A.cells + rm.cells ∧ B.slots = A.slots + rm.slots) :=
  backOf (Q := Q) hM hZ wc wz hf hl
theorem own_hp {T : State} {h : Heap} {a : Addr} {cl : Cell} (eT : T.heap = h) (h1 : h[a]? = some cl) : T.heap[a]? = some cl := by rw [eT]; exact h1
def own_sl : List Value → List Slot
  | [] => []
  | v :: r => if v.category = 2 then .val v :: .second :: own_sl r else .val v :: own_sl r
def own_pu (acc : Array Slot) (v : Value) : Array Slot := if v.category = 2 then (acc.push (.val v)).push .second else acc.push (.val v)
theorem own_al1 (l : List Value) (a : Array Slot) : (l.foldl own_pu a).toList = a.toList ++ own_sl l := by
  induction l generalizing a with
  | nil => simp [own_sl]
  | cons v r ih =>
    rw [List.foldl_cons, ih]
    by_cases h : v.category = 2 <;> simp [own_sl, own_pu, h]
theorem own_al (l : List Value) (n : Nat) (L : List Slot) (h : own_sl l ++ List.replicate (n - (own_sl l).length) .unset = L) : argsToLocals l.toArray n = L.toArray := by
  have q : argsToLocals l.toArray n = l.foldl own_pu #[] ++ Array.replicate (n - (l.foldl own_pu #[]).size) .unset := by
    rw [← List.foldl_toArray]; rfl
  have k := own_al1 l #[]
  rw [q, ← h]
  apply Array.toList_inj.mp
  rw [Array.toList_append, k, ← Array.length_toList, k]; simp

def own_e (hp pr c : Int32) : Int32 := if c = 13 then 1 else if c = 10 then (if hp = 0 then 1 else if pr = 13 then 0 else 1) else 0
def own_tx (c : Int32) : Int64 := if c = 13 then 0 else if c = 10 then 0 else 1
def own_b (e : Int32) : Int64 := if e = 0 then 0 else 1
def own_k (e : Int32) (y : Int64) : Int64 := if e = 0 then y else 1
def own_L (c r : Int32) (x : Int64) : Int64 := if c = 13 ∨ (c = 10 ∧ r = 0) then x + 1 else x
def own_K (c r : Int32) (y : Int64) : Int64 := if c = 13 ∨ (c = 10 ∧ r = 0) then 1 else if c = 10 then y else y + 1
def own_r (c : Int32) : Int32 := if c = 13 then 1 else 0
theorem own_0 (x : Int64) : x + 0 = x := by
  apply Int64.toInt_inj.mp
  have := c_ladd x 0; have := rng64 x; have := rng64 (x + 0); have e : (0 : Int64).toInt = 0 := rfl
  omega
theorem own_L0 (c : Int32) : own_L c 0 1 = 1 + own_b (own_e 0 32 c) := by
  by_cases h1 : c = 13
  · subst h1; decide
  · by_cases h2 : c = 10
    · subst h2; decide
    · simp [own_L, own_b, own_e, h1, h2]
theorem own_K0 (c : Int32) : own_K c 0 1 = own_k (own_e 0 32 c) (1 + own_tx c) := by
  by_cases h1 : c = 13
  · subst h1; decide
  · by_cases h2 : c = 10
    · subst h2; decide
    · simp [own_K, own_k, own_e, own_tx, h1, h2]
theorem own_Ln (c d : Int32) (x : Int64) : own_L d (own_r c) x = x + own_b (own_e 1 c d) := by
  by_cases h1 : d = 13
  · simp [own_L, own_b, own_e, h1]
  · by_cases h2 : d = 10
    · by_cases h3 : c = 13
      · simp [own_L, own_b, own_e, own_r, h2, h3, own_0]
      · simp [own_L, own_b, own_e, own_r, h2, h3]
    · simp [own_L, own_b, own_e, h1, h2, own_0]
theorem own_Kn (c d : Int32) (y : Int64) : own_K d (own_r c) y = own_k (own_e 1 c d) (y + own_tx d) := by
  by_cases h1 : d = 13
  · simp [own_K, own_k, own_e, h1]
  · by_cases h2 : d = 10
    · by_cases h3 : c = 13
      · simp [own_K, own_k, own_e, own_r, own_tx, h2, h3, own_0]
      · simp [own_K, own_k, own_e, own_r, h2, h3]
    · simp [own_K, own_k, own_e, own_tx, h1, h2]
theorem own_d1_0 : decode method_2_code 0 = .ok (.iload_n 0, 1) := by decide +kernel
theorem own_d1_1 : decode method_2_code 1 = .ok (.iconst 3, 1) := by decide +kernel
theorem own_d1_2 : decode method_2_code 2 = .ok (.iand, 1) := by decide +kernel
theorem own_d1_3 : decode method_2_code 3 = .ok (.istore_n 1, 1) := by decide +kernel
theorem own_d1_4 : decode method_2_code 4 = .ok (.iload_n 1, 1) := by decide +kernel
theorem own_d1_5 : decode method_2_code 5 = .ok (.ifCond .ne 6, 3) := by decide +kernel
theorem own_d1_8 : decode method_2_code 8 = .ok (.bipush 13, 2) := by decide +kernel
theorem own_d1_10 : decode method_2_code 10 = .ok (.ireturn, 1) := by decide +kernel
theorem own_d1_11 : decode method_2_code 11 = .ok (.iload_n 1, 1) := by decide +kernel
theorem own_d1_12 : decode method_2_code 12 = .ok (.iconst 1, 1) := by decide +kernel
theorem own_d1_13 : decode method_2_code 13 = .ok (.if_icmp .ne 6, 3) := by decide +kernel
theorem own_d1_16 : decode method_2_code 16 = .ok (.bipush 10, 2) := by decide +kernel
theorem own_d1_18 : decode method_2_code 18 = .ok (.ireturn, 1) := by decide +kernel
theorem own_d1_19 : decode method_2_code 19 = .ok (.iload_n 0, 1) := by decide +kernel
theorem own_d1_20 : decode method_2_code 20 = .ok (.bipush 16, 2) := by decide +kernel
theorem own_d1_22 : decode method_2_code 22 = .ok (.iushr, 1) := by decide +kernel
theorem own_d1_23 : decode method_2_code 23 = .ok (.i2c, 1) := by decide +kernel
theorem own_d1_24 : decode method_2_code 24 = .ok (.ireturn, 1) := by decide +kernel
theorem own_pn0 : plainName "com/example/ratatoskr/ratatoskr/content/TextPositionCountPinLaw" = true := by first | (simp [plainName, overriddenIn]; done) | decide +kernel
set_option maxRecDepth 65536 in
set_option maxHeartbeats 40000000 in
theorem own_rmP (l : Launch) (Z : State) (a0 : Array Value) (hw : ∀ d ∈ tables_1, d.before a0 Z = true) (p1 : Int32) (h0 : Heap) (n0 : Nat) (Z0 : n0 ≤ h0.size)  :
    own_Met l Z [] (⟨"com/example/ratatoskr/ratatoskr/content/TextPositionCountPinLaw", "pick", "(I)C"⟩ : MethodName) method_2_code 2 (some .char) ({ frames := 0, cells := 0, slots := 0, locals := 0 } : Room) #[(.int p1)] h0 (fun v h L => ∃ z : Int32, v = some (.int z) ∧ Fr n0 L ∧ h = h0) := by
  refine MetFree.of_bodySF (plainFor_of_name own_pn0) hisR ?_
  intro p e s m args below meth c s₁ Bd hml0 hP hK
  obtain ⟨rfl, hZ, hh⟩ := hP
  have hx := Bd.exec
  have hby := Bd.bytes
  have hml : c.maxLocals = 2 := hml0
  have hown : s.vm.findClass "com/example/ratatoskr/ratatoskr/content/TextPositionCountPinLaw" = some m.cls := findClass_of_methodNamed Bd.named
  have hnm := (name_of_methodNamed Bd.named Bd.method).1
  have hlk : meth.locks = false := Bd.notSynchronized
  have X0 : Stand p l e ({ frames := 0, cells := 0, slots := 0, locals := 0 } : Room) s m #[(.int p1)] below meth c s₁ [] 0 0 := Stand.of_body Bd
  have e0 : s₁.heap = h0 := by rw [← hh, Bd.state]; rfl
  have N0 := Fr.nil n0
  refine own_body (Q := fun v h L => ∃ z : Int32, v = some (.int z) ∧ Fr n0 L ∧ h = h0) ?_
  refine own_go (fun t k => castTop (own_ef m #[(.int p1)] 2 #[.val (.int p1), .unset] (own_al [(.int p1)] 2 [.val (.int p1), .unset] rfl)) k) ?_
  show own_Go _ _ _ _ (s₁.setTop (mkF m 0 #[.val (.int p1), .unset] []))
  refine own_go (fun _ k => XS.iloadN X0.here hx rfl (hb hby own_d1_0) rfl k) ?_
  show own_Go _ _ _ _ (s₁.setTop (mkF m 1 #[.val (.int p1), .unset] [(.int p1)]))
  refine own_go (fun _ k => XS.iconst X0.here hx rfl (hb hby own_d1_1) k) ?_
  show own_Go _ _ _ _ (s₁.setTop (mkF m 2 #[.val (.int p1), .unset] [(.int (3 : Int32)), (.int p1)]))
  refine own_go (fun _ k => XS.iand X0.here hx rfl (hb hby own_d1_2) rfl k) ?_
  show own_Go _ _ _ _ (s₁.setTop (mkF m 3 #[.val (.int p1), .unset] [(.int (p1 &&& (3 : Int32)))]))
  refine own_go (fun _ k => XS.istoreN X0.here hx rfl (hb hby own_d1_3) rfl (l' := #[.val (.int p1), .val (.int (p1 &&& (3 : Int32)))]) rfl k) ?_
  show own_Go _ _ _ _ (s₁.setTop (mkF m 4 #[.val (.int p1), .val (.int (p1 &&& (3 : Int32)))] []))
  refine own_go (fun _ k => XS.iloadN X0.here hx rfl (hb hby own_d1_4) rfl k) ?_
  show own_Go _ _ _ _ (s₁.setTop (mkF m 5 #[.val (.int p1), .val (.int (p1 &&& (3 : Int32)))] [(.int (p1 &&& (3 : Int32)))]))
  by_cases hc5 : (p1 &&& (3 : Int32)) = (0 : Int32)
  · have _h := hc5
    refine own_go (fun _ k => XS.ifNo X0.here hx rfl (hb hby own_d1_5) rfl ((if0 _ _).trans (teq hc5).2) k) ?_
    show own_Go _ _ _ _ (s₁.setTop (mkF m 8 #[.val (.int p1), .val (.int (p1 &&& (3 : Int32)))] []))
    refine own_go (fun _ k => XS.bipush X0.here hx rfl (hb hby own_d1_8) k) ?_
    show own_Go _ _ _ _ (s₁.setTop (mkF m 10 #[.val (.int p1), .val (.int (p1 &&& (3 : Int32)))] [(.int (13 : Int32))]))
    refine own_ret X0 hlk (v := some (.int (nar .char (13 : Int32)))) (fun h => by rw [Bd.returns] at h; cases h) (fun fs hr => retN X0 hx (t := .char) Bd.returns (by simp) (hb hby own_d1_10) hr) ?_ (by decide) (by decide)
    try rw [e0]
    exact ⟨_, rfl, N0, rfl⟩
  · have _h := hc5
    refine own_go (fun _ k => XS.ifYes X0.here hx rfl (pc0 := 5) (pc' := 11) rfl (hb hby own_d1_5) rfl ((if0 _ _).trans (feq hc5).2) (by decide) (by decide) k) ?_
    show own_Go _ _ _ _ (s₁.setTop (mkF m 11 #[.val (.int p1), .val (.int (p1 &&& (3 : Int32)))] []))
    refine own_go (fun _ k => XS.iloadN X0.here hx rfl (hb hby own_d1_11) rfl k) ?_
    show own_Go _ _ _ _ (s₁.setTop (mkF m 12 #[.val (.int p1), .val (.int (p1 &&& (3 : Int32)))] [(.int (p1 &&& (3 : Int32)))]))
    refine own_go (fun _ k => XS.iconst X0.here hx rfl (hb hby own_d1_12) k) ?_
    show own_Go _ _ _ _ (s₁.setTop (mkF m 13 #[.val (.int p1), .val (.int (p1 &&& (3 : Int32)))] [(.int (1 : Int32)), (.int (p1 &&& (3 : Int32)))]))
    by_cases hc13 : (p1 &&& (3 : Int32)) = (1 : Int32)
    · have _h := hc13
      refine own_go (fun _ k => XS.icmpNo X0.here hx rfl (hb hby own_d1_13) rfl (teq hc13).2 k) ?_
      show own_Go _ _ _ _ (s₁.setTop (mkF m 16 #[.val (.int p1), .val (.int (p1 &&& (3 : Int32)))] []))
      refine own_go (fun _ k => XS.bipush X0.here hx rfl (hb hby own_d1_16) k) ?_
      show own_Go _ _ _ _ (s₁.setTop (mkF m 18 #[.val (.int p1), .val (.int (p1 &&& (3 : Int32)))] [(.int (10 : Int32))]))
      refine own_ret X0 hlk (v := some (.int (nar .char (10 : Int32)))) (fun h => by rw [Bd.returns] at h; cases h) (fun fs hr => retN X0 hx (t := .char) Bd.returns (by simp) (hb hby own_d1_18) hr) ?_ (by decide) (by decide)
      try rw [e0]
      exact ⟨_, rfl, N0, rfl⟩
    · have _h := hc13
      refine own_go (fun _ k => XS.icmpYes X0.here hx rfl (pc0 := 13) (pc' := 19) rfl (hb hby own_d1_13) rfl (feq hc13).2 (by decide) (by decide) k) ?_
      show own_Go _ _ _ _ (s₁.setTop (mkF m 19 #[.val (.int p1), .val (.int (p1 &&& (3 : Int32)))] []))
      refine own_go (fun _ k => XS.iloadN X0.here hx rfl (hb hby own_d1_19) rfl k) ?_
      show own_Go _ _ _ _ (s₁.setTop (mkF m 20 #[.val (.int p1), .val (.int (p1 &&& (3 : Int32)))] [(.int p1)]))
      refine own_go (fun _ k => XS.bipush X0.here hx rfl (hb hby own_d1_20) k) ?_
      show own_Go _ _ _ _ (s₁.setTop (mkF m 22 #[.val (.int p1), .val (.int (p1 &&& (3 : Int32)))] [(.int (16 : Int32)), (.int p1)]))
      refine own_go (fun _ k => XS.iushr X0.here hx rfl (hb hby own_d1_22) rfl k) ?_
      show own_Go _ _ _ _ (s₁.setTop (mkF m 23 #[.val (.int p1), .val (.int (p1 &&& (3 : Int32)))] [(.int ((p1.toUInt32 >>> ((16 : Int32) &&& 31).toUInt32).toInt32))]))
      refine own_go (fun _ k => XS.i2c X0.here hx rfl (hb hby own_d1_23) rfl k) ?_
      show own_Go _ _ _ _ (s₁.setTop (mkF m 24 #[.val (.int p1), .val (.int (p1 &&& (3 : Int32)))] [(.int (((p1.toUInt32 >>> ((16 : Int32) &&& 31).toUInt32).toInt32).toUInt32.toUInt16.toUInt32.toInt32))]))
      refine own_ret X0 hlk (v := some (.int (nar .char (((p1.toUInt32 >>> ((16 : Int32) &&& 31).toUInt32).toInt32).toUInt32.toUInt16.toUInt32.toInt32)))) (fun h => by rw [Bd.returns] at h; cases h) (fun fs hr => retN X0 hx (t := .char) Bd.returns (by simp) (hb hby own_d1_24) hr) ?_ (by decide) (by decide)
      try rw [e0]
      exact ⟨_, rfl, N0, rfl⟩
theorem own_d2_0 : decode method_3_code 0 = .ok (.iload_n 2, 1) := by decide +kernel
theorem own_d2_1 : decode method_3_code 1 = .ok (.bipush 13, 2) := by decide +kernel
theorem own_d2_3 : decode method_3_code 3 = .ok (.if_icmp .ne 5, 3) := by decide +kernel
theorem own_d2_6 : decode method_3_code 6 = .ok (.iconst 1, 1) := by decide +kernel
theorem own_d2_7 : decode method_3_code 7 = .ok (.ireturn, 1) := by decide +kernel
theorem own_d2_8 : decode method_3_code 8 = .ok (.iload_n 2, 1) := by decide +kernel
theorem own_d2_9 : decode method_3_code 9 = .ok (.bipush 10, 2) := by decide +kernel
theorem own_d2_11 : decode method_3_code 11 = .ok (.if_icmp .eq 5, 3) := by decide +kernel
theorem own_d2_14 : decode method_3_code 14 = .ok (.iconst 0, 1) := by decide +kernel
theorem own_d2_15 : decode method_3_code 15 = .ok (.ireturn, 1) := by decide +kernel
theorem own_d2_16 : decode method_3_code 16 = .ok (.iload_n 0, 1) := by decide +kernel
theorem own_d2_17 : decode method_3_code 17 = .ok (.ifCond .eq 9, 3) := by decide +kernel
theorem own_d2_20 : decode method_3_code 20 = .ok (.iload_n 1, 1) := by decide +kernel
theorem own_d2_21 : decode method_3_code 21 = .ok (.bipush 13, 2) := by decide +kernel
theorem own_d2_23 : decode method_3_code 23 = .ok (.if_icmp .eq 7, 3) := by decide +kernel
theorem own_d2_26 : decode method_3_code 26 = .ok (.iconst 1, 1) := by decide +kernel
theorem own_d2_27 : decode method_3_code 27 = .ok (.goto 4, 3) := by decide +kernel
theorem own_d2_30 : decode method_3_code 30 = .ok (.iconst 0, 1) := by decide +kernel
theorem own_d2_31 : decode method_3_code 31 = .ok (.ireturn, 1) := by decide +kernel
set_option maxRecDepth 65536 in
set_option maxHeartbeats 40000000 in
theorem own_rmE (l : Launch) (Z : State) (a0 : Array Value) (hw : ∀ d ∈ tables_1, d.before a0 Z = true) (p1 : Int32) (p2 : Int32) (p3 : Int32) (h0 : Heap) (n0 : Nat) (Z0 : n0 ≤ h0.size)  :
    own_Met l Z [] (⟨"com/example/ratatoskr/ratatoskr/content/TextPositionCountPinLaw", "ends", "(ZCC)Z"⟩ : MethodName) method_3_code 3 (some .boolean) ({ frames := 0, cells := 0, slots := 0, locals := 0 } : Room) #[(.int p1), (.int p2), (.int p3)] h0 (fun v h L => v = some (.int (own_e p1 p2 p3)) ∧ Fr n0 L ∧ h = h0) := by
  refine MetFree.of_bodySF (plainFor_of_name own_pn0) hisR ?_
  intro p e s m args below meth c s₁ Bd hml0 hP hK
  obtain ⟨rfl, hZ, hh⟩ := hP
  have hx := Bd.exec
  have hby := Bd.bytes
  have hml : c.maxLocals = 3 := hml0
  have hown : s.vm.findClass "com/example/ratatoskr/ratatoskr/content/TextPositionCountPinLaw" = some m.cls := findClass_of_methodNamed Bd.named
  have hnm := (name_of_methodNamed Bd.named Bd.method).1
  have hlk : meth.locks = false := Bd.notSynchronized
  have X0 : Stand p l e ({ frames := 0, cells := 0, slots := 0, locals := 0 } : Room) s m #[(.int p1), (.int p2), (.int p3)] below meth c s₁ [] 0 0 := Stand.of_body Bd
  have e0 : s₁.heap = h0 := by rw [← hh, Bd.state]; rfl
  have N0 := Fr.nil n0
  refine own_body (Q := fun v h L => v = some (.int (own_e p1 p2 p3)) ∧ Fr n0 L ∧ h = h0) ?_
  refine own_go (fun t k => castTop (own_ef m #[(.int p1), (.int p2), (.int p3)] 3 #[.val (.int p1), .val (.int p2), .val (.int p3)] (own_al [(.int p1), (.int p2), (.int p3)] 3 [.val (.int p1), .val (.int p2), .val (.int p3)] rfl)) k) ?_
  show own_Go _ _ _ _ (s₁.setTop (mkF m 0 #[.val (.int p1), .val (.int p2), .val (.int p3)] []))
  refine own_go (fun _ k => XS.iloadN X0.here hx rfl (hb hby own_d2_0) rfl k) ?_
  show own_Go _ _ _ _ (s₁.setTop (mkF m 1 #[.val (.int p1), .val (.int p2), .val (.int p3)] [(.int p3)]))
  refine own_go (fun _ k => XS.bipush X0.here hx rfl (hb hby own_d2_1) k) ?_
  show own_Go _ _ _ _ (s₁.setTop (mkF m 3 #[.val (.int p1), .val (.int p2), .val (.int p3)] [(.int (13 : Int32)), (.int p3)]))
  by_cases hc3 : p3 = (13 : Int32)
  · have _h := hc3
    refine own_go (fun _ k => XS.icmpNo X0.here hx rfl (hb hby own_d2_3) rfl (teq hc3).2 k) ?_
    show own_Go _ _ _ _ (s₁.setTop (mkF m 6 #[.val (.int p1), .val (.int p2), .val (.int p3)] []))
    refine own_go (fun _ k => XS.iconst X0.here hx rfl (hb hby own_d2_6) k) ?_
    show own_Go _ _ _ _ (s₁.setTop (mkF m 7 #[.val (.int p1), .val (.int p2), .val (.int p3)] [(.int (1 : Int32))]))
    refine own_ret X0 hlk (v := some (.int (1 : Int32))) (fun h => by rw [Bd.returns] at h; cases h) (fun fs hr => retN X0 hx (t := .boolean) Bd.returns (by simp) (hb hby own_d2_7) hr) ?_ (by decide) (by decide)
    try rw [e0]
    exact ⟨by simp [own_e, hc3], N0, rfl⟩
  · have _h := hc3
    refine own_go (fun _ k => XS.icmpYes X0.here hx rfl (pc0 := 3) (pc' := 8) rfl (hb hby own_d2_3) rfl (feq hc3).2 (by decide) (by decide) k) ?_
    show own_Go _ _ _ _ (s₁.setTop (mkF m 8 #[.val (.int p1), .val (.int p2), .val (.int p3)] []))
    refine own_go (fun _ k => XS.iloadN X0.here hx rfl (hb hby own_d2_8) rfl k) ?_
    show own_Go _ _ _ _ (s₁.setTop (mkF m 9 #[.val (.int p1), .val (.int p2), .val (.int p3)] [(.int p3)]))
    refine own_go (fun _ k => XS.bipush X0.here hx rfl (hb hby own_d2_9) k) ?_
    show own_Go _ _ _ _ (s₁.setTop (mkF m 11 #[.val (.int p1), .val (.int p2), .val (.int p3)] [(.int (10 : Int32)), (.int p3)]))
    by_cases hc11 : p3 = (10 : Int32)
    · have _h := hc11
      refine own_go (fun _ k => XS.icmpYes X0.here hx rfl (pc0 := 11) (pc' := 16) rfl (hb hby own_d2_11) rfl (teq hc11).1 (by decide) (by decide) k) ?_
      show own_Go _ _ _ _ (s₁.setTop (mkF m 16 #[.val (.int p1), .val (.int p2), .val (.int p3)] []))
      refine own_go (fun _ k => XS.iloadN X0.here hx rfl (hb hby own_d2_16) rfl k) ?_
      show own_Go _ _ _ _ (s₁.setTop (mkF m 17 #[.val (.int p1), .val (.int p2), .val (.int p3)] [(.int p1)]))
      by_cases hc17 : p1 = (0 : Int32)
      · have _h := hc17
        refine own_go (fun _ k => XS.ifYes X0.here hx rfl (pc0 := 17) (pc' := 26) rfl (hb hby own_d2_17) rfl ((if0 _ _).trans (teq hc17).1) (by decide) (by decide) k) ?_
        show own_Go _ _ _ _ (s₁.setTop (mkF m 26 #[.val (.int p1), .val (.int p2), .val (.int p3)] []))
        refine own_go (fun _ k => XS.iconst X0.here hx rfl (hb hby own_d2_26) k) ?_
        show own_Go _ _ _ _ (s₁.setTop (mkF m 27 #[.val (.int p1), .val (.int p2), .val (.int p3)] [(.int (1 : Int32))]))
        refine own_go (fun _ k => XS.goto X0.here hx rfl (pc0 := 27) (pc' := 31) rfl (hb hby own_d2_27) (by decide) (by decide) k) ?_
        show own_Go _ _ _ _ (s₁.setTop (mkF m 31 #[.val (.int p1), .val (.int p2), .val (.int p3)] [(.int (1 : Int32))]))
        refine own_ret X0 hlk (v := some (.int (1 : Int32))) (fun h => by rw [Bd.returns] at h; cases h) (fun fs hr => retN X0 hx (t := .boolean) Bd.returns (by simp) (hb hby own_d2_31) hr) ?_ (by decide) (by decide)
        try rw [e0]
        exact ⟨by simp [own_e, hc3, hc11, hc17], N0, rfl⟩
      · have _h := hc17
        refine own_go (fun _ k => XS.ifNo X0.here hx rfl (hb hby own_d2_17) rfl ((if0 _ _).trans (feq hc17).1) k) ?_
        show own_Go _ _ _ _ (s₁.setTop (mkF m 20 #[.val (.int p1), .val (.int p2), .val (.int p3)] []))
        refine own_go (fun _ k => XS.iloadN X0.here hx rfl (hb hby own_d2_20) rfl k) ?_
        show own_Go _ _ _ _ (s₁.setTop (mkF m 21 #[.val (.int p1), .val (.int p2), .val (.int p3)] [(.int p2)]))
        refine own_go (fun _ k => XS.bipush X0.here hx rfl (hb hby own_d2_21) k) ?_
        show own_Go _ _ _ _ (s₁.setTop (mkF m 23 #[.val (.int p1), .val (.int p2), .val (.int p3)] [(.int (13 : Int32)), (.int p2)]))
        by_cases hc23 : p2 = (13 : Int32)
        · have _h := hc23
          refine own_go (fun _ k => XS.icmpYes X0.here hx rfl (pc0 := 23) (pc' := 30) rfl (hb hby own_d2_23) rfl (teq hc23).1 (by decide) (by decide) k) ?_
          show own_Go _ _ _ _ (s₁.setTop (mkF m 30 #[.val (.int p1), .val (.int p2), .val (.int p3)] []))
          refine own_go (fun _ k => XS.iconst X0.here hx rfl (hb hby own_d2_30) k) ?_
          show own_Go _ _ _ _ (s₁.setTop (mkF m 31 #[.val (.int p1), .val (.int p2), .val (.int p3)] [(.int (0 : Int32))]))
          refine own_ret X0 hlk (v := some (.int (0 : Int32))) (fun h => by rw [Bd.returns] at h; cases h) (fun fs hr => retN X0 hx (t := .boolean) Bd.returns (by simp) (hb hby own_d2_31) hr) ?_ (by decide) (by decide)
          try rw [e0]
          exact ⟨by simp [own_e, hc3, hc11, hc17, hc23], N0, rfl⟩
        · have _h := hc23
          refine own_go (fun _ k => XS.icmpNo X0.here hx rfl (hb hby own_d2_23) rfl (feq hc23).1 k) ?_
          show own_Go _ _ _ _ (s₁.setTop (mkF m 26 #[.val (.int p1), .val (.int p2), .val (.int p3)] []))
          refine own_go (fun _ k => XS.iconst X0.here hx rfl (hb hby own_d2_26) k) ?_
          show own_Go _ _ _ _ (s₁.setTop (mkF m 27 #[.val (.int p1), .val (.int p2), .val (.int p3)] [(.int (1 : Int32))]))
          refine own_go (fun _ k => XS.goto X0.here hx rfl (pc0 := 27) (pc' := 31) rfl (hb hby own_d2_27) (by decide) (by decide) k) ?_
          show own_Go _ _ _ _ (s₁.setTop (mkF m 31 #[.val (.int p1), .val (.int p2), .val (.int p3)] [(.int (1 : Int32))]))
          refine own_ret X0 hlk (v := some (.int (1 : Int32))) (fun h => by rw [Bd.returns] at h; cases h) (fun fs hr => retN X0 hx (t := .boolean) Bd.returns (by simp) (hb hby own_d2_31) hr) ?_ (by decide) (by decide)
          try rw [e0]
          exact ⟨by simp [own_e, hc3, hc11, hc17, hc23], N0, rfl⟩
    · have _h := hc11
      refine own_go (fun _ k => XS.icmpNo X0.here hx rfl (hb hby own_d2_11) rfl (feq hc11).1 k) ?_
      show own_Go _ _ _ _ (s₁.setTop (mkF m 14 #[.val (.int p1), .val (.int p2), .val (.int p3)] []))
      refine own_go (fun _ k => XS.iconst X0.here hx rfl (hb hby own_d2_14) k) ?_
      show own_Go _ _ _ _ (s₁.setTop (mkF m 15 #[.val (.int p1), .val (.int p2), .val (.int p3)] [(.int (0 : Int32))]))
      refine own_ret X0 hlk (v := some (.int (0 : Int32))) (fun h => by rw [Bd.returns] at h; cases h) (fun fs hr => retN X0 hx (t := .boolean) Bd.returns (by simp) (hb hby own_d2_15) hr) ?_ (by decide) (by decide)
      try rw [e0]
      exact ⟨by simp [own_e, hc3, hc11], N0, rfl⟩
theorem own_d3_0 : decode method_4_code 0 = .ok (.iload_n 0, 1) := by decide +kernel
theorem own_d3_1 : decode method_4_code 1 = .ok (.bipush 13, 2) := by decide +kernel
theorem own_d3_3 : decode method_4_code 3 = .ok (.if_icmp .eq 9, 3) := by decide +kernel
theorem own_d3_6 : decode method_4_code 6 = .ok (.iload_n 0, 1) := by decide +kernel
theorem own_d3_7 : decode method_4_code 7 = .ok (.bipush 10, 2) := by decide +kernel
theorem own_d3_9 : decode method_4_code 9 = .ok (.if_icmp .ne 5, 3) := by decide +kernel
theorem own_d3_12 : decode method_4_code 12 = .ok (.lconst 0, 1) := by decide +kernel
theorem own_d3_13 : decode method_4_code 13 = .ok (.lreturn, 1) := by decide +kernel
theorem own_d3_14 : decode method_4_code 14 = .ok (.lconst 1, 1) := by decide +kernel
theorem own_d3_15 : decode method_4_code 15 = .ok (.lreturn, 1) := by decide +kernel
set_option maxRecDepth 65536 in
set_option maxHeartbeats 40000000 in
theorem own_rmT (l : Launch) (Z : State) (a0 : Array Value) (hw : ∀ d ∈ tables_1, d.before a0 Z = true) (p1 : Int32) (h0 : Heap) (n0 : Nat) (Z0 : n0 ≤ h0.size)  :
    own_Met l Z [] (⟨"com/example/ratatoskr/ratatoskr/content/TextPositionCountPinLaw", "text", "(C)J"⟩ : MethodName) method_4_code 1 (some .long) ({ frames := 0, cells := 0, slots := 0, locals := 0 } : Room) #[(.int p1)] h0 (fun v h L => v = some (.long (own_tx p1)) ∧ Fr n0 L ∧ h = h0) := by
  refine MetFree.of_bodySF (plainFor_of_name own_pn0) hisR ?_
  intro p e s m args below meth c s₁ Bd hml0 hP hK
  obtain ⟨rfl, hZ, hh⟩ := hP
  have hx := Bd.exec
  have hby := Bd.bytes
  have hml : c.maxLocals = 1 := hml0
  have hown : s.vm.findClass "com/example/ratatoskr/ratatoskr/content/TextPositionCountPinLaw" = some m.cls := findClass_of_methodNamed Bd.named
  have hnm := (name_of_methodNamed Bd.named Bd.method).1
  have hlk : meth.locks = false := Bd.notSynchronized
  have X0 : Stand p l e ({ frames := 0, cells := 0, slots := 0, locals := 0 } : Room) s m #[(.int p1)] below meth c s₁ [] 0 0 := Stand.of_body Bd
  have e0 : s₁.heap = h0 := by rw [← hh, Bd.state]; rfl
  have N0 := Fr.nil n0
  refine own_body (Q := fun v h L => v = some (.long (own_tx p1)) ∧ Fr n0 L ∧ h = h0) ?_
  refine own_go (fun t k => castTop (own_ef m #[(.int p1)] 1 #[.val (.int p1)] (own_al [(.int p1)] 1 [.val (.int p1)] rfl)) k) ?_
  show own_Go _ _ _ _ (s₁.setTop (mkF m 0 #[.val (.int p1)] []))
  refine own_go (fun _ k => XS.iloadN X0.here hx rfl (hb hby own_d3_0) rfl k) ?_
  show own_Go _ _ _ _ (s₁.setTop (mkF m 1 #[.val (.int p1)] [(.int p1)]))
  refine own_go (fun _ k => XS.bipush X0.here hx rfl (hb hby own_d3_1) k) ?_
  show own_Go _ _ _ _ (s₁.setTop (mkF m 3 #[.val (.int p1)] [(.int (13 : Int32)), (.int p1)]))
  by_cases hc3 : p1 = (13 : Int32)
  · have _h := hc3
    refine own_go (fun _ k => XS.icmpYes X0.here hx rfl (pc0 := 3) (pc' := 12) rfl (hb hby own_d3_3) rfl (teq hc3).1 (by decide) (by decide) k) ?_
    show own_Go _ _ _ _ (s₁.setTop (mkF m 12 #[.val (.int p1)] []))
    refine own_go (fun _ k => XS.lconst X0.here hx rfl (hb hby own_d3_12) k) ?_
    show own_Go _ _ _ _ (s₁.setTop (mkF m 13 #[.val (.int p1)] [(.long (0 : Int64))]))
    refine own_ret X0 hlk (v := some (.long (0 : Int64))) (fun h => by rw [Bd.returns] at h; cases h) (fun fs hr => retOut X0 hx Bd.returns rfl (Or.inr (Or.inl ⟨rfl, rfl, _, rfl⟩)) (hb hby own_d3_13) hr) ?_ (by decide) (by decide)
    try rw [e0]
    exact ⟨by simp [own_tx, hc3], N0, rfl⟩
  · have _h := hc3
    refine own_go (fun _ k => XS.icmpNo X0.here hx rfl (hb hby own_d3_3) rfl (feq hc3).1 k) ?_
    show own_Go _ _ _ _ (s₁.setTop (mkF m 6 #[.val (.int p1)] []))
    refine own_go (fun _ k => XS.iloadN X0.here hx rfl (hb hby own_d3_6) rfl k) ?_
    show own_Go _ _ _ _ (s₁.setTop (mkF m 7 #[.val (.int p1)] [(.int p1)]))
    refine own_go (fun _ k => XS.bipush X0.here hx rfl (hb hby own_d3_7) k) ?_
    show own_Go _ _ _ _ (s₁.setTop (mkF m 9 #[.val (.int p1)] [(.int (10 : Int32)), (.int p1)]))
    by_cases hc9 : p1 = (10 : Int32)
    · have _h := hc9
      refine own_go (fun _ k => XS.icmpNo X0.here hx rfl (hb hby own_d3_9) rfl (teq hc9).2 k) ?_
      show own_Go _ _ _ _ (s₁.setTop (mkF m 12 #[.val (.int p1)] []))
      refine own_go (fun _ k => XS.lconst X0.here hx rfl (hb hby own_d3_12) k) ?_
      show own_Go _ _ _ _ (s₁.setTop (mkF m 13 #[.val (.int p1)] [(.long (0 : Int64))]))
      refine own_ret X0 hlk (v := some (.long (0 : Int64))) (fun h => by rw [Bd.returns] at h; cases h) (fun fs hr => retOut X0 hx Bd.returns rfl (Or.inr (Or.inl ⟨rfl, rfl, _, rfl⟩)) (hb hby own_d3_13) hr) ?_ (by decide) (by decide)
      try rw [e0]
      exact ⟨by simp [own_tx, hc3, hc9], N0, rfl⟩
    · have _h := hc9
      refine own_go (fun _ k => XS.icmpYes X0.here hx rfl (pc0 := 9) (pc' := 14) rfl (hb hby own_d3_9) rfl (feq hc9).2 (by decide) (by decide) k) ?_
      show own_Go _ _ _ _ (s₁.setTop (mkF m 14 #[.val (.int p1)] []))
      refine own_go (fun _ k => XS.lconst X0.here hx rfl (hb hby own_d3_14) k) ?_
      show own_Go _ _ _ _ (s₁.setTop (mkF m 15 #[.val (.int p1)] [(.long (1 : Int64))]))
      refine own_ret X0 hlk (v := some (.long (1 : Int64))) (fun h => by rw [Bd.returns] at h; cases h) (fun fs hr => retOut X0 hx Bd.returns rfl (Or.inr (Or.inl ⟨rfl, rfl, _, rfl⟩)) (hb hby own_d3_15) hr) ?_ (by decide) (by decide)
      try rw [e0]
      exact ⟨by simp [own_tx, hc3, hc9], N0, rfl⟩
theorem own_d4_0 : decode prog_6_method_1_code 0 = .ok (.aload_n 0, 1) := by decide +kernel
theorem own_d4_1 : decode prog_6_method_1_code 1 = .ok (.invokespecial 1, 3) := by decide +kernel
theorem own_d4_4 : decode prog_6_method_1_code 4 = .ok (.aload_n 0, 1) := by decide +kernel
theorem own_d4_5 : decode prog_6_method_1_code 5 = .ok (.lconst 1, 1) := by decide +kernel
theorem own_d4_6 : decode prog_6_method_1_code 6 = .ok (.putfield 7, 3) := by decide +kernel
theorem own_d4_9 : decode prog_6_method_1_code 9 = .ok (.aload_n 0, 1) := by decide +kernel
theorem own_d4_10 : decode prog_6_method_1_code 10 = .ok (.lconst 1, 1) := by decide +kernel
theorem own_d4_11 : decode prog_6_method_1_code 11 = .ok (.putfield 13, 3) := by decide +kernel
theorem own_d4_14 : decode prog_6_method_1_code 14 = .ok (.return_, 1) := by decide +kernel
theorem own_pn1 : plainName "com/example/ratatoskr/ratatoskr/content/TextPosition" = true := by first | (simp [plainName, overriddenIn]; done) | decide +kernel
set_option maxRecDepth 65536 in
set_option maxHeartbeats 40000000 in
theorem own_rmI (l : Launch) (Z : State) (a0 : Array Value) (hw : ∀ d ∈ tables_1, d.before a0 Z = true) (a1 : Addr) (h0 : Heap) (n0 : Nat) (Z0 : n0 ≤ h0.size) (E1 : Exa Z h0 a1 "com/example/ratatoskr/ratatoskr/content/TextPosition") (F_x : Fld Z h0 a1 "com/example/ratatoskr/ratatoskr/content/TextPosition" "line" "J" (.long 0)) (F_y : Fld Z h0 a1 "com/example/ratatoskr/ratatoskr/content/TextPosition" "column" "J" (.long 0)) (F_r : Fld Z h0 a1 "com/example/ratatoskr/ratatoskr/content/TextPosition" "afterReturn" "Z" (.int 0)) (ge_a1 : n0 ≤ a1) :
    own_Met l Z [] (⟨"com/example/ratatoskr/ratatoskr/content/TextPosition", "<init>", "()V"⟩ : MethodName) prog_6_method_1_code 1 none ({ frames := 1, cells := 0, slots := 0, locals := 12 } : Room) #[(.ref a1)] h0 (fun v h L => v = none ∧ Fr n0 L ∧ Keep h0 h [a1] ∧ Fld Z h a1 "com/example/ratatoskr/ratatoskr/content/TextPosition" "line" "J" (.long 1) ∧ Fld Z h a1 "com/example/ratatoskr/ratatoskr/content/TextPosition" "column" "J" (.long 1) ∧ Fld Z h a1 "com/example/ratatoskr/ratatoskr/content/TextPosition" "afterReturn" "Z" (.int 0)) := by
  refine MetFree.of_bodySF (plainFor_of_name own_pn1) hisR ?_
  intro p e s m args below meth c s₁ Bd hml0 hP hK
  obtain ⟨rfl, hZ, hh⟩ := hP
  have hx := Bd.exec
  have hby := Bd.bytes
  have hml : c.maxLocals = 1 := hml0
  have hown : s.vm.findClass "com/example/ratatoskr/ratatoskr/content/TextPosition" = some m.cls := findClass_of_methodNamed Bd.named
  have hnm := (name_of_methodNamed Bd.named Bd.method).1
  have hlk : meth.locks = false := Bd.notSynchronized
  have X0 : Stand p l e ({ frames := 1, cells := 0, slots := 0, locals := 12 } : Room) s m #[(.ref a1)] below meth c s₁ [] 0 0 := Stand.of_body Bd
  have e0 : s₁.heap = h0 := by rw [← hh, Bd.state]; rfl
  have N0 := Fr.nil n0
  refine own_body (Q := fun v h L => v = none ∧ Fr n0 L ∧ Keep h0 h [a1] ∧ Fld Z h a1 "com/example/ratatoskr/ratatoskr/content/TextPosition" "line" "J" (.long 1) ∧ Fld Z h a1 "com/example/ratatoskr/ratatoskr/content/TextPosition" "column" "J" (.long 1) ∧ Fld Z h a1 "com/example/ratatoskr/ratatoskr/content/TextPosition" "afterReturn" "Z" (.int 0)) ?_
  refine own_go (fun t k => castTop (own_ef m #[(.ref a1)] 1 #[.val (.ref a1)] (own_al [(.ref a1)] 1 [.val (.ref a1)] rfl)) k) ?_
  show own_Go _ _ _ _ (s₁.setTop (mkF m 0 #[.val (.ref a1)] []))
  have K0 : Keep h0 h0 [a1] := Keep.refl _ _
  refine own_go (fun _ k => XS.aloadN X0.here hx rfl (hb hby own_d4_0) rfl rfl k) ?_
  show own_Go _ _ _ _ (s₁.setTop (mkF m 1 #[.val (.ref a1)] [(.ref a1)]))
  obtain ⟨T1, X1, e1, st1⟩ := initO X0 hx hZ hown (hw _ (List.mem_of_getElem? (i := 16) rfl)) (hw _ (List.mem_of_getElem? (i := 17) rfl)) (hw _ (List.mem_of_getElem? (i := 18) rfl)) e0 (g := (mkF m 1 #[.val (.ref a1)] [(.ref a1)])) rfl (by rw [hml]; rfl) rfl (hb hby own_d4_1) (by decide) (W := 0) (by show 2 * 0 + _ ≤ _; exact Nat.le_of_eq rfl) (by decide)
  refine own_go st1 ?_
  show own_Go _ _ _ _ (T1.setTop (mkF m 4 #[.val (.ref a1)] []))
  refine own_go (fun _ k => XS.aloadN X1.here hx rfl (hb hby own_d4_4) rfl rfl k) ?_
  show own_Go _ _ _ _ (T1.setTop (mkF m 5 #[.val (.ref a1)] [(.ref a1)]))
  refine own_go (fun _ k => XS.lconst X1.here hx rfl (hb hby own_d4_5) k) ?_
  show own_Go _ _ _ _ (T1.setTop (mkF m 6 #[.val (.ref a1)] [(.long (1 : Int64)), (.ref a1)]))
  obtain ⟨T2, h2, X2, e2, W2, st2⟩ := putF X1 hx hZ hown (host := "") (Or.inl (hw _ (List.mem_of_getElem? (i := 19) rfl))) Via.refl e1 F_x E1 (Or.inl (hw _ (List.mem_of_getElem? (i := 20) rfl))) (hw _ (List.mem_of_getElem? (i := 11) rfl)) (ty := .long) (by decide) rfl rfl (g := (mkF m 6 #[.val (.ref a1)] [(.long (1 : Int64)), (.ref a1)])) rfl rfl (hb hby own_d4_6)
  refine own_go st2 ?_
  have NF2 := Fr.snoc X2 N0 ge_a1
  replace F_x := F_x.same W2
  replace E1 := E1.wr W2
  replace F_y := F_y.other W2 (Or.inr (slot_ne (Or.inl (hw _ (List.mem_of_getElem? (i := 22) rfl))) (Or.inl (hw _ (List.mem_of_getElem? (i := 20) rfl))) (by decide) (t := .long) (t' := .long) (by decide) (by decide)))
  replace F_r := F_r.other W2 (Or.inr (slot_ne (Or.inl (hw _ (List.mem_of_getElem? (i := 29) rfl))) (Or.inl (hw _ (List.mem_of_getElem? (i := 20) rfl))) (by decide) (t := .boolean) (t' := .long) (by decide) (by decide)))
  replace Z0 := Nat.le_trans Z0 (Keep.of_wr W2).1
  replace K0 := K0.wr W2 (Or.inl (List.mem_of_getElem? (i := 0) rfl))
  show own_Go _ _ _ _ (T2.setTop (mkF m 9 #[.val (.ref a1)] []))
  refine own_go (fun _ k => XS.aloadN X2.here hx rfl (hb hby own_d4_9) rfl rfl k) ?_
  show own_Go _ _ _ _ (T2.setTop (mkF m 10 #[.val (.ref a1)] [(.ref a1)]))
  refine own_go (fun _ k => XS.lconst X2.here hx rfl (hb hby own_d4_10) k) ?_
  show own_Go _ _ _ _ (T2.setTop (mkF m 11 #[.val (.ref a1)] [(.long (1 : Int64)), (.ref a1)]))
  obtain ⟨T3, h3, X3, e3, W3, st3⟩ := putF X2 hx hZ hown (host := "") (Or.inl (hw _ (List.mem_of_getElem? (i := 21) rfl))) Via.refl e2 F_y E1 (Or.inl (hw _ (List.mem_of_getElem? (i := 22) rfl))) (hw _ (List.mem_of_getElem? (i := 11) rfl)) (ty := .long) (by decide) rfl rfl (g := (mkF m 11 #[.val (.ref a1)] [(.long (1 : Int64)), (.ref a1)])) rfl rfl (hb hby own_d4_11)
  refine own_go st3 ?_
  have NF3 := Fr.snoc X3 NF2 ge_a1
  replace F_y := F_y.same W3
  replace E1 := E1.wr W3
  replace F_x := F_x.other W3 (Or.inr (slot_ne (Or.inl (hw _ (List.mem_of_getElem? (i := 20) rfl))) (Or.inl (hw _ (List.mem_of_getElem? (i := 22) rfl))) (by decide) (t := .long) (t' := .long) (by decide) (by decide)))
  replace F_r := F_r.other W3 (Or.inr (slot_ne (Or.inl (hw _ (List.mem_of_getElem? (i := 29) rfl))) (Or.inl (hw _ (List.mem_of_getElem? (i := 22) rfl))) (by decide) (t := .boolean) (t' := .long) (by decide) (by decide)))
  replace Z0 := Nat.le_trans Z0 (Keep.of_wr W3).1
  replace K0 := K0.wr W3 (Or.inl (List.mem_of_getElem? (i := 0) rfl))
  show own_Go _ _ _ _ (T3.setTop (mkF m 14 #[.val (.ref a1)] []))
  refine own_ret X3 hlk (v := none) (fun _ => rfl) (fun fs hr => X3.returnOut hx Bd.returns (hb hby own_d4_14) hr) ?_ (by decide) (by decide)
  try rw [e3]
  exact ⟨rfl, NF3, K0, F_x, F_y, F_r⟩
theorem own_d6_0 : decode prog_6_method_2_code 0 = .ok (.iload_n 1, 1) := by decide +kernel
theorem own_d6_1 : decode prog_6_method_2_code 1 = .ok (.bipush 13, 2) := by decide +kernel
theorem own_d6_3 : decode prog_6_method_2_code 3 = .ok (.if_icmp .eq 16, 3) := by decide +kernel
theorem own_d6_6 : decode prog_6_method_2_code 6 = .ok (.iload_n 1, 1) := by decide +kernel
theorem own_d6_7 : decode prog_6_method_2_code 7 = .ok (.bipush 10, 2) := by decide +kernel
theorem own_d6_9 : decode prog_6_method_2_code 9 = .ok (.if_icmp .ne 28, 3) := by decide +kernel
theorem own_d6_12 : decode prog_6_method_2_code 12 = .ok (.aload_n 0, 1) := by decide +kernel
theorem own_d6_13 : decode prog_6_method_2_code 13 = .ok (.getfield 16, 3) := by decide +kernel
theorem own_d6_16 : decode prog_6_method_2_code 16 = .ok (.ifCond .ne 21, 3) := by decide +kernel
theorem own_d6_19 : decode prog_6_method_2_code 19 = .ok (.aload_n 0, 1) := by decide +kernel
theorem own_d6_20 : decode prog_6_method_2_code 20 = .ok (.dup, 1) := by decide +kernel
theorem own_d6_21 : decode prog_6_method_2_code 21 = .ok (.getfield 7, 3) := by decide +kernel
theorem own_d6_24 : decode prog_6_method_2_code 24 = .ok (.lconst 1, 1) := by decide +kernel
theorem own_d6_25 : decode prog_6_method_2_code 25 = .ok (.ladd, 1) := by decide +kernel
theorem own_d6_26 : decode prog_6_method_2_code 26 = .ok (.putfield 7, 3) := by decide +kernel
theorem own_d6_29 : decode prog_6_method_2_code 29 = .ok (.aload_n 0, 1) := by decide +kernel
theorem own_d6_30 : decode prog_6_method_2_code 30 = .ok (.lconst 1, 1) := by decide +kernel
theorem own_d6_31 : decode prog_6_method_2_code 31 = .ok (.putfield 13, 3) := by decide +kernel
theorem own_d6_34 : decode prog_6_method_2_code 34 = .ok (.goto 19, 3) := by decide +kernel
theorem own_d6_37 : decode prog_6_method_2_code 37 = .ok (.iload_n 1, 1) := by decide +kernel
theorem own_d6_38 : decode prog_6_method_2_code 38 = .ok (.bipush 10, 2) := by decide +kernel
theorem own_d6_40 : decode prog_6_method_2_code 40 = .ok (.if_icmp .eq 13, 3) := by decide +kernel
theorem own_d6_43 : decode prog_6_method_2_code 43 = .ok (.aload_n 0, 1) := by decide +kernel
theorem own_d6_44 : decode prog_6_method_2_code 44 = .ok (.dup, 1) := by decide +kernel
theorem own_d6_45 : decode prog_6_method_2_code 45 = .ok (.getfield 13, 3) := by decide +kernel
theorem own_d6_48 : decode prog_6_method_2_code 48 = .ok (.lconst 1, 1) := by decide +kernel
theorem own_d6_49 : decode prog_6_method_2_code 49 = .ok (.ladd, 1) := by decide +kernel
theorem own_d6_50 : decode prog_6_method_2_code 50 = .ok (.putfield 13, 3) := by decide +kernel
theorem own_d6_53 : decode prog_6_method_2_code 53 = .ok (.aload_n 0, 1) := by decide +kernel
theorem own_d6_54 : decode prog_6_method_2_code 54 = .ok (.iload_n 1, 1) := by decide +kernel
theorem own_d6_55 : decode prog_6_method_2_code 55 = .ok (.bipush 13, 2) := by decide +kernel
theorem own_d6_57 : decode prog_6_method_2_code 57 = .ok (.if_icmp .ne 7, 3) := by decide +kernel
theorem own_d6_60 : decode prog_6_method_2_code 60 = .ok (.iconst 1, 1) := by decide +kernel
theorem own_d6_61 : decode prog_6_method_2_code 61 = .ok (.goto 4, 3) := by decide +kernel
theorem own_d6_64 : decode prog_6_method_2_code 64 = .ok (.iconst 0, 1) := by decide +kernel
theorem own_d6_65 : decode prog_6_method_2_code 65 = .ok (.putfield 16, 3) := by decide +kernel
theorem own_d6_68 : decode prog_6_method_2_code 68 = .ok (.return_, 1) := by decide +kernel
set_option maxRecDepth 65536 in
set_option maxHeartbeats 40000000 in
theorem own_rmN (l : Launch) (Z : State) (a0 : Array Value) (hw : ∀ d ∈ tables_1, d.before a0 Z = true) (a1 : Addr) (ch : Int32) (x : Int64) (y : Int64) (r : Int32) (h0 : Heap) (n0 : Nat) (Z0 : n0 ≤ h0.size) (E1 : Exa Z h0 a1 "com/example/ratatoskr/ratatoskr/content/TextPosition") (F_x : Fld Z h0 a1 "com/example/ratatoskr/ratatoskr/content/TextPosition" "line" "J" (.long x)) (F_y : Fld Z h0 a1 "com/example/ratatoskr/ratatoskr/content/TextPosition" "column" "J" (.long y)) (F_r : Fld Z h0 a1 "com/example/ratatoskr/ratatoskr/content/TextPosition" "afterReturn" "Z" (.int r)) (ge_a1 : n0 ≤ a1) :
    own_Met l Z [] (⟨"com/example/ratatoskr/ratatoskr/content/TextPosition", "count", "(C)V"⟩ : MethodName) prog_6_method_2_code 2 none ({ frames := 0, cells := 0, slots := 0, locals := 0 } : Room) #[(.ref a1), (.int ch)] h0 (fun v h L => v = none ∧ Fr n0 L ∧ Keep h0 h [a1] ∧ Fld Z h a1 "com/example/ratatoskr/ratatoskr/content/TextPosition" "line" "J" (.long (own_L ch r x)) ∧ Fld Z h a1 "com/example/ratatoskr/ratatoskr/content/TextPosition" "column" "J" (.long (own_K ch r y)) ∧ Fld Z h a1 "com/example/ratatoskr/ratatoskr/content/TextPosition" "afterReturn" "Z" (.int (own_r ch))) := by
  refine MetFree.of_bodySF (plainFor_of_name own_pn1) hisR ?_
  intro p e s m args below meth c s₁ Bd hml0 hP hK
  obtain ⟨rfl, hZ, hh⟩ := hP
  have hx := Bd.exec
  have hby := Bd.bytes
  have hml : c.maxLocals = 2 := hml0
  have hown : s.vm.findClass "com/example/ratatoskr/ratatoskr/content/TextPosition" = some m.cls := findClass_of_methodNamed Bd.named
  have hnm := (name_of_methodNamed Bd.named Bd.method).1
  have hlk : meth.locks = false := Bd.notSynchronized
  have X0 : Stand p l e ({ frames := 0, cells := 0, slots := 0, locals := 0 } : Room) s m #[(.ref a1), (.int ch)] below meth c s₁ [] 0 0 := Stand.of_body Bd
  have e0 : s₁.heap = h0 := by rw [← hh, Bd.state]; rfl
  have N0 := Fr.nil n0
  refine own_body (Q := fun v h L => v = none ∧ Fr n0 L ∧ Keep h0 h [a1] ∧ Fld Z h a1 "com/example/ratatoskr/ratatoskr/content/TextPosition" "line" "J" (.long (own_L ch r x)) ∧ Fld Z h a1 "com/example/ratatoskr/ratatoskr/content/TextPosition" "column" "J" (.long (own_K ch r y)) ∧ Fld Z h a1 "com/example/ratatoskr/ratatoskr/content/TextPosition" "afterReturn" "Z" (.int (own_r ch))) ?_
  refine own_go (fun t k => castTop (own_ef m #[(.ref a1), (.int ch)] 2 #[.val (.ref a1), .val (.int ch)] (own_al [(.ref a1), (.int ch)] 2 [.val (.ref a1), .val (.int ch)] rfl)) k) ?_
  show own_Go _ _ _ _ (s₁.setTop (mkF m 0 #[.val (.ref a1), .val (.int ch)] []))
  have K0 : Keep h0 h0 [a1] := Keep.refl _ _
  refine own_go (fun _ k => XS.iloadN X0.here hx rfl (hb hby own_d6_0) rfl k) ?_
  show own_Go _ _ _ _ (s₁.setTop (mkF m 1 #[.val (.ref a1), .val (.int ch)] [(.int ch)]))
  refine own_go (fun _ k => XS.bipush X0.here hx rfl (hb hby own_d6_1) k) ?_
  show own_Go _ _ _ _ (s₁.setTop (mkF m 3 #[.val (.ref a1), .val (.int ch)] [(.int (13 : Int32)), (.int ch)]))
  by_cases hc3 : ch = (13 : Int32)
  · have _h := hc3
    refine own_go (fun _ k => XS.icmpYes X0.here hx rfl (pc0 := 3) (pc' := 19) rfl (hb hby own_d6_3) rfl (teq hc3).1 (by decide) (by decide) k) ?_
    show own_Go _ _ _ _ (s₁.setTop (mkF m 19 #[.val (.ref a1), .val (.int ch)] []))
    refine own_go (fun _ k => XS.aloadN X0.here hx rfl (hb hby own_d6_19) rfl rfl k) ?_
    show own_Go _ _ _ _ (s₁.setTop (mkF m 20 #[.val (.ref a1), .val (.int ch)] [(.ref a1)]))
    refine own_go (fun _ k => XS.dup X0.here hx rfl (hb hby own_d6_20) rfl rfl k) ?_
    show own_Go _ _ _ _ (s₁.setTop (mkF m 21 #[.val (.ref a1), .val (.int ch)] [(.ref a1), (.ref a1)]))
    obtain ⟨T1, X1, e1, st1⟩ := getF X0 hx hZ hown (host := "") (Or.inl (hw _ (List.mem_of_getElem? (i := 19) rfl))) Via.refl e0 F_x (g := (mkF m 21 #[.val (.ref a1), .val (.int ch)] [(.ref a1), (.ref a1)])) rfl rfl (hb hby own_d6_21)
    refine own_go st1 ?_
    show own_Go _ _ _ _ (T1.setTop (mkF m 24 #[.val (.ref a1), .val (.int ch)] [(.long x), (.ref a1)]))
    refine own_go (fun _ k => XS.lconst X1.here hx rfl (hb hby own_d6_24) k) ?_
    show own_Go _ _ _ _ (T1.setTop (mkF m 25 #[.val (.ref a1), .val (.int ch)] [(.long (1 : Int64)), (.long x), (.ref a1)]))
    refine own_go (fun _ k => XS.ladd X1.here hx rfl (hb hby own_d6_25) rfl k) ?_
    show own_Go _ _ _ _ (T1.setTop (mkF m 26 #[.val (.ref a1), .val (.int ch)] [(.long (x + (1 : Int64))), (.ref a1)]))
    obtain ⟨T2, h2, X2, e2, W2, st2⟩ := putF X1 hx hZ hown (host := "") (Or.inl (hw _ (List.mem_of_getElem? (i := 19) rfl))) Via.refl e1 F_x E1 (Or.inl (hw _ (List.mem_of_getElem? (i := 20) rfl))) (hw _ (List.mem_of_getElem? (i := 11) rfl)) (ty := .long) (by decide) rfl rfl (g := (mkF m 26 #[.val (.ref a1), .val (.int ch)] [(.long (x + (1 : Int64))), (.ref a1)])) rfl rfl (hb hby own_d6_26)
    refine own_go st2 ?_
    have NF2 := Fr.snoc X2 N0 ge_a1
    replace F_x := F_x.same W2
    replace E1 := E1.wr W2
    replace F_y := F_y.other W2 (Or.inr (slot_ne (Or.inl (hw _ (List.mem_of_getElem? (i := 22) rfl))) (Or.inl (hw _ (List.mem_of_getElem? (i := 20) rfl))) (by decide) (t := .long) (t' := .long) (by decide) (by decide)))
    replace F_r := F_r.other W2 (Or.inr (slot_ne (Or.inl (hw _ (List.mem_of_getElem? (i := 29) rfl))) (Or.inl (hw _ (List.mem_of_getElem? (i := 20) rfl))) (by decide) (t := .boolean) (t' := .long) (by decide) (by decide)))
    replace Z0 := Nat.le_trans Z0 (Keep.of_wr W2).1
    replace K0 := K0.wr W2 (Or.inl (List.mem_of_getElem? (i := 0) rfl))
    show own_Go _ _ _ _ (T2.setTop (mkF m 29 #[.val (.ref a1), .val (.int ch)] []))
    refine own_go (fun _ k => XS.aloadN X2.here hx rfl (hb hby own_d6_29) rfl rfl k) ?_
    show own_Go _ _ _ _ (T2.setTop (mkF m 30 #[.val (.ref a1), .val (.int ch)] [(.ref a1)]))
    refine own_go (fun _ k => XS.lconst X2.here hx rfl (hb hby own_d6_30) k) ?_
    show own_Go _ _ _ _ (T2.setTop (mkF m 31 #[.val (.ref a1), .val (.int ch)] [(.long (1 : Int64)), (.ref a1)]))
    obtain ⟨T3, h3, X3, e3, W3, st3⟩ := putF X2 hx hZ hown (host := "") (Or.inl (hw _ (List.mem_of_getElem? (i := 21) rfl))) Via.refl e2 F_y E1 (Or.inl (hw _ (List.mem_of_getElem? (i := 22) rfl))) (hw _ (List.mem_of_getElem? (i := 11) rfl)) (ty := .long) (by decide) rfl rfl (g := (mkF m 31 #[.val (.ref a1), .val (.int ch)] [(.long (1 : Int64)), (.ref a1)])) rfl rfl (hb hby own_d6_31)
    refine own_go st3 ?_
    have NF3 := Fr.snoc X3 NF2 ge_a1
    replace F_y := F_y.same W3
    replace E1 := E1.wr W3
    replace F_x := F_x.other W3 (Or.inr (slot_ne (Or.inl (hw _ (List.mem_of_getElem? (i := 20) rfl))) (Or.inl (hw _ (List.mem_of_getElem? (i := 22) rfl))) (by decide) (t := .long) (t' := .long) (by decide) (by decide)))
    replace F_r := F_r.other W3 (Or.inr (slot_ne (Or.inl (hw _ (List.mem_of_getElem? (i := 29) rfl))) (Or.inl (hw _ (List.mem_of_getElem? (i := 22) rfl))) (by decide) (t := .boolean) (t' := .long) (by decide) (by decide)))
    replace Z0 := Nat.le_trans Z0 (Keep.of_wr W3).1
    replace K0 := K0.wr W3 (Or.inl (List.mem_of_getElem? (i := 0) rfl))
    show own_Go _ _ _ _ (T3.setTop (mkF m 34 #[.val (.ref a1), .val (.int ch)] []))
    refine own_go (fun _ k => XS.goto X3.here hx rfl (pc0 := 34) (pc' := 53) rfl (hb hby own_d6_34) (by decide) (by decide) k) ?_
    show own_Go _ _ _ _ (T3.setTop (mkF m 53 #[.val (.ref a1), .val (.int ch)] []))
    refine own_go (fun _ k => XS.aloadN X3.here hx rfl (hb hby own_d6_53) rfl rfl k) ?_
    show own_Go _ _ _ _ (T3.setTop (mkF m 54 #[.val (.ref a1), .val (.int ch)] [(.ref a1)]))
    refine own_go (fun _ k => XS.iloadN X3.here hx rfl (hb hby own_d6_54) rfl k) ?_
    show own_Go _ _ _ _ (T3.setTop (mkF m 55 #[.val (.ref a1), .val (.int ch)] [(.int ch), (.ref a1)]))
    refine own_go (fun _ k => XS.bipush X3.here hx rfl (hb hby own_d6_55) k) ?_
    show own_Go _ _ _ _ (T3.setTop (mkF m 57 #[.val (.ref a1), .val (.int ch)] [(.int (13 : Int32)), (.int ch), (.ref a1)]))
    refine own_go (fun _ k => XS.icmpNo X3.here hx rfl (hb hby own_d6_57) rfl (teq hc3).2 k) ?_
    show own_Go _ _ _ _ (T3.setTop (mkF m 60 #[.val (.ref a1), .val (.int ch)] [(.ref a1)]))
    refine own_go (fun _ k => XS.iconst X3.here hx rfl (hb hby own_d6_60) k) ?_
    show own_Go _ _ _ _ (T3.setTop (mkF m 61 #[.val (.ref a1), .val (.int ch)] [(.int (1 : Int32)), (.ref a1)]))
    refine own_go (fun _ k => XS.goto X3.here hx rfl (pc0 := 61) (pc' := 65) rfl (hb hby own_d6_61) (by decide) (by decide) k) ?_
    show own_Go _ _ _ _ (T3.setTop (mkF m 65 #[.val (.ref a1), .val (.int ch)] [(.int (1 : Int32)), (.ref a1)]))
    obtain ⟨T4, h4, X4, e4, W4, st4⟩ := putFN X3 hx hZ hown (hw _ (List.mem_of_getElem? (i := 28) rfl)) Via.refl e3 F_r E1 (Or.inl (hw _ (List.mem_of_getElem? (i := 29) rfl))) (hw _ (List.mem_of_getElem? (i := 11) rfl)) (ty := .boolean) (v' := (.int (1 : Int32))) (by decide) rfl rfl (g := (mkF m 65 #[.val (.ref a1), .val (.int ch)] [(.int (1 : Int32)), (.ref a1)])) rfl rfl (hb hby own_d6_65)
    refine own_go st4 ?_
    have NF4 := Fr.snoc X4 NF3 ge_a1
    replace F_r := F_r.same W4
    replace E1 := E1.wr W4
    replace F_x := F_x.other W4 (Or.inr (slot_ne (Or.inl (hw _ (List.mem_of_getElem? (i := 20) rfl))) (Or.inl (hw _ (List.mem_of_getElem? (i := 29) rfl))) (by decide) (t := .long) (t' := .boolean) (by decide) (by decide)))
    replace F_y := F_y.other W4 (Or.inr (slot_ne (Or.inl (hw _ (List.mem_of_getElem? (i := 22) rfl))) (Or.inl (hw _ (List.mem_of_getElem? (i := 29) rfl))) (by decide) (t := .long) (t' := .boolean) (by decide) (by decide)))
    replace Z0 := Nat.le_trans Z0 (Keep.of_wr W4).1
    replace K0 := K0.wr W4 (Or.inl (List.mem_of_getElem? (i := 0) rfl))
    show own_Go _ _ _ _ (T4.setTop (mkF m 68 #[.val (.ref a1), .val (.int ch)] []))
    refine own_ret X4 hlk (v := none) (fun _ => rfl) (fun fs hr => X4.returnOut hx Bd.returns (hb hby own_d6_68) hr) ?_ (by decide) (by decide)
    try rw [e4]
    exact ⟨rfl, NF4, K0, (by rw [show own_L ch r x = (x + (1 : Int64)) from by simp [own_L, hc3]]; exact F_x), (by rw [show own_K ch r y = (1 : Int64) from by simp [own_K, hc3]]; exact F_y), (by rw [show own_r ch = (1 : Int32) from by simp [own_r, hc3]]; exact F_r)⟩
  · have _h := hc3
    refine own_go (fun _ k => XS.icmpNo X0.here hx rfl (hb hby own_d6_3) rfl (feq hc3).1 k) ?_
    show own_Go _ _ _ _ (s₁.setTop (mkF m 6 #[.val (.ref a1), .val (.int ch)] []))
    refine own_go (fun _ k => XS.iloadN X0.here hx rfl (hb hby own_d6_6) rfl k) ?_
    show own_Go _ _ _ _ (s₁.setTop (mkF m 7 #[.val (.ref a1), .val (.int ch)] [(.int ch)]))
    refine own_go (fun _ k => XS.bipush X0.here hx rfl (hb hby own_d6_7) k) ?_
    show own_Go _ _ _ _ (s₁.setTop (mkF m 9 #[.val (.ref a1), .val (.int ch)] [(.int (10 : Int32)), (.int ch)]))
    by_cases hc9 : ch = (10 : Int32)
    · have _h := hc9
      refine own_go (fun _ k => XS.icmpNo X0.here hx rfl (hb hby own_d6_9) rfl (teq hc9).2 k) ?_
      show own_Go _ _ _ _ (s₁.setTop (mkF m 12 #[.val (.ref a1), .val (.int ch)] []))
      refine own_go (fun _ k => XS.aloadN X0.here hx rfl (hb hby own_d6_12) rfl rfl k) ?_
      show own_Go _ _ _ _ (s₁.setTop (mkF m 13 #[.val (.ref a1), .val (.int ch)] [(.ref a1)]))
      obtain ⟨T5, X5, e5, st5⟩ := getF X0 hx hZ hown (host := "") (Or.inl (hw _ (List.mem_of_getElem? (i := 28) rfl))) Via.refl e0 F_r (g := (mkF m 13 #[.val (.ref a1), .val (.int ch)] [(.ref a1)])) rfl rfl (hb hby own_d6_13)
      refine own_go st5 ?_
      show own_Go _ _ _ _ (T5.setTop (mkF m 16 #[.val (.ref a1), .val (.int ch)] [(.int r)]))
      by_cases hc16 : r = (0 : Int32)
      · have _h := hc16
        refine own_go (fun _ k => XS.ifNo X5.here hx rfl (hb hby own_d6_16) rfl ((if0 _ _).trans (teq hc16).2) k) ?_
        show own_Go _ _ _ _ (T5.setTop (mkF m 19 #[.val (.ref a1), .val (.int ch)] []))
        refine own_go (fun _ k => XS.aloadN X5.here hx rfl (hb hby own_d6_19) rfl rfl k) ?_
        show own_Go _ _ _ _ (T5.setTop (mkF m 20 #[.val (.ref a1), .val (.int ch)] [(.ref a1)]))
        refine own_go (fun _ k => XS.dup X5.here hx rfl (hb hby own_d6_20) rfl rfl k) ?_
        show own_Go _ _ _ _ (T5.setTop (mkF m 21 #[.val (.ref a1), .val (.int ch)] [(.ref a1), (.ref a1)]))
        obtain ⟨T6, X6, e6, st6⟩ := getF X5 hx hZ hown (host := "") (Or.inl (hw _ (List.mem_of_getElem? (i := 19) rfl))) Via.refl e5 F_x (g := (mkF m 21 #[.val (.ref a1), .val (.int ch)] [(.ref a1), (.ref a1)])) rfl rfl (hb hby own_d6_21)
        refine own_go st6 ?_
        show own_Go _ _ _ _ (T6.setTop (mkF m 24 #[.val (.ref a1), .val (.int ch)] [(.long x), (.ref a1)]))
        refine own_go (fun _ k => XS.lconst X6.here hx rfl (hb hby own_d6_24) k) ?_
        show own_Go _ _ _ _ (T6.setTop (mkF m 25 #[.val (.ref a1), .val (.int ch)] [(.long (1 : Int64)), (.long x), (.ref a1)]))
        refine own_go (fun _ k => XS.ladd X6.here hx rfl (hb hby own_d6_25) rfl k) ?_
        show own_Go _ _ _ _ (T6.setTop (mkF m 26 #[.val (.ref a1), .val (.int ch)] [(.long (x + (1 : Int64))), (.ref a1)]))
        obtain ⟨T7, h7, X7, e7, W7, st7⟩ := putF X6 hx hZ hown (host := "") (Or.inl (hw _ (List.mem_of_getElem? (i := 19) rfl))) Via.refl e6 F_x E1 (Or.inl (hw _ (List.mem_of_getElem? (i := 20) rfl))) (hw _ (List.mem_of_getElem? (i := 11) rfl)) (ty := .long) (by decide) rfl rfl (g := (mkF m 26 #[.val (.ref a1), .val (.int ch)] [(.long (x + (1 : Int64))), (.ref a1)])) rfl rfl (hb hby own_d6_26)
        refine own_go st7 ?_
        have NF7 := Fr.snoc X7 N0 ge_a1
        replace F_x := F_x.same W7
        replace E1 := E1.wr W7
        replace F_y := F_y.other W7 (Or.inr (slot_ne (Or.inl (hw _ (List.mem_of_getElem? (i := 22) rfl))) (Or.inl (hw _ (List.mem_of_getElem? (i := 20) rfl))) (by decide) (t := .long) (t' := .long) (by decide) (by decide)))
        replace F_r := F_r.other W7 (Or.inr (slot_ne (Or.inl (hw _ (List.mem_of_getElem? (i := 29) rfl))) (Or.inl (hw _ (List.mem_of_getElem? (i := 20) rfl))) (by decide) (t := .boolean) (t' := .long) (by decide) (by decide)))
        replace Z0 := Nat.le_trans Z0 (Keep.of_wr W7).1
        replace K0 := K0.wr W7 (Or.inl (List.mem_of_getElem? (i := 0) rfl))
        show own_Go _ _ _ _ (T7.setTop (mkF m 29 #[.val (.ref a1), .val (.int ch)] []))
        refine own_go (fun _ k => XS.aloadN X7.here hx rfl (hb hby own_d6_29) rfl rfl k) ?_
        show own_Go _ _ _ _ (T7.setTop (mkF m 30 #[.val (.ref a1), .val (.int ch)] [(.ref a1)]))
        refine own_go (fun _ k => XS.lconst X7.here hx rfl (hb hby own_d6_30) k) ?_
        show own_Go _ _ _ _ (T7.setTop (mkF m 31 #[.val (.ref a1), .val (.int ch)] [(.long (1 : Int64)), (.ref a1)]))
        obtain ⟨T8, h8, X8, e8, W8, st8⟩ := putF X7 hx hZ hown (host := "") (Or.inl (hw _ (List.mem_of_getElem? (i := 21) rfl))) Via.refl e7 F_y E1 (Or.inl (hw _ (List.mem_of_getElem? (i := 22) rfl))) (hw _ (List.mem_of_getElem? (i := 11) rfl)) (ty := .long) (by decide) rfl rfl (g := (mkF m 31 #[.val (.ref a1), .val (.int ch)] [(.long (1 : Int64)), (.ref a1)])) rfl rfl (hb hby own_d6_31)
        refine own_go st8 ?_
        have NF8 := Fr.snoc X8 NF7 ge_a1
        replace F_y := F_y.same W8
        replace E1 := E1.wr W8
        replace F_x := F_x.other W8 (Or.inr (slot_ne (Or.inl (hw _ (List.mem_of_getElem? (i := 20) rfl))) (Or.inl (hw _ (List.mem_of_getElem? (i := 22) rfl))) (by decide) (t := .long) (t' := .long) (by decide) (by decide)))
        replace F_r := F_r.other W8 (Or.inr (slot_ne (Or.inl (hw _ (List.mem_of_getElem? (i := 29) rfl))) (Or.inl (hw _ (List.mem_of_getElem? (i := 22) rfl))) (by decide) (t := .boolean) (t' := .long) (by decide) (by decide)))
        replace Z0 := Nat.le_trans Z0 (Keep.of_wr W8).1
        replace K0 := K0.wr W8 (Or.inl (List.mem_of_getElem? (i := 0) rfl))
        show own_Go _ _ _ _ (T8.setTop (mkF m 34 #[.val (.ref a1), .val (.int ch)] []))
        refine own_go (fun _ k => XS.goto X8.here hx rfl (pc0 := 34) (pc' := 53) rfl (hb hby own_d6_34) (by decide) (by decide) k) ?_
        show own_Go _ _ _ _ (T8.setTop (mkF m 53 #[.val (.ref a1), .val (.int ch)] []))
        refine own_go (fun _ k => XS.aloadN X8.here hx rfl (hb hby own_d6_53) rfl rfl k) ?_
        show own_Go _ _ _ _ (T8.setTop (mkF m 54 #[.val (.ref a1), .val (.int ch)] [(.ref a1)]))
        refine own_go (fun _ k => XS.iloadN X8.here hx rfl (hb hby own_d6_54) rfl k) ?_
        show own_Go _ _ _ _ (T8.setTop (mkF m 55 #[.val (.ref a1), .val (.int ch)] [(.int ch), (.ref a1)]))
        refine own_go (fun _ k => XS.bipush X8.here hx rfl (hb hby own_d6_55) k) ?_
        show own_Go _ _ _ _ (T8.setTop (mkF m 57 #[.val (.ref a1), .val (.int ch)] [(.int (13 : Int32)), (.int ch), (.ref a1)]))
        refine own_go (fun _ k => XS.icmpYes X8.here hx rfl (pc0 := 57) (pc' := 64) rfl (hb hby own_d6_57) rfl (feq hc3).2 (by decide) (by decide) k) ?_
        show own_Go _ _ _ _ (T8.setTop (mkF m 64 #[.val (.ref a1), .val (.int ch)] [(.ref a1)]))
        refine own_go (fun _ k => XS.iconst X8.here hx rfl (hb hby own_d6_64) k) ?_
        show own_Go _ _ _ _ (T8.setTop (mkF m 65 #[.val (.ref a1), .val (.int ch)] [(.int (0 : Int32)), (.ref a1)]))
        obtain ⟨T9, h9, X9, e9, W9, st9⟩ := putFN X8 hx hZ hown (hw _ (List.mem_of_getElem? (i := 28) rfl)) Via.refl e8 F_r E1 (Or.inl (hw _ (List.mem_of_getElem? (i := 29) rfl))) (hw _ (List.mem_of_getElem? (i := 11) rfl)) (ty := .boolean) (v' := (.int (0 : Int32))) (by decide) rfl rfl (g := (mkF m 65 #[.val (.ref a1), .val (.int ch)] [(.int (0 : Int32)), (.ref a1)])) rfl rfl (hb hby own_d6_65)
        refine own_go st9 ?_
        have NF9 := Fr.snoc X9 NF8 ge_a1
        replace F_r := F_r.same W9
        replace E1 := E1.wr W9
        replace F_x := F_x.other W9 (Or.inr (slot_ne (Or.inl (hw _ (List.mem_of_getElem? (i := 20) rfl))) (Or.inl (hw _ (List.mem_of_getElem? (i := 29) rfl))) (by decide) (t := .long) (t' := .boolean) (by decide) (by decide)))
        replace F_y := F_y.other W9 (Or.inr (slot_ne (Or.inl (hw _ (List.mem_of_getElem? (i := 22) rfl))) (Or.inl (hw _ (List.mem_of_getElem? (i := 29) rfl))) (by decide) (t := .long) (t' := .boolean) (by decide) (by decide)))
        replace Z0 := Nat.le_trans Z0 (Keep.of_wr W9).1
        replace K0 := K0.wr W9 (Or.inl (List.mem_of_getElem? (i := 0) rfl))
        show own_Go _ _ _ _ (T9.setTop (mkF m 68 #[.val (.ref a1), .val (.int ch)] []))
        refine own_ret X9 hlk (v := none) (fun _ => rfl) (fun fs hr => X9.returnOut hx Bd.returns (hb hby own_d6_68) hr) ?_ (by decide) (by decide)
        try rw [e9]
        exact ⟨rfl, NF9, K0, (by rw [show own_L ch r x = (x + (1 : Int64)) from by simp [own_L, hc3, hc9, hc16]]; exact F_x), (by rw [show own_K ch r y = (1 : Int64) from by simp [own_K, hc3, hc9, hc16]]; exact F_y), (by rw [show own_r ch = (0 : Int32) from by simp [own_r, hc3, hc9, hc16]]; exact F_r)⟩
      · have _h := hc16
        refine own_go (fun _ k => XS.ifYes X5.here hx rfl (pc0 := 16) (pc' := 37) rfl (hb hby own_d6_16) rfl ((if0 _ _).trans (feq hc16).2) (by decide) (by decide) k) ?_
        show own_Go _ _ _ _ (T5.setTop (mkF m 37 #[.val (.ref a1), .val (.int ch)] []))
        refine own_go (fun _ k => XS.iloadN X5.here hx rfl (hb hby own_d6_37) rfl k) ?_
        show own_Go _ _ _ _ (T5.setTop (mkF m 38 #[.val (.ref a1), .val (.int ch)] [(.int ch)]))
        refine own_go (fun _ k => XS.bipush X5.here hx rfl (hb hby own_d6_38) k) ?_
        show own_Go _ _ _ _ (T5.setTop (mkF m 40 #[.val (.ref a1), .val (.int ch)] [(.int (10 : Int32)), (.int ch)]))
        refine own_go (fun _ k => XS.icmpYes X5.here hx rfl (pc0 := 40) (pc' := 53) rfl (hb hby own_d6_40) rfl (teq hc9).1 (by decide) (by decide) k) ?_
        show own_Go _ _ _ _ (T5.setTop (mkF m 53 #[.val (.ref a1), .val (.int ch)] []))
        refine own_go (fun _ k => XS.aloadN X5.here hx rfl (hb hby own_d6_53) rfl rfl k) ?_
        show own_Go _ _ _ _ (T5.setTop (mkF m 54 #[.val (.ref a1), .val (.int ch)] [(.ref a1)]))
        refine own_go (fun _ k => XS.iloadN X5.here hx rfl (hb hby own_d6_54) rfl k) ?_
        show own_Go _ _ _ _ (T5.setTop (mkF m 55 #[.val (.ref a1), .val (.int ch)] [(.int ch), (.ref a1)]))
        refine own_go (fun _ k => XS.bipush X5.here hx rfl (hb hby own_d6_55) k) ?_
        show own_Go _ _ _ _ (T5.setTop (mkF m 57 #[.val (.ref a1), .val (.int ch)] [(.int (13 : Int32)), (.int ch), (.ref a1)]))
        refine own_go (fun _ k => XS.icmpYes X5.here hx rfl (pc0 := 57) (pc' := 64) rfl (hb hby own_d6_57) rfl (feq hc3).2 (by decide) (by decide) k) ?_
        show own_Go _ _ _ _ (T5.setTop (mkF m 64 #[.val (.ref a1), .val (.int ch)] [(.ref a1)]))
        refine own_go (fun _ k => XS.iconst X5.here hx rfl (hb hby own_d6_64) k) ?_
        show own_Go _ _ _ _ (T5.setTop (mkF m 65 #[.val (.ref a1), .val (.int ch)] [(.int (0 : Int32)), (.ref a1)]))
        obtain ⟨T10, h10, X10, e10, W10, st10⟩ := putFN X5 hx hZ hown (hw _ (List.mem_of_getElem? (i := 28) rfl)) Via.refl e5 F_r E1 (Or.inl (hw _ (List.mem_of_getElem? (i := 29) rfl))) (hw _ (List.mem_of_getElem? (i := 11) rfl)) (ty := .boolean) (v' := (.int (0 : Int32))) (by decide) rfl rfl (g := (mkF m 65 #[.val (.ref a1), .val (.int ch)] [(.int (0 : Int32)), (.ref a1)])) rfl rfl (hb hby own_d6_65)
        refine own_go st10 ?_
        have NF10 := Fr.snoc X10 N0 ge_a1
        replace F_r := F_r.same W10
        replace E1 := E1.wr W10
        replace F_x := F_x.other W10 (Or.inr (slot_ne (Or.inl (hw _ (List.mem_of_getElem? (i := 20) rfl))) (Or.inl (hw _ (List.mem_of_getElem? (i := 29) rfl))) (by decide) (t := .long) (t' := .boolean) (by decide) (by decide)))
        replace F_y := F_y.other W10 (Or.inr (slot_ne (Or.inl (hw _ (List.mem_of_getElem? (i := 22) rfl))) (Or.inl (hw _ (List.mem_of_getElem? (i := 29) rfl))) (by decide) (t := .long) (t' := .boolean) (by decide) (by decide)))
        replace Z0 := Nat.le_trans Z0 (Keep.of_wr W10).1
        replace K0 := K0.wr W10 (Or.inl (List.mem_of_getElem? (i := 0) rfl))
        show own_Go _ _ _ _ (T10.setTop (mkF m 68 #[.val (.ref a1), .val (.int ch)] []))
        refine own_ret X10 hlk (v := none) (fun _ => rfl) (fun fs hr => X10.returnOut hx Bd.returns (hb hby own_d6_68) hr) ?_ (by decide) (by decide)
        try rw [e10]
        exact ⟨rfl, NF10, K0, (by rw [show own_L ch r x = x from by simp [own_L, hc3, hc9, hc16]]; exact F_x), (by rw [show own_K ch r y = y from by simp [own_K, hc3, hc9, hc16]]; exact F_y), (by rw [show own_r ch = (0 : Int32) from by simp [own_r, hc3, hc9, hc16]]; exact F_r)⟩
    · have _h := hc9
      refine own_go (fun _ k => XS.icmpYes X0.here hx rfl (pc0 := 9) (pc' := 37) rfl (hb hby own_d6_9) rfl (feq hc9).2 (by decide) (by decide) k) ?_
      show own_Go _ _ _ _ (s₁.setTop (mkF m 37 #[.val (.ref a1), .val (.int ch)] []))
      refine own_go (fun _ k => XS.iloadN X0.here hx rfl (hb hby own_d6_37) rfl k) ?_
      show own_Go _ _ _ _ (s₁.setTop (mkF m 38 #[.val (.ref a1), .val (.int ch)] [(.int ch)]))
      refine own_go (fun _ k => XS.bipush X0.here hx rfl (hb hby own_d6_38) k) ?_
      show own_Go _ _ _ _ (s₁.setTop (mkF m 40 #[.val (.ref a1), .val (.int ch)] [(.int (10 : Int32)), (.int ch)]))
      refine own_go (fun _ k => XS.icmpNo X0.here hx rfl (hb hby own_d6_40) rfl (feq hc9).1 k) ?_
      show own_Go _ _ _ _ (s₁.setTop (mkF m 43 #[.val (.ref a1), .val (.int ch)] []))
      refine own_go (fun _ k => XS.aloadN X0.here hx rfl (hb hby own_d6_43) rfl rfl k) ?_
      show own_Go _ _ _ _ (s₁.setTop (mkF m 44 #[.val (.ref a1), .val (.int ch)] [(.ref a1)]))
      refine own_go (fun _ k => XS.dup X0.here hx rfl (hb hby own_d6_44) rfl rfl k) ?_
      show own_Go _ _ _ _ (s₁.setTop (mkF m 45 #[.val (.ref a1), .val (.int ch)] [(.ref a1), (.ref a1)]))
      obtain ⟨T11, X11, e11, st11⟩ := getF X0 hx hZ hown (host := "") (Or.inl (hw _ (List.mem_of_getElem? (i := 21) rfl))) Via.refl e0 F_y (g := (mkF m 45 #[.val (.ref a1), .val (.int ch)] [(.ref a1), (.ref a1)])) rfl rfl (hb hby own_d6_45)
      refine own_go st11 ?_
      show own_Go _ _ _ _ (T11.setTop (mkF m 48 #[.val (.ref a1), .val (.int ch)] [(.long y), (.ref a1)]))
      refine own_go (fun _ k => XS.lconst X11.here hx rfl (hb hby own_d6_48) k) ?_
      show own_Go _ _ _ _ (T11.setTop (mkF m 49 #[.val (.ref a1), .val (.int ch)] [(.long (1 : Int64)), (.long y), (.ref a1)]))
      refine own_go (fun _ k => XS.ladd X11.here hx rfl (hb hby own_d6_49) rfl k) ?_
      show own_Go _ _ _ _ (T11.setTop (mkF m 50 #[.val (.ref a1), .val (.int ch)] [(.long (y + (1 : Int64))), (.ref a1)]))
      obtain ⟨T12, h12, X12, e12, W12, st12⟩ := putF X11 hx hZ hown (host := "") (Or.inl (hw _ (List.mem_of_getElem? (i := 21) rfl))) Via.refl e11 F_y E1 (Or.inl (hw _ (List.mem_of_getElem? (i := 22) rfl))) (hw _ (List.mem_of_getElem? (i := 11) rfl)) (ty := .long) (by decide) rfl rfl (g := (mkF m 50 #[.val (.ref a1), .val (.int ch)] [(.long (y + (1 : Int64))), (.ref a1)])) rfl rfl (hb hby own_d6_50)
      refine own_go st12 ?_
      have NF12 := Fr.snoc X12 N0 ge_a1
      replace F_y := F_y.same W12
      replace E1 := E1.wr W12
      replace F_x := F_x.other W12 (Or.inr (slot_ne (Or.inl (hw _ (List.mem_of_getElem? (i := 20) rfl))) (Or.inl (hw _ (List.mem_of_getElem? (i := 22) rfl))) (by decide) (t := .long) (t' := .long) (by decide) (by decide)))
      replace F_r := F_r.other W12 (Or.inr (slot_ne (Or.inl (hw _ (List.mem_of_getElem? (i := 29) rfl))) (Or.inl (hw _ (List.mem_of_getElem? (i := 22) rfl))) (by decide) (t := .boolean) (t' := .long) (by decide) (by decide)))
      replace Z0 := Nat.le_trans Z0 (Keep.of_wr W12).1
      replace K0 := K0.wr W12 (Or.inl (List.mem_of_getElem? (i := 0) rfl))
      show own_Go _ _ _ _ (T12.setTop (mkF m 53 #[.val (.ref a1), .val (.int ch)] []))
      refine own_go (fun _ k => XS.aloadN X12.here hx rfl (hb hby own_d6_53) rfl rfl k) ?_
      show own_Go _ _ _ _ (T12.setTop (mkF m 54 #[.val (.ref a1), .val (.int ch)] [(.ref a1)]))
      refine own_go (fun _ k => XS.iloadN X12.here hx rfl (hb hby own_d6_54) rfl k) ?_
      show own_Go _ _ _ _ (T12.setTop (mkF m 55 #[.val (.ref a1), .val (.int ch)] [(.int ch), (.ref a1)]))
      refine own_go (fun _ k => XS.bipush X12.here hx rfl (hb hby own_d6_55) k) ?_
      show own_Go _ _ _ _ (T12.setTop (mkF m 57 #[.val (.ref a1), .val (.int ch)] [(.int (13 : Int32)), (.int ch), (.ref a1)]))
      refine own_go (fun _ k => XS.icmpYes X12.here hx rfl (pc0 := 57) (pc' := 64) rfl (hb hby own_d6_57) rfl (feq hc3).2 (by decide) (by decide) k) ?_
      show own_Go _ _ _ _ (T12.setTop (mkF m 64 #[.val (.ref a1), .val (.int ch)] [(.ref a1)]))
      refine own_go (fun _ k => XS.iconst X12.here hx rfl (hb hby own_d6_64) k) ?_
      show own_Go _ _ _ _ (T12.setTop (mkF m 65 #[.val (.ref a1), .val (.int ch)] [(.int (0 : Int32)), (.ref a1)]))
      obtain ⟨T13, h13, X13, e13, W13, st13⟩ := putFN X12 hx hZ hown (hw _ (List.mem_of_getElem? (i := 28) rfl)) Via.refl e12 F_r E1 (Or.inl (hw _ (List.mem_of_getElem? (i := 29) rfl))) (hw _ (List.mem_of_getElem? (i := 11) rfl)) (ty := .boolean) (v' := (.int (0 : Int32))) (by decide) rfl rfl (g := (mkF m 65 #[.val (.ref a1), .val (.int ch)] [(.int (0 : Int32)), (.ref a1)])) rfl rfl (hb hby own_d6_65)
      refine own_go st13 ?_
      have NF13 := Fr.snoc X13 NF12 ge_a1
      replace F_r := F_r.same W13
      replace E1 := E1.wr W13
      replace F_x := F_x.other W13 (Or.inr (slot_ne (Or.inl (hw _ (List.mem_of_getElem? (i := 20) rfl))) (Or.inl (hw _ (List.mem_of_getElem? (i := 29) rfl))) (by decide) (t := .long) (t' := .boolean) (by decide) (by decide)))
      replace F_y := F_y.other W13 (Or.inr (slot_ne (Or.inl (hw _ (List.mem_of_getElem? (i := 22) rfl))) (Or.inl (hw _ (List.mem_of_getElem? (i := 29) rfl))) (by decide) (t := .long) (t' := .boolean) (by decide) (by decide)))
      replace Z0 := Nat.le_trans Z0 (Keep.of_wr W13).1
      replace K0 := K0.wr W13 (Or.inl (List.mem_of_getElem? (i := 0) rfl))
      show own_Go _ _ _ _ (T13.setTop (mkF m 68 #[.val (.ref a1), .val (.int ch)] []))
      refine own_ret X13 hlk (v := none) (fun _ => rfl) (fun fs hr => X13.returnOut hx Bd.returns (hb hby own_d6_68) hr) ?_ (by decide) (by decide)
      try rw [e13]
      exact ⟨rfl, NF13, K0, (by rw [show own_L ch r x = x from by simp [own_L, hc3, hc9]]; exact F_x), (by rw [show own_K ch r y = (y + (1 : Int64)) from by simp [own_K, hc3, hc9]]; exact F_y), (by rw [show own_r ch = (0 : Int32) from by simp [own_r, hc3, hc9]]; exact F_r)⟩
theorem own_d7_0 : decode prog_6_method_3_code 0 = .ok (.aload_n 0, 1) := by decide +kernel
theorem own_d7_1 : decode prog_6_method_3_code 1 = .ok (.getfield 7, 3) := by decide +kernel
theorem own_d7_4 : decode prog_6_method_3_code 4 = .ok (.lreturn, 1) := by decide +kernel
set_option maxRecDepth 65536 in
set_option maxHeartbeats 40000000 in
theorem own_rmG (l : Launch) (Z : State) (a0 : Array Value) (hw : ∀ d ∈ tables_1, d.before a0 Z = true) (a1 : Addr) (q : Int64) (h0 : Heap) (n0 : Nat) (Z0 : n0 ≤ h0.size) (F3 : Fld Z h0 a1 "com/example/ratatoskr/ratatoskr/content/TextPosition" "line" "J" (.long q)) :
    own_Met l Z [] (⟨"com/example/ratatoskr/ratatoskr/content/TextPosition", "line", "()J"⟩ : MethodName) prog_6_method_3_code 1 (some .long) ({ frames := 0, cells := 0, slots := 0, locals := 0 } : Room) #[(.ref a1)] h0 (fun v h L => v = some (.long q) ∧ Fr n0 L ∧ h = h0) := by
  refine MetFree.of_bodySF (plainFor_of_name own_pn1) hisR ?_
  intro p e s m args below meth c s₁ Bd hml0 hP hK
  obtain ⟨rfl, hZ, hh⟩ := hP
  have hx := Bd.exec
  have hby := Bd.bytes
  have hml : c.maxLocals = 1 := hml0
  have hown : s.vm.findClass "com/example/ratatoskr/ratatoskr/content/TextPosition" = some m.cls := findClass_of_methodNamed Bd.named
  have hnm := (name_of_methodNamed Bd.named Bd.method).1
  have hlk : meth.locks = false := Bd.notSynchronized
  have X0 : Stand p l e ({ frames := 0, cells := 0, slots := 0, locals := 0 } : Room) s m #[(.ref a1)] below meth c s₁ [] 0 0 := Stand.of_body Bd
  have e0 : s₁.heap = h0 := by rw [← hh, Bd.state]; rfl
  have N0 := Fr.nil n0
  refine own_body (Q := fun v h L => v = some (.long q) ∧ Fr n0 L ∧ h = h0) ?_
  refine own_go (fun t k => castTop (own_ef m #[(.ref a1)] 1 #[.val (.ref a1)] (own_al [(.ref a1)] 1 [.val (.ref a1)] rfl)) k) ?_
  show own_Go _ _ _ _ (s₁.setTop (mkF m 0 #[.val (.ref a1)] []))
  refine own_go (fun _ k => XS.aloadN X0.here hx rfl (hb hby own_d7_0) rfl rfl k) ?_
  show own_Go _ _ _ _ (s₁.setTop (mkF m 1 #[.val (.ref a1)] [(.ref a1)]))
  obtain ⟨T1, X1, e1, st1⟩ := getF X0 hx hZ hown (host := "") (Or.inl (hw _ (List.mem_of_getElem? (i := 19) rfl))) Via.refl e0 F3 (g := (mkF m 1 #[.val (.ref a1)] [(.ref a1)])) rfl rfl (hb hby own_d7_1)
  refine own_go st1 ?_
  show own_Go _ _ _ _ (T1.setTop (mkF m 4 #[.val (.ref a1)] [(.long q)]))
  refine own_ret X1 hlk (v := some (.long q)) (fun h => by rw [Bd.returns] at h; cases h) (fun fs hr => retOut X1 hx Bd.returns rfl (Or.inr (Or.inl ⟨rfl, rfl, _, rfl⟩)) (hb hby own_d7_4) hr) ?_ (by decide) (by decide)
  try rw [e1]
  exact ⟨rfl, N0, rfl⟩
theorem own_d8_0 : decode prog_6_method_4_code 0 = .ok (.aload_n 0, 1) := by decide +kernel
theorem own_d8_1 : decode prog_6_method_4_code 1 = .ok (.getfield 13, 3) := by decide +kernel
theorem own_d8_4 : decode prog_6_method_4_code 4 = .ok (.lreturn, 1) := by decide +kernel
set_option maxRecDepth 65536 in
set_option maxHeartbeats 40000000 in
theorem own_rmH (l : Launch) (Z : State) (a0 : Array Value) (hw : ∀ d ∈ tables_1, d.before a0 Z = true) (a1 : Addr) (q : Int64) (h0 : Heap) (n0 : Nat) (Z0 : n0 ≤ h0.size) (F3 : Fld Z h0 a1 "com/example/ratatoskr/ratatoskr/content/TextPosition" "column" "J" (.long q)) :
    own_Met l Z [] (⟨"com/example/ratatoskr/ratatoskr/content/TextPosition", "column", "()J"⟩ : MethodName) prog_6_method_4_code 1 (some .long) ({ frames := 0, cells := 0, slots := 0, locals := 0 } : Room) #[(.ref a1)] h0 (fun v h L => v = some (.long q) ∧ Fr n0 L ∧ h = h0) := by
  refine MetFree.of_bodySF (plainFor_of_name own_pn1) hisR ?_
  intro p e s m args below meth c s₁ Bd hml0 hP hK
  obtain ⟨rfl, hZ, hh⟩ := hP
  have hx := Bd.exec
  have hby := Bd.bytes
  have hml : c.maxLocals = 1 := hml0
  have hown : s.vm.findClass "com/example/ratatoskr/ratatoskr/content/TextPosition" = some m.cls := findClass_of_methodNamed Bd.named
  have hnm := (name_of_methodNamed Bd.named Bd.method).1
  have hlk : meth.locks = false := Bd.notSynchronized
  have X0 : Stand p l e ({ frames := 0, cells := 0, slots := 0, locals := 0 } : Room) s m #[(.ref a1)] below meth c s₁ [] 0 0 := Stand.of_body Bd
  have e0 : s₁.heap = h0 := by rw [← hh, Bd.state]; rfl
  have N0 := Fr.nil n0
  refine own_body (Q := fun v h L => v = some (.long q) ∧ Fr n0 L ∧ h = h0) ?_
  refine own_go (fun t k => castTop (own_ef m #[(.ref a1)] 1 #[.val (.ref a1)] (own_al [(.ref a1)] 1 [.val (.ref a1)] rfl)) k) ?_
  show own_Go _ _ _ _ (s₁.setTop (mkF m 0 #[.val (.ref a1)] []))
  refine own_go (fun _ k => XS.aloadN X0.here hx rfl (hb hby own_d8_0) rfl rfl k) ?_
  show own_Go _ _ _ _ (s₁.setTop (mkF m 1 #[.val (.ref a1)] [(.ref a1)]))
  obtain ⟨T1, X1, e1, st1⟩ := getF X0 hx hZ hown (host := "") (Or.inl (hw _ (List.mem_of_getElem? (i := 21) rfl))) Via.refl e0 F3 (g := (mkF m 1 #[.val (.ref a1)] [(.ref a1)])) rfl rfl (hb hby own_d8_1)
  refine own_go st1 ?_
  show own_Go _ _ _ _ (T1.setTop (mkF m 4 #[.val (.ref a1)] [(.long q)]))
  refine own_ret X1 hlk (v := some (.long q)) (fun h => by rw [Bd.returns] at h; cases h) (fun fs hr => retOut X1 hx Bd.returns rfl (Or.inr (Or.inl ⟨rfl, rfl, _, rfl⟩)) (hb hby own_d8_4) hr) ?_ (by decide) (by decide)
  try rw [e1]
  exact ⟨rfl, N0, rfl⟩
theorem own_pd0 : parseMethodDescriptor "(I)C" = some ⟨[.int], some .char⟩ := by decide +kernel
theorem own_pd1 : parseMethodDescriptor "(ZCC)Z" = some ⟨[.boolean, .char, .char], some .boolean⟩ := by decide +kernel
theorem own_pd2 : parseMethodDescriptor "()V" = some ⟨[], none⟩ := by decide +kernel
theorem own_pd3 : parseMethodDescriptor "(C)V" = some ⟨[.char], none⟩ := by decide +kernel
theorem own_pd4 : parseMethodDescriptor "()J" = some ⟨[], some .long⟩ := by decide +kernel
theorem own_pd5 : parseMethodDescriptor "(C)J" = some ⟨[.char], some .long⟩ := by decide +kernel
set_option maxRecDepth 65536 in
set_option maxHeartbeats 40000000 in
theorem own_rm0 (l : Launch) (Z : State) (a0 : Array Value) (hw : ∀ d ∈ tables_1, d.before a0 Z = true) (p1 : Int32) (p2 : Int32) (p3 : Int32) (h0 : Heap) (n0 : Nat) (Z0 : n0 ≤ h0.size)  :
    own_Met l Z tables_1 x code maxLocals ret room_1 #[(.int p1), (.int p2), (.int p3)] h0 (fun v h L => v = some (.int 1) ∧ Fr n0 L) := by
  refine MetFree.of_bodySF (plainFor_of_name own_pn0) hisR ?_
  intro p e s m args below meth c s₁ Bd hml0 hP hK
  obtain ⟨rfl, hZ, hh⟩ := hP
  have hx := Bd.exec
  have hby := Bd.bytes
  have hml : c.maxLocals = 23 := hml0
  have hown : s.vm.findClass "com/example/ratatoskr/ratatoskr/content/TextPositionCountPinLaw" = some m.cls := findClass_of_methodNamed Bd.named
  have hnm := (name_of_methodNamed Bd.named Bd.method).1
  have hlk : meth.locks = false := Bd.notSynchronized
  have X0 : Stand p l e room_1 s m #[(.int p1), (.int p2), (.int p3)] below meth c s₁ [] 0 0 := Stand.of_body Bd
  have e0 : s₁.heap = h0 := by rw [← hh, Bd.state]; rfl
  have N0 := Fr.nil n0
  refine own_body (Q := fun v h L => v = some (.int 1) ∧ Fr n0 L) ?_
  refine own_go (fun t k => castTop (own_ef m #[(.int p1), (.int p2), (.int p3)] maxLocals #[.val (.int p1), .val (.int p2), .val (.int p3), .unset, .unset, .unset, .unset, .unset, .unset, .unset, .unset, .unset, .unset, .unset, .unset, .unset, .unset, .unset, .unset, .unset, .unset, .unset, .unset] (own_al [(.int p1), (.int p2), (.int p3)] maxLocals [.val (.int p1), .val (.int p2), .val (.int p3), .unset, .unset, .unset, .unset, .unset, .unset, .unset, .unset, .unset, .unset, .unset, .unset, .unset, .unset, .unset, .unset, .unset, .unset, .unset, .unset] rfl)) k) ?_
  show own_Go _ _ _ _ (s₁.setTop (mkF m 0 #[.val (.int p1), .val (.int p2), .val (.int p3), .unset, .unset, .unset, .unset, .unset, .unset, .unset, .unset, .unset, .unset, .unset, .unset, .unset, .unset, .unset, .unset, .unset, .unset, .unset, .unset] []))
  have K0 : Keep h0 h0 [] := Keep.refl _ _
  refine own_go (fun _ k => XS.iloadN X0.here hx rfl (hb hby at_0) rfl k) ?_
  show own_Go _ _ _ _ (s₁.setTop (mkF m 1 #[.val (.int p1), .val (.int p2), .val (.int p3), .unset, .unset, .unset, .unset, .unset, .unset, .unset, .unset, .unset, .unset, .unset, .unset, .unset, .unset, .unset, .unset, .unset, .unset, .unset, .unset] [(.int p1)]))
  obtain ⟨_, _, ⟨T1, L1, k1, n1⟩, -, X1, ⟨Lc1, hQ1, l1, y1, z1⟩, st1⟩ := Jvm.LawKit.callS X0 hx (y := (⟨"com/example/ratatoskr/ratatoskr/content/TextPositionCountPinLaw", "pick", "(I)C"⟩ : MethodName)) hown (mvT hZ (hw _ (List.mem_of_getElem? (i := 0) rfl))) (mvT hZ (hw _ (List.mem_of_getElem? (i := 1) rfl))) (mvT hZ (hw _ (List.mem_of_getElem? (i := 2) rfl))) (mvT hZ (hw _ (List.mem_of_getElem? (i := 3) rfl))) (by decide) (own_back (W := 0) (own_rmP l Z a0 hw p1 h0 n0 Z0) hZ (hw _ (List.mem_of_getElem? (i := 3) rfl)) (hw _ (List.mem_of_getElem? (i := 2) rfl)) (by decide) (by decide)) (g := (mkF m 1 #[.val (.int p1), .val (.int p2), .val (.int p3), .unset, .unset, .unset, .unset, .unset, .unset, .unset, .unset, .unset, .unset, .unset, .unset, .unset, .unset, .unset, .unset, .unset, .unset, .unset, .unset] [(.int p1)])) rfl (by rw [hml]; rfl) (argsL := [(.int p1)]) (rest := []) (lenOf own_pd0 rfl) rfl (by show 2 * 0 + _ ≤ _; exact Nat.le_of_eq rfl) (hb hby at_1) (fun _ _ => ⟨rfl, e0, (by decide : 0 + 0 ≤ _), (by decide : 0 + 0 ≤ _)⟩)
  dsimp only [Pt.U, Pt.locs, Pt.cells, Pt.slots] at X1 l1 y1 z1 st1 hQ1
  subst l1 y1 z1
  obtain ⟨c0, rfl, Nq1, eq1⟩ := hQ1
  have NF1 := Fr.app N0 Nq1
  refine own_go st1 ?_
  show own_Go _ _ _ _ (T1.setTop (mkF m 4 #[.val (.int p1), .val (.int p2), .val (.int p3), .unset, .unset, .unset, .unset, .unset, .unset, .unset, .unset, .unset, .unset, .unset, .unset, .unset, .unset, .unset, .unset, .unset, .unset, .unset, .unset] [(.int c0)]))
  refine own_go (fun _ k => XS.istoreN X1.here hx rfl (hb hby at_4) rfl (l' := #[.val (.int p1), .val (.int p2), .val (.int p3), .val (.int c0), .unset, .unset, .unset, .unset, .unset, .unset, .unset, .unset, .unset, .unset, .unset, .unset, .unset, .unset, .unset, .unset, .unset, .unset, .unset]) rfl k) ?_
  show own_Go _ _ _ _ (T1.setTop (mkF m 5 #[.val (.int p1), .val (.int p2), .val (.int p3), .val (.int c0), .unset, .unset, .unset, .unset, .unset, .unset, .unset, .unset, .unset, .unset, .unset, .unset, .unset, .unset, .unset, .unset, .unset, .unset, .unset] []))
  refine own_go (fun _ k => XS.iloadN X1.here hx rfl (hb hby at_5) rfl k) ?_
  show own_Go _ _ _ _ (T1.setTop (mkF m 6 #[.val (.int p1), .val (.int p2), .val (.int p3), .val (.int c0), .unset, .unset, .unset, .unset, .unset, .unset, .unset, .unset, .unset, .unset, .unset, .unset, .unset, .unset, .unset, .unset, .unset, .unset, .unset] [(.int p2)]))
  obtain ⟨_, _, ⟨T2, L2, k2, n2⟩, -, X2, ⟨Lc2, hQ2, l2, y2, z2⟩, st2⟩ := Jvm.LawKit.callS X1 hx (y := (⟨"com/example/ratatoskr/ratatoskr/content/TextPositionCountPinLaw", "pick", "(I)C"⟩ : MethodName)) hown (mvT hZ (hw _ (List.mem_of_getElem? (i := 0) rfl))) (mvT hZ (hw _ (List.mem_of_getElem? (i := 1) rfl))) (mvT hZ (hw _ (List.mem_of_getElem? (i := 2) rfl))) (mvT hZ (hw _ (List.mem_of_getElem? (i := 3) rfl))) (by decide) (own_back (W := 0) (own_rmP l Z a0 hw p2 h0 n0 Z0) hZ (hw _ (List.mem_of_getElem? (i := 3) rfl)) (hw _ (List.mem_of_getElem? (i := 2) rfl)) (by decide) (by decide)) (g := (mkF m 6 #[.val (.int p1), .val (.int p2), .val (.int p3), .val (.int c0), .unset, .unset, .unset, .unset, .unset, .unset, .unset, .unset, .unset, .unset, .unset, .unset, .unset, .unset, .unset, .unset, .unset, .unset, .unset] [(.int p2)])) rfl (by rw [hml]; rfl) (argsL := [(.int p2)]) (rest := []) (lenOf own_pd0 rfl) rfl (by show 2 * 0 + _ ≤ _; exact Nat.le_of_eq rfl) (hb hby at_6) (fun _ _ => ⟨rfl, eq1, (by decide : 0 + 0 ≤ _), (by decide : 0 + 0 ≤ _)⟩)
  dsimp only [Pt.U, Pt.locs, Pt.cells, Pt.slots] at X2 l2 y2 z2 st2 hQ2
  subst l2 y2 z2
  obtain ⟨c1, rfl, Nq2, eq2⟩ := hQ2
  have NF2 := Fr.app NF1 Nq2
  refine own_go st2 ?_
  show own_Go _ _ _ _ (T2.setTop (mkF m 9 #[.val (.int p1), .val (.int p2), .val (.int p3), .val (.int c0), .unset, .unset, .unset, .unset, .unset, .unset, .unset, .unset, .unset, .unset, .unset, .unset, .unset, .unset, .unset, .unset, .unset, .unset, .unset] [(.int c1)]))
  refine own_go (fun _ k => XS.istore X2.here hx rfl (hb hby at_9) rfl (l' := #[.val (.int p1), .val (.int p2), .val (.int p3), .val (.int c0), .val (.int c1), .unset, .unset, .unset, .unset, .unset, .unset, .unset, .unset, .unset, .unset, .unset, .unset, .unset, .unset, .unset, .unset, .unset, .unset]) rfl k) ?_
  show own_Go _ _ _ _ (T2.setTop (mkF m 11 #[.val (.int p1), .val (.int p2), .val (.int p3), .val (.int c0), .val (.int c1), .unset, .unset, .unset, .unset, .unset, .unset, .unset, .unset, .unset, .unset, .unset, .unset, .unset, .unset, .unset, .unset, .unset, .unset] []))
  refine own_go (fun _ k => XS.iloadN X2.here hx rfl (hb hby at_11) rfl k) ?_
  show own_Go _ _ _ _ (T2.setTop (mkF m 12 #[.val (.int p1), .val (.int p2), .val (.int p3), .val (.int c0), .val (.int c1), .unset, .unset, .unset, .unset, .unset, .unset, .unset, .unset, .unset, .unset, .unset, .unset, .unset, .unset, .unset, .unset, .unset, .unset] [(.int p3)]))
  obtain ⟨_, _, ⟨T3, L3, k3, n3⟩, -, X3, ⟨Lc3, hQ3, l3, y3, z3⟩, st3⟩ := Jvm.LawKit.callS X2 hx (y := (⟨"com/example/ratatoskr/ratatoskr/content/TextPositionCountPinLaw", "pick", "(I)C"⟩ : MethodName)) hown (mvT hZ (hw _ (List.mem_of_getElem? (i := 0) rfl))) (mvT hZ (hw _ (List.mem_of_getElem? (i := 1) rfl))) (mvT hZ (hw _ (List.mem_of_getElem? (i := 2) rfl))) (mvT hZ (hw _ (List.mem_of_getElem? (i := 3) rfl))) (by decide) (own_back (W := 0) (own_rmP l Z a0 hw p3 h0 n0 Z0) hZ (hw _ (List.mem_of_getElem? (i := 3) rfl)) (hw _ (List.mem_of_getElem? (i := 2) rfl)) (by decide) (by decide)) (g := (mkF m 12 #[.val (.int p1), .val (.int p2), .val (.int p3), .val (.int c0), .val (.int c1), .unset, .unset, .unset, .unset, .unset, .unset, .unset, .unset, .unset, .unset, .unset, .unset, .unset, .unset, .unset, .unset, .unset, .unset] [(.int p3)])) rfl (by rw [hml]; rfl) (argsL := [(.int p3)]) (rest := []) (lenOf own_pd0 rfl) rfl (by show 2 * 0 + _ ≤ _; exact Nat.le_of_eq rfl) (hb hby at_12) (fun _ _ => ⟨rfl, eq2, (by decide : 0 + 0 ≤ _), (by decide : 0 + 0 ≤ _)⟩)
  dsimp only [Pt.U, Pt.locs, Pt.cells, Pt.slots] at X3 l3 y3 z3 st3 hQ3
  subst l3 y3 z3
  obtain ⟨c2, rfl, Nq3, eq3⟩ := hQ3
  have NF3 := Fr.app NF2 Nq3
  refine own_go st3 ?_
  show own_Go _ _ _ _ (T3.setTop (mkF m 15 #[.val (.int p1), .val (.int p2), .val (.int p3), .val (.int c0), .val (.int c1), .unset, .unset, .unset, .unset, .unset, .unset, .unset, .unset, .unset, .unset, .unset, .unset, .unset, .unset, .unset, .unset, .unset, .unset] [(.int c2)]))
  refine own_go (fun _ k => XS.istore X3.here hx rfl (hb hby at_15) rfl (l' := #[.val (.int p1), .val (.int p2), .val (.int p3), .val (.int c0), .val (.int c1), .val (.int c2), .unset, .unset, .unset, .unset, .unset, .unset, .unset, .unset, .unset, .unset, .unset, .unset, .unset, .unset, .unset, .unset, .unset]) rfl k) ?_
  show own_Go _ _ _ _ (T3.setTop (mkF m 17 #[.val (.int p1), .val (.int p2), .val (.int p3), .val (.int c0), .val (.int c1), .val (.int c2), .unset, .unset, .unset, .unset, .unset, .unset, .unset, .unset, .unset, .unset, .unset, .unset, .unset, .unset, .unset, .unset, .unset] []))
  refine own_go (fun _ k => XS.iconst X3.here hx rfl (hb hby at_17) k) ?_
  show own_Go _ _ _ _ (T3.setTop (mkF m 18 #[.val (.int p1), .val (.int p2), .val (.int p3), .val (.int c0), .val (.int c1), .val (.int c2), .unset, .unset, .unset, .unset, .unset, .unset, .unset, .unset, .unset, .unset, .unset, .unset, .unset, .unset, .unset, .unset, .unset] [(.int (0 : Int32))]))
  refine own_go (fun _ k => XS.bipush X3.here hx rfl (hb hby at_18) k) ?_
  show own_Go _ _ _ _ (T3.setTop (mkF m 20 #[.val (.int p1), .val (.int p2), .val (.int p3), .val (.int c0), .val (.int c1), .val (.int c2), .unset, .unset, .unset, .unset, .unset, .unset, .unset, .unset, .unset, .unset, .unset, .unset, .unset, .unset, .unset, .unset, .unset] [(.int (32 : Int32)), (.int (0 : Int32))]))
  refine own_go (fun _ k => XS.iloadN X3.here hx rfl (hb hby at_20) rfl k) ?_
  show own_Go _ _ _ _ (T3.setTop (mkF m 21 #[.val (.int p1), .val (.int p2), .val (.int p3), .val (.int c0), .val (.int c1), .val (.int c2), .unset, .unset, .unset, .unset, .unset, .unset, .unset, .unset, .unset, .unset, .unset, .unset, .unset, .unset, .unset, .unset, .unset] [(.int c0), (.int (32 : Int32)), (.int (0 : Int32))]))
  obtain ⟨_, _, ⟨T4, L4, k4, n4⟩, -, X4, ⟨Lc4, hQ4, l4, y4, z4⟩, st4⟩ := Jvm.LawKit.callS X3 hx (y := (⟨"com/example/ratatoskr/ratatoskr/content/TextPositionCountPinLaw", "ends", "(ZCC)Z"⟩ : MethodName)) hown (mvT hZ (hw _ (List.mem_of_getElem? (i := 4) rfl))) (mvT hZ (hw _ (List.mem_of_getElem? (i := 5) rfl))) (mvT hZ (hw _ (List.mem_of_getElem? (i := 2) rfl))) (mvT hZ (hw _ (List.mem_of_getElem? (i := 6) rfl))) (by decide) (own_back (W := 0) (own_rmE l Z a0 hw (0 : Int32) (32 : Int32) c0 h0 n0 Z0) hZ (hw _ (List.mem_of_getElem? (i := 6) rfl)) (hw _ (List.mem_of_getElem? (i := 2) rfl)) (by decide) (by decide)) (g := (mkF m 21 #[.val (.int p1), .val (.int p2), .val (.int p3), .val (.int c0), .val (.int c1), .val (.int c2), .unset, .unset, .unset, .unset, .unset, .unset, .unset, .unset, .unset, .unset, .unset, .unset, .unset, .unset, .unset, .unset, .unset] [(.int c0), (.int (32 : Int32)), (.int (0 : Int32))])) rfl (by rw [hml]; rfl) (argsL := [(.int (0 : Int32)), (.int (32 : Int32)), (.int c0)]) (rest := []) (lenOf own_pd1 rfl) rfl (by show 2 * 0 + _ ≤ _; exact Nat.le_of_eq rfl) (hb hby at_21) (fun _ _ => ⟨rfl, eq3, (by decide : 0 + 0 ≤ _), (by decide : 0 + 0 ≤ _)⟩)
  dsimp only [Pt.U, Pt.locs, Pt.cells, Pt.slots] at X4 l4 y4 z4 st4 hQ4
  subst l4 y4 z4
  obtain ⟨rfl, Nq4, eq4⟩ := hQ4
  have NF4 := Fr.app NF3 Nq4
  refine own_go st4 ?_
  show own_Go _ _ _ _ (T4.setTop (mkF m 24 #[.val (.int p1), .val (.int p2), .val (.int p3), .val (.int c0), .val (.int c1), .val (.int c2), .unset, .unset, .unset, .unset, .unset, .unset, .unset, .unset, .unset, .unset, .unset, .unset, .unset, .unset, .unset, .unset, .unset] [(.int (own_e (0 : Int32) (32 : Int32) c0))]))
  generalize he0 : (own_e (0 : Int32) (32 : Int32) c0) = e0
  show own_Go _ _ _ _ (T4.setTop (mkF m 24 #[.val (.int p1), .val (.int p2), .val (.int p3), .val (.int c0), .val (.int c1), .val (.int c2), .unset, .unset, .unset, .unset, .unset, .unset, .unset, .unset, .unset, .unset, .unset, .unset, .unset, .unset, .unset, .unset, .unset] [(.int e0)]))
  refine own_go (fun _ k => XS.istore X4.here hx rfl (hb hby at_24) rfl (l' := #[.val (.int p1), .val (.int p2), .val (.int p3), .val (.int c0), .val (.int c1), .val (.int c2), .val (.int e0), .unset, .unset, .unset, .unset, .unset, .unset, .unset, .unset, .unset, .unset, .unset, .unset, .unset, .unset, .unset, .unset]) rfl k) ?_
  show own_Go _ _ _ _ (T4.setTop (mkF m 26 #[.val (.int p1), .val (.int p2), .val (.int p3), .val (.int c0), .val (.int c1), .val (.int c2), .val (.int e0), .unset, .unset, .unset, .unset, .unset, .unset, .unset, .unset, .unset, .unset, .unset, .unset, .unset, .unset, .unset, .unset] []))
  refine own_go (fun _ k => XS.iconst X4.here hx rfl (hb hby at_26) k) ?_
  show own_Go _ _ _ _ (T4.setTop (mkF m 27 #[.val (.int p1), .val (.int p2), .val (.int p3), .val (.int c0), .val (.int c1), .val (.int c2), .val (.int e0), .unset, .unset, .unset, .unset, .unset, .unset, .unset, .unset, .unset, .unset, .unset, .unset, .unset, .unset, .unset, .unset] [(.int (1 : Int32))]))
  refine own_go (fun _ k => XS.iloadN X4.here hx rfl (hb hby at_27) rfl k) ?_
  show own_Go _ _ _ _ (T4.setTop (mkF m 28 #[.val (.int p1), .val (.int p2), .val (.int p3), .val (.int c0), .val (.int c1), .val (.int c2), .val (.int e0), .unset, .unset, .unset, .unset, .unset, .unset, .unset, .unset, .unset, .unset, .unset, .unset, .unset, .unset, .unset, .unset] [(.int c0), (.int (1 : Int32))]))
  refine own_go (fun _ k => XS.iload X4.here hx rfl (hb hby at_28) rfl k) ?_
  show own_Go _ _ _ _ (T4.setTop (mkF m 30 #[.val (.int p1), .val (.int p2), .val (.int p3), .val (.int c0), .val (.int c1), .val (.int c2), .val (.int e0), .unset, .unset, .unset, .unset, .unset, .unset, .unset, .unset, .unset, .unset, .unset, .unset, .unset, .unset, .unset, .unset] [(.int c1), (.int c0), (.int (1 : Int32))]))
  obtain ⟨_, _, ⟨T5, L5, k5, n5⟩, -, X5, ⟨Lc5, hQ5, l5, y5, z5⟩, st5⟩ := Jvm.LawKit.callS X4 hx (y := (⟨"com/example/ratatoskr/ratatoskr/content/TextPositionCountPinLaw", "ends", "(ZCC)Z"⟩ : MethodName)) hown (mvT hZ (hw _ (List.mem_of_getElem? (i := 4) rfl))) (mvT hZ (hw _ (List.mem_of_getElem? (i := 5) rfl))) (mvT hZ (hw _ (List.mem_of_getElem? (i := 2) rfl))) (mvT hZ (hw _ (List.mem_of_getElem? (i := 6) rfl))) (by decide) (own_back (W := 0) (own_rmE l Z a0 hw (1 : Int32) c0 c1 h0 n0 Z0) hZ (hw _ (List.mem_of_getElem? (i := 6) rfl)) (hw _ (List.mem_of_getElem? (i := 2) rfl)) (by decide) (by decide)) (g := (mkF m 30 #[.val (.int p1), .val (.int p2), .val (.int p3), .val (.int c0), .val (.int c1), .val (.int c2), .val (.int e0), .unset, .unset, .unset, .unset, .unset, .unset, .unset, .unset, .unset, .unset, .unset, .unset, .unset, .unset, .unset, .unset] [(.int c1), (.int c0), (.int (1 : Int32))])) rfl (by rw [hml]; rfl) (argsL := [(.int (1 : Int32)), (.int c0), (.int c1)]) (rest := []) (lenOf own_pd1 rfl) rfl (by show 2 * 0 + _ ≤ _; exact Nat.le_of_eq rfl) (hb hby at_30) (fun _ _ => ⟨rfl, eq4, (by decide : 0 + 0 ≤ _), (by decide : 0 + 0 ≤ _)⟩)
  dsimp only [Pt.U, Pt.locs, Pt.cells, Pt.slots] at X5 l5 y5 z5 st5 hQ5
  subst l5 y5 z5
  obtain ⟨rfl, Nq5, eq5⟩ := hQ5
  have NF5 := Fr.app NF4 Nq5
  refine own_go st5 ?_
  show own_Go _ _ _ _ (T5.setTop (mkF m 33 #[.val (.int p1), .val (.int p2), .val (.int p3), .val (.int c0), .val (.int c1), .val (.int c2), .val (.int e0), .unset, .unset, .unset, .unset, .unset, .unset, .unset, .unset, .unset, .unset, .unset, .unset, .unset, .unset, .unset, .unset] [(.int (own_e (1 : Int32) c0 c1))]))
  generalize he1 : (own_e (1 : Int32) c0 c1) = e1
  show own_Go _ _ _ _ (T5.setTop (mkF m 33 #[.val (.int p1), .val (.int p2), .val (.int p3), .val (.int c0), .val (.int c1), .val (.int c2), .val (.int e0), .unset, .unset, .unset, .unset, .unset, .unset, .unset, .unset, .unset, .unset, .unset, .unset, .unset, .unset, .unset, .unset] [(.int e1)]))
  refine own_go (fun _ k => XS.istore X5.here hx rfl (hb hby at_33) rfl (l' := #[.val (.int p1), .val (.int p2), .val (.int p3), .val (.int c0), .val (.int c1), .val (.int c2), .val (.int e0), .val (.int e1), .unset, .unset, .unset, .unset, .unset, .unset, .unset, .unset, .unset, .unset, .unset, .unset, .unset, .unset, .unset]) rfl k) ?_
  show own_Go _ _ _ _ (T5.setTop (mkF m 35 #[.val (.int p1), .val (.int p2), .val (.int p3), .val (.int c0), .val (.int c1), .val (.int c2), .val (.int e0), .val (.int e1), .unset, .unset, .unset, .unset, .unset, .unset, .unset, .unset, .unset, .unset, .unset, .unset, .unset, .unset, .unset] []))
  refine own_go (fun _ k => XS.iconst X5.here hx rfl (hb hby at_35) k) ?_
  show own_Go _ _ _ _ (T5.setTop (mkF m 36 #[.val (.int p1), .val (.int p2), .val (.int p3), .val (.int c0), .val (.int c1), .val (.int c2), .val (.int e0), .val (.int e1), .unset, .unset, .unset, .unset, .unset, .unset, .unset, .unset, .unset, .unset, .unset, .unset, .unset, .unset, .unset] [(.int (1 : Int32))]))
  refine own_go (fun _ k => XS.iload X5.here hx rfl (hb hby at_36) rfl k) ?_
  show own_Go _ _ _ _ (T5.setTop (mkF m 38 #[.val (.int p1), .val (.int p2), .val (.int p3), .val (.int c0), .val (.int c1), .val (.int c2), .val (.int e0), .val (.int e1), .unset, .unset, .unset, .unset, .unset, .unset, .unset, .unset, .unset, .unset, .unset, .unset, .unset, .unset, .unset] [(.int c1), (.int (1 : Int32))]))
  refine own_go (fun _ k => XS.iload X5.here hx rfl (hb hby at_38) rfl k) ?_
  show own_Go _ _ _ _ (T5.setTop (mkF m 40 #[.val (.int p1), .val (.int p2), .val (.int p3), .val (.int c0), .val (.int c1), .val (.int c2), .val (.int e0), .val (.int e1), .unset, .unset, .unset, .unset, .unset, .unset, .unset, .unset, .unset, .unset, .unset, .unset, .unset, .unset, .unset] [(.int c2), (.int c1), (.int (1 : Int32))]))
  obtain ⟨_, _, ⟨T6, L6, k6, n6⟩, -, X6, ⟨Lc6, hQ6, l6, y6, z6⟩, st6⟩ := Jvm.LawKit.callS X5 hx (y := (⟨"com/example/ratatoskr/ratatoskr/content/TextPositionCountPinLaw", "ends", "(ZCC)Z"⟩ : MethodName)) hown (mvT hZ (hw _ (List.mem_of_getElem? (i := 4) rfl))) (mvT hZ (hw _ (List.mem_of_getElem? (i := 5) rfl))) (mvT hZ (hw _ (List.mem_of_getElem? (i := 2) rfl))) (mvT hZ (hw _ (List.mem_of_getElem? (i := 6) rfl))) (by decide) (own_back (W := 0) (own_rmE l Z a0 hw (1 : Int32) c1 c2 h0 n0 Z0) hZ (hw _ (List.mem_of_getElem? (i := 6) rfl)) (hw _ (List.mem_of_getElem? (i := 2) rfl)) (by decide) (by decide)) (g := (mkF m 40 #[.val (.int p1), .val (.int p2), .val (.int p3), .val (.int c0), .val (.int c1), .val (.int c2), .val (.int e0), .val (.int e1), .unset, .unset, .unset, .unset, .unset, .unset, .unset, .unset, .unset, .unset, .unset, .unset, .unset, .unset, .unset] [(.int c2), (.int c1), (.int (1 : Int32))])) rfl (by rw [hml]; rfl) (argsL := [(.int (1 : Int32)), (.int c1), (.int c2)]) (rest := []) (lenOf own_pd1 rfl) rfl (by show 2 * 0 + _ ≤ _; exact Nat.le_of_eq rfl) (hb hby at_40) (fun _ _ => ⟨rfl, eq5, (by decide : 0 + 0 ≤ _), (by decide : 0 + 0 ≤ _)⟩)
  dsimp only [Pt.U, Pt.locs, Pt.cells, Pt.slots] at X6 l6 y6 z6 st6 hQ6
  subst l6 y6 z6
  obtain ⟨rfl, Nq6, eq6⟩ := hQ6
  have NF6 := Fr.app NF5 Nq6
  refine own_go st6 ?_
  show own_Go _ _ _ _ (T6.setTop (mkF m 43 #[.val (.int p1), .val (.int p2), .val (.int p3), .val (.int c0), .val (.int c1), .val (.int c2), .val (.int e0), .val (.int e1), .unset, .unset, .unset, .unset, .unset, .unset, .unset, .unset, .unset, .unset, .unset, .unset, .unset, .unset, .unset] [(.int (own_e (1 : Int32) c1 c2))]))
  generalize he2 : (own_e (1 : Int32) c1 c2) = e2
  show own_Go _ _ _ _ (T6.setTop (mkF m 43 #[.val (.int p1), .val (.int p2), .val (.int p3), .val (.int c0), .val (.int c1), .val (.int c2), .val (.int e0), .val (.int e1), .unset, .unset, .unset, .unset, .unset, .unset, .unset, .unset, .unset, .unset, .unset, .unset, .unset, .unset, .unset] [(.int e2)]))
  refine own_go (fun _ k => XS.istore X6.here hx rfl (hb hby at_43) rfl (l' := #[.val (.int p1), .val (.int p2), .val (.int p3), .val (.int c0), .val (.int c1), .val (.int c2), .val (.int e0), .val (.int e1), .val (.int e2), .unset, .unset, .unset, .unset, .unset, .unset, .unset, .unset, .unset, .unset, .unset, .unset, .unset, .unset]) rfl k) ?_
  show own_Go _ _ _ _ (T6.setTop (mkF m 45 #[.val (.int p1), .val (.int p2), .val (.int p3), .val (.int c0), .val (.int c1), .val (.int c2), .val (.int e0), .val (.int e1), .val (.int e2), .unset, .unset, .unset, .unset, .unset, .unset, .unset, .unset, .unset, .unset, .unset, .unset, .unset, .unset] []))
  refine own_go (fun _ k => XS.lconst X6.here hx rfl (hb hby at_45) k) ?_
  show own_Go _ _ _ _ (T6.setTop (mkF m 46 #[.val (.int p1), .val (.int p2), .val (.int p3), .val (.int c0), .val (.int c1), .val (.int c2), .val (.int e0), .val (.int e1), .val (.int e2), .unset, .unset, .unset, .unset, .unset, .unset, .unset, .unset, .unset, .unset, .unset, .unset, .unset, .unset] [(.long (1 : Int64))]))
  refine own_go (fun _ k => XS.iload X6.here hx rfl (hb hby at_46) rfl k) ?_
  show own_Go _ _ _ _ (T6.setTop (mkF m 48 #[.val (.int p1), .val (.int p2), .val (.int p3), .val (.int c0), .val (.int c1), .val (.int c2), .val (.int e0), .val (.int e1), .val (.int e2), .unset, .unset, .unset, .unset, .unset, .unset, .unset, .unset, .unset, .unset, .unset, .unset, .unset, .unset] [(.int e0), (.long (1 : Int64))]))
  have J56 : own_Go p.tables e below (own_End s below (fun v h L => v = some (.int 1) ∧ Fr n0 L) room_1.cells room_1.slots) (T6.setTop (mkF m 56 #[.val (.int p1), .val (.int p2), .val (.int p3), .val (.int c0), .val (.int c1), .val (.int c2), .val (.int e0), .val (.int e1), .val (.int e2), .unset, .unset, .unset, .unset, .unset, .unset, .unset, .unset, .unset, .unset, .unset, .unset, .unset, .unset] [(.long (own_b e0)), (.long (1 : Int64))])) := by
    refine own_go (fun _ k => XS.ladd X6.here hx rfl (hb hby at_56) rfl k) ?_
    show own_Go _ _ _ _ (T6.setTop (mkF m 57 #[.val (.int p1), .val (.int p2), .val (.int p3), .val (.int c0), .val (.int c1), .val (.int c2), .val (.int e0), .val (.int e1), .val (.int e2), .unset, .unset, .unset, .unset, .unset, .unset, .unset, .unset, .unset, .unset, .unset, .unset, .unset, .unset] [(.long ((1 : Int64) + (own_b e0)))]))
    generalize hLL0 : ((1 : Int64) + (own_b e0)) = LL0
    show own_Go _ _ _ _ (T6.setTop (mkF m 57 #[.val (.int p1), .val (.int p2), .val (.int p3), .val (.int c0), .val (.int c1), .val (.int c2), .val (.int e0), .val (.int e1), .val (.int e2), .unset, .unset, .unset, .unset, .unset, .unset, .unset, .unset, .unset, .unset, .unset, .unset, .unset, .unset] [(.long LL0)]))
    refine own_go (fun _ k => XS.lstore X6.here hx rfl (hb hby at_57) rfl (l' := #[.val (.int p1), .val (.int p2), .val (.int p3), .val (.int c0), .val (.int c1), .val (.int c2), .val (.int e0), .val (.int e1), .val (.int e2), .val (.long LL0), .second, .unset, .unset, .unset, .unset, .unset, .unset, .unset, .unset, .unset, .unset, .unset, .unset]) rfl k) ?_
    show own_Go _ _ _ _ (T6.setTop (mkF m 59 #[.val (.int p1), .val (.int p2), .val (.int p3), .val (.int c0), .val (.int c1), .val (.int c2), .val (.int e0), .val (.int e1), .val (.int e2), .val (.long LL0), .second, .unset, .unset, .unset, .unset, .unset, .unset, .unset, .unset, .unset, .unset, .unset, .unset] []))
    refine own_go (fun _ k => XS.lload X6.here hx rfl (hb hby at_59) rfl k) ?_
    show own_Go _ _ _ _ (T6.setTop (mkF m 61 #[.val (.int p1), .val (.int p2), .val (.int p3), .val (.int c0), .val (.int c1), .val (.int c2), .val (.int e0), .val (.int e1), .val (.int e2), .val (.long LL0), .second, .unset, .unset, .unset, .unset, .unset, .unset, .unset, .unset, .unset, .unset, .unset, .unset] [(.long LL0)]))
    refine own_go (fun _ k => XS.iload X6.here hx rfl (hb hby at_61) rfl k) ?_
    show own_Go _ _ _ _ (T6.setTop (mkF m 63 #[.val (.int p1), .val (.int p2), .val (.int p3), .val (.int c0), .val (.int c1), .val (.int c2), .val (.int e0), .val (.int e1), .val (.int e2), .val (.long LL0), .second, .unset, .unset, .unset, .unset, .unset, .unset, .unset, .unset, .unset, .unset, .unset, .unset] [(.int e1), (.long LL0)]))
    have J71 : own_Go p.tables e below (own_End s below (fun v h L => v = some (.int 1) ∧ Fr n0 L) room_1.cells room_1.slots) (T6.setTop (mkF m 71 #[.val (.int p1), .val (.int p2), .val (.int p3), .val (.int c0), .val (.int c1), .val (.int c2), .val (.int e0), .val (.int e1), .val (.int e2), .val (.long LL0), .second, .unset, .unset, .unset, .unset, .unset, .unset, .unset, .unset, .unset, .unset, .unset, .unset] [(.long (own_b e1)), (.long LL0)])) := by
      refine own_go (fun _ k => XS.ladd X6.here hx rfl (hb hby at_71) rfl k) ?_
      show own_Go _ _ _ _ (T6.setTop (mkF m 72 #[.val (.int p1), .val (.int p2), .val (.int p3), .val (.int c0), .val (.int c1), .val (.int c2), .val (.int e0), .val (.int e1), .val (.int e2), .val (.long LL0), .second, .unset, .unset, .unset, .unset, .unset, .unset, .unset, .unset, .unset, .unset, .unset, .unset] [(.long (LL0 + (own_b e1)))]))
      generalize hLL1 : (LL0 + (own_b e1)) = LL1
      show own_Go _ _ _ _ (T6.setTop (mkF m 72 #[.val (.int p1), .val (.int p2), .val (.int p3), .val (.int c0), .val (.int c1), .val (.int c2), .val (.int e0), .val (.int e1), .val (.int e2), .val (.long LL0), .second, .unset, .unset, .unset, .unset, .unset, .unset, .unset, .unset, .unset, .unset, .unset, .unset] [(.long LL1)]))
      refine own_go (fun _ k => XS.lstore X6.here hx rfl (hb hby at_72) rfl (l' := #[.val (.int p1), .val (.int p2), .val (.int p3), .val (.int c0), .val (.int c1), .val (.int c2), .val (.int e0), .val (.int e1), .val (.int e2), .val (.long LL0), .second, .val (.long LL1), .second, .unset, .unset, .unset, .unset, .unset, .unset, .unset, .unset, .unset, .unset]) rfl k) ?_
      show own_Go _ _ _ _ (T6.setTop (mkF m 74 #[.val (.int p1), .val (.int p2), .val (.int p3), .val (.int c0), .val (.int c1), .val (.int c2), .val (.int e0), .val (.int e1), .val (.int e2), .val (.long LL0), .second, .val (.long LL1), .second, .unset, .unset, .unset, .unset, .unset, .unset, .unset, .unset, .unset, .unset] []))
      refine own_go (fun _ k => XS.lload X6.here hx rfl (hb hby at_74) rfl k) ?_
      show own_Go _ _ _ _ (T6.setTop (mkF m 76 #[.val (.int p1), .val (.int p2), .val (.int p3), .val (.int c0), .val (.int c1), .val (.int c2), .val (.int e0), .val (.int e1), .val (.int e2), .val (.long LL0), .second, .val (.long LL1), .second, .unset, .unset, .unset, .unset, .unset, .unset, .unset, .unset, .unset, .unset] [(.long LL1)]))
      refine own_go (fun _ k => XS.iload X6.here hx rfl (hb hby at_76) rfl k) ?_
      show own_Go _ _ _ _ (T6.setTop (mkF m 78 #[.val (.int p1), .val (.int p2), .val (.int p3), .val (.int c0), .val (.int c1), .val (.int c2), .val (.int e0), .val (.int e1), .val (.int e2), .val (.long LL0), .second, .val (.long LL1), .second, .unset, .unset, .unset, .unset, .unset, .unset, .unset, .unset, .unset, .unset] [(.int e2), (.long LL1)]))
      have J86 : own_Go p.tables e below (own_End s below (fun v h L => v = some (.int 1) ∧ Fr n0 L) room_1.cells room_1.slots) (T6.setTop (mkF m 86 #[.val (.int p1), .val (.int p2), .val (.int p3), .val (.int c0), .val (.int c1), .val (.int c2), .val (.int e0), .val (.int e1), .val (.int e2), .val (.long LL0), .second, .val (.long LL1), .second, .unset, .unset, .unset, .unset, .unset, .unset, .unset, .unset, .unset, .unset] [(.long (own_b e2)), (.long LL1)])) := by
        refine own_go (fun _ k => XS.ladd X6.here hx rfl (hb hby at_86) rfl k) ?_
        show own_Go _ _ _ _ (T6.setTop (mkF m 87 #[.val (.int p1), .val (.int p2), .val (.int p3), .val (.int c0), .val (.int c1), .val (.int c2), .val (.int e0), .val (.int e1), .val (.int e2), .val (.long LL0), .second, .val (.long LL1), .second, .unset, .unset, .unset, .unset, .unset, .unset, .unset, .unset, .unset, .unset] [(.long (LL1 + (own_b e2)))]))
        generalize hLL2 : (LL1 + (own_b e2)) = LL2
        show own_Go _ _ _ _ (T6.setTop (mkF m 87 #[.val (.int p1), .val (.int p2), .val (.int p3), .val (.int c0), .val (.int c1), .val (.int c2), .val (.int e0), .val (.int e1), .val (.int e2), .val (.long LL0), .second, .val (.long LL1), .second, .unset, .unset, .unset, .unset, .unset, .unset, .unset, .unset, .unset, .unset] [(.long LL2)]))
        refine own_go (fun _ k => XS.lstore X6.here hx rfl (hb hby at_87) rfl (l' := #[.val (.int p1), .val (.int p2), .val (.int p3), .val (.int c0), .val (.int c1), .val (.int c2), .val (.int e0), .val (.int e1), .val (.int e2), .val (.long LL0), .second, .val (.long LL1), .second, .val (.long LL2), .second, .unset, .unset, .unset, .unset, .unset, .unset, .unset, .unset]) rfl k) ?_
        show own_Go _ _ _ _ (T6.setTop (mkF m 89 #[.val (.int p1), .val (.int p2), .val (.int p3), .val (.int c0), .val (.int c1), .val (.int c2), .val (.int e0), .val (.int e1), .val (.int e2), .val (.long LL0), .second, .val (.long LL1), .second, .val (.long LL2), .second, .unset, .unset, .unset, .unset, .unset, .unset, .unset, .unset] []))
        refine own_go (fun _ k => XS.iload X6.here hx rfl (hb hby at_89) rfl k) ?_
        show own_Go _ _ _ _ (T6.setTop (mkF m 91 #[.val (.int p1), .val (.int p2), .val (.int p3), .val (.int c0), .val (.int c1), .val (.int c2), .val (.int e0), .val (.int e1), .val (.int e2), .val (.long LL0), .second, .val (.long LL1), .second, .val (.long LL2), .second, .unset, .unset, .unset, .unset, .unset, .unset, .unset, .unset] [(.int e0)]))
        have J104 : ∀ (Tj104 : State) (Lj104 : List Loc) (Xj104 : Stand p l e room_1 s m #[(.int p1), (.int p2), (.int p3)] below meth c Tj104 Lj104 0 0) (Nj104 : Fr n0 Lj104) (ej104 : Tj104.heap = h0), own_Go p.tables e below (own_End s below (fun v h L => v = some (.int 1) ∧ Fr n0 L) room_1.cells room_1.slots) (Tj104.setTop (mkF m 104 #[.val (.int p1), .val (.int p2), .val (.int p3), .val (.int c0), .val (.int c1), .val (.int c2), .val (.int e0), .val (.int e1), .val (.int e2), .val (.long LL0), .second, .val (.long LL1), .second, .val (.long LL2), .second, .unset, .unset, .unset, .unset, .unset, .unset, .unset, .unset] [(.long (own_k e0 ((1 : Int64) + (own_tx c0))))])) := by
          intro Tj104 Lj104 Xj104 Nj104 ej104
          generalize hKK0 : (own_k e0 ((1 : Int64) + (own_tx c0))) = KK0
          show own_Go _ _ _ _ (Tj104.setTop (mkF m 104 #[.val (.int p1), .val (.int p2), .val (.int p3), .val (.int c0), .val (.int c1), .val (.int c2), .val (.int e0), .val (.int e1), .val (.int e2), .val (.long LL0), .second, .val (.long LL1), .second, .val (.long LL2), .second, .unset, .unset, .unset, .unset, .unset, .unset, .unset, .unset] [(.long KK0)]))
          refine own_go (fun _ k => XS.lstore Xj104.here hx rfl (hb hby at_104) rfl (l' := #[.val (.int p1), .val (.int p2), .val (.int p3), .val (.int c0), .val (.int c1), .val (.int c2), .val (.int e0), .val (.int e1), .val (.int e2), .val (.long LL0), .second, .val (.long LL1), .second, .val (.long LL2), .second, .val (.long KK0), .second, .unset, .unset, .unset, .unset, .unset, .unset]) rfl k) ?_
          show own_Go _ _ _ _ (Tj104.setTop (mkF m 106 #[.val (.int p1), .val (.int p2), .val (.int p3), .val (.int c0), .val (.int c1), .val (.int c2), .val (.int e0), .val (.int e1), .val (.int e2), .val (.long LL0), .second, .val (.long LL1), .second, .val (.long LL2), .second, .val (.long KK0), .second, .unset, .unset, .unset, .unset, .unset, .unset] []))
          refine own_go (fun _ k => XS.iload Xj104.here hx rfl (hb hby at_106) rfl k) ?_
          show own_Go _ _ _ _ (Tj104.setTop (mkF m 108 #[.val (.int p1), .val (.int p2), .val (.int p3), .val (.int c0), .val (.int c1), .val (.int c2), .val (.int e0), .val (.int e1), .val (.int e2), .val (.long LL0), .second, .val (.long LL1), .second, .val (.long LL2), .second, .val (.long KK0), .second, .unset, .unset, .unset, .unset, .unset, .unset] [(.int e1)]))
          have J123 : ∀ (Tj123 : State) (Lj123 : List Loc) (Xj123 : Stand p l e room_1 s m #[(.int p1), (.int p2), (.int p3)] below meth c Tj123 Lj123 0 0) (Nj123 : Fr n0 Lj123) (ej123 : Tj123.heap = h0), own_Go p.tables e below (own_End s below (fun v h L => v = some (.int 1) ∧ Fr n0 L) room_1.cells room_1.slots) (Tj123.setTop (mkF m 123 #[.val (.int p1), .val (.int p2), .val (.int p3), .val (.int c0), .val (.int c1), .val (.int c2), .val (.int e0), .val (.int e1), .val (.int e2), .val (.long LL0), .second, .val (.long LL1), .second, .val (.long LL2), .second, .val (.long KK0), .second, .unset, .unset, .unset, .unset, .unset, .unset] [(.long (own_k e1 (KK0 + (own_tx c1))))])) := by
            intro Tj123 Lj123 Xj123 Nj123 ej123
            generalize hKK1 : (own_k e1 (KK0 + (own_tx c1))) = KK1
            show own_Go _ _ _ _ (Tj123.setTop (mkF m 123 #[.val (.int p1), .val (.int p2), .val (.int p3), .val (.int c0), .val (.int c1), .val (.int c2), .val (.int e0), .val (.int e1), .val (.int e2), .val (.long LL0), .second, .val (.long LL1), .second, .val (.long LL2), .second, .val (.long KK0), .second, .unset, .unset, .unset, .unset, .unset, .unset] [(.long KK1)]))
            refine own_go (fun _ k => XS.lstore Xj123.here hx rfl (hb hby at_123) rfl (l' := #[.val (.int p1), .val (.int p2), .val (.int p3), .val (.int c0), .val (.int c1), .val (.int c2), .val (.int e0), .val (.int e1), .val (.int e2), .val (.long LL0), .second, .val (.long LL1), .second, .val (.long LL2), .second, .val (.long KK0), .second, .val (.long KK1), .second, .unset, .unset, .unset, .unset]) rfl k) ?_
            show own_Go _ _ _ _ (Tj123.setTop (mkF m 125 #[.val (.int p1), .val (.int p2), .val (.int p3), .val (.int c0), .val (.int c1), .val (.int c2), .val (.int e0), .val (.int e1), .val (.int e2), .val (.long LL0), .second, .val (.long LL1), .second, .val (.long LL2), .second, .val (.long KK0), .second, .val (.long KK1), .second, .unset, .unset, .unset, .unset] []))
            refine own_go (fun _ k => XS.iload Xj123.here hx rfl (hb hby at_125) rfl k) ?_
            show own_Go _ _ _ _ (Tj123.setTop (mkF m 127 #[.val (.int p1), .val (.int p2), .val (.int p3), .val (.int c0), .val (.int c1), .val (.int c2), .val (.int e0), .val (.int e1), .val (.int e2), .val (.long LL0), .second, .val (.long LL1), .second, .val (.long LL2), .second, .val (.long KK0), .second, .val (.long KK1), .second, .unset, .unset, .unset, .unset] [(.int e2)]))
            have J142 : ∀ (Tj142 : State) (Lj142 : List Loc) (Xj142 : Stand p l e room_1 s m #[(.int p1), (.int p2), (.int p3)] below meth c Tj142 Lj142 0 0) (Nj142 : Fr n0 Lj142) (ej142 : Tj142.heap = h0), own_Go p.tables e below (own_End s below (fun v h L => v = some (.int 1) ∧ Fr n0 L) room_1.cells room_1.slots) (Tj142.setTop (mkF m 142 #[.val (.int p1), .val (.int p2), .val (.int p3), .val (.int c0), .val (.int c1), .val (.int c2), .val (.int e0), .val (.int e1), .val (.int e2), .val (.long LL0), .second, .val (.long LL1), .second, .val (.long LL2), .second, .val (.long KK0), .second, .val (.long KK1), .second, .unset, .unset, .unset, .unset] [(.long (own_k e2 (KK1 + (own_tx c2))))])) := by
              intro Tj142 Lj142 Xj142 Nj142 ej142
              generalize hKK2 : (own_k e2 (KK1 + (own_tx c2))) = KK2
              show own_Go _ _ _ _ (Tj142.setTop (mkF m 142 #[.val (.int p1), .val (.int p2), .val (.int p3), .val (.int c0), .val (.int c1), .val (.int c2), .val (.int e0), .val (.int e1), .val (.int e2), .val (.long LL0), .second, .val (.long LL1), .second, .val (.long LL2), .second, .val (.long KK0), .second, .val (.long KK1), .second, .unset, .unset, .unset, .unset] [(.long KK2)]))
              refine own_go (fun _ k => XS.lstore Xj142.here hx rfl (hb hby at_142) rfl (l' := #[.val (.int p1), .val (.int p2), .val (.int p3), .val (.int c0), .val (.int c1), .val (.int c2), .val (.int e0), .val (.int e1), .val (.int e2), .val (.long LL0), .second, .val (.long LL1), .second, .val (.long LL2), .second, .val (.long KK0), .second, .val (.long KK1), .second, .val (.long KK2), .second, .unset, .unset]) rfl k) ?_
              show own_Go _ _ _ _ (Tj142.setTop (mkF m 144 #[.val (.int p1), .val (.int p2), .val (.int p3), .val (.int c0), .val (.int c1), .val (.int c2), .val (.int e0), .val (.int e1), .val (.int e2), .val (.long LL0), .second, .val (.long LL1), .second, .val (.long LL2), .second, .val (.long KK0), .second, .val (.long KK1), .second, .val (.long KK2), .second, .unset, .unset] []))
              obtain ⟨T7, h7, X7, e7, E7, A7, D7, -, st7⟩ := newO Xj142 hx hZ hown (hw _ (List.mem_of_getElem? (i := 10) rfl)) (hw _ (List.mem_of_getElem? (i := 11) rfl)) (hw _ (List.mem_of_getElem? (i := 12) rfl)) ej142 (g := (mkF m 144 #[.val (.int p1), .val (.int p2), .val (.int p3), .val (.int c0), .val (.int c1), .val (.int c2), .val (.int e0), .val (.int e1), .val (.int e2), .val (.long LL0), .second, .val (.long LL1), .second, .val (.long LL2), .second, .val (.long KK0), .second, .val (.long KK1), .second, .val (.long KK2), .second, .unset, .unset] [])) rfl (hb hby at_144) (by decide) (by decide)
              obtain ⟨b7, g7⟩ : ∃ z, z = h0.size := ⟨_, rfl⟩
              rw [← g7] at A7 D7 st7
              refine own_go st7 ?_
              have ge_b7 : n0 ≤ b7 := Nat.le_trans Z0 (Nat.le_of_eq g7.symm)
              have sz_b7 : h0.size ≤ b7 := Nat.le_trans K0.1 (Nat.le_of_eq g7.symm)
              replace Z0 := Nat.le_trans Z0 E7.1
              replace K0 := K0.ext E7
              have F_line_b7 : Fld Z h7 b7 "com/example/ratatoskr/ratatoskr/content/TextPosition" "line" "J" (.long (0 : Int64)) := D7 (Or.inl (hw _ (List.mem_of_getElem? (i := 20) rfl))) (ty := .long) (by decide)
              have F_column_b7 : Fld Z h7 b7 "com/example/ratatoskr/ratatoskr/content/TextPosition" "column" "J" (.long (0 : Int64)) := D7 (Or.inl (hw _ (List.mem_of_getElem? (i := 22) rfl))) (ty := .long) (by decide)
              have F_afterReturn_b7 : Fld Z h7 b7 "com/example/ratatoskr/ratatoskr/content/TextPosition" "afterReturn" "Z" (.int (0 : Int32)) := D7 (Or.inl (hw _ (List.mem_of_getElem? (i := 29) rfl))) (ty := .boolean) (by decide)
              show own_Go _ _ _ _ (T7.setTop (mkF m 147 #[.val (.int p1), .val (.int p2), .val (.int p3), .val (.int c0), .val (.int c1), .val (.int c2), .val (.int e0), .val (.int e1), .val (.int e2), .val (.long LL0), .second, .val (.long LL1), .second, .val (.long LL2), .second, .val (.long KK0), .second, .val (.long KK1), .second, .val (.long KK2), .second, .unset, .unset] [(.ref b7)]))
              refine own_go (fun _ k => XS.dup X7.here hx rfl (hb hby at_147) rfl rfl k) ?_
              show own_Go _ _ _ _ (T7.setTop (mkF m 148 #[.val (.int p1), .val (.int p2), .val (.int p3), .val (.int c0), .val (.int c1), .val (.int c2), .val (.int e0), .val (.int e1), .val (.int e2), .val (.long LL0), .second, .val (.long LL1), .second, .val (.long LL2), .second, .val (.long KK0), .second, .val (.long KK1), .second, .val (.long KK2), .second, .unset, .unset] [(.ref b7), (.ref b7)]))
              obtain ⟨_, _, ⟨T8, L8, k8, n8⟩, -, X8, ⟨Lc8, hQ8, l8, y8, z8⟩, st8⟩ := X7.specialBack hx (y := (⟨"com/example/ratatoskr/ratatoskr/content/TextPosition", "<init>", "()V"⟩ : MethodName)) rfl hown (mvT hZ (hw _ (List.mem_of_getElem? (i := 13) rfl))) (mvT hZ (hw _ (List.mem_of_getElem? (i := 14) rfl))) (mvT hZ (hw _ (List.mem_of_getElem? (i := 15) rfl))) (by decide) (own_back (W := 1) (own_rmI l Z a0 hw b7 h7 n0 Z0 A7 F_line_b7 F_column_b7 F_afterReturn_b7 ge_b7) hZ (hw _ (List.mem_of_getElem? (i := 15) rfl)) (hw _ (List.mem_of_getElem? (i := 12) rfl)) (by decide) (by decide)) (g := (mkF m 148 #[.val (.int p1), .val (.int p2), .val (.int p3), .val (.int c0), .val (.int c1), .val (.int c2), .val (.int e0), .val (.int e1), .val (.int e2), .val (.long LL0), .second, .val (.long LL1), .second, .val (.long LL2), .second, .val (.long KK0), .second, .val (.long KK1), .second, .val (.long KK2), .second, .unset, .unset] [(.ref b7), (.ref b7)])) rfl (by rw [hml]; rfl) (Steps.refl _) (a := b7) (argsL := []) (rest := [(.ref b7)]) (lenOf own_pd2 rfl) rfl (by show 2 * 0 + _ ≤ _; exact Nat.le_of_eq rfl) (hb hby at_148) (fun _ _ => ⟨rfl, e7, (by decide : 1 + 0 ≤ _), (by decide : 3 + 0 ≤ _)⟩)
              dsimp only [Pt.U, Pt.locs, Pt.cells, Pt.slots] at X8 l8 y8 z8 st8 hQ8
              subst l8 y8 z8
              obtain ⟨rfl, Nq8, K8, Fx8, Fy8, Fr8⟩ := hQ8
              have NF8 := Fr.app Nj142 Nq8
              refine own_goT st8 ?_
              replace A7 := A7.keep K8
              replace Z0 := Nat.le_trans Z0 K8.1
              replace K0 := K0.trans K8 (allS (Or.inr sz_b7) all0)
              show own_Go _ _ _ _ (T8.setTop (mkF m 151 #[.val (.int p1), .val (.int p2), .val (.int p3), .val (.int c0), .val (.int c1), .val (.int c2), .val (.int e0), .val (.int e1), .val (.int e2), .val (.long LL0), .second, .val (.long LL1), .second, .val (.long LL2), .second, .val (.long KK0), .second, .val (.long KK1), .second, .val (.long KK2), .second, .unset, .unset] [(.ref b7)]))
              refine own_go (fun _ k => XS.astore X8.here hx rfl (hb hby at_151) rfl rfl (l' := #[.val (.int p1), .val (.int p2), .val (.int p3), .val (.int c0), .val (.int c1), .val (.int c2), .val (.int e0), .val (.int e1), .val (.int e2), .val (.long LL0), .second, .val (.long LL1), .second, .val (.long LL2), .second, .val (.long KK0), .second, .val (.long KK1), .second, .val (.long KK2), .second, .val (.ref b7), .unset]) rfl k) ?_
              show own_Go _ _ _ _ (T8.setTop (mkF m 153 #[.val (.int p1), .val (.int p2), .val (.int p3), .val (.int c0), .val (.int c1), .val (.int c2), .val (.int e0), .val (.int e1), .val (.int e2), .val (.long LL0), .second, .val (.long LL1), .second, .val (.long LL2), .second, .val (.long KK0), .second, .val (.long KK1), .second, .val (.long KK2), .second, .val (.ref b7), .unset] []))
              refine own_go (fun _ k => XS.aload X8.here hx rfl (hb hby at_153) rfl rfl k) ?_
              show own_Go _ _ _ _ (T8.setTop (mkF m 155 #[.val (.int p1), .val (.int p2), .val (.int p3), .val (.int c0), .val (.int c1), .val (.int c2), .val (.int e0), .val (.int e1), .val (.int e2), .val (.long LL0), .second, .val (.long LL1), .second, .val (.long LL2), .second, .val (.long KK0), .second, .val (.long KK1), .second, .val (.long KK2), .second, .val (.ref b7), .unset] [(.ref b7)]))
              refine own_go (fun _ k => XS.iloadN X8.here hx rfl (hb hby at_155) rfl k) ?_
              show own_Go _ _ _ _ (T8.setTop (mkF m 156 #[.val (.int p1), .val (.int p2), .val (.int p3), .val (.int c0), .val (.int c1), .val (.int c2), .val (.int e0), .val (.int e1), .val (.int e2), .val (.long LL0), .second, .val (.long LL1), .second, .val (.long LL2), .second, .val (.long KK0), .second, .val (.long KK1), .second, .val (.long KK2), .second, .val (.ref b7), .unset] [(.int c0), (.ref b7)]))
              obtain ⟨cq9, kq9, q9a, q9b, q9c⟩ := isOf hZ rfl A7
              obtain ⟨_, _, ⟨T9, L9, k9, n9⟩, -, X9, ⟨Lc9, hQ9, l9, y9, z9⟩, st9⟩ := X8.virtualBack hx (y := (⟨"com/example/ratatoskr/ratatoskr/content/TextPosition", "count", "(C)V"⟩ : MethodName)) (z := (⟨"com/example/ratatoskr/ratatoskr/content/TextPosition", "count", "(C)V"⟩ : MethodName)) hown (mvT hZ (hw _ (List.mem_of_getElem? (i := 23) rfl))) (mvT hZ (hw _ (List.mem_of_getElem? (i := 24) rfl))) (notFace_of_selects (args := #[]) (mvT hZ (hw _ (List.mem_of_getElem? (i := 26) rfl)))) (mvT hZ (hw _ (List.mem_of_getElem? (i := 26) rfl))) (mvT hZ (hw _ (List.mem_of_getElem? (i := 25) rfl))) (by decide) (own_back (W := 0) (own_rmN l Z a0 hw b7 c0 (1 : Int64) (1 : Int64) (0 : Int32) T8.heap n0 Z0 A7 Fx8 Fy8 Fr8 ge_b7) hZ (hw _ (List.mem_of_getElem? (i := 27) rfl)) (hw _ (List.mem_of_getElem? (i := 12) rfl)) (by decide) (by decide)) q9a q9c (g := (mkF m 156 #[.val (.int p1), .val (.int p2), .val (.int p3), .val (.int c0), .val (.int c1), .val (.int c2), .val (.int e0), .val (.int e1), .val (.int e2), .val (.long LL0), .second, .val (.long LL1), .second, .val (.long LL2), .second, .val (.long KK0), .second, .val (.long KK1), .second, .val (.long KK2), .second, .val (.ref b7), .unset] [(.int c0), (.ref b7)])) rfl (by rw [hml]; rfl) (Steps.refl _) (argsL := [(.int c0)]) (rest := []) (lenOf own_pd3 rfl) rfl (by show 2 * 0 + _ ≤ _; exact Nat.le_of_eq rfl) (hb hby at_156) (fun _ _ => ⟨rfl, rfl, (by decide : 1 + 0 ≤ _), (by decide : 3 + 0 ≤ _)⟩)
              dsimp only [Pt.U, Pt.locs, Pt.cells, Pt.slots] at X9 l9 y9 z9 st9 hQ9
              subst l9 y9 z9
              obtain ⟨rfl, Nq9, K9, Fx9, Fy9, Fr9⟩ := hQ9
              have NF9 := Fr.app NF8 Nq9
              refine own_goT st9 ?_
              replace A7 := A7.keep K9
              replace Z0 := Nat.le_trans Z0 K9.1
              replace K0 := K0.trans K9 (allS (Or.inr sz_b7) all0)
              show own_Go _ _ _ _ (T9.setTop (mkF m 159 #[.val (.int p1), .val (.int p2), .val (.int p3), .val (.int c0), .val (.int c1), .val (.int c2), .val (.int e0), .val (.int e1), .val (.int e2), .val (.long LL0), .second, .val (.long LL1), .second, .val (.long LL2), .second, .val (.long KK0), .second, .val (.long KK1), .second, .val (.long KK2), .second, .val (.ref b7), .unset] []))
              refine own_go (fun _ k => XS.aload X9.here hx rfl (hb hby at_159) rfl rfl k) ?_
              show own_Go _ _ _ _ (T9.setTop (mkF m 161 #[.val (.int p1), .val (.int p2), .val (.int p3), .val (.int c0), .val (.int c1), .val (.int c2), .val (.int e0), .val (.int e1), .val (.int e2), .val (.long LL0), .second, .val (.long LL1), .second, .val (.long LL2), .second, .val (.long KK0), .second, .val (.long KK1), .second, .val (.long KK2), .second, .val (.ref b7), .unset] [(.ref b7)]))
              obtain ⟨cq10, kq10, q10a, q10b, q10c⟩ := isOf hZ rfl A7
              obtain ⟨_, _, ⟨T10, L10, k10, n10⟩, -, X10, ⟨Lc10, hQ10, l10, y10, z10⟩, st10⟩ := X9.virtualBack hx (y := (⟨"com/example/ratatoskr/ratatoskr/content/TextPosition", "line", "()J"⟩ : MethodName)) (z := (⟨"com/example/ratatoskr/ratatoskr/content/TextPosition", "line", "()J"⟩ : MethodName)) hown (mvT hZ (hw _ (List.mem_of_getElem? (i := 30) rfl))) (mvT hZ (hw _ (List.mem_of_getElem? (i := 31) rfl))) (notFace_of_selects (args := #[]) (mvT hZ (hw _ (List.mem_of_getElem? (i := 33) rfl)))) (mvT hZ (hw _ (List.mem_of_getElem? (i := 33) rfl))) (mvT hZ (hw _ (List.mem_of_getElem? (i := 32) rfl))) (by decide) (own_back (W := 0) (own_rmG l Z a0 hw b7 _ T9.heap n0 Z0 Fx9) hZ (hw _ (List.mem_of_getElem? (i := 34) rfl)) (hw _ (List.mem_of_getElem? (i := 12) rfl)) (by decide) (by decide)) q10a q10c (g := (mkF m 161 #[.val (.int p1), .val (.int p2), .val (.int p3), .val (.int c0), .val (.int c1), .val (.int c2), .val (.int e0), .val (.int e1), .val (.int e2), .val (.long LL0), .second, .val (.long LL1), .second, .val (.long LL2), .second, .val (.long KK0), .second, .val (.long KK1), .second, .val (.long KK2), .second, .val (.ref b7), .unset] [(.ref b7)])) rfl (by rw [hml]; rfl) (Steps.refl _) (argsL := []) (rest := []) (lenOf own_pd4 rfl) rfl (by show 2 * 0 + _ ≤ _; exact Nat.le_of_eq rfl) (hb hby at_161) (fun _ _ => ⟨rfl, rfl, (by decide : 1 + 0 ≤ _), (by decide : 3 + 0 ≤ _)⟩)
              dsimp only [Pt.U, Pt.locs, Pt.cells, Pt.slots] at X10 l10 y10 z10 st10 hQ10
              subst l10 y10 z10
              obtain ⟨rfl, Nq10, eq10⟩ := hQ10
              have NF10 := Fr.app NF9 Nq10
              refine own_goT st10 ?_
              show own_Go _ _ _ _ (T10.setTop (mkF m 164 #[.val (.int p1), .val (.int p2), .val (.int p3), .val (.int c0), .val (.int c1), .val (.int c2), .val (.int e0), .val (.int e1), .val (.int e2), .val (.long LL0), .second, .val (.long LL1), .second, .val (.long LL2), .second, .val (.long KK0), .second, .val (.long KK1), .second, .val (.long KK2), .second, .val (.ref b7), .unset] [(.long (own_L c0 (0 : Int32) (1 : Int64)))]))
              refine own_go (fun _ k => XS.lload X10.here hx rfl (hb hby at_164) rfl k) ?_
              show own_Go _ _ _ _ (T10.setTop (mkF m 166 #[.val (.int p1), .val (.int p2), .val (.int p3), .val (.int c0), .val (.int c1), .val (.int c2), .val (.int e0), .val (.int e1), .val (.int e2), .val (.long LL0), .second, .val (.long LL1), .second, .val (.long LL2), .second, .val (.long KK0), .second, .val (.long KK1), .second, .val (.long KK2), .second, .val (.ref b7), .unset] [(.long LL0), (.long (own_L c0 (0 : Int32) (1 : Int64)))]))
              refine own_go (fun _ k => XS.lcmp X10.here hx rfl (hb hby at_166) rfl k) ?_
              show own_Go _ _ _ _ (T10.setTop (mkF m 167 #[.val (.int p1), .val (.int p2), .val (.int p3), .val (.int c0), .val (.int c1), .val (.int c2), .val (.int e0), .val (.int e1), .val (.int e2), .val (.long LL0), .second, .val (.long LL1), .second, .val (.long LL2), .second, .val (.long KK0), .second, .val (.long KK1), .second, .val (.long KK2), .second, .val (.ref b7), .unset] [(.int (lcmpW (own_L c0 (0 : Int32) (1 : Int64)) LL0))]))
              refine own_go (fun _ k => XS.ifNo X10.here hx rfl (hb hby at_167) rfl ((if0 _ _).trans (teq ((lw_eq _ _).mpr (by rw [← hLL0, ← he0]; exact own_L0 c0))).2) k) ?_
              show own_Go _ _ _ _ (T10.setTop (mkF m 170 #[.val (.int p1), .val (.int p2), .val (.int p3), .val (.int c0), .val (.int c1), .val (.int c2), .val (.int e0), .val (.int e1), .val (.int e2), .val (.long LL0), .second, .val (.long LL1), .second, .val (.long LL2), .second, .val (.long KK0), .second, .val (.long KK1), .second, .val (.long KK2), .second, .val (.ref b7), .unset] []))
              refine own_go (fun _ k => XS.aload X10.here hx rfl (hb hby at_170) rfl rfl k) ?_
              show own_Go _ _ _ _ (T10.setTop (mkF m 172 #[.val (.int p1), .val (.int p2), .val (.int p3), .val (.int c0), .val (.int c1), .val (.int c2), .val (.int e0), .val (.int e1), .val (.int e2), .val (.long LL0), .second, .val (.long LL1), .second, .val (.long LL2), .second, .val (.long KK0), .second, .val (.long KK1), .second, .val (.long KK2), .second, .val (.ref b7), .unset] [(.ref b7)]))
              obtain ⟨cq11, kq11, q11a, q11b, q11c⟩ := isOf hZ eq10 A7
              obtain ⟨_, _, ⟨T11, L11, k11, n11⟩, -, X11, ⟨Lc11, hQ11, l11, y11, z11⟩, st11⟩ := X10.virtualBack hx (y := (⟨"com/example/ratatoskr/ratatoskr/content/TextPosition", "column", "()J"⟩ : MethodName)) (z := (⟨"com/example/ratatoskr/ratatoskr/content/TextPosition", "column", "()J"⟩ : MethodName)) hown (mvT hZ (hw _ (List.mem_of_getElem? (i := 35) rfl))) (mvT hZ (hw _ (List.mem_of_getElem? (i := 36) rfl))) (notFace_of_selects (args := #[]) (mvT hZ (hw _ (List.mem_of_getElem? (i := 38) rfl)))) (mvT hZ (hw _ (List.mem_of_getElem? (i := 38) rfl))) (mvT hZ (hw _ (List.mem_of_getElem? (i := 37) rfl))) (by decide) (own_back (W := 0) (own_rmH l Z a0 hw b7 _ T9.heap n0 Z0 Fy9) hZ (hw _ (List.mem_of_getElem? (i := 39) rfl)) (hw _ (List.mem_of_getElem? (i := 12) rfl)) (by decide) (by decide)) q11a q11c (g := (mkF m 172 #[.val (.int p1), .val (.int p2), .val (.int p3), .val (.int c0), .val (.int c1), .val (.int c2), .val (.int e0), .val (.int e1), .val (.int e2), .val (.long LL0), .second, .val (.long LL1), .second, .val (.long LL2), .second, .val (.long KK0), .second, .val (.long KK1), .second, .val (.long KK2), .second, .val (.ref b7), .unset] [(.ref b7)])) rfl (by rw [hml]; rfl) (Steps.refl _) (argsL := []) (rest := []) (lenOf own_pd4 rfl) rfl (by show 2 * 0 + _ ≤ _; exact Nat.le_of_eq rfl) (hb hby at_172) (fun _ _ => ⟨rfl, eq10, (by decide : 1 + 0 ≤ _), (by decide : 3 + 0 ≤ _)⟩)
              dsimp only [Pt.U, Pt.locs, Pt.cells, Pt.slots] at X11 l11 y11 z11 st11 hQ11
              subst l11 y11 z11
              obtain ⟨rfl, Nq11, eq11⟩ := hQ11
              have NF11 := Fr.app NF10 Nq11
              refine own_goT st11 ?_
              show own_Go _ _ _ _ (T11.setTop (mkF m 175 #[.val (.int p1), .val (.int p2), .val (.int p3), .val (.int c0), .val (.int c1), .val (.int c2), .val (.int e0), .val (.int e1), .val (.int e2), .val (.long LL0), .second, .val (.long LL1), .second, .val (.long LL2), .second, .val (.long KK0), .second, .val (.long KK1), .second, .val (.long KK2), .second, .val (.ref b7), .unset] [(.long (own_K c0 (0 : Int32) (1 : Int64)))]))
              refine own_go (fun _ k => XS.lload X11.here hx rfl (hb hby at_175) rfl k) ?_
              show own_Go _ _ _ _ (T11.setTop (mkF m 177 #[.val (.int p1), .val (.int p2), .val (.int p3), .val (.int c0), .val (.int c1), .val (.int c2), .val (.int e0), .val (.int e1), .val (.int e2), .val (.long LL0), .second, .val (.long LL1), .second, .val (.long LL2), .second, .val (.long KK0), .second, .val (.long KK1), .second, .val (.long KK2), .second, .val (.ref b7), .unset] [(.long KK0), (.long (own_K c0 (0 : Int32) (1 : Int64)))]))
              refine own_go (fun _ k => XS.lcmp X11.here hx rfl (hb hby at_177) rfl k) ?_
              show own_Go _ _ _ _ (T11.setTop (mkF m 178 #[.val (.int p1), .val (.int p2), .val (.int p3), .val (.int c0), .val (.int c1), .val (.int c2), .val (.int e0), .val (.int e1), .val (.int e2), .val (.long LL0), .second, .val (.long LL1), .second, .val (.long LL2), .second, .val (.long KK0), .second, .val (.long KK1), .second, .val (.long KK2), .second, .val (.ref b7), .unset] [(.int (lcmpW (own_K c0 (0 : Int32) (1 : Int64)) KK0))]))
              refine own_go (fun _ k => XS.ifNo X11.here hx rfl (hb hby at_178) rfl ((if0 _ _).trans (teq ((lw_eq _ _).mpr (by rw [← hKK0, ← he0]; exact own_K0 c0))).2) k) ?_
              show own_Go _ _ _ _ (T11.setTop (mkF m 181 #[.val (.int p1), .val (.int p2), .val (.int p3), .val (.int c0), .val (.int c1), .val (.int c2), .val (.int e0), .val (.int e1), .val (.int e2), .val (.long LL0), .second, .val (.long LL1), .second, .val (.long LL2), .second, .val (.long KK0), .second, .val (.long KK1), .second, .val (.long KK2), .second, .val (.ref b7), .unset] []))
              refine own_go (fun _ k => XS.iconst X11.here hx rfl (hb hby at_181) k) ?_
              show own_Go _ _ _ _ (T11.setTop (mkF m 182 #[.val (.int p1), .val (.int p2), .val (.int p3), .val (.int c0), .val (.int c1), .val (.int c2), .val (.int e0), .val (.int e1), .val (.int e2), .val (.long LL0), .second, .val (.long LL1), .second, .val (.long LL2), .second, .val (.long KK0), .second, .val (.long KK1), .second, .val (.long KK2), .second, .val (.ref b7), .unset] [(.int (1 : Int32))]))
              refine own_go (fun _ k => XS.goto X11.here hx rfl (pc0 := 182) (pc' := 186) rfl (hb hby at_182) (by decide) (by decide) k) ?_
              show own_Go _ _ _ _ (T11.setTop (mkF m 186 #[.val (.int p1), .val (.int p2), .val (.int p3), .val (.int c0), .val (.int c1), .val (.int c2), .val (.int e0), .val (.int e1), .val (.int e2), .val (.long LL0), .second, .val (.long LL1), .second, .val (.long LL2), .second, .val (.long KK0), .second, .val (.long KK1), .second, .val (.long KK2), .second, .val (.ref b7), .unset] [(.int (1 : Int32))]))
              refine own_go (fun _ k => XS.istore X11.here hx rfl (hb hby at_186) rfl (l' := #[.val (.int p1), .val (.int p2), .val (.int p3), .val (.int c0), .val (.int c1), .val (.int c2), .val (.int e0), .val (.int e1), .val (.int e2), .val (.long LL0), .second, .val (.long LL1), .second, .val (.long LL2), .second, .val (.long KK0), .second, .val (.long KK1), .second, .val (.long KK2), .second, .val (.ref b7), .val (.int (1 : Int32))]) rfl k) ?_
              show own_Go _ _ _ _ (T11.setTop (mkF m 188 #[.val (.int p1), .val (.int p2), .val (.int p3), .val (.int c0), .val (.int c1), .val (.int c2), .val (.int e0), .val (.int e1), .val (.int e2), .val (.long LL0), .second, .val (.long LL1), .second, .val (.long LL2), .second, .val (.long KK0), .second, .val (.long KK1), .second, .val (.long KK2), .second, .val (.ref b7), .val (.int (1 : Int32))] []))
              refine own_go (fun _ k => XS.aload X11.here hx rfl (hb hby at_188) rfl rfl k) ?_
              show own_Go _ _ _ _ (T11.setTop (mkF m 190 #[.val (.int p1), .val (.int p2), .val (.int p3), .val (.int c0), .val (.int c1), .val (.int c2), .val (.int e0), .val (.int e1), .val (.int e2), .val (.long LL0), .second, .val (.long LL1), .second, .val (.long LL2), .second, .val (.long KK0), .second, .val (.long KK1), .second, .val (.long KK2), .second, .val (.ref b7), .val (.int (1 : Int32))] [(.ref b7)]))
              refine own_go (fun _ k => XS.iload X11.here hx rfl (hb hby at_190) rfl k) ?_
              show own_Go _ _ _ _ (T11.setTop (mkF m 192 #[.val (.int p1), .val (.int p2), .val (.int p3), .val (.int c0), .val (.int c1), .val (.int c2), .val (.int e0), .val (.int e1), .val (.int e2), .val (.long LL0), .second, .val (.long LL1), .second, .val (.long LL2), .second, .val (.long KK0), .second, .val (.long KK1), .second, .val (.long KK2), .second, .val (.ref b7), .val (.int (1 : Int32))] [(.int c1), (.ref b7)]))
              obtain ⟨cq12, kq12, q12a, q12b, q12c⟩ := isOf hZ eq11 A7
              obtain ⟨_, _, ⟨T12, L12, k12, n12⟩, -, X12, ⟨Lc12, hQ12, l12, y12, z12⟩, st12⟩ := X11.virtualBack hx (y := (⟨"com/example/ratatoskr/ratatoskr/content/TextPosition", "count", "(C)V"⟩ : MethodName)) (z := (⟨"com/example/ratatoskr/ratatoskr/content/TextPosition", "count", "(C)V"⟩ : MethodName)) hown (mvT hZ (hw _ (List.mem_of_getElem? (i := 23) rfl))) (mvT hZ (hw _ (List.mem_of_getElem? (i := 24) rfl))) (notFace_of_selects (args := #[]) (mvT hZ (hw _ (List.mem_of_getElem? (i := 26) rfl)))) (mvT hZ (hw _ (List.mem_of_getElem? (i := 26) rfl))) (mvT hZ (hw _ (List.mem_of_getElem? (i := 25) rfl))) (by decide) (own_back (W := 0) (own_rmN l Z a0 hw b7 c1 (own_L c0 (0 : Int32) (1 : Int64)) (own_K c0 (0 : Int32) (1 : Int64)) (own_r c0) T9.heap n0 Z0 A7 Fx9 Fy9 Fr9 ge_b7) hZ (hw _ (List.mem_of_getElem? (i := 27) rfl)) (hw _ (List.mem_of_getElem? (i := 12) rfl)) (by decide) (by decide)) q12a q12c (g := (mkF m 192 #[.val (.int p1), .val (.int p2), .val (.int p3), .val (.int c0), .val (.int c1), .val (.int c2), .val (.int e0), .val (.int e1), .val (.int e2), .val (.long LL0), .second, .val (.long LL1), .second, .val (.long LL2), .second, .val (.long KK0), .second, .val (.long KK1), .second, .val (.long KK2), .second, .val (.ref b7), .val (.int (1 : Int32))] [(.int c1), (.ref b7)])) rfl (by rw [hml]; rfl) (Steps.refl _) (argsL := [(.int c1)]) (rest := []) (lenOf own_pd3 rfl) rfl (by show 2 * 0 + _ ≤ _; exact Nat.le_of_eq rfl) (hb hby at_192) (fun _ _ => ⟨rfl, eq11, (by decide : 1 + 0 ≤ _), (by decide : 3 + 0 ≤ _)⟩)
              dsimp only [Pt.U, Pt.locs, Pt.cells, Pt.slots] at X12 l12 y12 z12 st12 hQ12
              subst l12 y12 z12
              obtain ⟨rfl, Nq12, K12, Fx12, Fy12, Fr12⟩ := hQ12
              have NF12 := Fr.app NF11 Nq12
              refine own_goT st12 ?_
              replace A7 := A7.keep K12
              replace Z0 := Nat.le_trans Z0 K12.1
              replace K0 := K0.trans K12 (allS (Or.inr sz_b7) all0)
              show own_Go _ _ _ _ (T12.setTop (mkF m 195 #[.val (.int p1), .val (.int p2), .val (.int p3), .val (.int c0), .val (.int c1), .val (.int c2), .val (.int e0), .val (.int e1), .val (.int e2), .val (.long LL0), .second, .val (.long LL1), .second, .val (.long LL2), .second, .val (.long KK0), .second, .val (.long KK1), .second, .val (.long KK2), .second, .val (.ref b7), .val (.int (1 : Int32))] []))
              refine own_go (fun _ k => XS.iload X12.here hx rfl (hb hby at_195) rfl k) ?_
              show own_Go _ _ _ _ (T12.setTop (mkF m 197 #[.val (.int p1), .val (.int p2), .val (.int p3), .val (.int c0), .val (.int c1), .val (.int c2), .val (.int e0), .val (.int e1), .val (.int e2), .val (.long LL0), .second, .val (.long LL1), .second, .val (.long LL2), .second, .val (.long KK0), .second, .val (.long KK1), .second, .val (.long KK2), .second, .val (.ref b7), .val (.int (1 : Int32))] [(.int (1 : Int32))]))
              refine own_go (fun _ k => XS.ifNo X12.here hx rfl (hb hby at_197) rfl ((if0 _ _).trans (feq (by decide)).1) k) ?_
              show own_Go _ _ _ _ (T12.setTop (mkF m 200 #[.val (.int p1), .val (.int p2), .val (.int p3), .val (.int c0), .val (.int c1), .val (.int c2), .val (.int e0), .val (.int e1), .val (.int e2), .val (.long LL0), .second, .val (.long LL1), .second, .val (.long LL2), .second, .val (.long KK0), .second, .val (.long KK1), .second, .val (.long KK2), .second, .val (.ref b7), .val (.int (1 : Int32))] []))
              refine own_go (fun _ k => XS.aload X12.here hx rfl (hb hby at_200) rfl rfl k) ?_
              show own_Go _ _ _ _ (T12.setTop (mkF m 202 #[.val (.int p1), .val (.int p2), .val (.int p3), .val (.int c0), .val (.int c1), .val (.int c2), .val (.int e0), .val (.int e1), .val (.int e2), .val (.long LL0), .second, .val (.long LL1), .second, .val (.long LL2), .second, .val (.long KK0), .second, .val (.long KK1), .second, .val (.long KK2), .second, .val (.ref b7), .val (.int (1 : Int32))] [(.ref b7)]))
              obtain ⟨cq13, kq13, q13a, q13b, q13c⟩ := isOf hZ rfl A7
              obtain ⟨_, _, ⟨T13, L13, k13, n13⟩, -, X13, ⟨Lc13, hQ13, l13, y13, z13⟩, st13⟩ := X12.virtualBack hx (y := (⟨"com/example/ratatoskr/ratatoskr/content/TextPosition", "line", "()J"⟩ : MethodName)) (z := (⟨"com/example/ratatoskr/ratatoskr/content/TextPosition", "line", "()J"⟩ : MethodName)) hown (mvT hZ (hw _ (List.mem_of_getElem? (i := 30) rfl))) (mvT hZ (hw _ (List.mem_of_getElem? (i := 31) rfl))) (notFace_of_selects (args := #[]) (mvT hZ (hw _ (List.mem_of_getElem? (i := 33) rfl)))) (mvT hZ (hw _ (List.mem_of_getElem? (i := 33) rfl))) (mvT hZ (hw _ (List.mem_of_getElem? (i := 32) rfl))) (by decide) (own_back (W := 0) (own_rmG l Z a0 hw b7 _ T12.heap n0 Z0 Fx12) hZ (hw _ (List.mem_of_getElem? (i := 34) rfl)) (hw _ (List.mem_of_getElem? (i := 12) rfl)) (by decide) (by decide)) q13a q13c (g := (mkF m 202 #[.val (.int p1), .val (.int p2), .val (.int p3), .val (.int c0), .val (.int c1), .val (.int c2), .val (.int e0), .val (.int e1), .val (.int e2), .val (.long LL0), .second, .val (.long LL1), .second, .val (.long LL2), .second, .val (.long KK0), .second, .val (.long KK1), .second, .val (.long KK2), .second, .val (.ref b7), .val (.int (1 : Int32))] [(.ref b7)])) rfl (by rw [hml]; rfl) (Steps.refl _) (argsL := []) (rest := []) (lenOf own_pd4 rfl) rfl (by show 2 * 0 + _ ≤ _; exact Nat.le_of_eq rfl) (hb hby at_202) (fun _ _ => ⟨rfl, rfl, (by decide : 1 + 0 ≤ _), (by decide : 3 + 0 ≤ _)⟩)
              dsimp only [Pt.U, Pt.locs, Pt.cells, Pt.slots] at X13 l13 y13 z13 st13 hQ13
              subst l13 y13 z13
              obtain ⟨rfl, Nq13, eq13⟩ := hQ13
              have NF13 := Fr.app NF12 Nq13
              refine own_goT st13 ?_
              show own_Go _ _ _ _ (T13.setTop (mkF m 205 #[.val (.int p1), .val (.int p2), .val (.int p3), .val (.int c0), .val (.int c1), .val (.int c2), .val (.int e0), .val (.int e1), .val (.int e2), .val (.long LL0), .second, .val (.long LL1), .second, .val (.long LL2), .second, .val (.long KK0), .second, .val (.long KK1), .second, .val (.long KK2), .second, .val (.ref b7), .val (.int (1 : Int32))] [(.long (own_L c1 (own_r c0) (own_L c0 (0 : Int32) (1 : Int64))))]))
              refine own_go (fun _ k => XS.lload X13.here hx rfl (hb hby at_205) rfl k) ?_
              show own_Go _ _ _ _ (T13.setTop (mkF m 207 #[.val (.int p1), .val (.int p2), .val (.int p3), .val (.int c0), .val (.int c1), .val (.int c2), .val (.int e0), .val (.int e1), .val (.int e2), .val (.long LL0), .second, .val (.long LL1), .second, .val (.long LL2), .second, .val (.long KK0), .second, .val (.long KK1), .second, .val (.long KK2), .second, .val (.ref b7), .val (.int (1 : Int32))] [(.long LL1), (.long (own_L c1 (own_r c0) (own_L c0 (0 : Int32) (1 : Int64))))]))
              refine own_go (fun _ k => XS.lcmp X13.here hx rfl (hb hby at_207) rfl k) ?_
              show own_Go _ _ _ _ (T13.setTop (mkF m 208 #[.val (.int p1), .val (.int p2), .val (.int p3), .val (.int c0), .val (.int c1), .val (.int c2), .val (.int e0), .val (.int e1), .val (.int e2), .val (.long LL0), .second, .val (.long LL1), .second, .val (.long LL2), .second, .val (.long KK0), .second, .val (.long KK1), .second, .val (.long KK2), .second, .val (.ref b7), .val (.int (1 : Int32))] [(.int (lcmpW (own_L c1 (own_r c0) (own_L c0 (0 : Int32) (1 : Int64))) LL1))]))
              refine own_go (fun _ k => XS.ifNo X13.here hx rfl (hb hby at_208) rfl ((if0 _ _).trans (teq ((lw_eq _ _).mpr (by rw [← hLL1, ← he1, ← hLL0, ← he0, ← own_L0]; exact own_Ln _ _ _))).2) k) ?_
              show own_Go _ _ _ _ (T13.setTop (mkF m 211 #[.val (.int p1), .val (.int p2), .val (.int p3), .val (.int c0), .val (.int c1), .val (.int c2), .val (.int e0), .val (.int e1), .val (.int e2), .val (.long LL0), .second, .val (.long LL1), .second, .val (.long LL2), .second, .val (.long KK0), .second, .val (.long KK1), .second, .val (.long KK2), .second, .val (.ref b7), .val (.int (1 : Int32))] []))
              refine own_go (fun _ k => XS.aload X13.here hx rfl (hb hby at_211) rfl rfl k) ?_
              show own_Go _ _ _ _ (T13.setTop (mkF m 213 #[.val (.int p1), .val (.int p2), .val (.int p3), .val (.int c0), .val (.int c1), .val (.int c2), .val (.int e0), .val (.int e1), .val (.int e2), .val (.long LL0), .second, .val (.long LL1), .second, .val (.long LL2), .second, .val (.long KK0), .second, .val (.long KK1), .second, .val (.long KK2), .second, .val (.ref b7), .val (.int (1 : Int32))] [(.ref b7)]))
              obtain ⟨cq14, kq14, q14a, q14b, q14c⟩ := isOf hZ eq13 A7
              obtain ⟨_, _, ⟨T14, L14, k14, n14⟩, -, X14, ⟨Lc14, hQ14, l14, y14, z14⟩, st14⟩ := X13.virtualBack hx (y := (⟨"com/example/ratatoskr/ratatoskr/content/TextPosition", "column", "()J"⟩ : MethodName)) (z := (⟨"com/example/ratatoskr/ratatoskr/content/TextPosition", "column", "()J"⟩ : MethodName)) hown (mvT hZ (hw _ (List.mem_of_getElem? (i := 35) rfl))) (mvT hZ (hw _ (List.mem_of_getElem? (i := 36) rfl))) (notFace_of_selects (args := #[]) (mvT hZ (hw _ (List.mem_of_getElem? (i := 38) rfl)))) (mvT hZ (hw _ (List.mem_of_getElem? (i := 38) rfl))) (mvT hZ (hw _ (List.mem_of_getElem? (i := 37) rfl))) (by decide) (own_back (W := 0) (own_rmH l Z a0 hw b7 _ T12.heap n0 Z0 Fy12) hZ (hw _ (List.mem_of_getElem? (i := 39) rfl)) (hw _ (List.mem_of_getElem? (i := 12) rfl)) (by decide) (by decide)) q14a q14c (g := (mkF m 213 #[.val (.int p1), .val (.int p2), .val (.int p3), .val (.int c0), .val (.int c1), .val (.int c2), .val (.int e0), .val (.int e1), .val (.int e2), .val (.long LL0), .second, .val (.long LL1), .second, .val (.long LL2), .second, .val (.long KK0), .second, .val (.long KK1), .second, .val (.long KK2), .second, .val (.ref b7), .val (.int (1 : Int32))] [(.ref b7)])) rfl (by rw [hml]; rfl) (Steps.refl _) (argsL := []) (rest := []) (lenOf own_pd4 rfl) rfl (by show 2 * 0 + _ ≤ _; exact Nat.le_of_eq rfl) (hb hby at_213) (fun _ _ => ⟨rfl, eq13, (by decide : 1 + 0 ≤ _), (by decide : 3 + 0 ≤ _)⟩)
              dsimp only [Pt.U, Pt.locs, Pt.cells, Pt.slots] at X14 l14 y14 z14 st14 hQ14
              subst l14 y14 z14
              obtain ⟨rfl, Nq14, eq14⟩ := hQ14
              have NF14 := Fr.app NF13 Nq14
              refine own_goT st14 ?_
              show own_Go _ _ _ _ (T14.setTop (mkF m 216 #[.val (.int p1), .val (.int p2), .val (.int p3), .val (.int c0), .val (.int c1), .val (.int c2), .val (.int e0), .val (.int e1), .val (.int e2), .val (.long LL0), .second, .val (.long LL1), .second, .val (.long LL2), .second, .val (.long KK0), .second, .val (.long KK1), .second, .val (.long KK2), .second, .val (.ref b7), .val (.int (1 : Int32))] [(.long (own_K c1 (own_r c0) (own_K c0 (0 : Int32) (1 : Int64))))]))
              refine own_go (fun _ k => XS.lload X14.here hx rfl (hb hby at_216) rfl k) ?_
              show own_Go _ _ _ _ (T14.setTop (mkF m 218 #[.val (.int p1), .val (.int p2), .val (.int p3), .val (.int c0), .val (.int c1), .val (.int c2), .val (.int e0), .val (.int e1), .val (.int e2), .val (.long LL0), .second, .val (.long LL1), .second, .val (.long LL2), .second, .val (.long KK0), .second, .val (.long KK1), .second, .val (.long KK2), .second, .val (.ref b7), .val (.int (1 : Int32))] [(.long KK1), (.long (own_K c1 (own_r c0) (own_K c0 (0 : Int32) (1 : Int64))))]))
              refine own_go (fun _ k => XS.lcmp X14.here hx rfl (hb hby at_218) rfl k) ?_
              show own_Go _ _ _ _ (T14.setTop (mkF m 219 #[.val (.int p1), .val (.int p2), .val (.int p3), .val (.int c0), .val (.int c1), .val (.int c2), .val (.int e0), .val (.int e1), .val (.int e2), .val (.long LL0), .second, .val (.long LL1), .second, .val (.long LL2), .second, .val (.long KK0), .second, .val (.long KK1), .second, .val (.long KK2), .second, .val (.ref b7), .val (.int (1 : Int32))] [(.int (lcmpW (own_K c1 (own_r c0) (own_K c0 (0 : Int32) (1 : Int64))) KK1))]))
              refine own_go (fun _ k => XS.ifNo X14.here hx rfl (hb hby at_219) rfl ((if0 _ _).trans (teq ((lw_eq _ _).mpr (by rw [← hKK1, ← he1, ← hKK0, ← he0, ← own_K0]; exact own_Kn _ _ _))).2) k) ?_
              show own_Go _ _ _ _ (T14.setTop (mkF m 222 #[.val (.int p1), .val (.int p2), .val (.int p3), .val (.int c0), .val (.int c1), .val (.int c2), .val (.int e0), .val (.int e1), .val (.int e2), .val (.long LL0), .second, .val (.long LL1), .second, .val (.long LL2), .second, .val (.long KK0), .second, .val (.long KK1), .second, .val (.long KK2), .second, .val (.ref b7), .val (.int (1 : Int32))] []))
              refine own_go (fun _ k => XS.iconst X14.here hx rfl (hb hby at_222) k) ?_
              show own_Go _ _ _ _ (T14.setTop (mkF m 223 #[.val (.int p1), .val (.int p2), .val (.int p3), .val (.int c0), .val (.int c1), .val (.int c2), .val (.int e0), .val (.int e1), .val (.int e2), .val (.long LL0), .second, .val (.long LL1), .second, .val (.long LL2), .second, .val (.long KK0), .second, .val (.long KK1), .second, .val (.long KK2), .second, .val (.ref b7), .val (.int (1 : Int32))] [(.int (1 : Int32))]))
              refine own_go (fun _ k => XS.goto X14.here hx rfl (pc0 := 223) (pc' := 227) rfl (hb hby at_223) (by decide) (by decide) k) ?_
              show own_Go _ _ _ _ (T14.setTop (mkF m 227 #[.val (.int p1), .val (.int p2), .val (.int p3), .val (.int c0), .val (.int c1), .val (.int c2), .val (.int e0), .val (.int e1), .val (.int e2), .val (.long LL0), .second, .val (.long LL1), .second, .val (.long LL2), .second, .val (.long KK0), .second, .val (.long KK1), .second, .val (.long KK2), .second, .val (.ref b7), .val (.int (1 : Int32))] [(.int (1 : Int32))]))
              refine own_go (fun _ k => XS.istore X14.here hx rfl (hb hby at_227) rfl (l' := #[.val (.int p1), .val (.int p2), .val (.int p3), .val (.int c0), .val (.int c1), .val (.int c2), .val (.int e0), .val (.int e1), .val (.int e2), .val (.long LL0), .second, .val (.long LL1), .second, .val (.long LL2), .second, .val (.long KK0), .second, .val (.long KK1), .second, .val (.long KK2), .second, .val (.ref b7), .val (.int (1 : Int32))]) rfl k) ?_
              show own_Go _ _ _ _ (T14.setTop (mkF m 229 #[.val (.int p1), .val (.int p2), .val (.int p3), .val (.int c0), .val (.int c1), .val (.int c2), .val (.int e0), .val (.int e1), .val (.int e2), .val (.long LL0), .second, .val (.long LL1), .second, .val (.long LL2), .second, .val (.long KK0), .second, .val (.long KK1), .second, .val (.long KK2), .second, .val (.ref b7), .val (.int (1 : Int32))] []))
              refine own_go (fun _ k => XS.aload X14.here hx rfl (hb hby at_229) rfl rfl k) ?_
              show own_Go _ _ _ _ (T14.setTop (mkF m 231 #[.val (.int p1), .val (.int p2), .val (.int p3), .val (.int c0), .val (.int c1), .val (.int c2), .val (.int e0), .val (.int e1), .val (.int e2), .val (.long LL0), .second, .val (.long LL1), .second, .val (.long LL2), .second, .val (.long KK0), .second, .val (.long KK1), .second, .val (.long KK2), .second, .val (.ref b7), .val (.int (1 : Int32))] [(.ref b7)]))
              refine own_go (fun _ k => XS.iload X14.here hx rfl (hb hby at_231) rfl k) ?_
              show own_Go _ _ _ _ (T14.setTop (mkF m 233 #[.val (.int p1), .val (.int p2), .val (.int p3), .val (.int c0), .val (.int c1), .val (.int c2), .val (.int e0), .val (.int e1), .val (.int e2), .val (.long LL0), .second, .val (.long LL1), .second, .val (.long LL2), .second, .val (.long KK0), .second, .val (.long KK1), .second, .val (.long KK2), .second, .val (.ref b7), .val (.int (1 : Int32))] [(.int c2), (.ref b7)]))
              obtain ⟨cq15, kq15, q15a, q15b, q15c⟩ := isOf hZ eq14 A7
              obtain ⟨_, _, ⟨T15, L15, k15, n15⟩, -, X15, ⟨Lc15, hQ15, l15, y15, z15⟩, st15⟩ := X14.virtualBack hx (y := (⟨"com/example/ratatoskr/ratatoskr/content/TextPosition", "count", "(C)V"⟩ : MethodName)) (z := (⟨"com/example/ratatoskr/ratatoskr/content/TextPosition", "count", "(C)V"⟩ : MethodName)) hown (mvT hZ (hw _ (List.mem_of_getElem? (i := 23) rfl))) (mvT hZ (hw _ (List.mem_of_getElem? (i := 24) rfl))) (notFace_of_selects (args := #[]) (mvT hZ (hw _ (List.mem_of_getElem? (i := 26) rfl)))) (mvT hZ (hw _ (List.mem_of_getElem? (i := 26) rfl))) (mvT hZ (hw _ (List.mem_of_getElem? (i := 25) rfl))) (by decide) (own_back (W := 0) (own_rmN l Z a0 hw b7 c2 (own_L c1 (own_r c0) (own_L c0 (0 : Int32) (1 : Int64))) (own_K c1 (own_r c0) (own_K c0 (0 : Int32) (1 : Int64))) (own_r c1) T12.heap n0 Z0 A7 Fx12 Fy12 Fr12 ge_b7) hZ (hw _ (List.mem_of_getElem? (i := 27) rfl)) (hw _ (List.mem_of_getElem? (i := 12) rfl)) (by decide) (by decide)) q15a q15c (g := (mkF m 233 #[.val (.int p1), .val (.int p2), .val (.int p3), .val (.int c0), .val (.int c1), .val (.int c2), .val (.int e0), .val (.int e1), .val (.int e2), .val (.long LL0), .second, .val (.long LL1), .second, .val (.long LL2), .second, .val (.long KK0), .second, .val (.long KK1), .second, .val (.long KK2), .second, .val (.ref b7), .val (.int (1 : Int32))] [(.int c2), (.ref b7)])) rfl (by rw [hml]; rfl) (Steps.refl _) (argsL := [(.int c2)]) (rest := []) (lenOf own_pd3 rfl) rfl (by show 2 * 0 + _ ≤ _; exact Nat.le_of_eq rfl) (hb hby at_233) (fun _ _ => ⟨rfl, eq14, (by decide : 1 + 0 ≤ _), (by decide : 3 + 0 ≤ _)⟩)
              dsimp only [Pt.U, Pt.locs, Pt.cells, Pt.slots] at X15 l15 y15 z15 st15 hQ15
              subst l15 y15 z15
              obtain ⟨rfl, Nq15, K15, Fx15, Fy15, Fr15⟩ := hQ15
              have NF15 := Fr.app NF14 Nq15
              refine own_goT st15 ?_
              replace A7 := A7.keep K15
              replace Z0 := Nat.le_trans Z0 K15.1
              replace K0 := K0.trans K15 (allS (Or.inr sz_b7) all0)
              show own_Go _ _ _ _ (T15.setTop (mkF m 236 #[.val (.int p1), .val (.int p2), .val (.int p3), .val (.int c0), .val (.int c1), .val (.int c2), .val (.int e0), .val (.int e1), .val (.int e2), .val (.long LL0), .second, .val (.long LL1), .second, .val (.long LL2), .second, .val (.long KK0), .second, .val (.long KK1), .second, .val (.long KK2), .second, .val (.ref b7), .val (.int (1 : Int32))] []))
              refine own_go (fun _ k => XS.iload X15.here hx rfl (hb hby at_236) rfl k) ?_
              show own_Go _ _ _ _ (T15.setTop (mkF m 238 #[.val (.int p1), .val (.int p2), .val (.int p3), .val (.int c0), .val (.int c1), .val (.int c2), .val (.int e0), .val (.int e1), .val (.int e2), .val (.long LL0), .second, .val (.long LL1), .second, .val (.long LL2), .second, .val (.long KK0), .second, .val (.long KK1), .second, .val (.long KK2), .second, .val (.ref b7), .val (.int (1 : Int32))] [(.int (1 : Int32))]))
              refine own_go (fun _ k => XS.ifNo X15.here hx rfl (hb hby at_238) rfl ((if0 _ _).trans (feq (by decide)).1) k) ?_
              show own_Go _ _ _ _ (T15.setTop (mkF m 241 #[.val (.int p1), .val (.int p2), .val (.int p3), .val (.int c0), .val (.int c1), .val (.int c2), .val (.int e0), .val (.int e1), .val (.int e2), .val (.long LL0), .second, .val (.long LL1), .second, .val (.long LL2), .second, .val (.long KK0), .second, .val (.long KK1), .second, .val (.long KK2), .second, .val (.ref b7), .val (.int (1 : Int32))] []))
              refine own_go (fun _ k => XS.aload X15.here hx rfl (hb hby at_241) rfl rfl k) ?_
              show own_Go _ _ _ _ (T15.setTop (mkF m 243 #[.val (.int p1), .val (.int p2), .val (.int p3), .val (.int c0), .val (.int c1), .val (.int c2), .val (.int e0), .val (.int e1), .val (.int e2), .val (.long LL0), .second, .val (.long LL1), .second, .val (.long LL2), .second, .val (.long KK0), .second, .val (.long KK1), .second, .val (.long KK2), .second, .val (.ref b7), .val (.int (1 : Int32))] [(.ref b7)]))
              obtain ⟨cq16, kq16, q16a, q16b, q16c⟩ := isOf hZ rfl A7
              obtain ⟨_, _, ⟨T16, L16, k16, n16⟩, -, X16, ⟨Lc16, hQ16, l16, y16, z16⟩, st16⟩ := X15.virtualBack hx (y := (⟨"com/example/ratatoskr/ratatoskr/content/TextPosition", "line", "()J"⟩ : MethodName)) (z := (⟨"com/example/ratatoskr/ratatoskr/content/TextPosition", "line", "()J"⟩ : MethodName)) hown (mvT hZ (hw _ (List.mem_of_getElem? (i := 30) rfl))) (mvT hZ (hw _ (List.mem_of_getElem? (i := 31) rfl))) (notFace_of_selects (args := #[]) (mvT hZ (hw _ (List.mem_of_getElem? (i := 33) rfl)))) (mvT hZ (hw _ (List.mem_of_getElem? (i := 33) rfl))) (mvT hZ (hw _ (List.mem_of_getElem? (i := 32) rfl))) (by decide) (own_back (W := 0) (own_rmG l Z a0 hw b7 _ T15.heap n0 Z0 Fx15) hZ (hw _ (List.mem_of_getElem? (i := 34) rfl)) (hw _ (List.mem_of_getElem? (i := 12) rfl)) (by decide) (by decide)) q16a q16c (g := (mkF m 243 #[.val (.int p1), .val (.int p2), .val (.int p3), .val (.int c0), .val (.int c1), .val (.int c2), .val (.int e0), .val (.int e1), .val (.int e2), .val (.long LL0), .second, .val (.long LL1), .second, .val (.long LL2), .second, .val (.long KK0), .second, .val (.long KK1), .second, .val (.long KK2), .second, .val (.ref b7), .val (.int (1 : Int32))] [(.ref b7)])) rfl (by rw [hml]; rfl) (Steps.refl _) (argsL := []) (rest := []) (lenOf own_pd4 rfl) rfl (by show 2 * 0 + _ ≤ _; exact Nat.le_of_eq rfl) (hb hby at_243) (fun _ _ => ⟨rfl, rfl, (by decide : 1 + 0 ≤ _), (by decide : 3 + 0 ≤ _)⟩)
              dsimp only [Pt.U, Pt.locs, Pt.cells, Pt.slots] at X16 l16 y16 z16 st16 hQ16
              subst l16 y16 z16
              obtain ⟨rfl, Nq16, eq16⟩ := hQ16
              have NF16 := Fr.app NF15 Nq16
              refine own_goT st16 ?_
              show own_Go _ _ _ _ (T16.setTop (mkF m 246 #[.val (.int p1), .val (.int p2), .val (.int p3), .val (.int c0), .val (.int c1), .val (.int c2), .val (.int e0), .val (.int e1), .val (.int e2), .val (.long LL0), .second, .val (.long LL1), .second, .val (.long LL2), .second, .val (.long KK0), .second, .val (.long KK1), .second, .val (.long KK2), .second, .val (.ref b7), .val (.int (1 : Int32))] [(.long (own_L c2 (own_r c1) (own_L c1 (own_r c0) (own_L c0 (0 : Int32) (1 : Int64)))))]))
              refine own_go (fun _ k => XS.lload X16.here hx rfl (hb hby at_246) rfl k) ?_
              show own_Go _ _ _ _ (T16.setTop (mkF m 248 #[.val (.int p1), .val (.int p2), .val (.int p3), .val (.int c0), .val (.int c1), .val (.int c2), .val (.int e0), .val (.int e1), .val (.int e2), .val (.long LL0), .second, .val (.long LL1), .second, .val (.long LL2), .second, .val (.long KK0), .second, .val (.long KK1), .second, .val (.long KK2), .second, .val (.ref b7), .val (.int (1 : Int32))] [(.long LL2), (.long (own_L c2 (own_r c1) (own_L c1 (own_r c0) (own_L c0 (0 : Int32) (1 : Int64)))))]))
              refine own_go (fun _ k => XS.lcmp X16.here hx rfl (hb hby at_248) rfl k) ?_
              show own_Go _ _ _ _ (T16.setTop (mkF m 249 #[.val (.int p1), .val (.int p2), .val (.int p3), .val (.int c0), .val (.int c1), .val (.int c2), .val (.int e0), .val (.int e1), .val (.int e2), .val (.long LL0), .second, .val (.long LL1), .second, .val (.long LL2), .second, .val (.long KK0), .second, .val (.long KK1), .second, .val (.long KK2), .second, .val (.ref b7), .val (.int (1 : Int32))] [(.int (lcmpW (own_L c2 (own_r c1) (own_L c1 (own_r c0) (own_L c0 (0 : Int32) (1 : Int64)))) LL2))]))
              refine own_go (fun _ k => XS.ifNo X16.here hx rfl (hb hby at_249) rfl ((if0 _ _).trans (teq ((lw_eq _ _).mpr (by rw [← hLL2, ← he2, ← hLL1, ← he1, ← hLL0, ← he0, ← own_L0, ← own_Ln, ← own_Ln]))).2) k) ?_
              show own_Go _ _ _ _ (T16.setTop (mkF m 252 #[.val (.int p1), .val (.int p2), .val (.int p3), .val (.int c0), .val (.int c1), .val (.int c2), .val (.int e0), .val (.int e1), .val (.int e2), .val (.long LL0), .second, .val (.long LL1), .second, .val (.long LL2), .second, .val (.long KK0), .second, .val (.long KK1), .second, .val (.long KK2), .second, .val (.ref b7), .val (.int (1 : Int32))] []))
              refine own_go (fun _ k => XS.aload X16.here hx rfl (hb hby at_252) rfl rfl k) ?_
              show own_Go _ _ _ _ (T16.setTop (mkF m 254 #[.val (.int p1), .val (.int p2), .val (.int p3), .val (.int c0), .val (.int c1), .val (.int c2), .val (.int e0), .val (.int e1), .val (.int e2), .val (.long LL0), .second, .val (.long LL1), .second, .val (.long LL2), .second, .val (.long KK0), .second, .val (.long KK1), .second, .val (.long KK2), .second, .val (.ref b7), .val (.int (1 : Int32))] [(.ref b7)]))
              obtain ⟨cq17, kq17, q17a, q17b, q17c⟩ := isOf hZ eq16 A7
              obtain ⟨_, _, ⟨T17, L17, k17, n17⟩, -, X17, ⟨Lc17, hQ17, l17, y17, z17⟩, st17⟩ := X16.virtualBack hx (y := (⟨"com/example/ratatoskr/ratatoskr/content/TextPosition", "column", "()J"⟩ : MethodName)) (z := (⟨"com/example/ratatoskr/ratatoskr/content/TextPosition", "column", "()J"⟩ : MethodName)) hown (mvT hZ (hw _ (List.mem_of_getElem? (i := 35) rfl))) (mvT hZ (hw _ (List.mem_of_getElem? (i := 36) rfl))) (notFace_of_selects (args := #[]) (mvT hZ (hw _ (List.mem_of_getElem? (i := 38) rfl)))) (mvT hZ (hw _ (List.mem_of_getElem? (i := 38) rfl))) (mvT hZ (hw _ (List.mem_of_getElem? (i := 37) rfl))) (by decide) (own_back (W := 0) (own_rmH l Z a0 hw b7 _ T15.heap n0 Z0 Fy15) hZ (hw _ (List.mem_of_getElem? (i := 39) rfl)) (hw _ (List.mem_of_getElem? (i := 12) rfl)) (by decide) (by decide)) q17a q17c (g := (mkF m 254 #[.val (.int p1), .val (.int p2), .val (.int p3), .val (.int c0), .val (.int c1), .val (.int c2), .val (.int e0), .val (.int e1), .val (.int e2), .val (.long LL0), .second, .val (.long LL1), .second, .val (.long LL2), .second, .val (.long KK0), .second, .val (.long KK1), .second, .val (.long KK2), .second, .val (.ref b7), .val (.int (1 : Int32))] [(.ref b7)])) rfl (by rw [hml]; rfl) (Steps.refl _) (argsL := []) (rest := []) (lenOf own_pd4 rfl) rfl (by show 2 * 0 + _ ≤ _; exact Nat.le_of_eq rfl) (hb hby at_254) (fun _ _ => ⟨rfl, eq16, (by decide : 1 + 0 ≤ _), (by decide : 3 + 0 ≤ _)⟩)
              dsimp only [Pt.U, Pt.locs, Pt.cells, Pt.slots] at X17 l17 y17 z17 st17 hQ17
              subst l17 y17 z17
              obtain ⟨rfl, Nq17, eq17⟩ := hQ17
              have NF17 := Fr.app NF16 Nq17
              refine own_goT st17 ?_
              show own_Go _ _ _ _ (T17.setTop (mkF m 257 #[.val (.int p1), .val (.int p2), .val (.int p3), .val (.int c0), .val (.int c1), .val (.int c2), .val (.int e0), .val (.int e1), .val (.int e2), .val (.long LL0), .second, .val (.long LL1), .second, .val (.long LL2), .second, .val (.long KK0), .second, .val (.long KK1), .second, .val (.long KK2), .second, .val (.ref b7), .val (.int (1 : Int32))] [(.long (own_K c2 (own_r c1) (own_K c1 (own_r c0) (own_K c0 (0 : Int32) (1 : Int64)))))]))
              refine own_go (fun _ k => XS.lload X17.here hx rfl (hb hby at_257) rfl k) ?_
              show own_Go _ _ _ _ (T17.setTop (mkF m 259 #[.val (.int p1), .val (.int p2), .val (.int p3), .val (.int c0), .val (.int c1), .val (.int c2), .val (.int e0), .val (.int e1), .val (.int e2), .val (.long LL0), .second, .val (.long LL1), .second, .val (.long LL2), .second, .val (.long KK0), .second, .val (.long KK1), .second, .val (.long KK2), .second, .val (.ref b7), .val (.int (1 : Int32))] [(.long KK2), (.long (own_K c2 (own_r c1) (own_K c1 (own_r c0) (own_K c0 (0 : Int32) (1 : Int64)))))]))
              refine own_go (fun _ k => XS.lcmp X17.here hx rfl (hb hby at_259) rfl k) ?_
              show own_Go _ _ _ _ (T17.setTop (mkF m 260 #[.val (.int p1), .val (.int p2), .val (.int p3), .val (.int c0), .val (.int c1), .val (.int c2), .val (.int e0), .val (.int e1), .val (.int e2), .val (.long LL0), .second, .val (.long LL1), .second, .val (.long LL2), .second, .val (.long KK0), .second, .val (.long KK1), .second, .val (.long KK2), .second, .val (.ref b7), .val (.int (1 : Int32))] [(.int (lcmpW (own_K c2 (own_r c1) (own_K c1 (own_r c0) (own_K c0 (0 : Int32) (1 : Int64)))) KK2))]))
              refine own_go (fun _ k => XS.ifNo X17.here hx rfl (hb hby at_260) rfl ((if0 _ _).trans (teq ((lw_eq _ _).mpr (by rw [← hKK2, ← he2, ← hKK1, ← he1, ← hKK0, ← he0, ← own_K0, ← own_Kn, ← own_Kn]))).2) k) ?_
              show own_Go _ _ _ _ (T17.setTop (mkF m 263 #[.val (.int p1), .val (.int p2), .val (.int p3), .val (.int c0), .val (.int c1), .val (.int c2), .val (.int e0), .val (.int e1), .val (.int e2), .val (.long LL0), .second, .val (.long LL1), .second, .val (.long LL2), .second, .val (.long KK0), .second, .val (.long KK1), .second, .val (.long KK2), .second, .val (.ref b7), .val (.int (1 : Int32))] []))
              refine own_go (fun _ k => XS.iconst X17.here hx rfl (hb hby at_263) k) ?_
              show own_Go _ _ _ _ (T17.setTop (mkF m 264 #[.val (.int p1), .val (.int p2), .val (.int p3), .val (.int c0), .val (.int c1), .val (.int c2), .val (.int e0), .val (.int e1), .val (.int e2), .val (.long LL0), .second, .val (.long LL1), .second, .val (.long LL2), .second, .val (.long KK0), .second, .val (.long KK1), .second, .val (.long KK2), .second, .val (.ref b7), .val (.int (1 : Int32))] [(.int (1 : Int32))]))
              refine own_go (fun _ k => XS.goto X17.here hx rfl (pc0 := 264) (pc' := 268) rfl (hb hby at_264) (by decide) (by decide) k) ?_
              show own_Go _ _ _ _ (T17.setTop (mkF m 268 #[.val (.int p1), .val (.int p2), .val (.int p3), .val (.int c0), .val (.int c1), .val (.int c2), .val (.int e0), .val (.int e1), .val (.int e2), .val (.long LL0), .second, .val (.long LL1), .second, .val (.long LL2), .second, .val (.long KK0), .second, .val (.long KK1), .second, .val (.long KK2), .second, .val (.ref b7), .val (.int (1 : Int32))] [(.int (1 : Int32))]))
              refine own_go (fun _ k => XS.istore X17.here hx rfl (hb hby at_268) rfl (l' := #[.val (.int p1), .val (.int p2), .val (.int p3), .val (.int c0), .val (.int c1), .val (.int c2), .val (.int e0), .val (.int e1), .val (.int e2), .val (.long LL0), .second, .val (.long LL1), .second, .val (.long LL2), .second, .val (.long KK0), .second, .val (.long KK1), .second, .val (.long KK2), .second, .val (.ref b7), .val (.int (1 : Int32))]) rfl k) ?_
              show own_Go _ _ _ _ (T17.setTop (mkF m 270 #[.val (.int p1), .val (.int p2), .val (.int p3), .val (.int c0), .val (.int c1), .val (.int c2), .val (.int e0), .val (.int e1), .val (.int e2), .val (.long LL0), .second, .val (.long LL1), .second, .val (.long LL2), .second, .val (.long KK0), .second, .val (.long KK1), .second, .val (.long KK2), .second, .val (.ref b7), .val (.int (1 : Int32))] []))
              refine own_go (fun _ k => XS.iload X17.here hx rfl (hb hby at_270) rfl k) ?_
              show own_Go _ _ _ _ (T17.setTop (mkF m 272 #[.val (.int p1), .val (.int p2), .val (.int p3), .val (.int c0), .val (.int c1), .val (.int c2), .val (.int e0), .val (.int e1), .val (.int e2), .val (.long LL0), .second, .val (.long LL1), .second, .val (.long LL2), .second, .val (.long KK0), .second, .val (.long KK1), .second, .val (.long KK2), .second, .val (.ref b7), .val (.int (1 : Int32))] [(.int (1 : Int32))]))
              refine own_ret X17 hlk (v := some (.int (1 : Int32))) (fun h => by rw [Bd.returns] at h; cases h) (fun fs hr => retN X17 hx (t := .boolean) Bd.returns (by simp) (hb hby at_272) hr) ?_ (by decide) (by decide)
              try rw [eq17]
              exact ⟨rfl, NF17⟩
            by_cases hc127 : e2 = (0 : Int32)
            · have _h := hc127
              refine own_go (fun _ k => XS.ifYes Xj123.here hx rfl (pc0 := 127) (pc' := 134) rfl (hb hby at_127) rfl ((if0 _ _).trans (teq hc127).1) (by decide) (by decide) k) ?_
              show own_Go _ _ _ _ (Tj123.setTop (mkF m 134 #[.val (.int p1), .val (.int p2), .val (.int p3), .val (.int c0), .val (.int c1), .val (.int c2), .val (.int e0), .val (.int e1), .val (.int e2), .val (.long LL0), .second, .val (.long LL1), .second, .val (.long LL2), .second, .val (.long KK0), .second, .val (.long KK1), .second, .unset, .unset, .unset, .unset] []))
              refine own_go (fun _ k => XS.lload Xj123.here hx rfl (hb hby at_134) rfl k) ?_
              show own_Go _ _ _ _ (Tj123.setTop (mkF m 136 #[.val (.int p1), .val (.int p2), .val (.int p3), .val (.int c0), .val (.int c1), .val (.int c2), .val (.int e0), .val (.int e1), .val (.int e2), .val (.long LL0), .second, .val (.long LL1), .second, .val (.long LL2), .second, .val (.long KK0), .second, .val (.long KK1), .second, .unset, .unset, .unset, .unset] [(.long KK1)]))
              refine own_go (fun _ k => XS.iload Xj123.here hx rfl (hb hby at_136) rfl k) ?_
              show own_Go _ _ _ _ (Tj123.setTop (mkF m 138 #[.val (.int p1), .val (.int p2), .val (.int p3), .val (.int c0), .val (.int c1), .val (.int c2), .val (.int e0), .val (.int e1), .val (.int e2), .val (.long LL0), .second, .val (.long LL1), .second, .val (.long LL2), .second, .val (.long KK0), .second, .val (.long KK1), .second, .unset, .unset, .unset, .unset] [(.int c2), (.long KK1)]))
              obtain ⟨_, _, ⟨T18, L18, k18, n18⟩, -, X18, ⟨Lc18, hQ18, l18, y18, z18⟩, st18⟩ := Jvm.LawKit.callS Xj123 hx (y := (⟨"com/example/ratatoskr/ratatoskr/content/TextPositionCountPinLaw", "text", "(C)J"⟩ : MethodName)) hown (mvT hZ (hw _ (List.mem_of_getElem? (i := 7) rfl))) (mvT hZ (hw _ (List.mem_of_getElem? (i := 8) rfl))) (mvT hZ (hw _ (List.mem_of_getElem? (i := 2) rfl))) (mvT hZ (hw _ (List.mem_of_getElem? (i := 9) rfl))) (by decide) (own_back (W := 2) (own_rmT l Z a0 hw c2 h0 n0 Z0) hZ (hw _ (List.mem_of_getElem? (i := 9) rfl)) (hw _ (List.mem_of_getElem? (i := 2) rfl)) (by decide) (by decide)) (g := (mkF m 138 #[.val (.int p1), .val (.int p2), .val (.int p3), .val (.int c0), .val (.int c1), .val (.int c2), .val (.int e0), .val (.int e1), .val (.int e2), .val (.long LL0), .second, .val (.long LL1), .second, .val (.long LL2), .second, .val (.long KK0), .second, .val (.long KK1), .second, .unset, .unset, .unset, .unset] [(.int c2), (.long KK1)])) rfl (by rw [hml]; rfl) (argsL := [(.int c2)]) (rest := [(.long KK1)]) (lenOf own_pd5 rfl) rfl (by show 2 * 0 + _ ≤ _; exact Nat.le_of_eq rfl) (hb hby at_138) (fun _ _ => ⟨rfl, ej123, (by decide : 0 + 0 ≤ _), (by decide : 0 + 0 ≤ _)⟩)
              dsimp only [Pt.U, Pt.locs, Pt.cells, Pt.slots] at X18 l18 y18 z18 st18 hQ18
              subst l18 y18 z18
              obtain ⟨rfl, Nq18, eq18⟩ := hQ18
              have NF18 := Fr.app Nj123 Nq18
              refine own_go st18 ?_
              show own_Go _ _ _ _ (T18.setTop (mkF m 141 #[.val (.int p1), .val (.int p2), .val (.int p3), .val (.int c0), .val (.int c1), .val (.int c2), .val (.int e0), .val (.int e1), .val (.int e2), .val (.long LL0), .second, .val (.long LL1), .second, .val (.long LL2), .second, .val (.long KK0), .second, .val (.long KK1), .second, .unset, .unset, .unset, .unset] [(.long (own_tx c2)), (.long KK1)]))
              refine own_go (fun _ k => XS.ladd X18.here hx rfl (hb hby at_141) rfl k) ?_
              show own_Go _ _ _ _ (T18.setTop (mkF m 142 #[.val (.int p1), .val (.int p2), .val (.int p3), .val (.int c0), .val (.int c1), .val (.int c2), .val (.int e0), .val (.int e1), .val (.int e2), .val (.long LL0), .second, .val (.long LL1), .second, .val (.long LL2), .second, .val (.long KK0), .second, .val (.long KK1), .second, .unset, .unset, .unset, .unset] [(.long (KK1 + (own_tx c2)))]))
              rw [show (own_k e2 (KK1 + (own_tx c2))) = (KK1 + (own_tx c2)) from if_pos hc127] at J142
              exact J142 _ _ X18 NF18 eq18
            · have _h := hc127
              refine own_go (fun _ k => XS.ifNo Xj123.here hx rfl (hb hby at_127) rfl ((if0 _ _).trans (feq hc127).1) k) ?_
              show own_Go _ _ _ _ (Tj123.setTop (mkF m 130 #[.val (.int p1), .val (.int p2), .val (.int p3), .val (.int c0), .val (.int c1), .val (.int c2), .val (.int e0), .val (.int e1), .val (.int e2), .val (.long LL0), .second, .val (.long LL1), .second, .val (.long LL2), .second, .val (.long KK0), .second, .val (.long KK1), .second, .unset, .unset, .unset, .unset] []))
              refine own_go (fun _ k => XS.lconst Xj123.here hx rfl (hb hby at_130) k) ?_
              show own_Go _ _ _ _ (Tj123.setTop (mkF m 131 #[.val (.int p1), .val (.int p2), .val (.int p3), .val (.int c0), .val (.int c1), .val (.int c2), .val (.int e0), .val (.int e1), .val (.int e2), .val (.long LL0), .second, .val (.long LL1), .second, .val (.long LL2), .second, .val (.long KK0), .second, .val (.long KK1), .second, .unset, .unset, .unset, .unset] [(.long (1 : Int64))]))
              refine own_go (fun _ k => XS.goto Xj123.here hx rfl (pc0 := 131) (pc' := 142) rfl (hb hby at_131) (by decide) (by decide) k) ?_
              show own_Go _ _ _ _ (Tj123.setTop (mkF m 142 #[.val (.int p1), .val (.int p2), .val (.int p3), .val (.int c0), .val (.int c1), .val (.int c2), .val (.int e0), .val (.int e1), .val (.int e2), .val (.long LL0), .second, .val (.long LL1), .second, .val (.long LL2), .second, .val (.long KK0), .second, .val (.long KK1), .second, .unset, .unset, .unset, .unset] [(.long (1 : Int64))]))
              rw [show (own_k e2 (KK1 + (own_tx c2))) = (1 : Int64) from if_neg hc127] at J142
              exact J142 _ _ Xj123 Nj123 ej123
          by_cases hc108 : e1 = (0 : Int32)
          · have _h := hc108
            refine own_go (fun _ k => XS.ifYes Xj104.here hx rfl (pc0 := 108) (pc' := 115) rfl (hb hby at_108) rfl ((if0 _ _).trans (teq hc108).1) (by decide) (by decide) k) ?_
            show own_Go _ _ _ _ (Tj104.setTop (mkF m 115 #[.val (.int p1), .val (.int p2), .val (.int p3), .val (.int c0), .val (.int c1), .val (.int c2), .val (.int e0), .val (.int e1), .val (.int e2), .val (.long LL0), .second, .val (.long LL1), .second, .val (.long LL2), .second, .val (.long KK0), .second, .unset, .unset, .unset, .unset, .unset, .unset] []))
            refine own_go (fun _ k => XS.lload Xj104.here hx rfl (hb hby at_115) rfl k) ?_
            show own_Go _ _ _ _ (Tj104.setTop (mkF m 117 #[.val (.int p1), .val (.int p2), .val (.int p3), .val (.int c0), .val (.int c1), .val (.int c2), .val (.int e0), .val (.int e1), .val (.int e2), .val (.long LL0), .second, .val (.long LL1), .second, .val (.long LL2), .second, .val (.long KK0), .second, .unset, .unset, .unset, .unset, .unset, .unset] [(.long KK0)]))
            refine own_go (fun _ k => XS.iload Xj104.here hx rfl (hb hby at_117) rfl k) ?_
            show own_Go _ _ _ _ (Tj104.setTop (mkF m 119 #[.val (.int p1), .val (.int p2), .val (.int p3), .val (.int c0), .val (.int c1), .val (.int c2), .val (.int e0), .val (.int e1), .val (.int e2), .val (.long LL0), .second, .val (.long LL1), .second, .val (.long LL2), .second, .val (.long KK0), .second, .unset, .unset, .unset, .unset, .unset, .unset] [(.int c1), (.long KK0)]))
            obtain ⟨_, _, ⟨T19, L19, k19, n19⟩, -, X19, ⟨Lc19, hQ19, l19, y19, z19⟩, st19⟩ := Jvm.LawKit.callS Xj104 hx (y := (⟨"com/example/ratatoskr/ratatoskr/content/TextPositionCountPinLaw", "text", "(C)J"⟩ : MethodName)) hown (mvT hZ (hw _ (List.mem_of_getElem? (i := 7) rfl))) (mvT hZ (hw _ (List.mem_of_getElem? (i := 8) rfl))) (mvT hZ (hw _ (List.mem_of_getElem? (i := 2) rfl))) (mvT hZ (hw _ (List.mem_of_getElem? (i := 9) rfl))) (by decide) (own_back (W := 2) (own_rmT l Z a0 hw c1 h0 n0 Z0) hZ (hw _ (List.mem_of_getElem? (i := 9) rfl)) (hw _ (List.mem_of_getElem? (i := 2) rfl)) (by decide) (by decide)) (g := (mkF m 119 #[.val (.int p1), .val (.int p2), .val (.int p3), .val (.int c0), .val (.int c1), .val (.int c2), .val (.int e0), .val (.int e1), .val (.int e2), .val (.long LL0), .second, .val (.long LL1), .second, .val (.long LL2), .second, .val (.long KK0), .second, .unset, .unset, .unset, .unset, .unset, .unset] [(.int c1), (.long KK0)])) rfl (by rw [hml]; rfl) (argsL := [(.int c1)]) (rest := [(.long KK0)]) (lenOf own_pd5 rfl) rfl (by show 2 * 0 + _ ≤ _; exact Nat.le_of_eq rfl) (hb hby at_119) (fun _ _ => ⟨rfl, ej104, (by decide : 0 + 0 ≤ _), (by decide : 0 + 0 ≤ _)⟩)
            dsimp only [Pt.U, Pt.locs, Pt.cells, Pt.slots] at X19 l19 y19 z19 st19 hQ19
            subst l19 y19 z19
            obtain ⟨rfl, Nq19, eq19⟩ := hQ19
            have NF19 := Fr.app Nj104 Nq19
            refine own_go st19 ?_
            show own_Go _ _ _ _ (T19.setTop (mkF m 122 #[.val (.int p1), .val (.int p2), .val (.int p3), .val (.int c0), .val (.int c1), .val (.int c2), .val (.int e0), .val (.int e1), .val (.int e2), .val (.long LL0), .second, .val (.long LL1), .second, .val (.long LL2), .second, .val (.long KK0), .second, .unset, .unset, .unset, .unset, .unset, .unset] [(.long (own_tx c1)), (.long KK0)]))
            refine own_go (fun _ k => XS.ladd X19.here hx rfl (hb hby at_122) rfl k) ?_
            show own_Go _ _ _ _ (T19.setTop (mkF m 123 #[.val (.int p1), .val (.int p2), .val (.int p3), .val (.int c0), .val (.int c1), .val (.int c2), .val (.int e0), .val (.int e1), .val (.int e2), .val (.long LL0), .second, .val (.long LL1), .second, .val (.long LL2), .second, .val (.long KK0), .second, .unset, .unset, .unset, .unset, .unset, .unset] [(.long (KK0 + (own_tx c1)))]))
            rw [show (own_k e1 (KK0 + (own_tx c1))) = (KK0 + (own_tx c1)) from if_pos hc108] at J123
            exact J123 _ _ X19 NF19 eq19
          · have _h := hc108
            refine own_go (fun _ k => XS.ifNo Xj104.here hx rfl (hb hby at_108) rfl ((if0 _ _).trans (feq hc108).1) k) ?_
            show own_Go _ _ _ _ (Tj104.setTop (mkF m 111 #[.val (.int p1), .val (.int p2), .val (.int p3), .val (.int c0), .val (.int c1), .val (.int c2), .val (.int e0), .val (.int e1), .val (.int e2), .val (.long LL0), .second, .val (.long LL1), .second, .val (.long LL2), .second, .val (.long KK0), .second, .unset, .unset, .unset, .unset, .unset, .unset] []))
            refine own_go (fun _ k => XS.lconst Xj104.here hx rfl (hb hby at_111) k) ?_
            show own_Go _ _ _ _ (Tj104.setTop (mkF m 112 #[.val (.int p1), .val (.int p2), .val (.int p3), .val (.int c0), .val (.int c1), .val (.int c2), .val (.int e0), .val (.int e1), .val (.int e2), .val (.long LL0), .second, .val (.long LL1), .second, .val (.long LL2), .second, .val (.long KK0), .second, .unset, .unset, .unset, .unset, .unset, .unset] [(.long (1 : Int64))]))
            refine own_go (fun _ k => XS.goto Xj104.here hx rfl (pc0 := 112) (pc' := 123) rfl (hb hby at_112) (by decide) (by decide) k) ?_
            show own_Go _ _ _ _ (Tj104.setTop (mkF m 123 #[.val (.int p1), .val (.int p2), .val (.int p3), .val (.int c0), .val (.int c1), .val (.int c2), .val (.int e0), .val (.int e1), .val (.int e2), .val (.long LL0), .second, .val (.long LL1), .second, .val (.long LL2), .second, .val (.long KK0), .second, .unset, .unset, .unset, .unset, .unset, .unset] [(.long (1 : Int64))]))
            rw [show (own_k e1 (KK0 + (own_tx c1))) = (1 : Int64) from if_neg hc108] at J123
            exact J123 _ _ Xj104 Nj104 ej104
        by_cases hc91 : e0 = (0 : Int32)
        · have _h := hc91
          refine own_go (fun _ k => XS.ifYes X6.here hx rfl (pc0 := 91) (pc' := 98) rfl (hb hby at_91) rfl ((if0 _ _).trans (teq hc91).1) (by decide) (by decide) k) ?_
          show own_Go _ _ _ _ (T6.setTop (mkF m 98 #[.val (.int p1), .val (.int p2), .val (.int p3), .val (.int c0), .val (.int c1), .val (.int c2), .val (.int e0), .val (.int e1), .val (.int e2), .val (.long LL0), .second, .val (.long LL1), .second, .val (.long LL2), .second, .unset, .unset, .unset, .unset, .unset, .unset, .unset, .unset] []))
          refine own_go (fun _ k => XS.lconst X6.here hx rfl (hb hby at_98) k) ?_
          show own_Go _ _ _ _ (T6.setTop (mkF m 99 #[.val (.int p1), .val (.int p2), .val (.int p3), .val (.int c0), .val (.int c1), .val (.int c2), .val (.int e0), .val (.int e1), .val (.int e2), .val (.long LL0), .second, .val (.long LL1), .second, .val (.long LL2), .second, .unset, .unset, .unset, .unset, .unset, .unset, .unset, .unset] [(.long (1 : Int64))]))
          refine own_go (fun _ k => XS.iloadN X6.here hx rfl (hb hby at_99) rfl k) ?_
          show own_Go _ _ _ _ (T6.setTop (mkF m 100 #[.val (.int p1), .val (.int p2), .val (.int p3), .val (.int c0), .val (.int c1), .val (.int c2), .val (.int e0), .val (.int e1), .val (.int e2), .val (.long LL0), .second, .val (.long LL1), .second, .val (.long LL2), .second, .unset, .unset, .unset, .unset, .unset, .unset, .unset, .unset] [(.int c0), (.long (1 : Int64))]))
          obtain ⟨_, _, ⟨T20, L20, k20, n20⟩, -, X20, ⟨Lc20, hQ20, l20, y20, z20⟩, st20⟩ := Jvm.LawKit.callS X6 hx (y := (⟨"com/example/ratatoskr/ratatoskr/content/TextPositionCountPinLaw", "text", "(C)J"⟩ : MethodName)) hown (mvT hZ (hw _ (List.mem_of_getElem? (i := 7) rfl))) (mvT hZ (hw _ (List.mem_of_getElem? (i := 8) rfl))) (mvT hZ (hw _ (List.mem_of_getElem? (i := 2) rfl))) (mvT hZ (hw _ (List.mem_of_getElem? (i := 9) rfl))) (by decide) (own_back (W := 2) (own_rmT l Z a0 hw c0 h0 n0 Z0) hZ (hw _ (List.mem_of_getElem? (i := 9) rfl)) (hw _ (List.mem_of_getElem? (i := 2) rfl)) (by decide) (by decide)) (g := (mkF m 100 #[.val (.int p1), .val (.int p2), .val (.int p3), .val (.int c0), .val (.int c1), .val (.int c2), .val (.int e0), .val (.int e1), .val (.int e2), .val (.long LL0), .second, .val (.long LL1), .second, .val (.long LL2), .second, .unset, .unset, .unset, .unset, .unset, .unset, .unset, .unset] [(.int c0), (.long (1 : Int64))])) rfl (by rw [hml]; rfl) (argsL := [(.int c0)]) (rest := [(.long (1 : Int64))]) (lenOf own_pd5 rfl) rfl (by show 2 * 0 + _ ≤ _; exact Nat.le_of_eq rfl) (hb hby at_100) (fun _ _ => ⟨rfl, eq6, (by decide : 0 + 0 ≤ _), (by decide : 0 + 0 ≤ _)⟩)
          dsimp only [Pt.U, Pt.locs, Pt.cells, Pt.slots] at X20 l20 y20 z20 st20 hQ20
          subst l20 y20 z20
          obtain ⟨rfl, Nq20, eq20⟩ := hQ20
          have NF20 := Fr.app NF6 Nq20
          refine own_go st20 ?_
          show own_Go _ _ _ _ (T20.setTop (mkF m 103 #[.val (.int p1), .val (.int p2), .val (.int p3), .val (.int c0), .val (.int c1), .val (.int c2), .val (.int e0), .val (.int e1), .val (.int e2), .val (.long LL0), .second, .val (.long LL1), .second, .val (.long LL2), .second, .unset, .unset, .unset, .unset, .unset, .unset, .unset, .unset] [(.long (own_tx c0)), (.long (1 : Int64))]))
          refine own_go (fun _ k => XS.ladd X20.here hx rfl (hb hby at_103) rfl k) ?_
          show own_Go _ _ _ _ (T20.setTop (mkF m 104 #[.val (.int p1), .val (.int p2), .val (.int p3), .val (.int c0), .val (.int c1), .val (.int c2), .val (.int e0), .val (.int e1), .val (.int e2), .val (.long LL0), .second, .val (.long LL1), .second, .val (.long LL2), .second, .unset, .unset, .unset, .unset, .unset, .unset, .unset, .unset] [(.long ((1 : Int64) + (own_tx c0)))]))
          rw [show (own_k e0 ((1 : Int64) + (own_tx c0))) = ((1 : Int64) + (own_tx c0)) from if_pos hc91] at J104
          exact J104 _ _ X20 NF20 eq20
        · have _h := hc91
          refine own_go (fun _ k => XS.ifNo X6.here hx rfl (hb hby at_91) rfl ((if0 _ _).trans (feq hc91).1) k) ?_
          show own_Go _ _ _ _ (T6.setTop (mkF m 94 #[.val (.int p1), .val (.int p2), .val (.int p3), .val (.int c0), .val (.int c1), .val (.int c2), .val (.int e0), .val (.int e1), .val (.int e2), .val (.long LL0), .second, .val (.long LL1), .second, .val (.long LL2), .second, .unset, .unset, .unset, .unset, .unset, .unset, .unset, .unset] []))
          refine own_go (fun _ k => XS.lconst X6.here hx rfl (hb hby at_94) k) ?_
          show own_Go _ _ _ _ (T6.setTop (mkF m 95 #[.val (.int p1), .val (.int p2), .val (.int p3), .val (.int c0), .val (.int c1), .val (.int c2), .val (.int e0), .val (.int e1), .val (.int e2), .val (.long LL0), .second, .val (.long LL1), .second, .val (.long LL2), .second, .unset, .unset, .unset, .unset, .unset, .unset, .unset, .unset] [(.long (1 : Int64))]))
          refine own_go (fun _ k => XS.goto X6.here hx rfl (pc0 := 95) (pc' := 104) rfl (hb hby at_95) (by decide) (by decide) k) ?_
          show own_Go _ _ _ _ (T6.setTop (mkF m 104 #[.val (.int p1), .val (.int p2), .val (.int p3), .val (.int c0), .val (.int c1), .val (.int c2), .val (.int e0), .val (.int e1), .val (.int e2), .val (.long LL0), .second, .val (.long LL1), .second, .val (.long LL2), .second, .unset, .unset, .unset, .unset, .unset, .unset, .unset, .unset] [(.long (1 : Int64))]))
          rw [show (own_k e0 ((1 : Int64) + (own_tx c0))) = (1 : Int64) from if_neg hc91] at J104
          exact J104 _ _ X6 NF6 eq6
      by_cases hc78 : e2 = (0 : Int32)
      · have _h := hc78
        refine own_go (fun _ k => XS.ifYes X6.here hx rfl (pc0 := 78) (pc' := 85) rfl (hb hby at_78) rfl ((if0 _ _).trans (teq hc78).1) (by decide) (by decide) k) ?_
        show own_Go _ _ _ _ (T6.setTop (mkF m 85 #[.val (.int p1), .val (.int p2), .val (.int p3), .val (.int c0), .val (.int c1), .val (.int c2), .val (.int e0), .val (.int e1), .val (.int e2), .val (.long LL0), .second, .val (.long LL1), .second, .unset, .unset, .unset, .unset, .unset, .unset, .unset, .unset, .unset, .unset] [(.long LL1)]))
        refine own_go (fun _ k => XS.lconst X6.here hx rfl (hb hby at_85) k) ?_
        show own_Go _ _ _ _ (T6.setTop (mkF m 86 #[.val (.int p1), .val (.int p2), .val (.int p3), .val (.int c0), .val (.int c1), .val (.int c2), .val (.int e0), .val (.int e1), .val (.int e2), .val (.long LL0), .second, .val (.long LL1), .second, .unset, .unset, .unset, .unset, .unset, .unset, .unset, .unset, .unset, .unset] [(.long (0 : Int64)), (.long LL1)]))
        rw [show (own_b e2) = (0 : Int64) from if_pos hc78] at J86
        exact J86
      · have _h := hc78
        refine own_go (fun _ k => XS.ifNo X6.here hx rfl (hb hby at_78) rfl ((if0 _ _).trans (feq hc78).1) k) ?_
        show own_Go _ _ _ _ (T6.setTop (mkF m 81 #[.val (.int p1), .val (.int p2), .val (.int p3), .val (.int c0), .val (.int c1), .val (.int c2), .val (.int e0), .val (.int e1), .val (.int e2), .val (.long LL0), .second, .val (.long LL1), .second, .unset, .unset, .unset, .unset, .unset, .unset, .unset, .unset, .unset, .unset] [(.long LL1)]))
        refine own_go (fun _ k => XS.lconst X6.here hx rfl (hb hby at_81) k) ?_
        show own_Go _ _ _ _ (T6.setTop (mkF m 82 #[.val (.int p1), .val (.int p2), .val (.int p3), .val (.int c0), .val (.int c1), .val (.int c2), .val (.int e0), .val (.int e1), .val (.int e2), .val (.long LL0), .second, .val (.long LL1), .second, .unset, .unset, .unset, .unset, .unset, .unset, .unset, .unset, .unset, .unset] [(.long (1 : Int64)), (.long LL1)]))
        refine own_go (fun _ k => XS.goto X6.here hx rfl (pc0 := 82) (pc' := 86) rfl (hb hby at_82) (by decide) (by decide) k) ?_
        show own_Go _ _ _ _ (T6.setTop (mkF m 86 #[.val (.int p1), .val (.int p2), .val (.int p3), .val (.int c0), .val (.int c1), .val (.int c2), .val (.int e0), .val (.int e1), .val (.int e2), .val (.long LL0), .second, .val (.long LL1), .second, .unset, .unset, .unset, .unset, .unset, .unset, .unset, .unset, .unset, .unset] [(.long (1 : Int64)), (.long LL1)]))
        rw [show (own_b e2) = (1 : Int64) from if_neg hc78] at J86
        exact J86
    by_cases hc63 : e1 = (0 : Int32)
    · have _h := hc63
      refine own_go (fun _ k => XS.ifYes X6.here hx rfl (pc0 := 63) (pc' := 70) rfl (hb hby at_63) rfl ((if0 _ _).trans (teq hc63).1) (by decide) (by decide) k) ?_
      show own_Go _ _ _ _ (T6.setTop (mkF m 70 #[.val (.int p1), .val (.int p2), .val (.int p3), .val (.int c0), .val (.int c1), .val (.int c2), .val (.int e0), .val (.int e1), .val (.int e2), .val (.long LL0), .second, .unset, .unset, .unset, .unset, .unset, .unset, .unset, .unset, .unset, .unset, .unset, .unset] [(.long LL0)]))
      refine own_go (fun _ k => XS.lconst X6.here hx rfl (hb hby at_70) k) ?_
      show own_Go _ _ _ _ (T6.setTop (mkF m 71 #[.val (.int p1), .val (.int p2), .val (.int p3), .val (.int c0), .val (.int c1), .val (.int c2), .val (.int e0), .val (.int e1), .val (.int e2), .val (.long LL0), .second, .unset, .unset, .unset, .unset, .unset, .unset, .unset, .unset, .unset, .unset, .unset, .unset] [(.long (0 : Int64)), (.long LL0)]))
      rw [show (own_b e1) = (0 : Int64) from if_pos hc63] at J71
      exact J71
    · have _h := hc63
      refine own_go (fun _ k => XS.ifNo X6.here hx rfl (hb hby at_63) rfl ((if0 _ _).trans (feq hc63).1) k) ?_
      show own_Go _ _ _ _ (T6.setTop (mkF m 66 #[.val (.int p1), .val (.int p2), .val (.int p3), .val (.int c0), .val (.int c1), .val (.int c2), .val (.int e0), .val (.int e1), .val (.int e2), .val (.long LL0), .second, .unset, .unset, .unset, .unset, .unset, .unset, .unset, .unset, .unset, .unset, .unset, .unset] [(.long LL0)]))
      refine own_go (fun _ k => XS.lconst X6.here hx rfl (hb hby at_66) k) ?_
      show own_Go _ _ _ _ (T6.setTop (mkF m 67 #[.val (.int p1), .val (.int p2), .val (.int p3), .val (.int c0), .val (.int c1), .val (.int c2), .val (.int e0), .val (.int e1), .val (.int e2), .val (.long LL0), .second, .unset, .unset, .unset, .unset, .unset, .unset, .unset, .unset, .unset, .unset, .unset, .unset] [(.long (1 : Int64)), (.long LL0)]))
      refine own_go (fun _ k => XS.goto X6.here hx rfl (pc0 := 67) (pc' := 71) rfl (hb hby at_67) (by decide) (by decide) k) ?_
      show own_Go _ _ _ _ (T6.setTop (mkF m 71 #[.val (.int p1), .val (.int p2), .val (.int p3), .val (.int c0), .val (.int c1), .val (.int c2), .val (.int e0), .val (.int e1), .val (.int e2), .val (.long LL0), .second, .unset, .unset, .unset, .unset, .unset, .unset, .unset, .unset, .unset, .unset, .unset, .unset] [(.long (1 : Int64)), (.long LL0)]))
      rw [show (own_b e1) = (1 : Int64) from if_neg hc63] at J71
      exact J71
  by_cases hc48 : e0 = (0 : Int32)
  · have _h := hc48
    refine own_go (fun _ k => XS.ifYes X6.here hx rfl (pc0 := 48) (pc' := 55) rfl (hb hby at_48) rfl ((if0 _ _).trans (teq hc48).1) (by decide) (by decide) k) ?_
    show own_Go _ _ _ _ (T6.setTop (mkF m 55 #[.val (.int p1), .val (.int p2), .val (.int p3), .val (.int c0), .val (.int c1), .val (.int c2), .val (.int e0), .val (.int e1), .val (.int e2), .unset, .unset, .unset, .unset, .unset, .unset, .unset, .unset, .unset, .unset, .unset, .unset, .unset, .unset] [(.long (1 : Int64))]))
    refine own_go (fun _ k => XS.lconst X6.here hx rfl (hb hby at_55) k) ?_
    show own_Go _ _ _ _ (T6.setTop (mkF m 56 #[.val (.int p1), .val (.int p2), .val (.int p3), .val (.int c0), .val (.int c1), .val (.int c2), .val (.int e0), .val (.int e1), .val (.int e2), .unset, .unset, .unset, .unset, .unset, .unset, .unset, .unset, .unset, .unset, .unset, .unset, .unset, .unset] [(.long (0 : Int64)), (.long (1 : Int64))]))
    rw [show (own_b e0) = (0 : Int64) from if_pos hc48] at J56
    exact J56
  · have _h := hc48
    refine own_go (fun _ k => XS.ifNo X6.here hx rfl (hb hby at_48) rfl ((if0 _ _).trans (feq hc48).1) k) ?_
    show own_Go _ _ _ _ (T6.setTop (mkF m 51 #[.val (.int p1), .val (.int p2), .val (.int p3), .val (.int c0), .val (.int c1), .val (.int c2), .val (.int e0), .val (.int e1), .val (.int e2), .unset, .unset, .unset, .unset, .unset, .unset, .unset, .unset, .unset, .unset, .unset, .unset, .unset, .unset] [(.long (1 : Int64))]))
    refine own_go (fun _ k => XS.lconst X6.here hx rfl (hb hby at_51) k) ?_
    show own_Go _ _ _ _ (T6.setTop (mkF m 52 #[.val (.int p1), .val (.int p2), .val (.int p3), .val (.int c0), .val (.int c1), .val (.int c2), .val (.int e0), .val (.int e1), .val (.int e2), .unset, .unset, .unset, .unset, .unset, .unset, .unset, .unset, .unset, .unset, .unset, .unset, .unset, .unset] [(.long (1 : Int64)), (.long (1 : Int64))]))
    refine own_go (fun _ k => XS.goto X6.here hx rfl (pc0 := 52) (pc' := 56) rfl (hb hby at_52) (by decide) (by decide) k) ?_
    show own_Go _ _ _ _ (T6.setTop (mkF m 56 #[.val (.int p1), .val (.int p2), .val (.int p3), .val (.int c0), .val (.int c1), .val (.int c2), .val (.int e0), .val (.int e1), .val (.int e2), .unset, .unset, .unset, .unset, .unset, .unset, .unset, .unset, .unset, .unset, .unset, .unset, .unset, .unset] [(.long (1 : Int64)), (.long (1 : Int64))]))
    rw [show (own_b e0) = (1 : Int64) from if_neg hc48] at J56
    exact J56
set_option maxRecDepth 65536 in
set_option maxHeartbeats 40000000 in
theorem own_comes {Post : Tables → Env → Array Value → State → Outcome → State → Prop} (hpost : ∀ tb e args s v u, (limb_1_1.after args s (.returned v) u = true ∧ limb_1_2.after args s (.returned v) u = true ∧ True) → FrameEnd s (.returned v) u (Jvm.fieldLocs frame_1_writes args s ++ Jvm.arrayLocs frame_1_arrays args s ++ Jvm.staticLocs frame_1_statics s) 16 128 → Post tb e args s (.returned v) u) :
    ArmFor flags0 classFile x code maxLocals ret World_1 tables_1 room_1 Calls_1 rest_1 Pre_1 Post := by
  intro l hfl _ _ p e ha hc hk s m args below hf hA hF happ hP
  obtain ⟨hcalls, hrest, hpre⟩ := hP
  obtain ⟨-, -, -, hnamed, -, -, -, hat⟩ := (Spec.applies_iff hf).mp happ
  obtain ⟨hg, hn⟩ := and_e (Cond.before_iff.mp (show (Jvm.Cond.and given_1 narrow_1).before args s = true from hpre))
  obtain ⟨hcount, hg⟩ := and_e hg
  obtain ⟨ha0, hg⟩ := and_e hg
  obtain ⟨ha1, hg⟩ := and_e hg
  obtain ⟨w0, w1, w2, rfl⟩ : ∃ w0 w1 w2 : Value, args = #[w0, w1, w2] := by
    have hs : args.size = 3 := by simpa [Cond.value, given_1] using hcount
    obtain ⟨L⟩ := args
    match L, hs with
    | [w0, w1, w2], _ => exact ⟨w0, w1, w2, rfl⟩
  have hw := fun d (hd : d ∈ tables_1) => atoms_spec (ws := Jvm.Cond.code x code maxLocals ret :: tables_1) hat d (List.mem_cons_of_mem _ hd)
  have hfit : Fit s := fun {y c} hc i hi => by
    obtain ⟨ha, rfl⟩ := Array.getElem?_eq_some_iff.mp hc
    have q := List.all_eq_true.mp ((Array.all_eq_true_iff_forall_mem.mp hF) _ (Array.getElem_mem ha)) i (List.mem_range.mpr hi)
    simpa [Array.getElem?_eq_getElem hi] using q
  obtain ⟨i0, ei0⟩ := is_v ha0
  obtain rfl : w0 = (.int i0) := Option.some.inj ei0
  obtain ⟨i1, ei1⟩ := is_v ha1
  obtain rfl : w1 = (.int i1) := Option.some.inj ei1
  obtain ⟨i2, ei2⟩ := is_v hg
  obtain rfl : w2 = (.int i2) := Option.some.inj ei2
  obtain ⟨n, o, h1, h2, h3, _, L, rfl, ⟨rfl, N⟩, hq⟩ := own_rm0 l s _ hw i0 i1 i2 s.heap s.heap.size (Nat.le_refl _)  p e ha hc hk s m _ below hf ((Spec.applies_iff_loose hf).mp happ).1 ⟨rfl, State.Warmed39.refl s, rfl⟩ trivial
  refine ⟨n, _, h1, h2, h3, hpost _ _ _ _ _ _ ⟨Cond.after_iff.mpr rfl, Cond.after_iff.mpr (eq_i res_at (Term.int_eval (1)) rfl), trivial⟩ ⟨hq.1, hq.2.1, (hq.2.2.sift fun y hy => Or.inr (N y hy)).mono (by decide) (by decide)⟩⟩
theorem main_1_1 : Claimed_1_1 := own_comes fun _ _ _ _ _ _ h hF => ⟨h.1, hF⟩
theorem main_1_2 : Claimed_1_2 := own_comes fun _ _ _ _ _ _ h hF => ⟨h.2.1, hF⟩
end Jvm.Pilot.@@N@@
namespace Jvm.Pilot.@@N@@
open Jvm Jvm.ClassFile Sem Op Lib Jvm.Free Jvm.Stand Jvm.Pilot.@@N@@.Jvm.D
/-! MADE BY PROGRAM (witnessworld.py) out of the Statement's table words and the real class files: 9 classes; the members and pool entries that the words name. The judged class is class 1, her method 4. -/
namespace start1
open Jvm.ClassFile
def u (s : String) : CpInfo := .utf8 (stringToUtf16 s)
/-- a pool by its gaps: so many unusable entries, then the entry; so many at the end -/
def gap : Nat → List CpInfo → List CpInfo
  | 0, r => r
  | n + 1, r => .unusable :: gap n r
def poolList (es : List (Nat × CpInfo)) (last : Nat) : List CpInfo := es.foldr (fun e r => gap e.1 (e.2 :: r)) (gap last [])
def pool (es : List (Nat × CpInfo)) (last : Nat) : Array CpInfo := ⟨poolList es last⟩
def fileOf (pool : Array CpInfo) (this : Nat) (attrs : Array Attribute := #[]) (ms : Array MethodInfo := #[]) (fl : Nat := 33) (sup : Nat := 0) (ifs : Array Nat := #[]) (fds : Array FieldInfo := #[]) : ClassFile where
  minorVersion := 0
  majorVersion := 65
  constantPool := pool
  accessFlags := fl
  thisClass := this
  superClass := sup
  interfaces := ifs
  fields := fds
  methods := ms
  attributes := attrs
def plain (name : String) (sup : Option ClassId) : Class where
  name := name
  kind := .ordinary
  loader := none
  accessFlags := 33
  super := sup
  interfaces := #[]
  cf := none
  fields := #[]
  methods := #[]
  instanceTypes := #[]
  staticTypes := #[]
  resolved := #[]
  callSites := []
  init := .initialized
  statics := none
  mirror := none

def pool0 : Array CpInfo := pool [(5, u "<init>"), (0, u "()V"), (1, .class_ 10), (1, u "java/lang/Object")] 113

def k0c0 : Code := { maxStack := 0, maxLocals := 1, code := object_method_1_code, exceptionTable := #[], attributes := #[] }
def k0m0 : Method := { name := "<init>", desc := "()V", sig := { parameters := [], returnType := none }, accessFlags := 1, code := some k0c0 }
/-- java/lang/Object -/
def k0 : Class := { plain "java/lang/Object" none with
  accessFlags := 33
  interfaces := #[]
  cf := some (fileOf pool0 8 #[] #[{ accessFlags := 1, nameIndex := 5, descriptorIndex := 6, attributes := #[] }] 33 0 #[] #[])
  fields := #[]
  methods := #[k0m0]
  instanceTypes := #[]
  staticTypes := #[]
  resolved := Array.replicate 124 none
  statics := none }

def pool1 : Array CpInfo := pool [(2, .class_ 4), (0, .nameAndType 5 6), (0, u "java/lang/Object"), (0, u "<init>"), (0, u "()V"), (0, .methodref 8 9), (0, .class_ 10), (0, .nameAndType 11 12), (0, u "com/example/ratatoskr/ratatoskr/content/TextPositionCountPinLaw"), (0, u "pick"), (0, u "(I)C"), (0, .methodref 8 14), (0, .nameAndType 15 16), (0, u "ends"), (0, u "(ZCC)Z"), (0, .methodref 8 18), (0, .nameAndType 19 20), (0, u "text"), (0, u "(C)J"), (0, .class_ 22), (0, u "com/example/ratatoskr/ratatoskr/content/TextPosition"), (0, .methodref 21 3), (0, .methodref 21 25), (0, .nameAndType 26 27), (0, u "count"), (0, u "(C)V"), (0, .methodref 21 29), (0, .nameAndType 30 31), (0, u "line"), (0, u "()J"), (0, .methodref 21 33), (0, .nameAndType 34 31), (0, u "column"), (3, u "law"), (0, u "(III)Z")] 2

def k1m0 : Method := { name := "<init>", desc := "()V", sig := { parameters := [], returnType := none }, accessFlags := 1, code := none }
def k1c1 : Code := { maxStack := 2, maxLocals := 2, code := method_2_code, exceptionTable := #[], attributes := #[] }
def k1m1 : Method := { name := "pick", desc := "(I)C", sig := { parameters := [.int], returnType := some .char }, accessFlags := 10, code := some k1c1 }
def k1c2 : Code := { maxStack := 2, maxLocals := 3, code := method_3_code, exceptionTable := #[], attributes := #[] }
def k1m2 : Method := { name := "ends", desc := "(ZCC)Z", sig := { parameters := [.boolean, .char, .char], returnType := some .boolean }, accessFlags := 10, code := some k1c2 }
def k1c3 : Code := { maxStack := 2, maxLocals := 1, code := method_4_code, exceptionTable := #[], attributes := #[] }
def k1m3 : Method := { name := "text", desc := "(C)J", sig := { parameters := [.char], returnType := some .long }, accessFlags := 10, code := some k1c3 }
def k1c4 : Code := { maxStack := 4, maxLocals := 23, code := code, exceptionTable := #[], attributes := #[] }
def k1m4 : Method := { name := "law", desc := "(III)Z", sig := { parameters := [.int, .int, .int], returnType := some .boolean }, accessFlags := 9, code := some k1c4 }
/-- com/example/ratatoskr/ratatoskr/content/TextPositionCountPinLaw -/
def k1 : Class := { plain "com/example/ratatoskr/ratatoskr/content/TextPositionCountPinLaw" (some 0) with
  accessFlags := 49
  interfaces := #[]
  cf := some (fileOf pool1 8 #[] #[{ accessFlags := 1, nameIndex := 5, descriptorIndex := 6, attributes := #[] }, { accessFlags := 10, nameIndex := 11, descriptorIndex := 12, attributes := #[] }, { accessFlags := 10, nameIndex := 15, descriptorIndex := 16, attributes := #[] }, { accessFlags := 10, nameIndex := 19, descriptorIndex := 20, attributes := #[] }, { accessFlags := 9, nameIndex := 38, descriptorIndex := 39, attributes := #[] }] 49 2 #[] #[])
  fields := #[]
  methods := #[k1m0, k1m1, k1m2, k1m3, k1m4]
  instanceTypes := #[]
  staticTypes := #[]
  resolved := Array.replicate 42 none
  statics := none }

def pool2 : Array CpInfo := pool [(1, .methodref 2 3), (0, .class_ 4), (0, .nameAndType 5 6), (0, u "java/lang/Object"), (0, u "<init>"), (0, u "()V"), (0, .fieldref 8 9), (0, .class_ 10), (0, .nameAndType 11 12), (0, u "com/example/ratatoskr/ratatoskr/content/TextPosition"), (0, u "line"), (0, u "J"), (0, .fieldref 8 14), (0, .nameAndType 15 12), (0, u "column"), (0, .fieldref 8 17), (0, .nameAndType 18 19), (0, u "afterReturn"), (0, u "Z"), (2, u "count"), (0, u "(C)V"), (1, u "()J")] 2

def k2c0 : Code := { maxStack := 3, maxLocals := 1, code := prog_6_method_1_code, exceptionTable := #[], attributes := #[] }
def k2m0 : Method := { name := "<init>", desc := "()V", sig := { parameters := [], returnType := none }, accessFlags := 1, code := some k2c0 }
def k2c1 : Code := { maxStack := 5, maxLocals := 2, code := prog_6_method_2_code, exceptionTable := #[], attributes := #[] }
def k2m1 : Method := { name := "count", desc := "(C)V", sig := { parameters := [.char], returnType := none }, accessFlags := 1, code := some k2c1 }
def k2c2 : Code := { maxStack := 2, maxLocals := 1, code := prog_6_method_3_code, exceptionTable := #[], attributes := #[] }
def k2m2 : Method := { name := "line", desc := "()J", sig := { parameters := [], returnType := some .long }, accessFlags := 1, code := some k2c2 }
def k2c3 : Code := { maxStack := 2, maxLocals := 1, code := prog_6_method_4_code, exceptionTable := #[], attributes := #[] }
def k2m3 : Method := { name := "column", desc := "()J", sig := { parameters := [], returnType := some .long }, accessFlags := 1, code := some k2c3 }
/-- com/example/ratatoskr/ratatoskr/content/TextPosition -/
def k2 : Class := { plain "com/example/ratatoskr/ratatoskr/content/TextPosition" (some 0) with
  accessFlags := 49
  interfaces := #[]
  cf := some (fileOf pool2 8 #[] #[{ accessFlags := 1, nameIndex := 5, descriptorIndex := 6, attributes := #[] }, { accessFlags := 1, nameIndex := 22, descriptorIndex := 23, attributes := #[] }, { accessFlags := 1, nameIndex := 11, descriptorIndex := 25, attributes := #[] }, { accessFlags := 1, nameIndex := 15, descriptorIndex := 25, attributes := #[] }] 49 2 #[] #[{ accessFlags := 2, nameIndex := 11, descriptorIndex := 12, attributes := #[] }, { accessFlags := 2, nameIndex := 15, descriptorIndex := 12, attributes := #[] }, { accessFlags := 2, nameIndex := 18, descriptorIndex := 19, attributes := #[] }])
  fields := #[{ name := "line", type := .long, accessFlags := 2, slot := 0, constantValue := 0 }, { name := "column", type := .long, accessFlags := 2, slot := 1, constantValue := 0 }, { name := "afterReturn", type := .boolean, accessFlags := 2, slot := 2, constantValue := 0 }]
  methods := #[k2m0, k2m1, k2m2, k2m3]
  instanceTypes := #[.long, .long, .boolean]
  staticTypes := #[]
  resolved := Array.replicate 28 none
  statics := none }

def pool3 : Array CpInfo := pool [(1, u "java/lang/Cloneable"), (0, .class_ 1), (0, u "java/lang/Object"), (0, .class_ 3)] 3

/-- java/lang/Cloneable -/
def k3 : Class := { plain "java/lang/Cloneable" (some 0) with
  accessFlags := 1537
  interfaces := #[]
  cf := some (fileOf pool3 2 #[] #[] 1537 4 #[] #[])
  fields := #[]
  methods := #[]
  instanceTypes := #[]
  staticTypes := #[]
  resolved := Array.replicate 8 none
  statics := none }

def pool4 : Array CpInfo := pool [(1, u "java/io/Serializable"), (0, .class_ 1), (0, u "java/lang/Object"), (0, .class_ 3)] 3

/-- java/io/Serializable -/
def k4 : Class := { plain "java/io/Serializable" (some 0) with
  accessFlags := 1537
  interfaces := #[]
  cf := some (fileOf pool4 2 #[] #[] 1537 4 #[] #[])
  fields := #[]
  methods := #[]
  instanceTypes := #[]
  staticTypes := #[]
  resolved := Array.replicate 8 none
  statics := none }

/-- the primitive byte -/
def k5 : Class := { plain "byte" none with kind := .primitive 'B', accessFlags := 0x411 }
/-- [B -/
def k6 : Class := { plain "[B" (some 0) with kind := .array 5 .byte, interfaces := #[3, 4], accessFlags := 1041 }

/-- the primitive int -/
def k7 : Class := { plain "int" none with kind := .primitive 'I', accessFlags := 0x411 }
/-- [I -/
def k8 : Class := { plain "[I" (some 0) with kind := .array 7 .int, interfaces := #[3, 4], accessFlags := 1041 }

def heap : Heap := #[]
def classes : Array Class := #[k0, k1, k2, k3, k4, k5, k6, k7, k8]
def interned : List (Array UInt16 × Addr) := []
def slotsUsed : Nat := 0
def theMethod : MethodId := ⟨1, 4⟩
def args0 : Array Value := #[.int 5, .int 6, .int 7]
def aboutOver (below : List Frame) : State where
  vm := { classes := classes, interned := interned.toArray }
  heap := heap
  slotsUsed := slotsUsed
  threads := #[{ frames := .invoking theMethod args0 :: below }]
def below0 : List Frame := [.native { method := ⟨0, 0⟩, args := #[] }]
def about1 : State := aboutOver below0
def p0 : Program := .bare "" "" ""
def e0 : Env := launch0.env 0 0 0
theorem w_frames : about1.frames = Frame.invoking theMethod args0 :: below0 := rfl
set_option maxRecDepth 65536 in
theorem w_args : argsFit about1.vm theMethod args0 = true := by decide +kernel
set_option maxRecDepth 65536 in
theorem w_heap : heapFits about1 = true := by decide +kernel
set_option maxRecDepth 65536 in
theorem w_runnable : about1.curStatus? = some .runnable := by decide +kernel
set_option maxRecDepth 65536 in
theorem w_alone : about1.alone = true := by decide +kernel
set_option maxRecDepth 65536 in
theorem w_named : about1.methodNamed? x = some theMethod := by decide +kernel
set_option maxRecDepth 65536 in
theorem w_hears : about1.hears theMethod below0 = true := by decide +kernel
set_option maxRecDepth 65536 in
theorem w_ripe : about1.ripe theMethod args0 below0 = true := by decide +kernel
theorem w_running : about1.status = .running := rfl
set_option maxRecDepth 65536 in
theorem w_room : about1.hasRoom e0.platform room_1 = true :=
  launch0.hasRoom_least _ room_1 (by decide +kernel) (by decide +kernel) (by decide +kernel) (by decide +kernel) (by decide +kernel) (by decide +kernel)
theorem allAtoms_all (ts : List Jvm.Cond) (a : Array Jvm.Value) (st : Jvm.State) : (allAtoms ts).before a st = ts.all (fun c => c.before a st) := by
  induction ts with
  | nil => rfl
  | cons c t ih =>
    show (Jvm.Cond.and c (allAtoms t)).before a st = _
    rw [Jvm.Cond.before_and, ih, List.all_cons]
def words1 : List Jvm.Cond := Jvm.Cond.code x code maxLocals ret :: tables_1
/-- a 'code' word, met by the world's own term for the bytes: nothing is compared byte by byte -/
theorem code_word {y : MethodName} {bytes : ByteArray} {mx : Nat} {rt : Option FieldType} {a : Array Value} {s : State} {m : MethodId} {meth : Method} {c : Code} (h1 : s.methodNamed? y = some m) (h2 : s.vm.method? m = some meth) (h3 : meth.code = some c) (h4 : c.code = bytes)
    (h5 : (c.maxLocals == mx && c.exceptionTable.isEmpty && decide (c.maxStack ≤ mostOperands) && decide (meth.sig.returnType = rt) && !meth.locks && decide (parseMethodDescriptor y.desc = some meth.sig)) = true) : (Jvm.Cond.code y bytes mx rt).before a s = true := by
  simp only [Bool.and_eq_true, beq_iff_eq, Bool.not_eq_true', decide_eq_true_eq] at h5
  obtain ⟨⟨⟨⟨⟨g1, g2⟩, g3⟩, g4⟩, g5⟩, g6⟩ := h5
  simp [Cond.before, Cond.holds, Cond.value, h1, h2, h3, h4, g1, g2, g3, g4, g5, g6]
def isCode : Jvm.Cond → Bool
  | .code _ _ _ _ => true
  | _ => false
theorem all_split {L : List Jvm.Cond} {P : Jvm.Cond → Bool} (h1 : L.all (fun c => isCode c || P c) = true) (h2 : ∀ c ∈ L.filter isCode, P c = true) : L.all P = true := by
  refine List.all_eq_true.mpr fun c hc => ?_
  have h := List.all_eq_true.mp h1 c hc
  rcases Bool.eq_false_or_eq_true (isCode c) with hi | hi
  · exact h2 c (List.mem_filter.mpr ⟨hc, hi⟩)
  · simpa [hi] using h
set_option maxRecDepth 65536 in
theorem w_c0 : (Jvm.Cond.code x code maxLocals ret).before args0 about1 = true := code_word (m := ⟨1, 4⟩) (meth := k1m4) (c := k1c4) (by decide +kernel) rfl rfl rfl (by decide +kernel)
set_option maxRecDepth 65536 in
theorem w_c1 : (Jvm.Cond.code ({ cls := "com/example/ratatoskr/ratatoskr/content/TextPositionCountPinLaw", name := "pick", desc := "(I)C" } : Jvm.MethodName) method_2_code (2 : Nat) (Option.some Jvm.ClassFile.FieldType.char)).before args0 about1 = true := code_word (m := ⟨1, 1⟩) (meth := k1m1) (c := k1c1) (by decide +kernel) rfl rfl rfl (by decide +kernel)
set_option maxRecDepth 65536 in
theorem w_c2 : (Jvm.Cond.code ({ cls := "com/example/ratatoskr/ratatoskr/content/TextPositionCountPinLaw", name := "ends", desc := "(ZCC)Z" } : Jvm.MethodName) method_3_code (3 : Nat) (Option.some Jvm.ClassFile.FieldType.boolean)).before args0 about1 = true := code_word (m := ⟨1, 2⟩) (meth := k1m2) (c := k1c2) (by decide +kernel) rfl rfl rfl (by decide +kernel)
set_option maxRecDepth 65536 in
theorem w_c3 : (Jvm.Cond.code ({ cls := "com/example/ratatoskr/ratatoskr/content/TextPositionCountPinLaw", name := "text", desc := "(C)J" } : Jvm.MethodName) method_4_code (1 : Nat) (Option.some Jvm.ClassFile.FieldType.long)).before args0 about1 = true := code_word (m := ⟨1, 3⟩) (meth := k1m3) (c := k1c3) (by decide +kernel) rfl rfl rfl (by decide +kernel)
set_option maxRecDepth 65536 in
theorem w_c4 : (Jvm.Cond.code ({ cls := "com/example/ratatoskr/ratatoskr/content/TextPosition", name := "<init>", desc := "()V" } : Jvm.MethodName) prog_6_method_1_code (1 : Nat) (Option.none : Option Jvm.ClassFile.FieldType)).before args0 about1 = true := code_word (m := ⟨2, 0⟩) (meth := k2m0) (c := k2c0) (by decide +kernel) rfl rfl rfl (by decide +kernel)
set_option maxRecDepth 65536 in
theorem w_c5 : (Jvm.Cond.code ({ cls := "java/lang/Object", name := "<init>", desc := "()V" } : Jvm.MethodName) object_method_1_code (1 : Nat) (Option.none : Option Jvm.ClassFile.FieldType)).before args0 about1 = true := code_word (m := ⟨0, 0⟩) (meth := k0m0) (c := k0c0) (by decide +kernel) rfl rfl rfl (by decide +kernel)
set_option maxRecDepth 65536 in
theorem w_c6 : (Jvm.Cond.code ({ cls := "com/example/ratatoskr/ratatoskr/content/TextPosition", name := "count", desc := "(C)V" } : Jvm.MethodName) prog_6_method_2_code (2 : Nat) (Option.none : Option Jvm.ClassFile.FieldType)).before args0 about1 = true := code_word (m := ⟨2, 1⟩) (meth := k2m1) (c := k2c1) (by decide +kernel) rfl rfl rfl (by decide +kernel)
set_option maxRecDepth 65536 in
theorem w_c7 : (Jvm.Cond.code ({ cls := "com/example/ratatoskr/ratatoskr/content/TextPosition", name := "line", desc := "()J" } : Jvm.MethodName) prog_6_method_3_code (1 : Nat) (Option.some Jvm.ClassFile.FieldType.long)).before args0 about1 = true := code_word (m := ⟨2, 2⟩) (meth := k2m2) (c := k2c2) (by decide +kernel) rfl rfl rfl (by decide +kernel)
set_option maxRecDepth 65536 in
theorem w_c8 : (Jvm.Cond.code ({ cls := "com/example/ratatoskr/ratatoskr/content/TextPosition", name := "column", desc := "()J" } : Jvm.MethodName) prog_6_method_4_code (1 : Nat) (Option.some Jvm.ClassFile.FieldType.long)).before args0 about1 = true := code_word (m := ⟨2, 3⟩) (meth := k2m3) (c := k2c3) (by decide +kernel) rfl rfl rfl (by decide +kernel)
def codes1 : List Jvm.Cond := [Jvm.Cond.code x code maxLocals ret, Jvm.Cond.code ({ cls := "com/example/ratatoskr/ratatoskr/content/TextPositionCountPinLaw", name := "pick", desc := "(I)C" } : Jvm.MethodName) method_2_code (2 : Nat) (Option.some Jvm.ClassFile.FieldType.char), Jvm.Cond.code ({ cls := "com/example/ratatoskr/ratatoskr/content/TextPositionCountPinLaw", name := "ends", desc := "(ZCC)Z" } : Jvm.MethodName) method_3_code (3 : Nat) (Option.some Jvm.ClassFile.FieldType.boolean), Jvm.Cond.code ({ cls := "com/example/ratatoskr/ratatoskr/content/TextPositionCountPinLaw", name := "text", desc := "(C)J" } : Jvm.MethodName) method_4_code (1 : Nat) (Option.some Jvm.ClassFile.FieldType.long), Jvm.Cond.code ({ cls := "com/example/ratatoskr/ratatoskr/content/TextPosition", name := "<init>", desc := "()V" } : Jvm.MethodName) prog_6_method_1_code (1 : Nat) (Option.none : Option Jvm.ClassFile.FieldType), Jvm.Cond.code ({ cls := "java/lang/Object", name := "<init>", desc := "()V" } : Jvm.MethodName) object_method_1_code (1 : Nat) (Option.none : Option Jvm.ClassFile.FieldType), Jvm.Cond.code ({ cls := "com/example/ratatoskr/ratatoskr/content/TextPosition", name := "count", desc := "(C)V" } : Jvm.MethodName) prog_6_method_2_code (2 : Nat) (Option.none : Option Jvm.ClassFile.FieldType), Jvm.Cond.code ({ cls := "com/example/ratatoskr/ratatoskr/content/TextPosition", name := "line", desc := "()J" } : Jvm.MethodName) prog_6_method_3_code (1 : Nat) (Option.some Jvm.ClassFile.FieldType.long), Jvm.Cond.code ({ cls := "com/example/ratatoskr/ratatoskr/content/TextPosition", name := "column", desc := "()J" } : Jvm.MethodName) prog_6_method_4_code (1 : Nat) (Option.some Jvm.ClassFile.FieldType.long)]
set_option maxRecDepth 65536 in
theorem codes_eq : words1.filter isCode = codes1 := rfl
theorem w_codes : ∀ c ∈ words1.filter isCode, c.before args0 about1 = true := by
  rw [codes_eq]
  intro c hc
  simp only [codes1, List.mem_cons, List.not_mem_nil, or_false] at hc
  rcases hc with rfl | rfl | rfl | rfl | rfl | rfl | rfl | rfl | rfl
  · exact w_c0
  · exact w_c1
  · exact w_c2
  · exact w_c3
  · exact w_c4
  · exact w_c5
  · exact w_c6
  · exact w_c7
  · exact w_c8
set_option maxRecDepth 65536 in
theorem w_t1 : (words1.take 24).all (fun c => isCode c || c.before args0 about1) = true := by decide +kernel
set_option maxRecDepth 65536 in
theorem w_t2 : (words1.drop 24).all (fun c => isCode c || c.before args0 about1) = true := by decide +kernel
theorem w_tables : (allAtoms (Jvm.Cond.code x code maxLocals ret :: tables_1)).before args0 about1 = true := by
  rw [allAtoms_all]
  show words1.all (fun c => c.before args0 about1) = true
  refine all_split ?_ w_codes
  rw [← List.take_append_drop 24 words1, List.all_append, w_t1, w_t2]
  rfl
set_option maxRecDepth 65536 in
theorem w_case : (Jvm.Cond.and given_1 narrow_1).before args0 about1 = true := by decide +kernel
theorem w_applies : (headSpec (Jvm.Cond.code x code maxLocals ret :: tables_1) room_1).applies x e0.platform about1 = true :=
  (Spec.applies_iff w_frames).mpr ⟨w_running, w_runnable, w_alone, w_named, w_hears, w_ripe, w_room, w_tables⟩
theorem atStart : AtStart classFile x code maxLocals ret World_1 tables_1 room_1 Calls_1 rest_1 Pre_1 launch0 p0 e0 about1 theMethod args0 below0 :=
  ⟨lists_1, trivial, launch0.admits_env _ _ _, launch0.least_env, fairChoices_fair.cas, fairChoices_fair.clock, w_frames, w_args, w_heap, w_applies, trivial, trivial, w_case⟩
end start1
theorem witness_1 : WitnessClaimed_1 := ⟨start1.p0, start1.e0, start1.about1, start1.theMethod, start1.args0, start1.below0, start1.atStart⟩
end Jvm.Pilot.@@N@@
