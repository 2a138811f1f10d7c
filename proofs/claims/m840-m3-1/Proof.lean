import JvmDerived
import JvmDerived.Pilot.@@N@@Statement
import JvmDerived.Pilot.@@N@@Code
set_option linter.unusedVariables false
set_option linter.unusedSimpArgs false

namespace Jvm.Pilot.@@N@@
open Jvm Jvm.ClassFile Sem Op Lib Jvm.Free Jvm.Stand Jvm.LawKit Jvm.RoadKit Bundle Jvm.Pilot.@@N@@.Jvm.D
/-- the run from A comes to a state of which P holds -/
def own_Go (tb : Tables) (e : Env) (below : List Frame) (P : State → Prop) (A : State) : Prop := ∃ U, Steps tb e below A U ∧ P U
theorem own_go {tb : Tables} {e : Env} {below : List Frame} {P : State → Prop} {A B : State} (h : ∀ t, Steps tb e below B t → Steps tb e below A t) (k : own_Go tb e below P B) : own_Go tb e below P A := by
  obtain ⟨U, h1, h2⟩ := k; exact ⟨U, h U h1, h2⟩
theorem own_goT {tb : Tables} {e : Env} {below : List Frame} {P : State → Prop} {A B : State} (h : Steps tb e below A B) (k : own_Go tb e below P B) : own_Go tb e below P A := by
  obtain ⟨U, h1, h2⟩ := k; exact ⟨U, h.trans h1, h2⟩
/-- the body's end: it returned, and Q says of what -/
def own_End (s : State) (below : List Frame) (Q : Option Value → Heap → List Loc → Prop) (cells slots : Nat) (t : State) : Prop := ∃ o, t.status = .running ∧ Ended t below o ∧ ∃ v L, o = .returned v ∧ Q v t.heap L ∧ FrameEnd s o t L cells slots
theorem own_body {tb : Tables} {e : Env} {below : List Frame} {s A : State} {Q : Option Value → Heap → List Loc → Prop} {cells slots : Nat} (k : own_Go tb e below (own_End s below Q cells slots) A) :
    ∃ s₂ o, Steps tb e below A s₂ ∧ s₂.status = .running ∧ Ended s₂ below o ∧ ∃ v L, o = .returned v ∧ Q v s₂.heap L ∧ FrameEnd s o s₂ L cells slots := by
  obtain ⟨U, h1, o, h2, h3, h4⟩ := k; exact ⟨U, o, h1, h2, h3, h4⟩
theorem own_ret {p : Program} {l : Launch} {e : Env} {R : Room} {s : State} {m : MethodId} {args : Array Value} {below : List Frame} {meth : Method} {c : Code} {T A : State} {locs : List Loc} {cells slots : Nat} {Q : Option Value → Heap → List Loc → Prop} {cs ss : Nat}
    (X : Stand p l e R s m args below meth c T locs cells slots) (hlk : meth.locks = false) {v : Option Value} (hv : meth.sig.returnType = none → v = none)
    (hst : ∀ fs : List Frame, (∀ (f : JFrame) (acts : List Action), f.method = m → f.locked = none → f.entered = [] → (doReturn e (T.setTop f) acts v).1 = T.setFrames fs) → Steps p.tables e below A (T.setFrames fs))
    (hQ : Q v T.heap locs) (hc : cells ≤ cs) (hs : slots ≤ ss) : own_Go p.tables e below (own_End s below Q cs ss) A := by
  obtain ⟨fs, hr, hrun, hended, hW, hsame⟩ := X.leave (v := v) hv hlk
  exact ⟨_, hst fs hr, _, hrun, hended, _, _, rfl, hQ, ⟨_, rfl⟩, hW, hsame.mono hc hs⟩
theorem own_ef (m : MethodId) (as : Array Value) (n : Nat) (Ls : Array Slot) (h : argsToLocals as n = Ls) : entryFrame m as n = mkF m 0 Ls [] := by rw [← h]; rfl
/-- a body's contract in this family -/
abbrev own_Met (l : Launch) (Z : State) (ws : List Jvm.Cond) (y : MethodName) (bytes : ByteArray) (maxL : Nat) (ret : Option FieldType) (rm : Room) (as : Array Value) (h0 : Heap) (Q : Option Value → Heap → List Loc → Prop) : Prop :=
  MetFree l y (head1 (Jvm.Cond.code y bytes maxL ret :: ws) rm) (fun a U => a = as ∧ Z.Warmed39 U.vm ∧ U.heap = h0) (fun _ _ _ _ _ => True) (fun _ U o U' => ∃ v L, o = .returned v ∧ Q v U'.heap L ∧ FrameEnd U o U' L rm.cells rm.slots)
theorem own_sta_keep {Z : State} {h h' : Heap} {C n d : String} {v : Value} {ws : List Addr} (F : Sta Z h C n d v) (K : Keep h h' ws) (q : ∀ a ∈ ws, ∃ C', Exa Z h a C') : Sta Z h' C n d v := by
  obtain ⟨cf, i, k, f, st, cell, h1, h2, h3, h4, h5, h6, h7⟩ := F
  refine ⟨cf, i, k, f, st, cell, h1, h2, h3, h4, K.2.1 st cell h5 fun hm => ?_, h6, h7⟩
  obtain ⟨C', cell', k', e1, -, -, e4, -⟩ := q st hm
  cases h5.symm.trans e1
  rw [e4] at h6; cases h6
theorem own_back {p : Program} {l : Launch} {e : Env} {R : Room} {s : State} {args : Array Value} {below : List Frame} {Z : State} {a0 : Array Value} {h : Heap} {y : MethodName} {bytes : ByteArray} {maxL : Nat} {ret : Option FieldType} {rm : Room} {len W : Nat} {as' : Array Value} {Q : Option Value → Heap → List Loc → Prop}
    (hM : own_Met l Z [] y bytes maxL ret rm as' h Q) (hZ : Z.Warmed39 s.vm) (wc : (Cond.code y bytes maxL ret).before a0 Z = true) (wz : (Cond.initialized y.cls).before a0 Z = true) (hf : rm.frames + 1 ≤ R.frames) (hl : W + (maxL + 11) + rm.locals ≤ R.locals) :
    Back l R p e below s args y len W (fun A a => a = as' ∧ A.U.heap = h ∧ A.cells + rm.cells ≤ R.cells ∧ A.slots + rm.slots ≤ R.slots)
      (fun A _ v B => ∃ L, Q v B.U.heap L ∧ B.locs = A.locs ++ L ∧ B.cells = A.cells + rm.cells ∧ B.slots = A.slots + rm.slots) :=
  backOf (Q := Q) hM hZ wc wz hf hl

theorem own_t (a b : Int32) : ¬ (a &&& 32767) * 65536 + (b &&& 65535) < 0 ∧ ((a &&& 32767) * 65536 + (b &&& 65535)) &&& 65535 = b &&& 65535 := by
  have h1 := c_mask a 32767 15 (by decide) (by decide)
  have h2 := c_mask b 65535 16 (by decide) (by decide)
  have h3 := c_imul (a &&& 32767) 65536
  have h4 := c_iadd ((a &&& 32767) * 65536) (b &&& 65535)
  have h5 := c_mask ((a &&& 32767) * 65536 + (b &&& 65535)) 65535 16 (by decide) (by decide)
  have r3 := rng32 ((a &&& 32767) * 65536)
  have r4 := rng32 ((a &&& 32767) * 65536 + (b &&& 65535))
  have e : (65536 : Int32).toInt = 65536 := rfl
  have e0 : (0 : Int32).toInt = 0 := rfl
  rw [e] at h3
  constructor
  · rw [Int32.lt_iff_toInt_lt, e0]; omega
  · apply Int32.toInt_inj.mp; omega
theorem own_n (a : Int32) : a ||| (-2147483648) < 0 := by
  have h := (c_orS a (-2147483648)).2.2 (by decide)
  rw [Int32.lt_iff_toInt_lt]; exact h
def own_ip (t : Int32) : Int32 := if t < 0 then 65535 else t &&& 65535
theorem own_ip1 (a b : Int32) : own_ip ((a &&& 32767) * 65536 + (b &&& 65535)) = b &&& 65535 := by
  have h := own_t a b; simp only [own_ip, h.1, if_false]; exact h.2
theorem own_ip2 (a : Int32) : own_ip (a ||| (-2147483648)) = 65535 := by simp only [own_ip, own_n a, if_true]
theorem own_d1_0 : decode prog_142_method_16_code 0 = .ok (.iload_n 0, 1) := by decide +kernel
theorem own_d1_1 : decode prog_142_method_16_code 1 = .ok (.ifCond .ge 9, 3) := by decide +kernel
theorem own_d1_4 : decode prog_142_method_16_code 4 = .ok (.ldc_w 289, 3) := by decide +kernel
theorem own_d1_7 : decode prog_142_method_16_code 7 = .ok (.goto 8, 3) := by decide +kernel
theorem own_d1_10 : decode prog_142_method_16_code 10 = .ok (.iload_n 0, 1) := by decide +kernel
theorem own_d1_11 : decode prog_142_method_16_code 11 = .ok (.ldc_w 289, 3) := by decide +kernel
theorem own_d1_14 : decode prog_142_method_16_code 14 = .ok (.iand, 1) := by decide +kernel
theorem own_d1_15 : decode prog_142_method_16_code 15 = .ok (.ireturn, 1) := by decide +kernel
theorem own_pn0 : plainName "com/example/polite_ddl/politeddl/sql/TypeName" = true := by first | (simp [plainName, overriddenIn]; done) | decide +kernel
set_option maxRecDepth 65536 in
set_option maxHeartbeats 40000000 in
theorem own_rm1 (l : Launch) (Z : State) (a0 : Array Value) (hw : ∀ d ∈ tables_1, d.before a0 Z = true) (p1 : Int32) (h0 : Heap) (n0 : Nat) (Z0 : n0 ≤ h0.size)  :
    own_Met l Z [] (⟨"com/example/polite_ddl/politeddl/sql/TypeName", "intervalPrecision", "(I)I"⟩ : MethodName) prog_142_method_16_code 1 (some .int) ({ frames := 0, cells := 0, slots := 0, locals := 0 } : Room) #[(.int p1)] h0 (fun v h L => v = some (.int (own_ip p1)) ∧ Fr n0 L ∧ h = h0) := by
  refine MetFree.of_bodySF (plainFor_of_name own_pn0) hisR ?_
  intro p e s m args below meth c s₁ Bd hml0 hP hK
  obtain ⟨rfl, hZ, hh⟩ := hP
  have hx := Bd.exec
  have hby := Bd.bytes
  have hml : c.maxLocals = 1 := hml0
  have hown : s.vm.findClass "com/example/polite_ddl/politeddl/sql/TypeName" = some m.cls := findClass_of_methodNamed Bd.named
  have hnm := (name_of_methodNamed Bd.named Bd.method).1
  have hlk : meth.locks = false := Bd.notSynchronized
  have X0 : Stand p l e ({ frames := 0, cells := 0, slots := 0, locals := 0 } : Room) s m #[(.int p1)] below meth c s₁ [] 0 0 := Stand.of_body Bd
  have e0 : s₁.heap = h0 := by rw [← hh, Bd.state]; rfl
  have N0 := Fr.nil n0
  refine own_body (Q := fun v h L => v = some (.int (own_ip p1)) ∧ Fr n0 L ∧ h = h0) ?_
  refine own_go (fun t k => castTop (own_ef m #[(.int p1)] 1 #[.val (.int p1)] (by first | rfl | simp [argsToLocals, Value.category, maxLocals])) k) ?_
  show own_Go _ _ _ _ (s₁.setTop (mkF m 0 #[.val (.int p1)] []))
  refine own_go (fun _ k => XS.iloadN X0.here hx rfl (hb hby own_d1_0) rfl k) ?_
  show own_Go _ _ _ _ (s₁.setTop (mkF m 1 #[.val (.int p1)] [(.int p1)]))
  by_cases hc1 : p1 < (0 : Int32)
  · have _h := hc1
    refine own_go (fun _ k => XS.ifNo X0.here hx rfl (hb hby own_d1_1) rfl ((if0 _ _).trans (tlt hc1).2.1) k) ?_
    show own_Go _ _ _ _ (s₁.setTop (mkF m 4 #[.val (.int p1)] []))
    refine own_go (X0.ldcWInt hx hown (mvT hZ (hw _ (List.mem_of_getElem? (i := 6) rfl))) (g := (mkF m 4 #[.val (.int p1)] [])) rfl (hb hby own_d1_4)) ?_
    show own_Go _ _ _ _ (s₁.setTop (mkF m 7 #[.val (.int p1)] [(.int (65535 : Int32))]))
    refine own_go (fun _ k => XS.goto X0.here hx rfl (pc0 := 7) (pc' := 15) rfl (hb hby own_d1_7) (by decide) (by decide) k) ?_
    show own_Go _ _ _ _ (s₁.setTop (mkF m 15 #[.val (.int p1)] [(.int (65535 : Int32))]))
    refine own_ret X0 hlk (v := some (.int (65535 : Int32))) (fun h => by rw [Bd.returns] at h; cases h) (fun fs hr => retOut X0 hx Bd.returns rfl (Or.inl ⟨rfl, Or.inl rfl, _, rfl⟩) (hb hby own_d1_15) hr) ?_ (by decide) (by decide)
    try rw [e0]
    exact ⟨by simp [own_ip, hc1], N0, rfl⟩
  · have _h := hc1
    refine own_go (fun _ k => XS.ifYes X0.here hx rfl (pc0 := 1) (pc' := 10) rfl (hb hby own_d1_1) rfl ((if0 _ _).trans (flt hc1).2.1) (by decide) (by decide) k) ?_
    show own_Go _ _ _ _ (s₁.setTop (mkF m 10 #[.val (.int p1)] []))
    refine own_go (fun _ k => XS.iloadN X0.here hx rfl (hb hby own_d1_10) rfl k) ?_
    show own_Go _ _ _ _ (s₁.setTop (mkF m 11 #[.val (.int p1)] [(.int p1)]))
    refine own_go (X0.ldcWInt hx hown (mvT hZ (hw _ (List.mem_of_getElem? (i := 6) rfl))) (g := (mkF m 11 #[.val (.int p1)] [(.int p1)])) rfl (hb hby own_d1_11)) ?_
    show own_Go _ _ _ _ (s₁.setTop (mkF m 14 #[.val (.int p1)] [(.int (65535 : Int32)), (.int p1)]))
    refine own_go (fun _ k => XS.iand X0.here hx rfl (hb hby own_d1_14) rfl k) ?_
    show own_Go _ _ _ _ (s₁.setTop (mkF m 15 #[.val (.int p1)] [(.int (p1 &&& (65535 : Int32)))]))
    refine own_ret X0 hlk (v := some (.int (p1 &&& (65535 : Int32)))) (fun h => by rw [Bd.returns] at h; cases h) (fun fs hr => retOut X0 hx Bd.returns rfl (Or.inl ⟨rfl, Or.inl rfl, _, rfl⟩) (hb hby own_d1_15) hr) ?_ (by decide) (by decide)
    try rw [e0]
    exact ⟨by simp [own_ip, hc1], N0, rfl⟩
theorem own_pn1 : plainName "com/example/polite_ddl/politeddl/sql/TypeNameIntervalPrecisionPinLaw" = true := by first | (simp [plainName, overriddenIn]; done) | decide +kernel
theorem own_pd0 : parseMethodDescriptor "(I)I" = some ⟨[.int], some .int⟩ := by decide +kernel
set_option maxRecDepth 65536 in
set_option maxHeartbeats 40000000 in
theorem own_rm0 (l : Launch) (Z : State) (a0 : Array Value) (hw : ∀ d ∈ tables_1, d.before a0 Z = true) (p1 : Int32) (p2 : Int32) (p3 : Int32) (h0 : Heap) (n0 : Nat) (Z0 : n0 ≤ h0.size)  :
    own_Met l Z tables_1 x code maxLocals ret room_1 #[(.int p1), (.int p2), (.int p3)] h0 (fun v h L => v = some (.int 1) ∧ Fr n0 L) := by
  refine MetFree.of_bodySF (plainFor_of_name own_pn1) hisR ?_
  intro p e s m args below meth c s₁ Bd hml0 hP hK
  obtain ⟨rfl, hZ, hh⟩ := hP
  have hx := Bd.exec
  have hby := Bd.bytes
  have hml : c.maxLocals = 9 := hml0
  have hown : s.vm.findClass "com/example/polite_ddl/politeddl/sql/TypeNameIntervalPrecisionPinLaw" = some m.cls := findClass_of_methodNamed Bd.named
  have hnm := (name_of_methodNamed Bd.named Bd.method).1
  have hlk : meth.locks = false := Bd.notSynchronized
  have X0 : Stand p l e room_1 s m #[(.int p1), (.int p2), (.int p3)] below meth c s₁ [] 0 0 := Stand.of_body Bd
  have e0 : s₁.heap = h0 := by rw [← hh, Bd.state]; rfl
  have N0 := Fr.nil n0
  refine own_body (Q := fun v h L => v = some (.int 1) ∧ Fr n0 L) ?_
  refine own_go (fun t k => castTop (own_ef m #[(.int p1), (.int p2), (.int p3)] maxLocals #[.val (.int p1), .val (.int p2), .val (.int p3), .unset, .unset, .unset, .unset, .unset, .unset] (by first | rfl | simp [argsToLocals, Value.category, maxLocals])) k) ?_
  show own_Go _ _ _ _ (s₁.setTop (mkF m 0 #[.val (.int p1), .val (.int p2), .val (.int p3), .unset, .unset, .unset, .unset, .unset, .unset] []))
  refine own_go (fun _ k => XS.iloadN X0.here hx rfl (hb hby at_0) rfl k) ?_
  show own_Go _ _ _ _ (s₁.setTop (mkF m 1 #[.val (.int p1), .val (.int p2), .val (.int p3), .unset, .unset, .unset, .unset, .unset, .unset] [(.int p1)]))
  refine own_go (fun _ k => XS.sipush X0.here hx rfl (hb hby at_1) k) ?_
  show own_Go _ _ _ _ (s₁.setTop (mkF m 4 #[.val (.int p1), .val (.int p2), .val (.int p3), .unset, .unset, .unset, .unset, .unset, .unset] [(.int (32767 : Int32)), (.int p1)]))
  refine own_go (fun _ k => XS.iand X0.here hx rfl (hb hby at_4) rfl k) ?_
  show own_Go _ _ _ _ (s₁.setTop (mkF m 5 #[.val (.int p1), .val (.int p2), .val (.int p3), .unset, .unset, .unset, .unset, .unset, .unset] [(.int (p1 &&& (32767 : Int32)))]))
  refine own_go (fun _ k => XS.istoreN X0.here hx rfl (hb hby at_5) rfl (l' := #[.val (.int p1), .val (.int p2), .val (.int p3), .val (.int (p1 &&& (32767 : Int32))), .unset, .unset, .unset, .unset, .unset]) rfl k) ?_
  show own_Go _ _ _ _ (s₁.setTop (mkF m 6 #[.val (.int p1), .val (.int p2), .val (.int p3), .val (.int (p1 &&& (32767 : Int32))), .unset, .unset, .unset, .unset, .unset] []))
  refine own_go (fun _ k => XS.iloadN X0.here hx rfl (hb hby at_6) rfl k) ?_
  show own_Go _ _ _ _ (s₁.setTop (mkF m 7 #[.val (.int p1), .val (.int p2), .val (.int p3), .val (.int (p1 &&& (32767 : Int32))), .unset, .unset, .unset, .unset, .unset] [(.int p2)]))
  refine own_go (X0.ldcInt hx hown (mvT hZ (hw _ (List.mem_of_getElem? (i := 0) rfl))) (g := (mkF m 7 #[.val (.int p1), .val (.int p2), .val (.int p3), .val (.int (p1 &&& (32767 : Int32))), .unset, .unset, .unset, .unset, .unset] [(.int p2)])) rfl (hb hby at_7)) ?_
  show own_Go _ _ _ _ (s₁.setTop (mkF m 9 #[.val (.int p1), .val (.int p2), .val (.int p3), .val (.int (p1 &&& (32767 : Int32))), .unset, .unset, .unset, .unset, .unset] [(.int (65535 : Int32)), (.int p2)]))
  refine own_go (fun _ k => XS.iand X0.here hx rfl (hb hby at_9) rfl k) ?_
  show own_Go _ _ _ _ (s₁.setTop (mkF m 10 #[.val (.int p1), .val (.int p2), .val (.int p3), .val (.int (p1 &&& (32767 : Int32))), .unset, .unset, .unset, .unset, .unset] [(.int (p2 &&& (65535 : Int32)))]))
  refine own_go (fun _ k => XS.istore X0.here hx rfl (hb hby at_10) rfl (l' := #[.val (.int p1), .val (.int p2), .val (.int p3), .val (.int (p1 &&& (32767 : Int32))), .val (.int (p2 &&& (65535 : Int32))), .unset, .unset, .unset, .unset]) rfl k) ?_
  show own_Go _ _ _ _ (s₁.setTop (mkF m 12 #[.val (.int p1), .val (.int p2), .val (.int p3), .val (.int (p1 &&& (32767 : Int32))), .val (.int (p2 &&& (65535 : Int32))), .unset, .unset, .unset, .unset] []))
  refine own_go (fun _ k => XS.iloadN X0.here hx rfl (hb hby at_12) rfl k) ?_
  show own_Go _ _ _ _ (s₁.setTop (mkF m 13 #[.val (.int p1), .val (.int p2), .val (.int p3), .val (.int (p1 &&& (32767 : Int32))), .val (.int (p2 &&& (65535 : Int32))), .unset, .unset, .unset, .unset] [(.int (p1 &&& (32767 : Int32)))]))
  refine own_go (X0.ldcInt hx hown (mvT hZ (hw _ (List.mem_of_getElem? (i := 1) rfl))) (g := (mkF m 13 #[.val (.int p1), .val (.int p2), .val (.int p3), .val (.int (p1 &&& (32767 : Int32))), .val (.int (p2 &&& (65535 : Int32))), .unset, .unset, .unset, .unset] [(.int (p1 &&& (32767 : Int32)))])) rfl (hb hby at_13)) ?_
  show own_Go _ _ _ _ (s₁.setTop (mkF m 15 #[.val (.int p1), .val (.int p2), .val (.int p3), .val (.int (p1 &&& (32767 : Int32))), .val (.int (p2 &&& (65535 : Int32))), .unset, .unset, .unset, .unset] [(.int (65536 : Int32)), (.int (p1 &&& (32767 : Int32)))]))
  refine own_go (fun _ k => XS.imul X0.here hx rfl (hb hby at_15) rfl k) ?_
  show own_Go _ _ _ _ (s₁.setTop (mkF m 16 #[.val (.int p1), .val (.int p2), .val (.int p3), .val (.int (p1 &&& (32767 : Int32))), .val (.int (p2 &&& (65535 : Int32))), .unset, .unset, .unset, .unset] [(.int ((p1 &&& (32767 : Int32)) * (65536 : Int32)))]))
  refine own_go (fun _ k => XS.iload X0.here hx rfl (hb hby at_16) rfl k) ?_
  show own_Go _ _ _ _ (s₁.setTop (mkF m 18 #[.val (.int p1), .val (.int p2), .val (.int p3), .val (.int (p1 &&& (32767 : Int32))), .val (.int (p2 &&& (65535 : Int32))), .unset, .unset, .unset, .unset] [(.int (p2 &&& (65535 : Int32))), (.int ((p1 &&& (32767 : Int32)) * (65536 : Int32)))]))
  refine own_go (fun _ k => XS.iadd X0.here hx rfl (hb hby at_18) rfl k) ?_
  show own_Go _ _ _ _ (s₁.setTop (mkF m 19 #[.val (.int p1), .val (.int p2), .val (.int p3), .val (.int (p1 &&& (32767 : Int32))), .val (.int (p2 &&& (65535 : Int32))), .unset, .unset, .unset, .unset] [(.int (((p1 &&& (32767 : Int32)) * (65536 : Int32)) + (p2 &&& (65535 : Int32))))]))
  refine own_go (fun _ k => XS.istore X0.here hx rfl (hb hby at_19) rfl (l' := #[.val (.int p1), .val (.int p2), .val (.int p3), .val (.int (p1 &&& (32767 : Int32))), .val (.int (p2 &&& (65535 : Int32))), .val (.int (((p1 &&& (32767 : Int32)) * (65536 : Int32)) + (p2 &&& (65535 : Int32)))), .unset, .unset, .unset]) rfl k) ?_
  show own_Go _ _ _ _ (s₁.setTop (mkF m 21 #[.val (.int p1), .val (.int p2), .val (.int p3), .val (.int (p1 &&& (32767 : Int32))), .val (.int (p2 &&& (65535 : Int32))), .val (.int (((p1 &&& (32767 : Int32)) * (65536 : Int32)) + (p2 &&& (65535 : Int32)))), .unset, .unset, .unset] []))
  refine own_go (fun _ k => XS.iload X0.here hx rfl (hb hby at_21) rfl k) ?_
  show own_Go _ _ _ _ (s₁.setTop (mkF m 23 #[.val (.int p1), .val (.int p2), .val (.int p3), .val (.int (p1 &&& (32767 : Int32))), .val (.int (p2 &&& (65535 : Int32))), .val (.int (((p1 &&& (32767 : Int32)) * (65536 : Int32)) + (p2 &&& (65535 : Int32)))), .unset, .unset, .unset] [(.int (((p1 &&& (32767 : Int32)) * (65536 : Int32)) + (p2 &&& (65535 : Int32))))]))
  obtain ⟨_, _, ⟨T1, L1, k1, n1⟩, -, X1, ⟨Lc1, hQ1, l1, y1, z1⟩, st1⟩ := Jvm.LawKit.callS X0 hx (y := (⟨"com/example/polite_ddl/politeddl/sql/TypeName", "intervalPrecision", "(I)I"⟩ : MethodName)) hown (mvT hZ (hw _ (List.mem_of_getElem? (i := 2) rfl))) (mvT hZ (hw _ (List.mem_of_getElem? (i := 3) rfl))) (mvT hZ (hw _ (List.mem_of_getElem? (i := 4) rfl))) (mvT hZ (hw _ (List.mem_of_getElem? (i := 5) rfl))) (by decide) (own_back (W := 0) (own_rm1 l Z a0 hw (((p1 &&& (32767 : Int32)) * (65536 : Int32)) + (p2 &&& (65535 : Int32))) h0 n0 Z0) hZ (hw _ (List.mem_of_getElem? (i := 5) rfl)) (hw _ (List.mem_of_getElem? (i := 4) rfl)) (by decide) (by decide)) (g := (mkF m 23 #[.val (.int p1), .val (.int p2), .val (.int p3), .val (.int (p1 &&& (32767 : Int32))), .val (.int (p2 &&& (65535 : Int32))), .val (.int (((p1 &&& (32767 : Int32)) * (65536 : Int32)) + (p2 &&& (65535 : Int32)))), .unset, .unset, .unset] [(.int (((p1 &&& (32767 : Int32)) * (65536 : Int32)) + (p2 &&& (65535 : Int32))))])) rfl (by rw [hml]; rfl) (argsL := [(.int (((p1 &&& (32767 : Int32)) * (65536 : Int32)) + (p2 &&& (65535 : Int32))))]) (rest := []) (lenOf own_pd0 rfl) rfl (by show 2 * 0 + _ ≤ _; exact Nat.le_of_eq rfl) (hb hby at_23) (fun _ _ => ⟨rfl, e0, (by decide : 0 + 0 ≤ _), (by decide : 0 + 0 ≤ _)⟩)
  dsimp only [Pt.U, Pt.locs, Pt.cells, Pt.slots] at X1 l1 y1 z1 st1 hQ1
  subst l1 y1 z1
  obtain ⟨rfl, Nq1, eq1⟩ := hQ1
  have NF1 := Fr.app N0 Nq1
  refine own_go st1 ?_
  show own_Go _ _ _ _ (T1.setTop (mkF m 26 #[.val (.int p1), .val (.int p2), .val (.int p3), .val (.int (p1 &&& (32767 : Int32))), .val (.int (p2 &&& (65535 : Int32))), .val (.int (((p1 &&& (32767 : Int32)) * (65536 : Int32)) + (p2 &&& (65535 : Int32)))), .unset, .unset, .unset] [(.int (own_ip (((p1 &&& (32767 : Int32)) * (65536 : Int32)) + (p2 &&& (65535 : Int32)))))]))
  refine own_go (fun _ k => XS.iload X1.here hx rfl (hb hby at_26) rfl k) ?_
  show own_Go _ _ _ _ (T1.setTop (mkF m 28 #[.val (.int p1), .val (.int p2), .val (.int p3), .val (.int (p1 &&& (32767 : Int32))), .val (.int (p2 &&& (65535 : Int32))), .val (.int (((p1 &&& (32767 : Int32)) * (65536 : Int32)) + (p2 &&& (65535 : Int32)))), .unset, .unset, .unset] [(.int (p2 &&& (65535 : Int32))), (.int (own_ip (((p1 &&& (32767 : Int32)) * (65536 : Int32)) + (p2 &&& (65535 : Int32)))))]))
  refine own_go (fun _ k => XS.icmpNo X1.here hx rfl (hb hby at_28) rfl (teq (own_ip1 p1 p2)).2 k) ?_
  show own_Go _ _ _ _ (T1.setTop (mkF m 31 #[.val (.int p1), .val (.int p2), .val (.int p3), .val (.int (p1 &&& (32767 : Int32))), .val (.int (p2 &&& (65535 : Int32))), .val (.int (((p1 &&& (32767 : Int32)) * (65536 : Int32)) + (p2 &&& (65535 : Int32)))), .unset, .unset, .unset] []))
  refine own_go (fun _ k => XS.iconst X1.here hx rfl (hb hby at_31) k) ?_
  show own_Go _ _ _ _ (T1.setTop (mkF m 32 #[.val (.int p1), .val (.int p2), .val (.int p3), .val (.int (p1 &&& (32767 : Int32))), .val (.int (p2 &&& (65535 : Int32))), .val (.int (((p1 &&& (32767 : Int32)) * (65536 : Int32)) + (p2 &&& (65535 : Int32)))), .unset, .unset, .unset] [(.int (1 : Int32))]))
  refine own_go (fun _ k => XS.goto X1.here hx rfl (pc0 := 32) (pc' := 36) rfl (hb hby at_32) (by decide) (by decide) k) ?_
  show own_Go _ _ _ _ (T1.setTop (mkF m 36 #[.val (.int p1), .val (.int p2), .val (.int p3), .val (.int (p1 &&& (32767 : Int32))), .val (.int (p2 &&& (65535 : Int32))), .val (.int (((p1 &&& (32767 : Int32)) * (65536 : Int32)) + (p2 &&& (65535 : Int32)))), .unset, .unset, .unset] [(.int (1 : Int32))]))
  refine own_go (fun _ k => XS.istore X1.here hx rfl (hb hby at_36) rfl (l' := #[.val (.int p1), .val (.int p2), .val (.int p3), .val (.int (p1 &&& (32767 : Int32))), .val (.int (p2 &&& (65535 : Int32))), .val (.int (((p1 &&& (32767 : Int32)) * (65536 : Int32)) + (p2 &&& (65535 : Int32)))), .val (.int (1 : Int32)), .unset, .unset]) rfl k) ?_
  show own_Go _ _ _ _ (T1.setTop (mkF m 38 #[.val (.int p1), .val (.int p2), .val (.int p3), .val (.int (p1 &&& (32767 : Int32))), .val (.int (p2 &&& (65535 : Int32))), .val (.int (((p1 &&& (32767 : Int32)) * (65536 : Int32)) + (p2 &&& (65535 : Int32)))), .val (.int (1 : Int32)), .unset, .unset] []))
  refine own_go (fun _ k => XS.iloadN X1.here hx rfl (hb hby at_38) rfl k) ?_
  show own_Go _ _ _ _ (T1.setTop (mkF m 39 #[.val (.int p1), .val (.int p2), .val (.int p3), .val (.int (p1 &&& (32767 : Int32))), .val (.int (p2 &&& (65535 : Int32))), .val (.int (((p1 &&& (32767 : Int32)) * (65536 : Int32)) + (p2 &&& (65535 : Int32)))), .val (.int (1 : Int32)), .unset, .unset] [(.int p3)]))
  refine own_go (X1.ldcInt hx hown (mvT hZ (hw _ (List.mem_of_getElem? (i := 7) rfl))) (g := (mkF m 39 #[.val (.int p1), .val (.int p2), .val (.int p3), .val (.int (p1 &&& (32767 : Int32))), .val (.int (p2 &&& (65535 : Int32))), .val (.int (((p1 &&& (32767 : Int32)) * (65536 : Int32)) + (p2 &&& (65535 : Int32)))), .val (.int (1 : Int32)), .unset, .unset] [(.int p3)])) rfl (hb hby at_39)) ?_
  show own_Go _ _ _ _ (T1.setTop (mkF m 41 #[.val (.int p1), .val (.int p2), .val (.int p3), .val (.int (p1 &&& (32767 : Int32))), .val (.int (p2 &&& (65535 : Int32))), .val (.int (((p1 &&& (32767 : Int32)) * (65536 : Int32)) + (p2 &&& (65535 : Int32)))), .val (.int (1 : Int32)), .unset, .unset] [(.int (-2147483648 : Int32)), (.int p3)]))
  refine own_go (fun _ k => XS.ior X1.here hx rfl (hb hby at_41) rfl k) ?_
  show own_Go _ _ _ _ (T1.setTop (mkF m 42 #[.val (.int p1), .val (.int p2), .val (.int p3), .val (.int (p1 &&& (32767 : Int32))), .val (.int (p2 &&& (65535 : Int32))), .val (.int (((p1 &&& (32767 : Int32)) * (65536 : Int32)) + (p2 &&& (65535 : Int32)))), .val (.int (1 : Int32)), .unset, .unset] [(.int (p3 ||| (-2147483648 : Int32)))]))
  refine own_go (fun _ k => XS.istore X1.here hx rfl (hb hby at_42) rfl (l' := #[.val (.int p1), .val (.int p2), .val (.int p3), .val (.int (p1 &&& (32767 : Int32))), .val (.int (p2 &&& (65535 : Int32))), .val (.int (((p1 &&& (32767 : Int32)) * (65536 : Int32)) + (p2 &&& (65535 : Int32)))), .val (.int (1 : Int32)), .val (.int (p3 ||| (-2147483648 : Int32))), .unset]) rfl k) ?_
  show own_Go _ _ _ _ (T1.setTop (mkF m 44 #[.val (.int p1), .val (.int p2), .val (.int p3), .val (.int (p1 &&& (32767 : Int32))), .val (.int (p2 &&& (65535 : Int32))), .val (.int (((p1 &&& (32767 : Int32)) * (65536 : Int32)) + (p2 &&& (65535 : Int32)))), .val (.int (1 : Int32)), .val (.int (p3 ||| (-2147483648 : Int32))), .unset] []))
  refine own_go (fun _ k => XS.iload X1.here hx rfl (hb hby at_44) rfl k) ?_
  show own_Go _ _ _ _ (T1.setTop (mkF m 46 #[.val (.int p1), .val (.int p2), .val (.int p3), .val (.int (p1 &&& (32767 : Int32))), .val (.int (p2 &&& (65535 : Int32))), .val (.int (((p1 &&& (32767 : Int32)) * (65536 : Int32)) + (p2 &&& (65535 : Int32)))), .val (.int (1 : Int32)), .val (.int (p3 ||| (-2147483648 : Int32))), .unset] [(.int (p3 ||| (-2147483648 : Int32)))]))
  obtain ⟨_, _, ⟨T2, L2, k2, n2⟩, -, X2, ⟨Lc2, hQ2, l2, y2, z2⟩, st2⟩ := Jvm.LawKit.callS X1 hx (y := (⟨"com/example/polite_ddl/politeddl/sql/TypeName", "intervalPrecision", "(I)I"⟩ : MethodName)) hown (mvT hZ (hw _ (List.mem_of_getElem? (i := 2) rfl))) (mvT hZ (hw _ (List.mem_of_getElem? (i := 3) rfl))) (mvT hZ (hw _ (List.mem_of_getElem? (i := 4) rfl))) (mvT hZ (hw _ (List.mem_of_getElem? (i := 5) rfl))) (by decide) (own_back (W := 0) (own_rm1 l Z a0 hw (p3 ||| (-2147483648 : Int32)) h0 n0 Z0) hZ (hw _ (List.mem_of_getElem? (i := 5) rfl)) (hw _ (List.mem_of_getElem? (i := 4) rfl)) (by decide) (by decide)) (g := (mkF m 46 #[.val (.int p1), .val (.int p2), .val (.int p3), .val (.int (p1 &&& (32767 : Int32))), .val (.int (p2 &&& (65535 : Int32))), .val (.int (((p1 &&& (32767 : Int32)) * (65536 : Int32)) + (p2 &&& (65535 : Int32)))), .val (.int (1 : Int32)), .val (.int (p3 ||| (-2147483648 : Int32))), .unset] [(.int (p3 ||| (-2147483648 : Int32)))])) rfl (by rw [hml]; rfl) (argsL := [(.int (p3 ||| (-2147483648 : Int32)))]) (rest := []) (lenOf own_pd0 rfl) rfl (by show 2 * 0 + _ ≤ _; exact Nat.le_of_eq rfl) (hb hby at_46) (fun _ _ => ⟨rfl, eq1, (by decide : 0 + 0 ≤ _), (by decide : 0 + 0 ≤ _)⟩)
  dsimp only [Pt.U, Pt.locs, Pt.cells, Pt.slots] at X2 l2 y2 z2 st2 hQ2
  subst l2 y2 z2
  obtain ⟨rfl, Nq2, eq2⟩ := hQ2
  have NF2 := Fr.app NF1 Nq2
  refine own_go st2 ?_
  show own_Go _ _ _ _ (T2.setTop (mkF m 49 #[.val (.int p1), .val (.int p2), .val (.int p3), .val (.int (p1 &&& (32767 : Int32))), .val (.int (p2 &&& (65535 : Int32))), .val (.int (((p1 &&& (32767 : Int32)) * (65536 : Int32)) + (p2 &&& (65535 : Int32)))), .val (.int (1 : Int32)), .val (.int (p3 ||| (-2147483648 : Int32))), .unset] [(.int (own_ip (p3 ||| (-2147483648 : Int32))))]))
  refine own_go (X2.ldcInt hx hown (mvT hZ (hw _ (List.mem_of_getElem? (i := 0) rfl))) (g := (mkF m 49 #[.val (.int p1), .val (.int p2), .val (.int p3), .val (.int (p1 &&& (32767 : Int32))), .val (.int (p2 &&& (65535 : Int32))), .val (.int (((p1 &&& (32767 : Int32)) * (65536 : Int32)) + (p2 &&& (65535 : Int32)))), .val (.int (1 : Int32)), .val (.int (p3 ||| (-2147483648 : Int32))), .unset] [(.int (own_ip (p3 ||| (-2147483648 : Int32))))])) rfl (hb hby at_49)) ?_
  show own_Go _ _ _ _ (T2.setTop (mkF m 51 #[.val (.int p1), .val (.int p2), .val (.int p3), .val (.int (p1 &&& (32767 : Int32))), .val (.int (p2 &&& (65535 : Int32))), .val (.int (((p1 &&& (32767 : Int32)) * (65536 : Int32)) + (p2 &&& (65535 : Int32)))), .val (.int (1 : Int32)), .val (.int (p3 ||| (-2147483648 : Int32))), .unset] [(.int (65535 : Int32)), (.int (own_ip (p3 ||| (-2147483648 : Int32))))]))
  refine own_go (fun _ k => XS.icmpNo X2.here hx rfl (hb hby at_51) rfl (teq (own_ip2 p3)).2 k) ?_
  show own_Go _ _ _ _ (T2.setTop (mkF m 54 #[.val (.int p1), .val (.int p2), .val (.int p3), .val (.int (p1 &&& (32767 : Int32))), .val (.int (p2 &&& (65535 : Int32))), .val (.int (((p1 &&& (32767 : Int32)) * (65536 : Int32)) + (p2 &&& (65535 : Int32)))), .val (.int (1 : Int32)), .val (.int (p3 ||| (-2147483648 : Int32))), .unset] []))
  refine own_go (fun _ k => XS.iconst X2.here hx rfl (hb hby at_54) k) ?_
  show own_Go _ _ _ _ (T2.setTop (mkF m 55 #[.val (.int p1), .val (.int p2), .val (.int p3), .val (.int (p1 &&& (32767 : Int32))), .val (.int (p2 &&& (65535 : Int32))), .val (.int (((p1 &&& (32767 : Int32)) * (65536 : Int32)) + (p2 &&& (65535 : Int32)))), .val (.int (1 : Int32)), .val (.int (p3 ||| (-2147483648 : Int32))), .unset] [(.int (1 : Int32))]))
  refine own_go (fun _ k => XS.goto X2.here hx rfl (pc0 := 55) (pc' := 59) rfl (hb hby at_55) (by decide) (by decide) k) ?_
  show own_Go _ _ _ _ (T2.setTop (mkF m 59 #[.val (.int p1), .val (.int p2), .val (.int p3), .val (.int (p1 &&& (32767 : Int32))), .val (.int (p2 &&& (65535 : Int32))), .val (.int (((p1 &&& (32767 : Int32)) * (65536 : Int32)) + (p2 &&& (65535 : Int32)))), .val (.int (1 : Int32)), .val (.int (p3 ||| (-2147483648 : Int32))), .unset] [(.int (1 : Int32))]))
  refine own_go (fun _ k => XS.istore X2.here hx rfl (hb hby at_59) rfl (l' := #[.val (.int p1), .val (.int p2), .val (.int p3), .val (.int (p1 &&& (32767 : Int32))), .val (.int (p2 &&& (65535 : Int32))), .val (.int (((p1 &&& (32767 : Int32)) * (65536 : Int32)) + (p2 &&& (65535 : Int32)))), .val (.int (1 : Int32)), .val (.int (p3 ||| (-2147483648 : Int32))), .val (.int (1 : Int32))]) rfl k) ?_
  show own_Go _ _ _ _ (T2.setTop (mkF m 61 #[.val (.int p1), .val (.int p2), .val (.int p3), .val (.int (p1 &&& (32767 : Int32))), .val (.int (p2 &&& (65535 : Int32))), .val (.int (((p1 &&& (32767 : Int32)) * (65536 : Int32)) + (p2 &&& (65535 : Int32)))), .val (.int (1 : Int32)), .val (.int (p3 ||| (-2147483648 : Int32))), .val (.int (1 : Int32))] []))
  refine own_go (fun _ k => XS.iload X2.here hx rfl (hb hby at_61) rfl k) ?_
  show own_Go _ _ _ _ (T2.setTop (mkF m 63 #[.val (.int p1), .val (.int p2), .val (.int p3), .val (.int (p1 &&& (32767 : Int32))), .val (.int (p2 &&& (65535 : Int32))), .val (.int (((p1 &&& (32767 : Int32)) * (65536 : Int32)) + (p2 &&& (65535 : Int32)))), .val (.int (1 : Int32)), .val (.int (p3 ||| (-2147483648 : Int32))), .val (.int (1 : Int32))] [(.int (1 : Int32))]))
  refine own_go (fun _ k => XS.ifNo X2.here hx rfl (hb hby at_63) rfl ((if0 _ _).trans (feq (by decide)).1) k) ?_
  show own_Go _ _ _ _ (T2.setTop (mkF m 66 #[.val (.int p1), .val (.int p2), .val (.int p3), .val (.int (p1 &&& (32767 : Int32))), .val (.int (p2 &&& (65535 : Int32))), .val (.int (((p1 &&& (32767 : Int32)) * (65536 : Int32)) + (p2 &&& (65535 : Int32)))), .val (.int (1 : Int32)), .val (.int (p3 ||| (-2147483648 : Int32))), .val (.int (1 : Int32))] []))
  refine own_go (fun _ k => XS.iload X2.here hx rfl (hb hby at_66) rfl k) ?_
  show own_Go _ _ _ _ (T2.setTop (mkF m 68 #[.val (.int p1), .val (.int p2), .val (.int p3), .val (.int (p1 &&& (32767 : Int32))), .val (.int (p2 &&& (65535 : Int32))), .val (.int (((p1 &&& (32767 : Int32)) * (65536 : Int32)) + (p2 &&& (65535 : Int32)))), .val (.int (1 : Int32)), .val (.int (p3 ||| (-2147483648 : Int32))), .val (.int (1 : Int32))] [(.int (1 : Int32))]))
  refine own_go (fun _ k => XS.ifNo X2.here hx rfl (hb hby at_68) rfl ((if0 _ _).trans (feq (by decide)).1) k) ?_
  show own_Go _ _ _ _ (T2.setTop (mkF m 71 #[.val (.int p1), .val (.int p2), .val (.int p3), .val (.int (p1 &&& (32767 : Int32))), .val (.int (p2 &&& (65535 : Int32))), .val (.int (((p1 &&& (32767 : Int32)) * (65536 : Int32)) + (p2 &&& (65535 : Int32)))), .val (.int (1 : Int32)), .val (.int (p3 ||| (-2147483648 : Int32))), .val (.int (1 : Int32))] []))
  refine own_go (fun _ k => XS.iconst X2.here hx rfl (hb hby at_71) k) ?_
  show own_Go _ _ _ _ (T2.setTop (mkF m 72 #[.val (.int p1), .val (.int p2), .val (.int p3), .val (.int (p1 &&& (32767 : Int32))), .val (.int (p2 &&& (65535 : Int32))), .val (.int (((p1 &&& (32767 : Int32)) * (65536 : Int32)) + (p2 &&& (65535 : Int32)))), .val (.int (1 : Int32)), .val (.int (p3 ||| (-2147483648 : Int32))), .val (.int (1 : Int32))] [(.int (1 : Int32))]))
  refine own_go (fun _ k => XS.goto X2.here hx rfl (pc0 := 72) (pc' := 76) rfl (hb hby at_72) (by decide) (by decide) k) ?_
  show own_Go _ _ _ _ (T2.setTop (mkF m 76 #[.val (.int p1), .val (.int p2), .val (.int p3), .val (.int (p1 &&& (32767 : Int32))), .val (.int (p2 &&& (65535 : Int32))), .val (.int (((p1 &&& (32767 : Int32)) * (65536 : Int32)) + (p2 &&& (65535 : Int32)))), .val (.int (1 : Int32)), .val (.int (p3 ||| (-2147483648 : Int32))), .val (.int (1 : Int32))] [(.int (1 : Int32))]))
  refine own_ret X2 hlk (v := some (.int (1 : Int32))) (fun h => by rw [Bd.returns] at h; cases h) (fun fs hr => retN X2 hx (t := .boolean) Bd.returns (by simp) (hb hby at_76) hr) ?_ (by decide) (by decide)
  try rw [eq2]
  exact ⟨rfl, NF2⟩
set_option maxRecDepth 65536 in
set_option maxHeartbeats 40000000 in
theorem own_comes {Post : Tables → Env → Array Value → State → Outcome → State → Prop} (hpost : ∀ tb e args s v u, (limb_1_1.after args s (.returned v) u = true ∧ limb_1_2.after args s (.returned v) u = true ∧ True) → FrameEnd s (.returned v) u (Jvm.fieldLocs frame_1_writes args s ++ Jvm.arrayLocs frame_1_arrays args s ++ Jvm.staticLocs frame_1_statics s) 0 0 → Post tb e args s (.returned v) u) :
    ArmFor flags0 classFile x code maxLocals ret World_1 tables_1 room_1 Calls_1 rest_1 Pre_1 Post := by
  intro l hfl _ _ p e ha hc hk s m args below hf hA hF happ hP
  obtain ⟨hcalls, hrest, hpre⟩ := hP
  obtain ⟨-, -, -, hnamed, -, -, -, hat⟩ := (Spec.applies_iff hf).mp happ
  obtain ⟨hg, hn⟩ := and_e (Cond.before_iff.mp (show (Jvm.Cond.and given_1 narrow_1).before args s = true from hpre))
  obtain ⟨hcount, hg⟩ := and_e hg
  obtain ⟨ha0, hg⟩ := and_e hg
  obtain ⟨ha1, hg⟩ := and_e hg
  obtain ⟨w0, w1, w2, rfl⟩ : ∃ w0 w1 w2 : Value, args = #[w0, w1, w2] := by
    have hs : args.size = 3 := by simpa [Cond.value, given_1] using hcount
    obtain ⟨L⟩ := args
    match L, hs with
    | [w0, w1, w2], _ => exact ⟨w0, w1, w2, rfl⟩
  have hw := fun d (hd : d ∈ tables_1) => atoms_spec (ws := Jvm.Cond.code x code maxLocals ret :: tables_1) hat d (List.mem_cons_of_mem _ hd)
  have hfit : Fit s := fun {y c} hc i hi => by
    obtain ⟨ha, rfl⟩ := Array.getElem?_eq_some_iff.mp hc
    have q := List.all_eq_true.mp ((Array.all_eq_true_iff_forall_mem.mp hF) _ (Array.getElem_mem ha)) i (List.mem_range.mpr hi)
    simpa [Array.getElem?_eq_getElem hi] using q
  obtain ⟨i0, ei0⟩ := is_v ha0
  obtain rfl : w0 = (.int i0) := Option.some.inj ei0
  obtain ⟨i1, ei1⟩ := is_v ha1
  obtain rfl : w1 = (.int i1) := Option.some.inj ei1
  obtain ⟨i2, ei2⟩ := is_v hg
  obtain rfl : w2 = (.int i2) := Option.some.inj ei2
  obtain ⟨n, o, h1, h2, h3, _, L, rfl, ⟨rfl, N⟩, hq⟩ := own_rm0 l s _ hw i0 i1 i2 s.heap s.heap.size (Nat.le_refl _)  p e ha hc hk s m _ below hf ((Spec.applies_iff_loose hf).mp happ).1 ⟨rfl, State.Warmed39.refl s, rfl⟩ trivial
  refine ⟨n, _, h1, h2, h3, hpost _ _ _ _ _ _ ⟨Cond.after_iff.mpr rfl, Cond.after_iff.mpr (eq_i res_at (Term.int_eval (1)) rfl), trivial⟩ ⟨hq.1, hq.2.1, (hq.2.2.sift fun y hy => Or.inr (N y hy)).mono (by decide) (by decide)⟩⟩
theorem main_1_1 : Claimed_1_1 := own_comes fun _ _ _ _ _ _ h hF => ⟨h.1, hF⟩
theorem main_1_2 : Claimed_1_2 := own_comes fun _ _ _ _ _ _ h hF => ⟨h.2.1, hF⟩
end Jvm.Pilot.@@N@@
namespace Jvm.Pilot.@@N@@
open Jvm Jvm.ClassFile Sem Op Lib Jvm.Free Jvm.Stand Jvm.Pilot.@@N@@.Jvm.D
/-! MADE BY PROGRAM (witnessworld.py) out of the Statement's table words and the real class files: 9 classes; the members and pool entries that the words name. The judged class is class 1, her method 1. -/
namespace start1
open Jvm.ClassFile
def u (s : String) : CpInfo := .utf8 (stringToUtf16 s)
/-- a pool by its gaps: so many unusable entries, then the entry; so many at the end -/
def gap : Nat → List CpInfo → List CpInfo
  | 0, r => r
  | n + 1, r => .unusable :: gap n r
def poolList (es : List (Nat × CpInfo)) (last : Nat) : List CpInfo := es.foldr (fun e r => gap e.1 (e.2 :: r)) (gap last [])
def pool (es : List (Nat × CpInfo)) (last : Nat) : Array CpInfo := ⟨poolList es last⟩
def fileOf (pool : Array CpInfo) (this : Nat) (attrs : Array Attribute := #[]) (ms : Array MethodInfo := #[]) (fl : Nat := 33) (sup : Nat := 0) (ifs : Array Nat := #[]) (fds : Array FieldInfo := #[]) : ClassFile where
  minorVersion := 0
  majorVersion := 65
  constantPool := pool
  accessFlags := fl
  thisClass := this
  superClass := sup
  interfaces := ifs
  fields := fds
  methods := ms
  attributes := attrs
def plain (name : String) (sup : Option ClassId) : Class where
  name := name
  kind := .ordinary
  loader := none
  accessFlags := 33
  super := sup
  interfaces := #[]
  cf := none
  fields := #[]
  methods := #[]
  instanceTypes := #[]
  staticTypes := #[]
  resolved := #[]
  callSites := []
  init := .initialized
  statics := none
  mirror := none

def pool0 : Array CpInfo := pool [(5, u "<init>"), (0, u "()V"), (1, .class_ 10), (1, u "java/lang/Object")] 113

def k0m0 : Method := { name := "<init>", desc := "()V", sig := { parameters := [], returnType := none }, accessFlags := 1, code := none }
/-- java/lang/Object -/
def k0 : Class := { plain "java/lang/Object" none with
  accessFlags := 33
  interfaces := #[]
  cf := some (fileOf pool0 8 #[] #[{ accessFlags := 1, nameIndex := 5, descriptorIndex := 6, attributes := #[] }] 33 0 #[] #[])
  fields := #[]
  methods := #[k0m0]
  instanceTypes := #[]
  staticTypes := #[]
  resolved := Array.replicate 124 none
  statics := none }

def pool1 : Array CpInfo := pool [(2, .class_ 4), (1, u "java/lang/Object"), (0, u "<init>"), (0, u "()V"), (0, .integer 65535), (0, .integer 65536), (0, .methodref 10 11), (0, .class_ 12), (0, .nameAndType 13 14), (0, u "com/example/polite_ddl/politeddl/sql/TypeName"), (0, u "intervalPrecision"), (0, u "(I)I"), (2, .integer 2147483648), (0, .class_ 19), (0, u "com/example/polite_ddl/politeddl/sql/TypeNameIntervalPrecisionPinLaw"), (2, u "law"), (0, u "(III)Z")] 3

def k1m0 : Method := { name := "<init>", desc := "()V", sig := { parameters := [], returnType := none }, accessFlags := 1, code := none }
def k1c1 : Code := { maxStack := 2, maxLocals := 9, code := code, exceptionTable := #[], attributes := #[] }
def k1m1 : Method := { name := "law", desc := "(III)Z", sig := { parameters := [.int, .int, .int], returnType := some .boolean }, accessFlags := 9, code := some k1c1 }
/-- com/example/polite_ddl/politeddl/sql/TypeNameIntervalPrecisionPinLaw -/
def k1 : Class := { plain "com/example/polite_ddl/politeddl/sql/TypeNameIntervalPrecisionPinLaw" (some 0) with
  accessFlags := 49
  interfaces := #[]
  cf := some (fileOf pool1 18 #[] #[{ accessFlags := 1, nameIndex := 5, descriptorIndex := 6, attributes := #[] }, { accessFlags := 9, nameIndex := 22, descriptorIndex := 23, attributes := #[] }] 49 2 #[] #[])
  fields := #[]
  methods := #[k1m0, k1m1]
  instanceTypes := #[]
  staticTypes := #[]
  resolved := Array.replicate 27 none
  statics := none }

def pool2 : Array CpInfo := pool [(2, .class_ 4), (1, u "java/lang/Object"), (3, .class_ 10), (1, u "com/example/polite_ddl/politeddl/sql/TypeName"), (0, u "tokens"), (0, u "Ljava/util/List;"), (2, u "modifiers"), (0, u "Ljava/util/Optional;"), (2, u "array"), (0, u "Z"), (102, u "SERIALS"), (0, u "Ljava/util/Set;"), (39, u "BUILTINS"), (43, u "SPELLED_BUILTINS"), (11, u "INTERVAL_FIELDS"), (48, u "CHARACTER_WORDS"), (19, .integer 65535), (2, u "INTERVAL_FIELD_BITS"), (0, u "[I"), (287, u "VARHDRSZ"), (0, u "I"), (2, u "MAX_SECOND_PRECISION"), (1, u "INTERVAL_FULL_PRECISION"), (0, u "INTERVAL_FULL_RANGE"), (22, u "(I)I"), (4, u "intervalPrecision")] 35

def k2c0 : Code := { maxStack := 2, maxLocals := 1, code := prog_142_method_16_code, exceptionTable := #[], attributes := #[] }
def k2m0 : Method := { name := "intervalPrecision", desc := "(I)I", sig := { parameters := [.int], returnType := some .int }, accessFlags := 8, code := some k2c0 }
/-- com/example/polite_ddl/politeddl/sql/TypeName -/
def k2 : Class := { plain "com/example/polite_ddl/politeddl/sql/TypeName" (some 0) with
  accessFlags := 32
  interfaces := #[]
  cf := some (fileOf pool2 8 #[] #[{ accessFlags := 8, nameIndex := 616, descriptorIndex := 611, attributes := #[] }] 32 2 #[] #[{ accessFlags := 26, nameIndex := 581, descriptorIndex := 582, attributes := #[] }, { accessFlags := 24, nameIndex := 585, descriptorIndex := 582, attributes := #[] }, { accessFlags := 24, nameIndex := 587, descriptorIndex := 582, attributes := #[] }, { accessFlags := 26, nameIndex := 588, descriptorIndex := 582, attributes := #[] }, { accessFlags := 26, nameIndex := 220, descriptorIndex := 12, attributes := #[] }, { accessFlags := 26, nameIndex := 292, descriptorIndex := 293, attributes := #[] }, { accessFlags := 26, nameIndex := 123, descriptorIndex := 124, attributes := #[] }, { accessFlags := 26, nameIndex := 269, descriptorIndex := 124, attributes := #[] }, { accessFlags := 26, nameIndex := 164, descriptorIndex := 124, attributes := #[] }, { accessFlags := 26, nameIndex := 208, descriptorIndex := 124, attributes := #[] }, { accessFlags := 18, nameIndex := 11, descriptorIndex := 12, attributes := #[] }, { accessFlags := 18, nameIndex := 15, descriptorIndex := 16, attributes := #[] }, { accessFlags := 18, nameIndex := 19, descriptorIndex := 20, attributes := #[] }])
  fields := #[{ name := "VARHDRSZ", type := .int, accessFlags := 26, slot := 0, constantValue := 0 }, { name := "MAX_SECOND_PRECISION", type := .int, accessFlags := 24, slot := 1, constantValue := 0 }, { name := "INTERVAL_FULL_PRECISION", type := .int, accessFlags := 24, slot := 2, constantValue := 0 }, { name := "INTERVAL_FULL_RANGE", type := .int, accessFlags := 26, slot := 3, constantValue := 0 }, { name := "INTERVAL_FIELDS", type := (.object "java/util/List"), accessFlags := 26, slot := 4, constantValue := 0 }, { name := "INTERVAL_FIELD_BITS", type := (.array .int), accessFlags := 26, slot := 5, constantValue := 0 }, { name := "SERIALS", type := (.object "java/util/Set"), accessFlags := 26, slot := 6, constantValue := 0 }, { name := "CHARACTER_WORDS", type := (.object "java/util/Set"), accessFlags := 26, slot := 7, constantValue := 0 }, { name := "BUILTINS", type := (.object "java/util/Set"), accessFlags := 26, slot := 8, constantValue := 0 }, { name := "SPELLED_BUILTINS", type := (.object "java/util/Set"), accessFlags := 26, slot := 9, constantValue := 0 }, { name := "tokens", type := (.object "java/util/List"), accessFlags := 18, slot := 0, constantValue := 0 }, { name := "modifiers", type := (.object "java/util/Optional"), accessFlags := 18, slot := 1, constantValue := 0 }, { name := "array", type := .boolean, accessFlags := 18, slot := 2, constantValue := 0 }]
  methods := #[k2m0]
  instanceTypes := #[(.object "java/util/List"), (.object "java/util/Optional"), .boolean]
  staticTypes := #[.int, .int, .int, .int, (.object "java/util/List"), (.array .int), (.object "java/util/Set"), (.object "java/util/Set"), (.object "java/util/Set"), (.object "java/util/Set")]
  resolved := Array.replicate 652 none
  statics := none }

def pool3 : Array CpInfo := pool [(1, u "java/lang/Cloneable"), (0, .class_ 1), (0, u "java/lang/Object"), (0, .class_ 3)] 3

/-- java/lang/Cloneable -/
def k3 : Class := { plain "java/lang/Cloneable" (some 0) with
  accessFlags := 1537
  interfaces := #[]
  cf := some (fileOf pool3 2 #[] #[] 1537 4 #[] #[])
  fields := #[]
  methods := #[]
  instanceTypes := #[]
  staticTypes := #[]
  resolved := Array.replicate 8 none
  statics := none }

def pool4 : Array CpInfo := pool [(1, u "java/io/Serializable"), (0, .class_ 1), (0, u "java/lang/Object"), (0, .class_ 3)] 3

/-- java/io/Serializable -/
def k4 : Class := { plain "java/io/Serializable" (some 0) with
  accessFlags := 1537
  interfaces := #[]
  cf := some (fileOf pool4 2 #[] #[] 1537 4 #[] #[])
  fields := #[]
  methods := #[]
  instanceTypes := #[]
  staticTypes := #[]
  resolved := Array.replicate 8 none
  statics := none }

/-- the primitive byte -/
def k5 : Class := { plain "byte" none with kind := .primitive 'B', accessFlags := 0x411 }
/-- [B -/
def k6 : Class := { plain "[B" (some 0) with kind := .array 5 .byte, interfaces := #[3, 4], accessFlags := 1041 }

/-- the primitive int -/
def k7 : Class := { plain "int" none with kind := .primitive 'I', accessFlags := 0x411 }
/-- [I -/
def k8 : Class := { plain "[I" (some 0) with kind := .array 7 .int, interfaces := #[3, 4], accessFlags := 1041 }

def heap : Heap := #[]
def classes : Array Class := #[k0, k1, k2, k3, k4, k5, k6, k7, k8]
def interned : List (Array UInt16 × Addr) := []
def slotsUsed : Nat := 0
def theMethod : MethodId := ⟨1, 1⟩
def args0 : Array Value := #[.int 5, .int 7, .int 9]
def aboutOver (below : List Frame) : State where
  vm := { classes := classes, interned := interned.toArray }
  heap := heap
  slotsUsed := slotsUsed
  threads := #[{ frames := .invoking theMethod args0 :: below }]
def below0 : List Frame := [.native { method := ⟨0, 0⟩, args := #[] }]
def about1 : State := aboutOver below0
def p0 : Program := .bare "" "" ""
def e0 : Env := launch0.env 0 0 0
theorem w_frames : about1.frames = Frame.invoking theMethod args0 :: below0 := rfl
set_option maxRecDepth 65536 in
theorem w_args : argsFit about1.vm theMethod args0 = true := by decide +kernel
set_option maxRecDepth 65536 in
theorem w_heap : heapFits about1 = true := by decide +kernel
set_option maxRecDepth 65536 in
theorem w_runnable : about1.curStatus? = some .runnable := by decide +kernel
set_option maxRecDepth 65536 in
theorem w_alone : about1.alone = true := by decide +kernel
set_option maxRecDepth 65536 in
theorem w_named : about1.methodNamed? x = some theMethod := by decide +kernel
set_option maxRecDepth 65536 in
theorem w_hears : about1.hears theMethod below0 = true := by decide +kernel
set_option maxRecDepth 65536 in
theorem w_ripe : about1.ripe theMethod args0 below0 = true := by decide +kernel
theorem w_running : about1.status = .running := rfl
set_option maxRecDepth 65536 in
theorem w_room : about1.hasRoom e0.platform room_1 = true :=
  launch0.hasRoom_least _ room_1 (by decide +kernel) (by decide +kernel) (by decide +kernel) (by decide +kernel) (by decide +kernel) (by decide +kernel)
theorem allAtoms_all (ts : List Jvm.Cond) (a : Array Jvm.Value) (st : Jvm.State) : (allAtoms ts).before a st = ts.all (fun c => c.before a st) := by
  induction ts with
  | nil => rfl
  | cons c t ih =>
    show (Jvm.Cond.and c (allAtoms t)).before a st = _
    rw [Jvm.Cond.before_and, ih, List.all_cons]
def words1 : List Jvm.Cond := Jvm.Cond.code x code maxLocals ret :: tables_1
/-- a 'code' word, met by the world's own term for the bytes: nothing is compared byte by byte -/
theorem code_word {y : MethodName} {bytes : ByteArray} {mx : Nat} {rt : Option FieldType} {a : Array Value} {s : State} {m : MethodId} {meth : Method} {c : Code} (h1 : s.methodNamed? y = some m) (h2 : s.vm.method? m = some meth) (h3 : meth.code = some c) (h4 : c.code = bytes)
    (h5 : (c.maxLocals == mx && c.exceptionTable.isEmpty && decide (c.maxStack ≤ mostOperands) && decide (meth.sig.returnType = rt) && !meth.locks && decide (parseMethodDescriptor y.desc = some meth.sig)) = true) : (Jvm.Cond.code y bytes mx rt).before a s = true := by
  simp only [Bool.and_eq_true, beq_iff_eq, Bool.not_eq_true', decide_eq_true_eq] at h5
  obtain ⟨⟨⟨⟨⟨g1, g2⟩, g3⟩, g4⟩, g5⟩, g6⟩ := h5
  simp [Cond.before, Cond.holds, Cond.value, h1, h2, h3, h4, g1, g2, g3, g4, g5, g6]
def isCode : Jvm.Cond → Bool
  | .code _ _ _ _ => true
  | _ => false
theorem all_split {L : List Jvm.Cond} {P : Jvm.Cond → Bool} (h1 : L.all (fun c => isCode c || P c) = true) (h2 : ∀ c ∈ L.filter isCode, P c = true) : L.all P = true := by
  refine List.all_eq_true.mpr fun c hc => ?_
  have h := List.all_eq_true.mp h1 c hc
  rcases Bool.eq_false_or_eq_true (isCode c) with hi | hi
  · exact h2 c (List.mem_filter.mpr ⟨hc, hi⟩)
  · simpa [hi] using h
set_option maxRecDepth 65536 in
theorem w_c0 : (Jvm.Cond.code x code maxLocals ret).before args0 about1 = true := code_word (m := ⟨1, 1⟩) (meth := k1m1) (c := k1c1) (by decide +kernel) rfl rfl rfl (by decide +kernel)
set_option maxRecDepth 65536 in
theorem w_c1 : (Jvm.Cond.code ({ cls := "com/example/polite_ddl/politeddl/sql/TypeName", name := "intervalPrecision", desc := "(I)I" } : Jvm.MethodName) prog_142_method_16_code (1 : Nat) (Option.some Jvm.ClassFile.FieldType.int)).before args0 about1 = true := code_word (m := ⟨2, 0⟩) (meth := k2m0) (c := k2c0) (by decide +kernel) rfl rfl rfl (by decide +kernel)
def codes1 : List Jvm.Cond := [Jvm.Cond.code x code maxLocals ret, Jvm.Cond.code ({ cls := "com/example/polite_ddl/politeddl/sql/TypeName", name := "intervalPrecision", desc := "(I)I" } : Jvm.MethodName) prog_142_method_16_code (1 : Nat) (Option.some Jvm.ClassFile.FieldType.int)]
set_option maxRecDepth 65536 in
theorem codes_eq : words1.filter isCode = codes1 := rfl
theorem w_codes : ∀ c ∈ words1.filter isCode, c.before args0 about1 = true := by
  rw [codes_eq]
  intro c hc
  simp only [codes1, List.mem_cons, List.not_mem_nil, or_false] at hc
  rcases hc with rfl | rfl
  · exact w_c0
  · exact w_c1
set_option maxRecDepth 65536 in
theorem w_t1 : words1.all (fun c => isCode c || c.before args0 about1) = true := by decide +kernel
theorem w_tables : (allAtoms (Jvm.Cond.code x code maxLocals ret :: tables_1)).before args0 about1 = true := by
  rw [allAtoms_all]
  show words1.all (fun c => c.before args0 about1) = true
  refine all_split ?_ w_codes
  rw [w_t1]
set_option maxRecDepth 65536 in
theorem w_case : (Jvm.Cond.and given_1 narrow_1).before args0 about1 = true := by decide +kernel
theorem w_applies : (headSpec (Jvm.Cond.code x code maxLocals ret :: tables_1) room_1).applies x e0.platform about1 = true :=
  (Spec.applies_iff w_frames).mpr ⟨w_running, w_runnable, w_alone, w_named, w_hears, w_ripe, w_room, w_tables⟩
theorem atStart : AtStart classFile x code maxLocals ret World_1 tables_1 room_1 Calls_1 rest_1 Pre_1 launch0 p0 e0 about1 theMethod args0 below0 :=
  ⟨lists_1, trivial, launch0.admits_env _ _ _, launch0.least_env, fairChoices_fair.cas, fairChoices_fair.clock, w_frames, w_args, w_heap, w_applies, trivial, trivial, w_case⟩
end start1
theorem witness_1 : WitnessClaimed_1 := ⟨start1.p0, start1.e0, start1.about1, start1.theMethod, start1.args0, start1.below0, start1.atStart⟩
end Jvm.Pilot.@@N@@
