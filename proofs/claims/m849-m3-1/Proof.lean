import JvmDerived
import JvmDerived.Pilot.@@N@@Statement
import JvmDerived.Pilot.@@N@@Code
set_option linter.unusedVariables false
set_option linter.unusedSimpArgs false

namespace Jvm.Pilot.@@N@@
open Jvm Jvm.ClassFile Sem Op Lib Jvm.Free Jvm.Stand Jvm.LawKit Jvm.RoadKit Bundle Jvm.Pilot.@@N@@.Jvm.D
/-- the run from A comes to a state of which P holds -/
def own_Go (tb : Tables) (e : Env) (below : List Frame) (P : State → Prop) (A : State) : Prop := ∃ U, Steps tb e below A U ∧ P U
theorem own_go {tb : Tables} {e : Env} {below : List Frame} {P : State → Prop} {A B : State} (h : ∀ t, Steps tb e below B t → Steps tb e below A t) (k : own_Go tb e below P B) : own_Go tb e below P A := by
  obtain ⟨U, h1, h2⟩ := k; exact ⟨U, h U h1, h2⟩
theorem own_goT {tb : Tables} {e : Env} {below : List Frame} {P : State → Prop} {A B : State} (h : Steps tb e below A B) (k : own_Go tb e below P B) : own_Go tb e below P A := by
  obtain ⟨U, h1, h2⟩ := k; exact ⟨U, h.trans h1, h2⟩
/-- the body's end: it returned, and Q says of what -/
def own_End (s : State) (below : List Frame) (Q : Option Value → Heap → List Loc → Prop) (cells slots : Nat) (t : State) : Prop := ∃ o, t.status = .running ∧ Ended t below o ∧ ∃ v L, o = .returned v ∧ Q v t.heap L ∧ FrameEnd s o t L cells slots
theorem own_body {tb : Tables} {e : Env} {below : List Frame} {s A : State} {Q : Option Value → Heap → List Loc → Prop} {cells slots : Nat} (k : own_Go tb e below (own_End s below Q cells slots) A) :
    ∃ s₂ o, Steps tb e below A s₂ ∧ s₂.status = .running ∧ Ended s₂ below o ∧ ∃ v L, o = .returned v ∧ Q v s₂.heap L ∧ FrameEnd s o s₂ L cells slots := by
  obtain ⟨U, h1, o, h2, h3, h4⟩ := k; exact ⟨U, o, h1, h2, h3, h4⟩
theorem own_ret {p : Program} {l : Launch} {e : Env} {R : Room} {s : State} {m : MethodId} {args : Array Value} {below : List Frame} {meth : Method} {c : Code} {T A : State} {locs : List Loc} {cells slots : Nat} {Q : Option Value → Heap → List Loc → Prop} {cs ss : Nat}
    (X : Stand p l e R s m args below meth c T locs cells slots) (hlk : meth.locks = false) {v : Option Value} (hv : meth.sig.returnType = none → v = none)
    (hst : ∀ fs : List Frame, (∀ (f : JFrame) (acts : List Action), f.method = m → f.locked = none → f.entered = [] → (doReturn e (T.setTop f) acts v).1 = T.setFrames fs) → Steps p.tables e below A (T.setFrames fs))
    (hQ : Q v T.heap locs) (hc : cells ≤ cs) (hs : slots ≤ ss) : own_Go p.tables e below (own_End s below Q cs ss) A := by
  obtain ⟨fs, hr, hrun, hended, hW, hsame⟩ := X.leave (v := v) hv hlk
  exact ⟨_, hst fs hr, _, hrun, hended, _, _, rfl, hQ, ⟨_, rfl⟩, hW, hsame.mono hc hs⟩
theorem own_ef (m : MethodId) (as : Array Value) (n : Nat) (Ls : Array Slot) (h : argsToLocals as n = Ls) : entryFrame m as n = mkF m 0 Ls [] := by rw [← h]; rfl
/-- a body's contract in this family -/
abbrev own_Met (l : Launch) (Z : State) (ws : List Jvm.Cond) (y : MethodName) (bytes : ByteArray) (maxL : Nat) (ret : Option FieldType) (rm : Room) (as : Array Value) (h0 : Heap) (Q : Option Value → Heap → List Loc → Prop) : Prop :=
  MetFree l y (head1 (Jvm.Cond.code y bytes maxL ret :: ws) rm) (fun a U => a = as ∧ Z.Warmed39 U.vm ∧ U.heap = h0) (fun _ _ _ _ _ => True) (fun _ U o U' => ∃ v L, o = .returned v ∧ Q v U'.heap L ∧ FrameEnd U o U' L rm.cells rm.slots)
theorem own_sta_keep {Z : State} {h h' : Heap} {C n d : String} {v : Value} {ws : List Addr} (F : Sta Z h C n d v) (K : Keep h h' ws) (q : ∀ a ∈ ws, ∃ C', Exa Z h a C') : Sta Z h' C n d v := by
  obtain ⟨cf, i, k, f, st, cell, h1, h2, h3, h4, h5, h6, h7⟩ := F
  refine ⟨cf, i, k, f, st, cell, h1, h2, h3, h4, K.2.1 st cell h5 fun hm => ?_, h6, h7⟩
  obtain ⟨C', cell', k', e1, -, -, e4, -⟩ := q st hm
  cases h5.symm.trans e1
  rw [e4] at h6; cases h6
theorem own_back {p : Program} {l : Launch} {e : Env} {R : Room} {s : State} {args : Array Value} {below : List Frame} {Z : State} {a0 : Array Value} {h : Heap} {y : MethodName} {bytes : ByteArray} {maxL : Nat} {ret : Option FieldType} {rm : Room} {len W : Nat} {as' : Array Value} {Q : Option Value → Heap → List Loc → Prop}
    (hM : own_Met l Z [] y bytes maxL ret rm as' h Q) (hZ : Z.Warmed39 s.vm) (wc : (Cond.code y bytes maxL ret).before a0 Z = true) (wz : (Cond.initialized y.cls).before a0 Z = true) (hf : rm.frames + 1 ≤ R.frames) (hl : W + (maxL + 11) + rm.locals ≤ R.locals) :
    Back l R p e below s args y len W (fun A a => a = as' ∧ A.U.heap = h ∧ A.cells + rm.cells ≤ R.cells ∧ A.slots + rm.slots ≤ R.slots)
      (fun A _ v B => ∃ L, Q v B.U.heap L ∧ B.locs = A.locs ++ L ∧ B.cells = A.cells + rm.cells ∧ B.slots = A.slots + rm.slots) :=
  backOf (Q := Q) hM hZ wc wz hf hl
theorem own_eqi {args : Array Value} {s : State} {t : Term} {k : Int32} (h : (Jvm.Cond.eq t (.int k)).value args s none s [] = some true) : t.eval args s none [] s = some (.int k) := by
  simp only [Cond.value, Term.eval] at h
  cases ht : t.eval args s none [] s with
  | none => simp [ht] at h
  | some x => cases x <;> simp [ht] at h ⊢; exact h
theorem own_eqr {args : Array Value} {s : State} {t u : Term} {a : Addr} (h : (Jvm.Cond.eq t u).value args s none s [] = some true) (hu : u.eval args s none [] s = some (.ref a)) : t.eval args s none [] s = some (.ref a) := by
  simp only [Cond.value] at h
  cases ht : t.eval args s none [] s with
  | none => simp [ht] at h
  | some x => cases x <;> simp [ht, hu] at h ⊢; exact h
theorem own_fld {args : Array Value} {s : State} {t : Term} {a : Addr} {C n d : String} {v : Value} (ht : t.eval args s none [] s = some (.ref a)) (h : (Term.field t C n d).eval args s none [] s = some v) : Fld s s.heap a C n d v :=
  Fld.start (by rw [fld_at ht] at h; exact h)
theorem own_len {args : Array Value} {s : State} {t : Term} {a : Addr} {cl : Cell} {ty : FieldType} {k : Int32} (A : Arr s s.heap a cl ty) (ht : t.eval args s none [] s = some (.ref a)) (h : (Term.length t).eval args s none [] s = some (.int k)) : cl.slots.size < 2 ^ 31 ∧ cl.slots.size.toInt32 = k := by
  have ha : s.arrayAt? a = some cl := A.fin (Vm.Alike.refl _)
  by_cases hl : cl.slots.size < 2 ^ 31
  · rw [len_f ht ha hl] at h; exact ⟨hl, by injection h with h; injection h⟩
  · simp [Term.eval, ht, ha, hl] at h
theorem own_elem {args : Array Value} {s : State} {t : Term} {a : Addr} {cl : Cell} {ty : FieldType} {j : Int32} {v : Value} (ht : t.eval args s none [] s = some (.ref a)) (A : Arr s s.heap a cl ty) (h : (Term.elem t (.int j)).eval args s none [] s = some v) : cl.slots[j.toNatClampNeg]? = some v :=
  (elem_in h ht (Term.int_eval j) A.1).2
theorem own_getR {p : Program} {l : Launch} {e : Env} {R : Room} {s : State} {m : MethodId} {args : Array Value} {below : List Frame} {meth : Method} {c : Code} {T : State} {locs : List Loc} {cells slots : Nat} {Z : State} {a0 : Array Value} {h : Heap}
    (X : Stand p l e R s m args below meth c T locs cells slots) (hx : p.tables.exec = Jvm.exec) (hZ : Z.Warmed39 s.vm) {own C n d : String} {index : Nat} (hown : s.vm.findClass own = some m.cls) (w : (Cond.fieldRef own index C n d).before a0 Z = true)
    (eT : T.heap = h) {a : Addr} {v : Value} (F : Fld Z h a C n d v) {g : JFrame} (hg : g.method = m) {rest : List Value} (hs : g.stack = .ref a :: rest) (hd : decode c.code g.pc = .ok (.getfield index, 3)) :
    ∀ target, Steps p.tables e below (T.setTop { g with pc := g.pc + 3, stack := v :: rest }) target → Steps p.tables e below (T.setTop g) target := by
  obtain ⟨cell, cf, k, i, f, h1, h2, h3, h4, h5, h6, h7⟩ := F
  have hT : Z.Warmed39 T.vm := wtrans hZ X.warmed
  have w2 : (Cond.fieldRef own index C n d).before a0 (Z.setVm T.vm) = true := Cond.fieldRef_warmed39 hT w
  have hcur : (Z.setVm T.vm).vm.findClass own = some m.cls := by
    show T.vm.findClass own = _
    rw [X.warmed.alike.findClass]; exact hown
  obtain ⟨c1, k1, i1, f1, q1, q2⟩ := Cond.fieldRef_spec hcur w2
  obtain ⟨k', q3, -⟩ := State.fieldFound?_setVm (s := Z) hT.alike h2
  cases q1.symm.trans q3
  have q4 : T.vm.fieldReady m.cls index cf f := q2
  have hc : T.heap[a]? = some cell := by rw [eT]; exact h1
  intro target hrest
  subst hg
  jvm_step X.here [hx, hd, getfield.wp_ready (e := e) (s := T) (f := g) X.here.top q4 h3 hs hc h4 h7]
  exact hrest
theorem own_d1_0 : decode prog_9_method_6_code 0 = .ok (.aload_n 0, 1) := by decide +kernel
theorem own_d1_1 : decode prog_9_method_6_code 1 = .ok (.getstatic 3, 3) := by decide +kernel
theorem own_d1_4 : decode prog_9_method_6_code 4 = .ok (.if_acmp .ne 9, 3) := by decide +kernel
theorem own_d1_7 : decode prog_9_method_6_code 7 = .ok (.getstatic 7, 3) := by decide +kernel
theorem own_d1_10 : decode prog_9_method_6_code 10 = .ok (.goto 6, 3) := by decide +kernel
theorem own_d1_13 : decode prog_9_method_6_code 13 = .ok (.getstatic 3, 3) := by decide +kernel
theorem own_d1_16 : decode prog_9_method_6_code 16 = .ok (.areturn, 1) := by decide +kernel
theorem own_pn0 : plainName "com/example/lissage/lissage/CrossValidation$Fold" = true := by first | (simp [plainName, overriddenIn]; done) | decide +kernel
set_option maxRecDepth 65536 in
set_option maxHeartbeats 40000000 in
theorem own_rm1 (l : Launch) (Z : State) (a0 : Array Value) (hw : ∀ d ∈ tables_1, d.before a0 Z = true) (a1 : Addr) (aE : Addr) (aO : Addr) (r : Addr) (h0 : Heap) (n0 : Nat) (Z0 : n0 ≤ h0.size) (S_EVEN : Sta Z h0 "com/example/lissage/lissage/CrossValidation$Fold" "EVEN" "Lcom/example/lissage/lissage/CrossValidation$Fold;" (.ref aE)) (S_ODD : Sta Z h0 "com/example/lissage/lissage/CrossValidation$Fold" "ODD" "Lcom/example/lissage/lissage/CrossValidation$Fold;" (.ref aO)) (hr : (if a1 = aE then aO else aE) = r) :
    own_Met l Z [] (⟨"com/example/lissage/lissage/CrossValidation$Fold", "other", "()Lcom/example/lissage/lissage/CrossValidation$Fold;"⟩ : MethodName) prog_9_method_6_code 1 (some (.object "com/example/lissage/lissage/CrossValidation$Fold")) ({ frames := 0, cells := 0, slots := 0, locals := 0 } : Room) #[(.ref a1)] h0 (fun v h L => v = some (.ref r) ∧ Fr n0 L ∧ h = h0) := by
  refine MetFree.of_bodySF (plainFor_of_name own_pn0) hisR ?_
  intro p e s m args below meth c s₁ Bd hml0 hP hK
  obtain ⟨rfl, hZ, hh⟩ := hP
  have hx := Bd.exec
  have hby := Bd.bytes
  have hml : c.maxLocals = 1 := hml0
  have hown : s.vm.findClass "com/example/lissage/lissage/CrossValidation$Fold" = some m.cls := findClass_of_methodNamed Bd.named
  have hnm := (name_of_methodNamed Bd.named Bd.method).1
  have hlk : meth.locks = false := Bd.notSynchronized
  have X0 : Stand p l e ({ frames := 0, cells := 0, slots := 0, locals := 0 } : Room) s m #[(.ref a1)] below meth c s₁ [] 0 0 := Stand.of_body Bd
  have e0 : s₁.heap = h0 := by rw [← hh, Bd.state]; rfl
  have N0 := Fr.nil n0
  refine own_body (Q := fun v h L => v = some (.ref r) ∧ Fr n0 L ∧ h = h0) ?_
  refine own_go (fun t k => castTop (own_ef m #[(.ref a1)] 1 #[.val (.ref a1)] (by first | rfl | simp [argsToLocals, Value.category, maxLocals])) k) ?_
  show own_Go _ _ _ _ (s₁.setTop (mkF m 0 #[.val (.ref a1)] []))
  refine own_go (fun _ k => XS.aloadN X0.here hx rfl (hb hby own_d1_0) rfl rfl k) ?_
  show own_Go _ _ _ _ (s₁.setTop (mkF m 1 #[.val (.ref a1)] [(.ref a1)]))
  obtain ⟨T1, X1, e1, st1⟩ := getS2 X0 hx hZ hown (host := "") (Or.inl (hw _ (List.mem_of_getElem? (i := 10) rfl))) Via.refl e0 S_EVEN (g := (mkF m 1 #[.val (.ref a1)] [(.ref a1)])) rfl (hb hby own_d1_1)
  refine own_go st1 ?_
  show own_Go _ _ _ _ (T1.setTop (mkF m 4 #[.val (.ref a1)] [(.ref aE), (.ref a1)]))
  by_cases hc : a1 = aE
  · have _h := hc
    refine own_go (fun _ k => Jvm.RoadKit.acmp (g := (mkF m 4 #[.val (.ref a1)] [(.ref aE), (.ref a1)])) X1 hx rfl rfl rfl (pc0 := 4) (pc' := 7) (same := true) rfl (hb hby own_d1_4) rfl (decide_eq_true (congrArg Value.ref hc)) (by decide) (by decide) k) ?_
    show own_Go _ _ _ _ (T1.setTop (mkF m 7 #[.val (.ref a1)] []))
    obtain ⟨T2, X2, e2, st2⟩ := getS2 X1 hx hZ hown (host := "") (Or.inl (hw _ (List.mem_of_getElem? (i := 11) rfl))) Via.refl e1 S_ODD (g := (mkF m 7 #[.val (.ref a1)] [])) rfl (hb hby own_d1_7)
    refine own_go st2 ?_
    show own_Go _ _ _ _ (T2.setTop (mkF m 10 #[.val (.ref a1)] [(.ref aO)]))
    refine own_go (fun _ k => XS.goto X2.here hx rfl (pc0 := 10) (pc' := 16) rfl (hb hby own_d1_10) (by decide) (by decide) k) ?_
    show own_Go _ _ _ _ (T2.setTop (mkF m 16 #[.val (.ref a1)] [(.ref aO)]))
    refine own_ret X2 hlk (v := some (.ref aO)) (fun h => by rw [Bd.returns] at h; cases h) (fun fs hr => retOut X2 hx Bd.returns rfl (Or.inr (Or.inr (Or.inr (Or.inr ⟨rfl, rfl, rfl⟩)))) (hb hby own_d1_16) hr) ?_ (by decide) (by decide)
    try rw [e2]
    exact ⟨by rw [← hr]; simp [hc], N0, rfl⟩
  · have _h := hc
    refine own_go (fun _ k => Jvm.RoadKit.acmp (g := (mkF m 4 #[.val (.ref a1)] [(.ref aE), (.ref a1)])) X1 hx rfl rfl rfl (pc0 := 4) (pc' := 13) (same := false) rfl (hb hby own_d1_4) rfl (decide_eq_false fun q => hc (Value.ref.inj q)) (by decide) (by decide) k) ?_
    show own_Go _ _ _ _ (T1.setTop (mkF m 13 #[.val (.ref a1)] []))
    obtain ⟨T3, X3, e3, st3⟩ := getS2 X1 hx hZ hown (host := "") (Or.inl (hw _ (List.mem_of_getElem? (i := 10) rfl))) Via.refl e1 S_EVEN (g := (mkF m 13 #[.val (.ref a1)] [])) rfl (hb hby own_d1_13)
    refine own_go st3 ?_
    show own_Go _ _ _ _ (T3.setTop (mkF m 16 #[.val (.ref a1)] [(.ref aE)]))
    refine own_ret X3 hlk (v := some (.ref aE)) (fun h => by rw [Bd.returns] at h; cases h) (fun fs hr => retOut X3 hx Bd.returns rfl (Or.inr (Or.inr (Or.inr (Or.inr ⟨rfl, rfl, rfl⟩)))) (hb hby own_d1_16) hr) ?_ (by decide) (by decide)
    try rw [e3]
    exact ⟨by rw [← hr]; simp [hc], N0, rfl⟩
theorem own_pn1 : plainName "com/example/lissage/lissage/FoldOtherPinLaw" = true := by first | (simp [plainName, overriddenIn]; done) | decide +kernel
theorem own_pd0 : parseMethodDescriptor "()Lcom/example/lissage/lissage/CrossValidation$Fold;" = some ⟨[], some (.object "com/example/lissage/lissage/CrossValidation$Fold")⟩ := by decide +kernel
set_option maxRecDepth 65536 in
set_option maxHeartbeats 40000000 in
theorem own_rm0 (l : Launch) (Z : State) (a0 : Array Value) (hw : ∀ d ∈ tables_1, d.before a0 Z = true) (p1 : Int32) (aE : Addr) (aO : Addr) (h0 : Heap) (n0 : Nat) (Z0 : n0 ≤ h0.size) (S_EVEN : Sta Z h0 "com/example/lissage/lissage/CrossValidation$Fold" "EVEN" "Lcom/example/lissage/lissage/CrossValidation$Fold;" (.ref aE)) (S_ODD : Sta Z h0 "com/example/lissage/lissage/CrossValidation$Fold" "ODD" "Lcom/example/lissage/lissage/CrossValidation$Fold;" (.ref aO)) (E_EVEN : Exa Z h0 aE "com/example/lissage/lissage/CrossValidation$Fold") (E_ODD : Exa Z h0 aO "com/example/lissage/lissage/CrossValidation$Fold") (hne : aE ≠ aO) :
    own_Met l Z tables_1 x code maxLocals ret room_1 #[(.int p1)] h0 (fun v h L => v = some (.int 1) ∧ Fr n0 L) := by
  refine MetFree.of_bodySF (plainFor_of_name own_pn1) hisR ?_
  intro p e s m args below meth c s₁ Bd hml0 hP hK
  obtain ⟨rfl, hZ, hh⟩ := hP
  have hx := Bd.exec
  have hby := Bd.bytes
  have hml : c.maxLocals = 6 := hml0
  have hown : s.vm.findClass "com/example/lissage/lissage/FoldOtherPinLaw" = some m.cls := findClass_of_methodNamed Bd.named
  have hnm := (name_of_methodNamed Bd.named Bd.method).1
  have hlk : meth.locks = false := Bd.notSynchronized
  have X0 : Stand p l e room_1 s m #[(.int p1)] below meth c s₁ [] 0 0 := Stand.of_body Bd
  have e0 : s₁.heap = h0 := by rw [← hh, Bd.state]; rfl
  have N0 := Fr.nil n0
  refine own_body (Q := fun v h L => v = some (.int 1) ∧ Fr n0 L) ?_
  refine own_go (fun t k => castTop (own_ef m #[(.int p1)] maxLocals #[.val (.int p1), .unset, .unset, .unset, .unset, .unset] (by first | rfl | simp [argsToLocals, Value.category, maxLocals])) k) ?_
  show own_Go _ _ _ _ (s₁.setTop (mkF m 0 #[.val (.int p1), .unset, .unset, .unset, .unset, .unset] []))
  refine own_go (fun _ k => XS.iloadN X0.here hx rfl (hb hby at_0) rfl k) ?_
  show own_Go _ _ _ _ (s₁.setTop (mkF m 1 #[.val (.int p1), .unset, .unset, .unset, .unset, .unset] [(.int p1)]))
  refine own_go (fun _ k => XS.iconst X0.here hx rfl (hb hby at_1) k) ?_
  show own_Go _ _ _ _ (s₁.setTop (mkF m 2 #[.val (.int p1), .unset, .unset, .unset, .unset, .unset] [(.int (1 : Int32)), (.int p1)]))
  refine own_go (fun _ k => XS.iand X0.here hx rfl (hb hby at_2) rfl k) ?_
  show own_Go _ _ _ _ (s₁.setTop (mkF m 3 #[.val (.int p1), .unset, .unset, .unset, .unset, .unset] [(.int (p1 &&& (1 : Int32)))]))
  by_cases hc3 : (p1 &&& (1 : Int32)) = (0 : Int32)
  · have _h := hc3
    refine own_go (fun _ k => XS.ifNo X0.here hx rfl (hb hby at_3) rfl ((if0 _ _).trans (teq hc3).2) k) ?_
    show own_Go _ _ _ _ (s₁.setTop (mkF m 6 #[.val (.int p1), .unset, .unset, .unset, .unset, .unset] []))
    refine own_go (fun _ k => XS.iconst X0.here hx rfl (hb hby at_6) k) ?_
    show own_Go _ _ _ _ (s₁.setTop (mkF m 7 #[.val (.int p1), .unset, .unset, .unset, .unset, .unset] [(.int (1 : Int32))]))
    refine own_go (fun _ k => XS.goto X0.here hx rfl (pc0 := 7) (pc' := 11) rfl (hb hby at_7) (by decide) (by decide) k) ?_
    show own_Go _ _ _ _ (s₁.setTop (mkF m 11 #[.val (.int p1), .unset, .unset, .unset, .unset, .unset] [(.int (1 : Int32))]))
    refine own_go (fun _ k => XS.istoreN X0.here hx rfl (hb hby at_11) rfl (l' := #[.val (.int p1), .val (.int (1 : Int32)), .unset, .unset, .unset, .unset]) rfl k) ?_
    show own_Go _ _ _ _ (s₁.setTop (mkF m 12 #[.val (.int p1), .val (.int (1 : Int32)), .unset, .unset, .unset, .unset] []))
    refine own_go (fun _ k => XS.iloadN X0.here hx rfl (hb hby at_12) rfl k) ?_
    show own_Go _ _ _ _ (s₁.setTop (mkF m 13 #[.val (.int p1), .val (.int (1 : Int32)), .unset, .unset, .unset, .unset] [(.int (1 : Int32))]))
    refine own_go (fun _ k => XS.ifNo X0.here hx rfl (hb hby at_13) rfl ((if0 _ _).trans (feq (by decide)).1) k) ?_
    show own_Go _ _ _ _ (s₁.setTop (mkF m 16 #[.val (.int p1), .val (.int (1 : Int32)), .unset, .unset, .unset, .unset] []))
    obtain ⟨T1, X1, e1, st1⟩ := getS2 X0 hx hZ hown (host := "") (Or.inl (hw _ (List.mem_of_getElem? (i := 0) rfl))) Via.refl e0 S_EVEN (g := (mkF m 16 #[.val (.int p1), .val (.int (1 : Int32)), .unset, .unset, .unset, .unset] [])) rfl (hb hby at_16)
    refine own_go st1 ?_
    show own_Go _ _ _ _ (T1.setTop (mkF m 19 #[.val (.int p1), .val (.int (1 : Int32)), .unset, .unset, .unset, .unset] [(.ref aE)]))
    refine own_go (fun _ k => XS.goto X1.here hx rfl (pc0 := 19) (pc' := 25) rfl (hb hby at_19) (by decide) (by decide) k) ?_
    show own_Go _ _ _ _ (T1.setTop (mkF m 25 #[.val (.int p1), .val (.int (1 : Int32)), .unset, .unset, .unset, .unset] [(.ref aE)]))
    refine own_go (fun _ k => XS.astoreN X1.here hx rfl (hb hby at_25) rfl rfl (l' := #[.val (.int p1), .val (.int (1 : Int32)), .val (.ref aE), .unset, .unset, .unset]) rfl k) ?_
    show own_Go _ _ _ _ (T1.setTop (mkF m 26 #[.val (.int p1), .val (.int (1 : Int32)), .val (.ref aE), .unset, .unset, .unset] []))
    refine own_go (fun _ k => XS.iloadN X1.here hx rfl (hb hby at_26) rfl k) ?_
    show own_Go _ _ _ _ (T1.setTop (mkF m 27 #[.val (.int p1), .val (.int (1 : Int32)), .val (.ref aE), .unset, .unset, .unset] [(.int (1 : Int32))]))
    refine own_go (fun _ k => XS.ifNo X1.here hx rfl (hb hby at_27) rfl ((if0 _ _).trans (feq (by decide)).1) k) ?_
    show own_Go _ _ _ _ (T1.setTop (mkF m 30 #[.val (.int p1), .val (.int (1 : Int32)), .val (.ref aE), .unset, .unset, .unset] []))
    obtain ⟨T2, X2, e2, st2⟩ := getS2 X1 hx hZ hown (host := "") (Or.inl (hw _ (List.mem_of_getElem? (i := 3) rfl))) Via.refl e1 S_ODD (g := (mkF m 30 #[.val (.int p1), .val (.int (1 : Int32)), .val (.ref aE), .unset, .unset, .unset] [])) rfl (hb hby at_30)
    refine own_go st2 ?_
    show own_Go _ _ _ _ (T2.setTop (mkF m 33 #[.val (.int p1), .val (.int (1 : Int32)), .val (.ref aE), .unset, .unset, .unset] [(.ref aO)]))
    refine own_go (fun _ k => XS.goto X2.here hx rfl (pc0 := 33) (pc' := 39) rfl (hb hby at_33) (by decide) (by decide) k) ?_
    show own_Go _ _ _ _ (T2.setTop (mkF m 39 #[.val (.int p1), .val (.int (1 : Int32)), .val (.ref aE), .unset, .unset, .unset] [(.ref aO)]))
    refine own_go (fun _ k => XS.astoreN X2.here hx rfl (hb hby at_39) rfl rfl (l' := #[.val (.int p1), .val (.int (1 : Int32)), .val (.ref aE), .val (.ref aO), .unset, .unset]) rfl k) ?_
    show own_Go _ _ _ _ (T2.setTop (mkF m 40 #[.val (.int p1), .val (.int (1 : Int32)), .val (.ref aE), .val (.ref aO), .unset, .unset] []))
    refine own_go (fun _ k => XS.aloadN X2.here hx rfl (hb hby at_40) rfl rfl k) ?_
    show own_Go _ _ _ _ (T2.setTop (mkF m 41 #[.val (.int p1), .val (.int (1 : Int32)), .val (.ref aE), .val (.ref aO), .unset, .unset] [(.ref aE)]))
    obtain ⟨cq3, kq3, q3a, q3b, q3c⟩ := isOf hZ e2 E_EVEN
    obtain ⟨_, _, ⟨T3, L3, k3, n3⟩, -, X3, ⟨Lc3, hQ3, l3, y3, z3⟩, st3⟩ := X2.virtualBack hx (y := (⟨"com/example/lissage/lissage/CrossValidation$Fold", "other", "()Lcom/example/lissage/lissage/CrossValidation$Fold;"⟩ : MethodName)) (z := (⟨"com/example/lissage/lissage/CrossValidation$Fold", "other", "()Lcom/example/lissage/lissage/CrossValidation$Fold;"⟩ : MethodName)) hown (mvT hZ (hw _ (List.mem_of_getElem? (i := 5) rfl))) (mvT hZ (hw _ (List.mem_of_getElem? (i := 6) rfl))) (notFace_of_selects (args := #[]) (mvT hZ (hw _ (List.mem_of_getElem? (i := 8) rfl)))) (mvT hZ (hw _ (List.mem_of_getElem? (i := 8) rfl))) (mvT hZ (hw _ (List.mem_of_getElem? (i := 7) rfl))) (by decide) (own_back (W := 0) (own_rm1 l Z a0 hw aE aE aO aO h0 n0 Z0 S_EVEN S_ODD (if_pos rfl)) hZ (hw _ (List.mem_of_getElem? (i := 9) rfl)) (hw _ (List.mem_of_getElem? (i := 1) rfl)) (by decide) (by decide)) q3a q3c (g := (mkF m 41 #[.val (.int p1), .val (.int (1 : Int32)), .val (.ref aE), .val (.ref aO), .unset, .unset] [(.ref aE)])) rfl (by rw [hml]; rfl) (Steps.refl _) (argsL := []) (rest := []) (lenOf own_pd0 rfl) rfl (by show 2 * 0 + _ ≤ _; exact Nat.le_of_eq rfl) (hb hby at_41) (fun _ _ => ⟨rfl, e2, (by decide : 0 + 0 ≤ _), (by decide : 0 + 0 ≤ _)⟩)
    dsimp only [Pt.U, Pt.locs, Pt.cells, Pt.slots] at X3 l3 y3 z3 st3 hQ3
    subst l3 y3 z3
    obtain ⟨rfl, Nq3, eq3⟩ := hQ3
    have NF3 := Fr.app N0 Nq3
    refine own_goT st3 ?_
    show own_Go _ _ _ _ (T3.setTop (mkF m 44 #[.val (.int p1), .val (.int (1 : Int32)), .val (.ref aE), .val (.ref aO), .unset, .unset] [(.ref aO)]))
    refine own_go (fun _ k => XS.astore X3.here hx rfl (hb hby at_44) rfl rfl (l' := #[.val (.int p1), .val (.int (1 : Int32)), .val (.ref aE), .val (.ref aO), .val (.ref aO), .unset]) rfl k) ?_
    show own_Go _ _ _ _ (T3.setTop (mkF m 46 #[.val (.int p1), .val (.int (1 : Int32)), .val (.ref aE), .val (.ref aO), .val (.ref aO), .unset] []))
    refine own_go (fun _ k => XS.aload X3.here hx rfl (hb hby at_46) rfl rfl k) ?_
    show own_Go _ _ _ _ (T3.setTop (mkF m 48 #[.val (.int p1), .val (.int (1 : Int32)), .val (.ref aE), .val (.ref aO), .val (.ref aO), .unset] [(.ref aO)]))
    obtain ⟨cq4, kq4, q4a, q4b, q4c⟩ := isOf hZ eq3 E_ODD
    obtain ⟨_, _, ⟨T4, L4, k4, n4⟩, -, X4, ⟨Lc4, hQ4, l4, y4, z4⟩, st4⟩ := X3.virtualBack hx (y := (⟨"com/example/lissage/lissage/CrossValidation$Fold", "other", "()Lcom/example/lissage/lissage/CrossValidation$Fold;"⟩ : MethodName)) (z := (⟨"com/example/lissage/lissage/CrossValidation$Fold", "other", "()Lcom/example/lissage/lissage/CrossValidation$Fold;"⟩ : MethodName)) hown (mvT hZ (hw _ (List.mem_of_getElem? (i := 5) rfl))) (mvT hZ (hw _ (List.mem_of_getElem? (i := 6) rfl))) (notFace_of_selects (args := #[]) (mvT hZ (hw _ (List.mem_of_getElem? (i := 8) rfl)))) (mvT hZ (hw _ (List.mem_of_getElem? (i := 8) rfl))) (mvT hZ (hw _ (List.mem_of_getElem? (i := 7) rfl))) (by decide) (own_back (W := 0) (own_rm1 l Z a0 hw aO aE aO aE h0 n0 Z0 S_EVEN S_ODD (if_neg hne.symm)) hZ (hw _ (List.mem_of_getElem? (i := 9) rfl)) (hw _ (List.mem_of_getElem? (i := 1) rfl)) (by decide) (by decide)) q4a q4c (g := (mkF m 48 #[.val (.int p1), .val (.int (1 : Int32)), .val (.ref aE), .val (.ref aO), .val (.ref aO), .unset] [(.ref aO)])) rfl (by rw [hml]; rfl) (Steps.refl _) (argsL := []) (rest := []) (lenOf own_pd0 rfl) rfl (by show 2 * 0 + _ ≤ _; exact Nat.le_of_eq rfl) (hb hby at_48) (fun _ _ => ⟨rfl, eq3, (by decide : 0 + 0 ≤ _), (by decide : 0 + 0 ≤ _)⟩)
    dsimp only [Pt.U, Pt.locs, Pt.cells, Pt.slots] at X4 l4 y4 z4 st4 hQ4
    subst l4 y4 z4
    obtain ⟨rfl, Nq4, eq4⟩ := hQ4
    have NF4 := Fr.app NF3 Nq4
    refine own_goT st4 ?_
    show own_Go _ _ _ _ (T4.setTop (mkF m 51 #[.val (.int p1), .val (.int (1 : Int32)), .val (.ref aE), .val (.ref aO), .val (.ref aO), .unset] [(.ref aE)]))
    refine own_go (fun _ k => XS.astore X4.here hx rfl (hb hby at_51) rfl rfl (l' := #[.val (.int p1), .val (.int (1 : Int32)), .val (.ref aE), .val (.ref aO), .val (.ref aO), .val (.ref aE)]) rfl k) ?_
    show own_Go _ _ _ _ (T4.setTop (mkF m 53 #[.val (.int p1), .val (.int (1 : Int32)), .val (.ref aE), .val (.ref aO), .val (.ref aO), .val (.ref aE)] []))
    refine own_go (fun _ k => XS.aload X4.here hx rfl (hb hby at_53) rfl rfl k) ?_
    show own_Go _ _ _ _ (T4.setTop (mkF m 55 #[.val (.int p1), .val (.int (1 : Int32)), .val (.ref aE), .val (.ref aO), .val (.ref aO), .val (.ref aE)] [(.ref aO)]))
    refine own_go (fun _ k => XS.aloadN X4.here hx rfl (hb hby at_55) rfl rfl k) ?_
    show own_Go _ _ _ _ (T4.setTop (mkF m 56 #[.val (.int p1), .val (.int (1 : Int32)), .val (.ref aE), .val (.ref aO), .val (.ref aO), .val (.ref aE)] [(.ref aO), (.ref aO)]))
    refine own_go (fun _ k => Jvm.RoadKit.acmp (g := (mkF m 56 #[.val (.int p1), .val (.int (1 : Int32)), .val (.ref aE), .val (.ref aO), .val (.ref aO), .val (.ref aE)] [(.ref aO), (.ref aO)])) X4 hx rfl rfl rfl (pc0 := 56) (pc' := 59) (same := true) rfl (hb hby at_56) rfl (decide_eq_true (congrArg Value.ref rfl)) (by decide) (by decide) k) ?_
    show own_Go _ _ _ _ (T4.setTop (mkF m 59 #[.val (.int p1), .val (.int (1 : Int32)), .val (.ref aE), .val (.ref aO), .val (.ref aO), .val (.ref aE)] []))
    refine own_go (fun _ k => XS.aload X4.here hx rfl (hb hby at_59) rfl rfl k) ?_
    show own_Go _ _ _ _ (T4.setTop (mkF m 61 #[.val (.int p1), .val (.int (1 : Int32)), .val (.ref aE), .val (.ref aO), .val (.ref aO), .val (.ref aE)] [(.ref aO)]))
    refine own_go (fun _ k => XS.aloadN X4.here hx rfl (hb hby at_61) rfl rfl k) ?_
    show own_Go _ _ _ _ (T4.setTop (mkF m 62 #[.val (.int p1), .val (.int (1 : Int32)), .val (.ref aE), .val (.ref aO), .val (.ref aO), .val (.ref aE)] [(.ref aE), (.ref aO)]))
    refine own_go (fun _ k => Jvm.RoadKit.acmp (g := (mkF m 62 #[.val (.int p1), .val (.int (1 : Int32)), .val (.ref aE), .val (.ref aO), .val (.ref aO), .val (.ref aE)] [(.ref aE), (.ref aO)])) X4 hx rfl rfl rfl (pc0 := 62) (pc' := 65) (same := false) rfl (hb hby at_62) rfl (decide_eq_false fun q => hne.symm (Value.ref.inj q)) (by decide) (by decide) k) ?_
    show own_Go _ _ _ _ (T4.setTop (mkF m 65 #[.val (.int p1), .val (.int (1 : Int32)), .val (.ref aE), .val (.ref aO), .val (.ref aO), .val (.ref aE)] []))
    refine own_go (fun _ k => XS.aload X4.here hx rfl (hb hby at_65) rfl rfl k) ?_
    show own_Go _ _ _ _ (T4.setTop (mkF m 67 #[.val (.int p1), .val (.int (1 : Int32)), .val (.ref aE), .val (.ref aO), .val (.ref aO), .val (.ref aE)] [(.ref aE)]))
    refine own_go (fun _ k => XS.aloadN X4.here hx rfl (hb hby at_67) rfl rfl k) ?_
    show own_Go _ _ _ _ (T4.setTop (mkF m 68 #[.val (.int p1), .val (.int (1 : Int32)), .val (.ref aE), .val (.ref aO), .val (.ref aO), .val (.ref aE)] [(.ref aE), (.ref aE)]))
    refine own_go (fun _ k => Jvm.RoadKit.acmp (g := (mkF m 68 #[.val (.int p1), .val (.int (1 : Int32)), .val (.ref aE), .val (.ref aO), .val (.ref aO), .val (.ref aE)] [(.ref aE), (.ref aE)])) X4 hx rfl rfl rfl (pc0 := 68) (pc' := 71) (same := true) rfl (hb hby at_68) rfl (decide_eq_true (congrArg Value.ref rfl)) (by decide) (by decide) k) ?_
    show own_Go _ _ _ _ (T4.setTop (mkF m 71 #[.val (.int p1), .val (.int (1 : Int32)), .val (.ref aE), .val (.ref aO), .val (.ref aO), .val (.ref aE)] []))
    refine own_go (fun _ k => XS.iconst X4.here hx rfl (hb hby at_71) k) ?_
    show own_Go _ _ _ _ (T4.setTop (mkF m 72 #[.val (.int p1), .val (.int (1 : Int32)), .val (.ref aE), .val (.ref aO), .val (.ref aO), .val (.ref aE)] [(.int (1 : Int32))]))
    refine own_go (fun _ k => XS.goto X4.here hx rfl (pc0 := 72) (pc' := 76) rfl (hb hby at_72) (by decide) (by decide) k) ?_
    show own_Go _ _ _ _ (T4.setTop (mkF m 76 #[.val (.int p1), .val (.int (1 : Int32)), .val (.ref aE), .val (.ref aO), .val (.ref aO), .val (.ref aE)] [(.int (1 : Int32))]))
    refine own_ret X4 hlk (v := some (.int (1 : Int32))) (fun h => by rw [Bd.returns] at h; cases h) (fun fs hr => retN X4 hx (t := .boolean) Bd.returns (by simp) (hb hby at_76) hr) ?_ (by decide) (by decide)
    try rw [eq4]
    exact ⟨rfl, NF4⟩
  · have _h := hc3
    refine own_go (fun _ k => XS.ifYes X0.here hx rfl (pc0 := 3) (pc' := 10) rfl (hb hby at_3) rfl ((if0 _ _).trans (feq hc3).2) (by decide) (by decide) k) ?_
    show own_Go _ _ _ _ (s₁.setTop (mkF m 10 #[.val (.int p1), .unset, .unset, .unset, .unset, .unset] []))
    refine own_go (fun _ k => XS.iconst X0.here hx rfl (hb hby at_10) k) ?_
    show own_Go _ _ _ _ (s₁.setTop (mkF m 11 #[.val (.int p1), .unset, .unset, .unset, .unset, .unset] [(.int (0 : Int32))]))
    refine own_go (fun _ k => XS.istoreN X0.here hx rfl (hb hby at_11) rfl (l' := #[.val (.int p1), .val (.int (0 : Int32)), .unset, .unset, .unset, .unset]) rfl k) ?_
    show own_Go _ _ _ _ (s₁.setTop (mkF m 12 #[.val (.int p1), .val (.int (0 : Int32)), .unset, .unset, .unset, .unset] []))
    refine own_go (fun _ k => XS.iloadN X0.here hx rfl (hb hby at_12) rfl k) ?_
    show own_Go _ _ _ _ (s₁.setTop (mkF m 13 #[.val (.int p1), .val (.int (0 : Int32)), .unset, .unset, .unset, .unset] [(.int (0 : Int32))]))
    refine own_go (fun _ k => XS.ifYes X0.here hx rfl (pc0 := 13) (pc' := 22) rfl (hb hby at_13) rfl ((if0 _ _).trans (teq (by decide)).1) (by decide) (by decide) k) ?_
    show own_Go _ _ _ _ (s₁.setTop (mkF m 22 #[.val (.int p1), .val (.int (0 : Int32)), .unset, .unset, .unset, .unset] []))
    obtain ⟨T5, X5, e5, st5⟩ := getS2 X0 hx hZ hown (host := "") (Or.inl (hw _ (List.mem_of_getElem? (i := 3) rfl))) Via.refl e0 S_ODD (g := (mkF m 22 #[.val (.int p1), .val (.int (0 : Int32)), .unset, .unset, .unset, .unset] [])) rfl (hb hby at_22)
    refine own_go st5 ?_
    show own_Go _ _ _ _ (T5.setTop (mkF m 25 #[.val (.int p1), .val (.int (0 : Int32)), .unset, .unset, .unset, .unset] [(.ref aO)]))
    refine own_go (fun _ k => XS.astoreN X5.here hx rfl (hb hby at_25) rfl rfl (l' := #[.val (.int p1), .val (.int (0 : Int32)), .val (.ref aO), .unset, .unset, .unset]) rfl k) ?_
    show own_Go _ _ _ _ (T5.setTop (mkF m 26 #[.val (.int p1), .val (.int (0 : Int32)), .val (.ref aO), .unset, .unset, .unset] []))
    refine own_go (fun _ k => XS.iloadN X5.here hx rfl (hb hby at_26) rfl k) ?_
    show own_Go _ _ _ _ (T5.setTop (mkF m 27 #[.val (.int p1), .val (.int (0 : Int32)), .val (.ref aO), .unset, .unset, .unset] [(.int (0 : Int32))]))
    refine own_go (fun _ k => XS.ifYes X5.here hx rfl (pc0 := 27) (pc' := 36) rfl (hb hby at_27) rfl ((if0 _ _).trans (teq (by decide)).1) (by decide) (by decide) k) ?_
    show own_Go _ _ _ _ (T5.setTop (mkF m 36 #[.val (.int p1), .val (.int (0 : Int32)), .val (.ref aO), .unset, .unset, .unset] []))
    obtain ⟨T6, X6, e6, st6⟩ := getS2 X5 hx hZ hown (host := "") (Or.inl (hw _ (List.mem_of_getElem? (i := 0) rfl))) Via.refl e5 S_EVEN (g := (mkF m 36 #[.val (.int p1), .val (.int (0 : Int32)), .val (.ref aO), .unset, .unset, .unset] [])) rfl (hb hby at_36)
    refine own_go st6 ?_
    show own_Go _ _ _ _ (T6.setTop (mkF m 39 #[.val (.int p1), .val (.int (0 : Int32)), .val (.ref aO), .unset, .unset, .unset] [(.ref aE)]))
    refine own_go (fun _ k => XS.astoreN X6.here hx rfl (hb hby at_39) rfl rfl (l' := #[.val (.int p1), .val (.int (0 : Int32)), .val (.ref aO), .val (.ref aE), .unset, .unset]) rfl k) ?_
    show own_Go _ _ _ _ (T6.setTop (mkF m 40 #[.val (.int p1), .val (.int (0 : Int32)), .val (.ref aO), .val (.ref aE), .unset, .unset] []))
    refine own_go (fun _ k => XS.aloadN X6.here hx rfl (hb hby at_40) rfl rfl k) ?_
    show own_Go _ _ _ _ (T6.setTop (mkF m 41 #[.val (.int p1), .val (.int (0 : Int32)), .val (.ref aO), .val (.ref aE), .unset, .unset] [(.ref aO)]))
    obtain ⟨cq7, kq7, q7a, q7b, q7c⟩ := isOf hZ e6 E_ODD
    obtain ⟨_, _, ⟨T7, L7, k7, n7⟩, -, X7, ⟨Lc7, hQ7, l7, y7, z7⟩, st7⟩ := X6.virtualBack hx (y := (⟨"com/example/lissage/lissage/CrossValidation$Fold", "other", "()Lcom/example/lissage/lissage/CrossValidation$Fold;"⟩ : MethodName)) (z := (⟨"com/example/lissage/lissage/CrossValidation$Fold", "other", "()Lcom/example/lissage/lissage/CrossValidation$Fold;"⟩ : MethodName)) hown (mvT hZ (hw _ (List.mem_of_getElem? (i := 5) rfl))) (mvT hZ (hw _ (List.mem_of_getElem? (i := 6) rfl))) (notFace_of_selects (args := #[]) (mvT hZ (hw _ (List.mem_of_getElem? (i := 8) rfl)))) (mvT hZ (hw _ (List.mem_of_getElem? (i := 8) rfl))) (mvT hZ (hw _ (List.mem_of_getElem? (i := 7) rfl))) (by decide) (own_back (W := 0) (own_rm1 l Z a0 hw aO aE aO aE h0 n0 Z0 S_EVEN S_ODD (if_neg hne.symm)) hZ (hw _ (List.mem_of_getElem? (i := 9) rfl)) (hw _ (List.mem_of_getElem? (i := 1) rfl)) (by decide) (by decide)) q7a q7c (g := (mkF m 41 #[.val (.int p1), .val (.int (0 : Int32)), .val (.ref aO), .val (.ref aE), .unset, .unset] [(.ref aO)])) rfl (by rw [hml]; rfl) (Steps.refl _) (argsL := []) (rest := []) (lenOf own_pd0 rfl) rfl (by show 2 * 0 + _ ≤ _; exact Nat.le_of_eq rfl) (hb hby at_41) (fun _ _ => ⟨rfl, e6, (by decide : 0 + 0 ≤ _), (by decide : 0 + 0 ≤ _)⟩)
    dsimp only [Pt.U, Pt.locs, Pt.cells, Pt.slots] at X7 l7 y7 z7 st7 hQ7
    subst l7 y7 z7
    obtain ⟨rfl, Nq7, eq7⟩ := hQ7
    have NF7 := Fr.app N0 Nq7
    refine own_goT st7 ?_
    show own_Go _ _ _ _ (T7.setTop (mkF m 44 #[.val (.int p1), .val (.int (0 : Int32)), .val (.ref aO), .val (.ref aE), .unset, .unset] [(.ref aE)]))
    refine own_go (fun _ k => XS.astore X7.here hx rfl (hb hby at_44) rfl rfl (l' := #[.val (.int p1), .val (.int (0 : Int32)), .val (.ref aO), .val (.ref aE), .val (.ref aE), .unset]) rfl k) ?_
    show own_Go _ _ _ _ (T7.setTop (mkF m 46 #[.val (.int p1), .val (.int (0 : Int32)), .val (.ref aO), .val (.ref aE), .val (.ref aE), .unset] []))
    refine own_go (fun _ k => XS.aload X7.here hx rfl (hb hby at_46) rfl rfl k) ?_
    show own_Go _ _ _ _ (T7.setTop (mkF m 48 #[.val (.int p1), .val (.int (0 : Int32)), .val (.ref aO), .val (.ref aE), .val (.ref aE), .unset] [(.ref aE)]))
    obtain ⟨cq8, kq8, q8a, q8b, q8c⟩ := isOf hZ eq7 E_EVEN
    obtain ⟨_, _, ⟨T8, L8, k8, n8⟩, -, X8, ⟨Lc8, hQ8, l8, y8, z8⟩, st8⟩ := X7.virtualBack hx (y := (⟨"com/example/lissage/lissage/CrossValidation$Fold", "other", "()Lcom/example/lissage/lissage/CrossValidation$Fold;"⟩ : MethodName)) (z := (⟨"com/example/lissage/lissage/CrossValidation$Fold", "other", "()Lcom/example/lissage/lissage/CrossValidation$Fold;"⟩ : MethodName)) hown (mvT hZ (hw _ (List.mem_of_getElem? (i := 5) rfl))) (mvT hZ (hw _ (List.mem_of_getElem? (i := 6) rfl))) (notFace_of_selects (args := #[]) (mvT hZ (hw _ (List.mem_of_getElem? (i := 8) rfl)))) (mvT hZ (hw _ (List.mem_of_getElem? (i := 8) rfl))) (mvT hZ (hw _ (List.mem_of_getElem? (i := 7) rfl))) (by decide) (own_back (W := 0) (own_rm1 l Z a0 hw aE aE aO aO h0 n0 Z0 S_EVEN S_ODD (if_pos rfl)) hZ (hw _ (List.mem_of_getElem? (i := 9) rfl)) (hw _ (List.mem_of_getElem? (i := 1) rfl)) (by decide) (by decide)) q8a q8c (g := (mkF m 48 #[.val (.int p1), .val (.int (0 : Int32)), .val (.ref aO), .val (.ref aE), .val (.ref aE), .unset] [(.ref aE)])) rfl (by rw [hml]; rfl) (Steps.refl _) (argsL := []) (rest := []) (lenOf own_pd0 rfl) rfl (by show 2 * 0 + _ ≤ _; exact Nat.le_of_eq rfl) (hb hby at_48) (fun _ _ => ⟨rfl, eq7, (by decide : 0 + 0 ≤ _), (by decide : 0 + 0 ≤ _)⟩)
    dsimp only [Pt.U, Pt.locs, Pt.cells, Pt.slots] at X8 l8 y8 z8 st8 hQ8
    subst l8 y8 z8
    obtain ⟨rfl, Nq8, eq8⟩ := hQ8
    have NF8 := Fr.app NF7 Nq8
    refine own_goT st8 ?_
    show own_Go _ _ _ _ (T8.setTop (mkF m 51 #[.val (.int p1), .val (.int (0 : Int32)), .val (.ref aO), .val (.ref aE), .val (.ref aE), .unset] [(.ref aO)]))
    refine own_go (fun _ k => XS.astore X8.here hx rfl (hb hby at_51) rfl rfl (l' := #[.val (.int p1), .val (.int (0 : Int32)), .val (.ref aO), .val (.ref aE), .val (.ref aE), .val (.ref aO)]) rfl k) ?_
    show own_Go _ _ _ _ (T8.setTop (mkF m 53 #[.val (.int p1), .val (.int (0 : Int32)), .val (.ref aO), .val (.ref aE), .val (.ref aE), .val (.ref aO)] []))
    refine own_go (fun _ k => XS.aload X8.here hx rfl (hb hby at_53) rfl rfl k) ?_
    show own_Go _ _ _ _ (T8.setTop (mkF m 55 #[.val (.int p1), .val (.int (0 : Int32)), .val (.ref aO), .val (.ref aE), .val (.ref aE), .val (.ref aO)] [(.ref aE)]))
    refine own_go (fun _ k => XS.aloadN X8.here hx rfl (hb hby at_55) rfl rfl k) ?_
    show own_Go _ _ _ _ (T8.setTop (mkF m 56 #[.val (.int p1), .val (.int (0 : Int32)), .val (.ref aO), .val (.ref aE), .val (.ref aE), .val (.ref aO)] [(.ref aE), (.ref aE)]))
    refine own_go (fun _ k => Jvm.RoadKit.acmp (g := (mkF m 56 #[.val (.int p1), .val (.int (0 : Int32)), .val (.ref aO), .val (.ref aE), .val (.ref aE), .val (.ref aO)] [(.ref aE), (.ref aE)])) X8 hx rfl rfl rfl (pc0 := 56) (pc' := 59) (same := true) rfl (hb hby at_56) rfl (decide_eq_true (congrArg Value.ref rfl)) (by decide) (by decide) k) ?_
    show own_Go _ _ _ _ (T8.setTop (mkF m 59 #[.val (.int p1), .val (.int (0 : Int32)), .val (.ref aO), .val (.ref aE), .val (.ref aE), .val (.ref aO)] []))
    refine own_go (fun _ k => XS.aload X8.here hx rfl (hb hby at_59) rfl rfl k) ?_
    show own_Go _ _ _ _ (T8.setTop (mkF m 61 #[.val (.int p1), .val (.int (0 : Int32)), .val (.ref aO), .val (.ref aE), .val (.ref aE), .val (.ref aO)] [(.ref aE)]))
    refine own_go (fun _ k => XS.aloadN X8.here hx rfl (hb hby at_61) rfl rfl k) ?_
    show own_Go _ _ _ _ (T8.setTop (mkF m 62 #[.val (.int p1), .val (.int (0 : Int32)), .val (.ref aO), .val (.ref aE), .val (.ref aE), .val (.ref aO)] [(.ref aO), (.ref aE)]))
    refine own_go (fun _ k => Jvm.RoadKit.acmp (g := (mkF m 62 #[.val (.int p1), .val (.int (0 : Int32)), .val (.ref aO), .val (.ref aE), .val (.ref aE), .val (.ref aO)] [(.ref aO), (.ref aE)])) X8 hx rfl rfl rfl (pc0 := 62) (pc' := 65) (same := false) rfl (hb hby at_62) rfl (decide_eq_false fun q => hne (Value.ref.inj q)) (by decide) (by decide) k) ?_
    show own_Go _ _ _ _ (T8.setTop (mkF m 65 #[.val (.int p1), .val (.int (0 : Int32)), .val (.ref aO), .val (.ref aE), .val (.ref aE), .val (.ref aO)] []))
    refine own_go (fun _ k => XS.aload X8.here hx rfl (hb hby at_65) rfl rfl k) ?_
    show own_Go _ _ _ _ (T8.setTop (mkF m 67 #[.val (.int p1), .val (.int (0 : Int32)), .val (.ref aO), .val (.ref aE), .val (.ref aE), .val (.ref aO)] [(.ref aO)]))
    refine own_go (fun _ k => XS.aloadN X8.here hx rfl (hb hby at_67) rfl rfl k) ?_
    show own_Go _ _ _ _ (T8.setTop (mkF m 68 #[.val (.int p1), .val (.int (0 : Int32)), .val (.ref aO), .val (.ref aE), .val (.ref aE), .val (.ref aO)] [(.ref aO), (.ref aO)]))
    refine own_go (fun _ k => Jvm.RoadKit.acmp (g := (mkF m 68 #[.val (.int p1), .val (.int (0 : Int32)), .val (.ref aO), .val (.ref aE), .val (.ref aE), .val (.ref aO)] [(.ref aO), (.ref aO)])) X8 hx rfl rfl rfl (pc0 := 68) (pc' := 71) (same := true) rfl (hb hby at_68) rfl (decide_eq_true (congrArg Value.ref rfl)) (by decide) (by decide) k) ?_
    show own_Go _ _ _ _ (T8.setTop (mkF m 71 #[.val (.int p1), .val (.int (0 : Int32)), .val (.ref aO), .val (.ref aE), .val (.ref aE), .val (.ref aO)] []))
    refine own_go (fun _ k => XS.iconst X8.here hx rfl (hb hby at_71) k) ?_
    show own_Go _ _ _ _ (T8.setTop (mkF m 72 #[.val (.int p1), .val (.int (0 : Int32)), .val (.ref aO), .val (.ref aE), .val (.ref aE), .val (.ref aO)] [(.int (1 : Int32))]))
    refine own_go (fun _ k => XS.goto X8.here hx rfl (pc0 := 72) (pc' := 76) rfl (hb hby at_72) (by decide) (by decide) k) ?_
    show own_Go _ _ _ _ (T8.setTop (mkF m 76 #[.val (.int p1), .val (.int (0 : Int32)), .val (.ref aO), .val (.ref aE), .val (.ref aE), .val (.ref aO)] [(.int (1 : Int32))]))
    refine own_ret X8 hlk (v := some (.int (1 : Int32))) (fun h => by rw [Bd.returns] at h; cases h) (fun fs hr => retN X8 hx (t := .boolean) Bd.returns (by simp) (hb hby at_76) hr) ?_ (by decide) (by decide)
    try rw [eq8]
    exact ⟨rfl, NF8⟩
set_option maxRecDepth 65536 in
set_option maxHeartbeats 40000000 in
theorem own_comes {Post : Tables → Env → Array Value → State → Outcome → State → Prop} (hpost : ∀ tb e args s v u, (limb_1_1.after args s (.returned v) u = true ∧ limb_1_2.after args s (.returned v) u = true ∧ True) → FrameEnd s (.returned v) u (Jvm.fieldLocs frame_1_writes args s ++ Jvm.arrayLocs frame_1_arrays args s ++ Jvm.staticLocs frame_1_statics s) 0 0 → Post tb e args s (.returned v) u) :
    ArmFor flags0 classFile x code maxLocals ret World_1 tables_1 room_1 Calls_1 rest_1 Pre_1 Post := by
  intro l hfl _ _ p e ha hc hk s m args below hf hA hF happ hP
  obtain ⟨hcalls, hrest, hpre⟩ := hP
  obtain ⟨-, -, -, hnamed, -, -, -, hat⟩ := (Spec.applies_iff hf).mp happ
  obtain ⟨hg, hn⟩ := and_e (Cond.before_iff.mp (show (Jvm.Cond.and given_1 narrow_1).before args s = true from hpre))
  obtain ⟨hcount, hg⟩ := and_e hg
  obtain ⟨w0, rfl⟩ : ∃ w0 : Value, args = #[w0] := by
    have hs : args.size = 1 := by simpa [Cond.value, given_1] using hcount
    obtain ⟨L⟩ := args
    match L, hs with
    | [w0], _ => exact ⟨w0, rfl⟩
  have hw := fun d (hd : d ∈ tables_1) => atoms_spec (ws := Jvm.Cond.code x code maxLocals ret :: tables_1) hat d (List.mem_cons_of_mem _ hd)
  have hfit : Fit s := fun {y c} hc i hi => by
    obtain ⟨ha, rfl⟩ := Array.getElem?_eq_some_iff.mp hc
    have q := List.all_eq_true.mp ((Array.all_eq_true_iff_forall_mem.mp hF) _ (Array.getElem_mem ha)) i (List.mem_range.mpr hi)
    simpa [Array.getElem?_eq_getElem hi] using q
  obtain ⟨i0, ei0⟩ := is_v hg
  obtain rfl : w0 = (.int i0) := Option.some.inj ei0
  obtain ⟨hn0, hn⟩ := and_e hn
  obtain ⟨hn1, hn⟩ := and_e hn
  obtain ⟨hn2, hn⟩ := and_e hn
  have hn3 := hn
  obtain ⟨a_EVEN, ev_EVEN⟩ := exa_v hn0
  have S_EVEN := Sta.start ev_EVEN (Or.inr ⟨(hw _ (List.mem_of_getElem? (i := 1) rfl)), (hw _ (List.mem_of_getElem? (i := 2) rfl))⟩)
  have E_EVEN := Exa.start ev_EVEN hn0
  obtain ⟨a_ODD, ev_ODD⟩ := exa_v hn1
  have S_ODD := Sta.start ev_ODD (Or.inr ⟨(hw _ (List.mem_of_getElem? (i := 1) rfl)), (hw _ (List.mem_of_getElem? (i := 4) rfl))⟩)
  have E_ODD := Exa.start ev_ODD hn1
  have F_ordinal_ODD := own_fld ev_ODD (own_eqi hn2)
  have F_ordinal_EVEN := own_fld ev_EVEN (own_eqi hn3)
  have hne : a_EVEN ≠ a_ODD := Fld.ne F_ordinal_EVEN F_ordinal_ODD (by decide)
  obtain ⟨n, o, h1, h2, h3, _, L, rfl, ⟨rfl, N⟩, hq⟩ := own_rm0 l s _ hw i0 a_EVEN a_ODD s.heap s.heap.size (Nat.le_refl _) S_EVEN S_ODD E_EVEN E_ODD hne p e ha hc hk s m _ below hf ((Spec.applies_iff_loose hf).mp happ).1 ⟨rfl, State.Warmed39.refl s, rfl⟩ trivial
  refine ⟨n, _, h1, h2, h3, hpost _ _ _ _ _ _ ⟨Cond.after_iff.mpr rfl, Cond.after_iff.mpr (eq_i res_at (Term.int_eval (1)) rfl), trivial⟩ ⟨hq.1, hq.2.1, (hq.2.2.sift fun y hy => Or.inr (N y hy)).mono (by decide) (by decide)⟩⟩
theorem main_1_1 : Claimed_1_1 := own_comes fun _ _ _ _ _ _ h hF => ⟨h.1, hF⟩
theorem main_1_2 : Claimed_1_2 := own_comes fun _ _ _ _ _ _ h hF => ⟨h.2.1, hF⟩
end Jvm.Pilot.@@N@@
namespace Jvm.Pilot.@@N@@
open Jvm Jvm.ClassFile Sem Op Lib Jvm.Free Jvm.Stand Jvm.Pilot.@@N@@.Jvm.D
/-! MADE BY PROGRAM (witnessworld.py) out of the Statement's table words and the real class files: 12 classes; the members and pool entries that the words name. The judged class is class 1, her method 1. -/
namespace start1
open Jvm.ClassFile
def u (s : String) : CpInfo := .utf8 (stringToUtf16 s)
/-- a pool by its gaps: so many unusable entries, then the entry; so many at the end -/
def gap : Nat → List CpInfo → List CpInfo
  | 0, r => r
  | n + 1, r => .unusable :: gap n r
def poolList (es : List (Nat × CpInfo)) (last : Nat) : List CpInfo := es.foldr (fun e r => gap e.1 (e.2 :: r)) (gap last [])
def pool (es : List (Nat × CpInfo)) (last : Nat) : Array CpInfo := ⟨poolList es last⟩
def fileOf (pool : Array CpInfo) (this : Nat) (attrs : Array Attribute := #[]) (ms : Array MethodInfo := #[]) (fl : Nat := 33) (sup : Nat := 0) (ifs : Array Nat := #[]) (fds : Array FieldInfo := #[]) : ClassFile where
  minorVersion := 0
  majorVersion := 65
  constantPool := pool
  accessFlags := fl
  thisClass := this
  superClass := sup
  interfaces := ifs
  fields := fds
  methods := ms
  attributes := attrs
def plain (name : String) (sup : Option ClassId) : Class where
  name := name
  kind := .ordinary
  loader := none
  accessFlags := 33
  super := sup
  interfaces := #[]
  cf := none
  fields := #[]
  methods := #[]
  instanceTypes := #[]
  staticTypes := #[]
  resolved := #[]
  callSites := []
  init := .initialized
  statics := none
  mirror := none

def pool0 : Array CpInfo := pool [(5, u "<init>"), (0, u "()V"), (1, .class_ 10), (1, u "java/lang/Object")] 113

def k0m0 : Method := { name := "<init>", desc := "()V", sig := { parameters := [], returnType := none }, accessFlags := 1, code := none }
/-- java/lang/Object -/
def k0 : Class := { plain "java/lang/Object" none with
  accessFlags := 33
  interfaces := #[]
  cf := some (fileOf pool0 8 #[] #[{ accessFlags := 1, nameIndex := 5, descriptorIndex := 6, attributes := #[] }] 33 0 #[] #[])
  fields := #[]
  methods := #[k0m0]
  instanceTypes := #[]
  staticTypes := #[]
  resolved := Array.replicate 124 none
  statics := none }

def pool1 : Array CpInfo := pool [(2, .class_ 4), (1, u "java/lang/Object"), (0, u "<init>"), (0, u "()V"), (0, .fieldref 8 9), (0, .class_ 10), (0, .nameAndType 11 12), (0, u "com/example/lissage/lissage/CrossValidation$Fold"), (0, u "EVEN"), (0, u "Lcom/example/lissage/lissage/CrossValidation$Fold;"), (0, .fieldref 8 14), (0, .nameAndType 15 12), (0, u "ODD"), (0, .methodref 8 17), (0, .nameAndType 18 19), (0, u "other"), (0, u "()Lcom/example/lissage/lissage/CrossValidation$Fold;"), (0, .class_ 21), (0, u "com/example/lissage/lissage/FoldOtherPinLaw"), (2, u "law"), (0, u "(I)Z")] 7

def k1m0 : Method := { name := "<init>", desc := "()V", sig := { parameters := [], returnType := none }, accessFlags := 2, code := none }
def k1c1 : Code := { maxStack := 2, maxLocals := 6, code := code, exceptionTable := #[], attributes := #[] }
def k1m1 : Method := { name := "law", desc := "(I)Z", sig := { parameters := [.int], returnType := some .boolean }, accessFlags := 9, code := some k1c1 }
/-- com/example/lissage/lissage/FoldOtherPinLaw -/
def k1 : Class := { plain "com/example/lissage/lissage/FoldOtherPinLaw" (some 0) with
  accessFlags := 49
  interfaces := #[]
  cf := some (fileOf pool1 20 #[] #[{ accessFlags := 2, nameIndex := 5, descriptorIndex := 6, attributes := #[] }, { accessFlags := 9, nameIndex := 24, descriptorIndex := 25, attributes := #[] }] 49 2 #[] #[])
  fields := #[]
  methods := #[k1m0, k1m1]
  instanceTypes := #[]
  staticTypes := #[]
  resolved := Array.replicate 33 none
  statics := none }

def pool2 : Array CpInfo := pool [(1, .class_ 2), (0, u "java/lang/constant/Constable"), (0, .class_ 4), (0, u "java/lang/Object")] 6

/-- java/lang/constant/Constable -/
def k2 : Class := { plain "java/lang/constant/Constable" (some 0) with
  accessFlags := 1537
  interfaces := #[]
  cf := some (fileOf pool2 1 #[] #[] 1537 3 #[] #[])
  fields := #[]
  methods := #[]
  instanceTypes := #[]
  staticTypes := #[]
  resolved := Array.replicate 11 none
  statics := none }

def pool3 : Array CpInfo := pool [(1, .class_ 2), (0, u "java/lang/Comparable"), (0, .class_ 4), (0, u "java/lang/Object")] 7

/-- java/lang/Comparable -/
def k3 : Class := { plain "java/lang/Comparable" (some 0) with
  accessFlags := 1537
  interfaces := #[]
  cf := some (fileOf pool3 1 #[] #[] 1537 3 #[] #[])
  fields := #[]
  methods := #[]
  instanceTypes := #[]
  staticTypes := #[]
  resolved := Array.replicate 12 none
  statics := none }

def pool4 : Array CpInfo := pool [(1, .class_ 2), (0, u "java/io/Serializable"), (0, .class_ 4), (0, u "java/lang/Object")] 2

/-- java/io/Serializable -/
def k4 : Class := { plain "java/io/Serializable" (some 0) with
  accessFlags := 1537
  interfaces := #[]
  cf := some (fileOf pool4 1 #[] #[] 1537 3 #[] #[])
  fields := #[]
  methods := #[]
  instanceTypes := #[]
  staticTypes := #[]
  resolved := Array.replicate 7 none
  statics := none }

def pool5 : Array CpInfo := pool [(2, .class_ 4), (1, u "java/lang/Enum"), (0, u "name"), (0, u "Ljava/lang/String;"), (2, u "ordinal"), (0, u "I"), (1, .class_ 14), (1, u "java/lang/Object"), (4, u "hash"), (86, .class_ 108), (1, u "java/lang/Enum$EnumDesc"), (2, .class_ 112), (0, u "java/lang/constant/Constable"), (0, .class_ 114), (0, u "java/lang/Comparable"), (0, .class_ 116), (0, u "java/io/Serializable")] 87

/-- java/lang/Enum -/
def k5 : Class := { plain "java/lang/Enum" (some 0) with
  accessFlags := 1057
  interfaces := #[2, 3, 4]
  cf := some (fileOf pool5 2 #[.nestMembers #[106]] #[] 1057 12 #[111, 113, 115] #[{ accessFlags := 18, nameIndex := 5, descriptorIndex := 6, attributes := #[] }, { accessFlags := 18, nameIndex := 9, descriptorIndex := 10, attributes := #[] }, { accessFlags := 2, nameIndex := 19, descriptorIndex := 10, attributes := #[] }])
  fields := #[{ name := "name", type := (.object "java/lang/String"), accessFlags := 18, slot := 0, constantValue := 0 }, { name := "ordinal", type := .int, accessFlags := 18, slot := 1, constantValue := 0 }, { name := "hash", type := .int, accessFlags := 2, slot := 2, constantValue := 0 }]
  methods := #[]
  instanceTypes := #[(.object "java/lang/String"), .int, .int]
  staticTypes := #[]
  resolved := Array.replicate 204 none
  statics := none }

def pool6 : Array CpInfo := pool [(1, .class_ 2), (0, u "com/example/lissage/lissage/CrossValidation$Fold"), (0, .fieldref 1 4), (0, .nameAndType 5 6), (0, u "EVEN"), (0, u "Lcom/example/lissage/lissage/CrossValidation$Fold;"), (0, .fieldref 1 8), (0, .nameAndType 9 6), (0, u "ODD"), (2, u "$VALUES"), (0, u "[Lcom/example/lissage/lissage/CrossValidation$Fold;"), (6, .class_ 22), (1, u "java/lang/Enum"), (8, u "label"), (0, u "Ljava/lang/String;"), (50, u "other"), (0, u "()Lcom/example/lissage/lissage/CrossValidation$Fold;"), (6, .class_ 92), (0, u "com/example/lissage/lissage/CrossValidation")] 2

def k6c0 : Code := { maxStack := 2, maxLocals := 1, code := prog_9_method_6_code, exceptionTable := #[], attributes := #[] }
def k6m0 : Method := { name := "other", desc := "()Lcom/example/lissage/lissage/CrossValidation$Fold;", sig := { parameters := [], returnType := some (.object "com/example/lissage/lissage/CrossValidation$Fold") }, accessFlags := 1, code := some k6c0 }
/-- com/example/lissage/lissage/CrossValidation$Fold -/
def k6 : Class := { plain "com/example/lissage/lissage/CrossValidation$Fold" (some 5) with
  accessFlags := 16433
  interfaces := #[]
  cf := some (fileOf pool6 1 #[.nestHost 91] #[{ accessFlags := 1, nameIndex := 83, descriptorIndex := 84, attributes := #[] }] 16433 20 #[] #[{ accessFlags := 16409, nameIndex := 5, descriptorIndex := 6, attributes := #[] }, { accessFlags := 16409, nameIndex := 9, descriptorIndex := 6, attributes := #[] }, { accessFlags := 18, nameIndex := 31, descriptorIndex := 32, attributes := #[] }, { accessFlags := 4122, nameIndex := 12, descriptorIndex := 13, attributes := #[] }])
  fields := #[{ name := "EVEN", type := (.object "com/example/lissage/lissage/CrossValidation$Fold"), accessFlags := 16409, slot := 0, constantValue := 0 }, { name := "ODD", type := (.object "com/example/lissage/lissage/CrossValidation$Fold"), accessFlags := 16409, slot := 1, constantValue := 0 }, { name := "label", type := (.object "java/lang/String"), accessFlags := 18, slot := 3, constantValue := 0 }, { name := "$VALUES", type := (.array (.object "com/example/lissage/lissage/CrossValidation$Fold")), accessFlags := 4122, slot := 2, constantValue := 0 }]
  methods := #[k6m0]
  instanceTypes := #[(.object "java/lang/String"), .int, .int, (.object "java/lang/String")]
  staticTypes := #[(.object "com/example/lissage/lissage/CrossValidation$Fold"), (.object "com/example/lissage/lissage/CrossValidation$Fold"), (.array (.object "com/example/lissage/lissage/CrossValidation$Fold"))]
  resolved := Array.replicate 95 none
  statics := some 0 }

def pool7 : Array CpInfo := pool [(1, u "java/lang/Cloneable"), (0, .class_ 1), (0, u "java/lang/Object"), (0, .class_ 3)] 3

/-- java/lang/Cloneable -/
def k7 : Class := { plain "java/lang/Cloneable" (some 0) with
  accessFlags := 1537
  interfaces := #[]
  cf := some (fileOf pool7 2 #[] #[] 1537 4 #[] #[])
  fields := #[]
  methods := #[]
  instanceTypes := #[]
  staticTypes := #[]
  resolved := Array.replicate 8 none
  statics := none }

/-- the primitive byte -/
def k8 : Class := { plain "byte" none with kind := .primitive 'B', accessFlags := 0x411 }
/-- [B -/
def k9 : Class := { plain "[B" (some 0) with kind := .array 8 .byte, interfaces := #[7, 4], accessFlags := 1041 }

/-- the primitive int -/
def k10 : Class := { plain "int" none with kind := .primitive 'I', accessFlags := 0x411 }
/-- [I -/
def k11 : Class := { plain "[I" (some 0) with kind := .array 10 .int, interfaces := #[7, 4], accessFlags := 1041 }

def heap : Heap := #[{ cls := 6, slots := #[.ref 1, .ref 2, .null], vm := .statics 6 },
  { cls := 6, slots := #[.null, .int 0, .int 0, .null], vm := .none },
  { cls := 6, slots := #[.null, .int 1, .int 0, .null], vm := .none }]
def classes : Array Class := #[k0, k1, k2, k3, k4, k5, k6, k7, k8, k9, k10, k11]
def interned : List (Array UInt16 × Addr) := []
def slotsUsed : Nat := 11
def theMethod : MethodId := ⟨1, 1⟩
def args0 : Array Value := #[.int 5]
def aboutOver (below : List Frame) : State where
  vm := { classes := classes, interned := interned.toArray }
  heap := heap
  slotsUsed := slotsUsed
  threads := #[{ frames := .invoking theMethod args0 :: below }]
def below0 : List Frame := [.native { method := ⟨0, 0⟩, args := #[] }]
def about1 : State := aboutOver below0
def p0 : Program := .bare "" "" ""
def e0 : Env := launch0.env 0 0 0
theorem w_frames : about1.frames = Frame.invoking theMethod args0 :: below0 := rfl
set_option maxRecDepth 65536 in
theorem w_args : argsFit about1.vm theMethod args0 = true := by decide +kernel
set_option maxRecDepth 65536 in
theorem w_heap : heapFits about1 = true := by decide +kernel
set_option maxRecDepth 65536 in
theorem w_runnable : about1.curStatus? = some .runnable := by decide +kernel
set_option maxRecDepth 65536 in
theorem w_alone : about1.alone = true := by decide +kernel
set_option maxRecDepth 65536 in
theorem w_named : about1.methodNamed? x = some theMethod := by decide +kernel
set_option maxRecDepth 65536 in
theorem w_hears : about1.hears theMethod below0 = true := by decide +kernel
set_option maxRecDepth 65536 in
theorem w_ripe : about1.ripe theMethod args0 below0 = true := by decide +kernel
theorem w_running : about1.status = .running := rfl
set_option maxRecDepth 65536 in
theorem w_room : about1.hasRoom e0.platform room_1 = true :=
  launch0.hasRoom_least _ room_1 (by decide +kernel) (by decide +kernel) (by decide +kernel) (by decide +kernel) (by decide +kernel) (by decide +kernel)
theorem allAtoms_all (ts : List Jvm.Cond) (a : Array Jvm.Value) (st : Jvm.State) : (allAtoms ts).before a st = ts.all (fun c => c.before a st) := by
  induction ts with
  | nil => rfl
  | cons c t ih =>
    show (Jvm.Cond.and c (allAtoms t)).before a st = _
    rw [Jvm.Cond.before_and, ih, List.all_cons]
def words1 : List Jvm.Cond := Jvm.Cond.code x code maxLocals ret :: tables_1
/-- a 'code' word, met by the world's own term for the bytes: nothing is compared byte by byte -/
theorem code_word {y : MethodName} {bytes : ByteArray} {mx : Nat} {rt : Option FieldType} {a : Array Value} {s : State} {m : MethodId} {meth : Method} {c : Code} (h1 : s.methodNamed? y = some m) (h2 : s.vm.method? m = some meth) (h3 : meth.code = some c) (h4 : c.code = bytes)
    (h5 : (c.maxLocals == mx && c.exceptionTable.isEmpty && decide (c.maxStack ≤ mostOperands) && decide (meth.sig.returnType = rt) && !meth.locks && decide (parseMethodDescriptor y.desc = some meth.sig)) = true) : (Jvm.Cond.code y bytes mx rt).before a s = true := by
  simp only [Bool.and_eq_true, beq_iff_eq, Bool.not_eq_true', decide_eq_true_eq] at h5
  obtain ⟨⟨⟨⟨⟨g1, g2⟩, g3⟩, g4⟩, g5⟩, g6⟩ := h5
  simp [Cond.before, Cond.holds, Cond.value, h1, h2, h3, h4, g1, g2, g3, g4, g5, g6]
def isCode : Jvm.Cond → Bool
  | .code _ _ _ _ => true
  | _ => false
theorem all_split {L : List Jvm.Cond} {P : Jvm.Cond → Bool} (h1 : L.all (fun c => isCode c || P c) = true) (h2 : ∀ c ∈ L.filter isCode, P c = true) : L.all P = true := by
  refine List.all_eq_true.mpr fun c hc => ?_
  have h := List.all_eq_true.mp h1 c hc
  rcases Bool.eq_false_or_eq_true (isCode c) with hi | hi
  · exact h2 c (List.mem_filter.mpr ⟨hc, hi⟩)
  · simpa [hi] using h
set_option maxRecDepth 65536 in
theorem w_c0 : (Jvm.Cond.code x code maxLocals ret).before args0 about1 = true := code_word (m := ⟨1, 1⟩) (meth := k1m1) (c := k1c1) (by decide +kernel) rfl rfl rfl (by decide +kernel)
set_option maxRecDepth 65536 in
theorem w_c1 : (Jvm.Cond.code ({ cls := "com/example/lissage/lissage/CrossValidation$Fold", name := "other", desc := "()Lcom/example/lissage/lissage/CrossValidation$Fold;" } : Jvm.MethodName) prog_9_method_6_code (1 : Nat) (Option.some (Jvm.ClassFile.FieldType.object "com/example/lissage/lissage/CrossValidation$Fold"))).before args0 about1 = true := code_word (m := ⟨6, 0⟩) (meth := k6m0) (c := k6c0) (by decide +kernel) rfl rfl rfl (by decide +kernel)
def codes1 : List Jvm.Cond := [Jvm.Cond.code x code maxLocals ret, Jvm.Cond.code ({ cls := "com/example/lissage/lissage/CrossValidation$Fold", name := "other", desc := "()Lcom/example/lissage/lissage/CrossValidation$Fold;" } : Jvm.MethodName) prog_9_method_6_code (1 : Nat) (Option.some (Jvm.ClassFile.FieldType.object "com/example/lissage/lissage/CrossValidation$Fold"))]
set_option maxRecDepth 65536 in
theorem codes_eq : words1.filter isCode = codes1 := rfl
theorem w_codes : ∀ c ∈ words1.filter isCode, c.before args0 about1 = true := by
  rw [codes_eq]
  intro c hc
  simp only [codes1, List.mem_cons, List.not_mem_nil, or_false] at hc
  rcases hc with rfl | rfl
  · exact w_c0
  · exact w_c1
set_option maxRecDepth 65536 in
theorem w_t1 : words1.all (fun c => isCode c || c.before args0 about1) = true := by decide +kernel
theorem w_tables : (allAtoms (Jvm.Cond.code x code maxLocals ret :: tables_1)).before args0 about1 = true := by
  rw [allAtoms_all]
  show words1.all (fun c => c.before args0 about1) = true
  refine all_split ?_ w_codes
  rw [w_t1]
set_option maxRecDepth 65536 in
theorem w_case : (Jvm.Cond.and given_1 narrow_1).before args0 about1 = true := by decide +kernel
theorem w_applies : (headSpec (Jvm.Cond.code x code maxLocals ret :: tables_1) room_1).applies x e0.platform about1 = true :=
  (Spec.applies_iff w_frames).mpr ⟨w_running, w_runnable, w_alone, w_named, w_hears, w_ripe, w_room, w_tables⟩
theorem atStart : AtStart classFile x code maxLocals ret World_1 tables_1 room_1 Calls_1 rest_1 Pre_1 launch0 p0 e0 about1 theMethod args0 below0 :=
  ⟨lists_1, trivial, launch0.admits_env _ _ _, launch0.least_env, fairChoices_fair.cas, fairChoices_fair.clock, w_frames, w_args, w_heap, w_applies, trivial, trivial, w_case⟩
end start1
theorem witness_1 : WitnessClaimed_1 := ⟨start1.p0, start1.e0, start1.about1, start1.theMethod, start1.args0, start1.below0, start1.atStart⟩
end Jvm.Pilot.@@N@@
