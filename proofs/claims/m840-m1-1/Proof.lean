import JvmDerived
import JvmDerived.Pilot.@@N@@Statement
import JvmDerived.Pilot.@@N@@Code
set_option linter.unusedVariables false
set_option linter.unusedSimpArgs false

namespace Jvm.Pilot.@@N@@
open Jvm Jvm.ClassFile Sem Op Lib Jvm.Free Jvm.Stand Jvm.LawKit Jvm.RoadKit Bundle Jvm.Pilot.@@N@@.Jvm.D
/-- the run from A comes to a state of which P holds -/
def own_Go (tb : Tables) (e : Env) (below : List Frame) (P : State → Prop) (A : State) : Prop := ∃ U, Steps tb e below A U ∧ P U
theorem own_go {tb : Tables} {e : Env} {below : List Frame} {P : State → Prop} {A B : State} (h : ∀ t, Steps tb e below B t → Steps tb e below A t) (k : own_Go tb e below P B) : own_Go tb e below P A := by
  obtain ⟨U, h1, h2⟩ := k; exact ⟨U, h U h1, h2⟩
theorem own_goT {tb : Tables} {e : Env} {below : List Frame} {P : State → Prop} {A B : State} (h : Steps tb e below A B) (k : own_Go tb e below P B) : own_Go tb e below P A := by
  obtain ⟨U, h1, h2⟩ := k; exact ⟨U, h.trans h1, h2⟩
/-- the body's end: it returned, and Q says of what -/
def own_End (s : State) (below : List Frame) (Q : Option Value → Heap → List Loc → Prop) (cells slots : Nat) (t : State) : Prop := ∃ o, t.status = .running ∧ Ended t below o ∧ ∃ v L, o = .returned v ∧ Q v t.heap L ∧ FrameEnd s o t L cells slots
theorem own_body {tb : Tables} {e : Env} {below : List Frame} {s A : State} {Q : Option Value → Heap → List Loc → Prop} {cells slots : Nat} (k : own_Go tb e below (own_End s below Q cells slots) A) :
    ∃ s₂ o, Steps tb e below A s₂ ∧ s₂.status = .running ∧ Ended s₂ below o ∧ ∃ v L, o = .returned v ∧ Q v s₂.heap L ∧ FrameEnd s o s₂ L cells slots := by
  obtain ⟨U, h1, o, h2, h3, h4⟩ := k; exact ⟨U, o, h1, h2, h3, h4⟩
theorem own_ret {p : Program} {l : Launch} {e : Env} {R : Room} {s : State} {m : MethodId} {args : Array Value} {below : List Frame} {meth : Method} {c : Code} {T A : State} {locs : List Loc} {cells slots : Nat} {Q : Option Value → Heap → List Loc → Prop} {cs ss : Nat}
    (X : Stand p l e R s m args below meth c T locs cells slots) (hlk : meth.locks = false) {v : Option Value} (hv : meth.sig.returnType = none → v = none)
    (hst : ∀ fs : List Frame, (∀ (f : JFrame) (acts : List Action), f.method = m → f.locked = none → f.entered = [] → (doReturn e (T.setTop f) acts v).1 = T.setFrames fs) → Steps p.tables e below A (T.setFrames fs))
    (hQ : Q v T.heap locs) (hc : cells ≤ cs) (hs : slots ≤ ss) : own_Go p.tables e below (own_End s below Q cs ss) A := by
  obtain ⟨fs, hr, hrun, hended, hW, hsame⟩ := X.leave (v := v) hv hlk
  exact ⟨_, hst fs hr, _, hrun, hended, _, _, rfl, hQ, ⟨_, rfl⟩, hW, hsame.mono hc hs⟩
theorem own_ef (m : MethodId) (as : Array Value) (n : Nat) (Ls : Array Slot) (h : argsToLocals as n = Ls) : entryFrame m as n = mkF m 0 Ls [] := by rw [← h]; rfl
/-- a body's contract in this family -/
abbrev own_Met (l : Launch) (Z : State) (ws : List Jvm.Cond) (y : MethodName) (bytes : ByteArray) (maxL : Nat) (ret : Option FieldType) (rm : Room) (as : Array Value) (h0 : Heap) (Q : Option Value → Heap → List Loc → Prop) : Prop :=
  MetFree l y (head1 (Jvm.Cond.code y bytes maxL ret :: ws) rm) (fun a U => a = as ∧ Z.Warmed39 U.vm ∧ U.heap = h0) (fun _ _ _ _ _ => True) (fun _ U o U' => ∃ v L, o = .returned v ∧ Q v U'.heap L ∧ FrameEnd U o U' L rm.cells rm.slots)
theorem own_sta_keep {Z : State} {h h' : Heap} {C n d : String} {v : Value} {ws : List Addr} (F : Sta Z h C n d v) (K : Keep h h' ws) (q : ∀ a ∈ ws, ∃ C', Exa Z h a C') : Sta Z h' C n d v := by
  obtain ⟨cf, i, k, f, st, cell, h1, h2, h3, h4, h5, h6, h7⟩ := F
  refine ⟨cf, i, k, f, st, cell, h1, h2, h3, h4, K.2.1 st cell h5 fun hm => ?_, h6, h7⟩
  obtain ⟨C', cell', k', e1, -, -, e4, -⟩ := q st hm
  cases h5.symm.trans e1
  rw [e4] at h6; cases h6
theorem own_back {p : Program} {l : Launch} {e : Env} {R : Room} {s : State} {args : Array Value} {below : List Frame} {Z : State} {a0 : Array Value} {h : Heap} {y : MethodName} {bytes : ByteArray} {maxL : Nat} {ret : Option FieldType} {rm : Room} {len W : Nat} {as' : Array Value} {Q : Option Value → Heap → List Loc → Prop}
    (hM : own_Met l Z [] y bytes maxL ret rm as' h Q) (hZ : Z.Warmed39 s.vm) (wc : (Cond.code y bytes maxL ret).before a0 Z = true) (wz : (Cond.initialized y.cls).before a0 Z = true) (hf : rm.frames + 1 ≤ R.frames) (hl : W + (maxL + 11) + rm.locals ≤ R.locals) :
    Back l R p e below s args y len W (fun A a => a = as' ∧ A.U.heap = h ∧ A.cells + rm.cells ≤ R.cells ∧ A.slots + rm.slots ≤ R.slots)
      (fun A _ v B => ∃ L, Q v B.U.heap L ∧ B.locs = A.locs ++ L ∧ B.cells = A.cells + rm.cells ∧ B.slots = A.slots + rm.slots) :=
  backOf (Q := Q) hM hZ wc wz hf hl
theorem own_eqi {args : Array Value} {s : State} {t : Term} {k : Int32} (h : (Jvm.Cond.eq t (.int k)).value args s none s [] = some true) : t.eval args s none [] s = some (.int k) := by
  simp only [Cond.value, Term.eval] at h
  cases ht : t.eval args s none [] s with
  | none => simp [ht] at h
  | some x => cases x <;> simp [ht] at h ⊢; exact h
theorem own_eqr {args : Array Value} {s : State} {t u : Term} {a : Addr} (h : (Jvm.Cond.eq t u).value args s none s [] = some true) (hu : u.eval args s none [] s = some (.ref a)) : t.eval args s none [] s = some (.ref a) := by
  simp only [Cond.value] at h
  cases ht : t.eval args s none [] s with
  | none => simp [ht] at h
  | some x => cases x <;> simp [ht, hu] at h ⊢; exact h
theorem own_fld {args : Array Value} {s : State} {t : Term} {a : Addr} {C n d : String} {v : Value} (ht : t.eval args s none [] s = some (.ref a)) (h : (Term.field t C n d).eval args s none [] s = some v) : Fld s s.heap a C n d v :=
  Fld.start (by rw [fld_at ht] at h; exact h)
theorem own_len {args : Array Value} {s : State} {t : Term} {a : Addr} {cl : Cell} {ty : FieldType} {k : Int32} (A : Arr s s.heap a cl ty) (ht : t.eval args s none [] s = some (.ref a)) (h : (Term.length t).eval args s none [] s = some (.int k)) : cl.slots.size < 2 ^ 31 ∧ cl.slots.size.toInt32 = k := by
  have ha : s.arrayAt? a = some cl := A.fin (Vm.Alike.refl _)
  by_cases hl : cl.slots.size < 2 ^ 31
  · rw [len_f ht ha hl] at h; exact ⟨hl, by injection h with h; injection h⟩
  · simp [Term.eval, ht, ha, hl] at h
theorem own_elem {args : Array Value} {s : State} {t : Term} {a : Addr} {cl : Cell} {ty : FieldType} {j : Int32} {v : Value} (ht : t.eval args s none [] s = some (.ref a)) (A : Arr s s.heap a cl ty) (h : (Term.elem t (.int j)).eval args s none [] s = some v) : cl.slots[j.toNatClampNeg]? = some v :=
  (elem_in h ht (Term.int_eval j) A.1).2
theorem own_getR {p : Program} {l : Launch} {e : Env} {R : Room} {s : State} {m : MethodId} {args : Array Value} {below : List Frame} {meth : Method} {c : Code} {T : State} {locs : List Loc} {cells slots : Nat} {Z : State} {a0 : Array Value} {h : Heap}
    (X : Stand p l e R s m args below meth c T locs cells slots) (hx : p.tables.exec = Jvm.exec) (hZ : Z.Warmed39 s.vm) {own C n d : String} {index : Nat} (hown : s.vm.findClass own = some m.cls) (w : (Cond.fieldRef own index C n d).before a0 Z = true)
    (eT : T.heap = h) {a : Addr} {v : Value} (F : Fld Z h a C n d v) {g : JFrame} (hg : g.method = m) {rest : List Value} (hs : g.stack = .ref a :: rest) (hd : decode c.code g.pc = .ok (.getfield index, 3)) :
    ∀ target, Steps p.tables e below (T.setTop { g with pc := g.pc + 3, stack := v :: rest }) target → Steps p.tables e below (T.setTop g) target := by
  obtain ⟨cell, cf, k, i, f, h1, h2, h3, h4, h5, h6, h7⟩ := F
  have hT : Z.Warmed39 T.vm := wtrans hZ X.warmed
  have w2 : (Cond.fieldRef own index C n d).before a0 (Z.setVm T.vm) = true := Cond.fieldRef_warmed39 hT w
  have hcur : (Z.setVm T.vm).vm.findClass own = some m.cls := by
    show T.vm.findClass own = _
    rw [X.warmed.alike.findClass]; exact hown
  obtain ⟨c1, k1, i1, f1, q1, q2⟩ := Cond.fieldRef_spec hcur w2
  obtain ⟨k', q3, -⟩ := State.fieldFound?_setVm (s := Z) hT.alike h2
  cases q1.symm.trans q3
  have q4 : T.vm.fieldReady m.cls index cf f := q2
  have hc : T.heap[a]? = some cell := by rw [eT]; exact h1
  intro target hrest
  subst hg
  jvm_step X.here [hx, hd, getfield.wp_ready (e := e) (s := T) (f := g) X.here.top q4 h3 hs hc h4 h7]
  exact hrest
theorem own_d1_0 : decode prog_121_method_4_code 0 = .ok (.aload_n 0, 1) := by decide +kernel
theorem own_d1_1 : decode prog_121_method_4_code 1 = .ok (.getstatic 10, 3) := by decide +kernel
theorem own_d1_4 : decode prog_121_method_4_code 4 = .ok (.if_acmp .eq 17, 3) := by decide +kernel
theorem own_d1_7 : decode prog_121_method_4_code 7 = .ok (.aload_n 0, 1) := by decide +kernel
theorem own_d1_8 : decode prog_121_method_4_code 8 = .ok (.getstatic 13, 3) := by decide +kernel
theorem own_d1_11 : decode prog_121_method_4_code 11 = .ok (.if_acmp .eq 10, 3) := by decide +kernel
theorem own_d1_14 : decode prog_121_method_4_code 14 = .ok (.aload_n 0, 1) := by decide +kernel
theorem own_d1_15 : decode prog_121_method_4_code 15 = .ok (.getstatic 16, 3) := by decide +kernel
theorem own_d1_18 : decode prog_121_method_4_code 18 = .ok (.if_acmp .ne 7, 3) := by decide +kernel
theorem own_d1_21 : decode prog_121_method_4_code 21 = .ok (.iconst 1, 1) := by decide +kernel
theorem own_d1_22 : decode prog_121_method_4_code 22 = .ok (.goto 4, 3) := by decide +kernel
theorem own_d1_25 : decode prog_121_method_4_code 25 = .ok (.iconst 0, 1) := by decide +kernel
theorem own_d1_26 : decode prog_121_method_4_code 26 = .ok (.ireturn, 1) := by decide +kernel
theorem own_pn0 : plainName "com/example/polite_ddl/politeddl/sql/Reindex$Target" = true := by first | (simp [plainName, overriddenIn]; done) | decide +kernel
set_option maxRecDepth 65536 in
set_option maxHeartbeats 40000000 in
theorem own_rm1 (l : Launch) (Z : State) (a0 : Array Value) (hw : ∀ d ∈ tables_1, d.before a0 Z = true) (a1 : Addr) (a_SCHEMA : Addr) (a_DATABASE : Addr) (a_SYSTEM : Addr) (r : Int32) (h0 : Heap) (n0 : Nat) (Z0 : n0 ≤ h0.size) (S_SCHEMA : Sta Z h0 "com/example/polite_ddl/politeddl/sql/Reindex$Target" "SCHEMA" "Lcom/example/polite_ddl/politeddl/sql/Reindex$Target;" (.ref a_SCHEMA)) (S_DATABASE : Sta Z h0 "com/example/polite_ddl/politeddl/sql/Reindex$Target" "DATABASE" "Lcom/example/polite_ddl/politeddl/sql/Reindex$Target;" (.ref a_DATABASE)) (S_SYSTEM : Sta Z h0 "com/example/polite_ddl/politeddl/sql/Reindex$Target" "SYSTEM" "Lcom/example/polite_ddl/politeddl/sql/Reindex$Target;" (.ref a_SYSTEM)) (hr : (if a1 = a_SCHEMA ∨ a1 = a_DATABASE ∨ a1 = a_SYSTEM then (1 : Int32) else 0) = r) :
    own_Met l Z [] (⟨"com/example/polite_ddl/politeddl/sql/Reindex$Target", "manyTables", "()Z"⟩ : MethodName) prog_121_method_4_code 1 (some .boolean) ({ frames := 0, cells := 0, slots := 0, locals := 0 } : Room) #[(.ref a1)] h0 (fun v h L => v = some (.int r) ∧ Fr n0 L ∧ h = h0) := by
  refine MetFree.of_bodySF (plainFor_of_name own_pn0) hisR ?_
  intro p e s m args below meth c s₁ Bd hml0 hP hK
  obtain ⟨rfl, hZ, hh⟩ := hP
  have hx := Bd.exec
  have hby := Bd.bytes
  have hml : c.maxLocals = 1 := hml0
  have hown : s.vm.findClass "com/example/polite_ddl/politeddl/sql/Reindex$Target" = some m.cls := findClass_of_methodNamed Bd.named
  have hnm := (name_of_methodNamed Bd.named Bd.method).1
  have hlk : meth.locks = false := Bd.notSynchronized
  have X0 : Stand p l e ({ frames := 0, cells := 0, slots := 0, locals := 0 } : Room) s m #[(.ref a1)] below meth c s₁ [] 0 0 := Stand.of_body Bd
  have e0 : s₁.heap = h0 := by rw [← hh, Bd.state]; rfl
  have N0 := Fr.nil n0
  refine own_body (Q := fun v h L => v = some (.int r) ∧ Fr n0 L ∧ h = h0) ?_
  refine own_go (fun t k => castTop (own_ef m #[(.ref a1)] 1 #[.val (.ref a1)] (by first | rfl | simp [argsToLocals, Value.category, maxLocals])) k) ?_
  show own_Go _ _ _ _ (s₁.setTop (mkF m 0 #[.val (.ref a1)] []))
  refine own_go (fun _ k => XS.aloadN X0.here hx rfl (hb hby own_d1_0) rfl rfl k) ?_
  show own_Go _ _ _ _ (s₁.setTop (mkF m 1 #[.val (.ref a1)] [(.ref a1)]))
  obtain ⟨T1, X1, e1, st1⟩ := getS2 X0 hx hZ hown (host := "") (Or.inl (hw _ (List.mem_of_getElem? (i := 9) rfl))) Via.refl e0 S_SCHEMA (g := (mkF m 1 #[.val (.ref a1)] [(.ref a1)])) rfl (hb hby own_d1_1)
  refine own_go st1 ?_
  show own_Go _ _ _ _ (T1.setTop (mkF m 4 #[.val (.ref a1)] [(.ref a_SCHEMA), (.ref a1)]))
  by_cases hc_SCHEMA : a1 = a_SCHEMA
  · have _h := hc_SCHEMA
    refine own_go (fun _ k => Jvm.RoadKit.acmp (g := (mkF m 4 #[.val (.ref a1)] [(.ref a_SCHEMA), (.ref a1)])) X1 hx rfl rfl rfl (pc0 := 4) (pc' := 21) (same := true) rfl (hb hby own_d1_4) rfl (decide_eq_true (congrArg Value.ref hc_SCHEMA)) (by decide) (by decide) k) ?_
    show own_Go _ _ _ _ (T1.setTop (mkF m 21 #[.val (.ref a1)] []))
    refine own_go (fun _ k => XS.iconst X1.here hx rfl (hb hby own_d1_21) k) ?_
    show own_Go _ _ _ _ (T1.setTop (mkF m 22 #[.val (.ref a1)] [(.int (1 : Int32))]))
    refine own_go (fun _ k => XS.goto X1.here hx rfl (pc0 := 22) (pc' := 26) rfl (hb hby own_d1_22) (by decide) (by decide) k) ?_
    show own_Go _ _ _ _ (T1.setTop (mkF m 26 #[.val (.ref a1)] [(.int (1 : Int32))]))
    refine own_ret X1 hlk (v := some (.int (1 : Int32))) (fun h => by rw [Bd.returns] at h; cases h) (fun fs hr => retN X1 hx (t := .boolean) Bd.returns (by simp) (hb hby own_d1_26) hr) ?_ (by decide) (by decide)
    try rw [e1]
    exact ⟨by rw [← hr]; simp [hc_SCHEMA], N0, rfl⟩
  · have _h := hc_SCHEMA
    refine own_go (fun _ k => Jvm.RoadKit.acmp (g := (mkF m 4 #[.val (.ref a1)] [(.ref a_SCHEMA), (.ref a1)])) X1 hx rfl rfl rfl (pc0 := 4) (pc' := 7) (same := false) rfl (hb hby own_d1_4) rfl (decide_eq_false fun q => hc_SCHEMA (Value.ref.inj q)) (by decide) (by decide) k) ?_
    show own_Go _ _ _ _ (T1.setTop (mkF m 7 #[.val (.ref a1)] []))
    refine own_go (fun _ k => XS.aloadN X1.here hx rfl (hb hby own_d1_7) rfl rfl k) ?_
    show own_Go _ _ _ _ (T1.setTop (mkF m 8 #[.val (.ref a1)] [(.ref a1)]))
    obtain ⟨T2, X2, e2, st2⟩ := getS2 X1 hx hZ hown (host := "") (Or.inl (hw _ (List.mem_of_getElem? (i := 11) rfl))) Via.refl e1 S_DATABASE (g := (mkF m 8 #[.val (.ref a1)] [(.ref a1)])) rfl (hb hby own_d1_8)
    refine own_go st2 ?_
    show own_Go _ _ _ _ (T2.setTop (mkF m 11 #[.val (.ref a1)] [(.ref a_DATABASE), (.ref a1)]))
    by_cases hc_DATABASE : a1 = a_DATABASE
    · have _h := hc_DATABASE
      refine own_go (fun _ k => Jvm.RoadKit.acmp (g := (mkF m 11 #[.val (.ref a1)] [(.ref a_DATABASE), (.ref a1)])) X2 hx rfl rfl rfl (pc0 := 11) (pc' := 21) (same := true) rfl (hb hby own_d1_11) rfl (decide_eq_true (congrArg Value.ref hc_DATABASE)) (by decide) (by decide) k) ?_
      show own_Go _ _ _ _ (T2.setTop (mkF m 21 #[.val (.ref a1)] []))
      refine own_go (fun _ k => XS.iconst X2.here hx rfl (hb hby own_d1_21) k) ?_
      show own_Go _ _ _ _ (T2.setTop (mkF m 22 #[.val (.ref a1)] [(.int (1 : Int32))]))
      refine own_go (fun _ k => XS.goto X2.here hx rfl (pc0 := 22) (pc' := 26) rfl (hb hby own_d1_22) (by decide) (by decide) k) ?_
      show own_Go _ _ _ _ (T2.setTop (mkF m 26 #[.val (.ref a1)] [(.int (1 : Int32))]))
      refine own_ret X2 hlk (v := some (.int (1 : Int32))) (fun h => by rw [Bd.returns] at h; cases h) (fun fs hr => retN X2 hx (t := .boolean) Bd.returns (by simp) (hb hby own_d1_26) hr) ?_ (by decide) (by decide)
      try rw [e2]
      exact ⟨by rw [← hr]; simp [hc_SCHEMA, hc_DATABASE], N0, rfl⟩
    · have _h := hc_DATABASE
      refine own_go (fun _ k => Jvm.RoadKit.acmp (g := (mkF m 11 #[.val (.ref a1)] [(.ref a_DATABASE), (.ref a1)])) X2 hx rfl rfl rfl (pc0 := 11) (pc' := 14) (same := false) rfl (hb hby own_d1_11) rfl (decide_eq_false fun q => hc_DATABASE (Value.ref.inj q)) (by decide) (by decide) k) ?_
      show own_Go _ _ _ _ (T2.setTop (mkF m 14 #[.val (.ref a1)] []))
      refine own_go (fun _ k => XS.aloadN X2.here hx rfl (hb hby own_d1_14) rfl rfl k) ?_
      show own_Go _ _ _ _ (T2.setTop (mkF m 15 #[.val (.ref a1)] [(.ref a1)]))
      obtain ⟨T3, X3, e3, st3⟩ := getS2 X2 hx hZ hown (host := "") (Or.inl (hw _ (List.mem_of_getElem? (i := 13) rfl))) Via.refl e2 S_SYSTEM (g := (mkF m 15 #[.val (.ref a1)] [(.ref a1)])) rfl (hb hby own_d1_15)
      refine own_go st3 ?_
      show own_Go _ _ _ _ (T3.setTop (mkF m 18 #[.val (.ref a1)] [(.ref a_SYSTEM), (.ref a1)]))
      by_cases hc_SYSTEM : a1 = a_SYSTEM
      · have _h := hc_SYSTEM
        refine own_go (fun _ k => Jvm.RoadKit.acmp (g := (mkF m 18 #[.val (.ref a1)] [(.ref a_SYSTEM), (.ref a1)])) X3 hx rfl rfl rfl (pc0 := 18) (pc' := 21) (same := true) rfl (hb hby own_d1_18) rfl (decide_eq_true (congrArg Value.ref hc_SYSTEM)) (by decide) (by decide) k) ?_
        show own_Go _ _ _ _ (T3.setTop (mkF m 21 #[.val (.ref a1)] []))
        refine own_go (fun _ k => XS.iconst X3.here hx rfl (hb hby own_d1_21) k) ?_
        show own_Go _ _ _ _ (T3.setTop (mkF m 22 #[.val (.ref a1)] [(.int (1 : Int32))]))
        refine own_go (fun _ k => XS.goto X3.here hx rfl (pc0 := 22) (pc' := 26) rfl (hb hby own_d1_22) (by decide) (by decide) k) ?_
        show own_Go _ _ _ _ (T3.setTop (mkF m 26 #[.val (.ref a1)] [(.int (1 : Int32))]))
        refine own_ret X3 hlk (v := some (.int (1 : Int32))) (fun h => by rw [Bd.returns] at h; cases h) (fun fs hr => retN X3 hx (t := .boolean) Bd.returns (by simp) (hb hby own_d1_26) hr) ?_ (by decide) (by decide)
        try rw [e3]
        exact ⟨by rw [← hr]; simp [hc_SCHEMA, hc_DATABASE, hc_SYSTEM], N0, rfl⟩
      · have _h := hc_SYSTEM
        refine own_go (fun _ k => Jvm.RoadKit.acmp (g := (mkF m 18 #[.val (.ref a1)] [(.ref a_SYSTEM), (.ref a1)])) X3 hx rfl rfl rfl (pc0 := 18) (pc' := 25) (same := false) rfl (hb hby own_d1_18) rfl (decide_eq_false fun q => hc_SYSTEM (Value.ref.inj q)) (by decide) (by decide) k) ?_
        show own_Go _ _ _ _ (T3.setTop (mkF m 25 #[.val (.ref a1)] []))
        refine own_go (fun _ k => XS.iconst X3.here hx rfl (hb hby own_d1_25) k) ?_
        show own_Go _ _ _ _ (T3.setTop (mkF m 26 #[.val (.ref a1)] [(.int (0 : Int32))]))
        refine own_ret X3 hlk (v := some (.int (0 : Int32))) (fun h => by rw [Bd.returns] at h; cases h) (fun fs hr => retN X3 hx (t := .boolean) Bd.returns (by simp) (hb hby own_d1_26) hr) ?_ (by decide) (by decide)
        try rw [e3]
        exact ⟨by rw [← hr]; simp [hc_SCHEMA, hc_DATABASE, hc_SYSTEM], N0, rfl⟩
theorem own_pn1 : plainName "com/example/polite_ddl/politeddl/sql/TargetManyTablesPinLaw" = true := by first | (simp [plainName, overriddenIn]; done) | decide +kernel
theorem own_pd0 : parseMethodDescriptor "()Z" = some ⟨[], some .boolean⟩ := by decide +kernel
set_option maxRecDepth 65536 in
set_option maxHeartbeats 40000000 in
theorem own_rm0 (l : Launch) (Z : State) (a0 : Array Value) (hw : ∀ d ∈ tables_1, d.before a0 Z = true) (p1 : Int32) (a_INDEX : Addr) (a_TABLE : Addr) (a_SCHEMA : Addr) (a_DATABASE : Addr) (a_SYSTEM : Addr) (h0 : Heap) (n0 : Nat) (Z0 : n0 ≤ h0.size) (S_INDEX : Sta Z h0 "com/example/polite_ddl/politeddl/sql/Reindex$Target" "INDEX" "Lcom/example/polite_ddl/politeddl/sql/Reindex$Target;" (.ref a_INDEX)) (S_TABLE : Sta Z h0 "com/example/polite_ddl/politeddl/sql/Reindex$Target" "TABLE" "Lcom/example/polite_ddl/politeddl/sql/Reindex$Target;" (.ref a_TABLE)) (S_SCHEMA : Sta Z h0 "com/example/polite_ddl/politeddl/sql/Reindex$Target" "SCHEMA" "Lcom/example/polite_ddl/politeddl/sql/Reindex$Target;" (.ref a_SCHEMA)) (S_DATABASE : Sta Z h0 "com/example/polite_ddl/politeddl/sql/Reindex$Target" "DATABASE" "Lcom/example/polite_ddl/politeddl/sql/Reindex$Target;" (.ref a_DATABASE)) (S_SYSTEM : Sta Z h0 "com/example/polite_ddl/politeddl/sql/Reindex$Target" "SYSTEM" "Lcom/example/polite_ddl/politeddl/sql/Reindex$Target;" (.ref a_SYSTEM)) (E_INDEX : Exa Z h0 a_INDEX "com/example/polite_ddl/politeddl/sql/Reindex$Target") (E_TABLE : Exa Z h0 a_TABLE "com/example/polite_ddl/politeddl/sql/Reindex$Target") (E_SCHEMA : Exa Z h0 a_SCHEMA "com/example/polite_ddl/politeddl/sql/Reindex$Target") (E_DATABASE : Exa Z h0 a_DATABASE "com/example/polite_ddl/politeddl/sql/Reindex$Target") (E_SYSTEM : Exa Z h0 a_SYSTEM "com/example/polite_ddl/politeddl/sql/Reindex$Target") (ne_INDEX_SCHEMA : a_INDEX ≠ a_SCHEMA) (ne_INDEX_DATABASE : a_INDEX ≠ a_DATABASE) (ne_INDEX_SYSTEM : a_INDEX ≠ a_SYSTEM) (ne_TABLE_SCHEMA : a_TABLE ≠ a_SCHEMA) (ne_TABLE_DATABASE : a_TABLE ≠ a_DATABASE) (ne_TABLE_SYSTEM : a_TABLE ≠ a_SYSTEM) :
    own_Met l Z tables_1 x code maxLocals ret room_1 #[(.int p1)] h0 (fun v h L => v = some (.int 1) ∧ Fr n0 L) := by
  refine MetFree.of_bodySF (plainFor_of_name own_pn1) hisR ?_
  intro p e s m args below meth c s₁ Bd hml0 hP hK
  obtain ⟨rfl, hZ, hh⟩ := hP
  have hx := Bd.exec
  have hby := Bd.bytes
  have hml : c.maxLocals = 4 := hml0
  have hown : s.vm.findClass "com/example/polite_ddl/politeddl/sql/TargetManyTablesPinLaw" = some m.cls := findClass_of_methodNamed Bd.named
  have hnm := (name_of_methodNamed Bd.named Bd.method).1
  have hlk : meth.locks = false := Bd.notSynchronized
  have X0 : Stand p l e room_1 s m #[(.int p1)] below meth c s₁ [] 0 0 := Stand.of_body Bd
  have e0 : s₁.heap = h0 := by rw [← hh, Bd.state]; rfl
  have N0 := Fr.nil n0
  refine own_body (Q := fun v h L => v = some (.int 1) ∧ Fr n0 L) ?_
  refine own_go (fun t k => castTop (own_ef m #[(.int p1)] maxLocals #[.val (.int p1), .unset, .unset, .unset] (by first | rfl | simp [argsToLocals, Value.category, maxLocals])) k) ?_
  show own_Go _ _ _ _ (s₁.setTop (mkF m 0 #[.val (.int p1), .unset, .unset, .unset] []))
  refine own_go (fun _ k => XS.iloadN X0.here hx rfl (hb hby at_0) rfl k) ?_
  show own_Go _ _ _ _ (s₁.setTop (mkF m 1 #[.val (.int p1), .unset, .unset, .unset] [(.int p1)]))
  refine own_go (X0.ldcInt hx hown (mvT hZ (hw _ (List.mem_of_getElem? (i := 0) rfl))) (g := (mkF m 1 #[.val (.int p1), .unset, .unset, .unset] [(.int p1)])) rfl (hb hby at_1)) ?_
  show own_Go _ _ _ _ (s₁.setTop (mkF m 3 #[.val (.int p1), .unset, .unset, .unset] [(.int (2147483647 : Int32)), (.int p1)]))
  refine own_go (fun _ k => XS.iand X0.here hx rfl (hb hby at_3) rfl k) ?_
  show own_Go _ _ _ _ (s₁.setTop (mkF m 4 #[.val (.int p1), .unset, .unset, .unset] [(.int (p1 &&& (2147483647 : Int32)))]))
  refine own_go (fun _ k => XS.iconst X0.here hx rfl (hb hby at_4) k) ?_
  show own_Go _ _ _ _ (s₁.setTop (mkF m 5 #[.val (.int p1), .unset, .unset, .unset] [(.int (5 : Int32)), (.int (p1 &&& (2147483647 : Int32)))]))
  refine own_go (fun _ k => iremM X0 hx rfl (hb hby at_5) rfl (by decide) k) ?_
  show own_Go _ _ _ _ (s₁.setTop (mkF m 6 #[.val (.int p1), .unset, .unset, .unset] [(.int ((p1 &&& (2147483647 : Int32)) % (5 : Int32)))]))
  refine own_go (fun _ k => XS.istoreN X0.here hx rfl (hb hby at_6) rfl (l' := #[.val (.int p1), .val (.int ((p1 &&& (2147483647 : Int32)) % (5 : Int32))), .unset, .unset]) rfl k) ?_
  show own_Go _ _ _ _ (s₁.setTop (mkF m 7 #[.val (.int p1), .val (.int ((p1 &&& (2147483647 : Int32)) % (5 : Int32))), .unset, .unset] []))
  refine own_go (fun _ k => XS.iloadN X0.here hx rfl (hb hby at_7) rfl k) ?_
  show own_Go _ _ _ _ (s₁.setTop (mkF m 8 #[.val (.int p1), .val (.int ((p1 &&& (2147483647 : Int32)) % (5 : Int32))), .unset, .unset] [(.int ((p1 &&& (2147483647 : Int32)) % (5 : Int32)))]))
  by_cases hc8 : ((p1 &&& (2147483647 : Int32)) % (5 : Int32)) = (0 : Int32)
  · have _h := hc8
    refine own_go (fun _ k => XS.ifNo X0.here hx rfl (hb hby at_8) rfl ((if0 _ _).trans (teq hc8).2) k) ?_
    show own_Go _ _ _ _ (s₁.setTop (mkF m 11 #[.val (.int p1), .val (.int ((p1 &&& (2147483647 : Int32)) % (5 : Int32))), .unset, .unset] []))
    obtain ⟨T1, X1, e1, st1⟩ := getS2 X0 hx hZ hown (host := "") (Or.inl (hw _ (List.mem_of_getElem? (i := 1) rfl))) Via.refl e0 S_INDEX (g := (mkF m 11 #[.val (.int p1), .val (.int ((p1 &&& (2147483647 : Int32)) % (5 : Int32))), .unset, .unset] [])) rfl (hb hby at_11)
    refine own_go st1 ?_
    show own_Go _ _ _ _ (T1.setTop (mkF m 14 #[.val (.int p1), .val (.int ((p1 &&& (2147483647 : Int32)) % (5 : Int32))), .unset, .unset] [(.ref a_INDEX)]))
    refine own_go (fun _ k => XS.astoreN X1.here hx rfl (hb hby at_14) rfl rfl (l' := #[.val (.int p1), .val (.int ((p1 &&& (2147483647 : Int32)) % (5 : Int32))), .val (.ref a_INDEX), .unset]) rfl k) ?_
    show own_Go _ _ _ _ (T1.setTop (mkF m 15 #[.val (.int p1), .val (.int ((p1 &&& (2147483647 : Int32)) % (5 : Int32))), .val (.ref a_INDEX), .unset] []))
    refine own_go (fun _ k => XS.iconst X1.here hx rfl (hb hby at_15) k) ?_
    show own_Go _ _ _ _ (T1.setTop (mkF m 16 #[.val (.int p1), .val (.int ((p1 &&& (2147483647 : Int32)) % (5 : Int32))), .val (.ref a_INDEX), .unset] [(.int (0 : Int32))]))
    refine own_go (fun _ k => XS.istoreN X1.here hx rfl (hb hby at_16) rfl (l' := #[.val (.int p1), .val (.int ((p1 &&& (2147483647 : Int32)) % (5 : Int32))), .val (.ref a_INDEX), .val (.int (0 : Int32))]) rfl k) ?_
    show own_Go _ _ _ _ (T1.setTop (mkF m 17 #[.val (.int p1), .val (.int ((p1 &&& (2147483647 : Int32)) % (5 : Int32))), .val (.ref a_INDEX), .val (.int (0 : Int32))] []))
    refine own_go (fun _ k => XS.goto X1.here hx rfl (pc0 := 17) (pc' := 68) rfl (hb hby at_17) (by decide) (by decide) k) ?_
    show own_Go _ _ _ _ (T1.setTop (mkF m 68 #[.val (.int p1), .val (.int ((p1 &&& (2147483647 : Int32)) % (5 : Int32))), .val (.ref a_INDEX), .val (.int (0 : Int32))] []))
    refine own_go (fun _ k => XS.aloadN X1.here hx rfl (hb hby at_68) rfl rfl k) ?_
    show own_Go _ _ _ _ (T1.setTop (mkF m 69 #[.val (.int p1), .val (.int ((p1 &&& (2147483647 : Int32)) % (5 : Int32))), .val (.ref a_INDEX), .val (.int (0 : Int32))] [(.ref a_INDEX)]))
    obtain ⟨cq2, kq2, q2a, q2b, q2c⟩ := isOf hZ e1 E_INDEX
    obtain ⟨_, _, ⟨T2, L2, k2, n2⟩, -, X2, ⟨Lc2, hQ2, l2, y2, z2⟩, st2⟩ := X1.virtualBack hx (y := (⟨"com/example/polite_ddl/politeddl/sql/Reindex$Target", "manyTables", "()Z"⟩ : MethodName)) (z := (⟨"com/example/polite_ddl/politeddl/sql/Reindex$Target", "manyTables", "()Z"⟩ : MethodName)) hown (mvT hZ (hw _ (List.mem_of_getElem? (i := 4) rfl))) (mvT hZ (hw _ (List.mem_of_getElem? (i := 5) rfl))) (notFace_of_selects (args := #[]) (mvT hZ (hw _ (List.mem_of_getElem? (i := 7) rfl)))) (mvT hZ (hw _ (List.mem_of_getElem? (i := 7) rfl))) (mvT hZ (hw _ (List.mem_of_getElem? (i := 6) rfl))) (by decide) (own_back (W := 0) (own_rm1 l Z a0 hw a_INDEX a_SCHEMA a_DATABASE a_SYSTEM (0 : Int32) h0 n0 Z0 S_SCHEMA S_DATABASE S_SYSTEM (if_neg (by simp [ne_INDEX_SCHEMA, ne_INDEX_DATABASE, ne_INDEX_SYSTEM]))) hZ (hw _ (List.mem_of_getElem? (i := 8) rfl)) (hw _ (List.mem_of_getElem? (i := 2) rfl)) (by decide) (by decide)) q2a q2c (g := (mkF m 69 #[.val (.int p1), .val (.int ((p1 &&& (2147483647 : Int32)) % (5 : Int32))), .val (.ref a_INDEX), .val (.int (0 : Int32))] [(.ref a_INDEX)])) rfl (by rw [hml]; rfl) (Steps.refl _) (argsL := []) (rest := []) (lenOf own_pd0 rfl) rfl (by show 2 * 0 + _ ≤ _; exact Nat.le_of_eq rfl) (hb hby at_69) (fun _ _ => ⟨rfl, e1, (by decide : 0 + 0 ≤ _), (by decide : 0 + 0 ≤ _)⟩)
    dsimp only [Pt.U, Pt.locs, Pt.cells, Pt.slots] at X2 l2 y2 z2 st2 hQ2
    subst l2 y2 z2
    obtain ⟨rfl, Nq2, eq2⟩ := hQ2
    have NF2 := Fr.app N0 Nq2
    refine own_goT st2 ?_
    show own_Go _ _ _ _ (T2.setTop (mkF m 72 #[.val (.int p1), .val (.int ((p1 &&& (2147483647 : Int32)) % (5 : Int32))), .val (.ref a_INDEX), .val (.int (0 : Int32))] [(.int (0 : Int32))]))
    refine own_go (fun _ k => XS.iloadN X2.here hx rfl (hb hby at_72) rfl k) ?_
    show own_Go _ _ _ _ (T2.setTop (mkF m 73 #[.val (.int p1), .val (.int ((p1 &&& (2147483647 : Int32)) % (5 : Int32))), .val (.ref a_INDEX), .val (.int (0 : Int32))] [(.int (0 : Int32)), (.int (0 : Int32))]))
    refine own_go (fun _ k => XS.icmpNo X2.here hx rfl (hb hby at_73) rfl (teq (by decide)).2 k) ?_
    show own_Go _ _ _ _ (T2.setTop (mkF m 76 #[.val (.int p1), .val (.int ((p1 &&& (2147483647 : Int32)) % (5 : Int32))), .val (.ref a_INDEX), .val (.int (0 : Int32))] []))
    refine own_go (fun _ k => XS.iconst X2.here hx rfl (hb hby at_76) k) ?_
    show own_Go _ _ _ _ (T2.setTop (mkF m 77 #[.val (.int p1), .val (.int ((p1 &&& (2147483647 : Int32)) % (5 : Int32))), .val (.ref a_INDEX), .val (.int (0 : Int32))] [(.int (1 : Int32))]))
    refine own_go (fun _ k => XS.goto X2.here hx rfl (pc0 := 77) (pc' := 81) rfl (hb hby at_77) (by decide) (by decide) k) ?_
    show own_Go _ _ _ _ (T2.setTop (mkF m 81 #[.val (.int p1), .val (.int ((p1 &&& (2147483647 : Int32)) % (5 : Int32))), .val (.ref a_INDEX), .val (.int (0 : Int32))] [(.int (1 : Int32))]))
    refine own_ret X2 hlk (v := some (.int (1 : Int32))) (fun h => by rw [Bd.returns] at h; cases h) (fun fs hr => retN X2 hx (t := .boolean) Bd.returns (by simp) (hb hby at_81) hr) ?_ (by decide) (by decide)
    try rw [eq2]
    exact ⟨rfl, NF2⟩
  · have _h := hc8
    refine own_go (fun _ k => XS.ifYes X0.here hx rfl (pc0 := 8) (pc' := 20) rfl (hb hby at_8) rfl ((if0 _ _).trans (feq hc8).2) (by decide) (by decide) k) ?_
    show own_Go _ _ _ _ (s₁.setTop (mkF m 20 #[.val (.int p1), .val (.int ((p1 &&& (2147483647 : Int32)) % (5 : Int32))), .unset, .unset] []))
    refine own_go (fun _ k => XS.iloadN X0.here hx rfl (hb hby at_20) rfl k) ?_
    show own_Go _ _ _ _ (s₁.setTop (mkF m 21 #[.val (.int p1), .val (.int ((p1 &&& (2147483647 : Int32)) % (5 : Int32))), .unset, .unset] [(.int ((p1 &&& (2147483647 : Int32)) % (5 : Int32)))]))
    refine own_go (fun _ k => XS.iconst X0.here hx rfl (hb hby at_21) k) ?_
    show own_Go _ _ _ _ (s₁.setTop (mkF m 22 #[.val (.int p1), .val (.int ((p1 &&& (2147483647 : Int32)) % (5 : Int32))), .unset, .unset] [(.int (1 : Int32)), (.int ((p1 &&& (2147483647 : Int32)) % (5 : Int32)))]))
    by_cases hc22 : ((p1 &&& (2147483647 : Int32)) % (5 : Int32)) = (1 : Int32)
    · have _h := hc22
      refine own_go (fun _ k => XS.icmpNo X0.here hx rfl (hb hby at_22) rfl (teq hc22).2 k) ?_
      show own_Go _ _ _ _ (s₁.setTop (mkF m 25 #[.val (.int p1), .val (.int ((p1 &&& (2147483647 : Int32)) % (5 : Int32))), .unset, .unset] []))
      obtain ⟨T3, X3, e3, st3⟩ := getS2 X0 hx hZ hown (host := "") (Or.inl (hw _ (List.mem_of_getElem? (i := 16) rfl))) Via.refl e0 S_TABLE (g := (mkF m 25 #[.val (.int p1), .val (.int ((p1 &&& (2147483647 : Int32)) % (5 : Int32))), .unset, .unset] [])) rfl (hb hby at_25)
      refine own_go st3 ?_
      show own_Go _ _ _ _ (T3.setTop (mkF m 28 #[.val (.int p1), .val (.int ((p1 &&& (2147483647 : Int32)) % (5 : Int32))), .unset, .unset] [(.ref a_TABLE)]))
      refine own_go (fun _ k => XS.astoreN X3.here hx rfl (hb hby at_28) rfl rfl (l' := #[.val (.int p1), .val (.int ((p1 &&& (2147483647 : Int32)) % (5 : Int32))), .val (.ref a_TABLE), .unset]) rfl k) ?_
      show own_Go _ _ _ _ (T3.setTop (mkF m 29 #[.val (.int p1), .val (.int ((p1 &&& (2147483647 : Int32)) % (5 : Int32))), .val (.ref a_TABLE), .unset] []))
      refine own_go (fun _ k => XS.iconst X3.here hx rfl (hb hby at_29) k) ?_
      show own_Go _ _ _ _ (T3.setTop (mkF m 30 #[.val (.int p1), .val (.int ((p1 &&& (2147483647 : Int32)) % (5 : Int32))), .val (.ref a_TABLE), .unset] [(.int (0 : Int32))]))
      refine own_go (fun _ k => XS.istoreN X3.here hx rfl (hb hby at_30) rfl (l' := #[.val (.int p1), .val (.int ((p1 &&& (2147483647 : Int32)) % (5 : Int32))), .val (.ref a_TABLE), .val (.int (0 : Int32))]) rfl k) ?_
      show own_Go _ _ _ _ (T3.setTop (mkF m 31 #[.val (.int p1), .val (.int ((p1 &&& (2147483647 : Int32)) % (5 : Int32))), .val (.ref a_TABLE), .val (.int (0 : Int32))] []))
      refine own_go (fun _ k => XS.goto X3.here hx rfl (pc0 := 31) (pc' := 68) rfl (hb hby at_31) (by decide) (by decide) k) ?_
      show own_Go _ _ _ _ (T3.setTop (mkF m 68 #[.val (.int p1), .val (.int ((p1 &&& (2147483647 : Int32)) % (5 : Int32))), .val (.ref a_TABLE), .val (.int (0 : Int32))] []))
      refine own_go (fun _ k => XS.aloadN X3.here hx rfl (hb hby at_68) rfl rfl k) ?_
      show own_Go _ _ _ _ (T3.setTop (mkF m 69 #[.val (.int p1), .val (.int ((p1 &&& (2147483647 : Int32)) % (5 : Int32))), .val (.ref a_TABLE), .val (.int (0 : Int32))] [(.ref a_TABLE)]))
      obtain ⟨cq4, kq4, q4a, q4b, q4c⟩ := isOf hZ e3 E_TABLE
      obtain ⟨_, _, ⟨T4, L4, k4, n4⟩, -, X4, ⟨Lc4, hQ4, l4, y4, z4⟩, st4⟩ := X3.virtualBack hx (y := (⟨"com/example/polite_ddl/politeddl/sql/Reindex$Target", "manyTables", "()Z"⟩ : MethodName)) (z := (⟨"com/example/polite_ddl/politeddl/sql/Reindex$Target", "manyTables", "()Z"⟩ : MethodName)) hown (mvT hZ (hw _ (List.mem_of_getElem? (i := 4) rfl))) (mvT hZ (hw _ (List.mem_of_getElem? (i := 5) rfl))) (notFace_of_selects (args := #[]) (mvT hZ (hw _ (List.mem_of_getElem? (i := 7) rfl)))) (mvT hZ (hw _ (List.mem_of_getElem? (i := 7) rfl))) (mvT hZ (hw _ (List.mem_of_getElem? (i := 6) rfl))) (by decide) (own_back (W := 0) (own_rm1 l Z a0 hw a_TABLE a_SCHEMA a_DATABASE a_SYSTEM (0 : Int32) h0 n0 Z0 S_SCHEMA S_DATABASE S_SYSTEM (if_neg (by simp [ne_TABLE_SCHEMA, ne_TABLE_DATABASE, ne_TABLE_SYSTEM]))) hZ (hw _ (List.mem_of_getElem? (i := 8) rfl)) (hw _ (List.mem_of_getElem? (i := 2) rfl)) (by decide) (by decide)) q4a q4c (g := (mkF m 69 #[.val (.int p1), .val (.int ((p1 &&& (2147483647 : Int32)) % (5 : Int32))), .val (.ref a_TABLE), .val (.int (0 : Int32))] [(.ref a_TABLE)])) rfl (by rw [hml]; rfl) (Steps.refl _) (argsL := []) (rest := []) (lenOf own_pd0 rfl) rfl (by show 2 * 0 + _ ≤ _; exact Nat.le_of_eq rfl) (hb hby at_69) (fun _ _ => ⟨rfl, e3, (by decide : 0 + 0 ≤ _), (by decide : 0 + 0 ≤ _)⟩)
      dsimp only [Pt.U, Pt.locs, Pt.cells, Pt.slots] at X4 l4 y4 z4 st4 hQ4
      subst l4 y4 z4
      obtain ⟨rfl, Nq4, eq4⟩ := hQ4
      have NF4 := Fr.app N0 Nq4
      refine own_goT st4 ?_
      show own_Go _ _ _ _ (T4.setTop (mkF m 72 #[.val (.int p1), .val (.int ((p1 &&& (2147483647 : Int32)) % (5 : Int32))), .val (.ref a_TABLE), .val (.int (0 : Int32))] [(.int (0 : Int32))]))
      refine own_go (fun _ k => XS.iloadN X4.here hx rfl (hb hby at_72) rfl k) ?_
      show own_Go _ _ _ _ (T4.setTop (mkF m 73 #[.val (.int p1), .val (.int ((p1 &&& (2147483647 : Int32)) % (5 : Int32))), .val (.ref a_TABLE), .val (.int (0 : Int32))] [(.int (0 : Int32)), (.int (0 : Int32))]))
      refine own_go (fun _ k => XS.icmpNo X4.here hx rfl (hb hby at_73) rfl (teq (by decide)).2 k) ?_
      show own_Go _ _ _ _ (T4.setTop (mkF m 76 #[.val (.int p1), .val (.int ((p1 &&& (2147483647 : Int32)) % (5 : Int32))), .val (.ref a_TABLE), .val (.int (0 : Int32))] []))
      refine own_go (fun _ k => XS.iconst X4.here hx rfl (hb hby at_76) k) ?_
      show own_Go _ _ _ _ (T4.setTop (mkF m 77 #[.val (.int p1), .val (.int ((p1 &&& (2147483647 : Int32)) % (5 : Int32))), .val (.ref a_TABLE), .val (.int (0 : Int32))] [(.int (1 : Int32))]))
      refine own_go (fun _ k => XS.goto X4.here hx rfl (pc0 := 77) (pc' := 81) rfl (hb hby at_77) (by decide) (by decide) k) ?_
      show own_Go _ _ _ _ (T4.setTop (mkF m 81 #[.val (.int p1), .val (.int ((p1 &&& (2147483647 : Int32)) % (5 : Int32))), .val (.ref a_TABLE), .val (.int (0 : Int32))] [(.int (1 : Int32))]))
      refine own_ret X4 hlk (v := some (.int (1 : Int32))) (fun h => by rw [Bd.returns] at h; cases h) (fun fs hr => retN X4 hx (t := .boolean) Bd.returns (by simp) (hb hby at_81) hr) ?_ (by decide) (by decide)
      try rw [eq4]
      exact ⟨rfl, NF4⟩
    · have _h := hc22
      refine own_go (fun _ k => XS.icmpYes X0.here hx rfl (pc0 := 22) (pc' := 34) rfl (hb hby at_22) rfl (feq hc22).2 (by decide) (by decide) k) ?_
      show own_Go _ _ _ _ (s₁.setTop (mkF m 34 #[.val (.int p1), .val (.int ((p1 &&& (2147483647 : Int32)) % (5 : Int32))), .unset, .unset] []))
      refine own_go (fun _ k => XS.iloadN X0.here hx rfl (hb hby at_34) rfl k) ?_
      show own_Go _ _ _ _ (s₁.setTop (mkF m 35 #[.val (.int p1), .val (.int ((p1 &&& (2147483647 : Int32)) % (5 : Int32))), .unset, .unset] [(.int ((p1 &&& (2147483647 : Int32)) % (5 : Int32)))]))
      refine own_go (fun _ k => XS.iconst X0.here hx rfl (hb hby at_35) k) ?_
      show own_Go _ _ _ _ (s₁.setTop (mkF m 36 #[.val (.int p1), .val (.int ((p1 &&& (2147483647 : Int32)) % (5 : Int32))), .unset, .unset] [(.int (2 : Int32)), (.int ((p1 &&& (2147483647 : Int32)) % (5 : Int32)))]))
      by_cases hc36 : ((p1 &&& (2147483647 : Int32)) % (5 : Int32)) = (2 : Int32)
      · have _h := hc36
        refine own_go (fun _ k => XS.icmpNo X0.here hx rfl (hb hby at_36) rfl (teq hc36).2 k) ?_
        show own_Go _ _ _ _ (s₁.setTop (mkF m 39 #[.val (.int p1), .val (.int ((p1 &&& (2147483647 : Int32)) % (5 : Int32))), .unset, .unset] []))
        obtain ⟨T5, X5, e5, st5⟩ := getS2 X0 hx hZ hown (host := "") (Or.inl (hw _ (List.mem_of_getElem? (i := 19) rfl))) Via.refl e0 S_SCHEMA (g := (mkF m 39 #[.val (.int p1), .val (.int ((p1 &&& (2147483647 : Int32)) % (5 : Int32))), .unset, .unset] [])) rfl (hb hby at_39)
        refine own_go st5 ?_
        show own_Go _ _ _ _ (T5.setTop (mkF m 42 #[.val (.int p1), .val (.int ((p1 &&& (2147483647 : Int32)) % (5 : Int32))), .unset, .unset] [(.ref a_SCHEMA)]))
        refine own_go (fun _ k => XS.astoreN X5.here hx rfl (hb hby at_42) rfl rfl (l' := #[.val (.int p1), .val (.int ((p1 &&& (2147483647 : Int32)) % (5 : Int32))), .val (.ref a_SCHEMA), .unset]) rfl k) ?_
        show own_Go _ _ _ _ (T5.setTop (mkF m 43 #[.val (.int p1), .val (.int ((p1 &&& (2147483647 : Int32)) % (5 : Int32))), .val (.ref a_SCHEMA), .unset] []))
        refine own_go (fun _ k => XS.iconst X5.here hx rfl (hb hby at_43) k) ?_
        show own_Go _ _ _ _ (T5.setTop (mkF m 44 #[.val (.int p1), .val (.int ((p1 &&& (2147483647 : Int32)) % (5 : Int32))), .val (.ref a_SCHEMA), .unset] [(.int (1 : Int32))]))
        refine own_go (fun _ k => XS.istoreN X5.here hx rfl (hb hby at_44) rfl (l' := #[.val (.int p1), .val (.int ((p1 &&& (2147483647 : Int32)) % (5 : Int32))), .val (.ref a_SCHEMA), .val (.int (1 : Int32))]) rfl k) ?_
        show own_Go _ _ _ _ (T5.setTop (mkF m 45 #[.val (.int p1), .val (.int ((p1 &&& (2147483647 : Int32)) % (5 : Int32))), .val (.ref a_SCHEMA), .val (.int (1 : Int32))] []))
        refine own_go (fun _ k => XS.goto X5.here hx rfl (pc0 := 45) (pc' := 68) rfl (hb hby at_45) (by decide) (by decide) k) ?_
        show own_Go _ _ _ _ (T5.setTop (mkF m 68 #[.val (.int p1), .val (.int ((p1 &&& (2147483647 : Int32)) % (5 : Int32))), .val (.ref a_SCHEMA), .val (.int (1 : Int32))] []))
        refine own_go (fun _ k => XS.aloadN X5.here hx rfl (hb hby at_68) rfl rfl k) ?_
        show own_Go _ _ _ _ (T5.setTop (mkF m 69 #[.val (.int p1), .val (.int ((p1 &&& (2147483647 : Int32)) % (5 : Int32))), .val (.ref a_SCHEMA), .val (.int (1 : Int32))] [(.ref a_SCHEMA)]))
        obtain ⟨cq6, kq6, q6a, q6b, q6c⟩ := isOf hZ e5 E_SCHEMA
        obtain ⟨_, _, ⟨T6, L6, k6, n6⟩, -, X6, ⟨Lc6, hQ6, l6, y6, z6⟩, st6⟩ := X5.virtualBack hx (y := (⟨"com/example/polite_ddl/politeddl/sql/Reindex$Target", "manyTables", "()Z"⟩ : MethodName)) (z := (⟨"com/example/polite_ddl/politeddl/sql/Reindex$Target", "manyTables", "()Z"⟩ : MethodName)) hown (mvT hZ (hw _ (List.mem_of_getElem? (i := 4) rfl))) (mvT hZ (hw _ (List.mem_of_getElem? (i := 5) rfl))) (notFace_of_selects (args := #[]) (mvT hZ (hw _ (List.mem_of_getElem? (i := 7) rfl)))) (mvT hZ (hw _ (List.mem_of_getElem? (i := 7) rfl))) (mvT hZ (hw _ (List.mem_of_getElem? (i := 6) rfl))) (by decide) (own_back (W := 0) (own_rm1 l Z a0 hw a_SCHEMA a_SCHEMA a_DATABASE a_SYSTEM (1 : Int32) h0 n0 Z0 S_SCHEMA S_DATABASE S_SYSTEM (if_pos (Or.inl rfl))) hZ (hw _ (List.mem_of_getElem? (i := 8) rfl)) (hw _ (List.mem_of_getElem? (i := 2) rfl)) (by decide) (by decide)) q6a q6c (g := (mkF m 69 #[.val (.int p1), .val (.int ((p1 &&& (2147483647 : Int32)) % (5 : Int32))), .val (.ref a_SCHEMA), .val (.int (1 : Int32))] [(.ref a_SCHEMA)])) rfl (by rw [hml]; rfl) (Steps.refl _) (argsL := []) (rest := []) (lenOf own_pd0 rfl) rfl (by show 2 * 0 + _ ≤ _; exact Nat.le_of_eq rfl) (hb hby at_69) (fun _ _ => ⟨rfl, e5, (by decide : 0 + 0 ≤ _), (by decide : 0 + 0 ≤ _)⟩)
        dsimp only [Pt.U, Pt.locs, Pt.cells, Pt.slots] at X6 l6 y6 z6 st6 hQ6
        subst l6 y6 z6
        obtain ⟨rfl, Nq6, eq6⟩ := hQ6
        have NF6 := Fr.app N0 Nq6
        refine own_goT st6 ?_
        show own_Go _ _ _ _ (T6.setTop (mkF m 72 #[.val (.int p1), .val (.int ((p1 &&& (2147483647 : Int32)) % (5 : Int32))), .val (.ref a_SCHEMA), .val (.int (1 : Int32))] [(.int (1 : Int32))]))
        refine own_go (fun _ k => XS.iloadN X6.here hx rfl (hb hby at_72) rfl k) ?_
        show own_Go _ _ _ _ (T6.setTop (mkF m 73 #[.val (.int p1), .val (.int ((p1 &&& (2147483647 : Int32)) % (5 : Int32))), .val (.ref a_SCHEMA), .val (.int (1 : Int32))] [(.int (1 : Int32)), (.int (1 : Int32))]))
        refine own_go (fun _ k => XS.icmpNo X6.here hx rfl (hb hby at_73) rfl (teq (by decide)).2 k) ?_
        show own_Go _ _ _ _ (T6.setTop (mkF m 76 #[.val (.int p1), .val (.int ((p1 &&& (2147483647 : Int32)) % (5 : Int32))), .val (.ref a_SCHEMA), .val (.int (1 : Int32))] []))
        refine own_go (fun _ k => XS.iconst X6.here hx rfl (hb hby at_76) k) ?_
        show own_Go _ _ _ _ (T6.setTop (mkF m 77 #[.val (.int p1), .val (.int ((p1 &&& (2147483647 : Int32)) % (5 : Int32))), .val (.ref a_SCHEMA), .val (.int (1 : Int32))] [(.int (1 : Int32))]))
        refine own_go (fun _ k => XS.goto X6.here hx rfl (pc0 := 77) (pc' := 81) rfl (hb hby at_77) (by decide) (by decide) k) ?_
        show own_Go _ _ _ _ (T6.setTop (mkF m 81 #[.val (.int p1), .val (.int ((p1 &&& (2147483647 : Int32)) % (5 : Int32))), .val (.ref a_SCHEMA), .val (.int (1 : Int32))] [(.int (1 : Int32))]))
        refine own_ret X6 hlk (v := some (.int (1 : Int32))) (fun h => by rw [Bd.returns] at h; cases h) (fun fs hr => retN X6 hx (t := .boolean) Bd.returns (by simp) (hb hby at_81) hr) ?_ (by decide) (by decide)
        try rw [eq6]
        exact ⟨rfl, NF6⟩
      · have _h := hc36
        refine own_go (fun _ k => XS.icmpYes X0.here hx rfl (pc0 := 36) (pc' := 48) rfl (hb hby at_36) rfl (feq hc36).2 (by decide) (by decide) k) ?_
        show own_Go _ _ _ _ (s₁.setTop (mkF m 48 #[.val (.int p1), .val (.int ((p1 &&& (2147483647 : Int32)) % (5 : Int32))), .unset, .unset] []))
        refine own_go (fun _ k => XS.iloadN X0.here hx rfl (hb hby at_48) rfl k) ?_
        show own_Go _ _ _ _ (s₁.setTop (mkF m 49 #[.val (.int p1), .val (.int ((p1 &&& (2147483647 : Int32)) % (5 : Int32))), .unset, .unset] [(.int ((p1 &&& (2147483647 : Int32)) % (5 : Int32)))]))
        refine own_go (fun _ k => XS.iconst X0.here hx rfl (hb hby at_49) k) ?_
        show own_Go _ _ _ _ (s₁.setTop (mkF m 50 #[.val (.int p1), .val (.int ((p1 &&& (2147483647 : Int32)) % (5 : Int32))), .unset, .unset] [(.int (3 : Int32)), (.int ((p1 &&& (2147483647 : Int32)) % (5 : Int32)))]))
        by_cases hc50 : ((p1 &&& (2147483647 : Int32)) % (5 : Int32)) = (3 : Int32)
        · have _h := hc50
          refine own_go (fun _ k => XS.icmpNo X0.here hx rfl (hb hby at_50) rfl (teq hc50).2 k) ?_
          show own_Go _ _ _ _ (s₁.setTop (mkF m 53 #[.val (.int p1), .val (.int ((p1 &&& (2147483647 : Int32)) % (5 : Int32))), .unset, .unset] []))
          obtain ⟨T7, X7, e7, st7⟩ := getS2 X0 hx hZ hown (host := "") (Or.inl (hw _ (List.mem_of_getElem? (i := 15) rfl))) Via.refl e0 S_DATABASE (g := (mkF m 53 #[.val (.int p1), .val (.int ((p1 &&& (2147483647 : Int32)) % (5 : Int32))), .unset, .unset] [])) rfl (hb hby at_53)
          refine own_go st7 ?_
          show own_Go _ _ _ _ (T7.setTop (mkF m 56 #[.val (.int p1), .val (.int ((p1 &&& (2147483647 : Int32)) % (5 : Int32))), .unset, .unset] [(.ref a_DATABASE)]))
          refine own_go (fun _ k => XS.astoreN X7.here hx rfl (hb hby at_56) rfl rfl (l' := #[.val (.int p1), .val (.int ((p1 &&& (2147483647 : Int32)) % (5 : Int32))), .val (.ref a_DATABASE), .unset]) rfl k) ?_
          show own_Go _ _ _ _ (T7.setTop (mkF m 57 #[.val (.int p1), .val (.int ((p1 &&& (2147483647 : Int32)) % (5 : Int32))), .val (.ref a_DATABASE), .unset] []))
          refine own_go (fun _ k => XS.iconst X7.here hx rfl (hb hby at_57) k) ?_
          show own_Go _ _ _ _ (T7.setTop (mkF m 58 #[.val (.int p1), .val (.int ((p1 &&& (2147483647 : Int32)) % (5 : Int32))), .val (.ref a_DATABASE), .unset] [(.int (1 : Int32))]))
          refine own_go (fun _ k => XS.istoreN X7.here hx rfl (hb hby at_58) rfl (l' := #[.val (.int p1), .val (.int ((p1 &&& (2147483647 : Int32)) % (5 : Int32))), .val (.ref a_DATABASE), .val (.int (1 : Int32))]) rfl k) ?_
          show own_Go _ _ _ _ (T7.setTop (mkF m 59 #[.val (.int p1), .val (.int ((p1 &&& (2147483647 : Int32)) % (5 : Int32))), .val (.ref a_DATABASE), .val (.int (1 : Int32))] []))
          refine own_go (fun _ k => XS.goto X7.here hx rfl (pc0 := 59) (pc' := 68) rfl (hb hby at_59) (by decide) (by decide) k) ?_
          show own_Go _ _ _ _ (T7.setTop (mkF m 68 #[.val (.int p1), .val (.int ((p1 &&& (2147483647 : Int32)) % (5 : Int32))), .val (.ref a_DATABASE), .val (.int (1 : Int32))] []))
          refine own_go (fun _ k => XS.aloadN X7.here hx rfl (hb hby at_68) rfl rfl k) ?_
          show own_Go _ _ _ _ (T7.setTop (mkF m 69 #[.val (.int p1), .val (.int ((p1 &&& (2147483647 : Int32)) % (5 : Int32))), .val (.ref a_DATABASE), .val (.int (1 : Int32))] [(.ref a_DATABASE)]))
          obtain ⟨cq8, kq8, q8a, q8b, q8c⟩ := isOf hZ e7 E_DATABASE
          obtain ⟨_, _, ⟨T8, L8, k8, n8⟩, -, X8, ⟨Lc8, hQ8, l8, y8, z8⟩, st8⟩ := X7.virtualBack hx (y := (⟨"com/example/polite_ddl/politeddl/sql/Reindex$Target", "manyTables", "()Z"⟩ : MethodName)) (z := (⟨"com/example/polite_ddl/politeddl/sql/Reindex$Target", "manyTables", "()Z"⟩ : MethodName)) hown (mvT hZ (hw _ (List.mem_of_getElem? (i := 4) rfl))) (mvT hZ (hw _ (List.mem_of_getElem? (i := 5) rfl))) (notFace_of_selects (args := #[]) (mvT hZ (hw _ (List.mem_of_getElem? (i := 7) rfl)))) (mvT hZ (hw _ (List.mem_of_getElem? (i := 7) rfl))) (mvT hZ (hw _ (List.mem_of_getElem? (i := 6) rfl))) (by decide) (own_back (W := 0) (own_rm1 l Z a0 hw a_DATABASE a_SCHEMA a_DATABASE a_SYSTEM (1 : Int32) h0 n0 Z0 S_SCHEMA S_DATABASE S_SYSTEM (if_pos (Or.inr (Or.inl rfl)))) hZ (hw _ (List.mem_of_getElem? (i := 8) rfl)) (hw _ (List.mem_of_getElem? (i := 2) rfl)) (by decide) (by decide)) q8a q8c (g := (mkF m 69 #[.val (.int p1), .val (.int ((p1 &&& (2147483647 : Int32)) % (5 : Int32))), .val (.ref a_DATABASE), .val (.int (1 : Int32))] [(.ref a_DATABASE)])) rfl (by rw [hml]; rfl) (Steps.refl _) (argsL := []) (rest := []) (lenOf own_pd0 rfl) rfl (by show 2 * 0 + _ ≤ _; exact Nat.le_of_eq rfl) (hb hby at_69) (fun _ _ => ⟨rfl, e7, (by decide : 0 + 0 ≤ _), (by decide : 0 + 0 ≤ _)⟩)
          dsimp only [Pt.U, Pt.locs, Pt.cells, Pt.slots] at X8 l8 y8 z8 st8 hQ8
          subst l8 y8 z8
          obtain ⟨rfl, Nq8, eq8⟩ := hQ8
          have NF8 := Fr.app N0 Nq8
          refine own_goT st8 ?_
          show own_Go _ _ _ _ (T8.setTop (mkF m 72 #[.val (.int p1), .val (.int ((p1 &&& (2147483647 : Int32)) % (5 : Int32))), .val (.ref a_DATABASE), .val (.int (1 : Int32))] [(.int (1 : Int32))]))
          refine own_go (fun _ k => XS.iloadN X8.here hx rfl (hb hby at_72) rfl k) ?_
          show own_Go _ _ _ _ (T8.setTop (mkF m 73 #[.val (.int p1), .val (.int ((p1 &&& (2147483647 : Int32)) % (5 : Int32))), .val (.ref a_DATABASE), .val (.int (1 : Int32))] [(.int (1 : Int32)), (.int (1 : Int32))]))
          refine own_go (fun _ k => XS.icmpNo X8.here hx rfl (hb hby at_73) rfl (teq (by decide)).2 k) ?_
          show own_Go _ _ _ _ (T8.setTop (mkF m 76 #[.val (.int p1), .val (.int ((p1 &&& (2147483647 : Int32)) % (5 : Int32))), .val (.ref a_DATABASE), .val (.int (1 : Int32))] []))
          refine own_go (fun _ k => XS.iconst X8.here hx rfl (hb hby at_76) k) ?_
          show own_Go _ _ _ _ (T8.setTop (mkF m 77 #[.val (.int p1), .val (.int ((p1 &&& (2147483647 : Int32)) % (5 : Int32))), .val (.ref a_DATABASE), .val (.int (1 : Int32))] [(.int (1 : Int32))]))
          refine own_go (fun _ k => XS.goto X8.here hx rfl (pc0 := 77) (pc' := 81) rfl (hb hby at_77) (by decide) (by decide) k) ?_
          show own_Go _ _ _ _ (T8.setTop (mkF m 81 #[.val (.int p1), .val (.int ((p1 &&& (2147483647 : Int32)) % (5 : Int32))), .val (.ref a_DATABASE), .val (.int (1 : Int32))] [(.int (1 : Int32))]))
          refine own_ret X8 hlk (v := some (.int (1 : Int32))) (fun h => by rw [Bd.returns] at h; cases h) (fun fs hr => retN X8 hx (t := .boolean) Bd.returns (by simp) (hb hby at_81) hr) ?_ (by decide) (by decide)
          try rw [eq8]
          exact ⟨rfl, NF8⟩
        · have _h := hc50
          refine own_go (fun _ k => XS.icmpYes X0.here hx rfl (pc0 := 50) (pc' := 62) rfl (hb hby at_50) rfl (feq hc50).2 (by decide) (by decide) k) ?_
          show own_Go _ _ _ _ (s₁.setTop (mkF m 62 #[.val (.int p1), .val (.int ((p1 &&& (2147483647 : Int32)) % (5 : Int32))), .unset, .unset] []))
          obtain ⟨T9, X9, e9, st9⟩ := getS2 X0 hx hZ hown (host := "") (Or.inl (hw _ (List.mem_of_getElem? (i := 18) rfl))) Via.refl e0 S_SYSTEM (g := (mkF m 62 #[.val (.int p1), .val (.int ((p1 &&& (2147483647 : Int32)) % (5 : Int32))), .unset, .unset] [])) rfl (hb hby at_62)
          refine own_go st9 ?_
          show own_Go _ _ _ _ (T9.setTop (mkF m 65 #[.val (.int p1), .val (.int ((p1 &&& (2147483647 : Int32)) % (5 : Int32))), .unset, .unset] [(.ref a_SYSTEM)]))
          refine own_go (fun _ k => XS.astoreN X9.here hx rfl (hb hby at_65) rfl rfl (l' := #[.val (.int p1), .val (.int ((p1 &&& (2147483647 : Int32)) % (5 : Int32))), .val (.ref a_SYSTEM), .unset]) rfl k) ?_
          show own_Go _ _ _ _ (T9.setTop (mkF m 66 #[.val (.int p1), .val (.int ((p1 &&& (2147483647 : Int32)) % (5 : Int32))), .val (.ref a_SYSTEM), .unset] []))
          refine own_go (fun _ k => XS.iconst X9.here hx rfl (hb hby at_66) k) ?_
          show own_Go _ _ _ _ (T9.setTop (mkF m 67 #[.val (.int p1), .val (.int ((p1 &&& (2147483647 : Int32)) % (5 : Int32))), .val (.ref a_SYSTEM), .unset] [(.int (1 : Int32))]))
          refine own_go (fun _ k => XS.istoreN X9.here hx rfl (hb hby at_67) rfl (l' := #[.val (.int p1), .val (.int ((p1 &&& (2147483647 : Int32)) % (5 : Int32))), .val (.ref a_SYSTEM), .val (.int (1 : Int32))]) rfl k) ?_
          show own_Go _ _ _ _ (T9.setTop (mkF m 68 #[.val (.int p1), .val (.int ((p1 &&& (2147483647 : Int32)) % (5 : Int32))), .val (.ref a_SYSTEM), .val (.int (1 : Int32))] []))
          refine own_go (fun _ k => XS.aloadN X9.here hx rfl (hb hby at_68) rfl rfl k) ?_
          show own_Go _ _ _ _ (T9.setTop (mkF m 69 #[.val (.int p1), .val (.int ((p1 &&& (2147483647 : Int32)) % (5 : Int32))), .val (.ref a_SYSTEM), .val (.int (1 : Int32))] [(.ref a_SYSTEM)]))
          obtain ⟨cq10, kq10, q10a, q10b, q10c⟩ := isOf hZ e9 E_SYSTEM
          obtain ⟨_, _, ⟨T10, L10, k10, n10⟩, -, X10, ⟨Lc10, hQ10, l10, y10, z10⟩, st10⟩ := X9.virtualBack hx (y := (⟨"com/example/polite_ddl/politeddl/sql/Reindex$Target", "manyTables", "()Z"⟩ : MethodName)) (z := (⟨"com/example/polite_ddl/politeddl/sql/Reindex$Target", "manyTables", "()Z"⟩ : MethodName)) hown (mvT hZ (hw _ (List.mem_of_getElem? (i := 4) rfl))) (mvT hZ (hw _ (List.mem_of_getElem? (i := 5) rfl))) (notFace_of_selects (args := #[]) (mvT hZ (hw _ (List.mem_of_getElem? (i := 7) rfl)))) (mvT hZ (hw _ (List.mem_of_getElem? (i := 7) rfl))) (mvT hZ (hw _ (List.mem_of_getElem? (i := 6) rfl))) (by decide) (own_back (W := 0) (own_rm1 l Z a0 hw a_SYSTEM a_SCHEMA a_DATABASE a_SYSTEM (1 : Int32) h0 n0 Z0 S_SCHEMA S_DATABASE S_SYSTEM (if_pos (Or.inr (Or.inr (rfl))))) hZ (hw _ (List.mem_of_getElem? (i := 8) rfl)) (hw _ (List.mem_of_getElem? (i := 2) rfl)) (by decide) (by decide)) q10a q10c (g := (mkF m 69 #[.val (.int p1), .val (.int ((p1 &&& (2147483647 : Int32)) % (5 : Int32))), .val (.ref a_SYSTEM), .val (.int (1 : Int32))] [(.ref a_SYSTEM)])) rfl (by rw [hml]; rfl) (Steps.refl _) (argsL := []) (rest := []) (lenOf own_pd0 rfl) rfl (by show 2 * 0 + _ ≤ _; exact Nat.le_of_eq rfl) (hb hby at_69) (fun _ _ => ⟨rfl, e9, (by decide : 0 + 0 ≤ _), (by decide : 0 + 0 ≤ _)⟩)
          dsimp only [Pt.U, Pt.locs, Pt.cells, Pt.slots] at X10 l10 y10 z10 st10 hQ10
          subst l10 y10 z10
          obtain ⟨rfl, Nq10, eq10⟩ := hQ10
          have NF10 := Fr.app N0 Nq10
          refine own_goT st10 ?_
          show own_Go _ _ _ _ (T10.setTop (mkF m 72 #[.val (.int p1), .val (.int ((p1 &&& (2147483647 : Int32)) % (5 : Int32))), .val (.ref a_SYSTEM), .val (.int (1 : Int32))] [(.int (1 : Int32))]))
          refine own_go (fun _ k => XS.iloadN X10.here hx rfl (hb hby at_72) rfl k) ?_
          show own_Go _ _ _ _ (T10.setTop (mkF m 73 #[.val (.int p1), .val (.int ((p1 &&& (2147483647 : Int32)) % (5 : Int32))), .val (.ref a_SYSTEM), .val (.int (1 : Int32))] [(.int (1 : Int32)), (.int (1 : Int32))]))
          refine own_go (fun _ k => XS.icmpNo X10.here hx rfl (hb hby at_73) rfl (teq (by decide)).2 k) ?_
          show own_Go _ _ _ _ (T10.setTop (mkF m 76 #[.val (.int p1), .val (.int ((p1 &&& (2147483647 : Int32)) % (5 : Int32))), .val (.ref a_SYSTEM), .val (.int (1 : Int32))] []))
          refine own_go (fun _ k => XS.iconst X10.here hx rfl (hb hby at_76) k) ?_
          show own_Go _ _ _ _ (T10.setTop (mkF m 77 #[.val (.int p1), .val (.int ((p1 &&& (2147483647 : Int32)) % (5 : Int32))), .val (.ref a_SYSTEM), .val (.int (1 : Int32))] [(.int (1 : Int32))]))
          refine own_go (fun _ k => XS.goto X10.here hx rfl (pc0 := 77) (pc' := 81) rfl (hb hby at_77) (by decide) (by decide) k) ?_
          show own_Go _ _ _ _ (T10.setTop (mkF m 81 #[.val (.int p1), .val (.int ((p1 &&& (2147483647 : Int32)) % (5 : Int32))), .val (.ref a_SYSTEM), .val (.int (1 : Int32))] [(.int (1 : Int32))]))
          refine own_ret X10 hlk (v := some (.int (1 : Int32))) (fun h => by rw [Bd.returns] at h; cases h) (fun fs hr => retN X10 hx (t := .boolean) Bd.returns (by simp) (hb hby at_81) hr) ?_ (by decide) (by decide)
          try rw [eq10]
          exact ⟨rfl, NF10⟩
set_option maxRecDepth 65536 in
set_option maxHeartbeats 40000000 in
theorem own_comes {Post : Tables → Env → Array Value → State → Outcome → State → Prop} (hpost : ∀ tb e args s v u, (limb_1_1.after args s (.returned v) u = true ∧ limb_1_2.after args s (.returned v) u = true ∧ True) → FrameEnd s (.returned v) u (Jvm.fieldLocs frame_1_writes args s ++ Jvm.arrayLocs frame_1_arrays args s ++ Jvm.staticLocs frame_1_statics s) 0 0 → Post tb e args s (.returned v) u) :
    ArmFor flags0 classFile x code maxLocals ret World_1 tables_1 room_1 Calls_1 rest_1 Pre_1 Post := by
  intro l hfl _ _ p e ha hc hk s m args below hf hA hF happ hP
  obtain ⟨hcalls, hrest, hpre⟩ := hP
  obtain ⟨-, -, -, hnamed, -, -, -, hat⟩ := (Spec.applies_iff hf).mp happ
  obtain ⟨hg, hn⟩ := and_e (Cond.before_iff.mp (show (Jvm.Cond.and given_1 narrow_1).before args s = true from hpre))
  obtain ⟨hcount, hg⟩ := and_e hg
  obtain ⟨w0, rfl⟩ : ∃ w0 : Value, args = #[w0] := by
    have hs : args.size = 1 := by simpa [Cond.value, given_1] using hcount
    obtain ⟨L⟩ := args
    match L, hs with
    | [w0], _ => exact ⟨w0, rfl⟩
  have hw := fun d (hd : d ∈ tables_1) => atoms_spec (ws := Jvm.Cond.code x code maxLocals ret :: tables_1) hat d (List.mem_cons_of_mem _ hd)
  have hfit : Fit s := fun {y c} hc i hi => by
    obtain ⟨ha, rfl⟩ := Array.getElem?_eq_some_iff.mp hc
    have q := List.all_eq_true.mp ((Array.all_eq_true_iff_forall_mem.mp hF) _ (Array.getElem_mem ha)) i (List.mem_range.mpr hi)
    simpa [Array.getElem?_eq_getElem hi] using q
  obtain ⟨i0, ei0⟩ := is_v hg
  obtain rfl : w0 = (.int i0) := Option.some.inj ei0
  obtain ⟨hn0, hn⟩ := and_e hn
  obtain ⟨hn1, hn⟩ := and_e hn
  obtain ⟨hn2, hn⟩ := and_e hn
  obtain ⟨hn3, hn⟩ := and_e hn
  obtain ⟨hn4, hn⟩ := and_e hn
  obtain ⟨hn5, hn⟩ := and_e hn
  obtain ⟨hn6, hn⟩ := and_e hn
  obtain ⟨hn7, hn⟩ := and_e hn
  obtain ⟨hn8, hn⟩ := and_e hn
  have hn9 := hn
  obtain ⟨a_INDEX, ev_INDEX⟩ := exa_v hn0
  have S_INDEX := Sta.start ev_INDEX (Or.inr ⟨(hw _ (List.mem_of_getElem? (i := 2) rfl)), (hw _ (List.mem_of_getElem? (i := 3) rfl))⟩)
  have E_INDEX := Exa.start ev_INDEX hn0
  obtain ⟨a_SCHEMA, ev_SCHEMA⟩ := exa_v hn1
  have S_SCHEMA := Sta.start ev_SCHEMA (Or.inr ⟨(hw _ (List.mem_of_getElem? (i := 2) rfl)), (hw _ (List.mem_of_getElem? (i := 10) rfl))⟩)
  have E_SCHEMA := Exa.start ev_SCHEMA hn1
  have F_ordinal_INDEX := own_fld ev_INDEX (own_eqi hn2)
  have F_ordinal_SCHEMA := own_fld ev_SCHEMA (own_eqi hn3)
  obtain ⟨a_DATABASE, ev_DATABASE⟩ := exa_v hn4
  have S_DATABASE := Sta.start ev_DATABASE (Or.inr ⟨(hw _ (List.mem_of_getElem? (i := 2) rfl)), (hw _ (List.mem_of_getElem? (i := 12) rfl))⟩)
  have E_DATABASE := Exa.start ev_DATABASE hn4
  have F_ordinal_DATABASE := own_fld ev_DATABASE (own_eqi hn5)
  obtain ⟨a_SYSTEM, ev_SYSTEM⟩ := exa_v hn6
  have S_SYSTEM := Sta.start ev_SYSTEM (Or.inr ⟨(hw _ (List.mem_of_getElem? (i := 2) rfl)), (hw _ (List.mem_of_getElem? (i := 14) rfl))⟩)
  have E_SYSTEM := Exa.start ev_SYSTEM hn6
  have F_ordinal_SYSTEM := own_fld ev_SYSTEM (own_eqi hn7)
  obtain ⟨a_TABLE, ev_TABLE⟩ := exa_v hn8
  have S_TABLE := Sta.start ev_TABLE (Or.inr ⟨(hw _ (List.mem_of_getElem? (i := 2) rfl)), (hw _ (List.mem_of_getElem? (i := 17) rfl))⟩)
  have E_TABLE := Exa.start ev_TABLE hn8
  have F_ordinal_TABLE := own_fld ev_TABLE (own_eqi hn9)
  have ne_INDEX_SCHEMA : a_INDEX ≠ a_SCHEMA := Fld.ne F_ordinal_INDEX F_ordinal_SCHEMA (by decide)
  have ne_INDEX_DATABASE : a_INDEX ≠ a_DATABASE := Fld.ne F_ordinal_INDEX F_ordinal_DATABASE (by decide)
  have ne_INDEX_SYSTEM : a_INDEX ≠ a_SYSTEM := Fld.ne F_ordinal_INDEX F_ordinal_SYSTEM (by decide)
  have ne_TABLE_SCHEMA : a_TABLE ≠ a_SCHEMA := Fld.ne F_ordinal_TABLE F_ordinal_SCHEMA (by decide)
  have ne_TABLE_DATABASE : a_TABLE ≠ a_DATABASE := Fld.ne F_ordinal_TABLE F_ordinal_DATABASE (by decide)
  have ne_TABLE_SYSTEM : a_TABLE ≠ a_SYSTEM := Fld.ne F_ordinal_TABLE F_ordinal_SYSTEM (by decide)
  obtain ⟨n, o, h1, h2, h3, _, L, rfl, ⟨rfl, N⟩, hq⟩ := own_rm0 l s _ hw i0 a_INDEX a_TABLE a_SCHEMA a_DATABASE a_SYSTEM s.heap s.heap.size (Nat.le_refl _) S_INDEX S_TABLE S_SCHEMA S_DATABASE S_SYSTEM E_INDEX E_TABLE E_SCHEMA E_DATABASE E_SYSTEM ne_INDEX_SCHEMA ne_INDEX_DATABASE ne_INDEX_SYSTEM ne_TABLE_SCHEMA ne_TABLE_DATABASE ne_TABLE_SYSTEM p e ha hc hk s m _ below hf ((Spec.applies_iff_loose hf).mp happ).1 ⟨rfl, State.Warmed39.refl s, rfl⟩ trivial
  refine ⟨n, _, h1, h2, h3, hpost _ _ _ _ _ _ ⟨Cond.after_iff.mpr rfl, Cond.after_iff.mpr (eq_i res_at (Term.int_eval (1)) rfl), trivial⟩ ⟨hq.1, hq.2.1, (hq.2.2.sift fun y hy => Or.inr (N y hy)).mono (by decide) (by decide)⟩⟩
theorem main_1_1 : Claimed_1_1 := own_comes fun _ _ _ _ _ _ h hF => ⟨h.1, hF⟩
theorem main_1_2 : Claimed_1_2 := own_comes fun _ _ _ _ _ _ h hF => ⟨h.2.1, hF⟩
end Jvm.Pilot.@@N@@
namespace Jvm.Pilot.@@N@@
open Jvm Jvm.ClassFile Sem Op Lib Jvm.Free Jvm.Stand Jvm.Pilot.@@N@@.Jvm.D
/-! MADE BY PROGRAM (witnessworld.py) out of the Statement's table words and the real class files: 12 classes; the members and pool entries that the words name. The judged class is class 1, her method 1. -/
namespace start1
open Jvm.ClassFile
def u (s : String) : CpInfo := .utf8 (stringToUtf16 s)
/-- a pool by its gaps: so many unusable entries, then the entry; so many at the end -/
def gap : Nat → List CpInfo → List CpInfo
  | 0, r => r
  | n + 1, r => .unusable :: gap n r
def poolList (es : List (Nat × CpInfo)) (last : Nat) : List CpInfo := es.foldr (fun e r => gap e.1 (e.2 :: r)) (gap last [])
def pool (es : List (Nat × CpInfo)) (last : Nat) : Array CpInfo := ⟨poolList es last⟩
def fileOf (pool : Array CpInfo) (this : Nat) (attrs : Array Attribute := #[]) (ms : Array MethodInfo := #[]) (fl : Nat := 33) (sup : Nat := 0) (ifs : Array Nat := #[]) (fds : Array FieldInfo := #[]) : ClassFile where
  minorVersion := 0
  majorVersion := 65
  constantPool := pool
  accessFlags := fl
  thisClass := this
  superClass := sup
  interfaces := ifs
  fields := fds
  methods := ms
  attributes := attrs
def plain (name : String) (sup : Option ClassId) : Class where
  name := name
  kind := .ordinary
  loader := none
  accessFlags := 33
  super := sup
  interfaces := #[]
  cf := none
  fields := #[]
  methods := #[]
  instanceTypes := #[]
  staticTypes := #[]
  resolved := #[]
  callSites := []
  init := .initialized
  statics := none
  mirror := none

def pool0 : Array CpInfo := pool [(5, u "<init>"), (0, u "()V"), (1, .class_ 10), (1, u "java/lang/Object")] 113

def k0m0 : Method := { name := "<init>", desc := "()V", sig := { parameters := [], returnType := none }, accessFlags := 1, code := none }
/-- java/lang/Object -/
def k0 : Class := { plain "java/lang/Object" none with
  accessFlags := 33
  interfaces := #[]
  cf := some (fileOf pool0 8 #[] #[{ accessFlags := 1, nameIndex := 5, descriptorIndex := 6, attributes := #[] }] 33 0 #[] #[])
  fields := #[]
  methods := #[k0m0]
  instanceTypes := #[]
  staticTypes := #[]
  resolved := Array.replicate 124 none
  statics := none }

def pool1 : Array CpInfo := pool [(2, .class_ 4), (1, u "java/lang/Object"), (0, u "<init>"), (0, u "()V"), (0, .integer 2147483647), (0, .fieldref 9 10), (0, .class_ 11), (0, .nameAndType 12 13), (0, u "com/example/polite_ddl/politeddl/sql/Reindex$Target"), (0, u "INDEX"), (0, u "Lcom/example/polite_ddl/politeddl/sql/Reindex$Target;"), (0, .fieldref 9 15), (0, .nameAndType 16 13), (0, u "TABLE"), (0, .fieldref 9 18), (0, .nameAndType 19 13), (0, u "SCHEMA"), (0, .fieldref 9 21), (0, .nameAndType 22 13), (0, u "DATABASE"), (0, .fieldref 9 24), (0, .nameAndType 25 13), (0, u "SYSTEM"), (0, .methodref 9 27), (0, .nameAndType 28 29), (0, u "manyTables"), (0, u "()Z"), (0, .class_ 31), (0, u "com/example/polite_ddl/politeddl/sql/TargetManyTablesPinLaw"), (2, u "law"), (0, u "(I)Z")] 7

def k1m0 : Method := { name := "<init>", desc := "()V", sig := { parameters := [], returnType := none }, accessFlags := 1, code := none }
def k1c1 : Code := { maxStack := 2, maxLocals := 4, code := code, exceptionTable := #[], attributes := #[] }
def k1m1 : Method := { name := "law", desc := "(I)Z", sig := { parameters := [.int], returnType := some .boolean }, accessFlags := 9, code := some k1c1 }
/-- com/example/polite_ddl/politeddl/sql/TargetManyTablesPinLaw -/
def k1 : Class := { plain "com/example/polite_ddl/politeddl/sql/TargetManyTablesPinLaw" (some 0) with
  accessFlags := 49
  interfaces := #[]
  cf := some (fileOf pool1 30 #[] #[{ accessFlags := 1, nameIndex := 5, descriptorIndex := 6, attributes := #[] }, { accessFlags := 9, nameIndex := 34, descriptorIndex := 35, attributes := #[] }] 49 2 #[] #[])
  fields := #[]
  methods := #[k1m0, k1m1]
  instanceTypes := #[]
  staticTypes := #[]
  resolved := Array.replicate 43 none
  statics := none }

def pool2 : Array CpInfo := pool [(1, .class_ 2), (0, u "java/lang/constant/Constable"), (0, .class_ 4), (0, u "java/lang/Object")] 6

/-- java/lang/constant/Constable -/
def k2 : Class := { plain "java/lang/constant/Constable" (some 0) with
  accessFlags := 1537
  interfaces := #[]
  cf := some (fileOf pool2 1 #[] #[] 1537 3 #[] #[])
  fields := #[]
  methods := #[]
  instanceTypes := #[]
  staticTypes := #[]
  resolved := Array.replicate 11 none
  statics := none }

def pool3 : Array CpInfo := pool [(1, .class_ 2), (0, u "java/lang/Comparable"), (0, .class_ 4), (0, u "java/lang/Object")] 7

/-- java/lang/Comparable -/
def k3 : Class := { plain "java/lang/Comparable" (some 0) with
  accessFlags := 1537
  interfaces := #[]
  cf := some (fileOf pool3 1 #[] #[] 1537 3 #[] #[])
  fields := #[]
  methods := #[]
  instanceTypes := #[]
  staticTypes := #[]
  resolved := Array.replicate 12 none
  statics := none }

def pool4 : Array CpInfo := pool [(1, .class_ 2), (0, u "java/io/Serializable"), (0, .class_ 4), (0, u "java/lang/Object")] 2

/-- java/io/Serializable -/
def k4 : Class := { plain "java/io/Serializable" (some 0) with
  accessFlags := 1537
  interfaces := #[]
  cf := some (fileOf pool4 1 #[] #[] 1537 3 #[] #[])
  fields := #[]
  methods := #[]
  instanceTypes := #[]
  staticTypes := #[]
  resolved := Array.replicate 7 none
  statics := none }

def pool5 : Array CpInfo := pool [(2, .class_ 4), (1, u "java/lang/Enum"), (0, u "name"), (0, u "Ljava/lang/String;"), (2, u "ordinal"), (0, u "I"), (1, .class_ 14), (1, u "java/lang/Object"), (4, u "hash"), (86, .class_ 108), (1, u "java/lang/Enum$EnumDesc"), (2, .class_ 112), (0, u "java/lang/constant/Constable"), (0, .class_ 114), (0, u "java/lang/Comparable"), (0, .class_ 116), (0, u "java/io/Serializable")] 87

/-- java/lang/Enum -/
def k5 : Class := { plain "java/lang/Enum" (some 0) with
  accessFlags := 1057
  interfaces := #[2, 3, 4]
  cf := some (fileOf pool5 2 #[.nestMembers #[106]] #[] 1057 12 #[111, 113, 115] #[{ accessFlags := 18, nameIndex := 5, descriptorIndex := 6, attributes := #[] }, { accessFlags := 18, nameIndex := 9, descriptorIndex := 10, attributes := #[] }, { accessFlags := 2, nameIndex := 19, descriptorIndex := 10, attributes := #[] }])
  fields := #[{ name := "name", type := (.object "java/lang/String"), accessFlags := 18, slot := 0, constantValue := 0 }, { name := "ordinal", type := .int, accessFlags := 18, slot := 1, constantValue := 0 }, { name := "hash", type := .int, accessFlags := 2, slot := 2, constantValue := 0 }]
  methods := #[]
  instanceTypes := #[(.object "java/lang/String"), .int, .int]
  staticTypes := #[]
  resolved := Array.replicate 204 none
  statics := none }

def pool6 : Array CpInfo := pool [(1, .class_ 2), (0, u "com/example/polite_ddl/politeddl/sql/Reindex$Target"), (2, u "INDEX"), (0, u "Lcom/example/polite_ddl/politeddl/sql/Reindex$Target;"), (2, u "TABLE"), (0, .fieldref 1 11), (0, .nameAndType 12 6), (0, u "SCHEMA"), (0, .fieldref 1 14), (0, .nameAndType 15 6), (0, u "DATABASE"), (0, .fieldref 1 17), (0, .nameAndType 18 6), (0, u "SYSTEM"), (2, u "$VALUES"), (0, u "[Lcom/example/polite_ddl/politeddl/sql/Reindex$Target;"), (6, .class_ 31), (1, u "java/lang/Enum"), (23, u "manyTables"), (0, u "()Z"), (6, .class_ 64), (0, u "com/example/polite_ddl/politeddl/sql/Reindex")] 2

def k6c0 : Code := { maxStack := 2, maxLocals := 1, code := prog_121_method_4_code, exceptionTable := #[], attributes := #[] }
def k6m0 : Method := { name := "manyTables", desc := "()Z", sig := { parameters := [], returnType := some .boolean }, accessFlags := 0, code := some k6c0 }
/-- com/example/polite_ddl/politeddl/sql/Reindex$Target -/
def k6 : Class := { plain "com/example/polite_ddl/politeddl/sql/Reindex$Target" (some 5) with
  accessFlags := 16432
  interfaces := #[]
  cf := some (fileOf pool6 1 #[.nestHost 63] #[{ accessFlags := 0, nameIndex := 55, descriptorIndex := 56, attributes := #[] }] 16432 29 #[] #[{ accessFlags := 16409, nameIndex := 5, descriptorIndex := 6, attributes := #[] }, { accessFlags := 16409, nameIndex := 9, descriptorIndex := 6, attributes := #[] }, { accessFlags := 16409, nameIndex := 12, descriptorIndex := 6, attributes := #[] }, { accessFlags := 16409, nameIndex := 15, descriptorIndex := 6, attributes := #[] }, { accessFlags := 16409, nameIndex := 18, descriptorIndex := 6, attributes := #[] }, { accessFlags := 4122, nameIndex := 21, descriptorIndex := 22, attributes := #[] }])
  fields := #[{ name := "INDEX", type := (.object "com/example/polite_ddl/politeddl/sql/Reindex$Target"), accessFlags := 16409, slot := 0, constantValue := 0 }, { name := "TABLE", type := (.object "com/example/polite_ddl/politeddl/sql/Reindex$Target"), accessFlags := 16409, slot := 1, constantValue := 0 }, { name := "SCHEMA", type := (.object "com/example/polite_ddl/politeddl/sql/Reindex$Target"), accessFlags := 16409, slot := 2, constantValue := 0 }, { name := "DATABASE", type := (.object "com/example/polite_ddl/politeddl/sql/Reindex$Target"), accessFlags := 16409, slot := 3, constantValue := 0 }, { name := "SYSTEM", type := (.object "com/example/polite_ddl/politeddl/sql/Reindex$Target"), accessFlags := 16409, slot := 4, constantValue := 0 }, { name := "$VALUES", type := (.array (.object "com/example/polite_ddl/politeddl/sql/Reindex$Target")), accessFlags := 4122, slot := 5, constantValue := 0 }]
  methods := #[k6m0]
  instanceTypes := #[(.object "java/lang/String"), .int, .int]
  staticTypes := #[(.object "com/example/polite_ddl/politeddl/sql/Reindex$Target"), (.object "com/example/polite_ddl/politeddl/sql/Reindex$Target"), (.object "com/example/polite_ddl/politeddl/sql/Reindex$Target"), (.object "com/example/polite_ddl/politeddl/sql/Reindex$Target"), (.object "com/example/polite_ddl/politeddl/sql/Reindex$Target"), (.array (.object "com/example/polite_ddl/politeddl/sql/Reindex$Target"))]
  resolved := Array.replicate 67 none
  statics := some 0 }

def pool7 : Array CpInfo := pool [(1, u "java/lang/Cloneable"), (0, .class_ 1), (0, u "java/lang/Object"), (0, .class_ 3)] 3

/-- java/lang/Cloneable -/
def k7 : Class := { plain "java/lang/Cloneable" (some 0) with
  accessFlags := 1537
  interfaces := #[]
  cf := some (fileOf pool7 2 #[] #[] 1537 4 #[] #[])
  fields := #[]
  methods := #[]
  instanceTypes := #[]
  staticTypes := #[]
  resolved := Array.replicate 8 none
  statics := none }

/-- the primitive byte -/
def k8 : Class := { plain "byte" none with kind := .primitive 'B', accessFlags := 0x411 }
/-- [B -/
def k9 : Class := { plain "[B" (some 0) with kind := .array 8 .byte, interfaces := #[7, 4], accessFlags := 1041 }

/-- the primitive int -/
def k10 : Class := { plain "int" none with kind := .primitive 'I', accessFlags := 0x411 }
/-- [I -/
def k11 : Class := { plain "[I" (some 0) with kind := .array 10 .int, interfaces := #[7, 4], accessFlags := 1041 }

def heap : Heap := #[{ cls := 6, slots := #[.ref 1, .ref 5, .ref 2, .ref 3, .ref 4, .null], vm := .statics 6 },
  { cls := 6, slots := #[.null, .int 0, .int 0], vm := .none },
  { cls := 6, slots := #[.null, .int 2, .int 0], vm := .none },
  { cls := 6, slots := #[.null, .int 3, .int 0], vm := .none },
  { cls := 6, slots := #[.null, .int 4, .int 0], vm := .none },
  { cls := 6, slots := #[.null, .int 1, .int 0], vm := .none }]
def classes : Array Class := #[k0, k1, k2, k3, k4, k5, k6, k7, k8, k9, k10, k11]
def interned : List (Array UInt16 × Addr) := []
def slotsUsed : Nat := 21
def theMethod : MethodId := ⟨1, 1⟩
def args0 : Array Value := #[.int 5]
def aboutOver (below : List Frame) : State where
  vm := { classes := classes, interned := interned.toArray }
  heap := heap
  slotsUsed := slotsUsed
  threads := #[{ frames := .invoking theMethod args0 :: below }]
def below0 : List Frame := [.native { method := ⟨0, 0⟩, args := #[] }]
def about1 : State := aboutOver below0
def p0 : Program := .bare "" "" ""
def e0 : Env := launch0.env 0 0 0
theorem w_frames : about1.frames = Frame.invoking theMethod args0 :: below0 := rfl
set_option maxRecDepth 65536 in
theorem w_args : argsFit about1.vm theMethod args0 = true := by decide +kernel
set_option maxRecDepth 65536 in
theorem w_heap : heapFits about1 = true := by decide +kernel
set_option maxRecDepth 65536 in
theorem w_runnable : about1.curStatus? = some .runnable := by decide +kernel
set_option maxRecDepth 65536 in
theorem w_alone : about1.alone = true := by decide +kernel
set_option maxRecDepth 65536 in
theorem w_named : about1.methodNamed? x = some theMethod := by decide +kernel
set_option maxRecDepth 65536 in
theorem w_hears : about1.hears theMethod below0 = true := by decide +kernel
set_option maxRecDepth 65536 in
theorem w_ripe : about1.ripe theMethod args0 below0 = true := by decide +kernel
theorem w_running : about1.status = .running := rfl
set_option maxRecDepth 65536 in
theorem w_room : about1.hasRoom e0.platform room_1 = true :=
  launch0.hasRoom_least _ room_1 (by decide +kernel) (by decide +kernel) (by decide +kernel) (by decide +kernel) (by decide +kernel) (by decide +kernel)
theorem allAtoms_all (ts : List Jvm.Cond) (a : Array Jvm.Value) (st : Jvm.State) : (allAtoms ts).before a st = ts.all (fun c => c.before a st) := by
  induction ts with
  | nil => rfl
  | cons c t ih =>
    show (Jvm.Cond.and c (allAtoms t)).before a st = _
    rw [Jvm.Cond.before_and, ih, List.all_cons]
def words1 : List Jvm.Cond := Jvm.Cond.code x code maxLocals ret :: tables_1
/-- a 'code' word, met by the world's own term for the bytes: nothing is compared byte by byte -/
theorem code_word {y : MethodName} {bytes : ByteArray} {mx : Nat} {rt : Option FieldType} {a : Array Value} {s : State} {m : MethodId} {meth : Method} {c : Code} (h1 : s.methodNamed? y = some m) (h2 : s.vm.method? m = some meth) (h3 : meth.code = some c) (h4 : c.code = bytes)
    (h5 : (c.maxLocals == mx && c.exceptionTable.isEmpty && decide (c.maxStack ≤ mostOperands) && decide (meth.sig.returnType = rt) && !meth.locks && decide (parseMethodDescriptor y.desc = some meth.sig)) = true) : (Jvm.Cond.code y bytes mx rt).before a s = true := by
  simp only [Bool.and_eq_true, beq_iff_eq, Bool.not_eq_true', decide_eq_true_eq] at h5
  obtain ⟨⟨⟨⟨⟨g1, g2⟩, g3⟩, g4⟩, g5⟩, g6⟩ := h5
  simp [Cond.before, Cond.holds, Cond.value, h1, h2, h3, h4, g1, g2, g3, g4, g5, g6]
def isCode : Jvm.Cond → Bool
  | .code _ _ _ _ => true
  | _ => false
theorem all_split {L : List Jvm.Cond} {P : Jvm.Cond → Bool} (h1 : L.all (fun c => isCode c || P c) = true) (h2 : ∀ c ∈ L.filter isCode, P c = true) : L.all P = true := by
  refine List.all_eq_true.mpr fun c hc => ?_
  have h := List.all_eq_true.mp h1 c hc
  rcases Bool.eq_false_or_eq_true (isCode c) with hi | hi
  · exact h2 c (List.mem_filter.mpr ⟨hc, hi⟩)
  · simpa [hi] using h
set_option maxRecDepth 65536 in
theorem w_c0 : (Jvm.Cond.code x code maxLocals ret).before args0 about1 = true := code_word (m := ⟨1, 1⟩) (meth := k1m1) (c := k1c1) (by decide +kernel) rfl rfl rfl (by decide +kernel)
set_option maxRecDepth 65536 in
theorem w_c1 : (Jvm.Cond.code ({ cls := "com/example/polite_ddl/politeddl/sql/Reindex$Target", name := "manyTables", desc := "()Z" } : Jvm.MethodName) prog_121_method_4_code (1 : Nat) (Option.some Jvm.ClassFile.FieldType.boolean)).before args0 about1 = true := code_word (m := ⟨6, 0⟩) (meth := k6m0) (c := k6c0) (by decide +kernel) rfl rfl rfl (by decide +kernel)
def codes1 : List Jvm.Cond := [Jvm.Cond.code x code maxLocals ret, Jvm.Cond.code ({ cls := "com/example/polite_ddl/politeddl/sql/Reindex$Target", name := "manyTables", desc := "()Z" } : Jvm.MethodName) prog_121_method_4_code (1 : Nat) (Option.some Jvm.ClassFile.FieldType.boolean)]
set_option maxRecDepth 65536 in
theorem codes_eq : words1.filter isCode = codes1 := rfl
theorem w_codes : ∀ c ∈ words1.filter isCode, c.before args0 about1 = true := by
  rw [codes_eq]
  intro c hc
  simp only [codes1, List.mem_cons, List.not_mem_nil, or_false] at hc
  rcases hc with rfl | rfl
  · exact w_c0
  · exact w_c1
set_option maxRecDepth 65536 in
theorem w_t1 : words1.all (fun c => isCode c || c.before args0 about1) = true := by decide +kernel
theorem w_tables : (allAtoms (Jvm.Cond.code x code maxLocals ret :: tables_1)).before args0 about1 = true := by
  rw [allAtoms_all]
  show words1.all (fun c => c.before args0 about1) = true
  refine all_split ?_ w_codes
  rw [w_t1]
set_option maxRecDepth 65536 in
theorem w_case : (Jvm.Cond.and given_1 narrow_1).before args0 about1 = true := by decide +kernel
theorem w_applies : (headSpec (Jvm.Cond.code x code maxLocals ret :: tables_1) room_1).applies x e0.platform about1 = true :=
  (Spec.applies_iff w_frames).mpr ⟨w_running, w_runnable, w_alone, w_named, w_hears, w_ripe, w_room, w_tables⟩
theorem atStart : AtStart classFile x code maxLocals ret World_1 tables_1 room_1 Calls_1 rest_1 Pre_1 launch0 p0 e0 about1 theMethod args0 below0 :=
  ⟨lists_1, trivial, launch0.admits_env _ _ _, launch0.least_env, fairChoices_fair.cas, fairChoices_fair.clock, w_frames, w_args, w_heap, w_applies, trivial, trivial, w_case⟩
end start1
theorem witness_1 : WitnessClaimed_1 := ⟨start1.p0, start1.e0, start1.about1, start1.theMethod, start1.args0, start1.below0, start1.atStart⟩
end Jvm.Pilot.@@N@@
