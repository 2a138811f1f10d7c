import JvmDerived
import JvmDerived.Pilot.@@N@@Statement
import JvmDerived.Pilot.@@N@@Code
set_option linter.unusedVariables false
set_option linter.unusedSimpArgs false

namespace Jvm.Pilot.@@N@@
open Jvm Jvm.ClassFile Sem Op Lib Jvm.Free Jvm.Stand Jvm.LawKit Jvm.RoadKit Bundle Jvm.Pilot.@@N@@.Jvm.D
/-- the run from A comes to a state of which P holds -/
def own_Go (tb : Tables) (e : Env) (below : List Frame) (P : State → Prop) (A : State) : Prop := ∃ U, Steps tb e below A U ∧ P U
theorem own_go {tb : Tables} {e : Env} {below : List Frame} {P : State → Prop} {A B : State} (h : ∀ t, Steps tb e below B t → Steps tb e below A t) (k : own_Go tb e below P B) : own_Go tb e below P A := by
  obtain ⟨U, h1, h2⟩ := k; exact ⟨U, h U h1, h2⟩
theorem own_goT {tb : Tables} {e : Env} {below : List Frame} {P : State → Prop} {A B : State} (h : Steps tb e below A B) (k : own_Go tb e below P B) : own_Go tb e below P A := by
  obtain ⟨U, h1, h2⟩ := k; exact ⟨U, h.trans h1, h2⟩
/-- the body's end: it returned, and Q says of what -/
def own_End (s : State) (below : List Frame) (Q : Option Value → Heap → List Loc → Prop) (cells slots : Nat) (t : State) : Prop := ∃ o, t.status = .running ∧ Ended t below o ∧ ∃ v L, o = .returned v ∧ Q v t.heap L ∧ FrameEnd s o t L cells slots
theorem own_body {tb : Tables} {e : Env} {below : List Frame} {s A : State} {Q : Option Value → Heap → List Loc → Prop} {cells slots : Nat} (k : own_Go tb e below (own_End s below Q cells slots) A) :
    ∃ s₂ o, Steps tb e below A s₂ ∧ s₂.status = .running ∧ Ended s₂ below o ∧ ∃ v L, o = .returned v ∧ Q v s₂.heap L ∧ FrameEnd s o s₂ L cells slots := by
  obtain ⟨U, h1, o, h2, h3, h4⟩ := k; exact ⟨U, o, h1, h2, h3, h4⟩
theorem own_ret {p : Program} {l : Launch} {e : Env} {R : Room} {s : State} {m : MethodId} {args : Array Value} {below : List Frame} {meth : Method} {c : Code} {T A : State} {locs : List Loc} {cells slots : Nat} {Q : Option Value → Heap → List Loc → Prop} {cs ss : Nat}
    (X : Stand p l e R s m args below meth c T locs cells slots) (hlk : meth.locks = false) {v : Option Value} (hv : meth.sig.returnType = none → v = none)
    (hst : ∀ fs : List Frame, (∀ (f : JFrame) (acts : List Action), f.method = m → f.locked = none → f.entered = [] → (doReturn e (T.setTop f) acts v).1 = T.setFrames fs) → Steps p.tables e below A (T.setFrames fs))
    (hQ : Q v T.heap locs) (hc : cells ≤ cs) (hs : slots ≤ ss) : own_Go p.tables e below (own_End s below Q cs ss) A := by
  obtain ⟨fs, hr, hrun, hended, hW, hsame⟩ := X.leave (v := v) hv hlk
  exact ⟨_, hst fs hr, _, hrun, hended, _, _, rfl, hQ, ⟨_, rfl⟩, hW, hsame.mono hc hs⟩
theorem own_ef (m : MethodId) (as : Array Value) (n : Nat) (Ls : Array Slot) (h : argsToLocals as n = Ls) : entryFrame m as n = mkF m 0 Ls [] := by rw [← h]; rfl
/-- a body's contract in this family -/
abbrev own_Met (l : Launch) (Z : State) (ws : List Jvm.Cond) (y : MethodName) (bytes : ByteArray) (maxL : Nat) (ret : Option FieldType) (rm : Room) (as : Array Value) (h0 : Heap) (Q : Option Value → Heap → List Loc → Prop) : Prop :=
  MetFree l y (head1 (Jvm.Cond.code y bytes maxL ret :: ws) rm) (fun a U => a = as ∧ Z.Warmed39 U.vm ∧ U.heap = h0) (fun _ _ _ _ _ => True) (fun _ U o U' => ∃ v L, o = .returned v ∧ Q v U'.heap L ∧ FrameEnd U o U' L rm.cells rm.slots)
theorem own_sta_keep {Z : State} {h h' : Heap} {C n d : String} {v : Value} {ws : List Addr} (F : Sta Z h C n d v) (K : Keep h h' ws) (q : ∀ a ∈ ws, ∃ C', Exa Z h a C') : Sta Z h' C n d v := by
  obtain ⟨cf, i, k, f, st, cell, h1, h2, h3, h4, h5, h6, h7⟩ := F
  refine ⟨cf, i, k, f, st, cell, h1, h2, h3, h4, K.2.1 st cell h5 fun hm => ?_, h6, h7⟩
  obtain ⟨C', cell', k', e1, -, -, e4, -⟩ := q st hm
  cases h5.symm.trans e1
  rw [e4] at h6; cases h6
theorem own_back {p : Program} {l : Launch} {e : Env} {R : Room} {s : State} {args : Array Value} {below : List Frame} {Z : State} {a0 : Array Value} {h : Heap} {y : MethodName} {bytes : ByteArray} {maxL : Nat} {ret : Option FieldType} {rm : Room} {len W : Nat} {as' : Array Value} {Q : Option Value → Heap → List Loc → Prop}
    (hM : own_Met l Z [] y bytes maxL ret rm as' h Q) (hZ : Z.Warmed39 s.vm) (wc : (Cond.code y bytes maxL ret).before a0 Z = true) (wz : (Cond.initialized y.cls).before a0 Z = true) (hf : rm.frames + 1 ≤ R.frames) (hl : W + (maxL + 11) + rm.locals ≤ R.locals) :
    Back l R p e below s args y len W (fun A a => a = as' ∧ A.U.heap = h ∧ A.cells + rm.cells ≤ R.cells ∧ A.slots + rm.slots ≤ R.slots)
      (fun A _ v B => ∃ L, Q v B.U.heap L ∧ B.locs = A.locs ++ L ∧ B.cells = A.cells + rm.cells ∧ B.slots = A.slots + rm.slots) :=
  backOf (Q := Q) hM hZ wc wz hf hl
theorem own_hp {T : State} {h : Heap} {a : Addr} {cl : Cell} (eT : T.heap = h) (h1 : h[a]? = some cl) : T.heap[a]? = some cl := by rw [eT]; exact h1
def own_sl : List Value → List Slot
  | [] => []
  | v :: r => if v.category = 2 then .val v :: .second :: own_sl r else .val v :: own_sl r
def own_pu (acc : Array Slot) (v : Value) : Array Slot := if v.category = 2 then (acc.push (.val v)).push .second else acc.push (.val v)
theorem own_al1 (l : List Value) (a : Array Slot) : (l.foldl own_pu a).toList = a.toList ++ own_sl l := by
  induction l generalizing a with
  | nil => simp [own_sl]
  | cons v r ih =>
    rw [List.foldl_cons, ih]
    by_cases h : v.category = 2 <;> simp [own_sl, own_pu, h]
theorem own_al (l : List Value) (n : Nat) (L : List Slot) (h : own_sl l ++ List.replicate (n - (own_sl l).length) .unset = L) : argsToLocals l.toArray n = L.toArray := by
  have q : argsToLocals l.toArray n = l.foldl own_pu #[] ++ Array.replicate (n - (l.foldl own_pu #[]).size) .unset := by
    rw [← List.foldl_toArray]; rfl
  have k := own_al1 l #[]
  rw [q, ← h]
  apply Array.toList_inj.mp
  rw [Array.toList_append, k, ← Array.length_toList, k]; simp
theorem own_eqi {args : Array Value} {s : State} {t : Term} {k : Int32} (h : (Jvm.Cond.eq t (.int k)).value args s none s [] = some true) : t.eval args s none [] s = some (.int k) := by
  simp only [Cond.value, Term.eval] at h
  cases ht : t.eval args s none [] s with
  | none => simp [ht] at h
  | some x => cases x <;> simp [ht] at h ⊢; exact h
theorem own_eqr {args : Array Value} {s : State} {t u : Term} {a : Addr} (h : (Jvm.Cond.eq t u).value args s none s [] = some true) (hu : u.eval args s none [] s = some (.ref a)) : t.eval args s none [] s = some (.ref a) := by
  simp only [Cond.value] at h
  cases ht : t.eval args s none [] s with
  | none => simp [ht] at h
  | some x => cases x <;> simp [ht, hu] at h ⊢; exact h
theorem own_fld {args : Array Value} {s : State} {t : Term} {a : Addr} {C n d : String} {v : Value} (ht : t.eval args s none [] s = some (.ref a)) (h : (Term.field t C n d).eval args s none [] s = some v) : Fld s s.heap a C n d v :=
  Fld.start (by rw [fld_at ht] at h; exact h)
theorem own_len {args : Array Value} {s : State} {t : Term} {a : Addr} {cl : Cell} {ty : FieldType} {k : Int32} (A : Arr s s.heap a cl ty) (ht : t.eval args s none [] s = some (.ref a)) (h : (Term.length t).eval args s none [] s = some (.int k)) : cl.slots.size < 2 ^ 31 ∧ cl.slots.size.toInt32 = k := by
  have ha : s.arrayAt? a = some cl := A.fin (Vm.Alike.refl _)
  by_cases hl : cl.slots.size < 2 ^ 31
  · rw [len_f ht ha hl] at h; exact ⟨hl, by injection h with h; injection h⟩
  · simp [Term.eval, ht, ha, hl] at h
theorem own_elem {args : Array Value} {s : State} {t : Term} {a : Addr} {cl : Cell} {ty : FieldType} {j : Int32} {v : Value} (ht : t.eval args s none [] s = some (.ref a)) (A : Arr s s.heap a cl ty) (h : (Term.elem t (.int j)).eval args s none [] s = some v) : cl.slots[j.toNatClampNeg]? = some v :=
  (elem_in h ht (Term.int_eval j) A.1).2
theorem own_getR {p : Program} {l : Launch} {e : Env} {R : Room} {s : State} {m : MethodId} {args : Array Value} {below : List Frame} {meth : Method} {c : Code} {T : State} {locs : List Loc} {cells slots : Nat} {Z : State} {a0 : Array Value} {h : Heap}
    (X : Stand p l e R s m args below meth c T locs cells slots) (hx : p.tables.exec = Jvm.exec) (hZ : Z.Warmed39 s.vm) {own C n d : String} {index : Nat} (hown : s.vm.findClass own = some m.cls) (w : (Cond.fieldRef own index C n d).before a0 Z = true)
    (eT : T.heap = h) {a : Addr} {v : Value} (F : Fld Z h a C n d v) {g : JFrame} (hg : g.method = m) {rest : List Value} (hs : g.stack = .ref a :: rest) (hd : decode c.code g.pc = .ok (.getfield index, 3)) :
    ∀ target, Steps p.tables e below (T.setTop { g with pc := g.pc + 3, stack := v :: rest }) target → Steps p.tables e below (T.setTop g) target := by
  obtain ⟨cell, cf, k, i, f, h1, h2, h3, h4, h5, h6, h7⟩ := F
  have hT : Z.Warmed39 T.vm := wtrans hZ X.warmed
  have w2 : (Cond.fieldRef own index C n d).before a0 (Z.setVm T.vm) = true := Cond.fieldRef_warmed39 hT w
  have hcur : (Z.setVm T.vm).vm.findClass own = some m.cls := by
    show T.vm.findClass own = _
    rw [X.warmed.alike.findClass]; exact hown
  obtain ⟨c1, k1, i1, f1, q1, q2⟩ := Cond.fieldRef_spec hcur w2
  obtain ⟨k', q3, -⟩ := State.fieldFound?_setVm (s := Z) hT.alike h2
  cases q1.symm.trans q3
  have q4 : T.vm.fieldReady m.cls index cf f := q2
  have hc : T.heap[a]? = some cell := by rw [eT]; exact h1
  intro target hrest
  subst hg
  jvm_step X.here [hx, hd, getfield.wp_ready (e := e) (s := T) (f := g) X.here.top q4 h3 hs hc h4 h7]
  exact hrest

theorem own_n2 (n : Int32) : 2 + n - 1 - 1 = n := by
  apply Int32.toInt_inj.mp
  have h1 := c_iadd 2 n; have h2 := c_isub (2 + n) 1; have h3 := c_isub (2 + n - 1) 1; have r1 := rng32 n; have r2 := rng32 (2 + n - 1 - 1)
  have e1 : (1 : Int32).toInt = 1 := rfl
  have e2 : (2 : Int32).toInt = 2 := rfl
  rw [e1] at h2 h3; rw [e2] at h1; omega
theorem own_n3 (n : Int32) : 3 + n - 2 - 1 = n := by
  apply Int32.toInt_inj.mp
  have h1 := c_iadd 3 n; have h2 := c_isub (3 + n) 2; have h3 := c_isub (3 + n - 2) 1; have r1 := rng32 n; have r2 := rng32 (3 + n - 2 - 1)
  have e1 : (1 : Int32).toInt = 1 := rfl
  have e2 : (2 : Int32).toInt = 2 := rfl
  have e3 : (3 : Int32).toInt = 3 := rfl
  rw [e1] at h3; rw [e2] at h2; rw [e3] at h1; omega
theorem own_d1_0 : decode prog_8_method_8_code 0 = .ok (.aload_n 0, 1) := by decide +kernel
theorem own_d1_1 : decode prog_8_method_8_code 1 = .ok (.getfield 92, 3) := by decide +kernel
theorem own_d1_4 : decode prog_8_method_8_code 4 = .ok (.ifCond .eq 15, 3) := by decide +kernel
theorem own_d1_7 : decode prog_8_method_8_code 7 = .ok (.iload_n 1, 1) := by decide +kernel
theorem own_d1_8 : decode prog_8_method_8_code 8 = .ok (.aload_n 0, 1) := by decide +kernel
theorem own_d1_9 : decode prog_8_method_8_code 9 = .ok (.getfield 13, 3) := by decide +kernel
theorem own_d1_12 : decode prog_8_method_8_code 12 = .ok (.arraylength, 1) := by decide +kernel
theorem own_d1_13 : decode prog_8_method_8_code 13 = .ok (.isub, 1) := by decide +kernel
theorem own_d1_14 : decode prog_8_method_8_code 14 = .ok (.iconst 1, 1) := by decide +kernel
theorem own_d1_15 : decode prog_8_method_8_code 15 = .ok (.isub, 1) := by decide +kernel
theorem own_d1_16 : decode prog_8_method_8_code 16 = .ok (.goto 4, 3) := by decide +kernel
theorem own_d1_19 : decode prog_8_method_8_code 19 = .ok (.iconst 0, 1) := by decide +kernel
theorem own_d1_20 : decode prog_8_method_8_code 20 = .ok (.ireturn, 1) := by decide +kernel
theorem own_pn0 : plainName "com/example/portcall/portcall/codec/Request" = true := by first | (simp [plainName, overriddenIn]; done) | decide +kernel
set_option maxRecDepth 65536 in
set_option maxHeartbeats 40000000 in
theorem own_rmA (l : Launch) (Z : State) (a0 : Array Value) (hw : ∀ d ∈ tables_1, d.before a0 Z = true) (a1 : Addr) (p2 : Int32) (h0 : Heap) (n0 : Nat) (Z0 : n0 ≤ h0.size) (F_named : Fld Z h0 a1 "com/example/portcall/portcall/codec/Request$Kind" "named" "Z" (.int 0)) :
    own_Met l Z [] (⟨"com/example/portcall/portcall/codec/Request", "nameLength", "(Lcom/example/portcall/portcall/codec/Request$Kind;I)I"⟩ : MethodName) prog_8_method_8_code 2 (some .int) ({ frames := 0, cells := 0, slots := 0, locals := 0 } : Room) #[(.ref a1), (.int p2)] h0 (fun v h L => v = some (.int 0) ∧ Fr n0 L ∧ h = h0) := by
  refine MetFree.of_bodySF (plainFor_of_name own_pn0) hisR ?_
  intro p e s m args below meth c s₁ Bd hml0 hP hK
  obtain ⟨rfl, hZ, hh⟩ := hP
  have hx := Bd.exec
  have hby := Bd.bytes
  have hml : c.maxLocals = 2 := hml0
  have hown : s.vm.findClass "com/example/portcall/portcall/codec/Request" = some m.cls := findClass_of_methodNamed Bd.named
  have hnm := (name_of_methodNamed Bd.named Bd.method).1
  have hlk : meth.locks = false := Bd.notSynchronized
  have X0 : Stand p l e ({ frames := 0, cells := 0, slots := 0, locals := 0 } : Room) s m #[(.ref a1), (.int p2)] below meth c s₁ [] 0 0 := Stand.of_body Bd
  have e0 : s₁.heap = h0 := by rw [← hh, Bd.state]; rfl
  have N0 := Fr.nil n0
  refine own_body (Q := fun v h L => v = some (.int 0) ∧ Fr n0 L ∧ h = h0) ?_
  refine own_go (fun t k => castTop (own_ef m #[(.ref a1), (.int p2)] 2 #[.val (.ref a1), .val (.int p2)] (own_al [(.ref a1), (.int p2)] 2 [.val (.ref a1), .val (.int p2)] rfl)) k) ?_
  show own_Go _ _ _ _ (s₁.setTop (mkF m 0 #[.val (.ref a1), .val (.int p2)] []))
  refine own_go (fun _ k => XS.aloadN X0.here hx rfl (hb hby own_d1_0) rfl rfl k) ?_
  show own_Go _ _ _ _ (s₁.setTop (mkF m 1 #[.val (.ref a1), .val (.int p2)] [(.ref a1)]))
  refine own_go (own_getR X0 hx hZ hown (hw _ (List.mem_of_getElem? (i := 7) rfl)) e0 F_named (g := (mkF m 1 #[.val (.ref a1), .val (.int p2)] [(.ref a1)])) rfl rfl (hb hby own_d1_1)) ?_
  show own_Go _ _ _ _ (s₁.setTop (mkF m 4 #[.val (.ref a1), .val (.int p2)] [(.int (0 : Int32))]))
  refine own_go (fun _ k => XS.ifYes X0.here hx rfl (pc0 := 4) (pc' := 19) rfl (hb hby own_d1_4) rfl ((if0 _ _).trans (teq (by decide)).1) (by decide) (by decide) k) ?_
  show own_Go _ _ _ _ (s₁.setTop (mkF m 19 #[.val (.ref a1), .val (.int p2)] []))
  refine own_go (fun _ k => XS.iconst X0.here hx rfl (hb hby own_d1_19) k) ?_
  show own_Go _ _ _ _ (s₁.setTop (mkF m 20 #[.val (.ref a1), .val (.int p2)] [(.int (0 : Int32))]))
  refine own_ret X0 hlk (v := some (.int (0 : Int32))) (fun h => by rw [Bd.returns] at h; cases h) (fun fs hr => retOut X0 hx Bd.returns rfl (Or.inl ⟨rfl, Or.inl rfl, _, rfl⟩) (hb hby own_d1_20) hr) ?_ (by decide) (by decide)
  try rw [e0]
  exact ⟨rfl, N0, rfl⟩
set_option maxRecDepth 65536 in
set_option maxHeartbeats 40000000 in
theorem own_rmB (l : Launch) (Z : State) (a0 : Array Value) (hw : ∀ d ∈ tables_1, d.before a0 Z = true) (a1 : Addr) (p2 : Int32) (a2 : Addr) (cl : Cell) (z : Int32) (h0 : Heap) (n0 : Nat) (Z0 : n0 ≤ h0.size) (F_named : Fld Z h0 a1 "com/example/portcall/portcall/codec/Request$Kind" "named" "Z" (.int 1)) (F_prefix : Fld Z h0 a1 "com/example/portcall/portcall/codec/Request$Kind" "prefix" "[B" (.ref a2)) (Ar : Arr Z h0 a2 cl .byte) (ln : cl.slots.size.toInt32 = z) :
    own_Met l Z [] (⟨"com/example/portcall/portcall/codec/Request", "nameLength", "(Lcom/example/portcall/portcall/codec/Request$Kind;I)I"⟩ : MethodName) prog_8_method_8_code 2 (some .int) ({ frames := 0, cells := 0, slots := 0, locals := 0 } : Room) #[(.ref a1), (.int p2)] h0 (fun v h L => v = some (.int (p2 - z - 1)) ∧ Fr n0 L ∧ h = h0) := by
  refine MetFree.of_bodySF (plainFor_of_name own_pn0) hisR ?_
  intro p e s m args below meth c s₁ Bd hml0 hP hK
  obtain ⟨rfl, hZ, hh⟩ := hP
  have hx := Bd.exec
  have hby := Bd.bytes
  have hml : c.maxLocals = 2 := hml0
  have hown : s.vm.findClass "com/example/portcall/portcall/codec/Request" = some m.cls := findClass_of_methodNamed Bd.named
  have hnm := (name_of_methodNamed Bd.named Bd.method).1
  have hlk : meth.locks = false := Bd.notSynchronized
  have X0 : Stand p l e ({ frames := 0, cells := 0, slots := 0, locals := 0 } : Room) s m #[(.ref a1), (.int p2)] below meth c s₁ [] 0 0 := Stand.of_body Bd
  have e0 : s₁.heap = h0 := by rw [← hh, Bd.state]; rfl
  have N0 := Fr.nil n0
  refine own_body (Q := fun v h L => v = some (.int (p2 - z - 1)) ∧ Fr n0 L ∧ h = h0) ?_
  refine own_go (fun t k => castTop (own_ef m #[(.ref a1), (.int p2)] 2 #[.val (.ref a1), .val (.int p2)] (own_al [(.ref a1), (.int p2)] 2 [.val (.ref a1), .val (.int p2)] rfl)) k) ?_
  show own_Go _ _ _ _ (s₁.setTop (mkF m 0 #[.val (.ref a1), .val (.int p2)] []))
  refine own_go (fun _ k => XS.aloadN X0.here hx rfl (hb hby own_d1_0) rfl rfl k) ?_
  show own_Go _ _ _ _ (s₁.setTop (mkF m 1 #[.val (.ref a1), .val (.int p2)] [(.ref a1)]))
  refine own_go (own_getR X0 hx hZ hown (hw _ (List.mem_of_getElem? (i := 7) rfl)) e0 F_named (g := (mkF m 1 #[.val (.ref a1), .val (.int p2)] [(.ref a1)])) rfl rfl (hb hby own_d1_1)) ?_
  show own_Go _ _ _ _ (s₁.setTop (mkF m 4 #[.val (.ref a1), .val (.int p2)] [(.int (1 : Int32))]))
  refine own_go (fun _ k => XS.ifNo X0.here hx rfl (hb hby own_d1_4) rfl ((if0 _ _).trans (feq (by decide)).1) k) ?_
  show own_Go _ _ _ _ (s₁.setTop (mkF m 7 #[.val (.ref a1), .val (.int p2)] []))
  refine own_go (fun _ k => XS.iloadN X0.here hx rfl (hb hby own_d1_7) rfl k) ?_
  show own_Go _ _ _ _ (s₁.setTop (mkF m 8 #[.val (.ref a1), .val (.int p2)] [(.int p2)]))
  refine own_go (fun _ k => XS.aloadN X0.here hx rfl (hb hby own_d1_8) rfl rfl k) ?_
  show own_Go _ _ _ _ (s₁.setTop (mkF m 9 #[.val (.ref a1), .val (.int p2)] [(.ref a1), (.int p2)]))
  refine own_go (own_getR X0 hx hZ hown (hw _ (List.mem_of_getElem? (i := 13) rfl)) e0 F_prefix (g := (mkF m 9 #[.val (.ref a1), .val (.int p2)] [(.ref a1), (.int p2)])) rfl rfl (hb hby own_d1_9)) ?_
  show own_Go _ _ _ _ (s₁.setTop (mkF m 12 #[.val (.ref a1), .val (.int p2)] [(.ref a2), (.int p2)]))
  refine own_go (X0.arraylength hx (own_hp e0 Ar.1) (State.isArrayOf_alike hZ.alike Ar.2.1) (g := (mkF m 12 #[.val (.ref a1), .val (.int p2)] [(.ref a2), (.int p2)])) rfl rfl (hb hby own_d1_12)) ?_
  rw [ln]
  show own_Go _ _ _ _ (s₁.setTop (mkF m 13 #[.val (.ref a1), .val (.int p2)] [(.int z), (.int p2)]))
  refine own_go (fun _ k => XS.isub X0.here hx rfl (hb hby own_d1_13) rfl k) ?_
  show own_Go _ _ _ _ (s₁.setTop (mkF m 14 #[.val (.ref a1), .val (.int p2)] [(.int (p2 - z))]))
  refine own_go (fun _ k => XS.iconst X0.here hx rfl (hb hby own_d1_14) k) ?_
  show own_Go _ _ _ _ (s₁.setTop (mkF m 15 #[.val (.ref a1), .val (.int p2)] [(.int (1 : Int32)), (.int (p2 - z))]))
  refine own_go (fun _ k => XS.isub X0.here hx rfl (hb hby own_d1_15) rfl k) ?_
  show own_Go _ _ _ _ (s₁.setTop (mkF m 16 #[.val (.ref a1), .val (.int p2)] [(.int ((p2 - z) - (1 : Int32)))]))
  refine own_go (fun _ k => XS.goto X0.here hx rfl (pc0 := 16) (pc' := 20) rfl (hb hby own_d1_16) (by decide) (by decide) k) ?_
  show own_Go _ _ _ _ (s₁.setTop (mkF m 20 #[.val (.ref a1), .val (.int p2)] [(.int ((p2 - z) - (1 : Int32)))]))
  refine own_ret X0 hlk (v := some (.int ((p2 - z) - (1 : Int32)))) (fun h => by rw [Bd.returns] at h; cases h) (fun fs hr => retOut X0 hx Bd.returns rfl (Or.inl ⟨rfl, Or.inl rfl, _, rfl⟩) (hb hby own_d1_20) hr) ?_ (by decide) (by decide)
  try rw [e0]
  exact ⟨rfl, N0, rfl⟩
theorem own_pn1 : plainName "com/example/portcall/portcall/codec/RequestNameLengthPinLaw" = true := by first | (simp [plainName, overriddenIn]; done) | decide +kernel
theorem own_pd0 : parseMethodDescriptor "(Lcom/example/portcall/portcall/codec/Request$Kind;I)I" = some ⟨[(.object "com/example/portcall/portcall/codec/Request$Kind"), .int], some .int⟩ := by decide +kernel
set_option maxRecDepth 65536 in
set_option maxHeartbeats 40000000 in
theorem own_rm0 (l : Launch) (Z : State) (a0 : Array Value) (hw : ∀ d ∈ tables_1, d.before a0 Z = true) (p1 : Int32) (p2 : Int32) (p3 : Int32) (a_ALL_INSTANCES_BROADCAST : Addr) (a_ALL_INSTANCES_UNICAST : Addr) (a_ONE_INSTANCE : Addr) (a_ADMIN : Addr) (b_ONE_INSTANCE : Addr) (cl_ONE_INSTANCE : Cell) (b_ADMIN : Addr) (cl_ADMIN : Cell) (h0 : Heap) (n0 : Nat) (Z0 : n0 ≤ h0.size) (S_ALL_INSTANCES_BROADCAST : Sta Z h0 "com/example/portcall/portcall/codec/Request$Kind" "ALL_INSTANCES_BROADCAST" "Lcom/example/portcall/portcall/codec/Request$Kind;" (.ref a_ALL_INSTANCES_BROADCAST)) (S_ALL_INSTANCES_UNICAST : Sta Z h0 "com/example/portcall/portcall/codec/Request$Kind" "ALL_INSTANCES_UNICAST" "Lcom/example/portcall/portcall/codec/Request$Kind;" (.ref a_ALL_INSTANCES_UNICAST)) (S_ONE_INSTANCE : Sta Z h0 "com/example/portcall/portcall/codec/Request$Kind" "ONE_INSTANCE" "Lcom/example/portcall/portcall/codec/Request$Kind;" (.ref a_ONE_INSTANCE)) (S_ADMIN : Sta Z h0 "com/example/portcall/portcall/codec/Request$Kind" "ADMIN" "Lcom/example/portcall/portcall/codec/Request$Kind;" (.ref a_ADMIN)) (F_ALL_INSTANCES_BROADCAST : Fld Z h0 a_ALL_INSTANCES_BROADCAST "com/example/portcall/portcall/codec/Request$Kind" "named" "Z" (.int 0)) (F_ALL_INSTANCES_UNICAST : Fld Z h0 a_ALL_INSTANCES_UNICAST "com/example/portcall/portcall/codec/Request$Kind" "named" "Z" (.int 0)) (F_ONE_INSTANCE : Fld Z h0 a_ONE_INSTANCE "com/example/portcall/portcall/codec/Request$Kind" "named" "Z" (.int 1)) (F_ADMIN : Fld Z h0 a_ADMIN "com/example/portcall/portcall/codec/Request$Kind" "named" "Z" (.int 1)) (P_ONE_INSTANCE : Fld Z h0 a_ONE_INSTANCE "com/example/portcall/portcall/codec/Request$Kind" "prefix" "[B" (.ref b_ONE_INSTANCE)) (Ar_ONE_INSTANCE : Arr Z h0 b_ONE_INSTANCE cl_ONE_INSTANCE .byte) (ln_ONE_INSTANCE : cl_ONE_INSTANCE.slots.size.toInt32 = 1) (P_ADMIN : Fld Z h0 a_ADMIN "com/example/portcall/portcall/codec/Request$Kind" "prefix" "[B" (.ref b_ADMIN)) (Ar_ADMIN : Arr Z h0 b_ADMIN cl_ADMIN .byte) (ln_ADMIN : cl_ADMIN.slots.size.toInt32 = 2) :
    own_Met l Z tables_1 x code maxLocals ret room_1 #[(.int p1), (.int p2), (.int p3)] h0 (fun v h L => v = some (.int 1) ∧ Fr n0 L) := by
  refine MetFree.of_bodySF (plainFor_of_name own_pn1) hisR ?_
  intro p e s m args below meth c s₁ Bd hml0 hP hK
  obtain ⟨rfl, hZ, hh⟩ := hP
  have hx := Bd.exec
  have hby := Bd.bytes
  have hml : c.maxLocals = 5 := hml0
  have hown : s.vm.findClass "com/example/portcall/portcall/codec/RequestNameLengthPinLaw" = some m.cls := findClass_of_methodNamed Bd.named
  have hnm := (name_of_methodNamed Bd.named Bd.method).1
  have hlk : meth.locks = false := Bd.notSynchronized
  have X0 : Stand p l e room_1 s m #[(.int p1), (.int p2), (.int p3)] below meth c s₁ [] 0 0 := Stand.of_body Bd
  have e0 : s₁.heap = h0 := by rw [← hh, Bd.state]; rfl
  have N0 := Fr.nil n0
  refine own_body (Q := fun v h L => v = some (.int 1) ∧ Fr n0 L) ?_
  refine own_go (fun t k => castTop (own_ef m #[(.int p1), (.int p2), (.int p3)] maxLocals #[.val (.int p1), .val (.int p2), .val (.int p3), .unset, .unset] (own_al [(.int p1), (.int p2), (.int p3)] maxLocals [.val (.int p1), .val (.int p2), .val (.int p3), .unset, .unset] rfl)) k) ?_
  show own_Go _ _ _ _ (s₁.setTop (mkF m 0 #[.val (.int p1), .val (.int p2), .val (.int p3), .unset, .unset] []))
  refine own_go (fun _ k => XS.iloadN X0.here hx rfl (hb hby at_0) rfl k) ?_
  show own_Go _ _ _ _ (s₁.setTop (mkF m 1 #[.val (.int p1), .val (.int p2), .val (.int p3), .unset, .unset] [(.int p1)]))
  refine own_go (fun _ k => XS.iconst X0.here hx rfl (hb hby at_1) k) ?_
  show own_Go _ _ _ _ (s₁.setTop (mkF m 2 #[.val (.int p1), .val (.int p2), .val (.int p3), .unset, .unset] [(.int (3 : Int32)), (.int p1)]))
  refine own_go (fun _ k => XS.iand X0.here hx rfl (hb hby at_2) rfl k) ?_
  show own_Go _ _ _ _ (s₁.setTop (mkF m 3 #[.val (.int p1), .val (.int p2), .val (.int p3), .unset, .unset] [(.int (p1 &&& (3 : Int32)))]))
  refine own_go (fun _ k => XS.istoreN X0.here hx rfl (hb hby at_3) rfl (l' := #[.val (.int p1), .val (.int p2), .val (.int p3), .val (.int (p1 &&& (3 : Int32))), .unset]) rfl k) ?_
  show own_Go _ _ _ _ (s₁.setTop (mkF m 4 #[.val (.int p1), .val (.int p2), .val (.int p3), .val (.int (p1 &&& (3 : Int32))), .unset] []))
  refine own_go (fun _ k => XS.iloadN X0.here hx rfl (hb hby at_4) rfl k) ?_
  show own_Go _ _ _ _ (s₁.setTop (mkF m 5 #[.val (.int p1), .val (.int p2), .val (.int p3), .val (.int (p1 &&& (3 : Int32))), .unset] [(.int p2)]))
  refine own_go (fun _ k => XS.bipush X0.here hx rfl (hb hby at_5) k) ?_
  show own_Go _ _ _ _ (s₁.setTop (mkF m 7 #[.val (.int p1), .val (.int p2), .val (.int p3), .val (.int (p1 &&& (3 : Int32))), .unset] [(.int (31 : Int32)), (.int p2)]))
  refine own_go (fun _ k => XS.iand X0.here hx rfl (hb hby at_7) rfl k) ?_
  show own_Go _ _ _ _ (s₁.setTop (mkF m 8 #[.val (.int p1), .val (.int p2), .val (.int p3), .val (.int (p1 &&& (3 : Int32))), .unset] [(.int (p2 &&& (31 : Int32)))]))
  refine own_go (fun _ k => XS.iconst X0.here hx rfl (hb hby at_8) k) ?_
  show own_Go _ _ _ _ (s₁.setTop (mkF m 9 #[.val (.int p1), .val (.int p2), .val (.int p3), .val (.int (p1 &&& (3 : Int32))), .unset] [(.int (1 : Int32)), (.int (p2 &&& (31 : Int32)))]))
  refine own_go (fun _ k => XS.iadd X0.here hx rfl (hb hby at_9) rfl k) ?_
  show own_Go _ _ _ _ (s₁.setTop (mkF m 10 #[.val (.int p1), .val (.int p2), .val (.int p3), .val (.int (p1 &&& (3 : Int32))), .unset] [(.int ((p2 &&& (31 : Int32)) + (1 : Int32)))]))
  refine own_go (fun _ k => XS.istore X0.here hx rfl (hb hby at_10) rfl (l' := #[.val (.int p1), .val (.int p2), .val (.int p3), .val (.int (p1 &&& (3 : Int32))), .val (.int ((p2 &&& (31 : Int32)) + (1 : Int32)))]) rfl k) ?_
  show own_Go _ _ _ _ (s₁.setTop (mkF m 12 #[.val (.int p1), .val (.int p2), .val (.int p3), .val (.int (p1 &&& (3 : Int32))), .val (.int ((p2 &&& (31 : Int32)) + (1 : Int32)))] []))
  refine own_go (fun _ k => XS.iloadN X0.here hx rfl (hb hby at_12) rfl k) ?_
  show own_Go _ _ _ _ (s₁.setTop (mkF m 13 #[.val (.int p1), .val (.int p2), .val (.int p3), .val (.int (p1 &&& (3 : Int32))), .val (.int ((p2 &&& (31 : Int32)) + (1 : Int32)))] [(.int (p1 &&& (3 : Int32)))]))
  by_cases hc13 : (p1 &&& (3 : Int32)) = (0 : Int32)
  · have _h := hc13
    refine own_go (fun _ k => XS.ifNo X0.here hx rfl (hb hby at_13) rfl ((if0 _ _).trans (teq hc13).2) k) ?_
    show own_Go _ _ _ _ (s₁.setTop (mkF m 16 #[.val (.int p1), .val (.int p2), .val (.int p3), .val (.int (p1 &&& (3 : Int32))), .val (.int ((p2 &&& (31 : Int32)) + (1 : Int32)))] []))
    obtain ⟨T1, X1, e1, st1⟩ := getS2 X0 hx hZ hown (host := "") (Or.inl (hw _ (List.mem_of_getElem? (i := 0) rfl))) Via.refl e0 S_ALL_INSTANCES_BROADCAST (g := (mkF m 16 #[.val (.int p1), .val (.int p2), .val (.int p3), .val (.int (p1 &&& (3 : Int32))), .val (.int ((p2 &&& (31 : Int32)) + (1 : Int32)))] [])) rfl (hb hby at_16)
    refine own_go st1 ?_
    show own_Go _ _ _ _ (T1.setTop (mkF m 19 #[.val (.int p1), .val (.int p2), .val (.int p3), .val (.int (p1 &&& (3 : Int32))), .val (.int ((p2 &&& (31 : Int32)) + (1 : Int32)))] [(.ref a_ALL_INSTANCES_BROADCAST)]))
    refine own_go (fun _ k => XS.iloadN X1.here hx rfl (hb hby at_19) rfl k) ?_
    show own_Go _ _ _ _ (T1.setTop (mkF m 20 #[.val (.int p1), .val (.int p2), .val (.int p3), .val (.int (p1 &&& (3 : Int32))), .val (.int ((p2 &&& (31 : Int32)) + (1 : Int32)))] [(.int p3), (.ref a_ALL_INSTANCES_BROADCAST)]))
    obtain ⟨_, _, ⟨T2, L2, k2, n2⟩, -, X2, ⟨Lc2, hQ2, l2, y2, z2⟩, st2⟩ := Jvm.LawKit.callS X1 hx (y := (⟨"com/example/portcall/portcall/codec/Request", "nameLength", "(Lcom/example/portcall/portcall/codec/Request$Kind;I)I"⟩ : MethodName)) hown (mvT hZ (hw _ (List.mem_of_getElem? (i := 3) rfl))) (mvT hZ (hw _ (List.mem_of_getElem? (i := 4) rfl))) (mvT hZ (hw _ (List.mem_of_getElem? (i := 5) rfl))) (mvT hZ (hw _ (List.mem_of_getElem? (i := 6) rfl))) (by decide) (own_back (W := 0) (own_rmA l Z a0 hw a_ALL_INSTANCES_BROADCAST p3 h0 n0 Z0 F_ALL_INSTANCES_BROADCAST) hZ (hw _ (List.mem_of_getElem? (i := 6) rfl)) (hw _ (List.mem_of_getElem? (i := 5) rfl)) (by decide) (by decide)) (g := (mkF m 20 #[.val (.int p1), .val (.int p2), .val (.int p3), .val (.int (p1 &&& (3 : Int32))), .val (.int ((p2 &&& (31 : Int32)) + (1 : Int32)))] [(.int p3), (.ref a_ALL_INSTANCES_BROADCAST)])) rfl (by rw [hml]; rfl) (argsL := [(.ref a_ALL_INSTANCES_BROADCAST), (.int p3)]) (rest := []) (lenOf own_pd0 rfl) rfl (by show 2 * 0 + _ ≤ _; exact Nat.le_of_eq rfl) (hb hby at_20) (fun _ _ => ⟨rfl, e1, (by decide : 0 + 0 ≤ _), (by decide : 0 + 0 ≤ _)⟩)
    dsimp only [Pt.U, Pt.locs, Pt.cells, Pt.slots] at X2 l2 y2 z2 st2 hQ2
    subst l2 y2 z2
    obtain ⟨rfl, Nq2, eq2⟩ := hQ2
    have NF2 := Fr.app N0 Nq2
    refine own_go st2 ?_
    show own_Go _ _ _ _ (T2.setTop (mkF m 23 #[.val (.int p1), .val (.int p2), .val (.int p3), .val (.int (p1 &&& (3 : Int32))), .val (.int ((p2 &&& (31 : Int32)) + (1 : Int32)))] [(.int (0 : Int32))]))
    refine own_go (fun _ k => XS.ifNo X2.here hx rfl (hb hby at_23) rfl ((if0 _ _).trans (teq (by decide)).2) k) ?_
    show own_Go _ _ _ _ (T2.setTop (mkF m 26 #[.val (.int p1), .val (.int p2), .val (.int p3), .val (.int (p1 &&& (3 : Int32))), .val (.int ((p2 &&& (31 : Int32)) + (1 : Int32)))] []))
    refine own_go (fun _ k => XS.iconst X2.here hx rfl (hb hby at_26) k) ?_
    show own_Go _ _ _ _ (T2.setTop (mkF m 27 #[.val (.int p1), .val (.int p2), .val (.int p3), .val (.int (p1 &&& (3 : Int32))), .val (.int ((p2 &&& (31 : Int32)) + (1 : Int32)))] [(.int (1 : Int32))]))
    refine own_go (fun _ k => XS.goto X2.here hx rfl (pc0 := 27) (pc' := 31) rfl (hb hby at_27) (by decide) (by decide) k) ?_
    show own_Go _ _ _ _ (T2.setTop (mkF m 31 #[.val (.int p1), .val (.int p2), .val (.int p3), .val (.int (p1 &&& (3 : Int32))), .val (.int ((p2 &&& (31 : Int32)) + (1 : Int32)))] [(.int (1 : Int32))]))
    refine own_ret X2 hlk (v := some (.int (1 : Int32))) (fun h => by rw [Bd.returns] at h; cases h) (fun fs hr => retN X2 hx (t := .boolean) Bd.returns (by simp) (hb hby at_31) hr) ?_ (by decide) (by decide)
    try rw [eq2]
    exact ⟨rfl, NF2⟩
  · have _h := hc13
    refine own_go (fun _ k => XS.ifYes X0.here hx rfl (pc0 := 13) (pc' := 32) rfl (hb hby at_13) rfl ((if0 _ _).trans (feq hc13).2) (by decide) (by decide) k) ?_
    show own_Go _ _ _ _ (s₁.setTop (mkF m 32 #[.val (.int p1), .val (.int p2), .val (.int p3), .val (.int (p1 &&& (3 : Int32))), .val (.int ((p2 &&& (31 : Int32)) + (1 : Int32)))] []))
    refine own_go (fun _ k => XS.iloadN X0.here hx rfl (hb hby at_32) rfl k) ?_
    show own_Go _ _ _ _ (s₁.setTop (mkF m 33 #[.val (.int p1), .val (.int p2), .val (.int p3), .val (.int (p1 &&& (3 : Int32))), .val (.int ((p2 &&& (31 : Int32)) + (1 : Int32)))] [(.int (p1 &&& (3 : Int32)))]))
    refine own_go (fun _ k => XS.iconst X0.here hx rfl (hb hby at_33) k) ?_
    show own_Go _ _ _ _ (s₁.setTop (mkF m 34 #[.val (.int p1), .val (.int p2), .val (.int p3), .val (.int (p1 &&& (3 : Int32))), .val (.int ((p2 &&& (31 : Int32)) + (1 : Int32)))] [(.int (1 : Int32)), (.int (p1 &&& (3 : Int32)))]))
    by_cases hc34 : (p1 &&& (3 : Int32)) = (1 : Int32)
    · have _h := hc34
      refine own_go (fun _ k => XS.icmpNo X0.here hx rfl (hb hby at_34) rfl (teq hc34).2 k) ?_
      show own_Go _ _ _ _ (s₁.setTop (mkF m 37 #[.val (.int p1), .val (.int p2), .val (.int p3), .val (.int (p1 &&& (3 : Int32))), .val (.int ((p2 &&& (31 : Int32)) + (1 : Int32)))] []))
      obtain ⟨T3, X3, e3, st3⟩ := getS2 X0 hx hZ hown (host := "") (Or.inl (hw _ (List.mem_of_getElem? (i := 9) rfl))) Via.refl e0 S_ALL_INSTANCES_UNICAST (g := (mkF m 37 #[.val (.int p1), .val (.int p2), .val (.int p3), .val (.int (p1 &&& (3 : Int32))), .val (.int ((p2 &&& (31 : Int32)) + (1 : Int32)))] [])) rfl (hb hby at_37)
      refine own_go st3 ?_
      show own_Go _ _ _ _ (T3.setTop (mkF m 40 #[.val (.int p1), .val (.int p2), .val (.int p3), .val (.int (p1 &&& (3 : Int32))), .val (.int ((p2 &&& (31 : Int32)) + (1 : Int32)))] [(.ref a_ALL_INSTANCES_UNICAST)]))
      refine own_go (fun _ k => XS.iloadN X3.here hx rfl (hb hby at_40) rfl k) ?_
      show own_Go _ _ _ _ (T3.setTop (mkF m 41 #[.val (.int p1), .val (.int p2), .val (.int p3), .val (.int (p1 &&& (3 : Int32))), .val (.int ((p2 &&& (31 : Int32)) + (1 : Int32)))] [(.int p3), (.ref a_ALL_INSTANCES_UNICAST)]))
      obtain ⟨_, _, ⟨T4, L4, k4, n4⟩, -, X4, ⟨Lc4, hQ4, l4, y4, z4⟩, st4⟩ := Jvm.LawKit.callS X3 hx (y := (⟨"com/example/portcall/portcall/codec/Request", "nameLength", "(Lcom/example/portcall/portcall/codec/Request$Kind;I)I"⟩ : MethodName)) hown (mvT hZ (hw _ (List.mem_of_getElem? (i := 3) rfl))) (mvT hZ (hw _ (List.mem_of_getElem? (i := 4) rfl))) (mvT hZ (hw _ (List.mem_of_getElem? (i := 5) rfl))) (mvT hZ (hw _ (List.mem_of_getElem? (i := 6) rfl))) (by decide) (own_back (W := 0) (own_rmA l Z a0 hw a_ALL_INSTANCES_UNICAST p3 h0 n0 Z0 F_ALL_INSTANCES_UNICAST) hZ (hw _ (List.mem_of_getElem? (i := 6) rfl)) (hw _ (List.mem_of_getElem? (i := 5) rfl)) (by decide) (by decide)) (g := (mkF m 41 #[.val (.int p1), .val (.int p2), .val (.int p3), .val (.int (p1 &&& (3 : Int32))), .val (.int ((p2 &&& (31 : Int32)) + (1 : Int32)))] [(.int p3), (.ref a_ALL_INSTANCES_UNICAST)])) rfl (by rw [hml]; rfl) (argsL := [(.ref a_ALL_INSTANCES_UNICAST), (.int p3)]) (rest := []) (lenOf own_pd0 rfl) rfl (by show 2 * 0 + _ ≤ _; exact Nat.le_of_eq rfl) (hb hby at_41) (fun _ _ => ⟨rfl, e3, (by decide : 0 + 0 ≤ _), (by decide : 0 + 0 ≤ _)⟩)
      dsimp only [Pt.U, Pt.locs, Pt.cells, Pt.slots] at X4 l4 y4 z4 st4 hQ4
      subst l4 y4 z4
      obtain ⟨rfl, Nq4, eq4⟩ := hQ4
      have NF4 := Fr.app N0 Nq4
      refine own_go st4 ?_
      show own_Go _ _ _ _ (T4.setTop (mkF m 44 #[.val (.int p1), .val (.int p2), .val (.int p3), .val (.int (p1 &&& (3 : Int32))), .val (.int ((p2 &&& (31 : Int32)) + (1 : Int32)))] [(.int (0 : Int32))]))
      refine own_go (fun _ k => XS.ifNo X4.here hx rfl (hb hby at_44) rfl ((if0 _ _).trans (teq (by decide)).2) k) ?_
      show own_Go _ _ _ _ (T4.setTop (mkF m 47 #[.val (.int p1), .val (.int p2), .val (.int p3), .val (.int (p1 &&& (3 : Int32))), .val (.int ((p2 &&& (31 : Int32)) + (1 : Int32)))] []))
      refine own_go (fun _ k => XS.iconst X4.here hx rfl (hb hby at_47) k) ?_
      show own_Go _ _ _ _ (T4.setTop (mkF m 48 #[.val (.int p1), .val (.int p2), .val (.int p3), .val (.int (p1 &&& (3 : Int32))), .val (.int ((p2 &&& (31 : Int32)) + (1 : Int32)))] [(.int (1 : Int32))]))
      refine own_go (fun _ k => XS.goto X4.here hx rfl (pc0 := 48) (pc' := 52) rfl (hb hby at_48) (by decide) (by decide) k) ?_
      show own_Go _ _ _ _ (T4.setTop (mkF m 52 #[.val (.int p1), .val (.int p2), .val (.int p3), .val (.int (p1 &&& (3 : Int32))), .val (.int ((p2 &&& (31 : Int32)) + (1 : Int32)))] [(.int (1 : Int32))]))
      refine own_ret X4 hlk (v := some (.int (1 : Int32))) (fun h => by rw [Bd.returns] at h; cases h) (fun fs hr => retN X4 hx (t := .boolean) Bd.returns (by simp) (hb hby at_52) hr) ?_ (by decide) (by decide)
      try rw [eq4]
      exact ⟨rfl, NF4⟩
    · have _h := hc34
      refine own_go (fun _ k => XS.icmpYes X0.here hx rfl (pc0 := 34) (pc' := 53) rfl (hb hby at_34) rfl (feq hc34).2 (by decide) (by decide) k) ?_
      show own_Go _ _ _ _ (s₁.setTop (mkF m 53 #[.val (.int p1), .val (.int p2), .val (.int p3), .val (.int (p1 &&& (3 : Int32))), .val (.int ((p2 &&& (31 : Int32)) + (1 : Int32)))] []))
      refine own_go (fun _ k => XS.iloadN X0.here hx rfl (hb hby at_53) rfl k) ?_
      show own_Go _ _ _ _ (s₁.setTop (mkF m 54 #[.val (.int p1), .val (.int p2), .val (.int p3), .val (.int (p1 &&& (3 : Int32))), .val (.int ((p2 &&& (31 : Int32)) + (1 : Int32)))] [(.int (p1 &&& (3 : Int32)))]))
      refine own_go (fun _ k => XS.iconst X0.here hx rfl (hb hby at_54) k) ?_
      show own_Go _ _ _ _ (s₁.setTop (mkF m 55 #[.val (.int p1), .val (.int p2), .val (.int p3), .val (.int (p1 &&& (3 : Int32))), .val (.int ((p2 &&& (31 : Int32)) + (1 : Int32)))] [(.int (2 : Int32)), (.int (p1 &&& (3 : Int32)))]))
      by_cases hc55 : (p1 &&& (3 : Int32)) = (2 : Int32)
      · have _h := hc55
        refine own_go (fun _ k => XS.icmpNo X0.here hx rfl (hb hby at_55) rfl (teq hc55).2 k) ?_
        show own_Go _ _ _ _ (s₁.setTop (mkF m 58 #[.val (.int p1), .val (.int p2), .val (.int p3), .val (.int (p1 &&& (3 : Int32))), .val (.int ((p2 &&& (31 : Int32)) + (1 : Int32)))] []))
        obtain ⟨T5, X5, e5, st5⟩ := getS2 X0 hx hZ hown (host := "") (Or.inl (hw _ (List.mem_of_getElem? (i := 15) rfl))) Via.refl e0 S_ONE_INSTANCE (g := (mkF m 58 #[.val (.int p1), .val (.int p2), .val (.int p3), .val (.int (p1 &&& (3 : Int32))), .val (.int ((p2 &&& (31 : Int32)) + (1 : Int32)))] [])) rfl (hb hby at_58)
        refine own_go st5 ?_
        show own_Go _ _ _ _ (T5.setTop (mkF m 61 #[.val (.int p1), .val (.int p2), .val (.int p3), .val (.int (p1 &&& (3 : Int32))), .val (.int ((p2 &&& (31 : Int32)) + (1 : Int32)))] [(.ref a_ONE_INSTANCE)]))
        refine own_go (fun _ k => XS.iconst X5.here hx rfl (hb hby at_61) k) ?_
        show own_Go _ _ _ _ (T5.setTop (mkF m 62 #[.val (.int p1), .val (.int p2), .val (.int p3), .val (.int (p1 &&& (3 : Int32))), .val (.int ((p2 &&& (31 : Int32)) + (1 : Int32)))] [(.int (2 : Int32)), (.ref a_ONE_INSTANCE)]))
        refine own_go (fun _ k => XS.iload X5.here hx rfl (hb hby at_62) rfl k) ?_
        show own_Go _ _ _ _ (T5.setTop (mkF m 64 #[.val (.int p1), .val (.int p2), .val (.int p3), .val (.int (p1 &&& (3 : Int32))), .val (.int ((p2 &&& (31 : Int32)) + (1 : Int32)))] [(.int ((p2 &&& (31 : Int32)) + (1 : Int32))), (.int (2 : Int32)), (.ref a_ONE_INSTANCE)]))
        refine own_go (fun _ k => XS.iadd X5.here hx rfl (hb hby at_64) rfl k) ?_
        show own_Go _ _ _ _ (T5.setTop (mkF m 65 #[.val (.int p1), .val (.int p2), .val (.int p3), .val (.int (p1 &&& (3 : Int32))), .val (.int ((p2 &&& (31 : Int32)) + (1 : Int32)))] [(.int ((2 : Int32) + ((p2 &&& (31 : Int32)) + (1 : Int32)))), (.ref a_ONE_INSTANCE)]))
        obtain ⟨_, _, ⟨T6, L6, k6, n6⟩, -, X6, ⟨Lc6, hQ6, l6, y6, z6⟩, st6⟩ := Jvm.LawKit.callS X5 hx (y := (⟨"com/example/portcall/portcall/codec/Request", "nameLength", "(Lcom/example/portcall/portcall/codec/Request$Kind;I)I"⟩ : MethodName)) hown (mvT hZ (hw _ (List.mem_of_getElem? (i := 3) rfl))) (mvT hZ (hw _ (List.mem_of_getElem? (i := 4) rfl))) (mvT hZ (hw _ (List.mem_of_getElem? (i := 5) rfl))) (mvT hZ (hw _ (List.mem_of_getElem? (i := 6) rfl))) (by decide) (own_back (W := 0) (own_rmB l Z a0 hw a_ONE_INSTANCE ((2 : Int32) + ((p2 &&& (31 : Int32)) + (1 : Int32))) b_ONE_INSTANCE cl_ONE_INSTANCE 1 h0 n0 Z0 F_ONE_INSTANCE P_ONE_INSTANCE Ar_ONE_INSTANCE ln_ONE_INSTANCE) hZ (hw _ (List.mem_of_getElem? (i := 6) rfl)) (hw _ (List.mem_of_getElem? (i := 5) rfl)) (by decide) (by decide)) (g := (mkF m 65 #[.val (.int p1), .val (.int p2), .val (.int p3), .val (.int (p1 &&& (3 : Int32))), .val (.int ((p2 &&& (31 : Int32)) + (1 : Int32)))] [(.int ((2 : Int32) + ((p2 &&& (31 : Int32)) + (1 : Int32)))), (.ref a_ONE_INSTANCE)])) rfl (by rw [hml]; rfl) (argsL := [(.ref a_ONE_INSTANCE), (.int ((2 : Int32) + ((p2 &&& (31 : Int32)) + (1 : Int32))))]) (rest := []) (lenOf own_pd0 rfl) rfl (by show 2 * 0 + _ ≤ _; exact Nat.le_of_eq rfl) (hb hby at_65) (fun _ _ => ⟨rfl, e5, (by decide : 0 + 0 ≤ _), (by decide : 0 + 0 ≤ _)⟩)
        dsimp only [Pt.U, Pt.locs, Pt.cells, Pt.slots] at X6 l6 y6 z6 st6 hQ6
        subst l6 y6 z6
        obtain ⟨rfl, Nq6, eq6⟩ := hQ6
        have NF6 := Fr.app N0 Nq6
        refine own_go st6 ?_
        show own_Go _ _ _ _ (T6.setTop (mkF m 68 #[.val (.int p1), .val (.int p2), .val (.int p3), .val (.int (p1 &&& (3 : Int32))), .val (.int ((p2 &&& (31 : Int32)) + (1 : Int32)))] [(.int (((2 : Int32) + ((p2 &&& (31 : Int32)) + (1 : Int32))) - (1 : Int32) - (1 : Int32)))]))
        refine own_go (fun _ k => XS.iload X6.here hx rfl (hb hby at_68) rfl k) ?_
        show own_Go _ _ _ _ (T6.setTop (mkF m 70 #[.val (.int p1), .val (.int p2), .val (.int p3), .val (.int (p1 &&& (3 : Int32))), .val (.int ((p2 &&& (31 : Int32)) + (1 : Int32)))] [(.int ((p2 &&& (31 : Int32)) + (1 : Int32))), (.int (((2 : Int32) + ((p2 &&& (31 : Int32)) + (1 : Int32))) - (1 : Int32) - (1 : Int32)))]))
        refine own_go (fun _ k => XS.icmpNo X6.here hx rfl (hb hby at_70) rfl (teq (own_n2 _)).2 k) ?_
        show own_Go _ _ _ _ (T6.setTop (mkF m 73 #[.val (.int p1), .val (.int p2), .val (.int p3), .val (.int (p1 &&& (3 : Int32))), .val (.int ((p2 &&& (31 : Int32)) + (1 : Int32)))] []))
        refine own_go (fun _ k => XS.iconst X6.here hx rfl (hb hby at_73) k) ?_
        show own_Go _ _ _ _ (T6.setTop (mkF m 74 #[.val (.int p1), .val (.int p2), .val (.int p3), .val (.int (p1 &&& (3 : Int32))), .val (.int ((p2 &&& (31 : Int32)) + (1 : Int32)))] [(.int (1 : Int32))]))
        refine own_go (fun _ k => XS.goto X6.here hx rfl (pc0 := 74) (pc' := 78) rfl (hb hby at_74) (by decide) (by decide) k) ?_
        show own_Go _ _ _ _ (T6.setTop (mkF m 78 #[.val (.int p1), .val (.int p2), .val (.int p3), .val (.int (p1 &&& (3 : Int32))), .val (.int ((p2 &&& (31 : Int32)) + (1 : Int32)))] [(.int (1 : Int32))]))
        refine own_ret X6 hlk (v := some (.int (1 : Int32))) (fun h => by rw [Bd.returns] at h; cases h) (fun fs hr => retN X6 hx (t := .boolean) Bd.returns (by simp) (hb hby at_78) hr) ?_ (by decide) (by decide)
        try rw [eq6]
        exact ⟨rfl, NF6⟩
      · have _h := hc55
        refine own_go (fun _ k => XS.icmpYes X0.here hx rfl (pc0 := 55) (pc' := 79) rfl (hb hby at_55) rfl (feq hc55).2 (by decide) (by decide) k) ?_
        show own_Go _ _ _ _ (s₁.setTop (mkF m 79 #[.val (.int p1), .val (.int p2), .val (.int p3), .val (.int (p1 &&& (3 : Int32))), .val (.int ((p2 &&& (31 : Int32)) + (1 : Int32)))] []))
        obtain ⟨T7, X7, e7, st7⟩ := getS2 X0 hx hZ hown (host := "") (Or.inl (hw _ (List.mem_of_getElem? (i := 11) rfl))) Via.refl e0 S_ADMIN (g := (mkF m 79 #[.val (.int p1), .val (.int p2), .val (.int p3), .val (.int (p1 &&& (3 : Int32))), .val (.int ((p2 &&& (31 : Int32)) + (1 : Int32)))] [])) rfl (hb hby at_79)
        refine own_go st7 ?_
        show own_Go _ _ _ _ (T7.setTop (mkF m 82 #[.val (.int p1), .val (.int p2), .val (.int p3), .val (.int (p1 &&& (3 : Int32))), .val (.int ((p2 &&& (31 : Int32)) + (1 : Int32)))] [(.ref a_ADMIN)]))
        refine own_go (fun _ k => XS.iconst X7.here hx rfl (hb hby at_82) k) ?_
        show own_Go _ _ _ _ (T7.setTop (mkF m 83 #[.val (.int p1), .val (.int p2), .val (.int p3), .val (.int (p1 &&& (3 : Int32))), .val (.int ((p2 &&& (31 : Int32)) + (1 : Int32)))] [(.int (3 : Int32)), (.ref a_ADMIN)]))
        refine own_go (fun _ k => XS.iload X7.here hx rfl (hb hby at_83) rfl k) ?_
        show own_Go _ _ _ _ (T7.setTop (mkF m 85 #[.val (.int p1), .val (.int p2), .val (.int p3), .val (.int (p1 &&& (3 : Int32))), .val (.int ((p2 &&& (31 : Int32)) + (1 : Int32)))] [(.int ((p2 &&& (31 : Int32)) + (1 : Int32))), (.int (3 : Int32)), (.ref a_ADMIN)]))
        refine own_go (fun _ k => XS.iadd X7.here hx rfl (hb hby at_85) rfl k) ?_
        show own_Go _ _ _ _ (T7.setTop (mkF m 86 #[.val (.int p1), .val (.int p2), .val (.int p3), .val (.int (p1 &&& (3 : Int32))), .val (.int ((p2 &&& (31 : Int32)) + (1 : Int32)))] [(.int ((3 : Int32) + ((p2 &&& (31 : Int32)) + (1 : Int32)))), (.ref a_ADMIN)]))
        obtain ⟨_, _, ⟨T8, L8, k8, n8⟩, -, X8, ⟨Lc8, hQ8, l8, y8, z8⟩, st8⟩ := Jvm.LawKit.callS X7 hx (y := (⟨"com/example/portcall/portcall/codec/Request", "nameLength", "(Lcom/example/portcall/portcall/codec/Request$Kind;I)I"⟩ : MethodName)) hown (mvT hZ (hw _ (List.mem_of_getElem? (i := 3) rfl))) (mvT hZ (hw _ (List.mem_of_getElem? (i := 4) rfl))) (mvT hZ (hw _ (List.mem_of_getElem? (i := 5) rfl))) (mvT hZ (hw _ (List.mem_of_getElem? (i := 6) rfl))) (by decide) (own_back (W := 0) (own_rmB l Z a0 hw a_ADMIN ((3 : Int32) + ((p2 &&& (31 : Int32)) + (1 : Int32))) b_ADMIN cl_ADMIN 2 h0 n0 Z0 F_ADMIN P_ADMIN Ar_ADMIN ln_ADMIN) hZ (hw _ (List.mem_of_getElem? (i := 6) rfl)) (hw _ (List.mem_of_getElem? (i := 5) rfl)) (by decide) (by decide)) (g := (mkF m 86 #[.val (.int p1), .val (.int p2), .val (.int p3), .val (.int (p1 &&& (3 : Int32))), .val (.int ((p2 &&& (31 : Int32)) + (1 : Int32)))] [(.int ((3 : Int32) + ((p2 &&& (31 : Int32)) + (1 : Int32)))), (.ref a_ADMIN)])) rfl (by rw [hml]; rfl) (argsL := [(.ref a_ADMIN), (.int ((3 : Int32) + ((p2 &&& (31 : Int32)) + (1 : Int32))))]) (rest := []) (lenOf own_pd0 rfl) rfl (by show 2 * 0 + _ ≤ _; exact Nat.le_of_eq rfl) (hb hby at_86) (fun _ _ => ⟨rfl, e7, (by decide : 0 + 0 ≤ _), (by decide : 0 + 0 ≤ _)⟩)
        dsimp only [Pt.U, Pt.locs, Pt.cells, Pt.slots] at X8 l8 y8 z8 st8 hQ8
        subst l8 y8 z8
        obtain ⟨rfl, Nq8, eq8⟩ := hQ8
        have NF8 := Fr.app N0 Nq8
        refine own_go st8 ?_
        show own_Go _ _ _ _ (T8.setTop (mkF m 89 #[.val (.int p1), .val (.int p2), .val (.int p3), .val (.int (p1 &&& (3 : Int32))), .val (.int ((p2 &&& (31 : Int32)) + (1 : Int32)))] [(.int (((3 : Int32) + ((p2 &&& (31 : Int32)) + (1 : Int32))) - (2 : Int32) - (1 : Int32)))]))
        refine own_go (fun _ k => XS.iload X8.here hx rfl (hb hby at_89) rfl k) ?_
        show own_Go _ _ _ _ (T8.setTop (mkF m 91 #[.val (.int p1), .val (.int p2), .val (.int p3), .val (.int (p1 &&& (3 : Int32))), .val (.int ((p2 &&& (31 : Int32)) + (1 : Int32)))] [(.int ((p2 &&& (31 : Int32)) + (1 : Int32))), (.int (((3 : Int32) + ((p2 &&& (31 : Int32)) + (1 : Int32))) - (2 : Int32) - (1 : Int32)))]))
        refine own_go (fun _ k => XS.icmpNo X8.here hx rfl (hb hby at_91) rfl (teq (own_n3 _)).2 k) ?_
        show own_Go _ _ _ _ (T8.setTop (mkF m 94 #[.val (.int p1), .val (.int p2), .val (.int p3), .val (.int (p1 &&& (3 : Int32))), .val (.int ((p2 &&& (31 : Int32)) + (1 : Int32)))] []))
        refine own_go (fun _ k => XS.iconst X8.here hx rfl (hb hby at_94) k) ?_
        show own_Go _ _ _ _ (T8.setTop (mkF m 95 #[.val (.int p1), .val (.int p2), .val (.int p3), .val (.int (p1 &&& (3 : Int32))), .val (.int ((p2 &&& (31 : Int32)) + (1 : Int32)))] [(.int (1 : Int32))]))
        refine own_go (fun _ k => XS.goto X8.here hx rfl (pc0 := 95) (pc' := 99) rfl (hb hby at_95) (by decide) (by decide) k) ?_
        show own_Go _ _ _ _ (T8.setTop (mkF m 99 #[.val (.int p1), .val (.int p2), .val (.int p3), .val (.int (p1 &&& (3 : Int32))), .val (.int ((p2 &&& (31 : Int32)) + (1 : Int32)))] [(.int (1 : Int32))]))
        refine own_ret X8 hlk (v := some (.int (1 : Int32))) (fun h => by rw [Bd.returns] at h; cases h) (fun fs hr => retN X8 hx (t := .boolean) Bd.returns (by simp) (hb hby at_99) hr) ?_ (by decide) (by decide)
        try rw [eq8]
        exact ⟨rfl, NF8⟩
set_option maxRecDepth 65536 in
set_option maxHeartbeats 40000000 in
theorem own_comes {Post : Tables → Env → Array Value → State → Outcome → State → Prop} (hpost : ∀ tb e args s v u, (limb_1_1.after args s (.returned v) u = true ∧ limb_1_2.after args s (.returned v) u = true ∧ True) → FrameEnd s (.returned v) u (Jvm.fieldLocs frame_1_writes args s ++ Jvm.arrayLocs frame_1_arrays args s ++ Jvm.staticLocs frame_1_statics s) 0 0 → Post tb e args s (.returned v) u) :
    ArmFor flags0 classFile x code maxLocals ret World_1 tables_1 room_1 Calls_1 rest_1 Pre_1 Post := by
  intro l hfl _ _ p e ha hc hk s m args below hf hA hF happ hP
  obtain ⟨hcalls, hrest, hpre⟩ := hP
  obtain ⟨-, -, -, hnamed, -, -, -, hat⟩ := (Spec.applies_iff hf).mp happ
  obtain ⟨hg, hn⟩ := and_e (Cond.before_iff.mp (show (Jvm.Cond.and given_1 narrow_1).before args s = true from hpre))
  obtain ⟨hcount, hg⟩ := and_e hg
  obtain ⟨ha0, hg⟩ := and_e hg
  obtain ⟨ha1, hg⟩ := and_e hg
  obtain ⟨w0, w1, w2, rfl⟩ : ∃ w0 w1 w2 : Value, args = #[w0, w1, w2] := by
    have hs : args.size = 3 := by simpa [Cond.value, given_1] using hcount
    obtain ⟨L⟩ := args
    match L, hs with
    | [w0, w1, w2], _ => exact ⟨w0, w1, w2, rfl⟩
  have hw := fun d (hd : d ∈ tables_1) => atoms_spec (ws := Jvm.Cond.code x code maxLocals ret :: tables_1) hat d (List.mem_cons_of_mem _ hd)
  have hfit : Fit s := fun {y c} hc i hi => by
    obtain ⟨ha, rfl⟩ := Array.getElem?_eq_some_iff.mp hc
    have q := List.all_eq_true.mp ((Array.all_eq_true_iff_forall_mem.mp hF) _ (Array.getElem_mem ha)) i (List.mem_range.mpr hi)
    simpa [Array.getElem?_eq_getElem hi] using q
  obtain ⟨i0, ei0⟩ := is_v ha0
  obtain rfl : w0 = (.int i0) := Option.some.inj ei0
  obtain ⟨i1, ei1⟩ := is_v ha1
  obtain rfl : w1 = (.int i1) := Option.some.inj ei1
  obtain ⟨i2, ei2⟩ := is_v hg
  obtain rfl : w2 = (.int i2) := Option.some.inj ei2
  obtain ⟨hn0, hn⟩ := and_e hn
  obtain ⟨hn1, hn⟩ := and_e hn
  obtain ⟨hn2, hn⟩ := and_e hn
  obtain ⟨hn3, hn⟩ := and_e hn
  obtain ⟨hn4, hn⟩ := and_e hn
  obtain ⟨hn5, hn⟩ := and_e hn
  obtain ⟨hn6, hn⟩ := and_e hn
  obtain ⟨hn7, hn⟩ := and_e hn
  obtain ⟨hn8, hn⟩ := and_e hn
  obtain ⟨hn9, hn⟩ := and_e hn
  obtain ⟨hn10, hn⟩ := and_e hn
  obtain ⟨hn11, hn⟩ := and_e hn
  obtain ⟨hn12, hn⟩ := and_e hn
  obtain ⟨hn13, hn⟩ := and_e hn
  obtain ⟨hn14, hn⟩ := and_e hn
  have hn15 := hn
  obtain ⟨a_ALL_INSTANCES_BROADCAST, ev_ALL_INSTANCES_BROADCAST⟩ := exa_v hn0
  have S_ALL_INSTANCES_BROADCAST := Sta.start ev_ALL_INSTANCES_BROADCAST (Or.inr ⟨(hw _ (List.mem_of_getElem? (i := 1) rfl)), (hw _ (List.mem_of_getElem? (i := 2) rfl))⟩)
  have E_ALL_INSTANCES_BROADCAST := Exa.start ev_ALL_INSTANCES_BROADCAST hn0
  have F_named_ALL_INSTANCES_BROADCAST := own_fld ev_ALL_INSTANCES_BROADCAST (own_eqi hn1)
  obtain ⟨a_ALL_INSTANCES_UNICAST, ev_ALL_INSTANCES_UNICAST⟩ := exa_v hn2
  have S_ALL_INSTANCES_UNICAST := Sta.start ev_ALL_INSTANCES_UNICAST (Or.inr ⟨(hw _ (List.mem_of_getElem? (i := 1) rfl)), (hw _ (List.mem_of_getElem? (i := 10) rfl))⟩)
  have E_ALL_INSTANCES_UNICAST := Exa.start ev_ALL_INSTANCES_UNICAST hn2
  have F_named_ALL_INSTANCES_UNICAST := own_fld ev_ALL_INSTANCES_UNICAST (own_eqi hn3)
  obtain ⟨a_ADMIN, ev_ADMIN⟩ := exa_v hn4
  have S_ADMIN := Sta.start ev_ADMIN (Or.inr ⟨(hw _ (List.mem_of_getElem? (i := 1) rfl)), (hw _ (List.mem_of_getElem? (i := 12) rfl))⟩)
  have E_ADMIN := Exa.start ev_ADMIN hn4
  have F_named_ADMIN := own_fld ev_ADMIN (own_eqi hn5)
  obtain ⟨a_prefix_ADMIN, ev_prefix_ADMIN⟩ := arr_v hn6
  have F_prefix_ADMIN := own_fld ev_ADMIN ev_prefix_ADMIN
  obtain ⟨cl_prefix_ADMIN, Ar_prefix_ADMIN⟩ := Arr.start ev_prefix_ADMIN hn6
  have ln_prefix_ADMIN := own_len Ar_prefix_ADMIN ev_prefix_ADMIN (own_eqi hn7)
  obtain ⟨a_ONE_INSTANCE, ev_ONE_INSTANCE⟩ := exa_v hn8
  have S_ONE_INSTANCE := Sta.start ev_ONE_INSTANCE (Or.inr ⟨(hw _ (List.mem_of_getElem? (i := 1) rfl)), (hw _ (List.mem_of_getElem? (i := 16) rfl))⟩)
  have E_ONE_INSTANCE := Exa.start ev_ONE_INSTANCE hn8
  have F_named_ONE_INSTANCE := own_fld ev_ONE_INSTANCE (own_eqi hn9)
  obtain ⟨a_prefix_ONE_INSTANCE, ev_prefix_ONE_INSTANCE⟩ := arr_v hn10
  have F_prefix_ONE_INSTANCE := own_fld ev_ONE_INSTANCE ev_prefix_ONE_INSTANCE
  obtain ⟨cl_prefix_ONE_INSTANCE, Ar_prefix_ONE_INSTANCE⟩ := Arr.start ev_prefix_ONE_INSTANCE hn10
  have ln_prefix_ONE_INSTANCE := own_len Ar_prefix_ONE_INSTANCE ev_prefix_ONE_INSTANCE (own_eqi hn11)
  obtain ⟨a_prefix_ALL_INSTANCES_BROADCAST, ev_prefix_ALL_INSTANCES_BROADCAST⟩ := arr_v hn12
  have F_prefix_ALL_INSTANCES_BROADCAST := own_fld ev_ALL_INSTANCES_BROADCAST ev_prefix_ALL_INSTANCES_BROADCAST
  obtain ⟨cl_prefix_ALL_INSTANCES_BROADCAST, Ar_prefix_ALL_INSTANCES_BROADCAST⟩ := Arr.start ev_prefix_ALL_INSTANCES_BROADCAST hn12
  have ln_prefix_ALL_INSTANCES_BROADCAST := own_len Ar_prefix_ALL_INSTANCES_BROADCAST ev_prefix_ALL_INSTANCES_BROADCAST (own_eqi hn13)
  obtain ⟨a_prefix_ALL_INSTANCES_UNICAST, ev_prefix_ALL_INSTANCES_UNICAST⟩ := arr_v hn14
  have F_prefix_ALL_INSTANCES_UNICAST := own_fld ev_ALL_INSTANCES_UNICAST ev_prefix_ALL_INSTANCES_UNICAST
  obtain ⟨cl_prefix_ALL_INSTANCES_UNICAST, Ar_prefix_ALL_INSTANCES_UNICAST⟩ := Arr.start ev_prefix_ALL_INSTANCES_UNICAST hn14
  have ln_prefix_ALL_INSTANCES_UNICAST := own_len Ar_prefix_ALL_INSTANCES_UNICAST ev_prefix_ALL_INSTANCES_UNICAST (own_eqi hn15)
  obtain ⟨n, o, h1, h2, h3, _, L, rfl, ⟨rfl, N⟩, hq⟩ := own_rm0 l s _ hw i0 i1 i2 a_ALL_INSTANCES_BROADCAST a_ALL_INSTANCES_UNICAST a_ONE_INSTANCE a_ADMIN a_prefix_ONE_INSTANCE cl_prefix_ONE_INSTANCE a_prefix_ADMIN cl_prefix_ADMIN s.heap s.heap.size (Nat.le_refl _) S_ALL_INSTANCES_BROADCAST S_ALL_INSTANCES_UNICAST S_ONE_INSTANCE S_ADMIN F_named_ALL_INSTANCES_BROADCAST F_named_ALL_INSTANCES_UNICAST F_named_ONE_INSTANCE F_named_ADMIN F_prefix_ONE_INSTANCE Ar_prefix_ONE_INSTANCE ln_prefix_ONE_INSTANCE.2 F_prefix_ADMIN Ar_prefix_ADMIN ln_prefix_ADMIN.2 p e ha hc hk s m _ below hf ((Spec.applies_iff_loose hf).mp happ).1 ⟨rfl, State.Warmed39.refl s, rfl⟩ trivial
  refine ⟨n, _, h1, h2, h3, hpost _ _ _ _ _ _ ⟨Cond.after_iff.mpr rfl, Cond.after_iff.mpr (eq_i res_at (Term.int_eval (1)) rfl), trivial⟩ ⟨hq.1, hq.2.1, (hq.2.2.sift fun y hy => Or.inr (N y hy)).mono (by decide) (by decide)⟩⟩
theorem main_1_1 : Claimed_1_1 := own_comes fun _ _ _ _ _ _ h hF => ⟨h.1, hF⟩
theorem main_1_2 : Claimed_1_2 := own_comes fun _ _ _ _ _ _ h hF => ⟨h.2.1, hF⟩
end Jvm.Pilot.@@N@@
namespace Jvm.Pilot.@@N@@
open Jvm Jvm.ClassFile Sem Op Lib Jvm.Free Jvm.Stand Jvm.Pilot.@@N@@.Jvm.D
/-! MADE BY PROGRAM (witnessworld.py) out of the Statement's table words and the real class files: 13 classes; the members and pool entries that the words name. The judged class is class 1, her method 1. -/
namespace start1
open Jvm.ClassFile
def u (s : String) : CpInfo := .utf8 (stringToUtf16 s)
/-- a pool by its gaps: so many unusable entries, then the entry; so many at the end -/
def gap : Nat → List CpInfo → List CpInfo
  | 0, r => r
  | n + 1, r => .unusable :: gap n r
def poolList (es : List (Nat × CpInfo)) (last : Nat) : List CpInfo := es.foldr (fun e r => gap e.1 (e.2 :: r)) (gap last [])
def pool (es : List (Nat × CpInfo)) (last : Nat) : Array CpInfo := ⟨poolList es last⟩
def fileOf (pool : Array CpInfo) (this : Nat) (attrs : Array Attribute := #[]) (ms : Array MethodInfo := #[]) (fl : Nat := 33) (sup : Nat := 0) (ifs : Array Nat := #[]) (fds : Array FieldInfo := #[]) : ClassFile where
  minorVersion := 0
  majorVersion := 65
  constantPool := pool
  accessFlags := fl
  thisClass := this
  superClass := sup
  interfaces := ifs
  fields := fds
  methods := ms
  attributes := attrs
def plain (name : String) (sup : Option ClassId) : Class where
  name := name
  kind := .ordinary
  loader := none
  accessFlags := 33
  super := sup
  interfaces := #[]
  cf := none
  fields := #[]
  methods := #[]
  instanceTypes := #[]
  staticTypes := #[]
  resolved := #[]
  callSites := []
  init := .initialized
  statics := none
  mirror := none

def pool0 : Array CpInfo := pool [(5, u "<init>"), (0, u "()V"), (1, .class_ 10), (1, u "java/lang/Object")] 113

def k0m0 : Method := { name := "<init>", desc := "()V", sig := { parameters := [], returnType := none }, accessFlags := 1, code := none }
/-- java/lang/Object -/
def k0 : Class := { plain "java/lang/Object" none with
  accessFlags := 33
  interfaces := #[]
  cf := some (fileOf pool0 8 #[] #[{ accessFlags := 1, nameIndex := 5, descriptorIndex := 6, attributes := #[] }] 33 0 #[] #[])
  fields := #[]
  methods := #[k0m0]
  instanceTypes := #[]
  staticTypes := #[]
  resolved := Array.replicate 124 none
  statics := none }

def pool1 : Array CpInfo := pool [(2, .class_ 4), (1, u "java/lang/Object"), (0, u "<init>"), (0, u "()V"), (0, .fieldref 8 9), (0, .class_ 10), (0, .nameAndType 11 12), (0, u "com/example/portcall/portcall/codec/Request$Kind"), (0, u "ALL_INSTANCES_BROADCAST"), (0, u "Lcom/example/portcall/portcall/codec/Request$Kind;"), (0, .methodref 14 15), (0, .class_ 16), (0, .nameAndType 17 18), (0, u "com/example/portcall/portcall/codec/Request"), (0, u "nameLength"), (0, u "(Lcom/example/portcall/portcall/codec/Request$Kind;I)I"), (0, .fieldref 8 20), (0, .nameAndType 21 12), (0, u "ALL_INSTANCES_UNICAST"), (0, .fieldref 8 23), (0, .nameAndType 24 12), (0, u "ONE_INSTANCE"), (0, .fieldref 8 26), (0, .nameAndType 27 12), (0, u "ADMIN"), (0, .class_ 29), (0, u "com/example/portcall/portcall/codec/RequestNameLengthPinLaw"), (2, u "law"), (0, u "(III)Z")] 5

def k1m0 : Method := { name := "<init>", desc := "()V", sig := { parameters := [], returnType := none }, accessFlags := 1, code := none }
def k1c1 : Code := { maxStack := 3, maxLocals := 5, code := code, exceptionTable := #[], attributes := #[] }
def k1m1 : Method := { name := "law", desc := "(III)Z", sig := { parameters := [.int, .int, .int], returnType := some .boolean }, accessFlags := 9, code := some k1c1 }
/-- com/example/portcall/portcall/codec/RequestNameLengthPinLaw -/
def k1 : Class := { plain "com/example/portcall/portcall/codec/RequestNameLengthPinLaw" (some 0) with
  accessFlags := 49
  interfaces := #[]
  cf := some (fileOf pool1 28 #[] #[{ accessFlags := 1, nameIndex := 5, descriptorIndex := 6, attributes := #[] }, { accessFlags := 9, nameIndex := 32, descriptorIndex := 33, attributes := #[] }] 49 2 #[] #[])
  fields := #[]
  methods := #[k1m0, k1m1]
  instanceTypes := #[]
  staticTypes := #[]
  resolved := Array.replicate 39 none
  statics := none }

def pool2 : Array CpInfo := pool [(1, .class_ 2), (0, u "java/lang/constant/Constable"), (0, .class_ 4), (0, u "java/lang/Object")] 6

/-- java/lang/constant/Constable -/
def k2 : Class := { plain "java/lang/constant/Constable" (some 0) with
  accessFlags := 1537
  interfaces := #[]
  cf := some (fileOf pool2 1 #[] #[] 1537 3 #[] #[])
  fields := #[]
  methods := #[]
  instanceTypes := #[]
  staticTypes := #[]
  resolved := Array.replicate 11 none
  statics := none }

def pool3 : Array CpInfo := pool [(1, .class_ 2), (0, u "java/lang/Comparable"), (0, .class_ 4), (0, u "java/lang/Object")] 7

/-- java/lang/Comparable -/
def k3 : Class := { plain "java/lang/Comparable" (some 0) with
  accessFlags := 1537
  interfaces := #[]
  cf := some (fileOf pool3 1 #[] #[] 1537 3 #[] #[])
  fields := #[]
  methods := #[]
  instanceTypes := #[]
  staticTypes := #[]
  resolved := Array.replicate 12 none
  statics := none }

def pool4 : Array CpInfo := pool [(1, .class_ 2), (0, u "java/io/Serializable"), (0, .class_ 4), (0, u "java/lang/Object")] 2

/-- java/io/Serializable -/
def k4 : Class := { plain "java/io/Serializable" (some 0) with
  accessFlags := 1537
  interfaces := #[]
  cf := some (fileOf pool4 1 #[] #[] 1537 3 #[] #[])
  fields := #[]
  methods := #[]
  instanceTypes := #[]
  staticTypes := #[]
  resolved := Array.replicate 7 none
  statics := none }

def pool5 : Array CpInfo := pool [(2, .class_ 4), (1, u "java/lang/Enum"), (0, u "name"), (0, u "Ljava/lang/String;"), (2, u "ordinal"), (0, u "I"), (1, .class_ 14), (1, u "java/lang/Object"), (4, u "hash"), (86, .class_ 108), (1, u "java/lang/Enum$EnumDesc"), (2, .class_ 112), (0, u "java/lang/constant/Constable"), (0, .class_ 114), (0, u "java/lang/Comparable"), (0, .class_ 116), (0, u "java/io/Serializable")] 87

/-- java/lang/Enum -/
def k5 : Class := { plain "java/lang/Enum" (some 0) with
  accessFlags := 1057
  interfaces := #[2, 3, 4]
  cf := some (fileOf pool5 2 #[.nestMembers #[106]] #[] 1057 12 #[111, 113, 115] #[{ accessFlags := 18, nameIndex := 5, descriptorIndex := 6, attributes := #[] }, { accessFlags := 18, nameIndex := 9, descriptorIndex := 10, attributes := #[] }, { accessFlags := 2, nameIndex := 19, descriptorIndex := 10, attributes := #[] }])
  fields := #[{ name := "name", type := (.object "java/lang/String"), accessFlags := 18, slot := 0, constantValue := 0 }, { name := "ordinal", type := .int, accessFlags := 18, slot := 1, constantValue := 0 }, { name := "hash", type := .int, accessFlags := 2, slot := 2, constantValue := 0 }]
  methods := #[]
  instanceTypes := #[(.object "java/lang/String"), .int, .int]
  staticTypes := #[]
  resolved := Array.replicate 204 none
  statics := none }

def pool6 : Array CpInfo := pool [(1, .class_ 2), (0, u "com/example/portcall/portcall/codec/Request"), (0, .class_ 4), (0, u "com/example/portcall/portcall/codec/Request$Kind"), (2, u "ALL_INSTANCES_BROADCAST"), (0, u "Lcom/example/portcall/portcall/codec/Request$Kind;"), (2, u "ALL_INSTANCES_UNICAST"), (2, u "ONE_INSTANCE"), (2, u "ADMIN"), (2, u "$VALUES"), (0, u "[Lcom/example/portcall/portcall/codec/Request$Kind;"), (6, .class_ 30), (1, u "java/lang/Enum"), (8, u "named"), (0, u "Z"), (2, u "prefix"), (0, u "[B")] 38

/-- com/example/portcall/portcall/codec/Request$Kind -/
def k6 : Class := { plain "com/example/portcall/portcall/codec/Request$Kind" (some 5) with
  accessFlags := 16433
  interfaces := #[]
  cf := some (fileOf pool6 3 #[.nestHost 1] #[] 16433 28 #[] #[{ accessFlags := 16409, nameIndex := 7, descriptorIndex := 8, attributes := #[] }, { accessFlags := 16409, nameIndex := 11, descriptorIndex := 8, attributes := #[] }, { accessFlags := 16409, nameIndex := 14, descriptorIndex := 8, attributes := #[] }, { accessFlags := 16409, nameIndex := 17, descriptorIndex := 8, attributes := #[] }, { accessFlags := 18, nameIndex := 39, descriptorIndex := 40, attributes := #[] }, { accessFlags := 18, nameIndex := 43, descriptorIndex := 44, attributes := #[] }, { accessFlags := 4122, nameIndex := 20, descriptorIndex := 21, attributes := #[] }])
  fields := #[{ name := "ALL_INSTANCES_BROADCAST", type := (.object "com/example/portcall/portcall/codec/Request$Kind"), accessFlags := 16409, slot := 0, constantValue := 0 }, { name := "ALL_INSTANCES_UNICAST", type := (.object "com/example/portcall/portcall/codec/Request$Kind"), accessFlags := 16409, slot := 1, constantValue := 0 }, { name := "ONE_INSTANCE", type := (.object "com/example/portcall/portcall/codec/Request$Kind"), accessFlags := 16409, slot := 2, constantValue := 0 }, { name := "ADMIN", type := (.object "com/example/portcall/portcall/codec/Request$Kind"), accessFlags := 16409, slot := 3, constantValue := 0 }, { name := "named", type := .boolean, accessFlags := 18, slot := 3, constantValue := 0 }, { name := "prefix", type := (.array .byte), accessFlags := 18, slot := 4, constantValue := 0 }, { name := "$VALUES", type := (.array (.object "com/example/portcall/portcall/codec/Request$Kind")), accessFlags := 4122, slot := 4, constantValue := 0 }]
  methods := #[]
  instanceTypes := #[(.object "java/lang/String"), .int, .int, .boolean, (.array .byte)]
  staticTypes := #[(.object "com/example/portcall/portcall/codec/Request$Kind"), (.object "com/example/portcall/portcall/codec/Request$Kind"), (.object "com/example/portcall/portcall/codec/Request$Kind"), (.object "com/example/portcall/portcall/codec/Request$Kind"), (.array (.object "com/example/portcall/portcall/codec/Request$Kind"))]
  resolved := Array.replicate 83 none
  statics := some 0 }

def pool7 : Array CpInfo := pool [(2, .class_ 4), (1, u "java/lang/Object"), (0, u "<init>"), (0, u "()V"), (1, .class_ 10), (1, u "com/example/portcall/portcall/codec/Request$Kind"), (2, .fieldref 8 14), (0, .nameAndType 15 16), (0, u "prefix"), (0, u "[B"), (12, .class_ 31), (1, u "com/example/portcall/portcall/codec/Request"), (0, u "named"), (50, u "KINDS"), (0, u "[Lcom/example/portcall/portcall/codec/Request$Kind;"), (7, .fieldref 8 93), (0, .nameAndType 32 94), (0, u "Z"), (4, u "MAX_NAME_BYTES"), (0, u "I"), (2, u "TERMINATOR"), (0, u "B"), (13, u "nameLength"), (0, u "(Lcom/example/portcall/portcall/codec/Request$Kind;I)I")] 24

def k7m0 : Method := { name := "<init>", desc := "()V", sig := { parameters := [], returnType := none }, accessFlags := 2, code := none }
def k7c1 : Code := { maxStack := 2, maxLocals := 2, code := prog_8_method_8_code, exceptionTable := #[], attributes := #[] }
def k7m1 : Method := { name := "nameLength", desc := "(Lcom/example/portcall/portcall/codec/Request$Kind;I)I", sig := { parameters := [(.object "com/example/portcall/portcall/codec/Request$Kind"), .int], returnType := some .int }, accessFlags := 9, code := some k7c1 }
/-- com/example/portcall/portcall/codec/Request -/
def k7 : Class := { plain "com/example/portcall/portcall/codec/Request" (some 0) with
  accessFlags := 49
  interfaces := #[]
  cf := some (fileOf pool7 29 #[.nestMembers #[8]] #[{ accessFlags := 2, nameIndex := 5, descriptorIndex := 6, attributes := #[] }, { accessFlags := 9, nameIndex := 118, descriptorIndex := 119, attributes := #[] }] 49 2 #[] #[{ accessFlags := 25, nameIndex := 99, descriptorIndex := 100, attributes := #[] }, { accessFlags := 26, nameIndex := 103, descriptorIndex := 104, attributes := #[] }, { accessFlags := 26, nameIndex := 83, descriptorIndex := 84, attributes := #[] }])
  fields := #[{ name := "MAX_NAME_BYTES", type := .int, accessFlags := 25, slot := 0, constantValue := 0 }, { name := "TERMINATOR", type := .byte, accessFlags := 26, slot := 1, constantValue := 0 }, { name := "KINDS", type := (.array (.object "com/example/portcall/portcall/codec/Request$Kind")), accessFlags := 26, slot := 2, constantValue := 0 }]
  methods := #[k7m0, k7m1]
  instanceTypes := #[]
  staticTypes := #[.int, .byte, (.array (.object "com/example/portcall/portcall/codec/Request$Kind"))]
  resolved := ((Array.replicate 144 none).setIfInBounds 92 (some (.field 6 4))).setIfInBounds 13 (some (.field 6 5))
  statics := none }

def pool8 : Array CpInfo := pool [(1, u "java/lang/Cloneable"), (0, .class_ 1), (0, u "java/lang/Object"), (0, .class_ 3)] 3

/-- java/lang/Cloneable -/
def k8 : Class := { plain "java/lang/Cloneable" (some 0) with
  accessFlags := 1537
  interfaces := #[]
  cf := some (fileOf pool8 2 #[] #[] 1537 4 #[] #[])
  fields := #[]
  methods := #[]
  instanceTypes := #[]
  staticTypes := #[]
  resolved := Array.replicate 8 none
  statics := none }

/-- the primitive byte -/
def k9 : Class := { plain "byte" none with kind := .primitive 'B', accessFlags := 0x411 }
/-- [B -/
def k10 : Class := { plain "[B" (some 0) with kind := .array 9 .byte, interfaces := #[8, 4], accessFlags := 1041 }

/-- the primitive int -/
def k11 : Class := { plain "int" none with kind := .primitive 'I', accessFlags := 0x411 }
/-- [I -/
def k12 : Class := { plain "[I" (some 0) with kind := .array 11 .int, interfaces := #[8, 4], accessFlags := 1041 }

def heap : Heap := #[{ cls := 6, slots := #[.ref 1, .ref 2, .ref 4, .ref 3, .null], vm := .statics 6 },
  { cls := 6, slots := #[.null, .int 0, .int 0, .int 0, .ref 5], vm := .none },
  { cls := 6, slots := #[.null, .int 0, .int 0, .int 0, .ref 6], vm := .none },
  { cls := 6, slots := #[.null, .int 0, .int 0, .int 1, .ref 7], vm := .none },
  { cls := 6, slots := #[.null, .int 0, .int 0, .int 1, .ref 8], vm := .none },
  { cls := 10, slots := #[.int 1], vm := .none },
  { cls := 10, slots := #[.int 1], vm := .none },
  { cls := 10, slots := #[.int 1, .int 1], vm := .none },
  { cls := 10, slots := #[.int 1], vm := .none }]
def classes : Array Class := #[k0, k1, k2, k3, k4, k5, k6, k7, k8, k9, k10, k11, k12]
def interned : List (Array UInt16 × Addr) := []
def slotsUsed : Nat := 30
def theMethod : MethodId := ⟨1, 1⟩
def args0 : Array Value := #[.int 5, .int 6, .int 7]
def aboutOver (below : List Frame) : State where
  vm := { classes := classes, interned := interned.toArray }
  heap := heap
  slotsUsed := slotsUsed
  threads := #[{ frames := .invoking theMethod args0 :: below }]
def below0 : List Frame := [.native { method := ⟨0, 0⟩, args := #[] }]
def about1 : State := aboutOver below0
def p0 : Program := .bare "" "" ""
def e0 : Env := launch0.env 0 0 0
theorem w_frames : about1.frames = Frame.invoking theMethod args0 :: below0 := rfl
set_option maxRecDepth 65536 in
theorem w_args : argsFit about1.vm theMethod args0 = true := by decide +kernel
set_option maxRecDepth 65536 in
theorem w_heap : heapFits about1 = true := by decide +kernel
set_option maxRecDepth 65536 in
theorem w_runnable : about1.curStatus? = some .runnable := by decide +kernel
set_option maxRecDepth 65536 in
theorem w_alone : about1.alone = true := by decide +kernel
set_option maxRecDepth 65536 in
theorem w_named : about1.methodNamed? x = some theMethod := by decide +kernel
set_option maxRecDepth 65536 in
theorem w_hears : about1.hears theMethod below0 = true := by decide +kernel
set_option maxRecDepth 65536 in
theorem w_ripe : about1.ripe theMethod args0 below0 = true := by decide +kernel
theorem w_running : about1.status = .running := rfl
set_option maxRecDepth 65536 in
theorem w_room : about1.hasRoom e0.platform room_1 = true :=
  launch0.hasRoom_least _ room_1 (by decide +kernel) (by decide +kernel) (by decide +kernel) (by decide +kernel) (by decide +kernel) (by decide +kernel)
theorem allAtoms_all (ts : List Jvm.Cond) (a : Array Jvm.Value) (st : Jvm.State) : (allAtoms ts).before a st = ts.all (fun c => c.before a st) := by
  induction ts with
  | nil => rfl
  | cons c t ih =>
    show (Jvm.Cond.and c (allAtoms t)).before a st = _
    rw [Jvm.Cond.before_and, ih, List.all_cons]
def words1 : List Jvm.Cond := Jvm.Cond.code x code maxLocals ret :: tables_1
/-- a 'code' word, met by the world's own term for the bytes: nothing is compared byte by byte -/
theorem code_word {y : MethodName} {bytes : ByteArray} {mx : Nat} {rt : Option FieldType} {a : Array Value} {s : State} {m : MethodId} {meth : Method} {c : Code} (h1 : s.methodNamed? y = some m) (h2 : s.vm.method? m = some meth) (h3 : meth.code = some c) (h4 : c.code = bytes)
    (h5 : (c.maxLocals == mx && c.exceptionTable.isEmpty && decide (c.maxStack ≤ mostOperands) && decide (meth.sig.returnType = rt) && !meth.locks && decide (parseMethodDescriptor y.desc = some meth.sig)) = true) : (Jvm.Cond.code y bytes mx rt).before a s = true := by
  simp only [Bool.and_eq_true, beq_iff_eq, Bool.not_eq_true', decide_eq_true_eq] at h5
  obtain ⟨⟨⟨⟨⟨g1, g2⟩, g3⟩, g4⟩, g5⟩, g6⟩ := h5
  simp [Cond.before, Cond.holds, Cond.value, h1, h2, h3, h4, g1, g2, g3, g4, g5, g6]
def isCode : Jvm.Cond → Bool
  | .code _ _ _ _ => true
  | _ => false
theorem all_split {L : List Jvm.Cond} {P : Jvm.Cond → Bool} (h1 : L.all (fun c => isCode c || P c) = true) (h2 : ∀ c ∈ L.filter isCode, P c = true) : L.all P = true := by
  refine List.all_eq_true.mpr fun c hc => ?_
  have h := List.all_eq_true.mp h1 c hc
  rcases Bool.eq_false_or_eq_true (isCode c) with hi | hi
  · exact h2 c (List.mem_filter.mpr ⟨hc, hi⟩)
  · simpa [hi] using h
set_option maxRecDepth 65536 in
theorem w_c0 : (Jvm.Cond.code x code maxLocals ret).before args0 about1 = true := code_word (m := ⟨1, 1⟩) (meth := k1m1) (c := k1c1) (by decide +kernel) rfl rfl rfl (by decide +kernel)
set_option maxRecDepth 65536 in
theorem w_c1 : (Jvm.Cond.code ({ cls := "com/example/portcall/portcall/codec/Request", name := "nameLength", desc := "(Lcom/example/portcall/portcall/codec/Request$Kind;I)I" } : Jvm.MethodName) prog_8_method_8_code (2 : Nat) (Option.some Jvm.ClassFile.FieldType.int)).before args0 about1 = true := code_word (m := ⟨7, 1⟩) (meth := k7m1) (c := k7c1) (by decide +kernel) rfl rfl rfl (by decide +kernel)
def codes1 : List Jvm.Cond := [Jvm.Cond.code x code maxLocals ret, Jvm.Cond.code ({ cls := "com/example/portcall/portcall/codec/Request", name := "nameLength", desc := "(Lcom/example/portcall/portcall/codec/Request$Kind;I)I" } : Jvm.MethodName) prog_8_method_8_code (2 : Nat) (Option.some Jvm.ClassFile.FieldType.int)]
set_option maxRecDepth 65536 in
theorem codes_eq : words1.filter isCode = codes1 := rfl
theorem w_codes : ∀ c ∈ words1.filter isCode, c.before args0 about1 = true := by
  rw [codes_eq]
  intro c hc
  simp only [codes1, List.mem_cons, List.not_mem_nil, or_false] at hc
  rcases hc with rfl | rfl
  · exact w_c0
  · exact w_c1
set_option maxRecDepth 65536 in
theorem w_t1 : words1.all (fun c => isCode c || c.before args0 about1) = true := by decide +kernel
theorem w_tables : (allAtoms (Jvm.Cond.code x code maxLocals ret :: tables_1)).before args0 about1 = true := by
  rw [allAtoms_all]
  show words1.all (fun c => c.before args0 about1) = true
  refine all_split ?_ w_codes
  rw [w_t1]
set_option maxRecDepth 65536 in
theorem w_case : (Jvm.Cond.and given_1 narrow_1).before args0 about1 = true := by decide +kernel
theorem w_applies : (headSpec (Jvm.Cond.code x code maxLocals ret :: tables_1) room_1).applies x e0.platform about1 = true :=
  (Spec.applies_iff w_frames).mpr ⟨w_running, w_runnable, w_alone, w_named, w_hears, w_ripe, w_room, w_tables⟩
theorem atStart : AtStart classFile x code maxLocals ret World_1 tables_1 room_1 Calls_1 rest_1 Pre_1 launch0 p0 e0 about1 theMethod args0 below0 :=
  ⟨lists_1, trivial, launch0.admits_env _ _ _, launch0.least_env, fairChoices_fair.cas, fairChoices_fair.clock, w_frames, w_args, w_heap, w_applies, trivial, trivial, w_case⟩
end start1
theorem witness_1 : WitnessClaimed_1 := ⟨start1.p0, start1.e0, start1.about1, start1.theMethod, start1.args0, start1.below0, start1.atStart⟩
end Jvm.Pilot.@@N@@
