import JvmDerived
import JvmDerived.Pilot.@@N@@Statement
import JvmDerived.Pilot.@@N@@Code
set_option linter.unusedVariables false
set_option linter.unusedSimpArgs false

namespace Jvm.Pilot.@@N@@
open Jvm Jvm.ClassFile Sem Op Lib Jvm.Free Jvm.Stand Jvm.LawKit Jvm.RoadKit Bundle Jvm.Pilot.@@N@@.Jvm.D
/-- the run from A comes to a state of which P holds -/
def own_Go (tb : Tables) (e : Env) (below : List Frame) (P : State → Prop) (A : State) : Prop := ∃ U, Steps tb e below A U ∧ P U
theorem own_go {tb : Tables} {e : Env} {below : List Frame} {P : State → Prop} {A B : State} (h : ∀ t, Steps tb e below B t → Steps tb e below A t) (k : own_Go tb e below P B) : own_Go tb e below P A := by
  obtain ⟨U, h1, h2⟩ := k; exact ⟨U, h U h1, h2⟩
theorem own_goT {tb : Tables} {e : Env} {below : List Frame} {P : State → Prop} {A B : State} (h : Steps tb e below A B) (k : own_Go tb e below P B) : own_Go tb e below P A := by
  obtain ⟨U, h1, h2⟩ := k; exact ⟨U, h.trans h1, h2⟩
/-- the body's end: it returned, and Q says of what -/
def own_End (s : State) (below : List Frame) (Q : Option Value → Heap → List Loc → Prop) (cells slots : Nat) (t : State) : Prop := ∃ o, t.status = .running ∧ Ended t below o ∧ ∃ v L, o = .returned v ∧ Q v t.heap L ∧ FrameEnd s o t L cells slots
theorem own_body {tb : Tables} {e : Env} {below : List Frame} {s A : State} {Q : Option Value → Heap → List Loc → Prop} {cells slots : Nat} (k : own_Go tb e below (own_End s below Q cells slots) A) :
    ∃ s₂ o, Steps tb e below A s₂ ∧ s₂.status = .running ∧ Ended s₂ below o ∧ ∃ v L, o = .returned v ∧ Q v s₂.heap L ∧ FrameEnd s o s₂ L cells slots := by
  obtain ⟨U, h1, o, h2, h3, h4⟩ := k; exact ⟨U, o, h1, h2, h3, h4⟩
theorem own_ret {p : Program} {l : Launch} {e : Env} {R : Room} {s : State} {m : MethodId} {args : Array Value} {below : List Frame} {meth : Method} {c : Code} {T A : State} {locs : List Loc} {cells slots : Nat} {Q : Option Value → Heap → List Loc → Prop} {cs ss : Nat}
    (X : Stand p l e R s m args below meth c T locs cells slots) (hlk : meth.locks = false) {v : Option Value} (hv : meth.sig.returnType = none → v = none)
    (hst : ∀ fs : List Frame, (∀ (f : JFrame) (acts : List Action), f.method = m → f.locked = none → f.entered = [] → (doReturn e (T.setTop f) acts v).1 = T.setFrames fs) → Steps p.tables e below A (T.setFrames fs))
    (hQ : Q v T.heap locs) (hc : cells ≤ cs) (hs : slots ≤ ss) : own_Go p.tables e below (own_End s below Q cs ss) A := by
  obtain ⟨fs, hr, hrun, hended, hW, hsame⟩ := X.leave (v := v) hv hlk
  exact ⟨_, hst fs hr, _, hrun, hended, _, _, rfl, hQ, ⟨_, rfl⟩, hW, hsame.mono hc hs⟩
theorem own_ef (m : MethodId) (as : Array Value) (n : Nat) (Ls : Array Slot) (h : argsToLocals as n = Ls) : entryFrame m as n = mkF m 0 Ls [] := by rw [← h]; rfl
/-- a body's contract in this family -/
abbrev own_Met (l : Launch) (Z : State) (ws : List Jvm.Cond) (y : MethodName) (bytes : ByteArray) (maxL : Nat) (ret : Option FieldType) (rm : Room) (as : Array Value) (h0 : Heap) (Q : Option Value → Heap → List Loc → Prop) : Prop :=
  MetFree l y (head1 (Jvm.Cond.code y bytes maxL ret :: ws) rm) (fun a U => a = as ∧ Z.Warmed39 U.vm ∧ U.heap = h0) (fun _ _ _ _ _ => True) (fun _ U o U' => ∃ v L, o = .returned v ∧ Q v U'.heap L ∧ FrameEnd U o U' L rm.cells rm.slots)
theorem own_sta_keep {Z : State} {h h' : Heap} {C n d : String} {v : Value} {ws : List Addr} (F : Sta Z h C n d v) (K : Keep h h' ws) (q : ∀ a ∈ ws, ∃ C', Exa Z h a C') : Sta Z h' C n d v := by
  obtain ⟨cf, i, k, f, st, cell, h1, h2, h3, h4, h5, h6, h7⟩ := F
  refine ⟨cf, i, k, f, st, cell, h1, h2, h3, h4, K.2.1 st cell h5 fun hm => ?_, h6, h7⟩
  obtain ⟨C', cell', k', e1, -, -, e4, -⟩ := q st hm
  cases h5.symm.trans e1
  rw [e4] at h6; cases h6
theorem own_back {p : Program} {l : Launch} {e : Env} {R : Room} {s : State} {args : Array Value} {below : List Frame} {Z : State} {a0 : Array Value} {h : Heap} {y : MethodName} {bytes : ByteArray} {maxL : Nat} {ret : Option FieldType} {rm : Room} {len W : Nat} {as' : Array Value} {Q : Option Value → Heap → List Loc → Prop}
    (hM : own_Met l Z [] y bytes maxL ret rm as' h Q) (hZ : Z.Warmed39 s.vm) (wc : (Cond.code y bytes maxL ret).before a0 Z = true) (wz : (Cond.initialized y.cls).before a0 Z = true) (hf : rm.frames + 1 ≤ R.frames) (hl : W + (maxL + 11) + rm.locals ≤ R.locals) :
    Back l R p e below s args y len W (fun A a => a = as' ∧ A.U.heap = h ∧ A.cells + rm.cells ≤ R.cells ∧ A.slots + rm.slots ≤ R.slots)
      (fun A _ v B => ∃ L, Q v B.U.heap L ∧ B.locs = A.locs ++ L ∧ B.cells = A.cells + rm.cells ∧ B.slots = A.slots + rm.slots) :=
  backOf (Q := Q) hM hZ wc wz hf hl
theorem own_hp {T : State} {h : Heap} {a : Addr} {cl : Cell} (eT : T.heap = h) (h1 : h[a]? = some cl) : T.heap[a]? = some cl := by rw [eT]; exact h1
def own_asl : List Value → List Slot
  | [] => []
  | v :: r => if v.category = 2 then .val v :: .second :: own_asl r else .val v :: own_asl r
def own_apu (acc : Array Slot) (v : Value) : Array Slot := if v.category = 2 then (acc.push (.val v)).push .second else acc.push (.val v)
theorem own_al1 (l : List Value) (a : Array Slot) : (l.foldl own_apu a).toList = a.toList ++ own_asl l := by
  induction l generalizing a with
  | nil => simp [own_asl]
  | cons v r ih =>
    rw [List.foldl_cons, ih]
    by_cases h : v.category = 2 <;> simp [own_asl, own_apu, h]
theorem own_al (l : List Value) (n : Nat) (L : List Slot) (h : own_asl l ++ List.replicate (n - (own_asl l).length) .unset = L) : argsToLocals l.toArray n = L.toArray := by
  have q : argsToLocals l.toArray n = l.foldl own_apu #[] ++ Array.replicate (n - (l.foldl own_apu #[]).size) .unset := by
    rw [← List.foldl_toArray]; rfl
  have k := own_al1 l #[]
  rw [q, ← h]
  apply Array.toList_inj.mp
  rw [Array.toList_append, k, ← Array.length_toList, k]; simp
theorem own_cst {p : Program} {l : Launch} {e : Env} {R : Room} {s : State} {m : MethodId} {args : Array Value} {below : List Frame} {meth : Method} {c : Code} {T : State} {L L' : List Loc} {k n k' n' k2 n2 : Nat}
    (X : Stand p l e R s m args below meth c T L k n) (hl : L = L') (hk : k = k') (hn : n = n') (h1 : k' = k2) (h2 : n' = n2) : Stand p l e R s m args below meth c T L' k2 n2 := by
  subst hl hk hn h1 h2; exact X
theorem own_eqi {args : Array Value} {s : State} {t : Term} {k : Int32} (h : (Jvm.Cond.eq t (.int k)).value args s none s [] = some true) : t.eval args s none [] s = some (.int k) := by
  simp only [Cond.value, Term.eval] at h
  cases ht : t.eval args s none [] s with
  | none => simp [ht] at h
  | some x => cases x <;> simp [ht] at h ⊢; exact h
theorem own_eqr {args : Array Value} {s : State} {t u : Term} {a : Addr} (h : (Jvm.Cond.eq t u).value args s none s [] = some true) (hu : u.eval args s none [] s = some (.ref a)) : t.eval args s none [] s = some (.ref a) := by
  simp only [Cond.value] at h
  cases ht : t.eval args s none [] s with
  | none => simp [ht] at h
  | some x => cases x <;> simp [ht, hu] at h ⊢; exact h
theorem own_fld {args : Array Value} {s : State} {t : Term} {a : Addr} {C n d : String} {v : Value} (ht : t.eval args s none [] s = some (.ref a)) (h : (Term.field t C n d).eval args s none [] s = some v) : Fld s s.heap a C n d v :=
  Fld.start (by rw [fld_at ht] at h; exact h)
theorem own_len {args : Array Value} {s : State} {t : Term} {a : Addr} {cl : Cell} {ty : FieldType} {k : Int32} (A : Arr s s.heap a cl ty) (ht : t.eval args s none [] s = some (.ref a)) (h : (Term.length t).eval args s none [] s = some (.int k)) : cl.slots.size < 2 ^ 31 ∧ cl.slots.size.toInt32 = k := by
  have ha : s.arrayAt? a = some cl := A.fin (Vm.Alike.refl _)
  by_cases hl : cl.slots.size < 2 ^ 31
  · rw [len_f ht ha hl] at h; exact ⟨hl, by injection h with h; injection h⟩
  · simp [Term.eval, ht, ha, hl] at h
theorem own_elem {args : Array Value} {s : State} {t : Term} {a : Addr} {cl : Cell} {ty : FieldType} {j : Int32} {v : Value} (ht : t.eval args s none [] s = some (.ref a)) (A : Arr s s.heap a cl ty) (h : (Term.elem t (.int j)).eval args s none [] s = some v) : cl.slots[j.toNatClampNeg]? = some v :=
  (elem_in h ht (Term.int_eval j) A.1).2
theorem own_getR {p : Program} {l : Launch} {e : Env} {R : Room} {s : State} {m : MethodId} {args : Array Value} {below : List Frame} {meth : Method} {c : Code} {T : State} {locs : List Loc} {cells slots : Nat} {Z : State} {a0 : Array Value} {h : Heap}
    (X : Stand p l e R s m args below meth c T locs cells slots) (hx : p.tables.exec = Jvm.exec) (hZ : Z.Warmed39 s.vm) {own C n d : String} {index : Nat} (hown : s.vm.findClass own = some m.cls) (w : (Cond.fieldRef own index C n d).before a0 Z = true)
    (eT : T.heap = h) {a : Addr} {v : Value} (F : Fld Z h a C n d v) {g : JFrame} (hg : g.method = m) {rest : List Value} (hs : g.stack = .ref a :: rest) (hd : decode c.code g.pc = .ok (.getfield index, 3)) :
    ∀ target, Steps p.tables e below (T.setTop { g with pc := g.pc + 3, stack := v :: rest }) target → Steps p.tables e below (T.setTop g) target := by
  obtain ⟨cell, cf, k, i, f, h1, h2, h3, h4, h5, h6, h7⟩ := F
  have hT : Z.Warmed39 T.vm := wtrans hZ X.warmed
  have w2 : (Cond.fieldRef own index C n d).before a0 (Z.setVm T.vm) = true := Cond.fieldRef_warmed39 hT w
  have hcur : (Z.setVm T.vm).vm.findClass own = some m.cls := by
    show T.vm.findClass own = _
    rw [X.warmed.alike.findClass]; exact hown
  obtain ⟨c1, k1, i1, f1, q1, q2⟩ := Cond.fieldRef_spec hcur w2
  obtain ⟨k', q3, -⟩ := State.fieldFound?_setVm (s := Z) hT.alike h2
  cases q1.symm.trans q3
  have q4 : T.vm.fieldReady m.cls index cf f := q2
  have hc : T.heap[a]? = some cell := by rw [eT]; exact h1
  intro target hrest
  subst hg
  jvm_step X.here [hx, hd, getfield.wp_ready (e := e) (s := T) (f := g) X.here.top q4 h3 hs hc h4 h7]
  exact hrest

theorem own_pk (x : Int32) : 0 ≤ (nar .char ((x &&& 255).toUInt32.toUInt16.toUInt32.toInt32)).toInt ∧ (nar .char ((x &&& 255).toUInt32.toUInt16.toUInt32.toInt32)).toInt < 256 := by
  have a1 := c_mask x 255 8 (by decide) (by decide)
  have a2 := c_i2c (x &&& 255); have a3 := c_i2c ((x &&& 255).toUInt32.toUInt16.toUInt32.toInt32)
  have e : nar .char ((x &&& 255).toUInt32.toUInt16.toUInt32.toInt32) = ((x &&& 255).toUInt32.toUInt16.toUInt32.toInt32).toUInt32.toUInt16.toUInt32.toInt32 := rfl
  rw [e]; omega
theorem own_nc {c : Int32} (h1 : 0 ≤ c.toInt) (h2 : c.toInt < 256) : (nar .char c).toInt = c.toInt := by
  have a := c_i2c c
  have e : nar .char c = c.toUInt32.toUInt16.toUInt32.toInt32 := rfl
  rw [e]; omega
theorem own_lat {c : Int32} (h1 : 0 ≤ c.toInt) (h2 : c.toInt < 256) : ¬ (255 : Int32) < nar .char c := by
  rw [Int32.lt_iff_toInt_lt, own_nc h1 h2]; have e : (255 : Int32).toInt = 255 := rfl
  omega
def own_y (c : Int32) : Int32 := nar .byte ((nar .char c).toInt8.toInt32)
theorem own_yk {c k : Int32} (h1 : 0 ≤ c.toInt) (h2 : c.toInt < 256) (kc : 0 ≤ k.toInt) (k2 : k.toInt < 128) : own_y c = k ↔ c = k := by
  have a := own_nc h1 h2; have b := c_i2b (nar .char c); have d := c_i2b (nar .char c).toInt8.toInt32
  have e : own_y c = (nar .char c).toInt8.toInt32.toInt8.toInt32 := rfl
  rw [← Int32.toInt_inj, ← Int32.toInt_inj, e]; omega
def own_ok (c : Int32) : Int32 := if c = 46 then 0 else if c = 47 then 0 else 1
theorem own_okz (c : Int32) : own_ok c = 0 ↔ (c = 46 ∨ c = 47) := by
  unfold own_ok; by_cases h1 : c = 46
  · simp [h1]
  · by_cases h2 : c = 47
    · simp [h2]
    · simp [h1, h2]
def own_x (ys : List Int32) : Int32 := if (∀ y ∈ ys, ¬ y = 46) ∧ (∀ y ∈ ys, ¬ y = 47) then 1 else 0
theorem own_xA {ys : List Int32} {r : Int32} (h : r < 0 ↔ ∀ y ∈ ys, ¬ y = 46) (hn : ¬ r < 0) : own_x ys = 0 := if_neg (fun q => hn (h.mpr q.1))
theorem own_xB {ys : List Int32} {r : Int32} (h : r < 0 ↔ ∀ y ∈ ys, ¬ y = 47) (hn : ¬ r < 0) : own_x ys = 0 := if_neg (fun q => hn (h.mpr q.2))
theorem own_x1 {ys : List Int32} {r r' : Int32} (h : r < 0 ↔ ∀ y ∈ ys, ¬ y = 46) (h' : r' < 0 ↔ ∀ y ∈ ys, ¬ y = 47) (q : r < 0) (q' : r' < 0) : own_x ys = 1 := if_pos ⟨h.mp q, h'.mp q'⟩
theorem own_xall (cs : List Int32) (hb : ∀ c ∈ cs, 0 ≤ c.toInt ∧ c.toInt < 256) : own_x (cs.map own_y) = if ∀ c ∈ cs, ¬ own_ok c = 0 then 1 else 0 := by
  unfold own_x
  have k : ((∀ y ∈ cs.map own_y, ¬ y = 46) ∧ (∀ y ∈ cs.map own_y, ¬ y = 47)) ↔ ∀ c ∈ cs, ¬ own_ok c = 0 := by
    constructor
    · rintro ⟨p1, p2⟩ c hc q
      obtain ⟨b1, b2⟩ := hb c hc
      rcases (own_okz c).mp q with e | e
      · exact p1 _ (List.mem_map_of_mem hc) ((own_yk b1 b2 (by decide) (by decide)).mpr e)
      · exact p2 _ (List.mem_map_of_mem hc) ((own_yk b1 b2 (by decide) (by decide)).mpr e)
    · intro q
      refine ⟨fun y hy e => ?_, fun y hy e => ?_⟩
      · obtain ⟨c, hc, rfl⟩ := List.mem_map.mp hy
        obtain ⟨b1, b2⟩ := hb c hc
        exact q c hc ((own_okz c).mpr (Or.inl ((own_yk b1 b2 (by decide) (by decide)).mp e)))
      · obtain ⟨c, hc, rfl⟩ := List.mem_map.mp hy
        obtain ⟨b1, b2⟩ := hb c hc
        exact q c hc ((own_okz c).mpr (Or.inr ((own_yk b1 b2 (by decide) (by decide)).mp e)))
  by_cases h : ∀ c ∈ cs, ¬ own_ok c = 0
  · rw [if_pos h, if_pos (k.mpr h)]
  · rw [if_neg h, if_neg (fun q => h (k.mp q))]
/-- contracts of bodies that may intern: the start's String constants are held (CHv), the end is the wide one -/
abbrev own_MetH (l : Launch) (Z : State) (EL : List (String × Nat)) (ws : List Jvm.Cond) (y : MethodName) (bytes : ByteArray) (maxL : Nat) (ret : Option FieldType) (rm : Room) (as : Array Value) (h0 : Heap) (Q : Option Value → Heap → List Loc → Prop) : Prop :=
  MetFree l y (head1 (Jvm.Cond.code y bytes maxL ret :: ws) rm) (fun a U => a = as ∧ Z.Warmed39 U.vm ∧ U.heap = h0 ∧ CHv Z EL U.vm h0) (fun _ _ _ _ _ => True) (fun _ U o U' => ∃ v L, o = .returned v ∧ Q v U'.heap L ∧ ReturnedEndW U o U' L rm.cells rm.slots)
def own_EndW (s : State) (below : List Frame) (Q : Option Value → Heap → List Loc → Prop) (cells slots : Nat) (t : State) : Prop := ∃ o, t.status = .running ∧ Ended t below o ∧ ∃ v L, o = .returned v ∧ Q v t.heap L ∧ ReturnedEndW s o t L cells slots
theorem own_bodyW {tb : Tables} {e : Env} {below : List Frame} {s A : State} {Q : Option Value → Heap → List Loc → Prop} {cells slots : Nat} (k : own_Go tb e below (own_EndW s below Q cells slots) A) :
    ∃ s₂ o, Steps tb e below A s₂ ∧ s₂.status = .running ∧ Ended s₂ below o ∧ ∃ v L, o = .returned v ∧ Q v s₂.heap L ∧ ReturnedEndW s o s₂ L cells slots := by
  obtain ⟨U, h1, o, h2, h3, h4⟩ := k; exact ⟨U, o, h1, h2, h3, h4⟩
theorem own_retV {p : Program} {l : Launch} {e : Env} {R : Room} {s : State} {m : MethodId} {args : Array Value} {below : List Frame} {meth : Method} {c : Code} {T A : State} {locs : List Loc} {cells slots : Nat} {Q : Option Value → Heap → List Loc → Prop} {cs ss : Nat}
    (X : Stand p l e R s m args below meth c T locs cells slots) (hlk : meth.locks = false) {v : Option Value} (hv : meth.sig.returnType = none → v = none)
    (hst : ∀ fs : List Frame, (∀ (f : JFrame) (acts : List Action), f.method = m → f.locked = none → f.entered = [] → (doReturn e (T.setTop f) acts v).1 = T.setFrames fs) → Steps p.tables e below A (T.setFrames fs))
    (hQ : Q v T.heap locs) (hc : cells ≤ cs) (hs : slots ≤ ss) : own_Go p.tables e below (own_EndW s below Q cs ss) A := by
  obtain ⟨fs, hr, hrun, hended, hW, hsame⟩ := X.leave (v := v) hv hlk
  exact ⟨_, hst fs hr, _, hrun, hended, _, _, rfl, hQ, ReturnedEndW.of_narrow ⟨_, rfl⟩ hW (hsame.mono hc hs)⟩
theorem own_retW {p : Program} {l : Launch} {e : Env} {R : Room} {s : State} {m : MethodId} {args : Array Value} {below : List Frame} {meth : Method} {c : Code} {T A : State} {locs : List Loc} {cells slots : Nat} {Q : Option Value → Heap → List Loc → Prop} {cs ss : Nat} {vm1 : Vm} {n : Nat} {h : Heap}
    (X : Stand p l e R (s.setVm vm1) m args below meth c T locs cells slots) (hS : s.Since vm1 n) (eT : T.heap = h) (hn : n ≤ h.size) (hlk : meth.locks = false) {v : Option Value} (hv : meth.sig.returnType = none → v = none)
    (hst : ∀ fs : List Frame, (∀ (f : JFrame) (acts : List Action), f.method = m → f.locked = none → f.entered = [] → (doReturn e (T.setTop f) acts v).1 = T.setFrames fs) → Steps p.tables e below A (T.setFrames fs))
    (hQ : Q v T.heap locs) (hc : cells ≤ cs) (hs : slots ≤ ss) : own_Go p.tables e below (own_EndW s below Q cs ss) A := by
  obtain ⟨fs, hr, hrun, hended, r1, r2, r3, r4⟩ := X.leaveW hS (by rw [eT]; exact hn) (v := v) hv hlk
  exact ⟨_, hst fs hr, _, hrun, hended, _, _, rfl, hQ, r1, r2, r3, r4.mono hc hs⟩
theorem own_backH {p : Program} {l : Launch} {e : Env} {R : Room} {s : State} {args : Array Value} {below : List Frame} {Z : State} {a0 : Array Value} {EL : List (String × Nat)} {h : Heap} {vm0 : Vm} {y : MethodName} {bytes : ByteArray} {maxL : Nat} {ret : Option FieldType} {rm : Room} {len W : Nat} {as' : Array Value} {Q : Option Value → Heap → List Loc → Prop}
    (hM : own_MetH l Z EL [] y bytes maxL ret rm as' h Q) (hZ : Z.Warmed39 vm0) (wc : (Cond.code y bytes maxL ret).before a0 Z = true) (wz : (Cond.initialized y.cls).before a0 Z = true) (hf : rm.frames + 1 ≤ R.frames) (hl : W + (maxL + 11) + rm.locals ≤ R.locals) (hEL : EW Z a0 EL) (H : CHv Z EL vm0 h) :
    BackS l R p e below (s.setVm vm0) args y len W (fun A a => a = as' ∧ A.U.heap = h ∧ A.cells + rm.cells ≤ R.cells ∧ A.slots + rm.slots ≤ R.slots)
      (fun A _ v B => ∃ L, Q v B.U.heap L ∧ B.locs = A.locs ++ L ∧ B.cells = A.cells + rm.cells ∧ B.slots = A.slots + rm.slots) :=
  BackS.of_freeW (bytes := bytes) (maxL := maxL) (ret := ret) (E := fun _ _ o t L k n => k = rm.cells ∧ n = rm.slots ∧ ∃ v, o = .returned v ∧ Q v t.heap L) hM hf hl
    (fun m meth c A a Y hp => have hU : Z.Warmed39 A.U.vm := wtrans (s := s.setVm vm0) hZ Y.warmed
      ⟨by show (Cond.and _ .tt).before a A.U = true; rw [Cond.before_and, mv hU wc]; rfl, mv hU wc, mv hU wz, hp.2.2.1, hp.2.2.2⟩)
    (fun m meth c A a g mk Y hp => ⟨hp.1, wtrans (s := s.setVm vm0) hZ Y.warmed, hp.2.1, (CHv.at Y hZ hEL H).1⟩) (fun _ _ _ _ _ _ _ _ _ => trivial)
    (fun _ _ _ _ ⟨v, L, h1, h2, h3⟩ => ⟨L, _, _, h3, rfl, rfl, v, h1, h2⟩)
    (fun m meth c A a g mk v t L k n Y hp _ _ ⟨e1, e2, v', e3, e4⟩ => by cases e3; subst e1 e2; exact ⟨L, e4, rfl, rfl, rfl⟩)
theorem own_fne {Z : State} {h : Heap} {x y : Addr} {C n d : String} {v w : Value} (F : Fld Z h x C n d v) (G : Fld Z h y C n d w) (hvw : v ≠ w) : x ≠ y := fun q => by
  subst q
  obtain ⟨cell, cf, k, i, f, h1, h2, h3, h4, h5, h6, h7⟩ := F
  obtain ⟨cell', cf', k', i', f', g1, g2, g3, g4, g5, g6, g7⟩ := G
  cases h1.symm.trans g1; cases h2.symm.trans g2
  exact hvw (Option.some.inj (h7.symm.trans g7))
theorem own_sat : Bundle.stringAtoms = [.initialized "java/lang/String", .instantiable "java/lang/String" 4, .arrayClass .byte, .laysFinal "java/lang/String" "java/lang/String" "value" "[B", .laysFinal "java/lang/String" "java/lang/String" "coder" "B", .soleField "java/lang/String" "value", .soleField "java/lang/String" "coder"] := rfl
abbrev own_MetS (l : Launch) (Z : State) (EL : List (String × Nat)) (SF : List Addr) (ws : List Jvm.Cond) (y : MethodName) (bytes : ByteArray) (maxL : Nat) (ret : Option FieldType) (rm : Room) (as : Array Value) (h0 : Heap) (Q : Option Value → Heap → List Loc → Prop) : Prop :=
  MetFree l y (head1 (Jvm.Cond.code y bytes maxL ret :: ws) rm) (fun a U => a = as ∧ Z.Warmed39 U.vm ∧ U.heap = h0 ∧ CHv Z EL U.vm h0 ∧ ∀ x ∈ SF, x < h0.size ∧ Safe Z EL U.vm h0 x) (fun _ _ _ _ _ => True) (fun _ U o U' => ∃ v L, o = .returned v ∧ Q v U'.heap L ∧ ReturnedEndW U o U' L rm.cells rm.slots)
theorem own_backT {p : Program} {l : Launch} {e : Env} {R : Room} {s : State} {args : Array Value} {below : List Frame} {Z : State} {a0 : Array Value} {EL : List (String × Nat)} {SF : List Addr} {h : Heap} {vm0 : Vm} {y : MethodName} {bytes : ByteArray} {maxL : Nat} {ret : Option FieldType} {rm : Room} {len W : Nat} {as' : Array Value} {Q : Option Value → Heap → List Loc → Prop}
    (hM : own_MetS l Z EL SF [] y bytes maxL ret rm as' h Q) (hZ : Z.Warmed39 vm0) (wc : (Cond.code y bytes maxL ret).before a0 Z = true) (wz : (Cond.initialized y.cls).before a0 Z = true) (hf : rm.frames + 1 ≤ R.frames) (hl : W + (maxL + 11) + rm.locals ≤ R.locals) (hEL : EW Z a0 EL) (H : CHv Z EL vm0 h) (hSF : ∀ x ∈ SF, x < h.size ∧ Safe Z EL vm0 h x) :
    BackS l R p e below (s.setVm vm0) args y len W (fun A a => a = as' ∧ A.U.heap = h ∧ A.cells + rm.cells ≤ R.cells ∧ A.slots + rm.slots ≤ R.slots)
      (fun A _ v B => ∃ L, Q v B.U.heap L ∧ B.locs = A.locs ++ L ∧ B.cells = A.cells + rm.cells ∧ B.slots = A.slots + rm.slots) :=
  BackS.of_freeW (bytes := bytes) (maxL := maxL) (ret := ret) (E := fun _ _ o t L k n => k = rm.cells ∧ n = rm.slots ∧ ∃ v, o = .returned v ∧ Q v t.heap L) hM hf hl
    (fun m meth c A a Y hp => have hU : Z.Warmed39 A.U.vm := wtrans (s := s.setVm vm0) hZ Y.warmed
      ⟨by show (Cond.and _ .tt).before a A.U = true; rw [Cond.before_and, mv hU wc]; rfl, mv hU wc, mv hU wz, hp.2.2.1, hp.2.2.2⟩)
    (fun m meth c A a g mk Y hp => ⟨hp.1, wtrans (s := s.setVm vm0) hZ Y.warmed, hp.2.1, (CHv.at Y hZ hEL H).1, fun x hx => ⟨(hSF x hx).1, (CHv.at Y hZ hEL H).safe (hSF x hx).1 (hSF x hx).2⟩⟩) (fun _ _ _ _ _ _ _ _ _ => trivial)
    (fun _ _ _ _ ⟨v, L, h1, h2, h3⟩ => ⟨L, _, _, h3, rfl, rfl, v, h1, h2⟩)
    (fun m meth c A a g mk v t L k n Y hp _ _ ⟨e1, e2, v', e3, e4⟩ => by cases e3; subst e1 e2; exact ⟨L, e4, rfl, rfl, rfl⟩)

def own_gc (a b : Int32) : Int32 := nar .char (((((a &&& 255) <<< ((0 : Int32) &&& 31)) ||| ((b &&& 255) <<< ((8 : Int32) &&& 31))).toUInt32.toUInt16.toUInt32.toInt32))
theorem own_gcx {x : Int32} (h1 : 0 ≤ x.toInt) (h2 : x.toInt < 65536) : own_gc (nar .byte ((x >>> ((0 : Int32) &&& 31)).toInt8.toInt32)) (nar .byte ((x >>> ((8 : Int32) &&& 31)).toInt8.toInt32)) = x := by
  have s0 : x >>> ((0 : Int32) &&& 31) = x := by
    apply Int32.toBitVec_inj.mp; show x.toBitVec.sshiftRight' _ = _; simp
  have z0 : ∀ y : Int32, y <<< ((0 : Int32) &&& 31) = y := fun y => by
    apply Int32.toBitVec_inj.mp; show y.toBitVec <<< _ = _; simp
  unfold own_gc
  rw [s0, z0]
  have a1 := c_i2b x; have a2 := c_i2b x.toInt8.toInt32
  have a3 := c_mask (nar .byte x.toInt8.toInt32) 255 8 (by decide) (by decide)
  have e1 : nar .byte x.toInt8.toInt32 = x.toInt8.toInt32.toInt8.toInt32 := rfl
  have b0 := c_ishr x 8 8 (by decide)
  generalize x >>> ((8 : Int32) &&& 31) = q at b0 ⊢
  have b1 := c_i2b q; have b2 := c_i2b q.toInt8.toInt32
  have b3 := c_mask (nar .byte q.toInt8.toInt32) 255 8 (by decide) (by decide)
  have e2 : nar .byte q.toInt8.toInt32 = q.toInt8.toInt32.toInt8.toInt32 := rfl
  rw [← e1] at a2; rw [← e2] at b2
  generalize nar .byte x.toInt8.toInt32 &&& 255 = u at a3 ⊢
  generalize nar .byte q.toInt8.toInt32 &&& 255 = w at b3 ⊢
  have c1 := c_ishl w 8 8 (by decide); have r1 := rng32 (w <<< ((8 : Int32) &&& 31))
  have c2 := c_or' u (w <<< ((8 : Int32) &&& 31)) 8 (by decide) 256 rfl (by omega) (by omega) (by omega)
  have r2 := rng32 (u ||| (w <<< ((8 : Int32) &&& 31)))
  generalize u ||| (w <<< ((8 : Int32) &&& 31)) = o at c2 r2 ⊢
  have d1 := c_i2c o; have d2 := c_i2c (o.toUInt32.toUInt16.toUInt32.toInt32)
  apply Int32.toInt_inj.mp
  show ((o.toUInt32.toUInt16.toUInt32.toInt32).toUInt32.toUInt16.toUInt32.toInt32).toInt = x.toInt
  omega

def own_lc (y : Int32) : Int32 := nar .char ((y &&& 255).toUInt32.toUInt16.toUInt32.toInt32)
theorem own_lcx {x : Int32} (h1 : 0 ≤ x.toInt) (h2 : ¬ (255 : Int32) < x) : own_lc (nar .byte (x.toInt8.toInt32)) = x := by
  have e255 : (255 : Int32).toInt = 255 := rfl
  rw [Int32.lt_iff_toInt_lt, e255] at h2
  unfold own_lc
  have a1 := c_i2b x; have a2 := c_i2b x.toInt8.toInt32
  have a3 := c_mask (nar .byte x.toInt8.toInt32) 255 8 (by decide) (by decide)
  have e1 : nar .byte x.toInt8.toInt32 = x.toInt8.toInt32.toInt8.toInt32 := rfl
  rw [← e1] at a2
  generalize nar .byte x.toInt8.toInt32 &&& 255 = u at a3 ⊢
  have d1 := c_i2c u; have d2 := c_i2c (u.toUInt32.toUInt16.toUInt32.toInt32)
  apply Int32.toInt_inj.mp
  show ((u.toUInt32.toUInt16.toUInt32.toInt32).toUInt32.toUInt16.toUInt32.toInt32).toInt = x.toInt
  omega
def own_same (ys zs : List Int32) : Int32 := if ys = zs then 1 else 0

theorem own_same1 {ys zs : List Int32} (h : ¬ own_same ys zs = 0) : own_same ys zs = 1 := by
  unfold own_same at h ⊢; split
  · rfl
  · rename_i q; rw [if_neg q] at h; exact absurd rfl h

def own_alpha : List Int32 := [65, 66, 67, 68, 69, 70, 71, 72, 73, 74, 75, 76, 77, 78, 79, 80, 81, 82, 83, 84, 85, 86, 87, 88, 89, 90, 97, 98, 99, 100, 101, 102, 103, 104, 105, 106, 107, 108, 109, 110, 111, 112, 113, 114, 115, 116, 117, 118, 119, 120, 121, 122, 48, 49, 50, 51, 52, 53, 54, 55, 56, 57, 45, 46, 95, 126, 33, 36, 38, 39, 40, 41, 42, 43, 44, 59, 61, 58, 64]
def own_okc (c : Int32) : Int32 := if ¬ c < 97 ∧ ¬ 122 < c then 1 else if ¬ c < 64 ∧ ¬ 90 < c then 1 else if ¬ c < 48 ∧ ¬ 59 < c then 1 else if ¬ c < 38 ∧ ¬ 46 < c then 1 else if c = 33 ∨ c = 36 ∨ c = 61 ∨ c = 95 ∨ c = 126 then 1 else 0
theorem own_fin256 : ((List.range 256).all fun n => decide ((∀ y ∈ own_alpha, ¬ y = (Int32.ofNat n).toInt8.toInt32) ↔ own_okc (Int32.ofNat n) = 0)) = true := by decide +kernel
theorem own_lat256 {ch : Int32} (c1 : ¬ ch < (0 : Int32)) (c2 : ¬ (255 : Int32) < ch) : (∀ y ∈ own_alpha, ¬ y = ch.toInt8.toInt32) ↔ own_okc ch = 0 := by
  have e0 : (0 : Int32).toInt = 0 := rfl
  have e255 : (255 : Int32).toInt = 255 := rfl
  rw [Int32.lt_iff_toInt_lt, e0] at c1; rw [Int32.lt_iff_toInt_lt, e255] at c2
  obtain ⟨n, hn, hl⟩ : ∃ n : Nat, ch = Int32.ofNat n ∧ n < 256 := by
    refine ⟨ch.toInt.toNat, ?_, by omega⟩
    apply Int32.toInt_inj.mp
    rw [Int32.toInt_ofNat_small (by omega)]; omega
  rw [hn]
  exact of_decide_eq_true (List.all_eq_true.mp own_fin256 n (List.mem_range.mpr hl))
theorem own_big {ch : Int32} (c2 : (255 : Int32) < ch) : own_okc ch = 0 := by
  have e : ∀ k : Int32, k.toInt ≤ 255 → k < ch ∧ ¬ ch = k := fun k hk => by
    have e255 : (255 : Int32).toInt = 255 := rfl
    rw [Int32.lt_iff_toInt_lt, e255] at c2
    rw [Int32.lt_iff_toInt_lt, ← Int32.toInt_inj]; omega
  unfold own_okc
  simp [(e 122 (by decide)).1, (e 90 (by decide)).1, (e 59 (by decide)).1, (e 46 (by decide)).1, (e 33 (by decide)).2, (e 36 (by decide)).2, (e 61 (by decide)).2, (e 95 (by decide)).2, (e 126 (by decide)).2]
def own_nm (ys cs : List Int32) : Int32 := if own_same ys [46] = 0 ∧ own_same ys [46, 46] = 0 ∧ ∀ c ∈ cs, ¬ own_okc c = 0 then 1 else 0
def own_nmU (cs : List Int32) : Int32 := if ∀ c ∈ cs, ¬ own_okc c = 0 then 1 else 0
theorem own_aget {i : Int32} (h1 : 0 ≤ i.toInt) (h2 : i.toInt < 79) : (own_alpha.map Value.int).getD i.toNatClampNeg (.int 0) = .int (own_alpha.getD i.toNatClampNeg 0) := by
  have hl : i.toNatClampNeg < own_alpha.length := by
    show i.toInt.toNat < 79
    omega
  simp [List.getD_eq_getElem?_getD, hl]
theorem own_ain {i : Int32} (h1 : 0 ≤ i.toInt) (h2 : i.toInt < 79) : ¬ i < 0 ∧ i < (79 : Int32) := by
  have e0 : (0 : Int32).toInt = 0 := rfl
  have e1 : (79 : Int32).toInt = 79 := rfl
  rw [Int32.lt_iff_toInt_lt, Int32.lt_iff_toInt_lt, e0, e1]; omega
theorem own_amem {chb : Int32} (h : ∀ j, j < 79 → ¬ own_alpha.getD j 0 = chb) : ∀ y ∈ own_alpha, ¬ y = chb := by
  intro y hy q
  obtain ⟨j, hj, e⟩ := List.getElem_of_mem hy
  have hl : own_alpha.length = 79 := rfl
  refine h j (by omega) ?_
  rw [List.getD_eq_getElem?_getD, List.getElem?_eq_getElem hj]; exact e.trans q
theorem own_ahit {chb : Int32} {i : Int32} (h1 : 0 ≤ i.toInt) (h2 : i.toInt < 79) (e : own_alpha.getD i.toNatClampNeg 0 = chb) : ¬ ∀ y ∈ own_alpha, ¬ y = chb := fun q => by
  have hl : i.toNatClampNeg < own_alpha.length := by
    show i.toInt.toNat < 79
    omega
  refine q _ (List.getElem_mem hl) ?_
  rw [← e, List.getD_eq_getElem?_getD, List.getElem?_eq_getElem hl]; rfl

theorem own_chn (x : Int32) : ¬ nar .char x < (0 : Int32) := by
  have a := c_i2c x
  have e : nar .char x = x.toUInt32.toUInt16.toUInt32.toInt32 := rfl
  have e0 : (0 : Int32).toInt = 0 := rfl
  rw [Int32.lt_iff_toInt_lt, e, e0]; omega

theorem own_4 (x : Int32) : (x &&& 3) = 0 ∨ (x &&& 3) = 1 ∨ (x &&& 3) = 2 ∨ (x &&& 3) = 3 := by
  have h := c_mask x 3 2 (by decide) (by decide)
  simp only [← Int32.toInt_inj]
  have e0 : (0 : Int32).toInt = 0 := rfl
  have e1 : (1 : Int32).toInt = 1 := rfl
  have e2 : (2 : Int32).toInt = 2 := rfl
  have e3 : (3 : Int32).toInt = 3 := rfl
  omega
theorem own_nz {args : Array Value} {s : State} {t : Term} {cs : Int32} (ev : t.eval args s none [] s = some (.int cs)) (h : (Jvm.Cond.not (Jvm.Cond.eq t (.int 0))).before args s = true) : ¬ cs = (0 : Int32) := fun q => by
  subst q
  have h2 := Cond.before_iff.mp h
  simp [Cond.value, Term.eval, ev] at h2
theorem own_pc (x : Int32) : 0 ≤ (x.toUInt32.toUInt16.toUInt32.toInt32).toInt ∧ (x.toUInt32.toUInt16.toUInt32.toInt32).toInt < 65536 := (c_i2c x).2
theorem own_ncc {c : Int32} (h1 : 0 ≤ c.toInt) (h2 : c.toInt < 65536) : nar .char c = c := by
  have a := c_i2c c
  apply Int32.toInt_inj.mp
  show (c.toUInt32.toUInt16.toUInt32.toInt32).toInt = c.toInt
  omega
theorem own_cL {c : Int32} (h1 : 0 ≤ c.toInt) (h2 : c.toInt < 65536) (q : ¬ (255 : Int32) < c) : nar .char (own_lc (nar .byte (c.toInt8.toInt32))) = c := by rw [own_lcx h1 q, own_ncc h1 h2]
theorem own_cU {c : Int32} (h1 : 0 ≤ c.toInt) (h2 : c.toInt < 65536) : nar .char (nar .char (own_gc (nar .byte ((c >>> ((0 : Int32) &&& 31)).toInt8.toInt32)) (nar .byte ((c >>> ((8 : Int32) &&& 31)).toInt8.toInt32)))) = c := by rw [own_gcx h1 h2, own_ncc h1 h2, own_ncc h1 h2]
theorem own_yb {c : Int32} (h1 : 0 ≤ c.toInt) (q : ¬ (255 : Int32) < c) : nar .byte (c.toInt8.toInt32) = 46 ↔ c = 46 := by
  have e255 : (255 : Int32).toInt = 255 := rfl
  have e46 : (46 : Int32).toInt = 46 := rfl
  rw [Int32.lt_iff_toInt_lt, e255] at q
  have b := c_i2b c; have d := c_i2b c.toInt8.toInt32
  have e : nar .byte (c.toInt8.toInt32) = c.toInt8.toInt32.toInt8.toInt32 := rfl
  rw [← Int32.toInt_inj, ← Int32.toInt_inj, e, e46]; omega
theorem own_refv {v : Value} (h : v.isRef = true) : v = .null ∨ ∃ o : Addr, v = .ref o := by
  cases v <;> simp [Value.isRef] at h ⊢

theorem own_isr {args : Array Value} {s : State} {t : Term} (h : (Jvm.Cond.isRef t).before args s = true) : ∃ v, t.eval args s none [] s = some v ∧ (v = .null ∨ ∃ o : Addr, v = .ref o) := by
  have h2 := Cond.before_iff.mp h
  simp only [Cond.value] at h2
  cases ht : t.eval args s none [] s with
  | none => simp [ht] at h2
  | some x => exact ⟨x, rfl, by cases x <;> simp [ht, Value.isRef] at h2 ⊢⟩
theorem own_ws {Z : State} {a0 : Array Value} (hw : ∀ d ∈ tables_1, d.before a0 Z = true) : ∀ a ∈ Bundle.stringAtoms, a.before a0 Z = true := by
  intro d hd
  rw [own_sat] at hd
  simp only [List.mem_cons, List.not_mem_nil, or_false] at hd
  rcases hd with rfl | rfl | rfl | rfl | rfl | rfl | rfl
  · exact hw _ (List.mem_of_getElem? (i := 3) rfl)
  · exact hw _ (List.mem_of_getElem? (i := 2) rfl)
  · exact hw _ (List.mem_of_getElem? (i := 20) rfl)
  · exact hw _ (List.mem_of_getElem? (i := 30) rfl)
  · exact hw _ (List.mem_of_getElem? (i := 28) rfl)
  · exact hw _ (List.mem_of_getElem? (i := 45) rfl)
  · exact hw _ (List.mem_of_getElem? (i := 46) rfl)
theorem own_ew {Z : State} {a0 : Array Value} (hw : ∀ d ∈ tables_1, d.before a0 Z = true) : EW Z a0 consts_1 := (EW.cons (text := ".") (hw _ (List.mem_of_getElem? (i := 44) rfl)) (by decide +kernel) (EW.cons (text := "..") (hw _ (List.mem_of_getElem? (i := 57) rfl)) (by decide +kernel) (EW.cons (text := "ABCDEFGHIJKLMNOPQRSTUVWXYZabcdefghijklmnopqrstuvwxyz0123456789-._~!$&'()*+,;=:@") (hw _ (List.mem_of_getElem? (i := 68) rfl)) (by decide +kernel) (EW.cons (text := "") (hw _ (List.mem_of_getElem? (i := 117) rfl)) (by decide +kernel) EW.nil))))
theorem own_pn0 : plainName "java/lang/StringLatin1" = true := by first | (simp [plainName, overriddenIn]; done) | decide +kernel
theorem own_d22_0 : decode jdk_43_method_4_code 0 = .ok (.iload_n 0, 1) := by decide +kernel
theorem own_d22_1 : decode jdk_43_method_4_code 1 = .ok (.ifCond .lt 14, 3) := by decide +kernel
theorem own_d22_4 : decode jdk_43_method_4_code 4 = .ok (.iload_n 0, 1) := by decide +kernel
theorem own_d22_5 : decode jdk_43_method_4_code 5 = .ok (.sipush 255, 3) := by decide +kernel
theorem own_d22_8 : decode jdk_43_method_4_code 8 = .ok (.if_icmp .gt 7, 3) := by decide +kernel
theorem own_d22_11 : decode jdk_43_method_4_code 11 = .ok (.iconst 1, 1) := by decide +kernel
theorem own_d22_12 : decode jdk_43_method_4_code 12 = .ok (.goto 4, 3) := by decide +kernel
theorem own_d22_16 : decode jdk_43_method_4_code 16 = .ok (.ireturn, 1) := by decide +kernel
set_option maxRecDepth 65536 in
set_option maxHeartbeats 40000000 in
theorem own_rmCE (l : Launch) (Z : State) (a0 : Array Value) (hw : ∀ d ∈ tables_1, d.before a0 Z = true) (ch : Int32) (h0 : Heap) (n0 : Nat) (Z0 : n0 ≤ h0.size) (c1 : ¬ ch < (0 : Int32)) (c2 : ¬ (255 : Int32) < ch) :
    own_Met l Z [] (⟨"java/lang/StringLatin1", "canEncode", "(I)Z"⟩ : MethodName) jdk_43_method_4_code 1 (some .boolean) ({ frames := 0, cells := 0, slots := 0, locals := 0 } : Room) #[(.int ch)] h0 (fun v h L => v = some (.int 1) ∧ Fr n0 L ∧ h = h0) := by
  refine MetFree.of_bodySF (plainFor_of_name own_pn0) hisR ?_
  intro p e s m args below meth c s₁ Bd hml0 hP hK
  obtain ⟨rfl, hZ, hh⟩ := hP
  have hx := Bd.exec
  have hby := Bd.bytes
  have hml : c.maxLocals = 1 := hml0
  have hown : s.vm.findClass "java/lang/StringLatin1" = some m.cls := findClass_of_methodNamed Bd.named
  have hnm := (name_of_methodNamed Bd.named Bd.method).1
  have hlk : meth.locks = false := Bd.notSynchronized
  have X0 : Stand p l e ({ frames := 0, cells := 0, slots := 0, locals := 0 } : Room) s m #[(.int ch)] below meth c s₁ [] 0 0 := Stand.of_body Bd
  have e0 : s₁.heap = h0 := by rw [← hh, Bd.state]; rfl
  have N0 := Fr.nil n0
  refine own_body (Q := fun v h L => v = some (.int 1) ∧ Fr n0 L ∧ h = h0) ?_
  refine own_go (fun _ kont => castTop (own_ef m #[(.int ch)] 1 #[.val (.int ch)] (own_al [(.int ch)] 1 [.val (.int ch)] rfl)) kont) ?_
  show own_Go _ _ _ _ (s₁.setTop (mkF m 0 #[.val (.int ch)] []))
  refine own_go (fun _ => XS.iloadN X0.here hx rfl (hb hby own_d22_0) rfl) ?_
  show own_Go _ _ _ _ (s₁.setTop (mkF m 1 #[.val (.int ch)] [(.int ch)]))
  refine own_go (fun _ => XS.ifNo X0.here hx rfl (hb hby own_d22_1) rfl ((if0 _ _).trans (flt c1).1)) ?_
  show own_Go _ _ _ _ (s₁.setTop (mkF m 4 #[.val (.int ch)] []))
  refine own_go (fun _ => XS.iloadN X0.here hx rfl (hb hby own_d22_4) rfl) ?_
  refine own_go (fun _ => XS.sipush X0.here hx rfl (hb hby own_d22_5)) ?_
  show own_Go _ _ _ _ (s₁.setTop (mkF m 8 #[.val (.int ch)] [(.int (255 : Int32)), (.int ch)]))
  refine own_go (fun _ => XS.icmpNo X0.here hx rfl (hb hby own_d22_8) rfl (flt c2).2.2.1) ?_
  show own_Go _ _ _ _ (s₁.setTop (mkF m 11 #[.val (.int ch)] []))
  refine own_go (fun _ => XS.iconst X0.here hx rfl (hb hby own_d22_11)) ?_
  refine own_go (fun _ => XS.goto X0.here hx rfl (pc0 := 12) (pc' := 16) rfl (hb hby own_d22_12) (by decide) (by decide)) ?_
  show own_Go _ _ _ _ (s₁.setTop (mkF m 16 #[.val (.int ch)] [(.int (1 : Int32))]))
  refine own_ret X0 hlk (v := some (.int (1 : Int32))) (fun h => by rw [Bd.returns] at h; cases h) (fun fs hr => retN X0 hx (t := .boolean) Bd.returns (by simp) (hb hby own_d22_16) hr) ?_ (by decide) (by decide)
  try rw [e0]
  exact ⟨rfl, N0, rfl⟩
theorem own_d23_0 : decode jdk_29_method_65_code 0 = .ok (.iload_n 0, 1) := by decide +kernel
theorem own_d23_1 : decode jdk_29_method_65_code 1 = .ok (.iload_n 1, 1) := by decide +kernel
theorem own_d23_2 : decode jdk_29_method_65_code 2 = .ok (.if_icmp .lt 7, 3) := by decide +kernel
theorem own_d23_5 : decode jdk_29_method_65_code 5 = .ok (.iload_n 0, 1) := by decide +kernel
theorem own_d23_6 : decode jdk_29_method_65_code 6 = .ok (.goto 4, 3) := by decide +kernel
theorem own_d23_10 : decode jdk_29_method_65_code 10 = .ok (.ireturn, 1) := by decide +kernel
set_option maxRecDepth 65536 in
set_option maxHeartbeats 40000000 in
theorem own_rmMax (l : Launch) (Z : State) (a0 : Array Value) (hw : ∀ d ∈ tables_1, d.before a0 Z = true)  (h0 : Heap) (n0 : Nat) (Z0 : n0 ≤ h0.size)  :
    own_Met l Z [] (⟨"java/lang/Math", "max", "(II)I"⟩ : MethodName) jdk_29_method_65_code 2 (some .int) ({ frames := 0, cells := 0, slots := 0, locals := 0 } : Room) #[(.int (0 : Int32)), (.int (0 : Int32))] h0 (fun v h L => v = some (.int 0) ∧ Fr n0 L ∧ h = h0) := by
  refine MetFree.of_bodySF (Jvm.Free.JP.mathPlain rfl (by decide +kernel)) hisR ?_
  intro p e s m args below meth c s₁ Bd hml0 hP hK
  obtain ⟨rfl, hZ, hh⟩ := hP
  have hx := Bd.exec
  have hby := Bd.bytes
  have hml : c.maxLocals = 2 := hml0
  have hown : s.vm.findClass "java/lang/Math" = some m.cls := findClass_of_methodNamed Bd.named
  have hnm := (name_of_methodNamed Bd.named Bd.method).1
  have hlk : meth.locks = false := Bd.notSynchronized
  have X0 : Stand p l e ({ frames := 0, cells := 0, slots := 0, locals := 0 } : Room) s m #[(.int (0 : Int32)), (.int (0 : Int32))] below meth c s₁ [] 0 0 := Stand.of_body Bd
  have e0 : s₁.heap = h0 := by rw [← hh, Bd.state]; rfl
  have N0 := Fr.nil n0
  refine own_body (Q := fun v h L => v = some (.int 0) ∧ Fr n0 L ∧ h = h0) ?_
  refine own_go (fun _ kont => castTop (own_ef m #[(.int (0 : Int32)), (.int (0 : Int32))] 2 #[.val (.int (0 : Int32)), .val (.int (0 : Int32))] (own_al [(.int (0 : Int32)), (.int (0 : Int32))] 2 [.val (.int (0 : Int32)), .val (.int (0 : Int32))] rfl)) kont) ?_
  show own_Go _ _ _ _ (s₁.setTop (mkF m 0 #[.val (.int (0 : Int32)), .val (.int (0 : Int32))] []))
  refine own_go (fun _ => XS.iloadN X0.here hx rfl (hb hby own_d23_0) rfl) ?_
  refine own_go (fun _ => XS.iloadN X0.here hx rfl (hb hby own_d23_1) rfl) ?_
  show own_Go _ _ _ _ (s₁.setTop (mkF m 2 #[.val (.int (0 : Int32)), .val (.int (0 : Int32))] [(.int (0 : Int32)), (.int (0 : Int32))]))
  refine own_go (fun _ => XS.icmpNo X0.here hx rfl (hb hby own_d23_2) rfl (flt (by decide)).1) ?_
  show own_Go _ _ _ _ (s₁.setTop (mkF m 5 #[.val (.int (0 : Int32)), .val (.int (0 : Int32))] []))
  refine own_go (fun _ => XS.iloadN X0.here hx rfl (hb hby own_d23_5) rfl) ?_
  refine own_go (fun _ => XS.goto X0.here hx rfl (pc0 := 6) (pc' := 10) rfl (hb hby own_d23_6) (by decide) (by decide)) ?_
  show own_Go _ _ _ _ (s₁.setTop (mkF m 10 #[.val (.int (0 : Int32)), .val (.int (0 : Int32))] [(.int (0 : Int32))]))
  refine own_ret X0 hlk (v := some (.int (0 : Int32))) (fun h => by rw [Bd.returns] at h; cases h) (fun fs hr => retOut X0 hx Bd.returns rfl (Or.inl ⟨rfl, Or.inl rfl, _, rfl⟩) (hb hby own_d23_10) hr) ?_ (by decide) (by decide)
  try rw [e0]
  exact ⟨rfl, N0, rfl⟩
theorem own_pn1 : plainName "java/lang/String" = true := by first | (simp [plainName, overriddenIn]; done) | decide +kernel
theorem own_d9_0 : decode jdk_42_method_55_code 0 = .ok (.aload_n 0, 1) := by decide +kernel
theorem own_d9_1 : decode jdk_42_method_55_code 1 = .ok (.getfield 9, 3) := by decide +kernel
theorem own_d9_4 : decode jdk_42_method_55_code 4 = .ok (.arraylength, 1) := by decide +kernel
theorem own_d9_5 : decode jdk_42_method_55_code 5 = .ok (.ifCond .ne 7, 3) := by decide +kernel
theorem own_d9_8 : decode jdk_42_method_55_code 8 = .ok (.iconst 1, 1) := by decide +kernel
theorem own_d9_9 : decode jdk_42_method_55_code 9 = .ok (.goto 4, 3) := by decide +kernel
theorem own_d9_13 : decode jdk_42_method_55_code 13 = .ok (.ireturn, 1) := by decide +kernel
set_option maxRecDepth 65536 in
set_option maxHeartbeats 40000000 in
theorem own_rmE0 (l : Launch) (Z : State) (a0 : Array Value) (hw : ∀ d ∈ tables_1, d.before a0 Z = true) (a1 : Addr) (b : Addr) (k : ClassId) (h0 : Heap) (n0 : Nat) (Z0 : n0 ≤ h0.size) (Fv : Fld Z h0 a1 "java/lang/String" "value" "[B" (.ref b)) (V : Arv Z h0 b k .byte 0 [] (.int 0)) :
    own_Met l Z [] (⟨"java/lang/String", "isEmpty", "()Z"⟩ : MethodName) jdk_42_method_55_code 1 (some .boolean) ({ frames := 0, cells := 0, slots := 0, locals := 0 } : Room) #[(.ref a1)] h0 (fun v h L => v = some (.int 1) ∧ Fr n0 L ∧ h = h0) := by
  refine MetFree.of_bodySF (plainFor_of_name own_pn1) hisR ?_
  intro p e s m args below meth c s₁ Bd hml0 hP hK
  obtain ⟨rfl, hZ, hh⟩ := hP
  have hx := Bd.exec
  have hby := Bd.bytes
  have hml : c.maxLocals = 1 := hml0
  have hown : s.vm.findClass "java/lang/String" = some m.cls := findClass_of_methodNamed Bd.named
  have hnm := (name_of_methodNamed Bd.named Bd.method).1
  have hlk : meth.locks = false := Bd.notSynchronized
  have X0 : Stand p l e ({ frames := 0, cells := 0, slots := 0, locals := 0 } : Room) s m #[(.ref a1)] below meth c s₁ [] 0 0 := Stand.of_body Bd
  have e0 : s₁.heap = h0 := by rw [← hh, Bd.state]; rfl
  have N0 := Fr.nil n0
  refine own_body (Q := fun v h L => v = some (.int 1) ∧ Fr n0 L ∧ h = h0) ?_
  refine own_go (fun _ kont => castTop (own_ef m #[(.ref a1)] 1 #[.val (.ref a1)] (own_al [(.ref a1)] 1 [.val (.ref a1)] rfl)) kont) ?_
  show own_Go _ _ _ _ (s₁.setTop (mkF m 0 #[.val (.ref a1)] []))
  refine own_go (fun _ => XS.aloadN X0.here hx rfl (hb hby own_d9_0) rfl rfl) ?_
  obtain ⟨T1, X1, e1, st1⟩ := getF X0 hx hZ hown (host := "") (Or.inl (hw _ (List.mem_of_getElem? (i := 29) rfl))) Via.refl e0 Fv (g := (mkF m 1 #[.val (.ref a1)] [(.ref a1)])) rfl rfl (hb hby own_d9_1)
  refine own_go st1 ?_
  obtain ⟨cl2, Ar2, -, Sz2, Ng2, -, -⟩ := id V
  refine own_go (X1.arraylength hx (own_hp e1 Ar2.1) (State.isArrayOf_alike hZ.alike Ar2.2.1) (g := (mkF m 4 #[.val (.ref a1)] [(.ref b)])) rfl rfl (hb hby own_d9_4)) ?_
  rw [len_of Sz2 Ng2]
  show own_Go _ _ _ _ (T1.setTop (mkF m 5 #[.val (.ref a1)] [(.int (0 : Int32))]))
  refine own_go (fun _ => XS.ifNo X1.here hx rfl (hb hby own_d9_5) rfl ((if0 _ _).trans (teq (by decide)).2)) ?_
  show own_Go _ _ _ _ (T1.setTop (mkF m 8 #[.val (.ref a1)] []))
  refine own_go (fun _ => XS.iconst X1.here hx rfl (hb hby own_d9_8)) ?_
  refine own_go (fun _ => XS.goto X1.here hx rfl (pc0 := 9) (pc' := 13) rfl (hb hby own_d9_9) (by decide) (by decide)) ?_
  show own_Go _ _ _ _ (T1.setTop (mkF m 13 #[.val (.ref a1)] [(.int (1 : Int32))]))
  refine own_ret X1 hlk (v := some (.int (1 : Int32))) (fun h => by rw [Bd.returns] at h; cases h) (fun fs hr => retN X1 hx (t := .boolean) Bd.returns (by simp) (hb hby own_d9_13) hr) ?_ (by decide) (by decide)
  try rw [e1]
  exact ⟨rfl, N0, rfl⟩
theorem own_pn2 : plainName "jdk/internal/util/Preconditions" = true := by first | (simp [plainName, overriddenIn]; done) | decide +kernel
theorem own_d18_0 : decode jdk_41_method_11_code 0 = .ok (.iload_n 0, 1) := by decide +kernel
theorem own_d18_1 : decode jdk_41_method_11_code 1 = .ok (.ifCond .lt 8, 3) := by decide +kernel
theorem own_d18_4 : decode jdk_41_method_11_code 4 = .ok (.iload_n 0, 1) := by decide +kernel
theorem own_d18_5 : decode jdk_41_method_11_code 5 = .ok (.iload_n 1, 1) := by decide +kernel
theorem own_d18_6 : decode jdk_41_method_11_code 6 = .ok (.if_icmp .lt 10, 3) := by decide +kernel
theorem own_d18_16 : decode jdk_41_method_11_code 16 = .ok (.iload_n 0, 1) := by decide +kernel
theorem own_d18_17 : decode jdk_41_method_11_code 17 = .ok (.ireturn, 1) := by decide +kernel
set_option maxRecDepth 65536 in
set_option maxHeartbeats 40000000 in
theorem own_rmQN (l : Launch) (Z : State) (a0 : Array Value) (hw : ∀ d ∈ tables_1, d.before a0 Z = true) (i : Int32) (j : Int32) (h0 : Heap) (n0 : Nat) (Z0 : n0 ≤ h0.size) (c1 : ¬ i < (0 : Int32)) (c2 : i < j) :
    own_Met l Z [] (⟨"jdk/internal/util/Preconditions", "checkIndex", "(IILjava/util/function/BiFunction;)I"⟩ : MethodName) jdk_41_method_11_code 3 (some .int) ({ frames := 0, cells := 0, slots := 0, locals := 0 } : Room) #[(.int i), (.int j), .null] h0 (fun v h L => v = some (.int i) ∧ Fr n0 L ∧ h = h0) := by
  refine MetFree.of_bodySF (plainFor_of_name own_pn2) hisR ?_
  intro p e s m args below meth c s₁ Bd hml0 hP hK
  obtain ⟨rfl, hZ, hh⟩ := hP
  have hx := Bd.exec
  have hby := Bd.bytes
  have hml : c.maxLocals = 3 := hml0
  have hown : s.vm.findClass "jdk/internal/util/Preconditions" = some m.cls := findClass_of_methodNamed Bd.named
  have hnm := (name_of_methodNamed Bd.named Bd.method).1
  have hlk : meth.locks = false := Bd.notSynchronized
  have X0 : Stand p l e ({ frames := 0, cells := 0, slots := 0, locals := 0 } : Room) s m #[(.int i), (.int j), .null] below meth c s₁ [] 0 0 := Stand.of_body Bd
  have e0 : s₁.heap = h0 := by rw [← hh, Bd.state]; rfl
  have N0 := Fr.nil n0
  refine own_body (Q := fun v h L => v = some (.int i) ∧ Fr n0 L ∧ h = h0) ?_
  refine own_go (fun _ kont => castTop (own_ef m #[(.int i), (.int j), .null] 3 #[.val (.int i), .val (.int j), .val .null] (own_al [(.int i), (.int j), .null] 3 [.val (.int i), .val (.int j), .val .null] rfl)) kont) ?_
  show own_Go _ _ _ _ (s₁.setTop (mkF m 0 #[.val (.int i), .val (.int j), .val .null] []))
  refine own_go (fun _ => XS.iloadN X0.here hx rfl (hb hby own_d18_0) rfl) ?_
  show own_Go _ _ _ _ (s₁.setTop (mkF m 1 #[.val (.int i), .val (.int j), .val .null] [(.int i)]))
  refine own_go (fun _ => XS.ifNo X0.here hx rfl (hb hby own_d18_1) rfl ((if0 _ _).trans (flt c1).1)) ?_
  show own_Go _ _ _ _ (s₁.setTop (mkF m 4 #[.val (.int i), .val (.int j), .val .null] []))
  refine own_go (fun _ => XS.iloadN X0.here hx rfl (hb hby own_d18_4) rfl) ?_
  refine own_go (fun _ => XS.iloadN X0.here hx rfl (hb hby own_d18_5) rfl) ?_
  show own_Go _ _ _ _ (s₁.setTop (mkF m 6 #[.val (.int i), .val (.int j), .val .null] [(.int j), (.int i)]))
  refine own_go (fun _ => XS.icmpYes X0.here hx rfl (pc0 := 6) (pc' := 16) rfl (hb hby own_d18_6) rfl (tlt c2).1 (by decide) (by decide)) ?_
  show own_Go _ _ _ _ (s₁.setTop (mkF m 16 #[.val (.int i), .val (.int j), .val .null] []))
  refine own_go (fun _ => XS.iloadN X0.here hx rfl (hb hby own_d18_16) rfl) ?_
  show own_Go _ _ _ _ (s₁.setTop (mkF m 17 #[.val (.int i), .val (.int j), .val .null] [(.int i)]))
  refine own_ret X0 hlk (v := some (.int i)) (fun h => by rw [Bd.returns] at h; cases h) (fun fs hr => retOut X0 hx Bd.returns rfl (Or.inl ⟨rfl, Or.inl rfl, _, rfl⟩) (hb hby own_d18_17) hr) ?_ (by decide) (by decide)
  try rw [e0]
  exact ⟨rfl, N0, rfl⟩
set_option maxRecDepth 65536 in
set_option maxHeartbeats 40000000 in
theorem own_rmQR (l : Launch) (Z : State) (a0 : Array Value) (hw : ∀ d ∈ tables_1, d.before a0 Z = true) (i : Int32) (j : Int32) (o : Addr) (h0 : Heap) (n0 : Nat) (Z0 : n0 ≤ h0.size) (c1 : ¬ i < (0 : Int32)) (c2 : i < j) :
    own_Met l Z [] (⟨"jdk/internal/util/Preconditions", "checkIndex", "(IILjava/util/function/BiFunction;)I"⟩ : MethodName) jdk_41_method_11_code 3 (some .int) ({ frames := 0, cells := 0, slots := 0, locals := 0 } : Room) #[(.int i), (.int j), (.ref o)] h0 (fun v h L => v = some (.int i) ∧ Fr n0 L ∧ h = h0) := by
  refine MetFree.of_bodySF (plainFor_of_name own_pn2) hisR ?_
  intro p e s m args below meth c s₁ Bd hml0 hP hK
  obtain ⟨rfl, hZ, hh⟩ := hP
  have hx := Bd.exec
  have hby := Bd.bytes
  have hml : c.maxLocals = 3 := hml0
  have hown : s.vm.findClass "jdk/internal/util/Preconditions" = some m.cls := findClass_of_methodNamed Bd.named
  have hnm := (name_of_methodNamed Bd.named Bd.method).1
  have hlk : meth.locks = false := Bd.notSynchronized
  have X0 : Stand p l e ({ frames := 0, cells := 0, slots := 0, locals := 0 } : Room) s m #[(.int i), (.int j), (.ref o)] below meth c s₁ [] 0 0 := Stand.of_body Bd
  have e0 : s₁.heap = h0 := by rw [← hh, Bd.state]; rfl
  have N0 := Fr.nil n0
  refine own_body (Q := fun v h L => v = some (.int i) ∧ Fr n0 L ∧ h = h0) ?_
  refine own_go (fun _ kont => castTop (own_ef m #[(.int i), (.int j), (.ref o)] 3 #[.val (.int i), .val (.int j), .val (.ref o)] (own_al [(.int i), (.int j), (.ref o)] 3 [.val (.int i), .val (.int j), .val (.ref o)] rfl)) kont) ?_
  show own_Go _ _ _ _ (s₁.setTop (mkF m 0 #[.val (.int i), .val (.int j), .val (.ref o)] []))
  refine own_go (fun _ => XS.iloadN X0.here hx rfl (hb hby own_d18_0) rfl) ?_
  show own_Go _ _ _ _ (s₁.setTop (mkF m 1 #[.val (.int i), .val (.int j), .val (.ref o)] [(.int i)]))
  refine own_go (fun _ => XS.ifNo X0.here hx rfl (hb hby own_d18_1) rfl ((if0 _ _).trans (flt c1).1)) ?_
  show own_Go _ _ _ _ (s₁.setTop (mkF m 4 #[.val (.int i), .val (.int j), .val (.ref o)] []))
  refine own_go (fun _ => XS.iloadN X0.here hx rfl (hb hby own_d18_4) rfl) ?_
  refine own_go (fun _ => XS.iloadN X0.here hx rfl (hb hby own_d18_5) rfl) ?_
  show own_Go _ _ _ _ (s₁.setTop (mkF m 6 #[.val (.int i), .val (.int j), .val (.ref o)] [(.int j), (.int i)]))
  refine own_go (fun _ => XS.icmpYes X0.here hx rfl (pc0 := 6) (pc' := 16) rfl (hb hby own_d18_6) rfl (tlt c2).1 (by decide) (by decide)) ?_
  show own_Go _ _ _ _ (s₁.setTop (mkF m 16 #[.val (.int i), .val (.int j), .val (.ref o)] []))
  refine own_go (fun _ => XS.iloadN X0.here hx rfl (hb hby own_d18_16) rfl) ?_
  show own_Go _ _ _ _ (s₁.setTop (mkF m 17 #[.val (.int i), .val (.int j), .val (.ref o)] [(.int i)]))
  refine own_ret X0 hlk (v := some (.int i)) (fun h => by rw [Bd.returns] at h; cases h) (fun fs hr => retOut X0 hx Bd.returns rfl (Or.inl ⟨rfl, Or.inl rfl, _, rfl⟩) (hb hby own_d18_17) hr) ?_ (by decide) (by decide)
  try rw [e0]
  exact ⟨rfl, N0, rfl⟩
theorem own_d17_0 : decode jdk_42_method_155_code 0 = .ok (.iload_n 0, 1) := by decide +kernel
theorem own_d17_1 : decode jdk_42_method_155_code 1 = .ok (.iload_n 1, 1) := by decide +kernel
theorem own_d17_2 : decode jdk_42_method_155_code 2 = .ok (.getstatic 1053, 3) := by decide +kernel
theorem own_d17_5 : decode jdk_42_method_155_code 5 = .ok (.invokestatic 1059, 3) := by decide +kernel
theorem own_pd0 : parseMethodDescriptor "(IILjava/util/function/BiFunction;)I" = some ⟨[.int, .int, (.object "java/util/function/BiFunction")], some .int⟩ := by decide +kernel
theorem own_d17_8 : decode jdk_42_method_155_code 8 = .ok (.pop, 1) := by decide +kernel
theorem own_d17_9 : decode jdk_42_method_155_code 9 = .ok (.return_, 1) := by decide +kernel
set_option maxRecDepth 65536 in
set_option maxHeartbeats 40000000 in
theorem own_rmCI (l : Launch) (Z : State) (a0 : Array Value) (hw : ∀ d ∈ tables_1, d.before a0 Z = true) (i : Int32) (j : Int32) (fmt : Value) (h0 : Heap) (n0 : Nat) (Z0 : n0 ≤ h0.size) (c1 : ¬ i < (0 : Int32)) (c2 : i < j) (O : Old Z n0 h0) (S_F : Sta Z Z.heap "jdk/internal/util/Preconditions" "SIOOBE_FORMATTER" "Ljava/util/function/BiFunction;" fmt) (hfmt : fmt = .null ∨ ∃ o : Addr, fmt = .ref o) :
    own_Met l Z [] (⟨"java/lang/String", "checkIndex", "(II)V"⟩ : MethodName) jdk_42_method_155_code 2 none ({ frames := 1, cells := 0, slots := 0, locals := 14 } : Room) #[(.int i), (.int j)] h0 (fun v h L => v = none ∧ Fr n0 L ∧ h = h0) := by
  refine MetFree.of_bodySF (plainFor_of_name own_pn1) hisR ?_
  intro p e s m args below meth c s₁ Bd hml0 hP hK
  obtain ⟨rfl, hZ, hh⟩ := hP
  have hx := Bd.exec
  have hby := Bd.bytes
  have hml : c.maxLocals = 2 := hml0
  have hown : s.vm.findClass "java/lang/String" = some m.cls := findClass_of_methodNamed Bd.named
  have hnm := (name_of_methodNamed Bd.named Bd.method).1
  have hlk : meth.locks = false := Bd.notSynchronized
  have X0 : Stand p l e ({ frames := 1, cells := 0, slots := 0, locals := 14 } : Room) s m #[(.int i), (.int j)] below meth c s₁ [] 0 0 := Stand.of_body Bd
  have e0 : s₁.heap = h0 := by rw [← hh, Bd.state]; rfl
  have N0 := Fr.nil n0
  refine own_body (Q := fun v h L => v = none ∧ Fr n0 L ∧ h = h0) ?_
  refine own_go (fun _ kont => castTop (own_ef m #[(.int i), (.int j)] 2 #[.val (.int i), .val (.int j)] (own_al [(.int i), (.int j)] 2 [.val (.int i), .val (.int j)] rfl)) kont) ?_
  show own_Go _ _ _ _ (s₁.setTop (mkF m 0 #[.val (.int i), .val (.int j)] []))
  rcases hfmt with rfl | ⟨o, rfl⟩
  · have _u := trivial
    refine own_go (fun _ => XS.iloadN X0.here hx rfl (hb hby own_d17_0) rfl) ?_
    refine own_go (fun _ => XS.iloadN X0.here hx rfl (hb hby own_d17_1) rfl) ?_
    show own_Go _ _ _ _ (s₁.setTop (mkF m 2 #[.val (.int i), .val (.int j)] [(.int j), (.int i)]))
    obtain ⟨T1, X1, e1, st1⟩ := getS2 X0 hx hZ hown (host := "") (Or.inl (hw _ (List.mem_of_getElem? (i := 85) rfl))) Via.refl e0 (S_F.ext O.2) (g := (mkF m 2 #[.val (.int i), .val (.int j)] [(.int j), (.int i)])) rfl (hb hby own_d17_2)
    refine own_go st1 ?_
    show own_Go _ _ _ _ (T1.setTop (mkF m 5 #[.val (.int i), .val (.int j)] [.null, (.int j), (.int i)]))
    obtain ⟨_, _, ⟨T2, L2, k2, n2⟩, -, X2, ⟨Lc2, hQ2, l2, y2, z2⟩, st2⟩ := Jvm.LawKit.callS X1 hx (y := (⟨"jdk/internal/util/Preconditions", "checkIndex", "(IILjava/util/function/BiFunction;)I"⟩ : MethodName)) hown (mvT hZ (hw _ (List.mem_of_getElem? (i := 87) rfl))) (mvT hZ (hw _ (List.mem_of_getElem? (i := 88) rfl))) (mvT hZ (hw _ (List.mem_of_getElem? (i := 86) rfl))) (mvT hZ (hw _ (List.mem_of_getElem? (i := 89) rfl))) (by decide) (own_back (W := 0) (own_rmQN l Z a0 hw i j h0 n0 Z0 c1 c2) hZ (hw _ (List.mem_of_getElem? (i := 89) rfl)) (hw _ (List.mem_of_getElem? (i := 86) rfl)) (by decide) (by decide)) (g := (mkF m 5 #[.val (.int i), .val (.int j)] [.null, (.int j), (.int i)])) rfl (by rw [hml]; rfl) (argsL := [(.int i), (.int j), .null]) (rest := []) (lenOf own_pd0 rfl) rfl (by show 2 * 0 + _ ≤ _; exact Nat.le_of_eq rfl) (hb hby own_d17_5) (fun _ _ => ⟨rfl, e1, (by decide : 0 + 0 ≤ _), (by decide : 0 + 0 ≤ _)⟩)
    dsimp only [Pt.U, Pt.locs, Pt.cells, Pt.slots] at X2 l2 y2 z2 st2 hQ2
    replace X2 := own_cst X2 l2 y2 z2 (k2 := 0) (n2 := 0) rfl rfl
    clear l2 y2 z2
    obtain ⟨rfl, Nq2, eq2⟩ := hQ2
    have NF2 := Fr.app N0 Nq2
    refine own_go st2 ?_
    show own_Go _ _ _ _ (T2.setTop (mkF m 8 #[.val (.int i), .val (.int j)] [(.int i)]))
    refine own_go (fun _ => XS.pop X2.here hx rfl (hb hby own_d17_8) rfl rfl) ?_
    show own_Go _ _ _ _ (T2.setTop (mkF m 9 #[.val (.int i), .val (.int j)] []))
    refine own_ret X2 hlk (v := none) (fun _ => rfl) (fun fs hr => X2.returnOut hx Bd.returns (hb hby own_d17_9) hr) ?_ (by decide) (by decide)
    try rw [eq2]
    exact ⟨rfl, NF2, rfl⟩
  · have _u := trivial
    refine own_go (fun _ => XS.iloadN X0.here hx rfl (hb hby own_d17_0) rfl) ?_
    refine own_go (fun _ => XS.iloadN X0.here hx rfl (hb hby own_d17_1) rfl) ?_
    show own_Go _ _ _ _ (s₁.setTop (mkF m 2 #[.val (.int i), .val (.int j)] [(.int j), (.int i)]))
    obtain ⟨T3, X3, e3, st3⟩ := getS2 X0 hx hZ hown (host := "") (Or.inl (hw _ (List.mem_of_getElem? (i := 85) rfl))) Via.refl e0 (S_F.ext O.2) (g := (mkF m 2 #[.val (.int i), .val (.int j)] [(.int j), (.int i)])) rfl (hb hby own_d17_2)
    refine own_go st3 ?_
    show own_Go _ _ _ _ (T3.setTop (mkF m 5 #[.val (.int i), .val (.int j)] [(.ref o), (.int j), (.int i)]))
    obtain ⟨_, _, ⟨T4, L4, k4, n4⟩, -, X4, ⟨Lc4, hQ4, l4, y4, z4⟩, st4⟩ := Jvm.LawKit.callS X3 hx (y := (⟨"jdk/internal/util/Preconditions", "checkIndex", "(IILjava/util/function/BiFunction;)I"⟩ : MethodName)) hown (mvT hZ (hw _ (List.mem_of_getElem? (i := 87) rfl))) (mvT hZ (hw _ (List.mem_of_getElem? (i := 88) rfl))) (mvT hZ (hw _ (List.mem_of_getElem? (i := 86) rfl))) (mvT hZ (hw _ (List.mem_of_getElem? (i := 89) rfl))) (by decide) (own_back (W := 0) (own_rmQR l Z a0 hw i j o h0 n0 Z0 c1 c2) hZ (hw _ (List.mem_of_getElem? (i := 89) rfl)) (hw _ (List.mem_of_getElem? (i := 86) rfl)) (by decide) (by decide)) (g := (mkF m 5 #[.val (.int i), .val (.int j)] [(.ref o), (.int j), (.int i)])) rfl (by rw [hml]; rfl) (argsL := [(.int i), (.int j), (.ref o)]) (rest := []) (lenOf own_pd0 rfl) rfl (by show 2 * 0 + _ ≤ _; exact Nat.le_of_eq rfl) (hb hby own_d17_5) (fun _ _ => ⟨rfl, e3, (by decide : 0 + 0 ≤ _), (by decide : 0 + 0 ≤ _)⟩)
    dsimp only [Pt.U, Pt.locs, Pt.cells, Pt.slots] at X4 l4 y4 z4 st4 hQ4
    replace X4 := own_cst X4 l4 y4 z4 (k2 := 0) (n2 := 0) rfl rfl
    clear l4 y4 z4
    obtain ⟨rfl, Nq4, eq4⟩ := hQ4
    have NF4 := Fr.app N0 Nq4
    refine own_go st4 ?_
    show own_Go _ _ _ _ (T4.setTop (mkF m 8 #[.val (.int i), .val (.int j)] [(.int i)]))
    refine own_go (fun _ => XS.pop X4.here hx rfl (hb hby own_d17_8) rfl rfl) ?_
    show own_Go _ _ _ _ (T4.setTop (mkF m 9 #[.val (.int i), .val (.int j)] []))
    refine own_ret X4 hlk (v := none) (fun _ => rfl) (fun fs hr => X4.returnOut hx Bd.returns (hb hby own_d17_9) hr) ?_ (by decide) (by decide)
    try rw [eq4]
    exact ⟨rfl, NF4, rfl⟩
theorem own_d13_0 : decode jdk_42_method_152_code 0 = .ok (.getstatic 38, 3) := by decide +kernel
theorem own_d13_3 : decode jdk_42_method_152_code 3 = .ok (.ifCond .eq 10, 3) := by decide +kernel
theorem own_d13_6 : decode jdk_42_method_152_code 6 = .ok (.aload_n 0, 1) := by decide +kernel
theorem own_d13_7 : decode jdk_42_method_152_code 7 = .ok (.getfield 15, 3) := by decide +kernel
theorem own_d13_10 : decode jdk_42_method_152_code 10 = .ok (.goto 4, 3) := by decide +kernel
theorem own_d13_14 : decode jdk_42_method_152_code 14 = .ok (.ireturn, 1) := by decide +kernel
set_option maxRecDepth 65536 in
set_option maxHeartbeats 40000000 in
theorem own_rmco0 (l : Launch) (Z : State) (a0 : Array Value) (hw : ∀ d ∈ tables_1, d.before a0 Z = true) (a1 : Addr) (cs : Int32) (h0 : Heap) (n0 : Nat) (Z0 : n0 ≤ h0.size) (Fc : Fld Z h0 a1 "java/lang/String" "coder" "B" (.int 0)) (O : Old Z n0 h0) (S_C : Sta Z Z.heap "java/lang/String" "COMPACT_STRINGS" "Z" (.int cs)) (hcs : ¬ cs = (0 : Int32)) :
    own_Met l Z [] (⟨"java/lang/String", "coder", "()B"⟩ : MethodName) jdk_42_method_152_code 1 (some .byte) ({ frames := 0, cells := 0, slots := 0, locals := 0 } : Room) #[(.ref a1)] h0 (fun v h L => v = some (.int 0) ∧ Fr n0 L ∧ h = h0) := by
  refine MetFree.of_bodySF (plainFor_of_name own_pn1) hisR ?_
  intro p e s m args below meth c s₁ Bd hml0 hP hK
  obtain ⟨rfl, hZ, hh⟩ := hP
  have hx := Bd.exec
  have hby := Bd.bytes
  have hml : c.maxLocals = 1 := hml0
  have hown : s.vm.findClass "java/lang/String" = some m.cls := findClass_of_methodNamed Bd.named
  have hnm := (name_of_methodNamed Bd.named Bd.method).1
  have hlk : meth.locks = false := Bd.notSynchronized
  have X0 : Stand p l e ({ frames := 0, cells := 0, slots := 0, locals := 0 } : Room) s m #[(.ref a1)] below meth c s₁ [] 0 0 := Stand.of_body Bd
  have e0 : s₁.heap = h0 := by rw [← hh, Bd.state]; rfl
  have N0 := Fr.nil n0
  refine own_body (Q := fun v h L => v = some (.int 0) ∧ Fr n0 L ∧ h = h0) ?_
  refine own_go (fun _ kont => castTop (own_ef m #[(.ref a1)] 1 #[.val (.ref a1)] (own_al [(.ref a1)] 1 [.val (.ref a1)] rfl)) kont) ?_
  show own_Go _ _ _ _ (s₁.setTop (mkF m 0 #[.val (.ref a1)] []))
  obtain ⟨T1, X1, e1, st1⟩ := getS2 X0 hx hZ hown (host := "") (Or.inl (hw _ (List.mem_of_getElem? (i := 15) rfl))) Via.refl e0 (S_C.ext O.2) (g := (mkF m 0 #[.val (.ref a1)] [])) rfl (hb hby own_d13_0)
  refine own_go st1 ?_
  show own_Go _ _ _ _ (T1.setTop (mkF m 3 #[.val (.ref a1)] [(.int cs)]))
  refine own_go (fun _ => XS.ifNo X1.here hx rfl (hb hby own_d13_3) rfl ((if0 _ _).trans (feq hcs).1)) ?_
  show own_Go _ _ _ _ (T1.setTop (mkF m 6 #[.val (.ref a1)] []))
  refine own_go (fun _ => XS.aloadN X1.here hx rfl (hb hby own_d13_6) rfl rfl) ?_
  obtain ⟨T2, X2, e2, st2⟩ := getF X1 hx hZ hown (host := "") (Or.inl (hw _ (List.mem_of_getElem? (i := 27) rfl))) Via.refl e1 Fc (g := (mkF m 7 #[.val (.ref a1)] [(.ref a1)])) rfl rfl (hb hby own_d13_7)
  refine own_go st2 ?_
  refine own_go (fun _ => XS.goto X2.here hx rfl (pc0 := 10) (pc' := 14) rfl (hb hby own_d13_10) (by decide) (by decide)) ?_
  show own_Go _ _ _ _ (T2.setTop (mkF m 14 #[.val (.ref a1)] [(.int (0 : Int32))]))
  refine own_ret X2 hlk (v := some (.int (0 : Int32))) (fun h => by rw [Bd.returns] at h; cases h) (fun fs hr => retN X2 hx (t := .byte) Bd.returns (by simp) (hb hby own_d13_14) hr) ?_ (by decide) (by decide)
  try rw [e2]
  exact ⟨rfl, N0, rfl⟩
theorem own_d15_0 : decode jdk_42_method_154_code 0 = .ok (.getstatic 38, 3) := by decide +kernel
theorem own_d15_3 : decode jdk_42_method_154_code 3 = .ok (.ifCond .eq 14, 3) := by decide +kernel
theorem own_d15_6 : decode jdk_42_method_154_code 6 = .ok (.aload_n 0, 1) := by decide +kernel
theorem own_d15_7 : decode jdk_42_method_154_code 7 = .ok (.getfield 15, 3) := by decide +kernel
theorem own_d15_10 : decode jdk_42_method_154_code 10 = .ok (.ifCond .ne 7, 3) := by decide +kernel
theorem own_d15_13 : decode jdk_42_method_154_code 13 = .ok (.iconst 1, 1) := by decide +kernel
theorem own_d15_14 : decode jdk_42_method_154_code 14 = .ok (.goto 4, 3) := by decide +kernel
theorem own_d15_18 : decode jdk_42_method_154_code 18 = .ok (.ireturn, 1) := by decide +kernel
set_option maxRecDepth 65536 in
set_option maxHeartbeats 40000000 in
theorem own_rmil0 (l : Launch) (Z : State) (a0 : Array Value) (hw : ∀ d ∈ tables_1, d.before a0 Z = true) (a1 : Addr) (cs : Int32) (h0 : Heap) (n0 : Nat) (Z0 : n0 ≤ h0.size) (Fc : Fld Z h0 a1 "java/lang/String" "coder" "B" (.int 0)) (O : Old Z n0 h0) (S_C : Sta Z Z.heap "java/lang/String" "COMPACT_STRINGS" "Z" (.int cs)) (hcs : ¬ cs = (0 : Int32)) :
    own_Met l Z [] (⟨"java/lang/String", "isLatin1", "()Z"⟩ : MethodName) jdk_42_method_154_code 1 (some .boolean) ({ frames := 0, cells := 0, slots := 0, locals := 0 } : Room) #[(.ref a1)] h0 (fun v h L => v = some (.int 1) ∧ Fr n0 L ∧ h = h0) := by
  refine MetFree.of_bodySF (plainFor_of_name own_pn1) hisR ?_
  intro p e s m args below meth c s₁ Bd hml0 hP hK
  obtain ⟨rfl, hZ, hh⟩ := hP
  have hx := Bd.exec
  have hby := Bd.bytes
  have hml : c.maxLocals = 1 := hml0
  have hown : s.vm.findClass "java/lang/String" = some m.cls := findClass_of_methodNamed Bd.named
  have hnm := (name_of_methodNamed Bd.named Bd.method).1
  have hlk : meth.locks = false := Bd.notSynchronized
  have X0 : Stand p l e ({ frames := 0, cells := 0, slots := 0, locals := 0 } : Room) s m #[(.ref a1)] below meth c s₁ [] 0 0 := Stand.of_body Bd
  have e0 : s₁.heap = h0 := by rw [← hh, Bd.state]; rfl
  have N0 := Fr.nil n0
  refine own_body (Q := fun v h L => v = some (.int 1) ∧ Fr n0 L ∧ h = h0) ?_
  refine own_go (fun _ kont => castTop (own_ef m #[(.ref a1)] 1 #[.val (.ref a1)] (own_al [(.ref a1)] 1 [.val (.ref a1)] rfl)) kont) ?_
  show own_Go _ _ _ _ (s₁.setTop (mkF m 0 #[.val (.ref a1)] []))
  obtain ⟨T1, X1, e1, st1⟩ := getS2 X0 hx hZ hown (host := "") (Or.inl (hw _ (List.mem_of_getElem? (i := 15) rfl))) Via.refl e0 (S_C.ext O.2) (g := (mkF m 0 #[.val (.ref a1)] [])) rfl (hb hby own_d15_0)
  refine own_go st1 ?_
  show own_Go _ _ _ _ (T1.setTop (mkF m 3 #[.val (.ref a1)] [(.int cs)]))
  refine own_go (fun _ => XS.ifNo X1.here hx rfl (hb hby own_d15_3) rfl ((if0 _ _).trans (feq hcs).1)) ?_
  show own_Go _ _ _ _ (T1.setTop (mkF m 6 #[.val (.ref a1)] []))
  refine own_go (fun _ => XS.aloadN X1.here hx rfl (hb hby own_d15_6) rfl rfl) ?_
  obtain ⟨T2, X2, e2, st2⟩ := getF X1 hx hZ hown (host := "") (Or.inl (hw _ (List.mem_of_getElem? (i := 27) rfl))) Via.refl e1 Fc (g := (mkF m 7 #[.val (.ref a1)] [(.ref a1)])) rfl rfl (hb hby own_d15_7)
  refine own_go st2 ?_
  show own_Go _ _ _ _ (T2.setTop (mkF m 10 #[.val (.ref a1)] [(.int (0 : Int32))]))
  refine own_go (fun _ => XS.ifNo X2.here hx rfl (hb hby own_d15_10) rfl ((if0 _ _).trans (teq (by decide)).2)) ?_
  show own_Go _ _ _ _ (T2.setTop (mkF m 13 #[.val (.ref a1)] []))
  refine own_go (fun _ => XS.iconst X2.here hx rfl (hb hby own_d15_13)) ?_
  refine own_go (fun _ => XS.goto X2.here hx rfl (pc0 := 14) (pc' := 18) rfl (hb hby own_d15_14) (by decide) (by decide)) ?_
  show own_Go _ _ _ _ (T2.setTop (mkF m 18 #[.val (.ref a1)] [(.int (1 : Int32))]))
  refine own_ret X2 hlk (v := some (.int (1 : Int32))) (fun h => by rw [Bd.returns] at h; cases h) (fun fs hr => retN X2 hx (t := .boolean) Bd.returns (by simp) (hb hby own_d15_18) hr) ?_ (by decide) (by decide)
  try rw [e2]
  exact ⟨rfl, N0, rfl⟩
theorem own_d12_0 : decode jdk_42_method_54_code 0 = .ok (.aload_n 0, 1) := by decide +kernel
theorem own_d12_1 : decode jdk_42_method_54_code 1 = .ok (.getfield 9, 3) := by decide +kernel
theorem own_d12_4 : decode jdk_42_method_54_code 4 = .ok (.arraylength, 1) := by decide +kernel
theorem own_d12_5 : decode jdk_42_method_54_code 5 = .ok (.aload_n 0, 1) := by decide +kernel
theorem own_d12_6 : decode jdk_42_method_54_code 6 = .ok (.invokevirtual 335, 3) := by decide +kernel
theorem own_pd1 : parseMethodDescriptor "()B" = some ⟨[], some .byte⟩ := by decide +kernel
theorem own_d12_9 : decode jdk_42_method_54_code 9 = .ok (.ishr, 1) := by decide +kernel
theorem own_d12_10 : decode jdk_42_method_54_code 10 = .ok (.ireturn, 1) := by decide +kernel
set_option maxRecDepth 65536 in
set_option maxHeartbeats 40000000 in
theorem own_rmln0 (l : Launch) (Z : State) (a0 : Array Value) (hw : ∀ d ∈ tables_1, d.before a0 Z = true) (a1 : Addr) (b : Addr) (k : ClassId) (cs : Int32) (z : Int32) (n : Int32) (vs : List Value) (h0 : Heap) (n0 : Nat) (Z0 : n0 ≤ h0.size) (E1 : Exa Z h0 a1 "java/lang/String") (Fv : Fld Z h0 a1 "java/lang/String" "value" "[B" (.ref b)) (Fc : Fld Z h0 a1 "java/lang/String" "coder" "B" (.int 0)) (V : Arv Z h0 b k .byte z vs (.int 0)) (O : Old Z n0 h0) (S_C : Sta Z Z.heap "java/lang/String" "COMPACT_STRINGS" "Z" (.int cs)) (hcs : ¬ cs = (0 : Int32)) (hn : (z >>> ((0 : Int32) &&& 31)) = n) :
    own_Met l Z [] (⟨"java/lang/String", "length", "()I"⟩ : MethodName) jdk_42_method_54_code 1 (some .int) ({ frames := 1, cells := 0, slots := 0, locals := 13 } : Room) #[(.ref a1)] h0 (fun v h L => v = some (.int n) ∧ Fr n0 L ∧ h = h0) := by
  refine MetFree.of_bodySF (plainFor_of_name own_pn1) hisR ?_
  intro p e s m args below meth c s₁ Bd hml0 hP hK
  obtain ⟨rfl, hZ, hh⟩ := hP
  have hx := Bd.exec
  have hby := Bd.bytes
  have hml : c.maxLocals = 1 := hml0
  have hown : s.vm.findClass "java/lang/String" = some m.cls := findClass_of_methodNamed Bd.named
  have hnm := (name_of_methodNamed Bd.named Bd.method).1
  have hlk : meth.locks = false := Bd.notSynchronized
  have X0 : Stand p l e ({ frames := 1, cells := 0, slots := 0, locals := 13 } : Room) s m #[(.ref a1)] below meth c s₁ [] 0 0 := Stand.of_body Bd
  have e0 : s₁.heap = h0 := by rw [← hh, Bd.state]; rfl
  have N0 := Fr.nil n0
  refine own_body (Q := fun v h L => v = some (.int n) ∧ Fr n0 L ∧ h = h0) ?_
  refine own_go (fun _ kont => castTop (own_ef m #[(.ref a1)] 1 #[.val (.ref a1)] (own_al [(.ref a1)] 1 [.val (.ref a1)] rfl)) kont) ?_
  show own_Go _ _ _ _ (s₁.setTop (mkF m 0 #[.val (.ref a1)] []))
  refine own_go (fun _ => XS.aloadN X0.here hx rfl (hb hby own_d12_0) rfl rfl) ?_
  obtain ⟨T1, X1, e1, st1⟩ := getF X0 hx hZ hown (host := "") (Or.inl (hw _ (List.mem_of_getElem? (i := 29) rfl))) Via.refl e0 Fv (g := (mkF m 1 #[.val (.ref a1)] [(.ref a1)])) rfl rfl (hb hby own_d12_1)
  refine own_go st1 ?_
  obtain ⟨cl2, Ar2, -, Sz2, Ng2, -, -⟩ := id V
  refine own_go (X1.arraylength hx (own_hp e1 Ar2.1) (State.isArrayOf_alike hZ.alike Ar2.2.1) (g := (mkF m 4 #[.val (.ref a1)] [(.ref b)])) rfl rfl (hb hby own_d12_4)) ?_
  rw [len_of Sz2 Ng2]
  refine own_go (fun _ => XS.aloadN X1.here hx rfl (hb hby own_d12_5) rfl rfl) ?_
  show own_Go _ _ _ _ (T1.setTop (mkF m 6 #[.val (.ref a1)] [(.ref a1), (.int z)]))
  obtain ⟨cq3, kq3, q3a, q3b, q3c⟩ := isOf hZ e1 E1
  obtain ⟨_, _, ⟨T3, L3, k3, n3⟩, -, X3, ⟨Lc3, hQ3, l3, y3, z3⟩, st3⟩ := X1.virtualBack hx (y := (⟨"java/lang/String", "coder", "()B"⟩ : MethodName)) (z := (⟨"java/lang/String", "coder", "()B"⟩ : MethodName)) hown (mvT hZ (hw _ (List.mem_of_getElem? (i := 63) rfl))) (mvT hZ (hw _ (List.mem_of_getElem? (i := 64) rfl))) (notFace_of_selects (args := #[]) (mvT hZ (hw _ (List.mem_of_getElem? (i := 66) rfl)))) (mvT hZ (hw _ (List.mem_of_getElem? (i := 66) rfl))) (mvT hZ (hw _ (List.mem_of_getElem? (i := 65) rfl))) (by decide) (own_back (W := 1) (own_rmco0 l Z a0 hw a1 cs h0 n0 Z0 Fc O S_C hcs) hZ (hw _ (List.mem_of_getElem? (i := 67) rfl)) (hw _ (List.mem_of_getElem? (i := 3) rfl)) (by decide) (by decide)) q3a q3c (g := (mkF m 6 #[.val (.ref a1)] [(.ref a1), (.int z)])) rfl (by rw [hml]; rfl) (Steps.refl _) (argsL := []) (rest := [(.int z)]) (lenOf own_pd1 rfl) rfl (by show 2 * 0 + _ ≤ _; exact Nat.le_of_eq rfl) (hb hby own_d12_6) (fun _ _ => ⟨rfl, e1, (by decide : 0 + 0 ≤ _), (by decide : 0 + 0 ≤ _)⟩)
  dsimp only [Pt.U, Pt.locs, Pt.cells, Pt.slots] at X3 l3 y3 z3 st3 hQ3
  replace X3 := own_cst X3 l3 y3 z3 (k2 := 0) (n2 := 0) rfl rfl
  clear l3 y3 z3
  obtain ⟨rfl, Nq3, eq3⟩ := hQ3
  have NF3 := Fr.app N0 Nq3
  refine own_goT st3 ?_
  show own_Go _ _ _ _ (T3.setTop (mkF m 9 #[.val (.ref a1)] [(.int (0 : Int32)), (.int z)]))
  refine own_go (fun _ => XS.ishr X3.here hx rfl (hb hby own_d12_9) rfl) ?_
  show own_Go _ _ _ _ (T3.setTop (mkF m 10 #[.val (.ref a1)] [(.int (z >>> ((0 : Int32) &&& 31)))]))
  refine own_ret X3 hlk (v := some (.int (z >>> ((0 : Int32) &&& 31)))) (fun h => by rw [Bd.returns] at h; cases h) (fun fs hr => retOut X3 hx Bd.returns rfl (Or.inl ⟨rfl, Or.inl rfl, _, rfl⟩) (hb hby own_d12_10) hr) ?_ (by decide) (by decide)
  try rw [eq3]
  exact ⟨by rw [hn], NF3, rfl⟩
set_option maxRecDepth 65536 in
set_option maxHeartbeats 40000000 in
theorem own_rmco1 (l : Launch) (Z : State) (a0 : Array Value) (hw : ∀ d ∈ tables_1, d.before a0 Z = true) (a1 : Addr) (cs : Int32) (h0 : Heap) (n0 : Nat) (Z0 : n0 ≤ h0.size) (Fc : Fld Z h0 a1 "java/lang/String" "coder" "B" (.int 1)) (O : Old Z n0 h0) (S_C : Sta Z Z.heap "java/lang/String" "COMPACT_STRINGS" "Z" (.int cs)) (hcs : ¬ cs = (0 : Int32)) :
    own_Met l Z [] (⟨"java/lang/String", "coder", "()B"⟩ : MethodName) jdk_42_method_152_code 1 (some .byte) ({ frames := 0, cells := 0, slots := 0, locals := 0 } : Room) #[(.ref a1)] h0 (fun v h L => v = some (.int 1) ∧ Fr n0 L ∧ h = h0) := by
  refine MetFree.of_bodySF (plainFor_of_name own_pn1) hisR ?_
  intro p e s m args below meth c s₁ Bd hml0 hP hK
  obtain ⟨rfl, hZ, hh⟩ := hP
  have hx := Bd.exec
  have hby := Bd.bytes
  have hml : c.maxLocals = 1 := hml0
  have hown : s.vm.findClass "java/lang/String" = some m.cls := findClass_of_methodNamed Bd.named
  have hnm := (name_of_methodNamed Bd.named Bd.method).1
  have hlk : meth.locks = false := Bd.notSynchronized
  have X0 : Stand p l e ({ frames := 0, cells := 0, slots := 0, locals := 0 } : Room) s m #[(.ref a1)] below meth c s₁ [] 0 0 := Stand.of_body Bd
  have e0 : s₁.heap = h0 := by rw [← hh, Bd.state]; rfl
  have N0 := Fr.nil n0
  refine own_body (Q := fun v h L => v = some (.int 1) ∧ Fr n0 L ∧ h = h0) ?_
  refine own_go (fun _ kont => castTop (own_ef m #[(.ref a1)] 1 #[.val (.ref a1)] (own_al [(.ref a1)] 1 [.val (.ref a1)] rfl)) kont) ?_
  show own_Go _ _ _ _ (s₁.setTop (mkF m 0 #[.val (.ref a1)] []))
  obtain ⟨T1, X1, e1, st1⟩ := getS2 X0 hx hZ hown (host := "") (Or.inl (hw _ (List.mem_of_getElem? (i := 15) rfl))) Via.refl e0 (S_C.ext O.2) (g := (mkF m 0 #[.val (.ref a1)] [])) rfl (hb hby own_d13_0)
  refine own_go st1 ?_
  show own_Go _ _ _ _ (T1.setTop (mkF m 3 #[.val (.ref a1)] [(.int cs)]))
  refine own_go (fun _ => XS.ifNo X1.here hx rfl (hb hby own_d13_3) rfl ((if0 _ _).trans (feq hcs).1)) ?_
  show own_Go _ _ _ _ (T1.setTop (mkF m 6 #[.val (.ref a1)] []))
  refine own_go (fun _ => XS.aloadN X1.here hx rfl (hb hby own_d13_6) rfl rfl) ?_
  obtain ⟨T2, X2, e2, st2⟩ := getF X1 hx hZ hown (host := "") (Or.inl (hw _ (List.mem_of_getElem? (i := 27) rfl))) Via.refl e1 Fc (g := (mkF m 7 #[.val (.ref a1)] [(.ref a1)])) rfl rfl (hb hby own_d13_7)
  refine own_go st2 ?_
  refine own_go (fun _ => XS.goto X2.here hx rfl (pc0 := 10) (pc' := 14) rfl (hb hby own_d13_10) (by decide) (by decide)) ?_
  show own_Go _ _ _ _ (T2.setTop (mkF m 14 #[.val (.ref a1)] [(.int (1 : Int32))]))
  refine own_ret X2 hlk (v := some (.int (1 : Int32))) (fun h => by rw [Bd.returns] at h; cases h) (fun fs hr => retN X2 hx (t := .byte) Bd.returns (by simp) (hb hby own_d13_14) hr) ?_ (by decide) (by decide)
  try rw [e2]
  exact ⟨rfl, N0, rfl⟩
theorem own_d15_17 : decode jdk_42_method_154_code 17 = .ok (.iconst 0, 1) := by decide +kernel
set_option maxRecDepth 65536 in
set_option maxHeartbeats 40000000 in
theorem own_rmil1 (l : Launch) (Z : State) (a0 : Array Value) (hw : ∀ d ∈ tables_1, d.before a0 Z = true) (a1 : Addr) (cs : Int32) (h0 : Heap) (n0 : Nat) (Z0 : n0 ≤ h0.size) (Fc : Fld Z h0 a1 "java/lang/String" "coder" "B" (.int 1)) (O : Old Z n0 h0) (S_C : Sta Z Z.heap "java/lang/String" "COMPACT_STRINGS" "Z" (.int cs)) (hcs : ¬ cs = (0 : Int32)) :
    own_Met l Z [] (⟨"java/lang/String", "isLatin1", "()Z"⟩ : MethodName) jdk_42_method_154_code 1 (some .boolean) ({ frames := 0, cells := 0, slots := 0, locals := 0 } : Room) #[(.ref a1)] h0 (fun v h L => v = some (.int 0) ∧ Fr n0 L ∧ h = h0) := by
  refine MetFree.of_bodySF (plainFor_of_name own_pn1) hisR ?_
  intro p e s m args below meth c s₁ Bd hml0 hP hK
  obtain ⟨rfl, hZ, hh⟩ := hP
  have hx := Bd.exec
  have hby := Bd.bytes
  have hml : c.maxLocals = 1 := hml0
  have hown : s.vm.findClass "java/lang/String" = some m.cls := findClass_of_methodNamed Bd.named
  have hnm := (name_of_methodNamed Bd.named Bd.method).1
  have hlk : meth.locks = false := Bd.notSynchronized
  have X0 : Stand p l e ({ frames := 0, cells := 0, slots := 0, locals := 0 } : Room) s m #[(.ref a1)] below meth c s₁ [] 0 0 := Stand.of_body Bd
  have e0 : s₁.heap = h0 := by rw [← hh, Bd.state]; rfl
  have N0 := Fr.nil n0
  refine own_body (Q := fun v h L => v = some (.int 0) ∧ Fr n0 L ∧ h = h0) ?_
  refine own_go (fun _ kont => castTop (own_ef m #[(.ref a1)] 1 #[.val (.ref a1)] (own_al [(.ref a1)] 1 [.val (.ref a1)] rfl)) kont) ?_
  show own_Go _ _ _ _ (s₁.setTop (mkF m 0 #[.val (.ref a1)] []))
  obtain ⟨T1, X1, e1, st1⟩ := getS2 X0 hx hZ hown (host := "") (Or.inl (hw _ (List.mem_of_getElem? (i := 15) rfl))) Via.refl e0 (S_C.ext O.2) (g := (mkF m 0 #[.val (.ref a1)] [])) rfl (hb hby own_d15_0)
  refine own_go st1 ?_
  show own_Go _ _ _ _ (T1.setTop (mkF m 3 #[.val (.ref a1)] [(.int cs)]))
  refine own_go (fun _ => XS.ifNo X1.here hx rfl (hb hby own_d15_3) rfl ((if0 _ _).trans (feq hcs).1)) ?_
  show own_Go _ _ _ _ (T1.setTop (mkF m 6 #[.val (.ref a1)] []))
  refine own_go (fun _ => XS.aloadN X1.here hx rfl (hb hby own_d15_6) rfl rfl) ?_
  obtain ⟨T2, X2, e2, st2⟩ := getF X1 hx hZ hown (host := "") (Or.inl (hw _ (List.mem_of_getElem? (i := 27) rfl))) Via.refl e1 Fc (g := (mkF m 7 #[.val (.ref a1)] [(.ref a1)])) rfl rfl (hb hby own_d15_7)
  refine own_go st2 ?_
  show own_Go _ _ _ _ (T2.setTop (mkF m 10 #[.val (.ref a1)] [(.int (1 : Int32))]))
  refine own_go (fun _ => XS.ifYes X2.here hx rfl (pc0 := 10) (pc' := 17) rfl (hb hby own_d15_10) rfl ((if0 _ _).trans (feq (by decide)).2) (by decide) (by decide)) ?_
  show own_Go _ _ _ _ (T2.setTop (mkF m 17 #[.val (.ref a1)] []))
  refine own_go (fun _ => XS.iconst X2.here hx rfl (hb hby own_d15_17)) ?_
  show own_Go _ _ _ _ (T2.setTop (mkF m 18 #[.val (.ref a1)] [(.int (0 : Int32))]))
  refine own_ret X2 hlk (v := some (.int (0 : Int32))) (fun h => by rw [Bd.returns] at h; cases h) (fun fs hr => retN X2 hx (t := .boolean) Bd.returns (by simp) (hb hby own_d15_18) hr) ?_ (by decide) (by decide)
  try rw [e2]
  exact ⟨rfl, N0, rfl⟩
set_option maxRecDepth 65536 in
set_option maxHeartbeats 40000000 in
theorem own_rmln1 (l : Launch) (Z : State) (a0 : Array Value) (hw : ∀ d ∈ tables_1, d.before a0 Z = true) (a1 : Addr) (b : Addr) (k : ClassId) (cs : Int32) (z : Int32) (n : Int32) (vs : List Value) (h0 : Heap) (n0 : Nat) (Z0 : n0 ≤ h0.size) (E1 : Exa Z h0 a1 "java/lang/String") (Fv : Fld Z h0 a1 "java/lang/String" "value" "[B" (.ref b)) (Fc : Fld Z h0 a1 "java/lang/String" "coder" "B" (.int 1)) (V : Arv Z h0 b k .byte z vs (.int 0)) (O : Old Z n0 h0) (S_C : Sta Z Z.heap "java/lang/String" "COMPACT_STRINGS" "Z" (.int cs)) (hcs : ¬ cs = (0 : Int32)) (hn : (z >>> ((1 : Int32) &&& 31)) = n) :
    own_Met l Z [] (⟨"java/lang/String", "length", "()I"⟩ : MethodName) jdk_42_method_54_code 1 (some .int) ({ frames := 1, cells := 0, slots := 0, locals := 13 } : Room) #[(.ref a1)] h0 (fun v h L => v = some (.int n) ∧ Fr n0 L ∧ h = h0) := by
  refine MetFree.of_bodySF (plainFor_of_name own_pn1) hisR ?_
  intro p e s m args below meth c s₁ Bd hml0 hP hK
  obtain ⟨rfl, hZ, hh⟩ := hP
  have hx := Bd.exec
  have hby := Bd.bytes
  have hml : c.maxLocals = 1 := hml0
  have hown : s.vm.findClass "java/lang/String" = some m.cls := findClass_of_methodNamed Bd.named
  have hnm := (name_of_methodNamed Bd.named Bd.method).1
  have hlk : meth.locks = false := Bd.notSynchronized
  have X0 : Stand p l e ({ frames := 1, cells := 0, slots := 0, locals := 13 } : Room) s m #[(.ref a1)] below meth c s₁ [] 0 0 := Stand.of_body Bd
  have e0 : s₁.heap = h0 := by rw [← hh, Bd.state]; rfl
  have N0 := Fr.nil n0
  refine own_body (Q := fun v h L => v = some (.int n) ∧ Fr n0 L ∧ h = h0) ?_
  refine own_go (fun _ kont => castTop (own_ef m #[(.ref a1)] 1 #[.val (.ref a1)] (own_al [(.ref a1)] 1 [.val (.ref a1)] rfl)) kont) ?_
  show own_Go _ _ _ _ (s₁.setTop (mkF m 0 #[.val (.ref a1)] []))
  refine own_go (fun _ => XS.aloadN X0.here hx rfl (hb hby own_d12_0) rfl rfl) ?_
  obtain ⟨T1, X1, e1, st1⟩ := getF X0 hx hZ hown (host := "") (Or.inl (hw _ (List.mem_of_getElem? (i := 29) rfl))) Via.refl e0 Fv (g := (mkF m 1 #[.val (.ref a1)] [(.ref a1)])) rfl rfl (hb hby own_d12_1)
  refine own_go st1 ?_
  obtain ⟨cl2, Ar2, -, Sz2, Ng2, -, -⟩ := id V
  refine own_go (X1.arraylength hx (own_hp e1 Ar2.1) (State.isArrayOf_alike hZ.alike Ar2.2.1) (g := (mkF m 4 #[.val (.ref a1)] [(.ref b)])) rfl rfl (hb hby own_d12_4)) ?_
  rw [len_of Sz2 Ng2]
  refine own_go (fun _ => XS.aloadN X1.here hx rfl (hb hby own_d12_5) rfl rfl) ?_
  show own_Go _ _ _ _ (T1.setTop (mkF m 6 #[.val (.ref a1)] [(.ref a1), (.int z)]))
  obtain ⟨cq3, kq3, q3a, q3b, q3c⟩ := isOf hZ e1 E1
  obtain ⟨_, _, ⟨T3, L3, k3, n3⟩, -, X3, ⟨Lc3, hQ3, l3, y3, z3⟩, st3⟩ := X1.virtualBack hx (y := (⟨"java/lang/String", "coder", "()B"⟩ : MethodName)) (z := (⟨"java/lang/String", "coder", "()B"⟩ : MethodName)) hown (mvT hZ (hw _ (List.mem_of_getElem? (i := 63) rfl))) (mvT hZ (hw _ (List.mem_of_getElem? (i := 64) rfl))) (notFace_of_selects (args := #[]) (mvT hZ (hw _ (List.mem_of_getElem? (i := 66) rfl)))) (mvT hZ (hw _ (List.mem_of_getElem? (i := 66) rfl))) (mvT hZ (hw _ (List.mem_of_getElem? (i := 65) rfl))) (by decide) (own_back (W := 1) (own_rmco1 l Z a0 hw a1 cs h0 n0 Z0 Fc O S_C hcs) hZ (hw _ (List.mem_of_getElem? (i := 67) rfl)) (hw _ (List.mem_of_getElem? (i := 3) rfl)) (by decide) (by decide)) q3a q3c (g := (mkF m 6 #[.val (.ref a1)] [(.ref a1), (.int z)])) rfl (by rw [hml]; rfl) (Steps.refl _) (argsL := []) (rest := [(.int z)]) (lenOf own_pd1 rfl) rfl (by show 2 * 0 + _ ≤ _; exact Nat.le_of_eq rfl) (hb hby own_d12_6) (fun _ _ => ⟨rfl, e1, (by decide : 0 + 0 ≤ _), (by decide : 0 + 0 ≤ _)⟩)
  dsimp only [Pt.U, Pt.locs, Pt.cells, Pt.slots] at X3 l3 y3 z3 st3 hQ3
  replace X3 := own_cst X3 l3 y3 z3 (k2 := 0) (n2 := 0) rfl rfl
  clear l3 y3 z3
  obtain ⟨rfl, Nq3, eq3⟩ := hQ3
  have NF3 := Fr.app N0 Nq3
  refine own_goT st3 ?_
  show own_Go _ _ _ _ (T3.setTop (mkF m 9 #[.val (.ref a1)] [(.int (1 : Int32)), (.int z)]))
  refine own_go (fun _ => XS.ishr X3.here hx rfl (hb hby own_d12_9) rfl) ?_
  show own_Go _ _ _ _ (T3.setTop (mkF m 10 #[.val (.ref a1)] [(.int (z >>> ((1 : Int32) &&& 31)))]))
  refine own_ret X3 hlk (v := some (.int (z >>> ((1 : Int32) &&& 31)))) (fun h => by rw [Bd.returns] at h; cases h) (fun fs hr => retOut X3 hx Bd.returns rfl (Or.inl ⟨rfl, Or.inl rfl, _, rfl⟩) (hb hby own_d12_10) hr) ?_ (by decide) (by decide)
  try rw [eq3]
  exact ⟨by rw [hn], NF3, rfl⟩
theorem own_d9_12 : decode jdk_42_method_55_code 12 = .ok (.iconst 0, 1) := by decide +kernel
set_option maxRecDepth 65536 in
set_option maxHeartbeats 40000000 in
theorem own_rme (l : Launch) (Z : State) (a0 : Array Value) (hw : ∀ d ∈ tables_1, d.before a0 Z = true) (a1 : Addr) (b : Addr) (k : ClassId) (z : Int32) (vs : List Value) (h0 : Heap) (n0 : Nat) (Z0 : n0 ≤ h0.size) (Fv : Fld Z h0 a1 "java/lang/String" "value" "[B" (.ref b)) (V : Arv Z h0 b k .byte z vs (.int 0)) (hz : ¬ z = (0 : Int32)) :
    own_Met l Z [] (⟨"java/lang/String", "isEmpty", "()Z"⟩ : MethodName) jdk_42_method_55_code 1 (some .boolean) ({ frames := 0, cells := 0, slots := 0, locals := 0 } : Room) #[(.ref a1)] h0 (fun v h L => v = some (.int 0) ∧ Fr n0 L ∧ h = h0) := by
  refine MetFree.of_bodySF (plainFor_of_name own_pn1) hisR ?_
  intro p e s m args below meth c s₁ Bd hml0 hP hK
  obtain ⟨rfl, hZ, hh⟩ := hP
  have hx := Bd.exec
  have hby := Bd.bytes
  have hml : c.maxLocals = 1 := hml0
  have hown : s.vm.findClass "java/lang/String" = some m.cls := findClass_of_methodNamed Bd.named
  have hnm := (name_of_methodNamed Bd.named Bd.method).1
  have hlk : meth.locks = false := Bd.notSynchronized
  have X0 : Stand p l e ({ frames := 0, cells := 0, slots := 0, locals := 0 } : Room) s m #[(.ref a1)] below meth c s₁ [] 0 0 := Stand.of_body Bd
  have e0 : s₁.heap = h0 := by rw [← hh, Bd.state]; rfl
  have N0 := Fr.nil n0
  refine own_body (Q := fun v h L => v = some (.int 0) ∧ Fr n0 L ∧ h = h0) ?_
  refine own_go (fun _ kont => castTop (own_ef m #[(.ref a1)] 1 #[.val (.ref a1)] (own_al [(.ref a1)] 1 [.val (.ref a1)] rfl)) kont) ?_
  show own_Go _ _ _ _ (s₁.setTop (mkF m 0 #[.val (.ref a1)] []))
  refine own_go (fun _ => XS.aloadN X0.here hx rfl (hb hby own_d9_0) rfl rfl) ?_
  obtain ⟨T1, X1, e1, st1⟩ := getF X0 hx hZ hown (host := "") (Or.inl (hw _ (List.mem_of_getElem? (i := 29) rfl))) Via.refl e0 Fv (g := (mkF m 1 #[.val (.ref a1)] [(.ref a1)])) rfl rfl (hb hby own_d9_1)
  refine own_go st1 ?_
  obtain ⟨cl2, Ar2, -, Sz2, Ng2, -, -⟩ := id V
  refine own_go (X1.arraylength hx (own_hp e1 Ar2.1) (State.isArrayOf_alike hZ.alike Ar2.2.1) (g := (mkF m 4 #[.val (.ref a1)] [(.ref b)])) rfl rfl (hb hby own_d9_4)) ?_
  rw [len_of Sz2 Ng2]
  show own_Go _ _ _ _ (T1.setTop (mkF m 5 #[.val (.ref a1)] [(.int z)]))
  refine own_go (fun _ => XS.ifYes X1.here hx rfl (pc0 := 5) (pc' := 12) rfl (hb hby own_d9_5) rfl ((if0 _ _).trans (feq hz).2) (by decide) (by decide)) ?_
  show own_Go _ _ _ _ (T1.setTop (mkF m 12 #[.val (.ref a1)] []))
  refine own_go (fun _ => XS.iconst X1.here hx rfl (hb hby own_d9_12)) ?_
  show own_Go _ _ _ _ (T1.setTop (mkF m 13 #[.val (.ref a1)] [(.int (0 : Int32))]))
  refine own_ret X1 hlk (v := some (.int (0 : Int32))) (fun h => by rw [Bd.returns] at h; cases h) (fun fs hr => retN X1 hx (t := .boolean) Bd.returns (by simp) (hb hby own_d9_13) hr) ?_ (by decide) (by decide)
  try rw [e1]
  exact ⟨rfl, N0, rfl⟩
theorem own_d16_0 : decode jdk_43_method_2_code 0 = .ok (.iload_n 1, 1) := by decide +kernel
theorem own_d16_1 : decode jdk_43_method_2_code 1 = .ok (.aload_n 0, 1) := by decide +kernel
theorem own_d16_2 : decode jdk_43_method_2_code 2 = .ok (.arraylength, 1) := by decide +kernel
theorem own_d16_3 : decode jdk_43_method_2_code 3 = .ok (.invokestatic 9, 3) := by decide +kernel
theorem own_pd2 : parseMethodDescriptor "(II)V" = some ⟨[.int, .int], none⟩ := by decide +kernel
theorem own_d16_6 : decode jdk_43_method_2_code 6 = .ok (.aload_n 0, 1) := by decide +kernel
theorem own_d16_7 : decode jdk_43_method_2_code 7 = .ok (.iload_n 1, 1) := by decide +kernel
theorem own_d16_8 : decode jdk_43_method_2_code 8 = .ok (.baload, 1) := by decide +kernel
theorem own_d16_9 : decode jdk_43_method_2_code 9 = .ok (.sipush 255, 3) := by decide +kernel
theorem own_d16_12 : decode jdk_43_method_2_code 12 = .ok (.iand, 1) := by decide +kernel
theorem own_d16_13 : decode jdk_43_method_2_code 13 = .ok (.i2c, 1) := by decide +kernel
theorem own_d16_14 : decode jdk_43_method_2_code 14 = .ok (.ireturn, 1) := by decide +kernel
set_option maxRecDepth 65536 in
set_option maxHeartbeats 40000000 in
theorem own_rmlc (l : Launch) (Z : State) (a0 : Array Value) (hw : ∀ d ∈ tables_1, d.before a0 Z = true) (b : Addr) (k : ClassId) (fmt : Value) (z : Int32) (i : Int32) (y : Int32) (vs : List Value) (h0 : Heap) (n0 : Nat) (Z0 : n0 ≤ h0.size) (V : Arv Z h0 b k .byte z vs (.int 0)) (ci1 : ¬ i < (0 : Int32)) (ci2 : i < z) (hv : vs.getD i.toNatClampNeg (.int 0) = .int y) (O : Old Z n0 h0) (S_F : Sta Z Z.heap "jdk/internal/util/Preconditions" "SIOOBE_FORMATTER" "Ljava/util/function/BiFunction;" fmt) (hfmt : fmt = .null ∨ ∃ o : Addr, fmt = .ref o) :
    own_Met l Z [] (⟨"java/lang/StringLatin1", "charAt", "([BI)C"⟩ : MethodName) jdk_43_method_2_code 2 (some .char) ({ frames := 2, cells := 0, slots := 0, locals := 27 } : Room) #[(.ref b), (.int i)] h0 (fun v h L => v = some (.int (own_lc y)) ∧ Fr n0 L ∧ h = h0) := by
  refine MetFree.of_bodySF (plainFor_of_name own_pn0) hisR ?_
  intro p e s m args below meth c s₁ Bd hml0 hP hK
  obtain ⟨rfl, hZ, hh⟩ := hP
  have hx := Bd.exec
  have hby := Bd.bytes
  have hml : c.maxLocals = 2 := hml0
  have hown : s.vm.findClass "java/lang/StringLatin1" = some m.cls := findClass_of_methodNamed Bd.named
  have hnm := (name_of_methodNamed Bd.named Bd.method).1
  have hlk : meth.locks = false := Bd.notSynchronized
  have X0 : Stand p l e ({ frames := 2, cells := 0, slots := 0, locals := 27 } : Room) s m #[(.ref b), (.int i)] below meth c s₁ [] 0 0 := Stand.of_body Bd
  have e0 : s₁.heap = h0 := by rw [← hh, Bd.state]; rfl
  have N0 := Fr.nil n0
  refine own_body (Q := fun v h L => v = some (.int (own_lc y)) ∧ Fr n0 L ∧ h = h0) ?_
  refine own_go (fun _ kont => castTop (own_ef m #[(.ref b), (.int i)] 2 #[.val (.ref b), .val (.int i)] (own_al [(.ref b), (.int i)] 2 [.val (.ref b), .val (.int i)] rfl)) kont) ?_
  show own_Go _ _ _ _ (s₁.setTop (mkF m 0 #[.val (.ref b), .val (.int i)] []))
  refine own_go (fun _ => XS.iloadN X0.here hx rfl (hb hby own_d16_0) rfl) ?_
  refine own_go (fun _ => XS.aloadN X0.here hx rfl (hb hby own_d16_1) rfl rfl) ?_
  obtain ⟨cl1, Ar1, -, Sz1, Ng1, -, -⟩ := id V
  refine own_go (X0.arraylength hx (own_hp e0 Ar1.1) (State.isArrayOf_alike hZ.alike Ar1.2.1) (g := (mkF m 2 #[.val (.ref b), .val (.int i)] [(.ref b), (.int i)])) rfl rfl (hb hby own_d16_2)) ?_
  rw [len_of Sz1 Ng1]
  show own_Go _ _ _ _ (s₁.setTop (mkF m 3 #[.val (.ref b), .val (.int i)] [(.int z), (.int i)]))
  obtain ⟨_, _, ⟨T2, L2, k2, n2⟩, -, X2, ⟨Lc2, hQ2, l2, y2, z2⟩, st2⟩ := Jvm.LawKit.callS X0 hx (y := (⟨"java/lang/String", "checkIndex", "(II)V"⟩ : MethodName)) hown (mvT hZ (hw _ (List.mem_of_getElem? (i := 82) rfl))) (mvT hZ (hw _ (List.mem_of_getElem? (i := 83) rfl))) (mvT hZ (hw _ (List.mem_of_getElem? (i := 3) rfl))) (mvT hZ (hw _ (List.mem_of_getElem? (i := 84) rfl))) (by decide) (own_back (W := 0) (own_rmCI l Z a0 hw i z fmt h0 n0 Z0 ci1 ci2 O S_F hfmt) hZ (hw _ (List.mem_of_getElem? (i := 84) rfl)) (hw _ (List.mem_of_getElem? (i := 3) rfl)) (by decide) (by decide)) (g := (mkF m 3 #[.val (.ref b), .val (.int i)] [(.int z), (.int i)])) rfl (by rw [hml]; rfl) (argsL := [(.int i), (.int z)]) (rest := []) (lenOf own_pd2 rfl) rfl (by show 2 * 0 + _ ≤ _; exact Nat.le_of_eq rfl) (hb hby own_d16_3) (fun _ _ => ⟨rfl, e0, (by decide : 0 + 0 ≤ _), (by decide : 0 + 0 ≤ _)⟩)
  dsimp only [Pt.U, Pt.locs, Pt.cells, Pt.slots] at X2 l2 y2 z2 st2 hQ2
  replace X2 := own_cst X2 l2 y2 z2 (k2 := 0) (n2 := 0) rfl rfl
  clear l2 y2 z2
  obtain ⟨rfl, Nq2, eq2⟩ := hQ2
  have NF2 := Fr.app N0 Nq2
  refine own_go st2 ?_
  show own_Go _ _ _ _ (T2.setTop (mkF m 6 #[.val (.ref b), .val (.int i)] []))
  refine own_go (fun _ => XS.aloadN X2.here hx rfl (hb hby own_d16_6) rfl rfl) ?_
  refine own_go (fun _ => XS.iloadN X2.here hx rfl (hb hby own_d16_7) rfl) ?_
  show own_Go _ _ _ _ (T2.setTop (mkF m 8 #[.val (.ref b), .val (.int i)] [(.int i), (.ref b)]))
  obtain ⟨cl3, Ar3, q3, Sz3, Ng3, Hs3, Gs3⟩ := id V
  have hin3 : ¬ (i < 0 ∨ cl3.slots.size ≤ (i).toNatClampNeg) := inb_of Sz3 ⟨ci1, ci2⟩
  have hat3 : cl3.slots[(i).toNatClampNeg]? = some (.int y) := Hs3.at hin3 hv
  refine own_go (X2.baloadBytes hx (j := i) (v := (.int y)) (own_hp eq2 Ar3.1) (State.isArrayOf_alike hZ.alike Ar3.2.1) Ar3.2.2 hin3 hat3 (g := (mkF m 8 #[.val (.ref b), .val (.int i)] [(.int i), (.ref b)])) rfl rfl (hb hby own_d16_8)) ?_
  show own_Go _ _ _ _ (T2.setTop (mkF m 9 #[.val (.ref b), .val (.int i)] [(.int y)]))
  refine own_go (fun _ => XS.sipush X2.here hx rfl (hb hby own_d16_9)) ?_
  refine own_go (fun _ => XS.iand X2.here hx rfl (hb hby own_d16_12) rfl) ?_
  refine own_go (fun _ => XS.i2c X2.here hx rfl (hb hby own_d16_13) rfl) ?_
  show own_Go _ _ _ _ (T2.setTop (mkF m 14 #[.val (.ref b), .val (.int i)] [(.int ((y &&& (255 : Int32)).toUInt32.toUInt16.toUInt32.toInt32))]))
  refine own_ret X2 hlk (v := some (.int (nar .char ((y &&& (255 : Int32)).toUInt32.toUInt16.toUInt32.toInt32)))) (fun h => by rw [Bd.returns] at h; cases h) (fun fs hr => retN X2 hx (t := .char) Bd.returns (by simp) (hb hby own_d16_14) hr) ?_ (by decide) (by decide)
  try rw [eq2]
  exact ⟨rfl, NF2, rfl⟩
theorem own_d14_0 : decode jdk_42_method_56_code 0 = .ok (.aload_n 0, 1) := by decide +kernel
theorem own_d14_1 : decode jdk_42_method_56_code 1 = .ok (.invokevirtual 492, 3) := by decide +kernel
theorem own_pd3 : parseMethodDescriptor "()Z" = some ⟨[], some .boolean⟩ := by decide +kernel
theorem own_d14_4 : decode jdk_42_method_56_code 4 = .ok (.ifCond .eq 12, 3) := by decide +kernel
theorem own_d14_7 : decode jdk_42_method_56_code 7 = .ok (.aload_n 0, 1) := by decide +kernel
theorem own_d14_8 : decode jdk_42_method_56_code 8 = .ok (.getfield 9, 3) := by decide +kernel
theorem own_d14_11 : decode jdk_42_method_56_code 11 = .ok (.iload_n 1, 1) := by decide +kernel
theorem own_d14_12 : decode jdk_42_method_56_code 12 = .ok (.invokestatic 495, 3) := by decide +kernel
theorem own_pd4 : parseMethodDescriptor "([BI)C" = some ⟨[(.array .byte), .int], some .char⟩ := by decide +kernel
theorem own_d14_15 : decode jdk_42_method_56_code 15 = .ok (.ireturn, 1) := by decide +kernel
set_option maxRecDepth 65536 in
set_option maxHeartbeats 40000000 in
theorem own_rmcaL (l : Launch) (Z : State) (a0 : Array Value) (hw : ∀ d ∈ tables_1, d.before a0 Z = true) (a1 : Addr) (b : Addr) (k : ClassId) (cs : Int32) (fmt : Value) (z : Int32) (i : Int32) (y : Int32) (vs : List Value) (h0 : Heap) (n0 : Nat) (Z0 : n0 ≤ h0.size) (E1 : Exa Z h0 a1 "java/lang/String") (Fv : Fld Z h0 a1 "java/lang/String" "value" "[B" (.ref b)) (Fc : Fld Z h0 a1 "java/lang/String" "coder" "B" (.int 0)) (V : Arv Z h0 b k .byte z vs (.int 0)) (O : Old Z n0 h0) (S_C : Sta Z Z.heap "java/lang/String" "COMPACT_STRINGS" "Z" (.int cs)) (hcs : ¬ cs = (0 : Int32)) (S_F : Sta Z Z.heap "jdk/internal/util/Preconditions" "SIOOBE_FORMATTER" "Ljava/util/function/BiFunction;" fmt) (hfmt : fmt = .null ∨ ∃ o : Addr, fmt = .ref o) (ci1 : ¬ i < (0 : Int32)) (ci2 : i < z) (hv : vs.getD i.toNatClampNeg (.int 0) = .int y) :
    own_Met l Z [] (⟨"java/lang/String", "charAt", "(I)C"⟩ : MethodName) jdk_42_method_56_code 2 (some .char) ({ frames := 4, cells := 0, slots := 0, locals := 53 } : Room) #[(.ref a1), (.int i)] h0 (fun v h L => v = some (.int (nar .char (own_lc y))) ∧ Fr n0 L ∧ h = h0) := by
  refine MetFree.of_bodySF (plainFor_of_name own_pn1) hisR ?_
  intro p e s m args below meth c s₁ Bd hml0 hP hK
  obtain ⟨rfl, hZ, hh⟩ := hP
  have hx := Bd.exec
  have hby := Bd.bytes
  have hml : c.maxLocals = 2 := hml0
  have hown : s.vm.findClass "java/lang/String" = some m.cls := findClass_of_methodNamed Bd.named
  have hnm := (name_of_methodNamed Bd.named Bd.method).1
  have hlk : meth.locks = false := Bd.notSynchronized
  have X0 : Stand p l e ({ frames := 4, cells := 0, slots := 0, locals := 53 } : Room) s m #[(.ref a1), (.int i)] below meth c s₁ [] 0 0 := Stand.of_body Bd
  have e0 : s₁.heap = h0 := by rw [← hh, Bd.state]; rfl
  have N0 := Fr.nil n0
  refine own_body (Q := fun v h L => v = some (.int (nar .char (own_lc y))) ∧ Fr n0 L ∧ h = h0) ?_
  refine own_go (fun _ kont => castTop (own_ef m #[(.ref a1), (.int i)] 2 #[.val (.ref a1), .val (.int i)] (own_al [(.ref a1), (.int i)] 2 [.val (.ref a1), .val (.int i)] rfl)) kont) ?_
  show own_Go _ _ _ _ (s₁.setTop (mkF m 0 #[.val (.ref a1), .val (.int i)] []))
  refine own_go (fun _ => XS.aloadN X0.here hx rfl (hb hby own_d14_0) rfl rfl) ?_
  show own_Go _ _ _ _ (s₁.setTop (mkF m 1 #[.val (.ref a1), .val (.int i)] [(.ref a1)]))
  obtain ⟨cq1, kq1, q1a, q1b, q1c⟩ := isOf hZ e0 E1
  obtain ⟨_, _, ⟨T1, L1, k1, n1⟩, -, X1, ⟨Lc1, hQ1, l1, y1, z1⟩, st1⟩ := X0.virtualBack hx (y := (⟨"java/lang/String", "isLatin1", "()Z"⟩ : MethodName)) (z := (⟨"java/lang/String", "isLatin1", "()Z"⟩ : MethodName)) hown (mvT hZ (hw _ (List.mem_of_getElem? (i := 74) rfl))) (mvT hZ (hw _ (List.mem_of_getElem? (i := 75) rfl))) (notFace_of_selects (args := #[]) (mvT hZ (hw _ (List.mem_of_getElem? (i := 77) rfl)))) (mvT hZ (hw _ (List.mem_of_getElem? (i := 77) rfl))) (mvT hZ (hw _ (List.mem_of_getElem? (i := 76) rfl))) (by decide) (own_back (W := 0) (own_rmil0 l Z a0 hw a1 cs h0 n0 Z0 Fc O S_C hcs) hZ (hw _ (List.mem_of_getElem? (i := 78) rfl)) (hw _ (List.mem_of_getElem? (i := 3) rfl)) (by decide) (by decide)) q1a q1c (g := (mkF m 1 #[.val (.ref a1), .val (.int i)] [(.ref a1)])) rfl (by rw [hml]; rfl) (Steps.refl _) (argsL := []) (rest := []) (lenOf own_pd3 rfl) rfl (by show 2 * 0 + _ ≤ _; exact Nat.le_of_eq rfl) (hb hby own_d14_1) (fun _ _ => ⟨rfl, e0, (by decide : 0 + 0 ≤ _), (by decide : 0 + 0 ≤ _)⟩)
  dsimp only [Pt.U, Pt.locs, Pt.cells, Pt.slots] at X1 l1 y1 z1 st1 hQ1
  replace X1 := own_cst X1 l1 y1 z1 (k2 := 0) (n2 := 0) rfl rfl
  clear l1 y1 z1
  obtain ⟨rfl, Nq1, eq1⟩ := hQ1
  have NF1 := Fr.app N0 Nq1
  refine own_goT st1 ?_
  show own_Go _ _ _ _ (T1.setTop (mkF m 4 #[.val (.ref a1), .val (.int i)] [(.int (1 : Int32))]))
  refine own_go (fun _ => XS.ifNo X1.here hx rfl (hb hby own_d14_4) rfl ((if0 _ _).trans (feq (by decide)).1)) ?_
  show own_Go _ _ _ _ (T1.setTop (mkF m 7 #[.val (.ref a1), .val (.int i)] []))
  refine own_go (fun _ => XS.aloadN X1.here hx rfl (hb hby own_d14_7) rfl rfl) ?_
  obtain ⟨T2, X2, e2, st2⟩ := getF X1 hx hZ hown (host := "") (Or.inl (hw _ (List.mem_of_getElem? (i := 29) rfl))) Via.refl eq1 Fv (g := (mkF m 8 #[.val (.ref a1), .val (.int i)] [(.ref a1)])) rfl rfl (hb hby own_d14_8)
  refine own_go st2 ?_
  refine own_go (fun _ => XS.iloadN X2.here hx rfl (hb hby own_d14_11) rfl) ?_
  show own_Go _ _ _ _ (T2.setTop (mkF m 12 #[.val (.ref a1), .val (.int i)] [(.int i), (.ref b)]))
  obtain ⟨_, _, ⟨T3, L3, k3, n3⟩, -, X3, ⟨Lc3, hQ3, l3, y3, z3⟩, st3⟩ := Jvm.LawKit.callS X2 hx (y := (⟨"java/lang/StringLatin1", "charAt", "([BI)C"⟩ : MethodName)) hown (mvT hZ (hw _ (List.mem_of_getElem? (i := 79) rfl))) (mvT hZ (hw _ (List.mem_of_getElem? (i := 80) rfl))) (mvT hZ (hw _ (List.mem_of_getElem? (i := 55) rfl))) (mvT hZ (hw _ (List.mem_of_getElem? (i := 81) rfl))) (by decide) (own_back (W := 0) (own_rmlc l Z a0 hw b k fmt z i y vs h0 n0 Z0 V ci1 ci2 hv O S_F hfmt) hZ (hw _ (List.mem_of_getElem? (i := 81) rfl)) (hw _ (List.mem_of_getElem? (i := 55) rfl)) (by decide) (by decide)) (g := (mkF m 12 #[.val (.ref a1), .val (.int i)] [(.int i), (.ref b)])) rfl (by rw [hml]; rfl) (argsL := [(.ref b), (.int i)]) (rest := []) (lenOf own_pd4 rfl) rfl (by show 2 * 0 + _ ≤ _; exact Nat.le_of_eq rfl) (hb hby own_d14_12) (fun _ _ => ⟨rfl, e2, (by decide : 0 + 0 ≤ _), (by decide : 0 + 0 ≤ _)⟩)
  dsimp only [Pt.U, Pt.locs, Pt.cells, Pt.slots] at X3 l3 y3 z3 st3 hQ3
  replace X3 := own_cst X3 l3 y3 z3 (k2 := 0) (n2 := 0) rfl rfl
  clear l3 y3 z3
  obtain ⟨rfl, Nq3, eq3⟩ := hQ3
  have NF3 := Fr.app NF1 Nq3
  refine own_go st3 ?_
  show own_Go _ _ _ _ (T3.setTop (mkF m 15 #[.val (.ref a1), .val (.int i)] [(.int (own_lc y))]))
  refine own_ret X3 hlk (v := some (.int (nar .char (own_lc y)))) (fun h => by rw [Bd.returns] at h; cases h) (fun fs hr => retN X3 hx (t := .char) Bd.returns (by simp) (hb hby own_d14_15) hr) ?_ (by decide) (by decide)
  try rw [eq3]
  exact ⟨rfl, NF3, rfl⟩
theorem own_pn3 : plainName "java/lang/StringUTF16" = true := by first | (simp [plainName, overriddenIn]; done) | decide +kernel
theorem own_d33_0 : decode jdk_52_method_6_code 0 = .ok (.aload_n 0, 1) := by decide +kernel
theorem own_d33_1 : decode jdk_52_method_6_code 1 = .ok (.arraylength, 1) := by decide +kernel
theorem own_d33_2 : decode jdk_52_method_6_code 2 = .ok (.iconst 1, 1) := by decide +kernel
theorem own_d33_3 : decode jdk_52_method_6_code 3 = .ok (.ishr, 1) := by decide +kernel
theorem own_d33_4 : decode jdk_52_method_6_code 4 = .ok (.ireturn, 1) := by decide +kernel
set_option maxRecDepth 65536 in
set_option maxHeartbeats 40000000 in
theorem own_rmul (l : Launch) (Z : State) (a0 : Array Value) (hw : ∀ d ∈ tables_1, d.before a0 Z = true) (b : Addr) (k : ClassId) (z : Int32) (n : Int32) (vs : List Value) (h0 : Heap) (n0 : Nat) (Z0 : n0 ≤ h0.size) (V : Arv Z h0 b k .byte z vs (.int 0)) (hn : (z >>> ((1 : Int32) &&& 31)) = n) :
    own_Met l Z [] (⟨"java/lang/StringUTF16", "length", "([B)I"⟩ : MethodName) jdk_52_method_6_code 1 (some .int) ({ frames := 0, cells := 0, slots := 0, locals := 0 } : Room) #[(.ref b)] h0 (fun v h L => v = some (.int n) ∧ Fr n0 L ∧ h = h0) := by
  refine MetFree.of_bodySF (plainFor_of_name own_pn3) hisR ?_
  intro p e s m args below meth c s₁ Bd hml0 hP hK
  obtain ⟨rfl, hZ, hh⟩ := hP
  have hx := Bd.exec
  have hby := Bd.bytes
  have hml : c.maxLocals = 1 := hml0
  have hown : s.vm.findClass "java/lang/StringUTF16" = some m.cls := findClass_of_methodNamed Bd.named
  have hnm := (name_of_methodNamed Bd.named Bd.method).1
  have hlk : meth.locks = false := Bd.notSynchronized
  have X0 : Stand p l e ({ frames := 0, cells := 0, slots := 0, locals := 0 } : Room) s m #[(.ref b)] below meth c s₁ [] 0 0 := Stand.of_body Bd
  have e0 : s₁.heap = h0 := by rw [← hh, Bd.state]; rfl
  have N0 := Fr.nil n0
  refine own_body (Q := fun v h L => v = some (.int n) ∧ Fr n0 L ∧ h = h0) ?_
  refine own_go (fun _ kont => castTop (own_ef m #[(.ref b)] 1 #[.val (.ref b)] (own_al [(.ref b)] 1 [.val (.ref b)] rfl)) kont) ?_
  show own_Go _ _ _ _ (s₁.setTop (mkF m 0 #[.val (.ref b)] []))
  refine own_go (fun _ => XS.aloadN X0.here hx rfl (hb hby own_d33_0) rfl rfl) ?_
  obtain ⟨cl1, Ar1, -, Sz1, Ng1, -, -⟩ := id V
  refine own_go (X0.arraylength hx (own_hp e0 Ar1.1) (State.isArrayOf_alike hZ.alike Ar1.2.1) (g := (mkF m 1 #[.val (.ref b)] [(.ref b)])) rfl rfl (hb hby own_d33_1)) ?_
  rw [len_of Sz1 Ng1]
  refine own_go (fun _ => XS.iconst X0.here hx rfl (hb hby own_d33_2)) ?_
  refine own_go (fun _ => XS.ishr X0.here hx rfl (hb hby own_d33_3) rfl) ?_
  show own_Go _ _ _ _ (s₁.setTop (mkF m 4 #[.val (.ref b)] [(.int (z >>> ((1 : Int32) &&& 31)))]))
  refine own_ret X0 hlk (v := some (.int (z >>> ((1 : Int32) &&& 31)))) (fun h => by rw [Bd.returns] at h; cases h) (fun fs hr => retOut X0 hx Bd.returns rfl (Or.inl ⟨rfl, Or.inl rfl, _, rfl⟩) (hb hby own_d33_4) hr) ?_ (by decide) (by decide)
  try rw [e0]
  exact ⟨by rw [hn], N0, rfl⟩
theorem own_d32_0 : decode jdk_52_method_91_code 0 = .ok (.iload_n 0, 1) := by decide +kernel
theorem own_d32_1 : decode jdk_52_method_91_code 1 = .ok (.aload_n 1, 1) := by decide +kernel
theorem own_d32_2 : decode jdk_52_method_91_code 2 = .ok (.invokestatic 48, 3) := by decide +kernel
theorem own_pd5 : parseMethodDescriptor "([B)I" = some ⟨[(.array .byte)], some .int⟩ := by decide +kernel
theorem own_d32_5 : decode jdk_52_method_91_code 5 = .ok (.invokestatic 414, 3) := by decide +kernel
theorem own_d32_8 : decode jdk_52_method_91_code 8 = .ok (.return_, 1) := by decide +kernel
set_option maxRecDepth 65536 in
set_option maxHeartbeats 40000000 in
theorem own_rmui (l : Launch) (Z : State) (a0 : Array Value) (hw : ∀ d ∈ tables_1, d.before a0 Z = true) (b : Addr) (k : ClassId) (fmt : Value) (z : Int32) (n : Int32) (i : Int32) (vs : List Value) (h0 : Heap) (n0 : Nat) (Z0 : n0 ≤ h0.size) (V : Arv Z h0 b k .byte z vs (.int 0)) (hn : (z >>> ((1 : Int32) &&& 31)) = n) (ci1 : ¬ i < (0 : Int32)) (ci2 : i < n) (O : Old Z n0 h0) (S_F : Sta Z Z.heap "jdk/internal/util/Preconditions" "SIOOBE_FORMATTER" "Ljava/util/function/BiFunction;" fmt) (hfmt : fmt = .null ∨ ∃ o : Addr, fmt = .ref o) :
    own_Met l Z [] (⟨"java/lang/StringUTF16", "checkIndex", "(I[B)V"⟩ : MethodName) jdk_52_method_91_code 2 none ({ frames := 2, cells := 0, slots := 0, locals := 27 } : Room) #[(.int i), (.ref b)] h0 (fun v h L => v = none ∧ Fr n0 L ∧ h = h0) := by
  refine MetFree.of_bodySF (plainFor_of_name own_pn3) hisR ?_
  intro p e s m args below meth c s₁ Bd hml0 hP hK
  obtain ⟨rfl, hZ, hh⟩ := hP
  have hx := Bd.exec
  have hby := Bd.bytes
  have hml : c.maxLocals = 2 := hml0
  have hown : s.vm.findClass "java/lang/StringUTF16" = some m.cls := findClass_of_methodNamed Bd.named
  have hnm := (name_of_methodNamed Bd.named Bd.method).1
  have hlk : meth.locks = false := Bd.notSynchronized
  have X0 : Stand p l e ({ frames := 2, cells := 0, slots := 0, locals := 27 } : Room) s m #[(.int i), (.ref b)] below meth c s₁ [] 0 0 := Stand.of_body Bd
  have e0 : s₁.heap = h0 := by rw [← hh, Bd.state]; rfl
  have N0 := Fr.nil n0
  refine own_body (Q := fun v h L => v = none ∧ Fr n0 L ∧ h = h0) ?_
  refine own_go (fun _ kont => castTop (own_ef m #[(.int i), (.ref b)] 2 #[.val (.int i), .val (.ref b)] (own_al [(.int i), (.ref b)] 2 [.val (.int i), .val (.ref b)] rfl)) kont) ?_
  show own_Go _ _ _ _ (s₁.setTop (mkF m 0 #[.val (.int i), .val (.ref b)] []))
  refine own_go (fun _ => XS.iloadN X0.here hx rfl (hb hby own_d32_0) rfl) ?_
  refine own_go (fun _ => XS.aloadN X0.here hx rfl (hb hby own_d32_1) rfl rfl) ?_
  show own_Go _ _ _ _ (s₁.setTop (mkF m 2 #[.val (.int i), .val (.ref b)] [(.ref b), (.int i)]))
  obtain ⟨_, _, ⟨T1, L1, k1, n1⟩, -, X1, ⟨Lc1, hQ1, l1, y1, z1⟩, st1⟩ := Jvm.LawKit.callS X0 hx (y := (⟨"java/lang/StringUTF16", "length", "([B)I"⟩ : MethodName)) hown (mvT hZ (hw _ (List.mem_of_getElem? (i := 143) rfl))) (mvT hZ (hw _ (List.mem_of_getElem? (i := 144) rfl))) (mvT hZ (hw _ (List.mem_of_getElem? (i := 18) rfl))) (mvT hZ (hw _ (List.mem_of_getElem? (i := 145) rfl))) (by decide) (own_back (W := 1) (own_rmul l Z a0 hw b k z n vs h0 n0 Z0 V hn) hZ (hw _ (List.mem_of_getElem? (i := 145) rfl)) (hw _ (List.mem_of_getElem? (i := 18) rfl)) (by decide) (by decide)) (g := (mkF m 2 #[.val (.int i), .val (.ref b)] [(.ref b), (.int i)])) rfl (by rw [hml]; rfl) (argsL := [(.ref b)]) (rest := [(.int i)]) (lenOf own_pd5 rfl) rfl (by show 2 * 0 + _ ≤ _; exact Nat.le_of_eq rfl) (hb hby own_d32_2) (fun _ _ => ⟨rfl, e0, (by decide : 0 + 0 ≤ _), (by decide : 0 + 0 ≤ _)⟩)
  dsimp only [Pt.U, Pt.locs, Pt.cells, Pt.slots] at X1 l1 y1 z1 st1 hQ1
  replace X1 := own_cst X1 l1 y1 z1 (k2 := 0) (n2 := 0) rfl rfl
  clear l1 y1 z1
  obtain ⟨rfl, Nq1, eq1⟩ := hQ1
  have NF1 := Fr.app N0 Nq1
  refine own_go st1 ?_
  show own_Go _ _ _ _ (T1.setTop (mkF m 5 #[.val (.int i), .val (.ref b)] [(.int n), (.int i)]))
  obtain ⟨_, _, ⟨T2, L2, k2, n2⟩, -, X2, ⟨Lc2, hQ2, l2, y2, z2⟩, st2⟩ := Jvm.LawKit.callS X1 hx (y := (⟨"java/lang/String", "checkIndex", "(II)V"⟩ : MethodName)) hown (mvT hZ (hw _ (List.mem_of_getElem? (i := 146) rfl))) (mvT hZ (hw _ (List.mem_of_getElem? (i := 83) rfl))) (mvT hZ (hw _ (List.mem_of_getElem? (i := 3) rfl))) (mvT hZ (hw _ (List.mem_of_getElem? (i := 84) rfl))) (by decide) (own_back (W := 0) (own_rmCI l Z a0 hw i n fmt h0 n0 Z0 ci1 ci2 O S_F hfmt) hZ (hw _ (List.mem_of_getElem? (i := 84) rfl)) (hw _ (List.mem_of_getElem? (i := 3) rfl)) (by decide) (by decide)) (g := (mkF m 5 #[.val (.int i), .val (.ref b)] [(.int n), (.int i)])) rfl (by rw [hml]; rfl) (argsL := [(.int i), (.int n)]) (rest := []) (lenOf own_pd2 rfl) rfl (by show 2 * 0 + _ ≤ _; exact Nat.le_of_eq rfl) (hb hby own_d32_5) (fun _ _ => ⟨rfl, eq1, (by decide : 0 + 0 ≤ _), (by decide : 0 + 0 ≤ _)⟩)
  dsimp only [Pt.U, Pt.locs, Pt.cells, Pt.slots] at X2 l2 y2 z2 st2 hQ2
  replace X2 := own_cst X2 l2 y2 z2 (k2 := 0) (n2 := 0) rfl rfl
  clear l2 y2 z2
  obtain ⟨rfl, Nq2, eq2⟩ := hQ2
  have NF2 := Fr.app NF1 Nq2
  refine own_go st2 ?_
  show own_Go _ _ _ _ (T2.setTop (mkF m 8 #[.val (.int i), .val (.ref b)] []))
  refine own_ret X2 hlk (v := none) (fun _ => rfl) (fun fs hr => X2.returnOut hx Bd.returns (hb hby own_d32_8) hr) ?_ (by decide) (by decide)
  try rw [eq2]
  exact ⟨rfl, NF2, rfl⟩
theorem own_d30_0 : decode jdk_52_method_5_code 0 = .ok (.getstatic 44, 3) := by decide +kernel
theorem own_d30_3 : decode jdk_52_method_5_code 3 = .ok (.ifCond .ne 25, 3) := by decide +kernel
theorem own_d30_28 : decode jdk_52_method_5_code 28 = .ok (.iload_n 1, 1) := by decide +kernel
theorem own_d30_29 : decode jdk_52_method_5_code 29 = .ok (.iconst 1, 1) := by decide +kernel
theorem own_d30_30 : decode jdk_52_method_5_code 30 = .ok (.ishl, 1) := by decide +kernel
theorem own_d30_31 : decode jdk_52_method_5_code 31 = .ok (.istore_n 1, 1) := by decide +kernel
theorem own_d30_32 : decode jdk_52_method_5_code 32 = .ok (.aload_n 0, 1) := by decide +kernel
theorem own_d30_33 : decode jdk_52_method_5_code 33 = .ok (.iload_n 1, 1) := by decide +kernel
theorem own_d30_34 : decode jdk_52_method_5_code 34 = .ok (.iinc 1 1, 3) := by decide +kernel
theorem own_d30_37 : decode jdk_52_method_5_code 37 = .ok (.baload, 1) := by decide +kernel
theorem own_d30_38 : decode jdk_52_method_5_code 38 = .ok (.sipush 255, 3) := by decide +kernel
theorem own_d30_41 : decode jdk_52_method_5_code 41 = .ok (.iand, 1) := by decide +kernel
theorem own_d30_42 : decode jdk_52_method_5_code 42 = .ok (.getstatic 59, 3) := by decide +kernel
theorem own_d30_45 : decode jdk_52_method_5_code 45 = .ok (.ishl, 1) := by decide +kernel
theorem own_d30_46 : decode jdk_52_method_5_code 46 = .ok (.aload_n 0, 1) := by decide +kernel
theorem own_d30_47 : decode jdk_52_method_5_code 47 = .ok (.iload_n 1, 1) := by decide +kernel
theorem own_d30_48 : decode jdk_52_method_5_code 48 = .ok (.baload, 1) := by decide +kernel
theorem own_d30_49 : decode jdk_52_method_5_code 49 = .ok (.sipush 255, 3) := by decide +kernel
theorem own_d30_52 : decode jdk_52_method_5_code 52 = .ok (.iand, 1) := by decide +kernel
theorem own_d30_53 : decode jdk_52_method_5_code 53 = .ok (.getstatic 63, 3) := by decide +kernel
theorem own_d30_56 : decode jdk_52_method_5_code 56 = .ok (.ishl, 1) := by decide +kernel
theorem own_d30_57 : decode jdk_52_method_5_code 57 = .ok (.ior, 1) := by decide +kernel
theorem own_d30_58 : decode jdk_52_method_5_code 58 = .ok (.i2c, 1) := by decide +kernel
theorem own_d30_59 : decode jdk_52_method_5_code 59 = .ok (.ireturn, 1) := by decide +kernel
set_option maxRecDepth 65536 in
set_option maxHeartbeats 40000000 in
theorem own_rmGC (l : Launch) (Z : State) (a0 : Array Value) (hw : ∀ d ∈ tables_1, d.before a0 Z = true) (b : Addr) (k : ClassId) (z : Int32) (i : Int32) (j0 : Int32) (j1 : Int32) (w0 : Int32) (w1 : Int32) (vs : List Value) (h0 : Heap) (n0 : Nat) (Z0 : n0 ≤ h0.size) (V : Arv Z h0 b k .byte z vs (.int 0)) (ej0 : (i <<< ((1 : Int32) &&& 31)) = j0) (ej1 : (j0 + (1 : Int32)) = j1) (gj0 : ¬ j0 < 0 ∧ j0 < z) (gj1 : ¬ j1 < 0 ∧ j1 < z) (hv0 : vs.getD j0.toNatClampNeg (.int 0) = .int w0) (hv1 : vs.getD j1.toNatClampNeg (.int 0) = .int w1) (O : Old Z n0 h0) (S_A : Sta Z Z.heap "java/lang/StringUTF16" "$assertionsDisabled" "Z" (.int 1)) (S_H : Sta Z Z.heap "java/lang/StringUTF16" "HI_BYTE_SHIFT" "I" (.int 0)) (S_L : Sta Z Z.heap "java/lang/StringUTF16" "LO_BYTE_SHIFT" "I" (.int 8)) :
    own_Met l Z [] (⟨"java/lang/StringUTF16", "getChar", "([BI)C"⟩ : MethodName) jdk_52_method_5_code 2 (some .char) ({ frames := 0, cells := 0, slots := 0, locals := 0 } : Room) #[(.ref b), (.int i)] h0 (fun v h L => v = some (.int (own_gc w0 w1)) ∧ Fr n0 L ∧ h = h0) := by
  refine MetFree.of_bodySF (plainFor_of_name own_pn3) hisR ?_
  intro p e s m args below meth c s₁ Bd hml0 hP hK
  obtain ⟨rfl, hZ, hh⟩ := hP
  have hx := Bd.exec
  have hby := Bd.bytes
  have hml : c.maxLocals = 2 := hml0
  have hown : s.vm.findClass "java/lang/StringUTF16" = some m.cls := findClass_of_methodNamed Bd.named
  have hnm := (name_of_methodNamed Bd.named Bd.method).1
  have hlk : meth.locks = false := Bd.notSynchronized
  have X0 : Stand p l e ({ frames := 0, cells := 0, slots := 0, locals := 0 } : Room) s m #[(.ref b), (.int i)] below meth c s₁ [] 0 0 := Stand.of_body Bd
  have e0 : s₁.heap = h0 := by rw [← hh, Bd.state]; rfl
  have N0 := Fr.nil n0
  refine own_body (Q := fun v h L => v = some (.int (own_gc w0 w1)) ∧ Fr n0 L ∧ h = h0) ?_
  refine own_go (fun _ kont => castTop (own_ef m #[(.ref b), (.int i)] 2 #[.val (.ref b), .val (.int i)] (own_al [(.ref b), (.int i)] 2 [.val (.ref b), .val (.int i)] rfl)) kont) ?_
  show own_Go _ _ _ _ (s₁.setTop (mkF m 0 #[.val (.ref b), .val (.int i)] []))
  obtain ⟨T1, X1, e1, st1⟩ := getS2 X0 hx hZ hown (host := "") (Or.inl (hw _ (List.mem_of_getElem? (i := 131) rfl))) Via.refl e0 (S_A.ext O.2) (g := (mkF m 0 #[.val (.ref b), .val (.int i)] [])) rfl (hb hby own_d30_0)
  refine own_go st1 ?_
  show own_Go _ _ _ _ (T1.setTop (mkF m 3 #[.val (.ref b), .val (.int i)] [(.int (1 : Int32))]))
  refine own_go (fun _ => XS.ifYes X1.here hx rfl (pc0 := 3) (pc' := 28) rfl (hb hby own_d30_3) rfl ((if0 _ _).trans (feq (by decide)).2) (by decide) (by decide)) ?_
  show own_Go _ _ _ _ (T1.setTop (mkF m 28 #[.val (.ref b), .val (.int i)] []))
  refine own_go (fun _ => XS.iloadN X1.here hx rfl (hb hby own_d30_28) rfl) ?_
  refine own_go (fun _ => XS.iconst X1.here hx rfl (hb hby own_d30_29)) ?_
  refine own_go (fun _ => XS.ishl X1.here hx rfl (hb hby own_d30_30) rfl) ?_
  show own_Go _ _ _ _ (T1.setTop (mkF m 31 #[.val (.ref b), .val (.int i)] [(.int (i <<< ((1 : Int32) &&& 31)))]))
  rw [ej0]
  show own_Go _ _ _ _ (T1.setTop (mkF m 31 #[.val (.ref b), .val (.int i)] [(.int j0)]))
  refine own_go (fun _ => XS.istoreN X1.here hx rfl (hb hby own_d30_31) rfl (l' := #[.val (.ref b), .val (.int j0)]) rfl) ?_
  refine own_go (fun _ => XS.aloadN X1.here hx rfl (hb hby own_d30_32) rfl rfl) ?_
  refine own_go (fun _ => XS.iloadN X1.here hx rfl (hb hby own_d30_33) rfl) ?_
  refine own_go (fun _ => XS.iinc X1.here hx rfl (hb hby own_d30_34) rfl (l' := #[.val (.ref b), .val (.int (j0 + (1 : Int32)))]) rfl) ?_
  show own_Go _ _ _ _ (T1.setTop (mkF m 37 #[.val (.ref b), .val (.int (j0 + (1 : Int32)))] [(.int j0), (.ref b)]))
  rw [ej1]
  show own_Go _ _ _ _ (T1.setTop (mkF m 37 #[.val (.ref b), .val (.int j1)] [(.int j0), (.ref b)]))
  obtain ⟨cl2, Ar2, q2, Sz2, Ng2, Hs2, Gs2⟩ := id V
  have hin2 : ¬ (j0 < 0 ∨ cl2.slots.size ≤ (j0).toNatClampNeg) := inb_of Sz2 gj0
  have hat2 : cl2.slots[(j0).toNatClampNeg]? = some (.int w0) := Hs2.at hin2 hv0
  refine own_go (X1.baloadBytes hx (j := j0) (v := (.int w0)) (own_hp e1 Ar2.1) (State.isArrayOf_alike hZ.alike Ar2.2.1) Ar2.2.2 hin2 hat2 (g := (mkF m 37 #[.val (.ref b), .val (.int j1)] [(.int j0), (.ref b)])) rfl rfl (hb hby own_d30_37)) ?_
  show own_Go _ _ _ _ (T1.setTop (mkF m 38 #[.val (.ref b), .val (.int j1)] [(.int w0)]))
  refine own_go (fun _ => XS.sipush X1.here hx rfl (hb hby own_d30_38)) ?_
  refine own_go (fun _ => XS.iand X1.here hx rfl (hb hby own_d30_41) rfl) ?_
  show own_Go _ _ _ _ (T1.setTop (mkF m 42 #[.val (.ref b), .val (.int j1)] [(.int (w0 &&& (255 : Int32)))]))
  obtain ⟨T3, X3, e3, st3⟩ := getS2 X1 hx hZ hown (host := "") (Or.inl (hw _ (List.mem_of_getElem? (i := 132) rfl))) Via.refl e1 (S_H.ext O.2) (g := (mkF m 42 #[.val (.ref b), .val (.int j1)] [(.int (w0 &&& (255 : Int32)))])) rfl (hb hby own_d30_42)
  refine own_go st3 ?_
  refine own_go (fun _ => XS.ishl X3.here hx rfl (hb hby own_d30_45) rfl) ?_
  refine own_go (fun _ => XS.aloadN X3.here hx rfl (hb hby own_d30_46) rfl rfl) ?_
  refine own_go (fun _ => XS.iloadN X3.here hx rfl (hb hby own_d30_47) rfl) ?_
  show own_Go _ _ _ _ (T3.setTop (mkF m 48 #[.val (.ref b), .val (.int j1)] [(.int j1), (.ref b), (.int ((w0 &&& (255 : Int32)) <<< ((0 : Int32) &&& 31)))]))
  obtain ⟨cl4, Ar4, q4, Sz4, Ng4, Hs4, Gs4⟩ := id V
  have hin4 : ¬ (j1 < 0 ∨ cl4.slots.size ≤ (j1).toNatClampNeg) := inb_of Sz4 gj1
  have hat4 : cl4.slots[(j1).toNatClampNeg]? = some (.int w1) := Hs4.at hin4 hv1
  refine own_go (X3.baloadBytes hx (j := j1) (v := (.int w1)) (own_hp e3 Ar4.1) (State.isArrayOf_alike hZ.alike Ar4.2.1) Ar4.2.2 hin4 hat4 (g := (mkF m 48 #[.val (.ref b), .val (.int j1)] [(.int j1), (.ref b), (.int ((w0 &&& (255 : Int32)) <<< ((0 : Int32) &&& 31)))])) rfl rfl (hb hby own_d30_48)) ?_
  show own_Go _ _ _ _ (T3.setTop (mkF m 49 #[.val (.ref b), .val (.int j1)] [(.int w1), (.int ((w0 &&& (255 : Int32)) <<< ((0 : Int32) &&& 31)))]))
  refine own_go (fun _ => XS.sipush X3.here hx rfl (hb hby own_d30_49)) ?_
  refine own_go (fun _ => XS.iand X3.here hx rfl (hb hby own_d30_52) rfl) ?_
  show own_Go _ _ _ _ (T3.setTop (mkF m 53 #[.val (.ref b), .val (.int j1)] [(.int (w1 &&& (255 : Int32))), (.int ((w0 &&& (255 : Int32)) <<< ((0 : Int32) &&& 31)))]))
  obtain ⟨T5, X5, e5, st5⟩ := getS2 X3 hx hZ hown (host := "") (Or.inl (hw _ (List.mem_of_getElem? (i := 133) rfl))) Via.refl e3 (S_L.ext O.2) (g := (mkF m 53 #[.val (.ref b), .val (.int j1)] [(.int (w1 &&& (255 : Int32))), (.int ((w0 &&& (255 : Int32)) <<< ((0 : Int32) &&& 31)))])) rfl (hb hby own_d30_53)
  refine own_go st5 ?_
  refine own_go (fun _ => XS.ishl X5.here hx rfl (hb hby own_d30_56) rfl) ?_
  refine own_go (fun _ => XS.ior X5.here hx rfl (hb hby own_d30_57) rfl) ?_
  refine own_go (fun _ => XS.i2c X5.here hx rfl (hb hby own_d30_58) rfl) ?_
  show own_Go _ _ _ _ (T5.setTop (mkF m 59 #[.val (.ref b), .val (.int j1)] [(.int ((((w0 &&& (255 : Int32)) <<< ((0 : Int32) &&& 31)) ||| ((w1 &&& (255 : Int32)) <<< ((8 : Int32) &&& 31))).toUInt32.toUInt16.toUInt32.toInt32))]))
  refine own_ret X5 hlk (v := some (.int (nar .char ((((w0 &&& (255 : Int32)) <<< ((0 : Int32) &&& 31)) ||| ((w1 &&& (255 : Int32)) <<< ((8 : Int32) &&& 31))).toUInt32.toUInt16.toUInt32.toInt32)))) (fun h => by rw [Bd.returns] at h; cases h) (fun fs hr => retN X5 hx (t := .char) Bd.returns (by simp) (hb hby own_d30_59) hr) ?_ (by decide) (by decide)
  try rw [e5]
  exact ⟨rfl, N0, rfl⟩
theorem own_d31_0 : decode jdk_52_method_83_code 0 = .ok (.iload_n 1, 1) := by decide +kernel
theorem own_d31_1 : decode jdk_52_method_83_code 1 = .ok (.aload_n 0, 1) := by decide +kernel
theorem own_d31_2 : decode jdk_52_method_83_code 2 = .ok (.invokestatic 67, 3) := by decide +kernel
theorem own_pd6 : parseMethodDescriptor "(I[B)V" = some ⟨[.int, (.array .byte)], none⟩ := by decide +kernel
theorem own_d31_5 : decode jdk_52_method_83_code 5 = .ok (.aload_n 0, 1) := by decide +kernel
theorem own_d31_6 : decode jdk_52_method_83_code 6 = .ok (.iload_n 1, 1) := by decide +kernel
theorem own_d31_7 : decode jdk_52_method_83_code 7 = .ok (.invokestatic 71, 3) := by decide +kernel
theorem own_d31_10 : decode jdk_52_method_83_code 10 = .ok (.ireturn, 1) := by decide +kernel
set_option maxRecDepth 65536 in
set_option maxHeartbeats 40000000 in
theorem own_rmuc (l : Launch) (Z : State) (a0 : Array Value) (hw : ∀ d ∈ tables_1, d.before a0 Z = true) (b : Addr) (k : ClassId) (fmt : Value) (z : Int32) (n : Int32) (i : Int32) (j0 : Int32) (j1 : Int32) (w0 : Int32) (w1 : Int32) (vs : List Value) (h0 : Heap) (n0 : Nat) (Z0 : n0 ≤ h0.size) (V : Arv Z h0 b k .byte z vs (.int 0)) (hn : (z >>> ((1 : Int32) &&& 31)) = n) (ci1 : ¬ i < (0 : Int32)) (ci2 : i < n) (ej0 : (i <<< ((1 : Int32) &&& 31)) = j0) (ej1 : (j0 + (1 : Int32)) = j1) (gj0 : ¬ j0 < 0 ∧ j0 < z) (gj1 : ¬ j1 < 0 ∧ j1 < z) (hv0 : vs.getD j0.toNatClampNeg (.int 0) = .int w0) (hv1 : vs.getD j1.toNatClampNeg (.int 0) = .int w1) (O : Old Z n0 h0) (S_F : Sta Z Z.heap "jdk/internal/util/Preconditions" "SIOOBE_FORMATTER" "Ljava/util/function/BiFunction;" fmt) (hfmt : fmt = .null ∨ ∃ o : Addr, fmt = .ref o) (S_A : Sta Z Z.heap "java/lang/StringUTF16" "$assertionsDisabled" "Z" (.int 1)) (S_H : Sta Z Z.heap "java/lang/StringUTF16" "HI_BYTE_SHIFT" "I" (.int 0)) (S_L : Sta Z Z.heap "java/lang/StringUTF16" "LO_BYTE_SHIFT" "I" (.int 8)) :
    own_Met l Z [] (⟨"java/lang/StringUTF16", "charAt", "([BI)C"⟩ : MethodName) jdk_52_method_83_code 2 (some .char) ({ frames := 3, cells := 0, slots := 0, locals := 40 } : Room) #[(.ref b), (.int i)] h0 (fun v h L => v = some (.int (nar .char (own_gc w0 w1))) ∧ Fr n0 L ∧ h = h0) := by
  refine MetFree.of_bodySF (plainFor_of_name own_pn3) hisR ?_
  intro p e s m args below meth c s₁ Bd hml0 hP hK
  obtain ⟨rfl, hZ, hh⟩ := hP
  have hx := Bd.exec
  have hby := Bd.bytes
  have hml : c.maxLocals = 2 := hml0
  have hown : s.vm.findClass "java/lang/StringUTF16" = some m.cls := findClass_of_methodNamed Bd.named
  have hnm := (name_of_methodNamed Bd.named Bd.method).1
  have hlk : meth.locks = false := Bd.notSynchronized
  have X0 : Stand p l e ({ frames := 3, cells := 0, slots := 0, locals := 40 } : Room) s m #[(.ref b), (.int i)] below meth c s₁ [] 0 0 := Stand.of_body Bd
  have e0 : s₁.heap = h0 := by rw [← hh, Bd.state]; rfl
  have N0 := Fr.nil n0
  refine own_body (Q := fun v h L => v = some (.int (nar .char (own_gc w0 w1))) ∧ Fr n0 L ∧ h = h0) ?_
  refine own_go (fun _ kont => castTop (own_ef m #[(.ref b), (.int i)] 2 #[.val (.ref b), .val (.int i)] (own_al [(.ref b), (.int i)] 2 [.val (.ref b), .val (.int i)] rfl)) kont) ?_
  show own_Go _ _ _ _ (s₁.setTop (mkF m 0 #[.val (.ref b), .val (.int i)] []))
  refine own_go (fun _ => XS.iloadN X0.here hx rfl (hb hby own_d31_0) rfl) ?_
  refine own_go (fun _ => XS.aloadN X0.here hx rfl (hb hby own_d31_1) rfl rfl) ?_
  show own_Go _ _ _ _ (s₁.setTop (mkF m 2 #[.val (.ref b), .val (.int i)] [(.ref b), (.int i)]))
  obtain ⟨_, _, ⟨T1, L1, k1, n1⟩, -, X1, ⟨Lc1, hQ1, l1, y1, z1⟩, st1⟩ := Jvm.LawKit.callS X0 hx (y := (⟨"java/lang/StringUTF16", "checkIndex", "(I[B)V"⟩ : MethodName)) hown (mvT hZ (hw _ (List.mem_of_getElem? (i := 140) rfl))) (mvT hZ (hw _ (List.mem_of_getElem? (i := 141) rfl))) (mvT hZ (hw _ (List.mem_of_getElem? (i := 18) rfl))) (mvT hZ (hw _ (List.mem_of_getElem? (i := 142) rfl))) (by decide) (own_back (W := 0) (own_rmui l Z a0 hw b k fmt z n i vs h0 n0 Z0 V hn ci1 ci2 O S_F hfmt) hZ (hw _ (List.mem_of_getElem? (i := 142) rfl)) (hw _ (List.mem_of_getElem? (i := 18) rfl)) (by decide) (by decide)) (g := (mkF m 2 #[.val (.ref b), .val (.int i)] [(.ref b), (.int i)])) rfl (by rw [hml]; rfl) (argsL := [(.int i), (.ref b)]) (rest := []) (lenOf own_pd6 rfl) rfl (by show 2 * 0 + _ ≤ _; exact Nat.le_of_eq rfl) (hb hby own_d31_2) (fun _ _ => ⟨rfl, e0, (by decide : 0 + 0 ≤ _), (by decide : 0 + 0 ≤ _)⟩)
  dsimp only [Pt.U, Pt.locs, Pt.cells, Pt.slots] at X1 l1 y1 z1 st1 hQ1
  replace X1 := own_cst X1 l1 y1 z1 (k2 := 0) (n2 := 0) rfl rfl
  clear l1 y1 z1
  obtain ⟨rfl, Nq1, eq1⟩ := hQ1
  have NF1 := Fr.app N0 Nq1
  refine own_go st1 ?_
  show own_Go _ _ _ _ (T1.setTop (mkF m 5 #[.val (.ref b), .val (.int i)] []))
  refine own_go (fun _ => XS.aloadN X1.here hx rfl (hb hby own_d31_5) rfl rfl) ?_
  refine own_go (fun _ => XS.iloadN X1.here hx rfl (hb hby own_d31_6) rfl) ?_
  show own_Go _ _ _ _ (T1.setTop (mkF m 7 #[.val (.ref b), .val (.int i)] [(.int i), (.ref b)]))
  obtain ⟨_, _, ⟨T2, L2, k2, n2⟩, -, X2, ⟨Lc2, hQ2, l2, y2, z2⟩, st2⟩ := Jvm.LawKit.callS X1 hx (y := (⟨"java/lang/StringUTF16", "getChar", "([BI)C"⟩ : MethodName)) hown (mvT hZ (hw _ (List.mem_of_getElem? (i := 134) rfl))) (mvT hZ (hw _ (List.mem_of_getElem? (i := 135) rfl))) (mvT hZ (hw _ (List.mem_of_getElem? (i := 18) rfl))) (mvT hZ (hw _ (List.mem_of_getElem? (i := 136) rfl))) (by decide) (own_back (W := 0) (own_rmGC l Z a0 hw b k z i j0 j1 w0 w1 vs h0 n0 Z0 V ej0 ej1 gj0 gj1 hv0 hv1 O S_A S_H S_L) hZ (hw _ (List.mem_of_getElem? (i := 136) rfl)) (hw _ (List.mem_of_getElem? (i := 18) rfl)) (by decide) (by decide)) (g := (mkF m 7 #[.val (.ref b), .val (.int i)] [(.int i), (.ref b)])) rfl (by rw [hml]; rfl) (argsL := [(.ref b), (.int i)]) (rest := []) (lenOf own_pd4 rfl) rfl (by show 2 * 0 + _ ≤ _; exact Nat.le_of_eq rfl) (hb hby own_d31_7) (fun _ _ => ⟨rfl, eq1, (by decide : 0 + 0 ≤ _), (by decide : 0 + 0 ≤ _)⟩)
  dsimp only [Pt.U, Pt.locs, Pt.cells, Pt.slots] at X2 l2 y2 z2 st2 hQ2
  replace X2 := own_cst X2 l2 y2 z2 (k2 := 0) (n2 := 0) rfl rfl
  clear l2 y2 z2
  obtain ⟨rfl, Nq2, eq2⟩ := hQ2
  have NF2 := Fr.app NF1 Nq2
  refine own_go st2 ?_
  show own_Go _ _ _ _ (T2.setTop (mkF m 10 #[.val (.ref b), .val (.int i)] [(.int (own_gc w0 w1))]))
  refine own_ret X2 hlk (v := some (.int (nar .char (own_gc w0 w1)))) (fun h => by rw [Bd.returns] at h; cases h) (fun fs hr => retN X2 hx (t := .char) Bd.returns (by simp) (hb hby own_d31_10) hr) ?_ (by decide) (by decide)
  try rw [eq2]
  exact ⟨rfl, NF2, rfl⟩
theorem own_d14_16 : decode jdk_42_method_56_code 16 = .ok (.aload_n 0, 1) := by decide +kernel
theorem own_d14_17 : decode jdk_42_method_56_code 17 = .ok (.getfield 9, 3) := by decide +kernel
theorem own_d14_20 : decode jdk_42_method_56_code 20 = .ok (.iload_n 1, 1) := by decide +kernel
theorem own_d14_21 : decode jdk_42_method_56_code 21 = .ok (.invokestatic 498, 3) := by decide +kernel
theorem own_d14_24 : decode jdk_42_method_56_code 24 = .ok (.ireturn, 1) := by decide +kernel
set_option maxRecDepth 65536 in
set_option maxHeartbeats 40000000 in
theorem own_rmcaU (l : Launch) (Z : State) (a0 : Array Value) (hw : ∀ d ∈ tables_1, d.before a0 Z = true) (a1 : Addr) (b : Addr) (k : ClassId) (cs : Int32) (fmt : Value) (z : Int32) (n : Int32) (i : Int32) (j0 : Int32) (j1 : Int32) (w0 : Int32) (w1 : Int32) (vs : List Value) (h0 : Heap) (n0 : Nat) (Z0 : n0 ≤ h0.size) (E1 : Exa Z h0 a1 "java/lang/String") (Fv : Fld Z h0 a1 "java/lang/String" "value" "[B" (.ref b)) (Fc : Fld Z h0 a1 "java/lang/String" "coder" "B" (.int 1)) (V : Arv Z h0 b k .byte z vs (.int 0)) (O : Old Z n0 h0) (S_C : Sta Z Z.heap "java/lang/String" "COMPACT_STRINGS" "Z" (.int cs)) (hcs : ¬ cs = (0 : Int32)) (S_F : Sta Z Z.heap "jdk/internal/util/Preconditions" "SIOOBE_FORMATTER" "Ljava/util/function/BiFunction;" fmt) (hfmt : fmt = .null ∨ ∃ o : Addr, fmt = .ref o) (hn : (z >>> ((1 : Int32) &&& 31)) = n) (ci1 : ¬ i < (0 : Int32)) (ci2 : i < n) (ej0 : (i <<< ((1 : Int32) &&& 31)) = j0) (ej1 : (j0 + (1 : Int32)) = j1) (gj0 : ¬ j0 < 0 ∧ j0 < z) (gj1 : ¬ j1 < 0 ∧ j1 < z) (hv0 : vs.getD j0.toNatClampNeg (.int 0) = .int w0) (hv1 : vs.getD j1.toNatClampNeg (.int 0) = .int w1) (S_A : Sta Z Z.heap "java/lang/StringUTF16" "$assertionsDisabled" "Z" (.int 1)) (S_H : Sta Z Z.heap "java/lang/StringUTF16" "HI_BYTE_SHIFT" "I" (.int 0)) (S_L : Sta Z Z.heap "java/lang/StringUTF16" "LO_BYTE_SHIFT" "I" (.int 8)) :
    own_Met l Z [] (⟨"java/lang/String", "charAt", "(I)C"⟩ : MethodName) jdk_42_method_56_code 2 (some .char) ({ frames := 4, cells := 0, slots := 0, locals := 53 } : Room) #[(.ref a1), (.int i)] h0 (fun v h L => v = some (.int (nar .char (nar .char (own_gc w0 w1)))) ∧ Fr n0 L ∧ h = h0) := by
  refine MetFree.of_bodySF (plainFor_of_name own_pn1) hisR ?_
  intro p e s m args below meth c s₁ Bd hml0 hP hK
  obtain ⟨rfl, hZ, hh⟩ := hP
  have hx := Bd.exec
  have hby := Bd.bytes
  have hml : c.maxLocals = 2 := hml0
  have hown : s.vm.findClass "java/lang/String" = some m.cls := findClass_of_methodNamed Bd.named
  have hnm := (name_of_methodNamed Bd.named Bd.method).1
  have hlk : meth.locks = false := Bd.notSynchronized
  have X0 : Stand p l e ({ frames := 4, cells := 0, slots := 0, locals := 53 } : Room) s m #[(.ref a1), (.int i)] below meth c s₁ [] 0 0 := Stand.of_body Bd
  have e0 : s₁.heap = h0 := by rw [← hh, Bd.state]; rfl
  have N0 := Fr.nil n0
  refine own_body (Q := fun v h L => v = some (.int (nar .char (nar .char (own_gc w0 w1)))) ∧ Fr n0 L ∧ h = h0) ?_
  refine own_go (fun _ kont => castTop (own_ef m #[(.ref a1), (.int i)] 2 #[.val (.ref a1), .val (.int i)] (own_al [(.ref a1), (.int i)] 2 [.val (.ref a1), .val (.int i)] rfl)) kont) ?_
  show own_Go _ _ _ _ (s₁.setTop (mkF m 0 #[.val (.ref a1), .val (.int i)] []))
  refine own_go (fun _ => XS.aloadN X0.here hx rfl (hb hby own_d14_0) rfl rfl) ?_
  show own_Go _ _ _ _ (s₁.setTop (mkF m 1 #[.val (.ref a1), .val (.int i)] [(.ref a1)]))
  obtain ⟨cq1, kq1, q1a, q1b, q1c⟩ := isOf hZ e0 E1
  obtain ⟨_, _, ⟨T1, L1, k1, n1⟩, -, X1, ⟨Lc1, hQ1, l1, y1, z1⟩, st1⟩ := X0.virtualBack hx (y := (⟨"java/lang/String", "isLatin1", "()Z"⟩ : MethodName)) (z := (⟨"java/lang/String", "isLatin1", "()Z"⟩ : MethodName)) hown (mvT hZ (hw _ (List.mem_of_getElem? (i := 74) rfl))) (mvT hZ (hw _ (List.mem_of_getElem? (i := 75) rfl))) (notFace_of_selects (args := #[]) (mvT hZ (hw _ (List.mem_of_getElem? (i := 77) rfl)))) (mvT hZ (hw _ (List.mem_of_getElem? (i := 77) rfl))) (mvT hZ (hw _ (List.mem_of_getElem? (i := 76) rfl))) (by decide) (own_back (W := 0) (own_rmil1 l Z a0 hw a1 cs h0 n0 Z0 Fc O S_C hcs) hZ (hw _ (List.mem_of_getElem? (i := 78) rfl)) (hw _ (List.mem_of_getElem? (i := 3) rfl)) (by decide) (by decide)) q1a q1c (g := (mkF m 1 #[.val (.ref a1), .val (.int i)] [(.ref a1)])) rfl (by rw [hml]; rfl) (Steps.refl _) (argsL := []) (rest := []) (lenOf own_pd3 rfl) rfl (by show 2 * 0 + _ ≤ _; exact Nat.le_of_eq rfl) (hb hby own_d14_1) (fun _ _ => ⟨rfl, e0, (by decide : 0 + 0 ≤ _), (by decide : 0 + 0 ≤ _)⟩)
  dsimp only [Pt.U, Pt.locs, Pt.cells, Pt.slots] at X1 l1 y1 z1 st1 hQ1
  replace X1 := own_cst X1 l1 y1 z1 (k2 := 0) (n2 := 0) rfl rfl
  clear l1 y1 z1
  obtain ⟨rfl, Nq1, eq1⟩ := hQ1
  have NF1 := Fr.app N0 Nq1
  refine own_goT st1 ?_
  show own_Go _ _ _ _ (T1.setTop (mkF m 4 #[.val (.ref a1), .val (.int i)] [(.int (0 : Int32))]))
  refine own_go (fun _ => XS.ifYes X1.here hx rfl (pc0 := 4) (pc' := 16) rfl (hb hby own_d14_4) rfl ((if0 _ _).trans (teq rfl).1) (by decide) (by decide)) ?_
  show own_Go _ _ _ _ (T1.setTop (mkF m 16 #[.val (.ref a1), .val (.int i)] []))
  refine own_go (fun _ => XS.aloadN X1.here hx rfl (hb hby own_d14_16) rfl rfl) ?_
  obtain ⟨T2, X2, e2, st2⟩ := getF X1 hx hZ hown (host := "") (Or.inl (hw _ (List.mem_of_getElem? (i := 29) rfl))) Via.refl eq1 Fv (g := (mkF m 17 #[.val (.ref a1), .val (.int i)] [(.ref a1)])) rfl rfl (hb hby own_d14_17)
  refine own_go st2 ?_
  refine own_go (fun _ => XS.iloadN X2.here hx rfl (hb hby own_d14_20) rfl) ?_
  show own_Go _ _ _ _ (T2.setTop (mkF m 21 #[.val (.ref a1), .val (.int i)] [(.int i), (.ref b)]))
  obtain ⟨_, _, ⟨T3, L3, k3, n3⟩, -, X3, ⟨Lc3, hQ3, l3, y3, z3⟩, st3⟩ := Jvm.LawKit.callS X2 hx (y := (⟨"java/lang/StringUTF16", "charAt", "([BI)C"⟩ : MethodName)) hown (mvT hZ (hw _ (List.mem_of_getElem? (i := 137) rfl))) (mvT hZ (hw _ (List.mem_of_getElem? (i := 138) rfl))) (mvT hZ (hw _ (List.mem_of_getElem? (i := 18) rfl))) (mvT hZ (hw _ (List.mem_of_getElem? (i := 139) rfl))) (by decide) (own_back (W := 0) (own_rmuc l Z a0 hw b k fmt z n i j0 j1 w0 w1 vs h0 n0 Z0 V hn ci1 ci2 ej0 ej1 gj0 gj1 hv0 hv1 O S_F hfmt S_A S_H S_L) hZ (hw _ (List.mem_of_getElem? (i := 139) rfl)) (hw _ (List.mem_of_getElem? (i := 18) rfl)) (by decide) (by decide)) (g := (mkF m 21 #[.val (.ref a1), .val (.int i)] [(.int i), (.ref b)])) rfl (by rw [hml]; rfl) (argsL := [(.ref b), (.int i)]) (rest := []) (lenOf own_pd4 rfl) rfl (by show 2 * 0 + _ ≤ _; exact Nat.le_of_eq rfl) (hb hby own_d14_21) (fun _ _ => ⟨rfl, e2, (by decide : 0 + 0 ≤ _), (by decide : 0 + 0 ≤ _)⟩)
  dsimp only [Pt.U, Pt.locs, Pt.cells, Pt.slots] at X3 l3 y3 z3 st3 hQ3
  replace X3 := own_cst X3 l3 y3 z3 (k2 := 0) (n2 := 0) rfl rfl
  clear l3 y3 z3
  obtain ⟨rfl, Nq3, eq3⟩ := hQ3
  have NF3 := Fr.app NF1 Nq3
  refine own_go st3 ?_
  show own_Go _ _ _ _ (T3.setTop (mkF m 24 #[.val (.ref a1), .val (.int i)] [(.int (nar .char (own_gc w0 w1)))]))
  refine own_ret X3 hlk (v := some (.int (nar .char (nar .char (own_gc w0 w1))))) (fun h => by rw [Bd.returns] at h; cases h) (fun fs hr => retN X3 hx (t := .char) Bd.returns (by simp) (hb hby own_d14_24) hr) ?_ (by decide) (by decide)
  try rw [eq3]
  exact ⟨rfl, NF3, rfl⟩
theorem own_d11_0 : decode jdk_43_method_13_code 0 = .ok (.aload_n 0, 1) := by decide +kernel
theorem own_d11_1 : decode jdk_43_method_13_code 1 = .ok (.arraylength, 1) := by decide +kernel
theorem own_d11_2 : decode jdk_43_method_13_code 2 = .ok (.aload_n 1, 1) := by decide +kernel
theorem own_d11_3 : decode jdk_43_method_13_code 3 = .ok (.arraylength, 1) := by decide +kernel
theorem own_d11_4 : decode jdk_43_method_13_code 4 = .ok (.if_icmp .ne 30, 3) := by decide +kernel
theorem own_d11_7 : decode jdk_43_method_13_code 7 = .ok (.iconst 0, 1) := by decide +kernel
theorem own_d11_8 : decode jdk_43_method_13_code 8 = .ok (.istore_n 2, 1) := by decide +kernel
theorem own_d11_9 : decode jdk_43_method_13_code 9 = .ok (.iload_n 2, 1) := by decide +kernel
theorem own_d11_10 : decode jdk_43_method_13_code 10 = .ok (.aload_n 0, 1) := by decide +kernel
theorem own_d11_11 : decode jdk_43_method_13_code 11 = .ok (.arraylength, 1) := by decide +kernel
theorem own_d11_12 : decode jdk_43_method_13_code 12 = .ok (.if_icmp .ge 20, 3) := by decide +kernel
theorem own_d11_15 : decode jdk_43_method_13_code 15 = .ok (.aload_n 0, 1) := by decide +kernel
theorem own_d11_16 : decode jdk_43_method_13_code 16 = .ok (.iload_n 2, 1) := by decide +kernel
theorem own_d11_17 : decode jdk_43_method_13_code 17 = .ok (.baload, 1) := by decide +kernel
theorem own_d11_18 : decode jdk_43_method_13_code 18 = .ok (.aload_n 1, 1) := by decide +kernel
theorem own_d11_19 : decode jdk_43_method_13_code 19 = .ok (.iload_n 2, 1) := by decide +kernel
theorem own_d11_20 : decode jdk_43_method_13_code 20 = .ok (.baload, 1) := by decide +kernel
theorem own_d11_21 : decode jdk_43_method_13_code 21 = .ok (.if_icmp .eq 5, 3) := by decide +kernel
theorem own_d11_26 : decode jdk_43_method_13_code 26 = .ok (.iinc 2 1, 3) := by decide +kernel
theorem own_d11_29 : decode jdk_43_method_13_code 29 = .ok (.goto (-20), 3) := by decide +kernel
theorem own_d11_32 : decode jdk_43_method_13_code 32 = .ok (.iconst 1, 1) := by decide +kernel
theorem own_d11_33 : decode jdk_43_method_13_code 33 = .ok (.ireturn, 1) := by decide +kernel
theorem own_d11_24 : decode jdk_43_method_13_code 24 = .ok (.iconst 0, 1) := by decide +kernel
theorem own_d11_25 : decode jdk_43_method_13_code 25 = .ok (.ireturn, 1) := by decide +kernel
set_option maxRecDepth 65536 in
set_option maxHeartbeats 40000000 in
theorem own_rmle1 (l : Launch) (Z : State) (a0 : Array Value) (hw : ∀ d ∈ tables_1, d.before a0 Z = true) (b : Addr) (k : ClassId) (d : Addr) (kd : ClassId) (y0 : Int32) (z0 : Int32) (h0 : Heap) (n0 : Nat) (Z0 : n0 ≤ h0.size) (V : Arv Z h0 b k .byte 1 [(.int y0)] (.int 0)) (Vd : Arv Z h0 d kd .byte 1 [(.int z0)] (.int 0)) :
    own_Met l Z [] (⟨"java/lang/StringLatin1", "equals", "([B[B)Z"⟩ : MethodName) jdk_43_method_13_code 3 (some .boolean) ({ frames := 0, cells := 0, slots := 0, locals := 0 } : Room) #[(.ref b), (.ref d)] h0 (fun v h L => v = some (.int (own_same [y0] [z0])) ∧ Fr n0 L ∧ h = h0) := by
  refine MetFree.of_bodySF (plainFor_of_name own_pn0) hisR ?_
  intro p e s m args below meth c s₁ Bd hml0 hP hK
  obtain ⟨rfl, hZ, hh⟩ := hP
  have hx := Bd.exec
  have hby := Bd.bytes
  have hml : c.maxLocals = 3 := hml0
  have hown : s.vm.findClass "java/lang/StringLatin1" = some m.cls := findClass_of_methodNamed Bd.named
  have hnm := (name_of_methodNamed Bd.named Bd.method).1
  have hlk : meth.locks = false := Bd.notSynchronized
  have X0 : Stand p l e ({ frames := 0, cells := 0, slots := 0, locals := 0 } : Room) s m #[(.ref b), (.ref d)] below meth c s₁ [] 0 0 := Stand.of_body Bd
  have e0 : s₁.heap = h0 := by rw [← hh, Bd.state]; rfl
  have N0 := Fr.nil n0
  refine own_body (Q := fun v h L => v = some (.int (own_same [y0] [z0])) ∧ Fr n0 L ∧ h = h0) ?_
  refine own_go (fun _ kont => castTop (own_ef m #[(.ref b), (.ref d)] 3 #[.val (.ref b), .val (.ref d), .unset] (own_al [(.ref b), (.ref d)] 3 [.val (.ref b), .val (.ref d), .unset] rfl)) kont) ?_
  show own_Go _ _ _ _ (s₁.setTop (mkF m 0 #[.val (.ref b), .val (.ref d), .unset] []))
  refine own_go (fun _ => XS.aloadN X0.here hx rfl (hb hby own_d11_0) rfl rfl) ?_
  obtain ⟨cl1, Ar1, -, Sz1, Ng1, -, -⟩ := id V
  refine own_go (X0.arraylength hx (own_hp e0 Ar1.1) (State.isArrayOf_alike hZ.alike Ar1.2.1) (g := (mkF m 1 #[.val (.ref b), .val (.ref d), .unset] [(.ref b)])) rfl rfl (hb hby own_d11_1)) ?_
  rw [len_of Sz1 Ng1]
  refine own_go (fun _ => XS.aloadN X0.here hx rfl (hb hby own_d11_2) rfl rfl) ?_
  obtain ⟨cl2, Ar2, -, Sz2, Ng2, -, -⟩ := id Vd
  refine own_go (X0.arraylength hx (own_hp e0 Ar2.1) (State.isArrayOf_alike hZ.alike Ar2.2.1) (g := (mkF m 3 #[.val (.ref b), .val (.ref d), .unset] [(.ref d), (.int (1 : Int32))])) rfl rfl (hb hby own_d11_3)) ?_
  rw [len_of Sz2 Ng2]
  show own_Go _ _ _ _ (s₁.setTop (mkF m 4 #[.val (.ref b), .val (.ref d), .unset] [(.int (1 : Int32)), (.int (1 : Int32))]))
  refine own_go (fun _ => XS.icmpNo X0.here hx rfl (hb hby own_d11_4) rfl (teq rfl).2) ?_
  show own_Go _ _ _ _ (s₁.setTop (mkF m 7 #[.val (.ref b), .val (.ref d), .unset] []))
  refine own_go (fun _ => XS.iconst X0.here hx rfl (hb hby own_d11_7)) ?_
  refine own_go (fun _ => XS.istoreN X0.here hx rfl (hb hby own_d11_8) rfl (l' := #[.val (.ref b), .val (.ref d), .val (.int (0 : Int32))]) rfl) ?_
  refine own_go (fun _ => XS.iloadN X0.here hx rfl (hb hby own_d11_9) rfl) ?_
  refine own_go (fun _ => XS.aloadN X0.here hx rfl (hb hby own_d11_10) rfl rfl) ?_
  obtain ⟨cl3, Ar3, -, Sz3, Ng3, -, -⟩ := id V
  refine own_go (X0.arraylength hx (own_hp e0 Ar3.1) (State.isArrayOf_alike hZ.alike Ar3.2.1) (g := (mkF m 11 #[.val (.ref b), .val (.ref d), .val (.int (0 : Int32))] [(.ref b), (.int (0 : Int32))])) rfl rfl (hb hby own_d11_11)) ?_
  rw [len_of Sz3 Ng3]
  show own_Go _ _ _ _ (s₁.setTop (mkF m 12 #[.val (.ref b), .val (.ref d), .val (.int (0 : Int32))] [(.int (1 : Int32)), (.int (0 : Int32))]))
  refine own_go (fun _ => XS.icmpNo X0.here hx rfl (hb hby own_d11_12) rfl (tlt (by decide)).2.1) ?_
  show own_Go _ _ _ _ (s₁.setTop (mkF m 15 #[.val (.ref b), .val (.ref d), .val (.int (0 : Int32))] []))
  refine own_go (fun _ => XS.aloadN X0.here hx rfl (hb hby own_d11_15) rfl rfl) ?_
  refine own_go (fun _ => XS.iloadN X0.here hx rfl (hb hby own_d11_16) rfl) ?_
  obtain ⟨cl4, Ar4, q4, Sz4, Ng4, Hs4, Gs4⟩ := id V
  have hin4 : ¬ ((0 : Int32) < 0 ∨ cl4.slots.size ≤ ((0 : Int32)).toNatClampNeg) := inb_of Sz4 ⟨by decide, by decide⟩
  have hat4 : cl4.slots[((0 : Int32)).toNatClampNeg]? = some (.int y0) := Hs4.at hin4 rfl
  refine own_go (X0.baloadBytes hx (j := (0 : Int32)) (v := (.int y0)) (own_hp e0 Ar4.1) (State.isArrayOf_alike hZ.alike Ar4.2.1) Ar4.2.2 hin4 hat4 (g := (mkF m 17 #[.val (.ref b), .val (.ref d), .val (.int (0 : Int32))] [(.int (0 : Int32)), (.ref b)])) rfl rfl (hb hby own_d11_17)) ?_
  refine own_go (fun _ => XS.aloadN X0.here hx rfl (hb hby own_d11_18) rfl rfl) ?_
  refine own_go (fun _ => XS.iloadN X0.here hx rfl (hb hby own_d11_19) rfl) ?_
  show own_Go _ _ _ _ (s₁.setTop (mkF m 20 #[.val (.ref b), .val (.ref d), .val (.int (0 : Int32))] [(.int (0 : Int32)), (.ref d), (.int y0)]))
  obtain ⟨cl5, Ar5, q5, Sz5, Ng5, Hs5, Gs5⟩ := id Vd
  have hin5 : ¬ ((0 : Int32) < 0 ∨ cl5.slots.size ≤ ((0 : Int32)).toNatClampNeg) := inb_of Sz5 ⟨by decide, by decide⟩
  have hat5 : cl5.slots[((0 : Int32)).toNatClampNeg]? = some (.int z0) := Hs5.at hin5 rfl
  refine own_go (X0.baloadBytes hx (j := (0 : Int32)) (v := (.int z0)) (own_hp e0 Ar5.1) (State.isArrayOf_alike hZ.alike Ar5.2.1) Ar5.2.2 hin5 hat5 (g := (mkF m 20 #[.val (.ref b), .val (.ref d), .val (.int (0 : Int32))] [(.int (0 : Int32)), (.ref d), (.int y0)])) rfl rfl (hb hby own_d11_20)) ?_
  show own_Go _ _ _ _ (s₁.setTop (mkF m 21 #[.val (.ref b), .val (.ref d), .val (.int (0 : Int32))] [(.int z0), (.int y0)]))
  by_cases hy_y0 : y0 = z0
  · have _h := hy_y0
    refine own_go (fun _ => XS.icmpYes X0.here hx rfl (pc0 := 21) (pc' := 26) rfl (hb hby own_d11_21) rfl (teq hy_y0).1 (by decide) (by decide)) ?_
    show own_Go _ _ _ _ (s₁.setTop (mkF m 26 #[.val (.ref b), .val (.ref d), .val (.int (0 : Int32))] []))
    refine own_go (fun _ => XS.iinc X0.here hx rfl (hb hby own_d11_26) rfl (l' := #[.val (.ref b), .val (.ref d), .val (.int (1 : Int32))]) rfl) ?_
    refine own_go (fun _ => XS.goto X0.here hx rfl (pc0 := 29) (pc' := 9) rfl (hb hby own_d11_29) (by decide) (by decide)) ?_
    refine own_go (fun _ => XS.iloadN X0.here hx rfl (hb hby own_d11_9) rfl) ?_
    refine own_go (fun _ => XS.aloadN X0.here hx rfl (hb hby own_d11_10) rfl rfl) ?_
    obtain ⟨cl6, Ar6, -, Sz6, Ng6, -, -⟩ := id V
    refine own_go (X0.arraylength hx (own_hp e0 Ar6.1) (State.isArrayOf_alike hZ.alike Ar6.2.1) (g := (mkF m 11 #[.val (.ref b), .val (.ref d), .val (.int (1 : Int32))] [(.ref b), (.int (1 : Int32))])) rfl rfl (hb hby own_d11_11)) ?_
    rw [len_of Sz6 Ng6]
    show own_Go _ _ _ _ (s₁.setTop (mkF m 12 #[.val (.ref b), .val (.ref d), .val (.int (1 : Int32))] [(.int (1 : Int32)), (.int (1 : Int32))]))
    refine own_go (fun _ => XS.icmpYes X0.here hx rfl (pc0 := 12) (pc' := 32) rfl (hb hby own_d11_12) rfl (flt (by decide)).2.1 (by decide) (by decide)) ?_
    show own_Go _ _ _ _ (s₁.setTop (mkF m 32 #[.val (.ref b), .val (.ref d), .val (.int (1 : Int32))] []))
    refine own_go (fun _ => XS.iconst X0.here hx rfl (hb hby own_d11_32)) ?_
    show own_Go _ _ _ _ (s₁.setTop (mkF m 33 #[.val (.ref b), .val (.ref d), .val (.int (1 : Int32))] [(.int (1 : Int32))]))
    refine own_ret X0 hlk (v := some (.int (1 : Int32))) (fun h => by rw [Bd.returns] at h; cases h) (fun fs hr => retN X0 hx (t := .boolean) Bd.returns (by simp) (hb hby own_d11_33) hr) ?_ (by decide) (by decide)
    try rw [e0]
    exact ⟨by simp [own_same, hy_y0], N0, rfl⟩
  · have _h := hy_y0
    refine own_go (fun _ => XS.icmpNo X0.here hx rfl (hb hby own_d11_21) rfl (feq hy_y0).1) ?_
    show own_Go _ _ _ _ (s₁.setTop (mkF m 24 #[.val (.ref b), .val (.ref d), .val (.int (0 : Int32))] []))
    refine own_go (fun _ => XS.iconst X0.here hx rfl (hb hby own_d11_24)) ?_
    show own_Go _ _ _ _ (s₁.setTop (mkF m 25 #[.val (.ref b), .val (.ref d), .val (.int (0 : Int32))] [(.int (0 : Int32))]))
    refine own_ret X0 hlk (v := some (.int (0 : Int32))) (fun h => by rw [Bd.returns] at h; cases h) (fun fs hr => retN X0 hx (t := .boolean) Bd.returns (by simp) (hb hby own_d11_25) hr) ?_ (by decide) (by decide)
    try rw [e0]
    exact ⟨by simp [own_same, hy_y0], N0, rfl⟩
set_option maxRecDepth 65536 in
set_option maxHeartbeats 40000000 in
theorem own_rmle2 (l : Launch) (Z : State) (a0 : Array Value) (hw : ∀ d ∈ tables_1, d.before a0 Z = true) (b : Addr) (k : ClassId) (d : Addr) (kd : ClassId) (y0 : Int32) (y1 : Int32) (z0 : Int32) (z1 : Int32) (h0 : Heap) (n0 : Nat) (Z0 : n0 ≤ h0.size) (V : Arv Z h0 b k .byte 2 [(.int y0), (.int y1)] (.int 0)) (Vd : Arv Z h0 d kd .byte 2 [(.int z0), (.int z1)] (.int 0)) :
    own_Met l Z [] (⟨"java/lang/StringLatin1", "equals", "([B[B)Z"⟩ : MethodName) jdk_43_method_13_code 3 (some .boolean) ({ frames := 0, cells := 0, slots := 0, locals := 0 } : Room) #[(.ref b), (.ref d)] h0 (fun v h L => v = some (.int (own_same [y0, y1] [z0, z1])) ∧ Fr n0 L ∧ h = h0) := by
  refine MetFree.of_bodySF (plainFor_of_name own_pn0) hisR ?_
  intro p e s m args below meth c s₁ Bd hml0 hP hK
  obtain ⟨rfl, hZ, hh⟩ := hP
  have hx := Bd.exec
  have hby := Bd.bytes
  have hml : c.maxLocals = 3 := hml0
  have hown : s.vm.findClass "java/lang/StringLatin1" = some m.cls := findClass_of_methodNamed Bd.named
  have hnm := (name_of_methodNamed Bd.named Bd.method).1
  have hlk : meth.locks = false := Bd.notSynchronized
  have X0 : Stand p l e ({ frames := 0, cells := 0, slots := 0, locals := 0 } : Room) s m #[(.ref b), (.ref d)] below meth c s₁ [] 0 0 := Stand.of_body Bd
  have e0 : s₁.heap = h0 := by rw [← hh, Bd.state]; rfl
  have N0 := Fr.nil n0
  refine own_body (Q := fun v h L => v = some (.int (own_same [y0, y1] [z0, z1])) ∧ Fr n0 L ∧ h = h0) ?_
  refine own_go (fun _ kont => castTop (own_ef m #[(.ref b), (.ref d)] 3 #[.val (.ref b), .val (.ref d), .unset] (own_al [(.ref b), (.ref d)] 3 [.val (.ref b), .val (.ref d), .unset] rfl)) kont) ?_
  show own_Go _ _ _ _ (s₁.setTop (mkF m 0 #[.val (.ref b), .val (.ref d), .unset] []))
  refine own_go (fun _ => XS.aloadN X0.here hx rfl (hb hby own_d11_0) rfl rfl) ?_
  obtain ⟨cl1, Ar1, -, Sz1, Ng1, -, -⟩ := id V
  refine own_go (X0.arraylength hx (own_hp e0 Ar1.1) (State.isArrayOf_alike hZ.alike Ar1.2.1) (g := (mkF m 1 #[.val (.ref b), .val (.ref d), .unset] [(.ref b)])) rfl rfl (hb hby own_d11_1)) ?_
  rw [len_of Sz1 Ng1]
  refine own_go (fun _ => XS.aloadN X0.here hx rfl (hb hby own_d11_2) rfl rfl) ?_
  obtain ⟨cl2, Ar2, -, Sz2, Ng2, -, -⟩ := id Vd
  refine own_go (X0.arraylength hx (own_hp e0 Ar2.1) (State.isArrayOf_alike hZ.alike Ar2.2.1) (g := (mkF m 3 #[.val (.ref b), .val (.ref d), .unset] [(.ref d), (.int (2 : Int32))])) rfl rfl (hb hby own_d11_3)) ?_
  rw [len_of Sz2 Ng2]
  show own_Go _ _ _ _ (s₁.setTop (mkF m 4 #[.val (.ref b), .val (.ref d), .unset] [(.int (2 : Int32)), (.int (2 : Int32))]))
  refine own_go (fun _ => XS.icmpNo X0.here hx rfl (hb hby own_d11_4) rfl (teq rfl).2) ?_
  show own_Go _ _ _ _ (s₁.setTop (mkF m 7 #[.val (.ref b), .val (.ref d), .unset] []))
  refine own_go (fun _ => XS.iconst X0.here hx rfl (hb hby own_d11_7)) ?_
  refine own_go (fun _ => XS.istoreN X0.here hx rfl (hb hby own_d11_8) rfl (l' := #[.val (.ref b), .val (.ref d), .val (.int (0 : Int32))]) rfl) ?_
  refine own_go (fun _ => XS.iloadN X0.here hx rfl (hb hby own_d11_9) rfl) ?_
  refine own_go (fun _ => XS.aloadN X0.here hx rfl (hb hby own_d11_10) rfl rfl) ?_
  obtain ⟨cl3, Ar3, -, Sz3, Ng3, -, -⟩ := id V
  refine own_go (X0.arraylength hx (own_hp e0 Ar3.1) (State.isArrayOf_alike hZ.alike Ar3.2.1) (g := (mkF m 11 #[.val (.ref b), .val (.ref d), .val (.int (0 : Int32))] [(.ref b), (.int (0 : Int32))])) rfl rfl (hb hby own_d11_11)) ?_
  rw [len_of Sz3 Ng3]
  show own_Go _ _ _ _ (s₁.setTop (mkF m 12 #[.val (.ref b), .val (.ref d), .val (.int (0 : Int32))] [(.int (2 : Int32)), (.int (0 : Int32))]))
  refine own_go (fun _ => XS.icmpNo X0.here hx rfl (hb hby own_d11_12) rfl (tlt (by decide)).2.1) ?_
  show own_Go _ _ _ _ (s₁.setTop (mkF m 15 #[.val (.ref b), .val (.ref d), .val (.int (0 : Int32))] []))
  refine own_go (fun _ => XS.aloadN X0.here hx rfl (hb hby own_d11_15) rfl rfl) ?_
  refine own_go (fun _ => XS.iloadN X0.here hx rfl (hb hby own_d11_16) rfl) ?_
  obtain ⟨cl4, Ar4, q4, Sz4, Ng4, Hs4, Gs4⟩ := id V
  have hin4 : ¬ ((0 : Int32) < 0 ∨ cl4.slots.size ≤ ((0 : Int32)).toNatClampNeg) := inb_of Sz4 ⟨by decide, by decide⟩
  have hat4 : cl4.slots[((0 : Int32)).toNatClampNeg]? = some (.int y0) := Hs4.at hin4 rfl
  refine own_go (X0.baloadBytes hx (j := (0 : Int32)) (v := (.int y0)) (own_hp e0 Ar4.1) (State.isArrayOf_alike hZ.alike Ar4.2.1) Ar4.2.2 hin4 hat4 (g := (mkF m 17 #[.val (.ref b), .val (.ref d), .val (.int (0 : Int32))] [(.int (0 : Int32)), (.ref b)])) rfl rfl (hb hby own_d11_17)) ?_
  refine own_go (fun _ => XS.aloadN X0.here hx rfl (hb hby own_d11_18) rfl rfl) ?_
  refine own_go (fun _ => XS.iloadN X0.here hx rfl (hb hby own_d11_19) rfl) ?_
  show own_Go _ _ _ _ (s₁.setTop (mkF m 20 #[.val (.ref b), .val (.ref d), .val (.int (0 : Int32))] [(.int (0 : Int32)), (.ref d), (.int y0)]))
  obtain ⟨cl5, Ar5, q5, Sz5, Ng5, Hs5, Gs5⟩ := id Vd
  have hin5 : ¬ ((0 : Int32) < 0 ∨ cl5.slots.size ≤ ((0 : Int32)).toNatClampNeg) := inb_of Sz5 ⟨by decide, by decide⟩
  have hat5 : cl5.slots[((0 : Int32)).toNatClampNeg]? = some (.int z0) := Hs5.at hin5 rfl
  refine own_go (X0.baloadBytes hx (j := (0 : Int32)) (v := (.int z0)) (own_hp e0 Ar5.1) (State.isArrayOf_alike hZ.alike Ar5.2.1) Ar5.2.2 hin5 hat5 (g := (mkF m 20 #[.val (.ref b), .val (.ref d), .val (.int (0 : Int32))] [(.int (0 : Int32)), (.ref d), (.int y0)])) rfl rfl (hb hby own_d11_20)) ?_
  show own_Go _ _ _ _ (s₁.setTop (mkF m 21 #[.val (.ref b), .val (.ref d), .val (.int (0 : Int32))] [(.int z0), (.int y0)]))
  by_cases hy_y0 : y0 = z0
  · have _h := hy_y0
    refine own_go (fun _ => XS.icmpYes X0.here hx rfl (pc0 := 21) (pc' := 26) rfl (hb hby own_d11_21) rfl (teq hy_y0).1 (by decide) (by decide)) ?_
    show own_Go _ _ _ _ (s₁.setTop (mkF m 26 #[.val (.ref b), .val (.ref d), .val (.int (0 : Int32))] []))
    refine own_go (fun _ => XS.iinc X0.here hx rfl (hb hby own_d11_26) rfl (l' := #[.val (.ref b), .val (.ref d), .val (.int (1 : Int32))]) rfl) ?_
    refine own_go (fun _ => XS.goto X0.here hx rfl (pc0 := 29) (pc' := 9) rfl (hb hby own_d11_29) (by decide) (by decide)) ?_
    refine own_go (fun _ => XS.iloadN X0.here hx rfl (hb hby own_d11_9) rfl) ?_
    refine own_go (fun _ => XS.aloadN X0.here hx rfl (hb hby own_d11_10) rfl rfl) ?_
    obtain ⟨cl6, Ar6, -, Sz6, Ng6, -, -⟩ := id V
    refine own_go (X0.arraylength hx (own_hp e0 Ar6.1) (State.isArrayOf_alike hZ.alike Ar6.2.1) (g := (mkF m 11 #[.val (.ref b), .val (.ref d), .val (.int (1 : Int32))] [(.ref b), (.int (1 : Int32))])) rfl rfl (hb hby own_d11_11)) ?_
    rw [len_of Sz6 Ng6]
    show own_Go _ _ _ _ (s₁.setTop (mkF m 12 #[.val (.ref b), .val (.ref d), .val (.int (1 : Int32))] [(.int (2 : Int32)), (.int (1 : Int32))]))
    refine own_go (fun _ => XS.icmpNo X0.here hx rfl (hb hby own_d11_12) rfl (tlt (by decide)).2.1) ?_
    show own_Go _ _ _ _ (s₁.setTop (mkF m 15 #[.val (.ref b), .val (.ref d), .val (.int (1 : Int32))] []))
    refine own_go (fun _ => XS.aloadN X0.here hx rfl (hb hby own_d11_15) rfl rfl) ?_
    refine own_go (fun _ => XS.iloadN X0.here hx rfl (hb hby own_d11_16) rfl) ?_
    obtain ⟨cl7, Ar7, q7, Sz7, Ng7, Hs7, Gs7⟩ := id V
    have hin7 : ¬ ((1 : Int32) < 0 ∨ cl7.slots.size ≤ ((1 : Int32)).toNatClampNeg) := inb_of Sz7 ⟨by decide, by decide⟩
    have hat7 : cl7.slots[((1 : Int32)).toNatClampNeg]? = some (.int y1) := Hs7.at hin7 rfl
    refine own_go (X0.baloadBytes hx (j := (1 : Int32)) (v := (.int y1)) (own_hp e0 Ar7.1) (State.isArrayOf_alike hZ.alike Ar7.2.1) Ar7.2.2 hin7 hat7 (g := (mkF m 17 #[.val (.ref b), .val (.ref d), .val (.int (1 : Int32))] [(.int (1 : Int32)), (.ref b)])) rfl rfl (hb hby own_d11_17)) ?_
    refine own_go (fun _ => XS.aloadN X0.here hx rfl (hb hby own_d11_18) rfl rfl) ?_
    refine own_go (fun _ => XS.iloadN X0.here hx rfl (hb hby own_d11_19) rfl) ?_
    show own_Go _ _ _ _ (s₁.setTop (mkF m 20 #[.val (.ref b), .val (.ref d), .val (.int (1 : Int32))] [(.int (1 : Int32)), (.ref d), (.int y1)]))
    obtain ⟨cl8, Ar8, q8, Sz8, Ng8, Hs8, Gs8⟩ := id Vd
    have hin8 : ¬ ((1 : Int32) < 0 ∨ cl8.slots.size ≤ ((1 : Int32)).toNatClampNeg) := inb_of Sz8 ⟨by decide, by decide⟩
    have hat8 : cl8.slots[((1 : Int32)).toNatClampNeg]? = some (.int z1) := Hs8.at hin8 rfl
    refine own_go (X0.baloadBytes hx (j := (1 : Int32)) (v := (.int z1)) (own_hp e0 Ar8.1) (State.isArrayOf_alike hZ.alike Ar8.2.1) Ar8.2.2 hin8 hat8 (g := (mkF m 20 #[.val (.ref b), .val (.ref d), .val (.int (1 : Int32))] [(.int (1 : Int32)), (.ref d), (.int y1)])) rfl rfl (hb hby own_d11_20)) ?_
    show own_Go _ _ _ _ (s₁.setTop (mkF m 21 #[.val (.ref b), .val (.ref d), .val (.int (1 : Int32))] [(.int z1), (.int y1)]))
    by_cases hy_y1 : y1 = z1
    · have _h := hy_y1
      refine own_go (fun _ => XS.icmpYes X0.here hx rfl (pc0 := 21) (pc' := 26) rfl (hb hby own_d11_21) rfl (teq hy_y1).1 (by decide) (by decide)) ?_
      show own_Go _ _ _ _ (s₁.setTop (mkF m 26 #[.val (.ref b), .val (.ref d), .val (.int (1 : Int32))] []))
      refine own_go (fun _ => XS.iinc X0.here hx rfl (hb hby own_d11_26) rfl (l' := #[.val (.ref b), .val (.ref d), .val (.int (2 : Int32))]) rfl) ?_
      refine own_go (fun _ => XS.goto X0.here hx rfl (pc0 := 29) (pc' := 9) rfl (hb hby own_d11_29) (by decide) (by decide)) ?_
      refine own_go (fun _ => XS.iloadN X0.here hx rfl (hb hby own_d11_9) rfl) ?_
      refine own_go (fun _ => XS.aloadN X0.here hx rfl (hb hby own_d11_10) rfl rfl) ?_
      obtain ⟨cl9, Ar9, -, Sz9, Ng9, -, -⟩ := id V
      refine own_go (X0.arraylength hx (own_hp e0 Ar9.1) (State.isArrayOf_alike hZ.alike Ar9.2.1) (g := (mkF m 11 #[.val (.ref b), .val (.ref d), .val (.int (2 : Int32))] [(.ref b), (.int (2 : Int32))])) rfl rfl (hb hby own_d11_11)) ?_
      rw [len_of Sz9 Ng9]
      show own_Go _ _ _ _ (s₁.setTop (mkF m 12 #[.val (.ref b), .val (.ref d), .val (.int (2 : Int32))] [(.int (2 : Int32)), (.int (2 : Int32))]))
      refine own_go (fun _ => XS.icmpYes X0.here hx rfl (pc0 := 12) (pc' := 32) rfl (hb hby own_d11_12) rfl (flt (by decide)).2.1 (by decide) (by decide)) ?_
      show own_Go _ _ _ _ (s₁.setTop (mkF m 32 #[.val (.ref b), .val (.ref d), .val (.int (2 : Int32))] []))
      refine own_go (fun _ => XS.iconst X0.here hx rfl (hb hby own_d11_32)) ?_
      show own_Go _ _ _ _ (s₁.setTop (mkF m 33 #[.val (.ref b), .val (.ref d), .val (.int (2 : Int32))] [(.int (1 : Int32))]))
      refine own_ret X0 hlk (v := some (.int (1 : Int32))) (fun h => by rw [Bd.returns] at h; cases h) (fun fs hr => retN X0 hx (t := .boolean) Bd.returns (by simp) (hb hby own_d11_33) hr) ?_ (by decide) (by decide)
      try rw [e0]
      exact ⟨by simp [own_same, hy_y0, hy_y1], N0, rfl⟩
    · have _h := hy_y1
      refine own_go (fun _ => XS.icmpNo X0.here hx rfl (hb hby own_d11_21) rfl (feq hy_y1).1) ?_
      show own_Go _ _ _ _ (s₁.setTop (mkF m 24 #[.val (.ref b), .val (.ref d), .val (.int (1 : Int32))] []))
      refine own_go (fun _ => XS.iconst X0.here hx rfl (hb hby own_d11_24)) ?_
      show own_Go _ _ _ _ (s₁.setTop (mkF m 25 #[.val (.ref b), .val (.ref d), .val (.int (1 : Int32))] [(.int (0 : Int32))]))
      refine own_ret X0 hlk (v := some (.int (0 : Int32))) (fun h => by rw [Bd.returns] at h; cases h) (fun fs hr => retN X0 hx (t := .boolean) Bd.returns (by simp) (hb hby own_d11_25) hr) ?_ (by decide) (by decide)
      try rw [e0]
      exact ⟨by simp [own_same, hy_y0, hy_y1], N0, rfl⟩
  · have _h := hy_y0
    refine own_go (fun _ => XS.icmpNo X0.here hx rfl (hb hby own_d11_21) rfl (feq hy_y0).1) ?_
    show own_Go _ _ _ _ (s₁.setTop (mkF m 24 #[.val (.ref b), .val (.ref d), .val (.int (0 : Int32))] []))
    refine own_go (fun _ => XS.iconst X0.here hx rfl (hb hby own_d11_24)) ?_
    show own_Go _ _ _ _ (s₁.setTop (mkF m 25 #[.val (.ref b), .val (.ref d), .val (.int (0 : Int32))] [(.int (0 : Int32))]))
    refine own_ret X0 hlk (v := some (.int (0 : Int32))) (fun h => by rw [Bd.returns] at h; cases h) (fun fs hr => retN X0 hx (t := .boolean) Bd.returns (by simp) (hb hby own_d11_25) hr) ?_ (by decide) (by decide)
    try rw [e0]
    exact ⟨by simp [own_same, hy_y0], N0, rfl⟩
theorem own_d11_34 : decode jdk_43_method_13_code 34 = .ok (.iconst 0, 1) := by decide +kernel
theorem own_d11_35 : decode jdk_43_method_13_code 35 = .ok (.ireturn, 1) := by decide +kernel
set_option maxRecDepth 65536 in
set_option maxHeartbeats 40000000 in
theorem own_rmleD (l : Launch) (Z : State) (a0 : Array Value) (hw : ∀ d ∈ tables_1, d.before a0 Z = true) (b : Addr) (k : ClassId) (d : Addr) (kd : ClassId) (z : Int32) (zd : Int32) (vs : List Value) (vd : List Value) (h0 : Heap) (n0 : Nat) (Z0 : n0 ≤ h0.size) (V : Arv Z h0 b k .byte z vs (.int 0)) (Vd : Arv Z h0 d kd .byte zd vd (.int 0)) (hz : ¬ z = zd) :
    own_Met l Z [] (⟨"java/lang/StringLatin1", "equals", "([B[B)Z"⟩ : MethodName) jdk_43_method_13_code 3 (some .boolean) ({ frames := 0, cells := 0, slots := 0, locals := 0 } : Room) #[(.ref b), (.ref d)] h0 (fun v h L => v = some (.int 0) ∧ Fr n0 L ∧ h = h0) := by
  refine MetFree.of_bodySF (plainFor_of_name own_pn0) hisR ?_
  intro p e s m args below meth c s₁ Bd hml0 hP hK
  obtain ⟨rfl, hZ, hh⟩ := hP
  have hx := Bd.exec
  have hby := Bd.bytes
  have hml : c.maxLocals = 3 := hml0
  have hown : s.vm.findClass "java/lang/StringLatin1" = some m.cls := findClass_of_methodNamed Bd.named
  have hnm := (name_of_methodNamed Bd.named Bd.method).1
  have hlk : meth.locks = false := Bd.notSynchronized
  have X0 : Stand p l e ({ frames := 0, cells := 0, slots := 0, locals := 0 } : Room) s m #[(.ref b), (.ref d)] below meth c s₁ [] 0 0 := Stand.of_body Bd
  have e0 : s₁.heap = h0 := by rw [← hh, Bd.state]; rfl
  have N0 := Fr.nil n0
  refine own_body (Q := fun v h L => v = some (.int 0) ∧ Fr n0 L ∧ h = h0) ?_
  refine own_go (fun _ kont => castTop (own_ef m #[(.ref b), (.ref d)] 3 #[.val (.ref b), .val (.ref d), .unset] (own_al [(.ref b), (.ref d)] 3 [.val (.ref b), .val (.ref d), .unset] rfl)) kont) ?_
  show own_Go _ _ _ _ (s₁.setTop (mkF m 0 #[.val (.ref b), .val (.ref d), .unset] []))
  refine own_go (fun _ => XS.aloadN X0.here hx rfl (hb hby own_d11_0) rfl rfl) ?_
  obtain ⟨cl1, Ar1, -, Sz1, Ng1, -, -⟩ := id V
  refine own_go (X0.arraylength hx (own_hp e0 Ar1.1) (State.isArrayOf_alike hZ.alike Ar1.2.1) (g := (mkF m 1 #[.val (.ref b), .val (.ref d), .unset] [(.ref b)])) rfl rfl (hb hby own_d11_1)) ?_
  rw [len_of Sz1 Ng1]
  refine own_go (fun _ => XS.aloadN X0.here hx rfl (hb hby own_d11_2) rfl rfl) ?_
  obtain ⟨cl2, Ar2, -, Sz2, Ng2, -, -⟩ := id Vd
  refine own_go (X0.arraylength hx (own_hp e0 Ar2.1) (State.isArrayOf_alike hZ.alike Ar2.2.1) (g := (mkF m 3 #[.val (.ref b), .val (.ref d), .unset] [(.ref d), (.int z)])) rfl rfl (hb hby own_d11_3)) ?_
  rw [len_of Sz2 Ng2]
  show own_Go _ _ _ _ (s₁.setTop (mkF m 4 #[.val (.ref b), .val (.ref d), .unset] [(.int zd), (.int z)]))
  refine own_go (fun _ => XS.icmpYes X0.here hx rfl (pc0 := 4) (pc' := 34) rfl (hb hby own_d11_4) rfl (feq hz).2 (by decide) (by decide)) ?_
  show own_Go _ _ _ _ (s₁.setTop (mkF m 34 #[.val (.ref b), .val (.ref d), .unset] []))
  refine own_go (fun _ => XS.iconst X0.here hx rfl (hb hby own_d11_34)) ?_
  show own_Go _ _ _ _ (s₁.setTop (mkF m 35 #[.val (.ref b), .val (.ref d), .unset] [(.int (0 : Int32))]))
  refine own_ret X0 hlk (v := some (.int (0 : Int32))) (fun h => by rw [Bd.returns] at h; cases h) (fun fs hr => retN X0 hx (t := .boolean) Bd.returns (by simp) (hb hby own_d11_35) hr) ?_ (by decide) (by decide)
  try rw [e0]
  exact ⟨rfl, N0, rfl⟩
theorem own_d10_0 : decode jdk_42_method_66_code 0 = .ok (.aload_n 0, 1) := by decide +kernel
theorem own_d10_1 : decode jdk_42_method_66_code 1 = .ok (.aload_n 1, 1) := by decide +kernel
theorem own_d10_2 : decode jdk_42_method_66_code 2 = .ok (.if_acmp .ne 5, 3) := by decide +kernel
theorem own_d10_7 : decode jdk_42_method_66_code 7 = .ok (.aload_n 1, 1) := by decide +kernel
theorem own_d10_8 : decode jdk_42_method_66_code 8 = .ok (.instanceof 10, 3) := by decide +kernel
theorem own_d10_11 : decode jdk_42_method_66_code 11 = .ok (.ifCond .eq 43, 3) := by decide +kernel
theorem own_d10_14 : decode jdk_42_method_66_code 14 = .ok (.aload_n 1, 1) := by decide +kernel
theorem own_d10_15 : decode jdk_42_method_66_code 15 = .ok (.checkcast 10, 3) := by decide +kernel
theorem own_d10_18 : decode jdk_42_method_66_code 18 = .ok (.astore_n 2, 1) := by decide +kernel
theorem own_d10_19 : decode jdk_42_method_66_code 19 = .ok (.getstatic 38, 3) := by decide +kernel
theorem own_d10_22 : decode jdk_42_method_66_code 22 = .ok (.ifCond .eq 14, 3) := by decide +kernel
theorem own_d10_25 : decode jdk_42_method_66_code 25 = .ok (.aload_n 0, 1) := by decide +kernel
theorem own_d10_26 : decode jdk_42_method_66_code 26 = .ok (.getfield 15, 3) := by decide +kernel
theorem own_d10_29 : decode jdk_42_method_66_code 29 = .ok (.aload_n 2, 1) := by decide +kernel
theorem own_d10_30 : decode jdk_42_method_66_code 30 = .ok (.getfield 15, 3) := by decide +kernel
theorem own_d10_33 : decode jdk_42_method_66_code 33 = .ok (.if_icmp .ne 21, 3) := by decide +kernel
theorem own_d10_36 : decode jdk_42_method_66_code 36 = .ok (.aload_n 0, 1) := by decide +kernel
theorem own_d10_37 : decode jdk_42_method_66_code 37 = .ok (.getfield 9, 3) := by decide +kernel
theorem own_d10_40 : decode jdk_42_method_66_code 40 = .ok (.aload_n 2, 1) := by decide +kernel
theorem own_d10_41 : decode jdk_42_method_66_code 41 = .ok (.getfield 9, 3) := by decide +kernel
theorem own_d10_44 : decode jdk_42_method_66_code 44 = .ok (.invokestatic 541, 3) := by decide +kernel
theorem own_pd7 : parseMethodDescriptor "([B[B)Z" = some ⟨[(.array .byte), (.array .byte)], some .boolean⟩ := by decide +kernel
theorem own_d10_47 : decode jdk_42_method_66_code 47 = .ok (.ifCond .eq 7, 3) := by decide +kernel
theorem own_d10_54 : decode jdk_42_method_66_code 54 = .ok (.iconst 0, 1) := by decide +kernel
theorem own_d10_55 : decode jdk_42_method_66_code 55 = .ok (.ireturn, 1) := by decide +kernel
theorem own_d10_50 : decode jdk_42_method_66_code 50 = .ok (.iconst 1, 1) := by decide +kernel
theorem own_d10_51 : decode jdk_42_method_66_code 51 = .ok (.goto 4, 3) := by decide +kernel
set_option maxRecDepth 65536 in
set_option maxHeartbeats 40000000 in
theorem own_rmeq0 (l : Launch) (Z : State) (a0 : Array Value) (hw : ∀ d ∈ tables_1, d.before a0 Z = true) (a1 : Addr) (a2 : Addr) (cs : Int32) (b : Addr) (d : Addr) (rr : Int32) (h0 : Heap) (n0 : Nat) (Z0 : n0 ≤ h0.size) (Fc : Fld Z h0 a1 "java/lang/String" "coder" "B" (.int 0)) (O : Old Z n0 h0) (S_C : Sta Z Z.heap "java/lang/String" "COMPACT_STRINGS" "Z" (.int cs)) (hcs : ¬ cs = (0 : Int32)) (ne12 : ¬ a1 = a2) (E2 : Exa Z h0 a2 "java/lang/String") (Fd : Fld Z h0 a2 "java/lang/String" "coder" "B" (.int 0)) (Fv : Fld Z h0 a1 "java/lang/String" "value" "[B" (.ref b)) (Fw : Fld Z h0 a2 "java/lang/String" "value" "[B" (.ref d)) (hle : own_Met l Z [] (⟨"java/lang/StringLatin1", "equals", "([B[B)Z"⟩ : MethodName) jdk_43_method_13_code 3 (some .boolean) ({ frames := 0, cells := 0, slots := 0, locals := 0 } : Room) #[(.ref b), (.ref d)] h0 (fun v h L => v = some (.int rr) ∧ Fr n0 L ∧ h = h0)) (hR : ¬ rr = (0 : Int32) → rr = 1) :
    own_Met l Z [] (⟨"java/lang/String", "equals", "(Ljava/lang/Object;)Z"⟩ : MethodName) jdk_42_method_66_code 3 (some .boolean) ({ frames := 1, cells := 0, slots := 0, locals := 14 } : Room) #[(.ref a1), (.ref a2)] h0 (fun v h L => v = some (.int rr) ∧ Fr n0 L ∧ h = h0) := by
  refine MetFree.of_bodySF (plainFor_of_name own_pn1) hisR ?_
  intro p e s m args below meth c s₁ Bd hml0 hP hK
  obtain ⟨rfl, hZ, hh⟩ := hP
  have hx := Bd.exec
  have hby := Bd.bytes
  have hml : c.maxLocals = 3 := hml0
  have hown : s.vm.findClass "java/lang/String" = some m.cls := findClass_of_methodNamed Bd.named
  have hnm := (name_of_methodNamed Bd.named Bd.method).1
  have hlk : meth.locks = false := Bd.notSynchronized
  have X0 : Stand p l e ({ frames := 1, cells := 0, slots := 0, locals := 14 } : Room) s m #[(.ref a1), (.ref a2)] below meth c s₁ [] 0 0 := Stand.of_body Bd
  have e0 : s₁.heap = h0 := by rw [← hh, Bd.state]; rfl
  have N0 := Fr.nil n0
  refine own_body (Q := fun v h L => v = some (.int rr) ∧ Fr n0 L ∧ h = h0) ?_
  refine own_go (fun _ kont => castTop (own_ef m #[(.ref a1), (.ref a2)] 3 #[.val (.ref a1), .val (.ref a2), .unset] (own_al [(.ref a1), (.ref a2)] 3 [.val (.ref a1), .val (.ref a2), .unset] rfl)) kont) ?_
  show own_Go _ _ _ _ (s₁.setTop (mkF m 0 #[.val (.ref a1), .val (.ref a2), .unset] []))
  refine own_go (fun _ => XS.aloadN X0.here hx rfl (hb hby own_d10_0) rfl rfl) ?_
  refine own_go (fun _ => XS.aloadN X0.here hx rfl (hb hby own_d10_1) rfl rfl) ?_
  show own_Go _ _ _ _ (s₁.setTop (mkF m 2 #[.val (.ref a1), .val (.ref a2), .unset] [(.ref a2), (.ref a1)]))
  refine own_go (fun _ => Jvm.RoadKit.acmp (g := (mkF m 2 #[.val (.ref a1), .val (.ref a2), .unset] [(.ref a2), (.ref a1)])) X0 hx rfl rfl rfl (pc0 := 2) (pc' := 7) (same := false) rfl (hb hby own_d10_2) rfl (decide_eq_false fun q => ne12 (Value.ref.inj q)) (by decide) (by decide)) ?_
  show own_Go _ _ _ _ (s₁.setTop (mkF m 7 #[.val (.ref a1), .val (.ref a2), .unset] []))
  refine own_go (fun _ => XS.aloadN X0.here hx rfl (hb hby own_d10_7) rfl rfl) ?_
  obtain ⟨T1, X1, e1, st1⟩ := instY X0 hx hZ hown (hw _ (List.mem_of_getElem? (i := 52) rfl)) e0 (Ins.self E2) (g := (mkF m 8 #[.val (.ref a1), .val (.ref a2), .unset] [(.ref a2)])) rfl rfl (hb hby own_d10_8)
  refine own_go st1 ?_
  show own_Go _ _ _ _ (T1.setTop (mkF m 11 #[.val (.ref a1), .val (.ref a2), .unset] [(.int (1 : Int32))]))
  refine own_go (fun _ => XS.ifNo X1.here hx rfl (hb hby own_d10_11) rfl ((if0 _ _).trans (feq (by decide)).1)) ?_
  show own_Go _ _ _ _ (T1.setTop (mkF m 14 #[.val (.ref a1), .val (.ref a2), .unset] []))
  refine own_go (fun _ => XS.aloadN X1.here hx rfl (hb hby own_d10_14) rfl rfl) ?_
  obtain ⟨T2, X2, e2, st2⟩ := castY X1 hx hZ hown (hw _ (List.mem_of_getElem? (i := 52) rfl)) e1 (Ins.self E2) (g := (mkF m 15 #[.val (.ref a1), .val (.ref a2), .unset] [(.ref a2)])) rfl rfl (hb hby own_d10_15)
  refine own_go st2 ?_
  refine own_go (fun _ => XS.astoreN X2.here hx rfl (hb hby own_d10_18) rfl rfl (l' := #[.val (.ref a1), .val (.ref a2), .val (.ref a2)]) rfl) ?_
  show own_Go _ _ _ _ (T2.setTop (mkF m 19 #[.val (.ref a1), .val (.ref a2), .val (.ref a2)] []))
  obtain ⟨T3, X3, e3, st3⟩ := getS2 X2 hx hZ hown (host := "") (Or.inl (hw _ (List.mem_of_getElem? (i := 15) rfl))) Via.refl e2 (S_C.ext O.2) (g := (mkF m 19 #[.val (.ref a1), .val (.ref a2), .val (.ref a2)] [])) rfl (hb hby own_d10_19)
  refine own_go st3 ?_
  show own_Go _ _ _ _ (T3.setTop (mkF m 22 #[.val (.ref a1), .val (.ref a2), .val (.ref a2)] [(.int cs)]))
  refine own_go (fun _ => XS.ifNo X3.here hx rfl (hb hby own_d10_22) rfl ((if0 _ _).trans (feq hcs).1)) ?_
  show own_Go _ _ _ _ (T3.setTop (mkF m 25 #[.val (.ref a1), .val (.ref a2), .val (.ref a2)] []))
  refine own_go (fun _ => XS.aloadN X3.here hx rfl (hb hby own_d10_25) rfl rfl) ?_
  obtain ⟨T4, X4, e4, st4⟩ := getF X3 hx hZ hown (host := "") (Or.inl (hw _ (List.mem_of_getElem? (i := 27) rfl))) Via.refl e3 Fc (g := (mkF m 26 #[.val (.ref a1), .val (.ref a2), .val (.ref a2)] [(.ref a1)])) rfl rfl (hb hby own_d10_26)
  refine own_go st4 ?_
  refine own_go (fun _ => XS.aloadN X4.here hx rfl (hb hby own_d10_29) rfl rfl) ?_
  obtain ⟨T5, X5, e5, st5⟩ := getF X4 hx hZ hown (host := "") (Or.inl (hw _ (List.mem_of_getElem? (i := 27) rfl))) Via.refl e4 Fd (g := (mkF m 30 #[.val (.ref a1), .val (.ref a2), .val (.ref a2)] [(.ref a2), (.int (0 : Int32))])) rfl rfl (hb hby own_d10_30)
  refine own_go st5 ?_
  show own_Go _ _ _ _ (T5.setTop (mkF m 33 #[.val (.ref a1), .val (.ref a2), .val (.ref a2)] [(.int (0 : Int32)), (.int (0 : Int32))]))
  refine own_go (fun _ => XS.icmpNo X5.here hx rfl (hb hby own_d10_33) rfl (teq rfl).2) ?_
  show own_Go _ _ _ _ (T5.setTop (mkF m 36 #[.val (.ref a1), .val (.ref a2), .val (.ref a2)] []))
  refine own_go (fun _ => XS.aloadN X5.here hx rfl (hb hby own_d10_36) rfl rfl) ?_
  obtain ⟨T6, X6, e6, st6⟩ := getF X5 hx hZ hown (host := "") (Or.inl (hw _ (List.mem_of_getElem? (i := 29) rfl))) Via.refl e5 Fv (g := (mkF m 37 #[.val (.ref a1), .val (.ref a2), .val (.ref a2)] [(.ref a1)])) rfl rfl (hb hby own_d10_37)
  refine own_go st6 ?_
  refine own_go (fun _ => XS.aloadN X6.here hx rfl (hb hby own_d10_40) rfl rfl) ?_
  obtain ⟨T7, X7, e7, st7⟩ := getF X6 hx hZ hown (host := "") (Or.inl (hw _ (List.mem_of_getElem? (i := 29) rfl))) Via.refl e6 Fw (g := (mkF m 41 #[.val (.ref a1), .val (.ref a2), .val (.ref a2)] [(.ref a2), (.ref b)])) rfl rfl (hb hby own_d10_41)
  refine own_go st7 ?_
  show own_Go _ _ _ _ (T7.setTop (mkF m 44 #[.val (.ref a1), .val (.ref a2), .val (.ref a2)] [(.ref d), (.ref b)]))
  obtain ⟨_, _, ⟨T8, L8, k8, n8⟩, -, X8, ⟨Lc8, hQ8, l8, y8, z8⟩, st8⟩ := Jvm.LawKit.callS X7 hx (y := (⟨"java/lang/StringLatin1", "equals", "([B[B)Z"⟩ : MethodName)) hown (mvT hZ (hw _ (List.mem_of_getElem? (i := 53) rfl))) (mvT hZ (hw _ (List.mem_of_getElem? (i := 54) rfl))) (mvT hZ (hw _ (List.mem_of_getElem? (i := 55) rfl))) (mvT hZ (hw _ (List.mem_of_getElem? (i := 56) rfl))) (by decide) (own_back (W := 0) (hle) hZ (hw _ (List.mem_of_getElem? (i := 56) rfl)) (hw _ (List.mem_of_getElem? (i := 55) rfl)) (by decide) (by decide)) (g := (mkF m 44 #[.val (.ref a1), .val (.ref a2), .val (.ref a2)] [(.ref d), (.ref b)])) rfl (by rw [hml]; rfl) (argsL := [(.ref b), (.ref d)]) (rest := []) (lenOf own_pd7 rfl) rfl (by show 2 * 0 + _ ≤ _; exact Nat.le_of_eq rfl) (hb hby own_d10_44) (fun _ _ => ⟨rfl, e7, (by decide : 0 + 0 ≤ _), (by decide : 0 + 0 ≤ _)⟩)
  dsimp only [Pt.U, Pt.locs, Pt.cells, Pt.slots] at X8 l8 y8 z8 st8 hQ8
  replace X8 := own_cst X8 l8 y8 z8 (k2 := 0) (n2 := 0) rfl rfl
  clear l8 y8 z8
  obtain ⟨rfl, Nq8, eq8⟩ := hQ8
  have NF8 := Fr.app N0 Nq8
  refine own_go st8 ?_
  show own_Go _ _ _ _ (T8.setTop (mkF m 47 #[.val (.ref a1), .val (.ref a2), .val (.ref a2)] [(.int rr)]))
  by_cases hq : rr = (0 : Int32)
  · have _h := hq
    refine own_go (fun _ => XS.ifYes X8.here hx rfl (pc0 := 47) (pc' := 54) rfl (hb hby own_d10_47) rfl ((if0 _ _).trans (teq hq).1) (by decide) (by decide)) ?_
    show own_Go _ _ _ _ (T8.setTop (mkF m 54 #[.val (.ref a1), .val (.ref a2), .val (.ref a2)] []))
    refine own_go (fun _ => XS.iconst X8.here hx rfl (hb hby own_d10_54)) ?_
    show own_Go _ _ _ _ (T8.setTop (mkF m 55 #[.val (.ref a1), .val (.ref a2), .val (.ref a2)] [(.int (0 : Int32))]))
    refine own_ret X8 hlk (v := some (.int (0 : Int32))) (fun h => by rw [Bd.returns] at h; cases h) (fun fs hr => retN X8 hx (t := .boolean) Bd.returns (by simp) (hb hby own_d10_55) hr) ?_ (by decide) (by decide)
    try rw [eq8]
    exact ⟨by rw [hq], NF8, rfl⟩
  · have _h := hq
    refine own_go (fun _ => XS.ifNo X8.here hx rfl (hb hby own_d10_47) rfl ((if0 _ _).trans (feq hq).1)) ?_
    show own_Go _ _ _ _ (T8.setTop (mkF m 50 #[.val (.ref a1), .val (.ref a2), .val (.ref a2)] []))
    refine own_go (fun _ => XS.iconst X8.here hx rfl (hb hby own_d10_50)) ?_
    refine own_go (fun _ => XS.goto X8.here hx rfl (pc0 := 51) (pc' := 55) rfl (hb hby own_d10_51) (by decide) (by decide)) ?_
    show own_Go _ _ _ _ (T8.setTop (mkF m 55 #[.val (.ref a1), .val (.ref a2), .val (.ref a2)] [(.int (1 : Int32))]))
    refine own_ret X8 hlk (v := some (.int (1 : Int32))) (fun h => by rw [Bd.returns] at h; cases h) (fun fs hr => retN X8 hx (t := .boolean) Bd.returns (by simp) (hb hby own_d10_55) hr) ?_ (by decide) (by decide)
    try rw [eq8]
    exact ⟨by rw [hR hq], NF8, rfl⟩
set_option maxRecDepth 65536 in
set_option maxHeartbeats 40000000 in
theorem own_rmeq1 (l : Launch) (Z : State) (a0 : Array Value) (hw : ∀ d ∈ tables_1, d.before a0 Z = true) (a1 : Addr) (a2 : Addr) (cs : Int32) (h0 : Heap) (n0 : Nat) (Z0 : n0 ≤ h0.size) (Fc : Fld Z h0 a1 "java/lang/String" "coder" "B" (.int 1)) (O : Old Z n0 h0) (S_C : Sta Z Z.heap "java/lang/String" "COMPACT_STRINGS" "Z" (.int cs)) (hcs : ¬ cs = (0 : Int32)) (ne12 : ¬ a1 = a2) (E2 : Exa Z h0 a2 "java/lang/String") (Fd : Fld Z h0 a2 "java/lang/String" "coder" "B" (.int 0)) :
    own_Met l Z [] (⟨"java/lang/String", "equals", "(Ljava/lang/Object;)Z"⟩ : MethodName) jdk_42_method_66_code 3 (some .boolean) ({ frames := 1, cells := 0, slots := 0, locals := 14 } : Room) #[(.ref a1), (.ref a2)] h0 (fun v h L => v = some (.int 0) ∧ Fr n0 L ∧ h = h0) := by
  refine MetFree.of_bodySF (plainFor_of_name own_pn1) hisR ?_
  intro p e s m args below meth c s₁ Bd hml0 hP hK
  obtain ⟨rfl, hZ, hh⟩ := hP
  have hx := Bd.exec
  have hby := Bd.bytes
  have hml : c.maxLocals = 3 := hml0
  have hown : s.vm.findClass "java/lang/String" = some m.cls := findClass_of_methodNamed Bd.named
  have hnm := (name_of_methodNamed Bd.named Bd.method).1
  have hlk : meth.locks = false := Bd.notSynchronized
  have X0 : Stand p l e ({ frames := 1, cells := 0, slots := 0, locals := 14 } : Room) s m #[(.ref a1), (.ref a2)] below meth c s₁ [] 0 0 := Stand.of_body Bd
  have e0 : s₁.heap = h0 := by rw [← hh, Bd.state]; rfl
  have N0 := Fr.nil n0
  refine own_body (Q := fun v h L => v = some (.int 0) ∧ Fr n0 L ∧ h = h0) ?_
  refine own_go (fun _ kont => castTop (own_ef m #[(.ref a1), (.ref a2)] 3 #[.val (.ref a1), .val (.ref a2), .unset] (own_al [(.ref a1), (.ref a2)] 3 [.val (.ref a1), .val (.ref a2), .unset] rfl)) kont) ?_
  show own_Go _ _ _ _ (s₁.setTop (mkF m 0 #[.val (.ref a1), .val (.ref a2), .unset] []))
  refine own_go (fun _ => XS.aloadN X0.here hx rfl (hb hby own_d10_0) rfl rfl) ?_
  refine own_go (fun _ => XS.aloadN X0.here hx rfl (hb hby own_d10_1) rfl rfl) ?_
  show own_Go _ _ _ _ (s₁.setTop (mkF m 2 #[.val (.ref a1), .val (.ref a2), .unset] [(.ref a2), (.ref a1)]))
  refine own_go (fun _ => Jvm.RoadKit.acmp (g := (mkF m 2 #[.val (.ref a1), .val (.ref a2), .unset] [(.ref a2), (.ref a1)])) X0 hx rfl rfl rfl (pc0 := 2) (pc' := 7) (same := false) rfl (hb hby own_d10_2) rfl (decide_eq_false fun q => ne12 (Value.ref.inj q)) (by decide) (by decide)) ?_
  show own_Go _ _ _ _ (s₁.setTop (mkF m 7 #[.val (.ref a1), .val (.ref a2), .unset] []))
  refine own_go (fun _ => XS.aloadN X0.here hx rfl (hb hby own_d10_7) rfl rfl) ?_
  obtain ⟨T1, X1, e1, st1⟩ := instY X0 hx hZ hown (hw _ (List.mem_of_getElem? (i := 52) rfl)) e0 (Ins.self E2) (g := (mkF m 8 #[.val (.ref a1), .val (.ref a2), .unset] [(.ref a2)])) rfl rfl (hb hby own_d10_8)
  refine own_go st1 ?_
  show own_Go _ _ _ _ (T1.setTop (mkF m 11 #[.val (.ref a1), .val (.ref a2), .unset] [(.int (1 : Int32))]))
  refine own_go (fun _ => XS.ifNo X1.here hx rfl (hb hby own_d10_11) rfl ((if0 _ _).trans (feq (by decide)).1)) ?_
  show own_Go _ _ _ _ (T1.setTop (mkF m 14 #[.val (.ref a1), .val (.ref a2), .unset] []))
  refine own_go (fun _ => XS.aloadN X1.here hx rfl (hb hby own_d10_14) rfl rfl) ?_
  obtain ⟨T2, X2, e2, st2⟩ := castY X1 hx hZ hown (hw _ (List.mem_of_getElem? (i := 52) rfl)) e1 (Ins.self E2) (g := (mkF m 15 #[.val (.ref a1), .val (.ref a2), .unset] [(.ref a2)])) rfl rfl (hb hby own_d10_15)
  refine own_go st2 ?_
  refine own_go (fun _ => XS.astoreN X2.here hx rfl (hb hby own_d10_18) rfl rfl (l' := #[.val (.ref a1), .val (.ref a2), .val (.ref a2)]) rfl) ?_
  show own_Go _ _ _ _ (T2.setTop (mkF m 19 #[.val (.ref a1), .val (.ref a2), .val (.ref a2)] []))
  obtain ⟨T3, X3, e3, st3⟩ := getS2 X2 hx hZ hown (host := "") (Or.inl (hw _ (List.mem_of_getElem? (i := 15) rfl))) Via.refl e2 (S_C.ext O.2) (g := (mkF m 19 #[.val (.ref a1), .val (.ref a2), .val (.ref a2)] [])) rfl (hb hby own_d10_19)
  refine own_go st3 ?_
  show own_Go _ _ _ _ (T3.setTop (mkF m 22 #[.val (.ref a1), .val (.ref a2), .val (.ref a2)] [(.int cs)]))
  refine own_go (fun _ => XS.ifNo X3.here hx rfl (hb hby own_d10_22) rfl ((if0 _ _).trans (feq hcs).1)) ?_
  show own_Go _ _ _ _ (T3.setTop (mkF m 25 #[.val (.ref a1), .val (.ref a2), .val (.ref a2)] []))
  refine own_go (fun _ => XS.aloadN X3.here hx rfl (hb hby own_d10_25) rfl rfl) ?_
  obtain ⟨T4, X4, e4, st4⟩ := getF X3 hx hZ hown (host := "") (Or.inl (hw _ (List.mem_of_getElem? (i := 27) rfl))) Via.refl e3 Fc (g := (mkF m 26 #[.val (.ref a1), .val (.ref a2), .val (.ref a2)] [(.ref a1)])) rfl rfl (hb hby own_d10_26)
  refine own_go st4 ?_
  refine own_go (fun _ => XS.aloadN X4.here hx rfl (hb hby own_d10_29) rfl rfl) ?_
  obtain ⟨T5, X5, e5, st5⟩ := getF X4 hx hZ hown (host := "") (Or.inl (hw _ (List.mem_of_getElem? (i := 27) rfl))) Via.refl e4 Fd (g := (mkF m 30 #[.val (.ref a1), .val (.ref a2), .val (.ref a2)] [(.ref a2), (.int (1 : Int32))])) rfl rfl (hb hby own_d10_30)
  refine own_go st5 ?_
  show own_Go _ _ _ _ (T5.setTop (mkF m 33 #[.val (.ref a1), .val (.ref a2), .val (.ref a2)] [(.int (0 : Int32)), (.int (1 : Int32))]))
  refine own_go (fun _ => XS.icmpYes X5.here hx rfl (pc0 := 33) (pc' := 54) rfl (hb hby own_d10_33) rfl (feq (by decide)).2 (by decide) (by decide)) ?_
  show own_Go _ _ _ _ (T5.setTop (mkF m 54 #[.val (.ref a1), .val (.ref a2), .val (.ref a2)] []))
  refine own_go (fun _ => XS.iconst X5.here hx rfl (hb hby own_d10_54)) ?_
  show own_Go _ _ _ _ (T5.setTop (mkF m 55 #[.val (.ref a1), .val (.ref a2), .val (.ref a2)] [(.int (0 : Int32))]))
  refine own_ret X5 hlk (v := some (.int (0 : Int32))) (fun h => by rw [Bd.returns] at h; cases h) (fun fs hr => retN X5 hx (t := .boolean) Bd.returns (by simp) (hb hby own_d10_55) hr) ?_ (by decide) (by decide)
  try rw [e5]
  exact ⟨rfl, N0, rfl⟩
theorem own_d29_0 : decode jdk_52_method_4_code 0 = .ok (.getstatic 44, 3) := by decide +kernel
theorem own_d29_3 : decode jdk_52_method_4_code 3 = .ok (.ifCond .ne 25, 3) := by decide +kernel
theorem own_d29_28 : decode jdk_52_method_4_code 28 = .ok (.iload_n 1, 1) := by decide +kernel
theorem own_d29_29 : decode jdk_52_method_4_code 29 = .ok (.iconst 1, 1) := by decide +kernel
theorem own_d29_30 : decode jdk_52_method_4_code 30 = .ok (.ishl, 1) := by decide +kernel
theorem own_d29_31 : decode jdk_52_method_4_code 31 = .ok (.istore_n 1, 1) := by decide +kernel
theorem own_d29_32 : decode jdk_52_method_4_code 32 = .ok (.aload_n 0, 1) := by decide +kernel
theorem own_d29_33 : decode jdk_52_method_4_code 33 = .ok (.iload_n 1, 1) := by decide +kernel
theorem own_d29_34 : decode jdk_52_method_4_code 34 = .ok (.iinc 1 1, 3) := by decide +kernel
theorem own_d29_37 : decode jdk_52_method_4_code 37 = .ok (.iload_n 2, 1) := by decide +kernel
theorem own_d29_38 : decode jdk_52_method_4_code 38 = .ok (.getstatic 59, 3) := by decide +kernel
theorem own_d29_41 : decode jdk_52_method_4_code 41 = .ok (.ishr, 1) := by decide +kernel
theorem own_d29_42 : decode jdk_52_method_4_code 42 = .ok (.i2b, 1) := by decide +kernel
theorem own_d29_43 : decode jdk_52_method_4_code 43 = .ok (.bastore, 1) := by decide +kernel
theorem own_d29_44 : decode jdk_52_method_4_code 44 = .ok (.aload_n 0, 1) := by decide +kernel
theorem own_d29_45 : decode jdk_52_method_4_code 45 = .ok (.iload_n 1, 1) := by decide +kernel
theorem own_d29_46 : decode jdk_52_method_4_code 46 = .ok (.iload_n 2, 1) := by decide +kernel
theorem own_d29_47 : decode jdk_52_method_4_code 47 = .ok (.getstatic 63, 3) := by decide +kernel
theorem own_d29_50 : decode jdk_52_method_4_code 50 = .ok (.ishr, 1) := by decide +kernel
theorem own_d29_51 : decode jdk_52_method_4_code 51 = .ok (.i2b, 1) := by decide +kernel
theorem own_d29_52 : decode jdk_52_method_4_code 52 = .ok (.bastore, 1) := by decide +kernel
theorem own_d29_53 : decode jdk_52_method_4_code 53 = .ok (.return_, 1) := by decide +kernel
set_option maxRecDepth 65536 in
set_option maxHeartbeats 40000000 in
theorem own_rmPC (l : Launch) (Z : State) (a0 : Array Value) (hw : ∀ d ∈ tables_1, d.before a0 Z = true) (a1 : Addr) (kc : ClassId) (ch : Int32) (z : Int32) (i : Int32) (j0 : Int32) (j1 : Int32) (i0 : Nat) (i1 : Nat) (vs : List Value) (h0 : Heap) (n0 : Nat) (Z0 : n0 ≤ h0.size) (Vc : Arv Z h0 a1 kc .byte z vs (.int 0)) (ej0 : (i <<< ((1 : Int32) &&& 31)) = j0) (ej1 : (j0 + (1 : Int32)) = j1) (gj0 : ¬ j0 < 0 ∧ j0 < z) (gj1 : ¬ j1 < 0 ∧ j1 < z) (hj0 : j0.toNatClampNeg = i0) (hj1 : j1.toNatClampNeg = i1) (hl0 : i0 < vs.length) (hl1 : i1 < vs.length) (ge_a1 : n0 ≤ a1) (O : Old Z n0 h0) (S_A : Sta Z Z.heap "java/lang/StringUTF16" "$assertionsDisabled" "Z" (.int 1)) (S_H : Sta Z Z.heap "java/lang/StringUTF16" "HI_BYTE_SHIFT" "I" (.int 0)) (S_L : Sta Z Z.heap "java/lang/StringUTF16" "LO_BYTE_SHIFT" "I" (.int 8)) :
    own_Met l Z [] (⟨"java/lang/StringUTF16", "putChar", "([BII)V"⟩ : MethodName) jdk_52_method_4_code 3 none ({ frames := 0, cells := 0, slots := 0, locals := 0 } : Room) #[(.ref a1), (.int i), (.int ch)] h0 (fun v h L => v = none ∧ Fr n0 L ∧ Keep h0 h [a1] ∧ Old Z n0 h ∧ Arv Z h a1 kc .byte z ((vs.set i0 (.int (nar .byte ((ch >>> ((0 : Int32) &&& 31)).toInt8.toInt32)))).set i1 (.int (nar .byte ((ch >>> ((8 : Int32) &&& 31)).toInt8.toInt32)))) (.int 0)) := by
  refine MetFree.of_bodySF (plainFor_of_name own_pn3) hisR ?_
  intro p e s m args below meth c s₁ Bd hml0 hP hK
  obtain ⟨rfl, hZ, hh⟩ := hP
  have hx := Bd.exec
  have hby := Bd.bytes
  have hml : c.maxLocals = 3 := hml0
  have hown : s.vm.findClass "java/lang/StringUTF16" = some m.cls := findClass_of_methodNamed Bd.named
  have hnm := (name_of_methodNamed Bd.named Bd.method).1
  have hlk : meth.locks = false := Bd.notSynchronized
  have X0 : Stand p l e ({ frames := 0, cells := 0, slots := 0, locals := 0 } : Room) s m #[(.ref a1), (.int i), (.int ch)] below meth c s₁ [] 0 0 := Stand.of_body Bd
  have e0 : s₁.heap = h0 := by rw [← hh, Bd.state]; rfl
  have N0 := Fr.nil n0
  refine own_body (Q := fun v h L => v = none ∧ Fr n0 L ∧ Keep h0 h [a1] ∧ Old Z n0 h ∧ Arv Z h a1 kc .byte z ((vs.set i0 (.int (nar .byte ((ch >>> ((0 : Int32) &&& 31)).toInt8.toInt32)))).set i1 (.int (nar .byte ((ch >>> ((8 : Int32) &&& 31)).toInt8.toInt32)))) (.int 0)) ?_
  refine own_go (fun _ kont => castTop (own_ef m #[(.ref a1), (.int i), (.int ch)] 3 #[.val (.ref a1), .val (.int i), .val (.int ch)] (own_al [(.ref a1), (.int i), (.int ch)] 3 [.val (.ref a1), .val (.int i), .val (.int ch)] rfl)) kont) ?_
  show own_Go _ _ _ _ (s₁.setTop (mkF m 0 #[.val (.ref a1), .val (.int i), .val (.int ch)] []))
  have K0 : Keep h0 h0 [a1] := Keep.refl _ _
  obtain ⟨T1, X1, e1, st1⟩ := getS2 X0 hx hZ hown (host := "") (Or.inl (hw _ (List.mem_of_getElem? (i := 131) rfl))) Via.refl e0 (S_A.ext O.2) (g := (mkF m 0 #[.val (.ref a1), .val (.int i), .val (.int ch)] [])) rfl (hb hby own_d29_0)
  refine own_go st1 ?_
  show own_Go _ _ _ _ (T1.setTop (mkF m 3 #[.val (.ref a1), .val (.int i), .val (.int ch)] [(.int (1 : Int32))]))
  refine own_go (fun _ => XS.ifYes X1.here hx rfl (pc0 := 3) (pc' := 28) rfl (hb hby own_d29_3) rfl ((if0 _ _).trans (feq (by decide)).2) (by decide) (by decide)) ?_
  show own_Go _ _ _ _ (T1.setTop (mkF m 28 #[.val (.ref a1), .val (.int i), .val (.int ch)] []))
  refine own_go (fun _ => XS.iloadN X1.here hx rfl (hb hby own_d29_28) rfl) ?_
  refine own_go (fun _ => XS.iconst X1.here hx rfl (hb hby own_d29_29)) ?_
  refine own_go (fun _ => XS.ishl X1.here hx rfl (hb hby own_d29_30) rfl) ?_
  show own_Go _ _ _ _ (T1.setTop (mkF m 31 #[.val (.ref a1), .val (.int i), .val (.int ch)] [(.int (i <<< ((1 : Int32) &&& 31)))]))
  rw [ej0]
  show own_Go _ _ _ _ (T1.setTop (mkF m 31 #[.val (.ref a1), .val (.int i), .val (.int ch)] [(.int j0)]))
  refine own_go (fun _ => XS.istoreN X1.here hx rfl (hb hby own_d29_31) rfl (l' := #[.val (.ref a1), .val (.int j0), .val (.int ch)]) rfl) ?_
  refine own_go (fun _ => XS.aloadN X1.here hx rfl (hb hby own_d29_32) rfl rfl) ?_
  refine own_go (fun _ => XS.iloadN X1.here hx rfl (hb hby own_d29_33) rfl) ?_
  refine own_go (fun _ => XS.iinc X1.here hx rfl (hb hby own_d29_34) rfl (l' := #[.val (.ref a1), .val (.int (j0 + (1 : Int32))), .val (.int ch)]) rfl) ?_
  show own_Go _ _ _ _ (T1.setTop (mkF m 37 #[.val (.ref a1), .val (.int (j0 + (1 : Int32))), .val (.int ch)] [(.int j0), (.ref a1)]))
  rw [ej1]
  show own_Go _ _ _ _ (T1.setTop (mkF m 37 #[.val (.ref a1), .val (.int j1), .val (.int ch)] [(.int j0), (.ref a1)]))
  refine own_go (fun _ => XS.iloadN X1.here hx rfl (hb hby own_d29_37) rfl) ?_
  show own_Go _ _ _ _ (T1.setTop (mkF m 38 #[.val (.ref a1), .val (.int j1), .val (.int ch)] [(.int ch), (.int j0), (.ref a1)]))
  obtain ⟨T2, X2, e2, st2⟩ := getS2 X1 hx hZ hown (host := "") (Or.inl (hw _ (List.mem_of_getElem? (i := 132) rfl))) Via.refl e1 (S_H.ext O.2) (g := (mkF m 38 #[.val (.ref a1), .val (.int j1), .val (.int ch)] [(.int ch), (.int j0), (.ref a1)])) rfl (hb hby own_d29_38)
  refine own_go st2 ?_
  refine own_go (fun _ => XS.ishr X2.here hx rfl (hb hby own_d29_41) rfl) ?_
  refine own_go (fun _ => XS.i2b X2.here hx rfl (hb hby own_d29_42) rfl) ?_
  show own_Go _ _ _ _ (T2.setTop (mkF m 43 #[.val (.ref a1), .val (.int j1), .val (.int ch)] [(.int ((ch >>> ((0 : Int32) &&& 31)).toInt8.toInt32)), (.int j0), (.ref a1)]))
  obtain ⟨cl3, Ar3, q3, Sz3, Ng3, Hs3, Gs3⟩ := Vc
  have hin3 : ¬ (j0 < 0 ∨ cl3.slots.size ≤ (j0).toNatClampNeg) := inb_of Sz3 gj0
  obtain ⟨T3, h3, X3, e3, W3, st3⟩ := stB X2 hx hZ e2 Ar3 (j := j0) hin3 (g := (mkF m 43 #[.val (.ref a1), .val (.int j1), .val (.int ch)] [(.int ((ch >>> ((0 : Int32) &&& 31)).toInt8.toInt32)), (.int j0), (.ref a1)])) rfl rfl (hb hby own_d29_43)
  refine own_go st3 ?_
  have NF3 := Fr.snoc X3 N0 ge_a1
  replace Vc : Arv Z h3 a1 kc .byte z (vs.set i0 (.int (nar .byte ((ch >>> ((0 : Int32) &&& 31)).toInt8.toInt32)))) (.int 0) := Arv.set Ar3 q3 Sz3 Ng3 Hs3 Gs3 (fits_nar_byte _) W3 i0 hj0 hl0
  replace O := O.wr W3 ge_a1
  replace Z0 := Nat.le_trans Z0 (Keep.of_wr W3).1
  replace K0 := K0.wr W3 (Or.inl (List.mem_of_getElem? (i := 0) rfl))
  show own_Go _ _ _ _ (T3.setTop (mkF m 44 #[.val (.ref a1), .val (.int j1), .val (.int ch)] []))
  refine own_go (fun _ => XS.aloadN X3.here hx rfl (hb hby own_d29_44) rfl rfl) ?_
  refine own_go (fun _ => XS.iloadN X3.here hx rfl (hb hby own_d29_45) rfl) ?_
  refine own_go (fun _ => XS.iloadN X3.here hx rfl (hb hby own_d29_46) rfl) ?_
  show own_Go _ _ _ _ (T3.setTop (mkF m 47 #[.val (.ref a1), .val (.int j1), .val (.int ch)] [(.int ch), (.int j1), (.ref a1)]))
  obtain ⟨T4, X4, e4, st4⟩ := getS2 X3 hx hZ hown (host := "") (Or.inl (hw _ (List.mem_of_getElem? (i := 133) rfl))) Via.refl e3 (S_L.ext O.2) (g := (mkF m 47 #[.val (.ref a1), .val (.int j1), .val (.int ch)] [(.int ch), (.int j1), (.ref a1)])) rfl (hb hby own_d29_47)
  refine own_go st4 ?_
  refine own_go (fun _ => XS.ishr X4.here hx rfl (hb hby own_d29_50) rfl) ?_
  refine own_go (fun _ => XS.i2b X4.here hx rfl (hb hby own_d29_51) rfl) ?_
  show own_Go _ _ _ _ (T4.setTop (mkF m 52 #[.val (.ref a1), .val (.int j1), .val (.int ch)] [(.int ((ch >>> ((8 : Int32) &&& 31)).toInt8.toInt32)), (.int j1), (.ref a1)]))
  obtain ⟨cl5, Ar5, q5, Sz5, Ng5, Hs5, Gs5⟩ := Vc
  have hin5 : ¬ (j1 < 0 ∨ cl5.slots.size ≤ (j1).toNatClampNeg) := inb_of Sz5 gj1
  obtain ⟨T5, h5, X5, e5, W5, st5⟩ := stB X4 hx hZ e4 Ar5 (j := j1) hin5 (g := (mkF m 52 #[.val (.ref a1), .val (.int j1), .val (.int ch)] [(.int ((ch >>> ((8 : Int32) &&& 31)).toInt8.toInt32)), (.int j1), (.ref a1)])) rfl rfl (hb hby own_d29_52)
  refine own_go st5 ?_
  have NF5 := Fr.snoc X5 NF3 ge_a1
  replace Vc : Arv Z h5 a1 kc .byte z ((vs.set i0 (.int (nar .byte ((ch >>> ((0 : Int32) &&& 31)).toInt8.toInt32)))).set i1 (.int (nar .byte ((ch >>> ((8 : Int32) &&& 31)).toInt8.toInt32)))) (.int 0) := Arv.set Ar5 q5 Sz5 Ng5 Hs5 Gs5 (fits_nar_byte _) W5 i1 hj1 (by rw [List.length_set]; exact hl1)
  replace O := O.wr W5 ge_a1
  replace Z0 := Nat.le_trans Z0 (Keep.of_wr W5).1
  replace K0 := K0.wr W5 (Or.inl (List.mem_of_getElem? (i := 0) rfl))
  show own_Go _ _ _ _ (T5.setTop (mkF m 53 #[.val (.ref a1), .val (.int j1), .val (.int ch)] []))
  refine own_ret X5 hlk (v := none) (fun _ => rfl) (fun fs hr => X5.returnOut hx Bd.returns (hb hby own_d29_53) hr) ?_ (by decide) (by decide)
  try rw [e5]
  exact ⟨rfl, NF5, K0, O, Vc⟩
theorem own_d28_0 : decode jdk_52_method_3_code 0 = .ok (.iload_n 0, 1) := by decide +kernel
theorem own_d28_1 : decode jdk_52_method_3_code 1 = .ok (.ifCond .ge 11, 3) := by decide +kernel
theorem own_d28_12 : decode jdk_52_method_3_code 12 = .ok (.iload_n 0, 1) := by decide +kernel
theorem own_d28_13 : decode jdk_52_method_3_code 13 = .ok (.ldc 20, 2) := by decide +kernel
theorem own_d28_15 : decode jdk_52_method_3_code 15 = .ok (.if_icmp .lt 40, 3) := by decide +kernel
theorem own_d28_55 : decode jdk_52_method_3_code 55 = .ok (.iload_n 0, 1) := by decide +kernel
theorem own_d28_56 : decode jdk_52_method_3_code 56 = .ok (.iconst 1, 1) := by decide +kernel
theorem own_d28_57 : decode jdk_52_method_3_code 57 = .ok (.ishl, 1) := by decide +kernel
theorem own_d28_58 : decode jdk_52_method_3_code 58 = .ok (.ireturn, 1) := by decide +kernel
set_option maxRecDepth 65536 in
set_option maxHeartbeats 40000000 in
theorem own_rmBL (l : Launch) (Z : State) (a0 : Array Value) (hw : ∀ d ∈ tables_1, d.before a0 Z = true) (n : Int32) (zz : Int32) (h0 : Heap) (n0 : Nat) (Z0 : n0 ≤ h0.size) (bn1 : ¬ n < (0 : Int32)) (bn2 : n < (1073741823 : Int32)) (bn3 : (n <<< ((1 : Int32) &&& 31)) = zz) :
    own_Met l Z [] (⟨"java/lang/StringUTF16", "newBytesLength", "(I)I"⟩ : MethodName) jdk_52_method_3_code 1 (some .int) ({ frames := 0, cells := 0, slots := 0, locals := 0 } : Room) #[(.int n)] h0 (fun v h L => v = some (.int zz) ∧ Fr n0 L ∧ h = h0) := by
  refine MetFree.of_bodySF (plainFor_of_name own_pn3) hisR ?_
  intro p e s m args below meth c s₁ Bd hml0 hP hK
  obtain ⟨rfl, hZ, hh⟩ := hP
  have hx := Bd.exec
  have hby := Bd.bytes
  have hml : c.maxLocals = 1 := hml0
  have hown : s.vm.findClass "java/lang/StringUTF16" = some m.cls := findClass_of_methodNamed Bd.named
  have hnm := (name_of_methodNamed Bd.named Bd.method).1
  have hlk : meth.locks = false := Bd.notSynchronized
  have X0 : Stand p l e ({ frames := 0, cells := 0, slots := 0, locals := 0 } : Room) s m #[(.int n)] below meth c s₁ [] 0 0 := Stand.of_body Bd
  have e0 : s₁.heap = h0 := by rw [← hh, Bd.state]; rfl
  have N0 := Fr.nil n0
  refine own_body (Q := fun v h L => v = some (.int zz) ∧ Fr n0 L ∧ h = h0) ?_
  refine own_go (fun _ kont => castTop (own_ef m #[(.int n)] 1 #[.val (.int n)] (own_al [(.int n)] 1 [.val (.int n)] rfl)) kont) ?_
  show own_Go _ _ _ _ (s₁.setTop (mkF m 0 #[.val (.int n)] []))
  refine own_go (fun _ => XS.iloadN X0.here hx rfl (hb hby own_d28_0) rfl) ?_
  show own_Go _ _ _ _ (s₁.setTop (mkF m 1 #[.val (.int n)] [(.int n)]))
  refine own_go (fun _ => XS.ifYes X0.here hx rfl (pc0 := 1) (pc' := 12) rfl (hb hby own_d28_1) rfl ((if0 _ _).trans (flt bn1).2.1) (by decide) (by decide)) ?_
  show own_Go _ _ _ _ (s₁.setTop (mkF m 12 #[.val (.int n)] []))
  refine own_go (fun _ => XS.iloadN X0.here hx rfl (hb hby own_d28_12) rfl) ?_
  refine own_go (X0.ldcInt hx hown (mvT hZ (hw _ (List.mem_of_getElem? (i := 127) rfl))) (g := (mkF m 13 #[.val (.int n)] [(.int n)])) rfl (hb hby own_d28_13)) ?_
  show own_Go _ _ _ _ (s₁.setTop (mkF m 15 #[.val (.int n)] [(.int (1073741823 : Int32)), (.int n)]))
  refine own_go (fun _ => XS.icmpYes X0.here hx rfl (pc0 := 15) (pc' := 55) rfl (hb hby own_d28_15) rfl (tlt bn2).1 (by decide) (by decide)) ?_
  show own_Go _ _ _ _ (s₁.setTop (mkF m 55 #[.val (.int n)] []))
  refine own_go (fun _ => XS.iloadN X0.here hx rfl (hb hby own_d28_55) rfl) ?_
  refine own_go (fun _ => XS.iconst X0.here hx rfl (hb hby own_d28_56)) ?_
  refine own_go (fun _ => XS.ishl X0.here hx rfl (hb hby own_d28_57) rfl) ?_
  show own_Go _ _ _ _ (s₁.setTop (mkF m 58 #[.val (.int n)] [(.int (n <<< ((1 : Int32) &&& 31)))]))
  refine own_ret X0 hlk (v := some (.int (n <<< ((1 : Int32) &&& 31)))) (fun h => by rw [Bd.returns] at h; cases h) (fun fs hr => retOut X0 hx Bd.returns rfl (Or.inl ⟨rfl, Or.inl rfl, _, rfl⟩) (hb hby own_d28_58) hr) ?_ (by decide) (by decide)
  try rw [e0]
  exact ⟨by rw [bn3], N0, rfl⟩
theorem own_d6_0 : decode jdk_52_method_15_code 0 = .ok (.iload_n 1, 1) := by decide +kernel
theorem own_d6_1 : decode jdk_52_method_15_code 1 = .ok (.aload_n 0, 1) := by decide +kernel
theorem own_d6_2 : decode jdk_52_method_15_code 2 = .ok (.arraylength, 1) := by decide +kernel
theorem own_d6_3 : decode jdk_52_method_15_code 3 = .ok (.isub, 1) := by decide +kernel
theorem own_d6_4 : decode jdk_52_method_15_code 4 = .ok (.bipush 31, 2) := by decide +kernel
theorem own_d6_6 : decode jdk_52_method_15_code 6 = .ok (.iushr, 1) := by decide +kernel
theorem own_d6_7 : decode jdk_52_method_15_code 7 = .ok (.i2b, 1) := by decide +kernel
theorem own_d6_8 : decode jdk_52_method_15_code 8 = .ok (.ireturn, 1) := by decide +kernel
set_option maxRecDepth 65536 in
set_option maxHeartbeats 40000000 in
theorem own_rmA (l : Launch) (Z : State) (a0 : Array Value) (hw : ∀ d ∈ tables_1, d.before a0 Z = true) (b : Addr) (k : ClassId) (n : Int32) (z : Int32) (u : Int32) (vs : List Value) (h0 : Heap) (n0 : Nat) (Z0 : n0 ≤ h0.size) (V : Arv Z h0 b k .byte z vs (.int 0)) (hu : nar .byte ((((n - z).toUInt32 >>> ((31 : Int32) &&& 31).toUInt32).toInt32).toInt8.toInt32) = u) :
    own_Met l Z [] (⟨"java/lang/StringUTF16", "coderFromArrayLen", "([BI)B"⟩ : MethodName) jdk_52_method_15_code 2 (some .byte) ({ frames := 0, cells := 0, slots := 0, locals := 0 } : Room) #[(.ref b), (.int n)] h0 (fun v h L => v = some (.int u) ∧ Fr n0 L ∧ h = h0) := by
  refine MetFree.of_bodySF (plainFor_of_name own_pn3) hisR ?_
  intro p e s m args below meth c s₁ Bd hml0 hP hK
  obtain ⟨rfl, hZ, hh⟩ := hP
  have hx := Bd.exec
  have hby := Bd.bytes
  have hml : c.maxLocals = 2 := hml0
  have hown : s.vm.findClass "java/lang/StringUTF16" = some m.cls := findClass_of_methodNamed Bd.named
  have hnm := (name_of_methodNamed Bd.named Bd.method).1
  have hlk : meth.locks = false := Bd.notSynchronized
  have X0 : Stand p l e ({ frames := 0, cells := 0, slots := 0, locals := 0 } : Room) s m #[(.ref b), (.int n)] below meth c s₁ [] 0 0 := Stand.of_body Bd
  have e0 : s₁.heap = h0 := by rw [← hh, Bd.state]; rfl
  have N0 := Fr.nil n0
  refine own_body (Q := fun v h L => v = some (.int u) ∧ Fr n0 L ∧ h = h0) ?_
  refine own_go (fun _ kont => castTop (own_ef m #[(.ref b), (.int n)] 2 #[.val (.ref b), .val (.int n)] (own_al [(.ref b), (.int n)] 2 [.val (.ref b), .val (.int n)] rfl)) kont) ?_
  show own_Go _ _ _ _ (s₁.setTop (mkF m 0 #[.val (.ref b), .val (.int n)] []))
  refine own_go (fun _ => XS.iloadN X0.here hx rfl (hb hby own_d6_0) rfl) ?_
  refine own_go (fun _ => XS.aloadN X0.here hx rfl (hb hby own_d6_1) rfl rfl) ?_
  obtain ⟨cl1, Ar1, -, Sz1, Ng1, -, -⟩ := id V
  refine own_go (X0.arraylength hx (own_hp e0 Ar1.1) (State.isArrayOf_alike hZ.alike Ar1.2.1) (g := (mkF m 2 #[.val (.ref b), .val (.int n)] [(.ref b), (.int n)])) rfl rfl (hb hby own_d6_2)) ?_
  rw [len_of Sz1 Ng1]
  refine own_go (fun _ => XS.isub X0.here hx rfl (hb hby own_d6_3) rfl) ?_
  refine own_go (fun _ => XS.bipush X0.here hx rfl (hb hby own_d6_4)) ?_
  show own_Go _ _ _ _ (s₁.setTop (mkF m 6 #[.val (.ref b), .val (.int n)] [(.int (31 : Int32)), (.int (n - z))]))
  refine own_go (fun _ => XS.iushr X0.here hx rfl (hb hby own_d6_6) rfl) ?_
  refine own_go (fun _ => XS.i2b X0.here hx rfl (hb hby own_d6_7) rfl) ?_
  show own_Go _ _ _ _ (s₁.setTop (mkF m 8 #[.val (.ref b), .val (.int n)] [(.int ((((n - z).toUInt32 >>> ((31 : Int32) &&& 31).toUInt32).toInt32).toInt8.toInt32))]))
  refine own_ret X0 hlk (v := some (.int (nar .byte ((((n - z).toUInt32 >>> ((31 : Int32) &&& 31).toUInt32).toInt32).toInt8.toInt32)))) (fun h => by rw [Bd.returns] at h; cases h) (fun fs hr => retN X0 hx (t := .byte) Bd.returns (by simp) (hb hby own_d6_8) hr) ?_ (by decide) (by decide)
  try rw [e0]
  exact ⟨by rw [hu], N0, rfl⟩
theorem own_d5_0 : decode jdk_52_method_21_code 0 = .ok (.iconst 0, 1) := by decide +kernel
theorem own_d5_1 : decode jdk_52_method_21_code 1 = .ok (.istore 5, 2) := by decide +kernel
theorem own_d5_3 : decode jdk_52_method_21_code 3 = .ok (.iload 5, 2) := by decide +kernel
theorem own_d5_5 : decode jdk_52_method_21_code 5 = .ok (.iload 4, 2) := by decide +kernel
theorem own_d5_7 : decode jdk_52_method_21_code 7 = .ok (.if_icmp .ge 37, 3) := by decide +kernel
theorem own_d5_10 : decode jdk_52_method_21_code 10 = .ok (.aload_n 0, 1) := by decide +kernel
theorem own_d5_11 : decode jdk_52_method_21_code 11 = .ok (.iload_n 1, 1) := by decide +kernel
theorem own_d5_12 : decode jdk_52_method_21_code 12 = .ok (.caload, 1) := by decide +kernel
theorem own_d5_13 : decode jdk_52_method_21_code 13 = .ok (.istore 6, 2) := by decide +kernel
theorem own_d5_15 : decode jdk_52_method_21_code 15 = .ok (.iload 6, 2) := by decide +kernel
theorem own_d5_17 : decode jdk_52_method_21_code 17 = .ok (.sipush 255, 3) := by decide +kernel
theorem own_d5_20 : decode jdk_52_method_21_code 20 = .ok (.if_icmp .le 6, 3) := by decide +kernel
theorem own_d5_23 : decode jdk_52_method_21_code 23 = .ok (.iload 5, 2) := by decide +kernel
theorem own_d5_25 : decode jdk_52_method_21_code 25 = .ok (.ireturn, 1) := by decide +kernel
theorem own_d5_26 : decode jdk_52_method_21_code 26 = .ok (.aload_n 2, 1) := by decide +kernel
theorem own_d5_27 : decode jdk_52_method_21_code 27 = .ok (.iload_n 3, 1) := by decide +kernel
theorem own_d5_28 : decode jdk_52_method_21_code 28 = .ok (.iload 6, 2) := by decide +kernel
theorem own_d5_30 : decode jdk_52_method_21_code 30 = .ok (.i2b, 1) := by decide +kernel
theorem own_d5_31 : decode jdk_52_method_21_code 31 = .ok (.bastore, 1) := by decide +kernel
theorem own_d5_32 : decode jdk_52_method_21_code 32 = .ok (.iinc 1 1, 3) := by decide +kernel
theorem own_d5_35 : decode jdk_52_method_21_code 35 = .ok (.iinc 3 1, 3) := by decide +kernel
theorem own_d5_38 : decode jdk_52_method_21_code 38 = .ok (.iinc 5 1, 3) := by decide +kernel
theorem own_d5_41 : decode jdk_52_method_21_code 41 = .ok (.goto (-38), 3) := by decide +kernel
theorem own_d5_44 : decode jdk_52_method_21_code 44 = .ok (.iload 4, 2) := by decide +kernel
theorem own_d5_46 : decode jdk_52_method_21_code 46 = .ok (.ireturn, 1) := by decide +kernel
set_option maxRecDepth 65536 in
set_option maxHeartbeats 40000000 in
theorem own_rmK1 (l : Launch) (Z : State) (a0 : Array Value) (hw : ∀ d ∈ tables_1, d.before a0 Z = true) (a1 : Addr) (a2 : Addr) (kc : ClassId) (kd : ClassId) (x0 : Int32) (h0 : Heap) (n0 : Nat) (Z0 : n0 ≤ h0.size) (Vc : Arv Z h0 a1 kc .char 1 [(.int x0)] (.int 0)) (Vd : Arv Z h0 a2 kd .byte 1 [(.int 0)] (.int 0)) (ge_a2 : n0 ≤ a2) (ne12 : a1 ≠ a2) (O : Old Z n0 h0) :
    own_Met l Z [] (⟨"java/lang/StringUTF16", "compress", "([CI[BII)I"⟩ : MethodName) jdk_52_method_21_code 7 (some .int) ({ frames := 0, cells := 0, slots := 0, locals := 0 } : Room) #[(.ref a1), (.int (0 : Int32)), (.ref a2), (.int (0 : Int32)), (.int (1 : Int32))] h0 (fun v h L => ∃ r : Int32, v = some (.int r) ∧ Fr n0 L ∧ Keep h0 h [a2] ∧ Old Z n0 h ∧ (((255 : Int32) < x0 ∧ r = 0) ∨ ((¬ (255 : Int32) < x0) ∧ r = 1 ∧ Arv Z h a2 kd .byte 1 [(.int (nar .byte (x0.toInt8.toInt32)))] (.int 0)))) := by
  refine MetFree.of_bodySF (plainFor_of_name own_pn3) hisR ?_
  intro p e s m args below meth c s₁ Bd hml0 hP hK
  obtain ⟨rfl, hZ, hh⟩ := hP
  have hx := Bd.exec
  have hby := Bd.bytes
  have hml : c.maxLocals = 7 := hml0
  have hown : s.vm.findClass "java/lang/StringUTF16" = some m.cls := findClass_of_methodNamed Bd.named
  have hnm := (name_of_methodNamed Bd.named Bd.method).1
  have hlk : meth.locks = false := Bd.notSynchronized
  have X0 : Stand p l e ({ frames := 0, cells := 0, slots := 0, locals := 0 } : Room) s m #[(.ref a1), (.int (0 : Int32)), (.ref a2), (.int (0 : Int32)), (.int (1 : Int32))] below meth c s₁ [] 0 0 := Stand.of_body Bd
  have e0 : s₁.heap = h0 := by rw [← hh, Bd.state]; rfl
  have N0 := Fr.nil n0
  refine own_body (Q := fun v h L => ∃ r : Int32, v = some (.int r) ∧ Fr n0 L ∧ Keep h0 h [a2] ∧ Old Z n0 h ∧ (((255 : Int32) < x0 ∧ r = 0) ∨ ((¬ (255 : Int32) < x0) ∧ r = 1 ∧ Arv Z h a2 kd .byte 1 [(.int (nar .byte (x0.toInt8.toInt32)))] (.int 0)))) ?_
  refine own_go (fun _ kont => castTop (own_ef m #[(.ref a1), (.int (0 : Int32)), (.ref a2), (.int (0 : Int32)), (.int (1 : Int32))] 7 #[.val (.ref a1), .val (.int (0 : Int32)), .val (.ref a2), .val (.int (0 : Int32)), .val (.int (1 : Int32)), .unset, .unset] (own_al [(.ref a1), (.int (0 : Int32)), (.ref a2), (.int (0 : Int32)), (.int (1 : Int32))] 7 [.val (.ref a1), .val (.int (0 : Int32)), .val (.ref a2), .val (.int (0 : Int32)), .val (.int (1 : Int32)), .unset, .unset] rfl)) kont) ?_
  show own_Go _ _ _ _ (s₁.setTop (mkF m 0 #[.val (.ref a1), .val (.int (0 : Int32)), .val (.ref a2), .val (.int (0 : Int32)), .val (.int (1 : Int32)), .unset, .unset] []))
  have K0 : Keep h0 h0 [a2] := Keep.refl _ _
  refine own_go (fun _ => XS.iconst X0.here hx rfl (hb hby own_d5_0)) ?_
  refine own_go (fun _ => XS.istore X0.here hx rfl (hb hby own_d5_1) rfl (l' := #[.val (.ref a1), .val (.int (0 : Int32)), .val (.ref a2), .val (.int (0 : Int32)), .val (.int (1 : Int32)), .val (.int (0 : Int32)), .unset]) rfl) ?_
  refine own_go (fun _ => XS.iload X0.here hx rfl (hb hby own_d5_3) rfl) ?_
  refine own_go (fun _ => XS.iload X0.here hx rfl (hb hby own_d5_5) rfl) ?_
  show own_Go _ _ _ _ (s₁.setTop (mkF m 7 #[.val (.ref a1), .val (.int (0 : Int32)), .val (.ref a2), .val (.int (0 : Int32)), .val (.int (1 : Int32)), .val (.int (0 : Int32)), .unset] [(.int (1 : Int32)), (.int (0 : Int32))]))
  refine own_go (fun _ => XS.icmpNo X0.here hx rfl (hb hby own_d5_7) rfl (tlt (by decide)).2.1) ?_
  show own_Go _ _ _ _ (s₁.setTop (mkF m 10 #[.val (.ref a1), .val (.int (0 : Int32)), .val (.ref a2), .val (.int (0 : Int32)), .val (.int (1 : Int32)), .val (.int (0 : Int32)), .unset] []))
  refine own_go (fun _ => XS.aloadN X0.here hx rfl (hb hby own_d5_10) rfl rfl) ?_
  refine own_go (fun _ => XS.iloadN X0.here hx rfl (hb hby own_d5_11) rfl) ?_
  obtain ⟨cl1, Ar1, q1, Sz1, Ng1, Hs1, Gs1⟩ := id Vc
  have hin1 : ¬ ((0 : Int32) < 0 ∨ cl1.slots.size ≤ ((0 : Int32)).toNatClampNeg) := inb_of Sz1 ⟨by decide, by decide⟩
  have hat1 : cl1.slots[((0 : Int32)).toNatClampNeg]? = some (.int x0) := Hs1.at hin1 rfl
  refine own_go (X0.caload hx (j := (0 : Int32)) (v := (.int x0)) (own_hp e0 Ar1.1) (State.isArrayOf_alike hZ.alike Ar1.2.1) Ar1.2.2 hin1 hat1 (g := (mkF m 12 #[.val (.ref a1), .val (.int (0 : Int32)), .val (.ref a2), .val (.int (0 : Int32)), .val (.int (1 : Int32)), .val (.int (0 : Int32)), .unset] [(.int (0 : Int32)), (.ref a1)])) rfl rfl (hb hby own_d5_12)) ?_
  refine own_go (fun _ => XS.istore X0.here hx rfl (hb hby own_d5_13) rfl (l' := #[.val (.ref a1), .val (.int (0 : Int32)), .val (.ref a2), .val (.int (0 : Int32)), .val (.int (1 : Int32)), .val (.int (0 : Int32)), .val (.int x0)]) rfl) ?_
  refine own_go (fun _ => XS.iload X0.here hx rfl (hb hby own_d5_15) rfl) ?_
  show own_Go _ _ _ _ (s₁.setTop (mkF m 17 #[.val (.ref a1), .val (.int (0 : Int32)), .val (.ref a2), .val (.int (0 : Int32)), .val (.int (1 : Int32)), .val (.int (0 : Int32)), .val (.int x0)] [(.int x0)]))
  refine own_go (fun _ => XS.sipush X0.here hx rfl (hb hby own_d5_17)) ?_
  show own_Go _ _ _ _ (s₁.setTop (mkF m 20 #[.val (.ref a1), .val (.int (0 : Int32)), .val (.ref a2), .val (.int (0 : Int32)), .val (.int (1 : Int32)), .val (.int (0 : Int32)), .val (.int x0)] [(.int (255 : Int32)), (.int x0)]))
  by_cases hx0 : (255 : Int32) < x0
  · have _h := hx0
    refine own_go (fun _ => XS.icmpNo X0.here hx rfl (hb hby own_d5_20) rfl (tlt hx0).2.2.2) ?_
    show own_Go _ _ _ _ (s₁.setTop (mkF m 23 #[.val (.ref a1), .val (.int (0 : Int32)), .val (.ref a2), .val (.int (0 : Int32)), .val (.int (1 : Int32)), .val (.int (0 : Int32)), .val (.int x0)] []))
    refine own_go (fun _ => XS.iload X0.here hx rfl (hb hby own_d5_23) rfl) ?_
    show own_Go _ _ _ _ (s₁.setTop (mkF m 25 #[.val (.ref a1), .val (.int (0 : Int32)), .val (.ref a2), .val (.int (0 : Int32)), .val (.int (1 : Int32)), .val (.int (0 : Int32)), .val (.int x0)] [(.int (0 : Int32))]))
    refine own_ret X0 hlk (v := some (.int (0 : Int32))) (fun h => by rw [Bd.returns] at h; cases h) (fun fs hr => retOut X0 hx Bd.returns rfl (Or.inl ⟨rfl, Or.inl rfl, _, rfl⟩) (hb hby own_d5_25) hr) ?_ (by decide) (by decide)
    try rw [e0]
    exact ⟨_, rfl, N0, K0, O, Or.inl ⟨hx0, rfl⟩⟩
  · have _h := hx0
    refine own_go (fun _ => XS.icmpYes X0.here hx rfl (pc0 := 20) (pc' := 26) rfl (hb hby own_d5_20) rfl (flt hx0).2.2.2 (by decide) (by decide)) ?_
    show own_Go _ _ _ _ (s₁.setTop (mkF m 26 #[.val (.ref a1), .val (.int (0 : Int32)), .val (.ref a2), .val (.int (0 : Int32)), .val (.int (1 : Int32)), .val (.int (0 : Int32)), .val (.int x0)] []))
    refine own_go (fun _ => XS.aloadN X0.here hx rfl (hb hby own_d5_26) rfl rfl) ?_
    refine own_go (fun _ => XS.iloadN X0.here hx rfl (hb hby own_d5_27) rfl) ?_
    refine own_go (fun _ => XS.iload X0.here hx rfl (hb hby own_d5_28) rfl) ?_
    refine own_go (fun _ => XS.i2b X0.here hx rfl (hb hby own_d5_30) rfl) ?_
    obtain ⟨cl2, Ar2, q2, Sz2, Ng2, Hs2, Gs2⟩ := Vd
    have hin2 : ¬ ((0 : Int32) < 0 ∨ cl2.slots.size ≤ ((0 : Int32)).toNatClampNeg) := inb_of Sz2 ⟨by decide, by decide⟩
    obtain ⟨T2, h2, X2, e2, W2, st2⟩ := stB X0 hx hZ e0 Ar2 (j := (0 : Int32)) hin2 (g := (mkF m 31 #[.val (.ref a1), .val (.int (0 : Int32)), .val (.ref a2), .val (.int (0 : Int32)), .val (.int (1 : Int32)), .val (.int (0 : Int32)), .val (.int x0)] [(.int (x0.toInt8.toInt32)), (.int (0 : Int32)), (.ref a2)])) rfl rfl (hb hby own_d5_31)
    refine own_go st2 ?_
    have NF2 := Fr.snoc X2 N0 ge_a2
    replace Vd : Arv Z h2 a2 kd .byte (1 : Int32) [(.int (nar .byte (x0.toInt8.toInt32)))] (.int (0 : Int32)) := Arv.set Ar2 q2 Sz2 Ng2 Hs2 Gs2 (fits_nar_byte _) W2 0 rfl (Nat.le_of_ble_eq_true rfl)
    replace Vc := Vc.other W2 ne12
    replace O := O.wr W2 ge_a2
    replace Z0 := Nat.le_trans Z0 (Keep.of_wr W2).1
    replace K0 := K0.wr W2 (Or.inl (List.mem_of_getElem? (i := 0) rfl))
    show own_Go _ _ _ _ (T2.setTop (mkF m 32 #[.val (.ref a1), .val (.int (0 : Int32)), .val (.ref a2), .val (.int (0 : Int32)), .val (.int (1 : Int32)), .val (.int (0 : Int32)), .val (.int x0)] []))
    refine own_go (fun _ => XS.iinc X2.here hx rfl (hb hby own_d5_32) rfl (l' := #[.val (.ref a1), .val (.int (1 : Int32)), .val (.ref a2), .val (.int (0 : Int32)), .val (.int (1 : Int32)), .val (.int (0 : Int32)), .val (.int x0)]) rfl) ?_
    refine own_go (fun _ => XS.iinc X2.here hx rfl (hb hby own_d5_35) rfl (l' := #[.val (.ref a1), .val (.int (1 : Int32)), .val (.ref a2), .val (.int (1 : Int32)), .val (.int (1 : Int32)), .val (.int (0 : Int32)), .val (.int x0)]) rfl) ?_
    refine own_go (fun _ => XS.iinc X2.here hx rfl (hb hby own_d5_38) rfl (l' := #[.val (.ref a1), .val (.int (1 : Int32)), .val (.ref a2), .val (.int (1 : Int32)), .val (.int (1 : Int32)), .val (.int (1 : Int32)), .val (.int x0)]) rfl) ?_
    refine own_go (fun _ => XS.goto X2.here hx rfl (pc0 := 41) (pc' := 3) rfl (hb hby own_d5_41) (by decide) (by decide)) ?_
    refine own_go (fun _ => XS.iload X2.here hx rfl (hb hby own_d5_3) rfl) ?_
    show own_Go _ _ _ _ (T2.setTop (mkF m 5 #[.val (.ref a1), .val (.int (1 : Int32)), .val (.ref a2), .val (.int (1 : Int32)), .val (.int (1 : Int32)), .val (.int (1 : Int32)), .val (.int x0)] [(.int (1 : Int32))]))
    refine own_go (fun _ => XS.iload X2.here hx rfl (hb hby own_d5_5) rfl) ?_
    show own_Go _ _ _ _ (T2.setTop (mkF m 7 #[.val (.ref a1), .val (.int (1 : Int32)), .val (.ref a2), .val (.int (1 : Int32)), .val (.int (1 : Int32)), .val (.int (1 : Int32)), .val (.int x0)] [(.int (1 : Int32)), (.int (1 : Int32))]))
    refine own_go (fun _ => XS.icmpYes X2.here hx rfl (pc0 := 7) (pc' := 44) rfl (hb hby own_d5_7) rfl (flt (by decide)).2.1 (by decide) (by decide)) ?_
    show own_Go _ _ _ _ (T2.setTop (mkF m 44 #[.val (.ref a1), .val (.int (1 : Int32)), .val (.ref a2), .val (.int (1 : Int32)), .val (.int (1 : Int32)), .val (.int (1 : Int32)), .val (.int x0)] []))
    refine own_go (fun _ => XS.iload X2.here hx rfl (hb hby own_d5_44) rfl) ?_
    show own_Go _ _ _ _ (T2.setTop (mkF m 46 #[.val (.ref a1), .val (.int (1 : Int32)), .val (.ref a2), .val (.int (1 : Int32)), .val (.int (1 : Int32)), .val (.int (1 : Int32)), .val (.int x0)] [(.int (1 : Int32))]))
    refine own_ret X2 hlk (v := some (.int (1 : Int32))) (fun h => by rw [Bd.returns] at h; cases h) (fun fs hr => retOut X2 hx Bd.returns rfl (Or.inl ⟨rfl, Or.inl rfl, _, rfl⟩) (hb hby own_d5_46) hr) ?_ (by decide) (by decide)
    try rw [e2]
    exact ⟨_, rfl, NF2, K0, O, Or.inr (⟨hx0, rfl, Vd⟩)⟩
theorem own_d4_0 : decode jdk_52_method_16_code 0 = .ok (.iload_n 2, 1) := by decide +kernel
theorem own_d4_1 : decode jdk_52_method_16_code 1 = .ok (.newarray .byte, 2) := by decide +kernel
theorem own_d4_3 : decode jdk_52_method_16_code 3 = .ok (.astore_n 3, 1) := by decide +kernel
theorem own_d4_4 : decode jdk_52_method_16_code 4 = .ok (.aload_n 0, 1) := by decide +kernel
theorem own_d4_5 : decode jdk_52_method_16_code 5 = .ok (.iload_n 1, 1) := by decide +kernel
theorem own_d4_6 : decode jdk_52_method_16_code 6 = .ok (.aload_n 3, 1) := by decide +kernel
theorem own_d4_7 : decode jdk_52_method_16_code 7 = .ok (.iconst 0, 1) := by decide +kernel
theorem own_d4_8 : decode jdk_52_method_16_code 8 = .ok (.iload_n 2, 1) := by decide +kernel
theorem own_d4_9 : decode jdk_52_method_16_code 9 = .ok (.invokestatic 115, 3) := by decide +kernel
theorem own_pd8 : parseMethodDescriptor "([CI[BII)I" = some ⟨[(.array .char), .int, (.array .byte), .int, .int], some .int⟩ := by decide +kernel
theorem own_d4_12 : decode jdk_52_method_16_code 12 = .ok (.istore 4, 2) := by decide +kernel
theorem own_d4_14 : decode jdk_52_method_16_code 14 = .ok (.iload 4, 2) := by decide +kernel
theorem own_d4_16 : decode jdk_52_method_16_code 16 = .ok (.iload_n 2, 1) := by decide +kernel
theorem own_d4_17 : decode jdk_52_method_16_code 17 = .ok (.if_icmp .eq 40, 3) := by decide +kernel
theorem own_d4_57 : decode jdk_52_method_16_code 57 = .ok (.aload_n 3, 1) := by decide +kernel
theorem own_d4_58 : decode jdk_52_method_16_code 58 = .ok (.areturn, 1) := by decide +kernel
set_option maxRecDepth 65536 in
set_option maxHeartbeats 40000000 in
theorem own_rmML1 (l : Launch) (Z : State) (a0 : Array Value) (hw : ∀ d ∈ tables_1, d.before a0 Z = true) (a1 : Addr) (kc : ClassId) (x0 : Int32) (h0 : Heap) (n0 : Nat) (Z0 : n0 ≤ h0.size) (Vc : Arv Z h0 a1 kc .char 1 [(.int x0)] (.int 0)) (O : Old Z n0 h0) (hx' : ¬ (255 : Int32) < x0) :
    own_Met l Z [] (⟨"java/lang/StringUTF16", "compress", "([CII)[B"⟩ : MethodName) jdk_52_method_16_code 6 (some (.array .byte)) ({ frames := 3, cells := 2, slots := 9, locals := 40 } : Room) #[(.ref a1), (.int (0 : Int32)), (.int (1 : Int32))] h0 (fun v h L => ∃ (b : Addr) (k : ClassId), v = some (.ref b) ∧ Fr n0 L ∧ Keep h0 h [] ∧ Old Z n0 h ∧ n0 ≤ b ∧ h0.size ≤ b ∧ Arv Z h b k .byte 1 [(.int (nar .byte (x0.toInt8.toInt32)))] (.int 0)) := by
  refine MetFree.of_bodySF (plainFor_of_name own_pn3) hisR ?_
  intro p e s m args below meth c s₁ Bd hml0 hP hK
  obtain ⟨rfl, hZ, hh⟩ := hP
  have hx := Bd.exec
  have hby := Bd.bytes
  have hml : c.maxLocals = 6 := hml0
  have hown : s.vm.findClass "java/lang/StringUTF16" = some m.cls := findClass_of_methodNamed Bd.named
  have hnm := (name_of_methodNamed Bd.named Bd.method).1
  have hlk : meth.locks = false := Bd.notSynchronized
  have X0 : Stand p l e ({ frames := 3, cells := 2, slots := 9, locals := 40 } : Room) s m #[(.ref a1), (.int (0 : Int32)), (.int (1 : Int32))] below meth c s₁ [] 0 0 := Stand.of_body Bd
  have e0 : s₁.heap = h0 := by rw [← hh, Bd.state]; rfl
  have N0 := Fr.nil n0
  refine own_body (Q := fun v h L => ∃ (b : Addr) (k : ClassId), v = some (.ref b) ∧ Fr n0 L ∧ Keep h0 h [] ∧ Old Z n0 h ∧ n0 ≤ b ∧ h0.size ≤ b ∧ Arv Z h b k .byte 1 [(.int (nar .byte (x0.toInt8.toInt32)))] (.int 0)) ?_
  refine own_go (fun _ kont => castTop (own_ef m #[(.ref a1), (.int (0 : Int32)), (.int (1 : Int32))] 6 #[.val (.ref a1), .val (.int (0 : Int32)), .val (.int (1 : Int32)), .unset, .unset, .unset] (own_al [(.ref a1), (.int (0 : Int32)), (.int (1 : Int32))] 6 [.val (.ref a1), .val (.int (0 : Int32)), .val (.int (1 : Int32)), .unset, .unset, .unset] rfl)) kont) ?_
  show own_Go _ _ _ _ (s₁.setTop (mkF m 0 #[.val (.ref a1), .val (.int (0 : Int32)), .val (.int (1 : Int32)), .unset, .unset, .unset] []))
  have K0 : Keep h0 h0 [] := Keep.refl _ _
  refine own_go (fun _ => XS.iloadN X0.here hx rfl (hb hby own_d4_0) rfl) ?_
  obtain ⟨T1, h1, k1, X1, e1, E1, A1, st1⟩ := newP X0 hx hZ (hw _ (List.mem_of_getElem? (i := 20) rfl)) e0 (g := (mkF m 1 #[.val (.ref a1), .val (.int (0 : Int32)), .val (.int (1 : Int32)), .unset, .unset, .unset] [(.int (1 : Int32))])) rfl (hb hby own_d4_1) rfl (by decide) (cap := 1) (by decide) (by decide) (by decide) (by decide)
  obtain ⟨b1, g1⟩ : ∃ z, z = h0.size := ⟨_, rfl⟩
  rw [← g1] at A1 st1
  refine own_go st1 ?_
  have ge_b1 : n0 ≤ b1 := Nat.le_trans Z0 (Nat.le_of_eq g1.symm)
  have ne_a1_b1 : a1 ≠ b1 := Nat.ne_of_lt (Nat.lt_of_lt_of_le Vc.lt (Nat.le_of_eq g1.symm))
  have sz_b1 : h0.size ≤ b1 := Nat.le_trans K0.1 (Nat.le_of_eq g1.symm)
  replace Vc := Vc.ext E1
  replace O := O.ext E1
  replace Z0 := Nat.le_trans Z0 E1.1
  replace K0 := K0.ext E1
  have V_b1 : Arv Z h1 b1 k1 .byte (1 : Int32) [(.int (0 : Int32))] (.int (0 : Int32)) := (Arv.new A1 (by decide)).pad (pad_rep [] (.int (0 : Int32)) 1)
  refine own_go (fun _ => XS.astoreN X1.here hx rfl (hb hby own_d4_3) rfl rfl (l' := #[.val (.ref a1), .val (.int (0 : Int32)), .val (.int (1 : Int32)), .val (.ref b1), .unset, .unset]) rfl) ?_
  refine own_go (fun _ => XS.aloadN X1.here hx rfl (hb hby own_d4_4) rfl rfl) ?_
  refine own_go (fun _ => XS.iloadN X1.here hx rfl (hb hby own_d4_5) rfl) ?_
  show own_Go _ _ _ _ (T1.setTop (mkF m 6 #[.val (.ref a1), .val (.int (0 : Int32)), .val (.int (1 : Int32)), .val (.ref b1), .unset, .unset] [(.int (0 : Int32)), (.ref a1)]))
  refine own_go (fun _ => XS.aloadN X1.here hx rfl (hb hby own_d4_6) rfl rfl) ?_
  refine own_go (fun _ => XS.iconst X1.here hx rfl (hb hby own_d4_7)) ?_
  refine own_go (fun _ => XS.iloadN X1.here hx rfl (hb hby own_d4_8) rfl) ?_
  show own_Go _ _ _ _ (T1.setTop (mkF m 9 #[.val (.ref a1), .val (.int (0 : Int32)), .val (.int (1 : Int32)), .val (.ref b1), .unset, .unset] [(.int (1 : Int32)), (.int (0 : Int32)), (.ref b1), (.int (0 : Int32)), (.ref a1)]))
  obtain ⟨_, _, ⟨T2, L2, k2, n2⟩, -, X2, ⟨Lc2, hQ2, l2, y2, z2⟩, st2⟩ := Jvm.LawKit.callS X1 hx (y := (⟨"java/lang/StringUTF16", "compress", "([CI[BII)I"⟩ : MethodName)) hown (mvT hZ (hw _ (List.mem_of_getElem? (i := 21) rfl))) (mvT hZ (hw _ (List.mem_of_getElem? (i := 22) rfl))) (mvT hZ (hw _ (List.mem_of_getElem? (i := 18) rfl))) (mvT hZ (hw _ (List.mem_of_getElem? (i := 23) rfl))) (by decide) (own_back (W := 0) (own_rmK1 l Z a0 hw a1 b1 kc k1 x0 h1 n0 Z0 Vc V_b1 ge_b1 ne_a1_b1 O) hZ (hw _ (List.mem_of_getElem? (i := 23) rfl)) (hw _ (List.mem_of_getElem? (i := 18) rfl)) (by decide) (by decide)) (g := (mkF m 9 #[.val (.ref a1), .val (.int (0 : Int32)), .val (.int (1 : Int32)), .val (.ref b1), .unset, .unset] [(.int (1 : Int32)), (.int (0 : Int32)), (.ref b1), (.int (0 : Int32)), (.ref a1)])) rfl (by rw [hml]; rfl) (argsL := [(.ref a1), (.int (0 : Int32)), (.ref b1), (.int (0 : Int32)), (.int (1 : Int32))]) (rest := []) (lenOf own_pd8 rfl) rfl (by show 2 * 0 + _ ≤ _; exact Nat.le_of_eq rfl) (hb hby own_d4_9) (fun _ _ => ⟨rfl, e1, (by decide : 1 + 0 ≤ _), (by decide : 1 + 0 ≤ _)⟩)
  dsimp only [Pt.U, Pt.locs, Pt.cells, Pt.slots] at X2 l2 y2 z2 st2 hQ2
  replace X2 := own_cst X2 l2 y2 z2 (k2 := 1) (n2 := 1) rfl rfl
  clear l2 y2 z2
  obtain ⟨r2, rfl, Nq2, K2, O2, Dj2⟩ := hQ2
  have NF2 := Fr.app N0 Nq2
  refine own_go st2 ?_
  replace Vc := Vc.keep K2 (ninS ne_a1_b1 nin0)
  replace Z0 := Nat.le_trans Z0 K2.1
  replace K0 := K0.trans K2 (allS (Or.inr sz_b1) all0)
  have O := O2
  have DV : r2 = 1 ∧ Arv Z T2.heap b1 k1 .byte 1 [(.int (nar .byte (x0.toInt8.toInt32)))] (.int 0) := by
    rcases Dj2 with ⟨q, -⟩ | ⟨-, q⟩
    · exact absurd q hx'
    · exact q
  obtain ⟨rfl, V2⟩ := DV
  show own_Go _ _ _ _ (T2.setTop (mkF m 12 #[.val (.ref a1), .val (.int (0 : Int32)), .val (.int (1 : Int32)), .val (.ref b1), .unset, .unset] [(.int (1 : Int32))]))
  refine own_go (fun _ => XS.istore X2.here hx rfl (hb hby own_d4_12) rfl (l' := #[.val (.ref a1), .val (.int (0 : Int32)), .val (.int (1 : Int32)), .val (.ref b1), .val (.int (1 : Int32)), .unset]) rfl) ?_
  refine own_go (fun _ => XS.iload X2.here hx rfl (hb hby own_d4_14) rfl) ?_
  refine own_go (fun _ => XS.iloadN X2.here hx rfl (hb hby own_d4_16) rfl) ?_
  show own_Go _ _ _ _ (T2.setTop (mkF m 17 #[.val (.ref a1), .val (.int (0 : Int32)), .val (.int (1 : Int32)), .val (.ref b1), .val (.int (1 : Int32)), .unset] [(.int (1 : Int32)), (.int (1 : Int32))]))
  refine own_go (fun _ => XS.icmpYes X2.here hx rfl (pc0 := 17) (pc' := 57) rfl (hb hby own_d4_17) rfl (teq rfl).1 (by decide) (by decide)) ?_
  show own_Go _ _ _ _ (T2.setTop (mkF m 57 #[.val (.ref a1), .val (.int (0 : Int32)), .val (.int (1 : Int32)), .val (.ref b1), .val (.int (1 : Int32)), .unset] []))
  refine own_go (fun _ => XS.aloadN X2.here hx rfl (hb hby own_d4_57) rfl rfl) ?_
  show own_Go _ _ _ _ (T2.setTop (mkF m 58 #[.val (.ref a1), .val (.int (0 : Int32)), .val (.int (1 : Int32)), .val (.ref b1), .val (.int (1 : Int32)), .unset] [(.ref b1)]))
  refine own_ret X2 hlk (v := some (.ref b1)) (fun h => by rw [Bd.returns] at h; cases h) (fun fs hr => retOut X2 hx Bd.returns rfl (Or.inr (Or.inr (Or.inr (Or.inr ⟨rfl, rfl, rfl⟩)))) (hb hby own_d4_58) hr) ?_ (by decide) (by decide)
  skip
  exact ⟨b1, k1, rfl, NF2, K0, O, ge_b1, sz_b1, V2⟩
theorem own_d27_0 : decode jdk_52_method_2_code 0 = .ok (.iload_n 0, 1) := by decide +kernel
theorem own_d27_1 : decode jdk_52_method_2_code 1 = .ok (.invokestatic 11, 3) := by decide +kernel
theorem own_pd9 : parseMethodDescriptor "(I)I" = some ⟨[.int], some .int⟩ := by decide +kernel
theorem own_d27_4 : decode jdk_52_method_2_code 4 = .ok (.newarray .byte, 2) := by decide +kernel
theorem own_d27_6 : decode jdk_52_method_2_code 6 = .ok (.areturn, 1) := by decide +kernel
set_option maxRecDepth 65536 in
set_option maxHeartbeats 40000000 in
theorem own_rmNB1 (l : Launch) (Z : State) (a0 : Array Value) (hw : ∀ d ∈ tables_1, d.before a0 Z = true)  (h0 : Heap) (n0 : Nat) (Z0 : n0 ≤ h0.size) (O : Old Z n0 h0) :
    own_Met l Z [] (⟨"java/lang/StringUTF16", "newBytesFor", "(I)[B"⟩ : MethodName) jdk_52_method_2_code 1 (some (.array .byte)) ({ frames := 1, cells := 1, slots := 2, locals := 12 } : Room) #[(.int (1 : Int32))] h0 (fun v h L => ∃ (b : Addr) (k : ClassId), v = some (.ref b) ∧ Fr n0 L ∧ Keep h0 h [] ∧ Old Z n0 h ∧ n0 ≤ b ∧ h0.size ≤ b ∧ Arv Z h b k .byte 2 [(.int 0), (.int 0)] (.int 0)) := by
  refine MetFree.of_bodySF (plainFor_of_name own_pn3) hisR ?_
  intro p e s m args below meth c s₁ Bd hml0 hP hK
  obtain ⟨rfl, hZ, hh⟩ := hP
  have hx := Bd.exec
  have hby := Bd.bytes
  have hml : c.maxLocals = 1 := hml0
  have hown : s.vm.findClass "java/lang/StringUTF16" = some m.cls := findClass_of_methodNamed Bd.named
  have hnm := (name_of_methodNamed Bd.named Bd.method).1
  have hlk : meth.locks = false := Bd.notSynchronized
  have X0 : Stand p l e ({ frames := 1, cells := 1, slots := 2, locals := 12 } : Room) s m #[(.int (1 : Int32))] below meth c s₁ [] 0 0 := Stand.of_body Bd
  have e0 : s₁.heap = h0 := by rw [← hh, Bd.state]; rfl
  have N0 := Fr.nil n0
  refine own_body (Q := fun v h L => ∃ (b : Addr) (k : ClassId), v = some (.ref b) ∧ Fr n0 L ∧ Keep h0 h [] ∧ Old Z n0 h ∧ n0 ≤ b ∧ h0.size ≤ b ∧ Arv Z h b k .byte 2 [(.int 0), (.int 0)] (.int 0)) ?_
  refine own_go (fun _ kont => castTop (own_ef m #[(.int (1 : Int32))] 1 #[.val (.int (1 : Int32))] (own_al [(.int (1 : Int32))] 1 [.val (.int (1 : Int32))] rfl)) kont) ?_
  show own_Go _ _ _ _ (s₁.setTop (mkF m 0 #[.val (.int (1 : Int32))] []))
  have K0 : Keep h0 h0 [] := Keep.refl _ _
  refine own_go (fun _ => XS.iloadN X0.here hx rfl (hb hby own_d27_0) rfl) ?_
  show own_Go _ _ _ _ (s₁.setTop (mkF m 1 #[.val (.int (1 : Int32))] [(.int (1 : Int32))]))
  obtain ⟨_, _, ⟨T1, L1, k1, n1⟩, -, X1, ⟨Lc1, hQ1, l1, y1, z1⟩, st1⟩ := Jvm.LawKit.callS X0 hx (y := (⟨"java/lang/StringUTF16", "newBytesLength", "(I)I"⟩ : MethodName)) hown (mvT hZ (hw _ (List.mem_of_getElem? (i := 124) rfl))) (mvT hZ (hw _ (List.mem_of_getElem? (i := 125) rfl))) (mvT hZ (hw _ (List.mem_of_getElem? (i := 18) rfl))) (mvT hZ (hw _ (List.mem_of_getElem? (i := 126) rfl))) (by decide) (own_back (W := 0) (own_rmBL l Z a0 hw 1 2 h0 n0 Z0 (by decide) (by decide) (by decide)) hZ (hw _ (List.mem_of_getElem? (i := 126) rfl)) (hw _ (List.mem_of_getElem? (i := 18) rfl)) (by decide) (by decide)) (g := (mkF m 1 #[.val (.int (1 : Int32))] [(.int (1 : Int32))])) rfl (by rw [hml]; rfl) (argsL := [(.int (1 : Int32))]) (rest := []) (lenOf own_pd9 rfl) rfl (by show 2 * 0 + _ ≤ _; exact Nat.le_of_eq rfl) (hb hby own_d27_1) (fun _ _ => ⟨rfl, e0, (by decide : 0 + 0 ≤ _), (by decide : 0 + 0 ≤ _)⟩)
  dsimp only [Pt.U, Pt.locs, Pt.cells, Pt.slots] at X1 l1 y1 z1 st1 hQ1
  replace X1 := own_cst X1 l1 y1 z1 (k2 := 0) (n2 := 0) rfl rfl
  clear l1 y1 z1
  obtain ⟨rfl, Nq1, eq1⟩ := hQ1
  have NF1 := Fr.app N0 Nq1
  refine own_go st1 ?_
  show own_Go _ _ _ _ (T1.setTop (mkF m 4 #[.val (.int (1 : Int32))] [(.int (2 : Int32))]))
  obtain ⟨T2, h2, k2, X2, e2, E2, A2, st2⟩ := newP X1 hx hZ (hw _ (List.mem_of_getElem? (i := 20) rfl)) eq1 (g := (mkF m 4 #[.val (.int (1 : Int32))] [(.int (2 : Int32))])) rfl (hb hby own_d27_4) rfl (by decide) (cap := 2) (by decide) (by decide) (by decide) (by decide)
  obtain ⟨b2, g2⟩ : ∃ z, z = h0.size := ⟨_, rfl⟩
  rw [← g2] at A2 st2
  refine own_go st2 ?_
  have ge_b2 : n0 ≤ b2 := Nat.le_trans Z0 (Nat.le_of_eq g2.symm)
  have sz_b2 : h0.size ≤ b2 := Nat.le_trans K0.1 (Nat.le_of_eq g2.symm)
  replace O := O.ext E2
  replace Z0 := Nat.le_trans Z0 E2.1
  replace K0 := K0.ext E2
  have V_b2 : Arv Z h2 b2 k2 .byte (2 : Int32) [(.int (0 : Int32)), (.int (0 : Int32))] (.int (0 : Int32)) := (Arv.new A2 (by decide)).pad (pad_rep [] (.int (0 : Int32)) 2)
  show own_Go _ _ _ _ (T2.setTop (mkF m 6 #[.val (.int (1 : Int32))] [(.ref b2)]))
  refine own_ret X2 hlk (v := some (.ref b2)) (fun h => by rw [Bd.returns] at h; cases h) (fun fs hr => retOut X2 hx Bd.returns rfl (Or.inr (Or.inr (Or.inr (Or.inr ⟨rfl, rfl, rfl⟩)))) (hb hby own_d27_6) hr) ?_ (by decide) (by decide)
  try rw [e2]
  exact ⟨b2, k2, rfl, NF1, K0, O, ge_b2, sz_b2, V_b2⟩
theorem own_d26_0 : decode jdk_52_method_14_code 0 = .ok (.iload_n 2, 1) := by decide +kernel
theorem own_d26_1 : decode jdk_52_method_14_code 1 = .ok (.invokestatic 107, 3) := by decide +kernel
theorem own_pd10 : parseMethodDescriptor "(I)[B" = some ⟨[.int], some (.array .byte)⟩ := by decide +kernel
theorem own_d26_4 : decode jdk_52_method_14_code 4 = .ok (.astore_n 3, 1) := by decide +kernel
theorem own_d26_5 : decode jdk_52_method_14_code 5 = .ok (.iconst 0, 1) := by decide +kernel
theorem own_d26_6 : decode jdk_52_method_14_code 6 = .ok (.istore 4, 2) := by decide +kernel
theorem own_d26_8 : decode jdk_52_method_14_code 8 = .ok (.iload 4, 2) := by decide +kernel
theorem own_d26_10 : decode jdk_52_method_14_code 10 = .ok (.iload_n 2, 1) := by decide +kernel
theorem own_d26_11 : decode jdk_52_method_14_code 11 = .ok (.if_icmp .ge 21, 3) := by decide +kernel
theorem own_d26_14 : decode jdk_52_method_14_code 14 = .ok (.aload_n 3, 1) := by decide +kernel
theorem own_d26_15 : decode jdk_52_method_14_code 15 = .ok (.iload 4, 2) := by decide +kernel
theorem own_d26_17 : decode jdk_52_method_14_code 17 = .ok (.aload_n 0, 1) := by decide +kernel
theorem own_d26_18 : decode jdk_52_method_14_code 18 = .ok (.iload_n 1, 1) := by decide +kernel
theorem own_d26_19 : decode jdk_52_method_14_code 19 = .ok (.caload, 1) := by decide +kernel
theorem own_d26_20 : decode jdk_52_method_14_code 20 = .ok (.invokestatic 111, 3) := by decide +kernel
theorem own_pd11 : parseMethodDescriptor "([BII)V" = some ⟨[(.array .byte), .int, .int], none⟩ := by decide +kernel
theorem own_d26_23 : decode jdk_52_method_14_code 23 = .ok (.iinc 1 1, 3) := by decide +kernel
theorem own_d26_26 : decode jdk_52_method_14_code 26 = .ok (.iinc 4 1, 3) := by decide +kernel
theorem own_d26_29 : decode jdk_52_method_14_code 29 = .ok (.goto (-21), 3) := by decide +kernel
theorem own_d26_32 : decode jdk_52_method_14_code 32 = .ok (.aload_n 3, 1) := by decide +kernel
theorem own_d26_33 : decode jdk_52_method_14_code 33 = .ok (.areturn, 1) := by decide +kernel
set_option maxRecDepth 65536 in
set_option maxHeartbeats 40000000 in
theorem own_rmTB1 (l : Launch) (Z : State) (a0 : Array Value) (hw : ∀ d ∈ tables_1, d.before a0 Z = true) (a1 : Addr) (kc : ClassId) (x0 : Int32) (h0 : Heap) (n0 : Nat) (Z0 : n0 ≤ h0.size) (Vc : Arv Z h0 a1 kc .char 1 [(.int x0)] (.int 0)) (O : Old Z n0 h0) (S_A : Sta Z Z.heap "java/lang/StringUTF16" "$assertionsDisabled" "Z" (.int 1)) (S_H : Sta Z Z.heap "java/lang/StringUTF16" "HI_BYTE_SHIFT" "I" (.int 0)) (S_L : Sta Z Z.heap "java/lang/StringUTF16" "LO_BYTE_SHIFT" "I" (.int 8)) :
    own_Met l Z [] (⟨"java/lang/StringUTF16", "toBytes", "([CII)[B"⟩ : MethodName) jdk_52_method_14_code 5 (some (.array .byte)) ({ frames := 2, cells := 1, slots := 2, locals := 24 } : Room) #[(.ref a1), (.int (0 : Int32)), (.int (1 : Int32))] h0 (fun v h L => ∃ (b : Addr) (k : ClassId), v = some (.ref b) ∧ Fr n0 L ∧ Keep h0 h [] ∧ Old Z n0 h ∧ n0 ≤ b ∧ h0.size ≤ b ∧ Arv Z h b k .byte 2 [(.int (nar .byte ((x0 >>> ((0 : Int32) &&& 31)).toInt8.toInt32))), (.int (nar .byte ((x0 >>> ((8 : Int32) &&& 31)).toInt8.toInt32)))] (.int 0)) := by
  refine MetFree.of_bodySF (plainFor_of_name own_pn3) hisR ?_
  intro p e s m args below meth c s₁ Bd hml0 hP hK
  obtain ⟨rfl, hZ, hh⟩ := hP
  have hx := Bd.exec
  have hby := Bd.bytes
  have hml : c.maxLocals = 5 := hml0
  have hown : s.vm.findClass "java/lang/StringUTF16" = some m.cls := findClass_of_methodNamed Bd.named
  have hnm := (name_of_methodNamed Bd.named Bd.method).1
  have hlk : meth.locks = false := Bd.notSynchronized
  have X0 : Stand p l e ({ frames := 2, cells := 1, slots := 2, locals := 24 } : Room) s m #[(.ref a1), (.int (0 : Int32)), (.int (1 : Int32))] below meth c s₁ [] 0 0 := Stand.of_body Bd
  have e0 : s₁.heap = h0 := by rw [← hh, Bd.state]; rfl
  have N0 := Fr.nil n0
  refine own_body (Q := fun v h L => ∃ (b : Addr) (k : ClassId), v = some (.ref b) ∧ Fr n0 L ∧ Keep h0 h [] ∧ Old Z n0 h ∧ n0 ≤ b ∧ h0.size ≤ b ∧ Arv Z h b k .byte 2 [(.int (nar .byte ((x0 >>> ((0 : Int32) &&& 31)).toInt8.toInt32))), (.int (nar .byte ((x0 >>> ((8 : Int32) &&& 31)).toInt8.toInt32)))] (.int 0)) ?_
  refine own_go (fun _ kont => castTop (own_ef m #[(.ref a1), (.int (0 : Int32)), (.int (1 : Int32))] 5 #[.val (.ref a1), .val (.int (0 : Int32)), .val (.int (1 : Int32)), .unset, .unset] (own_al [(.ref a1), (.int (0 : Int32)), (.int (1 : Int32))] 5 [.val (.ref a1), .val (.int (0 : Int32)), .val (.int (1 : Int32)), .unset, .unset] rfl)) kont) ?_
  show own_Go _ _ _ _ (s₁.setTop (mkF m 0 #[.val (.ref a1), .val (.int (0 : Int32)), .val (.int (1 : Int32)), .unset, .unset] []))
  have K0 : Keep h0 h0 [] := Keep.refl _ _
  refine own_go (fun _ => XS.iloadN X0.here hx rfl (hb hby own_d26_0) rfl) ?_
  show own_Go _ _ _ _ (s₁.setTop (mkF m 1 #[.val (.ref a1), .val (.int (0 : Int32)), .val (.int (1 : Int32)), .unset, .unset] [(.int (1 : Int32))]))
  obtain ⟨_, _, ⟨T1, L1, k1, n1⟩, -, X1, ⟨Lc1, hQ1, l1, y1, z1⟩, st1⟩ := Jvm.LawKit.callS X0 hx (y := (⟨"java/lang/StringUTF16", "newBytesFor", "(I)[B"⟩ : MethodName)) hown (mvT hZ (hw _ (List.mem_of_getElem? (i := 121) rfl))) (mvT hZ (hw _ (List.mem_of_getElem? (i := 122) rfl))) (mvT hZ (hw _ (List.mem_of_getElem? (i := 18) rfl))) (mvT hZ (hw _ (List.mem_of_getElem? (i := 123) rfl))) (by decide) (own_back (W := 0) (own_rmNB1 l Z a0 hw h0 n0 Z0 O) hZ (hw _ (List.mem_of_getElem? (i := 123) rfl)) (hw _ (List.mem_of_getElem? (i := 18) rfl)) (by decide) (by decide)) (g := (mkF m 1 #[.val (.ref a1), .val (.int (0 : Int32)), .val (.int (1 : Int32)), .unset, .unset] [(.int (1 : Int32))])) rfl (by rw [hml]; rfl) (argsL := [(.int (1 : Int32))]) (rest := []) (lenOf own_pd10 rfl) rfl (by show 2 * 0 + _ ≤ _; exact Nat.le_of_eq rfl) (hb hby own_d26_1) (fun _ _ => ⟨rfl, e0, (by decide : 0 + 1 ≤ _), (by decide : 0 + 2 ≤ _)⟩)
  dsimp only [Pt.U, Pt.locs, Pt.cells, Pt.slots] at X1 l1 y1 z1 st1 hQ1
  replace X1 := own_cst X1 l1 y1 z1 (k2 := 1) (n2 := 2) rfl rfl
  clear l1 y1 z1
  obtain ⟨b1, kk1, rfl, Nq1, K1, O1, ge_b1, szq1, V1⟩ := hQ1
  have NF1 := Fr.app N0 Nq1
  refine own_go st1 ?_
  have ne_a1_b1 : a1 ≠ b1 := Nat.ne_of_lt (Nat.lt_of_lt_of_le Vc.lt szq1)
  have sz_b1 : h0.size ≤ b1 := Nat.le_trans K0.1 szq1
  replace Vc := Vc.keep K1 nin0
  replace Z0 := Nat.le_trans Z0 K1.1
  replace K0 := K0.trans K1 all0
  have O := O1
  show own_Go _ _ _ _ (T1.setTop (mkF m 4 #[.val (.ref a1), .val (.int (0 : Int32)), .val (.int (1 : Int32)), .unset, .unset] [(.ref b1)]))
  refine own_go (fun _ => XS.astoreN X1.here hx rfl (hb hby own_d26_4) rfl rfl (l' := #[.val (.ref a1), .val (.int (0 : Int32)), .val (.int (1 : Int32)), .val (.ref b1), .unset]) rfl) ?_
  refine own_go (fun _ => XS.iconst X1.here hx rfl (hb hby own_d26_5)) ?_
  refine own_go (fun _ => XS.istore X1.here hx rfl (hb hby own_d26_6) rfl (l' := #[.val (.ref a1), .val (.int (0 : Int32)), .val (.int (1 : Int32)), .val (.ref b1), .val (.int (0 : Int32))]) rfl) ?_
  refine own_go (fun _ => XS.iload X1.here hx rfl (hb hby own_d26_8) rfl) ?_
  refine own_go (fun _ => XS.iloadN X1.here hx rfl (hb hby own_d26_10) rfl) ?_
  show own_Go _ _ _ _ (T1.setTop (mkF m 11 #[.val (.ref a1), .val (.int (0 : Int32)), .val (.int (1 : Int32)), .val (.ref b1), .val (.int (0 : Int32))] [(.int (1 : Int32)), (.int (0 : Int32))]))
  refine own_go (fun _ => XS.icmpNo X1.here hx rfl (hb hby own_d26_11) rfl (tlt (by decide)).2.1) ?_
  show own_Go _ _ _ _ (T1.setTop (mkF m 14 #[.val (.ref a1), .val (.int (0 : Int32)), .val (.int (1 : Int32)), .val (.ref b1), .val (.int (0 : Int32))] []))
  refine own_go (fun _ => XS.aloadN X1.here hx rfl (hb hby own_d26_14) rfl rfl) ?_
  refine own_go (fun _ => XS.iload X1.here hx rfl (hb hby own_d26_15) rfl) ?_
  refine own_go (fun _ => XS.aloadN X1.here hx rfl (hb hby own_d26_17) rfl rfl) ?_
  refine own_go (fun _ => XS.iloadN X1.here hx rfl (hb hby own_d26_18) rfl) ?_
  obtain ⟨cl2, Ar2, q2, Sz2, Ng2, Hs2, Gs2⟩ := id Vc
  have hin2 : ¬ ((0 : Int32) < 0 ∨ cl2.slots.size ≤ ((0 : Int32)).toNatClampNeg) := inb_of Sz2 ⟨by decide, by decide⟩
  have hat2 : cl2.slots[((0 : Int32)).toNatClampNeg]? = some (.int x0) := Hs2.at hin2 rfl
  refine own_go (X1.caload hx (j := (0 : Int32)) (v := (.int x0)) (own_hp rfl Ar2.1) (State.isArrayOf_alike hZ.alike Ar2.2.1) Ar2.2.2 hin2 hat2 (g := (mkF m 19 #[.val (.ref a1), .val (.int (0 : Int32)), .val (.int (1 : Int32)), .val (.ref b1), .val (.int (0 : Int32))] [(.int (0 : Int32)), (.ref a1), (.int (0 : Int32)), (.ref b1)])) rfl rfl (hb hby own_d26_19)) ?_
  show own_Go _ _ _ _ (T1.setTop (mkF m 20 #[.val (.ref a1), .val (.int (0 : Int32)), .val (.int (1 : Int32)), .val (.ref b1), .val (.int (0 : Int32))] [(.int x0), (.int (0 : Int32)), (.ref b1)]))
  obtain ⟨_, _, ⟨T3, L3, k3, n3⟩, -, X3, ⟨Lc3, hQ3, l3, y3, z3⟩, st3⟩ := Jvm.LawKit.callS X1 hx (y := (⟨"java/lang/StringUTF16", "putChar", "([BII)V"⟩ : MethodName)) hown (mvT hZ (hw _ (List.mem_of_getElem? (i := 128) rfl))) (mvT hZ (hw _ (List.mem_of_getElem? (i := 129) rfl))) (mvT hZ (hw _ (List.mem_of_getElem? (i := 18) rfl))) (mvT hZ (hw _ (List.mem_of_getElem? (i := 130) rfl))) (by decide) (own_back (W := 0) (own_rmPC l Z a0 hw b1 kk1 x0 2 0 0 1 0 1 _ T1.heap n0 Z0 V1 (by decide) (by decide) ⟨by decide, by decide⟩ ⟨by decide, by decide⟩ rfl rfl (Nat.le_of_ble_eq_true rfl) (Nat.le_of_ble_eq_true rfl) ge_b1 O S_A S_H S_L) hZ (hw _ (List.mem_of_getElem? (i := 130) rfl)) (hw _ (List.mem_of_getElem? (i := 18) rfl)) (by decide) (by decide)) (g := (mkF m 20 #[.val (.ref a1), .val (.int (0 : Int32)), .val (.int (1 : Int32)), .val (.ref b1), .val (.int (0 : Int32))] [(.int x0), (.int (0 : Int32)), (.ref b1)])) rfl (by rw [hml]; rfl) (argsL := [(.ref b1), (.int (0 : Int32)), (.int x0)]) (rest := []) (lenOf own_pd11 rfl) rfl (by show 2 * 0 + _ ≤ _; exact Nat.le_of_eq rfl) (hb hby own_d26_20) (fun _ _ => ⟨rfl, rfl, (by decide : 1 + 0 ≤ _), (by decide : 2 + 0 ≤ _)⟩)
  dsimp only [Pt.U, Pt.locs, Pt.cells, Pt.slots] at X3 l3 y3 z3 st3 hQ3
  replace X3 := own_cst X3 l3 y3 z3 (k2 := 1) (n2 := 2) rfl rfl
  clear l3 y3 z3
  obtain ⟨rfl, Nq3, K3, O3, V3⟩ := hQ3
  have NF3 := Fr.app NF1 Nq3
  refine own_go st3 ?_
  replace Vc := Vc.keep K3 (ninS ne_a1_b1 nin0)
  replace Z0 := Nat.le_trans Z0 K3.1
  replace K0 := K0.trans K3 (allS (Or.inr sz_b1) all0)
  have O := O3
  replace V3 : Arv Z T3.heap b1 kk1 .byte 2 [(.int (nar .byte ((x0 >>> ((0 : Int32) &&& 31)).toInt8.toInt32))), (.int (nar .byte ((x0 >>> ((8 : Int32) &&& 31)).toInt8.toInt32)))] (.int 0) := V3
  show own_Go _ _ _ _ (T3.setTop (mkF m 23 #[.val (.ref a1), .val (.int (0 : Int32)), .val (.int (1 : Int32)), .val (.ref b1), .val (.int (0 : Int32))] []))
  refine own_go (fun _ => XS.iinc X3.here hx rfl (hb hby own_d26_23) rfl (l' := #[.val (.ref a1), .val (.int (1 : Int32)), .val (.int (1 : Int32)), .val (.ref b1), .val (.int (0 : Int32))]) rfl) ?_
  refine own_go (fun _ => XS.iinc X3.here hx rfl (hb hby own_d26_26) rfl (l' := #[.val (.ref a1), .val (.int (1 : Int32)), .val (.int (1 : Int32)), .val (.ref b1), .val (.int (1 : Int32))]) rfl) ?_
  refine own_go (fun _ => XS.goto X3.here hx rfl (pc0 := 29) (pc' := 8) rfl (hb hby own_d26_29) (by decide) (by decide)) ?_
  refine own_go (fun _ => XS.iload X3.here hx rfl (hb hby own_d26_8) rfl) ?_
  refine own_go (fun _ => XS.iloadN X3.here hx rfl (hb hby own_d26_10) rfl) ?_
  show own_Go _ _ _ _ (T3.setTop (mkF m 11 #[.val (.ref a1), .val (.int (1 : Int32)), .val (.int (1 : Int32)), .val (.ref b1), .val (.int (1 : Int32))] [(.int (1 : Int32)), (.int (1 : Int32))]))
  refine own_go (fun _ => XS.icmpYes X3.here hx rfl (pc0 := 11) (pc' := 32) rfl (hb hby own_d26_11) rfl (flt (by decide)).2.1 (by decide) (by decide)) ?_
  show own_Go _ _ _ _ (T3.setTop (mkF m 32 #[.val (.ref a1), .val (.int (1 : Int32)), .val (.int (1 : Int32)), .val (.ref b1), .val (.int (1 : Int32))] []))
  refine own_go (fun _ => XS.aloadN X3.here hx rfl (hb hby own_d26_32) rfl rfl) ?_
  show own_Go _ _ _ _ (T3.setTop (mkF m 33 #[.val (.ref a1), .val (.int (1 : Int32)), .val (.int (1 : Int32)), .val (.ref b1), .val (.int (1 : Int32))] [(.ref b1)]))
  refine own_ret X3 hlk (v := some (.ref b1)) (fun h => by rw [Bd.returns] at h; cases h) (fun fs hr => retOut X3 hx Bd.returns rfl (Or.inr (Or.inr (Or.inr (Or.inr ⟨rfl, rfl, rfl⟩)))) (hb hby own_d26_33) hr) ?_ (by decide) (by decide)
  skip
  exact ⟨b1, kk1, rfl, NF3, K0, O, ge_b1, sz_b1, V3⟩
theorem own_d4_20 : decode jdk_52_method_16_code 20 = .ok (.aload_n 0, 1) := by decide +kernel
theorem own_d4_21 : decode jdk_52_method_16_code 21 = .ok (.iload_n 1, 1) := by decide +kernel
theorem own_d4_22 : decode jdk_52_method_16_code 22 = .ok (.iload_n 2, 1) := by decide +kernel
theorem own_d4_23 : decode jdk_52_method_16_code 23 = .ok (.invokestatic 119, 3) := by decide +kernel
theorem own_pd12 : parseMethodDescriptor "([CII)[B" = some ⟨[(.array .char), .int, .int], some (.array .byte)⟩ := by decide +kernel
theorem own_d4_26 : decode jdk_52_method_16_code 26 = .ok (.astore 5, 2) := by decide +kernel
theorem own_d4_28 : decode jdk_52_method_16_code 28 = .ok (.aload 5, 2) := by decide +kernel
theorem own_d4_30 : decode jdk_52_method_16_code 30 = .ok (.iload 4, 2) := by decide +kernel
theorem own_d4_32 : decode jdk_52_method_16_code 32 = .ok (.invokestatic 71, 3) := by decide +kernel
theorem own_d4_35 : decode jdk_52_method_16_code 35 = .ok (.sipush 255, 3) := by decide +kernel
theorem own_d4_38 : decode jdk_52_method_16_code 38 = .ok (.if_icmp .gt 16, 3) := by decide +kernel
theorem own_d4_54 : decode jdk_52_method_16_code 54 = .ok (.aload 5, 2) := by decide +kernel
theorem own_d4_56 : decode jdk_52_method_16_code 56 = .ok (.areturn, 1) := by decide +kernel
set_option maxRecDepth 65536 in
set_option maxHeartbeats 40000000 in
theorem own_rmMU1 (l : Launch) (Z : State) (a0 : Array Value) (hw : ∀ d ∈ tables_1, d.before a0 Z = true) (a1 : Addr) (kc : ClassId) (x0 : Int32) (h0 : Heap) (n0 : Nat) (Z0 : n0 ≤ h0.size) (Vc : Arv Z h0 a1 kc .char 1 [(.int x0)] (.int 0)) (O : Old Z n0 h0) (S_A : Sta Z Z.heap "java/lang/StringUTF16" "$assertionsDisabled" "Z" (.int 1)) (S_H : Sta Z Z.heap "java/lang/StringUTF16" "HI_BYTE_SHIFT" "I" (.int 0)) (S_L : Sta Z Z.heap "java/lang/StringUTF16" "LO_BYTE_SHIFT" "I" (.int 8)) (hx' : ¬ (¬ (255 : Int32) < x0)) (bx0 : 0 ≤ x0.toInt) (bz0 : x0.toInt < 65536) :
    own_Met l Z [] (⟨"java/lang/StringUTF16", "compress", "([CII)[B"⟩ : MethodName) jdk_52_method_16_code 6 (some (.array .byte)) ({ frames := 3, cells := 2, slots := 9, locals := 40 } : Room) #[(.ref a1), (.int (0 : Int32)), (.int (1 : Int32))] h0 (fun v h L => ∃ (b : Addr) (k : ClassId), v = some (.ref b) ∧ Fr n0 L ∧ Keep h0 h [] ∧ Old Z n0 h ∧ n0 ≤ b ∧ h0.size ≤ b ∧ Arv Z h b k .byte 2 [(.int (nar .byte ((x0 >>> ((0 : Int32) &&& 31)).toInt8.toInt32))), (.int (nar .byte ((x0 >>> ((8 : Int32) &&& 31)).toInt8.toInt32)))] (.int 0)) := by
  refine MetFree.of_bodySF (plainFor_of_name own_pn3) hisR ?_
  intro p e s m args below meth c s₁ Bd hml0 hP hK
  obtain ⟨rfl, hZ, hh⟩ := hP
  have hx := Bd.exec
  have hby := Bd.bytes
  have hml : c.maxLocals = 6 := hml0
  have hown : s.vm.findClass "java/lang/StringUTF16" = some m.cls := findClass_of_methodNamed Bd.named
  have hnm := (name_of_methodNamed Bd.named Bd.method).1
  have hlk : meth.locks = false := Bd.notSynchronized
  have X0 : Stand p l e ({ frames := 3, cells := 2, slots := 9, locals := 40 } : Room) s m #[(.ref a1), (.int (0 : Int32)), (.int (1 : Int32))] below meth c s₁ [] 0 0 := Stand.of_body Bd
  have e0 : s₁.heap = h0 := by rw [← hh, Bd.state]; rfl
  have N0 := Fr.nil n0
  refine own_body (Q := fun v h L => ∃ (b : Addr) (k : ClassId), v = some (.ref b) ∧ Fr n0 L ∧ Keep h0 h [] ∧ Old Z n0 h ∧ n0 ≤ b ∧ h0.size ≤ b ∧ Arv Z h b k .byte 2 [(.int (nar .byte ((x0 >>> ((0 : Int32) &&& 31)).toInt8.toInt32))), (.int (nar .byte ((x0 >>> ((8 : Int32) &&& 31)).toInt8.toInt32)))] (.int 0)) ?_
  refine own_go (fun _ kont => castTop (own_ef m #[(.ref a1), (.int (0 : Int32)), (.int (1 : Int32))] 6 #[.val (.ref a1), .val (.int (0 : Int32)), .val (.int (1 : Int32)), .unset, .unset, .unset] (own_al [(.ref a1), (.int (0 : Int32)), (.int (1 : Int32))] 6 [.val (.ref a1), .val (.int (0 : Int32)), .val (.int (1 : Int32)), .unset, .unset, .unset] rfl)) kont) ?_
  show own_Go _ _ _ _ (s₁.setTop (mkF m 0 #[.val (.ref a1), .val (.int (0 : Int32)), .val (.int (1 : Int32)), .unset, .unset, .unset] []))
  have K0 : Keep h0 h0 [] := Keep.refl _ _
  refine own_go (fun _ => XS.iloadN X0.here hx rfl (hb hby own_d4_0) rfl) ?_
  obtain ⟨T1, h1, k1, X1, e1, E1, A1, st1⟩ := newP X0 hx hZ (hw _ (List.mem_of_getElem? (i := 20) rfl)) e0 (g := (mkF m 1 #[.val (.ref a1), .val (.int (0 : Int32)), .val (.int (1 : Int32)), .unset, .unset, .unset] [(.int (1 : Int32))])) rfl (hb hby own_d4_1) rfl (by decide) (cap := 1) (by decide) (by decide) (by decide) (by decide)
  obtain ⟨b1, g1⟩ : ∃ z, z = h0.size := ⟨_, rfl⟩
  rw [← g1] at A1 st1
  refine own_go st1 ?_
  have ge_b1 : n0 ≤ b1 := Nat.le_trans Z0 (Nat.le_of_eq g1.symm)
  have ne_a1_b1 : a1 ≠ b1 := Nat.ne_of_lt (Nat.lt_of_lt_of_le Vc.lt (Nat.le_of_eq g1.symm))
  have sz_b1 : h0.size ≤ b1 := Nat.le_trans K0.1 (Nat.le_of_eq g1.symm)
  replace Vc := Vc.ext E1
  replace O := O.ext E1
  replace Z0 := Nat.le_trans Z0 E1.1
  replace K0 := K0.ext E1
  have V_b1 : Arv Z h1 b1 k1 .byte (1 : Int32) [(.int (0 : Int32))] (.int (0 : Int32)) := (Arv.new A1 (by decide)).pad (pad_rep [] (.int (0 : Int32)) 1)
  refine own_go (fun _ => XS.astoreN X1.here hx rfl (hb hby own_d4_3) rfl rfl (l' := #[.val (.ref a1), .val (.int (0 : Int32)), .val (.int (1 : Int32)), .val (.ref b1), .unset, .unset]) rfl) ?_
  refine own_go (fun _ => XS.aloadN X1.here hx rfl (hb hby own_d4_4) rfl rfl) ?_
  refine own_go (fun _ => XS.iloadN X1.here hx rfl (hb hby own_d4_5) rfl) ?_
  show own_Go _ _ _ _ (T1.setTop (mkF m 6 #[.val (.ref a1), .val (.int (0 : Int32)), .val (.int (1 : Int32)), .val (.ref b1), .unset, .unset] [(.int (0 : Int32)), (.ref a1)]))
  refine own_go (fun _ => XS.aloadN X1.here hx rfl (hb hby own_d4_6) rfl rfl) ?_
  refine own_go (fun _ => XS.iconst X1.here hx rfl (hb hby own_d4_7)) ?_
  refine own_go (fun _ => XS.iloadN X1.here hx rfl (hb hby own_d4_8) rfl) ?_
  show own_Go _ _ _ _ (T1.setTop (mkF m 9 #[.val (.ref a1), .val (.int (0 : Int32)), .val (.int (1 : Int32)), .val (.ref b1), .unset, .unset] [(.int (1 : Int32)), (.int (0 : Int32)), (.ref b1), (.int (0 : Int32)), (.ref a1)]))
  obtain ⟨_, _, ⟨T2, L2, k2, n2⟩, -, X2, ⟨Lc2, hQ2, l2, y2, z2⟩, st2⟩ := Jvm.LawKit.callS X1 hx (y := (⟨"java/lang/StringUTF16", "compress", "([CI[BII)I"⟩ : MethodName)) hown (mvT hZ (hw _ (List.mem_of_getElem? (i := 21) rfl))) (mvT hZ (hw _ (List.mem_of_getElem? (i := 22) rfl))) (mvT hZ (hw _ (List.mem_of_getElem? (i := 18) rfl))) (mvT hZ (hw _ (List.mem_of_getElem? (i := 23) rfl))) (by decide) (own_back (W := 0) (own_rmK1 l Z a0 hw a1 b1 kc k1 x0 h1 n0 Z0 Vc V_b1 ge_b1 ne_a1_b1 O) hZ (hw _ (List.mem_of_getElem? (i := 23) rfl)) (hw _ (List.mem_of_getElem? (i := 18) rfl)) (by decide) (by decide)) (g := (mkF m 9 #[.val (.ref a1), .val (.int (0 : Int32)), .val (.int (1 : Int32)), .val (.ref b1), .unset, .unset] [(.int (1 : Int32)), (.int (0 : Int32)), (.ref b1), (.int (0 : Int32)), (.ref a1)])) rfl (by rw [hml]; rfl) (argsL := [(.ref a1), (.int (0 : Int32)), (.ref b1), (.int (0 : Int32)), (.int (1 : Int32))]) (rest := []) (lenOf own_pd8 rfl) rfl (by show 2 * 0 + _ ≤ _; exact Nat.le_of_eq rfl) (hb hby own_d4_9) (fun _ _ => ⟨rfl, e1, (by decide : 1 + 0 ≤ _), (by decide : 1 + 0 ≤ _)⟩)
  dsimp only [Pt.U, Pt.locs, Pt.cells, Pt.slots] at X2 l2 y2 z2 st2 hQ2
  replace X2 := own_cst X2 l2 y2 z2 (k2 := 1) (n2 := 1) rfl rfl
  clear l2 y2 z2
  obtain ⟨r2, rfl, Nq2, K2, O2, Dj2⟩ := hQ2
  have NF2 := Fr.app N0 Nq2
  refine own_go st2 ?_
  replace Vc := Vc.keep K2 (ninS ne_a1_b1 nin0)
  replace Z0 := Nat.le_trans Z0 K2.1
  replace K0 := K0.trans K2 (allS (Or.inr sz_b1) all0)
  have O := O2
  have hr : ¬ r2 = (1 : Int32) := by
    rcases Dj2 with ⟨-, q⟩ | ⟨q, -⟩
    · rw [q]; decide
    · exact absurd q hx'
  show own_Go _ _ _ _ (T2.setTop (mkF m 12 #[.val (.ref a1), .val (.int (0 : Int32)), .val (.int (1 : Int32)), .val (.ref b1), .unset, .unset] [(.int r2)]))
  refine own_go (fun _ => XS.istore X2.here hx rfl (hb hby own_d4_12) rfl (l' := #[.val (.ref a1), .val (.int (0 : Int32)), .val (.int (1 : Int32)), .val (.ref b1), .val (.int r2), .unset]) rfl) ?_
  refine own_go (fun _ => XS.iload X2.here hx rfl (hb hby own_d4_14) rfl) ?_
  refine own_go (fun _ => XS.iloadN X2.here hx rfl (hb hby own_d4_16) rfl) ?_
  show own_Go _ _ _ _ (T2.setTop (mkF m 17 #[.val (.ref a1), .val (.int (0 : Int32)), .val (.int (1 : Int32)), .val (.ref b1), .val (.int r2), .unset] [(.int (1 : Int32)), (.int r2)]))
  refine own_go (fun _ => XS.icmpNo X2.here hx rfl (hb hby own_d4_17) rfl (feq hr).1) ?_
  show own_Go _ _ _ _ (T2.setTop (mkF m 20 #[.val (.ref a1), .val (.int (0 : Int32)), .val (.int (1 : Int32)), .val (.ref b1), .val (.int r2), .unset] []))
  refine own_go (fun _ => XS.aloadN X2.here hx rfl (hb hby own_d4_20) rfl rfl) ?_
  refine own_go (fun _ => XS.iloadN X2.here hx rfl (hb hby own_d4_21) rfl) ?_
  refine own_go (fun _ => XS.iloadN X2.here hx rfl (hb hby own_d4_22) rfl) ?_
  show own_Go _ _ _ _ (T2.setTop (mkF m 23 #[.val (.ref a1), .val (.int (0 : Int32)), .val (.int (1 : Int32)), .val (.ref b1), .val (.int r2), .unset] [(.int (1 : Int32)), (.int (0 : Int32)), (.ref a1)]))
  obtain ⟨_, _, ⟨T3, L3, k3, n3⟩, -, X3, ⟨Lc3, hQ3, l3, y3, z3⟩, st3⟩ := Jvm.LawKit.callS X2 hx (y := (⟨"java/lang/StringUTF16", "toBytes", "([CII)[B"⟩ : MethodName)) hown (mvT hZ (hw _ (List.mem_of_getElem? (i := 118) rfl))) (mvT hZ (hw _ (List.mem_of_getElem? (i := 119) rfl))) (mvT hZ (hw _ (List.mem_of_getElem? (i := 18) rfl))) (mvT hZ (hw _ (List.mem_of_getElem? (i := 120) rfl))) (by decide) (own_back (W := 0) (own_rmTB1 l Z a0 hw a1 kc x0 T2.heap n0 Z0 Vc O S_A S_H S_L) hZ (hw _ (List.mem_of_getElem? (i := 120) rfl)) (hw _ (List.mem_of_getElem? (i := 18) rfl)) (by decide) (by decide)) (g := (mkF m 23 #[.val (.ref a1), .val (.int (0 : Int32)), .val (.int (1 : Int32)), .val (.ref b1), .val (.int r2), .unset] [(.int (1 : Int32)), (.int (0 : Int32)), (.ref a1)])) rfl (by rw [hml]; rfl) (argsL := [(.ref a1), (.int (0 : Int32)), (.int (1 : Int32))]) (rest := []) (lenOf own_pd12 rfl) rfl (by show 2 * 0 + _ ≤ _; exact Nat.le_of_eq rfl) (hb hby own_d4_23) (fun _ _ => ⟨rfl, rfl, (by decide : 1 + 1 ≤ _), (by decide : 1 + 2 ≤ _)⟩)
  dsimp only [Pt.U, Pt.locs, Pt.cells, Pt.slots] at X3 l3 y3 z3 st3 hQ3
  replace X3 := own_cst X3 l3 y3 z3 (k2 := 2) (n2 := 3) rfl rfl
  clear l3 y3 z3
  obtain ⟨b3, kk3, rfl, Nq3, K3, O3, ge_b3, szq3, V3⟩ := hQ3
  have NF3 := Fr.app NF2 Nq3
  refine own_go st3 ?_
  have ne_a1_b3 : a1 ≠ b3 := Nat.ne_of_lt (Nat.lt_of_lt_of_le Vc.lt szq3)
  have sz_b3 : h0.size ≤ b3 := Nat.le_trans K0.1 szq3
  replace Vc := Vc.keep K3 nin0
  replace Z0 := Nat.le_trans Z0 K3.1
  replace K0 := K0.trans K3 all0
  have O := O3
  show own_Go _ _ _ _ (T3.setTop (mkF m 26 #[.val (.ref a1), .val (.int (0 : Int32)), .val (.int (1 : Int32)), .val (.ref b1), .val (.int r2), .unset] [(.ref b3)]))
  refine own_go (fun _ => XS.astore X3.here hx rfl (hb hby own_d4_26) rfl rfl (l' := #[.val (.ref a1), .val (.int (0 : Int32)), .val (.int (1 : Int32)), .val (.ref b1), .val (.int r2), .val (.ref b3)]) rfl) ?_
  refine own_go (fun _ => XS.aload X3.here hx rfl (hb hby own_d4_28) rfl rfl) ?_
  refine own_go (fun _ => XS.iload X3.here hx rfl (hb hby own_d4_30) rfl) ?_
  show own_Go _ _ _ _ (T3.setTop (mkF m 32 #[.val (.ref a1), .val (.int (0 : Int32)), .val (.int (1 : Int32)), .val (.ref b1), .val (.int r2), .val (.ref b3)] [(.int r2), (.ref b3)]))
  rcases Dj2 with ⟨h255, rfl⟩ | ⟨q, -⟩
  · have _u := trivial
    show own_Go _ _ _ _ (T3.setTop (mkF m 32 #[.val (.ref a1), .val (.int (0 : Int32)), .val (.int (1 : Int32)), .val (.ref b1), .val (.int (0 : Int32)), .val (.ref b3)] [(.int (0 : Int32)), (.ref b3)]))
    obtain ⟨_, _, ⟨T4, L4, k4, n4⟩, -, X4, ⟨Lc4, hQ4, l4, y4, z4⟩, st4⟩ := Jvm.LawKit.callS X3 hx (y := (⟨"java/lang/StringUTF16", "getChar", "([BI)C"⟩ : MethodName)) hown (mvT hZ (hw _ (List.mem_of_getElem? (i := 134) rfl))) (mvT hZ (hw _ (List.mem_of_getElem? (i := 135) rfl))) (mvT hZ (hw _ (List.mem_of_getElem? (i := 18) rfl))) (mvT hZ (hw _ (List.mem_of_getElem? (i := 136) rfl))) (by decide) (own_back (W := 0) (own_rmGC l Z a0 hw b3 kk3 2 0 0 1 (nar .byte ((x0 >>> ((0 : Int32) &&& 31)).toInt8.toInt32)) (nar .byte ((x0 >>> ((8 : Int32) &&& 31)).toInt8.toInt32)) _ T3.heap n0 Z0 V3 (by decide) (by decide) ⟨by decide, by decide⟩ ⟨by decide, by decide⟩ rfl rfl O S_A S_H S_L) hZ (hw _ (List.mem_of_getElem? (i := 136) rfl)) (hw _ (List.mem_of_getElem? (i := 18) rfl)) (by decide) (by decide)) (g := (mkF m 32 #[.val (.ref a1), .val (.int (0 : Int32)), .val (.int (1 : Int32)), .val (.ref b1), .val (.int (0 : Int32)), .val (.ref b3)] [(.int (0 : Int32)), (.ref b3)])) rfl (by rw [hml]; rfl) (argsL := [(.ref b3), (.int (0 : Int32))]) (rest := []) (lenOf own_pd4 rfl) rfl (by show 2 * 0 + _ ≤ _; exact Nat.le_of_eq rfl) (hb hby own_d4_32) (fun _ _ => ⟨rfl, rfl, (by decide : 2 + 0 ≤ _), (by decide : 3 + 0 ≤ _)⟩)
    dsimp only [Pt.U, Pt.locs, Pt.cells, Pt.slots] at X4 l4 y4 z4 st4 hQ4
    replace X4 := own_cst X4 l4 y4 z4 (k2 := 2) (n2 := 3) rfl rfl
    clear l4 y4 z4
    obtain ⟨rfl, Nq4, eq4⟩ := hQ4
    have NF4 := Fr.app NF3 Nq4
    refine own_go st4 ?_
    show own_Go _ _ _ _ (T4.setTop (mkF m 35 #[.val (.ref a1), .val (.int (0 : Int32)), .val (.int (1 : Int32)), .val (.ref b1), .val (.int (0 : Int32)), .val (.ref b3)] [(.int (own_gc (nar .byte ((x0 >>> ((0 : Int32) &&& 31)).toInt8.toInt32)) (nar .byte ((x0 >>> ((8 : Int32) &&& 31)).toInt8.toInt32))))]))
    rw [own_gcx bx0 bz0]
    show own_Go _ _ _ _ (T4.setTop (mkF m 35 #[.val (.ref a1), .val (.int (0 : Int32)), .val (.int (1 : Int32)), .val (.ref b1), .val (.int (0 : Int32)), .val (.ref b3)] [(.int x0)]))
    refine own_go (fun _ => XS.sipush X4.here hx rfl (hb hby own_d4_35)) ?_
    show own_Go _ _ _ _ (T4.setTop (mkF m 38 #[.val (.ref a1), .val (.int (0 : Int32)), .val (.int (1 : Int32)), .val (.ref b1), .val (.int (0 : Int32)), .val (.ref b3)] [(.int (255 : Int32)), (.int x0)]))
    refine own_go (fun _ => XS.icmpYes X4.here hx rfl (pc0 := 38) (pc' := 54) rfl (hb hby own_d4_38) rfl (tlt h255).2.2.1 (by decide) (by decide)) ?_
    show own_Go _ _ _ _ (T4.setTop (mkF m 54 #[.val (.ref a1), .val (.int (0 : Int32)), .val (.int (1 : Int32)), .val (.ref b1), .val (.int (0 : Int32)), .val (.ref b3)] []))
    refine own_go (fun _ => XS.aload X4.here hx rfl (hb hby own_d4_54) rfl rfl) ?_
    show own_Go _ _ _ _ (T4.setTop (mkF m 56 #[.val (.ref a1), .val (.int (0 : Int32)), .val (.int (1 : Int32)), .val (.ref b1), .val (.int (0 : Int32)), .val (.ref b3)] [(.ref b3)]))
    refine own_ret X4 hlk (v := some (.ref b3)) (fun h => by rw [Bd.returns] at h; cases h) (fun fs hr => retOut X4 hx Bd.returns rfl (Or.inr (Or.inr (Or.inr (Or.inr ⟨rfl, rfl, rfl⟩)))) (hb hby own_d4_56) hr) ?_ (by decide) (by decide)
    try rw [eq4]
    exact ⟨b3, kk3, rfl, NF4, K0, O, ge_b3, sz_b3, V3⟩
  · have _u := trivial
    exact absurd q hx'
set_option maxRecDepth 65536 in
set_option maxHeartbeats 40000000 in
theorem own_rmK2 (l : Launch) (Z : State) (a0 : Array Value) (hw : ∀ d ∈ tables_1, d.before a0 Z = true) (a1 : Addr) (a2 : Addr) (kc : ClassId) (kd : ClassId) (x0 : Int32) (x1 : Int32) (h0 : Heap) (n0 : Nat) (Z0 : n0 ≤ h0.size) (Vc : Arv Z h0 a1 kc .char 2 [(.int x0), (.int x1)] (.int 0)) (Vd : Arv Z h0 a2 kd .byte 2 [(.int 0), (.int 0)] (.int 0)) (ge_a2 : n0 ≤ a2) (ne12 : a1 ≠ a2) (O : Old Z n0 h0) :
    own_Met l Z [] (⟨"java/lang/StringUTF16", "compress", "([CI[BII)I"⟩ : MethodName) jdk_52_method_21_code 7 (some .int) ({ frames := 0, cells := 0, slots := 0, locals := 0 } : Room) #[(.ref a1), (.int (0 : Int32)), (.ref a2), (.int (0 : Int32)), (.int (2 : Int32))] h0 (fun v h L => ∃ r : Int32, v = some (.int r) ∧ Fr n0 L ∧ Keep h0 h [a2] ∧ Old Z n0 h ∧ (((255 : Int32) < x0 ∧ r = 0) ∨ ((255 : Int32) < x1 ∧ r = 1) ∨ ((¬ (255 : Int32) < x0 ∧ ¬ (255 : Int32) < x1) ∧ r = 2 ∧ Arv Z h a2 kd .byte 2 [(.int (nar .byte (x0.toInt8.toInt32))), (.int (nar .byte (x1.toInt8.toInt32)))] (.int 0)))) := by
  refine MetFree.of_bodySF (plainFor_of_name own_pn3) hisR ?_
  intro p e s m args below meth c s₁ Bd hml0 hP hK
  obtain ⟨rfl, hZ, hh⟩ := hP
  have hx := Bd.exec
  have hby := Bd.bytes
  have hml : c.maxLocals = 7 := hml0
  have hown : s.vm.findClass "java/lang/StringUTF16" = some m.cls := findClass_of_methodNamed Bd.named
  have hnm := (name_of_methodNamed Bd.named Bd.method).1
  have hlk : meth.locks = false := Bd.notSynchronized
  have X0 : Stand p l e ({ frames := 0, cells := 0, slots := 0, locals := 0 } : Room) s m #[(.ref a1), (.int (0 : Int32)), (.ref a2), (.int (0 : Int32)), (.int (2 : Int32))] below meth c s₁ [] 0 0 := Stand.of_body Bd
  have e0 : s₁.heap = h0 := by rw [← hh, Bd.state]; rfl
  have N0 := Fr.nil n0
  refine own_body (Q := fun v h L => ∃ r : Int32, v = some (.int r) ∧ Fr n0 L ∧ Keep h0 h [a2] ∧ Old Z n0 h ∧ (((255 : Int32) < x0 ∧ r = 0) ∨ ((255 : Int32) < x1 ∧ r = 1) ∨ ((¬ (255 : Int32) < x0 ∧ ¬ (255 : Int32) < x1) ∧ r = 2 ∧ Arv Z h a2 kd .byte 2 [(.int (nar .byte (x0.toInt8.toInt32))), (.int (nar .byte (x1.toInt8.toInt32)))] (.int 0)))) ?_
  refine own_go (fun _ kont => castTop (own_ef m #[(.ref a1), (.int (0 : Int32)), (.ref a2), (.int (0 : Int32)), (.int (2 : Int32))] 7 #[.val (.ref a1), .val (.int (0 : Int32)), .val (.ref a2), .val (.int (0 : Int32)), .val (.int (2 : Int32)), .unset, .unset] (own_al [(.ref a1), (.int (0 : Int32)), (.ref a2), (.int (0 : Int32)), (.int (2 : Int32))] 7 [.val (.ref a1), .val (.int (0 : Int32)), .val (.ref a2), .val (.int (0 : Int32)), .val (.int (2 : Int32)), .unset, .unset] rfl)) kont) ?_
  show own_Go _ _ _ _ (s₁.setTop (mkF m 0 #[.val (.ref a1), .val (.int (0 : Int32)), .val (.ref a2), .val (.int (0 : Int32)), .val (.int (2 : Int32)), .unset, .unset] []))
  have K0 : Keep h0 h0 [a2] := Keep.refl _ _
  refine own_go (fun _ => XS.iconst X0.here hx rfl (hb hby own_d5_0)) ?_
  refine own_go (fun _ => XS.istore X0.here hx rfl (hb hby own_d5_1) rfl (l' := #[.val (.ref a1), .val (.int (0 : Int32)), .val (.ref a2), .val (.int (0 : Int32)), .val (.int (2 : Int32)), .val (.int (0 : Int32)), .unset]) rfl) ?_
  refine own_go (fun _ => XS.iload X0.here hx rfl (hb hby own_d5_3) rfl) ?_
  refine own_go (fun _ => XS.iload X0.here hx rfl (hb hby own_d5_5) rfl) ?_
  show own_Go _ _ _ _ (s₁.setTop (mkF m 7 #[.val (.ref a1), .val (.int (0 : Int32)), .val (.ref a2), .val (.int (0 : Int32)), .val (.int (2 : Int32)), .val (.int (0 : Int32)), .unset] [(.int (2 : Int32)), (.int (0 : Int32))]))
  refine own_go (fun _ => XS.icmpNo X0.here hx rfl (hb hby own_d5_7) rfl (tlt (by decide)).2.1) ?_
  show own_Go _ _ _ _ (s₁.setTop (mkF m 10 #[.val (.ref a1), .val (.int (0 : Int32)), .val (.ref a2), .val (.int (0 : Int32)), .val (.int (2 : Int32)), .val (.int (0 : Int32)), .unset] []))
  refine own_go (fun _ => XS.aloadN X0.here hx rfl (hb hby own_d5_10) rfl rfl) ?_
  refine own_go (fun _ => XS.iloadN X0.here hx rfl (hb hby own_d5_11) rfl) ?_
  obtain ⟨cl1, Ar1, q1, Sz1, Ng1, Hs1, Gs1⟩ := id Vc
  have hin1 : ¬ ((0 : Int32) < 0 ∨ cl1.slots.size ≤ ((0 : Int32)).toNatClampNeg) := inb_of Sz1 ⟨by decide, by decide⟩
  have hat1 : cl1.slots[((0 : Int32)).toNatClampNeg]? = some (.int x0) := Hs1.at hin1 rfl
  refine own_go (X0.caload hx (j := (0 : Int32)) (v := (.int x0)) (own_hp e0 Ar1.1) (State.isArrayOf_alike hZ.alike Ar1.2.1) Ar1.2.2 hin1 hat1 (g := (mkF m 12 #[.val (.ref a1), .val (.int (0 : Int32)), .val (.ref a2), .val (.int (0 : Int32)), .val (.int (2 : Int32)), .val (.int (0 : Int32)), .unset] [(.int (0 : Int32)), (.ref a1)])) rfl rfl (hb hby own_d5_12)) ?_
  refine own_go (fun _ => XS.istore X0.here hx rfl (hb hby own_d5_13) rfl (l' := #[.val (.ref a1), .val (.int (0 : Int32)), .val (.ref a2), .val (.int (0 : Int32)), .val (.int (2 : Int32)), .val (.int (0 : Int32)), .val (.int x0)]) rfl) ?_
  refine own_go (fun _ => XS.iload X0.here hx rfl (hb hby own_d5_15) rfl) ?_
  show own_Go _ _ _ _ (s₁.setTop (mkF m 17 #[.val (.ref a1), .val (.int (0 : Int32)), .val (.ref a2), .val (.int (0 : Int32)), .val (.int (2 : Int32)), .val (.int (0 : Int32)), .val (.int x0)] [(.int x0)]))
  refine own_go (fun _ => XS.sipush X0.here hx rfl (hb hby own_d5_17)) ?_
  show own_Go _ _ _ _ (s₁.setTop (mkF m 20 #[.val (.ref a1), .val (.int (0 : Int32)), .val (.ref a2), .val (.int (0 : Int32)), .val (.int (2 : Int32)), .val (.int (0 : Int32)), .val (.int x0)] [(.int (255 : Int32)), (.int x0)]))
  by_cases hx0 : (255 : Int32) < x0
  · have _h := hx0
    refine own_go (fun _ => XS.icmpNo X0.here hx rfl (hb hby own_d5_20) rfl (tlt hx0).2.2.2) ?_
    show own_Go _ _ _ _ (s₁.setTop (mkF m 23 #[.val (.ref a1), .val (.int (0 : Int32)), .val (.ref a2), .val (.int (0 : Int32)), .val (.int (2 : Int32)), .val (.int (0 : Int32)), .val (.int x0)] []))
    refine own_go (fun _ => XS.iload X0.here hx rfl (hb hby own_d5_23) rfl) ?_
    show own_Go _ _ _ _ (s₁.setTop (mkF m 25 #[.val (.ref a1), .val (.int (0 : Int32)), .val (.ref a2), .val (.int (0 : Int32)), .val (.int (2 : Int32)), .val (.int (0 : Int32)), .val (.int x0)] [(.int (0 : Int32))]))
    refine own_ret X0 hlk (v := some (.int (0 : Int32))) (fun h => by rw [Bd.returns] at h; cases h) (fun fs hr => retOut X0 hx Bd.returns rfl (Or.inl ⟨rfl, Or.inl rfl, _, rfl⟩) (hb hby own_d5_25) hr) ?_ (by decide) (by decide)
    try rw [e0]
    exact ⟨_, rfl, N0, K0, O, Or.inl ⟨hx0, rfl⟩⟩
  · have _h := hx0
    refine own_go (fun _ => XS.icmpYes X0.here hx rfl (pc0 := 20) (pc' := 26) rfl (hb hby own_d5_20) rfl (flt hx0).2.2.2 (by decide) (by decide)) ?_
    show own_Go _ _ _ _ (s₁.setTop (mkF m 26 #[.val (.ref a1), .val (.int (0 : Int32)), .val (.ref a2), .val (.int (0 : Int32)), .val (.int (2 : Int32)), .val (.int (0 : Int32)), .val (.int x0)] []))
    refine own_go (fun _ => XS.aloadN X0.here hx rfl (hb hby own_d5_26) rfl rfl) ?_
    refine own_go (fun _ => XS.iloadN X0.here hx rfl (hb hby own_d5_27) rfl) ?_
    refine own_go (fun _ => XS.iload X0.here hx rfl (hb hby own_d5_28) rfl) ?_
    refine own_go (fun _ => XS.i2b X0.here hx rfl (hb hby own_d5_30) rfl) ?_
    obtain ⟨cl2, Ar2, q2, Sz2, Ng2, Hs2, Gs2⟩ := Vd
    have hin2 : ¬ ((0 : Int32) < 0 ∨ cl2.slots.size ≤ ((0 : Int32)).toNatClampNeg) := inb_of Sz2 ⟨by decide, by decide⟩
    obtain ⟨T2, h2, X2, e2, W2, st2⟩ := stB X0 hx hZ e0 Ar2 (j := (0 : Int32)) hin2 (g := (mkF m 31 #[.val (.ref a1), .val (.int (0 : Int32)), .val (.ref a2), .val (.int (0 : Int32)), .val (.int (2 : Int32)), .val (.int (0 : Int32)), .val (.int x0)] [(.int (x0.toInt8.toInt32)), (.int (0 : Int32)), (.ref a2)])) rfl rfl (hb hby own_d5_31)
    refine own_go st2 ?_
    have NF2 := Fr.snoc X2 N0 ge_a2
    replace Vd : Arv Z h2 a2 kd .byte (2 : Int32) [(.int (nar .byte (x0.toInt8.toInt32))), (.int (0 : Int32))] (.int (0 : Int32)) := Arv.set Ar2 q2 Sz2 Ng2 Hs2 Gs2 (fits_nar_byte _) W2 0 rfl (Nat.le_of_ble_eq_true rfl)
    replace Vc := Vc.other W2 ne12
    replace O := O.wr W2 ge_a2
    replace Z0 := Nat.le_trans Z0 (Keep.of_wr W2).1
    replace K0 := K0.wr W2 (Or.inl (List.mem_of_getElem? (i := 0) rfl))
    show own_Go _ _ _ _ (T2.setTop (mkF m 32 #[.val (.ref a1), .val (.int (0 : Int32)), .val (.ref a2), .val (.int (0 : Int32)), .val (.int (2 : Int32)), .val (.int (0 : Int32)), .val (.int x0)] []))
    refine own_go (fun _ => XS.iinc X2.here hx rfl (hb hby own_d5_32) rfl (l' := #[.val (.ref a1), .val (.int (1 : Int32)), .val (.ref a2), .val (.int (0 : Int32)), .val (.int (2 : Int32)), .val (.int (0 : Int32)), .val (.int x0)]) rfl) ?_
    refine own_go (fun _ => XS.iinc X2.here hx rfl (hb hby own_d5_35) rfl (l' := #[.val (.ref a1), .val (.int (1 : Int32)), .val (.ref a2), .val (.int (1 : Int32)), .val (.int (2 : Int32)), .val (.int (0 : Int32)), .val (.int x0)]) rfl) ?_
    refine own_go (fun _ => XS.iinc X2.here hx rfl (hb hby own_d5_38) rfl (l' := #[.val (.ref a1), .val (.int (1 : Int32)), .val (.ref a2), .val (.int (1 : Int32)), .val (.int (2 : Int32)), .val (.int (1 : Int32)), .val (.int x0)]) rfl) ?_
    refine own_go (fun _ => XS.goto X2.here hx rfl (pc0 := 41) (pc' := 3) rfl (hb hby own_d5_41) (by decide) (by decide)) ?_
    refine own_go (fun _ => XS.iload X2.here hx rfl (hb hby own_d5_3) rfl) ?_
    show own_Go _ _ _ _ (T2.setTop (mkF m 5 #[.val (.ref a1), .val (.int (1 : Int32)), .val (.ref a2), .val (.int (1 : Int32)), .val (.int (2 : Int32)), .val (.int (1 : Int32)), .val (.int x0)] [(.int (1 : Int32))]))
    refine own_go (fun _ => XS.iload X2.here hx rfl (hb hby own_d5_5) rfl) ?_
    show own_Go _ _ _ _ (T2.setTop (mkF m 7 #[.val (.ref a1), .val (.int (1 : Int32)), .val (.ref a2), .val (.int (1 : Int32)), .val (.int (2 : Int32)), .val (.int (1 : Int32)), .val (.int x0)] [(.int (2 : Int32)), (.int (1 : Int32))]))
    refine own_go (fun _ => XS.icmpNo X2.here hx rfl (hb hby own_d5_7) rfl (tlt (by decide)).2.1) ?_
    show own_Go _ _ _ _ (T2.setTop (mkF m 10 #[.val (.ref a1), .val (.int (1 : Int32)), .val (.ref a2), .val (.int (1 : Int32)), .val (.int (2 : Int32)), .val (.int (1 : Int32)), .val (.int x0)] []))
    refine own_go (fun _ => XS.aloadN X2.here hx rfl (hb hby own_d5_10) rfl rfl) ?_
    refine own_go (fun _ => XS.iloadN X2.here hx rfl (hb hby own_d5_11) rfl) ?_
    obtain ⟨cl3, Ar3, q3, Sz3, Ng3, Hs3, Gs3⟩ := id Vc
    have hin3 : ¬ ((1 : Int32) < 0 ∨ cl3.slots.size ≤ ((1 : Int32)).toNatClampNeg) := inb_of Sz3 ⟨by decide, by decide⟩
    have hat3 : cl3.slots[((1 : Int32)).toNatClampNeg]? = some (.int x1) := Hs3.at hin3 rfl
    refine own_go (X2.caload hx (j := (1 : Int32)) (v := (.int x1)) (own_hp e2 Ar3.1) (State.isArrayOf_alike hZ.alike Ar3.2.1) Ar3.2.2 hin3 hat3 (g := (mkF m 12 #[.val (.ref a1), .val (.int (1 : Int32)), .val (.ref a2), .val (.int (1 : Int32)), .val (.int (2 : Int32)), .val (.int (1 : Int32)), .val (.int x0)] [(.int (1 : Int32)), (.ref a1)])) rfl rfl (hb hby own_d5_12)) ?_
    refine own_go (fun _ => XS.istore X2.here hx rfl (hb hby own_d5_13) rfl (l' := #[.val (.ref a1), .val (.int (1 : Int32)), .val (.ref a2), .val (.int (1 : Int32)), .val (.int (2 : Int32)), .val (.int (1 : Int32)), .val (.int x1)]) rfl) ?_
    refine own_go (fun _ => XS.iload X2.here hx rfl (hb hby own_d5_15) rfl) ?_
    show own_Go _ _ _ _ (T2.setTop (mkF m 17 #[.val (.ref a1), .val (.int (1 : Int32)), .val (.ref a2), .val (.int (1 : Int32)), .val (.int (2 : Int32)), .val (.int (1 : Int32)), .val (.int x1)] [(.int x1)]))
    refine own_go (fun _ => XS.sipush X2.here hx rfl (hb hby own_d5_17)) ?_
    show own_Go _ _ _ _ (T2.setTop (mkF m 20 #[.val (.ref a1), .val (.int (1 : Int32)), .val (.ref a2), .val (.int (1 : Int32)), .val (.int (2 : Int32)), .val (.int (1 : Int32)), .val (.int x1)] [(.int (255 : Int32)), (.int x1)]))
    by_cases hx1 : (255 : Int32) < x1
    · have _h := hx1
      refine own_go (fun _ => XS.icmpNo X2.here hx rfl (hb hby own_d5_20) rfl (tlt hx1).2.2.2) ?_
      show own_Go _ _ _ _ (T2.setTop (mkF m 23 #[.val (.ref a1), .val (.int (1 : Int32)), .val (.ref a2), .val (.int (1 : Int32)), .val (.int (2 : Int32)), .val (.int (1 : Int32)), .val (.int x1)] []))
      refine own_go (fun _ => XS.iload X2.here hx rfl (hb hby own_d5_23) rfl) ?_
      show own_Go _ _ _ _ (T2.setTop (mkF m 25 #[.val (.ref a1), .val (.int (1 : Int32)), .val (.ref a2), .val (.int (1 : Int32)), .val (.int (2 : Int32)), .val (.int (1 : Int32)), .val (.int x1)] [(.int (1 : Int32))]))
      refine own_ret X2 hlk (v := some (.int (1 : Int32))) (fun h => by rw [Bd.returns] at h; cases h) (fun fs hr => retOut X2 hx Bd.returns rfl (Or.inl ⟨rfl, Or.inl rfl, _, rfl⟩) (hb hby own_d5_25) hr) ?_ (by decide) (by decide)
      try rw [e2]
      exact ⟨_, rfl, NF2, K0, O, Or.inr (Or.inl ⟨hx1, rfl⟩)⟩
    · have _h := hx1
      refine own_go (fun _ => XS.icmpYes X2.here hx rfl (pc0 := 20) (pc' := 26) rfl (hb hby own_d5_20) rfl (flt hx1).2.2.2 (by decide) (by decide)) ?_
      show own_Go _ _ _ _ (T2.setTop (mkF m 26 #[.val (.ref a1), .val (.int (1 : Int32)), .val (.ref a2), .val (.int (1 : Int32)), .val (.int (2 : Int32)), .val (.int (1 : Int32)), .val (.int x1)] []))
      refine own_go (fun _ => XS.aloadN X2.here hx rfl (hb hby own_d5_26) rfl rfl) ?_
      refine own_go (fun _ => XS.iloadN X2.here hx rfl (hb hby own_d5_27) rfl) ?_
      refine own_go (fun _ => XS.iload X2.here hx rfl (hb hby own_d5_28) rfl) ?_
      refine own_go (fun _ => XS.i2b X2.here hx rfl (hb hby own_d5_30) rfl) ?_
      obtain ⟨cl4, Ar4, q4, Sz4, Ng4, Hs4, Gs4⟩ := Vd
      have hin4 : ¬ ((1 : Int32) < 0 ∨ cl4.slots.size ≤ ((1 : Int32)).toNatClampNeg) := inb_of Sz4 ⟨by decide, by decide⟩
      obtain ⟨T4, h4, X4, e4, W4, st4⟩ := stB X2 hx hZ e2 Ar4 (j := (1 : Int32)) hin4 (g := (mkF m 31 #[.val (.ref a1), .val (.int (1 : Int32)), .val (.ref a2), .val (.int (1 : Int32)), .val (.int (2 : Int32)), .val (.int (1 : Int32)), .val (.int x1)] [(.int (x1.toInt8.toInt32)), (.int (1 : Int32)), (.ref a2)])) rfl rfl (hb hby own_d5_31)
      refine own_go st4 ?_
      have NF4 := Fr.snoc X4 NF2 ge_a2
      replace Vd : Arv Z h4 a2 kd .byte (2 : Int32) [(.int (nar .byte (x0.toInt8.toInt32))), (.int (nar .byte (x1.toInt8.toInt32)))] (.int (0 : Int32)) := Arv.set Ar4 q4 Sz4 Ng4 Hs4 Gs4 (fits_nar_byte _) W4 1 rfl (Nat.le_of_ble_eq_true rfl)
      replace Vc := Vc.other W4 ne12
      replace O := O.wr W4 ge_a2
      replace Z0 := Nat.le_trans Z0 (Keep.of_wr W4).1
      replace K0 := K0.wr W4 (Or.inl (List.mem_of_getElem? (i := 0) rfl))
      show own_Go _ _ _ _ (T4.setTop (mkF m 32 #[.val (.ref a1), .val (.int (1 : Int32)), .val (.ref a2), .val (.int (1 : Int32)), .val (.int (2 : Int32)), .val (.int (1 : Int32)), .val (.int x1)] []))
      refine own_go (fun _ => XS.iinc X4.here hx rfl (hb hby own_d5_32) rfl (l' := #[.val (.ref a1), .val (.int (2 : Int32)), .val (.ref a2), .val (.int (1 : Int32)), .val (.int (2 : Int32)), .val (.int (1 : Int32)), .val (.int x1)]) rfl) ?_
      refine own_go (fun _ => XS.iinc X4.here hx rfl (hb hby own_d5_35) rfl (l' := #[.val (.ref a1), .val (.int (2 : Int32)), .val (.ref a2), .val (.int (2 : Int32)), .val (.int (2 : Int32)), .val (.int (1 : Int32)), .val (.int x1)]) rfl) ?_
      refine own_go (fun _ => XS.iinc X4.here hx rfl (hb hby own_d5_38) rfl (l' := #[.val (.ref a1), .val (.int (2 : Int32)), .val (.ref a2), .val (.int (2 : Int32)), .val (.int (2 : Int32)), .val (.int (2 : Int32)), .val (.int x1)]) rfl) ?_
      refine own_go (fun _ => XS.goto X4.here hx rfl (pc0 := 41) (pc' := 3) rfl (hb hby own_d5_41) (by decide) (by decide)) ?_
      refine own_go (fun _ => XS.iload X4.here hx rfl (hb hby own_d5_3) rfl) ?_
      show own_Go _ _ _ _ (T4.setTop (mkF m 5 #[.val (.ref a1), .val (.int (2 : Int32)), .val (.ref a2), .val (.int (2 : Int32)), .val (.int (2 : Int32)), .val (.int (2 : Int32)), .val (.int x1)] [(.int (2 : Int32))]))
      refine own_go (fun _ => XS.iload X4.here hx rfl (hb hby own_d5_5) rfl) ?_
      show own_Go _ _ _ _ (T4.setTop (mkF m 7 #[.val (.ref a1), .val (.int (2 : Int32)), .val (.ref a2), .val (.int (2 : Int32)), .val (.int (2 : Int32)), .val (.int (2 : Int32)), .val (.int x1)] [(.int (2 : Int32)), (.int (2 : Int32))]))
      refine own_go (fun _ => XS.icmpYes X4.here hx rfl (pc0 := 7) (pc' := 44) rfl (hb hby own_d5_7) rfl (flt (by decide)).2.1 (by decide) (by decide)) ?_
      show own_Go _ _ _ _ (T4.setTop (mkF m 44 #[.val (.ref a1), .val (.int (2 : Int32)), .val (.ref a2), .val (.int (2 : Int32)), .val (.int (2 : Int32)), .val (.int (2 : Int32)), .val (.int x1)] []))
      refine own_go (fun _ => XS.iload X4.here hx rfl (hb hby own_d5_44) rfl) ?_
      show own_Go _ _ _ _ (T4.setTop (mkF m 46 #[.val (.ref a1), .val (.int (2 : Int32)), .val (.ref a2), .val (.int (2 : Int32)), .val (.int (2 : Int32)), .val (.int (2 : Int32)), .val (.int x1)] [(.int (2 : Int32))]))
      refine own_ret X4 hlk (v := some (.int (2 : Int32))) (fun h => by rw [Bd.returns] at h; cases h) (fun fs hr => retOut X4 hx Bd.returns rfl (Or.inl ⟨rfl, Or.inl rfl, _, rfl⟩) (hb hby own_d5_46) hr) ?_ (by decide) (by decide)
      try rw [e4]
      exact ⟨_, rfl, NF4, K0, O, Or.inr (Or.inr (⟨⟨hx0, hx1⟩, rfl, Vd⟩))⟩
set_option maxRecDepth 65536 in
set_option maxHeartbeats 40000000 in
theorem own_rmML2 (l : Launch) (Z : State) (a0 : Array Value) (hw : ∀ d ∈ tables_1, d.before a0 Z = true) (a1 : Addr) (kc : ClassId) (x0 : Int32) (x1 : Int32) (h0 : Heap) (n0 : Nat) (Z0 : n0 ≤ h0.size) (Vc : Arv Z h0 a1 kc .char 2 [(.int x0), (.int x1)] (.int 0)) (O : Old Z n0 h0) (hx' : ¬ (255 : Int32) < x0 ∧ ¬ (255 : Int32) < x1) :
    own_Met l Z [] (⟨"java/lang/StringUTF16", "compress", "([CII)[B"⟩ : MethodName) jdk_52_method_16_code 6 (some (.array .byte)) ({ frames := 3, cells := 2, slots := 9, locals := 40 } : Room) #[(.ref a1), (.int (0 : Int32)), (.int (2 : Int32))] h0 (fun v h L => ∃ (b : Addr) (k : ClassId), v = some (.ref b) ∧ Fr n0 L ∧ Keep h0 h [] ∧ Old Z n0 h ∧ n0 ≤ b ∧ h0.size ≤ b ∧ Arv Z h b k .byte 2 [(.int (nar .byte (x0.toInt8.toInt32))), (.int (nar .byte (x1.toInt8.toInt32)))] (.int 0)) := by
  refine MetFree.of_bodySF (plainFor_of_name own_pn3) hisR ?_
  intro p e s m args below meth c s₁ Bd hml0 hP hK
  obtain ⟨rfl, hZ, hh⟩ := hP
  have hx := Bd.exec
  have hby := Bd.bytes
  have hml : c.maxLocals = 6 := hml0
  have hown : s.vm.findClass "java/lang/StringUTF16" = some m.cls := findClass_of_methodNamed Bd.named
  have hnm := (name_of_methodNamed Bd.named Bd.method).1
  have hlk : meth.locks = false := Bd.notSynchronized
  have X0 : Stand p l e ({ frames := 3, cells := 2, slots := 9, locals := 40 } : Room) s m #[(.ref a1), (.int (0 : Int32)), (.int (2 : Int32))] below meth c s₁ [] 0 0 := Stand.of_body Bd
  have e0 : s₁.heap = h0 := by rw [← hh, Bd.state]; rfl
  have N0 := Fr.nil n0
  refine own_body (Q := fun v h L => ∃ (b : Addr) (k : ClassId), v = some (.ref b) ∧ Fr n0 L ∧ Keep h0 h [] ∧ Old Z n0 h ∧ n0 ≤ b ∧ h0.size ≤ b ∧ Arv Z h b k .byte 2 [(.int (nar .byte (x0.toInt8.toInt32))), (.int (nar .byte (x1.toInt8.toInt32)))] (.int 0)) ?_
  refine own_go (fun _ kont => castTop (own_ef m #[(.ref a1), (.int (0 : Int32)), (.int (2 : Int32))] 6 #[.val (.ref a1), .val (.int (0 : Int32)), .val (.int (2 : Int32)), .unset, .unset, .unset] (own_al [(.ref a1), (.int (0 : Int32)), (.int (2 : Int32))] 6 [.val (.ref a1), .val (.int (0 : Int32)), .val (.int (2 : Int32)), .unset, .unset, .unset] rfl)) kont) ?_
  show own_Go _ _ _ _ (s₁.setTop (mkF m 0 #[.val (.ref a1), .val (.int (0 : Int32)), .val (.int (2 : Int32)), .unset, .unset, .unset] []))
  have K0 : Keep h0 h0 [] := Keep.refl _ _
  refine own_go (fun _ => XS.iloadN X0.here hx rfl (hb hby own_d4_0) rfl) ?_
  obtain ⟨T1, h1, k1, X1, e1, E1, A1, st1⟩ := newP X0 hx hZ (hw _ (List.mem_of_getElem? (i := 20) rfl)) e0 (g := (mkF m 1 #[.val (.ref a1), .val (.int (0 : Int32)), .val (.int (2 : Int32)), .unset, .unset, .unset] [(.int (2 : Int32))])) rfl (hb hby own_d4_1) rfl (by decide) (cap := 2) (by decide) (by decide) (by decide) (by decide)
  obtain ⟨b1, g1⟩ : ∃ z, z = h0.size := ⟨_, rfl⟩
  rw [← g1] at A1 st1
  refine own_go st1 ?_
  have ge_b1 : n0 ≤ b1 := Nat.le_trans Z0 (Nat.le_of_eq g1.symm)
  have ne_a1_b1 : a1 ≠ b1 := Nat.ne_of_lt (Nat.lt_of_lt_of_le Vc.lt (Nat.le_of_eq g1.symm))
  have sz_b1 : h0.size ≤ b1 := Nat.le_trans K0.1 (Nat.le_of_eq g1.symm)
  replace Vc := Vc.ext E1
  replace O := O.ext E1
  replace Z0 := Nat.le_trans Z0 E1.1
  replace K0 := K0.ext E1
  have V_b1 : Arv Z h1 b1 k1 .byte (2 : Int32) [(.int (0 : Int32)), (.int (0 : Int32))] (.int (0 : Int32)) := (Arv.new A1 (by decide)).pad (pad_rep [] (.int (0 : Int32)) 2)
  refine own_go (fun _ => XS.astoreN X1.here hx rfl (hb hby own_d4_3) rfl rfl (l' := #[.val (.ref a1), .val (.int (0 : Int32)), .val (.int (2 : Int32)), .val (.ref b1), .unset, .unset]) rfl) ?_
  refine own_go (fun _ => XS.aloadN X1.here hx rfl (hb hby own_d4_4) rfl rfl) ?_
  refine own_go (fun _ => XS.iloadN X1.here hx rfl (hb hby own_d4_5) rfl) ?_
  show own_Go _ _ _ _ (T1.setTop (mkF m 6 #[.val (.ref a1), .val (.int (0 : Int32)), .val (.int (2 : Int32)), .val (.ref b1), .unset, .unset] [(.int (0 : Int32)), (.ref a1)]))
  refine own_go (fun _ => XS.aloadN X1.here hx rfl (hb hby own_d4_6) rfl rfl) ?_
  refine own_go (fun _ => XS.iconst X1.here hx rfl (hb hby own_d4_7)) ?_
  refine own_go (fun _ => XS.iloadN X1.here hx rfl (hb hby own_d4_8) rfl) ?_
  show own_Go _ _ _ _ (T1.setTop (mkF m 9 #[.val (.ref a1), .val (.int (0 : Int32)), .val (.int (2 : Int32)), .val (.ref b1), .unset, .unset] [(.int (2 : Int32)), (.int (0 : Int32)), (.ref b1), (.int (0 : Int32)), (.ref a1)]))
  obtain ⟨_, _, ⟨T2, L2, k2, n2⟩, -, X2, ⟨Lc2, hQ2, l2, y2, z2⟩, st2⟩ := Jvm.LawKit.callS X1 hx (y := (⟨"java/lang/StringUTF16", "compress", "([CI[BII)I"⟩ : MethodName)) hown (mvT hZ (hw _ (List.mem_of_getElem? (i := 21) rfl))) (mvT hZ (hw _ (List.mem_of_getElem? (i := 22) rfl))) (mvT hZ (hw _ (List.mem_of_getElem? (i := 18) rfl))) (mvT hZ (hw _ (List.mem_of_getElem? (i := 23) rfl))) (by decide) (own_back (W := 0) (own_rmK2 l Z a0 hw a1 b1 kc k1 x0 x1 h1 n0 Z0 Vc V_b1 ge_b1 ne_a1_b1 O) hZ (hw _ (List.mem_of_getElem? (i := 23) rfl)) (hw _ (List.mem_of_getElem? (i := 18) rfl)) (by decide) (by decide)) (g := (mkF m 9 #[.val (.ref a1), .val (.int (0 : Int32)), .val (.int (2 : Int32)), .val (.ref b1), .unset, .unset] [(.int (2 : Int32)), (.int (0 : Int32)), (.ref b1), (.int (0 : Int32)), (.ref a1)])) rfl (by rw [hml]; rfl) (argsL := [(.ref a1), (.int (0 : Int32)), (.ref b1), (.int (0 : Int32)), (.int (2 : Int32))]) (rest := []) (lenOf own_pd8 rfl) rfl (by show 2 * 0 + _ ≤ _; exact Nat.le_of_eq rfl) (hb hby own_d4_9) (fun _ _ => ⟨rfl, e1, (by decide : 1 + 0 ≤ _), (by decide : 2 + 0 ≤ _)⟩)
  dsimp only [Pt.U, Pt.locs, Pt.cells, Pt.slots] at X2 l2 y2 z2 st2 hQ2
  replace X2 := own_cst X2 l2 y2 z2 (k2 := 1) (n2 := 2) rfl rfl
  clear l2 y2 z2
  obtain ⟨r2, rfl, Nq2, K2, O2, Dj2⟩ := hQ2
  have NF2 := Fr.app N0 Nq2
  refine own_go st2 ?_
  replace Vc := Vc.keep K2 (ninS ne_a1_b1 nin0)
  replace Z0 := Nat.le_trans Z0 K2.1
  replace K0 := K0.trans K2 (allS (Or.inr sz_b1) all0)
  have O := O2
  have DV : r2 = 2 ∧ Arv Z T2.heap b1 k1 .byte 2 [(.int (nar .byte (x0.toInt8.toInt32))), (.int (nar .byte (x1.toInt8.toInt32)))] (.int 0) := by
    rcases Dj2 with ⟨q, -⟩ | ⟨q, -⟩ | ⟨-, q⟩
    · exact absurd q hx'.1
    · exact absurd q hx'.2
    · exact q
  obtain ⟨rfl, V2⟩ := DV
  show own_Go _ _ _ _ (T2.setTop (mkF m 12 #[.val (.ref a1), .val (.int (0 : Int32)), .val (.int (2 : Int32)), .val (.ref b1), .unset, .unset] [(.int (2 : Int32))]))
  refine own_go (fun _ => XS.istore X2.here hx rfl (hb hby own_d4_12) rfl (l' := #[.val (.ref a1), .val (.int (0 : Int32)), .val (.int (2 : Int32)), .val (.ref b1), .val (.int (2 : Int32)), .unset]) rfl) ?_
  refine own_go (fun _ => XS.iload X2.here hx rfl (hb hby own_d4_14) rfl) ?_
  refine own_go (fun _ => XS.iloadN X2.here hx rfl (hb hby own_d4_16) rfl) ?_
  show own_Go _ _ _ _ (T2.setTop (mkF m 17 #[.val (.ref a1), .val (.int (0 : Int32)), .val (.int (2 : Int32)), .val (.ref b1), .val (.int (2 : Int32)), .unset] [(.int (2 : Int32)), (.int (2 : Int32))]))
  refine own_go (fun _ => XS.icmpYes X2.here hx rfl (pc0 := 17) (pc' := 57) rfl (hb hby own_d4_17) rfl (teq rfl).1 (by decide) (by decide)) ?_
  show own_Go _ _ _ _ (T2.setTop (mkF m 57 #[.val (.ref a1), .val (.int (0 : Int32)), .val (.int (2 : Int32)), .val (.ref b1), .val (.int (2 : Int32)), .unset] []))
  refine own_go (fun _ => XS.aloadN X2.here hx rfl (hb hby own_d4_57) rfl rfl) ?_
  show own_Go _ _ _ _ (T2.setTop (mkF m 58 #[.val (.ref a1), .val (.int (0 : Int32)), .val (.int (2 : Int32)), .val (.ref b1), .val (.int (2 : Int32)), .unset] [(.ref b1)]))
  refine own_ret X2 hlk (v := some (.ref b1)) (fun h => by rw [Bd.returns] at h; cases h) (fun fs hr => retOut X2 hx Bd.returns rfl (Or.inr (Or.inr (Or.inr (Or.inr ⟨rfl, rfl, rfl⟩)))) (hb hby own_d4_58) hr) ?_ (by decide) (by decide)
  skip
  exact ⟨b1, k1, rfl, NF2, K0, O, ge_b1, sz_b1, V2⟩
set_option maxRecDepth 65536 in
set_option maxHeartbeats 40000000 in
theorem own_rmNB2 (l : Launch) (Z : State) (a0 : Array Value) (hw : ∀ d ∈ tables_1, d.before a0 Z = true)  (h0 : Heap) (n0 : Nat) (Z0 : n0 ≤ h0.size) (O : Old Z n0 h0) :
    own_Met l Z [] (⟨"java/lang/StringUTF16", "newBytesFor", "(I)[B"⟩ : MethodName) jdk_52_method_2_code 1 (some (.array .byte)) ({ frames := 1, cells := 1, slots := 4, locals := 12 } : Room) #[(.int (2 : Int32))] h0 (fun v h L => ∃ (b : Addr) (k : ClassId), v = some (.ref b) ∧ Fr n0 L ∧ Keep h0 h [] ∧ Old Z n0 h ∧ n0 ≤ b ∧ h0.size ≤ b ∧ Arv Z h b k .byte 4 [(.int 0), (.int 0), (.int 0), (.int 0)] (.int 0)) := by
  refine MetFree.of_bodySF (plainFor_of_name own_pn3) hisR ?_
  intro p e s m args below meth c s₁ Bd hml0 hP hK
  obtain ⟨rfl, hZ, hh⟩ := hP
  have hx := Bd.exec
  have hby := Bd.bytes
  have hml : c.maxLocals = 1 := hml0
  have hown : s.vm.findClass "java/lang/StringUTF16" = some m.cls := findClass_of_methodNamed Bd.named
  have hnm := (name_of_methodNamed Bd.named Bd.method).1
  have hlk : meth.locks = false := Bd.notSynchronized
  have X0 : Stand p l e ({ frames := 1, cells := 1, slots := 4, locals := 12 } : Room) s m #[(.int (2 : Int32))] below meth c s₁ [] 0 0 := Stand.of_body Bd
  have e0 : s₁.heap = h0 := by rw [← hh, Bd.state]; rfl
  have N0 := Fr.nil n0
  refine own_body (Q := fun v h L => ∃ (b : Addr) (k : ClassId), v = some (.ref b) ∧ Fr n0 L ∧ Keep h0 h [] ∧ Old Z n0 h ∧ n0 ≤ b ∧ h0.size ≤ b ∧ Arv Z h b k .byte 4 [(.int 0), (.int 0), (.int 0), (.int 0)] (.int 0)) ?_
  refine own_go (fun _ kont => castTop (own_ef m #[(.int (2 : Int32))] 1 #[.val (.int (2 : Int32))] (own_al [(.int (2 : Int32))] 1 [.val (.int (2 : Int32))] rfl)) kont) ?_
  show own_Go _ _ _ _ (s₁.setTop (mkF m 0 #[.val (.int (2 : Int32))] []))
  have K0 : Keep h0 h0 [] := Keep.refl _ _
  refine own_go (fun _ => XS.iloadN X0.here hx rfl (hb hby own_d27_0) rfl) ?_
  show own_Go _ _ _ _ (s₁.setTop (mkF m 1 #[.val (.int (2 : Int32))] [(.int (2 : Int32))]))
  obtain ⟨_, _, ⟨T1, L1, k1, n1⟩, -, X1, ⟨Lc1, hQ1, l1, y1, z1⟩, st1⟩ := Jvm.LawKit.callS X0 hx (y := (⟨"java/lang/StringUTF16", "newBytesLength", "(I)I"⟩ : MethodName)) hown (mvT hZ (hw _ (List.mem_of_getElem? (i := 124) rfl))) (mvT hZ (hw _ (List.mem_of_getElem? (i := 125) rfl))) (mvT hZ (hw _ (List.mem_of_getElem? (i := 18) rfl))) (mvT hZ (hw _ (List.mem_of_getElem? (i := 126) rfl))) (by decide) (own_back (W := 0) (own_rmBL l Z a0 hw 2 4 h0 n0 Z0 (by decide) (by decide) (by decide)) hZ (hw _ (List.mem_of_getElem? (i := 126) rfl)) (hw _ (List.mem_of_getElem? (i := 18) rfl)) (by decide) (by decide)) (g := (mkF m 1 #[.val (.int (2 : Int32))] [(.int (2 : Int32))])) rfl (by rw [hml]; rfl) (argsL := [(.int (2 : Int32))]) (rest := []) (lenOf own_pd9 rfl) rfl (by show 2 * 0 + _ ≤ _; exact Nat.le_of_eq rfl) (hb hby own_d27_1) (fun _ _ => ⟨rfl, e0, (by decide : 0 + 0 ≤ _), (by decide : 0 + 0 ≤ _)⟩)
  dsimp only [Pt.U, Pt.locs, Pt.cells, Pt.slots] at X1 l1 y1 z1 st1 hQ1
  replace X1 := own_cst X1 l1 y1 z1 (k2 := 0) (n2 := 0) rfl rfl
  clear l1 y1 z1
  obtain ⟨rfl, Nq1, eq1⟩ := hQ1
  have NF1 := Fr.app N0 Nq1
  refine own_go st1 ?_
  show own_Go _ _ _ _ (T1.setTop (mkF m 4 #[.val (.int (2 : Int32))] [(.int (4 : Int32))]))
  obtain ⟨T2, h2, k2, X2, e2, E2, A2, st2⟩ := newP X1 hx hZ (hw _ (List.mem_of_getElem? (i := 20) rfl)) eq1 (g := (mkF m 4 #[.val (.int (2 : Int32))] [(.int (4 : Int32))])) rfl (hb hby own_d27_4) rfl (by decide) (cap := 4) (by decide) (by decide) (by decide) (by decide)
  obtain ⟨b2, g2⟩ : ∃ z, z = h0.size := ⟨_, rfl⟩
  rw [← g2] at A2 st2
  refine own_go st2 ?_
  have ge_b2 : n0 ≤ b2 := Nat.le_trans Z0 (Nat.le_of_eq g2.symm)
  have sz_b2 : h0.size ≤ b2 := Nat.le_trans K0.1 (Nat.le_of_eq g2.symm)
  replace O := O.ext E2
  replace Z0 := Nat.le_trans Z0 E2.1
  replace K0 := K0.ext E2
  have V_b2 : Arv Z h2 b2 k2 .byte (4 : Int32) [(.int (0 : Int32)), (.int (0 : Int32)), (.int (0 : Int32)), (.int (0 : Int32))] (.int (0 : Int32)) := (Arv.new A2 (by decide)).pad (pad_rep [] (.int (0 : Int32)) 4)
  show own_Go _ _ _ _ (T2.setTop (mkF m 6 #[.val (.int (2 : Int32))] [(.ref b2)]))
  refine own_ret X2 hlk (v := some (.ref b2)) (fun h => by rw [Bd.returns] at h; cases h) (fun fs hr => retOut X2 hx Bd.returns rfl (Or.inr (Or.inr (Or.inr (Or.inr ⟨rfl, rfl, rfl⟩)))) (hb hby own_d27_6) hr) ?_ (by decide) (by decide)
  try rw [e2]
  exact ⟨b2, k2, rfl, NF1, K0, O, ge_b2, sz_b2, V_b2⟩
set_option maxRecDepth 65536 in
set_option maxHeartbeats 40000000 in
theorem own_rmTB2 (l : Launch) (Z : State) (a0 : Array Value) (hw : ∀ d ∈ tables_1, d.before a0 Z = true) (a1 : Addr) (kc : ClassId) (x0 : Int32) (x1 : Int32) (h0 : Heap) (n0 : Nat) (Z0 : n0 ≤ h0.size) (Vc : Arv Z h0 a1 kc .char 2 [(.int x0), (.int x1)] (.int 0)) (O : Old Z n0 h0) (S_A : Sta Z Z.heap "java/lang/StringUTF16" "$assertionsDisabled" "Z" (.int 1)) (S_H : Sta Z Z.heap "java/lang/StringUTF16" "HI_BYTE_SHIFT" "I" (.int 0)) (S_L : Sta Z Z.heap "java/lang/StringUTF16" "LO_BYTE_SHIFT" "I" (.int 8)) :
    own_Met l Z [] (⟨"java/lang/StringUTF16", "toBytes", "([CII)[B"⟩ : MethodName) jdk_52_method_14_code 5 (some (.array .byte)) ({ frames := 2, cells := 1, slots := 4, locals := 24 } : Room) #[(.ref a1), (.int (0 : Int32)), (.int (2 : Int32))] h0 (fun v h L => ∃ (b : Addr) (k : ClassId), v = some (.ref b) ∧ Fr n0 L ∧ Keep h0 h [] ∧ Old Z n0 h ∧ n0 ≤ b ∧ h0.size ≤ b ∧ Arv Z h b k .byte 4 [(.int (nar .byte ((x0 >>> ((0 : Int32) &&& 31)).toInt8.toInt32))), (.int (nar .byte ((x0 >>> ((8 : Int32) &&& 31)).toInt8.toInt32))), (.int (nar .byte ((x1 >>> ((0 : Int32) &&& 31)).toInt8.toInt32))), (.int (nar .byte ((x1 >>> ((8 : Int32) &&& 31)).toInt8.toInt32)))] (.int 0)) := by
  refine MetFree.of_bodySF (plainFor_of_name own_pn3) hisR ?_
  intro p e s m args below meth c s₁ Bd hml0 hP hK
  obtain ⟨rfl, hZ, hh⟩ := hP
  have hx := Bd.exec
  have hby := Bd.bytes
  have hml : c.maxLocals = 5 := hml0
  have hown : s.vm.findClass "java/lang/StringUTF16" = some m.cls := findClass_of_methodNamed Bd.named
  have hnm := (name_of_methodNamed Bd.named Bd.method).1
  have hlk : meth.locks = false := Bd.notSynchronized
  have X0 : Stand p l e ({ frames := 2, cells := 1, slots := 4, locals := 24 } : Room) s m #[(.ref a1), (.int (0 : Int32)), (.int (2 : Int32))] below meth c s₁ [] 0 0 := Stand.of_body Bd
  have e0 : s₁.heap = h0 := by rw [← hh, Bd.state]; rfl
  have N0 := Fr.nil n0
  refine own_body (Q := fun v h L => ∃ (b : Addr) (k : ClassId), v = some (.ref b) ∧ Fr n0 L ∧ Keep h0 h [] ∧ Old Z n0 h ∧ n0 ≤ b ∧ h0.size ≤ b ∧ Arv Z h b k .byte 4 [(.int (nar .byte ((x0 >>> ((0 : Int32) &&& 31)).toInt8.toInt32))), (.int (nar .byte ((x0 >>> ((8 : Int32) &&& 31)).toInt8.toInt32))), (.int (nar .byte ((x1 >>> ((0 : Int32) &&& 31)).toInt8.toInt32))), (.int (nar .byte ((x1 >>> ((8 : Int32) &&& 31)).toInt8.toInt32)))] (.int 0)) ?_
  refine own_go (fun _ kont => castTop (own_ef m #[(.ref a1), (.int (0 : Int32)), (.int (2 : Int32))] 5 #[.val (.ref a1), .val (.int (0 : Int32)), .val (.int (2 : Int32)), .unset, .unset] (own_al [(.ref a1), (.int (0 : Int32)), (.int (2 : Int32))] 5 [.val (.ref a1), .val (.int (0 : Int32)), .val (.int (2 : Int32)), .unset, .unset] rfl)) kont) ?_
  show own_Go _ _ _ _ (s₁.setTop (mkF m 0 #[.val (.ref a1), .val (.int (0 : Int32)), .val (.int (2 : Int32)), .unset, .unset] []))
  have K0 : Keep h0 h0 [] := Keep.refl _ _
  refine own_go (fun _ => XS.iloadN X0.here hx rfl (hb hby own_d26_0) rfl) ?_
  show own_Go _ _ _ _ (s₁.setTop (mkF m 1 #[.val (.ref a1), .val (.int (0 : Int32)), .val (.int (2 : Int32)), .unset, .unset] [(.int (2 : Int32))]))
  obtain ⟨_, _, ⟨T1, L1, k1, n1⟩, -, X1, ⟨Lc1, hQ1, l1, y1, z1⟩, st1⟩ := Jvm.LawKit.callS X0 hx (y := (⟨"java/lang/StringUTF16", "newBytesFor", "(I)[B"⟩ : MethodName)) hown (mvT hZ (hw _ (List.mem_of_getElem? (i := 121) rfl))) (mvT hZ (hw _ (List.mem_of_getElem? (i := 122) rfl))) (mvT hZ (hw _ (List.mem_of_getElem? (i := 18) rfl))) (mvT hZ (hw _ (List.mem_of_getElem? (i := 123) rfl))) (by decide) (own_back (W := 0) (own_rmNB2 l Z a0 hw h0 n0 Z0 O) hZ (hw _ (List.mem_of_getElem? (i := 123) rfl)) (hw _ (List.mem_of_getElem? (i := 18) rfl)) (by decide) (by decide)) (g := (mkF m 1 #[.val (.ref a1), .val (.int (0 : Int32)), .val (.int (2 : Int32)), .unset, .unset] [(.int (2 : Int32))])) rfl (by rw [hml]; rfl) (argsL := [(.int (2 : Int32))]) (rest := []) (lenOf own_pd10 rfl) rfl (by show 2 * 0 + _ ≤ _; exact Nat.le_of_eq rfl) (hb hby own_d26_1) (fun _ _ => ⟨rfl, e0, (by decide : 0 + 1 ≤ _), (by decide : 0 + 4 ≤ _)⟩)
  dsimp only [Pt.U, Pt.locs, Pt.cells, Pt.slots] at X1 l1 y1 z1 st1 hQ1
  replace X1 := own_cst X1 l1 y1 z1 (k2 := 1) (n2 := 4) rfl rfl
  clear l1 y1 z1
  obtain ⟨b1, kk1, rfl, Nq1, K1, O1, ge_b1, szq1, V1⟩ := hQ1
  have NF1 := Fr.app N0 Nq1
  refine own_go st1 ?_
  have ne_a1_b1 : a1 ≠ b1 := Nat.ne_of_lt (Nat.lt_of_lt_of_le Vc.lt szq1)
  have sz_b1 : h0.size ≤ b1 := Nat.le_trans K0.1 szq1
  replace Vc := Vc.keep K1 nin0
  replace Z0 := Nat.le_trans Z0 K1.1
  replace K0 := K0.trans K1 all0
  have O := O1
  show own_Go _ _ _ _ (T1.setTop (mkF m 4 #[.val (.ref a1), .val (.int (0 : Int32)), .val (.int (2 : Int32)), .unset, .unset] [(.ref b1)]))
  refine own_go (fun _ => XS.astoreN X1.here hx rfl (hb hby own_d26_4) rfl rfl (l' := #[.val (.ref a1), .val (.int (0 : Int32)), .val (.int (2 : Int32)), .val (.ref b1), .unset]) rfl) ?_
  refine own_go (fun _ => XS.iconst X1.here hx rfl (hb hby own_d26_5)) ?_
  refine own_go (fun _ => XS.istore X1.here hx rfl (hb hby own_d26_6) rfl (l' := #[.val (.ref a1), .val (.int (0 : Int32)), .val (.int (2 : Int32)), .val (.ref b1), .val (.int (0 : Int32))]) rfl) ?_
  refine own_go (fun _ => XS.iload X1.here hx rfl (hb hby own_d26_8) rfl) ?_
  refine own_go (fun _ => XS.iloadN X1.here hx rfl (hb hby own_d26_10) rfl) ?_
  show own_Go _ _ _ _ (T1.setTop (mkF m 11 #[.val (.ref a1), .val (.int (0 : Int32)), .val (.int (2 : Int32)), .val (.ref b1), .val (.int (0 : Int32))] [(.int (2 : Int32)), (.int (0 : Int32))]))
  refine own_go (fun _ => XS.icmpNo X1.here hx rfl (hb hby own_d26_11) rfl (tlt (by decide)).2.1) ?_
  show own_Go _ _ _ _ (T1.setTop (mkF m 14 #[.val (.ref a1), .val (.int (0 : Int32)), .val (.int (2 : Int32)), .val (.ref b1), .val (.int (0 : Int32))] []))
  refine own_go (fun _ => XS.aloadN X1.here hx rfl (hb hby own_d26_14) rfl rfl) ?_
  refine own_go (fun _ => XS.iload X1.here hx rfl (hb hby own_d26_15) rfl) ?_
  refine own_go (fun _ => XS.aloadN X1.here hx rfl (hb hby own_d26_17) rfl rfl) ?_
  refine own_go (fun _ => XS.iloadN X1.here hx rfl (hb hby own_d26_18) rfl) ?_
  obtain ⟨cl2, Ar2, q2, Sz2, Ng2, Hs2, Gs2⟩ := id Vc
  have hin2 : ¬ ((0 : Int32) < 0 ∨ cl2.slots.size ≤ ((0 : Int32)).toNatClampNeg) := inb_of Sz2 ⟨by decide, by decide⟩
  have hat2 : cl2.slots[((0 : Int32)).toNatClampNeg]? = some (.int x0) := Hs2.at hin2 rfl
  refine own_go (X1.caload hx (j := (0 : Int32)) (v := (.int x0)) (own_hp rfl Ar2.1) (State.isArrayOf_alike hZ.alike Ar2.2.1) Ar2.2.2 hin2 hat2 (g := (mkF m 19 #[.val (.ref a1), .val (.int (0 : Int32)), .val (.int (2 : Int32)), .val (.ref b1), .val (.int (0 : Int32))] [(.int (0 : Int32)), (.ref a1), (.int (0 : Int32)), (.ref b1)])) rfl rfl (hb hby own_d26_19)) ?_
  show own_Go _ _ _ _ (T1.setTop (mkF m 20 #[.val (.ref a1), .val (.int (0 : Int32)), .val (.int (2 : Int32)), .val (.ref b1), .val (.int (0 : Int32))] [(.int x0), (.int (0 : Int32)), (.ref b1)]))
  obtain ⟨_, _, ⟨T3, L3, k3, n3⟩, -, X3, ⟨Lc3, hQ3, l3, y3, z3⟩, st3⟩ := Jvm.LawKit.callS X1 hx (y := (⟨"java/lang/StringUTF16", "putChar", "([BII)V"⟩ : MethodName)) hown (mvT hZ (hw _ (List.mem_of_getElem? (i := 128) rfl))) (mvT hZ (hw _ (List.mem_of_getElem? (i := 129) rfl))) (mvT hZ (hw _ (List.mem_of_getElem? (i := 18) rfl))) (mvT hZ (hw _ (List.mem_of_getElem? (i := 130) rfl))) (by decide) (own_back (W := 0) (own_rmPC l Z a0 hw b1 kk1 x0 4 0 0 1 0 1 _ T1.heap n0 Z0 V1 (by decide) (by decide) ⟨by decide, by decide⟩ ⟨by decide, by decide⟩ rfl rfl (Nat.le_of_ble_eq_true rfl) (Nat.le_of_ble_eq_true rfl) ge_b1 O S_A S_H S_L) hZ (hw _ (List.mem_of_getElem? (i := 130) rfl)) (hw _ (List.mem_of_getElem? (i := 18) rfl)) (by decide) (by decide)) (g := (mkF m 20 #[.val (.ref a1), .val (.int (0 : Int32)), .val (.int (2 : Int32)), .val (.ref b1), .val (.int (0 : Int32))] [(.int x0), (.int (0 : Int32)), (.ref b1)])) rfl (by rw [hml]; rfl) (argsL := [(.ref b1), (.int (0 : Int32)), (.int x0)]) (rest := []) (lenOf own_pd11 rfl) rfl (by show 2 * 0 + _ ≤ _; exact Nat.le_of_eq rfl) (hb hby own_d26_20) (fun _ _ => ⟨rfl, rfl, (by decide : 1 + 0 ≤ _), (by decide : 4 + 0 ≤ _)⟩)
  dsimp only [Pt.U, Pt.locs, Pt.cells, Pt.slots] at X3 l3 y3 z3 st3 hQ3
  replace X3 := own_cst X3 l3 y3 z3 (k2 := 1) (n2 := 4) rfl rfl
  clear l3 y3 z3
  obtain ⟨rfl, Nq3, K3, O3, V3⟩ := hQ3
  have NF3 := Fr.app NF1 Nq3
  refine own_go st3 ?_
  replace Vc := Vc.keep K3 (ninS ne_a1_b1 nin0)
  replace Z0 := Nat.le_trans Z0 K3.1
  replace K0 := K0.trans K3 (allS (Or.inr sz_b1) all0)
  have O := O3
  replace V3 : Arv Z T3.heap b1 kk1 .byte 4 [(.int (nar .byte ((x0 >>> ((0 : Int32) &&& 31)).toInt8.toInt32))), (.int (nar .byte ((x0 >>> ((8 : Int32) &&& 31)).toInt8.toInt32))), (.int (0 : Int32)), (.int (0 : Int32))] (.int 0) := V3
  show own_Go _ _ _ _ (T3.setTop (mkF m 23 #[.val (.ref a1), .val (.int (0 : Int32)), .val (.int (2 : Int32)), .val (.ref b1), .val (.int (0 : Int32))] []))
  refine own_go (fun _ => XS.iinc X3.here hx rfl (hb hby own_d26_23) rfl (l' := #[.val (.ref a1), .val (.int (1 : Int32)), .val (.int (2 : Int32)), .val (.ref b1), .val (.int (0 : Int32))]) rfl) ?_
  refine own_go (fun _ => XS.iinc X3.here hx rfl (hb hby own_d26_26) rfl (l' := #[.val (.ref a1), .val (.int (1 : Int32)), .val (.int (2 : Int32)), .val (.ref b1), .val (.int (1 : Int32))]) rfl) ?_
  refine own_go (fun _ => XS.goto X3.here hx rfl (pc0 := 29) (pc' := 8) rfl (hb hby own_d26_29) (by decide) (by decide)) ?_
  refine own_go (fun _ => XS.iload X3.here hx rfl (hb hby own_d26_8) rfl) ?_
  refine own_go (fun _ => XS.iloadN X3.here hx rfl (hb hby own_d26_10) rfl) ?_
  show own_Go _ _ _ _ (T3.setTop (mkF m 11 #[.val (.ref a1), .val (.int (1 : Int32)), .val (.int (2 : Int32)), .val (.ref b1), .val (.int (1 : Int32))] [(.int (2 : Int32)), (.int (1 : Int32))]))
  refine own_go (fun _ => XS.icmpNo X3.here hx rfl (hb hby own_d26_11) rfl (tlt (by decide)).2.1) ?_
  show own_Go _ _ _ _ (T3.setTop (mkF m 14 #[.val (.ref a1), .val (.int (1 : Int32)), .val (.int (2 : Int32)), .val (.ref b1), .val (.int (1 : Int32))] []))
  refine own_go (fun _ => XS.aloadN X3.here hx rfl (hb hby own_d26_14) rfl rfl) ?_
  refine own_go (fun _ => XS.iload X3.here hx rfl (hb hby own_d26_15) rfl) ?_
  refine own_go (fun _ => XS.aloadN X3.here hx rfl (hb hby own_d26_17) rfl rfl) ?_
  refine own_go (fun _ => XS.iloadN X3.here hx rfl (hb hby own_d26_18) rfl) ?_
  obtain ⟨cl4, Ar4, q4, Sz4, Ng4, Hs4, Gs4⟩ := id Vc
  have hin4 : ¬ ((1 : Int32) < 0 ∨ cl4.slots.size ≤ ((1 : Int32)).toNatClampNeg) := inb_of Sz4 ⟨by decide, by decide⟩
  have hat4 : cl4.slots[((1 : Int32)).toNatClampNeg]? = some (.int x1) := Hs4.at hin4 rfl
  refine own_go (X3.caload hx (j := (1 : Int32)) (v := (.int x1)) (own_hp rfl Ar4.1) (State.isArrayOf_alike hZ.alike Ar4.2.1) Ar4.2.2 hin4 hat4 (g := (mkF m 19 #[.val (.ref a1), .val (.int (1 : Int32)), .val (.int (2 : Int32)), .val (.ref b1), .val (.int (1 : Int32))] [(.int (1 : Int32)), (.ref a1), (.int (1 : Int32)), (.ref b1)])) rfl rfl (hb hby own_d26_19)) ?_
  show own_Go _ _ _ _ (T3.setTop (mkF m 20 #[.val (.ref a1), .val (.int (1 : Int32)), .val (.int (2 : Int32)), .val (.ref b1), .val (.int (1 : Int32))] [(.int x1), (.int (1 : Int32)), (.ref b1)]))
  obtain ⟨_, _, ⟨T5, L5, k5, n5⟩, -, X5, ⟨Lc5, hQ5, l5, y5, z5⟩, st5⟩ := Jvm.LawKit.callS X3 hx (y := (⟨"java/lang/StringUTF16", "putChar", "([BII)V"⟩ : MethodName)) hown (mvT hZ (hw _ (List.mem_of_getElem? (i := 128) rfl))) (mvT hZ (hw _ (List.mem_of_getElem? (i := 129) rfl))) (mvT hZ (hw _ (List.mem_of_getElem? (i := 18) rfl))) (mvT hZ (hw _ (List.mem_of_getElem? (i := 130) rfl))) (by decide) (own_back (W := 0) (own_rmPC l Z a0 hw b1 kk1 x1 4 1 2 3 2 3 _ T3.heap n0 Z0 V3 (by decide) (by decide) ⟨by decide, by decide⟩ ⟨by decide, by decide⟩ rfl rfl (Nat.le_of_ble_eq_true rfl) (Nat.le_of_ble_eq_true rfl) ge_b1 O S_A S_H S_L) hZ (hw _ (List.mem_of_getElem? (i := 130) rfl)) (hw _ (List.mem_of_getElem? (i := 18) rfl)) (by decide) (by decide)) (g := (mkF m 20 #[.val (.ref a1), .val (.int (1 : Int32)), .val (.int (2 : Int32)), .val (.ref b1), .val (.int (1 : Int32))] [(.int x1), (.int (1 : Int32)), (.ref b1)])) rfl (by rw [hml]; rfl) (argsL := [(.ref b1), (.int (1 : Int32)), (.int x1)]) (rest := []) (lenOf own_pd11 rfl) rfl (by show 2 * 0 + _ ≤ _; exact Nat.le_of_eq rfl) (hb hby own_d26_20) (fun _ _ => ⟨rfl, rfl, (by decide : 1 + 0 ≤ _), (by decide : 4 + 0 ≤ _)⟩)
  dsimp only [Pt.U, Pt.locs, Pt.cells, Pt.slots] at X5 l5 y5 z5 st5 hQ5
  replace X5 := own_cst X5 l5 y5 z5 (k2 := 1) (n2 := 4) rfl rfl
  clear l5 y5 z5
  obtain ⟨rfl, Nq5, K5, O5, V5⟩ := hQ5
  have NF5 := Fr.app NF3 Nq5
  refine own_go st5 ?_
  replace Vc := Vc.keep K5 (ninS ne_a1_b1 nin0)
  replace Z0 := Nat.le_trans Z0 K5.1
  replace K0 := K0.trans K5 (allS (Or.inr sz_b1) all0)
  have O := O5
  replace V5 : Arv Z T5.heap b1 kk1 .byte 4 [(.int (nar .byte ((x0 >>> ((0 : Int32) &&& 31)).toInt8.toInt32))), (.int (nar .byte ((x0 >>> ((8 : Int32) &&& 31)).toInt8.toInt32))), (.int (nar .byte ((x1 >>> ((0 : Int32) &&& 31)).toInt8.toInt32))), (.int (nar .byte ((x1 >>> ((8 : Int32) &&& 31)).toInt8.toInt32)))] (.int 0) := V5
  show own_Go _ _ _ _ (T5.setTop (mkF m 23 #[.val (.ref a1), .val (.int (1 : Int32)), .val (.int (2 : Int32)), .val (.ref b1), .val (.int (1 : Int32))] []))
  refine own_go (fun _ => XS.iinc X5.here hx rfl (hb hby own_d26_23) rfl (l' := #[.val (.ref a1), .val (.int (2 : Int32)), .val (.int (2 : Int32)), .val (.ref b1), .val (.int (1 : Int32))]) rfl) ?_
  refine own_go (fun _ => XS.iinc X5.here hx rfl (hb hby own_d26_26) rfl (l' := #[.val (.ref a1), .val (.int (2 : Int32)), .val (.int (2 : Int32)), .val (.ref b1), .val (.int (2 : Int32))]) rfl) ?_
  refine own_go (fun _ => XS.goto X5.here hx rfl (pc0 := 29) (pc' := 8) rfl (hb hby own_d26_29) (by decide) (by decide)) ?_
  refine own_go (fun _ => XS.iload X5.here hx rfl (hb hby own_d26_8) rfl) ?_
  refine own_go (fun _ => XS.iloadN X5.here hx rfl (hb hby own_d26_10) rfl) ?_
  show own_Go _ _ _ _ (T5.setTop (mkF m 11 #[.val (.ref a1), .val (.int (2 : Int32)), .val (.int (2 : Int32)), .val (.ref b1), .val (.int (2 : Int32))] [(.int (2 : Int32)), (.int (2 : Int32))]))
  refine own_go (fun _ => XS.icmpYes X5.here hx rfl (pc0 := 11) (pc' := 32) rfl (hb hby own_d26_11) rfl (flt (by decide)).2.1 (by decide) (by decide)) ?_
  show own_Go _ _ _ _ (T5.setTop (mkF m 32 #[.val (.ref a1), .val (.int (2 : Int32)), .val (.int (2 : Int32)), .val (.ref b1), .val (.int (2 : Int32))] []))
  refine own_go (fun _ => XS.aloadN X5.here hx rfl (hb hby own_d26_32) rfl rfl) ?_
  show own_Go _ _ _ _ (T5.setTop (mkF m 33 #[.val (.ref a1), .val (.int (2 : Int32)), .val (.int (2 : Int32)), .val (.ref b1), .val (.int (2 : Int32))] [(.ref b1)]))
  refine own_ret X5 hlk (v := some (.ref b1)) (fun h => by rw [Bd.returns] at h; cases h) (fun fs hr => retOut X5 hx Bd.returns rfl (Or.inr (Or.inr (Or.inr (Or.inr ⟨rfl, rfl, rfl⟩)))) (hb hby own_d26_33) hr) ?_ (by decide) (by decide)
  skip
  exact ⟨b1, kk1, rfl, NF5, K0, O, ge_b1, sz_b1, V5⟩
set_option maxRecDepth 65536 in
set_option maxHeartbeats 40000000 in
theorem own_rmMU2 (l : Launch) (Z : State) (a0 : Array Value) (hw : ∀ d ∈ tables_1, d.before a0 Z = true) (a1 : Addr) (kc : ClassId) (x0 : Int32) (x1 : Int32) (h0 : Heap) (n0 : Nat) (Z0 : n0 ≤ h0.size) (Vc : Arv Z h0 a1 kc .char 2 [(.int x0), (.int x1)] (.int 0)) (O : Old Z n0 h0) (S_A : Sta Z Z.heap "java/lang/StringUTF16" "$assertionsDisabled" "Z" (.int 1)) (S_H : Sta Z Z.heap "java/lang/StringUTF16" "HI_BYTE_SHIFT" "I" (.int 0)) (S_L : Sta Z Z.heap "java/lang/StringUTF16" "LO_BYTE_SHIFT" "I" (.int 8)) (hx' : ¬ (¬ (255 : Int32) < x0 ∧ ¬ (255 : Int32) < x1)) (bx0 : 0 ≤ x0.toInt) (bz0 : x0.toInt < 65536) (bx1 : 0 ≤ x1.toInt) (bz1 : x1.toInt < 65536) :
    own_Met l Z [] (⟨"java/lang/StringUTF16", "compress", "([CII)[B"⟩ : MethodName) jdk_52_method_16_code 6 (some (.array .byte)) ({ frames := 3, cells := 2, slots := 9, locals := 40 } : Room) #[(.ref a1), (.int (0 : Int32)), (.int (2 : Int32))] h0 (fun v h L => ∃ (b : Addr) (k : ClassId), v = some (.ref b) ∧ Fr n0 L ∧ Keep h0 h [] ∧ Old Z n0 h ∧ n0 ≤ b ∧ h0.size ≤ b ∧ Arv Z h b k .byte 4 [(.int (nar .byte ((x0 >>> ((0 : Int32) &&& 31)).toInt8.toInt32))), (.int (nar .byte ((x0 >>> ((8 : Int32) &&& 31)).toInt8.toInt32))), (.int (nar .byte ((x1 >>> ((0 : Int32) &&& 31)).toInt8.toInt32))), (.int (nar .byte ((x1 >>> ((8 : Int32) &&& 31)).toInt8.toInt32)))] (.int 0)) := by
  refine MetFree.of_bodySF (plainFor_of_name own_pn3) hisR ?_
  intro p e s m args below meth c s₁ Bd hml0 hP hK
  obtain ⟨rfl, hZ, hh⟩ := hP
  have hx := Bd.exec
  have hby := Bd.bytes
  have hml : c.maxLocals = 6 := hml0
  have hown : s.vm.findClass "java/lang/StringUTF16" = some m.cls := findClass_of_methodNamed Bd.named
  have hnm := (name_of_methodNamed Bd.named Bd.method).1
  have hlk : meth.locks = false := Bd.notSynchronized
  have X0 : Stand p l e ({ frames := 3, cells := 2, slots := 9, locals := 40 } : Room) s m #[(.ref a1), (.int (0 : Int32)), (.int (2 : Int32))] below meth c s₁ [] 0 0 := Stand.of_body Bd
  have e0 : s₁.heap = h0 := by rw [← hh, Bd.state]; rfl
  have N0 := Fr.nil n0
  refine own_body (Q := fun v h L => ∃ (b : Addr) (k : ClassId), v = some (.ref b) ∧ Fr n0 L ∧ Keep h0 h [] ∧ Old Z n0 h ∧ n0 ≤ b ∧ h0.size ≤ b ∧ Arv Z h b k .byte 4 [(.int (nar .byte ((x0 >>> ((0 : Int32) &&& 31)).toInt8.toInt32))), (.int (nar .byte ((x0 >>> ((8 : Int32) &&& 31)).toInt8.toInt32))), (.int (nar .byte ((x1 >>> ((0 : Int32) &&& 31)).toInt8.toInt32))), (.int (nar .byte ((x1 >>> ((8 : Int32) &&& 31)).toInt8.toInt32)))] (.int 0)) ?_
  refine own_go (fun _ kont => castTop (own_ef m #[(.ref a1), (.int (0 : Int32)), (.int (2 : Int32))] 6 #[.val (.ref a1), .val (.int (0 : Int32)), .val (.int (2 : Int32)), .unset, .unset, .unset] (own_al [(.ref a1), (.int (0 : Int32)), (.int (2 : Int32))] 6 [.val (.ref a1), .val (.int (0 : Int32)), .val (.int (2 : Int32)), .unset, .unset, .unset] rfl)) kont) ?_
  show own_Go _ _ _ _ (s₁.setTop (mkF m 0 #[.val (.ref a1), .val (.int (0 : Int32)), .val (.int (2 : Int32)), .unset, .unset, .unset] []))
  have K0 : Keep h0 h0 [] := Keep.refl _ _
  refine own_go (fun _ => XS.iloadN X0.here hx rfl (hb hby own_d4_0) rfl) ?_
  obtain ⟨T1, h1, k1, X1, e1, E1, A1, st1⟩ := newP X0 hx hZ (hw _ (List.mem_of_getElem? (i := 20) rfl)) e0 (g := (mkF m 1 #[.val (.ref a1), .val (.int (0 : Int32)), .val (.int (2 : Int32)), .unset, .unset, .unset] [(.int (2 : Int32))])) rfl (hb hby own_d4_1) rfl (by decide) (cap := 2) (by decide) (by decide) (by decide) (by decide)
  obtain ⟨b1, g1⟩ : ∃ z, z = h0.size := ⟨_, rfl⟩
  rw [← g1] at A1 st1
  refine own_go st1 ?_
  have ge_b1 : n0 ≤ b1 := Nat.le_trans Z0 (Nat.le_of_eq g1.symm)
  have ne_a1_b1 : a1 ≠ b1 := Nat.ne_of_lt (Nat.lt_of_lt_of_le Vc.lt (Nat.le_of_eq g1.symm))
  have sz_b1 : h0.size ≤ b1 := Nat.le_trans K0.1 (Nat.le_of_eq g1.symm)
  replace Vc := Vc.ext E1
  replace O := O.ext E1
  replace Z0 := Nat.le_trans Z0 E1.1
  replace K0 := K0.ext E1
  have V_b1 : Arv Z h1 b1 k1 .byte (2 : Int32) [(.int (0 : Int32)), (.int (0 : Int32))] (.int (0 : Int32)) := (Arv.new A1 (by decide)).pad (pad_rep [] (.int (0 : Int32)) 2)
  refine own_go (fun _ => XS.astoreN X1.here hx rfl (hb hby own_d4_3) rfl rfl (l' := #[.val (.ref a1), .val (.int (0 : Int32)), .val (.int (2 : Int32)), .val (.ref b1), .unset, .unset]) rfl) ?_
  refine own_go (fun _ => XS.aloadN X1.here hx rfl (hb hby own_d4_4) rfl rfl) ?_
  refine own_go (fun _ => XS.iloadN X1.here hx rfl (hb hby own_d4_5) rfl) ?_
  show own_Go _ _ _ _ (T1.setTop (mkF m 6 #[.val (.ref a1), .val (.int (0 : Int32)), .val (.int (2 : Int32)), .val (.ref b1), .unset, .unset] [(.int (0 : Int32)), (.ref a1)]))
  refine own_go (fun _ => XS.aloadN X1.here hx rfl (hb hby own_d4_6) rfl rfl) ?_
  refine own_go (fun _ => XS.iconst X1.here hx rfl (hb hby own_d4_7)) ?_
  refine own_go (fun _ => XS.iloadN X1.here hx rfl (hb hby own_d4_8) rfl) ?_
  show own_Go _ _ _ _ (T1.setTop (mkF m 9 #[.val (.ref a1), .val (.int (0 : Int32)), .val (.int (2 : Int32)), .val (.ref b1), .unset, .unset] [(.int (2 : Int32)), (.int (0 : Int32)), (.ref b1), (.int (0 : Int32)), (.ref a1)]))
  obtain ⟨_, _, ⟨T2, L2, k2, n2⟩, -, X2, ⟨Lc2, hQ2, l2, y2, z2⟩, st2⟩ := Jvm.LawKit.callS X1 hx (y := (⟨"java/lang/StringUTF16", "compress", "([CI[BII)I"⟩ : MethodName)) hown (mvT hZ (hw _ (List.mem_of_getElem? (i := 21) rfl))) (mvT hZ (hw _ (List.mem_of_getElem? (i := 22) rfl))) (mvT hZ (hw _ (List.mem_of_getElem? (i := 18) rfl))) (mvT hZ (hw _ (List.mem_of_getElem? (i := 23) rfl))) (by decide) (own_back (W := 0) (own_rmK2 l Z a0 hw a1 b1 kc k1 x0 x1 h1 n0 Z0 Vc V_b1 ge_b1 ne_a1_b1 O) hZ (hw _ (List.mem_of_getElem? (i := 23) rfl)) (hw _ (List.mem_of_getElem? (i := 18) rfl)) (by decide) (by decide)) (g := (mkF m 9 #[.val (.ref a1), .val (.int (0 : Int32)), .val (.int (2 : Int32)), .val (.ref b1), .unset, .unset] [(.int (2 : Int32)), (.int (0 : Int32)), (.ref b1), (.int (0 : Int32)), (.ref a1)])) rfl (by rw [hml]; rfl) (argsL := [(.ref a1), (.int (0 : Int32)), (.ref b1), (.int (0 : Int32)), (.int (2 : Int32))]) (rest := []) (lenOf own_pd8 rfl) rfl (by show 2 * 0 + _ ≤ _; exact Nat.le_of_eq rfl) (hb hby own_d4_9) (fun _ _ => ⟨rfl, e1, (by decide : 1 + 0 ≤ _), (by decide : 2 + 0 ≤ _)⟩)
  dsimp only [Pt.U, Pt.locs, Pt.cells, Pt.slots] at X2 l2 y2 z2 st2 hQ2
  replace X2 := own_cst X2 l2 y2 z2 (k2 := 1) (n2 := 2) rfl rfl
  clear l2 y2 z2
  obtain ⟨r2, rfl, Nq2, K2, O2, Dj2⟩ := hQ2
  have NF2 := Fr.app N0 Nq2
  refine own_go st2 ?_
  replace Vc := Vc.keep K2 (ninS ne_a1_b1 nin0)
  replace Z0 := Nat.le_trans Z0 K2.1
  replace K0 := K0.trans K2 (allS (Or.inr sz_b1) all0)
  have O := O2
  have hr : ¬ r2 = (2 : Int32) := by
    rcases Dj2 with ⟨-, q⟩ | ⟨-, q⟩ | ⟨q, -⟩
    · rw [q]; decide
    · rw [q]; decide
    · exact absurd q hx'
  show own_Go _ _ _ _ (T2.setTop (mkF m 12 #[.val (.ref a1), .val (.int (0 : Int32)), .val (.int (2 : Int32)), .val (.ref b1), .unset, .unset] [(.int r2)]))
  refine own_go (fun _ => XS.istore X2.here hx rfl (hb hby own_d4_12) rfl (l' := #[.val (.ref a1), .val (.int (0 : Int32)), .val (.int (2 : Int32)), .val (.ref b1), .val (.int r2), .unset]) rfl) ?_
  refine own_go (fun _ => XS.iload X2.here hx rfl (hb hby own_d4_14) rfl) ?_
  refine own_go (fun _ => XS.iloadN X2.here hx rfl (hb hby own_d4_16) rfl) ?_
  show own_Go _ _ _ _ (T2.setTop (mkF m 17 #[.val (.ref a1), .val (.int (0 : Int32)), .val (.int (2 : Int32)), .val (.ref b1), .val (.int r2), .unset] [(.int (2 : Int32)), (.int r2)]))
  refine own_go (fun _ => XS.icmpNo X2.here hx rfl (hb hby own_d4_17) rfl (feq hr).1) ?_
  show own_Go _ _ _ _ (T2.setTop (mkF m 20 #[.val (.ref a1), .val (.int (0 : Int32)), .val (.int (2 : Int32)), .val (.ref b1), .val (.int r2), .unset] []))
  refine own_go (fun _ => XS.aloadN X2.here hx rfl (hb hby own_d4_20) rfl rfl) ?_
  refine own_go (fun _ => XS.iloadN X2.here hx rfl (hb hby own_d4_21) rfl) ?_
  refine own_go (fun _ => XS.iloadN X2.here hx rfl (hb hby own_d4_22) rfl) ?_
  show own_Go _ _ _ _ (T2.setTop (mkF m 23 #[.val (.ref a1), .val (.int (0 : Int32)), .val (.int (2 : Int32)), .val (.ref b1), .val (.int r2), .unset] [(.int (2 : Int32)), (.int (0 : Int32)), (.ref a1)]))
  obtain ⟨_, _, ⟨T3, L3, k3, n3⟩, -, X3, ⟨Lc3, hQ3, l3, y3, z3⟩, st3⟩ := Jvm.LawKit.callS X2 hx (y := (⟨"java/lang/StringUTF16", "toBytes", "([CII)[B"⟩ : MethodName)) hown (mvT hZ (hw _ (List.mem_of_getElem? (i := 118) rfl))) (mvT hZ (hw _ (List.mem_of_getElem? (i := 119) rfl))) (mvT hZ (hw _ (List.mem_of_getElem? (i := 18) rfl))) (mvT hZ (hw _ (List.mem_of_getElem? (i := 120) rfl))) (by decide) (own_back (W := 0) (own_rmTB2 l Z a0 hw a1 kc x0 x1 T2.heap n0 Z0 Vc O S_A S_H S_L) hZ (hw _ (List.mem_of_getElem? (i := 120) rfl)) (hw _ (List.mem_of_getElem? (i := 18) rfl)) (by decide) (by decide)) (g := (mkF m 23 #[.val (.ref a1), .val (.int (0 : Int32)), .val (.int (2 : Int32)), .val (.ref b1), .val (.int r2), .unset] [(.int (2 : Int32)), (.int (0 : Int32)), (.ref a1)])) rfl (by rw [hml]; rfl) (argsL := [(.ref a1), (.int (0 : Int32)), (.int (2 : Int32))]) (rest := []) (lenOf own_pd12 rfl) rfl (by show 2 * 0 + _ ≤ _; exact Nat.le_of_eq rfl) (hb hby own_d4_23) (fun _ _ => ⟨rfl, rfl, (by decide : 1 + 1 ≤ _), (by decide : 2 + 4 ≤ _)⟩)
  dsimp only [Pt.U, Pt.locs, Pt.cells, Pt.slots] at X3 l3 y3 z3 st3 hQ3
  replace X3 := own_cst X3 l3 y3 z3 (k2 := 2) (n2 := 6) rfl rfl
  clear l3 y3 z3
  obtain ⟨b3, kk3, rfl, Nq3, K3, O3, ge_b3, szq3, V3⟩ := hQ3
  have NF3 := Fr.app NF2 Nq3
  refine own_go st3 ?_
  have ne_a1_b3 : a1 ≠ b3 := Nat.ne_of_lt (Nat.lt_of_lt_of_le Vc.lt szq3)
  have sz_b3 : h0.size ≤ b3 := Nat.le_trans K0.1 szq3
  replace Vc := Vc.keep K3 nin0
  replace Z0 := Nat.le_trans Z0 K3.1
  replace K0 := K0.trans K3 all0
  have O := O3
  show own_Go _ _ _ _ (T3.setTop (mkF m 26 #[.val (.ref a1), .val (.int (0 : Int32)), .val (.int (2 : Int32)), .val (.ref b1), .val (.int r2), .unset] [(.ref b3)]))
  refine own_go (fun _ => XS.astore X3.here hx rfl (hb hby own_d4_26) rfl rfl (l' := #[.val (.ref a1), .val (.int (0 : Int32)), .val (.int (2 : Int32)), .val (.ref b1), .val (.int r2), .val (.ref b3)]) rfl) ?_
  refine own_go (fun _ => XS.aload X3.here hx rfl (hb hby own_d4_28) rfl rfl) ?_
  refine own_go (fun _ => XS.iload X3.here hx rfl (hb hby own_d4_30) rfl) ?_
  show own_Go _ _ _ _ (T3.setTop (mkF m 32 #[.val (.ref a1), .val (.int (0 : Int32)), .val (.int (2 : Int32)), .val (.ref b1), .val (.int r2), .val (.ref b3)] [(.int r2), (.ref b3)]))
  rcases Dj2 with ⟨h255, rfl⟩ | ⟨h255, rfl⟩ | ⟨q, -⟩
  · have _u := trivial
    show own_Go _ _ _ _ (T3.setTop (mkF m 32 #[.val (.ref a1), .val (.int (0 : Int32)), .val (.int (2 : Int32)), .val (.ref b1), .val (.int (0 : Int32)), .val (.ref b3)] [(.int (0 : Int32)), (.ref b3)]))
    obtain ⟨_, _, ⟨T4, L4, k4, n4⟩, -, X4, ⟨Lc4, hQ4, l4, y4, z4⟩, st4⟩ := Jvm.LawKit.callS X3 hx (y := (⟨"java/lang/StringUTF16", "getChar", "([BI)C"⟩ : MethodName)) hown (mvT hZ (hw _ (List.mem_of_getElem? (i := 134) rfl))) (mvT hZ (hw _ (List.mem_of_getElem? (i := 135) rfl))) (mvT hZ (hw _ (List.mem_of_getElem? (i := 18) rfl))) (mvT hZ (hw _ (List.mem_of_getElem? (i := 136) rfl))) (by decide) (own_back (W := 0) (own_rmGC l Z a0 hw b3 kk3 4 0 0 1 (nar .byte ((x0 >>> ((0 : Int32) &&& 31)).toInt8.toInt32)) (nar .byte ((x0 >>> ((8 : Int32) &&& 31)).toInt8.toInt32)) _ T3.heap n0 Z0 V3 (by decide) (by decide) ⟨by decide, by decide⟩ ⟨by decide, by decide⟩ rfl rfl O S_A S_H S_L) hZ (hw _ (List.mem_of_getElem? (i := 136) rfl)) (hw _ (List.mem_of_getElem? (i := 18) rfl)) (by decide) (by decide)) (g := (mkF m 32 #[.val (.ref a1), .val (.int (0 : Int32)), .val (.int (2 : Int32)), .val (.ref b1), .val (.int (0 : Int32)), .val (.ref b3)] [(.int (0 : Int32)), (.ref b3)])) rfl (by rw [hml]; rfl) (argsL := [(.ref b3), (.int (0 : Int32))]) (rest := []) (lenOf own_pd4 rfl) rfl (by show 2 * 0 + _ ≤ _; exact Nat.le_of_eq rfl) (hb hby own_d4_32) (fun _ _ => ⟨rfl, rfl, (by decide : 2 + 0 ≤ _), (by decide : 6 + 0 ≤ _)⟩)
    dsimp only [Pt.U, Pt.locs, Pt.cells, Pt.slots] at X4 l4 y4 z4 st4 hQ4
    replace X4 := own_cst X4 l4 y4 z4 (k2 := 2) (n2 := 6) rfl rfl
    clear l4 y4 z4
    obtain ⟨rfl, Nq4, eq4⟩ := hQ4
    have NF4 := Fr.app NF3 Nq4
    refine own_go st4 ?_
    show own_Go _ _ _ _ (T4.setTop (mkF m 35 #[.val (.ref a1), .val (.int (0 : Int32)), .val (.int (2 : Int32)), .val (.ref b1), .val (.int (0 : Int32)), .val (.ref b3)] [(.int (own_gc (nar .byte ((x0 >>> ((0 : Int32) &&& 31)).toInt8.toInt32)) (nar .byte ((x0 >>> ((8 : Int32) &&& 31)).toInt8.toInt32))))]))
    rw [own_gcx bx0 bz0]
    show own_Go _ _ _ _ (T4.setTop (mkF m 35 #[.val (.ref a1), .val (.int (0 : Int32)), .val (.int (2 : Int32)), .val (.ref b1), .val (.int (0 : Int32)), .val (.ref b3)] [(.int x0)]))
    refine own_go (fun _ => XS.sipush X4.here hx rfl (hb hby own_d4_35)) ?_
    show own_Go _ _ _ _ (T4.setTop (mkF m 38 #[.val (.ref a1), .val (.int (0 : Int32)), .val (.int (2 : Int32)), .val (.ref b1), .val (.int (0 : Int32)), .val (.ref b3)] [(.int (255 : Int32)), (.int x0)]))
    refine own_go (fun _ => XS.icmpYes X4.here hx rfl (pc0 := 38) (pc' := 54) rfl (hb hby own_d4_38) rfl (tlt h255).2.2.1 (by decide) (by decide)) ?_
    show own_Go _ _ _ _ (T4.setTop (mkF m 54 #[.val (.ref a1), .val (.int (0 : Int32)), .val (.int (2 : Int32)), .val (.ref b1), .val (.int (0 : Int32)), .val (.ref b3)] []))
    refine own_go (fun _ => XS.aload X4.here hx rfl (hb hby own_d4_54) rfl rfl) ?_
    show own_Go _ _ _ _ (T4.setTop (mkF m 56 #[.val (.ref a1), .val (.int (0 : Int32)), .val (.int (2 : Int32)), .val (.ref b1), .val (.int (0 : Int32)), .val (.ref b3)] [(.ref b3)]))
    refine own_ret X4 hlk (v := some (.ref b3)) (fun h => by rw [Bd.returns] at h; cases h) (fun fs hr => retOut X4 hx Bd.returns rfl (Or.inr (Or.inr (Or.inr (Or.inr ⟨rfl, rfl, rfl⟩)))) (hb hby own_d4_56) hr) ?_ (by decide) (by decide)
    try rw [eq4]
    exact ⟨b3, kk3, rfl, NF4, K0, O, ge_b3, sz_b3, V3⟩
  · have _u := trivial
    show own_Go _ _ _ _ (T3.setTop (mkF m 32 #[.val (.ref a1), .val (.int (0 : Int32)), .val (.int (2 : Int32)), .val (.ref b1), .val (.int (1 : Int32)), .val (.ref b3)] [(.int (1 : Int32)), (.ref b3)]))
    obtain ⟨_, _, ⟨T5, L5, k5, n5⟩, -, X5, ⟨Lc5, hQ5, l5, y5, z5⟩, st5⟩ := Jvm.LawKit.callS X3 hx (y := (⟨"java/lang/StringUTF16", "getChar", "([BI)C"⟩ : MethodName)) hown (mvT hZ (hw _ (List.mem_of_getElem? (i := 134) rfl))) (mvT hZ (hw _ (List.mem_of_getElem? (i := 135) rfl))) (mvT hZ (hw _ (List.mem_of_getElem? (i := 18) rfl))) (mvT hZ (hw _ (List.mem_of_getElem? (i := 136) rfl))) (by decide) (own_back (W := 0) (own_rmGC l Z a0 hw b3 kk3 4 1 2 3 (nar .byte ((x1 >>> ((0 : Int32) &&& 31)).toInt8.toInt32)) (nar .byte ((x1 >>> ((8 : Int32) &&& 31)).toInt8.toInt32)) _ T3.heap n0 Z0 V3 (by decide) (by decide) ⟨by decide, by decide⟩ ⟨by decide, by decide⟩ rfl rfl O S_A S_H S_L) hZ (hw _ (List.mem_of_getElem? (i := 136) rfl)) (hw _ (List.mem_of_getElem? (i := 18) rfl)) (by decide) (by decide)) (g := (mkF m 32 #[.val (.ref a1), .val (.int (0 : Int32)), .val (.int (2 : Int32)), .val (.ref b1), .val (.int (1 : Int32)), .val (.ref b3)] [(.int (1 : Int32)), (.ref b3)])) rfl (by rw [hml]; rfl) (argsL := [(.ref b3), (.int (1 : Int32))]) (rest := []) (lenOf own_pd4 rfl) rfl (by show 2 * 0 + _ ≤ _; exact Nat.le_of_eq rfl) (hb hby own_d4_32) (fun _ _ => ⟨rfl, rfl, (by decide : 2 + 0 ≤ _), (by decide : 6 + 0 ≤ _)⟩)
    dsimp only [Pt.U, Pt.locs, Pt.cells, Pt.slots] at X5 l5 y5 z5 st5 hQ5
    replace X5 := own_cst X5 l5 y5 z5 (k2 := 2) (n2 := 6) rfl rfl
    clear l5 y5 z5
    obtain ⟨rfl, Nq5, eq5⟩ := hQ5
    have NF5 := Fr.app NF3 Nq5
    refine own_go st5 ?_
    show own_Go _ _ _ _ (T5.setTop (mkF m 35 #[.val (.ref a1), .val (.int (0 : Int32)), .val (.int (2 : Int32)), .val (.ref b1), .val (.int (1 : Int32)), .val (.ref b3)] [(.int (own_gc (nar .byte ((x1 >>> ((0 : Int32) &&& 31)).toInt8.toInt32)) (nar .byte ((x1 >>> ((8 : Int32) &&& 31)).toInt8.toInt32))))]))
    rw [own_gcx bx1 bz1]
    show own_Go _ _ _ _ (T5.setTop (mkF m 35 #[.val (.ref a1), .val (.int (0 : Int32)), .val (.int (2 : Int32)), .val (.ref b1), .val (.int (1 : Int32)), .val (.ref b3)] [(.int x1)]))
    refine own_go (fun _ => XS.sipush X5.here hx rfl (hb hby own_d4_35)) ?_
    show own_Go _ _ _ _ (T5.setTop (mkF m 38 #[.val (.ref a1), .val (.int (0 : Int32)), .val (.int (2 : Int32)), .val (.ref b1), .val (.int (1 : Int32)), .val (.ref b3)] [(.int (255 : Int32)), (.int x1)]))
    refine own_go (fun _ => XS.icmpYes X5.here hx rfl (pc0 := 38) (pc' := 54) rfl (hb hby own_d4_38) rfl (tlt h255).2.2.1 (by decide) (by decide)) ?_
    show own_Go _ _ _ _ (T5.setTop (mkF m 54 #[.val (.ref a1), .val (.int (0 : Int32)), .val (.int (2 : Int32)), .val (.ref b1), .val (.int (1 : Int32)), .val (.ref b3)] []))
    refine own_go (fun _ => XS.aload X5.here hx rfl (hb hby own_d4_54) rfl rfl) ?_
    show own_Go _ _ _ _ (T5.setTop (mkF m 56 #[.val (.ref a1), .val (.int (0 : Int32)), .val (.int (2 : Int32)), .val (.ref b1), .val (.int (1 : Int32)), .val (.ref b3)] [(.ref b3)]))
    refine own_ret X5 hlk (v := some (.ref b3)) (fun h => by rw [Bd.returns] at h; cases h) (fun fs hr => retOut X5 hx Bd.returns rfl (Or.inr (Or.inr (Or.inr (Or.inr ⟨rfl, rfl, rfl⟩)))) (hb hby own_d4_56) hr) ?_ (by decide) (by decide)
    try rw [eq5]
    exact ⟨b3, kk3, rfl, NF5, K0, O, ge_b3, sz_b3, V3⟩
  · have _u := trivial
    exact absurd q hx'
set_option maxRecDepth 65536 in
set_option maxHeartbeats 40000000 in
theorem own_rmK3 (l : Launch) (Z : State) (a0 : Array Value) (hw : ∀ d ∈ tables_1, d.before a0 Z = true) (a1 : Addr) (a2 : Addr) (kc : ClassId) (kd : ClassId) (x0 : Int32) (x1 : Int32) (x2 : Int32) (h0 : Heap) (n0 : Nat) (Z0 : n0 ≤ h0.size) (Vc : Arv Z h0 a1 kc .char 3 [(.int x0), (.int x1), (.int x2)] (.int 0)) (Vd : Arv Z h0 a2 kd .byte 3 [(.int 0), (.int 0), (.int 0)] (.int 0)) (ge_a2 : n0 ≤ a2) (ne12 : a1 ≠ a2) (O : Old Z n0 h0) :
    own_Met l Z [] (⟨"java/lang/StringUTF16", "compress", "([CI[BII)I"⟩ : MethodName) jdk_52_method_21_code 7 (some .int) ({ frames := 0, cells := 0, slots := 0, locals := 0 } : Room) #[(.ref a1), (.int (0 : Int32)), (.ref a2), (.int (0 : Int32)), (.int (3 : Int32))] h0 (fun v h L => ∃ r : Int32, v = some (.int r) ∧ Fr n0 L ∧ Keep h0 h [a2] ∧ Old Z n0 h ∧ (((255 : Int32) < x0 ∧ r = 0) ∨ ((255 : Int32) < x1 ∧ r = 1) ∨ ((255 : Int32) < x2 ∧ r = 2) ∨ ((¬ (255 : Int32) < x0 ∧ ¬ (255 : Int32) < x1 ∧ ¬ (255 : Int32) < x2) ∧ r = 3 ∧ Arv Z h a2 kd .byte 3 [(.int (nar .byte (x0.toInt8.toInt32))), (.int (nar .byte (x1.toInt8.toInt32))), (.int (nar .byte (x2.toInt8.toInt32)))] (.int 0)))) := by
  refine MetFree.of_bodySF (plainFor_of_name own_pn3) hisR ?_
  intro p e s m args below meth c s₁ Bd hml0 hP hK
  obtain ⟨rfl, hZ, hh⟩ := hP
  have hx := Bd.exec
  have hby := Bd.bytes
  have hml : c.maxLocals = 7 := hml0
  have hown : s.vm.findClass "java/lang/StringUTF16" = some m.cls := findClass_of_methodNamed Bd.named
  have hnm := (name_of_methodNamed Bd.named Bd.method).1
  have hlk : meth.locks = false := Bd.notSynchronized
  have X0 : Stand p l e ({ frames := 0, cells := 0, slots := 0, locals := 0 } : Room) s m #[(.ref a1), (.int (0 : Int32)), (.ref a2), (.int (0 : Int32)), (.int (3 : Int32))] below meth c s₁ [] 0 0 := Stand.of_body Bd
  have e0 : s₁.heap = h0 := by rw [← hh, Bd.state]; rfl
  have N0 := Fr.nil n0
  refine own_body (Q := fun v h L => ∃ r : Int32, v = some (.int r) ∧ Fr n0 L ∧ Keep h0 h [a2] ∧ Old Z n0 h ∧ (((255 : Int32) < x0 ∧ r = 0) ∨ ((255 : Int32) < x1 ∧ r = 1) ∨ ((255 : Int32) < x2 ∧ r = 2) ∨ ((¬ (255 : Int32) < x0 ∧ ¬ (255 : Int32) < x1 ∧ ¬ (255 : Int32) < x2) ∧ r = 3 ∧ Arv Z h a2 kd .byte 3 [(.int (nar .byte (x0.toInt8.toInt32))), (.int (nar .byte (x1.toInt8.toInt32))), (.int (nar .byte (x2.toInt8.toInt32)))] (.int 0)))) ?_
  refine own_go (fun _ kont => castTop (own_ef m #[(.ref a1), (.int (0 : Int32)), (.ref a2), (.int (0 : Int32)), (.int (3 : Int32))] 7 #[.val (.ref a1), .val (.int (0 : Int32)), .val (.ref a2), .val (.int (0 : Int32)), .val (.int (3 : Int32)), .unset, .unset] (own_al [(.ref a1), (.int (0 : Int32)), (.ref a2), (.int (0 : Int32)), (.int (3 : Int32))] 7 [.val (.ref a1), .val (.int (0 : Int32)), .val (.ref a2), .val (.int (0 : Int32)), .val (.int (3 : Int32)), .unset, .unset] rfl)) kont) ?_
  show own_Go _ _ _ _ (s₁.setTop (mkF m 0 #[.val (.ref a1), .val (.int (0 : Int32)), .val (.ref a2), .val (.int (0 : Int32)), .val (.int (3 : Int32)), .unset, .unset] []))
  have K0 : Keep h0 h0 [a2] := Keep.refl _ _
  refine own_go (fun _ => XS.iconst X0.here hx rfl (hb hby own_d5_0)) ?_
  refine own_go (fun _ => XS.istore X0.here hx rfl (hb hby own_d5_1) rfl (l' := #[.val (.ref a1), .val (.int (0 : Int32)), .val (.ref a2), .val (.int (0 : Int32)), .val (.int (3 : Int32)), .val (.int (0 : Int32)), .unset]) rfl) ?_
  refine own_go (fun _ => XS.iload X0.here hx rfl (hb hby own_d5_3) rfl) ?_
  refine own_go (fun _ => XS.iload X0.here hx rfl (hb hby own_d5_5) rfl) ?_
  show own_Go _ _ _ _ (s₁.setTop (mkF m 7 #[.val (.ref a1), .val (.int (0 : Int32)), .val (.ref a2), .val (.int (0 : Int32)), .val (.int (3 : Int32)), .val (.int (0 : Int32)), .unset] [(.int (3 : Int32)), (.int (0 : Int32))]))
  refine own_go (fun _ => XS.icmpNo X0.here hx rfl (hb hby own_d5_7) rfl (tlt (by decide)).2.1) ?_
  show own_Go _ _ _ _ (s₁.setTop (mkF m 10 #[.val (.ref a1), .val (.int (0 : Int32)), .val (.ref a2), .val (.int (0 : Int32)), .val (.int (3 : Int32)), .val (.int (0 : Int32)), .unset] []))
  refine own_go (fun _ => XS.aloadN X0.here hx rfl (hb hby own_d5_10) rfl rfl) ?_
  refine own_go (fun _ => XS.iloadN X0.here hx rfl (hb hby own_d5_11) rfl) ?_
  obtain ⟨cl1, Ar1, q1, Sz1, Ng1, Hs1, Gs1⟩ := id Vc
  have hin1 : ¬ ((0 : Int32) < 0 ∨ cl1.slots.size ≤ ((0 : Int32)).toNatClampNeg) := inb_of Sz1 ⟨by decide, by decide⟩
  have hat1 : cl1.slots[((0 : Int32)).toNatClampNeg]? = some (.int x0) := Hs1.at hin1 rfl
  refine own_go (X0.caload hx (j := (0 : Int32)) (v := (.int x0)) (own_hp e0 Ar1.1) (State.isArrayOf_alike hZ.alike Ar1.2.1) Ar1.2.2 hin1 hat1 (g := (mkF m 12 #[.val (.ref a1), .val (.int (0 : Int32)), .val (.ref a2), .val (.int (0 : Int32)), .val (.int (3 : Int32)), .val (.int (0 : Int32)), .unset] [(.int (0 : Int32)), (.ref a1)])) rfl rfl (hb hby own_d5_12)) ?_
  refine own_go (fun _ => XS.istore X0.here hx rfl (hb hby own_d5_13) rfl (l' := #[.val (.ref a1), .val (.int (0 : Int32)), .val (.ref a2), .val (.int (0 : Int32)), .val (.int (3 : Int32)), .val (.int (0 : Int32)), .val (.int x0)]) rfl) ?_
  refine own_go (fun _ => XS.iload X0.here hx rfl (hb hby own_d5_15) rfl) ?_
  show own_Go _ _ _ _ (s₁.setTop (mkF m 17 #[.val (.ref a1), .val (.int (0 : Int32)), .val (.ref a2), .val (.int (0 : Int32)), .val (.int (3 : Int32)), .val (.int (0 : Int32)), .val (.int x0)] [(.int x0)]))
  refine own_go (fun _ => XS.sipush X0.here hx rfl (hb hby own_d5_17)) ?_
  show own_Go _ _ _ _ (s₁.setTop (mkF m 20 #[.val (.ref a1), .val (.int (0 : Int32)), .val (.ref a2), .val (.int (0 : Int32)), .val (.int (3 : Int32)), .val (.int (0 : Int32)), .val (.int x0)] [(.int (255 : Int32)), (.int x0)]))
  by_cases hx0 : (255 : Int32) < x0
  · have _h := hx0
    refine own_go (fun _ => XS.icmpNo X0.here hx rfl (hb hby own_d5_20) rfl (tlt hx0).2.2.2) ?_
    show own_Go _ _ _ _ (s₁.setTop (mkF m 23 #[.val (.ref a1), .val (.int (0 : Int32)), .val (.ref a2), .val (.int (0 : Int32)), .val (.int (3 : Int32)), .val (.int (0 : Int32)), .val (.int x0)] []))
    refine own_go (fun _ => XS.iload X0.here hx rfl (hb hby own_d5_23) rfl) ?_
    show own_Go _ _ _ _ (s₁.setTop (mkF m 25 #[.val (.ref a1), .val (.int (0 : Int32)), .val (.ref a2), .val (.int (0 : Int32)), .val (.int (3 : Int32)), .val (.int (0 : Int32)), .val (.int x0)] [(.int (0 : Int32))]))
    refine own_ret X0 hlk (v := some (.int (0 : Int32))) (fun h => by rw [Bd.returns] at h; cases h) (fun fs hr => retOut X0 hx Bd.returns rfl (Or.inl ⟨rfl, Or.inl rfl, _, rfl⟩) (hb hby own_d5_25) hr) ?_ (by decide) (by decide)
    try rw [e0]
    exact ⟨_, rfl, N0, K0, O, Or.inl ⟨hx0, rfl⟩⟩
  · have _h := hx0
    refine own_go (fun _ => XS.icmpYes X0.here hx rfl (pc0 := 20) (pc' := 26) rfl (hb hby own_d5_20) rfl (flt hx0).2.2.2 (by decide) (by decide)) ?_
    show own_Go _ _ _ _ (s₁.setTop (mkF m 26 #[.val (.ref a1), .val (.int (0 : Int32)), .val (.ref a2), .val (.int (0 : Int32)), .val (.int (3 : Int32)), .val (.int (0 : Int32)), .val (.int x0)] []))
    refine own_go (fun _ => XS.aloadN X0.here hx rfl (hb hby own_d5_26) rfl rfl) ?_
    refine own_go (fun _ => XS.iloadN X0.here hx rfl (hb hby own_d5_27) rfl) ?_
    refine own_go (fun _ => XS.iload X0.here hx rfl (hb hby own_d5_28) rfl) ?_
    refine own_go (fun _ => XS.i2b X0.here hx rfl (hb hby own_d5_30) rfl) ?_
    obtain ⟨cl2, Ar2, q2, Sz2, Ng2, Hs2, Gs2⟩ := Vd
    have hin2 : ¬ ((0 : Int32) < 0 ∨ cl2.slots.size ≤ ((0 : Int32)).toNatClampNeg) := inb_of Sz2 ⟨by decide, by decide⟩
    obtain ⟨T2, h2, X2, e2, W2, st2⟩ := stB X0 hx hZ e0 Ar2 (j := (0 : Int32)) hin2 (g := (mkF m 31 #[.val (.ref a1), .val (.int (0 : Int32)), .val (.ref a2), .val (.int (0 : Int32)), .val (.int (3 : Int32)), .val (.int (0 : Int32)), .val (.int x0)] [(.int (x0.toInt8.toInt32)), (.int (0 : Int32)), (.ref a2)])) rfl rfl (hb hby own_d5_31)
    refine own_go st2 ?_
    have NF2 := Fr.snoc X2 N0 ge_a2
    replace Vd : Arv Z h2 a2 kd .byte (3 : Int32) [(.int (nar .byte (x0.toInt8.toInt32))), (.int (0 : Int32)), (.int (0 : Int32))] (.int (0 : Int32)) := Arv.set Ar2 q2 Sz2 Ng2 Hs2 Gs2 (fits_nar_byte _) W2 0 rfl (Nat.le_of_ble_eq_true rfl)
    replace Vc := Vc.other W2 ne12
    replace O := O.wr W2 ge_a2
    replace Z0 := Nat.le_trans Z0 (Keep.of_wr W2).1
    replace K0 := K0.wr W2 (Or.inl (List.mem_of_getElem? (i := 0) rfl))
    show own_Go _ _ _ _ (T2.setTop (mkF m 32 #[.val (.ref a1), .val (.int (0 : Int32)), .val (.ref a2), .val (.int (0 : Int32)), .val (.int (3 : Int32)), .val (.int (0 : Int32)), .val (.int x0)] []))
    refine own_go (fun _ => XS.iinc X2.here hx rfl (hb hby own_d5_32) rfl (l' := #[.val (.ref a1), .val (.int (1 : Int32)), .val (.ref a2), .val (.int (0 : Int32)), .val (.int (3 : Int32)), .val (.int (0 : Int32)), .val (.int x0)]) rfl) ?_
    refine own_go (fun _ => XS.iinc X2.here hx rfl (hb hby own_d5_35) rfl (l' := #[.val (.ref a1), .val (.int (1 : Int32)), .val (.ref a2), .val (.int (1 : Int32)), .val (.int (3 : Int32)), .val (.int (0 : Int32)), .val (.int x0)]) rfl) ?_
    refine own_go (fun _ => XS.iinc X2.here hx rfl (hb hby own_d5_38) rfl (l' := #[.val (.ref a1), .val (.int (1 : Int32)), .val (.ref a2), .val (.int (1 : Int32)), .val (.int (3 : Int32)), .val (.int (1 : Int32)), .val (.int x0)]) rfl) ?_
    refine own_go (fun _ => XS.goto X2.here hx rfl (pc0 := 41) (pc' := 3) rfl (hb hby own_d5_41) (by decide) (by decide)) ?_
    refine own_go (fun _ => XS.iload X2.here hx rfl (hb hby own_d5_3) rfl) ?_
    show own_Go _ _ _ _ (T2.setTop (mkF m 5 #[.val (.ref a1), .val (.int (1 : Int32)), .val (.ref a2), .val (.int (1 : Int32)), .val (.int (3 : Int32)), .val (.int (1 : Int32)), .val (.int x0)] [(.int (1 : Int32))]))
    refine own_go (fun _ => XS.iload X2.here hx rfl (hb hby own_d5_5) rfl) ?_
    show own_Go _ _ _ _ (T2.setTop (mkF m 7 #[.val (.ref a1), .val (.int (1 : Int32)), .val (.ref a2), .val (.int (1 : Int32)), .val (.int (3 : Int32)), .val (.int (1 : Int32)), .val (.int x0)] [(.int (3 : Int32)), (.int (1 : Int32))]))
    refine own_go (fun _ => XS.icmpNo X2.here hx rfl (hb hby own_d5_7) rfl (tlt (by decide)).2.1) ?_
    show own_Go _ _ _ _ (T2.setTop (mkF m 10 #[.val (.ref a1), .val (.int (1 : Int32)), .val (.ref a2), .val (.int (1 : Int32)), .val (.int (3 : Int32)), .val (.int (1 : Int32)), .val (.int x0)] []))
    refine own_go (fun _ => XS.aloadN X2.here hx rfl (hb hby own_d5_10) rfl rfl) ?_
    refine own_go (fun _ => XS.iloadN X2.here hx rfl (hb hby own_d5_11) rfl) ?_
    obtain ⟨cl3, Ar3, q3, Sz3, Ng3, Hs3, Gs3⟩ := id Vc
    have hin3 : ¬ ((1 : Int32) < 0 ∨ cl3.slots.size ≤ ((1 : Int32)).toNatClampNeg) := inb_of Sz3 ⟨by decide, by decide⟩
    have hat3 : cl3.slots[((1 : Int32)).toNatClampNeg]? = some (.int x1) := Hs3.at hin3 rfl
    refine own_go (X2.caload hx (j := (1 : Int32)) (v := (.int x1)) (own_hp e2 Ar3.1) (State.isArrayOf_alike hZ.alike Ar3.2.1) Ar3.2.2 hin3 hat3 (g := (mkF m 12 #[.val (.ref a1), .val (.int (1 : Int32)), .val (.ref a2), .val (.int (1 : Int32)), .val (.int (3 : Int32)), .val (.int (1 : Int32)), .val (.int x0)] [(.int (1 : Int32)), (.ref a1)])) rfl rfl (hb hby own_d5_12)) ?_
    refine own_go (fun _ => XS.istore X2.here hx rfl (hb hby own_d5_13) rfl (l' := #[.val (.ref a1), .val (.int (1 : Int32)), .val (.ref a2), .val (.int (1 : Int32)), .val (.int (3 : Int32)), .val (.int (1 : Int32)), .val (.int x1)]) rfl) ?_
    refine own_go (fun _ => XS.iload X2.here hx rfl (hb hby own_d5_15) rfl) ?_
    show own_Go _ _ _ _ (T2.setTop (mkF m 17 #[.val (.ref a1), .val (.int (1 : Int32)), .val (.ref a2), .val (.int (1 : Int32)), .val (.int (3 : Int32)), .val (.int (1 : Int32)), .val (.int x1)] [(.int x1)]))
    refine own_go (fun _ => XS.sipush X2.here hx rfl (hb hby own_d5_17)) ?_
    show own_Go _ _ _ _ (T2.setTop (mkF m 20 #[.val (.ref a1), .val (.int (1 : Int32)), .val (.ref a2), .val (.int (1 : Int32)), .val (.int (3 : Int32)), .val (.int (1 : Int32)), .val (.int x1)] [(.int (255 : Int32)), (.int x1)]))
    by_cases hx1 : (255 : Int32) < x1
    · have _h := hx1
      refine own_go (fun _ => XS.icmpNo X2.here hx rfl (hb hby own_d5_20) rfl (tlt hx1).2.2.2) ?_
      show own_Go _ _ _ _ (T2.setTop (mkF m 23 #[.val (.ref a1), .val (.int (1 : Int32)), .val (.ref a2), .val (.int (1 : Int32)), .val (.int (3 : Int32)), .val (.int (1 : Int32)), .val (.int x1)] []))
      refine own_go (fun _ => XS.iload X2.here hx rfl (hb hby own_d5_23) rfl) ?_
      show own_Go _ _ _ _ (T2.setTop (mkF m 25 #[.val (.ref a1), .val (.int (1 : Int32)), .val (.ref a2), .val (.int (1 : Int32)), .val (.int (3 : Int32)), .val (.int (1 : Int32)), .val (.int x1)] [(.int (1 : Int32))]))
      refine own_ret X2 hlk (v := some (.int (1 : Int32))) (fun h => by rw [Bd.returns] at h; cases h) (fun fs hr => retOut X2 hx Bd.returns rfl (Or.inl ⟨rfl, Or.inl rfl, _, rfl⟩) (hb hby own_d5_25) hr) ?_ (by decide) (by decide)
      try rw [e2]
      exact ⟨_, rfl, NF2, K0, O, Or.inr (Or.inl ⟨hx1, rfl⟩)⟩
    · have _h := hx1
      refine own_go (fun _ => XS.icmpYes X2.here hx rfl (pc0 := 20) (pc' := 26) rfl (hb hby own_d5_20) rfl (flt hx1).2.2.2 (by decide) (by decide)) ?_
      show own_Go _ _ _ _ (T2.setTop (mkF m 26 #[.val (.ref a1), .val (.int (1 : Int32)), .val (.ref a2), .val (.int (1 : Int32)), .val (.int (3 : Int32)), .val (.int (1 : Int32)), .val (.int x1)] []))
      refine own_go (fun _ => XS.aloadN X2.here hx rfl (hb hby own_d5_26) rfl rfl) ?_
      refine own_go (fun _ => XS.iloadN X2.here hx rfl (hb hby own_d5_27) rfl) ?_
      refine own_go (fun _ => XS.iload X2.here hx rfl (hb hby own_d5_28) rfl) ?_
      refine own_go (fun _ => XS.i2b X2.here hx rfl (hb hby own_d5_30) rfl) ?_
      obtain ⟨cl4, Ar4, q4, Sz4, Ng4, Hs4, Gs4⟩ := Vd
      have hin4 : ¬ ((1 : Int32) < 0 ∨ cl4.slots.size ≤ ((1 : Int32)).toNatClampNeg) := inb_of Sz4 ⟨by decide, by decide⟩
      obtain ⟨T4, h4, X4, e4, W4, st4⟩ := stB X2 hx hZ e2 Ar4 (j := (1 : Int32)) hin4 (g := (mkF m 31 #[.val (.ref a1), .val (.int (1 : Int32)), .val (.ref a2), .val (.int (1 : Int32)), .val (.int (3 : Int32)), .val (.int (1 : Int32)), .val (.int x1)] [(.int (x1.toInt8.toInt32)), (.int (1 : Int32)), (.ref a2)])) rfl rfl (hb hby own_d5_31)
      refine own_go st4 ?_
      have NF4 := Fr.snoc X4 NF2 ge_a2
      replace Vd : Arv Z h4 a2 kd .byte (3 : Int32) [(.int (nar .byte (x0.toInt8.toInt32))), (.int (nar .byte (x1.toInt8.toInt32))), (.int (0 : Int32))] (.int (0 : Int32)) := Arv.set Ar4 q4 Sz4 Ng4 Hs4 Gs4 (fits_nar_byte _) W4 1 rfl (Nat.le_of_ble_eq_true rfl)
      replace Vc := Vc.other W4 ne12
      replace O := O.wr W4 ge_a2
      replace Z0 := Nat.le_trans Z0 (Keep.of_wr W4).1
      replace K0 := K0.wr W4 (Or.inl (List.mem_of_getElem? (i := 0) rfl))
      show own_Go _ _ _ _ (T4.setTop (mkF m 32 #[.val (.ref a1), .val (.int (1 : Int32)), .val (.ref a2), .val (.int (1 : Int32)), .val (.int (3 : Int32)), .val (.int (1 : Int32)), .val (.int x1)] []))
      refine own_go (fun _ => XS.iinc X4.here hx rfl (hb hby own_d5_32) rfl (l' := #[.val (.ref a1), .val (.int (2 : Int32)), .val (.ref a2), .val (.int (1 : Int32)), .val (.int (3 : Int32)), .val (.int (1 : Int32)), .val (.int x1)]) rfl) ?_
      refine own_go (fun _ => XS.iinc X4.here hx rfl (hb hby own_d5_35) rfl (l' := #[.val (.ref a1), .val (.int (2 : Int32)), .val (.ref a2), .val (.int (2 : Int32)), .val (.int (3 : Int32)), .val (.int (1 : Int32)), .val (.int x1)]) rfl) ?_
      refine own_go (fun _ => XS.iinc X4.here hx rfl (hb hby own_d5_38) rfl (l' := #[.val (.ref a1), .val (.int (2 : Int32)), .val (.ref a2), .val (.int (2 : Int32)), .val (.int (3 : Int32)), .val (.int (2 : Int32)), .val (.int x1)]) rfl) ?_
      refine own_go (fun _ => XS.goto X4.here hx rfl (pc0 := 41) (pc' := 3) rfl (hb hby own_d5_41) (by decide) (by decide)) ?_
      refine own_go (fun _ => XS.iload X4.here hx rfl (hb hby own_d5_3) rfl) ?_
      show own_Go _ _ _ _ (T4.setTop (mkF m 5 #[.val (.ref a1), .val (.int (2 : Int32)), .val (.ref a2), .val (.int (2 : Int32)), .val (.int (3 : Int32)), .val (.int (2 : Int32)), .val (.int x1)] [(.int (2 : Int32))]))
      refine own_go (fun _ => XS.iload X4.here hx rfl (hb hby own_d5_5) rfl) ?_
      show own_Go _ _ _ _ (T4.setTop (mkF m 7 #[.val (.ref a1), .val (.int (2 : Int32)), .val (.ref a2), .val (.int (2 : Int32)), .val (.int (3 : Int32)), .val (.int (2 : Int32)), .val (.int x1)] [(.int (3 : Int32)), (.int (2 : Int32))]))
      refine own_go (fun _ => XS.icmpNo X4.here hx rfl (hb hby own_d5_7) rfl (tlt (by decide)).2.1) ?_
      show own_Go _ _ _ _ (T4.setTop (mkF m 10 #[.val (.ref a1), .val (.int (2 : Int32)), .val (.ref a2), .val (.int (2 : Int32)), .val (.int (3 : Int32)), .val (.int (2 : Int32)), .val (.int x1)] []))
      refine own_go (fun _ => XS.aloadN X4.here hx rfl (hb hby own_d5_10) rfl rfl) ?_
      refine own_go (fun _ => XS.iloadN X4.here hx rfl (hb hby own_d5_11) rfl) ?_
      obtain ⟨cl5, Ar5, q5, Sz5, Ng5, Hs5, Gs5⟩ := id Vc
      have hin5 : ¬ ((2 : Int32) < 0 ∨ cl5.slots.size ≤ ((2 : Int32)).toNatClampNeg) := inb_of Sz5 ⟨by decide, by decide⟩
      have hat5 : cl5.slots[((2 : Int32)).toNatClampNeg]? = some (.int x2) := Hs5.at hin5 rfl
      refine own_go (X4.caload hx (j := (2 : Int32)) (v := (.int x2)) (own_hp e4 Ar5.1) (State.isArrayOf_alike hZ.alike Ar5.2.1) Ar5.2.2 hin5 hat5 (g := (mkF m 12 #[.val (.ref a1), .val (.int (2 : Int32)), .val (.ref a2), .val (.int (2 : Int32)), .val (.int (3 : Int32)), .val (.int (2 : Int32)), .val (.int x1)] [(.int (2 : Int32)), (.ref a1)])) rfl rfl (hb hby own_d5_12)) ?_
      refine own_go (fun _ => XS.istore X4.here hx rfl (hb hby own_d5_13) rfl (l' := #[.val (.ref a1), .val (.int (2 : Int32)), .val (.ref a2), .val (.int (2 : Int32)), .val (.int (3 : Int32)), .val (.int (2 : Int32)), .val (.int x2)]) rfl) ?_
      refine own_go (fun _ => XS.iload X4.here hx rfl (hb hby own_d5_15) rfl) ?_
      show own_Go _ _ _ _ (T4.setTop (mkF m 17 #[.val (.ref a1), .val (.int (2 : Int32)), .val (.ref a2), .val (.int (2 : Int32)), .val (.int (3 : Int32)), .val (.int (2 : Int32)), .val (.int x2)] [(.int x2)]))
      refine own_go (fun _ => XS.sipush X4.here hx rfl (hb hby own_d5_17)) ?_
      show own_Go _ _ _ _ (T4.setTop (mkF m 20 #[.val (.ref a1), .val (.int (2 : Int32)), .val (.ref a2), .val (.int (2 : Int32)), .val (.int (3 : Int32)), .val (.int (2 : Int32)), .val (.int x2)] [(.int (255 : Int32)), (.int x2)]))
      by_cases hx2 : (255 : Int32) < x2
      · have _h := hx2
        refine own_go (fun _ => XS.icmpNo X4.here hx rfl (hb hby own_d5_20) rfl (tlt hx2).2.2.2) ?_
        show own_Go _ _ _ _ (T4.setTop (mkF m 23 #[.val (.ref a1), .val (.int (2 : Int32)), .val (.ref a2), .val (.int (2 : Int32)), .val (.int (3 : Int32)), .val (.int (2 : Int32)), .val (.int x2)] []))
        refine own_go (fun _ => XS.iload X4.here hx rfl (hb hby own_d5_23) rfl) ?_
        show own_Go _ _ _ _ (T4.setTop (mkF m 25 #[.val (.ref a1), .val (.int (2 : Int32)), .val (.ref a2), .val (.int (2 : Int32)), .val (.int (3 : Int32)), .val (.int (2 : Int32)), .val (.int x2)] [(.int (2 : Int32))]))
        refine own_ret X4 hlk (v := some (.int (2 : Int32))) (fun h => by rw [Bd.returns] at h; cases h) (fun fs hr => retOut X4 hx Bd.returns rfl (Or.inl ⟨rfl, Or.inl rfl, _, rfl⟩) (hb hby own_d5_25) hr) ?_ (by decide) (by decide)
        try rw [e4]
        exact ⟨_, rfl, NF4, K0, O, Or.inr (Or.inr (Or.inl ⟨hx2, rfl⟩))⟩
      · have _h := hx2
        refine own_go (fun _ => XS.icmpYes X4.here hx rfl (pc0 := 20) (pc' := 26) rfl (hb hby own_d5_20) rfl (flt hx2).2.2.2 (by decide) (by decide)) ?_
        show own_Go _ _ _ _ (T4.setTop (mkF m 26 #[.val (.ref a1), .val (.int (2 : Int32)), .val (.ref a2), .val (.int (2 : Int32)), .val (.int (3 : Int32)), .val (.int (2 : Int32)), .val (.int x2)] []))
        refine own_go (fun _ => XS.aloadN X4.here hx rfl (hb hby own_d5_26) rfl rfl) ?_
        refine own_go (fun _ => XS.iloadN X4.here hx rfl (hb hby own_d5_27) rfl) ?_
        refine own_go (fun _ => XS.iload X4.here hx rfl (hb hby own_d5_28) rfl) ?_
        refine own_go (fun _ => XS.i2b X4.here hx rfl (hb hby own_d5_30) rfl) ?_
        obtain ⟨cl6, Ar6, q6, Sz6, Ng6, Hs6, Gs6⟩ := Vd
        have hin6 : ¬ ((2 : Int32) < 0 ∨ cl6.slots.size ≤ ((2 : Int32)).toNatClampNeg) := inb_of Sz6 ⟨by decide, by decide⟩
        obtain ⟨T6, h6, X6, e6, W6, st6⟩ := stB X4 hx hZ e4 Ar6 (j := (2 : Int32)) hin6 (g := (mkF m 31 #[.val (.ref a1), .val (.int (2 : Int32)), .val (.ref a2), .val (.int (2 : Int32)), .val (.int (3 : Int32)), .val (.int (2 : Int32)), .val (.int x2)] [(.int (x2.toInt8.toInt32)), (.int (2 : Int32)), (.ref a2)])) rfl rfl (hb hby own_d5_31)
        refine own_go st6 ?_
        have NF6 := Fr.snoc X6 NF4 ge_a2
        replace Vd : Arv Z h6 a2 kd .byte (3 : Int32) [(.int (nar .byte (x0.toInt8.toInt32))), (.int (nar .byte (x1.toInt8.toInt32))), (.int (nar .byte (x2.toInt8.toInt32)))] (.int (0 : Int32)) := Arv.set Ar6 q6 Sz6 Ng6 Hs6 Gs6 (fits_nar_byte _) W6 2 rfl (Nat.le_of_ble_eq_true rfl)
        replace Vc := Vc.other W6 ne12
        replace O := O.wr W6 ge_a2
        replace Z0 := Nat.le_trans Z0 (Keep.of_wr W6).1
        replace K0 := K0.wr W6 (Or.inl (List.mem_of_getElem? (i := 0) rfl))
        show own_Go _ _ _ _ (T6.setTop (mkF m 32 #[.val (.ref a1), .val (.int (2 : Int32)), .val (.ref a2), .val (.int (2 : Int32)), .val (.int (3 : Int32)), .val (.int (2 : Int32)), .val (.int x2)] []))
        refine own_go (fun _ => XS.iinc X6.here hx rfl (hb hby own_d5_32) rfl (l' := #[.val (.ref a1), .val (.int (3 : Int32)), .val (.ref a2), .val (.int (2 : Int32)), .val (.int (3 : Int32)), .val (.int (2 : Int32)), .val (.int x2)]) rfl) ?_
        refine own_go (fun _ => XS.iinc X6.here hx rfl (hb hby own_d5_35) rfl (l' := #[.val (.ref a1), .val (.int (3 : Int32)), .val (.ref a2), .val (.int (3 : Int32)), .val (.int (3 : Int32)), .val (.int (2 : Int32)), .val (.int x2)]) rfl) ?_
        refine own_go (fun _ => XS.iinc X6.here hx rfl (hb hby own_d5_38) rfl (l' := #[.val (.ref a1), .val (.int (3 : Int32)), .val (.ref a2), .val (.int (3 : Int32)), .val (.int (3 : Int32)), .val (.int (3 : Int32)), .val (.int x2)]) rfl) ?_
        refine own_go (fun _ => XS.goto X6.here hx rfl (pc0 := 41) (pc' := 3) rfl (hb hby own_d5_41) (by decide) (by decide)) ?_
        refine own_go (fun _ => XS.iload X6.here hx rfl (hb hby own_d5_3) rfl) ?_
        show own_Go _ _ _ _ (T6.setTop (mkF m 5 #[.val (.ref a1), .val (.int (3 : Int32)), .val (.ref a2), .val (.int (3 : Int32)), .val (.int (3 : Int32)), .val (.int (3 : Int32)), .val (.int x2)] [(.int (3 : Int32))]))
        refine own_go (fun _ => XS.iload X6.here hx rfl (hb hby own_d5_5) rfl) ?_
        show own_Go _ _ _ _ (T6.setTop (mkF m 7 #[.val (.ref a1), .val (.int (3 : Int32)), .val (.ref a2), .val (.int (3 : Int32)), .val (.int (3 : Int32)), .val (.int (3 : Int32)), .val (.int x2)] [(.int (3 : Int32)), (.int (3 : Int32))]))
        refine own_go (fun _ => XS.icmpYes X6.here hx rfl (pc0 := 7) (pc' := 44) rfl (hb hby own_d5_7) rfl (flt (by decide)).2.1 (by decide) (by decide)) ?_
        show own_Go _ _ _ _ (T6.setTop (mkF m 44 #[.val (.ref a1), .val (.int (3 : Int32)), .val (.ref a2), .val (.int (3 : Int32)), .val (.int (3 : Int32)), .val (.int (3 : Int32)), .val (.int x2)] []))
        refine own_go (fun _ => XS.iload X6.here hx rfl (hb hby own_d5_44) rfl) ?_
        show own_Go _ _ _ _ (T6.setTop (mkF m 46 #[.val (.ref a1), .val (.int (3 : Int32)), .val (.ref a2), .val (.int (3 : Int32)), .val (.int (3 : Int32)), .val (.int (3 : Int32)), .val (.int x2)] [(.int (3 : Int32))]))
        refine own_ret X6 hlk (v := some (.int (3 : Int32))) (fun h => by rw [Bd.returns] at h; cases h) (fun fs hr => retOut X6 hx Bd.returns rfl (Or.inl ⟨rfl, Or.inl rfl, _, rfl⟩) (hb hby own_d5_46) hr) ?_ (by decide) (by decide)
        try rw [e6]
        exact ⟨_, rfl, NF6, K0, O, Or.inr (Or.inr (Or.inr (⟨⟨hx0, hx1, hx2⟩, rfl, Vd⟩)))⟩
set_option maxRecDepth 65536 in
set_option maxHeartbeats 40000000 in
theorem own_rmML3 (l : Launch) (Z : State) (a0 : Array Value) (hw : ∀ d ∈ tables_1, d.before a0 Z = true) (a1 : Addr) (kc : ClassId) (x0 : Int32) (x1 : Int32) (x2 : Int32) (h0 : Heap) (n0 : Nat) (Z0 : n0 ≤ h0.size) (Vc : Arv Z h0 a1 kc .char 3 [(.int x0), (.int x1), (.int x2)] (.int 0)) (O : Old Z n0 h0) (hx' : ¬ (255 : Int32) < x0 ∧ ¬ (255 : Int32) < x1 ∧ ¬ (255 : Int32) < x2) :
    own_Met l Z [] (⟨"java/lang/StringUTF16", "compress", "([CII)[B"⟩ : MethodName) jdk_52_method_16_code 6 (some (.array .byte)) ({ frames := 3, cells := 2, slots := 9, locals := 40 } : Room) #[(.ref a1), (.int (0 : Int32)), (.int (3 : Int32))] h0 (fun v h L => ∃ (b : Addr) (k : ClassId), v = some (.ref b) ∧ Fr n0 L ∧ Keep h0 h [] ∧ Old Z n0 h ∧ n0 ≤ b ∧ h0.size ≤ b ∧ Arv Z h b k .byte 3 [(.int (nar .byte (x0.toInt8.toInt32))), (.int (nar .byte (x1.toInt8.toInt32))), (.int (nar .byte (x2.toInt8.toInt32)))] (.int 0)) := by
  refine MetFree.of_bodySF (plainFor_of_name own_pn3) hisR ?_
  intro p e s m args below meth c s₁ Bd hml0 hP hK
  obtain ⟨rfl, hZ, hh⟩ := hP
  have hx := Bd.exec
  have hby := Bd.bytes
  have hml : c.maxLocals = 6 := hml0
  have hown : s.vm.findClass "java/lang/StringUTF16" = some m.cls := findClass_of_methodNamed Bd.named
  have hnm := (name_of_methodNamed Bd.named Bd.method).1
  have hlk : meth.locks = false := Bd.notSynchronized
  have X0 : Stand p l e ({ frames := 3, cells := 2, slots := 9, locals := 40 } : Room) s m #[(.ref a1), (.int (0 : Int32)), (.int (3 : Int32))] below meth c s₁ [] 0 0 := Stand.of_body Bd
  have e0 : s₁.heap = h0 := by rw [← hh, Bd.state]; rfl
  have N0 := Fr.nil n0
  refine own_body (Q := fun v h L => ∃ (b : Addr) (k : ClassId), v = some (.ref b) ∧ Fr n0 L ∧ Keep h0 h [] ∧ Old Z n0 h ∧ n0 ≤ b ∧ h0.size ≤ b ∧ Arv Z h b k .byte 3 [(.int (nar .byte (x0.toInt8.toInt32))), (.int (nar .byte (x1.toInt8.toInt32))), (.int (nar .byte (x2.toInt8.toInt32)))] (.int 0)) ?_
  refine own_go (fun _ kont => castTop (own_ef m #[(.ref a1), (.int (0 : Int32)), (.int (3 : Int32))] 6 #[.val (.ref a1), .val (.int (0 : Int32)), .val (.int (3 : Int32)), .unset, .unset, .unset] (own_al [(.ref a1), (.int (0 : Int32)), (.int (3 : Int32))] 6 [.val (.ref a1), .val (.int (0 : Int32)), .val (.int (3 : Int32)), .unset, .unset, .unset] rfl)) kont) ?_
  show own_Go _ _ _ _ (s₁.setTop (mkF m 0 #[.val (.ref a1), .val (.int (0 : Int32)), .val (.int (3 : Int32)), .unset, .unset, .unset] []))
  have K0 : Keep h0 h0 [] := Keep.refl _ _
  refine own_go (fun _ => XS.iloadN X0.here hx rfl (hb hby own_d4_0) rfl) ?_
  obtain ⟨T1, h1, k1, X1, e1, E1, A1, st1⟩ := newP X0 hx hZ (hw _ (List.mem_of_getElem? (i := 20) rfl)) e0 (g := (mkF m 1 #[.val (.ref a1), .val (.int (0 : Int32)), .val (.int (3 : Int32)), .unset, .unset, .unset] [(.int (3 : Int32))])) rfl (hb hby own_d4_1) rfl (by decide) (cap := 3) (by decide) (by decide) (by decide) (by decide)
  obtain ⟨b1, g1⟩ : ∃ z, z = h0.size := ⟨_, rfl⟩
  rw [← g1] at A1 st1
  refine own_go st1 ?_
  have ge_b1 : n0 ≤ b1 := Nat.le_trans Z0 (Nat.le_of_eq g1.symm)
  have ne_a1_b1 : a1 ≠ b1 := Nat.ne_of_lt (Nat.lt_of_lt_of_le Vc.lt (Nat.le_of_eq g1.symm))
  have sz_b1 : h0.size ≤ b1 := Nat.le_trans K0.1 (Nat.le_of_eq g1.symm)
  replace Vc := Vc.ext E1
  replace O := O.ext E1
  replace Z0 := Nat.le_trans Z0 E1.1
  replace K0 := K0.ext E1
  have V_b1 : Arv Z h1 b1 k1 .byte (3 : Int32) [(.int (0 : Int32)), (.int (0 : Int32)), (.int (0 : Int32))] (.int (0 : Int32)) := (Arv.new A1 (by decide)).pad (pad_rep [] (.int (0 : Int32)) 3)
  refine own_go (fun _ => XS.astoreN X1.here hx rfl (hb hby own_d4_3) rfl rfl (l' := #[.val (.ref a1), .val (.int (0 : Int32)), .val (.int (3 : Int32)), .val (.ref b1), .unset, .unset]) rfl) ?_
  refine own_go (fun _ => XS.aloadN X1.here hx rfl (hb hby own_d4_4) rfl rfl) ?_
  refine own_go (fun _ => XS.iloadN X1.here hx rfl (hb hby own_d4_5) rfl) ?_
  show own_Go _ _ _ _ (T1.setTop (mkF m 6 #[.val (.ref a1), .val (.int (0 : Int32)), .val (.int (3 : Int32)), .val (.ref b1), .unset, .unset] [(.int (0 : Int32)), (.ref a1)]))
  refine own_go (fun _ => XS.aloadN X1.here hx rfl (hb hby own_d4_6) rfl rfl) ?_
  refine own_go (fun _ => XS.iconst X1.here hx rfl (hb hby own_d4_7)) ?_
  refine own_go (fun _ => XS.iloadN X1.here hx rfl (hb hby own_d4_8) rfl) ?_
  show own_Go _ _ _ _ (T1.setTop (mkF m 9 #[.val (.ref a1), .val (.int (0 : Int32)), .val (.int (3 : Int32)), .val (.ref b1), .unset, .unset] [(.int (3 : Int32)), (.int (0 : Int32)), (.ref b1), (.int (0 : Int32)), (.ref a1)]))
  obtain ⟨_, _, ⟨T2, L2, k2, n2⟩, -, X2, ⟨Lc2, hQ2, l2, y2, z2⟩, st2⟩ := Jvm.LawKit.callS X1 hx (y := (⟨"java/lang/StringUTF16", "compress", "([CI[BII)I"⟩ : MethodName)) hown (mvT hZ (hw _ (List.mem_of_getElem? (i := 21) rfl))) (mvT hZ (hw _ (List.mem_of_getElem? (i := 22) rfl))) (mvT hZ (hw _ (List.mem_of_getElem? (i := 18) rfl))) (mvT hZ (hw _ (List.mem_of_getElem? (i := 23) rfl))) (by decide) (own_back (W := 0) (own_rmK3 l Z a0 hw a1 b1 kc k1 x0 x1 x2 h1 n0 Z0 Vc V_b1 ge_b1 ne_a1_b1 O) hZ (hw _ (List.mem_of_getElem? (i := 23) rfl)) (hw _ (List.mem_of_getElem? (i := 18) rfl)) (by decide) (by decide)) (g := (mkF m 9 #[.val (.ref a1), .val (.int (0 : Int32)), .val (.int (3 : Int32)), .val (.ref b1), .unset, .unset] [(.int (3 : Int32)), (.int (0 : Int32)), (.ref b1), (.int (0 : Int32)), (.ref a1)])) rfl (by rw [hml]; rfl) (argsL := [(.ref a1), (.int (0 : Int32)), (.ref b1), (.int (0 : Int32)), (.int (3 : Int32))]) (rest := []) (lenOf own_pd8 rfl) rfl (by show 2 * 0 + _ ≤ _; exact Nat.le_of_eq rfl) (hb hby own_d4_9) (fun _ _ => ⟨rfl, e1, (by decide : 1 + 0 ≤ _), (by decide : 3 + 0 ≤ _)⟩)
  dsimp only [Pt.U, Pt.locs, Pt.cells, Pt.slots] at X2 l2 y2 z2 st2 hQ2
  replace X2 := own_cst X2 l2 y2 z2 (k2 := 1) (n2 := 3) rfl rfl
  clear l2 y2 z2
  obtain ⟨r2, rfl, Nq2, K2, O2, Dj2⟩ := hQ2
  have NF2 := Fr.app N0 Nq2
  refine own_go st2 ?_
  replace Vc := Vc.keep K2 (ninS ne_a1_b1 nin0)
  replace Z0 := Nat.le_trans Z0 K2.1
  replace K0 := K0.trans K2 (allS (Or.inr sz_b1) all0)
  have O := O2
  have DV : r2 = 3 ∧ Arv Z T2.heap b1 k1 .byte 3 [(.int (nar .byte (x0.toInt8.toInt32))), (.int (nar .byte (x1.toInt8.toInt32))), (.int (nar .byte (x2.toInt8.toInt32)))] (.int 0) := by
    rcases Dj2 with ⟨q, -⟩ | ⟨q, -⟩ | ⟨q, -⟩ | ⟨-, q⟩
    · exact absurd q hx'.1
    · exact absurd q hx'.2.1
    · exact absurd q hx'.2.2
    · exact q
  obtain ⟨rfl, V2⟩ := DV
  show own_Go _ _ _ _ (T2.setTop (mkF m 12 #[.val (.ref a1), .val (.int (0 : Int32)), .val (.int (3 : Int32)), .val (.ref b1), .unset, .unset] [(.int (3 : Int32))]))
  refine own_go (fun _ => XS.istore X2.here hx rfl (hb hby own_d4_12) rfl (l' := #[.val (.ref a1), .val (.int (0 : Int32)), .val (.int (3 : Int32)), .val (.ref b1), .val (.int (3 : Int32)), .unset]) rfl) ?_
  refine own_go (fun _ => XS.iload X2.here hx rfl (hb hby own_d4_14) rfl) ?_
  refine own_go (fun _ => XS.iloadN X2.here hx rfl (hb hby own_d4_16) rfl) ?_
  show own_Go _ _ _ _ (T2.setTop (mkF m 17 #[.val (.ref a1), .val (.int (0 : Int32)), .val (.int (3 : Int32)), .val (.ref b1), .val (.int (3 : Int32)), .unset] [(.int (3 : Int32)), (.int (3 : Int32))]))
  refine own_go (fun _ => XS.icmpYes X2.here hx rfl (pc0 := 17) (pc' := 57) rfl (hb hby own_d4_17) rfl (teq rfl).1 (by decide) (by decide)) ?_
  show own_Go _ _ _ _ (T2.setTop (mkF m 57 #[.val (.ref a1), .val (.int (0 : Int32)), .val (.int (3 : Int32)), .val (.ref b1), .val (.int (3 : Int32)), .unset] []))
  refine own_go (fun _ => XS.aloadN X2.here hx rfl (hb hby own_d4_57) rfl rfl) ?_
  show own_Go _ _ _ _ (T2.setTop (mkF m 58 #[.val (.ref a1), .val (.int (0 : Int32)), .val (.int (3 : Int32)), .val (.ref b1), .val (.int (3 : Int32)), .unset] [(.ref b1)]))
  refine own_ret X2 hlk (v := some (.ref b1)) (fun h => by rw [Bd.returns] at h; cases h) (fun fs hr => retOut X2 hx Bd.returns rfl (Or.inr (Or.inr (Or.inr (Or.inr ⟨rfl, rfl, rfl⟩)))) (hb hby own_d4_58) hr) ?_ (by decide) (by decide)
  skip
  exact ⟨b1, k1, rfl, NF2, K0, O, ge_b1, sz_b1, V2⟩
set_option maxRecDepth 65536 in
set_option maxHeartbeats 40000000 in
theorem own_rmNB3 (l : Launch) (Z : State) (a0 : Array Value) (hw : ∀ d ∈ tables_1, d.before a0 Z = true)  (h0 : Heap) (n0 : Nat) (Z0 : n0 ≤ h0.size) (O : Old Z n0 h0) :
    own_Met l Z [] (⟨"java/lang/StringUTF16", "newBytesFor", "(I)[B"⟩ : MethodName) jdk_52_method_2_code 1 (some (.array .byte)) ({ frames := 1, cells := 1, slots := 6, locals := 12 } : Room) #[(.int (3 : Int32))] h0 (fun v h L => ∃ (b : Addr) (k : ClassId), v = some (.ref b) ∧ Fr n0 L ∧ Keep h0 h [] ∧ Old Z n0 h ∧ n0 ≤ b ∧ h0.size ≤ b ∧ Arv Z h b k .byte 6 [(.int 0), (.int 0), (.int 0), (.int 0), (.int 0), (.int 0)] (.int 0)) := by
  refine MetFree.of_bodySF (plainFor_of_name own_pn3) hisR ?_
  intro p e s m args below meth c s₁ Bd hml0 hP hK
  obtain ⟨rfl, hZ, hh⟩ := hP
  have hx := Bd.exec
  have hby := Bd.bytes
  have hml : c.maxLocals = 1 := hml0
  have hown : s.vm.findClass "java/lang/StringUTF16" = some m.cls := findClass_of_methodNamed Bd.named
  have hnm := (name_of_methodNamed Bd.named Bd.method).1
  have hlk : meth.locks = false := Bd.notSynchronized
  have X0 : Stand p l e ({ frames := 1, cells := 1, slots := 6, locals := 12 } : Room) s m #[(.int (3 : Int32))] below meth c s₁ [] 0 0 := Stand.of_body Bd
  have e0 : s₁.heap = h0 := by rw [← hh, Bd.state]; rfl
  have N0 := Fr.nil n0
  refine own_body (Q := fun v h L => ∃ (b : Addr) (k : ClassId), v = some (.ref b) ∧ Fr n0 L ∧ Keep h0 h [] ∧ Old Z n0 h ∧ n0 ≤ b ∧ h0.size ≤ b ∧ Arv Z h b k .byte 6 [(.int 0), (.int 0), (.int 0), (.int 0), (.int 0), (.int 0)] (.int 0)) ?_
  refine own_go (fun _ kont => castTop (own_ef m #[(.int (3 : Int32))] 1 #[.val (.int (3 : Int32))] (own_al [(.int (3 : Int32))] 1 [.val (.int (3 : Int32))] rfl)) kont) ?_
  show own_Go _ _ _ _ (s₁.setTop (mkF m 0 #[.val (.int (3 : Int32))] []))
  have K0 : Keep h0 h0 [] := Keep.refl _ _
  refine own_go (fun _ => XS.iloadN X0.here hx rfl (hb hby own_d27_0) rfl) ?_
  show own_Go _ _ _ _ (s₁.setTop (mkF m 1 #[.val (.int (3 : Int32))] [(.int (3 : Int32))]))
  obtain ⟨_, _, ⟨T1, L1, k1, n1⟩, -, X1, ⟨Lc1, hQ1, l1, y1, z1⟩, st1⟩ := Jvm.LawKit.callS X0 hx (y := (⟨"java/lang/StringUTF16", "newBytesLength", "(I)I"⟩ : MethodName)) hown (mvT hZ (hw _ (List.mem_of_getElem? (i := 124) rfl))) (mvT hZ (hw _ (List.mem_of_getElem? (i := 125) rfl))) (mvT hZ (hw _ (List.mem_of_getElem? (i := 18) rfl))) (mvT hZ (hw _ (List.mem_of_getElem? (i := 126) rfl))) (by decide) (own_back (W := 0) (own_rmBL l Z a0 hw 3 6 h0 n0 Z0 (by decide) (by decide) (by decide)) hZ (hw _ (List.mem_of_getElem? (i := 126) rfl)) (hw _ (List.mem_of_getElem? (i := 18) rfl)) (by decide) (by decide)) (g := (mkF m 1 #[.val (.int (3 : Int32))] [(.int (3 : Int32))])) rfl (by rw [hml]; rfl) (argsL := [(.int (3 : Int32))]) (rest := []) (lenOf own_pd9 rfl) rfl (by show 2 * 0 + _ ≤ _; exact Nat.le_of_eq rfl) (hb hby own_d27_1) (fun _ _ => ⟨rfl, e0, (by decide : 0 + 0 ≤ _), (by decide : 0 + 0 ≤ _)⟩)
  dsimp only [Pt.U, Pt.locs, Pt.cells, Pt.slots] at X1 l1 y1 z1 st1 hQ1
  replace X1 := own_cst X1 l1 y1 z1 (k2 := 0) (n2 := 0) rfl rfl
  clear l1 y1 z1
  obtain ⟨rfl, Nq1, eq1⟩ := hQ1
  have NF1 := Fr.app N0 Nq1
  refine own_go st1 ?_
  show own_Go _ _ _ _ (T1.setTop (mkF m 4 #[.val (.int (3 : Int32))] [(.int (6 : Int32))]))
  obtain ⟨T2, h2, k2, X2, e2, E2, A2, st2⟩ := newP X1 hx hZ (hw _ (List.mem_of_getElem? (i := 20) rfl)) eq1 (g := (mkF m 4 #[.val (.int (3 : Int32))] [(.int (6 : Int32))])) rfl (hb hby own_d27_4) rfl (by decide) (cap := 6) (by decide) (by decide) (by decide) (by decide)
  obtain ⟨b2, g2⟩ : ∃ z, z = h0.size := ⟨_, rfl⟩
  rw [← g2] at A2 st2
  refine own_go st2 ?_
  have ge_b2 : n0 ≤ b2 := Nat.le_trans Z0 (Nat.le_of_eq g2.symm)
  have sz_b2 : h0.size ≤ b2 := Nat.le_trans K0.1 (Nat.le_of_eq g2.symm)
  replace O := O.ext E2
  replace Z0 := Nat.le_trans Z0 E2.1
  replace K0 := K0.ext E2
  have V_b2 : Arv Z h2 b2 k2 .byte (6 : Int32) [(.int (0 : Int32)), (.int (0 : Int32)), (.int (0 : Int32)), (.int (0 : Int32)), (.int (0 : Int32)), (.int (0 : Int32))] (.int (0 : Int32)) := (Arv.new A2 (by decide)).pad (pad_rep [] (.int (0 : Int32)) 6)
  show own_Go _ _ _ _ (T2.setTop (mkF m 6 #[.val (.int (3 : Int32))] [(.ref b2)]))
  refine own_ret X2 hlk (v := some (.ref b2)) (fun h => by rw [Bd.returns] at h; cases h) (fun fs hr => retOut X2 hx Bd.returns rfl (Or.inr (Or.inr (Or.inr (Or.inr ⟨rfl, rfl, rfl⟩)))) (hb hby own_d27_6) hr) ?_ (by decide) (by decide)
  try rw [e2]
  exact ⟨b2, k2, rfl, NF1, K0, O, ge_b2, sz_b2, V_b2⟩
set_option maxRecDepth 65536 in
set_option maxHeartbeats 40000000 in
theorem own_rmTB3 (l : Launch) (Z : State) (a0 : Array Value) (hw : ∀ d ∈ tables_1, d.before a0 Z = true) (a1 : Addr) (kc : ClassId) (x0 : Int32) (x1 : Int32) (x2 : Int32) (h0 : Heap) (n0 : Nat) (Z0 : n0 ≤ h0.size) (Vc : Arv Z h0 a1 kc .char 3 [(.int x0), (.int x1), (.int x2)] (.int 0)) (O : Old Z n0 h0) (S_A : Sta Z Z.heap "java/lang/StringUTF16" "$assertionsDisabled" "Z" (.int 1)) (S_H : Sta Z Z.heap "java/lang/StringUTF16" "HI_BYTE_SHIFT" "I" (.int 0)) (S_L : Sta Z Z.heap "java/lang/StringUTF16" "LO_BYTE_SHIFT" "I" (.int 8)) :
    own_Met l Z [] (⟨"java/lang/StringUTF16", "toBytes", "([CII)[B"⟩ : MethodName) jdk_52_method_14_code 5 (some (.array .byte)) ({ frames := 2, cells := 1, slots := 6, locals := 24 } : Room) #[(.ref a1), (.int (0 : Int32)), (.int (3 : Int32))] h0 (fun v h L => ∃ (b : Addr) (k : ClassId), v = some (.ref b) ∧ Fr n0 L ∧ Keep h0 h [] ∧ Old Z n0 h ∧ n0 ≤ b ∧ h0.size ≤ b ∧ Arv Z h b k .byte 6 [(.int (nar .byte ((x0 >>> ((0 : Int32) &&& 31)).toInt8.toInt32))), (.int (nar .byte ((x0 >>> ((8 : Int32) &&& 31)).toInt8.toInt32))), (.int (nar .byte ((x1 >>> ((0 : Int32) &&& 31)).toInt8.toInt32))), (.int (nar .byte ((x1 >>> ((8 : Int32) &&& 31)).toInt8.toInt32))), (.int (nar .byte ((x2 >>> ((0 : Int32) &&& 31)).toInt8.toInt32))), (.int (nar .byte ((x2 >>> ((8 : Int32) &&& 31)).toInt8.toInt32)))] (.int 0)) := by
  refine MetFree.of_bodySF (plainFor_of_name own_pn3) hisR ?_
  intro p e s m args below meth c s₁ Bd hml0 hP hK
  obtain ⟨rfl, hZ, hh⟩ := hP
  have hx := Bd.exec
  have hby := Bd.bytes
  have hml : c.maxLocals = 5 := hml0
  have hown : s.vm.findClass "java/lang/StringUTF16" = some m.cls := findClass_of_methodNamed Bd.named
  have hnm := (name_of_methodNamed Bd.named Bd.method).1
  have hlk : meth.locks = false := Bd.notSynchronized
  have X0 : Stand p l e ({ frames := 2, cells := 1, slots := 6, locals := 24 } : Room) s m #[(.ref a1), (.int (0 : Int32)), (.int (3 : Int32))] below meth c s₁ [] 0 0 := Stand.of_body Bd
  have e0 : s₁.heap = h0 := by rw [← hh, Bd.state]; rfl
  have N0 := Fr.nil n0
  refine own_body (Q := fun v h L => ∃ (b : Addr) (k : ClassId), v = some (.ref b) ∧ Fr n0 L ∧ Keep h0 h [] ∧ Old Z n0 h ∧ n0 ≤ b ∧ h0.size ≤ b ∧ Arv Z h b k .byte 6 [(.int (nar .byte ((x0 >>> ((0 : Int32) &&& 31)).toInt8.toInt32))), (.int (nar .byte ((x0 >>> ((8 : Int32) &&& 31)).toInt8.toInt32))), (.int (nar .byte ((x1 >>> ((0 : Int32) &&& 31)).toInt8.toInt32))), (.int (nar .byte ((x1 >>> ((8 : Int32) &&& 31)).toInt8.toInt32))), (.int (nar .byte ((x2 >>> ((0 : Int32) &&& 31)).toInt8.toInt32))), (.int (nar .byte ((x2 >>> ((8 : Int32) &&& 31)).toInt8.toInt32)))] (.int 0)) ?_
  refine own_go (fun _ kont => castTop (own_ef m #[(.ref a1), (.int (0 : Int32)), (.int (3 : Int32))] 5 #[.val (.ref a1), .val (.int (0 : Int32)), .val (.int (3 : Int32)), .unset, .unset] (own_al [(.ref a1), (.int (0 : Int32)), (.int (3 : Int32))] 5 [.val (.ref a1), .val (.int (0 : Int32)), .val (.int (3 : Int32)), .unset, .unset] rfl)) kont) ?_
  show own_Go _ _ _ _ (s₁.setTop (mkF m 0 #[.val (.ref a1), .val (.int (0 : Int32)), .val (.int (3 : Int32)), .unset, .unset] []))
  have K0 : Keep h0 h0 [] := Keep.refl _ _
  refine own_go (fun _ => XS.iloadN X0.here hx rfl (hb hby own_d26_0) rfl) ?_
  show own_Go _ _ _ _ (s₁.setTop (mkF m 1 #[.val (.ref a1), .val (.int (0 : Int32)), .val (.int (3 : Int32)), .unset, .unset] [(.int (3 : Int32))]))
  obtain ⟨_, _, ⟨T1, L1, k1, n1⟩, -, X1, ⟨Lc1, hQ1, l1, y1, z1⟩, st1⟩ := Jvm.LawKit.callS X0 hx (y := (⟨"java/lang/StringUTF16", "newBytesFor", "(I)[B"⟩ : MethodName)) hown (mvT hZ (hw _ (List.mem_of_getElem? (i := 121) rfl))) (mvT hZ (hw _ (List.mem_of_getElem? (i := 122) rfl))) (mvT hZ (hw _ (List.mem_of_getElem? (i := 18) rfl))) (mvT hZ (hw _ (List.mem_of_getElem? (i := 123) rfl))) (by decide) (own_back (W := 0) (own_rmNB3 l Z a0 hw h0 n0 Z0 O) hZ (hw _ (List.mem_of_getElem? (i := 123) rfl)) (hw _ (List.mem_of_getElem? (i := 18) rfl)) (by decide) (by decide)) (g := (mkF m 1 #[.val (.ref a1), .val (.int (0 : Int32)), .val (.int (3 : Int32)), .unset, .unset] [(.int (3 : Int32))])) rfl (by rw [hml]; rfl) (argsL := [(.int (3 : Int32))]) (rest := []) (lenOf own_pd10 rfl) rfl (by show 2 * 0 + _ ≤ _; exact Nat.le_of_eq rfl) (hb hby own_d26_1) (fun _ _ => ⟨rfl, e0, (by decide : 0 + 1 ≤ _), (by decide : 0 + 6 ≤ _)⟩)
  dsimp only [Pt.U, Pt.locs, Pt.cells, Pt.slots] at X1 l1 y1 z1 st1 hQ1
  replace X1 := own_cst X1 l1 y1 z1 (k2 := 1) (n2 := 6) rfl rfl
  clear l1 y1 z1
  obtain ⟨b1, kk1, rfl, Nq1, K1, O1, ge_b1, szq1, V1⟩ := hQ1
  have NF1 := Fr.app N0 Nq1
  refine own_go st1 ?_
  have ne_a1_b1 : a1 ≠ b1 := Nat.ne_of_lt (Nat.lt_of_lt_of_le Vc.lt szq1)
  have sz_b1 : h0.size ≤ b1 := Nat.le_trans K0.1 szq1
  replace Vc := Vc.keep K1 nin0
  replace Z0 := Nat.le_trans Z0 K1.1
  replace K0 := K0.trans K1 all0
  have O := O1
  show own_Go _ _ _ _ (T1.setTop (mkF m 4 #[.val (.ref a1), .val (.int (0 : Int32)), .val (.int (3 : Int32)), .unset, .unset] [(.ref b1)]))
  refine own_go (fun _ => XS.astoreN X1.here hx rfl (hb hby own_d26_4) rfl rfl (l' := #[.val (.ref a1), .val (.int (0 : Int32)), .val (.int (3 : Int32)), .val (.ref b1), .unset]) rfl) ?_
  refine own_go (fun _ => XS.iconst X1.here hx rfl (hb hby own_d26_5)) ?_
  refine own_go (fun _ => XS.istore X1.here hx rfl (hb hby own_d26_6) rfl (l' := #[.val (.ref a1), .val (.int (0 : Int32)), .val (.int (3 : Int32)), .val (.ref b1), .val (.int (0 : Int32))]) rfl) ?_
  refine own_go (fun _ => XS.iload X1.here hx rfl (hb hby own_d26_8) rfl) ?_
  refine own_go (fun _ => XS.iloadN X1.here hx rfl (hb hby own_d26_10) rfl) ?_
  show own_Go _ _ _ _ (T1.setTop (mkF m 11 #[.val (.ref a1), .val (.int (0 : Int32)), .val (.int (3 : Int32)), .val (.ref b1), .val (.int (0 : Int32))] [(.int (3 : Int32)), (.int (0 : Int32))]))
  refine own_go (fun _ => XS.icmpNo X1.here hx rfl (hb hby own_d26_11) rfl (tlt (by decide)).2.1) ?_
  show own_Go _ _ _ _ (T1.setTop (mkF m 14 #[.val (.ref a1), .val (.int (0 : Int32)), .val (.int (3 : Int32)), .val (.ref b1), .val (.int (0 : Int32))] []))
  refine own_go (fun _ => XS.aloadN X1.here hx rfl (hb hby own_d26_14) rfl rfl) ?_
  refine own_go (fun _ => XS.iload X1.here hx rfl (hb hby own_d26_15) rfl) ?_
  refine own_go (fun _ => XS.aloadN X1.here hx rfl (hb hby own_d26_17) rfl rfl) ?_
  refine own_go (fun _ => XS.iloadN X1.here hx rfl (hb hby own_d26_18) rfl) ?_
  obtain ⟨cl2, Ar2, q2, Sz2, Ng2, Hs2, Gs2⟩ := id Vc
  have hin2 : ¬ ((0 : Int32) < 0 ∨ cl2.slots.size ≤ ((0 : Int32)).toNatClampNeg) := inb_of Sz2 ⟨by decide, by decide⟩
  have hat2 : cl2.slots[((0 : Int32)).toNatClampNeg]? = some (.int x0) := Hs2.at hin2 rfl
  refine own_go (X1.caload hx (j := (0 : Int32)) (v := (.int x0)) (own_hp rfl Ar2.1) (State.isArrayOf_alike hZ.alike Ar2.2.1) Ar2.2.2 hin2 hat2 (g := (mkF m 19 #[.val (.ref a1), .val (.int (0 : Int32)), .val (.int (3 : Int32)), .val (.ref b1), .val (.int (0 : Int32))] [(.int (0 : Int32)), (.ref a1), (.int (0 : Int32)), (.ref b1)])) rfl rfl (hb hby own_d26_19)) ?_
  show own_Go _ _ _ _ (T1.setTop (mkF m 20 #[.val (.ref a1), .val (.int (0 : Int32)), .val (.int (3 : Int32)), .val (.ref b1), .val (.int (0 : Int32))] [(.int x0), (.int (0 : Int32)), (.ref b1)]))
  obtain ⟨_, _, ⟨T3, L3, k3, n3⟩, -, X3, ⟨Lc3, hQ3, l3, y3, z3⟩, st3⟩ := Jvm.LawKit.callS X1 hx (y := (⟨"java/lang/StringUTF16", "putChar", "([BII)V"⟩ : MethodName)) hown (mvT hZ (hw _ (List.mem_of_getElem? (i := 128) rfl))) (mvT hZ (hw _ (List.mem_of_getElem? (i := 129) rfl))) (mvT hZ (hw _ (List.mem_of_getElem? (i := 18) rfl))) (mvT hZ (hw _ (List.mem_of_getElem? (i := 130) rfl))) (by decide) (own_back (W := 0) (own_rmPC l Z a0 hw b1 kk1 x0 6 0 0 1 0 1 _ T1.heap n0 Z0 V1 (by decide) (by decide) ⟨by decide, by decide⟩ ⟨by decide, by decide⟩ rfl rfl (Nat.le_of_ble_eq_true rfl) (Nat.le_of_ble_eq_true rfl) ge_b1 O S_A S_H S_L) hZ (hw _ (List.mem_of_getElem? (i := 130) rfl)) (hw _ (List.mem_of_getElem? (i := 18) rfl)) (by decide) (by decide)) (g := (mkF m 20 #[.val (.ref a1), .val (.int (0 : Int32)), .val (.int (3 : Int32)), .val (.ref b1), .val (.int (0 : Int32))] [(.int x0), (.int (0 : Int32)), (.ref b1)])) rfl (by rw [hml]; rfl) (argsL := [(.ref b1), (.int (0 : Int32)), (.int x0)]) (rest := []) (lenOf own_pd11 rfl) rfl (by show 2 * 0 + _ ≤ _; exact Nat.le_of_eq rfl) (hb hby own_d26_20) (fun _ _ => ⟨rfl, rfl, (by decide : 1 + 0 ≤ _), (by decide : 6 + 0 ≤ _)⟩)
  dsimp only [Pt.U, Pt.locs, Pt.cells, Pt.slots] at X3 l3 y3 z3 st3 hQ3
  replace X3 := own_cst X3 l3 y3 z3 (k2 := 1) (n2 := 6) rfl rfl
  clear l3 y3 z3
  obtain ⟨rfl, Nq3, K3, O3, V3⟩ := hQ3
  have NF3 := Fr.app NF1 Nq3
  refine own_go st3 ?_
  replace Vc := Vc.keep K3 (ninS ne_a1_b1 nin0)
  replace Z0 := Nat.le_trans Z0 K3.1
  replace K0 := K0.trans K3 (allS (Or.inr sz_b1) all0)
  have O := O3
  replace V3 : Arv Z T3.heap b1 kk1 .byte 6 [(.int (nar .byte ((x0 >>> ((0 : Int32) &&& 31)).toInt8.toInt32))), (.int (nar .byte ((x0 >>> ((8 : Int32) &&& 31)).toInt8.toInt32))), (.int (0 : Int32)), (.int (0 : Int32)), (.int (0 : Int32)), (.int (0 : Int32))] (.int 0) := V3
  show own_Go _ _ _ _ (T3.setTop (mkF m 23 #[.val (.ref a1), .val (.int (0 : Int32)), .val (.int (3 : Int32)), .val (.ref b1), .val (.int (0 : Int32))] []))
  refine own_go (fun _ => XS.iinc X3.here hx rfl (hb hby own_d26_23) rfl (l' := #[.val (.ref a1), .val (.int (1 : Int32)), .val (.int (3 : Int32)), .val (.ref b1), .val (.int (0 : Int32))]) rfl) ?_
  refine own_go (fun _ => XS.iinc X3.here hx rfl (hb hby own_d26_26) rfl (l' := #[.val (.ref a1), .val (.int (1 : Int32)), .val (.int (3 : Int32)), .val (.ref b1), .val (.int (1 : Int32))]) rfl) ?_
  refine own_go (fun _ => XS.goto X3.here hx rfl (pc0 := 29) (pc' := 8) rfl (hb hby own_d26_29) (by decide) (by decide)) ?_
  refine own_go (fun _ => XS.iload X3.here hx rfl (hb hby own_d26_8) rfl) ?_
  refine own_go (fun _ => XS.iloadN X3.here hx rfl (hb hby own_d26_10) rfl) ?_
  show own_Go _ _ _ _ (T3.setTop (mkF m 11 #[.val (.ref a1), .val (.int (1 : Int32)), .val (.int (3 : Int32)), .val (.ref b1), .val (.int (1 : Int32))] [(.int (3 : Int32)), (.int (1 : Int32))]))
  refine own_go (fun _ => XS.icmpNo X3.here hx rfl (hb hby own_d26_11) rfl (tlt (by decide)).2.1) ?_
  show own_Go _ _ _ _ (T3.setTop (mkF m 14 #[.val (.ref a1), .val (.int (1 : Int32)), .val (.int (3 : Int32)), .val (.ref b1), .val (.int (1 : Int32))] []))
  refine own_go (fun _ => XS.aloadN X3.here hx rfl (hb hby own_d26_14) rfl rfl) ?_
  refine own_go (fun _ => XS.iload X3.here hx rfl (hb hby own_d26_15) rfl) ?_
  refine own_go (fun _ => XS.aloadN X3.here hx rfl (hb hby own_d26_17) rfl rfl) ?_
  refine own_go (fun _ => XS.iloadN X3.here hx rfl (hb hby own_d26_18) rfl) ?_
  obtain ⟨cl4, Ar4, q4, Sz4, Ng4, Hs4, Gs4⟩ := id Vc
  have hin4 : ¬ ((1 : Int32) < 0 ∨ cl4.slots.size ≤ ((1 : Int32)).toNatClampNeg) := inb_of Sz4 ⟨by decide, by decide⟩
  have hat4 : cl4.slots[((1 : Int32)).toNatClampNeg]? = some (.int x1) := Hs4.at hin4 rfl
  refine own_go (X3.caload hx (j := (1 : Int32)) (v := (.int x1)) (own_hp rfl Ar4.1) (State.isArrayOf_alike hZ.alike Ar4.2.1) Ar4.2.2 hin4 hat4 (g := (mkF m 19 #[.val (.ref a1), .val (.int (1 : Int32)), .val (.int (3 : Int32)), .val (.ref b1), .val (.int (1 : Int32))] [(.int (1 : Int32)), (.ref a1), (.int (1 : Int32)), (.ref b1)])) rfl rfl (hb hby own_d26_19)) ?_
  show own_Go _ _ _ _ (T3.setTop (mkF m 20 #[.val (.ref a1), .val (.int (1 : Int32)), .val (.int (3 : Int32)), .val (.ref b1), .val (.int (1 : Int32))] [(.int x1), (.int (1 : Int32)), (.ref b1)]))
  obtain ⟨_, _, ⟨T5, L5, k5, n5⟩, -, X5, ⟨Lc5, hQ5, l5, y5, z5⟩, st5⟩ := Jvm.LawKit.callS X3 hx (y := (⟨"java/lang/StringUTF16", "putChar", "([BII)V"⟩ : MethodName)) hown (mvT hZ (hw _ (List.mem_of_getElem? (i := 128) rfl))) (mvT hZ (hw _ (List.mem_of_getElem? (i := 129) rfl))) (mvT hZ (hw _ (List.mem_of_getElem? (i := 18) rfl))) (mvT hZ (hw _ (List.mem_of_getElem? (i := 130) rfl))) (by decide) (own_back (W := 0) (own_rmPC l Z a0 hw b1 kk1 x1 6 1 2 3 2 3 _ T3.heap n0 Z0 V3 (by decide) (by decide) ⟨by decide, by decide⟩ ⟨by decide, by decide⟩ rfl rfl (Nat.le_of_ble_eq_true rfl) (Nat.le_of_ble_eq_true rfl) ge_b1 O S_A S_H S_L) hZ (hw _ (List.mem_of_getElem? (i := 130) rfl)) (hw _ (List.mem_of_getElem? (i := 18) rfl)) (by decide) (by decide)) (g := (mkF m 20 #[.val (.ref a1), .val (.int (1 : Int32)), .val (.int (3 : Int32)), .val (.ref b1), .val (.int (1 : Int32))] [(.int x1), (.int (1 : Int32)), (.ref b1)])) rfl (by rw [hml]; rfl) (argsL := [(.ref b1), (.int (1 : Int32)), (.int x1)]) (rest := []) (lenOf own_pd11 rfl) rfl (by show 2 * 0 + _ ≤ _; exact Nat.le_of_eq rfl) (hb hby own_d26_20) (fun _ _ => ⟨rfl, rfl, (by decide : 1 + 0 ≤ _), (by decide : 6 + 0 ≤ _)⟩)
  dsimp only [Pt.U, Pt.locs, Pt.cells, Pt.slots] at X5 l5 y5 z5 st5 hQ5
  replace X5 := own_cst X5 l5 y5 z5 (k2 := 1) (n2 := 6) rfl rfl
  clear l5 y5 z5
  obtain ⟨rfl, Nq5, K5, O5, V5⟩ := hQ5
  have NF5 := Fr.app NF3 Nq5
  refine own_go st5 ?_
  replace Vc := Vc.keep K5 (ninS ne_a1_b1 nin0)
  replace Z0 := Nat.le_trans Z0 K5.1
  replace K0 := K0.trans K5 (allS (Or.inr sz_b1) all0)
  have O := O5
  replace V5 : Arv Z T5.heap b1 kk1 .byte 6 [(.int (nar .byte ((x0 >>> ((0 : Int32) &&& 31)).toInt8.toInt32))), (.int (nar .byte ((x0 >>> ((8 : Int32) &&& 31)).toInt8.toInt32))), (.int (nar .byte ((x1 >>> ((0 : Int32) &&& 31)).toInt8.toInt32))), (.int (nar .byte ((x1 >>> ((8 : Int32) &&& 31)).toInt8.toInt32))), (.int (0 : Int32)), (.int (0 : Int32))] (.int 0) := V5
  show own_Go _ _ _ _ (T5.setTop (mkF m 23 #[.val (.ref a1), .val (.int (1 : Int32)), .val (.int (3 : Int32)), .val (.ref b1), .val (.int (1 : Int32))] []))
  refine own_go (fun _ => XS.iinc X5.here hx rfl (hb hby own_d26_23) rfl (l' := #[.val (.ref a1), .val (.int (2 : Int32)), .val (.int (3 : Int32)), .val (.ref b1), .val (.int (1 : Int32))]) rfl) ?_
  refine own_go (fun _ => XS.iinc X5.here hx rfl (hb hby own_d26_26) rfl (l' := #[.val (.ref a1), .val (.int (2 : Int32)), .val (.int (3 : Int32)), .val (.ref b1), .val (.int (2 : Int32))]) rfl) ?_
  refine own_go (fun _ => XS.goto X5.here hx rfl (pc0 := 29) (pc' := 8) rfl (hb hby own_d26_29) (by decide) (by decide)) ?_
  refine own_go (fun _ => XS.iload X5.here hx rfl (hb hby own_d26_8) rfl) ?_
  refine own_go (fun _ => XS.iloadN X5.here hx rfl (hb hby own_d26_10) rfl) ?_
  show own_Go _ _ _ _ (T5.setTop (mkF m 11 #[.val (.ref a1), .val (.int (2 : Int32)), .val (.int (3 : Int32)), .val (.ref b1), .val (.int (2 : Int32))] [(.int (3 : Int32)), (.int (2 : Int32))]))
  refine own_go (fun _ => XS.icmpNo X5.here hx rfl (hb hby own_d26_11) rfl (tlt (by decide)).2.1) ?_
  show own_Go _ _ _ _ (T5.setTop (mkF m 14 #[.val (.ref a1), .val (.int (2 : Int32)), .val (.int (3 : Int32)), .val (.ref b1), .val (.int (2 : Int32))] []))
  refine own_go (fun _ => XS.aloadN X5.here hx rfl (hb hby own_d26_14) rfl rfl) ?_
  refine own_go (fun _ => XS.iload X5.here hx rfl (hb hby own_d26_15) rfl) ?_
  refine own_go (fun _ => XS.aloadN X5.here hx rfl (hb hby own_d26_17) rfl rfl) ?_
  refine own_go (fun _ => XS.iloadN X5.here hx rfl (hb hby own_d26_18) rfl) ?_
  obtain ⟨cl6, Ar6, q6, Sz6, Ng6, Hs6, Gs6⟩ := id Vc
  have hin6 : ¬ ((2 : Int32) < 0 ∨ cl6.slots.size ≤ ((2 : Int32)).toNatClampNeg) := inb_of Sz6 ⟨by decide, by decide⟩
  have hat6 : cl6.slots[((2 : Int32)).toNatClampNeg]? = some (.int x2) := Hs6.at hin6 rfl
  refine own_go (X5.caload hx (j := (2 : Int32)) (v := (.int x2)) (own_hp rfl Ar6.1) (State.isArrayOf_alike hZ.alike Ar6.2.1) Ar6.2.2 hin6 hat6 (g := (mkF m 19 #[.val (.ref a1), .val (.int (2 : Int32)), .val (.int (3 : Int32)), .val (.ref b1), .val (.int (2 : Int32))] [(.int (2 : Int32)), (.ref a1), (.int (2 : Int32)), (.ref b1)])) rfl rfl (hb hby own_d26_19)) ?_
  show own_Go _ _ _ _ (T5.setTop (mkF m 20 #[.val (.ref a1), .val (.int (2 : Int32)), .val (.int (3 : Int32)), .val (.ref b1), .val (.int (2 : Int32))] [(.int x2), (.int (2 : Int32)), (.ref b1)]))
  obtain ⟨_, _, ⟨T7, L7, k7, n7⟩, -, X7, ⟨Lc7, hQ7, l7, y7, z7⟩, st7⟩ := Jvm.LawKit.callS X5 hx (y := (⟨"java/lang/StringUTF16", "putChar", "([BII)V"⟩ : MethodName)) hown (mvT hZ (hw _ (List.mem_of_getElem? (i := 128) rfl))) (mvT hZ (hw _ (List.mem_of_getElem? (i := 129) rfl))) (mvT hZ (hw _ (List.mem_of_getElem? (i := 18) rfl))) (mvT hZ (hw _ (List.mem_of_getElem? (i := 130) rfl))) (by decide) (own_back (W := 0) (own_rmPC l Z a0 hw b1 kk1 x2 6 2 4 5 4 5 _ T5.heap n0 Z0 V5 (by decide) (by decide) ⟨by decide, by decide⟩ ⟨by decide, by decide⟩ rfl rfl (Nat.le_of_ble_eq_true rfl) (Nat.le_of_ble_eq_true rfl) ge_b1 O S_A S_H S_L) hZ (hw _ (List.mem_of_getElem? (i := 130) rfl)) (hw _ (List.mem_of_getElem? (i := 18) rfl)) (by decide) (by decide)) (g := (mkF m 20 #[.val (.ref a1), .val (.int (2 : Int32)), .val (.int (3 : Int32)), .val (.ref b1), .val (.int (2 : Int32))] [(.int x2), (.int (2 : Int32)), (.ref b1)])) rfl (by rw [hml]; rfl) (argsL := [(.ref b1), (.int (2 : Int32)), (.int x2)]) (rest := []) (lenOf own_pd11 rfl) rfl (by show 2 * 0 + _ ≤ _; exact Nat.le_of_eq rfl) (hb hby own_d26_20) (fun _ _ => ⟨rfl, rfl, (by decide : 1 + 0 ≤ _), (by decide : 6 + 0 ≤ _)⟩)
  dsimp only [Pt.U, Pt.locs, Pt.cells, Pt.slots] at X7 l7 y7 z7 st7 hQ7
  replace X7 := own_cst X7 l7 y7 z7 (k2 := 1) (n2 := 6) rfl rfl
  clear l7 y7 z7
  obtain ⟨rfl, Nq7, K7, O7, V7⟩ := hQ7
  have NF7 := Fr.app NF5 Nq7
  refine own_go st7 ?_
  replace Vc := Vc.keep K7 (ninS ne_a1_b1 nin0)
  replace Z0 := Nat.le_trans Z0 K7.1
  replace K0 := K0.trans K7 (allS (Or.inr sz_b1) all0)
  have O := O7
  replace V7 : Arv Z T7.heap b1 kk1 .byte 6 [(.int (nar .byte ((x0 >>> ((0 : Int32) &&& 31)).toInt8.toInt32))), (.int (nar .byte ((x0 >>> ((8 : Int32) &&& 31)).toInt8.toInt32))), (.int (nar .byte ((x1 >>> ((0 : Int32) &&& 31)).toInt8.toInt32))), (.int (nar .byte ((x1 >>> ((8 : Int32) &&& 31)).toInt8.toInt32))), (.int (nar .byte ((x2 >>> ((0 : Int32) &&& 31)).toInt8.toInt32))), (.int (nar .byte ((x2 >>> ((8 : Int32) &&& 31)).toInt8.toInt32)))] (.int 0) := V7
  show own_Go _ _ _ _ (T7.setTop (mkF m 23 #[.val (.ref a1), .val (.int (2 : Int32)), .val (.int (3 : Int32)), .val (.ref b1), .val (.int (2 : Int32))] []))
  refine own_go (fun _ => XS.iinc X7.here hx rfl (hb hby own_d26_23) rfl (l' := #[.val (.ref a1), .val (.int (3 : Int32)), .val (.int (3 : Int32)), .val (.ref b1), .val (.int (2 : Int32))]) rfl) ?_
  refine own_go (fun _ => XS.iinc X7.here hx rfl (hb hby own_d26_26) rfl (l' := #[.val (.ref a1), .val (.int (3 : Int32)), .val (.int (3 : Int32)), .val (.ref b1), .val (.int (3 : Int32))]) rfl) ?_
  refine own_go (fun _ => XS.goto X7.here hx rfl (pc0 := 29) (pc' := 8) rfl (hb hby own_d26_29) (by decide) (by decide)) ?_
  refine own_go (fun _ => XS.iload X7.here hx rfl (hb hby own_d26_8) rfl) ?_
  refine own_go (fun _ => XS.iloadN X7.here hx rfl (hb hby own_d26_10) rfl) ?_
  show own_Go _ _ _ _ (T7.setTop (mkF m 11 #[.val (.ref a1), .val (.int (3 : Int32)), .val (.int (3 : Int32)), .val (.ref b1), .val (.int (3 : Int32))] [(.int (3 : Int32)), (.int (3 : Int32))]))
  refine own_go (fun _ => XS.icmpYes X7.here hx rfl (pc0 := 11) (pc' := 32) rfl (hb hby own_d26_11) rfl (flt (by decide)).2.1 (by decide) (by decide)) ?_
  show own_Go _ _ _ _ (T7.setTop (mkF m 32 #[.val (.ref a1), .val (.int (3 : Int32)), .val (.int (3 : Int32)), .val (.ref b1), .val (.int (3 : Int32))] []))
  refine own_go (fun _ => XS.aloadN X7.here hx rfl (hb hby own_d26_32) rfl rfl) ?_
  show own_Go _ _ _ _ (T7.setTop (mkF m 33 #[.val (.ref a1), .val (.int (3 : Int32)), .val (.int (3 : Int32)), .val (.ref b1), .val (.int (3 : Int32))] [(.ref b1)]))
  refine own_ret X7 hlk (v := some (.ref b1)) (fun h => by rw [Bd.returns] at h; cases h) (fun fs hr => retOut X7 hx Bd.returns rfl (Or.inr (Or.inr (Or.inr (Or.inr ⟨rfl, rfl, rfl⟩)))) (hb hby own_d26_33) hr) ?_ (by decide) (by decide)
  skip
  exact ⟨b1, kk1, rfl, NF7, K0, O, ge_b1, sz_b1, V7⟩
set_option maxRecDepth 65536 in
set_option maxHeartbeats 40000000 in
theorem own_rmMU3 (l : Launch) (Z : State) (a0 : Array Value) (hw : ∀ d ∈ tables_1, d.before a0 Z = true) (a1 : Addr) (kc : ClassId) (x0 : Int32) (x1 : Int32) (x2 : Int32) (h0 : Heap) (n0 : Nat) (Z0 : n0 ≤ h0.size) (Vc : Arv Z h0 a1 kc .char 3 [(.int x0), (.int x1), (.int x2)] (.int 0)) (O : Old Z n0 h0) (S_A : Sta Z Z.heap "java/lang/StringUTF16" "$assertionsDisabled" "Z" (.int 1)) (S_H : Sta Z Z.heap "java/lang/StringUTF16" "HI_BYTE_SHIFT" "I" (.int 0)) (S_L : Sta Z Z.heap "java/lang/StringUTF16" "LO_BYTE_SHIFT" "I" (.int 8)) (hx' : ¬ (¬ (255 : Int32) < x0 ∧ ¬ (255 : Int32) < x1 ∧ ¬ (255 : Int32) < x2)) (bx0 : 0 ≤ x0.toInt) (bz0 : x0.toInt < 65536) (bx1 : 0 ≤ x1.toInt) (bz1 : x1.toInt < 65536) (bx2 : 0 ≤ x2.toInt) (bz2 : x2.toInt < 65536) :
    own_Met l Z [] (⟨"java/lang/StringUTF16", "compress", "([CII)[B"⟩ : MethodName) jdk_52_method_16_code 6 (some (.array .byte)) ({ frames := 3, cells := 2, slots := 9, locals := 40 } : Room) #[(.ref a1), (.int (0 : Int32)), (.int (3 : Int32))] h0 (fun v h L => ∃ (b : Addr) (k : ClassId), v = some (.ref b) ∧ Fr n0 L ∧ Keep h0 h [] ∧ Old Z n0 h ∧ n0 ≤ b ∧ h0.size ≤ b ∧ Arv Z h b k .byte 6 [(.int (nar .byte ((x0 >>> ((0 : Int32) &&& 31)).toInt8.toInt32))), (.int (nar .byte ((x0 >>> ((8 : Int32) &&& 31)).toInt8.toInt32))), (.int (nar .byte ((x1 >>> ((0 : Int32) &&& 31)).toInt8.toInt32))), (.int (nar .byte ((x1 >>> ((8 : Int32) &&& 31)).toInt8.toInt32))), (.int (nar .byte ((x2 >>> ((0 : Int32) &&& 31)).toInt8.toInt32))), (.int (nar .byte ((x2 >>> ((8 : Int32) &&& 31)).toInt8.toInt32)))] (.int 0)) := by
  refine MetFree.of_bodySF (plainFor_of_name own_pn3) hisR ?_
  intro p e s m args below meth c s₁ Bd hml0 hP hK
  obtain ⟨rfl, hZ, hh⟩ := hP
  have hx := Bd.exec
  have hby := Bd.bytes
  have hml : c.maxLocals = 6 := hml0
  have hown : s.vm.findClass "java/lang/StringUTF16" = some m.cls := findClass_of_methodNamed Bd.named
  have hnm := (name_of_methodNamed Bd.named Bd.method).1
  have hlk : meth.locks = false := Bd.notSynchronized
  have X0 : Stand p l e ({ frames := 3, cells := 2, slots := 9, locals := 40 } : Room) s m #[(.ref a1), (.int (0 : Int32)), (.int (3 : Int32))] below meth c s₁ [] 0 0 := Stand.of_body Bd
  have e0 : s₁.heap = h0 := by rw [← hh, Bd.state]; rfl
  have N0 := Fr.nil n0
  refine own_body (Q := fun v h L => ∃ (b : Addr) (k : ClassId), v = some (.ref b) ∧ Fr n0 L ∧ Keep h0 h [] ∧ Old Z n0 h ∧ n0 ≤ b ∧ h0.size ≤ b ∧ Arv Z h b k .byte 6 [(.int (nar .byte ((x0 >>> ((0 : Int32) &&& 31)).toInt8.toInt32))), (.int (nar .byte ((x0 >>> ((8 : Int32) &&& 31)).toInt8.toInt32))), (.int (nar .byte ((x1 >>> ((0 : Int32) &&& 31)).toInt8.toInt32))), (.int (nar .byte ((x1 >>> ((8 : Int32) &&& 31)).toInt8.toInt32))), (.int (nar .byte ((x2 >>> ((0 : Int32) &&& 31)).toInt8.toInt32))), (.int (nar .byte ((x2 >>> ((8 : Int32) &&& 31)).toInt8.toInt32)))] (.int 0)) ?_
  refine own_go (fun _ kont => castTop (own_ef m #[(.ref a1), (.int (0 : Int32)), (.int (3 : Int32))] 6 #[.val (.ref a1), .val (.int (0 : Int32)), .val (.int (3 : Int32)), .unset, .unset, .unset] (own_al [(.ref a1), (.int (0 : Int32)), (.int (3 : Int32))] 6 [.val (.ref a1), .val (.int (0 : Int32)), .val (.int (3 : Int32)), .unset, .unset, .unset] rfl)) kont) ?_
  show own_Go _ _ _ _ (s₁.setTop (mkF m 0 #[.val (.ref a1), .val (.int (0 : Int32)), .val (.int (3 : Int32)), .unset, .unset, .unset] []))
  have K0 : Keep h0 h0 [] := Keep.refl _ _
  refine own_go (fun _ => XS.iloadN X0.here hx rfl (hb hby own_d4_0) rfl) ?_
  obtain ⟨T1, h1, k1, X1, e1, E1, A1, st1⟩ := newP X0 hx hZ (hw _ (List.mem_of_getElem? (i := 20) rfl)) e0 (g := (mkF m 1 #[.val (.ref a1), .val (.int (0 : Int32)), .val (.int (3 : Int32)), .unset, .unset, .unset] [(.int (3 : Int32))])) rfl (hb hby own_d4_1) rfl (by decide) (cap := 3) (by decide) (by decide) (by decide) (by decide)
  obtain ⟨b1, g1⟩ : ∃ z, z = h0.size := ⟨_, rfl⟩
  rw [← g1] at A1 st1
  refine own_go st1 ?_
  have ge_b1 : n0 ≤ b1 := Nat.le_trans Z0 (Nat.le_of_eq g1.symm)
  have ne_a1_b1 : a1 ≠ b1 := Nat.ne_of_lt (Nat.lt_of_lt_of_le Vc.lt (Nat.le_of_eq g1.symm))
  have sz_b1 : h0.size ≤ b1 := Nat.le_trans K0.1 (Nat.le_of_eq g1.symm)
  replace Vc := Vc.ext E1
  replace O := O.ext E1
  replace Z0 := Nat.le_trans Z0 E1.1
  replace K0 := K0.ext E1
  have V_b1 : Arv Z h1 b1 k1 .byte (3 : Int32) [(.int (0 : Int32)), (.int (0 : Int32)), (.int (0 : Int32))] (.int (0 : Int32)) := (Arv.new A1 (by decide)).pad (pad_rep [] (.int (0 : Int32)) 3)
  refine own_go (fun _ => XS.astoreN X1.here hx rfl (hb hby own_d4_3) rfl rfl (l' := #[.val (.ref a1), .val (.int (0 : Int32)), .val (.int (3 : Int32)), .val (.ref b1), .unset, .unset]) rfl) ?_
  refine own_go (fun _ => XS.aloadN X1.here hx rfl (hb hby own_d4_4) rfl rfl) ?_
  refine own_go (fun _ => XS.iloadN X1.here hx rfl (hb hby own_d4_5) rfl) ?_
  show own_Go _ _ _ _ (T1.setTop (mkF m 6 #[.val (.ref a1), .val (.int (0 : Int32)), .val (.int (3 : Int32)), .val (.ref b1), .unset, .unset] [(.int (0 : Int32)), (.ref a1)]))
  refine own_go (fun _ => XS.aloadN X1.here hx rfl (hb hby own_d4_6) rfl rfl) ?_
  refine own_go (fun _ => XS.iconst X1.here hx rfl (hb hby own_d4_7)) ?_
  refine own_go (fun _ => XS.iloadN X1.here hx rfl (hb hby own_d4_8) rfl) ?_
  show own_Go _ _ _ _ (T1.setTop (mkF m 9 #[.val (.ref a1), .val (.int (0 : Int32)), .val (.int (3 : Int32)), .val (.ref b1), .unset, .unset] [(.int (3 : Int32)), (.int (0 : Int32)), (.ref b1), (.int (0 : Int32)), (.ref a1)]))
  obtain ⟨_, _, ⟨T2, L2, k2, n2⟩, -, X2, ⟨Lc2, hQ2, l2, y2, z2⟩, st2⟩ := Jvm.LawKit.callS X1 hx (y := (⟨"java/lang/StringUTF16", "compress", "([CI[BII)I"⟩ : MethodName)) hown (mvT hZ (hw _ (List.mem_of_getElem? (i := 21) rfl))) (mvT hZ (hw _ (List.mem_of_getElem? (i := 22) rfl))) (mvT hZ (hw _ (List.mem_of_getElem? (i := 18) rfl))) (mvT hZ (hw _ (List.mem_of_getElem? (i := 23) rfl))) (by decide) (own_back (W := 0) (own_rmK3 l Z a0 hw a1 b1 kc k1 x0 x1 x2 h1 n0 Z0 Vc V_b1 ge_b1 ne_a1_b1 O) hZ (hw _ (List.mem_of_getElem? (i := 23) rfl)) (hw _ (List.mem_of_getElem? (i := 18) rfl)) (by decide) (by decide)) (g := (mkF m 9 #[.val (.ref a1), .val (.int (0 : Int32)), .val (.int (3 : Int32)), .val (.ref b1), .unset, .unset] [(.int (3 : Int32)), (.int (0 : Int32)), (.ref b1), (.int (0 : Int32)), (.ref a1)])) rfl (by rw [hml]; rfl) (argsL := [(.ref a1), (.int (0 : Int32)), (.ref b1), (.int (0 : Int32)), (.int (3 : Int32))]) (rest := []) (lenOf own_pd8 rfl) rfl (by show 2 * 0 + _ ≤ _; exact Nat.le_of_eq rfl) (hb hby own_d4_9) (fun _ _ => ⟨rfl, e1, (by decide : 1 + 0 ≤ _), (by decide : 3 + 0 ≤ _)⟩)
  dsimp only [Pt.U, Pt.locs, Pt.cells, Pt.slots] at X2 l2 y2 z2 st2 hQ2
  replace X2 := own_cst X2 l2 y2 z2 (k2 := 1) (n2 := 3) rfl rfl
  clear l2 y2 z2
  obtain ⟨r2, rfl, Nq2, K2, O2, Dj2⟩ := hQ2
  have NF2 := Fr.app N0 Nq2
  refine own_go st2 ?_
  replace Vc := Vc.keep K2 (ninS ne_a1_b1 nin0)
  replace Z0 := Nat.le_trans Z0 K2.1
  replace K0 := K0.trans K2 (allS (Or.inr sz_b1) all0)
  have O := O2
  have hr : ¬ r2 = (3 : Int32) := by
    rcases Dj2 with ⟨-, q⟩ | ⟨-, q⟩ | ⟨-, q⟩ | ⟨q, -⟩
    · rw [q]; decide
    · rw [q]; decide
    · rw [q]; decide
    · exact absurd q hx'
  show own_Go _ _ _ _ (T2.setTop (mkF m 12 #[.val (.ref a1), .val (.int (0 : Int32)), .val (.int (3 : Int32)), .val (.ref b1), .unset, .unset] [(.int r2)]))
  refine own_go (fun _ => XS.istore X2.here hx rfl (hb hby own_d4_12) rfl (l' := #[.val (.ref a1), .val (.int (0 : Int32)), .val (.int (3 : Int32)), .val (.ref b1), .val (.int r2), .unset]) rfl) ?_
  refine own_go (fun _ => XS.iload X2.here hx rfl (hb hby own_d4_14) rfl) ?_
  refine own_go (fun _ => XS.iloadN X2.here hx rfl (hb hby own_d4_16) rfl) ?_
  show own_Go _ _ _ _ (T2.setTop (mkF m 17 #[.val (.ref a1), .val (.int (0 : Int32)), .val (.int (3 : Int32)), .val (.ref b1), .val (.int r2), .unset] [(.int (3 : Int32)), (.int r2)]))
  refine own_go (fun _ => XS.icmpNo X2.here hx rfl (hb hby own_d4_17) rfl (feq hr).1) ?_
  show own_Go _ _ _ _ (T2.setTop (mkF m 20 #[.val (.ref a1), .val (.int (0 : Int32)), .val (.int (3 : Int32)), .val (.ref b1), .val (.int r2), .unset] []))
  refine own_go (fun _ => XS.aloadN X2.here hx rfl (hb hby own_d4_20) rfl rfl) ?_
  refine own_go (fun _ => XS.iloadN X2.here hx rfl (hb hby own_d4_21) rfl) ?_
  refine own_go (fun _ => XS.iloadN X2.here hx rfl (hb hby own_d4_22) rfl) ?_
  show own_Go _ _ _ _ (T2.setTop (mkF m 23 #[.val (.ref a1), .val (.int (0 : Int32)), .val (.int (3 : Int32)), .val (.ref b1), .val (.int r2), .unset] [(.int (3 : Int32)), (.int (0 : Int32)), (.ref a1)]))
  obtain ⟨_, _, ⟨T3, L3, k3, n3⟩, -, X3, ⟨Lc3, hQ3, l3, y3, z3⟩, st3⟩ := Jvm.LawKit.callS X2 hx (y := (⟨"java/lang/StringUTF16", "toBytes", "([CII)[B"⟩ : MethodName)) hown (mvT hZ (hw _ (List.mem_of_getElem? (i := 118) rfl))) (mvT hZ (hw _ (List.mem_of_getElem? (i := 119) rfl))) (mvT hZ (hw _ (List.mem_of_getElem? (i := 18) rfl))) (mvT hZ (hw _ (List.mem_of_getElem? (i := 120) rfl))) (by decide) (own_back (W := 0) (own_rmTB3 l Z a0 hw a1 kc x0 x1 x2 T2.heap n0 Z0 Vc O S_A S_H S_L) hZ (hw _ (List.mem_of_getElem? (i := 120) rfl)) (hw _ (List.mem_of_getElem? (i := 18) rfl)) (by decide) (by decide)) (g := (mkF m 23 #[.val (.ref a1), .val (.int (0 : Int32)), .val (.int (3 : Int32)), .val (.ref b1), .val (.int r2), .unset] [(.int (3 : Int32)), (.int (0 : Int32)), (.ref a1)])) rfl (by rw [hml]; rfl) (argsL := [(.ref a1), (.int (0 : Int32)), (.int (3 : Int32))]) (rest := []) (lenOf own_pd12 rfl) rfl (by show 2 * 0 + _ ≤ _; exact Nat.le_of_eq rfl) (hb hby own_d4_23) (fun _ _ => ⟨rfl, rfl, (by decide : 1 + 1 ≤ _), (by decide : 3 + 6 ≤ _)⟩)
  dsimp only [Pt.U, Pt.locs, Pt.cells, Pt.slots] at X3 l3 y3 z3 st3 hQ3
  replace X3 := own_cst X3 l3 y3 z3 (k2 := 2) (n2 := 9) rfl rfl
  clear l3 y3 z3
  obtain ⟨b3, kk3, rfl, Nq3, K3, O3, ge_b3, szq3, V3⟩ := hQ3
  have NF3 := Fr.app NF2 Nq3
  refine own_go st3 ?_
  have ne_a1_b3 : a1 ≠ b3 := Nat.ne_of_lt (Nat.lt_of_lt_of_le Vc.lt szq3)
  have sz_b3 : h0.size ≤ b3 := Nat.le_trans K0.1 szq3
  replace Vc := Vc.keep K3 nin0
  replace Z0 := Nat.le_trans Z0 K3.1
  replace K0 := K0.trans K3 all0
  have O := O3
  show own_Go _ _ _ _ (T3.setTop (mkF m 26 #[.val (.ref a1), .val (.int (0 : Int32)), .val (.int (3 : Int32)), .val (.ref b1), .val (.int r2), .unset] [(.ref b3)]))
  refine own_go (fun _ => XS.astore X3.here hx rfl (hb hby own_d4_26) rfl rfl (l' := #[.val (.ref a1), .val (.int (0 : Int32)), .val (.int (3 : Int32)), .val (.ref b1), .val (.int r2), .val (.ref b3)]) rfl) ?_
  refine own_go (fun _ => XS.aload X3.here hx rfl (hb hby own_d4_28) rfl rfl) ?_
  refine own_go (fun _ => XS.iload X3.here hx rfl (hb hby own_d4_30) rfl) ?_
  show own_Go _ _ _ _ (T3.setTop (mkF m 32 #[.val (.ref a1), .val (.int (0 : Int32)), .val (.int (3 : Int32)), .val (.ref b1), .val (.int r2), .val (.ref b3)] [(.int r2), (.ref b3)]))
  rcases Dj2 with ⟨h255, rfl⟩ | ⟨h255, rfl⟩ | ⟨h255, rfl⟩ | ⟨q, -⟩
  · have _u := trivial
    show own_Go _ _ _ _ (T3.setTop (mkF m 32 #[.val (.ref a1), .val (.int (0 : Int32)), .val (.int (3 : Int32)), .val (.ref b1), .val (.int (0 : Int32)), .val (.ref b3)] [(.int (0 : Int32)), (.ref b3)]))
    obtain ⟨_, _, ⟨T4, L4, k4, n4⟩, -, X4, ⟨Lc4, hQ4, l4, y4, z4⟩, st4⟩ := Jvm.LawKit.callS X3 hx (y := (⟨"java/lang/StringUTF16", "getChar", "([BI)C"⟩ : MethodName)) hown (mvT hZ (hw _ (List.mem_of_getElem? (i := 134) rfl))) (mvT hZ (hw _ (List.mem_of_getElem? (i := 135) rfl))) (mvT hZ (hw _ (List.mem_of_getElem? (i := 18) rfl))) (mvT hZ (hw _ (List.mem_of_getElem? (i := 136) rfl))) (by decide) (own_back (W := 0) (own_rmGC l Z a0 hw b3 kk3 6 0 0 1 (nar .byte ((x0 >>> ((0 : Int32) &&& 31)).toInt8.toInt32)) (nar .byte ((x0 >>> ((8 : Int32) &&& 31)).toInt8.toInt32)) _ T3.heap n0 Z0 V3 (by decide) (by decide) ⟨by decide, by decide⟩ ⟨by decide, by decide⟩ rfl rfl O S_A S_H S_L) hZ (hw _ (List.mem_of_getElem? (i := 136) rfl)) (hw _ (List.mem_of_getElem? (i := 18) rfl)) (by decide) (by decide)) (g := (mkF m 32 #[.val (.ref a1), .val (.int (0 : Int32)), .val (.int (3 : Int32)), .val (.ref b1), .val (.int (0 : Int32)), .val (.ref b3)] [(.int (0 : Int32)), (.ref b3)])) rfl (by rw [hml]; rfl) (argsL := [(.ref b3), (.int (0 : Int32))]) (rest := []) (lenOf own_pd4 rfl) rfl (by show 2 * 0 + _ ≤ _; exact Nat.le_of_eq rfl) (hb hby own_d4_32) (fun _ _ => ⟨rfl, rfl, (by decide : 2 + 0 ≤ _), (by decide : 9 + 0 ≤ _)⟩)
    dsimp only [Pt.U, Pt.locs, Pt.cells, Pt.slots] at X4 l4 y4 z4 st4 hQ4
    replace X4 := own_cst X4 l4 y4 z4 (k2 := 2) (n2 := 9) rfl rfl
    clear l4 y4 z4
    obtain ⟨rfl, Nq4, eq4⟩ := hQ4
    have NF4 := Fr.app NF3 Nq4
    refine own_go st4 ?_
    show own_Go _ _ _ _ (T4.setTop (mkF m 35 #[.val (.ref a1), .val (.int (0 : Int32)), .val (.int (3 : Int32)), .val (.ref b1), .val (.int (0 : Int32)), .val (.ref b3)] [(.int (own_gc (nar .byte ((x0 >>> ((0 : Int32) &&& 31)).toInt8.toInt32)) (nar .byte ((x0 >>> ((8 : Int32) &&& 31)).toInt8.toInt32))))]))
    rw [own_gcx bx0 bz0]
    show own_Go _ _ _ _ (T4.setTop (mkF m 35 #[.val (.ref a1), .val (.int (0 : Int32)), .val (.int (3 : Int32)), .val (.ref b1), .val (.int (0 : Int32)), .val (.ref b3)] [(.int x0)]))
    refine own_go (fun _ => XS.sipush X4.here hx rfl (hb hby own_d4_35)) ?_
    show own_Go _ _ _ _ (T4.setTop (mkF m 38 #[.val (.ref a1), .val (.int (0 : Int32)), .val (.int (3 : Int32)), .val (.ref b1), .val (.int (0 : Int32)), .val (.ref b3)] [(.int (255 : Int32)), (.int x0)]))
    refine own_go (fun _ => XS.icmpYes X4.here hx rfl (pc0 := 38) (pc' := 54) rfl (hb hby own_d4_38) rfl (tlt h255).2.2.1 (by decide) (by decide)) ?_
    show own_Go _ _ _ _ (T4.setTop (mkF m 54 #[.val (.ref a1), .val (.int (0 : Int32)), .val (.int (3 : Int32)), .val (.ref b1), .val (.int (0 : Int32)), .val (.ref b3)] []))
    refine own_go (fun _ => XS.aload X4.here hx rfl (hb hby own_d4_54) rfl rfl) ?_
    show own_Go _ _ _ _ (T4.setTop (mkF m 56 #[.val (.ref a1), .val (.int (0 : Int32)), .val (.int (3 : Int32)), .val (.ref b1), .val (.int (0 : Int32)), .val (.ref b3)] [(.ref b3)]))
    refine own_ret X4 hlk (v := some (.ref b3)) (fun h => by rw [Bd.returns] at h; cases h) (fun fs hr => retOut X4 hx Bd.returns rfl (Or.inr (Or.inr (Or.inr (Or.inr ⟨rfl, rfl, rfl⟩)))) (hb hby own_d4_56) hr) ?_ (by decide) (by decide)
    try rw [eq4]
    exact ⟨b3, kk3, rfl, NF4, K0, O, ge_b3, sz_b3, V3⟩
  · have _u := trivial
    show own_Go _ _ _ _ (T3.setTop (mkF m 32 #[.val (.ref a1), .val (.int (0 : Int32)), .val (.int (3 : Int32)), .val (.ref b1), .val (.int (1 : Int32)), .val (.ref b3)] [(.int (1 : Int32)), (.ref b3)]))
    obtain ⟨_, _, ⟨T5, L5, k5, n5⟩, -, X5, ⟨Lc5, hQ5, l5, y5, z5⟩, st5⟩ := Jvm.LawKit.callS X3 hx (y := (⟨"java/lang/StringUTF16", "getChar", "([BI)C"⟩ : MethodName)) hown (mvT hZ (hw _ (List.mem_of_getElem? (i := 134) rfl))) (mvT hZ (hw _ (List.mem_of_getElem? (i := 135) rfl))) (mvT hZ (hw _ (List.mem_of_getElem? (i := 18) rfl))) (mvT hZ (hw _ (List.mem_of_getElem? (i := 136) rfl))) (by decide) (own_back (W := 0) (own_rmGC l Z a0 hw b3 kk3 6 1 2 3 (nar .byte ((x1 >>> ((0 : Int32) &&& 31)).toInt8.toInt32)) (nar .byte ((x1 >>> ((8 : Int32) &&& 31)).toInt8.toInt32)) _ T3.heap n0 Z0 V3 (by decide) (by decide) ⟨by decide, by decide⟩ ⟨by decide, by decide⟩ rfl rfl O S_A S_H S_L) hZ (hw _ (List.mem_of_getElem? (i := 136) rfl)) (hw _ (List.mem_of_getElem? (i := 18) rfl)) (by decide) (by decide)) (g := (mkF m 32 #[.val (.ref a1), .val (.int (0 : Int32)), .val (.int (3 : Int32)), .val (.ref b1), .val (.int (1 : Int32)), .val (.ref b3)] [(.int (1 : Int32)), (.ref b3)])) rfl (by rw [hml]; rfl) (argsL := [(.ref b3), (.int (1 : Int32))]) (rest := []) (lenOf own_pd4 rfl) rfl (by show 2 * 0 + _ ≤ _; exact Nat.le_of_eq rfl) (hb hby own_d4_32) (fun _ _ => ⟨rfl, rfl, (by decide : 2 + 0 ≤ _), (by decide : 9 + 0 ≤ _)⟩)
    dsimp only [Pt.U, Pt.locs, Pt.cells, Pt.slots] at X5 l5 y5 z5 st5 hQ5
    replace X5 := own_cst X5 l5 y5 z5 (k2 := 2) (n2 := 9) rfl rfl
    clear l5 y5 z5
    obtain ⟨rfl, Nq5, eq5⟩ := hQ5
    have NF5 := Fr.app NF3 Nq5
    refine own_go st5 ?_
    show own_Go _ _ _ _ (T5.setTop (mkF m 35 #[.val (.ref a1), .val (.int (0 : Int32)), .val (.int (3 : Int32)), .val (.ref b1), .val (.int (1 : Int32)), .val (.ref b3)] [(.int (own_gc (nar .byte ((x1 >>> ((0 : Int32) &&& 31)).toInt8.toInt32)) (nar .byte ((x1 >>> ((8 : Int32) &&& 31)).toInt8.toInt32))))]))
    rw [own_gcx bx1 bz1]
    show own_Go _ _ _ _ (T5.setTop (mkF m 35 #[.val (.ref a1), .val (.int (0 : Int32)), .val (.int (3 : Int32)), .val (.ref b1), .val (.int (1 : Int32)), .val (.ref b3)] [(.int x1)]))
    refine own_go (fun _ => XS.sipush X5.here hx rfl (hb hby own_d4_35)) ?_
    show own_Go _ _ _ _ (T5.setTop (mkF m 38 #[.val (.ref a1), .val (.int (0 : Int32)), .val (.int (3 : Int32)), .val (.ref b1), .val (.int (1 : Int32)), .val (.ref b3)] [(.int (255 : Int32)), (.int x1)]))
    refine own_go (fun _ => XS.icmpYes X5.here hx rfl (pc0 := 38) (pc' := 54) rfl (hb hby own_d4_38) rfl (tlt h255).2.2.1 (by decide) (by decide)) ?_
    show own_Go _ _ _ _ (T5.setTop (mkF m 54 #[.val (.ref a1), .val (.int (0 : Int32)), .val (.int (3 : Int32)), .val (.ref b1), .val (.int (1 : Int32)), .val (.ref b3)] []))
    refine own_go (fun _ => XS.aload X5.here hx rfl (hb hby own_d4_54) rfl rfl) ?_
    show own_Go _ _ _ _ (T5.setTop (mkF m 56 #[.val (.ref a1), .val (.int (0 : Int32)), .val (.int (3 : Int32)), .val (.ref b1), .val (.int (1 : Int32)), .val (.ref b3)] [(.ref b3)]))
    refine own_ret X5 hlk (v := some (.ref b3)) (fun h => by rw [Bd.returns] at h; cases h) (fun fs hr => retOut X5 hx Bd.returns rfl (Or.inr (Or.inr (Or.inr (Or.inr ⟨rfl, rfl, rfl⟩)))) (hb hby own_d4_56) hr) ?_ (by decide) (by decide)
    try rw [eq5]
    exact ⟨b3, kk3, rfl, NF5, K0, O, ge_b3, sz_b3, V3⟩
  · have _u := trivial
    show own_Go _ _ _ _ (T3.setTop (mkF m 32 #[.val (.ref a1), .val (.int (0 : Int32)), .val (.int (3 : Int32)), .val (.ref b1), .val (.int (2 : Int32)), .val (.ref b3)] [(.int (2 : Int32)), (.ref b3)]))
    obtain ⟨_, _, ⟨T6, L6, k6, n6⟩, -, X6, ⟨Lc6, hQ6, l6, y6, z6⟩, st6⟩ := Jvm.LawKit.callS X3 hx (y := (⟨"java/lang/StringUTF16", "getChar", "([BI)C"⟩ : MethodName)) hown (mvT hZ (hw _ (List.mem_of_getElem? (i := 134) rfl))) (mvT hZ (hw _ (List.mem_of_getElem? (i := 135) rfl))) (mvT hZ (hw _ (List.mem_of_getElem? (i := 18) rfl))) (mvT hZ (hw _ (List.mem_of_getElem? (i := 136) rfl))) (by decide) (own_back (W := 0) (own_rmGC l Z a0 hw b3 kk3 6 2 4 5 (nar .byte ((x2 >>> ((0 : Int32) &&& 31)).toInt8.toInt32)) (nar .byte ((x2 >>> ((8 : Int32) &&& 31)).toInt8.toInt32)) _ T3.heap n0 Z0 V3 (by decide) (by decide) ⟨by decide, by decide⟩ ⟨by decide, by decide⟩ rfl rfl O S_A S_H S_L) hZ (hw _ (List.mem_of_getElem? (i := 136) rfl)) (hw _ (List.mem_of_getElem? (i := 18) rfl)) (by decide) (by decide)) (g := (mkF m 32 #[.val (.ref a1), .val (.int (0 : Int32)), .val (.int (3 : Int32)), .val (.ref b1), .val (.int (2 : Int32)), .val (.ref b3)] [(.int (2 : Int32)), (.ref b3)])) rfl (by rw [hml]; rfl) (argsL := [(.ref b3), (.int (2 : Int32))]) (rest := []) (lenOf own_pd4 rfl) rfl (by show 2 * 0 + _ ≤ _; exact Nat.le_of_eq rfl) (hb hby own_d4_32) (fun _ _ => ⟨rfl, rfl, (by decide : 2 + 0 ≤ _), (by decide : 9 + 0 ≤ _)⟩)
    dsimp only [Pt.U, Pt.locs, Pt.cells, Pt.slots] at X6 l6 y6 z6 st6 hQ6
    replace X6 := own_cst X6 l6 y6 z6 (k2 := 2) (n2 := 9) rfl rfl
    clear l6 y6 z6
    obtain ⟨rfl, Nq6, eq6⟩ := hQ6
    have NF6 := Fr.app NF3 Nq6
    refine own_go st6 ?_
    show own_Go _ _ _ _ (T6.setTop (mkF m 35 #[.val (.ref a1), .val (.int (0 : Int32)), .val (.int (3 : Int32)), .val (.ref b1), .val (.int (2 : Int32)), .val (.ref b3)] [(.int (own_gc (nar .byte ((x2 >>> ((0 : Int32) &&& 31)).toInt8.toInt32)) (nar .byte ((x2 >>> ((8 : Int32) &&& 31)).toInt8.toInt32))))]))
    rw [own_gcx bx2 bz2]
    show own_Go _ _ _ _ (T6.setTop (mkF m 35 #[.val (.ref a1), .val (.int (0 : Int32)), .val (.int (3 : Int32)), .val (.ref b1), .val (.int (2 : Int32)), .val (.ref b3)] [(.int x2)]))
    refine own_go (fun _ => XS.sipush X6.here hx rfl (hb hby own_d4_35)) ?_
    show own_Go _ _ _ _ (T6.setTop (mkF m 38 #[.val (.ref a1), .val (.int (0 : Int32)), .val (.int (3 : Int32)), .val (.ref b1), .val (.int (2 : Int32)), .val (.ref b3)] [(.int (255 : Int32)), (.int x2)]))
    refine own_go (fun _ => XS.icmpYes X6.here hx rfl (pc0 := 38) (pc' := 54) rfl (hb hby own_d4_38) rfl (tlt h255).2.2.1 (by decide) (by decide)) ?_
    show own_Go _ _ _ _ (T6.setTop (mkF m 54 #[.val (.ref a1), .val (.int (0 : Int32)), .val (.int (3 : Int32)), .val (.ref b1), .val (.int (2 : Int32)), .val (.ref b3)] []))
    refine own_go (fun _ => XS.aload X6.here hx rfl (hb hby own_d4_54) rfl rfl) ?_
    show own_Go _ _ _ _ (T6.setTop (mkF m 56 #[.val (.ref a1), .val (.int (0 : Int32)), .val (.int (3 : Int32)), .val (.ref b1), .val (.int (2 : Int32)), .val (.ref b3)] [(.ref b3)]))
    refine own_ret X6 hlk (v := some (.ref b3)) (fun h => by rw [Bd.returns] at h; cases h) (fun fs hr => retOut X6 hx Bd.returns rfl (Or.inr (Or.inr (Or.inr (Or.inr ⟨rfl, rfl, rfl⟩)))) (hb hby own_d4_56) hr) ?_ (by decide) (by decide)
    try rw [eq6]
    exact ⟨b3, kk3, rfl, NF6, K0, O, ge_b3, sz_b3, V3⟩
  · have _u := trivial
    exact absurd q hx'
theorem own_d2_0 : decode jdk_42_method_149_code 0 = .ok (.aload_n 0, 1) := by decide +kernel
theorem own_d2_1 : decode jdk_42_method_149_code 1 = .ok (.invokespecial 1, 3) := by decide +kernel
theorem own_d2_4 : decode jdk_42_method_149_code 4 = .ok (.iload_n 3, 1) := by decide +kernel
theorem own_d2_5 : decode jdk_42_method_149_code 5 = .ok (.ifCond .ne 22, 3) := by decide +kernel
theorem own_d2_27 : decode jdk_42_method_149_code 27 = .ok (.getstatic 38, 3) := by decide +kernel
theorem own_d2_30 : decode jdk_42_method_149_code 30 = .ok (.ifCond .eq 28, 3) := by decide +kernel
theorem own_d2_33 : decode jdk_42_method_149_code 33 = .ok (.aload_n 1, 1) := by decide +kernel
theorem own_d2_34 : decode jdk_42_method_149_code 34 = .ok (.iload_n 2, 1) := by decide +kernel
theorem own_d2_35 : decode jdk_42_method_149_code 35 = .ok (.iload_n 3, 1) := by decide +kernel
theorem own_d2_36 : decode jdk_42_method_149_code 36 = .ok (.invokestatic 177, 3) := by decide +kernel
theorem own_d2_39 : decode jdk_42_method_149_code 39 = .ok (.astore 5, 2) := by decide +kernel
theorem own_d2_41 : decode jdk_42_method_149_code 41 = .ok (.aload_n 0, 1) := by decide +kernel
theorem own_d2_42 : decode jdk_42_method_149_code 42 = .ok (.aload 5, 2) := by decide +kernel
theorem own_d2_44 : decode jdk_42_method_149_code 44 = .ok (.iload_n 3, 1) := by decide +kernel
theorem own_d2_45 : decode jdk_42_method_149_code 45 = .ok (.invokestatic 47, 3) := by decide +kernel
theorem own_pd13 : parseMethodDescriptor "([BI)B" = some ⟨[(.array .byte), .int], some .byte⟩ := by decide +kernel
theorem own_d2_48 : decode jdk_42_method_149_code 48 = .ok (.putfield 15, 3) := by decide +kernel
theorem own_d2_51 : decode jdk_42_method_149_code 51 = .ok (.aload_n 0, 1) := by decide +kernel
theorem own_d2_52 : decode jdk_42_method_149_code 52 = .ok (.aload 5, 2) := by decide +kernel
theorem own_d2_54 : decode jdk_42_method_149_code 54 = .ok (.putfield 9, 3) := by decide +kernel
theorem own_d2_57 : decode jdk_42_method_149_code 57 = .ok (.return_, 1) := by decide +kernel
set_option maxRecDepth 65536 in
set_option maxHeartbeats 40000000 in
theorem own_rmJL (l : Launch) (Z : State) (a0 : Array Value) (hw : ∀ d ∈ tables_1, d.before a0 Z = true) (a1 : Addr) (a2 : Addr) (cs : Int32) (n : Int32) (z : Int32) (vs : List Value) (h0 : Heap) (n0 : Nat) (Z0 : n0 ≤ h0.size) (E1 : Exa Z h0 a1 "java/lang/String") (Fv : Fld Z h0 a1 "java/lang/String" "value" "[B" .null) (Fc : Fld Z h0 a1 "java/lang/String" "coder" "B" (.int 0)) (O : Old Z n0 h0) (S_C : Sta Z Z.heap "java/lang/String" "COMPACT_STRINGS" "Z" (.int cs)) (hcs : ¬ cs = (0 : Int32)) (ge_a1 : n0 ≤ a1) (hnz : ¬ n = (0 : Int32)) (hu : nar .byte ((((n - z).toUInt32 >>> ((31 : Int32) &&& 31).toUInt32).toInt32).toInt8.toInt32) = 0) (hM : own_Met l Z [] (⟨"java/lang/StringUTF16", "compress", "([CII)[B"⟩ : MethodName) jdk_52_method_16_code 6 (some (.array .byte)) ({ frames := 3, cells := 2, slots := 9, locals := 40 } : Room) #[(.ref a2), (.int (0 : Int32)), (.int n)] h0 (fun v h L => ∃ (b : Addr) (k : ClassId), v = some (.ref b) ∧ Fr n0 L ∧ Keep h0 h [] ∧ Old Z n0 h ∧ n0 ≤ b ∧ h0.size ≤ b ∧ Arv Z h b k .byte z vs (.int 0))) :
    own_Met l Z [] (⟨"java/lang/String", "<init>", "([CIILjava/lang/Void;)V"⟩ : MethodName) jdk_42_method_149_code 6 none ({ frames := 4, cells := 2, slots := 9, locals := 57 } : Room) #[(.ref a1), (.ref a2), (.int (0 : Int32)), (.int n), .null] h0 (fun v h L => ∃ (b : Addr) (k : ClassId), v = none ∧ Fr n0 L ∧ Keep h0 h [a1] ∧ Old Z n0 h ∧ h0.size ≤ h.size ∧ Exa Z h a1 "java/lang/String" ∧ Fld Z h a1 "java/lang/String" "value" "[B" (.ref b) ∧ Fld Z h a1 "java/lang/String" "coder" "B" (.int 0) ∧ Arv Z h b k .byte z vs (.int 0)) := by
  refine MetFree.of_bodySF (plainFor_of_name own_pn1) hisR ?_
  intro p e s m args below meth c s₁ Bd hml0 hP hK
  obtain ⟨rfl, hZ, hh⟩ := hP
  have hx := Bd.exec
  have hby := Bd.bytes
  have hml : c.maxLocals = 6 := hml0
  have hown : s.vm.findClass "java/lang/String" = some m.cls := findClass_of_methodNamed Bd.named
  have hnm := (name_of_methodNamed Bd.named Bd.method).1
  have hlk : meth.locks = false := Bd.notSynchronized
  have X0 : Stand p l e ({ frames := 4, cells := 2, slots := 9, locals := 57 } : Room) s m #[(.ref a1), (.ref a2), (.int (0 : Int32)), (.int n), .null] below meth c s₁ [] 0 0 := Stand.of_body Bd
  have e0 : s₁.heap = h0 := by rw [← hh, Bd.state]; rfl
  have N0 := Fr.nil n0
  refine own_body (Q := fun v h L => ∃ (b : Addr) (k : ClassId), v = none ∧ Fr n0 L ∧ Keep h0 h [a1] ∧ Old Z n0 h ∧ h0.size ≤ h.size ∧ Exa Z h a1 "java/lang/String" ∧ Fld Z h a1 "java/lang/String" "value" "[B" (.ref b) ∧ Fld Z h a1 "java/lang/String" "coder" "B" (.int 0) ∧ Arv Z h b k .byte z vs (.int 0)) ?_
  refine own_go (fun _ kont => castTop (own_ef m #[(.ref a1), (.ref a2), (.int (0 : Int32)), (.int n), .null] 6 #[.val (.ref a1), .val (.ref a2), .val (.int (0 : Int32)), .val (.int n), .val .null, .unset] (own_al [(.ref a1), (.ref a2), (.int (0 : Int32)), (.int n), .null] 6 [.val (.ref a1), .val (.ref a2), .val (.int (0 : Int32)), .val (.int n), .val .null, .unset] rfl)) kont) ?_
  show own_Go _ _ _ _ (s₁.setTop (mkF m 0 #[.val (.ref a1), .val (.ref a2), .val (.int (0 : Int32)), .val (.int n), .val .null, .unset] []))
  have hs0 : h0.size ≤ h0.size := Nat.le_refl _
  have K0 : Keep h0 h0 [a1] := Keep.refl _ _
  refine own_go (fun _ => XS.aloadN X0.here hx rfl (hb hby own_d2_0) rfl rfl) ?_
  show own_Go _ _ _ _ (s₁.setTop (mkF m 1 #[.val (.ref a1), .val (.ref a2), .val (.int (0 : Int32)), .val (.int n), .val .null, .unset] [(.ref a1)]))
  obtain ⟨T1, X1, e1, st1⟩ := initO X0 hx hZ hown (hw _ (List.mem_of_getElem? (i := 12) rfl)) (hw _ (List.mem_of_getElem? (i := 13) rfl)) (hw _ (List.mem_of_getElem? (i := 14) rfl)) e0 (g := (mkF m 1 #[.val (.ref a1), .val (.ref a2), .val (.int (0 : Int32)), .val (.int n), .val .null, .unset] [(.ref a1)])) rfl (by rw [hml]; rfl) rfl (hb hby own_d2_1) (by decide) (W := 0) (by show 2 * 0 + _ ≤ _; exact Nat.le_of_eq rfl) (by decide)
  refine own_go st1 ?_
  show own_Go _ _ _ _ (T1.setTop (mkF m 4 #[.val (.ref a1), .val (.ref a2), .val (.int (0 : Int32)), .val (.int n), .val .null, .unset] []))
  refine own_go (fun _ => XS.iloadN X1.here hx rfl (hb hby own_d2_4) rfl) ?_
  show own_Go _ _ _ _ (T1.setTop (mkF m 5 #[.val (.ref a1), .val (.ref a2), .val (.int (0 : Int32)), .val (.int n), .val .null, .unset] [(.int n)]))
  refine own_go (fun _ => XS.ifYes X1.here hx rfl (pc0 := 5) (pc' := 27) rfl (hb hby own_d2_5) rfl ((if0 _ _).trans (feq hnz).2) (by decide) (by decide)) ?_
  show own_Go _ _ _ _ (T1.setTop (mkF m 27 #[.val (.ref a1), .val (.ref a2), .val (.int (0 : Int32)), .val (.int n), .val .null, .unset] []))
  obtain ⟨T2, X2, e2, st2⟩ := getS2 X1 hx hZ hown (host := "") (Or.inl (hw _ (List.mem_of_getElem? (i := 15) rfl))) Via.refl e1 (S_C.ext O.2) (g := (mkF m 27 #[.val (.ref a1), .val (.ref a2), .val (.int (0 : Int32)), .val (.int n), .val .null, .unset] [])) rfl (hb hby own_d2_27)
  refine own_go st2 ?_
  show own_Go _ _ _ _ (T2.setTop (mkF m 30 #[.val (.ref a1), .val (.ref a2), .val (.int (0 : Int32)), .val (.int n), .val .null, .unset] [(.int cs)]))
  refine own_go (fun _ => XS.ifNo X2.here hx rfl (hb hby own_d2_30) rfl ((if0 _ _).trans (feq hcs).1)) ?_
  show own_Go _ _ _ _ (T2.setTop (mkF m 33 #[.val (.ref a1), .val (.ref a2), .val (.int (0 : Int32)), .val (.int n), .val .null, .unset] []))
  refine own_go (fun _ => XS.aloadN X2.here hx rfl (hb hby own_d2_33) rfl rfl) ?_
  refine own_go (fun _ => XS.iloadN X2.here hx rfl (hb hby own_d2_34) rfl) ?_
  refine own_go (fun _ => XS.iloadN X2.here hx rfl (hb hby own_d2_35) rfl) ?_
  show own_Go _ _ _ _ (T2.setTop (mkF m 36 #[.val (.ref a1), .val (.ref a2), .val (.int (0 : Int32)), .val (.int n), .val .null, .unset] [(.int n), (.int (0 : Int32)), (.ref a2)]))
  obtain ⟨_, _, ⟨T3, L3, k3, n3⟩, -, X3, ⟨Lc3, hQ3, l3, y3, z3⟩, st3⟩ := Jvm.LawKit.callS X2 hx (y := (⟨"java/lang/StringUTF16", "compress", "([CII)[B"⟩ : MethodName)) hown (mvT hZ (hw _ (List.mem_of_getElem? (i := 16) rfl))) (mvT hZ (hw _ (List.mem_of_getElem? (i := 17) rfl))) (mvT hZ (hw _ (List.mem_of_getElem? (i := 18) rfl))) (mvT hZ (hw _ (List.mem_of_getElem? (i := 19) rfl))) (by decide) (own_back (W := 0) (hM) hZ (hw _ (List.mem_of_getElem? (i := 19) rfl)) (hw _ (List.mem_of_getElem? (i := 18) rfl)) (by decide) (by decide)) (g := (mkF m 36 #[.val (.ref a1), .val (.ref a2), .val (.int (0 : Int32)), .val (.int n), .val .null, .unset] [(.int n), (.int (0 : Int32)), (.ref a2)])) rfl (by rw [hml]; rfl) (argsL := [(.ref a2), (.int (0 : Int32)), (.int n)]) (rest := []) (lenOf own_pd12 rfl) rfl (by show 2 * 0 + _ ≤ _; exact Nat.le_of_eq rfl) (hb hby own_d2_36) (fun _ _ => ⟨rfl, e2, (by decide : 0 + 2 ≤ _), (by decide : 0 + 9 ≤ _)⟩)
  dsimp only [Pt.U, Pt.locs, Pt.cells, Pt.slots] at X3 l3 y3 z3 st3 hQ3
  replace X3 := own_cst X3 l3 y3 z3 (k2 := 2) (n2 := 9) rfl rfl
  clear l3 y3 z3
  obtain ⟨b3, kk3, rfl, Nq3, K3, O3, geb3, szq3, V3⟩ := hQ3
  have NF3 := Fr.app N0 Nq3
  refine own_go st3 ?_
  have ne_a1_b3 : a1 ≠ b3 := Nat.ne_of_lt (Nat.lt_of_lt_of_le E1.lt szq3)
  have sz_b3 : h0.size ≤ b3 := Nat.le_trans K0.1 szq3
  replace E1 := E1.keep K3
  replace Fv := Fv.keep K3 nin0
  replace Fc := Fc.keep K3 nin0
  replace Z0 := Nat.le_trans Z0 K3.1
  replace K0 := K0.trans K3 all0
  replace hs0 := Nat.le_trans hs0 K3.1
  have O := O3
  show own_Go _ _ _ _ (T3.setTop (mkF m 39 #[.val (.ref a1), .val (.ref a2), .val (.int (0 : Int32)), .val (.int n), .val .null, .unset] [(.ref b3)]))
  refine own_go (fun _ => XS.astore X3.here hx rfl (hb hby own_d2_39) rfl rfl (l' := #[.val (.ref a1), .val (.ref a2), .val (.int (0 : Int32)), .val (.int n), .val .null, .val (.ref b3)]) rfl) ?_
  refine own_go (fun _ => XS.aloadN X3.here hx rfl (hb hby own_d2_41) rfl rfl) ?_
  refine own_go (fun _ => XS.aload X3.here hx rfl (hb hby own_d2_42) rfl rfl) ?_
  refine own_go (fun _ => XS.iloadN X3.here hx rfl (hb hby own_d2_44) rfl) ?_
  show own_Go _ _ _ _ (T3.setTop (mkF m 45 #[.val (.ref a1), .val (.ref a2), .val (.int (0 : Int32)), .val (.int n), .val .null, .val (.ref b3)] [(.int n), (.ref b3), (.ref a1)]))
  obtain ⟨_, _, ⟨T4, L4, k4, n4⟩, -, X4, ⟨Lc4, hQ4, l4, y4, z4⟩, st4⟩ := Jvm.LawKit.callS X3 hx (y := (⟨"java/lang/StringUTF16", "coderFromArrayLen", "([BI)B"⟩ : MethodName)) hown (mvT hZ (hw _ (List.mem_of_getElem? (i := 24) rfl))) (mvT hZ (hw _ (List.mem_of_getElem? (i := 25) rfl))) (mvT hZ (hw _ (List.mem_of_getElem? (i := 18) rfl))) (mvT hZ (hw _ (List.mem_of_getElem? (i := 26) rfl))) (by decide) (own_back (W := 1) (own_rmA l Z a0 hw b3 kk3 n z 0 vs T3.heap n0 Z0 V3 hu) hZ (hw _ (List.mem_of_getElem? (i := 26) rfl)) (hw _ (List.mem_of_getElem? (i := 18) rfl)) (by decide) (by decide)) (g := (mkF m 45 #[.val (.ref a1), .val (.ref a2), .val (.int (0 : Int32)), .val (.int n), .val .null, .val (.ref b3)] [(.int n), (.ref b3), (.ref a1)])) rfl (by rw [hml]; rfl) (argsL := [(.ref b3), (.int n)]) (rest := [(.ref a1)]) (lenOf own_pd13 rfl) rfl (by show 2 * 0 + _ ≤ _; exact Nat.le_of_eq rfl) (hb hby own_d2_45) (fun _ _ => ⟨rfl, rfl, (by decide : 2 + 0 ≤ _), (by decide : 9 + 0 ≤ _)⟩)
  dsimp only [Pt.U, Pt.locs, Pt.cells, Pt.slots] at X4 l4 y4 z4 st4 hQ4
  replace X4 := own_cst X4 l4 y4 z4 (k2 := 2) (n2 := 9) rfl rfl
  clear l4 y4 z4
  obtain ⟨rfl, Nq4, eq4⟩ := hQ4
  have NF4 := Fr.app NF3 Nq4
  refine own_go st4 ?_
  show own_Go _ _ _ _ (T4.setTop (mkF m 48 #[.val (.ref a1), .val (.ref a2), .val (.int (0 : Int32)), .val (.int n), .val .null, .val (.ref b3)] [(.int (0 : Int32)), (.ref a1)]))
  obtain ⟨T5, h5, X5, e5, W5, st5⟩ := putFN X4 hx hZ hown (hw _ (List.mem_of_getElem? (i := 27) rfl)) Via.refl eq4 Fc E1 (Or.inr ⟨(hw _ (List.mem_of_getElem? (i := 28) rfl)), rfl, hnm⟩) (hw _ (List.mem_of_getElem? (i := 2) rfl)) (ty := .byte) (v' := (.int (0 : Int32))) (by decide) rfl rfl (g := (mkF m 48 #[.val (.ref a1), .val (.ref a2), .val (.int (0 : Int32)), .val (.int n), .val .null, .val (.ref b3)] [(.int (0 : Int32)), (.ref a1)])) rfl rfl (hb hby own_d2_48)
  refine own_go st5 ?_
  have NF5 := Fr.snoc X5 NF4 ge_a1
  replace Fc := Fc.same W5
  replace E1 := E1.wr W5
  replace Fv := Fv.other W5 (Or.inr (slot_ne (Or.inr (hw _ (List.mem_of_getElem? (i := 30) rfl))) (Or.inr (hw _ (List.mem_of_getElem? (i := 28) rfl))) (by decide) (t := (.array .byte)) (t' := .byte) (by decide) (by decide)))
  replace O := O.wr W5 ge_a1
  replace V3 := V3.other W5 (Ne.symm ne_a1_b3)
  replace Z0 := Nat.le_trans Z0 (Keep.of_wr W5).1
  replace hs0 := Nat.le_trans hs0 (Keep.of_wr W5).1
  replace K0 := K0.wr W5 (Or.inl (List.mem_of_getElem? (i := 0) rfl))
  refine own_go (fun _ => XS.aloadN X5.here hx rfl (hb hby own_d2_51) rfl rfl) ?_
  refine own_go (fun _ => XS.aload X5.here hx rfl (hb hby own_d2_52) rfl rfl) ?_
  obtain ⟨T6, h6, X6, e6, W6, st6⟩ := putF X5 hx hZ hown (host := "") (Or.inl (hw _ (List.mem_of_getElem? (i := 29) rfl))) Via.refl e5 Fv E1 (Or.inr ⟨(hw _ (List.mem_of_getElem? (i := 30) rfl)), rfl, hnm⟩) (hw _ (List.mem_of_getElem? (i := 2) rfl)) (ty := (.array .byte)) (by decide) rfl rfl (g := (mkF m 54 #[.val (.ref a1), .val (.ref a2), .val (.int (0 : Int32)), .val (.int n), .val .null, .val (.ref b3)] [(.ref b3), (.ref a1)])) rfl rfl (hb hby own_d2_54)
  refine own_go st6 ?_
  have NF6 := Fr.snoc X6 NF5 ge_a1
  replace Fv := Fv.same W6
  replace E1 := E1.wr W6
  replace Fc := Fc.other W6 (Or.inr (slot_ne (Or.inr (hw _ (List.mem_of_getElem? (i := 28) rfl))) (Or.inr (hw _ (List.mem_of_getElem? (i := 30) rfl))) (by decide) (t := .byte) (t' := (.array .byte)) (by decide) (by decide)))
  replace O := O.wr W6 ge_a1
  replace V3 := V3.other W6 (Ne.symm ne_a1_b3)
  replace Z0 := Nat.le_trans Z0 (Keep.of_wr W6).1
  replace hs0 := Nat.le_trans hs0 (Keep.of_wr W6).1
  replace K0 := K0.wr W6 (Or.inl (List.mem_of_getElem? (i := 0) rfl))
  show own_Go _ _ _ _ (T6.setTop (mkF m 57 #[.val (.ref a1), .val (.ref a2), .val (.int (0 : Int32)), .val (.int n), .val .null, .val (.ref b3)] []))
  refine own_ret X6 hlk (v := none) (fun _ => rfl) (fun fs hr => X6.returnOut hx Bd.returns (hb hby own_d2_57) hr) ?_ (by decide) (by decide)
  try rw [e6]
  exact ⟨b3, kk3, rfl, NF6, K0, O, hs0, E1, Fv, Fc, V3⟩
theorem own_d1_0 : decode jdk_42_method_3_code 0 = .ok (.aload_n 0, 1) := by decide +kernel
theorem own_d1_1 : decode jdk_42_method_3_code 1 = .ok (.aload_n 1, 1) := by decide +kernel
theorem own_d1_2 : decode jdk_42_method_3_code 2 = .ok (.iconst 0, 1) := by decide +kernel
theorem own_d1_3 : decode jdk_42_method_3_code 3 = .ok (.aload_n 1, 1) := by decide +kernel
theorem own_d1_4 : decode jdk_42_method_3_code 4 = .ok (.arraylength, 1) := by decide +kernel
theorem own_d1_5 : decode jdk_42_method_3_code 5 = .ok (.aconst_null, 1) := by decide +kernel
theorem own_d1_6 : decode jdk_42_method_3_code 6 = .ok (.invokespecial 27, 3) := by decide +kernel
theorem own_pd14 : parseMethodDescriptor "([CIILjava/lang/Void;)V" = some ⟨[(.array .char), .int, .int, (.object "java/lang/Void")], none⟩ := by decide +kernel
theorem own_d1_9 : decode jdk_42_method_3_code 9 = .ok (.return_, 1) := by decide +kernel
set_option maxRecDepth 65536 in
set_option maxHeartbeats 40000000 in
theorem own_rmIL (l : Launch) (Z : State) (a0 : Array Value) (hw : ∀ d ∈ tables_1, d.before a0 Z = true) (a1 : Addr) (a2 : Addr) (kc : ClassId) (cs : Int32) (n : Int32) (z : Int32) (vs : List Value) (xs : List Value) (h0 : Heap) (n0 : Nat) (Z0 : n0 ≤ h0.size) (E1 : Exa Z h0 a1 "java/lang/String") (Fv : Fld Z h0 a1 "java/lang/String" "value" "[B" .null) (Fc : Fld Z h0 a1 "java/lang/String" "coder" "B" (.int 0)) (Vc : Arv Z h0 a2 kc .char n xs (.int 0)) (O : Old Z n0 h0) (S_C : Sta Z Z.heap "java/lang/String" "COMPACT_STRINGS" "Z" (.int cs)) (hcs : ¬ cs = (0 : Int32)) (ge_a1 : n0 ≤ a1) (hnz : ¬ n = (0 : Int32)) (hu : nar .byte ((((n - z).toUInt32 >>> ((31 : Int32) &&& 31).toUInt32).toInt32).toInt8.toInt32) = 0) (hM : own_Met l Z [] (⟨"java/lang/StringUTF16", "compress", "([CII)[B"⟩ : MethodName) jdk_52_method_16_code 6 (some (.array .byte)) ({ frames := 3, cells := 2, slots := 9, locals := 40 } : Room) #[(.ref a2), (.int (0 : Int32)), (.int n)] h0 (fun v h L => ∃ (b : Addr) (k : ClassId), v = some (.ref b) ∧ Fr n0 L ∧ Keep h0 h [] ∧ Old Z n0 h ∧ n0 ≤ b ∧ h0.size ≤ b ∧ Arv Z h b k .byte z vs (.int 0))) :
    own_Met l Z [] (⟨"java/lang/String", "<init>", "([C)V"⟩ : MethodName) jdk_42_method_3_code 2 none ({ frames := 5, cells := 2, slots := 9, locals := 74 } : Room) #[(.ref a1), (.ref a2)] h0 (fun v h L => ∃ (b : Addr) (k : ClassId), v = none ∧ Fr n0 L ∧ Keep h0 h [a1] ∧ Old Z n0 h ∧ h0.size ≤ h.size ∧ Exa Z h a1 "java/lang/String" ∧ Fld Z h a1 "java/lang/String" "value" "[B" (.ref b) ∧ Fld Z h a1 "java/lang/String" "coder" "B" (.int 0) ∧ Arv Z h b k .byte z vs (.int 0)) := by
  refine MetFree.of_bodySF (plainFor_of_name own_pn1) hisR ?_
  intro p e s m args below meth c s₁ Bd hml0 hP hK
  obtain ⟨rfl, hZ, hh⟩ := hP
  have hx := Bd.exec
  have hby := Bd.bytes
  have hml : c.maxLocals = 2 := hml0
  have hown : s.vm.findClass "java/lang/String" = some m.cls := findClass_of_methodNamed Bd.named
  have hnm := (name_of_methodNamed Bd.named Bd.method).1
  have hlk : meth.locks = false := Bd.notSynchronized
  have X0 : Stand p l e ({ frames := 5, cells := 2, slots := 9, locals := 74 } : Room) s m #[(.ref a1), (.ref a2)] below meth c s₁ [] 0 0 := Stand.of_body Bd
  have e0 : s₁.heap = h0 := by rw [← hh, Bd.state]; rfl
  have N0 := Fr.nil n0
  refine own_body (Q := fun v h L => ∃ (b : Addr) (k : ClassId), v = none ∧ Fr n0 L ∧ Keep h0 h [a1] ∧ Old Z n0 h ∧ h0.size ≤ h.size ∧ Exa Z h a1 "java/lang/String" ∧ Fld Z h a1 "java/lang/String" "value" "[B" (.ref b) ∧ Fld Z h a1 "java/lang/String" "coder" "B" (.int 0) ∧ Arv Z h b k .byte z vs (.int 0)) ?_
  refine own_go (fun _ kont => castTop (own_ef m #[(.ref a1), (.ref a2)] 2 #[.val (.ref a1), .val (.ref a2)] (own_al [(.ref a1), (.ref a2)] 2 [.val (.ref a1), .val (.ref a2)] rfl)) kont) ?_
  show own_Go _ _ _ _ (s₁.setTop (mkF m 0 #[.val (.ref a1), .val (.ref a2)] []))
  refine own_go (fun _ => XS.aloadN X0.here hx rfl (hb hby own_d1_0) rfl rfl) ?_
  refine own_go (fun _ => XS.aloadN X0.here hx rfl (hb hby own_d1_1) rfl rfl) ?_
  refine own_go (fun _ => XS.iconst X0.here hx rfl (hb hby own_d1_2)) ?_
  refine own_go (fun _ => XS.aloadN X0.here hx rfl (hb hby own_d1_3) rfl rfl) ?_
  obtain ⟨cl1, Ar1, -, Sz1, Ng1, -, -⟩ := id Vc
  refine own_go (X0.arraylength hx (own_hp e0 Ar1.1) (State.isArrayOf_alike hZ.alike Ar1.2.1) (g := (mkF m 4 #[.val (.ref a1), .val (.ref a2)] [(.ref a2), (.int (0 : Int32)), (.ref a2), (.ref a1)])) rfl rfl (hb hby own_d1_4)) ?_
  rw [len_of Sz1 Ng1]
  show own_Go _ _ _ _ (s₁.setTop (mkF m 5 #[.val (.ref a1), .val (.ref a2)] [(.int n), (.int (0 : Int32)), (.ref a2), (.ref a1)]))
  refine own_go (fun _ => XS.aconstNull X0.here hx rfl (hb hby own_d1_5)) ?_
  show own_Go _ _ _ _ (s₁.setTop (mkF m 6 #[.val (.ref a1), .val (.ref a2)] [.null, (.int n), (.int (0 : Int32)), (.ref a2), (.ref a1)]))
  obtain ⟨_, _, ⟨T2, L2, k2, n2⟩, -, X2, ⟨Lc2, hQ2, l2, y2, z2⟩, st2⟩ := X0.specialBack hx (y := (⟨"java/lang/String", "<init>", "([CIILjava/lang/Void;)V"⟩ : MethodName)) rfl hown (mvT hZ (hw _ (List.mem_of_getElem? (i := 8) rfl))) (mvT hZ (hw _ (List.mem_of_getElem? (i := 9) rfl))) (mvT hZ (hw _ (List.mem_of_getElem? (i := 11) rfl))) (by decide) (own_back (W := 0) (own_rmJL l Z a0 hw a1 a2 cs n z vs h0 n0 Z0 E1 Fv Fc O S_C hcs ge_a1 hnz hu hM) hZ (hw _ (List.mem_of_getElem? (i := 11) rfl)) (hw _ (List.mem_of_getElem? (i := 3) rfl)) (by decide) (by decide)) (g := (mkF m 6 #[.val (.ref a1), .val (.ref a2)] [.null, (.int n), (.int (0 : Int32)), (.ref a2), (.ref a1)])) rfl (by rw [hml]; rfl) (Steps.refl _) (a := a1) (argsL := [(.ref a2), (.int (0 : Int32)), (.int n), .null]) (rest := []) (lenOf own_pd14 rfl) rfl (by show 2 * 0 + _ ≤ _; exact Nat.le_of_eq rfl) (hb hby own_d1_6) (fun _ _ => ⟨rfl, e0, (by decide : 0 + 2 ≤ _), (by decide : 0 + 9 ≤ _)⟩)
  dsimp only [Pt.U, Pt.locs, Pt.cells, Pt.slots] at X2 l2 y2 z2 st2 hQ2
  replace X2 := own_cst X2 l2 y2 z2 (k2 := 2) (n2 := 9) rfl rfl
  clear l2 y2 z2
  obtain ⟨b2, kk2, rfl, Nq2, K2, O2, hs2, E2, Fv2, Fc2, V2⟩ := hQ2
  have NF2 := Fr.app N0 Nq2
  refine own_goT st2 ?_
  show own_Go _ _ _ _ (T2.setTop (mkF m 9 #[.val (.ref a1), .val (.ref a2)] []))
  refine own_ret X2 hlk (v := none) (fun _ => rfl) (fun fs hr => X2.returnOut hx Bd.returns (hb hby own_d1_9) hr) ?_ (by decide) (by decide)
  skip
  exact ⟨b2, kk2, rfl, NF2, K2, O2, hs2, E2, Fv2, Fc2, V2⟩
set_option maxRecDepth 65536 in
set_option maxHeartbeats 40000000 in
theorem own_rmJU (l : Launch) (Z : State) (a0 : Array Value) (hw : ∀ d ∈ tables_1, d.before a0 Z = true) (a1 : Addr) (a2 : Addr) (cs : Int32) (n : Int32) (z : Int32) (vs : List Value) (h0 : Heap) (n0 : Nat) (Z0 : n0 ≤ h0.size) (E1 : Exa Z h0 a1 "java/lang/String") (Fv : Fld Z h0 a1 "java/lang/String" "value" "[B" .null) (Fc : Fld Z h0 a1 "java/lang/String" "coder" "B" (.int 0)) (O : Old Z n0 h0) (S_C : Sta Z Z.heap "java/lang/String" "COMPACT_STRINGS" "Z" (.int cs)) (hcs : ¬ cs = (0 : Int32)) (ge_a1 : n0 ≤ a1) (hnz : ¬ n = (0 : Int32)) (hu : nar .byte ((((n - z).toUInt32 >>> ((31 : Int32) &&& 31).toUInt32).toInt32).toInt8.toInt32) = 1) (hM : own_Met l Z [] (⟨"java/lang/StringUTF16", "compress", "([CII)[B"⟩ : MethodName) jdk_52_method_16_code 6 (some (.array .byte)) ({ frames := 3, cells := 2, slots := 9, locals := 40 } : Room) #[(.ref a2), (.int (0 : Int32)), (.int n)] h0 (fun v h L => ∃ (b : Addr) (k : ClassId), v = some (.ref b) ∧ Fr n0 L ∧ Keep h0 h [] ∧ Old Z n0 h ∧ n0 ≤ b ∧ h0.size ≤ b ∧ Arv Z h b k .byte z vs (.int 0))) :
    own_Met l Z [] (⟨"java/lang/String", "<init>", "([CIILjava/lang/Void;)V"⟩ : MethodName) jdk_42_method_149_code 6 none ({ frames := 4, cells := 2, slots := 9, locals := 57 } : Room) #[(.ref a1), (.ref a2), (.int (0 : Int32)), (.int n), .null] h0 (fun v h L => ∃ (b : Addr) (k : ClassId), v = none ∧ Fr n0 L ∧ Keep h0 h [a1] ∧ Old Z n0 h ∧ h0.size ≤ h.size ∧ Exa Z h a1 "java/lang/String" ∧ Fld Z h a1 "java/lang/String" "value" "[B" (.ref b) ∧ Fld Z h a1 "java/lang/String" "coder" "B" (.int 1) ∧ Arv Z h b k .byte z vs (.int 0)) := by
  refine MetFree.of_bodySF (plainFor_of_name own_pn1) hisR ?_
  intro p e s m args below meth c s₁ Bd hml0 hP hK
  obtain ⟨rfl, hZ, hh⟩ := hP
  have hx := Bd.exec
  have hby := Bd.bytes
  have hml : c.maxLocals = 6 := hml0
  have hown : s.vm.findClass "java/lang/String" = some m.cls := findClass_of_methodNamed Bd.named
  have hnm := (name_of_methodNamed Bd.named Bd.method).1
  have hlk : meth.locks = false := Bd.notSynchronized
  have X0 : Stand p l e ({ frames := 4, cells := 2, slots := 9, locals := 57 } : Room) s m #[(.ref a1), (.ref a2), (.int (0 : Int32)), (.int n), .null] below meth c s₁ [] 0 0 := Stand.of_body Bd
  have e0 : s₁.heap = h0 := by rw [← hh, Bd.state]; rfl
  have N0 := Fr.nil n0
  refine own_body (Q := fun v h L => ∃ (b : Addr) (k : ClassId), v = none ∧ Fr n0 L ∧ Keep h0 h [a1] ∧ Old Z n0 h ∧ h0.size ≤ h.size ∧ Exa Z h a1 "java/lang/String" ∧ Fld Z h a1 "java/lang/String" "value" "[B" (.ref b) ∧ Fld Z h a1 "java/lang/String" "coder" "B" (.int 1) ∧ Arv Z h b k .byte z vs (.int 0)) ?_
  refine own_go (fun _ kont => castTop (own_ef m #[(.ref a1), (.ref a2), (.int (0 : Int32)), (.int n), .null] 6 #[.val (.ref a1), .val (.ref a2), .val (.int (0 : Int32)), .val (.int n), .val .null, .unset] (own_al [(.ref a1), (.ref a2), (.int (0 : Int32)), (.int n), .null] 6 [.val (.ref a1), .val (.ref a2), .val (.int (0 : Int32)), .val (.int n), .val .null, .unset] rfl)) kont) ?_
  show own_Go _ _ _ _ (s₁.setTop (mkF m 0 #[.val (.ref a1), .val (.ref a2), .val (.int (0 : Int32)), .val (.int n), .val .null, .unset] []))
  have hs0 : h0.size ≤ h0.size := Nat.le_refl _
  have K0 : Keep h0 h0 [a1] := Keep.refl _ _
  refine own_go (fun _ => XS.aloadN X0.here hx rfl (hb hby own_d2_0) rfl rfl) ?_
  show own_Go _ _ _ _ (s₁.setTop (mkF m 1 #[.val (.ref a1), .val (.ref a2), .val (.int (0 : Int32)), .val (.int n), .val .null, .unset] [(.ref a1)]))
  obtain ⟨T1, X1, e1, st1⟩ := initO X0 hx hZ hown (hw _ (List.mem_of_getElem? (i := 12) rfl)) (hw _ (List.mem_of_getElem? (i := 13) rfl)) (hw _ (List.mem_of_getElem? (i := 14) rfl)) e0 (g := (mkF m 1 #[.val (.ref a1), .val (.ref a2), .val (.int (0 : Int32)), .val (.int n), .val .null, .unset] [(.ref a1)])) rfl (by rw [hml]; rfl) rfl (hb hby own_d2_1) (by decide) (W := 0) (by show 2 * 0 + _ ≤ _; exact Nat.le_of_eq rfl) (by decide)
  refine own_go st1 ?_
  show own_Go _ _ _ _ (T1.setTop (mkF m 4 #[.val (.ref a1), .val (.ref a2), .val (.int (0 : Int32)), .val (.int n), .val .null, .unset] []))
  refine own_go (fun _ => XS.iloadN X1.here hx rfl (hb hby own_d2_4) rfl) ?_
  show own_Go _ _ _ _ (T1.setTop (mkF m 5 #[.val (.ref a1), .val (.ref a2), .val (.int (0 : Int32)), .val (.int n), .val .null, .unset] [(.int n)]))
  refine own_go (fun _ => XS.ifYes X1.here hx rfl (pc0 := 5) (pc' := 27) rfl (hb hby own_d2_5) rfl ((if0 _ _).trans (feq hnz).2) (by decide) (by decide)) ?_
  show own_Go _ _ _ _ (T1.setTop (mkF m 27 #[.val (.ref a1), .val (.ref a2), .val (.int (0 : Int32)), .val (.int n), .val .null, .unset] []))
  obtain ⟨T2, X2, e2, st2⟩ := getS2 X1 hx hZ hown (host := "") (Or.inl (hw _ (List.mem_of_getElem? (i := 15) rfl))) Via.refl e1 (S_C.ext O.2) (g := (mkF m 27 #[.val (.ref a1), .val (.ref a2), .val (.int (0 : Int32)), .val (.int n), .val .null, .unset] [])) rfl (hb hby own_d2_27)
  refine own_go st2 ?_
  show own_Go _ _ _ _ (T2.setTop (mkF m 30 #[.val (.ref a1), .val (.ref a2), .val (.int (0 : Int32)), .val (.int n), .val .null, .unset] [(.int cs)]))
  refine own_go (fun _ => XS.ifNo X2.here hx rfl (hb hby own_d2_30) rfl ((if0 _ _).trans (feq hcs).1)) ?_
  show own_Go _ _ _ _ (T2.setTop (mkF m 33 #[.val (.ref a1), .val (.ref a2), .val (.int (0 : Int32)), .val (.int n), .val .null, .unset] []))
  refine own_go (fun _ => XS.aloadN X2.here hx rfl (hb hby own_d2_33) rfl rfl) ?_
  refine own_go (fun _ => XS.iloadN X2.here hx rfl (hb hby own_d2_34) rfl) ?_
  refine own_go (fun _ => XS.iloadN X2.here hx rfl (hb hby own_d2_35) rfl) ?_
  show own_Go _ _ _ _ (T2.setTop (mkF m 36 #[.val (.ref a1), .val (.ref a2), .val (.int (0 : Int32)), .val (.int n), .val .null, .unset] [(.int n), (.int (0 : Int32)), (.ref a2)]))
  obtain ⟨_, _, ⟨T3, L3, k3, n3⟩, -, X3, ⟨Lc3, hQ3, l3, y3, z3⟩, st3⟩ := Jvm.LawKit.callS X2 hx (y := (⟨"java/lang/StringUTF16", "compress", "([CII)[B"⟩ : MethodName)) hown (mvT hZ (hw _ (List.mem_of_getElem? (i := 16) rfl))) (mvT hZ (hw _ (List.mem_of_getElem? (i := 17) rfl))) (mvT hZ (hw _ (List.mem_of_getElem? (i := 18) rfl))) (mvT hZ (hw _ (List.mem_of_getElem? (i := 19) rfl))) (by decide) (own_back (W := 0) (hM) hZ (hw _ (List.mem_of_getElem? (i := 19) rfl)) (hw _ (List.mem_of_getElem? (i := 18) rfl)) (by decide) (by decide)) (g := (mkF m 36 #[.val (.ref a1), .val (.ref a2), .val (.int (0 : Int32)), .val (.int n), .val .null, .unset] [(.int n), (.int (0 : Int32)), (.ref a2)])) rfl (by rw [hml]; rfl) (argsL := [(.ref a2), (.int (0 : Int32)), (.int n)]) (rest := []) (lenOf own_pd12 rfl) rfl (by show 2 * 0 + _ ≤ _; exact Nat.le_of_eq rfl) (hb hby own_d2_36) (fun _ _ => ⟨rfl, e2, (by decide : 0 + 2 ≤ _), (by decide : 0 + 9 ≤ _)⟩)
  dsimp only [Pt.U, Pt.locs, Pt.cells, Pt.slots] at X3 l3 y3 z3 st3 hQ3
  replace X3 := own_cst X3 l3 y3 z3 (k2 := 2) (n2 := 9) rfl rfl
  clear l3 y3 z3
  obtain ⟨b3, kk3, rfl, Nq3, K3, O3, geb3, szq3, V3⟩ := hQ3
  have NF3 := Fr.app N0 Nq3
  refine own_go st3 ?_
  have ne_a1_b3 : a1 ≠ b3 := Nat.ne_of_lt (Nat.lt_of_lt_of_le E1.lt szq3)
  have sz_b3 : h0.size ≤ b3 := Nat.le_trans K0.1 szq3
  replace E1 := E1.keep K3
  replace Fv := Fv.keep K3 nin0
  replace Fc := Fc.keep K3 nin0
  replace Z0 := Nat.le_trans Z0 K3.1
  replace K0 := K0.trans K3 all0
  replace hs0 := Nat.le_trans hs0 K3.1
  have O := O3
  show own_Go _ _ _ _ (T3.setTop (mkF m 39 #[.val (.ref a1), .val (.ref a2), .val (.int (0 : Int32)), .val (.int n), .val .null, .unset] [(.ref b3)]))
  refine own_go (fun _ => XS.astore X3.here hx rfl (hb hby own_d2_39) rfl rfl (l' := #[.val (.ref a1), .val (.ref a2), .val (.int (0 : Int32)), .val (.int n), .val .null, .val (.ref b3)]) rfl) ?_
  refine own_go (fun _ => XS.aloadN X3.here hx rfl (hb hby own_d2_41) rfl rfl) ?_
  refine own_go (fun _ => XS.aload X3.here hx rfl (hb hby own_d2_42) rfl rfl) ?_
  refine own_go (fun _ => XS.iloadN X3.here hx rfl (hb hby own_d2_44) rfl) ?_
  show own_Go _ _ _ _ (T3.setTop (mkF m 45 #[.val (.ref a1), .val (.ref a2), .val (.int (0 : Int32)), .val (.int n), .val .null, .val (.ref b3)] [(.int n), (.ref b3), (.ref a1)]))
  obtain ⟨_, _, ⟨T4, L4, k4, n4⟩, -, X4, ⟨Lc4, hQ4, l4, y4, z4⟩, st4⟩ := Jvm.LawKit.callS X3 hx (y := (⟨"java/lang/StringUTF16", "coderFromArrayLen", "([BI)B"⟩ : MethodName)) hown (mvT hZ (hw _ (List.mem_of_getElem? (i := 24) rfl))) (mvT hZ (hw _ (List.mem_of_getElem? (i := 25) rfl))) (mvT hZ (hw _ (List.mem_of_getElem? (i := 18) rfl))) (mvT hZ (hw _ (List.mem_of_getElem? (i := 26) rfl))) (by decide) (own_back (W := 1) (own_rmA l Z a0 hw b3 kk3 n z 1 vs T3.heap n0 Z0 V3 hu) hZ (hw _ (List.mem_of_getElem? (i := 26) rfl)) (hw _ (List.mem_of_getElem? (i := 18) rfl)) (by decide) (by decide)) (g := (mkF m 45 #[.val (.ref a1), .val (.ref a2), .val (.int (0 : Int32)), .val (.int n), .val .null, .val (.ref b3)] [(.int n), (.ref b3), (.ref a1)])) rfl (by rw [hml]; rfl) (argsL := [(.ref b3), (.int n)]) (rest := [(.ref a1)]) (lenOf own_pd13 rfl) rfl (by show 2 * 0 + _ ≤ _; exact Nat.le_of_eq rfl) (hb hby own_d2_45) (fun _ _ => ⟨rfl, rfl, (by decide : 2 + 0 ≤ _), (by decide : 9 + 0 ≤ _)⟩)
  dsimp only [Pt.U, Pt.locs, Pt.cells, Pt.slots] at X4 l4 y4 z4 st4 hQ4
  replace X4 := own_cst X4 l4 y4 z4 (k2 := 2) (n2 := 9) rfl rfl
  clear l4 y4 z4
  obtain ⟨rfl, Nq4, eq4⟩ := hQ4
  have NF4 := Fr.app NF3 Nq4
  refine own_go st4 ?_
  show own_Go _ _ _ _ (T4.setTop (mkF m 48 #[.val (.ref a1), .val (.ref a2), .val (.int (0 : Int32)), .val (.int n), .val .null, .val (.ref b3)] [(.int (1 : Int32)), (.ref a1)]))
  obtain ⟨T5, h5, X5, e5, W5, st5⟩ := putFN X4 hx hZ hown (hw _ (List.mem_of_getElem? (i := 27) rfl)) Via.refl eq4 Fc E1 (Or.inr ⟨(hw _ (List.mem_of_getElem? (i := 28) rfl)), rfl, hnm⟩) (hw _ (List.mem_of_getElem? (i := 2) rfl)) (ty := .byte) (v' := (.int (1 : Int32))) (by decide) rfl rfl (g := (mkF m 48 #[.val (.ref a1), .val (.ref a2), .val (.int (0 : Int32)), .val (.int n), .val .null, .val (.ref b3)] [(.int (1 : Int32)), (.ref a1)])) rfl rfl (hb hby own_d2_48)
  refine own_go st5 ?_
  have NF5 := Fr.snoc X5 NF4 ge_a1
  replace Fc := Fc.same W5
  replace E1 := E1.wr W5
  replace Fv := Fv.other W5 (Or.inr (slot_ne (Or.inr (hw _ (List.mem_of_getElem? (i := 30) rfl))) (Or.inr (hw _ (List.mem_of_getElem? (i := 28) rfl))) (by decide) (t := (.array .byte)) (t' := .byte) (by decide) (by decide)))
  replace O := O.wr W5 ge_a1
  replace V3 := V3.other W5 (Ne.symm ne_a1_b3)
  replace Z0 := Nat.le_trans Z0 (Keep.of_wr W5).1
  replace hs0 := Nat.le_trans hs0 (Keep.of_wr W5).1
  replace K0 := K0.wr W5 (Or.inl (List.mem_of_getElem? (i := 0) rfl))
  refine own_go (fun _ => XS.aloadN X5.here hx rfl (hb hby own_d2_51) rfl rfl) ?_
  refine own_go (fun _ => XS.aload X5.here hx rfl (hb hby own_d2_52) rfl rfl) ?_
  obtain ⟨T6, h6, X6, e6, W6, st6⟩ := putF X5 hx hZ hown (host := "") (Or.inl (hw _ (List.mem_of_getElem? (i := 29) rfl))) Via.refl e5 Fv E1 (Or.inr ⟨(hw _ (List.mem_of_getElem? (i := 30) rfl)), rfl, hnm⟩) (hw _ (List.mem_of_getElem? (i := 2) rfl)) (ty := (.array .byte)) (by decide) rfl rfl (g := (mkF m 54 #[.val (.ref a1), .val (.ref a2), .val (.int (0 : Int32)), .val (.int n), .val .null, .val (.ref b3)] [(.ref b3), (.ref a1)])) rfl rfl (hb hby own_d2_54)
  refine own_go st6 ?_
  have NF6 := Fr.snoc X6 NF5 ge_a1
  replace Fv := Fv.same W6
  replace E1 := E1.wr W6
  replace Fc := Fc.other W6 (Or.inr (slot_ne (Or.inr (hw _ (List.mem_of_getElem? (i := 28) rfl))) (Or.inr (hw _ (List.mem_of_getElem? (i := 30) rfl))) (by decide) (t := .byte) (t' := (.array .byte)) (by decide) (by decide)))
  replace O := O.wr W6 ge_a1
  replace V3 := V3.other W6 (Ne.symm ne_a1_b3)
  replace Z0 := Nat.le_trans Z0 (Keep.of_wr W6).1
  replace hs0 := Nat.le_trans hs0 (Keep.of_wr W6).1
  replace K0 := K0.wr W6 (Or.inl (List.mem_of_getElem? (i := 0) rfl))
  show own_Go _ _ _ _ (T6.setTop (mkF m 57 #[.val (.ref a1), .val (.ref a2), .val (.int (0 : Int32)), .val (.int n), .val .null, .val (.ref b3)] []))
  refine own_ret X6 hlk (v := none) (fun _ => rfl) (fun fs hr => X6.returnOut hx Bd.returns (hb hby own_d2_57) hr) ?_ (by decide) (by decide)
  try rw [e6]
  exact ⟨b3, kk3, rfl, NF6, K0, O, hs0, E1, Fv, Fc, V3⟩
set_option maxRecDepth 65536 in
set_option maxHeartbeats 40000000 in
theorem own_rmIU (l : Launch) (Z : State) (a0 : Array Value) (hw : ∀ d ∈ tables_1, d.before a0 Z = true) (a1 : Addr) (a2 : Addr) (kc : ClassId) (cs : Int32) (n : Int32) (z : Int32) (vs : List Value) (xs : List Value) (h0 : Heap) (n0 : Nat) (Z0 : n0 ≤ h0.size) (E1 : Exa Z h0 a1 "java/lang/String") (Fv : Fld Z h0 a1 "java/lang/String" "value" "[B" .null) (Fc : Fld Z h0 a1 "java/lang/String" "coder" "B" (.int 0)) (Vc : Arv Z h0 a2 kc .char n xs (.int 0)) (O : Old Z n0 h0) (S_C : Sta Z Z.heap "java/lang/String" "COMPACT_STRINGS" "Z" (.int cs)) (hcs : ¬ cs = (0 : Int32)) (ge_a1 : n0 ≤ a1) (hnz : ¬ n = (0 : Int32)) (hu : nar .byte ((((n - z).toUInt32 >>> ((31 : Int32) &&& 31).toUInt32).toInt32).toInt8.toInt32) = 1) (hM : own_Met l Z [] (⟨"java/lang/StringUTF16", "compress", "([CII)[B"⟩ : MethodName) jdk_52_method_16_code 6 (some (.array .byte)) ({ frames := 3, cells := 2, slots := 9, locals := 40 } : Room) #[(.ref a2), (.int (0 : Int32)), (.int n)] h0 (fun v h L => ∃ (b : Addr) (k : ClassId), v = some (.ref b) ∧ Fr n0 L ∧ Keep h0 h [] ∧ Old Z n0 h ∧ n0 ≤ b ∧ h0.size ≤ b ∧ Arv Z h b k .byte z vs (.int 0))) :
    own_Met l Z [] (⟨"java/lang/String", "<init>", "([C)V"⟩ : MethodName) jdk_42_method_3_code 2 none ({ frames := 5, cells := 2, slots := 9, locals := 74 } : Room) #[(.ref a1), (.ref a2)] h0 (fun v h L => ∃ (b : Addr) (k : ClassId), v = none ∧ Fr n0 L ∧ Keep h0 h [a1] ∧ Old Z n0 h ∧ h0.size ≤ h.size ∧ Exa Z h a1 "java/lang/String" ∧ Fld Z h a1 "java/lang/String" "value" "[B" (.ref b) ∧ Fld Z h a1 "java/lang/String" "coder" "B" (.int 1) ∧ Arv Z h b k .byte z vs (.int 0)) := by
  refine MetFree.of_bodySF (plainFor_of_name own_pn1) hisR ?_
  intro p e s m args below meth c s₁ Bd hml0 hP hK
  obtain ⟨rfl, hZ, hh⟩ := hP
  have hx := Bd.exec
  have hby := Bd.bytes
  have hml : c.maxLocals = 2 := hml0
  have hown : s.vm.findClass "java/lang/String" = some m.cls := findClass_of_methodNamed Bd.named
  have hnm := (name_of_methodNamed Bd.named Bd.method).1
  have hlk : meth.locks = false := Bd.notSynchronized
  have X0 : Stand p l e ({ frames := 5, cells := 2, slots := 9, locals := 74 } : Room) s m #[(.ref a1), (.ref a2)] below meth c s₁ [] 0 0 := Stand.of_body Bd
  have e0 : s₁.heap = h0 := by rw [← hh, Bd.state]; rfl
  have N0 := Fr.nil n0
  refine own_body (Q := fun v h L => ∃ (b : Addr) (k : ClassId), v = none ∧ Fr n0 L ∧ Keep h0 h [a1] ∧ Old Z n0 h ∧ h0.size ≤ h.size ∧ Exa Z h a1 "java/lang/String" ∧ Fld Z h a1 "java/lang/String" "value" "[B" (.ref b) ∧ Fld Z h a1 "java/lang/String" "coder" "B" (.int 1) ∧ Arv Z h b k .byte z vs (.int 0)) ?_
  refine own_go (fun _ kont => castTop (own_ef m #[(.ref a1), (.ref a2)] 2 #[.val (.ref a1), .val (.ref a2)] (own_al [(.ref a1), (.ref a2)] 2 [.val (.ref a1), .val (.ref a2)] rfl)) kont) ?_
  show own_Go _ _ _ _ (s₁.setTop (mkF m 0 #[.val (.ref a1), .val (.ref a2)] []))
  refine own_go (fun _ => XS.aloadN X0.here hx rfl (hb hby own_d1_0) rfl rfl) ?_
  refine own_go (fun _ => XS.aloadN X0.here hx rfl (hb hby own_d1_1) rfl rfl) ?_
  refine own_go (fun _ => XS.iconst X0.here hx rfl (hb hby own_d1_2)) ?_
  refine own_go (fun _ => XS.aloadN X0.here hx rfl (hb hby own_d1_3) rfl rfl) ?_
  obtain ⟨cl1, Ar1, -, Sz1, Ng1, -, -⟩ := id Vc
  refine own_go (X0.arraylength hx (own_hp e0 Ar1.1) (State.isArrayOf_alike hZ.alike Ar1.2.1) (g := (mkF m 4 #[.val (.ref a1), .val (.ref a2)] [(.ref a2), (.int (0 : Int32)), (.ref a2), (.ref a1)])) rfl rfl (hb hby own_d1_4)) ?_
  rw [len_of Sz1 Ng1]
  show own_Go _ _ _ _ (s₁.setTop (mkF m 5 #[.val (.ref a1), .val (.ref a2)] [(.int n), (.int (0 : Int32)), (.ref a2), (.ref a1)]))
  refine own_go (fun _ => XS.aconstNull X0.here hx rfl (hb hby own_d1_5)) ?_
  show own_Go _ _ _ _ (s₁.setTop (mkF m 6 #[.val (.ref a1), .val (.ref a2)] [.null, (.int n), (.int (0 : Int32)), (.ref a2), (.ref a1)]))
  obtain ⟨_, _, ⟨T2, L2, k2, n2⟩, -, X2, ⟨Lc2, hQ2, l2, y2, z2⟩, st2⟩ := X0.specialBack hx (y := (⟨"java/lang/String", "<init>", "([CIILjava/lang/Void;)V"⟩ : MethodName)) rfl hown (mvT hZ (hw _ (List.mem_of_getElem? (i := 8) rfl))) (mvT hZ (hw _ (List.mem_of_getElem? (i := 9) rfl))) (mvT hZ (hw _ (List.mem_of_getElem? (i := 11) rfl))) (by decide) (own_back (W := 0) (own_rmJU l Z a0 hw a1 a2 cs n z vs h0 n0 Z0 E1 Fv Fc O S_C hcs ge_a1 hnz hu hM) hZ (hw _ (List.mem_of_getElem? (i := 11) rfl)) (hw _ (List.mem_of_getElem? (i := 3) rfl)) (by decide) (by decide)) (g := (mkF m 6 #[.val (.ref a1), .val (.ref a2)] [.null, (.int n), (.int (0 : Int32)), (.ref a2), (.ref a1)])) rfl (by rw [hml]; rfl) (Steps.refl _) (a := a1) (argsL := [(.ref a2), (.int (0 : Int32)), (.int n), .null]) (rest := []) (lenOf own_pd14 rfl) rfl (by show 2 * 0 + _ ≤ _; exact Nat.le_of_eq rfl) (hb hby own_d1_6) (fun _ _ => ⟨rfl, e0, (by decide : 0 + 2 ≤ _), (by decide : 0 + 9 ≤ _)⟩)
  dsimp only [Pt.U, Pt.locs, Pt.cells, Pt.slots] at X2 l2 y2 z2 st2 hQ2
  replace X2 := own_cst X2 l2 y2 z2 (k2 := 2) (n2 := 9) rfl rfl
  clear l2 y2 z2
  obtain ⟨b2, kk2, rfl, Nq2, K2, O2, hs2, E2, Fv2, Fc2, V2⟩ := hQ2
  have NF2 := Fr.app N0 Nq2
  refine own_goT st2 ?_
  show own_Go _ _ _ _ (T2.setTop (mkF m 9 #[.val (.ref a1), .val (.ref a2)] []))
  refine own_ret X2 hlk (v := none) (fun _ => rfl) (fun fs hr => X2.returnOut hx Bd.returns (hb hby own_d1_9) hr) ?_ (by decide) (by decide)
  skip
  exact ⟨b2, kk2, rfl, NF2, K2, O2, hs2, E2, Fv2, Fc2, V2⟩
theorem own_d2_8 : decode jdk_42_method_149_code 8 = .ok (.aload_n 0, 1) := by decide +kernel
theorem own_d2_9 : decode jdk_42_method_149_code 9 = .ok (.ldc 7, 2) := by decide +kernel
theorem own_d2_11 : decode jdk_42_method_149_code 11 = .ok (.getfield 9, 3) := by decide +kernel
theorem own_d2_14 : decode jdk_42_method_149_code 14 = .ok (.putfield 9, 3) := by decide +kernel
theorem own_d2_17 : decode jdk_42_method_149_code 17 = .ok (.aload_n 0, 1) := by decide +kernel
theorem own_d2_18 : decode jdk_42_method_149_code 18 = .ok (.ldc 7, 2) := by decide +kernel
theorem own_d2_20 : decode jdk_42_method_149_code 20 = .ok (.getfield 15, 3) := by decide +kernel
theorem own_d2_23 : decode jdk_42_method_149_code 23 = .ok (.putfield 15, 3) := by decide +kernel
theorem own_d2_26 : decode jdk_42_method_149_code 26 = .ok (.return_, 1) := by decide +kernel
set_option maxRecDepth 65536 in
set_option maxHeartbeats 40000000 in
theorem own_rmJ0 (l : Launch) (Z : State) (a0 : Array Value) (hw : ∀ d ∈ tables_1, d.before a0 Z = true) (a1 : Addr) (a2 : Addr) (kc : ClassId) (h0 : Heap) (n0 : Nat) (Z0 : n0 ≤ h0.size) (E1 : Exa Z h0 a1 "java/lang/String") (Fv : Fld Z h0 a1 "java/lang/String" "value" "[B" .null) (Fc : Fld Z h0 a1 "java/lang/String" "coder" "B" (.int 0)) (Vc : Arv Z h0 a2 kc .char 0 [] (.int 0)) (O : Old Z n0 h0) (ge_a1 : n0 ≤ a1) :
    own_MetH l Z consts_1 [] (⟨"java/lang/String", "<init>", "([CIILjava/lang/Void;)V"⟩ : MethodName) jdk_42_method_149_code 6 none ({ frames := 1, cells := 2, slots := 4, locals := 12 } : Room) #[(.ref a1), (.ref a2), (.int (0 : Int32)), (.int (0 : Int32)), .null] h0 (fun v h L => ∃ (b : Addr) (k : ClassId), v = none ∧ Fr n0 L ∧ Old Z n0 h ∧ h0.size ≤ h.size ∧ Exa Z h a1 "java/lang/String" ∧ Fld Z h a1 "java/lang/String" "value" "[B" (.ref b) ∧ Fld Z h a1 "java/lang/String" "coder" "B" (.int 0) ∧ Arv Z h b k .byte 0 [] (.int 0)) := by
  refine MetFree.of_bodySF (plainFor_of_name own_pn1) hisR ?_
  intro p e s m args below meth c s₁ Bd hml0 hP hK
  obtain ⟨rfl, hZ, hh, H0⟩ := hP
  have hx := Bd.exec
  have hby := Bd.bytes
  have hml : c.maxLocals = 6 := hml0
  have hown : s.vm.findClass "java/lang/String" = some m.cls := findClass_of_methodNamed Bd.named
  have hnm := (name_of_methodNamed Bd.named Bd.method).1
  have hlk : meth.locks = false := Bd.notSynchronized
  have X0 : Stand p l e ({ frames := 1, cells := 2, slots := 4, locals := 12 } : Room) s m #[(.ref a1), (.ref a2), (.int (0 : Int32)), (.int (0 : Int32)), .null] below meth c s₁ [] 0 0 := Stand.of_body Bd
  have e0 : s₁.heap = h0 := by rw [← hh, Bd.state]; rfl
  have N0 := Fr.nil n0
  refine own_bodyW (Q := fun v h L => ∃ (b : Addr) (k : ClassId), v = none ∧ Fr n0 L ∧ Old Z n0 h ∧ h0.size ≤ h.size ∧ Exa Z h a1 "java/lang/String" ∧ Fld Z h a1 "java/lang/String" "value" "[B" (.ref b) ∧ Fld Z h a1 "java/lang/String" "coder" "B" (.int 0) ∧ Arv Z h b k .byte 0 [] (.int 0)) ?_
  refine own_go (fun _ kont => castTop (own_ef m #[(.ref a1), (.ref a2), (.int (0 : Int32)), (.int (0 : Int32)), .null] 6 #[.val (.ref a1), .val (.ref a2), .val (.int (0 : Int32)), .val (.int (0 : Int32)), .val .null, .unset] (own_al [(.ref a1), (.ref a2), (.int (0 : Int32)), (.int (0 : Int32)), .null] 6 [.val (.ref a1), .val (.ref a2), .val (.int (0 : Int32)), .val (.int (0 : Int32)), .val .null, .unset] rfl)) kont) ?_
  show own_Go _ _ _ _ (s₁.setTop (mkF m 0 #[.val (.ref a1), .val (.ref a2), .val (.int (0 : Int32)), .val (.int (0 : Int32)), .val .null, .unset] []))
  have hs0 : h0.size ≤ h0.size := Nat.le_refl _
  refine own_go (fun _ => XS.aloadN X0.here hx rfl (hb hby own_d2_0) rfl rfl) ?_
  show own_Go _ _ _ _ (s₁.setTop (mkF m 1 #[.val (.ref a1), .val (.ref a2), .val (.int (0 : Int32)), .val (.int (0 : Int32)), .val .null, .unset] [(.ref a1)]))
  obtain ⟨T1, X1, e1, st1⟩ := initO X0 hx hZ hown (hw _ (List.mem_of_getElem? (i := 12) rfl)) (hw _ (List.mem_of_getElem? (i := 13) rfl)) (hw _ (List.mem_of_getElem? (i := 14) rfl)) e0 (g := (mkF m 1 #[.val (.ref a1), .val (.ref a2), .val (.int (0 : Int32)), .val (.int (0 : Int32)), .val .null, .unset] [(.ref a1)])) rfl (by rw [hml]; rfl) rfl (hb hby own_d2_1) (by decide) (W := 0) (by show 2 * 0 + _ ≤ _; exact Nat.le_of_eq rfl) (by decide)
  refine own_go st1 ?_
  show own_Go _ _ _ _ (T1.setTop (mkF m 4 #[.val (.ref a1), .val (.ref a2), .val (.int (0 : Int32)), .val (.int (0 : Int32)), .val .null, .unset] []))
  refine own_go (fun _ => XS.iloadN X1.here hx rfl (hb hby own_d2_4) rfl) ?_
  show own_Go _ _ _ _ (T1.setTop (mkF m 5 #[.val (.ref a1), .val (.ref a2), .val (.int (0 : Int32)), .val (.int (0 : Int32)), .val .null, .unset] [(.int (0 : Int32))]))
  refine own_go (fun _ => XS.ifNo X1.here hx rfl (hb hby own_d2_5) rfl ((if0 _ _).trans (teq rfl).2)) ?_
  show own_Go _ _ _ _ (T1.setTop (mkF m 8 #[.val (.ref a1), .val (.ref a2), .val (.int (0 : Int32)), .val (.int (0 : Int32)), .val .null, .unset] []))
  refine own_go (fun _ => XS.aloadN X1.here hx rfl (hb hby own_d2_8) rfl rfl) ?_
  show own_Go _ _ _ _ (T1.setTop (mkF m 9 #[.val (.ref a1), .val (.ref a2), .val (.int (0 : Int32)), .val (.int (0 : Int32)), .val .null, .unset] [(.ref a1)]))
  obtain ⟨la2, T2, h2, kc2, lb2, kb2, X2, e2, E2, hS, hsw, hZ', hown', Ex2, Fc2, Fv2, V2, -, -, -, Lt, -, st2⟩ := ldcCH (s := s) (vm0 := s.vm) (EL := consts_1) X1 hx hZ hown (hw _ (List.mem_of_getElem? (i := 117) rfl)) (own_ws hw) e1 (State.WarmedH.since (State.WarmedH.refl s) _) (Nat.le_refl _) (own_ew hw) (List.mem_of_getElem? (i := 3) rfl) H0 (vs := []) (z := 0) ⟨by decide, rfl⟩ (by decide) rfl (g := (mkF m 9 #[.val (.ref a1), .val (.ref a2), .val (.int (0 : Int32)), .val (.int (0 : Int32)), .val .null, .unset] [(.ref a1)])) rfl (hb hby own_d2_9) (n := 0) (by decide) (by decide) (by decide) (by decide)
  refine own_go st2 ?_
  have hZ := hZ'
  have hown := hown'
  replace E1 := E1.ext E2
  replace Fv := Fv.ext E2
  replace Fc := Fc.ext E2
  replace O := O.ext E2
  replace Z0 := Nat.le_trans Z0 E2.1
  replace hs0 := Nat.le_trans hs0 E2.1
  have ne_la2_a1 : la2 ≠ a1 := own_fne Fv2 Fv (by exact nofun)
  have ne_lb2_a1 : lb2 ≠ a1 := Ne.symm (Exa.neArv E1 V2 (hw _ (List.mem_of_getElem? (i := 2) rfl)))
  show own_Go _ _ _ _ (T2.setTop (mkF m 11 #[.val (.ref a1), .val (.ref a2), .val (.int (0 : Int32)), .val (.int (0 : Int32)), .val .null, .unset] [(.ref la2), (.ref a1)]))
  obtain ⟨T3, X3, e3, st3⟩ := getF X2 hx hZ hown (host := "") (Or.inl (hw _ (List.mem_of_getElem? (i := 29) rfl))) Via.refl e2 Fv2 (g := (mkF m 11 #[.val (.ref a1), .val (.ref a2), .val (.int (0 : Int32)), .val (.int (0 : Int32)), .val .null, .unset] [(.ref la2), (.ref a1)])) rfl rfl (hb hby own_d2_11)
  refine own_go st3 ?_
  obtain ⟨T4, h4, X4, e4, W4, st4⟩ := putF X3 hx hZ hown (host := "") (Or.inl (hw _ (List.mem_of_getElem? (i := 29) rfl))) Via.refl e3 Fv E1 (Or.inr ⟨(hw _ (List.mem_of_getElem? (i := 30) rfl)), rfl, hnm⟩) (hw _ (List.mem_of_getElem? (i := 2) rfl)) (ty := (.array .byte)) (by decide) rfl rfl (g := (mkF m 14 #[.val (.ref a1), .val (.ref a2), .val (.int (0 : Int32)), .val (.int (0 : Int32)), .val .null, .unset] [(.ref lb2), (.ref a1)])) rfl rfl (hb hby own_d2_14)
  refine own_go st4 ?_
  have NF4 := Fr.snoc X4 N0 ge_a1
  replace Fv := Fv.same W4
  replace E1 := E1.wr W4
  replace Fc := Fc.other W4 (Or.inr (slot_ne (Or.inr (hw _ (List.mem_of_getElem? (i := 28) rfl))) (Or.inr (hw _ (List.mem_of_getElem? (i := 30) rfl))) (by decide) (t := .byte) (t' := (.array .byte)) (by decide) (by decide)))
  replace O := O.wr W4 ge_a1
  replace Fv2 := Fv2.other W4 (Or.inl ne_la2_a1)
  replace Fc2 := Fc2.other W4 (Or.inl ne_la2_a1)
  replace V2 := V2.other W4 ne_lb2_a1
  replace Z0 := Nat.le_trans Z0 (Keep.of_wr W4).1
  replace hs0 := Nat.le_trans hs0 (Keep.of_wr W4).1
  replace hsw := Nat.le_trans hsw (Keep.of_wr W4).1
  refine own_go (fun _ => XS.aloadN X4.here hx rfl (hb hby own_d2_17) rfl rfl) ?_
  show own_Go _ _ _ _ (T4.setTop (mkF m 18 #[.val (.ref a1), .val (.ref a2), .val (.int (0 : Int32)), .val (.int (0 : Int32)), .val .null, .unset] [(.ref a1)]))
  refine own_go (ldcAgain X4 hx hZ hown (hw _ (List.mem_of_getElem? (i := 117) rfl)) Lt (g := (mkF m 18 #[.val (.ref a1), .val (.ref a2), .val (.int (0 : Int32)), .val (.int (0 : Int32)), .val .null, .unset] [(.ref a1)])) rfl (hb hby own_d2_18)) ?_
  show own_Go _ _ _ _ (T4.setTop (mkF m 20 #[.val (.ref a1), .val (.ref a2), .val (.int (0 : Int32)), .val (.int (0 : Int32)), .val .null, .unset] [(.ref la2), (.ref a1)]))
  obtain ⟨T5, X5, e5, st5⟩ := getF X4 hx hZ hown (host := "") (Or.inl (hw _ (List.mem_of_getElem? (i := 27) rfl))) Via.refl e4 Fc2 (g := (mkF m 20 #[.val (.ref a1), .val (.ref a2), .val (.int (0 : Int32)), .val (.int (0 : Int32)), .val .null, .unset] [(.ref la2), (.ref a1)])) rfl rfl (hb hby own_d2_20)
  refine own_go st5 ?_
  obtain ⟨T6, h6, X6, e6, W6, st6⟩ := putFN X5 hx hZ hown (hw _ (List.mem_of_getElem? (i := 27) rfl)) Via.refl e5 Fc E1 (Or.inr ⟨(hw _ (List.mem_of_getElem? (i := 28) rfl)), rfl, hnm⟩) (hw _ (List.mem_of_getElem? (i := 2) rfl)) (ty := .byte) (v' := (.int (0 : Int32))) (by decide) rfl rfl (g := (mkF m 23 #[.val (.ref a1), .val (.ref a2), .val (.int (0 : Int32)), .val (.int (0 : Int32)), .val .null, .unset] [(.int (0 : Int32)), (.ref a1)])) rfl rfl (hb hby own_d2_23)
  refine own_go st6 ?_
  have NF6 := Fr.snoc X6 NF4 ge_a1
  replace Fc := Fc.same W6
  replace E1 := E1.wr W6
  replace Fv := Fv.other W6 (Or.inr (slot_ne (Or.inr (hw _ (List.mem_of_getElem? (i := 30) rfl))) (Or.inr (hw _ (List.mem_of_getElem? (i := 28) rfl))) (by decide) (t := (.array .byte)) (t' := .byte) (by decide) (by decide)))
  replace O := O.wr W6 ge_a1
  replace Fv2 := Fv2.other W6 (Or.inl ne_la2_a1)
  replace Fc2 := Fc2.other W6 (Or.inl ne_la2_a1)
  replace V2 := V2.other W6 ne_lb2_a1
  replace Z0 := Nat.le_trans Z0 (Keep.of_wr W6).1
  replace hs0 := Nat.le_trans hs0 (Keep.of_wr W6).1
  replace hsw := Nat.le_trans hsw (Keep.of_wr W6).1
  show own_Go _ _ _ _ (T6.setTop (mkF m 26 #[.val (.ref a1), .val (.ref a2), .val (.int (0 : Int32)), .val (.int (0 : Int32)), .val .null, .unset] []))
  refine own_retW X6 hS e6 hsw hlk (v := none) (fun _ => rfl) (fun fs hr => X6.returnOut hx Bd.returns (hb hby own_d2_26) hr) ?_ (by decide) (by decide)
  try rw [e6]
  exact ⟨lb2, kb2, rfl, NF6, O, hs0, E1, Fv, Fc, V2⟩
set_option maxRecDepth 65536 in
set_option maxHeartbeats 40000000 in
theorem own_rmI0 (l : Launch) (Z : State) (a0 : Array Value) (hw : ∀ d ∈ tables_1, d.before a0 Z = true) (a1 : Addr) (a2 : Addr) (kc : ClassId) (h0 : Heap) (n0 : Nat) (Z0 : n0 ≤ h0.size) (E1 : Exa Z h0 a1 "java/lang/String") (Fv : Fld Z h0 a1 "java/lang/String" "value" "[B" .null) (Fc : Fld Z h0 a1 "java/lang/String" "coder" "B" (.int 0)) (Vc : Arv Z h0 a2 kc .char 0 [] (.int 0)) (O : Old Z n0 h0) (ge_a1 : n0 ≤ a1) :
    own_MetH l Z consts_1 [] (⟨"java/lang/String", "<init>", "([C)V"⟩ : MethodName) jdk_42_method_3_code 2 none ({ frames := 2, cells := 2, slots := 4, locals := 29 } : Room) #[(.ref a1), (.ref a2)] h0 (fun v h L => ∃ (b : Addr) (k : ClassId), v = none ∧ Fr n0 L ∧ Old Z n0 h ∧ h0.size ≤ h.size ∧ Exa Z h a1 "java/lang/String" ∧ Fld Z h a1 "java/lang/String" "value" "[B" (.ref b) ∧ Fld Z h a1 "java/lang/String" "coder" "B" (.int 0) ∧ Arv Z h b k .byte 0 [] (.int 0)) := by
  refine MetFree.of_bodySF (plainFor_of_name own_pn1) hisR ?_
  intro p e s m args below meth c s₁ Bd hml0 hP hK
  obtain ⟨rfl, hZ, hh, H0⟩ := hP
  have hx := Bd.exec
  have hby := Bd.bytes
  have hml : c.maxLocals = 2 := hml0
  have hown : s.vm.findClass "java/lang/String" = some m.cls := findClass_of_methodNamed Bd.named
  have hnm := (name_of_methodNamed Bd.named Bd.method).1
  have hlk : meth.locks = false := Bd.notSynchronized
  have X0 : Stand p l e ({ frames := 2, cells := 2, slots := 4, locals := 29 } : Room) s m #[(.ref a1), (.ref a2)] below meth c s₁ [] 0 0 := Stand.of_body Bd
  have e0 : s₁.heap = h0 := by rw [← hh, Bd.state]; rfl
  have N0 := Fr.nil n0
  refine own_bodyW (Q := fun v h L => ∃ (b : Addr) (k : ClassId), v = none ∧ Fr n0 L ∧ Old Z n0 h ∧ h0.size ≤ h.size ∧ Exa Z h a1 "java/lang/String" ∧ Fld Z h a1 "java/lang/String" "value" "[B" (.ref b) ∧ Fld Z h a1 "java/lang/String" "coder" "B" (.int 0) ∧ Arv Z h b k .byte 0 [] (.int 0)) ?_
  refine own_go (fun _ kont => castTop (own_ef m #[(.ref a1), (.ref a2)] 2 #[.val (.ref a1), .val (.ref a2)] (own_al [(.ref a1), (.ref a2)] 2 [.val (.ref a1), .val (.ref a2)] rfl)) kont) ?_
  show own_Go _ _ _ _ (s₁.setTop (mkF m 0 #[.val (.ref a1), .val (.ref a2)] []))
  refine own_go (fun _ => XS.aloadN X0.here hx rfl (hb hby own_d1_0) rfl rfl) ?_
  refine own_go (fun _ => XS.aloadN X0.here hx rfl (hb hby own_d1_1) rfl rfl) ?_
  refine own_go (fun _ => XS.iconst X0.here hx rfl (hb hby own_d1_2)) ?_
  refine own_go (fun _ => XS.aloadN X0.here hx rfl (hb hby own_d1_3) rfl rfl) ?_
  obtain ⟨cl1, Ar1, -, Sz1, Ng1, -, -⟩ := id Vc
  refine own_go (X0.arraylength hx (own_hp e0 Ar1.1) (State.isArrayOf_alike hZ.alike Ar1.2.1) (g := (mkF m 4 #[.val (.ref a1), .val (.ref a2)] [(.ref a2), (.int (0 : Int32)), (.ref a2), (.ref a1)])) rfl rfl (hb hby own_d1_4)) ?_
  rw [len_of Sz1 Ng1]
  show own_Go _ _ _ _ (s₁.setTop (mkF m 5 #[.val (.ref a1), .val (.ref a2)] [(.int (0 : Int32)), (.int (0 : Int32)), (.ref a2), (.ref a1)]))
  refine own_go (fun _ => XS.aconstNull X0.here hx rfl (hb hby own_d1_5)) ?_
  show own_Go _ _ _ _ (s₁.setTop (mkF m 6 #[.val (.ref a1), .val (.ref a2)] [.null, (.int (0 : Int32)), (.int (0 : Int32)), (.ref a2), (.ref a1)]))
  obtain ⟨_, _, ⟨T2, L2, k2, n2⟩, -, X2, hS, -, ⟨Lc2, hQ2, l2, y2, z2⟩, st2⟩ := X0.specialBackS hx (y := (⟨"java/lang/String", "<init>", "([CIILjava/lang/Void;)V"⟩ : MethodName)) rfl hown (mvT hZ (hw _ (List.mem_of_getElem? (i := 8) rfl))) (mvT hZ (hw _ (List.mem_of_getElem? (i := 9) rfl))) (mvT hZ (hw _ (List.mem_of_getElem? (i := 11) rfl))) (by decide) (own_backH (s := s) (vm0 := s.vm) (W := 0) (own_rmJ0 l Z a0 hw a1 a2 kc h0 n0 Z0 E1 Fv Fc Vc O ge_a1) hZ (hw _ (List.mem_of_getElem? (i := 11) rfl)) (hw _ (List.mem_of_getElem? (i := 3) rfl)) (by decide) (by decide) (own_ew hw) H0) (g := (mkF m 6 #[.val (.ref a1), .val (.ref a2)] [.null, (.int (0 : Int32)), (.int (0 : Int32)), (.ref a2), (.ref a1)])) rfl (by rw [hml]; rfl) (Steps.refl _) (a := a1) (argsL := [(.ref a2), (.int (0 : Int32)), (.int (0 : Int32)), .null]) (rest := []) (lenOf own_pd14 rfl) rfl (by show 2 * 0 + _ ≤ _; exact Nat.le_of_eq rfl) (hb hby own_d1_6) (fun _ _ => ⟨rfl, e0, (by decide : 0 + 2 ≤ _), (by decide : 0 + 4 ≤ _)⟩)
  dsimp only [Pt.U, Pt.locs, Pt.cells, Pt.slots] at X2 l2 y2 z2 st2 hQ2 hS
  replace X2 := own_cst X2 l2 y2 z2 (k2 := 2) (n2 := 4) rfl rfl
  clear l2 y2 z2
  obtain ⟨b2, kk2, rfl, Nq2, O2, hs2, E2, Fv2, Fc2, V2⟩ := hQ2
  have NF2 := Fr.app N0 Nq2
  have hown : (s.setVm T2.vm).vm.findClass "java/lang/String" = some m.cls := by
    show T2.vm.findClass _ = _
    rw [hS.1.alike.findClass]; exact hown
  have hZ : Z.Warmed39 (s.setVm T2.vm).vm := State.Warmed39.trans (t := s) hZ hS.1
  have hsw : T2.heap.size ≤ T2.heap.size := Nat.le_refl _
  refine own_goT st2 ?_
  show own_Go _ _ _ _ (T2.setTop (mkF m 9 #[.val (.ref a1), .val (.ref a2)] []))
  refine own_retW X2 hS rfl hsw hlk (v := none) (fun _ => rfl) (fun fs hr => X2.returnOut hx Bd.returns (hb hby own_d1_9) hr) ?_ (by decide) (by decide)
  skip
  exact ⟨b2, kk2, rfl, NF2, O2, hs2, E2, Fv2, Fc2, V2⟩
theorem own_d25_0 : decode jdk_43_method_23_code 0 = .ok (.iload_n 1, 1) := by decide +kernel
theorem own_d25_1 : decode jdk_43_method_23_code 1 = .ok (.i2b, 1) := by decide +kernel
theorem own_d25_2 : decode jdk_43_method_23_code 2 = .ok (.istore 4, 2) := by decide +kernel
theorem own_d25_4 : decode jdk_43_method_23_code 4 = .ok (.iload_n 2, 1) := by decide +kernel
theorem own_d25_5 : decode jdk_43_method_23_code 5 = .ok (.istore 5, 2) := by decide +kernel
theorem own_d25_7 : decode jdk_43_method_23_code 7 = .ok (.iload 5, 2) := by decide +kernel
theorem own_d25_9 : decode jdk_43_method_23_code 9 = .ok (.iload_n 3, 1) := by decide +kernel
theorem own_d25_10 : decode jdk_43_method_23_code 10 = .ok (.if_icmp .ge 21, 3) := by decide +kernel
theorem own_d25_31 : decode jdk_43_method_23_code 31 = .ok (.iconst (-1), 1) := by decide +kernel
theorem own_d25_32 : decode jdk_43_method_23_code 32 = .ok (.ireturn, 1) := by decide +kernel
theorem own_d25_13 : decode jdk_43_method_23_code 13 = .ok (.aload_n 0, 1) := by decide +kernel
theorem own_d25_14 : decode jdk_43_method_23_code 14 = .ok (.iload 5, 2) := by decide +kernel
theorem own_d25_16 : decode jdk_43_method_23_code 16 = .ok (.baload, 1) := by decide +kernel
theorem own_d25_17 : decode jdk_43_method_23_code 17 = .ok (.iload 4, 2) := by decide +kernel
theorem own_d25_19 : decode jdk_43_method_23_code 19 = .ok (.if_icmp .ne 6, 3) := by decide +kernel
theorem own_d25_22 : decode jdk_43_method_23_code 22 = .ok (.iload 5, 2) := by decide +kernel
theorem own_d25_24 : decode jdk_43_method_23_code 24 = .ok (.ireturn, 1) := by decide +kernel
theorem own_d25_25 : decode jdk_43_method_23_code 25 = .ok (.iinc 5 1, 3) := by decide +kernel
theorem own_d25_28 : decode jdk_43_method_23_code 28 = .ok (.goto (-21), 3) := by decide +kernel
set_option maxRecDepth 65536 in
set_option maxHeartbeats 40000000 in
theorem own_rmXA (l : Launch) (Z : State) (a0 : Array Value) (hw : ∀ d ∈ tables_1, d.before a0 Z = true) (b : Addr) (k : ClassId) (ch : Int32) (chb : Int32) (h0 : Heap) (n0 : Nat) (Z0 : n0 ≤ h0.size) (V : Arv Z h0 b k .byte 79 (own_alpha.map Value.int) (.int 0)) (c3 : ch.toInt8.toInt32 = chb) :
    own_Met l Z [] (⟨"java/lang/StringLatin1", "indexOfChar", "([BIII)I"⟩ : MethodName) jdk_43_method_23_code 6 (some .int) ({ frames := 0, cells := 0, slots := 0, locals := 0 } : Room) #[(.ref b), (.int ch), (.int (0 : Int32)), (.int (79 : Int32))] h0 (fun v h L => ∃ r : Int32, v = some (.int r) ∧ Fr n0 L ∧ h = h0 ∧ (r < 0 ↔ ∀ y ∈ own_alpha, ¬ y = chb)) := by
  refine MetFree.of_bodySF (plainFor_of_name own_pn0) hisR ?_
  intro p e s m args below meth c s₁ Bd hml0 hP hK
  obtain ⟨rfl, hZ, hh⟩ := hP
  have hx := Bd.exec
  have hby := Bd.bytes
  have hml : c.maxLocals = 6 := hml0
  have hown : s.vm.findClass "java/lang/StringLatin1" = some m.cls := findClass_of_methodNamed Bd.named
  have hnm := (name_of_methodNamed Bd.named Bd.method).1
  have hlk : meth.locks = false := Bd.notSynchronized
  have X0 : Stand p l e ({ frames := 0, cells := 0, slots := 0, locals := 0 } : Room) s m #[(.ref b), (.int ch), (.int (0 : Int32)), (.int (79 : Int32))] below meth c s₁ [] 0 0 := Stand.of_body Bd
  have e0 : s₁.heap = h0 := by rw [← hh, Bd.state]; rfl
  have N0 := Fr.nil n0
  refine own_body (Q := fun v h L => ∃ r : Int32, v = some (.int r) ∧ Fr n0 L ∧ h = h0 ∧ (r < 0 ↔ ∀ y ∈ own_alpha, ¬ y = chb)) ?_
  refine own_go (fun _ kont => castTop (own_ef m #[(.ref b), (.int ch), (.int (0 : Int32)), (.int (79 : Int32))] 6 #[.val (.ref b), .val (.int ch), .val (.int (0 : Int32)), .val (.int (79 : Int32)), .unset, .unset] (own_al [(.ref b), (.int ch), (.int (0 : Int32)), (.int (79 : Int32))] 6 [.val (.ref b), .val (.int ch), .val (.int (0 : Int32)), .val (.int (79 : Int32)), .unset, .unset] rfl)) kont) ?_
  show own_Go _ _ _ _ (s₁.setTop (mkF m 0 #[.val (.ref b), .val (.int ch), .val (.int (0 : Int32)), .val (.int (79 : Int32)), .unset, .unset] []))
  refine own_go (fun _ => XS.iloadN X0.here hx rfl (hb hby own_d25_0) rfl) ?_
  refine own_go (fun _ => XS.i2b X0.here hx rfl (hb hby own_d25_1) rfl) ?_
  show own_Go _ _ _ _ (s₁.setTop (mkF m 2 #[.val (.ref b), .val (.int ch), .val (.int (0 : Int32)), .val (.int (79 : Int32)), .unset, .unset] [(.int (ch.toInt8.toInt32))]))
  rw [c3]
  show own_Go _ _ _ _ (s₁.setTop (mkF m 2 #[.val (.ref b), .val (.int ch), .val (.int (0 : Int32)), .val (.int (79 : Int32)), .unset, .unset] [(.int chb)]))
  refine own_go (fun _ => XS.istore X0.here hx rfl (hb hby own_d25_2) rfl (l' := #[.val (.ref b), .val (.int ch), .val (.int (0 : Int32)), .val (.int (79 : Int32)), .val (.int chb), .unset]) rfl) ?_
  refine own_go (fun _ => XS.iloadN X0.here hx rfl (hb hby own_d25_4) rfl) ?_
  refine own_go (fun _ => XS.istore X0.here hx rfl (hb hby own_d25_5) rfl (l' := #[.val (.ref b), .val (.int ch), .val (.int (0 : Int32)), .val (.int (79 : Int32)), .val (.int chb), .val (.int (0 : Int32))]) rfl) ?_
  show own_Go _ _ _ _ (s₁.setTop (mkF m 7 #[.val (.ref b), .val (.int ch), .val (.int (0 : Int32)), .val (.int (79 : Int32)), .val (.int chb), .val (.int (0 : Int32))] []))
  have loop : ∀ (q : Nat) (i : Int32) (T : State) (L : List Loc) (X : Stand p l e ({ frames := 0, cells := 0, slots := 0, locals := 0 } : Room) s m #[(.ref b), (.int ch), (.int (0 : Int32)), (.int (79 : Int32))] below meth c T L 0 0) (N : Fr n0 L) (eT : T.heap = h0) (i1 : 0 ≤ i.toInt) (ik : i.toInt + q = 79) (hpre : ∀ j, j < i.toNatClampNeg → ¬ own_alpha.getD j 0 = chb), own_Go p.tables e below (own_End s below (fun v h L => ∃ r : Int32, v = some (.int r) ∧ Fr n0 L ∧ h = h0 ∧ (r < 0 ↔ ∀ y ∈ own_alpha, ¬ y = chb)) ({ frames := 0, cells := 0, slots := 0, locals := 0 } : Room).cells ({ frames := 0, cells := 0, slots := 0, locals := 0 } : Room).slots) (T.setTop (mkF m 7 #[.val (.ref b), .val (.int ch), .val (.int (0 : Int32)), .val (.int (79 : Int32)), .val (.int chb), .val (.int i)] [])) := by
    intro q
    induction q with
    | zero =>
      intro i T L X N eT i1 ik hpre
      show own_Go _ _ _ _ (T.setTop (mkF m 7 #[.val (.ref b), .val (.int ch), .val (.int (0 : Int32)), .val (.int (79 : Int32)), .val (.int chb), .val (.int i)] []))
      refine own_go (fun _ => XS.iload X.here hx rfl (hb hby own_d25_7) rfl) ?_
      refine own_go (fun _ => XS.iloadN X.here hx rfl (hb hby own_d25_9) rfl) ?_
      show own_Go _ _ _ _ (T.setTop (mkF m 10 #[.val (.ref b), .val (.int ch), .val (.int (0 : Int32)), .val (.int (79 : Int32)), .val (.int chb), .val (.int i)] [(.int (79 : Int32)), (.int i)]))
      refine own_go (fun _ => XS.icmpYes X.here hx rfl (pc0 := 10) (pc' := 31) rfl (hb hby own_d25_10) rfl (flt (by have e1 : (79 : Int32).toInt = 79 := rfl; rw [Int32.lt_iff_toInt_lt, e1]; omega)).2.1 (by decide) (by decide)) ?_
      show own_Go _ _ _ _ (T.setTop (mkF m 31 #[.val (.ref b), .val (.int ch), .val (.int (0 : Int32)), .val (.int (79 : Int32)), .val (.int chb), .val (.int i)] []))
      refine own_go (fun _ => XS.iconst X.here hx rfl (hb hby own_d25_31)) ?_
      show own_Go _ _ _ _ (T.setTop (mkF m 32 #[.val (.ref b), .val (.int ch), .val (.int (0 : Int32)), .val (.int (79 : Int32)), .val (.int chb), .val (.int i)] [(.int (-1 : Int32))]))
      refine own_ret X hlk (v := some (.int (-1 : Int32))) (fun h => by rw [Bd.returns] at h; cases h) (fun fs hr => retOut X hx Bd.returns rfl (Or.inl ⟨rfl, Or.inl rfl, _, rfl⟩) (hb hby own_d25_32) hr) ?_ (by decide) (by decide)
      try rw [eT]
      exact ⟨_, rfl, N, rfl, iff_of_true (by decide) (own_amem fun j hj => hpre j (by simp only [Int32.toNatClampNeg]; omega))⟩
    | succ q ih =>
      intro i T L X N eT i1 ik hpre
      show own_Go _ _ _ _ (T.setTop (mkF m 7 #[.val (.ref b), .val (.int ch), .val (.int (0 : Int32)), .val (.int (79 : Int32)), .val (.int chb), .val (.int i)] []))
      refine own_go (fun _ => XS.iload X.here hx rfl (hb hby own_d25_7) rfl) ?_
      refine own_go (fun _ => XS.iloadN X.here hx rfl (hb hby own_d25_9) rfl) ?_
      show own_Go _ _ _ _ (T.setTop (mkF m 10 #[.val (.ref b), .val (.int ch), .val (.int (0 : Int32)), .val (.int (79 : Int32)), .val (.int chb), .val (.int i)] [(.int (79 : Int32)), (.int i)]))
      refine own_go (fun _ => XS.icmpNo X.here hx rfl (hb hby own_d25_10) rfl (tlt (by have e1 : (79 : Int32).toInt = 79 := rfl; rw [Int32.lt_iff_toInt_lt, e1]; omega)).2.1) ?_
      show own_Go _ _ _ _ (T.setTop (mkF m 13 #[.val (.ref b), .val (.int ch), .val (.int (0 : Int32)), .val (.int (79 : Int32)), .val (.int chb), .val (.int i)] []))
      refine own_go (fun _ => XS.aloadN X.here hx rfl (hb hby own_d25_13) rfl rfl) ?_
      refine own_go (fun _ => XS.iload X.here hx rfl (hb hby own_d25_14) rfl) ?_
      show own_Go _ _ _ _ (T.setTop (mkF m 16 #[.val (.ref b), .val (.int ch), .val (.int (0 : Int32)), .val (.int (79 : Int32)), .val (.int chb), .val (.int i)] [(.int i), (.ref b)]))
      obtain ⟨cl1, Ar1, q1, Sz1, Ng1, Hs1, Gs1⟩ := id V
      have hin1 : ¬ (i < 0 ∨ cl1.slots.size ≤ (i).toNatClampNeg) := inb_of Sz1 (own_ain i1 (by omega))
      have hat1 : cl1.slots[(i).toNatClampNeg]? = some (.int (own_alpha.getD i.toNatClampNeg 0)) := Hs1.at hin1 (own_aget i1 (by omega))
      refine own_go (X.baloadBytes hx (j := i) (v := (.int (own_alpha.getD i.toNatClampNeg 0))) (own_hp eT Ar1.1) (State.isArrayOf_alike hZ.alike Ar1.2.1) Ar1.2.2 hin1 hat1 (g := (mkF m 16 #[.val (.ref b), .val (.int ch), .val (.int (0 : Int32)), .val (.int (79 : Int32)), .val (.int chb), .val (.int i)] [(.int i), (.ref b)])) rfl rfl (hb hby own_d25_16)) ?_
      show own_Go _ _ _ _ (T.setTop (mkF m 17 #[.val (.ref b), .val (.int ch), .val (.int (0 : Int32)), .val (.int (79 : Int32)), .val (.int chb), .val (.int i)] [(.int (own_alpha.getD i.toNatClampNeg 0))]))
      refine own_go (fun _ => XS.iload X.here hx rfl (hb hby own_d25_17) rfl) ?_
      show own_Go _ _ _ _ (T.setTop (mkF m 19 #[.val (.ref b), .val (.int ch), .val (.int (0 : Int32)), .val (.int (79 : Int32)), .val (.int chb), .val (.int i)] [(.int chb), (.int (own_alpha.getD i.toNatClampNeg 0))]))
      by_cases hy : (own_alpha.getD i.toNatClampNeg 0) = chb
      · have _h := hy
        refine own_go (fun _ => XS.icmpNo X.here hx rfl (hb hby own_d25_19) rfl (teq hy).2) ?_
        show own_Go _ _ _ _ (T.setTop (mkF m 22 #[.val (.ref b), .val (.int ch), .val (.int (0 : Int32)), .val (.int (79 : Int32)), .val (.int chb), .val (.int i)] []))
        refine own_go (fun _ => XS.iload X.here hx rfl (hb hby own_d25_22) rfl) ?_
        show own_Go _ _ _ _ (T.setTop (mkF m 24 #[.val (.ref b), .val (.int ch), .val (.int (0 : Int32)), .val (.int (79 : Int32)), .val (.int chb), .val (.int i)] [(.int i)]))
        refine own_ret X hlk (v := some (.int i)) (fun h => by rw [Bd.returns] at h; cases h) (fun fs hr => retOut X hx Bd.returns rfl (Or.inl ⟨rfl, Or.inl rfl, _, rfl⟩) (hb hby own_d25_24) hr) ?_ (by decide) (by decide)
        try rw [eT]
        exact ⟨_, rfl, N, rfl, iff_of_false (own_ain i1 (by omega)).1 (own_ahit i1 (by omega) hy)⟩
      · have _h := hy
        refine own_go (fun _ => XS.icmpYes X.here hx rfl (pc0 := 19) (pc' := 25) rfl (hb hby own_d25_19) rfl (feq hy).2 (by decide) (by decide)) ?_
        show own_Go _ _ _ _ (T.setTop (mkF m 25 #[.val (.ref b), .val (.int ch), .val (.int (0 : Int32)), .val (.int (79 : Int32)), .val (.int chb), .val (.int i)] []))
        refine own_go (fun _ => XS.iinc X.here hx rfl (hb hby own_d25_25) rfl (l' := #[.val (.ref b), .val (.int ch), .val (.int (0 : Int32)), .val (.int (79 : Int32)), .val (.int chb), .val (.int (i + (1 : Int32)))]) rfl) ?_
        refine own_go (fun _ => XS.goto X.here hx rfl (pc0 := 28) (pc' := 7) rfl (hb hby own_d25_28) (by decide) (by decide)) ?_
        show own_Go _ _ _ _ (T.setTop (mkF m 7 #[.val (.ref b), .val (.int ch), .val (.int (0 : Int32)), .val (.int (79 : Int32)), .val (.int chb), .val (.int (i + (1 : Int32)))] []))
        exact ih (i + (1 : Int32)) _ _ X N eT (by have := c_iadd i 1; have := rng32 (i + 1); have e1 : (1 : Int32).toInt = 1 := rfl; omega) (by have := c_iadd i 1; have := rng32 (i + 1); have e1 : (1 : Int32).toInt = 1 := rfl; omega) (fun j hj => by
          by_cases q : j = i.toNatClampNeg
          · rw [q]; exact hy
          · exact hpre j (by have := c_iadd i 1; have := rng32 (i + 1); have e1 : (1 : Int32).toInt = 1 := rfl; simp only [Int32.toNatClampNeg] at hj q ⊢; omega))
  exact loop 79 (0 : Int32) _ _ X0 N0 e0 (by decide) (by decide) (fun j hj => absurd hj (Nat.not_lt_zero _))
theorem own_d22_15 : decode jdk_43_method_4_code 15 = .ok (.iconst 0, 1) := by decide +kernel
set_option maxRecDepth 65536 in
set_option maxHeartbeats 40000000 in
theorem own_rmCB (l : Launch) (Z : State) (a0 : Array Value) (hw : ∀ d ∈ tables_1, d.before a0 Z = true) (ch : Int32) (h0 : Heap) (n0 : Nat) (Z0 : n0 ≤ h0.size) (c1 : ¬ ch < (0 : Int32)) (c2 : (255 : Int32) < ch) :
    own_Met l Z [] (⟨"java/lang/StringLatin1", "canEncode", "(I)Z"⟩ : MethodName) jdk_43_method_4_code 1 (some .boolean) ({ frames := 0, cells := 0, slots := 0, locals := 0 } : Room) #[(.int ch)] h0 (fun v h L => v = some (.int 0) ∧ Fr n0 L ∧ h = h0) := by
  refine MetFree.of_bodySF (plainFor_of_name own_pn0) hisR ?_
  intro p e s m args below meth c s₁ Bd hml0 hP hK
  obtain ⟨rfl, hZ, hh⟩ := hP
  have hx := Bd.exec
  have hby := Bd.bytes
  have hml : c.maxLocals = 1 := hml0
  have hown : s.vm.findClass "java/lang/StringLatin1" = some m.cls := findClass_of_methodNamed Bd.named
  have hnm := (name_of_methodNamed Bd.named Bd.method).1
  have hlk : meth.locks = false := Bd.notSynchronized
  have X0 : Stand p l e ({ frames := 0, cells := 0, slots := 0, locals := 0 } : Room) s m #[(.int ch)] below meth c s₁ [] 0 0 := Stand.of_body Bd
  have e0 : s₁.heap = h0 := by rw [← hh, Bd.state]; rfl
  have N0 := Fr.nil n0
  refine own_body (Q := fun v h L => v = some (.int 0) ∧ Fr n0 L ∧ h = h0) ?_
  refine own_go (fun _ kont => castTop (own_ef m #[(.int ch)] 1 #[.val (.int ch)] (own_al [(.int ch)] 1 [.val (.int ch)] rfl)) kont) ?_
  show own_Go _ _ _ _ (s₁.setTop (mkF m 0 #[.val (.int ch)] []))
  refine own_go (fun _ => XS.iloadN X0.here hx rfl (hb hby own_d22_0) rfl) ?_
  show own_Go _ _ _ _ (s₁.setTop (mkF m 1 #[.val (.int ch)] [(.int ch)]))
  refine own_go (fun _ => XS.ifNo X0.here hx rfl (hb hby own_d22_1) rfl ((if0 _ _).trans (flt c1).1)) ?_
  show own_Go _ _ _ _ (s₁.setTop (mkF m 4 #[.val (.int ch)] []))
  refine own_go (fun _ => XS.iloadN X0.here hx rfl (hb hby own_d22_4) rfl) ?_
  refine own_go (fun _ => XS.sipush X0.here hx rfl (hb hby own_d22_5)) ?_
  show own_Go _ _ _ _ (s₁.setTop (mkF m 8 #[.val (.int ch)] [(.int (255 : Int32)), (.int ch)]))
  refine own_go (fun _ => XS.icmpYes X0.here hx rfl (pc0 := 8) (pc' := 15) rfl (hb hby own_d22_8) rfl (tlt c2).2.2.1 (by decide) (by decide)) ?_
  show own_Go _ _ _ _ (s₁.setTop (mkF m 15 #[.val (.int ch)] []))
  refine own_go (fun _ => XS.iconst X0.here hx rfl (hb hby own_d22_15)) ?_
  show own_Go _ _ _ _ (s₁.setTop (mkF m 16 #[.val (.int ch)] [(.int (0 : Int32))]))
  refine own_ret X0 hlk (v := some (.int (0 : Int32))) (fun h => by rw [Bd.returns] at h; cases h) (fun fs hr => retN X0 hx (t := .boolean) Bd.returns (by simp) (hb hby own_d22_16) hr) ?_ (by decide) (by decide)
  try rw [e0]
  exact ⟨rfl, N0, rfl⟩
theorem own_d24_0 : decode jdk_29_method_69_code 0 = .ok (.iload_n 0, 1) := by decide +kernel
theorem own_d24_1 : decode jdk_29_method_69_code 1 = .ok (.iload_n 1, 1) := by decide +kernel
theorem own_d24_2 : decode jdk_29_method_69_code 2 = .ok (.if_icmp .gt 7, 3) := by decide +kernel
theorem own_d24_5 : decode jdk_29_method_69_code 5 = .ok (.iload_n 0, 1) := by decide +kernel
theorem own_d24_6 : decode jdk_29_method_69_code 6 = .ok (.goto 4, 3) := by decide +kernel
theorem own_d24_10 : decode jdk_29_method_69_code 10 = .ok (.ireturn, 1) := by decide +kernel
set_option maxRecDepth 65536 in
set_option maxHeartbeats 40000000 in
theorem own_rmMinA (l : Launch) (Z : State) (a0 : Array Value) (hw : ∀ d ∈ tables_1, d.before a0 Z = true)  (h0 : Heap) (n0 : Nat) (Z0 : n0 ≤ h0.size)  :
    own_Met l Z [] (⟨"java/lang/Math", "min", "(II)I"⟩ : MethodName) jdk_29_method_69_code 2 (some .int) ({ frames := 0, cells := 0, slots := 0, locals := 0 } : Room) #[(.int (79 : Int32)), (.int (79 : Int32))] h0 (fun v h L => v = some (.int 79) ∧ Fr n0 L ∧ h = h0) := by
  refine MetFree.of_bodySF (Jvm.Free.JP.mathPlain rfl (by decide +kernel)) hisR ?_
  intro p e s m args below meth c s₁ Bd hml0 hP hK
  obtain ⟨rfl, hZ, hh⟩ := hP
  have hx := Bd.exec
  have hby := Bd.bytes
  have hml : c.maxLocals = 2 := hml0
  have hown : s.vm.findClass "java/lang/Math" = some m.cls := findClass_of_methodNamed Bd.named
  have hnm := (name_of_methodNamed Bd.named Bd.method).1
  have hlk : meth.locks = false := Bd.notSynchronized
  have X0 : Stand p l e ({ frames := 0, cells := 0, slots := 0, locals := 0 } : Room) s m #[(.int (79 : Int32)), (.int (79 : Int32))] below meth c s₁ [] 0 0 := Stand.of_body Bd
  have e0 : s₁.heap = h0 := by rw [← hh, Bd.state]; rfl
  have N0 := Fr.nil n0
  refine own_body (Q := fun v h L => v = some (.int 79) ∧ Fr n0 L ∧ h = h0) ?_
  refine own_go (fun _ kont => castTop (own_ef m #[(.int (79 : Int32)), (.int (79 : Int32))] 2 #[.val (.int (79 : Int32)), .val (.int (79 : Int32))] (own_al [(.int (79 : Int32)), (.int (79 : Int32))] 2 [.val (.int (79 : Int32)), .val (.int (79 : Int32))] rfl)) kont) ?_
  show own_Go _ _ _ _ (s₁.setTop (mkF m 0 #[.val (.int (79 : Int32)), .val (.int (79 : Int32))] []))
  refine own_go (fun _ => XS.iloadN X0.here hx rfl (hb hby own_d24_0) rfl) ?_
  refine own_go (fun _ => XS.iloadN X0.here hx rfl (hb hby own_d24_1) rfl) ?_
  show own_Go _ _ _ _ (s₁.setTop (mkF m 2 #[.val (.int (79 : Int32)), .val (.int (79 : Int32))] [(.int (79 : Int32)), (.int (79 : Int32))]))
  refine own_go (fun _ => XS.icmpNo X0.here hx rfl (hb hby own_d24_2) rfl (flt (by decide)).2.2.1) ?_
  show own_Go _ _ _ _ (s₁.setTop (mkF m 5 #[.val (.int (79 : Int32)), .val (.int (79 : Int32))] []))
  refine own_go (fun _ => XS.iloadN X0.here hx rfl (hb hby own_d24_5) rfl) ?_
  refine own_go (fun _ => XS.goto X0.here hx rfl (pc0 := 6) (pc' := 10) rfl (hb hby own_d24_6) (by decide) (by decide)) ?_
  show own_Go _ _ _ _ (s₁.setTop (mkF m 10 #[.val (.int (79 : Int32)), .val (.int (79 : Int32))] [(.int (79 : Int32))]))
  refine own_ret X0 hlk (v := some (.int (79 : Int32))) (fun h => by rw [Bd.returns] at h; cases h) (fun fs hr => retOut X0 hx Bd.returns rfl (Or.inl ⟨rfl, Or.inl rfl, _, rfl⟩) (hb hby own_d24_10) hr) ?_ (by decide) (by decide)
  try rw [e0]
  exact ⟨rfl, N0, rfl⟩
theorem own_d21_0 : decode jdk_43_method_22_code 0 = .ok (.iload_n 1, 1) := by decide +kernel
theorem own_d21_1 : decode jdk_43_method_22_code 1 = .ok (.invokestatic 88, 3) := by decide +kernel
theorem own_pd15 : parseMethodDescriptor "(I)Z" = some ⟨[.int], some .boolean⟩ := by decide +kernel
theorem own_d21_4 : decode jdk_43_method_22_code 4 = .ok (.ifCond .ne 5, 3) := by decide +kernel
theorem own_d21_7 : decode jdk_43_method_22_code 7 = .ok (.iconst (-1), 1) := by decide +kernel
theorem own_d21_8 : decode jdk_43_method_22_code 8 = .ok (.ireturn, 1) := by decide +kernel
theorem own_d21_9 : decode jdk_43_method_22_code 9 = .ok (.iload_n 2, 1) := by decide +kernel
theorem own_d21_10 : decode jdk_43_method_22_code 10 = .ok (.iconst 0, 1) := by decide +kernel
theorem own_d21_11 : decode jdk_43_method_22_code 11 = .ok (.invokestatic 92, 3) := by decide +kernel
theorem own_pd16 : parseMethodDescriptor "(II)I" = some ⟨[.int, .int], some .int⟩ := by decide +kernel
theorem own_d21_14 : decode jdk_43_method_22_code 14 = .ok (.istore_n 2, 1) := by decide +kernel
theorem own_d21_15 : decode jdk_43_method_22_code 15 = .ok (.iload_n 3, 1) := by decide +kernel
theorem own_d21_16 : decode jdk_43_method_22_code 16 = .ok (.aload_n 0, 1) := by decide +kernel
theorem own_d21_17 : decode jdk_43_method_22_code 17 = .ok (.arraylength, 1) := by decide +kernel
theorem own_d21_18 : decode jdk_43_method_22_code 18 = .ok (.invokestatic 38, 3) := by decide +kernel
theorem own_d21_21 : decode jdk_43_method_22_code 21 = .ok (.istore_n 3, 1) := by decide +kernel
theorem own_d21_22 : decode jdk_43_method_22_code 22 = .ok (.iload_n 2, 1) := by decide +kernel
theorem own_d21_23 : decode jdk_43_method_22_code 23 = .ok (.iload_n 3, 1) := by decide +kernel
theorem own_d21_24 : decode jdk_43_method_22_code 24 = .ok (.if_icmp .lt 5, 3) := by decide +kernel
theorem own_d21_29 : decode jdk_43_method_22_code 29 = .ok (.aload_n 0, 1) := by decide +kernel
theorem own_d21_30 : decode jdk_43_method_22_code 30 = .ok (.iload_n 1, 1) := by decide +kernel
theorem own_d21_31 : decode jdk_43_method_22_code 31 = .ok (.iload_n 2, 1) := by decide +kernel
theorem own_d21_32 : decode jdk_43_method_22_code 32 = .ok (.iload_n 3, 1) := by decide +kernel
theorem own_d21_33 : decode jdk_43_method_22_code 33 = .ok (.invokestatic 95, 3) := by decide +kernel
theorem own_pd17 : parseMethodDescriptor "([BIII)I" = some ⟨[(.array .byte), .int, .int, .int], some .int⟩ := by decide +kernel
theorem own_d21_36 : decode jdk_43_method_22_code 36 = .ok (.ireturn, 1) := by decide +kernel
set_option maxRecDepth 65536 in
set_option maxHeartbeats 40000000 in
theorem own_rmYA (l : Launch) (Z : State) (a0 : Array Value) (hw : ∀ d ∈ tables_1, d.before a0 Z = true) (b : Addr) (k : ClassId) (ch : Int32) (h0 : Heap) (n0 : Nat) (Z0 : n0 ≤ h0.size) (V : Arv Z h0 b k .byte 79 (own_alpha.map Value.int) (.int 0)) (c1 : ¬ ch < (0 : Int32)) :
    own_Met l Z [] (⟨"java/lang/StringLatin1", "indexOf", "([BIII)I"⟩ : MethodName) jdk_43_method_22_code 4 (some .int) ({ frames := 1, cells := 0, slots := 0, locals := 17 } : Room) #[(.ref b), (.int ch), (.int (0 : Int32)), (.int (79 : Int32))] h0 (fun v h L => ∃ r : Int32, v = some (.int r) ∧ Fr n0 L ∧ h = h0 ∧ (r < 0 ↔ own_okc ch = 0)) := by
  refine MetFree.of_bodySF (plainFor_of_name own_pn0) hisR ?_
  intro p e s m args below meth c s₁ Bd hml0 hP hK
  obtain ⟨rfl, hZ, hh⟩ := hP
  have hx := Bd.exec
  have hby := Bd.bytes
  have hml : c.maxLocals = 4 := hml0
  have hown : s.vm.findClass "java/lang/StringLatin1" = some m.cls := findClass_of_methodNamed Bd.named
  have hnm := (name_of_methodNamed Bd.named Bd.method).1
  have hlk : meth.locks = false := Bd.notSynchronized
  have X0 : Stand p l e ({ frames := 1, cells := 0, slots := 0, locals := 17 } : Room) s m #[(.ref b), (.int ch), (.int (0 : Int32)), (.int (79 : Int32))] below meth c s₁ [] 0 0 := Stand.of_body Bd
  have e0 : s₁.heap = h0 := by rw [← hh, Bd.state]; rfl
  have N0 := Fr.nil n0
  refine own_body (Q := fun v h L => ∃ r : Int32, v = some (.int r) ∧ Fr n0 L ∧ h = h0 ∧ (r < 0 ↔ own_okc ch = 0)) ?_
  refine own_go (fun _ kont => castTop (own_ef m #[(.ref b), (.int ch), (.int (0 : Int32)), (.int (79 : Int32))] 4 #[.val (.ref b), .val (.int ch), .val (.int (0 : Int32)), .val (.int (79 : Int32))] (own_al [(.ref b), (.int ch), (.int (0 : Int32)), (.int (79 : Int32))] 4 [.val (.ref b), .val (.int ch), .val (.int (0 : Int32)), .val (.int (79 : Int32))] rfl)) kont) ?_
  show own_Go _ _ _ _ (s₁.setTop (mkF m 0 #[.val (.ref b), .val (.int ch), .val (.int (0 : Int32)), .val (.int (79 : Int32))] []))
  refine own_go (fun _ => XS.iloadN X0.here hx rfl (hb hby own_d21_0) rfl) ?_
  show own_Go _ _ _ _ (s₁.setTop (mkF m 1 #[.val (.ref b), .val (.int ch), .val (.int (0 : Int32)), .val (.int (79 : Int32))] [(.int ch)]))
  by_cases c2 : (255 : Int32) < ch
  · have _u := trivial
    obtain ⟨_, _, ⟨T1, L1, k1, n1⟩, -, X1, ⟨Lc1, hQ1, l1, y1, z1⟩, st1⟩ := Jvm.LawKit.callS X0 hx (y := (⟨"java/lang/StringLatin1", "canEncode", "(I)Z"⟩ : MethodName)) hown (mvT hZ (hw _ (List.mem_of_getElem? (i := 104) rfl))) (mvT hZ (hw _ (List.mem_of_getElem? (i := 105) rfl))) (mvT hZ (hw _ (List.mem_of_getElem? (i := 55) rfl))) (mvT hZ (hw _ (List.mem_of_getElem? (i := 106) rfl))) (by decide) (own_back (W := 0) (own_rmCB l Z a0 hw ch h0 n0 Z0 c1 c2) hZ (hw _ (List.mem_of_getElem? (i := 106) rfl)) (hw _ (List.mem_of_getElem? (i := 55) rfl)) (by decide) (by decide)) (g := (mkF m 1 #[.val (.ref b), .val (.int ch), .val (.int (0 : Int32)), .val (.int (79 : Int32))] [(.int ch)])) rfl (by rw [hml]; rfl) (argsL := [(.int ch)]) (rest := []) (lenOf own_pd15 rfl) rfl (by show 2 * 0 + _ ≤ _; exact Nat.le_of_eq rfl) (hb hby own_d21_1) (fun _ _ => ⟨rfl, e0, (by decide : 0 + 0 ≤ _), (by decide : 0 + 0 ≤ _)⟩)
    dsimp only [Pt.U, Pt.locs, Pt.cells, Pt.slots] at X1 l1 y1 z1 st1 hQ1
    replace X1 := own_cst X1 l1 y1 z1 (k2 := 0) (n2 := 0) rfl rfl
    clear l1 y1 z1
    obtain ⟨rfl, Nq1, eq1⟩ := hQ1
    have NF1 := Fr.app N0 Nq1
    refine own_go st1 ?_
    show own_Go _ _ _ _ (T1.setTop (mkF m 4 #[.val (.ref b), .val (.int ch), .val (.int (0 : Int32)), .val (.int (79 : Int32))] [(.int (0 : Int32))]))
    refine own_go (fun _ => XS.ifNo X1.here hx rfl (hb hby own_d21_4) rfl ((if0 _ _).trans (teq rfl).2)) ?_
    show own_Go _ _ _ _ (T1.setTop (mkF m 7 #[.val (.ref b), .val (.int ch), .val (.int (0 : Int32)), .val (.int (79 : Int32))] []))
    refine own_go (fun _ => XS.iconst X1.here hx rfl (hb hby own_d21_7)) ?_
    show own_Go _ _ _ _ (T1.setTop (mkF m 8 #[.val (.ref b), .val (.int ch), .val (.int (0 : Int32)), .val (.int (79 : Int32))] [(.int (-1 : Int32))]))
    refine own_ret X1 hlk (v := some (.int (-1 : Int32))) (fun h => by rw [Bd.returns] at h; cases h) (fun fs hr => retOut X1 hx Bd.returns rfl (Or.inl ⟨rfl, Or.inl rfl, _, rfl⟩) (hb hby own_d21_8) hr) ?_ (by decide) (by decide)
    try rw [eq1]
    exact ⟨_, rfl, NF1, rfl, iff_of_true (by decide) (own_big c2)⟩
  · have _u := trivial
    obtain ⟨_, _, ⟨T2, L2, k2, n2⟩, -, X2, ⟨Lc2, hQ2, l2, y2, z2⟩, st2⟩ := Jvm.LawKit.callS X0 hx (y := (⟨"java/lang/StringLatin1", "canEncode", "(I)Z"⟩ : MethodName)) hown (mvT hZ (hw _ (List.mem_of_getElem? (i := 104) rfl))) (mvT hZ (hw _ (List.mem_of_getElem? (i := 105) rfl))) (mvT hZ (hw _ (List.mem_of_getElem? (i := 55) rfl))) (mvT hZ (hw _ (List.mem_of_getElem? (i := 106) rfl))) (by decide) (own_back (W := 0) (own_rmCE l Z a0 hw ch h0 n0 Z0 c1 c2) hZ (hw _ (List.mem_of_getElem? (i := 106) rfl)) (hw _ (List.mem_of_getElem? (i := 55) rfl)) (by decide) (by decide)) (g := (mkF m 1 #[.val (.ref b), .val (.int ch), .val (.int (0 : Int32)), .val (.int (79 : Int32))] [(.int ch)])) rfl (by rw [hml]; rfl) (argsL := [(.int ch)]) (rest := []) (lenOf own_pd15 rfl) rfl (by show 2 * 0 + _ ≤ _; exact Nat.le_of_eq rfl) (hb hby own_d21_1) (fun _ _ => ⟨rfl, e0, (by decide : 0 + 0 ≤ _), (by decide : 0 + 0 ≤ _)⟩)
    dsimp only [Pt.U, Pt.locs, Pt.cells, Pt.slots] at X2 l2 y2 z2 st2 hQ2
    replace X2 := own_cst X2 l2 y2 z2 (k2 := 0) (n2 := 0) rfl rfl
    clear l2 y2 z2
    obtain ⟨rfl, Nq2, eq2⟩ := hQ2
    have NF2 := Fr.app N0 Nq2
    refine own_go st2 ?_
    show own_Go _ _ _ _ (T2.setTop (mkF m 4 #[.val (.ref b), .val (.int ch), .val (.int (0 : Int32)), .val (.int (79 : Int32))] [(.int (1 : Int32))]))
    refine own_go (fun _ => XS.ifYes X2.here hx rfl (pc0 := 4) (pc' := 9) rfl (hb hby own_d21_4) rfl ((if0 _ _).trans (feq (by decide)).2) (by decide) (by decide)) ?_
    show own_Go _ _ _ _ (T2.setTop (mkF m 9 #[.val (.ref b), .val (.int ch), .val (.int (0 : Int32)), .val (.int (79 : Int32))] []))
    refine own_go (fun _ => XS.iloadN X2.here hx rfl (hb hby own_d21_9) rfl) ?_
    refine own_go (fun _ => XS.iconst X2.here hx rfl (hb hby own_d21_10)) ?_
    show own_Go _ _ _ _ (T2.setTop (mkF m 11 #[.val (.ref b), .val (.int ch), .val (.int (0 : Int32)), .val (.int (79 : Int32))] [(.int (0 : Int32)), (.int (0 : Int32))]))
    obtain ⟨_, _, ⟨T3, L3, k3, n3⟩, -, X3, ⟨Lc3, hQ3, l3, y3, z3⟩, st3⟩ := Jvm.LawKit.callS X2 hx (y := (⟨"java/lang/Math", "max", "(II)I"⟩ : MethodName)) hown (mvT hZ (hw _ (List.mem_of_getElem? (i := 107) rfl))) (mvT hZ (hw _ (List.mem_of_getElem? (i := 108) rfl))) (mvT hZ (hw _ (List.mem_of_getElem? (i := 109) rfl))) (mvT hZ (hw _ (List.mem_of_getElem? (i := 110) rfl))) (by decide) (own_back (W := 0) (own_rmMax l Z a0 hw h0 n0 Z0) hZ (hw _ (List.mem_of_getElem? (i := 110) rfl)) (hw _ (List.mem_of_getElem? (i := 109) rfl)) (by decide) (by decide)) (g := (mkF m 11 #[.val (.ref b), .val (.int ch), .val (.int (0 : Int32)), .val (.int (79 : Int32))] [(.int (0 : Int32)), (.int (0 : Int32))])) rfl (by rw [hml]; rfl) (argsL := [(.int (0 : Int32)), (.int (0 : Int32))]) (rest := []) (lenOf own_pd16 rfl) rfl (by show 2 * 0 + _ ≤ _; exact Nat.le_of_eq rfl) (hb hby own_d21_11) (fun _ _ => ⟨rfl, eq2, (by decide : 0 + 0 ≤ _), (by decide : 0 + 0 ≤ _)⟩)
    dsimp only [Pt.U, Pt.locs, Pt.cells, Pt.slots] at X3 l3 y3 z3 st3 hQ3
    replace X3 := own_cst X3 l3 y3 z3 (k2 := 0) (n2 := 0) rfl rfl
    clear l3 y3 z3
    obtain ⟨rfl, Nq3, eq3⟩ := hQ3
    have NF3 := Fr.app NF2 Nq3
    refine own_go st3 ?_
    show own_Go _ _ _ _ (T3.setTop (mkF m 14 #[.val (.ref b), .val (.int ch), .val (.int (0 : Int32)), .val (.int (79 : Int32))] [(.int (0 : Int32))]))
    refine own_go (fun _ => XS.istoreN X3.here hx rfl (hb hby own_d21_14) rfl (l' := #[.val (.ref b), .val (.int ch), .val (.int (0 : Int32)), .val (.int (79 : Int32))]) rfl) ?_
    refine own_go (fun _ => XS.iloadN X3.here hx rfl (hb hby own_d21_15) rfl) ?_
    refine own_go (fun _ => XS.aloadN X3.here hx rfl (hb hby own_d21_16) rfl rfl) ?_
    obtain ⟨cl4, Ar4, -, Sz4, Ng4, -, -⟩ := id V
    refine own_go (X3.arraylength hx (own_hp eq3 Ar4.1) (State.isArrayOf_alike hZ.alike Ar4.2.1) (g := (mkF m 17 #[.val (.ref b), .val (.int ch), .val (.int (0 : Int32)), .val (.int (79 : Int32))] [(.ref b), (.int (79 : Int32))])) rfl rfl (hb hby own_d21_17)) ?_
    rw [len_of Sz4 Ng4]
    show own_Go _ _ _ _ (T3.setTop (mkF m 18 #[.val (.ref b), .val (.int ch), .val (.int (0 : Int32)), .val (.int (79 : Int32))] [(.int (79 : Int32)), (.int (79 : Int32))]))
    obtain ⟨_, _, ⟨T5, L5, k5, n5⟩, -, X5, ⟨Lc5, hQ5, l5, y5, z5⟩, st5⟩ := Jvm.LawKit.callS X3 hx (y := (⟨"java/lang/Math", "min", "(II)I"⟩ : MethodName)) hown (mvT hZ (hw _ (List.mem_of_getElem? (i := 111) rfl))) (mvT hZ (hw _ (List.mem_of_getElem? (i := 112) rfl))) (mvT hZ (hw _ (List.mem_of_getElem? (i := 109) rfl))) (mvT hZ (hw _ (List.mem_of_getElem? (i := 113) rfl))) (by decide) (own_back (W := 0) (own_rmMinA l Z a0 hw h0 n0 Z0) hZ (hw _ (List.mem_of_getElem? (i := 113) rfl)) (hw _ (List.mem_of_getElem? (i := 109) rfl)) (by decide) (by decide)) (g := (mkF m 18 #[.val (.ref b), .val (.int ch), .val (.int (0 : Int32)), .val (.int (79 : Int32))] [(.int (79 : Int32)), (.int (79 : Int32))])) rfl (by rw [hml]; rfl) (argsL := [(.int (79 : Int32)), (.int (79 : Int32))]) (rest := []) (lenOf own_pd16 rfl) rfl (by show 2 * 0 + _ ≤ _; exact Nat.le_of_eq rfl) (hb hby own_d21_18) (fun _ _ => ⟨rfl, eq3, (by decide : 0 + 0 ≤ _), (by decide : 0 + 0 ≤ _)⟩)
    dsimp only [Pt.U, Pt.locs, Pt.cells, Pt.slots] at X5 l5 y5 z5 st5 hQ5
    replace X5 := own_cst X5 l5 y5 z5 (k2 := 0) (n2 := 0) rfl rfl
    clear l5 y5 z5
    obtain ⟨rfl, Nq5, eq5⟩ := hQ5
    have NF5 := Fr.app NF3 Nq5
    refine own_go st5 ?_
    show own_Go _ _ _ _ (T5.setTop (mkF m 21 #[.val (.ref b), .val (.int ch), .val (.int (0 : Int32)), .val (.int (79 : Int32))] [(.int (79 : Int32))]))
    refine own_go (fun _ => XS.istoreN X5.here hx rfl (hb hby own_d21_21) rfl (l' := #[.val (.ref b), .val (.int ch), .val (.int (0 : Int32)), .val (.int (79 : Int32))]) rfl) ?_
    refine own_go (fun _ => XS.iloadN X5.here hx rfl (hb hby own_d21_22) rfl) ?_
    refine own_go (fun _ => XS.iloadN X5.here hx rfl (hb hby own_d21_23) rfl) ?_
    show own_Go _ _ _ _ (T5.setTop (mkF m 24 #[.val (.ref b), .val (.int ch), .val (.int (0 : Int32)), .val (.int (79 : Int32))] [(.int (79 : Int32)), (.int (0 : Int32))]))
    refine own_go (fun _ => XS.icmpYes X5.here hx rfl (pc0 := 24) (pc' := 29) rfl (hb hby own_d21_24) rfl (tlt (by decide)).1 (by decide) (by decide)) ?_
    show own_Go _ _ _ _ (T5.setTop (mkF m 29 #[.val (.ref b), .val (.int ch), .val (.int (0 : Int32)), .val (.int (79 : Int32))] []))
    refine own_go (fun _ => XS.aloadN X5.here hx rfl (hb hby own_d21_29) rfl rfl) ?_
    refine own_go (fun _ => XS.iloadN X5.here hx rfl (hb hby own_d21_30) rfl) ?_
    refine own_go (fun _ => XS.iloadN X5.here hx rfl (hb hby own_d21_31) rfl) ?_
    refine own_go (fun _ => XS.iloadN X5.here hx rfl (hb hby own_d21_32) rfl) ?_
    show own_Go _ _ _ _ (T5.setTop (mkF m 33 #[.val (.ref b), .val (.int ch), .val (.int (0 : Int32)), .val (.int (79 : Int32))] [(.int (79 : Int32)), (.int (0 : Int32)), (.int ch), (.ref b)]))
    obtain ⟨_, _, ⟨T6, L6, k6, n6⟩, -, X6, ⟨Lc6, hQ6, l6, y6, z6⟩, st6⟩ := Jvm.LawKit.callS X5 hx (y := (⟨"java/lang/StringLatin1", "indexOfChar", "([BIII)I"⟩ : MethodName)) hown (mvT hZ (hw _ (List.mem_of_getElem? (i := 114) rfl))) (mvT hZ (hw _ (List.mem_of_getElem? (i := 115) rfl))) (mvT hZ (hw _ (List.mem_of_getElem? (i := 55) rfl))) (mvT hZ (hw _ (List.mem_of_getElem? (i := 116) rfl))) (by decide) (own_back (W := 0) (own_rmXA l Z a0 hw b k ch _ h0 n0 Z0 V rfl) hZ (hw _ (List.mem_of_getElem? (i := 116) rfl)) (hw _ (List.mem_of_getElem? (i := 55) rfl)) (by decide) (by decide)) (g := (mkF m 33 #[.val (.ref b), .val (.int ch), .val (.int (0 : Int32)), .val (.int (79 : Int32))] [(.int (79 : Int32)), (.int (0 : Int32)), (.int ch), (.ref b)])) rfl (by rw [hml]; rfl) (argsL := [(.ref b), (.int ch), (.int (0 : Int32)), (.int (79 : Int32))]) (rest := []) (lenOf own_pd17 rfl) rfl (by show 2 * 0 + _ ≤ _; exact Nat.le_of_eq rfl) (hb hby own_d21_33) (fun _ _ => ⟨rfl, eq5, (by decide : 0 + 0 ≤ _), (by decide : 0 + 0 ≤ _)⟩)
    dsimp only [Pt.U, Pt.locs, Pt.cells, Pt.slots] at X6 l6 y6 z6 st6 hQ6
    replace X6 := own_cst X6 l6 y6 z6 (k2 := 0) (n2 := 0) rfl rfl
    clear l6 y6 z6
    obtain ⟨r6, rfl, Nq6, eq6, hr6⟩ := hQ6
    have NF6 := Fr.app NF5 Nq6
    refine own_go st6 ?_
    show own_Go _ _ _ _ (T6.setTop (mkF m 36 #[.val (.ref b), .val (.int ch), .val (.int (0 : Int32)), .val (.int (79 : Int32))] [(.int r6)]))
    refine own_ret X6 hlk (v := some (.int r6)) (fun h => by rw [Bd.returns] at h; cases h) (fun fs hr => retOut X6 hx Bd.returns rfl (Or.inl ⟨rfl, Or.inl rfl, _, rfl⟩) (hb hby own_d21_36) hr) ?_ (by decide) (by decide)
    try rw [eq6]
    exact ⟨_, rfl, NF6, rfl, hr6.trans (own_lat256 c1 c2)⟩
theorem own_d20_0 : decode jdk_42_method_80_code 0 = .ok (.aload_n 0, 1) := by decide +kernel
theorem own_d20_1 : decode jdk_42_method_80_code 1 = .ok (.invokevirtual 492, 3) := by decide +kernel
theorem own_d20_4 : decode jdk_42_method_80_code 4 = .ok (.ifCond .eq 19, 3) := by decide +kernel
theorem own_d20_7 : decode jdk_42_method_80_code 7 = .ok (.aload_n 0, 1) := by decide +kernel
theorem own_d20_8 : decode jdk_42_method_80_code 8 = .ok (.getfield 9, 3) := by decide +kernel
theorem own_d20_11 : decode jdk_42_method_80_code 11 = .ok (.iload_n 1, 1) := by decide +kernel
theorem own_d20_12 : decode jdk_42_method_80_code 12 = .ok (.iload_n 2, 1) := by decide +kernel
theorem own_d20_13 : decode jdk_42_method_80_code 13 = .ok (.aload_n 0, 1) := by decide +kernel
theorem own_d20_14 : decode jdk_42_method_80_code 14 = .ok (.invokevirtual 505, 3) := by decide +kernel
theorem own_pd18 : parseMethodDescriptor "()I" = some ⟨[], some .int⟩ := by decide +kernel
theorem own_d20_17 : decode jdk_42_method_80_code 17 = .ok (.invokestatic 637, 3) := by decide +kernel
theorem own_d20_20 : decode jdk_42_method_80_code 20 = .ok (.goto 16, 3) := by decide +kernel
theorem own_d20_36 : decode jdk_42_method_80_code 36 = .ok (.ireturn, 1) := by decide +kernel
set_option maxRecDepth 65536 in
set_option maxHeartbeats 40000000 in
theorem own_rmZA (l : Launch) (Z : State) (a0 : Array Value) (hw : ∀ d ∈ tables_1, d.before a0 Z = true) (a1 : Addr) (b : Addr) (k : ClassId) (cs : Int32) (ch : Int32) (h0 : Heap) (n0 : Nat) (Z0 : n0 ≤ h0.size) (E1 : Exa Z h0 a1 "java/lang/String") (Fv : Fld Z h0 a1 "java/lang/String" "value" "[B" (.ref b)) (Fc : Fld Z h0 a1 "java/lang/String" "coder" "B" (.int 0)) (V : Arv Z h0 b k .byte 79 (own_alpha.map Value.int) (.int 0)) (O : Old Z n0 h0) (S_C : Sta Z Z.heap "java/lang/String" "COMPACT_STRINGS" "Z" (.int cs)) (hcs : ¬ cs = (0 : Int32)) (c1 : ¬ ch < (0 : Int32)) :
    own_Met l Z [] (⟨"java/lang/String", "indexOf", "(II)I"⟩ : MethodName) jdk_42_method_80_code 3 (some .int) ({ frames := 2, cells := 0, slots := 0, locals := 32 } : Room) #[(.ref a1), (.int ch), (.int (0 : Int32))] h0 (fun v h L => ∃ r : Int32, v = some (.int r) ∧ Fr n0 L ∧ h = h0 ∧ (r < 0 ↔ own_okc ch = 0)) := by
  refine MetFree.of_bodySF (plainFor_of_name own_pn1) hisR ?_
  intro p e s m args below meth c s₁ Bd hml0 hP hK
  obtain ⟨rfl, hZ, hh⟩ := hP
  have hx := Bd.exec
  have hby := Bd.bytes
  have hml : c.maxLocals = 3 := hml0
  have hown : s.vm.findClass "java/lang/String" = some m.cls := findClass_of_methodNamed Bd.named
  have hnm := (name_of_methodNamed Bd.named Bd.method).1
  have hlk : meth.locks = false := Bd.notSynchronized
  have X0 : Stand p l e ({ frames := 2, cells := 0, slots := 0, locals := 32 } : Room) s m #[(.ref a1), (.int ch), (.int (0 : Int32))] below meth c s₁ [] 0 0 := Stand.of_body Bd
  have e0 : s₁.heap = h0 := by rw [← hh, Bd.state]; rfl
  have N0 := Fr.nil n0
  refine own_body (Q := fun v h L => ∃ r : Int32, v = some (.int r) ∧ Fr n0 L ∧ h = h0 ∧ (r < 0 ↔ own_okc ch = 0)) ?_
  refine own_go (fun _ kont => castTop (own_ef m #[(.ref a1), (.int ch), (.int (0 : Int32))] 3 #[.val (.ref a1), .val (.int ch), .val (.int (0 : Int32))] (own_al [(.ref a1), (.int ch), (.int (0 : Int32))] 3 [.val (.ref a1), .val (.int ch), .val (.int (0 : Int32))] rfl)) kont) ?_
  show own_Go _ _ _ _ (s₁.setTop (mkF m 0 #[.val (.ref a1), .val (.int ch), .val (.int (0 : Int32))] []))
  refine own_go (fun _ => XS.aloadN X0.here hx rfl (hb hby own_d20_0) rfl rfl) ?_
  show own_Go _ _ _ _ (s₁.setTop (mkF m 1 #[.val (.ref a1), .val (.int ch), .val (.int (0 : Int32))] [(.ref a1)]))
  obtain ⟨cq1, kq1, q1a, q1b, q1c⟩ := isOf hZ e0 E1
  obtain ⟨_, _, ⟨T1, L1, k1, n1⟩, -, X1, ⟨Lc1, hQ1, l1, y1, z1⟩, st1⟩ := X0.virtualBack hx (y := (⟨"java/lang/String", "isLatin1", "()Z"⟩ : MethodName)) (z := (⟨"java/lang/String", "isLatin1", "()Z"⟩ : MethodName)) hown (mvT hZ (hw _ (List.mem_of_getElem? (i := 74) rfl))) (mvT hZ (hw _ (List.mem_of_getElem? (i := 75) rfl))) (notFace_of_selects (args := #[]) (mvT hZ (hw _ (List.mem_of_getElem? (i := 77) rfl)))) (mvT hZ (hw _ (List.mem_of_getElem? (i := 77) rfl))) (mvT hZ (hw _ (List.mem_of_getElem? (i := 76) rfl))) (by decide) (own_back (W := 0) (own_rmil0 l Z a0 hw a1 cs h0 n0 Z0 Fc O S_C hcs) hZ (hw _ (List.mem_of_getElem? (i := 78) rfl)) (hw _ (List.mem_of_getElem? (i := 3) rfl)) (by decide) (by decide)) q1a q1c (g := (mkF m 1 #[.val (.ref a1), .val (.int ch), .val (.int (0 : Int32))] [(.ref a1)])) rfl (by rw [hml]; rfl) (Steps.refl _) (argsL := []) (rest := []) (lenOf own_pd3 rfl) rfl (by show 2 * 0 + _ ≤ _; exact Nat.le_of_eq rfl) (hb hby own_d20_1) (fun _ _ => ⟨rfl, e0, (by decide : 0 + 0 ≤ _), (by decide : 0 + 0 ≤ _)⟩)
  dsimp only [Pt.U, Pt.locs, Pt.cells, Pt.slots] at X1 l1 y1 z1 st1 hQ1
  replace X1 := own_cst X1 l1 y1 z1 (k2 := 0) (n2 := 0) rfl rfl
  clear l1 y1 z1
  obtain ⟨rfl, Nq1, eq1⟩ := hQ1
  have NF1 := Fr.app N0 Nq1
  refine own_goT st1 ?_
  show own_Go _ _ _ _ (T1.setTop (mkF m 4 #[.val (.ref a1), .val (.int ch), .val (.int (0 : Int32))] [(.int (1 : Int32))]))
  refine own_go (fun _ => XS.ifNo X1.here hx rfl (hb hby own_d20_4) rfl ((if0 _ _).trans (feq (by decide)).1)) ?_
  show own_Go _ _ _ _ (T1.setTop (mkF m 7 #[.val (.ref a1), .val (.int ch), .val (.int (0 : Int32))] []))
  refine own_go (fun _ => XS.aloadN X1.here hx rfl (hb hby own_d20_7) rfl rfl) ?_
  obtain ⟨T2, X2, e2, st2⟩ := getF X1 hx hZ hown (host := "") (Or.inl (hw _ (List.mem_of_getElem? (i := 29) rfl))) Via.refl eq1 Fv (g := (mkF m 8 #[.val (.ref a1), .val (.int ch), .val (.int (0 : Int32))] [(.ref a1)])) rfl rfl (hb hby own_d20_8)
  refine own_go st2 ?_
  refine own_go (fun _ => XS.iloadN X2.here hx rfl (hb hby own_d20_11) rfl) ?_
  refine own_go (fun _ => XS.iloadN X2.here hx rfl (hb hby own_d20_12) rfl) ?_
  refine own_go (fun _ => XS.aloadN X2.here hx rfl (hb hby own_d20_13) rfl rfl) ?_
  show own_Go _ _ _ _ (T2.setTop (mkF m 14 #[.val (.ref a1), .val (.int ch), .val (.int (0 : Int32))] [(.ref a1), (.int (0 : Int32)), (.int ch), (.ref b)]))
  obtain ⟨cq3, kq3, q3a, q3b, q3c⟩ := isOf hZ e2 E1
  obtain ⟨_, _, ⟨T3, L3, k3, n3⟩, -, X3, ⟨Lc3, hQ3, l3, y3, z3⟩, st3⟩ := X2.virtualBack hx (y := (⟨"java/lang/String", "length", "()I"⟩ : MethodName)) (z := (⟨"java/lang/String", "length", "()I"⟩ : MethodName)) hown (mvT hZ (hw _ (List.mem_of_getElem? (i := 100) rfl))) (mvT hZ (hw _ (List.mem_of_getElem? (i := 59) rfl))) (notFace_of_selects (args := #[]) (mvT hZ (hw _ (List.mem_of_getElem? (i := 61) rfl)))) (mvT hZ (hw _ (List.mem_of_getElem? (i := 61) rfl))) (mvT hZ (hw _ (List.mem_of_getElem? (i := 60) rfl))) (by decide) (own_back (W := 3) (own_rmln0 l Z a0 hw a1 b k cs 79 79 _ h0 n0 Z0 E1 Fv Fc V O S_C hcs (by decide)) hZ (hw _ (List.mem_of_getElem? (i := 62) rfl)) (hw _ (List.mem_of_getElem? (i := 3) rfl)) (by decide) (by decide)) q3a q3c (g := (mkF m 14 #[.val (.ref a1), .val (.int ch), .val (.int (0 : Int32))] [(.ref a1), (.int (0 : Int32)), (.int ch), (.ref b)])) rfl (by rw [hml]; rfl) (Steps.refl _) (argsL := []) (rest := [(.int (0 : Int32)), (.int ch), (.ref b)]) (lenOf own_pd18 rfl) rfl (by show 2 * 0 + _ ≤ _; exact Nat.le_of_eq rfl) (hb hby own_d20_14) (fun _ _ => ⟨rfl, e2, (by decide : 0 + 0 ≤ _), (by decide : 0 + 0 ≤ _)⟩)
  dsimp only [Pt.U, Pt.locs, Pt.cells, Pt.slots] at X3 l3 y3 z3 st3 hQ3
  replace X3 := own_cst X3 l3 y3 z3 (k2 := 0) (n2 := 0) rfl rfl
  clear l3 y3 z3
  obtain ⟨rfl, Nq3, eq3⟩ := hQ3
  have NF3 := Fr.app NF1 Nq3
  refine own_goT st3 ?_
  show own_Go _ _ _ _ (T3.setTop (mkF m 17 #[.val (.ref a1), .val (.int ch), .val (.int (0 : Int32))] [(.int (79 : Int32)), (.int (0 : Int32)), (.int ch), (.ref b)]))
  obtain ⟨_, _, ⟨T4, L4, k4, n4⟩, -, X4, ⟨Lc4, hQ4, l4, y4, z4⟩, st4⟩ := Jvm.LawKit.callS X3 hx (y := (⟨"java/lang/StringLatin1", "indexOf", "([BIII)I"⟩ : MethodName)) hown (mvT hZ (hw _ (List.mem_of_getElem? (i := 101) rfl))) (mvT hZ (hw _ (List.mem_of_getElem? (i := 102) rfl))) (mvT hZ (hw _ (List.mem_of_getElem? (i := 55) rfl))) (mvT hZ (hw _ (List.mem_of_getElem? (i := 103) rfl))) (by decide) (own_back (W := 0) (own_rmYA l Z a0 hw b k ch h0 n0 Z0 V c1) hZ (hw _ (List.mem_of_getElem? (i := 103) rfl)) (hw _ (List.mem_of_getElem? (i := 55) rfl)) (by decide) (by decide)) (g := (mkF m 17 #[.val (.ref a1), .val (.int ch), .val (.int (0 : Int32))] [(.int (79 : Int32)), (.int (0 : Int32)), (.int ch), (.ref b)])) rfl (by rw [hml]; rfl) (argsL := [(.ref b), (.int ch), (.int (0 : Int32)), (.int (79 : Int32))]) (rest := []) (lenOf own_pd17 rfl) rfl (by show 2 * 0 + _ ≤ _; exact Nat.le_of_eq rfl) (hb hby own_d20_17) (fun _ _ => ⟨rfl, eq3, (by decide : 0 + 0 ≤ _), (by decide : 0 + 0 ≤ _)⟩)
  dsimp only [Pt.U, Pt.locs, Pt.cells, Pt.slots] at X4 l4 y4 z4 st4 hQ4
  replace X4 := own_cst X4 l4 y4 z4 (k2 := 0) (n2 := 0) rfl rfl
  clear l4 y4 z4
  obtain ⟨r4, rfl, Nq4, eq4, hr4⟩ := hQ4
  have NF4 := Fr.app NF3 Nq4
  refine own_go st4 ?_
  show own_Go _ _ _ _ (T4.setTop (mkF m 20 #[.val (.ref a1), .val (.int ch), .val (.int (0 : Int32))] [(.int r4)]))
  refine own_go (fun _ => XS.goto X4.here hx rfl (pc0 := 20) (pc' := 36) rfl (hb hby own_d20_20) (by decide) (by decide)) ?_
  show own_Go _ _ _ _ (T4.setTop (mkF m 36 #[.val (.ref a1), .val (.int ch), .val (.int (0 : Int32))] [(.int r4)]))
  refine own_ret X4 hlk (v := some (.int r4)) (fun h => by rw [Bd.returns] at h; cases h) (fun fs hr => retOut X4 hx Bd.returns rfl (Or.inl ⟨rfl, Or.inl rfl, _, rfl⟩) (hb hby own_d20_36) hr) ?_ (by decide) (by decide)
  try rw [eq4]
  exact ⟨_, rfl, NF4, rfl, hr4⟩
theorem own_d19_0 : decode jdk_42_method_79_code 0 = .ok (.aload_n 0, 1) := by decide +kernel
theorem own_d19_1 : decode jdk_42_method_79_code 1 = .ok (.iload_n 1, 1) := by decide +kernel
theorem own_d19_2 : decode jdk_42_method_79_code 2 = .ok (.iconst 0, 1) := by decide +kernel
theorem own_d19_3 : decode jdk_42_method_79_code 3 = .ok (.invokevirtual 633, 3) := by decide +kernel
theorem own_d19_6 : decode jdk_42_method_79_code 6 = .ok (.ireturn, 1) := by decide +kernel
set_option maxRecDepth 65536 in
set_option maxHeartbeats 40000000 in
theorem own_rmUA (l : Launch) (Z : State) (a0 : Array Value) (hw : ∀ d ∈ tables_1, d.before a0 Z = true) (a1 : Addr) (b : Addr) (k : ClassId) (cs : Int32) (ch : Int32) (h0 : Heap) (n0 : Nat) (Z0 : n0 ≤ h0.size) (E1 : Exa Z h0 a1 "java/lang/String") (Fv : Fld Z h0 a1 "java/lang/String" "value" "[B" (.ref b)) (Fc : Fld Z h0 a1 "java/lang/String" "coder" "B" (.int 0)) (V : Arv Z h0 b k .byte 79 (own_alpha.map Value.int) (.int 0)) (O : Old Z n0 h0) (S_C : Sta Z Z.heap "java/lang/String" "COMPACT_STRINGS" "Z" (.int cs)) (hcs : ¬ cs = (0 : Int32)) (c1 : ¬ ch < (0 : Int32)) :
    own_Met l Z [] (⟨"java/lang/String", "indexOf", "(I)I"⟩ : MethodName) jdk_42_method_79_code 2 (some .int) ({ frames := 3, cells := 0, slots := 0, locals := 46 } : Room) #[(.ref a1), (.int ch)] h0 (fun v h L => ∃ r : Int32, v = some (.int r) ∧ Fr n0 L ∧ h = h0 ∧ (r < 0 ↔ own_okc ch = 0)) := by
  refine MetFree.of_bodySF (plainFor_of_name own_pn1) hisR ?_
  intro p e s m args below meth c s₁ Bd hml0 hP hK
  obtain ⟨rfl, hZ, hh⟩ := hP
  have hx := Bd.exec
  have hby := Bd.bytes
  have hml : c.maxLocals = 2 := hml0
  have hown : s.vm.findClass "java/lang/String" = some m.cls := findClass_of_methodNamed Bd.named
  have hnm := (name_of_methodNamed Bd.named Bd.method).1
  have hlk : meth.locks = false := Bd.notSynchronized
  have X0 : Stand p l e ({ frames := 3, cells := 0, slots := 0, locals := 46 } : Room) s m #[(.ref a1), (.int ch)] below meth c s₁ [] 0 0 := Stand.of_body Bd
  have e0 : s₁.heap = h0 := by rw [← hh, Bd.state]; rfl
  have N0 := Fr.nil n0
  refine own_body (Q := fun v h L => ∃ r : Int32, v = some (.int r) ∧ Fr n0 L ∧ h = h0 ∧ (r < 0 ↔ own_okc ch = 0)) ?_
  refine own_go (fun _ kont => castTop (own_ef m #[(.ref a1), (.int ch)] 2 #[.val (.ref a1), .val (.int ch)] (own_al [(.ref a1), (.int ch)] 2 [.val (.ref a1), .val (.int ch)] rfl)) kont) ?_
  show own_Go _ _ _ _ (s₁.setTop (mkF m 0 #[.val (.ref a1), .val (.int ch)] []))
  refine own_go (fun _ => XS.aloadN X0.here hx rfl (hb hby own_d19_0) rfl rfl) ?_
  refine own_go (fun _ => XS.iloadN X0.here hx rfl (hb hby own_d19_1) rfl) ?_
  refine own_go (fun _ => XS.iconst X0.here hx rfl (hb hby own_d19_2)) ?_
  show own_Go _ _ _ _ (s₁.setTop (mkF m 3 #[.val (.ref a1), .val (.int ch)] [(.int (0 : Int32)), (.int ch), (.ref a1)]))
  obtain ⟨cq1, kq1, q1a, q1b, q1c⟩ := isOf hZ e0 E1
  obtain ⟨_, _, ⟨T1, L1, k1, n1⟩, -, X1, ⟨Lc1, hQ1, l1, y1, z1⟩, st1⟩ := X0.virtualBack hx (y := (⟨"java/lang/String", "indexOf", "(II)I"⟩ : MethodName)) (z := (⟨"java/lang/String", "indexOf", "(II)I"⟩ : MethodName)) hown (mvT hZ (hw _ (List.mem_of_getElem? (i := 95) rfl))) (mvT hZ (hw _ (List.mem_of_getElem? (i := 96) rfl))) (notFace_of_selects (args := #[]) (mvT hZ (hw _ (List.mem_of_getElem? (i := 98) rfl)))) (mvT hZ (hw _ (List.mem_of_getElem? (i := 98) rfl))) (mvT hZ (hw _ (List.mem_of_getElem? (i := 97) rfl))) (by decide) (own_back (W := 0) (own_rmZA l Z a0 hw a1 b k cs ch h0 n0 Z0 E1 Fv Fc V O S_C hcs c1) hZ (hw _ (List.mem_of_getElem? (i := 99) rfl)) (hw _ (List.mem_of_getElem? (i := 3) rfl)) (by decide) (by decide)) q1a q1c (g := (mkF m 3 #[.val (.ref a1), .val (.int ch)] [(.int (0 : Int32)), (.int ch), (.ref a1)])) rfl (by rw [hml]; rfl) (Steps.refl _) (argsL := [(.int ch), (.int (0 : Int32))]) (rest := []) (lenOf own_pd16 rfl) rfl (by show 2 * 0 + _ ≤ _; exact Nat.le_of_eq rfl) (hb hby own_d19_3) (fun _ _ => ⟨rfl, e0, (by decide : 0 + 0 ≤ _), (by decide : 0 + 0 ≤ _)⟩)
  dsimp only [Pt.U, Pt.locs, Pt.cells, Pt.slots] at X1 l1 y1 z1 st1 hQ1
  replace X1 := own_cst X1 l1 y1 z1 (k2 := 0) (n2 := 0) rfl rfl
  clear l1 y1 z1
  obtain ⟨r1, rfl, Nq1, eq1, hr1⟩ := hQ1
  have NF1 := Fr.app N0 Nq1
  refine own_goT st1 ?_
  show own_Go _ _ _ _ (T1.setTop (mkF m 6 #[.val (.ref a1), .val (.int ch)] [(.int r1)]))
  refine own_ret X1 hlk (v := some (.int r1)) (fun h => by rw [Bd.returns] at h; cases h) (fun fs hr => retOut X1 hx Bd.returns rfl (Or.inl ⟨rfl, Or.inl rfl, _, rfl⟩) (hb hby own_d19_6) hr) ?_ (by decide) (by decide)
  try rw [eq1]
  exact ⟨_, rfl, NF1, rfl, hr1⟩
theorem own_pn4 : plainName "com/example/chartpost/chartpost/http/PathSegmentsIsNamePinLaw" = true := by first | (simp [plainName, overriddenIn]; done) | decide +kernel
theorem own_d7_0 : decode method_2_code 0 = .ok (.iload_n 0, 1) := by decide +kernel
theorem own_d7_1 : decode method_2_code 1 = .ok (.bipush 97, 2) := by decide +kernel
theorem own_d7_14 : decode method_2_code 14 = .ok (.iload_n 0, 1) := by decide +kernel
theorem own_d7_15 : decode method_2_code 15 = .ok (.bipush 64, 2) := by decide +kernel
theorem own_d7_28 : decode method_2_code 28 = .ok (.iload_n 0, 1) := by decide +kernel
theorem own_d7_29 : decode method_2_code 29 = .ok (.bipush 48, 2) := by decide +kernel
theorem own_d7_42 : decode method_2_code 42 = .ok (.iload_n 0, 1) := by decide +kernel
theorem own_d7_43 : decode method_2_code 43 = .ok (.bipush 38, 2) := by decide +kernel
theorem own_d7_56 : decode method_2_code 56 = .ok (.iload_n 0, 1) := by decide +kernel
theorem own_d7_57 : decode method_2_code 57 = .ok (.bipush 33, 2) := by decide +kernel
theorem own_d7_59 : decode method_2_code 59 = .ok (.if_icmp .eq 27, 3) := by decide +kernel
theorem own_d7_86 : decode method_2_code 86 = .ok (.iconst 1, 1) := by decide +kernel
theorem own_d7_87 : decode method_2_code 87 = .ok (.goto 4, 3) := by decide +kernel
theorem own_d7_91 : decode method_2_code 91 = .ok (.ireturn, 1) := by decide +kernel
theorem own_d7_62 : decode method_2_code 62 = .ok (.iload_n 0, 1) := by decide +kernel
theorem own_d7_63 : decode method_2_code 63 = .ok (.bipush 36, 2) := by decide +kernel
theorem own_d7_65 : decode method_2_code 65 = .ok (.if_icmp .eq 21, 3) := by decide +kernel
theorem own_d7_68 : decode method_2_code 68 = .ok (.iload_n 0, 1) := by decide +kernel
theorem own_d7_69 : decode method_2_code 69 = .ok (.bipush 61, 2) := by decide +kernel
theorem own_d7_71 : decode method_2_code 71 = .ok (.if_icmp .eq 15, 3) := by decide +kernel
theorem own_d7_74 : decode method_2_code 74 = .ok (.iload_n 0, 1) := by decide +kernel
theorem own_d7_75 : decode method_2_code 75 = .ok (.bipush 95, 2) := by decide +kernel
theorem own_d7_77 : decode method_2_code 77 = .ok (.if_icmp .eq 9, 3) := by decide +kernel
theorem own_d7_80 : decode method_2_code 80 = .ok (.iload_n 0, 1) := by decide +kernel
theorem own_d7_81 : decode method_2_code 81 = .ok (.bipush 126, 2) := by decide +kernel
theorem own_d7_83 : decode method_2_code 83 = .ok (.if_icmp .ne 7, 3) := by decide +kernel
theorem own_d7_90 : decode method_2_code 90 = .ok (.iconst 0, 1) := by decide +kernel
theorem own_d7_45 : decode method_2_code 45 = .ok (.if_icmp .lt 11, 3) := by decide +kernel
theorem own_d7_48 : decode method_2_code 48 = .ok (.iload_n 0, 1) := by decide +kernel
theorem own_d7_49 : decode method_2_code 49 = .ok (.bipush 46, 2) := by decide +kernel
theorem own_d7_51 : decode method_2_code 51 = .ok (.if_icmp .gt 5, 3) := by decide +kernel
theorem own_d7_54 : decode method_2_code 54 = .ok (.iconst 1, 1) := by decide +kernel
theorem own_d7_55 : decode method_2_code 55 = .ok (.ireturn, 1) := by decide +kernel
theorem own_d7_31 : decode method_2_code 31 = .ok (.if_icmp .lt 11, 3) := by decide +kernel
theorem own_d7_34 : decode method_2_code 34 = .ok (.iload_n 0, 1) := by decide +kernel
theorem own_d7_35 : decode method_2_code 35 = .ok (.bipush 59, 2) := by decide +kernel
theorem own_d7_37 : decode method_2_code 37 = .ok (.if_icmp .gt 5, 3) := by decide +kernel
theorem own_d7_40 : decode method_2_code 40 = .ok (.iconst 1, 1) := by decide +kernel
theorem own_d7_41 : decode method_2_code 41 = .ok (.ireturn, 1) := by decide +kernel
theorem own_d7_17 : decode method_2_code 17 = .ok (.if_icmp .lt 11, 3) := by decide +kernel
theorem own_d7_20 : decode method_2_code 20 = .ok (.iload_n 0, 1) := by decide +kernel
theorem own_d7_21 : decode method_2_code 21 = .ok (.bipush 90, 2) := by decide +kernel
theorem own_d7_23 : decode method_2_code 23 = .ok (.if_icmp .gt 5, 3) := by decide +kernel
theorem own_d7_26 : decode method_2_code 26 = .ok (.iconst 1, 1) := by decide +kernel
theorem own_d7_27 : decode method_2_code 27 = .ok (.ireturn, 1) := by decide +kernel
theorem own_d7_3 : decode method_2_code 3 = .ok (.if_icmp .lt 11, 3) := by decide +kernel
theorem own_d7_6 : decode method_2_code 6 = .ok (.iload_n 0, 1) := by decide +kernel
theorem own_d7_7 : decode method_2_code 7 = .ok (.bipush 122, 2) := by decide +kernel
theorem own_d7_9 : decode method_2_code 9 = .ok (.if_icmp .gt 5, 3) := by decide +kernel
theorem own_d7_12 : decode method_2_code 12 = .ok (.iconst 1, 1) := by decide +kernel
theorem own_d7_13 : decode method_2_code 13 = .ok (.ireturn, 1) := by decide +kernel
set_option maxRecDepth 65536 in
set_option maxHeartbeats 40000000 in
theorem own_rmOk (l : Launch) (Z : State) (a0 : Array Value) (hw : ∀ d ∈ tables_1, d.before a0 Z = true) (p1 : Int32) (h0 : Heap) (n0 : Nat) (Z0 : n0 ≤ h0.size)  :
    own_Met l Z [] (⟨"com/example/chartpost/chartpost/http/PathSegmentsIsNamePinLaw", "ok", "(C)Z"⟩ : MethodName) method_2_code 1 (some .boolean) ({ frames := 0, cells := 0, slots := 0, locals := 0 } : Room) #[(.int p1)] h0 (fun v h L => v = some (.int (own_okc p1)) ∧ Fr n0 L ∧ h = h0) := by
  refine MetFree.of_bodySF (plainFor_of_name own_pn4) hisR ?_
  intro p e s m args below meth c s₁ Bd hml0 hP hK
  obtain ⟨rfl, hZ, hh⟩ := hP
  have hx := Bd.exec
  have hby := Bd.bytes
  have hml : c.maxLocals = 1 := hml0
  have hown : s.vm.findClass "com/example/chartpost/chartpost/http/PathSegmentsIsNamePinLaw" = some m.cls := findClass_of_methodNamed Bd.named
  have hnm := (name_of_methodNamed Bd.named Bd.method).1
  have hlk : meth.locks = false := Bd.notSynchronized
  have X0 : Stand p l e ({ frames := 0, cells := 0, slots := 0, locals := 0 } : Room) s m #[(.int p1)] below meth c s₁ [] 0 0 := Stand.of_body Bd
  have e0 : s₁.heap = h0 := by rw [← hh, Bd.state]; rfl
  have N0 := Fr.nil n0
  refine own_body (Q := fun v h L => v = some (.int (own_okc p1)) ∧ Fr n0 L ∧ h = h0) ?_
  refine own_go (fun _ kont => castTop (own_ef m #[(.int p1)] 1 #[.val (.int p1)] (own_al [(.int p1)] 1 [.val (.int p1)] rfl)) kont) ?_
  show own_Go _ _ _ _ (s₁.setTop (mkF m 0 #[.val (.int p1)] []))
  refine own_go (fun _ => XS.iloadN X0.here hx rfl (hb hby own_d7_0) rfl) ?_
  refine own_go (fun _ => XS.bipush X0.here hx rfl (hb hby own_d7_1)) ?_
  show own_Go _ _ _ _ (s₁.setTop (mkF m 3 #[.val (.int p1)] [(.int (97 : Int32)), (.int p1)]))
  have J14 : ∀ (hj14 : ¬ (¬ p1 < (97 : Int32) ∧ ¬ (122 : Int32) < p1)), own_Go p.tables e below (own_End s below (fun v h L => v = some (.int (own_okc p1)) ∧ Fr n0 L ∧ h = h0) ({ frames := 0, cells := 0, slots := 0, locals := 0 } : Room).cells ({ frames := 0, cells := 0, slots := 0, locals := 0 } : Room).slots) (s₁.setTop (mkF m 14 #[.val (.int p1)] [])) := by
    intro hj14
    refine own_go (fun _ => XS.iloadN X0.here hx rfl (hb hby own_d7_14) rfl) ?_
    refine own_go (fun _ => XS.bipush X0.here hx rfl (hb hby own_d7_15)) ?_
    show own_Go _ _ _ _ (s₁.setTop (mkF m 17 #[.val (.int p1)] [(.int (64 : Int32)), (.int p1)]))
    have J28 : ∀ (hj28 : ¬ (¬ p1 < (64 : Int32) ∧ ¬ (90 : Int32) < p1)), own_Go p.tables e below (own_End s below (fun v h L => v = some (.int (own_okc p1)) ∧ Fr n0 L ∧ h = h0) ({ frames := 0, cells := 0, slots := 0, locals := 0 } : Room).cells ({ frames := 0, cells := 0, slots := 0, locals := 0 } : Room).slots) (s₁.setTop (mkF m 28 #[.val (.int p1)] [])) := by
      intro hj28
      refine own_go (fun _ => XS.iloadN X0.here hx rfl (hb hby own_d7_28) rfl) ?_
      refine own_go (fun _ => XS.bipush X0.here hx rfl (hb hby own_d7_29)) ?_
      show own_Go _ _ _ _ (s₁.setTop (mkF m 31 #[.val (.int p1)] [(.int (48 : Int32)), (.int p1)]))
      have J42 : ∀ (hj42 : ¬ (¬ p1 < (48 : Int32) ∧ ¬ (59 : Int32) < p1)), own_Go p.tables e below (own_End s below (fun v h L => v = some (.int (own_okc p1)) ∧ Fr n0 L ∧ h = h0) ({ frames := 0, cells := 0, slots := 0, locals := 0 } : Room).cells ({ frames := 0, cells := 0, slots := 0, locals := 0 } : Room).slots) (s₁.setTop (mkF m 42 #[.val (.int p1)] [])) := by
        intro hj42
        refine own_go (fun _ => XS.iloadN X0.here hx rfl (hb hby own_d7_42) rfl) ?_
        refine own_go (fun _ => XS.bipush X0.here hx rfl (hb hby own_d7_43)) ?_
        show own_Go _ _ _ _ (s₁.setTop (mkF m 45 #[.val (.int p1)] [(.int (38 : Int32)), (.int p1)]))
        have J56 : ∀ (hj56 : ¬ (¬ p1 < (38 : Int32) ∧ ¬ (46 : Int32) < p1)), own_Go p.tables e below (own_End s below (fun v h L => v = some (.int (own_okc p1)) ∧ Fr n0 L ∧ h = h0) ({ frames := 0, cells := 0, slots := 0, locals := 0 } : Room).cells ({ frames := 0, cells := 0, slots := 0, locals := 0 } : Room).slots) (s₁.setTop (mkF m 56 #[.val (.int p1)] [])) := by
          intro hj56
          refine own_go (fun _ => XS.iloadN X0.here hx rfl (hb hby own_d7_56) rfl) ?_
          refine own_go (fun _ => XS.bipush X0.here hx rfl (hb hby own_d7_57)) ?_
          show own_Go _ _ _ _ (s₁.setTop (mkF m 59 #[.val (.int p1)] [(.int (33 : Int32)), (.int p1)]))
          by_cases hc59 : p1 = (33 : Int32)
          · have _h := hc59
            refine own_go (fun _ => XS.icmpYes X0.here hx rfl (pc0 := 59) (pc' := 86) rfl (hb hby own_d7_59) rfl (teq hc59).1 (by decide) (by decide)) ?_
            show own_Go _ _ _ _ (s₁.setTop (mkF m 86 #[.val (.int p1)] []))
            refine own_go (fun _ => XS.iconst X0.here hx rfl (hb hby own_d7_86)) ?_
            refine own_go (fun _ => XS.goto X0.here hx rfl (pc0 := 87) (pc' := 91) rfl (hb hby own_d7_87) (by decide) (by decide)) ?_
            show own_Go _ _ _ _ (s₁.setTop (mkF m 91 #[.val (.int p1)] [(.int (1 : Int32))]))
            refine own_ret X0 hlk (v := some (.int (1 : Int32))) (fun h => by rw [Bd.returns] at h; cases h) (fun fs hr => retN X0 hx (t := .boolean) Bd.returns (by simp) (hb hby own_d7_91) hr) ?_ (by decide) (by decide)
            try rw [e0]
            exact ⟨by unfold own_okc; rw [if_neg hj14, if_neg hj28, if_neg hj42, if_neg hj56]; simp [hc59], N0, rfl⟩
          · have _h := hc59
            refine own_go (fun _ => XS.icmpNo X0.here hx rfl (hb hby own_d7_59) rfl (feq hc59).1) ?_
            show own_Go _ _ _ _ (s₁.setTop (mkF m 62 #[.val (.int p1)] []))
            refine own_go (fun _ => XS.iloadN X0.here hx rfl (hb hby own_d7_62) rfl) ?_
            refine own_go (fun _ => XS.bipush X0.here hx rfl (hb hby own_d7_63)) ?_
            show own_Go _ _ _ _ (s₁.setTop (mkF m 65 #[.val (.int p1)] [(.int (36 : Int32)), (.int p1)]))
            by_cases hc65 : p1 = (36 : Int32)
            · have _h := hc65
              refine own_go (fun _ => XS.icmpYes X0.here hx rfl (pc0 := 65) (pc' := 86) rfl (hb hby own_d7_65) rfl (teq hc65).1 (by decide) (by decide)) ?_
              show own_Go _ _ _ _ (s₁.setTop (mkF m 86 #[.val (.int p1)] []))
              refine own_go (fun _ => XS.iconst X0.here hx rfl (hb hby own_d7_86)) ?_
              refine own_go (fun _ => XS.goto X0.here hx rfl (pc0 := 87) (pc' := 91) rfl (hb hby own_d7_87) (by decide) (by decide)) ?_
              show own_Go _ _ _ _ (s₁.setTop (mkF m 91 #[.val (.int p1)] [(.int (1 : Int32))]))
              refine own_ret X0 hlk (v := some (.int (1 : Int32))) (fun h => by rw [Bd.returns] at h; cases h) (fun fs hr => retN X0 hx (t := .boolean) Bd.returns (by simp) (hb hby own_d7_91) hr) ?_ (by decide) (by decide)
              try rw [e0]
              exact ⟨by unfold own_okc; rw [if_neg hj14, if_neg hj28, if_neg hj42, if_neg hj56]; simp [hc59, hc65], N0, rfl⟩
            · have _h := hc65
              refine own_go (fun _ => XS.icmpNo X0.here hx rfl (hb hby own_d7_65) rfl (feq hc65).1) ?_
              show own_Go _ _ _ _ (s₁.setTop (mkF m 68 #[.val (.int p1)] []))
              refine own_go (fun _ => XS.iloadN X0.here hx rfl (hb hby own_d7_68) rfl) ?_
              refine own_go (fun _ => XS.bipush X0.here hx rfl (hb hby own_d7_69)) ?_
              show own_Go _ _ _ _ (s₁.setTop (mkF m 71 #[.val (.int p1)] [(.int (61 : Int32)), (.int p1)]))
              by_cases hc71 : p1 = (61 : Int32)
              · have _h := hc71
                refine own_go (fun _ => XS.icmpYes X0.here hx rfl (pc0 := 71) (pc' := 86) rfl (hb hby own_d7_71) rfl (teq hc71).1 (by decide) (by decide)) ?_
                show own_Go _ _ _ _ (s₁.setTop (mkF m 86 #[.val (.int p1)] []))
                refine own_go (fun _ => XS.iconst X0.here hx rfl (hb hby own_d7_86)) ?_
                refine own_go (fun _ => XS.goto X0.here hx rfl (pc0 := 87) (pc' := 91) rfl (hb hby own_d7_87) (by decide) (by decide)) ?_
                show own_Go _ _ _ _ (s₁.setTop (mkF m 91 #[.val (.int p1)] [(.int (1 : Int32))]))
                refine own_ret X0 hlk (v := some (.int (1 : Int32))) (fun h => by rw [Bd.returns] at h; cases h) (fun fs hr => retN X0 hx (t := .boolean) Bd.returns (by simp) (hb hby own_d7_91) hr) ?_ (by decide) (by decide)
                try rw [e0]
                exact ⟨by unfold own_okc; rw [if_neg hj14, if_neg hj28, if_neg hj42, if_neg hj56]; simp [hc59, hc65, hc71], N0, rfl⟩
              · have _h := hc71
                refine own_go (fun _ => XS.icmpNo X0.here hx rfl (hb hby own_d7_71) rfl (feq hc71).1) ?_
                show own_Go _ _ _ _ (s₁.setTop (mkF m 74 #[.val (.int p1)] []))
                refine own_go (fun _ => XS.iloadN X0.here hx rfl (hb hby own_d7_74) rfl) ?_
                refine own_go (fun _ => XS.bipush X0.here hx rfl (hb hby own_d7_75)) ?_
                show own_Go _ _ _ _ (s₁.setTop (mkF m 77 #[.val (.int p1)] [(.int (95 : Int32)), (.int p1)]))
                by_cases hc77 : p1 = (95 : Int32)
                · have _h := hc77
                  refine own_go (fun _ => XS.icmpYes X0.here hx rfl (pc0 := 77) (pc' := 86) rfl (hb hby own_d7_77) rfl (teq hc77).1 (by decide) (by decide)) ?_
                  show own_Go _ _ _ _ (s₁.setTop (mkF m 86 #[.val (.int p1)] []))
                  refine own_go (fun _ => XS.iconst X0.here hx rfl (hb hby own_d7_86)) ?_
                  refine own_go (fun _ => XS.goto X0.here hx rfl (pc0 := 87) (pc' := 91) rfl (hb hby own_d7_87) (by decide) (by decide)) ?_
                  show own_Go _ _ _ _ (s₁.setTop (mkF m 91 #[.val (.int p1)] [(.int (1 : Int32))]))
                  refine own_ret X0 hlk (v := some (.int (1 : Int32))) (fun h => by rw [Bd.returns] at h; cases h) (fun fs hr => retN X0 hx (t := .boolean) Bd.returns (by simp) (hb hby own_d7_91) hr) ?_ (by decide) (by decide)
                  try rw [e0]
                  exact ⟨by unfold own_okc; rw [if_neg hj14, if_neg hj28, if_neg hj42, if_neg hj56]; simp [hc59, hc65, hc71, hc77], N0, rfl⟩
                · have _h := hc77
                  refine own_go (fun _ => XS.icmpNo X0.here hx rfl (hb hby own_d7_77) rfl (feq hc77).1) ?_
                  show own_Go _ _ _ _ (s₁.setTop (mkF m 80 #[.val (.int p1)] []))
                  refine own_go (fun _ => XS.iloadN X0.here hx rfl (hb hby own_d7_80) rfl) ?_
                  refine own_go (fun _ => XS.bipush X0.here hx rfl (hb hby own_d7_81)) ?_
                  show own_Go _ _ _ _ (s₁.setTop (mkF m 83 #[.val (.int p1)] [(.int (126 : Int32)), (.int p1)]))
                  by_cases hc83 : p1 = (126 : Int32)
                  · have _h := hc83
                    refine own_go (fun _ => XS.icmpNo X0.here hx rfl (hb hby own_d7_83) rfl (teq hc83).2) ?_
                    show own_Go _ _ _ _ (s₁.setTop (mkF m 86 #[.val (.int p1)] []))
                    refine own_go (fun _ => XS.iconst X0.here hx rfl (hb hby own_d7_86)) ?_
                    refine own_go (fun _ => XS.goto X0.here hx rfl (pc0 := 87) (pc' := 91) rfl (hb hby own_d7_87) (by decide) (by decide)) ?_
                    show own_Go _ _ _ _ (s₁.setTop (mkF m 91 #[.val (.int p1)] [(.int (1 : Int32))]))
                    refine own_ret X0 hlk (v := some (.int (1 : Int32))) (fun h => by rw [Bd.returns] at h; cases h) (fun fs hr => retN X0 hx (t := .boolean) Bd.returns (by simp) (hb hby own_d7_91) hr) ?_ (by decide) (by decide)
                    try rw [e0]
                    exact ⟨by unfold own_okc; rw [if_neg hj14, if_neg hj28, if_neg hj42, if_neg hj56]; simp [hc59, hc65, hc71, hc77, hc83], N0, rfl⟩
                  · have _h := hc83
                    refine own_go (fun _ => XS.icmpYes X0.here hx rfl (pc0 := 83) (pc' := 90) rfl (hb hby own_d7_83) rfl (feq hc83).2 (by decide) (by decide)) ?_
                    show own_Go _ _ _ _ (s₁.setTop (mkF m 90 #[.val (.int p1)] []))
                    refine own_go (fun _ => XS.iconst X0.here hx rfl (hb hby own_d7_90)) ?_
                    show own_Go _ _ _ _ (s₁.setTop (mkF m 91 #[.val (.int p1)] [(.int (0 : Int32))]))
                    refine own_ret X0 hlk (v := some (.int (0 : Int32))) (fun h => by rw [Bd.returns] at h; cases h) (fun fs hr => retN X0 hx (t := .boolean) Bd.returns (by simp) (hb hby own_d7_91) hr) ?_ (by decide) (by decide)
                    try rw [e0]
                    exact ⟨by unfold own_okc; rw [if_neg hj14, if_neg hj28, if_neg hj42, if_neg hj56]; simp [hc59, hc65, hc71, hc77, hc83], N0, rfl⟩
        by_cases hc45 : p1 < (38 : Int32)
        · have _h := hc45
          refine own_go (fun _ => XS.icmpYes X0.here hx rfl (pc0 := 45) (pc' := 56) rfl (hb hby own_d7_45) rfl (tlt hc45).1 (by decide) (by decide)) ?_
          show own_Go _ _ _ _ (s₁.setTop (mkF m 56 #[.val (.int p1)] []))
          exact J56 (by simp [hc45])
        · have _h := hc45
          refine own_go (fun _ => XS.icmpNo X0.here hx rfl (hb hby own_d7_45) rfl (flt hc45).1) ?_
          show own_Go _ _ _ _ (s₁.setTop (mkF m 48 #[.val (.int p1)] []))
          refine own_go (fun _ => XS.iloadN X0.here hx rfl (hb hby own_d7_48) rfl) ?_
          refine own_go (fun _ => XS.bipush X0.here hx rfl (hb hby own_d7_49)) ?_
          show own_Go _ _ _ _ (s₁.setTop (mkF m 51 #[.val (.int p1)] [(.int (46 : Int32)), (.int p1)]))
          by_cases hc51 : (46 : Int32) < p1
          · have _h := hc51
            refine own_go (fun _ => XS.icmpYes X0.here hx rfl (pc0 := 51) (pc' := 56) rfl (hb hby own_d7_51) rfl (tlt hc51).2.2.1 (by decide) (by decide)) ?_
            show own_Go _ _ _ _ (s₁.setTop (mkF m 56 #[.val (.int p1)] []))
            exact J56 (by simp [hc45, hc51])
          · have _h := hc51
            refine own_go (fun _ => XS.icmpNo X0.here hx rfl (hb hby own_d7_51) rfl (flt hc51).2.2.1) ?_
            show own_Go _ _ _ _ (s₁.setTop (mkF m 54 #[.val (.int p1)] []))
            refine own_go (fun _ => XS.iconst X0.here hx rfl (hb hby own_d7_54)) ?_
            show own_Go _ _ _ _ (s₁.setTop (mkF m 55 #[.val (.int p1)] [(.int (1 : Int32))]))
            refine own_ret X0 hlk (v := some (.int (1 : Int32))) (fun h => by rw [Bd.returns] at h; cases h) (fun fs hr => retN X0 hx (t := .boolean) Bd.returns (by simp) (hb hby own_d7_55) hr) ?_ (by decide) (by decide)
            try rw [e0]
            exact ⟨by unfold own_okc; rw [if_neg hj14, if_neg hj28, if_neg hj42]; simp [hc45, hc51], N0, rfl⟩
      by_cases hc31 : p1 < (48 : Int32)
      · have _h := hc31
        refine own_go (fun _ => XS.icmpYes X0.here hx rfl (pc0 := 31) (pc' := 42) rfl (hb hby own_d7_31) rfl (tlt hc31).1 (by decide) (by decide)) ?_
        show own_Go _ _ _ _ (s₁.setTop (mkF m 42 #[.val (.int p1)] []))
        exact J42 (by simp [hc31])
      · have _h := hc31
        refine own_go (fun _ => XS.icmpNo X0.here hx rfl (hb hby own_d7_31) rfl (flt hc31).1) ?_
        show own_Go _ _ _ _ (s₁.setTop (mkF m 34 #[.val (.int p1)] []))
        refine own_go (fun _ => XS.iloadN X0.here hx rfl (hb hby own_d7_34) rfl) ?_
        refine own_go (fun _ => XS.bipush X0.here hx rfl (hb hby own_d7_35)) ?_
        show own_Go _ _ _ _ (s₁.setTop (mkF m 37 #[.val (.int p1)] [(.int (59 : Int32)), (.int p1)]))
        by_cases hc37 : (59 : Int32) < p1
        · have _h := hc37
          refine own_go (fun _ => XS.icmpYes X0.here hx rfl (pc0 := 37) (pc' := 42) rfl (hb hby own_d7_37) rfl (tlt hc37).2.2.1 (by decide) (by decide)) ?_
          show own_Go _ _ _ _ (s₁.setTop (mkF m 42 #[.val (.int p1)] []))
          exact J42 (by simp [hc31, hc37])
        · have _h := hc37
          refine own_go (fun _ => XS.icmpNo X0.here hx rfl (hb hby own_d7_37) rfl (flt hc37).2.2.1) ?_
          show own_Go _ _ _ _ (s₁.setTop (mkF m 40 #[.val (.int p1)] []))
          refine own_go (fun _ => XS.iconst X0.here hx rfl (hb hby own_d7_40)) ?_
          show own_Go _ _ _ _ (s₁.setTop (mkF m 41 #[.val (.int p1)] [(.int (1 : Int32))]))
          refine own_ret X0 hlk (v := some (.int (1 : Int32))) (fun h => by rw [Bd.returns] at h; cases h) (fun fs hr => retN X0 hx (t := .boolean) Bd.returns (by simp) (hb hby own_d7_41) hr) ?_ (by decide) (by decide)
          try rw [e0]
          exact ⟨by unfold own_okc; rw [if_neg hj14, if_neg hj28]; simp [hc31, hc37], N0, rfl⟩
    by_cases hc17 : p1 < (64 : Int32)
    · have _h := hc17
      refine own_go (fun _ => XS.icmpYes X0.here hx rfl (pc0 := 17) (pc' := 28) rfl (hb hby own_d7_17) rfl (tlt hc17).1 (by decide) (by decide)) ?_
      show own_Go _ _ _ _ (s₁.setTop (mkF m 28 #[.val (.int p1)] []))
      exact J28 (by simp [hc17])
    · have _h := hc17
      refine own_go (fun _ => XS.icmpNo X0.here hx rfl (hb hby own_d7_17) rfl (flt hc17).1) ?_
      show own_Go _ _ _ _ (s₁.setTop (mkF m 20 #[.val (.int p1)] []))
      refine own_go (fun _ => XS.iloadN X0.here hx rfl (hb hby own_d7_20) rfl) ?_
      refine own_go (fun _ => XS.bipush X0.here hx rfl (hb hby own_d7_21)) ?_
      show own_Go _ _ _ _ (s₁.setTop (mkF m 23 #[.val (.int p1)] [(.int (90 : Int32)), (.int p1)]))
      by_cases hc23 : (90 : Int32) < p1
      · have _h := hc23
        refine own_go (fun _ => XS.icmpYes X0.here hx rfl (pc0 := 23) (pc' := 28) rfl (hb hby own_d7_23) rfl (tlt hc23).2.2.1 (by decide) (by decide)) ?_
        show own_Go _ _ _ _ (s₁.setTop (mkF m 28 #[.val (.int p1)] []))
        exact J28 (by simp [hc17, hc23])
      · have _h := hc23
        refine own_go (fun _ => XS.icmpNo X0.here hx rfl (hb hby own_d7_23) rfl (flt hc23).2.2.1) ?_
        show own_Go _ _ _ _ (s₁.setTop (mkF m 26 #[.val (.int p1)] []))
        refine own_go (fun _ => XS.iconst X0.here hx rfl (hb hby own_d7_26)) ?_
        show own_Go _ _ _ _ (s₁.setTop (mkF m 27 #[.val (.int p1)] [(.int (1 : Int32))]))
        refine own_ret X0 hlk (v := some (.int (1 : Int32))) (fun h => by rw [Bd.returns] at h; cases h) (fun fs hr => retN X0 hx (t := .boolean) Bd.returns (by simp) (hb hby own_d7_27) hr) ?_ (by decide) (by decide)
        try rw [e0]
        exact ⟨by unfold own_okc; rw [if_neg hj14]; simp [hc17, hc23], N0, rfl⟩
  by_cases hc3 : p1 < (97 : Int32)
  · have _h := hc3
    refine own_go (fun _ => XS.icmpYes X0.here hx rfl (pc0 := 3) (pc' := 14) rfl (hb hby own_d7_3) rfl (tlt hc3).1 (by decide) (by decide)) ?_
    show own_Go _ _ _ _ (s₁.setTop (mkF m 14 #[.val (.int p1)] []))
    exact J14 (by simp [hc3])
  · have _h := hc3
    refine own_go (fun _ => XS.icmpNo X0.here hx rfl (hb hby own_d7_3) rfl (flt hc3).1) ?_
    show own_Go _ _ _ _ (s₁.setTop (mkF m 6 #[.val (.int p1)] []))
    refine own_go (fun _ => XS.iloadN X0.here hx rfl (hb hby own_d7_6) rfl) ?_
    refine own_go (fun _ => XS.bipush X0.here hx rfl (hb hby own_d7_7)) ?_
    show own_Go _ _ _ _ (s₁.setTop (mkF m 9 #[.val (.int p1)] [(.int (122 : Int32)), (.int p1)]))
    by_cases hc9 : (122 : Int32) < p1
    · have _h := hc9
      refine own_go (fun _ => XS.icmpYes X0.here hx rfl (pc0 := 9) (pc' := 14) rfl (hb hby own_d7_9) rfl (tlt hc9).2.2.1 (by decide) (by decide)) ?_
      show own_Go _ _ _ _ (s₁.setTop (mkF m 14 #[.val (.int p1)] []))
      exact J14 (by simp [hc3, hc9])
    · have _h := hc9
      refine own_go (fun _ => XS.icmpNo X0.here hx rfl (hb hby own_d7_9) rfl (flt hc9).2.2.1) ?_
      show own_Go _ _ _ _ (s₁.setTop (mkF m 12 #[.val (.int p1)] []))
      refine own_go (fun _ => XS.iconst X0.here hx rfl (hb hby own_d7_12)) ?_
      show own_Go _ _ _ _ (s₁.setTop (mkF m 13 #[.val (.int p1)] [(.int (1 : Int32))]))
      refine own_ret X0 hlk (v := some (.int (1 : Int32))) (fun h => by rw [Bd.returns] at h; cases h) (fun fs hr => retN X0 hx (t := .boolean) Bd.returns (by simp) (hb hby own_d7_13) hr) ?_ (by decide) (by decide)
      try rw [e0]
      exact ⟨by unfold own_okc; simp [hc3, hc9], N0, rfl⟩
theorem own_pn5 : plainName "com/example/chartpost/chartpost/http/PathSegments" = true := by first | (simp [plainName, overriddenIn]; done) | decide +kernel
theorem own_d8_0 : decode prog_30_method_2_code 0 = .ok (.aload_n 0, 1) := by decide +kernel
theorem own_d8_1 : decode prog_30_method_2_code 1 = .ok (.invokevirtual 7, 3) := by decide +kernel
theorem own_d8_4 : decode prog_30_method_2_code 4 = .ok (.ifCond .ne 21, 3) := by decide +kernel
theorem own_d8_25 : decode prog_30_method_2_code 25 = .ok (.iconst 0, 1) := by decide +kernel
theorem own_d8_26 : decode prog_30_method_2_code 26 = .ok (.ireturn, 1) := by decide +kernel
set_option maxRecDepth 65536 in
set_option maxHeartbeats 40000000 in
theorem own_rmN0 (l : Launch) (Z : State) (a0 : Array Value) (hw : ∀ d ∈ tables_1, d.before a0 Z = true) (a1 : Addr) (b : Addr) (k : ClassId) (h0 : Heap) (n0 : Nat) (Z0 : n0 ≤ h0.size) (E1 : Exa Z h0 a1 "java/lang/String") (Fv : Fld Z h0 a1 "java/lang/String" "value" "[B" (.ref b)) (V : Arv Z h0 b k .byte 0 [] (.int 0)) :
    own_Met l Z [] (⟨"com/example/chartpost/chartpost/http/PathSegments", "isName", "(Ljava/lang/String;)Z"⟩ : MethodName) prog_30_method_2_code 2 (some .boolean) ({ frames := 1, cells := 0, slots := 0, locals := 12 } : Room) #[(.ref a1)] h0 (fun v h L => v = some (.int 0) ∧ Fr n0 L ∧ h = h0) := by
  refine MetFree.of_bodySF (plainFor_of_name own_pn5) hisR ?_
  intro p e s m args below meth c s₁ Bd hml0 hP hK
  obtain ⟨rfl, hZ, hh⟩ := hP
  have hx := Bd.exec
  have hby := Bd.bytes
  have hml : c.maxLocals = 2 := hml0
  have hown : s.vm.findClass "com/example/chartpost/chartpost/http/PathSegments" = some m.cls := findClass_of_methodNamed Bd.named
  have hnm := (name_of_methodNamed Bd.named Bd.method).1
  have hlk : meth.locks = false := Bd.notSynchronized
  have X0 : Stand p l e ({ frames := 1, cells := 0, slots := 0, locals := 12 } : Room) s m #[(.ref a1)] below meth c s₁ [] 0 0 := Stand.of_body Bd
  have e0 : s₁.heap = h0 := by rw [← hh, Bd.state]; rfl
  have N0 := Fr.nil n0
  refine own_body (Q := fun v h L => v = some (.int 0) ∧ Fr n0 L ∧ h = h0) ?_
  refine own_go (fun _ kont => castTop (own_ef m #[(.ref a1)] 2 #[.val (.ref a1), .unset] (own_al [(.ref a1)] 2 [.val (.ref a1), .unset] rfl)) kont) ?_
  show own_Go _ _ _ _ (s₁.setTop (mkF m 0 #[.val (.ref a1), .unset] []))
  refine own_go (fun _ => XS.aloadN X0.here hx rfl (hb hby own_d8_0) rfl rfl) ?_
  show own_Go _ _ _ _ (s₁.setTop (mkF m 1 #[.val (.ref a1), .unset] [(.ref a1)]))
  obtain ⟨cq1, kq1, q1a, q1b, q1c⟩ := isOf hZ e0 E1
  obtain ⟨_, _, ⟨T1, L1, k1, n1⟩, -, X1, ⟨Lc1, hQ1, l1, y1, z1⟩, st1⟩ := X0.virtualBack hx (y := (⟨"java/lang/String", "isEmpty", "()Z"⟩ : MethodName)) (z := (⟨"java/lang/String", "isEmpty", "()Z"⟩ : MethodName)) hown (mvT hZ (hw _ (List.mem_of_getElem? (i := 39) rfl))) (mvT hZ (hw _ (List.mem_of_getElem? (i := 40) rfl))) (notFace_of_selects (args := #[]) (mvT hZ (hw _ (List.mem_of_getElem? (i := 42) rfl)))) (mvT hZ (hw _ (List.mem_of_getElem? (i := 42) rfl))) (mvT hZ (hw _ (List.mem_of_getElem? (i := 41) rfl))) (by decide) (own_back (W := 0) (own_rmE0 l Z a0 hw a1 b k h0 n0 Z0 Fv V) hZ (hw _ (List.mem_of_getElem? (i := 43) rfl)) (hw _ (List.mem_of_getElem? (i := 3) rfl)) (by decide) (by decide)) q1a q1c (g := (mkF m 1 #[.val (.ref a1), .unset] [(.ref a1)])) rfl (by rw [hml]; rfl) (Steps.refl _) (argsL := []) (rest := []) (lenOf own_pd3 rfl) rfl (by show 2 * 0 + _ ≤ _; exact Nat.le_of_eq rfl) (hb hby own_d8_1) (fun _ _ => ⟨rfl, e0, (by decide : 0 + 0 ≤ _), (by decide : 0 + 0 ≤ _)⟩)
  dsimp only [Pt.U, Pt.locs, Pt.cells, Pt.slots] at X1 l1 y1 z1 st1 hQ1
  replace X1 := own_cst X1 l1 y1 z1 (k2 := 0) (n2 := 0) rfl rfl
  clear l1 y1 z1
  obtain ⟨rfl, Nq1, eq1⟩ := hQ1
  have NF1 := Fr.app N0 Nq1
  refine own_goT st1 ?_
  show own_Go _ _ _ _ (T1.setTop (mkF m 4 #[.val (.ref a1), .unset] [(.int (1 : Int32))]))
  refine own_go (fun _ => XS.ifYes X1.here hx rfl (pc0 := 4) (pc' := 25) rfl (hb hby own_d8_4) rfl ((if0 _ _).trans (feq (by decide)).2) (by decide) (by decide)) ?_
  show own_Go _ _ _ _ (T1.setTop (mkF m 25 #[.val (.ref a1), .unset] []))
  refine own_go (fun _ => XS.iconst X1.here hx rfl (hb hby own_d8_25)) ?_
  show own_Go _ _ _ _ (T1.setTop (mkF m 26 #[.val (.ref a1), .unset] [(.int (0 : Int32))]))
  refine own_ret X1 hlk (v := some (.int (0 : Int32))) (fun h => by rw [Bd.returns] at h; cases h) (fun fs hr => retN X1 hx (t := .boolean) Bd.returns (by simp) (hb hby own_d8_26) hr) ?_ (by decide) (by decide)
  try rw [eq1]
  exact ⟨rfl, NF1, rfl⟩
theorem own_d8_7 : decode prog_30_method_2_code 7 = .ok (.aload_n 0, 1) := by decide +kernel
theorem own_d8_8 : decode prog_30_method_2_code 8 = .ok (.ldc 13, 2) := by decide +kernel
theorem own_d8_10 : decode prog_30_method_2_code 10 = .ok (.invokevirtual 15, 3) := by decide +kernel
theorem own_pd19 : parseMethodDescriptor "(Ljava/lang/Object;)Z" = some ⟨[(.object "java/lang/Object")], some .boolean⟩ := by decide +kernel
theorem own_d8_13 : decode prog_30_method_2_code 13 = .ok (.ifCond .ne 12, 3) := by decide +kernel
theorem own_d8_16 : decode prog_30_method_2_code 16 = .ok (.aload_n 0, 1) := by decide +kernel
theorem own_d8_17 : decode prog_30_method_2_code 17 = .ok (.ldc 19, 2) := by decide +kernel
theorem own_d8_19 : decode prog_30_method_2_code 19 = .ok (.invokevirtual 15, 3) := by decide +kernel
theorem own_d8_22 : decode prog_30_method_2_code 22 = .ok (.ifCond .eq 5, 3) := by decide +kernel
theorem own_d8_27 : decode prog_30_method_2_code 27 = .ok (.iconst 0, 1) := by decide +kernel
theorem own_d8_28 : decode prog_30_method_2_code 28 = .ok (.istore_n 1, 1) := by decide +kernel
theorem own_d8_29 : decode prog_30_method_2_code 29 = .ok (.iload_n 1, 1) := by decide +kernel
theorem own_d8_30 : decode prog_30_method_2_code 30 = .ok (.aload_n 0, 1) := by decide +kernel
theorem own_d8_31 : decode prog_30_method_2_code 31 = .ok (.invokevirtual 21, 3) := by decide +kernel
theorem own_d8_34 : decode prog_30_method_2_code 34 = .ok (.if_icmp .ge 24, 3) := by decide +kernel
theorem own_d8_37 : decode prog_30_method_2_code 37 = .ok (.ldc 27, 2) := by decide +kernel
theorem own_d8_39 : decode prog_30_method_2_code 39 = .ok (.aload_n 0, 1) := by decide +kernel
theorem own_d8_40 : decode prog_30_method_2_code 40 = .ok (.iload_n 1, 1) := by decide +kernel
theorem own_d8_41 : decode prog_30_method_2_code 41 = .ok (.invokevirtual 29, 3) := by decide +kernel
theorem own_pd20 : parseMethodDescriptor "(I)C" = some ⟨[.int], some .char⟩ := by decide +kernel
theorem own_d8_44 : decode prog_30_method_2_code 44 = .ok (.invokevirtual 33, 3) := by decide +kernel
theorem own_d8_47 : decode prog_30_method_2_code 47 = .ok (.ifCond .ge 5, 3) := by decide +kernel
theorem own_d8_50 : decode prog_30_method_2_code 50 = .ok (.iconst 0, 1) := by decide +kernel
theorem own_d8_51 : decode prog_30_method_2_code 51 = .ok (.ireturn, 1) := by decide +kernel
theorem own_d8_52 : decode prog_30_method_2_code 52 = .ok (.iinc 1 1, 3) := by decide +kernel
theorem own_d8_55 : decode prog_30_method_2_code 55 = .ok (.goto (-26), 3) := by decide +kernel
theorem own_d8_58 : decode prog_30_method_2_code 58 = .ok (.iconst 1, 1) := by decide +kernel
theorem own_d8_59 : decode prog_30_method_2_code 59 = .ok (.ireturn, 1) := by decide +kernel
set_option maxRecDepth 65536 in
set_option maxHeartbeats 40000000 in
theorem own_rmNL1 (l : Launch) (Z : State) (a0 : Array Value) (hw : ∀ d ∈ tables_1, d.before a0 Z = true) (a1 : Addr) (b : Addr) (k : ClassId) (cs : Int32) (y0 : Int32) (fmt : Value) (h0 : Heap) (n0 : Nat) (Z0 : n0 ≤ h0.size) (E1 : Exa Z h0 a1 "java/lang/String") (Fv : Fld Z h0 a1 "java/lang/String" "value" "[B" (.ref b)) (Fc : Fld Z h0 a1 "java/lang/String" "coder" "B" (.int 0)) (V : Arv Z h0 b k .byte 1 [(.int y0)] (.int 0)) (O : Old Z n0 h0) (S_C : Sta Z Z.heap "java/lang/String" "COMPACT_STRINGS" "Z" (.int cs)) (hcs : ¬ cs = (0 : Int32)) (S_F : Sta Z Z.heap "jdk/internal/util/Preconditions" "SIOOBE_FORMATTER" "Ljava/util/function/BiFunction;" fmt) (hfmt : fmt = .null ∨ ∃ o : Addr, fmt = .ref o) :
    own_MetS l Z consts_1 [a1] [] (⟨"com/example/chartpost/chartpost/http/PathSegments", "isName", "(Ljava/lang/String;)Z"⟩ : MethodName) prog_30_method_2_code 2 (some .boolean) ({ frames := 5, cells := 6, slots := 340, locals := 67 } : Room) #[(.ref a1)] h0 (fun v h L => v = some (.int (own_nm [y0] [(nar .char (own_lc y0))])) ∧ Fr n0 L) := by
  refine MetFree.of_bodySF (plainFor_of_name own_pn5) hisR ?_
  intro p e s m args below meth c s₁ Bd hml0 hP hK
  obtain ⟨rfl, hZ, hh, H0, SF0⟩ := hP
  have hx := Bd.exec
  have hby := Bd.bytes
  have hml : c.maxLocals = 2 := hml0
  have hown : s.vm.findClass "com/example/chartpost/chartpost/http/PathSegments" = some m.cls := findClass_of_methodNamed Bd.named
  have hnm := (name_of_methodNamed Bd.named Bd.method).1
  have hlk : meth.locks = false := Bd.notSynchronized
  have X0 : Stand p l e ({ frames := 5, cells := 6, slots := 340, locals := 67 } : Room) s m #[(.ref a1)] below meth c s₁ [] 0 0 := Stand.of_body Bd
  have e0 : s₁.heap = h0 := by rw [← hh, Bd.state]; rfl
  have N0 := Fr.nil n0
  refine own_bodyW (Q := fun v h L => v = some (.int (own_nm [y0] [(nar .char (own_lc y0))])) ∧ Fr n0 L) ?_
  refine own_go (fun _ kont => castTop (own_ef m #[(.ref a1)] 2 #[.val (.ref a1), .unset] (own_al [(.ref a1)] 2 [.val (.ref a1), .unset] rfl)) kont) ?_
  show own_Go _ _ _ _ (s₁.setTop (mkF m 0 #[.val (.ref a1), .unset] []))
  have SF := (SF0 a1 (List.mem_of_getElem? (i := 0) rfl)).2
  have Hc := H0
  refine own_go (fun _ => XS.aloadN X0.here hx rfl (hb hby own_d8_0) rfl rfl) ?_
  show own_Go _ _ _ _ (s₁.setTop (mkF m 1 #[.val (.ref a1), .unset] [(.ref a1)]))
  obtain ⟨cq1, kq1, q1a, q1b, q1c⟩ := isOf hZ e0 E1
  obtain ⟨_, _, ⟨T1, L1, k1, n1⟩, -, X1, ⟨Lc1, hQ1, l1, y1, z1⟩, st1⟩ := X0.virtualBack hx (y := (⟨"java/lang/String", "isEmpty", "()Z"⟩ : MethodName)) (z := (⟨"java/lang/String", "isEmpty", "()Z"⟩ : MethodName)) hown (mvT hZ (hw _ (List.mem_of_getElem? (i := 39) rfl))) (mvT hZ (hw _ (List.mem_of_getElem? (i := 40) rfl))) (notFace_of_selects (args := #[]) (mvT hZ (hw _ (List.mem_of_getElem? (i := 42) rfl)))) (mvT hZ (hw _ (List.mem_of_getElem? (i := 42) rfl))) (mvT hZ (hw _ (List.mem_of_getElem? (i := 41) rfl))) (by decide) (own_back (W := 0) (own_rme l Z a0 hw a1 b k 1 _ h0 n0 Z0 Fv V (by decide)) hZ (hw _ (List.mem_of_getElem? (i := 43) rfl)) (hw _ (List.mem_of_getElem? (i := 3) rfl)) (by decide) (by decide)) q1a q1c (g := (mkF m 1 #[.val (.ref a1), .unset] [(.ref a1)])) rfl (by rw [hml]; rfl) (Steps.refl _) (argsL := []) (rest := []) (lenOf own_pd3 rfl) rfl (by show 2 * 0 + _ ≤ _; exact Nat.le_of_eq rfl) (hb hby own_d8_1) (fun _ _ => ⟨rfl, e0, (by decide : 0 + 0 ≤ _), (by decide : 0 + 0 ≤ _)⟩)
  dsimp only [Pt.U, Pt.locs, Pt.cells, Pt.slots] at X1 l1 y1 z1 st1 hQ1
  replace X1 := own_cst X1 l1 y1 z1 (k2 := 0) (n2 := 0) rfl rfl
  clear l1 y1 z1
  obtain ⟨rfl, Nq1, eq1⟩ := hQ1
  have NF1 := Fr.app N0 Nq1
  refine own_goT st1 ?_
  show own_Go _ _ _ _ (T1.setTop (mkF m 4 #[.val (.ref a1), .unset] [(.int (0 : Int32))]))
  refine own_go (fun _ => XS.ifNo X1.here hx rfl (hb hby own_d8_4) rfl ((if0 _ _).trans (teq rfl).2)) ?_
  show own_Go _ _ _ _ (T1.setTop (mkF m 7 #[.val (.ref a1), .unset] []))
  refine own_go (fun _ => XS.aloadN X1.here hx rfl (hb hby own_d8_7) rfl rfl) ?_
  show own_Go _ _ _ _ (T1.setTop (mkF m 8 #[.val (.ref a1), .unset] [(.ref a1)]))
  obtain ⟨la2, T2, h2, kq2, lb2, kb2, X2, e2, E2, hS2, hsw2, hZ2, hown2, Ex2, Fc2, Fv2, V2, -, -, CR2, Lt2, sf2, st2⟩ := ldcCH (s := s) (vm0 := s.vm) (EL := consts_1) X1 hx hZ hown (hw _ (List.mem_of_getElem? (i := 44) rfl)) (own_ws hw) eq1 (State.WarmedH.since (State.WarmedH.refl s) _) (Nat.le_refl _) (own_ew hw) (List.mem_of_getElem? (i := 0) rfl) Hc (vs := [.int 46]) (z := 1) ⟨by decide +kernel, by first | rfl | decide +kernel⟩ (by decide) rfl (g := (mkF m 8 #[.val (.ref a1), .unset] [(.ref a1)])) rfl (hb hby own_d8_8) (n := 4) (by decide) (by decide) (by decide) (by decide)
  have SF := CR2.safe E1.lt SF
  have ne_la2 : ¬ a1 = la2 := (sf2 _ SF).1
  refine own_go st2 ?_
  replace E1 := E1.ext E2
  replace Fv := Fv.ext E2
  replace Fc := Fc.ext E2
  replace V := V.ext E2
  replace O := O.ext E2
  replace Z0 := Nat.le_trans Z0 E2.1
  have hZ := hZ2
  have hown := hown2
  have hS := hS2
  have hsw := hsw2
  have Hc := CR2.1
  show own_Go _ _ _ _ (T2.setTop (mkF m 10 #[.val (.ref a1), .unset] [(.ref la2), (.ref a1)]))
  obtain ⟨cq3, kq3, q3a, q3b, q3c⟩ := isOf hZ e2 E1
  obtain ⟨_, _, ⟨T3, L3, k3, n3⟩, -, X3, ⟨Lc3, hQ3, l3, y3, z3⟩, st3⟩ := X2.virtualBack hx (y := (⟨"java/lang/String", "equals", "(Ljava/lang/Object;)Z"⟩ : MethodName)) (z := (⟨"java/lang/String", "equals", "(Ljava/lang/Object;)Z"⟩ : MethodName)) hown (mvT hZ (hw _ (List.mem_of_getElem? (i := 47) rfl))) (mvT hZ (hw _ (List.mem_of_getElem? (i := 48) rfl))) (notFace_of_selects (args := #[]) (mvT hZ (hw _ (List.mem_of_getElem? (i := 50) rfl)))) (mvT hZ (hw _ (List.mem_of_getElem? (i := 50) rfl))) (mvT hZ (hw _ (List.mem_of_getElem? (i := 49) rfl))) (by decide) (own_back (W := 0) (own_rmeq0 l Z a0 hw a1 la2 cs b lb2 (own_same [y0] [46]) h2 n0 Z0 Fc O S_C hcs ne_la2 Ex2 Fc2 Fv Fv2 (own_rmle1 l Z a0 hw b k lb2 kb2 y0 46 h2 n0 Z0 V V2) own_same1) hZ (hw _ (List.mem_of_getElem? (i := 51) rfl)) (hw _ (List.mem_of_getElem? (i := 3) rfl)) (by decide) (by decide)) q3a q3c (g := (mkF m 10 #[.val (.ref a1), .unset] [(.ref la2), (.ref a1)])) rfl (by rw [hml]; rfl) (Steps.refl _) (argsL := [(.ref la2)]) (rest := []) (lenOf own_pd19 rfl) rfl (by show 2 * 0 + _ ≤ _; exact Nat.le_of_eq rfl) (hb hby own_d8_10) (fun _ _ => ⟨rfl, e2, (by decide : 2 + 0 ≤ _), (by decide : 8 + 0 ≤ _)⟩)
  dsimp only [Pt.U, Pt.locs, Pt.cells, Pt.slots] at X3 l3 y3 z3 st3 hQ3
  replace X3 := own_cst X3 l3 y3 z3 (k2 := 2) (n2 := 8) rfl rfl
  clear l3 y3 z3
  obtain ⟨rfl, Nq3, eq3⟩ := hQ3
  have NF3 := Fr.app NF1 Nq3
  refine own_goT st3 ?_
  show own_Go _ _ _ _ (T3.setTop (mkF m 13 #[.val (.ref a1), .unset] [(.int (own_same [y0] [46]))]))
  by_cases hd1 : (own_same [y0] [46]) = (0 : Int32)
  · have _h := hd1
    refine own_go (fun _ => XS.ifNo X3.here hx rfl (hb hby own_d8_13) rfl ((if0 _ _).trans (teq hd1).2)) ?_
    show own_Go _ _ _ _ (T3.setTop (mkF m 16 #[.val (.ref a1), .unset] []))
    refine own_go (fun _ => XS.aloadN X3.here hx rfl (hb hby own_d8_16) rfl rfl) ?_
    show own_Go _ _ _ _ (T3.setTop (mkF m 17 #[.val (.ref a1), .unset] [(.ref a1)]))
    obtain ⟨la4, T4, h4, kq4, lb4, kb4, X4, e4, E4, hS4, hsw4, hZ4, hown4, Ex4, Fc4, Fv4, V4, -, -, CR4, Lt4, sf4, st4⟩ := ldcCH (s := s) (vm0 := T2.vm) (EL := consts_1) X3 hx hZ hown (hw _ (List.mem_of_getElem? (i := 57) rfl)) (own_ws hw) eq3 hS hsw (own_ew hw) (List.mem_of_getElem? (i := 1) rfl) Hc (vs := [.int 46, .int 46]) (z := 2) ⟨by decide +kernel, by first | rfl | decide +kernel⟩ (by decide) rfl (g := (mkF m 17 #[.val (.ref a1), .unset] [(.ref a1)])) rfl (hb hby own_d8_17) (n := 8) (by decide) (by decide) (by decide) (by decide)
    have SF := CR4.safe E1.lt SF
    have ne_la4 : ¬ a1 = la4 := (sf4 _ SF).1
    refine own_go st4 ?_
    replace E1 := E1.ext E4
    replace Fv := Fv.ext E4
    replace Fc := Fc.ext E4
    replace V := V.ext E4
    replace O := O.ext E4
    replace Ex2 := Ex2.ext E4
    replace Fv2 := Fv2.ext E4
    replace Fc2 := Fc2.ext E4
    replace V2 := V2.ext E4
    replace Z0 := Nat.le_trans Z0 E4.1
    replace hsw := Nat.le_trans hsw E4.1
    have hZ := hZ4
    have hown := hown4
    have hS := hS4
    have hsw := hsw4
    have Hc := CR4.1
    show own_Go _ _ _ _ (T4.setTop (mkF m 19 #[.val (.ref a1), .unset] [(.ref la4), (.ref a1)]))
    obtain ⟨cq5, kq5, q5a, q5b, q5c⟩ := isOf hZ e4 E1
    obtain ⟨_, _, ⟨T5, L5, k5, n5⟩, -, X5, ⟨Lc5, hQ5, l5, y5, z5⟩, st5⟩ := X4.virtualBack hx (y := (⟨"java/lang/String", "equals", "(Ljava/lang/Object;)Z"⟩ : MethodName)) (z := (⟨"java/lang/String", "equals", "(Ljava/lang/Object;)Z"⟩ : MethodName)) hown (mvT hZ (hw _ (List.mem_of_getElem? (i := 47) rfl))) (mvT hZ (hw _ (List.mem_of_getElem? (i := 48) rfl))) (notFace_of_selects (args := #[]) (mvT hZ (hw _ (List.mem_of_getElem? (i := 50) rfl)))) (mvT hZ (hw _ (List.mem_of_getElem? (i := 50) rfl))) (mvT hZ (hw _ (List.mem_of_getElem? (i := 49) rfl))) (by decide) (own_back (W := 0) (own_rmeq0 l Z a0 hw a1 la4 cs b lb4 0 h4 n0 Z0 Fc O S_C hcs ne_la4 Ex4 Fc4 Fv Fv4 (own_rmleD l Z a0 hw b k lb4 kb4 1 2 _ _ h4 n0 Z0 V V4 (by decide)) (fun q => absurd rfl q)) hZ (hw _ (List.mem_of_getElem? (i := 51) rfl)) (hw _ (List.mem_of_getElem? (i := 3) rfl)) (by decide) (by decide)) q5a q5c (g := (mkF m 19 #[.val (.ref a1), .unset] [(.ref la4), (.ref a1)])) rfl (by rw [hml]; rfl) (Steps.refl _) (argsL := [(.ref la4)]) (rest := []) (lenOf own_pd19 rfl) rfl (by show 2 * 0 + _ ≤ _; exact Nat.le_of_eq rfl) (hb hby own_d8_19) (fun _ _ => ⟨rfl, e4, (by decide : 4 + 0 ≤ _), (by decide : 20 + 0 ≤ _)⟩)
    dsimp only [Pt.U, Pt.locs, Pt.cells, Pt.slots] at X5 l5 y5 z5 st5 hQ5
    replace X5 := own_cst X5 l5 y5 z5 (k2 := 4) (n2 := 20) rfl rfl
    clear l5 y5 z5
    obtain ⟨rfl, Nq5, eq5⟩ := hQ5
    have NF5 := Fr.app NF3 Nq5
    refine own_goT st5 ?_
    show own_Go _ _ _ _ (T5.setTop (mkF m 22 #[.val (.ref a1), .unset] [(.int (0 : Int32))]))
    have hd2 : own_same [y0] [46, 46] = 0 := by simp [own_same]
    refine own_go (fun _ => XS.ifYes X5.here hx rfl (pc0 := 22) (pc' := 27) rfl (hb hby own_d8_22) rfl ((if0 _ _).trans (teq rfl).1) (by decide) (by decide)) ?_
    show own_Go _ _ _ _ (T5.setTop (mkF m 27 #[.val (.ref a1), .unset] []))
    refine own_go (fun _ => XS.iconst X5.here hx rfl (hb hby own_d8_27)) ?_
    refine own_go (fun _ => XS.istoreN X5.here hx rfl (hb hby own_d8_28) rfl (l' := #[.val (.ref a1), .val (.int (0 : Int32))]) rfl) ?_
    refine own_go (fun _ => XS.iloadN X5.here hx rfl (hb hby own_d8_29) rfl) ?_
    refine own_go (fun _ => XS.aloadN X5.here hx rfl (hb hby own_d8_30) rfl rfl) ?_
    show own_Go _ _ _ _ (T5.setTop (mkF m 31 #[.val (.ref a1), .val (.int (0 : Int32))] [(.ref a1), (.int (0 : Int32))]))
    obtain ⟨cq6, kq6, q6a, q6b, q6c⟩ := isOf hZ eq5 E1
    obtain ⟨_, _, ⟨T6, L6, k6, n6⟩, -, X6, ⟨Lc6, hQ6, l6, y6, z6⟩, st6⟩ := X5.virtualBack hx (y := (⟨"java/lang/String", "length", "()I"⟩ : MethodName)) (z := (⟨"java/lang/String", "length", "()I"⟩ : MethodName)) hown (mvT hZ (hw _ (List.mem_of_getElem? (i := 58) rfl))) (mvT hZ (hw _ (List.mem_of_getElem? (i := 59) rfl))) (notFace_of_selects (args := #[]) (mvT hZ (hw _ (List.mem_of_getElem? (i := 61) rfl)))) (mvT hZ (hw _ (List.mem_of_getElem? (i := 61) rfl))) (mvT hZ (hw _ (List.mem_of_getElem? (i := 60) rfl))) (by decide) (own_back (W := 1) (own_rmln0 l Z a0 hw a1 b k cs 1 1 _ h4 n0 Z0 E1 Fv Fc V O S_C hcs (by decide)) hZ (hw _ (List.mem_of_getElem? (i := 62) rfl)) (hw _ (List.mem_of_getElem? (i := 3) rfl)) (by decide) (by decide)) q6a q6c (g := (mkF m 31 #[.val (.ref a1), .val (.int (0 : Int32))] [(.ref a1), (.int (0 : Int32))])) rfl (by rw [hml]; rfl) (Steps.refl _) (argsL := []) (rest := [(.int (0 : Int32))]) (lenOf own_pd18 rfl) rfl (by show 2 * 0 + _ ≤ _; exact Nat.le_of_eq rfl) (hb hby own_d8_31) (fun _ _ => ⟨rfl, eq5, (by decide : 4 + 0 ≤ _), (by decide : 20 + 0 ≤ _)⟩)
    dsimp only [Pt.U, Pt.locs, Pt.cells, Pt.slots] at X6 l6 y6 z6 st6 hQ6
    replace X6 := own_cst X6 l6 y6 z6 (k2 := 4) (n2 := 20) rfl rfl
    clear l6 y6 z6
    obtain ⟨rfl, Nq6, eq6⟩ := hQ6
    have NF6 := Fr.app NF5 Nq6
    refine own_goT st6 ?_
    show own_Go _ _ _ _ (T6.setTop (mkF m 34 #[.val (.ref a1), .val (.int (0 : Int32))] [(.int (1 : Int32)), (.int (0 : Int32))]))
    refine own_go (fun _ => XS.icmpNo X6.here hx rfl (hb hby own_d8_34) rfl (tlt (by decide)).2.1) ?_
    show own_Go _ _ _ _ (T6.setTop (mkF m 37 #[.val (.ref a1), .val (.int (0 : Int32))] []))
    obtain ⟨la7, T7, h7, kq7, lb7, kb7, X7, e7, E7, hS7, hsw7, hZ7, hown7, Ex7, Fc7, Fv7, V7, -, -, CR7, Lt7, sf7, st7⟩ := ldcCH (s := s) (vm0 := T4.vm) (EL := consts_1) X6 hx hZ hown (hw _ (List.mem_of_getElem? (i := 68) rfl)) (own_ws hw) eq6 hS hsw (own_ew hw) (List.mem_of_getElem? (i := 2) rfl) Hc (vs := (own_alpha.map Value.int)) (z := 79) ⟨by decide +kernel, by first | rfl | decide +kernel⟩ (by decide) rfl (g := (mkF m 37 #[.val (.ref a1), .val (.int (0 : Int32))] [])) rfl (hb hby own_d8_37) (n := 316) (by decide) (by decide) (by decide) (by decide)
    have SF := CR7.safe E1.lt SF
    have ne_la7 : ¬ a1 = la7 := (sf7 _ SF).1
    refine own_go st7 ?_
    replace E1 := E1.ext E7
    replace Fv := Fv.ext E7
    replace Fc := Fc.ext E7
    replace V := V.ext E7
    replace O := O.ext E7
    replace Ex2 := Ex2.ext E7
    replace Fv2 := Fv2.ext E7
    replace Fc2 := Fc2.ext E7
    replace V2 := V2.ext E7
    replace Ex4 := Ex4.ext E7
    replace Fv4 := Fv4.ext E7
    replace Fc4 := Fc4.ext E7
    replace V4 := V4.ext E7
    replace Z0 := Nat.le_trans Z0 E7.1
    replace hsw := Nat.le_trans hsw E7.1
    have hZ := hZ7
    have hown := hown7
    have hS := hS7
    have hsw := hsw7
    have Hc := CR7.1
    show own_Go _ _ _ _ (T7.setTop (mkF m 39 #[.val (.ref a1), .val (.int (0 : Int32))] [(.ref la7)]))
    refine own_go (fun _ => XS.aloadN X7.here hx rfl (hb hby own_d8_39) rfl rfl) ?_
    refine own_go (fun _ => XS.iloadN X7.here hx rfl (hb hby own_d8_40) rfl) ?_
    show own_Go _ _ _ _ (T7.setTop (mkF m 41 #[.val (.ref a1), .val (.int (0 : Int32))] [(.int (0 : Int32)), (.ref a1), (.ref la7)]))
    obtain ⟨cq8, kq8, q8a, q8b, q8c⟩ := isOf hZ e7 E1
    obtain ⟨_, _, ⟨T8, L8, k8, n8⟩, -, X8, ⟨Lc8, hQ8, l8, y8, z8⟩, st8⟩ := X7.virtualBack hx (y := (⟨"java/lang/String", "charAt", "(I)C"⟩ : MethodName)) (z := (⟨"java/lang/String", "charAt", "(I)C"⟩ : MethodName)) hown (mvT hZ (hw _ (List.mem_of_getElem? (i := 69) rfl))) (mvT hZ (hw _ (List.mem_of_getElem? (i := 70) rfl))) (notFace_of_selects (args := #[]) (mvT hZ (hw _ (List.mem_of_getElem? (i := 72) rfl)))) (mvT hZ (hw _ (List.mem_of_getElem? (i := 72) rfl))) (mvT hZ (hw _ (List.mem_of_getElem? (i := 71) rfl))) (by decide) (own_back (W := 1) (own_rmcaL l Z a0 hw a1 b k cs fmt 1 0 y0 _ h7 n0 Z0 E1 Fv Fc V O S_C hcs S_F hfmt (by decide) (by decide) rfl) hZ (hw _ (List.mem_of_getElem? (i := 73) rfl)) (hw _ (List.mem_of_getElem? (i := 3) rfl)) (by decide) (by decide)) q8a q8c (g := (mkF m 41 #[.val (.ref a1), .val (.int (0 : Int32))] [(.int (0 : Int32)), (.ref a1), (.ref la7)])) rfl (by rw [hml]; rfl) (Steps.refl _) (argsL := [(.int (0 : Int32))]) (rest := [(.ref la7)]) (lenOf own_pd20 rfl) rfl (by show 2 * 0 + _ ≤ _; exact Nat.le_of_eq rfl) (hb hby own_d8_41) (fun _ _ => ⟨rfl, e7, (by decide : 6 + 0 ≤ _), (by decide : 340 + 0 ≤ _)⟩)
    dsimp only [Pt.U, Pt.locs, Pt.cells, Pt.slots] at X8 l8 y8 z8 st8 hQ8
    replace X8 := own_cst X8 l8 y8 z8 (k2 := 6) (n2 := 340) rfl rfl
    clear l8 y8 z8
    obtain ⟨rfl, Nq8, eq8⟩ := hQ8
    have NF8 := Fr.app NF6 Nq8
    refine own_goT st8 ?_
    show own_Go _ _ _ _ (T8.setTop (mkF m 44 #[.val (.ref a1), .val (.int (0 : Int32))] [(.int (nar .char (own_lc y0))), (.ref la7)]))
    obtain ⟨cq9, kq9, q9a, q9b, q9c⟩ := isOf hZ eq8 Ex7
    obtain ⟨_, _, ⟨T9, L9, k9, n9⟩, -, X9, ⟨Lc9, hQ9, l9, y9, z9⟩, st9⟩ := X8.virtualBack hx (y := (⟨"java/lang/String", "indexOf", "(I)I"⟩ : MethodName)) (z := (⟨"java/lang/String", "indexOf", "(I)I"⟩ : MethodName)) hown (mvT hZ (hw _ (List.mem_of_getElem? (i := 90) rfl))) (mvT hZ (hw _ (List.mem_of_getElem? (i := 91) rfl))) (notFace_of_selects (args := #[]) (mvT hZ (hw _ (List.mem_of_getElem? (i := 93) rfl)))) (mvT hZ (hw _ (List.mem_of_getElem? (i := 93) rfl))) (mvT hZ (hw _ (List.mem_of_getElem? (i := 92) rfl))) (by decide) (own_back (W := 0) (own_rmUA l Z a0 hw la7 lb7 kb7 cs (nar .char (own_lc y0)) h7 n0 Z0 Ex7 Fv7 Fc7 V7 O S_C hcs (own_chn _)) hZ (hw _ (List.mem_of_getElem? (i := 94) rfl)) (hw _ (List.mem_of_getElem? (i := 3) rfl)) (by decide) (by decide)) q9a q9c (g := (mkF m 44 #[.val (.ref a1), .val (.int (0 : Int32))] [(.int (nar .char (own_lc y0))), (.ref la7)])) rfl (by rw [hml]; rfl) (Steps.refl _) (argsL := [(.int (nar .char (own_lc y0)))]) (rest := []) (lenOf own_pd9 rfl) rfl (by show 2 * 0 + _ ≤ _; exact Nat.le_of_eq rfl) (hb hby own_d8_44) (fun _ _ => ⟨rfl, eq8, (by decide : 6 + 0 ≤ _), (by decide : 340 + 0 ≤ _)⟩)
    dsimp only [Pt.U, Pt.locs, Pt.cells, Pt.slots] at X9 l9 y9 z9 st9 hQ9
    replace X9 := own_cst X9 l9 y9 z9 (k2 := 6) (n2 := 340) rfl rfl
    clear l9 y9 z9
    obtain ⟨ri0, rfl, Nq9, eq9, hi0⟩ := hQ9
    have NF9 := Fr.app NF8 Nq9
    refine own_goT st9 ?_
    show own_Go _ _ _ _ (T9.setTop (mkF m 47 #[.val (.ref a1), .val (.int (0 : Int32))] [(.int ri0)]))
    by_cases hr0 : ri0 < (0 : Int32)
    · have _h := hr0
      have hk0 : own_okc (nar .char (own_lc y0)) = 0 := hi0.mp hr0
      refine own_go (fun _ => XS.ifNo X9.here hx rfl (hb hby own_d8_47) rfl ((if0 _ _).trans (tlt hr0).2.1)) ?_
      show own_Go _ _ _ _ (T9.setTop (mkF m 50 #[.val (.ref a1), .val (.int (0 : Int32))] []))
      refine own_go (fun _ => XS.iconst X9.here hx rfl (hb hby own_d8_50)) ?_
      show own_Go _ _ _ _ (T9.setTop (mkF m 51 #[.val (.ref a1), .val (.int (0 : Int32))] [(.int (0 : Int32))]))
      refine own_retW X9 hS eq9 hsw hlk (v := some (.int (0 : Int32))) (fun h => by rw [Bd.returns] at h; cases h) (fun fs hr => retN X9 hx (t := .boolean) Bd.returns (by simp) (hb hby own_d8_51) hr) ?_ (by decide) (by decide)
      try rw [eq9]
      exact ⟨by simp [own_nm, hd1, hd2, hk0], NF9⟩
    · have _h := hr0
      have hk0 : ¬ own_okc (nar .char (own_lc y0)) = 0 := fun q => hr0 (hi0.mpr q)
      refine own_go (fun _ => XS.ifYes X9.here hx rfl (pc0 := 47) (pc' := 52) rfl (hb hby own_d8_47) rfl ((if0 _ _).trans (flt hr0).2.1) (by decide) (by decide)) ?_
      show own_Go _ _ _ _ (T9.setTop (mkF m 52 #[.val (.ref a1), .val (.int (0 : Int32))] []))
      refine own_go (fun _ => XS.iinc X9.here hx rfl (hb hby own_d8_52) rfl (l' := #[.val (.ref a1), .val (.int (1 : Int32))]) rfl) ?_
      refine own_go (fun _ => XS.goto X9.here hx rfl (pc0 := 55) (pc' := 29) rfl (hb hby own_d8_55) (by decide) (by decide)) ?_
      refine own_go (fun _ => XS.iloadN X9.here hx rfl (hb hby own_d8_29) rfl) ?_
      refine own_go (fun _ => XS.aloadN X9.here hx rfl (hb hby own_d8_30) rfl rfl) ?_
      show own_Go _ _ _ _ (T9.setTop (mkF m 31 #[.val (.ref a1), .val (.int (1 : Int32))] [(.ref a1), (.int (1 : Int32))]))
      obtain ⟨cq10, kq10, q10a, q10b, q10c⟩ := isOf hZ eq9 E1
      obtain ⟨_, _, ⟨T10, L10, k10, n10⟩, -, X10, ⟨Lc10, hQ10, l10, y10, z10⟩, st10⟩ := X9.virtualBack hx (y := (⟨"java/lang/String", "length", "()I"⟩ : MethodName)) (z := (⟨"java/lang/String", "length", "()I"⟩ : MethodName)) hown (mvT hZ (hw _ (List.mem_of_getElem? (i := 58) rfl))) (mvT hZ (hw _ (List.mem_of_getElem? (i := 59) rfl))) (notFace_of_selects (args := #[]) (mvT hZ (hw _ (List.mem_of_getElem? (i := 61) rfl)))) (mvT hZ (hw _ (List.mem_of_getElem? (i := 61) rfl))) (mvT hZ (hw _ (List.mem_of_getElem? (i := 60) rfl))) (by decide) (own_back (W := 1) (own_rmln0 l Z a0 hw a1 b k cs 1 1 _ h7 n0 Z0 E1 Fv Fc V O S_C hcs (by decide)) hZ (hw _ (List.mem_of_getElem? (i := 62) rfl)) (hw _ (List.mem_of_getElem? (i := 3) rfl)) (by decide) (by decide)) q10a q10c (g := (mkF m 31 #[.val (.ref a1), .val (.int (1 : Int32))] [(.ref a1), (.int (1 : Int32))])) rfl (by rw [hml]; rfl) (Steps.refl _) (argsL := []) (rest := [(.int (1 : Int32))]) (lenOf own_pd18 rfl) rfl (by show 2 * 0 + _ ≤ _; exact Nat.le_of_eq rfl) (hb hby own_d8_31) (fun _ _ => ⟨rfl, eq9, (by decide : 6 + 0 ≤ _), (by decide : 340 + 0 ≤ _)⟩)
      dsimp only [Pt.U, Pt.locs, Pt.cells, Pt.slots] at X10 l10 y10 z10 st10 hQ10
      replace X10 := own_cst X10 l10 y10 z10 (k2 := 6) (n2 := 340) rfl rfl
      clear l10 y10 z10
      obtain ⟨rfl, Nq10, eq10⟩ := hQ10
      have NF10 := Fr.app NF9 Nq10
      refine own_goT st10 ?_
      show own_Go _ _ _ _ (T10.setTop (mkF m 34 #[.val (.ref a1), .val (.int (1 : Int32))] [(.int (1 : Int32)), (.int (1 : Int32))]))
      refine own_go (fun _ => XS.icmpYes X10.here hx rfl (pc0 := 34) (pc' := 58) rfl (hb hby own_d8_34) rfl (flt (by decide)).2.1 (by decide) (by decide)) ?_
      show own_Go _ _ _ _ (T10.setTop (mkF m 58 #[.val (.ref a1), .val (.int (1 : Int32))] []))
      refine own_go (fun _ => XS.iconst X10.here hx rfl (hb hby own_d8_58)) ?_
      show own_Go _ _ _ _ (T10.setTop (mkF m 59 #[.val (.ref a1), .val (.int (1 : Int32))] [(.int (1 : Int32))]))
      refine own_retW X10 hS eq10 hsw hlk (v := some (.int (1 : Int32))) (fun h => by rw [Bd.returns] at h; cases h) (fun fs hr => retN X10 hx (t := .boolean) Bd.returns (by simp) (hb hby own_d8_59) hr) ?_ (by decide) (by decide)
      try rw [eq10]
      exact ⟨by simp [own_nm, hd1, hd2, hk0], NF10⟩
  · have _h := hd1
    refine own_go (fun _ => XS.ifYes X3.here hx rfl (pc0 := 13) (pc' := 25) rfl (hb hby own_d8_13) rfl ((if0 _ _).trans (feq hd1).2) (by decide) (by decide)) ?_
    show own_Go _ _ _ _ (T3.setTop (mkF m 25 #[.val (.ref a1), .unset] []))
    refine own_go (fun _ => XS.iconst X3.here hx rfl (hb hby own_d8_25)) ?_
    show own_Go _ _ _ _ (T3.setTop (mkF m 26 #[.val (.ref a1), .unset] [(.int (0 : Int32))]))
    refine own_retW X3 hS eq3 hsw hlk (v := some (.int (0 : Int32))) (fun h => by rw [Bd.returns] at h; cases h) (fun fs hr => retN X3 hx (t := .boolean) Bd.returns (by simp) (hb hby own_d8_26) hr) ?_ (by decide) (by decide)
    try rw [eq3]
    exact ⟨by simp [own_nm, hd1], NF3⟩
set_option maxRecDepth 65536 in
set_option maxHeartbeats 40000000 in
theorem own_rmNU1 (l : Launch) (Z : State) (a0 : Array Value) (hw : ∀ d ∈ tables_1, d.before a0 Z = true) (a1 : Addr) (b : Addr) (k : ClassId) (cs : Int32) (w0 : Int32) (w1 : Int32) (fmt : Value) (h0 : Heap) (n0 : Nat) (Z0 : n0 ≤ h0.size) (E1 : Exa Z h0 a1 "java/lang/String") (Fv : Fld Z h0 a1 "java/lang/String" "value" "[B" (.ref b)) (Fc : Fld Z h0 a1 "java/lang/String" "coder" "B" (.int 1)) (V : Arv Z h0 b k .byte 2 [(.int w0), (.int w1)] (.int 0)) (O : Old Z n0 h0) (S_C : Sta Z Z.heap "java/lang/String" "COMPACT_STRINGS" "Z" (.int cs)) (hcs : ¬ cs = (0 : Int32)) (S_F : Sta Z Z.heap "jdk/internal/util/Preconditions" "SIOOBE_FORMATTER" "Ljava/util/function/BiFunction;" fmt) (hfmt : fmt = .null ∨ ∃ o : Addr, fmt = .ref o) (S_A : Sta Z Z.heap "java/lang/StringUTF16" "$assertionsDisabled" "Z" (.int 1)) (S_H : Sta Z Z.heap "java/lang/StringUTF16" "HI_BYTE_SHIFT" "I" (.int 0)) (S_L : Sta Z Z.heap "java/lang/StringUTF16" "LO_BYTE_SHIFT" "I" (.int 8)) :
    own_MetS l Z consts_1 [a1] [] (⟨"com/example/chartpost/chartpost/http/PathSegments", "isName", "(Ljava/lang/String;)Z"⟩ : MethodName) prog_30_method_2_code 2 (some .boolean) ({ frames := 5, cells := 6, slots := 340, locals := 67 } : Room) #[(.ref a1)] h0 (fun v h L => v = some (.int (own_nmU [(nar .char (nar .char (own_gc w0 w1)))])) ∧ Fr n0 L) := by
  refine MetFree.of_bodySF (plainFor_of_name own_pn5) hisR ?_
  intro p e s m args below meth c s₁ Bd hml0 hP hK
  obtain ⟨rfl, hZ, hh, H0, SF0⟩ := hP
  have hx := Bd.exec
  have hby := Bd.bytes
  have hml : c.maxLocals = 2 := hml0
  have hown : s.vm.findClass "com/example/chartpost/chartpost/http/PathSegments" = some m.cls := findClass_of_methodNamed Bd.named
  have hnm := (name_of_methodNamed Bd.named Bd.method).1
  have hlk : meth.locks = false := Bd.notSynchronized
  have X0 : Stand p l e ({ frames := 5, cells := 6, slots := 340, locals := 67 } : Room) s m #[(.ref a1)] below meth c s₁ [] 0 0 := Stand.of_body Bd
  have e0 : s₁.heap = h0 := by rw [← hh, Bd.state]; rfl
  have N0 := Fr.nil n0
  refine own_bodyW (Q := fun v h L => v = some (.int (own_nmU [(nar .char (nar .char (own_gc w0 w1)))])) ∧ Fr n0 L) ?_
  refine own_go (fun _ kont => castTop (own_ef m #[(.ref a1)] 2 #[.val (.ref a1), .unset] (own_al [(.ref a1)] 2 [.val (.ref a1), .unset] rfl)) kont) ?_
  show own_Go _ _ _ _ (s₁.setTop (mkF m 0 #[.val (.ref a1), .unset] []))
  have SF := (SF0 a1 (List.mem_of_getElem? (i := 0) rfl)).2
  have Hc := H0
  refine own_go (fun _ => XS.aloadN X0.here hx rfl (hb hby own_d8_0) rfl rfl) ?_
  show own_Go _ _ _ _ (s₁.setTop (mkF m 1 #[.val (.ref a1), .unset] [(.ref a1)]))
  obtain ⟨cq1, kq1, q1a, q1b, q1c⟩ := isOf hZ e0 E1
  obtain ⟨_, _, ⟨T1, L1, k1, n1⟩, -, X1, ⟨Lc1, hQ1, l1, y1, z1⟩, st1⟩ := X0.virtualBack hx (y := (⟨"java/lang/String", "isEmpty", "()Z"⟩ : MethodName)) (z := (⟨"java/lang/String", "isEmpty", "()Z"⟩ : MethodName)) hown (mvT hZ (hw _ (List.mem_of_getElem? (i := 39) rfl))) (mvT hZ (hw _ (List.mem_of_getElem? (i := 40) rfl))) (notFace_of_selects (args := #[]) (mvT hZ (hw _ (List.mem_of_getElem? (i := 42) rfl)))) (mvT hZ (hw _ (List.mem_of_getElem? (i := 42) rfl))) (mvT hZ (hw _ (List.mem_of_getElem? (i := 41) rfl))) (by decide) (own_back (W := 0) (own_rme l Z a0 hw a1 b k 2 _ h0 n0 Z0 Fv V (by decide)) hZ (hw _ (List.mem_of_getElem? (i := 43) rfl)) (hw _ (List.mem_of_getElem? (i := 3) rfl)) (by decide) (by decide)) q1a q1c (g := (mkF m 1 #[.val (.ref a1), .unset] [(.ref a1)])) rfl (by rw [hml]; rfl) (Steps.refl _) (argsL := []) (rest := []) (lenOf own_pd3 rfl) rfl (by show 2 * 0 + _ ≤ _; exact Nat.le_of_eq rfl) (hb hby own_d8_1) (fun _ _ => ⟨rfl, e0, (by decide : 0 + 0 ≤ _), (by decide : 0 + 0 ≤ _)⟩)
  dsimp only [Pt.U, Pt.locs, Pt.cells, Pt.slots] at X1 l1 y1 z1 st1 hQ1
  replace X1 := own_cst X1 l1 y1 z1 (k2 := 0) (n2 := 0) rfl rfl
  clear l1 y1 z1
  obtain ⟨rfl, Nq1, eq1⟩ := hQ1
  have NF1 := Fr.app N0 Nq1
  refine own_goT st1 ?_
  show own_Go _ _ _ _ (T1.setTop (mkF m 4 #[.val (.ref a1), .unset] [(.int (0 : Int32))]))
  refine own_go (fun _ => XS.ifNo X1.here hx rfl (hb hby own_d8_4) rfl ((if0 _ _).trans (teq rfl).2)) ?_
  show own_Go _ _ _ _ (T1.setTop (mkF m 7 #[.val (.ref a1), .unset] []))
  refine own_go (fun _ => XS.aloadN X1.here hx rfl (hb hby own_d8_7) rfl rfl) ?_
  show own_Go _ _ _ _ (T1.setTop (mkF m 8 #[.val (.ref a1), .unset] [(.ref a1)]))
  obtain ⟨la2, T2, h2, kq2, lb2, kb2, X2, e2, E2, hS2, hsw2, hZ2, hown2, Ex2, Fc2, Fv2, V2, -, -, CR2, Lt2, sf2, st2⟩ := ldcCH (s := s) (vm0 := s.vm) (EL := consts_1) X1 hx hZ hown (hw _ (List.mem_of_getElem? (i := 44) rfl)) (own_ws hw) eq1 (State.WarmedH.since (State.WarmedH.refl s) _) (Nat.le_refl _) (own_ew hw) (List.mem_of_getElem? (i := 0) rfl) Hc (vs := [.int 46]) (z := 1) ⟨by decide +kernel, by first | rfl | decide +kernel⟩ (by decide) rfl (g := (mkF m 8 #[.val (.ref a1), .unset] [(.ref a1)])) rfl (hb hby own_d8_8) (n := 4) (by decide) (by decide) (by decide) (by decide)
  have SF := CR2.safe E1.lt SF
  have ne_la2 : ¬ a1 = la2 := (sf2 _ SF).1
  refine own_go st2 ?_
  replace E1 := E1.ext E2
  replace Fv := Fv.ext E2
  replace Fc := Fc.ext E2
  replace V := V.ext E2
  replace O := O.ext E2
  replace Z0 := Nat.le_trans Z0 E2.1
  have hZ := hZ2
  have hown := hown2
  have hS := hS2
  have hsw := hsw2
  have Hc := CR2.1
  show own_Go _ _ _ _ (T2.setTop (mkF m 10 #[.val (.ref a1), .unset] [(.ref la2), (.ref a1)]))
  obtain ⟨cq3, kq3, q3a, q3b, q3c⟩ := isOf hZ e2 E1
  obtain ⟨_, _, ⟨T3, L3, k3, n3⟩, -, X3, ⟨Lc3, hQ3, l3, y3, z3⟩, st3⟩ := X2.virtualBack hx (y := (⟨"java/lang/String", "equals", "(Ljava/lang/Object;)Z"⟩ : MethodName)) (z := (⟨"java/lang/String", "equals", "(Ljava/lang/Object;)Z"⟩ : MethodName)) hown (mvT hZ (hw _ (List.mem_of_getElem? (i := 47) rfl))) (mvT hZ (hw _ (List.mem_of_getElem? (i := 48) rfl))) (notFace_of_selects (args := #[]) (mvT hZ (hw _ (List.mem_of_getElem? (i := 50) rfl)))) (mvT hZ (hw _ (List.mem_of_getElem? (i := 50) rfl))) (mvT hZ (hw _ (List.mem_of_getElem? (i := 49) rfl))) (by decide) (own_back (W := 0) (own_rmeq1 l Z a0 hw a1 la2 cs h2 n0 Z0 Fc O S_C hcs ne_la2 Ex2 Fc2) hZ (hw _ (List.mem_of_getElem? (i := 51) rfl)) (hw _ (List.mem_of_getElem? (i := 3) rfl)) (by decide) (by decide)) q3a q3c (g := (mkF m 10 #[.val (.ref a1), .unset] [(.ref la2), (.ref a1)])) rfl (by rw [hml]; rfl) (Steps.refl _) (argsL := [(.ref la2)]) (rest := []) (lenOf own_pd19 rfl) rfl (by show 2 * 0 + _ ≤ _; exact Nat.le_of_eq rfl) (hb hby own_d8_10) (fun _ _ => ⟨rfl, e2, (by decide : 2 + 0 ≤ _), (by decide : 8 + 0 ≤ _)⟩)
  dsimp only [Pt.U, Pt.locs, Pt.cells, Pt.slots] at X3 l3 y3 z3 st3 hQ3
  replace X3 := own_cst X3 l3 y3 z3 (k2 := 2) (n2 := 8) rfl rfl
  clear l3 y3 z3
  obtain ⟨rfl, Nq3, eq3⟩ := hQ3
  have NF3 := Fr.app NF1 Nq3
  refine own_goT st3 ?_
  show own_Go _ _ _ _ (T3.setTop (mkF m 13 #[.val (.ref a1), .unset] [(.int (0 : Int32))]))
  refine own_go (fun _ => XS.ifNo X3.here hx rfl (hb hby own_d8_13) rfl ((if0 _ _).trans (teq rfl).2)) ?_
  show own_Go _ _ _ _ (T3.setTop (mkF m 16 #[.val (.ref a1), .unset] []))
  refine own_go (fun _ => XS.aloadN X3.here hx rfl (hb hby own_d8_16) rfl rfl) ?_
  show own_Go _ _ _ _ (T3.setTop (mkF m 17 #[.val (.ref a1), .unset] [(.ref a1)]))
  obtain ⟨la4, T4, h4, kq4, lb4, kb4, X4, e4, E4, hS4, hsw4, hZ4, hown4, Ex4, Fc4, Fv4, V4, -, -, CR4, Lt4, sf4, st4⟩ := ldcCH (s := s) (vm0 := T2.vm) (EL := consts_1) X3 hx hZ hown (hw _ (List.mem_of_getElem? (i := 57) rfl)) (own_ws hw) eq3 hS hsw (own_ew hw) (List.mem_of_getElem? (i := 1) rfl) Hc (vs := [.int 46, .int 46]) (z := 2) ⟨by decide +kernel, by first | rfl | decide +kernel⟩ (by decide) rfl (g := (mkF m 17 #[.val (.ref a1), .unset] [(.ref a1)])) rfl (hb hby own_d8_17) (n := 8) (by decide) (by decide) (by decide) (by decide)
  have SF := CR4.safe E1.lt SF
  have ne_la4 : ¬ a1 = la4 := (sf4 _ SF).1
  refine own_go st4 ?_
  replace E1 := E1.ext E4
  replace Fv := Fv.ext E4
  replace Fc := Fc.ext E4
  replace V := V.ext E4
  replace O := O.ext E4
  replace Ex2 := Ex2.ext E4
  replace Fv2 := Fv2.ext E4
  replace Fc2 := Fc2.ext E4
  replace V2 := V2.ext E4
  replace Z0 := Nat.le_trans Z0 E4.1
  replace hsw := Nat.le_trans hsw E4.1
  have hZ := hZ4
  have hown := hown4
  have hS := hS4
  have hsw := hsw4
  have Hc := CR4.1
  show own_Go _ _ _ _ (T4.setTop (mkF m 19 #[.val (.ref a1), .unset] [(.ref la4), (.ref a1)]))
  obtain ⟨cq5, kq5, q5a, q5b, q5c⟩ := isOf hZ e4 E1
  obtain ⟨_, _, ⟨T5, L5, k5, n5⟩, -, X5, ⟨Lc5, hQ5, l5, y5, z5⟩, st5⟩ := X4.virtualBack hx (y := (⟨"java/lang/String", "equals", "(Ljava/lang/Object;)Z"⟩ : MethodName)) (z := (⟨"java/lang/String", "equals", "(Ljava/lang/Object;)Z"⟩ : MethodName)) hown (mvT hZ (hw _ (List.mem_of_getElem? (i := 47) rfl))) (mvT hZ (hw _ (List.mem_of_getElem? (i := 48) rfl))) (notFace_of_selects (args := #[]) (mvT hZ (hw _ (List.mem_of_getElem? (i := 50) rfl)))) (mvT hZ (hw _ (List.mem_of_getElem? (i := 50) rfl))) (mvT hZ (hw _ (List.mem_of_getElem? (i := 49) rfl))) (by decide) (own_back (W := 0) (own_rmeq1 l Z a0 hw a1 la4 cs h4 n0 Z0 Fc O S_C hcs ne_la4 Ex4 Fc4) hZ (hw _ (List.mem_of_getElem? (i := 51) rfl)) (hw _ (List.mem_of_getElem? (i := 3) rfl)) (by decide) (by decide)) q5a q5c (g := (mkF m 19 #[.val (.ref a1), .unset] [(.ref la4), (.ref a1)])) rfl (by rw [hml]; rfl) (Steps.refl _) (argsL := [(.ref la4)]) (rest := []) (lenOf own_pd19 rfl) rfl (by show 2 * 0 + _ ≤ _; exact Nat.le_of_eq rfl) (hb hby own_d8_19) (fun _ _ => ⟨rfl, e4, (by decide : 4 + 0 ≤ _), (by decide : 20 + 0 ≤ _)⟩)
  dsimp only [Pt.U, Pt.locs, Pt.cells, Pt.slots] at X5 l5 y5 z5 st5 hQ5
  replace X5 := own_cst X5 l5 y5 z5 (k2 := 4) (n2 := 20) rfl rfl
  clear l5 y5 z5
  obtain ⟨rfl, Nq5, eq5⟩ := hQ5
  have NF5 := Fr.app NF3 Nq5
  refine own_goT st5 ?_
  show own_Go _ _ _ _ (T5.setTop (mkF m 22 #[.val (.ref a1), .unset] [(.int (0 : Int32))]))
  refine own_go (fun _ => XS.ifYes X5.here hx rfl (pc0 := 22) (pc' := 27) rfl (hb hby own_d8_22) rfl ((if0 _ _).trans (teq rfl).1) (by decide) (by decide)) ?_
  show own_Go _ _ _ _ (T5.setTop (mkF m 27 #[.val (.ref a1), .unset] []))
  refine own_go (fun _ => XS.iconst X5.here hx rfl (hb hby own_d8_27)) ?_
  refine own_go (fun _ => XS.istoreN X5.here hx rfl (hb hby own_d8_28) rfl (l' := #[.val (.ref a1), .val (.int (0 : Int32))]) rfl) ?_
  refine own_go (fun _ => XS.iloadN X5.here hx rfl (hb hby own_d8_29) rfl) ?_
  refine own_go (fun _ => XS.aloadN X5.here hx rfl (hb hby own_d8_30) rfl rfl) ?_
  show own_Go _ _ _ _ (T5.setTop (mkF m 31 #[.val (.ref a1), .val (.int (0 : Int32))] [(.ref a1), (.int (0 : Int32))]))
  obtain ⟨cq6, kq6, q6a, q6b, q6c⟩ := isOf hZ eq5 E1
  obtain ⟨_, _, ⟨T6, L6, k6, n6⟩, -, X6, ⟨Lc6, hQ6, l6, y6, z6⟩, st6⟩ := X5.virtualBack hx (y := (⟨"java/lang/String", "length", "()I"⟩ : MethodName)) (z := (⟨"java/lang/String", "length", "()I"⟩ : MethodName)) hown (mvT hZ (hw _ (List.mem_of_getElem? (i := 58) rfl))) (mvT hZ (hw _ (List.mem_of_getElem? (i := 59) rfl))) (notFace_of_selects (args := #[]) (mvT hZ (hw _ (List.mem_of_getElem? (i := 61) rfl)))) (mvT hZ (hw _ (List.mem_of_getElem? (i := 61) rfl))) (mvT hZ (hw _ (List.mem_of_getElem? (i := 60) rfl))) (by decide) (own_back (W := 1) (own_rmln1 l Z a0 hw a1 b k cs 2 1 _ h4 n0 Z0 E1 Fv Fc V O S_C hcs (by decide)) hZ (hw _ (List.mem_of_getElem? (i := 62) rfl)) (hw _ (List.mem_of_getElem? (i := 3) rfl)) (by decide) (by decide)) q6a q6c (g := (mkF m 31 #[.val (.ref a1), .val (.int (0 : Int32))] [(.ref a1), (.int (0 : Int32))])) rfl (by rw [hml]; rfl) (Steps.refl _) (argsL := []) (rest := [(.int (0 : Int32))]) (lenOf own_pd18 rfl) rfl (by show 2 * 0 + _ ≤ _; exact Nat.le_of_eq rfl) (hb hby own_d8_31) (fun _ _ => ⟨rfl, eq5, (by decide : 4 + 0 ≤ _), (by decide : 20 + 0 ≤ _)⟩)
  dsimp only [Pt.U, Pt.locs, Pt.cells, Pt.slots] at X6 l6 y6 z6 st6 hQ6
  replace X6 := own_cst X6 l6 y6 z6 (k2 := 4) (n2 := 20) rfl rfl
  clear l6 y6 z6
  obtain ⟨rfl, Nq6, eq6⟩ := hQ6
  have NF6 := Fr.app NF5 Nq6
  refine own_goT st6 ?_
  show own_Go _ _ _ _ (T6.setTop (mkF m 34 #[.val (.ref a1), .val (.int (0 : Int32))] [(.int (1 : Int32)), (.int (0 : Int32))]))
  refine own_go (fun _ => XS.icmpNo X6.here hx rfl (hb hby own_d8_34) rfl (tlt (by decide)).2.1) ?_
  show own_Go _ _ _ _ (T6.setTop (mkF m 37 #[.val (.ref a1), .val (.int (0 : Int32))] []))
  obtain ⟨la7, T7, h7, kq7, lb7, kb7, X7, e7, E7, hS7, hsw7, hZ7, hown7, Ex7, Fc7, Fv7, V7, -, -, CR7, Lt7, sf7, st7⟩ := ldcCH (s := s) (vm0 := T4.vm) (EL := consts_1) X6 hx hZ hown (hw _ (List.mem_of_getElem? (i := 68) rfl)) (own_ws hw) eq6 hS hsw (own_ew hw) (List.mem_of_getElem? (i := 2) rfl) Hc (vs := (own_alpha.map Value.int)) (z := 79) ⟨by decide +kernel, by first | rfl | decide +kernel⟩ (by decide) rfl (g := (mkF m 37 #[.val (.ref a1), .val (.int (0 : Int32))] [])) rfl (hb hby own_d8_37) (n := 316) (by decide) (by decide) (by decide) (by decide)
  have SF := CR7.safe E1.lt SF
  have ne_la7 : ¬ a1 = la7 := (sf7 _ SF).1
  refine own_go st7 ?_
  replace E1 := E1.ext E7
  replace Fv := Fv.ext E7
  replace Fc := Fc.ext E7
  replace V := V.ext E7
  replace O := O.ext E7
  replace Ex2 := Ex2.ext E7
  replace Fv2 := Fv2.ext E7
  replace Fc2 := Fc2.ext E7
  replace V2 := V2.ext E7
  replace Ex4 := Ex4.ext E7
  replace Fv4 := Fv4.ext E7
  replace Fc4 := Fc4.ext E7
  replace V4 := V4.ext E7
  replace Z0 := Nat.le_trans Z0 E7.1
  replace hsw := Nat.le_trans hsw E7.1
  have hZ := hZ7
  have hown := hown7
  have hS := hS7
  have hsw := hsw7
  have Hc := CR7.1
  show own_Go _ _ _ _ (T7.setTop (mkF m 39 #[.val (.ref a1), .val (.int (0 : Int32))] [(.ref la7)]))
  refine own_go (fun _ => XS.aloadN X7.here hx rfl (hb hby own_d8_39) rfl rfl) ?_
  refine own_go (fun _ => XS.iloadN X7.here hx rfl (hb hby own_d8_40) rfl) ?_
  show own_Go _ _ _ _ (T7.setTop (mkF m 41 #[.val (.ref a1), .val (.int (0 : Int32))] [(.int (0 : Int32)), (.ref a1), (.ref la7)]))
  obtain ⟨cq8, kq8, q8a, q8b, q8c⟩ := isOf hZ e7 E1
  obtain ⟨_, _, ⟨T8, L8, k8, n8⟩, -, X8, ⟨Lc8, hQ8, l8, y8, z8⟩, st8⟩ := X7.virtualBack hx (y := (⟨"java/lang/String", "charAt", "(I)C"⟩ : MethodName)) (z := (⟨"java/lang/String", "charAt", "(I)C"⟩ : MethodName)) hown (mvT hZ (hw _ (List.mem_of_getElem? (i := 69) rfl))) (mvT hZ (hw _ (List.mem_of_getElem? (i := 70) rfl))) (notFace_of_selects (args := #[]) (mvT hZ (hw _ (List.mem_of_getElem? (i := 72) rfl)))) (mvT hZ (hw _ (List.mem_of_getElem? (i := 72) rfl))) (mvT hZ (hw _ (List.mem_of_getElem? (i := 71) rfl))) (by decide) (own_back (W := 1) (own_rmcaU l Z a0 hw a1 b k cs fmt 2 1 0 0 1 w0 w1 _ h7 n0 Z0 E1 Fv Fc V O S_C hcs S_F hfmt (by decide) (by decide) (by decide) (by decide) (by decide) ⟨by decide, by decide⟩ ⟨by decide, by decide⟩ rfl rfl S_A S_H S_L) hZ (hw _ (List.mem_of_getElem? (i := 73) rfl)) (hw _ (List.mem_of_getElem? (i := 3) rfl)) (by decide) (by decide)) q8a q8c (g := (mkF m 41 #[.val (.ref a1), .val (.int (0 : Int32))] [(.int (0 : Int32)), (.ref a1), (.ref la7)])) rfl (by rw [hml]; rfl) (Steps.refl _) (argsL := [(.int (0 : Int32))]) (rest := [(.ref la7)]) (lenOf own_pd20 rfl) rfl (by show 2 * 0 + _ ≤ _; exact Nat.le_of_eq rfl) (hb hby own_d8_41) (fun _ _ => ⟨rfl, e7, (by decide : 6 + 0 ≤ _), (by decide : 340 + 0 ≤ _)⟩)
  dsimp only [Pt.U, Pt.locs, Pt.cells, Pt.slots] at X8 l8 y8 z8 st8 hQ8
  replace X8 := own_cst X8 l8 y8 z8 (k2 := 6) (n2 := 340) rfl rfl
  clear l8 y8 z8
  obtain ⟨rfl, Nq8, eq8⟩ := hQ8
  have NF8 := Fr.app NF6 Nq8
  refine own_goT st8 ?_
  show own_Go _ _ _ _ (T8.setTop (mkF m 44 #[.val (.ref a1), .val (.int (0 : Int32))] [(.int (nar .char (nar .char (own_gc w0 w1)))), (.ref la7)]))
  obtain ⟨cq9, kq9, q9a, q9b, q9c⟩ := isOf hZ eq8 Ex7
  obtain ⟨_, _, ⟨T9, L9, k9, n9⟩, -, X9, ⟨Lc9, hQ9, l9, y9, z9⟩, st9⟩ := X8.virtualBack hx (y := (⟨"java/lang/String", "indexOf", "(I)I"⟩ : MethodName)) (z := (⟨"java/lang/String", "indexOf", "(I)I"⟩ : MethodName)) hown (mvT hZ (hw _ (List.mem_of_getElem? (i := 90) rfl))) (mvT hZ (hw _ (List.mem_of_getElem? (i := 91) rfl))) (notFace_of_selects (args := #[]) (mvT hZ (hw _ (List.mem_of_getElem? (i := 93) rfl)))) (mvT hZ (hw _ (List.mem_of_getElem? (i := 93) rfl))) (mvT hZ (hw _ (List.mem_of_getElem? (i := 92) rfl))) (by decide) (own_back (W := 0) (own_rmUA l Z a0 hw la7 lb7 kb7 cs (nar .char (nar .char (own_gc w0 w1))) h7 n0 Z0 Ex7 Fv7 Fc7 V7 O S_C hcs (own_chn _)) hZ (hw _ (List.mem_of_getElem? (i := 94) rfl)) (hw _ (List.mem_of_getElem? (i := 3) rfl)) (by decide) (by decide)) q9a q9c (g := (mkF m 44 #[.val (.ref a1), .val (.int (0 : Int32))] [(.int (nar .char (nar .char (own_gc w0 w1)))), (.ref la7)])) rfl (by rw [hml]; rfl) (Steps.refl _) (argsL := [(.int (nar .char (nar .char (own_gc w0 w1))))]) (rest := []) (lenOf own_pd9 rfl) rfl (by show 2 * 0 + _ ≤ _; exact Nat.le_of_eq rfl) (hb hby own_d8_44) (fun _ _ => ⟨rfl, eq8, (by decide : 6 + 0 ≤ _), (by decide : 340 + 0 ≤ _)⟩)
  dsimp only [Pt.U, Pt.locs, Pt.cells, Pt.slots] at X9 l9 y9 z9 st9 hQ9
  replace X9 := own_cst X9 l9 y9 z9 (k2 := 6) (n2 := 340) rfl rfl
  clear l9 y9 z9
  obtain ⟨ri0, rfl, Nq9, eq9, hi0⟩ := hQ9
  have NF9 := Fr.app NF8 Nq9
  refine own_goT st9 ?_
  show own_Go _ _ _ _ (T9.setTop (mkF m 47 #[.val (.ref a1), .val (.int (0 : Int32))] [(.int ri0)]))
  by_cases hr0 : ri0 < (0 : Int32)
  · have _h := hr0
    have hk0 : own_okc (nar .char (nar .char (own_gc w0 w1))) = 0 := hi0.mp hr0
    refine own_go (fun _ => XS.ifNo X9.here hx rfl (hb hby own_d8_47) rfl ((if0 _ _).trans (tlt hr0).2.1)) ?_
    show own_Go _ _ _ _ (T9.setTop (mkF m 50 #[.val (.ref a1), .val (.int (0 : Int32))] []))
    refine own_go (fun _ => XS.iconst X9.here hx rfl (hb hby own_d8_50)) ?_
    show own_Go _ _ _ _ (T9.setTop (mkF m 51 #[.val (.ref a1), .val (.int (0 : Int32))] [(.int (0 : Int32))]))
    refine own_retW X9 hS eq9 hsw hlk (v := some (.int (0 : Int32))) (fun h => by rw [Bd.returns] at h; cases h) (fun fs hr => retN X9 hx (t := .boolean) Bd.returns (by simp) (hb hby own_d8_51) hr) ?_ (by decide) (by decide)
    try rw [eq9]
    exact ⟨by simp [own_nmU, hk0], NF9⟩
  · have _h := hr0
    have hk0 : ¬ own_okc (nar .char (nar .char (own_gc w0 w1))) = 0 := fun q => hr0 (hi0.mpr q)
    refine own_go (fun _ => XS.ifYes X9.here hx rfl (pc0 := 47) (pc' := 52) rfl (hb hby own_d8_47) rfl ((if0 _ _).trans (flt hr0).2.1) (by decide) (by decide)) ?_
    show own_Go _ _ _ _ (T9.setTop (mkF m 52 #[.val (.ref a1), .val (.int (0 : Int32))] []))
    refine own_go (fun _ => XS.iinc X9.here hx rfl (hb hby own_d8_52) rfl (l' := #[.val (.ref a1), .val (.int (1 : Int32))]) rfl) ?_
    refine own_go (fun _ => XS.goto X9.here hx rfl (pc0 := 55) (pc' := 29) rfl (hb hby own_d8_55) (by decide) (by decide)) ?_
    refine own_go (fun _ => XS.iloadN X9.here hx rfl (hb hby own_d8_29) rfl) ?_
    refine own_go (fun _ => XS.aloadN X9.here hx rfl (hb hby own_d8_30) rfl rfl) ?_
    show own_Go _ _ _ _ (T9.setTop (mkF m 31 #[.val (.ref a1), .val (.int (1 : Int32))] [(.ref a1), (.int (1 : Int32))]))
    obtain ⟨cq10, kq10, q10a, q10b, q10c⟩ := isOf hZ eq9 E1
    obtain ⟨_, _, ⟨T10, L10, k10, n10⟩, -, X10, ⟨Lc10, hQ10, l10, y10, z10⟩, st10⟩ := X9.virtualBack hx (y := (⟨"java/lang/String", "length", "()I"⟩ : MethodName)) (z := (⟨"java/lang/String", "length", "()I"⟩ : MethodName)) hown (mvT hZ (hw _ (List.mem_of_getElem? (i := 58) rfl))) (mvT hZ (hw _ (List.mem_of_getElem? (i := 59) rfl))) (notFace_of_selects (args := #[]) (mvT hZ (hw _ (List.mem_of_getElem? (i := 61) rfl)))) (mvT hZ (hw _ (List.mem_of_getElem? (i := 61) rfl))) (mvT hZ (hw _ (List.mem_of_getElem? (i := 60) rfl))) (by decide) (own_back (W := 1) (own_rmln1 l Z a0 hw a1 b k cs 2 1 _ h7 n0 Z0 E1 Fv Fc V O S_C hcs (by decide)) hZ (hw _ (List.mem_of_getElem? (i := 62) rfl)) (hw _ (List.mem_of_getElem? (i := 3) rfl)) (by decide) (by decide)) q10a q10c (g := (mkF m 31 #[.val (.ref a1), .val (.int (1 : Int32))] [(.ref a1), (.int (1 : Int32))])) rfl (by rw [hml]; rfl) (Steps.refl _) (argsL := []) (rest := [(.int (1 : Int32))]) (lenOf own_pd18 rfl) rfl (by show 2 * 0 + _ ≤ _; exact Nat.le_of_eq rfl) (hb hby own_d8_31) (fun _ _ => ⟨rfl, eq9, (by decide : 6 + 0 ≤ _), (by decide : 340 + 0 ≤ _)⟩)
    dsimp only [Pt.U, Pt.locs, Pt.cells, Pt.slots] at X10 l10 y10 z10 st10 hQ10
    replace X10 := own_cst X10 l10 y10 z10 (k2 := 6) (n2 := 340) rfl rfl
    clear l10 y10 z10
    obtain ⟨rfl, Nq10, eq10⟩ := hQ10
    have NF10 := Fr.app NF9 Nq10
    refine own_goT st10 ?_
    show own_Go _ _ _ _ (T10.setTop (mkF m 34 #[.val (.ref a1), .val (.int (1 : Int32))] [(.int (1 : Int32)), (.int (1 : Int32))]))
    refine own_go (fun _ => XS.icmpYes X10.here hx rfl (pc0 := 34) (pc' := 58) rfl (hb hby own_d8_34) rfl (flt (by decide)).2.1 (by decide) (by decide)) ?_
    show own_Go _ _ _ _ (T10.setTop (mkF m 58 #[.val (.ref a1), .val (.int (1 : Int32))] []))
    refine own_go (fun _ => XS.iconst X10.here hx rfl (hb hby own_d8_58)) ?_
    show own_Go _ _ _ _ (T10.setTop (mkF m 59 #[.val (.ref a1), .val (.int (1 : Int32))] [(.int (1 : Int32))]))
    refine own_retW X10 hS eq10 hsw hlk (v := some (.int (1 : Int32))) (fun h => by rw [Bd.returns] at h; cases h) (fun fs hr => retN X10 hx (t := .boolean) Bd.returns (by simp) (hb hby own_d8_59) hr) ?_ (by decide) (by decide)
    try rw [eq10]
    exact ⟨by simp [own_nmU, hk0], NF10⟩
set_option maxRecDepth 65536 in
set_option maxHeartbeats 40000000 in
theorem own_rmNL2 (l : Launch) (Z : State) (a0 : Array Value) (hw : ∀ d ∈ tables_1, d.before a0 Z = true) (a1 : Addr) (b : Addr) (k : ClassId) (cs : Int32) (y0 : Int32) (y1 : Int32) (fmt : Value) (h0 : Heap) (n0 : Nat) (Z0 : n0 ≤ h0.size) (E1 : Exa Z h0 a1 "java/lang/String") (Fv : Fld Z h0 a1 "java/lang/String" "value" "[B" (.ref b)) (Fc : Fld Z h0 a1 "java/lang/String" "coder" "B" (.int 0)) (V : Arv Z h0 b k .byte 2 [(.int y0), (.int y1)] (.int 0)) (O : Old Z n0 h0) (S_C : Sta Z Z.heap "java/lang/String" "COMPACT_STRINGS" "Z" (.int cs)) (hcs : ¬ cs = (0 : Int32)) (S_F : Sta Z Z.heap "jdk/internal/util/Preconditions" "SIOOBE_FORMATTER" "Ljava/util/function/BiFunction;" fmt) (hfmt : fmt = .null ∨ ∃ o : Addr, fmt = .ref o) :
    own_MetS l Z consts_1 [a1] [] (⟨"com/example/chartpost/chartpost/http/PathSegments", "isName", "(Ljava/lang/String;)Z"⟩ : MethodName) prog_30_method_2_code 2 (some .boolean) ({ frames := 5, cells := 6, slots := 340, locals := 67 } : Room) #[(.ref a1)] h0 (fun v h L => v = some (.int (own_nm [y0, y1] [(nar .char (own_lc y0)), (nar .char (own_lc y1))])) ∧ Fr n0 L) := by
  refine MetFree.of_bodySF (plainFor_of_name own_pn5) hisR ?_
  intro p e s m args below meth c s₁ Bd hml0 hP hK
  obtain ⟨rfl, hZ, hh, H0, SF0⟩ := hP
  have hx := Bd.exec
  have hby := Bd.bytes
  have hml : c.maxLocals = 2 := hml0
  have hown : s.vm.findClass "com/example/chartpost/chartpost/http/PathSegments" = some m.cls := findClass_of_methodNamed Bd.named
  have hnm := (name_of_methodNamed Bd.named Bd.method).1
  have hlk : meth.locks = false := Bd.notSynchronized
  have X0 : Stand p l e ({ frames := 5, cells := 6, slots := 340, locals := 67 } : Room) s m #[(.ref a1)] below meth c s₁ [] 0 0 := Stand.of_body Bd
  have e0 : s₁.heap = h0 := by rw [← hh, Bd.state]; rfl
  have N0 := Fr.nil n0
  refine own_bodyW (Q := fun v h L => v = some (.int (own_nm [y0, y1] [(nar .char (own_lc y0)), (nar .char (own_lc y1))])) ∧ Fr n0 L) ?_
  refine own_go (fun _ kont => castTop (own_ef m #[(.ref a1)] 2 #[.val (.ref a1), .unset] (own_al [(.ref a1)] 2 [.val (.ref a1), .unset] rfl)) kont) ?_
  show own_Go _ _ _ _ (s₁.setTop (mkF m 0 #[.val (.ref a1), .unset] []))
  have SF := (SF0 a1 (List.mem_of_getElem? (i := 0) rfl)).2
  have Hc := H0
  refine own_go (fun _ => XS.aloadN X0.here hx rfl (hb hby own_d8_0) rfl rfl) ?_
  show own_Go _ _ _ _ (s₁.setTop (mkF m 1 #[.val (.ref a1), .unset] [(.ref a1)]))
  obtain ⟨cq1, kq1, q1a, q1b, q1c⟩ := isOf hZ e0 E1
  obtain ⟨_, _, ⟨T1, L1, k1, n1⟩, -, X1, ⟨Lc1, hQ1, l1, y1, z1⟩, st1⟩ := X0.virtualBack hx (y := (⟨"java/lang/String", "isEmpty", "()Z"⟩ : MethodName)) (z := (⟨"java/lang/String", "isEmpty", "()Z"⟩ : MethodName)) hown (mvT hZ (hw _ (List.mem_of_getElem? (i := 39) rfl))) (mvT hZ (hw _ (List.mem_of_getElem? (i := 40) rfl))) (notFace_of_selects (args := #[]) (mvT hZ (hw _ (List.mem_of_getElem? (i := 42) rfl)))) (mvT hZ (hw _ (List.mem_of_getElem? (i := 42) rfl))) (mvT hZ (hw _ (List.mem_of_getElem? (i := 41) rfl))) (by decide) (own_back (W := 0) (own_rme l Z a0 hw a1 b k 2 _ h0 n0 Z0 Fv V (by decide)) hZ (hw _ (List.mem_of_getElem? (i := 43) rfl)) (hw _ (List.mem_of_getElem? (i := 3) rfl)) (by decide) (by decide)) q1a q1c (g := (mkF m 1 #[.val (.ref a1), .unset] [(.ref a1)])) rfl (by rw [hml]; rfl) (Steps.refl _) (argsL := []) (rest := []) (lenOf own_pd3 rfl) rfl (by show 2 * 0 + _ ≤ _; exact Nat.le_of_eq rfl) (hb hby own_d8_1) (fun _ _ => ⟨rfl, e0, (by decide : 0 + 0 ≤ _), (by decide : 0 + 0 ≤ _)⟩)
  dsimp only [Pt.U, Pt.locs, Pt.cells, Pt.slots] at X1 l1 y1 z1 st1 hQ1
  replace X1 := own_cst X1 l1 y1 z1 (k2 := 0) (n2 := 0) rfl rfl
  clear l1 y1 z1
  obtain ⟨rfl, Nq1, eq1⟩ := hQ1
  have NF1 := Fr.app N0 Nq1
  refine own_goT st1 ?_
  show own_Go _ _ _ _ (T1.setTop (mkF m 4 #[.val (.ref a1), .unset] [(.int (0 : Int32))]))
  refine own_go (fun _ => XS.ifNo X1.here hx rfl (hb hby own_d8_4) rfl ((if0 _ _).trans (teq rfl).2)) ?_
  show own_Go _ _ _ _ (T1.setTop (mkF m 7 #[.val (.ref a1), .unset] []))
  refine own_go (fun _ => XS.aloadN X1.here hx rfl (hb hby own_d8_7) rfl rfl) ?_
  show own_Go _ _ _ _ (T1.setTop (mkF m 8 #[.val (.ref a1), .unset] [(.ref a1)]))
  obtain ⟨la2, T2, h2, kq2, lb2, kb2, X2, e2, E2, hS2, hsw2, hZ2, hown2, Ex2, Fc2, Fv2, V2, -, -, CR2, Lt2, sf2, st2⟩ := ldcCH (s := s) (vm0 := s.vm) (EL := consts_1) X1 hx hZ hown (hw _ (List.mem_of_getElem? (i := 44) rfl)) (own_ws hw) eq1 (State.WarmedH.since (State.WarmedH.refl s) _) (Nat.le_refl _) (own_ew hw) (List.mem_of_getElem? (i := 0) rfl) Hc (vs := [.int 46]) (z := 1) ⟨by decide +kernel, by first | rfl | decide +kernel⟩ (by decide) rfl (g := (mkF m 8 #[.val (.ref a1), .unset] [(.ref a1)])) rfl (hb hby own_d8_8) (n := 4) (by decide) (by decide) (by decide) (by decide)
  have SF := CR2.safe E1.lt SF
  have ne_la2 : ¬ a1 = la2 := (sf2 _ SF).1
  refine own_go st2 ?_
  replace E1 := E1.ext E2
  replace Fv := Fv.ext E2
  replace Fc := Fc.ext E2
  replace V := V.ext E2
  replace O := O.ext E2
  replace Z0 := Nat.le_trans Z0 E2.1
  have hZ := hZ2
  have hown := hown2
  have hS := hS2
  have hsw := hsw2
  have Hc := CR2.1
  show own_Go _ _ _ _ (T2.setTop (mkF m 10 #[.val (.ref a1), .unset] [(.ref la2), (.ref a1)]))
  obtain ⟨cq3, kq3, q3a, q3b, q3c⟩ := isOf hZ e2 E1
  obtain ⟨_, _, ⟨T3, L3, k3, n3⟩, -, X3, ⟨Lc3, hQ3, l3, y3, z3⟩, st3⟩ := X2.virtualBack hx (y := (⟨"java/lang/String", "equals", "(Ljava/lang/Object;)Z"⟩ : MethodName)) (z := (⟨"java/lang/String", "equals", "(Ljava/lang/Object;)Z"⟩ : MethodName)) hown (mvT hZ (hw _ (List.mem_of_getElem? (i := 47) rfl))) (mvT hZ (hw _ (List.mem_of_getElem? (i := 48) rfl))) (notFace_of_selects (args := #[]) (mvT hZ (hw _ (List.mem_of_getElem? (i := 50) rfl)))) (mvT hZ (hw _ (List.mem_of_getElem? (i := 50) rfl))) (mvT hZ (hw _ (List.mem_of_getElem? (i := 49) rfl))) (by decide) (own_back (W := 0) (own_rmeq0 l Z a0 hw a1 la2 cs b lb2 0 h2 n0 Z0 Fc O S_C hcs ne_la2 Ex2 Fc2 Fv Fv2 (own_rmleD l Z a0 hw b k lb2 kb2 2 1 _ _ h2 n0 Z0 V V2 (by decide)) (fun q => absurd rfl q)) hZ (hw _ (List.mem_of_getElem? (i := 51) rfl)) (hw _ (List.mem_of_getElem? (i := 3) rfl)) (by decide) (by decide)) q3a q3c (g := (mkF m 10 #[.val (.ref a1), .unset] [(.ref la2), (.ref a1)])) rfl (by rw [hml]; rfl) (Steps.refl _) (argsL := [(.ref la2)]) (rest := []) (lenOf own_pd19 rfl) rfl (by show 2 * 0 + _ ≤ _; exact Nat.le_of_eq rfl) (hb hby own_d8_10) (fun _ _ => ⟨rfl, e2, (by decide : 2 + 0 ≤ _), (by decide : 8 + 0 ≤ _)⟩)
  dsimp only [Pt.U, Pt.locs, Pt.cells, Pt.slots] at X3 l3 y3 z3 st3 hQ3
  replace X3 := own_cst X3 l3 y3 z3 (k2 := 2) (n2 := 8) rfl rfl
  clear l3 y3 z3
  obtain ⟨rfl, Nq3, eq3⟩ := hQ3
  have NF3 := Fr.app NF1 Nq3
  refine own_goT st3 ?_
  show own_Go _ _ _ _ (T3.setTop (mkF m 13 #[.val (.ref a1), .unset] [(.int (0 : Int32))]))
  have hd1 : own_same [y0, y1] [46] = 0 := by simp [own_same]
  refine own_go (fun _ => XS.ifNo X3.here hx rfl (hb hby own_d8_13) rfl ((if0 _ _).trans (teq rfl).2)) ?_
  show own_Go _ _ _ _ (T3.setTop (mkF m 16 #[.val (.ref a1), .unset] []))
  refine own_go (fun _ => XS.aloadN X3.here hx rfl (hb hby own_d8_16) rfl rfl) ?_
  show own_Go _ _ _ _ (T3.setTop (mkF m 17 #[.val (.ref a1), .unset] [(.ref a1)]))
  obtain ⟨la4, T4, h4, kq4, lb4, kb4, X4, e4, E4, hS4, hsw4, hZ4, hown4, Ex4, Fc4, Fv4, V4, -, -, CR4, Lt4, sf4, st4⟩ := ldcCH (s := s) (vm0 := T2.vm) (EL := consts_1) X3 hx hZ hown (hw _ (List.mem_of_getElem? (i := 57) rfl)) (own_ws hw) eq3 hS hsw (own_ew hw) (List.mem_of_getElem? (i := 1) rfl) Hc (vs := [.int 46, .int 46]) (z := 2) ⟨by decide +kernel, by first | rfl | decide +kernel⟩ (by decide) rfl (g := (mkF m 17 #[.val (.ref a1), .unset] [(.ref a1)])) rfl (hb hby own_d8_17) (n := 8) (by decide) (by decide) (by decide) (by decide)
  have SF := CR4.safe E1.lt SF
  have ne_la4 : ¬ a1 = la4 := (sf4 _ SF).1
  refine own_go st4 ?_
  replace E1 := E1.ext E4
  replace Fv := Fv.ext E4
  replace Fc := Fc.ext E4
  replace V := V.ext E4
  replace O := O.ext E4
  replace Ex2 := Ex2.ext E4
  replace Fv2 := Fv2.ext E4
  replace Fc2 := Fc2.ext E4
  replace V2 := V2.ext E4
  replace Z0 := Nat.le_trans Z0 E4.1
  replace hsw := Nat.le_trans hsw E4.1
  have hZ := hZ4
  have hown := hown4
  have hS := hS4
  have hsw := hsw4
  have Hc := CR4.1
  show own_Go _ _ _ _ (T4.setTop (mkF m 19 #[.val (.ref a1), .unset] [(.ref la4), (.ref a1)]))
  obtain ⟨cq5, kq5, q5a, q5b, q5c⟩ := isOf hZ e4 E1
  obtain ⟨_, _, ⟨T5, L5, k5, n5⟩, -, X5, ⟨Lc5, hQ5, l5, y5, z5⟩, st5⟩ := X4.virtualBack hx (y := (⟨"java/lang/String", "equals", "(Ljava/lang/Object;)Z"⟩ : MethodName)) (z := (⟨"java/lang/String", "equals", "(Ljava/lang/Object;)Z"⟩ : MethodName)) hown (mvT hZ (hw _ (List.mem_of_getElem? (i := 47) rfl))) (mvT hZ (hw _ (List.mem_of_getElem? (i := 48) rfl))) (notFace_of_selects (args := #[]) (mvT hZ (hw _ (List.mem_of_getElem? (i := 50) rfl)))) (mvT hZ (hw _ (List.mem_of_getElem? (i := 50) rfl))) (mvT hZ (hw _ (List.mem_of_getElem? (i := 49) rfl))) (by decide) (own_back (W := 0) (own_rmeq0 l Z a0 hw a1 la4 cs b lb4 (own_same [y0, y1] [46, 46]) h4 n0 Z0 Fc O S_C hcs ne_la4 Ex4 Fc4 Fv Fv4 (own_rmle2 l Z a0 hw b k lb4 kb4 y0 y1 46 46 h4 n0 Z0 V V4) own_same1) hZ (hw _ (List.mem_of_getElem? (i := 51) rfl)) (hw _ (List.mem_of_getElem? (i := 3) rfl)) (by decide) (by decide)) q5a q5c (g := (mkF m 19 #[.val (.ref a1), .unset] [(.ref la4), (.ref a1)])) rfl (by rw [hml]; rfl) (Steps.refl _) (argsL := [(.ref la4)]) (rest := []) (lenOf own_pd19 rfl) rfl (by show 2 * 0 + _ ≤ _; exact Nat.le_of_eq rfl) (hb hby own_d8_19) (fun _ _ => ⟨rfl, e4, (by decide : 4 + 0 ≤ _), (by decide : 20 + 0 ≤ _)⟩)
  dsimp only [Pt.U, Pt.locs, Pt.cells, Pt.slots] at X5 l5 y5 z5 st5 hQ5
  replace X5 := own_cst X5 l5 y5 z5 (k2 := 4) (n2 := 20) rfl rfl
  clear l5 y5 z5
  obtain ⟨rfl, Nq5, eq5⟩ := hQ5
  have NF5 := Fr.app NF3 Nq5
  refine own_goT st5 ?_
  show own_Go _ _ _ _ (T5.setTop (mkF m 22 #[.val (.ref a1), .unset] [(.int (own_same [y0, y1] [46, 46]))]))
  by_cases hd2 : (own_same [y0, y1] [46, 46]) = (0 : Int32)
  · have _h := hd2
    refine own_go (fun _ => XS.ifYes X5.here hx rfl (pc0 := 22) (pc' := 27) rfl (hb hby own_d8_22) rfl ((if0 _ _).trans (teq hd2).1) (by decide) (by decide)) ?_
    show own_Go _ _ _ _ (T5.setTop (mkF m 27 #[.val (.ref a1), .unset] []))
    refine own_go (fun _ => XS.iconst X5.here hx rfl (hb hby own_d8_27)) ?_
    refine own_go (fun _ => XS.istoreN X5.here hx rfl (hb hby own_d8_28) rfl (l' := #[.val (.ref a1), .val (.int (0 : Int32))]) rfl) ?_
    refine own_go (fun _ => XS.iloadN X5.here hx rfl (hb hby own_d8_29) rfl) ?_
    refine own_go (fun _ => XS.aloadN X5.here hx rfl (hb hby own_d8_30) rfl rfl) ?_
    show own_Go _ _ _ _ (T5.setTop (mkF m 31 #[.val (.ref a1), .val (.int (0 : Int32))] [(.ref a1), (.int (0 : Int32))]))
    obtain ⟨cq6, kq6, q6a, q6b, q6c⟩ := isOf hZ eq5 E1
    obtain ⟨_, _, ⟨T6, L6, k6, n6⟩, -, X6, ⟨Lc6, hQ6, l6, y6, z6⟩, st6⟩ := X5.virtualBack hx (y := (⟨"java/lang/String", "length", "()I"⟩ : MethodName)) (z := (⟨"java/lang/String", "length", "()I"⟩ : MethodName)) hown (mvT hZ (hw _ (List.mem_of_getElem? (i := 58) rfl))) (mvT hZ (hw _ (List.mem_of_getElem? (i := 59) rfl))) (notFace_of_selects (args := #[]) (mvT hZ (hw _ (List.mem_of_getElem? (i := 61) rfl)))) (mvT hZ (hw _ (List.mem_of_getElem? (i := 61) rfl))) (mvT hZ (hw _ (List.mem_of_getElem? (i := 60) rfl))) (by decide) (own_back (W := 1) (own_rmln0 l Z a0 hw a1 b k cs 2 2 _ h4 n0 Z0 E1 Fv Fc V O S_C hcs (by decide)) hZ (hw _ (List.mem_of_getElem? (i := 62) rfl)) (hw _ (List.mem_of_getElem? (i := 3) rfl)) (by decide) (by decide)) q6a q6c (g := (mkF m 31 #[.val (.ref a1), .val (.int (0 : Int32))] [(.ref a1), (.int (0 : Int32))])) rfl (by rw [hml]; rfl) (Steps.refl _) (argsL := []) (rest := [(.int (0 : Int32))]) (lenOf own_pd18 rfl) rfl (by show 2 * 0 + _ ≤ _; exact Nat.le_of_eq rfl) (hb hby own_d8_31) (fun _ _ => ⟨rfl, eq5, (by decide : 4 + 0 ≤ _), (by decide : 20 + 0 ≤ _)⟩)
    dsimp only [Pt.U, Pt.locs, Pt.cells, Pt.slots] at X6 l6 y6 z6 st6 hQ6
    replace X6 := own_cst X6 l6 y6 z6 (k2 := 4) (n2 := 20) rfl rfl
    clear l6 y6 z6
    obtain ⟨rfl, Nq6, eq6⟩ := hQ6
    have NF6 := Fr.app NF5 Nq6
    refine own_goT st6 ?_
    show own_Go _ _ _ _ (T6.setTop (mkF m 34 #[.val (.ref a1), .val (.int (0 : Int32))] [(.int (2 : Int32)), (.int (0 : Int32))]))
    refine own_go (fun _ => XS.icmpNo X6.here hx rfl (hb hby own_d8_34) rfl (tlt (by decide)).2.1) ?_
    show own_Go _ _ _ _ (T6.setTop (mkF m 37 #[.val (.ref a1), .val (.int (0 : Int32))] []))
    obtain ⟨la7, T7, h7, kq7, lb7, kb7, X7, e7, E7, hS7, hsw7, hZ7, hown7, Ex7, Fc7, Fv7, V7, -, -, CR7, Lt7, sf7, st7⟩ := ldcCH (s := s) (vm0 := T4.vm) (EL := consts_1) X6 hx hZ hown (hw _ (List.mem_of_getElem? (i := 68) rfl)) (own_ws hw) eq6 hS hsw (own_ew hw) (List.mem_of_getElem? (i := 2) rfl) Hc (vs := (own_alpha.map Value.int)) (z := 79) ⟨by decide +kernel, by first | rfl | decide +kernel⟩ (by decide) rfl (g := (mkF m 37 #[.val (.ref a1), .val (.int (0 : Int32))] [])) rfl (hb hby own_d8_37) (n := 316) (by decide) (by decide) (by decide) (by decide)
    have SF := CR7.safe E1.lt SF
    have ne_la7 : ¬ a1 = la7 := (sf7 _ SF).1
    refine own_go st7 ?_
    replace E1 := E1.ext E7
    replace Fv := Fv.ext E7
    replace Fc := Fc.ext E7
    replace V := V.ext E7
    replace O := O.ext E7
    replace Ex2 := Ex2.ext E7
    replace Fv2 := Fv2.ext E7
    replace Fc2 := Fc2.ext E7
    replace V2 := V2.ext E7
    replace Ex4 := Ex4.ext E7
    replace Fv4 := Fv4.ext E7
    replace Fc4 := Fc4.ext E7
    replace V4 := V4.ext E7
    replace Z0 := Nat.le_trans Z0 E7.1
    replace hsw := Nat.le_trans hsw E7.1
    have hZ := hZ7
    have hown := hown7
    have hS := hS7
    have hsw := hsw7
    have Hc := CR7.1
    show own_Go _ _ _ _ (T7.setTop (mkF m 39 #[.val (.ref a1), .val (.int (0 : Int32))] [(.ref la7)]))
    refine own_go (fun _ => XS.aloadN X7.here hx rfl (hb hby own_d8_39) rfl rfl) ?_
    refine own_go (fun _ => XS.iloadN X7.here hx rfl (hb hby own_d8_40) rfl) ?_
    show own_Go _ _ _ _ (T7.setTop (mkF m 41 #[.val (.ref a1), .val (.int (0 : Int32))] [(.int (0 : Int32)), (.ref a1), (.ref la7)]))
    obtain ⟨cq8, kq8, q8a, q8b, q8c⟩ := isOf hZ e7 E1
    obtain ⟨_, _, ⟨T8, L8, k8, n8⟩, -, X8, ⟨Lc8, hQ8, l8, y8, z8⟩, st8⟩ := X7.virtualBack hx (y := (⟨"java/lang/String", "charAt", "(I)C"⟩ : MethodName)) (z := (⟨"java/lang/String", "charAt", "(I)C"⟩ : MethodName)) hown (mvT hZ (hw _ (List.mem_of_getElem? (i := 69) rfl))) (mvT hZ (hw _ (List.mem_of_getElem? (i := 70) rfl))) (notFace_of_selects (args := #[]) (mvT hZ (hw _ (List.mem_of_getElem? (i := 72) rfl)))) (mvT hZ (hw _ (List.mem_of_getElem? (i := 72) rfl))) (mvT hZ (hw _ (List.mem_of_getElem? (i := 71) rfl))) (by decide) (own_back (W := 1) (own_rmcaL l Z a0 hw a1 b k cs fmt 2 0 y0 _ h7 n0 Z0 E1 Fv Fc V O S_C hcs S_F hfmt (by decide) (by decide) rfl) hZ (hw _ (List.mem_of_getElem? (i := 73) rfl)) (hw _ (List.mem_of_getElem? (i := 3) rfl)) (by decide) (by decide)) q8a q8c (g := (mkF m 41 #[.val (.ref a1), .val (.int (0 : Int32))] [(.int (0 : Int32)), (.ref a1), (.ref la7)])) rfl (by rw [hml]; rfl) (Steps.refl _) (argsL := [(.int (0 : Int32))]) (rest := [(.ref la7)]) (lenOf own_pd20 rfl) rfl (by show 2 * 0 + _ ≤ _; exact Nat.le_of_eq rfl) (hb hby own_d8_41) (fun _ _ => ⟨rfl, e7, (by decide : 6 + 0 ≤ _), (by decide : 340 + 0 ≤ _)⟩)
    dsimp only [Pt.U, Pt.locs, Pt.cells, Pt.slots] at X8 l8 y8 z8 st8 hQ8
    replace X8 := own_cst X8 l8 y8 z8 (k2 := 6) (n2 := 340) rfl rfl
    clear l8 y8 z8
    obtain ⟨rfl, Nq8, eq8⟩ := hQ8
    have NF8 := Fr.app NF6 Nq8
    refine own_goT st8 ?_
    show own_Go _ _ _ _ (T8.setTop (mkF m 44 #[.val (.ref a1), .val (.int (0 : Int32))] [(.int (nar .char (own_lc y0))), (.ref la7)]))
    obtain ⟨cq9, kq9, q9a, q9b, q9c⟩ := isOf hZ eq8 Ex7
    obtain ⟨_, _, ⟨T9, L9, k9, n9⟩, -, X9, ⟨Lc9, hQ9, l9, y9, z9⟩, st9⟩ := X8.virtualBack hx (y := (⟨"java/lang/String", "indexOf", "(I)I"⟩ : MethodName)) (z := (⟨"java/lang/String", "indexOf", "(I)I"⟩ : MethodName)) hown (mvT hZ (hw _ (List.mem_of_getElem? (i := 90) rfl))) (mvT hZ (hw _ (List.mem_of_getElem? (i := 91) rfl))) (notFace_of_selects (args := #[]) (mvT hZ (hw _ (List.mem_of_getElem? (i := 93) rfl)))) (mvT hZ (hw _ (List.mem_of_getElem? (i := 93) rfl))) (mvT hZ (hw _ (List.mem_of_getElem? (i := 92) rfl))) (by decide) (own_back (W := 0) (own_rmUA l Z a0 hw la7 lb7 kb7 cs (nar .char (own_lc y0)) h7 n0 Z0 Ex7 Fv7 Fc7 V7 O S_C hcs (own_chn _)) hZ (hw _ (List.mem_of_getElem? (i := 94) rfl)) (hw _ (List.mem_of_getElem? (i := 3) rfl)) (by decide) (by decide)) q9a q9c (g := (mkF m 44 #[.val (.ref a1), .val (.int (0 : Int32))] [(.int (nar .char (own_lc y0))), (.ref la7)])) rfl (by rw [hml]; rfl) (Steps.refl _) (argsL := [(.int (nar .char (own_lc y0)))]) (rest := []) (lenOf own_pd9 rfl) rfl (by show 2 * 0 + _ ≤ _; exact Nat.le_of_eq rfl) (hb hby own_d8_44) (fun _ _ => ⟨rfl, eq8, (by decide : 6 + 0 ≤ _), (by decide : 340 + 0 ≤ _)⟩)
    dsimp only [Pt.U, Pt.locs, Pt.cells, Pt.slots] at X9 l9 y9 z9 st9 hQ9
    replace X9 := own_cst X9 l9 y9 z9 (k2 := 6) (n2 := 340) rfl rfl
    clear l9 y9 z9
    obtain ⟨ri0, rfl, Nq9, eq9, hi0⟩ := hQ9
    have NF9 := Fr.app NF8 Nq9
    refine own_goT st9 ?_
    show own_Go _ _ _ _ (T9.setTop (mkF m 47 #[.val (.ref a1), .val (.int (0 : Int32))] [(.int ri0)]))
    by_cases hr0 : ri0 < (0 : Int32)
    · have _h := hr0
      have hk0 : own_okc (nar .char (own_lc y0)) = 0 := hi0.mp hr0
      refine own_go (fun _ => XS.ifNo X9.here hx rfl (hb hby own_d8_47) rfl ((if0 _ _).trans (tlt hr0).2.1)) ?_
      show own_Go _ _ _ _ (T9.setTop (mkF m 50 #[.val (.ref a1), .val (.int (0 : Int32))] []))
      refine own_go (fun _ => XS.iconst X9.here hx rfl (hb hby own_d8_50)) ?_
      show own_Go _ _ _ _ (T9.setTop (mkF m 51 #[.val (.ref a1), .val (.int (0 : Int32))] [(.int (0 : Int32))]))
      refine own_retW X9 hS eq9 hsw hlk (v := some (.int (0 : Int32))) (fun h => by rw [Bd.returns] at h; cases h) (fun fs hr => retN X9 hx (t := .boolean) Bd.returns (by simp) (hb hby own_d8_51) hr) ?_ (by decide) (by decide)
      try rw [eq9]
      exact ⟨by simp [own_nm, hd1, hd2, hk0], NF9⟩
    · have _h := hr0
      have hk0 : ¬ own_okc (nar .char (own_lc y0)) = 0 := fun q => hr0 (hi0.mpr q)
      refine own_go (fun _ => XS.ifYes X9.here hx rfl (pc0 := 47) (pc' := 52) rfl (hb hby own_d8_47) rfl ((if0 _ _).trans (flt hr0).2.1) (by decide) (by decide)) ?_
      show own_Go _ _ _ _ (T9.setTop (mkF m 52 #[.val (.ref a1), .val (.int (0 : Int32))] []))
      refine own_go (fun _ => XS.iinc X9.here hx rfl (hb hby own_d8_52) rfl (l' := #[.val (.ref a1), .val (.int (1 : Int32))]) rfl) ?_
      refine own_go (fun _ => XS.goto X9.here hx rfl (pc0 := 55) (pc' := 29) rfl (hb hby own_d8_55) (by decide) (by decide)) ?_
      refine own_go (fun _ => XS.iloadN X9.here hx rfl (hb hby own_d8_29) rfl) ?_
      refine own_go (fun _ => XS.aloadN X9.here hx rfl (hb hby own_d8_30) rfl rfl) ?_
      show own_Go _ _ _ _ (T9.setTop (mkF m 31 #[.val (.ref a1), .val (.int (1 : Int32))] [(.ref a1), (.int (1 : Int32))]))
      obtain ⟨cq10, kq10, q10a, q10b, q10c⟩ := isOf hZ eq9 E1
      obtain ⟨_, _, ⟨T10, L10, k10, n10⟩, -, X10, ⟨Lc10, hQ10, l10, y10, z10⟩, st10⟩ := X9.virtualBack hx (y := (⟨"java/lang/String", "length", "()I"⟩ : MethodName)) (z := (⟨"java/lang/String", "length", "()I"⟩ : MethodName)) hown (mvT hZ (hw _ (List.mem_of_getElem? (i := 58) rfl))) (mvT hZ (hw _ (List.mem_of_getElem? (i := 59) rfl))) (notFace_of_selects (args := #[]) (mvT hZ (hw _ (List.mem_of_getElem? (i := 61) rfl)))) (mvT hZ (hw _ (List.mem_of_getElem? (i := 61) rfl))) (mvT hZ (hw _ (List.mem_of_getElem? (i := 60) rfl))) (by decide) (own_back (W := 1) (own_rmln0 l Z a0 hw a1 b k cs 2 2 _ h7 n0 Z0 E1 Fv Fc V O S_C hcs (by decide)) hZ (hw _ (List.mem_of_getElem? (i := 62) rfl)) (hw _ (List.mem_of_getElem? (i := 3) rfl)) (by decide) (by decide)) q10a q10c (g := (mkF m 31 #[.val (.ref a1), .val (.int (1 : Int32))] [(.ref a1), (.int (1 : Int32))])) rfl (by rw [hml]; rfl) (Steps.refl _) (argsL := []) (rest := [(.int (1 : Int32))]) (lenOf own_pd18 rfl) rfl (by show 2 * 0 + _ ≤ _; exact Nat.le_of_eq rfl) (hb hby own_d8_31) (fun _ _ => ⟨rfl, eq9, (by decide : 6 + 0 ≤ _), (by decide : 340 + 0 ≤ _)⟩)
      dsimp only [Pt.U, Pt.locs, Pt.cells, Pt.slots] at X10 l10 y10 z10 st10 hQ10
      replace X10 := own_cst X10 l10 y10 z10 (k2 := 6) (n2 := 340) rfl rfl
      clear l10 y10 z10
      obtain ⟨rfl, Nq10, eq10⟩ := hQ10
      have NF10 := Fr.app NF9 Nq10
      refine own_goT st10 ?_
      show own_Go _ _ _ _ (T10.setTop (mkF m 34 #[.val (.ref a1), .val (.int (1 : Int32))] [(.int (2 : Int32)), (.int (1 : Int32))]))
      refine own_go (fun _ => XS.icmpNo X10.here hx rfl (hb hby own_d8_34) rfl (tlt (by decide)).2.1) ?_
      show own_Go _ _ _ _ (T10.setTop (mkF m 37 #[.val (.ref a1), .val (.int (1 : Int32))] []))
      refine own_go (ldcAgain X10 hx hZ hown (hw _ (List.mem_of_getElem? (i := 68) rfl)) Lt7 (g := (mkF m 37 #[.val (.ref a1), .val (.int (1 : Int32))] [])) rfl (hb hby own_d8_37)) ?_
      show own_Go _ _ _ _ (T10.setTop (mkF m 39 #[.val (.ref a1), .val (.int (1 : Int32))] [(.ref la7)]))
      refine own_go (fun _ => XS.aloadN X10.here hx rfl (hb hby own_d8_39) rfl rfl) ?_
      refine own_go (fun _ => XS.iloadN X10.here hx rfl (hb hby own_d8_40) rfl) ?_
      show own_Go _ _ _ _ (T10.setTop (mkF m 41 #[.val (.ref a1), .val (.int (1 : Int32))] [(.int (1 : Int32)), (.ref a1), (.ref la7)]))
      obtain ⟨cq11, kq11, q11a, q11b, q11c⟩ := isOf hZ eq10 E1
      obtain ⟨_, _, ⟨T11, L11, k11, n11⟩, -, X11, ⟨Lc11, hQ11, l11, y11, z11⟩, st11⟩ := X10.virtualBack hx (y := (⟨"java/lang/String", "charAt", "(I)C"⟩ : MethodName)) (z := (⟨"java/lang/String", "charAt", "(I)C"⟩ : MethodName)) hown (mvT hZ (hw _ (List.mem_of_getElem? (i := 69) rfl))) (mvT hZ (hw _ (List.mem_of_getElem? (i := 70) rfl))) (notFace_of_selects (args := #[]) (mvT hZ (hw _ (List.mem_of_getElem? (i := 72) rfl)))) (mvT hZ (hw _ (List.mem_of_getElem? (i := 72) rfl))) (mvT hZ (hw _ (List.mem_of_getElem? (i := 71) rfl))) (by decide) (own_back (W := 1) (own_rmcaL l Z a0 hw a1 b k cs fmt 2 1 y1 _ h7 n0 Z0 E1 Fv Fc V O S_C hcs S_F hfmt (by decide) (by decide) rfl) hZ (hw _ (List.mem_of_getElem? (i := 73) rfl)) (hw _ (List.mem_of_getElem? (i := 3) rfl)) (by decide) (by decide)) q11a q11c (g := (mkF m 41 #[.val (.ref a1), .val (.int (1 : Int32))] [(.int (1 : Int32)), (.ref a1), (.ref la7)])) rfl (by rw [hml]; rfl) (Steps.refl _) (argsL := [(.int (1 : Int32))]) (rest := [(.ref la7)]) (lenOf own_pd20 rfl) rfl (by show 2 * 0 + _ ≤ _; exact Nat.le_of_eq rfl) (hb hby own_d8_41) (fun _ _ => ⟨rfl, eq10, (by decide : 6 + 0 ≤ _), (by decide : 340 + 0 ≤ _)⟩)
      dsimp only [Pt.U, Pt.locs, Pt.cells, Pt.slots] at X11 l11 y11 z11 st11 hQ11
      replace X11 := own_cst X11 l11 y11 z11 (k2 := 6) (n2 := 340) rfl rfl
      clear l11 y11 z11
      obtain ⟨rfl, Nq11, eq11⟩ := hQ11
      have NF11 := Fr.app NF10 Nq11
      refine own_goT st11 ?_
      show own_Go _ _ _ _ (T11.setTop (mkF m 44 #[.val (.ref a1), .val (.int (1 : Int32))] [(.int (nar .char (own_lc y1))), (.ref la7)]))
      obtain ⟨cq12, kq12, q12a, q12b, q12c⟩ := isOf hZ eq11 Ex7
      obtain ⟨_, _, ⟨T12, L12, k12, n12⟩, -, X12, ⟨Lc12, hQ12, l12, y12, z12⟩, st12⟩ := X11.virtualBack hx (y := (⟨"java/lang/String", "indexOf", "(I)I"⟩ : MethodName)) (z := (⟨"java/lang/String", "indexOf", "(I)I"⟩ : MethodName)) hown (mvT hZ (hw _ (List.mem_of_getElem? (i := 90) rfl))) (mvT hZ (hw _ (List.mem_of_getElem? (i := 91) rfl))) (notFace_of_selects (args := #[]) (mvT hZ (hw _ (List.mem_of_getElem? (i := 93) rfl)))) (mvT hZ (hw _ (List.mem_of_getElem? (i := 93) rfl))) (mvT hZ (hw _ (List.mem_of_getElem? (i := 92) rfl))) (by decide) (own_back (W := 0) (own_rmUA l Z a0 hw la7 lb7 kb7 cs (nar .char (own_lc y1)) h7 n0 Z0 Ex7 Fv7 Fc7 V7 O S_C hcs (own_chn _)) hZ (hw _ (List.mem_of_getElem? (i := 94) rfl)) (hw _ (List.mem_of_getElem? (i := 3) rfl)) (by decide) (by decide)) q12a q12c (g := (mkF m 44 #[.val (.ref a1), .val (.int (1 : Int32))] [(.int (nar .char (own_lc y1))), (.ref la7)])) rfl (by rw [hml]; rfl) (Steps.refl _) (argsL := [(.int (nar .char (own_lc y1)))]) (rest := []) (lenOf own_pd9 rfl) rfl (by show 2 * 0 + _ ≤ _; exact Nat.le_of_eq rfl) (hb hby own_d8_44) (fun _ _ => ⟨rfl, eq11, (by decide : 6 + 0 ≤ _), (by decide : 340 + 0 ≤ _)⟩)
      dsimp only [Pt.U, Pt.locs, Pt.cells, Pt.slots] at X12 l12 y12 z12 st12 hQ12
      replace X12 := own_cst X12 l12 y12 z12 (k2 := 6) (n2 := 340) rfl rfl
      clear l12 y12 z12
      obtain ⟨ri1, rfl, Nq12, eq12, hi1⟩ := hQ12
      have NF12 := Fr.app NF11 Nq12
      refine own_goT st12 ?_
      show own_Go _ _ _ _ (T12.setTop (mkF m 47 #[.val (.ref a1), .val (.int (1 : Int32))] [(.int ri1)]))
      by_cases hr1 : ri1 < (0 : Int32)
      · have _h := hr1
        have hk1 : own_okc (nar .char (own_lc y1)) = 0 := hi1.mp hr1
        refine own_go (fun _ => XS.ifNo X12.here hx rfl (hb hby own_d8_47) rfl ((if0 _ _).trans (tlt hr1).2.1)) ?_
        show own_Go _ _ _ _ (T12.setTop (mkF m 50 #[.val (.ref a1), .val (.int (1 : Int32))] []))
        refine own_go (fun _ => XS.iconst X12.here hx rfl (hb hby own_d8_50)) ?_
        show own_Go _ _ _ _ (T12.setTop (mkF m 51 #[.val (.ref a1), .val (.int (1 : Int32))] [(.int (0 : Int32))]))
        refine own_retW X12 hS eq12 hsw hlk (v := some (.int (0 : Int32))) (fun h => by rw [Bd.returns] at h; cases h) (fun fs hr => retN X12 hx (t := .boolean) Bd.returns (by simp) (hb hby own_d8_51) hr) ?_ (by decide) (by decide)
        try rw [eq12]
        exact ⟨by simp [own_nm, hd1, hd2, hk0, hk1], NF12⟩
      · have _h := hr1
        have hk1 : ¬ own_okc (nar .char (own_lc y1)) = 0 := fun q => hr1 (hi1.mpr q)
        refine own_go (fun _ => XS.ifYes X12.here hx rfl (pc0 := 47) (pc' := 52) rfl (hb hby own_d8_47) rfl ((if0 _ _).trans (flt hr1).2.1) (by decide) (by decide)) ?_
        show own_Go _ _ _ _ (T12.setTop (mkF m 52 #[.val (.ref a1), .val (.int (1 : Int32))] []))
        refine own_go (fun _ => XS.iinc X12.here hx rfl (hb hby own_d8_52) rfl (l' := #[.val (.ref a1), .val (.int (2 : Int32))]) rfl) ?_
        refine own_go (fun _ => XS.goto X12.here hx rfl (pc0 := 55) (pc' := 29) rfl (hb hby own_d8_55) (by decide) (by decide)) ?_
        refine own_go (fun _ => XS.iloadN X12.here hx rfl (hb hby own_d8_29) rfl) ?_
        refine own_go (fun _ => XS.aloadN X12.here hx rfl (hb hby own_d8_30) rfl rfl) ?_
        show own_Go _ _ _ _ (T12.setTop (mkF m 31 #[.val (.ref a1), .val (.int (2 : Int32))] [(.ref a1), (.int (2 : Int32))]))
        obtain ⟨cq13, kq13, q13a, q13b, q13c⟩ := isOf hZ eq12 E1
        obtain ⟨_, _, ⟨T13, L13, k13, n13⟩, -, X13, ⟨Lc13, hQ13, l13, y13, z13⟩, st13⟩ := X12.virtualBack hx (y := (⟨"java/lang/String", "length", "()I"⟩ : MethodName)) (z := (⟨"java/lang/String", "length", "()I"⟩ : MethodName)) hown (mvT hZ (hw _ (List.mem_of_getElem? (i := 58) rfl))) (mvT hZ (hw _ (List.mem_of_getElem? (i := 59) rfl))) (notFace_of_selects (args := #[]) (mvT hZ (hw _ (List.mem_of_getElem? (i := 61) rfl)))) (mvT hZ (hw _ (List.mem_of_getElem? (i := 61) rfl))) (mvT hZ (hw _ (List.mem_of_getElem? (i := 60) rfl))) (by decide) (own_back (W := 1) (own_rmln0 l Z a0 hw a1 b k cs 2 2 _ h7 n0 Z0 E1 Fv Fc V O S_C hcs (by decide)) hZ (hw _ (List.mem_of_getElem? (i := 62) rfl)) (hw _ (List.mem_of_getElem? (i := 3) rfl)) (by decide) (by decide)) q13a q13c (g := (mkF m 31 #[.val (.ref a1), .val (.int (2 : Int32))] [(.ref a1), (.int (2 : Int32))])) rfl (by rw [hml]; rfl) (Steps.refl _) (argsL := []) (rest := [(.int (2 : Int32))]) (lenOf own_pd18 rfl) rfl (by show 2 * 0 + _ ≤ _; exact Nat.le_of_eq rfl) (hb hby own_d8_31) (fun _ _ => ⟨rfl, eq12, (by decide : 6 + 0 ≤ _), (by decide : 340 + 0 ≤ _)⟩)
        dsimp only [Pt.U, Pt.locs, Pt.cells, Pt.slots] at X13 l13 y13 z13 st13 hQ13
        replace X13 := own_cst X13 l13 y13 z13 (k2 := 6) (n2 := 340) rfl rfl
        clear l13 y13 z13
        obtain ⟨rfl, Nq13, eq13⟩ := hQ13
        have NF13 := Fr.app NF12 Nq13
        refine own_goT st13 ?_
        show own_Go _ _ _ _ (T13.setTop (mkF m 34 #[.val (.ref a1), .val (.int (2 : Int32))] [(.int (2 : Int32)), (.int (2 : Int32))]))
        refine own_go (fun _ => XS.icmpYes X13.here hx rfl (pc0 := 34) (pc' := 58) rfl (hb hby own_d8_34) rfl (flt (by decide)).2.1 (by decide) (by decide)) ?_
        show own_Go _ _ _ _ (T13.setTop (mkF m 58 #[.val (.ref a1), .val (.int (2 : Int32))] []))
        refine own_go (fun _ => XS.iconst X13.here hx rfl (hb hby own_d8_58)) ?_
        show own_Go _ _ _ _ (T13.setTop (mkF m 59 #[.val (.ref a1), .val (.int (2 : Int32))] [(.int (1 : Int32))]))
        refine own_retW X13 hS eq13 hsw hlk (v := some (.int (1 : Int32))) (fun h => by rw [Bd.returns] at h; cases h) (fun fs hr => retN X13 hx (t := .boolean) Bd.returns (by simp) (hb hby own_d8_59) hr) ?_ (by decide) (by decide)
        try rw [eq13]
        exact ⟨by simp [own_nm, hd1, hd2, hk0, hk1], NF13⟩
  · have _h := hd2
    refine own_go (fun _ => XS.ifNo X5.here hx rfl (hb hby own_d8_22) rfl ((if0 _ _).trans (feq hd2).1)) ?_
    show own_Go _ _ _ _ (T5.setTop (mkF m 25 #[.val (.ref a1), .unset] []))
    refine own_go (fun _ => XS.iconst X5.here hx rfl (hb hby own_d8_25)) ?_
    show own_Go _ _ _ _ (T5.setTop (mkF m 26 #[.val (.ref a1), .unset] [(.int (0 : Int32))]))
    refine own_retW X5 hS eq5 hsw hlk (v := some (.int (0 : Int32))) (fun h => by rw [Bd.returns] at h; cases h) (fun fs hr => retN X5 hx (t := .boolean) Bd.returns (by simp) (hb hby own_d8_26) hr) ?_ (by decide) (by decide)
    try rw [eq5]
    exact ⟨by simp [own_nm, hd1, hd2], NF5⟩
set_option maxRecDepth 65536 in
set_option maxHeartbeats 40000000 in
theorem own_rmNU2 (l : Launch) (Z : State) (a0 : Array Value) (hw : ∀ d ∈ tables_1, d.before a0 Z = true) (a1 : Addr) (b : Addr) (k : ClassId) (cs : Int32) (w0 : Int32) (w1 : Int32) (w2 : Int32) (w3 : Int32) (fmt : Value) (h0 : Heap) (n0 : Nat) (Z0 : n0 ≤ h0.size) (E1 : Exa Z h0 a1 "java/lang/String") (Fv : Fld Z h0 a1 "java/lang/String" "value" "[B" (.ref b)) (Fc : Fld Z h0 a1 "java/lang/String" "coder" "B" (.int 1)) (V : Arv Z h0 b k .byte 4 [(.int w0), (.int w1), (.int w2), (.int w3)] (.int 0)) (O : Old Z n0 h0) (S_C : Sta Z Z.heap "java/lang/String" "COMPACT_STRINGS" "Z" (.int cs)) (hcs : ¬ cs = (0 : Int32)) (S_F : Sta Z Z.heap "jdk/internal/util/Preconditions" "SIOOBE_FORMATTER" "Ljava/util/function/BiFunction;" fmt) (hfmt : fmt = .null ∨ ∃ o : Addr, fmt = .ref o) (S_A : Sta Z Z.heap "java/lang/StringUTF16" "$assertionsDisabled" "Z" (.int 1)) (S_H : Sta Z Z.heap "java/lang/StringUTF16" "HI_BYTE_SHIFT" "I" (.int 0)) (S_L : Sta Z Z.heap "java/lang/StringUTF16" "LO_BYTE_SHIFT" "I" (.int 8)) :
    own_MetS l Z consts_1 [a1] [] (⟨"com/example/chartpost/chartpost/http/PathSegments", "isName", "(Ljava/lang/String;)Z"⟩ : MethodName) prog_30_method_2_code 2 (some .boolean) ({ frames := 5, cells := 6, slots := 340, locals := 67 } : Room) #[(.ref a1)] h0 (fun v h L => v = some (.int (own_nmU [(nar .char (nar .char (own_gc w0 w1))), (nar .char (nar .char (own_gc w2 w3)))])) ∧ Fr n0 L) := by
  refine MetFree.of_bodySF (plainFor_of_name own_pn5) hisR ?_
  intro p e s m args below meth c s₁ Bd hml0 hP hK
  obtain ⟨rfl, hZ, hh, H0, SF0⟩ := hP
  have hx := Bd.exec
  have hby := Bd.bytes
  have hml : c.maxLocals = 2 := hml0
  have hown : s.vm.findClass "com/example/chartpost/chartpost/http/PathSegments" = some m.cls := findClass_of_methodNamed Bd.named
  have hnm := (name_of_methodNamed Bd.named Bd.method).1
  have hlk : meth.locks = false := Bd.notSynchronized
  have X0 : Stand p l e ({ frames := 5, cells := 6, slots := 340, locals := 67 } : Room) s m #[(.ref a1)] below meth c s₁ [] 0 0 := Stand.of_body Bd
  have e0 : s₁.heap = h0 := by rw [← hh, Bd.state]; rfl
  have N0 := Fr.nil n0
  refine own_bodyW (Q := fun v h L => v = some (.int (own_nmU [(nar .char (nar .char (own_gc w0 w1))), (nar .char (nar .char (own_gc w2 w3)))])) ∧ Fr n0 L) ?_
  refine own_go (fun _ kont => castTop (own_ef m #[(.ref a1)] 2 #[.val (.ref a1), .unset] (own_al [(.ref a1)] 2 [.val (.ref a1), .unset] rfl)) kont) ?_
  show own_Go _ _ _ _ (s₁.setTop (mkF m 0 #[.val (.ref a1), .unset] []))
  have SF := (SF0 a1 (List.mem_of_getElem? (i := 0) rfl)).2
  have Hc := H0
  refine own_go (fun _ => XS.aloadN X0.here hx rfl (hb hby own_d8_0) rfl rfl) ?_
  show own_Go _ _ _ _ (s₁.setTop (mkF m 1 #[.val (.ref a1), .unset] [(.ref a1)]))
  obtain ⟨cq1, kq1, q1a, q1b, q1c⟩ := isOf hZ e0 E1
  obtain ⟨_, _, ⟨T1, L1, k1, n1⟩, -, X1, ⟨Lc1, hQ1, l1, y1, z1⟩, st1⟩ := X0.virtualBack hx (y := (⟨"java/lang/String", "isEmpty", "()Z"⟩ : MethodName)) (z := (⟨"java/lang/String", "isEmpty", "()Z"⟩ : MethodName)) hown (mvT hZ (hw _ (List.mem_of_getElem? (i := 39) rfl))) (mvT hZ (hw _ (List.mem_of_getElem? (i := 40) rfl))) (notFace_of_selects (args := #[]) (mvT hZ (hw _ (List.mem_of_getElem? (i := 42) rfl)))) (mvT hZ (hw _ (List.mem_of_getElem? (i := 42) rfl))) (mvT hZ (hw _ (List.mem_of_getElem? (i := 41) rfl))) (by decide) (own_back (W := 0) (own_rme l Z a0 hw a1 b k 4 _ h0 n0 Z0 Fv V (by decide)) hZ (hw _ (List.mem_of_getElem? (i := 43) rfl)) (hw _ (List.mem_of_getElem? (i := 3) rfl)) (by decide) (by decide)) q1a q1c (g := (mkF m 1 #[.val (.ref a1), .unset] [(.ref a1)])) rfl (by rw [hml]; rfl) (Steps.refl _) (argsL := []) (rest := []) (lenOf own_pd3 rfl) rfl (by show 2 * 0 + _ ≤ _; exact Nat.le_of_eq rfl) (hb hby own_d8_1) (fun _ _ => ⟨rfl, e0, (by decide : 0 + 0 ≤ _), (by decide : 0 + 0 ≤ _)⟩)
  dsimp only [Pt.U, Pt.locs, Pt.cells, Pt.slots] at X1 l1 y1 z1 st1 hQ1
  replace X1 := own_cst X1 l1 y1 z1 (k2 := 0) (n2 := 0) rfl rfl
  clear l1 y1 z1
  obtain ⟨rfl, Nq1, eq1⟩ := hQ1
  have NF1 := Fr.app N0 Nq1
  refine own_goT st1 ?_
  show own_Go _ _ _ _ (T1.setTop (mkF m 4 #[.val (.ref a1), .unset] [(.int (0 : Int32))]))
  refine own_go (fun _ => XS.ifNo X1.here hx rfl (hb hby own_d8_4) rfl ((if0 _ _).trans (teq rfl).2)) ?_
  show own_Go _ _ _ _ (T1.setTop (mkF m 7 #[.val (.ref a1), .unset] []))
  refine own_go (fun _ => XS.aloadN X1.here hx rfl (hb hby own_d8_7) rfl rfl) ?_
  show own_Go _ _ _ _ (T1.setTop (mkF m 8 #[.val (.ref a1), .unset] [(.ref a1)]))
  obtain ⟨la2, T2, h2, kq2, lb2, kb2, X2, e2, E2, hS2, hsw2, hZ2, hown2, Ex2, Fc2, Fv2, V2, -, -, CR2, Lt2, sf2, st2⟩ := ldcCH (s := s) (vm0 := s.vm) (EL := consts_1) X1 hx hZ hown (hw _ (List.mem_of_getElem? (i := 44) rfl)) (own_ws hw) eq1 (State.WarmedH.since (State.WarmedH.refl s) _) (Nat.le_refl _) (own_ew hw) (List.mem_of_getElem? (i := 0) rfl) Hc (vs := [.int 46]) (z := 1) ⟨by decide +kernel, by first | rfl | decide +kernel⟩ (by decide) rfl (g := (mkF m 8 #[.val (.ref a1), .unset] [(.ref a1)])) rfl (hb hby own_d8_8) (n := 4) (by decide) (by decide) (by decide) (by decide)
  have SF := CR2.safe E1.lt SF
  have ne_la2 : ¬ a1 = la2 := (sf2 _ SF).1
  refine own_go st2 ?_
  replace E1 := E1.ext E2
  replace Fv := Fv.ext E2
  replace Fc := Fc.ext E2
  replace V := V.ext E2
  replace O := O.ext E2
  replace Z0 := Nat.le_trans Z0 E2.1
  have hZ := hZ2
  have hown := hown2
  have hS := hS2
  have hsw := hsw2
  have Hc := CR2.1
  show own_Go _ _ _ _ (T2.setTop (mkF m 10 #[.val (.ref a1), .unset] [(.ref la2), (.ref a1)]))
  obtain ⟨cq3, kq3, q3a, q3b, q3c⟩ := isOf hZ e2 E1
  obtain ⟨_, _, ⟨T3, L3, k3, n3⟩, -, X3, ⟨Lc3, hQ3, l3, y3, z3⟩, st3⟩ := X2.virtualBack hx (y := (⟨"java/lang/String", "equals", "(Ljava/lang/Object;)Z"⟩ : MethodName)) (z := (⟨"java/lang/String", "equals", "(Ljava/lang/Object;)Z"⟩ : MethodName)) hown (mvT hZ (hw _ (List.mem_of_getElem? (i := 47) rfl))) (mvT hZ (hw _ (List.mem_of_getElem? (i := 48) rfl))) (notFace_of_selects (args := #[]) (mvT hZ (hw _ (List.mem_of_getElem? (i := 50) rfl)))) (mvT hZ (hw _ (List.mem_of_getElem? (i := 50) rfl))) (mvT hZ (hw _ (List.mem_of_getElem? (i := 49) rfl))) (by decide) (own_back (W := 0) (own_rmeq1 l Z a0 hw a1 la2 cs h2 n0 Z0 Fc O S_C hcs ne_la2 Ex2 Fc2) hZ (hw _ (List.mem_of_getElem? (i := 51) rfl)) (hw _ (List.mem_of_getElem? (i := 3) rfl)) (by decide) (by decide)) q3a q3c (g := (mkF m 10 #[.val (.ref a1), .unset] [(.ref la2), (.ref a1)])) rfl (by rw [hml]; rfl) (Steps.refl _) (argsL := [(.ref la2)]) (rest := []) (lenOf own_pd19 rfl) rfl (by show 2 * 0 + _ ≤ _; exact Nat.le_of_eq rfl) (hb hby own_d8_10) (fun _ _ => ⟨rfl, e2, (by decide : 2 + 0 ≤ _), (by decide : 8 + 0 ≤ _)⟩)
  dsimp only [Pt.U, Pt.locs, Pt.cells, Pt.slots] at X3 l3 y3 z3 st3 hQ3
  replace X3 := own_cst X3 l3 y3 z3 (k2 := 2) (n2 := 8) rfl rfl
  clear l3 y3 z3
  obtain ⟨rfl, Nq3, eq3⟩ := hQ3
  have NF3 := Fr.app NF1 Nq3
  refine own_goT st3 ?_
  show own_Go _ _ _ _ (T3.setTop (mkF m 13 #[.val (.ref a1), .unset] [(.int (0 : Int32))]))
  refine own_go (fun _ => XS.ifNo X3.here hx rfl (hb hby own_d8_13) rfl ((if0 _ _).trans (teq rfl).2)) ?_
  show own_Go _ _ _ _ (T3.setTop (mkF m 16 #[.val (.ref a1), .unset] []))
  refine own_go (fun _ => XS.aloadN X3.here hx rfl (hb hby own_d8_16) rfl rfl) ?_
  show own_Go _ _ _ _ (T3.setTop (mkF m 17 #[.val (.ref a1), .unset] [(.ref a1)]))
  obtain ⟨la4, T4, h4, kq4, lb4, kb4, X4, e4, E4, hS4, hsw4, hZ4, hown4, Ex4, Fc4, Fv4, V4, -, -, CR4, Lt4, sf4, st4⟩ := ldcCH (s := s) (vm0 := T2.vm) (EL := consts_1) X3 hx hZ hown (hw _ (List.mem_of_getElem? (i := 57) rfl)) (own_ws hw) eq3 hS hsw (own_ew hw) (List.mem_of_getElem? (i := 1) rfl) Hc (vs := [.int 46, .int 46]) (z := 2) ⟨by decide +kernel, by first | rfl | decide +kernel⟩ (by decide) rfl (g := (mkF m 17 #[.val (.ref a1), .unset] [(.ref a1)])) rfl (hb hby own_d8_17) (n := 8) (by decide) (by decide) (by decide) (by decide)
  have SF := CR4.safe E1.lt SF
  have ne_la4 : ¬ a1 = la4 := (sf4 _ SF).1
  refine own_go st4 ?_
  replace E1 := E1.ext E4
  replace Fv := Fv.ext E4
  replace Fc := Fc.ext E4
  replace V := V.ext E4
  replace O := O.ext E4
  replace Ex2 := Ex2.ext E4
  replace Fv2 := Fv2.ext E4
  replace Fc2 := Fc2.ext E4
  replace V2 := V2.ext E4
  replace Z0 := Nat.le_trans Z0 E4.1
  replace hsw := Nat.le_trans hsw E4.1
  have hZ := hZ4
  have hown := hown4
  have hS := hS4
  have hsw := hsw4
  have Hc := CR4.1
  show own_Go _ _ _ _ (T4.setTop (mkF m 19 #[.val (.ref a1), .unset] [(.ref la4), (.ref a1)]))
  obtain ⟨cq5, kq5, q5a, q5b, q5c⟩ := isOf hZ e4 E1
  obtain ⟨_, _, ⟨T5, L5, k5, n5⟩, -, X5, ⟨Lc5, hQ5, l5, y5, z5⟩, st5⟩ := X4.virtualBack hx (y := (⟨"java/lang/String", "equals", "(Ljava/lang/Object;)Z"⟩ : MethodName)) (z := (⟨"java/lang/String", "equals", "(Ljava/lang/Object;)Z"⟩ : MethodName)) hown (mvT hZ (hw _ (List.mem_of_getElem? (i := 47) rfl))) (mvT hZ (hw _ (List.mem_of_getElem? (i := 48) rfl))) (notFace_of_selects (args := #[]) (mvT hZ (hw _ (List.mem_of_getElem? (i := 50) rfl)))) (mvT hZ (hw _ (List.mem_of_getElem? (i := 50) rfl))) (mvT hZ (hw _ (List.mem_of_getElem? (i := 49) rfl))) (by decide) (own_back (W := 0) (own_rmeq1 l Z a0 hw a1 la4 cs h4 n0 Z0 Fc O S_C hcs ne_la4 Ex4 Fc4) hZ (hw _ (List.mem_of_getElem? (i := 51) rfl)) (hw _ (List.mem_of_getElem? (i := 3) rfl)) (by decide) (by decide)) q5a q5c (g := (mkF m 19 #[.val (.ref a1), .unset] [(.ref la4), (.ref a1)])) rfl (by rw [hml]; rfl) (Steps.refl _) (argsL := [(.ref la4)]) (rest := []) (lenOf own_pd19 rfl) rfl (by show 2 * 0 + _ ≤ _; exact Nat.le_of_eq rfl) (hb hby own_d8_19) (fun _ _ => ⟨rfl, e4, (by decide : 4 + 0 ≤ _), (by decide : 20 + 0 ≤ _)⟩)
  dsimp only [Pt.U, Pt.locs, Pt.cells, Pt.slots] at X5 l5 y5 z5 st5 hQ5
  replace X5 := own_cst X5 l5 y5 z5 (k2 := 4) (n2 := 20) rfl rfl
  clear l5 y5 z5
  obtain ⟨rfl, Nq5, eq5⟩ := hQ5
  have NF5 := Fr.app NF3 Nq5
  refine own_goT st5 ?_
  show own_Go _ _ _ _ (T5.setTop (mkF m 22 #[.val (.ref a1), .unset] [(.int (0 : Int32))]))
  refine own_go (fun _ => XS.ifYes X5.here hx rfl (pc0 := 22) (pc' := 27) rfl (hb hby own_d8_22) rfl ((if0 _ _).trans (teq rfl).1) (by decide) (by decide)) ?_
  show own_Go _ _ _ _ (T5.setTop (mkF m 27 #[.val (.ref a1), .unset] []))
  refine own_go (fun _ => XS.iconst X5.here hx rfl (hb hby own_d8_27)) ?_
  refine own_go (fun _ => XS.istoreN X5.here hx rfl (hb hby own_d8_28) rfl (l' := #[.val (.ref a1), .val (.int (0 : Int32))]) rfl) ?_
  refine own_go (fun _ => XS.iloadN X5.here hx rfl (hb hby own_d8_29) rfl) ?_
  refine own_go (fun _ => XS.aloadN X5.here hx rfl (hb hby own_d8_30) rfl rfl) ?_
  show own_Go _ _ _ _ (T5.setTop (mkF m 31 #[.val (.ref a1), .val (.int (0 : Int32))] [(.ref a1), (.int (0 : Int32))]))
  obtain ⟨cq6, kq6, q6a, q6b, q6c⟩ := isOf hZ eq5 E1
  obtain ⟨_, _, ⟨T6, L6, k6, n6⟩, -, X6, ⟨Lc6, hQ6, l6, y6, z6⟩, st6⟩ := X5.virtualBack hx (y := (⟨"java/lang/String", "length", "()I"⟩ : MethodName)) (z := (⟨"java/lang/String", "length", "()I"⟩ : MethodName)) hown (mvT hZ (hw _ (List.mem_of_getElem? (i := 58) rfl))) (mvT hZ (hw _ (List.mem_of_getElem? (i := 59) rfl))) (notFace_of_selects (args := #[]) (mvT hZ (hw _ (List.mem_of_getElem? (i := 61) rfl)))) (mvT hZ (hw _ (List.mem_of_getElem? (i := 61) rfl))) (mvT hZ (hw _ (List.mem_of_getElem? (i := 60) rfl))) (by decide) (own_back (W := 1) (own_rmln1 l Z a0 hw a1 b k cs 4 2 _ h4 n0 Z0 E1 Fv Fc V O S_C hcs (by decide)) hZ (hw _ (List.mem_of_getElem? (i := 62) rfl)) (hw _ (List.mem_of_getElem? (i := 3) rfl)) (by decide) (by decide)) q6a q6c (g := (mkF m 31 #[.val (.ref a1), .val (.int (0 : Int32))] [(.ref a1), (.int (0 : Int32))])) rfl (by rw [hml]; rfl) (Steps.refl _) (argsL := []) (rest := [(.int (0 : Int32))]) (lenOf own_pd18 rfl) rfl (by show 2 * 0 + _ ≤ _; exact Nat.le_of_eq rfl) (hb hby own_d8_31) (fun _ _ => ⟨rfl, eq5, (by decide : 4 + 0 ≤ _), (by decide : 20 + 0 ≤ _)⟩)
  dsimp only [Pt.U, Pt.locs, Pt.cells, Pt.slots] at X6 l6 y6 z6 st6 hQ6
  replace X6 := own_cst X6 l6 y6 z6 (k2 := 4) (n2 := 20) rfl rfl
  clear l6 y6 z6
  obtain ⟨rfl, Nq6, eq6⟩ := hQ6
  have NF6 := Fr.app NF5 Nq6
  refine own_goT st6 ?_
  show own_Go _ _ _ _ (T6.setTop (mkF m 34 #[.val (.ref a1), .val (.int (0 : Int32))] [(.int (2 : Int32)), (.int (0 : Int32))]))
  refine own_go (fun _ => XS.icmpNo X6.here hx rfl (hb hby own_d8_34) rfl (tlt (by decide)).2.1) ?_
  show own_Go _ _ _ _ (T6.setTop (mkF m 37 #[.val (.ref a1), .val (.int (0 : Int32))] []))
  obtain ⟨la7, T7, h7, kq7, lb7, kb7, X7, e7, E7, hS7, hsw7, hZ7, hown7, Ex7, Fc7, Fv7, V7, -, -, CR7, Lt7, sf7, st7⟩ := ldcCH (s := s) (vm0 := T4.vm) (EL := consts_1) X6 hx hZ hown (hw _ (List.mem_of_getElem? (i := 68) rfl)) (own_ws hw) eq6 hS hsw (own_ew hw) (List.mem_of_getElem? (i := 2) rfl) Hc (vs := (own_alpha.map Value.int)) (z := 79) ⟨by decide +kernel, by first | rfl | decide +kernel⟩ (by decide) rfl (g := (mkF m 37 #[.val (.ref a1), .val (.int (0 : Int32))] [])) rfl (hb hby own_d8_37) (n := 316) (by decide) (by decide) (by decide) (by decide)
  have SF := CR7.safe E1.lt SF
  have ne_la7 : ¬ a1 = la7 := (sf7 _ SF).1
  refine own_go st7 ?_
  replace E1 := E1.ext E7
  replace Fv := Fv.ext E7
  replace Fc := Fc.ext E7
  replace V := V.ext E7
  replace O := O.ext E7
  replace Ex2 := Ex2.ext E7
  replace Fv2 := Fv2.ext E7
  replace Fc2 := Fc2.ext E7
  replace V2 := V2.ext E7
  replace Ex4 := Ex4.ext E7
  replace Fv4 := Fv4.ext E7
  replace Fc4 := Fc4.ext E7
  replace V4 := V4.ext E7
  replace Z0 := Nat.le_trans Z0 E7.1
  replace hsw := Nat.le_trans hsw E7.1
  have hZ := hZ7
  have hown := hown7
  have hS := hS7
  have hsw := hsw7
  have Hc := CR7.1
  show own_Go _ _ _ _ (T7.setTop (mkF m 39 #[.val (.ref a1), .val (.int (0 : Int32))] [(.ref la7)]))
  refine own_go (fun _ => XS.aloadN X7.here hx rfl (hb hby own_d8_39) rfl rfl) ?_
  refine own_go (fun _ => XS.iloadN X7.here hx rfl (hb hby own_d8_40) rfl) ?_
  show own_Go _ _ _ _ (T7.setTop (mkF m 41 #[.val (.ref a1), .val (.int (0 : Int32))] [(.int (0 : Int32)), (.ref a1), (.ref la7)]))
  obtain ⟨cq8, kq8, q8a, q8b, q8c⟩ := isOf hZ e7 E1
  obtain ⟨_, _, ⟨T8, L8, k8, n8⟩, -, X8, ⟨Lc8, hQ8, l8, y8, z8⟩, st8⟩ := X7.virtualBack hx (y := (⟨"java/lang/String", "charAt", "(I)C"⟩ : MethodName)) (z := (⟨"java/lang/String", "charAt", "(I)C"⟩ : MethodName)) hown (mvT hZ (hw _ (List.mem_of_getElem? (i := 69) rfl))) (mvT hZ (hw _ (List.mem_of_getElem? (i := 70) rfl))) (notFace_of_selects (args := #[]) (mvT hZ (hw _ (List.mem_of_getElem? (i := 72) rfl)))) (mvT hZ (hw _ (List.mem_of_getElem? (i := 72) rfl))) (mvT hZ (hw _ (List.mem_of_getElem? (i := 71) rfl))) (by decide) (own_back (W := 1) (own_rmcaU l Z a0 hw a1 b k cs fmt 4 2 0 0 1 w0 w1 _ h7 n0 Z0 E1 Fv Fc V O S_C hcs S_F hfmt (by decide) (by decide) (by decide) (by decide) (by decide) ⟨by decide, by decide⟩ ⟨by decide, by decide⟩ rfl rfl S_A S_H S_L) hZ (hw _ (List.mem_of_getElem? (i := 73) rfl)) (hw _ (List.mem_of_getElem? (i := 3) rfl)) (by decide) (by decide)) q8a q8c (g := (mkF m 41 #[.val (.ref a1), .val (.int (0 : Int32))] [(.int (0 : Int32)), (.ref a1), (.ref la7)])) rfl (by rw [hml]; rfl) (Steps.refl _) (argsL := [(.int (0 : Int32))]) (rest := [(.ref la7)]) (lenOf own_pd20 rfl) rfl (by show 2 * 0 + _ ≤ _; exact Nat.le_of_eq rfl) (hb hby own_d8_41) (fun _ _ => ⟨rfl, e7, (by decide : 6 + 0 ≤ _), (by decide : 340 + 0 ≤ _)⟩)
  dsimp only [Pt.U, Pt.locs, Pt.cells, Pt.slots] at X8 l8 y8 z8 st8 hQ8
  replace X8 := own_cst X8 l8 y8 z8 (k2 := 6) (n2 := 340) rfl rfl
  clear l8 y8 z8
  obtain ⟨rfl, Nq8, eq8⟩ := hQ8
  have NF8 := Fr.app NF6 Nq8
  refine own_goT st8 ?_
  show own_Go _ _ _ _ (T8.setTop (mkF m 44 #[.val (.ref a1), .val (.int (0 : Int32))] [(.int (nar .char (nar .char (own_gc w0 w1)))), (.ref la7)]))
  obtain ⟨cq9, kq9, q9a, q9b, q9c⟩ := isOf hZ eq8 Ex7
  obtain ⟨_, _, ⟨T9, L9, k9, n9⟩, -, X9, ⟨Lc9, hQ9, l9, y9, z9⟩, st9⟩ := X8.virtualBack hx (y := (⟨"java/lang/String", "indexOf", "(I)I"⟩ : MethodName)) (z := (⟨"java/lang/String", "indexOf", "(I)I"⟩ : MethodName)) hown (mvT hZ (hw _ (List.mem_of_getElem? (i := 90) rfl))) (mvT hZ (hw _ (List.mem_of_getElem? (i := 91) rfl))) (notFace_of_selects (args := #[]) (mvT hZ (hw _ (List.mem_of_getElem? (i := 93) rfl)))) (mvT hZ (hw _ (List.mem_of_getElem? (i := 93) rfl))) (mvT hZ (hw _ (List.mem_of_getElem? (i := 92) rfl))) (by decide) (own_back (W := 0) (own_rmUA l Z a0 hw la7 lb7 kb7 cs (nar .char (nar .char (own_gc w0 w1))) h7 n0 Z0 Ex7 Fv7 Fc7 V7 O S_C hcs (own_chn _)) hZ (hw _ (List.mem_of_getElem? (i := 94) rfl)) (hw _ (List.mem_of_getElem? (i := 3) rfl)) (by decide) (by decide)) q9a q9c (g := (mkF m 44 #[.val (.ref a1), .val (.int (0 : Int32))] [(.int (nar .char (nar .char (own_gc w0 w1)))), (.ref la7)])) rfl (by rw [hml]; rfl) (Steps.refl _) (argsL := [(.int (nar .char (nar .char (own_gc w0 w1))))]) (rest := []) (lenOf own_pd9 rfl) rfl (by show 2 * 0 + _ ≤ _; exact Nat.le_of_eq rfl) (hb hby own_d8_44) (fun _ _ => ⟨rfl, eq8, (by decide : 6 + 0 ≤ _), (by decide : 340 + 0 ≤ _)⟩)
  dsimp only [Pt.U, Pt.locs, Pt.cells, Pt.slots] at X9 l9 y9 z9 st9 hQ9
  replace X9 := own_cst X9 l9 y9 z9 (k2 := 6) (n2 := 340) rfl rfl
  clear l9 y9 z9
  obtain ⟨ri0, rfl, Nq9, eq9, hi0⟩ := hQ9
  have NF9 := Fr.app NF8 Nq9
  refine own_goT st9 ?_
  show own_Go _ _ _ _ (T9.setTop (mkF m 47 #[.val (.ref a1), .val (.int (0 : Int32))] [(.int ri0)]))
  by_cases hr0 : ri0 < (0 : Int32)
  · have _h := hr0
    have hk0 : own_okc (nar .char (nar .char (own_gc w0 w1))) = 0 := hi0.mp hr0
    refine own_go (fun _ => XS.ifNo X9.here hx rfl (hb hby own_d8_47) rfl ((if0 _ _).trans (tlt hr0).2.1)) ?_
    show own_Go _ _ _ _ (T9.setTop (mkF m 50 #[.val (.ref a1), .val (.int (0 : Int32))] []))
    refine own_go (fun _ => XS.iconst X9.here hx rfl (hb hby own_d8_50)) ?_
    show own_Go _ _ _ _ (T9.setTop (mkF m 51 #[.val (.ref a1), .val (.int (0 : Int32))] [(.int (0 : Int32))]))
    refine own_retW X9 hS eq9 hsw hlk (v := some (.int (0 : Int32))) (fun h => by rw [Bd.returns] at h; cases h) (fun fs hr => retN X9 hx (t := .boolean) Bd.returns (by simp) (hb hby own_d8_51) hr) ?_ (by decide) (by decide)
    try rw [eq9]
    exact ⟨by simp [own_nmU, hk0], NF9⟩
  · have _h := hr0
    have hk0 : ¬ own_okc (nar .char (nar .char (own_gc w0 w1))) = 0 := fun q => hr0 (hi0.mpr q)
    refine own_go (fun _ => XS.ifYes X9.here hx rfl (pc0 := 47) (pc' := 52) rfl (hb hby own_d8_47) rfl ((if0 _ _).trans (flt hr0).2.1) (by decide) (by decide)) ?_
    show own_Go _ _ _ _ (T9.setTop (mkF m 52 #[.val (.ref a1), .val (.int (0 : Int32))] []))
    refine own_go (fun _ => XS.iinc X9.here hx rfl (hb hby own_d8_52) rfl (l' := #[.val (.ref a1), .val (.int (1 : Int32))]) rfl) ?_
    refine own_go (fun _ => XS.goto X9.here hx rfl (pc0 := 55) (pc' := 29) rfl (hb hby own_d8_55) (by decide) (by decide)) ?_
    refine own_go (fun _ => XS.iloadN X9.here hx rfl (hb hby own_d8_29) rfl) ?_
    refine own_go (fun _ => XS.aloadN X9.here hx rfl (hb hby own_d8_30) rfl rfl) ?_
    show own_Go _ _ _ _ (T9.setTop (mkF m 31 #[.val (.ref a1), .val (.int (1 : Int32))] [(.ref a1), (.int (1 : Int32))]))
    obtain ⟨cq10, kq10, q10a, q10b, q10c⟩ := isOf hZ eq9 E1
    obtain ⟨_, _, ⟨T10, L10, k10, n10⟩, -, X10, ⟨Lc10, hQ10, l10, y10, z10⟩, st10⟩ := X9.virtualBack hx (y := (⟨"java/lang/String", "length", "()I"⟩ : MethodName)) (z := (⟨"java/lang/String", "length", "()I"⟩ : MethodName)) hown (mvT hZ (hw _ (List.mem_of_getElem? (i := 58) rfl))) (mvT hZ (hw _ (List.mem_of_getElem? (i := 59) rfl))) (notFace_of_selects (args := #[]) (mvT hZ (hw _ (List.mem_of_getElem? (i := 61) rfl)))) (mvT hZ (hw _ (List.mem_of_getElem? (i := 61) rfl))) (mvT hZ (hw _ (List.mem_of_getElem? (i := 60) rfl))) (by decide) (own_back (W := 1) (own_rmln1 l Z a0 hw a1 b k cs 4 2 _ h7 n0 Z0 E1 Fv Fc V O S_C hcs (by decide)) hZ (hw _ (List.mem_of_getElem? (i := 62) rfl)) (hw _ (List.mem_of_getElem? (i := 3) rfl)) (by decide) (by decide)) q10a q10c (g := (mkF m 31 #[.val (.ref a1), .val (.int (1 : Int32))] [(.ref a1), (.int (1 : Int32))])) rfl (by rw [hml]; rfl) (Steps.refl _) (argsL := []) (rest := [(.int (1 : Int32))]) (lenOf own_pd18 rfl) rfl (by show 2 * 0 + _ ≤ _; exact Nat.le_of_eq rfl) (hb hby own_d8_31) (fun _ _ => ⟨rfl, eq9, (by decide : 6 + 0 ≤ _), (by decide : 340 + 0 ≤ _)⟩)
    dsimp only [Pt.U, Pt.locs, Pt.cells, Pt.slots] at X10 l10 y10 z10 st10 hQ10
    replace X10 := own_cst X10 l10 y10 z10 (k2 := 6) (n2 := 340) rfl rfl
    clear l10 y10 z10
    obtain ⟨rfl, Nq10, eq10⟩ := hQ10
    have NF10 := Fr.app NF9 Nq10
    refine own_goT st10 ?_
    show own_Go _ _ _ _ (T10.setTop (mkF m 34 #[.val (.ref a1), .val (.int (1 : Int32))] [(.int (2 : Int32)), (.int (1 : Int32))]))
    refine own_go (fun _ => XS.icmpNo X10.here hx rfl (hb hby own_d8_34) rfl (tlt (by decide)).2.1) ?_
    show own_Go _ _ _ _ (T10.setTop (mkF m 37 #[.val (.ref a1), .val (.int (1 : Int32))] []))
    refine own_go (ldcAgain X10 hx hZ hown (hw _ (List.mem_of_getElem? (i := 68) rfl)) Lt7 (g := (mkF m 37 #[.val (.ref a1), .val (.int (1 : Int32))] [])) rfl (hb hby own_d8_37)) ?_
    show own_Go _ _ _ _ (T10.setTop (mkF m 39 #[.val (.ref a1), .val (.int (1 : Int32))] [(.ref la7)]))
    refine own_go (fun _ => XS.aloadN X10.here hx rfl (hb hby own_d8_39) rfl rfl) ?_
    refine own_go (fun _ => XS.iloadN X10.here hx rfl (hb hby own_d8_40) rfl) ?_
    show own_Go _ _ _ _ (T10.setTop (mkF m 41 #[.val (.ref a1), .val (.int (1 : Int32))] [(.int (1 : Int32)), (.ref a1), (.ref la7)]))
    obtain ⟨cq11, kq11, q11a, q11b, q11c⟩ := isOf hZ eq10 E1
    obtain ⟨_, _, ⟨T11, L11, k11, n11⟩, -, X11, ⟨Lc11, hQ11, l11, y11, z11⟩, st11⟩ := X10.virtualBack hx (y := (⟨"java/lang/String", "charAt", "(I)C"⟩ : MethodName)) (z := (⟨"java/lang/String", "charAt", "(I)C"⟩ : MethodName)) hown (mvT hZ (hw _ (List.mem_of_getElem? (i := 69) rfl))) (mvT hZ (hw _ (List.mem_of_getElem? (i := 70) rfl))) (notFace_of_selects (args := #[]) (mvT hZ (hw _ (List.mem_of_getElem? (i := 72) rfl)))) (mvT hZ (hw _ (List.mem_of_getElem? (i := 72) rfl))) (mvT hZ (hw _ (List.mem_of_getElem? (i := 71) rfl))) (by decide) (own_back (W := 1) (own_rmcaU l Z a0 hw a1 b k cs fmt 4 2 1 2 3 w2 w3 _ h7 n0 Z0 E1 Fv Fc V O S_C hcs S_F hfmt (by decide) (by decide) (by decide) (by decide) (by decide) ⟨by decide, by decide⟩ ⟨by decide, by decide⟩ rfl rfl S_A S_H S_L) hZ (hw _ (List.mem_of_getElem? (i := 73) rfl)) (hw _ (List.mem_of_getElem? (i := 3) rfl)) (by decide) (by decide)) q11a q11c (g := (mkF m 41 #[.val (.ref a1), .val (.int (1 : Int32))] [(.int (1 : Int32)), (.ref a1), (.ref la7)])) rfl (by rw [hml]; rfl) (Steps.refl _) (argsL := [(.int (1 : Int32))]) (rest := [(.ref la7)]) (lenOf own_pd20 rfl) rfl (by show 2 * 0 + _ ≤ _; exact Nat.le_of_eq rfl) (hb hby own_d8_41) (fun _ _ => ⟨rfl, eq10, (by decide : 6 + 0 ≤ _), (by decide : 340 + 0 ≤ _)⟩)
    dsimp only [Pt.U, Pt.locs, Pt.cells, Pt.slots] at X11 l11 y11 z11 st11 hQ11
    replace X11 := own_cst X11 l11 y11 z11 (k2 := 6) (n2 := 340) rfl rfl
    clear l11 y11 z11
    obtain ⟨rfl, Nq11, eq11⟩ := hQ11
    have NF11 := Fr.app NF10 Nq11
    refine own_goT st11 ?_
    show own_Go _ _ _ _ (T11.setTop (mkF m 44 #[.val (.ref a1), .val (.int (1 : Int32))] [(.int (nar .char (nar .char (own_gc w2 w3)))), (.ref la7)]))
    obtain ⟨cq12, kq12, q12a, q12b, q12c⟩ := isOf hZ eq11 Ex7
    obtain ⟨_, _, ⟨T12, L12, k12, n12⟩, -, X12, ⟨Lc12, hQ12, l12, y12, z12⟩, st12⟩ := X11.virtualBack hx (y := (⟨"java/lang/String", "indexOf", "(I)I"⟩ : MethodName)) (z := (⟨"java/lang/String", "indexOf", "(I)I"⟩ : MethodName)) hown (mvT hZ (hw _ (List.mem_of_getElem? (i := 90) rfl))) (mvT hZ (hw _ (List.mem_of_getElem? (i := 91) rfl))) (notFace_of_selects (args := #[]) (mvT hZ (hw _ (List.mem_of_getElem? (i := 93) rfl)))) (mvT hZ (hw _ (List.mem_of_getElem? (i := 93) rfl))) (mvT hZ (hw _ (List.mem_of_getElem? (i := 92) rfl))) (by decide) (own_back (W := 0) (own_rmUA l Z a0 hw la7 lb7 kb7 cs (nar .char (nar .char (own_gc w2 w3))) h7 n0 Z0 Ex7 Fv7 Fc7 V7 O S_C hcs (own_chn _)) hZ (hw _ (List.mem_of_getElem? (i := 94) rfl)) (hw _ (List.mem_of_getElem? (i := 3) rfl)) (by decide) (by decide)) q12a q12c (g := (mkF m 44 #[.val (.ref a1), .val (.int (1 : Int32))] [(.int (nar .char (nar .char (own_gc w2 w3)))), (.ref la7)])) rfl (by rw [hml]; rfl) (Steps.refl _) (argsL := [(.int (nar .char (nar .char (own_gc w2 w3))))]) (rest := []) (lenOf own_pd9 rfl) rfl (by show 2 * 0 + _ ≤ _; exact Nat.le_of_eq rfl) (hb hby own_d8_44) (fun _ _ => ⟨rfl, eq11, (by decide : 6 + 0 ≤ _), (by decide : 340 + 0 ≤ _)⟩)
    dsimp only [Pt.U, Pt.locs, Pt.cells, Pt.slots] at X12 l12 y12 z12 st12 hQ12
    replace X12 := own_cst X12 l12 y12 z12 (k2 := 6) (n2 := 340) rfl rfl
    clear l12 y12 z12
    obtain ⟨ri1, rfl, Nq12, eq12, hi1⟩ := hQ12
    have NF12 := Fr.app NF11 Nq12
    refine own_goT st12 ?_
    show own_Go _ _ _ _ (T12.setTop (mkF m 47 #[.val (.ref a1), .val (.int (1 : Int32))] [(.int ri1)]))
    by_cases hr1 : ri1 < (0 : Int32)
    · have _h := hr1
      have hk1 : own_okc (nar .char (nar .char (own_gc w2 w3))) = 0 := hi1.mp hr1
      refine own_go (fun _ => XS.ifNo X12.here hx rfl (hb hby own_d8_47) rfl ((if0 _ _).trans (tlt hr1).2.1)) ?_
      show own_Go _ _ _ _ (T12.setTop (mkF m 50 #[.val (.ref a1), .val (.int (1 : Int32))] []))
      refine own_go (fun _ => XS.iconst X12.here hx rfl (hb hby own_d8_50)) ?_
      show own_Go _ _ _ _ (T12.setTop (mkF m 51 #[.val (.ref a1), .val (.int (1 : Int32))] [(.int (0 : Int32))]))
      refine own_retW X12 hS eq12 hsw hlk (v := some (.int (0 : Int32))) (fun h => by rw [Bd.returns] at h; cases h) (fun fs hr => retN X12 hx (t := .boolean) Bd.returns (by simp) (hb hby own_d8_51) hr) ?_ (by decide) (by decide)
      try rw [eq12]
      exact ⟨by simp [own_nmU, hk0, hk1], NF12⟩
    · have _h := hr1
      have hk1 : ¬ own_okc (nar .char (nar .char (own_gc w2 w3))) = 0 := fun q => hr1 (hi1.mpr q)
      refine own_go (fun _ => XS.ifYes X12.here hx rfl (pc0 := 47) (pc' := 52) rfl (hb hby own_d8_47) rfl ((if0 _ _).trans (flt hr1).2.1) (by decide) (by decide)) ?_
      show own_Go _ _ _ _ (T12.setTop (mkF m 52 #[.val (.ref a1), .val (.int (1 : Int32))] []))
      refine own_go (fun _ => XS.iinc X12.here hx rfl (hb hby own_d8_52) rfl (l' := #[.val (.ref a1), .val (.int (2 : Int32))]) rfl) ?_
      refine own_go (fun _ => XS.goto X12.here hx rfl (pc0 := 55) (pc' := 29) rfl (hb hby own_d8_55) (by decide) (by decide)) ?_
      refine own_go (fun _ => XS.iloadN X12.here hx rfl (hb hby own_d8_29) rfl) ?_
      refine own_go (fun _ => XS.aloadN X12.here hx rfl (hb hby own_d8_30) rfl rfl) ?_
      show own_Go _ _ _ _ (T12.setTop (mkF m 31 #[.val (.ref a1), .val (.int (2 : Int32))] [(.ref a1), (.int (2 : Int32))]))
      obtain ⟨cq13, kq13, q13a, q13b, q13c⟩ := isOf hZ eq12 E1
      obtain ⟨_, _, ⟨T13, L13, k13, n13⟩, -, X13, ⟨Lc13, hQ13, l13, y13, z13⟩, st13⟩ := X12.virtualBack hx (y := (⟨"java/lang/String", "length", "()I"⟩ : MethodName)) (z := (⟨"java/lang/String", "length", "()I"⟩ : MethodName)) hown (mvT hZ (hw _ (List.mem_of_getElem? (i := 58) rfl))) (mvT hZ (hw _ (List.mem_of_getElem? (i := 59) rfl))) (notFace_of_selects (args := #[]) (mvT hZ (hw _ (List.mem_of_getElem? (i := 61) rfl)))) (mvT hZ (hw _ (List.mem_of_getElem? (i := 61) rfl))) (mvT hZ (hw _ (List.mem_of_getElem? (i := 60) rfl))) (by decide) (own_back (W := 1) (own_rmln1 l Z a0 hw a1 b k cs 4 2 _ h7 n0 Z0 E1 Fv Fc V O S_C hcs (by decide)) hZ (hw _ (List.mem_of_getElem? (i := 62) rfl)) (hw _ (List.mem_of_getElem? (i := 3) rfl)) (by decide) (by decide)) q13a q13c (g := (mkF m 31 #[.val (.ref a1), .val (.int (2 : Int32))] [(.ref a1), (.int (2 : Int32))])) rfl (by rw [hml]; rfl) (Steps.refl _) (argsL := []) (rest := [(.int (2 : Int32))]) (lenOf own_pd18 rfl) rfl (by show 2 * 0 + _ ≤ _; exact Nat.le_of_eq rfl) (hb hby own_d8_31) (fun _ _ => ⟨rfl, eq12, (by decide : 6 + 0 ≤ _), (by decide : 340 + 0 ≤ _)⟩)
      dsimp only [Pt.U, Pt.locs, Pt.cells, Pt.slots] at X13 l13 y13 z13 st13 hQ13
      replace X13 := own_cst X13 l13 y13 z13 (k2 := 6) (n2 := 340) rfl rfl
      clear l13 y13 z13
      obtain ⟨rfl, Nq13, eq13⟩ := hQ13
      have NF13 := Fr.app NF12 Nq13
      refine own_goT st13 ?_
      show own_Go _ _ _ _ (T13.setTop (mkF m 34 #[.val (.ref a1), .val (.int (2 : Int32))] [(.int (2 : Int32)), (.int (2 : Int32))]))
      refine own_go (fun _ => XS.icmpYes X13.here hx rfl (pc0 := 34) (pc' := 58) rfl (hb hby own_d8_34) rfl (flt (by decide)).2.1 (by decide) (by decide)) ?_
      show own_Go _ _ _ _ (T13.setTop (mkF m 58 #[.val (.ref a1), .val (.int (2 : Int32))] []))
      refine own_go (fun _ => XS.iconst X13.here hx rfl (hb hby own_d8_58)) ?_
      show own_Go _ _ _ _ (T13.setTop (mkF m 59 #[.val (.ref a1), .val (.int (2 : Int32))] [(.int (1 : Int32))]))
      refine own_retW X13 hS eq13 hsw hlk (v := some (.int (1 : Int32))) (fun h => by rw [Bd.returns] at h; cases h) (fun fs hr => retN X13 hx (t := .boolean) Bd.returns (by simp) (hb hby own_d8_59) hr) ?_ (by decide) (by decide)
      try rw [eq13]
      exact ⟨by simp [own_nmU, hk0, hk1], NF13⟩
set_option maxRecDepth 65536 in
set_option maxHeartbeats 40000000 in
theorem own_rmNL3 (l : Launch) (Z : State) (a0 : Array Value) (hw : ∀ d ∈ tables_1, d.before a0 Z = true) (a1 : Addr) (b : Addr) (k : ClassId) (cs : Int32) (y0 : Int32) (y1 : Int32) (y2 : Int32) (fmt : Value) (h0 : Heap) (n0 : Nat) (Z0 : n0 ≤ h0.size) (E1 : Exa Z h0 a1 "java/lang/String") (Fv : Fld Z h0 a1 "java/lang/String" "value" "[B" (.ref b)) (Fc : Fld Z h0 a1 "java/lang/String" "coder" "B" (.int 0)) (V : Arv Z h0 b k .byte 3 [(.int y0), (.int y1), (.int y2)] (.int 0)) (O : Old Z n0 h0) (S_C : Sta Z Z.heap "java/lang/String" "COMPACT_STRINGS" "Z" (.int cs)) (hcs : ¬ cs = (0 : Int32)) (S_F : Sta Z Z.heap "jdk/internal/util/Preconditions" "SIOOBE_FORMATTER" "Ljava/util/function/BiFunction;" fmt) (hfmt : fmt = .null ∨ ∃ o : Addr, fmt = .ref o) :
    own_MetS l Z consts_1 [a1] [] (⟨"com/example/chartpost/chartpost/http/PathSegments", "isName", "(Ljava/lang/String;)Z"⟩ : MethodName) prog_30_method_2_code 2 (some .boolean) ({ frames := 5, cells := 6, slots := 340, locals := 67 } : Room) #[(.ref a1)] h0 (fun v h L => v = some (.int (own_nm [y0, y1, y2] [(nar .char (own_lc y0)), (nar .char (own_lc y1)), (nar .char (own_lc y2))])) ∧ Fr n0 L) := by
  refine MetFree.of_bodySF (plainFor_of_name own_pn5) hisR ?_
  intro p e s m args below meth c s₁ Bd hml0 hP hK
  obtain ⟨rfl, hZ, hh, H0, SF0⟩ := hP
  have hx := Bd.exec
  have hby := Bd.bytes
  have hml : c.maxLocals = 2 := hml0
  have hown : s.vm.findClass "com/example/chartpost/chartpost/http/PathSegments" = some m.cls := findClass_of_methodNamed Bd.named
  have hnm := (name_of_methodNamed Bd.named Bd.method).1
  have hlk : meth.locks = false := Bd.notSynchronized
  have X0 : Stand p l e ({ frames := 5, cells := 6, slots := 340, locals := 67 } : Room) s m #[(.ref a1)] below meth c s₁ [] 0 0 := Stand.of_body Bd
  have e0 : s₁.heap = h0 := by rw [← hh, Bd.state]; rfl
  have N0 := Fr.nil n0
  refine own_bodyW (Q := fun v h L => v = some (.int (own_nm [y0, y1, y2] [(nar .char (own_lc y0)), (nar .char (own_lc y1)), (nar .char (own_lc y2))])) ∧ Fr n0 L) ?_
  refine own_go (fun _ kont => castTop (own_ef m #[(.ref a1)] 2 #[.val (.ref a1), .unset] (own_al [(.ref a1)] 2 [.val (.ref a1), .unset] rfl)) kont) ?_
  show own_Go _ _ _ _ (s₁.setTop (mkF m 0 #[.val (.ref a1), .unset] []))
  have SF := (SF0 a1 (List.mem_of_getElem? (i := 0) rfl)).2
  have Hc := H0
  refine own_go (fun _ => XS.aloadN X0.here hx rfl (hb hby own_d8_0) rfl rfl) ?_
  show own_Go _ _ _ _ (s₁.setTop (mkF m 1 #[.val (.ref a1), .unset] [(.ref a1)]))
  obtain ⟨cq1, kq1, q1a, q1b, q1c⟩ := isOf hZ e0 E1
  obtain ⟨_, _, ⟨T1, L1, k1, n1⟩, -, X1, ⟨Lc1, hQ1, l1, y1, z1⟩, st1⟩ := X0.virtualBack hx (y := (⟨"java/lang/String", "isEmpty", "()Z"⟩ : MethodName)) (z := (⟨"java/lang/String", "isEmpty", "()Z"⟩ : MethodName)) hown (mvT hZ (hw _ (List.mem_of_getElem? (i := 39) rfl))) (mvT hZ (hw _ (List.mem_of_getElem? (i := 40) rfl))) (notFace_of_selects (args := #[]) (mvT hZ (hw _ (List.mem_of_getElem? (i := 42) rfl)))) (mvT hZ (hw _ (List.mem_of_getElem? (i := 42) rfl))) (mvT hZ (hw _ (List.mem_of_getElem? (i := 41) rfl))) (by decide) (own_back (W := 0) (own_rme l Z a0 hw a1 b k 3 _ h0 n0 Z0 Fv V (by decide)) hZ (hw _ (List.mem_of_getElem? (i := 43) rfl)) (hw _ (List.mem_of_getElem? (i := 3) rfl)) (by decide) (by decide)) q1a q1c (g := (mkF m 1 #[.val (.ref a1), .unset] [(.ref a1)])) rfl (by rw [hml]; rfl) (Steps.refl _) (argsL := []) (rest := []) (lenOf own_pd3 rfl) rfl (by show 2 * 0 + _ ≤ _; exact Nat.le_of_eq rfl) (hb hby own_d8_1) (fun _ _ => ⟨rfl, e0, (by decide : 0 + 0 ≤ _), (by decide : 0 + 0 ≤ _)⟩)
  dsimp only [Pt.U, Pt.locs, Pt.cells, Pt.slots] at X1 l1 y1 z1 st1 hQ1
  replace X1 := own_cst X1 l1 y1 z1 (k2 := 0) (n2 := 0) rfl rfl
  clear l1 y1 z1
  obtain ⟨rfl, Nq1, eq1⟩ := hQ1
  have NF1 := Fr.app N0 Nq1
  refine own_goT st1 ?_
  show own_Go _ _ _ _ (T1.setTop (mkF m 4 #[.val (.ref a1), .unset] [(.int (0 : Int32))]))
  refine own_go (fun _ => XS.ifNo X1.here hx rfl (hb hby own_d8_4) rfl ((if0 _ _).trans (teq rfl).2)) ?_
  show own_Go _ _ _ _ (T1.setTop (mkF m 7 #[.val (.ref a1), .unset] []))
  refine own_go (fun _ => XS.aloadN X1.here hx rfl (hb hby own_d8_7) rfl rfl) ?_
  show own_Go _ _ _ _ (T1.setTop (mkF m 8 #[.val (.ref a1), .unset] [(.ref a1)]))
  obtain ⟨la2, T2, h2, kq2, lb2, kb2, X2, e2, E2, hS2, hsw2, hZ2, hown2, Ex2, Fc2, Fv2, V2, -, -, CR2, Lt2, sf2, st2⟩ := ldcCH (s := s) (vm0 := s.vm) (EL := consts_1) X1 hx hZ hown (hw _ (List.mem_of_getElem? (i := 44) rfl)) (own_ws hw) eq1 (State.WarmedH.since (State.WarmedH.refl s) _) (Nat.le_refl _) (own_ew hw) (List.mem_of_getElem? (i := 0) rfl) Hc (vs := [.int 46]) (z := 1) ⟨by decide +kernel, by first | rfl | decide +kernel⟩ (by decide) rfl (g := (mkF m 8 #[.val (.ref a1), .unset] [(.ref a1)])) rfl (hb hby own_d8_8) (n := 4) (by decide) (by decide) (by decide) (by decide)
  have SF := CR2.safe E1.lt SF
  have ne_la2 : ¬ a1 = la2 := (sf2 _ SF).1
  refine own_go st2 ?_
  replace E1 := E1.ext E2
  replace Fv := Fv.ext E2
  replace Fc := Fc.ext E2
  replace V := V.ext E2
  replace O := O.ext E2
  replace Z0 := Nat.le_trans Z0 E2.1
  have hZ := hZ2
  have hown := hown2
  have hS := hS2
  have hsw := hsw2
  have Hc := CR2.1
  show own_Go _ _ _ _ (T2.setTop (mkF m 10 #[.val (.ref a1), .unset] [(.ref la2), (.ref a1)]))
  obtain ⟨cq3, kq3, q3a, q3b, q3c⟩ := isOf hZ e2 E1
  obtain ⟨_, _, ⟨T3, L3, k3, n3⟩, -, X3, ⟨Lc3, hQ3, l3, y3, z3⟩, st3⟩ := X2.virtualBack hx (y := (⟨"java/lang/String", "equals", "(Ljava/lang/Object;)Z"⟩ : MethodName)) (z := (⟨"java/lang/String", "equals", "(Ljava/lang/Object;)Z"⟩ : MethodName)) hown (mvT hZ (hw _ (List.mem_of_getElem? (i := 47) rfl))) (mvT hZ (hw _ (List.mem_of_getElem? (i := 48) rfl))) (notFace_of_selects (args := #[]) (mvT hZ (hw _ (List.mem_of_getElem? (i := 50) rfl)))) (mvT hZ (hw _ (List.mem_of_getElem? (i := 50) rfl))) (mvT hZ (hw _ (List.mem_of_getElem? (i := 49) rfl))) (by decide) (own_back (W := 0) (own_rmeq0 l Z a0 hw a1 la2 cs b lb2 0 h2 n0 Z0 Fc O S_C hcs ne_la2 Ex2 Fc2 Fv Fv2 (own_rmleD l Z a0 hw b k lb2 kb2 3 1 _ _ h2 n0 Z0 V V2 (by decide)) (fun q => absurd rfl q)) hZ (hw _ (List.mem_of_getElem? (i := 51) rfl)) (hw _ (List.mem_of_getElem? (i := 3) rfl)) (by decide) (by decide)) q3a q3c (g := (mkF m 10 #[.val (.ref a1), .unset] [(.ref la2), (.ref a1)])) rfl (by rw [hml]; rfl) (Steps.refl _) (argsL := [(.ref la2)]) (rest := []) (lenOf own_pd19 rfl) rfl (by show 2 * 0 + _ ≤ _; exact Nat.le_of_eq rfl) (hb hby own_d8_10) (fun _ _ => ⟨rfl, e2, (by decide : 2 + 0 ≤ _), (by decide : 8 + 0 ≤ _)⟩)
  dsimp only [Pt.U, Pt.locs, Pt.cells, Pt.slots] at X3 l3 y3 z3 st3 hQ3
  replace X3 := own_cst X3 l3 y3 z3 (k2 := 2) (n2 := 8) rfl rfl
  clear l3 y3 z3
  obtain ⟨rfl, Nq3, eq3⟩ := hQ3
  have NF3 := Fr.app NF1 Nq3
  refine own_goT st3 ?_
  show own_Go _ _ _ _ (T3.setTop (mkF m 13 #[.val (.ref a1), .unset] [(.int (0 : Int32))]))
  have hd1 : own_same [y0, y1, y2] [46] = 0 := by simp [own_same]
  refine own_go (fun _ => XS.ifNo X3.here hx rfl (hb hby own_d8_13) rfl ((if0 _ _).trans (teq rfl).2)) ?_
  show own_Go _ _ _ _ (T3.setTop (mkF m 16 #[.val (.ref a1), .unset] []))
  refine own_go (fun _ => XS.aloadN X3.here hx rfl (hb hby own_d8_16) rfl rfl) ?_
  show own_Go _ _ _ _ (T3.setTop (mkF m 17 #[.val (.ref a1), .unset] [(.ref a1)]))
  obtain ⟨la4, T4, h4, kq4, lb4, kb4, X4, e4, E4, hS4, hsw4, hZ4, hown4, Ex4, Fc4, Fv4, V4, -, -, CR4, Lt4, sf4, st4⟩ := ldcCH (s := s) (vm0 := T2.vm) (EL := consts_1) X3 hx hZ hown (hw _ (List.mem_of_getElem? (i := 57) rfl)) (own_ws hw) eq3 hS hsw (own_ew hw) (List.mem_of_getElem? (i := 1) rfl) Hc (vs := [.int 46, .int 46]) (z := 2) ⟨by decide +kernel, by first | rfl | decide +kernel⟩ (by decide) rfl (g := (mkF m 17 #[.val (.ref a1), .unset] [(.ref a1)])) rfl (hb hby own_d8_17) (n := 8) (by decide) (by decide) (by decide) (by decide)
  have SF := CR4.safe E1.lt SF
  have ne_la4 : ¬ a1 = la4 := (sf4 _ SF).1
  refine own_go st4 ?_
  replace E1 := E1.ext E4
  replace Fv := Fv.ext E4
  replace Fc := Fc.ext E4
  replace V := V.ext E4
  replace O := O.ext E4
  replace Ex2 := Ex2.ext E4
  replace Fv2 := Fv2.ext E4
  replace Fc2 := Fc2.ext E4
  replace V2 := V2.ext E4
  replace Z0 := Nat.le_trans Z0 E4.1
  replace hsw := Nat.le_trans hsw E4.1
  have hZ := hZ4
  have hown := hown4
  have hS := hS4
  have hsw := hsw4
  have Hc := CR4.1
  show own_Go _ _ _ _ (T4.setTop (mkF m 19 #[.val (.ref a1), .unset] [(.ref la4), (.ref a1)]))
  obtain ⟨cq5, kq5, q5a, q5b, q5c⟩ := isOf hZ e4 E1
  obtain ⟨_, _, ⟨T5, L5, k5, n5⟩, -, X5, ⟨Lc5, hQ5, l5, y5, z5⟩, st5⟩ := X4.virtualBack hx (y := (⟨"java/lang/String", "equals", "(Ljava/lang/Object;)Z"⟩ : MethodName)) (z := (⟨"java/lang/String", "equals", "(Ljava/lang/Object;)Z"⟩ : MethodName)) hown (mvT hZ (hw _ (List.mem_of_getElem? (i := 47) rfl))) (mvT hZ (hw _ (List.mem_of_getElem? (i := 48) rfl))) (notFace_of_selects (args := #[]) (mvT hZ (hw _ (List.mem_of_getElem? (i := 50) rfl)))) (mvT hZ (hw _ (List.mem_of_getElem? (i := 50) rfl))) (mvT hZ (hw _ (List.mem_of_getElem? (i := 49) rfl))) (by decide) (own_back (W := 0) (own_rmeq0 l Z a0 hw a1 la4 cs b lb4 0 h4 n0 Z0 Fc O S_C hcs ne_la4 Ex4 Fc4 Fv Fv4 (own_rmleD l Z a0 hw b k lb4 kb4 3 2 _ _ h4 n0 Z0 V V4 (by decide)) (fun q => absurd rfl q)) hZ (hw _ (List.mem_of_getElem? (i := 51) rfl)) (hw _ (List.mem_of_getElem? (i := 3) rfl)) (by decide) (by decide)) q5a q5c (g := (mkF m 19 #[.val (.ref a1), .unset] [(.ref la4), (.ref a1)])) rfl (by rw [hml]; rfl) (Steps.refl _) (argsL := [(.ref la4)]) (rest := []) (lenOf own_pd19 rfl) rfl (by show 2 * 0 + _ ≤ _; exact Nat.le_of_eq rfl) (hb hby own_d8_19) (fun _ _ => ⟨rfl, e4, (by decide : 4 + 0 ≤ _), (by decide : 20 + 0 ≤ _)⟩)
  dsimp only [Pt.U, Pt.locs, Pt.cells, Pt.slots] at X5 l5 y5 z5 st5 hQ5
  replace X5 := own_cst X5 l5 y5 z5 (k2 := 4) (n2 := 20) rfl rfl
  clear l5 y5 z5
  obtain ⟨rfl, Nq5, eq5⟩ := hQ5
  have NF5 := Fr.app NF3 Nq5
  refine own_goT st5 ?_
  show own_Go _ _ _ _ (T5.setTop (mkF m 22 #[.val (.ref a1), .unset] [(.int (0 : Int32))]))
  have hd2 : own_same [y0, y1, y2] [46, 46] = 0 := by simp [own_same]
  refine own_go (fun _ => XS.ifYes X5.here hx rfl (pc0 := 22) (pc' := 27) rfl (hb hby own_d8_22) rfl ((if0 _ _).trans (teq rfl).1) (by decide) (by decide)) ?_
  show own_Go _ _ _ _ (T5.setTop (mkF m 27 #[.val (.ref a1), .unset] []))
  refine own_go (fun _ => XS.iconst X5.here hx rfl (hb hby own_d8_27)) ?_
  refine own_go (fun _ => XS.istoreN X5.here hx rfl (hb hby own_d8_28) rfl (l' := #[.val (.ref a1), .val (.int (0 : Int32))]) rfl) ?_
  refine own_go (fun _ => XS.iloadN X5.here hx rfl (hb hby own_d8_29) rfl) ?_
  refine own_go (fun _ => XS.aloadN X5.here hx rfl (hb hby own_d8_30) rfl rfl) ?_
  show own_Go _ _ _ _ (T5.setTop (mkF m 31 #[.val (.ref a1), .val (.int (0 : Int32))] [(.ref a1), (.int (0 : Int32))]))
  obtain ⟨cq6, kq6, q6a, q6b, q6c⟩ := isOf hZ eq5 E1
  obtain ⟨_, _, ⟨T6, L6, k6, n6⟩, -, X6, ⟨Lc6, hQ6, l6, y6, z6⟩, st6⟩ := X5.virtualBack hx (y := (⟨"java/lang/String", "length", "()I"⟩ : MethodName)) (z := (⟨"java/lang/String", "length", "()I"⟩ : MethodName)) hown (mvT hZ (hw _ (List.mem_of_getElem? (i := 58) rfl))) (mvT hZ (hw _ (List.mem_of_getElem? (i := 59) rfl))) (notFace_of_selects (args := #[]) (mvT hZ (hw _ (List.mem_of_getElem? (i := 61) rfl)))) (mvT hZ (hw _ (List.mem_of_getElem? (i := 61) rfl))) (mvT hZ (hw _ (List.mem_of_getElem? (i := 60) rfl))) (by decide) (own_back (W := 1) (own_rmln0 l Z a0 hw a1 b k cs 3 3 _ h4 n0 Z0 E1 Fv Fc V O S_C hcs (by decide)) hZ (hw _ (List.mem_of_getElem? (i := 62) rfl)) (hw _ (List.mem_of_getElem? (i := 3) rfl)) (by decide) (by decide)) q6a q6c (g := (mkF m 31 #[.val (.ref a1), .val (.int (0 : Int32))] [(.ref a1), (.int (0 : Int32))])) rfl (by rw [hml]; rfl) (Steps.refl _) (argsL := []) (rest := [(.int (0 : Int32))]) (lenOf own_pd18 rfl) rfl (by show 2 * 0 + _ ≤ _; exact Nat.le_of_eq rfl) (hb hby own_d8_31) (fun _ _ => ⟨rfl, eq5, (by decide : 4 + 0 ≤ _), (by decide : 20 + 0 ≤ _)⟩)
  dsimp only [Pt.U, Pt.locs, Pt.cells, Pt.slots] at X6 l6 y6 z6 st6 hQ6
  replace X6 := own_cst X6 l6 y6 z6 (k2 := 4) (n2 := 20) rfl rfl
  clear l6 y6 z6
  obtain ⟨rfl, Nq6, eq6⟩ := hQ6
  have NF6 := Fr.app NF5 Nq6
  refine own_goT st6 ?_
  show own_Go _ _ _ _ (T6.setTop (mkF m 34 #[.val (.ref a1), .val (.int (0 : Int32))] [(.int (3 : Int32)), (.int (0 : Int32))]))
  refine own_go (fun _ => XS.icmpNo X6.here hx rfl (hb hby own_d8_34) rfl (tlt (by decide)).2.1) ?_
  show own_Go _ _ _ _ (T6.setTop (mkF m 37 #[.val (.ref a1), .val (.int (0 : Int32))] []))
  obtain ⟨la7, T7, h7, kq7, lb7, kb7, X7, e7, E7, hS7, hsw7, hZ7, hown7, Ex7, Fc7, Fv7, V7, -, -, CR7, Lt7, sf7, st7⟩ := ldcCH (s := s) (vm0 := T4.vm) (EL := consts_1) X6 hx hZ hown (hw _ (List.mem_of_getElem? (i := 68) rfl)) (own_ws hw) eq6 hS hsw (own_ew hw) (List.mem_of_getElem? (i := 2) rfl) Hc (vs := (own_alpha.map Value.int)) (z := 79) ⟨by decide +kernel, by first | rfl | decide +kernel⟩ (by decide) rfl (g := (mkF m 37 #[.val (.ref a1), .val (.int (0 : Int32))] [])) rfl (hb hby own_d8_37) (n := 316) (by decide) (by decide) (by decide) (by decide)
  have SF := CR7.safe E1.lt SF
  have ne_la7 : ¬ a1 = la7 := (sf7 _ SF).1
  refine own_go st7 ?_
  replace E1 := E1.ext E7
  replace Fv := Fv.ext E7
  replace Fc := Fc.ext E7
  replace V := V.ext E7
  replace O := O.ext E7
  replace Ex2 := Ex2.ext E7
  replace Fv2 := Fv2.ext E7
  replace Fc2 := Fc2.ext E7
  replace V2 := V2.ext E7
  replace Ex4 := Ex4.ext E7
  replace Fv4 := Fv4.ext E7
  replace Fc4 := Fc4.ext E7
  replace V4 := V4.ext E7
  replace Z0 := Nat.le_trans Z0 E7.1
  replace hsw := Nat.le_trans hsw E7.1
  have hZ := hZ7
  have hown := hown7
  have hS := hS7
  have hsw := hsw7
  have Hc := CR7.1
  show own_Go _ _ _ _ (T7.setTop (mkF m 39 #[.val (.ref a1), .val (.int (0 : Int32))] [(.ref la7)]))
  refine own_go (fun _ => XS.aloadN X7.here hx rfl (hb hby own_d8_39) rfl rfl) ?_
  refine own_go (fun _ => XS.iloadN X7.here hx rfl (hb hby own_d8_40) rfl) ?_
  show own_Go _ _ _ _ (T7.setTop (mkF m 41 #[.val (.ref a1), .val (.int (0 : Int32))] [(.int (0 : Int32)), (.ref a1), (.ref la7)]))
  obtain ⟨cq8, kq8, q8a, q8b, q8c⟩ := isOf hZ e7 E1
  obtain ⟨_, _, ⟨T8, L8, k8, n8⟩, -, X8, ⟨Lc8, hQ8, l8, y8, z8⟩, st8⟩ := X7.virtualBack hx (y := (⟨"java/lang/String", "charAt", "(I)C"⟩ : MethodName)) (z := (⟨"java/lang/String", "charAt", "(I)C"⟩ : MethodName)) hown (mvT hZ (hw _ (List.mem_of_getElem? (i := 69) rfl))) (mvT hZ (hw _ (List.mem_of_getElem? (i := 70) rfl))) (notFace_of_selects (args := #[]) (mvT hZ (hw _ (List.mem_of_getElem? (i := 72) rfl)))) (mvT hZ (hw _ (List.mem_of_getElem? (i := 72) rfl))) (mvT hZ (hw _ (List.mem_of_getElem? (i := 71) rfl))) (by decide) (own_back (W := 1) (own_rmcaL l Z a0 hw a1 b k cs fmt 3 0 y0 _ h7 n0 Z0 E1 Fv Fc V O S_C hcs S_F hfmt (by decide) (by decide) rfl) hZ (hw _ (List.mem_of_getElem? (i := 73) rfl)) (hw _ (List.mem_of_getElem? (i := 3) rfl)) (by decide) (by decide)) q8a q8c (g := (mkF m 41 #[.val (.ref a1), .val (.int (0 : Int32))] [(.int (0 : Int32)), (.ref a1), (.ref la7)])) rfl (by rw [hml]; rfl) (Steps.refl _) (argsL := [(.int (0 : Int32))]) (rest := [(.ref la7)]) (lenOf own_pd20 rfl) rfl (by show 2 * 0 + _ ≤ _; exact Nat.le_of_eq rfl) (hb hby own_d8_41) (fun _ _ => ⟨rfl, e7, (by decide : 6 + 0 ≤ _), (by decide : 340 + 0 ≤ _)⟩)
  dsimp only [Pt.U, Pt.locs, Pt.cells, Pt.slots] at X8 l8 y8 z8 st8 hQ8
  replace X8 := own_cst X8 l8 y8 z8 (k2 := 6) (n2 := 340) rfl rfl
  clear l8 y8 z8
  obtain ⟨rfl, Nq8, eq8⟩ := hQ8
  have NF8 := Fr.app NF6 Nq8
  refine own_goT st8 ?_
  show own_Go _ _ _ _ (T8.setTop (mkF m 44 #[.val (.ref a1), .val (.int (0 : Int32))] [(.int (nar .char (own_lc y0))), (.ref la7)]))
  obtain ⟨cq9, kq9, q9a, q9b, q9c⟩ := isOf hZ eq8 Ex7
  obtain ⟨_, _, ⟨T9, L9, k9, n9⟩, -, X9, ⟨Lc9, hQ9, l9, y9, z9⟩, st9⟩ := X8.virtualBack hx (y := (⟨"java/lang/String", "indexOf", "(I)I"⟩ : MethodName)) (z := (⟨"java/lang/String", "indexOf", "(I)I"⟩ : MethodName)) hown (mvT hZ (hw _ (List.mem_of_getElem? (i := 90) rfl))) (mvT hZ (hw _ (List.mem_of_getElem? (i := 91) rfl))) (notFace_of_selects (args := #[]) (mvT hZ (hw _ (List.mem_of_getElem? (i := 93) rfl)))) (mvT hZ (hw _ (List.mem_of_getElem? (i := 93) rfl))) (mvT hZ (hw _ (List.mem_of_getElem? (i := 92) rfl))) (by decide) (own_back (W := 0) (own_rmUA l Z a0 hw la7 lb7 kb7 cs (nar .char (own_lc y0)) h7 n0 Z0 Ex7 Fv7 Fc7 V7 O S_C hcs (own_chn _)) hZ (hw _ (List.mem_of_getElem? (i := 94) rfl)) (hw _ (List.mem_of_getElem? (i := 3) rfl)) (by decide) (by decide)) q9a q9c (g := (mkF m 44 #[.val (.ref a1), .val (.int (0 : Int32))] [(.int (nar .char (own_lc y0))), (.ref la7)])) rfl (by rw [hml]; rfl) (Steps.refl _) (argsL := [(.int (nar .char (own_lc y0)))]) (rest := []) (lenOf own_pd9 rfl) rfl (by show 2 * 0 + _ ≤ _; exact Nat.le_of_eq rfl) (hb hby own_d8_44) (fun _ _ => ⟨rfl, eq8, (by decide : 6 + 0 ≤ _), (by decide : 340 + 0 ≤ _)⟩)
  dsimp only [Pt.U, Pt.locs, Pt.cells, Pt.slots] at X9 l9 y9 z9 st9 hQ9
  replace X9 := own_cst X9 l9 y9 z9 (k2 := 6) (n2 := 340) rfl rfl
  clear l9 y9 z9
  obtain ⟨ri0, rfl, Nq9, eq9, hi0⟩ := hQ9
  have NF9 := Fr.app NF8 Nq9
  refine own_goT st9 ?_
  show own_Go _ _ _ _ (T9.setTop (mkF m 47 #[.val (.ref a1), .val (.int (0 : Int32))] [(.int ri0)]))
  by_cases hr0 : ri0 < (0 : Int32)
  · have _h := hr0
    have hk0 : own_okc (nar .char (own_lc y0)) = 0 := hi0.mp hr0
    refine own_go (fun _ => XS.ifNo X9.here hx rfl (hb hby own_d8_47) rfl ((if0 _ _).trans (tlt hr0).2.1)) ?_
    show own_Go _ _ _ _ (T9.setTop (mkF m 50 #[.val (.ref a1), .val (.int (0 : Int32))] []))
    refine own_go (fun _ => XS.iconst X9.here hx rfl (hb hby own_d8_50)) ?_
    show own_Go _ _ _ _ (T9.setTop (mkF m 51 #[.val (.ref a1), .val (.int (0 : Int32))] [(.int (0 : Int32))]))
    refine own_retW X9 hS eq9 hsw hlk (v := some (.int (0 : Int32))) (fun h => by rw [Bd.returns] at h; cases h) (fun fs hr => retN X9 hx (t := .boolean) Bd.returns (by simp) (hb hby own_d8_51) hr) ?_ (by decide) (by decide)
    try rw [eq9]
    exact ⟨by simp [own_nm, hd1, hd2, hk0], NF9⟩
  · have _h := hr0
    have hk0 : ¬ own_okc (nar .char (own_lc y0)) = 0 := fun q => hr0 (hi0.mpr q)
    refine own_go (fun _ => XS.ifYes X9.here hx rfl (pc0 := 47) (pc' := 52) rfl (hb hby own_d8_47) rfl ((if0 _ _).trans (flt hr0).2.1) (by decide) (by decide)) ?_
    show own_Go _ _ _ _ (T9.setTop (mkF m 52 #[.val (.ref a1), .val (.int (0 : Int32))] []))
    refine own_go (fun _ => XS.iinc X9.here hx rfl (hb hby own_d8_52) rfl (l' := #[.val (.ref a1), .val (.int (1 : Int32))]) rfl) ?_
    refine own_go (fun _ => XS.goto X9.here hx rfl (pc0 := 55) (pc' := 29) rfl (hb hby own_d8_55) (by decide) (by decide)) ?_
    refine own_go (fun _ => XS.iloadN X9.here hx rfl (hb hby own_d8_29) rfl) ?_
    refine own_go (fun _ => XS.aloadN X9.here hx rfl (hb hby own_d8_30) rfl rfl) ?_
    show own_Go _ _ _ _ (T9.setTop (mkF m 31 #[.val (.ref a1), .val (.int (1 : Int32))] [(.ref a1), (.int (1 : Int32))]))
    obtain ⟨cq10, kq10, q10a, q10b, q10c⟩ := isOf hZ eq9 E1
    obtain ⟨_, _, ⟨T10, L10, k10, n10⟩, -, X10, ⟨Lc10, hQ10, l10, y10, z10⟩, st10⟩ := X9.virtualBack hx (y := (⟨"java/lang/String", "length", "()I"⟩ : MethodName)) (z := (⟨"java/lang/String", "length", "()I"⟩ : MethodName)) hown (mvT hZ (hw _ (List.mem_of_getElem? (i := 58) rfl))) (mvT hZ (hw _ (List.mem_of_getElem? (i := 59) rfl))) (notFace_of_selects (args := #[]) (mvT hZ (hw _ (List.mem_of_getElem? (i := 61) rfl)))) (mvT hZ (hw _ (List.mem_of_getElem? (i := 61) rfl))) (mvT hZ (hw _ (List.mem_of_getElem? (i := 60) rfl))) (by decide) (own_back (W := 1) (own_rmln0 l Z a0 hw a1 b k cs 3 3 _ h7 n0 Z0 E1 Fv Fc V O S_C hcs (by decide)) hZ (hw _ (List.mem_of_getElem? (i := 62) rfl)) (hw _ (List.mem_of_getElem? (i := 3) rfl)) (by decide) (by decide)) q10a q10c (g := (mkF m 31 #[.val (.ref a1), .val (.int (1 : Int32))] [(.ref a1), (.int (1 : Int32))])) rfl (by rw [hml]; rfl) (Steps.refl _) (argsL := []) (rest := [(.int (1 : Int32))]) (lenOf own_pd18 rfl) rfl (by show 2 * 0 + _ ≤ _; exact Nat.le_of_eq rfl) (hb hby own_d8_31) (fun _ _ => ⟨rfl, eq9, (by decide : 6 + 0 ≤ _), (by decide : 340 + 0 ≤ _)⟩)
    dsimp only [Pt.U, Pt.locs, Pt.cells, Pt.slots] at X10 l10 y10 z10 st10 hQ10
    replace X10 := own_cst X10 l10 y10 z10 (k2 := 6) (n2 := 340) rfl rfl
    clear l10 y10 z10
    obtain ⟨rfl, Nq10, eq10⟩ := hQ10
    have NF10 := Fr.app NF9 Nq10
    refine own_goT st10 ?_
    show own_Go _ _ _ _ (T10.setTop (mkF m 34 #[.val (.ref a1), .val (.int (1 : Int32))] [(.int (3 : Int32)), (.int (1 : Int32))]))
    refine own_go (fun _ => XS.icmpNo X10.here hx rfl (hb hby own_d8_34) rfl (tlt (by decide)).2.1) ?_
    show own_Go _ _ _ _ (T10.setTop (mkF m 37 #[.val (.ref a1), .val (.int (1 : Int32))] []))
    refine own_go (ldcAgain X10 hx hZ hown (hw _ (List.mem_of_getElem? (i := 68) rfl)) Lt7 (g := (mkF m 37 #[.val (.ref a1), .val (.int (1 : Int32))] [])) rfl (hb hby own_d8_37)) ?_
    show own_Go _ _ _ _ (T10.setTop (mkF m 39 #[.val (.ref a1), .val (.int (1 : Int32))] [(.ref la7)]))
    refine own_go (fun _ => XS.aloadN X10.here hx rfl (hb hby own_d8_39) rfl rfl) ?_
    refine own_go (fun _ => XS.iloadN X10.here hx rfl (hb hby own_d8_40) rfl) ?_
    show own_Go _ _ _ _ (T10.setTop (mkF m 41 #[.val (.ref a1), .val (.int (1 : Int32))] [(.int (1 : Int32)), (.ref a1), (.ref la7)]))
    obtain ⟨cq11, kq11, q11a, q11b, q11c⟩ := isOf hZ eq10 E1
    obtain ⟨_, _, ⟨T11, L11, k11, n11⟩, -, X11, ⟨Lc11, hQ11, l11, y11, z11⟩, st11⟩ := X10.virtualBack hx (y := (⟨"java/lang/String", "charAt", "(I)C"⟩ : MethodName)) (z := (⟨"java/lang/String", "charAt", "(I)C"⟩ : MethodName)) hown (mvT hZ (hw _ (List.mem_of_getElem? (i := 69) rfl))) (mvT hZ (hw _ (List.mem_of_getElem? (i := 70) rfl))) (notFace_of_selects (args := #[]) (mvT hZ (hw _ (List.mem_of_getElem? (i := 72) rfl)))) (mvT hZ (hw _ (List.mem_of_getElem? (i := 72) rfl))) (mvT hZ (hw _ (List.mem_of_getElem? (i := 71) rfl))) (by decide) (own_back (W := 1) (own_rmcaL l Z a0 hw a1 b k cs fmt 3 1 y1 _ h7 n0 Z0 E1 Fv Fc V O S_C hcs S_F hfmt (by decide) (by decide) rfl) hZ (hw _ (List.mem_of_getElem? (i := 73) rfl)) (hw _ (List.mem_of_getElem? (i := 3) rfl)) (by decide) (by decide)) q11a q11c (g := (mkF m 41 #[.val (.ref a1), .val (.int (1 : Int32))] [(.int (1 : Int32)), (.ref a1), (.ref la7)])) rfl (by rw [hml]; rfl) (Steps.refl _) (argsL := [(.int (1 : Int32))]) (rest := [(.ref la7)]) (lenOf own_pd20 rfl) rfl (by show 2 * 0 + _ ≤ _; exact Nat.le_of_eq rfl) (hb hby own_d8_41) (fun _ _ => ⟨rfl, eq10, (by decide : 6 + 0 ≤ _), (by decide : 340 + 0 ≤ _)⟩)
    dsimp only [Pt.U, Pt.locs, Pt.cells, Pt.slots] at X11 l11 y11 z11 st11 hQ11
    replace X11 := own_cst X11 l11 y11 z11 (k2 := 6) (n2 := 340) rfl rfl
    clear l11 y11 z11
    obtain ⟨rfl, Nq11, eq11⟩ := hQ11
    have NF11 := Fr.app NF10 Nq11
    refine own_goT st11 ?_
    show own_Go _ _ _ _ (T11.setTop (mkF m 44 #[.val (.ref a1), .val (.int (1 : Int32))] [(.int (nar .char (own_lc y1))), (.ref la7)]))
    obtain ⟨cq12, kq12, q12a, q12b, q12c⟩ := isOf hZ eq11 Ex7
    obtain ⟨_, _, ⟨T12, L12, k12, n12⟩, -, X12, ⟨Lc12, hQ12, l12, y12, z12⟩, st12⟩ := X11.virtualBack hx (y := (⟨"java/lang/String", "indexOf", "(I)I"⟩ : MethodName)) (z := (⟨"java/lang/String", "indexOf", "(I)I"⟩ : MethodName)) hown (mvT hZ (hw _ (List.mem_of_getElem? (i := 90) rfl))) (mvT hZ (hw _ (List.mem_of_getElem? (i := 91) rfl))) (notFace_of_selects (args := #[]) (mvT hZ (hw _ (List.mem_of_getElem? (i := 93) rfl)))) (mvT hZ (hw _ (List.mem_of_getElem? (i := 93) rfl))) (mvT hZ (hw _ (List.mem_of_getElem? (i := 92) rfl))) (by decide) (own_back (W := 0) (own_rmUA l Z a0 hw la7 lb7 kb7 cs (nar .char (own_lc y1)) h7 n0 Z0 Ex7 Fv7 Fc7 V7 O S_C hcs (own_chn _)) hZ (hw _ (List.mem_of_getElem? (i := 94) rfl)) (hw _ (List.mem_of_getElem? (i := 3) rfl)) (by decide) (by decide)) q12a q12c (g := (mkF m 44 #[.val (.ref a1), .val (.int (1 : Int32))] [(.int (nar .char (own_lc y1))), (.ref la7)])) rfl (by rw [hml]; rfl) (Steps.refl _) (argsL := [(.int (nar .char (own_lc y1)))]) (rest := []) (lenOf own_pd9 rfl) rfl (by show 2 * 0 + _ ≤ _; exact Nat.le_of_eq rfl) (hb hby own_d8_44) (fun _ _ => ⟨rfl, eq11, (by decide : 6 + 0 ≤ _), (by decide : 340 + 0 ≤ _)⟩)
    dsimp only [Pt.U, Pt.locs, Pt.cells, Pt.slots] at X12 l12 y12 z12 st12 hQ12
    replace X12 := own_cst X12 l12 y12 z12 (k2 := 6) (n2 := 340) rfl rfl
    clear l12 y12 z12
    obtain ⟨ri1, rfl, Nq12, eq12, hi1⟩ := hQ12
    have NF12 := Fr.app NF11 Nq12
    refine own_goT st12 ?_
    show own_Go _ _ _ _ (T12.setTop (mkF m 47 #[.val (.ref a1), .val (.int (1 : Int32))] [(.int ri1)]))
    by_cases hr1 : ri1 < (0 : Int32)
    · have _h := hr1
      have hk1 : own_okc (nar .char (own_lc y1)) = 0 := hi1.mp hr1
      refine own_go (fun _ => XS.ifNo X12.here hx rfl (hb hby own_d8_47) rfl ((if0 _ _).trans (tlt hr1).2.1)) ?_
      show own_Go _ _ _ _ (T12.setTop (mkF m 50 #[.val (.ref a1), .val (.int (1 : Int32))] []))
      refine own_go (fun _ => XS.iconst X12.here hx rfl (hb hby own_d8_50)) ?_
      show own_Go _ _ _ _ (T12.setTop (mkF m 51 #[.val (.ref a1), .val (.int (1 : Int32))] [(.int (0 : Int32))]))
      refine own_retW X12 hS eq12 hsw hlk (v := some (.int (0 : Int32))) (fun h => by rw [Bd.returns] at h; cases h) (fun fs hr => retN X12 hx (t := .boolean) Bd.returns (by simp) (hb hby own_d8_51) hr) ?_ (by decide) (by decide)
      try rw [eq12]
      exact ⟨by simp [own_nm, hd1, hd2, hk0, hk1], NF12⟩
    · have _h := hr1
      have hk1 : ¬ own_okc (nar .char (own_lc y1)) = 0 := fun q => hr1 (hi1.mpr q)
      refine own_go (fun _ => XS.ifYes X12.here hx rfl (pc0 := 47) (pc' := 52) rfl (hb hby own_d8_47) rfl ((if0 _ _).trans (flt hr1).2.1) (by decide) (by decide)) ?_
      show own_Go _ _ _ _ (T12.setTop (mkF m 52 #[.val (.ref a1), .val (.int (1 : Int32))] []))
      refine own_go (fun _ => XS.iinc X12.here hx rfl (hb hby own_d8_52) rfl (l' := #[.val (.ref a1), .val (.int (2 : Int32))]) rfl) ?_
      refine own_go (fun _ => XS.goto X12.here hx rfl (pc0 := 55) (pc' := 29) rfl (hb hby own_d8_55) (by decide) (by decide)) ?_
      refine own_go (fun _ => XS.iloadN X12.here hx rfl (hb hby own_d8_29) rfl) ?_
      refine own_go (fun _ => XS.aloadN X12.here hx rfl (hb hby own_d8_30) rfl rfl) ?_
      show own_Go _ _ _ _ (T12.setTop (mkF m 31 #[.val (.ref a1), .val (.int (2 : Int32))] [(.ref a1), (.int (2 : Int32))]))
      obtain ⟨cq13, kq13, q13a, q13b, q13c⟩ := isOf hZ eq12 E1
      obtain ⟨_, _, ⟨T13, L13, k13, n13⟩, -, X13, ⟨Lc13, hQ13, l13, y13, z13⟩, st13⟩ := X12.virtualBack hx (y := (⟨"java/lang/String", "length", "()I"⟩ : MethodName)) (z := (⟨"java/lang/String", "length", "()I"⟩ : MethodName)) hown (mvT hZ (hw _ (List.mem_of_getElem? (i := 58) rfl))) (mvT hZ (hw _ (List.mem_of_getElem? (i := 59) rfl))) (notFace_of_selects (args := #[]) (mvT hZ (hw _ (List.mem_of_getElem? (i := 61) rfl)))) (mvT hZ (hw _ (List.mem_of_getElem? (i := 61) rfl))) (mvT hZ (hw _ (List.mem_of_getElem? (i := 60) rfl))) (by decide) (own_back (W := 1) (own_rmln0 l Z a0 hw a1 b k cs 3 3 _ h7 n0 Z0 E1 Fv Fc V O S_C hcs (by decide)) hZ (hw _ (List.mem_of_getElem? (i := 62) rfl)) (hw _ (List.mem_of_getElem? (i := 3) rfl)) (by decide) (by decide)) q13a q13c (g := (mkF m 31 #[.val (.ref a1), .val (.int (2 : Int32))] [(.ref a1), (.int (2 : Int32))])) rfl (by rw [hml]; rfl) (Steps.refl _) (argsL := []) (rest := [(.int (2 : Int32))]) (lenOf own_pd18 rfl) rfl (by show 2 * 0 + _ ≤ _; exact Nat.le_of_eq rfl) (hb hby own_d8_31) (fun _ _ => ⟨rfl, eq12, (by decide : 6 + 0 ≤ _), (by decide : 340 + 0 ≤ _)⟩)
      dsimp only [Pt.U, Pt.locs, Pt.cells, Pt.slots] at X13 l13 y13 z13 st13 hQ13
      replace X13 := own_cst X13 l13 y13 z13 (k2 := 6) (n2 := 340) rfl rfl
      clear l13 y13 z13
      obtain ⟨rfl, Nq13, eq13⟩ := hQ13
      have NF13 := Fr.app NF12 Nq13
      refine own_goT st13 ?_
      show own_Go _ _ _ _ (T13.setTop (mkF m 34 #[.val (.ref a1), .val (.int (2 : Int32))] [(.int (3 : Int32)), (.int (2 : Int32))]))
      refine own_go (fun _ => XS.icmpNo X13.here hx rfl (hb hby own_d8_34) rfl (tlt (by decide)).2.1) ?_
      show own_Go _ _ _ _ (T13.setTop (mkF m 37 #[.val (.ref a1), .val (.int (2 : Int32))] []))
      refine own_go (ldcAgain X13 hx hZ hown (hw _ (List.mem_of_getElem? (i := 68) rfl)) Lt7 (g := (mkF m 37 #[.val (.ref a1), .val (.int (2 : Int32))] [])) rfl (hb hby own_d8_37)) ?_
      show own_Go _ _ _ _ (T13.setTop (mkF m 39 #[.val (.ref a1), .val (.int (2 : Int32))] [(.ref la7)]))
      refine own_go (fun _ => XS.aloadN X13.here hx rfl (hb hby own_d8_39) rfl rfl) ?_
      refine own_go (fun _ => XS.iloadN X13.here hx rfl (hb hby own_d8_40) rfl) ?_
      show own_Go _ _ _ _ (T13.setTop (mkF m 41 #[.val (.ref a1), .val (.int (2 : Int32))] [(.int (2 : Int32)), (.ref a1), (.ref la7)]))
      obtain ⟨cq14, kq14, q14a, q14b, q14c⟩ := isOf hZ eq13 E1
      obtain ⟨_, _, ⟨T14, L14, k14, n14⟩, -, X14, ⟨Lc14, hQ14, l14, y14, z14⟩, st14⟩ := X13.virtualBack hx (y := (⟨"java/lang/String", "charAt", "(I)C"⟩ : MethodName)) (z := (⟨"java/lang/String", "charAt", "(I)C"⟩ : MethodName)) hown (mvT hZ (hw _ (List.mem_of_getElem? (i := 69) rfl))) (mvT hZ (hw _ (List.mem_of_getElem? (i := 70) rfl))) (notFace_of_selects (args := #[]) (mvT hZ (hw _ (List.mem_of_getElem? (i := 72) rfl)))) (mvT hZ (hw _ (List.mem_of_getElem? (i := 72) rfl))) (mvT hZ (hw _ (List.mem_of_getElem? (i := 71) rfl))) (by decide) (own_back (W := 1) (own_rmcaL l Z a0 hw a1 b k cs fmt 3 2 y2 _ h7 n0 Z0 E1 Fv Fc V O S_C hcs S_F hfmt (by decide) (by decide) rfl) hZ (hw _ (List.mem_of_getElem? (i := 73) rfl)) (hw _ (List.mem_of_getElem? (i := 3) rfl)) (by decide) (by decide)) q14a q14c (g := (mkF m 41 #[.val (.ref a1), .val (.int (2 : Int32))] [(.int (2 : Int32)), (.ref a1), (.ref la7)])) rfl (by rw [hml]; rfl) (Steps.refl _) (argsL := [(.int (2 : Int32))]) (rest := [(.ref la7)]) (lenOf own_pd20 rfl) rfl (by show 2 * 0 + _ ≤ _; exact Nat.le_of_eq rfl) (hb hby own_d8_41) (fun _ _ => ⟨rfl, eq13, (by decide : 6 + 0 ≤ _), (by decide : 340 + 0 ≤ _)⟩)
      dsimp only [Pt.U, Pt.locs, Pt.cells, Pt.slots] at X14 l14 y14 z14 st14 hQ14
      replace X14 := own_cst X14 l14 y14 z14 (k2 := 6) (n2 := 340) rfl rfl
      clear l14 y14 z14
      obtain ⟨rfl, Nq14, eq14⟩ := hQ14
      have NF14 := Fr.app NF13 Nq14
      refine own_goT st14 ?_
      show own_Go _ _ _ _ (T14.setTop (mkF m 44 #[.val (.ref a1), .val (.int (2 : Int32))] [(.int (nar .char (own_lc y2))), (.ref la7)]))
      obtain ⟨cq15, kq15, q15a, q15b, q15c⟩ := isOf hZ eq14 Ex7
      obtain ⟨_, _, ⟨T15, L15, k15, n15⟩, -, X15, ⟨Lc15, hQ15, l15, y15, z15⟩, st15⟩ := X14.virtualBack hx (y := (⟨"java/lang/String", "indexOf", "(I)I"⟩ : MethodName)) (z := (⟨"java/lang/String", "indexOf", "(I)I"⟩ : MethodName)) hown (mvT hZ (hw _ (List.mem_of_getElem? (i := 90) rfl))) (mvT hZ (hw _ (List.mem_of_getElem? (i := 91) rfl))) (notFace_of_selects (args := #[]) (mvT hZ (hw _ (List.mem_of_getElem? (i := 93) rfl)))) (mvT hZ (hw _ (List.mem_of_getElem? (i := 93) rfl))) (mvT hZ (hw _ (List.mem_of_getElem? (i := 92) rfl))) (by decide) (own_back (W := 0) (own_rmUA l Z a0 hw la7 lb7 kb7 cs (nar .char (own_lc y2)) h7 n0 Z0 Ex7 Fv7 Fc7 V7 O S_C hcs (own_chn _)) hZ (hw _ (List.mem_of_getElem? (i := 94) rfl)) (hw _ (List.mem_of_getElem? (i := 3) rfl)) (by decide) (by decide)) q15a q15c (g := (mkF m 44 #[.val (.ref a1), .val (.int (2 : Int32))] [(.int (nar .char (own_lc y2))), (.ref la7)])) rfl (by rw [hml]; rfl) (Steps.refl _) (argsL := [(.int (nar .char (own_lc y2)))]) (rest := []) (lenOf own_pd9 rfl) rfl (by show 2 * 0 + _ ≤ _; exact Nat.le_of_eq rfl) (hb hby own_d8_44) (fun _ _ => ⟨rfl, eq14, (by decide : 6 + 0 ≤ _), (by decide : 340 + 0 ≤ _)⟩)
      dsimp only [Pt.U, Pt.locs, Pt.cells, Pt.slots] at X15 l15 y15 z15 st15 hQ15
      replace X15 := own_cst X15 l15 y15 z15 (k2 := 6) (n2 := 340) rfl rfl
      clear l15 y15 z15
      obtain ⟨ri2, rfl, Nq15, eq15, hi2⟩ := hQ15
      have NF15 := Fr.app NF14 Nq15
      refine own_goT st15 ?_
      show own_Go _ _ _ _ (T15.setTop (mkF m 47 #[.val (.ref a1), .val (.int (2 : Int32))] [(.int ri2)]))
      by_cases hr2 : ri2 < (0 : Int32)
      · have _h := hr2
        have hk2 : own_okc (nar .char (own_lc y2)) = 0 := hi2.mp hr2
        refine own_go (fun _ => XS.ifNo X15.here hx rfl (hb hby own_d8_47) rfl ((if0 _ _).trans (tlt hr2).2.1)) ?_
        show own_Go _ _ _ _ (T15.setTop (mkF m 50 #[.val (.ref a1), .val (.int (2 : Int32))] []))
        refine own_go (fun _ => XS.iconst X15.here hx rfl (hb hby own_d8_50)) ?_
        show own_Go _ _ _ _ (T15.setTop (mkF m 51 #[.val (.ref a1), .val (.int (2 : Int32))] [(.int (0 : Int32))]))
        refine own_retW X15 hS eq15 hsw hlk (v := some (.int (0 : Int32))) (fun h => by rw [Bd.returns] at h; cases h) (fun fs hr => retN X15 hx (t := .boolean) Bd.returns (by simp) (hb hby own_d8_51) hr) ?_ (by decide) (by decide)
        try rw [eq15]
        exact ⟨by simp [own_nm, hd1, hd2, hk0, hk1, hk2], NF15⟩
      · have _h := hr2
        have hk2 : ¬ own_okc (nar .char (own_lc y2)) = 0 := fun q => hr2 (hi2.mpr q)
        refine own_go (fun _ => XS.ifYes X15.here hx rfl (pc0 := 47) (pc' := 52) rfl (hb hby own_d8_47) rfl ((if0 _ _).trans (flt hr2).2.1) (by decide) (by decide)) ?_
        show own_Go _ _ _ _ (T15.setTop (mkF m 52 #[.val (.ref a1), .val (.int (2 : Int32))] []))
        refine own_go (fun _ => XS.iinc X15.here hx rfl (hb hby own_d8_52) rfl (l' := #[.val (.ref a1), .val (.int (3 : Int32))]) rfl) ?_
        refine own_go (fun _ => XS.goto X15.here hx rfl (pc0 := 55) (pc' := 29) rfl (hb hby own_d8_55) (by decide) (by decide)) ?_
        refine own_go (fun _ => XS.iloadN X15.here hx rfl (hb hby own_d8_29) rfl) ?_
        refine own_go (fun _ => XS.aloadN X15.here hx rfl (hb hby own_d8_30) rfl rfl) ?_
        show own_Go _ _ _ _ (T15.setTop (mkF m 31 #[.val (.ref a1), .val (.int (3 : Int32))] [(.ref a1), (.int (3 : Int32))]))
        obtain ⟨cq16, kq16, q16a, q16b, q16c⟩ := isOf hZ eq15 E1
        obtain ⟨_, _, ⟨T16, L16, k16, n16⟩, -, X16, ⟨Lc16, hQ16, l16, y16, z16⟩, st16⟩ := X15.virtualBack hx (y := (⟨"java/lang/String", "length", "()I"⟩ : MethodName)) (z := (⟨"java/lang/String", "length", "()I"⟩ : MethodName)) hown (mvT hZ (hw _ (List.mem_of_getElem? (i := 58) rfl))) (mvT hZ (hw _ (List.mem_of_getElem? (i := 59) rfl))) (notFace_of_selects (args := #[]) (mvT hZ (hw _ (List.mem_of_getElem? (i := 61) rfl)))) (mvT hZ (hw _ (List.mem_of_getElem? (i := 61) rfl))) (mvT hZ (hw _ (List.mem_of_getElem? (i := 60) rfl))) (by decide) (own_back (W := 1) (own_rmln0 l Z a0 hw a1 b k cs 3 3 _ h7 n0 Z0 E1 Fv Fc V O S_C hcs (by decide)) hZ (hw _ (List.mem_of_getElem? (i := 62) rfl)) (hw _ (List.mem_of_getElem? (i := 3) rfl)) (by decide) (by decide)) q16a q16c (g := (mkF m 31 #[.val (.ref a1), .val (.int (3 : Int32))] [(.ref a1), (.int (3 : Int32))])) rfl (by rw [hml]; rfl) (Steps.refl _) (argsL := []) (rest := [(.int (3 : Int32))]) (lenOf own_pd18 rfl) rfl (by show 2 * 0 + _ ≤ _; exact Nat.le_of_eq rfl) (hb hby own_d8_31) (fun _ _ => ⟨rfl, eq15, (by decide : 6 + 0 ≤ _), (by decide : 340 + 0 ≤ _)⟩)
        dsimp only [Pt.U, Pt.locs, Pt.cells, Pt.slots] at X16 l16 y16 z16 st16 hQ16
        replace X16 := own_cst X16 l16 y16 z16 (k2 := 6) (n2 := 340) rfl rfl
        clear l16 y16 z16
        obtain ⟨rfl, Nq16, eq16⟩ := hQ16
        have NF16 := Fr.app NF15 Nq16
        refine own_goT st16 ?_
        show own_Go _ _ _ _ (T16.setTop (mkF m 34 #[.val (.ref a1), .val (.int (3 : Int32))] [(.int (3 : Int32)), (.int (3 : Int32))]))
        refine own_go (fun _ => XS.icmpYes X16.here hx rfl (pc0 := 34) (pc' := 58) rfl (hb hby own_d8_34) rfl (flt (by decide)).2.1 (by decide) (by decide)) ?_
        show own_Go _ _ _ _ (T16.setTop (mkF m 58 #[.val (.ref a1), .val (.int (3 : Int32))] []))
        refine own_go (fun _ => XS.iconst X16.here hx rfl (hb hby own_d8_58)) ?_
        show own_Go _ _ _ _ (T16.setTop (mkF m 59 #[.val (.ref a1), .val (.int (3 : Int32))] [(.int (1 : Int32))]))
        refine own_retW X16 hS eq16 hsw hlk (v := some (.int (1 : Int32))) (fun h => by rw [Bd.returns] at h; cases h) (fun fs hr => retN X16 hx (t := .boolean) Bd.returns (by simp) (hb hby own_d8_59) hr) ?_ (by decide) (by decide)
        try rw [eq16]
        exact ⟨by simp [own_nm, hd1, hd2, hk0, hk1, hk2], NF16⟩
set_option maxRecDepth 65536 in
set_option maxHeartbeats 40000000 in
theorem own_rmNU3 (l : Launch) (Z : State) (a0 : Array Value) (hw : ∀ d ∈ tables_1, d.before a0 Z = true) (a1 : Addr) (b : Addr) (k : ClassId) (cs : Int32) (w0 : Int32) (w1 : Int32) (w2 : Int32) (w3 : Int32) (w4 : Int32) (w5 : Int32) (fmt : Value) (h0 : Heap) (n0 : Nat) (Z0 : n0 ≤ h0.size) (E1 : Exa Z h0 a1 "java/lang/String") (Fv : Fld Z h0 a1 "java/lang/String" "value" "[B" (.ref b)) (Fc : Fld Z h0 a1 "java/lang/String" "coder" "B" (.int 1)) (V : Arv Z h0 b k .byte 6 [(.int w0), (.int w1), (.int w2), (.int w3), (.int w4), (.int w5)] (.int 0)) (O : Old Z n0 h0) (S_C : Sta Z Z.heap "java/lang/String" "COMPACT_STRINGS" "Z" (.int cs)) (hcs : ¬ cs = (0 : Int32)) (S_F : Sta Z Z.heap "jdk/internal/util/Preconditions" "SIOOBE_FORMATTER" "Ljava/util/function/BiFunction;" fmt) (hfmt : fmt = .null ∨ ∃ o : Addr, fmt = .ref o) (S_A : Sta Z Z.heap "java/lang/StringUTF16" "$assertionsDisabled" "Z" (.int 1)) (S_H : Sta Z Z.heap "java/lang/StringUTF16" "HI_BYTE_SHIFT" "I" (.int 0)) (S_L : Sta Z Z.heap "java/lang/StringUTF16" "LO_BYTE_SHIFT" "I" (.int 8)) :
    own_MetS l Z consts_1 [a1] [] (⟨"com/example/chartpost/chartpost/http/PathSegments", "isName", "(Ljava/lang/String;)Z"⟩ : MethodName) prog_30_method_2_code 2 (some .boolean) ({ frames := 5, cells := 6, slots := 340, locals := 67 } : Room) #[(.ref a1)] h0 (fun v h L => v = some (.int (own_nmU [(nar .char (nar .char (own_gc w0 w1))), (nar .char (nar .char (own_gc w2 w3))), (nar .char (nar .char (own_gc w4 w5)))])) ∧ Fr n0 L) := by
  refine MetFree.of_bodySF (plainFor_of_name own_pn5) hisR ?_
  intro p e s m args below meth c s₁ Bd hml0 hP hK
  obtain ⟨rfl, hZ, hh, H0, SF0⟩ := hP
  have hx := Bd.exec
  have hby := Bd.bytes
  have hml : c.maxLocals = 2 := hml0
  have hown : s.vm.findClass "com/example/chartpost/chartpost/http/PathSegments" = some m.cls := findClass_of_methodNamed Bd.named
  have hnm := (name_of_methodNamed Bd.named Bd.method).1
  have hlk : meth.locks = false := Bd.notSynchronized
  have X0 : Stand p l e ({ frames := 5, cells := 6, slots := 340, locals := 67 } : Room) s m #[(.ref a1)] below meth c s₁ [] 0 0 := Stand.of_body Bd
  have e0 : s₁.heap = h0 := by rw [← hh, Bd.state]; rfl
  have N0 := Fr.nil n0
  refine own_bodyW (Q := fun v h L => v = some (.int (own_nmU [(nar .char (nar .char (own_gc w0 w1))), (nar .char (nar .char (own_gc w2 w3))), (nar .char (nar .char (own_gc w4 w5)))])) ∧ Fr n0 L) ?_
  refine own_go (fun _ kont => castTop (own_ef m #[(.ref a1)] 2 #[.val (.ref a1), .unset] (own_al [(.ref a1)] 2 [.val (.ref a1), .unset] rfl)) kont) ?_
  show own_Go _ _ _ _ (s₁.setTop (mkF m 0 #[.val (.ref a1), .unset] []))
  have SF := (SF0 a1 (List.mem_of_getElem? (i := 0) rfl)).2
  have Hc := H0
  refine own_go (fun _ => XS.aloadN X0.here hx rfl (hb hby own_d8_0) rfl rfl) ?_
  show own_Go _ _ _ _ (s₁.setTop (mkF m 1 #[.val (.ref a1), .unset] [(.ref a1)]))
  obtain ⟨cq1, kq1, q1a, q1b, q1c⟩ := isOf hZ e0 E1
  obtain ⟨_, _, ⟨T1, L1, k1, n1⟩, -, X1, ⟨Lc1, hQ1, l1, y1, z1⟩, st1⟩ := X0.virtualBack hx (y := (⟨"java/lang/String", "isEmpty", "()Z"⟩ : MethodName)) (z := (⟨"java/lang/String", "isEmpty", "()Z"⟩ : MethodName)) hown (mvT hZ (hw _ (List.mem_of_getElem? (i := 39) rfl))) (mvT hZ (hw _ (List.mem_of_getElem? (i := 40) rfl))) (notFace_of_selects (args := #[]) (mvT hZ (hw _ (List.mem_of_getElem? (i := 42) rfl)))) (mvT hZ (hw _ (List.mem_of_getElem? (i := 42) rfl))) (mvT hZ (hw _ (List.mem_of_getElem? (i := 41) rfl))) (by decide) (own_back (W := 0) (own_rme l Z a0 hw a1 b k 6 _ h0 n0 Z0 Fv V (by decide)) hZ (hw _ (List.mem_of_getElem? (i := 43) rfl)) (hw _ (List.mem_of_getElem? (i := 3) rfl)) (by decide) (by decide)) q1a q1c (g := (mkF m 1 #[.val (.ref a1), .unset] [(.ref a1)])) rfl (by rw [hml]; rfl) (Steps.refl _) (argsL := []) (rest := []) (lenOf own_pd3 rfl) rfl (by show 2 * 0 + _ ≤ _; exact Nat.le_of_eq rfl) (hb hby own_d8_1) (fun _ _ => ⟨rfl, e0, (by decide : 0 + 0 ≤ _), (by decide : 0 + 0 ≤ _)⟩)
  dsimp only [Pt.U, Pt.locs, Pt.cells, Pt.slots] at X1 l1 y1 z1 st1 hQ1
  replace X1 := own_cst X1 l1 y1 z1 (k2 := 0) (n2 := 0) rfl rfl
  clear l1 y1 z1
  obtain ⟨rfl, Nq1, eq1⟩ := hQ1
  have NF1 := Fr.app N0 Nq1
  refine own_goT st1 ?_
  show own_Go _ _ _ _ (T1.setTop (mkF m 4 #[.val (.ref a1), .unset] [(.int (0 : Int32))]))
  refine own_go (fun _ => XS.ifNo X1.here hx rfl (hb hby own_d8_4) rfl ((if0 _ _).trans (teq rfl).2)) ?_
  show own_Go _ _ _ _ (T1.setTop (mkF m 7 #[.val (.ref a1), .unset] []))
  refine own_go (fun _ => XS.aloadN X1.here hx rfl (hb hby own_d8_7) rfl rfl) ?_
  show own_Go _ _ _ _ (T1.setTop (mkF m 8 #[.val (.ref a1), .unset] [(.ref a1)]))
  obtain ⟨la2, T2, h2, kq2, lb2, kb2, X2, e2, E2, hS2, hsw2, hZ2, hown2, Ex2, Fc2, Fv2, V2, -, -, CR2, Lt2, sf2, st2⟩ := ldcCH (s := s) (vm0 := s.vm) (EL := consts_1) X1 hx hZ hown (hw _ (List.mem_of_getElem? (i := 44) rfl)) (own_ws hw) eq1 (State.WarmedH.since (State.WarmedH.refl s) _) (Nat.le_refl _) (own_ew hw) (List.mem_of_getElem? (i := 0) rfl) Hc (vs := [.int 46]) (z := 1) ⟨by decide +kernel, by first | rfl | decide +kernel⟩ (by decide) rfl (g := (mkF m 8 #[.val (.ref a1), .unset] [(.ref a1)])) rfl (hb hby own_d8_8) (n := 4) (by decide) (by decide) (by decide) (by decide)
  have SF := CR2.safe E1.lt SF
  have ne_la2 : ¬ a1 = la2 := (sf2 _ SF).1
  refine own_go st2 ?_
  replace E1 := E1.ext E2
  replace Fv := Fv.ext E2
  replace Fc := Fc.ext E2
  replace V := V.ext E2
  replace O := O.ext E2
  replace Z0 := Nat.le_trans Z0 E2.1
  have hZ := hZ2
  have hown := hown2
  have hS := hS2
  have hsw := hsw2
  have Hc := CR2.1
  show own_Go _ _ _ _ (T2.setTop (mkF m 10 #[.val (.ref a1), .unset] [(.ref la2), (.ref a1)]))
  obtain ⟨cq3, kq3, q3a, q3b, q3c⟩ := isOf hZ e2 E1
  obtain ⟨_, _, ⟨T3, L3, k3, n3⟩, -, X3, ⟨Lc3, hQ3, l3, y3, z3⟩, st3⟩ := X2.virtualBack hx (y := (⟨"java/lang/String", "equals", "(Ljava/lang/Object;)Z"⟩ : MethodName)) (z := (⟨"java/lang/String", "equals", "(Ljava/lang/Object;)Z"⟩ : MethodName)) hown (mvT hZ (hw _ (List.mem_of_getElem? (i := 47) rfl))) (mvT hZ (hw _ (List.mem_of_getElem? (i := 48) rfl))) (notFace_of_selects (args := #[]) (mvT hZ (hw _ (List.mem_of_getElem? (i := 50) rfl)))) (mvT hZ (hw _ (List.mem_of_getElem? (i := 50) rfl))) (mvT hZ (hw _ (List.mem_of_getElem? (i := 49) rfl))) (by decide) (own_back (W := 0) (own_rmeq1 l Z a0 hw a1 la2 cs h2 n0 Z0 Fc O S_C hcs ne_la2 Ex2 Fc2) hZ (hw _ (List.mem_of_getElem? (i := 51) rfl)) (hw _ (List.mem_of_getElem? (i := 3) rfl)) (by decide) (by decide)) q3a q3c (g := (mkF m 10 #[.val (.ref a1), .unset] [(.ref la2), (.ref a1)])) rfl (by rw [hml]; rfl) (Steps.refl _) (argsL := [(.ref la2)]) (rest := []) (lenOf own_pd19 rfl) rfl (by show 2 * 0 + _ ≤ _; exact Nat.le_of_eq rfl) (hb hby own_d8_10) (fun _ _ => ⟨rfl, e2, (by decide : 2 + 0 ≤ _), (by decide : 8 + 0 ≤ _)⟩)
  dsimp only [Pt.U, Pt.locs, Pt.cells, Pt.slots] at X3 l3 y3 z3 st3 hQ3
  replace X3 := own_cst X3 l3 y3 z3 (k2 := 2) (n2 := 8) rfl rfl
  clear l3 y3 z3
  obtain ⟨rfl, Nq3, eq3⟩ := hQ3
  have NF3 := Fr.app NF1 Nq3
  refine own_goT st3 ?_
  show own_Go _ _ _ _ (T3.setTop (mkF m 13 #[.val (.ref a1), .unset] [(.int (0 : Int32))]))
  refine own_go (fun _ => XS.ifNo X3.here hx rfl (hb hby own_d8_13) rfl ((if0 _ _).trans (teq rfl).2)) ?_
  show own_Go _ _ _ _ (T3.setTop (mkF m 16 #[.val (.ref a1), .unset] []))
  refine own_go (fun _ => XS.aloadN X3.here hx rfl (hb hby own_d8_16) rfl rfl) ?_
  show own_Go _ _ _ _ (T3.setTop (mkF m 17 #[.val (.ref a1), .unset] [(.ref a1)]))
  obtain ⟨la4, T4, h4, kq4, lb4, kb4, X4, e4, E4, hS4, hsw4, hZ4, hown4, Ex4, Fc4, Fv4, V4, -, -, CR4, Lt4, sf4, st4⟩ := ldcCH (s := s) (vm0 := T2.vm) (EL := consts_1) X3 hx hZ hown (hw _ (List.mem_of_getElem? (i := 57) rfl)) (own_ws hw) eq3 hS hsw (own_ew hw) (List.mem_of_getElem? (i := 1) rfl) Hc (vs := [.int 46, .int 46]) (z := 2) ⟨by decide +kernel, by first | rfl | decide +kernel⟩ (by decide) rfl (g := (mkF m 17 #[.val (.ref a1), .unset] [(.ref a1)])) rfl (hb hby own_d8_17) (n := 8) (by decide) (by decide) (by decide) (by decide)
  have SF := CR4.safe E1.lt SF
  have ne_la4 : ¬ a1 = la4 := (sf4 _ SF).1
  refine own_go st4 ?_
  replace E1 := E1.ext E4
  replace Fv := Fv.ext E4
  replace Fc := Fc.ext E4
  replace V := V.ext E4
  replace O := O.ext E4
  replace Ex2 := Ex2.ext E4
  replace Fv2 := Fv2.ext E4
  replace Fc2 := Fc2.ext E4
  replace V2 := V2.ext E4
  replace Z0 := Nat.le_trans Z0 E4.1
  replace hsw := Nat.le_trans hsw E4.1
  have hZ := hZ4
  have hown := hown4
  have hS := hS4
  have hsw := hsw4
  have Hc := CR4.1
  show own_Go _ _ _ _ (T4.setTop (mkF m 19 #[.val (.ref a1), .unset] [(.ref la4), (.ref a1)]))
  obtain ⟨cq5, kq5, q5a, q5b, q5c⟩ := isOf hZ e4 E1
  obtain ⟨_, _, ⟨T5, L5, k5, n5⟩, -, X5, ⟨Lc5, hQ5, l5, y5, z5⟩, st5⟩ := X4.virtualBack hx (y := (⟨"java/lang/String", "equals", "(Ljava/lang/Object;)Z"⟩ : MethodName)) (z := (⟨"java/lang/String", "equals", "(Ljava/lang/Object;)Z"⟩ : MethodName)) hown (mvT hZ (hw _ (List.mem_of_getElem? (i := 47) rfl))) (mvT hZ (hw _ (List.mem_of_getElem? (i := 48) rfl))) (notFace_of_selects (args := #[]) (mvT hZ (hw _ (List.mem_of_getElem? (i := 50) rfl)))) (mvT hZ (hw _ (List.mem_of_getElem? (i := 50) rfl))) (mvT hZ (hw _ (List.mem_of_getElem? (i := 49) rfl))) (by decide) (own_back (W := 0) (own_rmeq1 l Z a0 hw a1 la4 cs h4 n0 Z0 Fc O S_C hcs ne_la4 Ex4 Fc4) hZ (hw _ (List.mem_of_getElem? (i := 51) rfl)) (hw _ (List.mem_of_getElem? (i := 3) rfl)) (by decide) (by decide)) q5a q5c (g := (mkF m 19 #[.val (.ref a1), .unset] [(.ref la4), (.ref a1)])) rfl (by rw [hml]; rfl) (Steps.refl _) (argsL := [(.ref la4)]) (rest := []) (lenOf own_pd19 rfl) rfl (by show 2 * 0 + _ ≤ _; exact Nat.le_of_eq rfl) (hb hby own_d8_19) (fun _ _ => ⟨rfl, e4, (by decide : 4 + 0 ≤ _), (by decide : 20 + 0 ≤ _)⟩)
  dsimp only [Pt.U, Pt.locs, Pt.cells, Pt.slots] at X5 l5 y5 z5 st5 hQ5
  replace X5 := own_cst X5 l5 y5 z5 (k2 := 4) (n2 := 20) rfl rfl
  clear l5 y5 z5
  obtain ⟨rfl, Nq5, eq5⟩ := hQ5
  have NF5 := Fr.app NF3 Nq5
  refine own_goT st5 ?_
  show own_Go _ _ _ _ (T5.setTop (mkF m 22 #[.val (.ref a1), .unset] [(.int (0 : Int32))]))
  refine own_go (fun _ => XS.ifYes X5.here hx rfl (pc0 := 22) (pc' := 27) rfl (hb hby own_d8_22) rfl ((if0 _ _).trans (teq rfl).1) (by decide) (by decide)) ?_
  show own_Go _ _ _ _ (T5.setTop (mkF m 27 #[.val (.ref a1), .unset] []))
  refine own_go (fun _ => XS.iconst X5.here hx rfl (hb hby own_d8_27)) ?_
  refine own_go (fun _ => XS.istoreN X5.here hx rfl (hb hby own_d8_28) rfl (l' := #[.val (.ref a1), .val (.int (0 : Int32))]) rfl) ?_
  refine own_go (fun _ => XS.iloadN X5.here hx rfl (hb hby own_d8_29) rfl) ?_
  refine own_go (fun _ => XS.aloadN X5.here hx rfl (hb hby own_d8_30) rfl rfl) ?_
  show own_Go _ _ _ _ (T5.setTop (mkF m 31 #[.val (.ref a1), .val (.int (0 : Int32))] [(.ref a1), (.int (0 : Int32))]))
  obtain ⟨cq6, kq6, q6a, q6b, q6c⟩ := isOf hZ eq5 E1
  obtain ⟨_, _, ⟨T6, L6, k6, n6⟩, -, X6, ⟨Lc6, hQ6, l6, y6, z6⟩, st6⟩ := X5.virtualBack hx (y := (⟨"java/lang/String", "length", "()I"⟩ : MethodName)) (z := (⟨"java/lang/String", "length", "()I"⟩ : MethodName)) hown (mvT hZ (hw _ (List.mem_of_getElem? (i := 58) rfl))) (mvT hZ (hw _ (List.mem_of_getElem? (i := 59) rfl))) (notFace_of_selects (args := #[]) (mvT hZ (hw _ (List.mem_of_getElem? (i := 61) rfl)))) (mvT hZ (hw _ (List.mem_of_getElem? (i := 61) rfl))) (mvT hZ (hw _ (List.mem_of_getElem? (i := 60) rfl))) (by decide) (own_back (W := 1) (own_rmln1 l Z a0 hw a1 b k cs 6 3 _ h4 n0 Z0 E1 Fv Fc V O S_C hcs (by decide)) hZ (hw _ (List.mem_of_getElem? (i := 62) rfl)) (hw _ (List.mem_of_getElem? (i := 3) rfl)) (by decide) (by decide)) q6a q6c (g := (mkF m 31 #[.val (.ref a1), .val (.int (0 : Int32))] [(.ref a1), (.int (0 : Int32))])) rfl (by rw [hml]; rfl) (Steps.refl _) (argsL := []) (rest := [(.int (0 : Int32))]) (lenOf own_pd18 rfl) rfl (by show 2 * 0 + _ ≤ _; exact Nat.le_of_eq rfl) (hb hby own_d8_31) (fun _ _ => ⟨rfl, eq5, (by decide : 4 + 0 ≤ _), (by decide : 20 + 0 ≤ _)⟩)
  dsimp only [Pt.U, Pt.locs, Pt.cells, Pt.slots] at X6 l6 y6 z6 st6 hQ6
  replace X6 := own_cst X6 l6 y6 z6 (k2 := 4) (n2 := 20) rfl rfl
  clear l6 y6 z6
  obtain ⟨rfl, Nq6, eq6⟩ := hQ6
  have NF6 := Fr.app NF5 Nq6
  refine own_goT st6 ?_
  show own_Go _ _ _ _ (T6.setTop (mkF m 34 #[.val (.ref a1), .val (.int (0 : Int32))] [(.int (3 : Int32)), (.int (0 : Int32))]))
  refine own_go (fun _ => XS.icmpNo X6.here hx rfl (hb hby own_d8_34) rfl (tlt (by decide)).2.1) ?_
  show own_Go _ _ _ _ (T6.setTop (mkF m 37 #[.val (.ref a1), .val (.int (0 : Int32))] []))
  obtain ⟨la7, T7, h7, kq7, lb7, kb7, X7, e7, E7, hS7, hsw7, hZ7, hown7, Ex7, Fc7, Fv7, V7, -, -, CR7, Lt7, sf7, st7⟩ := ldcCH (s := s) (vm0 := T4.vm) (EL := consts_1) X6 hx hZ hown (hw _ (List.mem_of_getElem? (i := 68) rfl)) (own_ws hw) eq6 hS hsw (own_ew hw) (List.mem_of_getElem? (i := 2) rfl) Hc (vs := (own_alpha.map Value.int)) (z := 79) ⟨by decide +kernel, by first | rfl | decide +kernel⟩ (by decide) rfl (g := (mkF m 37 #[.val (.ref a1), .val (.int (0 : Int32))] [])) rfl (hb hby own_d8_37) (n := 316) (by decide) (by decide) (by decide) (by decide)
  have SF := CR7.safe E1.lt SF
  have ne_la7 : ¬ a1 = la7 := (sf7 _ SF).1
  refine own_go st7 ?_
  replace E1 := E1.ext E7
  replace Fv := Fv.ext E7
  replace Fc := Fc.ext E7
  replace V := V.ext E7
  replace O := O.ext E7
  replace Ex2 := Ex2.ext E7
  replace Fv2 := Fv2.ext E7
  replace Fc2 := Fc2.ext E7
  replace V2 := V2.ext E7
  replace Ex4 := Ex4.ext E7
  replace Fv4 := Fv4.ext E7
  replace Fc4 := Fc4.ext E7
  replace V4 := V4.ext E7
  replace Z0 := Nat.le_trans Z0 E7.1
  replace hsw := Nat.le_trans hsw E7.1
  have hZ := hZ7
  have hown := hown7
  have hS := hS7
  have hsw := hsw7
  have Hc := CR7.1
  show own_Go _ _ _ _ (T7.setTop (mkF m 39 #[.val (.ref a1), .val (.int (0 : Int32))] [(.ref la7)]))
  refine own_go (fun _ => XS.aloadN X7.here hx rfl (hb hby own_d8_39) rfl rfl) ?_
  refine own_go (fun _ => XS.iloadN X7.here hx rfl (hb hby own_d8_40) rfl) ?_
  show own_Go _ _ _ _ (T7.setTop (mkF m 41 #[.val (.ref a1), .val (.int (0 : Int32))] [(.int (0 : Int32)), (.ref a1), (.ref la7)]))
  obtain ⟨cq8, kq8, q8a, q8b, q8c⟩ := isOf hZ e7 E1
  obtain ⟨_, _, ⟨T8, L8, k8, n8⟩, -, X8, ⟨Lc8, hQ8, l8, y8, z8⟩, st8⟩ := X7.virtualBack hx (y := (⟨"java/lang/String", "charAt", "(I)C"⟩ : MethodName)) (z := (⟨"java/lang/String", "charAt", "(I)C"⟩ : MethodName)) hown (mvT hZ (hw _ (List.mem_of_getElem? (i := 69) rfl))) (mvT hZ (hw _ (List.mem_of_getElem? (i := 70) rfl))) (notFace_of_selects (args := #[]) (mvT hZ (hw _ (List.mem_of_getElem? (i := 72) rfl)))) (mvT hZ (hw _ (List.mem_of_getElem? (i := 72) rfl))) (mvT hZ (hw _ (List.mem_of_getElem? (i := 71) rfl))) (by decide) (own_back (W := 1) (own_rmcaU l Z a0 hw a1 b k cs fmt 6 3 0 0 1 w0 w1 _ h7 n0 Z0 E1 Fv Fc V O S_C hcs S_F hfmt (by decide) (by decide) (by decide) (by decide) (by decide) ⟨by decide, by decide⟩ ⟨by decide, by decide⟩ rfl rfl S_A S_H S_L) hZ (hw _ (List.mem_of_getElem? (i := 73) rfl)) (hw _ (List.mem_of_getElem? (i := 3) rfl)) (by decide) (by decide)) q8a q8c (g := (mkF m 41 #[.val (.ref a1), .val (.int (0 : Int32))] [(.int (0 : Int32)), (.ref a1), (.ref la7)])) rfl (by rw [hml]; rfl) (Steps.refl _) (argsL := [(.int (0 : Int32))]) (rest := [(.ref la7)]) (lenOf own_pd20 rfl) rfl (by show 2 * 0 + _ ≤ _; exact Nat.le_of_eq rfl) (hb hby own_d8_41) (fun _ _ => ⟨rfl, e7, (by decide : 6 + 0 ≤ _), (by decide : 340 + 0 ≤ _)⟩)
  dsimp only [Pt.U, Pt.locs, Pt.cells, Pt.slots] at X8 l8 y8 z8 st8 hQ8
  replace X8 := own_cst X8 l8 y8 z8 (k2 := 6) (n2 := 340) rfl rfl
  clear l8 y8 z8
  obtain ⟨rfl, Nq8, eq8⟩ := hQ8
  have NF8 := Fr.app NF6 Nq8
  refine own_goT st8 ?_
  show own_Go _ _ _ _ (T8.setTop (mkF m 44 #[.val (.ref a1), .val (.int (0 : Int32))] [(.int (nar .char (nar .char (own_gc w0 w1)))), (.ref la7)]))
  obtain ⟨cq9, kq9, q9a, q9b, q9c⟩ := isOf hZ eq8 Ex7
  obtain ⟨_, _, ⟨T9, L9, k9, n9⟩, -, X9, ⟨Lc9, hQ9, l9, y9, z9⟩, st9⟩ := X8.virtualBack hx (y := (⟨"java/lang/String", "indexOf", "(I)I"⟩ : MethodName)) (z := (⟨"java/lang/String", "indexOf", "(I)I"⟩ : MethodName)) hown (mvT hZ (hw _ (List.mem_of_getElem? (i := 90) rfl))) (mvT hZ (hw _ (List.mem_of_getElem? (i := 91) rfl))) (notFace_of_selects (args := #[]) (mvT hZ (hw _ (List.mem_of_getElem? (i := 93) rfl)))) (mvT hZ (hw _ (List.mem_of_getElem? (i := 93) rfl))) (mvT hZ (hw _ (List.mem_of_getElem? (i := 92) rfl))) (by decide) (own_back (W := 0) (own_rmUA l Z a0 hw la7 lb7 kb7 cs (nar .char (nar .char (own_gc w0 w1))) h7 n0 Z0 Ex7 Fv7 Fc7 V7 O S_C hcs (own_chn _)) hZ (hw _ (List.mem_of_getElem? (i := 94) rfl)) (hw _ (List.mem_of_getElem? (i := 3) rfl)) (by decide) (by decide)) q9a q9c (g := (mkF m 44 #[.val (.ref a1), .val (.int (0 : Int32))] [(.int (nar .char (nar .char (own_gc w0 w1)))), (.ref la7)])) rfl (by rw [hml]; rfl) (Steps.refl _) (argsL := [(.int (nar .char (nar .char (own_gc w0 w1))))]) (rest := []) (lenOf own_pd9 rfl) rfl (by show 2 * 0 + _ ≤ _; exact Nat.le_of_eq rfl) (hb hby own_d8_44) (fun _ _ => ⟨rfl, eq8, (by decide : 6 + 0 ≤ _), (by decide : 340 + 0 ≤ _)⟩)
  dsimp only [Pt.U, Pt.locs, Pt.cells, Pt.slots] at X9 l9 y9 z9 st9 hQ9
  replace X9 := own_cst X9 l9 y9 z9 (k2 := 6) (n2 := 340) rfl rfl
  clear l9 y9 z9
  obtain ⟨ri0, rfl, Nq9, eq9, hi0⟩ := hQ9
  have NF9 := Fr.app NF8 Nq9
  refine own_goT st9 ?_
  show own_Go _ _ _ _ (T9.setTop (mkF m 47 #[.val (.ref a1), .val (.int (0 : Int32))] [(.int ri0)]))
  by_cases hr0 : ri0 < (0 : Int32)
  · have _h := hr0
    have hk0 : own_okc (nar .char (nar .char (own_gc w0 w1))) = 0 := hi0.mp hr0
    refine own_go (fun _ => XS.ifNo X9.here hx rfl (hb hby own_d8_47) rfl ((if0 _ _).trans (tlt hr0).2.1)) ?_
    show own_Go _ _ _ _ (T9.setTop (mkF m 50 #[.val (.ref a1), .val (.int (0 : Int32))] []))
    refine own_go (fun _ => XS.iconst X9.here hx rfl (hb hby own_d8_50)) ?_
    show own_Go _ _ _ _ (T9.setTop (mkF m 51 #[.val (.ref a1), .val (.int (0 : Int32))] [(.int (0 : Int32))]))
    refine own_retW X9 hS eq9 hsw hlk (v := some (.int (0 : Int32))) (fun h => by rw [Bd.returns] at h; cases h) (fun fs hr => retN X9 hx (t := .boolean) Bd.returns (by simp) (hb hby own_d8_51) hr) ?_ (by decide) (by decide)
    try rw [eq9]
    exact ⟨by simp [own_nmU, hk0], NF9⟩
  · have _h := hr0
    have hk0 : ¬ own_okc (nar .char (nar .char (own_gc w0 w1))) = 0 := fun q => hr0 (hi0.mpr q)
    refine own_go (fun _ => XS.ifYes X9.here hx rfl (pc0 := 47) (pc' := 52) rfl (hb hby own_d8_47) rfl ((if0 _ _).trans (flt hr0).2.1) (by decide) (by decide)) ?_
    show own_Go _ _ _ _ (T9.setTop (mkF m 52 #[.val (.ref a1), .val (.int (0 : Int32))] []))
    refine own_go (fun _ => XS.iinc X9.here hx rfl (hb hby own_d8_52) rfl (l' := #[.val (.ref a1), .val (.int (1 : Int32))]) rfl) ?_
    refine own_go (fun _ => XS.goto X9.here hx rfl (pc0 := 55) (pc' := 29) rfl (hb hby own_d8_55) (by decide) (by decide)) ?_
    refine own_go (fun _ => XS.iloadN X9.here hx rfl (hb hby own_d8_29) rfl) ?_
    refine own_go (fun _ => XS.aloadN X9.here hx rfl (hb hby own_d8_30) rfl rfl) ?_
    show own_Go _ _ _ _ (T9.setTop (mkF m 31 #[.val (.ref a1), .val (.int (1 : Int32))] [(.ref a1), (.int (1 : Int32))]))
    obtain ⟨cq10, kq10, q10a, q10b, q10c⟩ := isOf hZ eq9 E1
    obtain ⟨_, _, ⟨T10, L10, k10, n10⟩, -, X10, ⟨Lc10, hQ10, l10, y10, z10⟩, st10⟩ := X9.virtualBack hx (y := (⟨"java/lang/String", "length", "()I"⟩ : MethodName)) (z := (⟨"java/lang/String", "length", "()I"⟩ : MethodName)) hown (mvT hZ (hw _ (List.mem_of_getElem? (i := 58) rfl))) (mvT hZ (hw _ (List.mem_of_getElem? (i := 59) rfl))) (notFace_of_selects (args := #[]) (mvT hZ (hw _ (List.mem_of_getElem? (i := 61) rfl)))) (mvT hZ (hw _ (List.mem_of_getElem? (i := 61) rfl))) (mvT hZ (hw _ (List.mem_of_getElem? (i := 60) rfl))) (by decide) (own_back (W := 1) (own_rmln1 l Z a0 hw a1 b k cs 6 3 _ h7 n0 Z0 E1 Fv Fc V O S_C hcs (by decide)) hZ (hw _ (List.mem_of_getElem? (i := 62) rfl)) (hw _ (List.mem_of_getElem? (i := 3) rfl)) (by decide) (by decide)) q10a q10c (g := (mkF m 31 #[.val (.ref a1), .val (.int (1 : Int32))] [(.ref a1), (.int (1 : Int32))])) rfl (by rw [hml]; rfl) (Steps.refl _) (argsL := []) (rest := [(.int (1 : Int32))]) (lenOf own_pd18 rfl) rfl (by show 2 * 0 + _ ≤ _; exact Nat.le_of_eq rfl) (hb hby own_d8_31) (fun _ _ => ⟨rfl, eq9, (by decide : 6 + 0 ≤ _), (by decide : 340 + 0 ≤ _)⟩)
    dsimp only [Pt.U, Pt.locs, Pt.cells, Pt.slots] at X10 l10 y10 z10 st10 hQ10
    replace X10 := own_cst X10 l10 y10 z10 (k2 := 6) (n2 := 340) rfl rfl
    clear l10 y10 z10
    obtain ⟨rfl, Nq10, eq10⟩ := hQ10
    have NF10 := Fr.app NF9 Nq10
    refine own_goT st10 ?_
    show own_Go _ _ _ _ (T10.setTop (mkF m 34 #[.val (.ref a1), .val (.int (1 : Int32))] [(.int (3 : Int32)), (.int (1 : Int32))]))
    refine own_go (fun _ => XS.icmpNo X10.here hx rfl (hb hby own_d8_34) rfl (tlt (by decide)).2.1) ?_
    show own_Go _ _ _ _ (T10.setTop (mkF m 37 #[.val (.ref a1), .val (.int (1 : Int32))] []))
    refine own_go (ldcAgain X10 hx hZ hown (hw _ (List.mem_of_getElem? (i := 68) rfl)) Lt7 (g := (mkF m 37 #[.val (.ref a1), .val (.int (1 : Int32))] [])) rfl (hb hby own_d8_37)) ?_
    show own_Go _ _ _ _ (T10.setTop (mkF m 39 #[.val (.ref a1), .val (.int (1 : Int32))] [(.ref la7)]))
    refine own_go (fun _ => XS.aloadN X10.here hx rfl (hb hby own_d8_39) rfl rfl) ?_
    refine own_go (fun _ => XS.iloadN X10.here hx rfl (hb hby own_d8_40) rfl) ?_
    show own_Go _ _ _ _ (T10.setTop (mkF m 41 #[.val (.ref a1), .val (.int (1 : Int32))] [(.int (1 : Int32)), (.ref a1), (.ref la7)]))
    obtain ⟨cq11, kq11, q11a, q11b, q11c⟩ := isOf hZ eq10 E1
    obtain ⟨_, _, ⟨T11, L11, k11, n11⟩, -, X11, ⟨Lc11, hQ11, l11, y11, z11⟩, st11⟩ := X10.virtualBack hx (y := (⟨"java/lang/String", "charAt", "(I)C"⟩ : MethodName)) (z := (⟨"java/lang/String", "charAt", "(I)C"⟩ : MethodName)) hown (mvT hZ (hw _ (List.mem_of_getElem? (i := 69) rfl))) (mvT hZ (hw _ (List.mem_of_getElem? (i := 70) rfl))) (notFace_of_selects (args := #[]) (mvT hZ (hw _ (List.mem_of_getElem? (i := 72) rfl)))) (mvT hZ (hw _ (List.mem_of_getElem? (i := 72) rfl))) (mvT hZ (hw _ (List.mem_of_getElem? (i := 71) rfl))) (by decide) (own_back (W := 1) (own_rmcaU l Z a0 hw a1 b k cs fmt 6 3 1 2 3 w2 w3 _ h7 n0 Z0 E1 Fv Fc V O S_C hcs S_F hfmt (by decide) (by decide) (by decide) (by decide) (by decide) ⟨by decide, by decide⟩ ⟨by decide, by decide⟩ rfl rfl S_A S_H S_L) hZ (hw _ (List.mem_of_getElem? (i := 73) rfl)) (hw _ (List.mem_of_getElem? (i := 3) rfl)) (by decide) (by decide)) q11a q11c (g := (mkF m 41 #[.val (.ref a1), .val (.int (1 : Int32))] [(.int (1 : Int32)), (.ref a1), (.ref la7)])) rfl (by rw [hml]; rfl) (Steps.refl _) (argsL := [(.int (1 : Int32))]) (rest := [(.ref la7)]) (lenOf own_pd20 rfl) rfl (by show 2 * 0 + _ ≤ _; exact Nat.le_of_eq rfl) (hb hby own_d8_41) (fun _ _ => ⟨rfl, eq10, (by decide : 6 + 0 ≤ _), (by decide : 340 + 0 ≤ _)⟩)
    dsimp only [Pt.U, Pt.locs, Pt.cells, Pt.slots] at X11 l11 y11 z11 st11 hQ11
    replace X11 := own_cst X11 l11 y11 z11 (k2 := 6) (n2 := 340) rfl rfl
    clear l11 y11 z11
    obtain ⟨rfl, Nq11, eq11⟩ := hQ11
    have NF11 := Fr.app NF10 Nq11
    refine own_goT st11 ?_
    show own_Go _ _ _ _ (T11.setTop (mkF m 44 #[.val (.ref a1), .val (.int (1 : Int32))] [(.int (nar .char (nar .char (own_gc w2 w3)))), (.ref la7)]))
    obtain ⟨cq12, kq12, q12a, q12b, q12c⟩ := isOf hZ eq11 Ex7
    obtain ⟨_, _, ⟨T12, L12, k12, n12⟩, -, X12, ⟨Lc12, hQ12, l12, y12, z12⟩, st12⟩ := X11.virtualBack hx (y := (⟨"java/lang/String", "indexOf", "(I)I"⟩ : MethodName)) (z := (⟨"java/lang/String", "indexOf", "(I)I"⟩ : MethodName)) hown (mvT hZ (hw _ (List.mem_of_getElem? (i := 90) rfl))) (mvT hZ (hw _ (List.mem_of_getElem? (i := 91) rfl))) (notFace_of_selects (args := #[]) (mvT hZ (hw _ (List.mem_of_getElem? (i := 93) rfl)))) (mvT hZ (hw _ (List.mem_of_getElem? (i := 93) rfl))) (mvT hZ (hw _ (List.mem_of_getElem? (i := 92) rfl))) (by decide) (own_back (W := 0) (own_rmUA l Z a0 hw la7 lb7 kb7 cs (nar .char (nar .char (own_gc w2 w3))) h7 n0 Z0 Ex7 Fv7 Fc7 V7 O S_C hcs (own_chn _)) hZ (hw _ (List.mem_of_getElem? (i := 94) rfl)) (hw _ (List.mem_of_getElem? (i := 3) rfl)) (by decide) (by decide)) q12a q12c (g := (mkF m 44 #[.val (.ref a1), .val (.int (1 : Int32))] [(.int (nar .char (nar .char (own_gc w2 w3)))), (.ref la7)])) rfl (by rw [hml]; rfl) (Steps.refl _) (argsL := [(.int (nar .char (nar .char (own_gc w2 w3))))]) (rest := []) (lenOf own_pd9 rfl) rfl (by show 2 * 0 + _ ≤ _; exact Nat.le_of_eq rfl) (hb hby own_d8_44) (fun _ _ => ⟨rfl, eq11, (by decide : 6 + 0 ≤ _), (by decide : 340 + 0 ≤ _)⟩)
    dsimp only [Pt.U, Pt.locs, Pt.cells, Pt.slots] at X12 l12 y12 z12 st12 hQ12
    replace X12 := own_cst X12 l12 y12 z12 (k2 := 6) (n2 := 340) rfl rfl
    clear l12 y12 z12
    obtain ⟨ri1, rfl, Nq12, eq12, hi1⟩ := hQ12
    have NF12 := Fr.app NF11 Nq12
    refine own_goT st12 ?_
    show own_Go _ _ _ _ (T12.setTop (mkF m 47 #[.val (.ref a1), .val (.int (1 : Int32))] [(.int ri1)]))
    by_cases hr1 : ri1 < (0 : Int32)
    · have _h := hr1
      have hk1 : own_okc (nar .char (nar .char (own_gc w2 w3))) = 0 := hi1.mp hr1
      refine own_go (fun _ => XS.ifNo X12.here hx rfl (hb hby own_d8_47) rfl ((if0 _ _).trans (tlt hr1).2.1)) ?_
      show own_Go _ _ _ _ (T12.setTop (mkF m 50 #[.val (.ref a1), .val (.int (1 : Int32))] []))
      refine own_go (fun _ => XS.iconst X12.here hx rfl (hb hby own_d8_50)) ?_
      show own_Go _ _ _ _ (T12.setTop (mkF m 51 #[.val (.ref a1), .val (.int (1 : Int32))] [(.int (0 : Int32))]))
      refine own_retW X12 hS eq12 hsw hlk (v := some (.int (0 : Int32))) (fun h => by rw [Bd.returns] at h; cases h) (fun fs hr => retN X12 hx (t := .boolean) Bd.returns (by simp) (hb hby own_d8_51) hr) ?_ (by decide) (by decide)
      try rw [eq12]
      exact ⟨by simp [own_nmU, hk0, hk1], NF12⟩
    · have _h := hr1
      have hk1 : ¬ own_okc (nar .char (nar .char (own_gc w2 w3))) = 0 := fun q => hr1 (hi1.mpr q)
      refine own_go (fun _ => XS.ifYes X12.here hx rfl (pc0 := 47) (pc' := 52) rfl (hb hby own_d8_47) rfl ((if0 _ _).trans (flt hr1).2.1) (by decide) (by decide)) ?_
      show own_Go _ _ _ _ (T12.setTop (mkF m 52 #[.val (.ref a1), .val (.int (1 : Int32))] []))
      refine own_go (fun _ => XS.iinc X12.here hx rfl (hb hby own_d8_52) rfl (l' := #[.val (.ref a1), .val (.int (2 : Int32))]) rfl) ?_
      refine own_go (fun _ => XS.goto X12.here hx rfl (pc0 := 55) (pc' := 29) rfl (hb hby own_d8_55) (by decide) (by decide)) ?_
      refine own_go (fun _ => XS.iloadN X12.here hx rfl (hb hby own_d8_29) rfl) ?_
      refine own_go (fun _ => XS.aloadN X12.here hx rfl (hb hby own_d8_30) rfl rfl) ?_
      show own_Go _ _ _ _ (T12.setTop (mkF m 31 #[.val (.ref a1), .val (.int (2 : Int32))] [(.ref a1), (.int (2 : Int32))]))
      obtain ⟨cq13, kq13, q13a, q13b, q13c⟩ := isOf hZ eq12 E1
      obtain ⟨_, _, ⟨T13, L13, k13, n13⟩, -, X13, ⟨Lc13, hQ13, l13, y13, z13⟩, st13⟩ := X12.virtualBack hx (y := (⟨"java/lang/String", "length", "()I"⟩ : MethodName)) (z := (⟨"java/lang/String", "length", "()I"⟩ : MethodName)) hown (mvT hZ (hw _ (List.mem_of_getElem? (i := 58) rfl))) (mvT hZ (hw _ (List.mem_of_getElem? (i := 59) rfl))) (notFace_of_selects (args := #[]) (mvT hZ (hw _ (List.mem_of_getElem? (i := 61) rfl)))) (mvT hZ (hw _ (List.mem_of_getElem? (i := 61) rfl))) (mvT hZ (hw _ (List.mem_of_getElem? (i := 60) rfl))) (by decide) (own_back (W := 1) (own_rmln1 l Z a0 hw a1 b k cs 6 3 _ h7 n0 Z0 E1 Fv Fc V O S_C hcs (by decide)) hZ (hw _ (List.mem_of_getElem? (i := 62) rfl)) (hw _ (List.mem_of_getElem? (i := 3) rfl)) (by decide) (by decide)) q13a q13c (g := (mkF m 31 #[.val (.ref a1), .val (.int (2 : Int32))] [(.ref a1), (.int (2 : Int32))])) rfl (by rw [hml]; rfl) (Steps.refl _) (argsL := []) (rest := [(.int (2 : Int32))]) (lenOf own_pd18 rfl) rfl (by show 2 * 0 + _ ≤ _; exact Nat.le_of_eq rfl) (hb hby own_d8_31) (fun _ _ => ⟨rfl, eq12, (by decide : 6 + 0 ≤ _), (by decide : 340 + 0 ≤ _)⟩)
      dsimp only [Pt.U, Pt.locs, Pt.cells, Pt.slots] at X13 l13 y13 z13 st13 hQ13
      replace X13 := own_cst X13 l13 y13 z13 (k2 := 6) (n2 := 340) rfl rfl
      clear l13 y13 z13
      obtain ⟨rfl, Nq13, eq13⟩ := hQ13
      have NF13 := Fr.app NF12 Nq13
      refine own_goT st13 ?_
      show own_Go _ _ _ _ (T13.setTop (mkF m 34 #[.val (.ref a1), .val (.int (2 : Int32))] [(.int (3 : Int32)), (.int (2 : Int32))]))
      refine own_go (fun _ => XS.icmpNo X13.here hx rfl (hb hby own_d8_34) rfl (tlt (by decide)).2.1) ?_
      show own_Go _ _ _ _ (T13.setTop (mkF m 37 #[.val (.ref a1), .val (.int (2 : Int32))] []))
      refine own_go (ldcAgain X13 hx hZ hown (hw _ (List.mem_of_getElem? (i := 68) rfl)) Lt7 (g := (mkF m 37 #[.val (.ref a1), .val (.int (2 : Int32))] [])) rfl (hb hby own_d8_37)) ?_
      show own_Go _ _ _ _ (T13.setTop (mkF m 39 #[.val (.ref a1), .val (.int (2 : Int32))] [(.ref la7)]))
      refine own_go (fun _ => XS.aloadN X13.here hx rfl (hb hby own_d8_39) rfl rfl) ?_
      refine own_go (fun _ => XS.iloadN X13.here hx rfl (hb hby own_d8_40) rfl) ?_
      show own_Go _ _ _ _ (T13.setTop (mkF m 41 #[.val (.ref a1), .val (.int (2 : Int32))] [(.int (2 : Int32)), (.ref a1), (.ref la7)]))
      obtain ⟨cq14, kq14, q14a, q14b, q14c⟩ := isOf hZ eq13 E1
      obtain ⟨_, _, ⟨T14, L14, k14, n14⟩, -, X14, ⟨Lc14, hQ14, l14, y14, z14⟩, st14⟩ := X13.virtualBack hx (y := (⟨"java/lang/String", "charAt", "(I)C"⟩ : MethodName)) (z := (⟨"java/lang/String", "charAt", "(I)C"⟩ : MethodName)) hown (mvT hZ (hw _ (List.mem_of_getElem? (i := 69) rfl))) (mvT hZ (hw _ (List.mem_of_getElem? (i := 70) rfl))) (notFace_of_selects (args := #[]) (mvT hZ (hw _ (List.mem_of_getElem? (i := 72) rfl)))) (mvT hZ (hw _ (List.mem_of_getElem? (i := 72) rfl))) (mvT hZ (hw _ (List.mem_of_getElem? (i := 71) rfl))) (by decide) (own_back (W := 1) (own_rmcaU l Z a0 hw a1 b k cs fmt 6 3 2 4 5 w4 w5 _ h7 n0 Z0 E1 Fv Fc V O S_C hcs S_F hfmt (by decide) (by decide) (by decide) (by decide) (by decide) ⟨by decide, by decide⟩ ⟨by decide, by decide⟩ rfl rfl S_A S_H S_L) hZ (hw _ (List.mem_of_getElem? (i := 73) rfl)) (hw _ (List.mem_of_getElem? (i := 3) rfl)) (by decide) (by decide)) q14a q14c (g := (mkF m 41 #[.val (.ref a1), .val (.int (2 : Int32))] [(.int (2 : Int32)), (.ref a1), (.ref la7)])) rfl (by rw [hml]; rfl) (Steps.refl _) (argsL := [(.int (2 : Int32))]) (rest := [(.ref la7)]) (lenOf own_pd20 rfl) rfl (by show 2 * 0 + _ ≤ _; exact Nat.le_of_eq rfl) (hb hby own_d8_41) (fun _ _ => ⟨rfl, eq13, (by decide : 6 + 0 ≤ _), (by decide : 340 + 0 ≤ _)⟩)
      dsimp only [Pt.U, Pt.locs, Pt.cells, Pt.slots] at X14 l14 y14 z14 st14 hQ14
      replace X14 := own_cst X14 l14 y14 z14 (k2 := 6) (n2 := 340) rfl rfl
      clear l14 y14 z14
      obtain ⟨rfl, Nq14, eq14⟩ := hQ14
      have NF14 := Fr.app NF13 Nq14
      refine own_goT st14 ?_
      show own_Go _ _ _ _ (T14.setTop (mkF m 44 #[.val (.ref a1), .val (.int (2 : Int32))] [(.int (nar .char (nar .char (own_gc w4 w5)))), (.ref la7)]))
      obtain ⟨cq15, kq15, q15a, q15b, q15c⟩ := isOf hZ eq14 Ex7
      obtain ⟨_, _, ⟨T15, L15, k15, n15⟩, -, X15, ⟨Lc15, hQ15, l15, y15, z15⟩, st15⟩ := X14.virtualBack hx (y := (⟨"java/lang/String", "indexOf", "(I)I"⟩ : MethodName)) (z := (⟨"java/lang/String", "indexOf", "(I)I"⟩ : MethodName)) hown (mvT hZ (hw _ (List.mem_of_getElem? (i := 90) rfl))) (mvT hZ (hw _ (List.mem_of_getElem? (i := 91) rfl))) (notFace_of_selects (args := #[]) (mvT hZ (hw _ (List.mem_of_getElem? (i := 93) rfl)))) (mvT hZ (hw _ (List.mem_of_getElem? (i := 93) rfl))) (mvT hZ (hw _ (List.mem_of_getElem? (i := 92) rfl))) (by decide) (own_back (W := 0) (own_rmUA l Z a0 hw la7 lb7 kb7 cs (nar .char (nar .char (own_gc w4 w5))) h7 n0 Z0 Ex7 Fv7 Fc7 V7 O S_C hcs (own_chn _)) hZ (hw _ (List.mem_of_getElem? (i := 94) rfl)) (hw _ (List.mem_of_getElem? (i := 3) rfl)) (by decide) (by decide)) q15a q15c (g := (mkF m 44 #[.val (.ref a1), .val (.int (2 : Int32))] [(.int (nar .char (nar .char (own_gc w4 w5)))), (.ref la7)])) rfl (by rw [hml]; rfl) (Steps.refl _) (argsL := [(.int (nar .char (nar .char (own_gc w4 w5))))]) (rest := []) (lenOf own_pd9 rfl) rfl (by show 2 * 0 + _ ≤ _; exact Nat.le_of_eq rfl) (hb hby own_d8_44) (fun _ _ => ⟨rfl, eq14, (by decide : 6 + 0 ≤ _), (by decide : 340 + 0 ≤ _)⟩)
      dsimp only [Pt.U, Pt.locs, Pt.cells, Pt.slots] at X15 l15 y15 z15 st15 hQ15
      replace X15 := own_cst X15 l15 y15 z15 (k2 := 6) (n2 := 340) rfl rfl
      clear l15 y15 z15
      obtain ⟨ri2, rfl, Nq15, eq15, hi2⟩ := hQ15
      have NF15 := Fr.app NF14 Nq15
      refine own_goT st15 ?_
      show own_Go _ _ _ _ (T15.setTop (mkF m 47 #[.val (.ref a1), .val (.int (2 : Int32))] [(.int ri2)]))
      by_cases hr2 : ri2 < (0 : Int32)
      · have _h := hr2
        have hk2 : own_okc (nar .char (nar .char (own_gc w4 w5))) = 0 := hi2.mp hr2
        refine own_go (fun _ => XS.ifNo X15.here hx rfl (hb hby own_d8_47) rfl ((if0 _ _).trans (tlt hr2).2.1)) ?_
        show own_Go _ _ _ _ (T15.setTop (mkF m 50 #[.val (.ref a1), .val (.int (2 : Int32))] []))
        refine own_go (fun _ => XS.iconst X15.here hx rfl (hb hby own_d8_50)) ?_
        show own_Go _ _ _ _ (T15.setTop (mkF m 51 #[.val (.ref a1), .val (.int (2 : Int32))] [(.int (0 : Int32))]))
        refine own_retW X15 hS eq15 hsw hlk (v := some (.int (0 : Int32))) (fun h => by rw [Bd.returns] at h; cases h) (fun fs hr => retN X15 hx (t := .boolean) Bd.returns (by simp) (hb hby own_d8_51) hr) ?_ (by decide) (by decide)
        try rw [eq15]
        exact ⟨by simp [own_nmU, hk0, hk1, hk2], NF15⟩
      · have _h := hr2
        have hk2 : ¬ own_okc (nar .char (nar .char (own_gc w4 w5))) = 0 := fun q => hr2 (hi2.mpr q)
        refine own_go (fun _ => XS.ifYes X15.here hx rfl (pc0 := 47) (pc' := 52) rfl (hb hby own_d8_47) rfl ((if0 _ _).trans (flt hr2).2.1) (by decide) (by decide)) ?_
        show own_Go _ _ _ _ (T15.setTop (mkF m 52 #[.val (.ref a1), .val (.int (2 : Int32))] []))
        refine own_go (fun _ => XS.iinc X15.here hx rfl (hb hby own_d8_52) rfl (l' := #[.val (.ref a1), .val (.int (3 : Int32))]) rfl) ?_
        refine own_go (fun _ => XS.goto X15.here hx rfl (pc0 := 55) (pc' := 29) rfl (hb hby own_d8_55) (by decide) (by decide)) ?_
        refine own_go (fun _ => XS.iloadN X15.here hx rfl (hb hby own_d8_29) rfl) ?_
        refine own_go (fun _ => XS.aloadN X15.here hx rfl (hb hby own_d8_30) rfl rfl) ?_
        show own_Go _ _ _ _ (T15.setTop (mkF m 31 #[.val (.ref a1), .val (.int (3 : Int32))] [(.ref a1), (.int (3 : Int32))]))
        obtain ⟨cq16, kq16, q16a, q16b, q16c⟩ := isOf hZ eq15 E1
        obtain ⟨_, _, ⟨T16, L16, k16, n16⟩, -, X16, ⟨Lc16, hQ16, l16, y16, z16⟩, st16⟩ := X15.virtualBack hx (y := (⟨"java/lang/String", "length", "()I"⟩ : MethodName)) (z := (⟨"java/lang/String", "length", "()I"⟩ : MethodName)) hown (mvT hZ (hw _ (List.mem_of_getElem? (i := 58) rfl))) (mvT hZ (hw _ (List.mem_of_getElem? (i := 59) rfl))) (notFace_of_selects (args := #[]) (mvT hZ (hw _ (List.mem_of_getElem? (i := 61) rfl)))) (mvT hZ (hw _ (List.mem_of_getElem? (i := 61) rfl))) (mvT hZ (hw _ (List.mem_of_getElem? (i := 60) rfl))) (by decide) (own_back (W := 1) (own_rmln1 l Z a0 hw a1 b k cs 6 3 _ h7 n0 Z0 E1 Fv Fc V O S_C hcs (by decide)) hZ (hw _ (List.mem_of_getElem? (i := 62) rfl)) (hw _ (List.mem_of_getElem? (i := 3) rfl)) (by decide) (by decide)) q16a q16c (g := (mkF m 31 #[.val (.ref a1), .val (.int (3 : Int32))] [(.ref a1), (.int (3 : Int32))])) rfl (by rw [hml]; rfl) (Steps.refl _) (argsL := []) (rest := [(.int (3 : Int32))]) (lenOf own_pd18 rfl) rfl (by show 2 * 0 + _ ≤ _; exact Nat.le_of_eq rfl) (hb hby own_d8_31) (fun _ _ => ⟨rfl, eq15, (by decide : 6 + 0 ≤ _), (by decide : 340 + 0 ≤ _)⟩)
        dsimp only [Pt.U, Pt.locs, Pt.cells, Pt.slots] at X16 l16 y16 z16 st16 hQ16
        replace X16 := own_cst X16 l16 y16 z16 (k2 := 6) (n2 := 340) rfl rfl
        clear l16 y16 z16
        obtain ⟨rfl, Nq16, eq16⟩ := hQ16
        have NF16 := Fr.app NF15 Nq16
        refine own_goT st16 ?_
        show own_Go _ _ _ _ (T16.setTop (mkF m 34 #[.val (.ref a1), .val (.int (3 : Int32))] [(.int (3 : Int32)), (.int (3 : Int32))]))
        refine own_go (fun _ => XS.icmpYes X16.here hx rfl (pc0 := 34) (pc' := 58) rfl (hb hby own_d8_34) rfl (flt (by decide)).2.1 (by decide) (by decide)) ?_
        show own_Go _ _ _ _ (T16.setTop (mkF m 58 #[.val (.ref a1), .val (.int (3 : Int32))] []))
        refine own_go (fun _ => XS.iconst X16.here hx rfl (hb hby own_d8_58)) ?_
        show own_Go _ _ _ _ (T16.setTop (mkF m 59 #[.val (.ref a1), .val (.int (3 : Int32))] [(.int (1 : Int32))]))
        refine own_retW X16 hS eq16 hsw hlk (v := some (.int (1 : Int32))) (fun h => by rw [Bd.returns] at h; cases h) (fun fs hr => retN X16 hx (t := .boolean) Bd.returns (by simp) (hb hby own_d8_59) hr) ?_ (by decide) (by decide)
        try rw [eq16]
        exact ⟨by simp [own_nmU, hk0, hk1, hk2], NF16⟩
theorem own_pd21 : parseMethodDescriptor "([C)V" = some ⟨[(.array .char)], none⟩ := by decide +kernel
theorem own_pd22 : parseMethodDescriptor "(Ljava/lang/String;)Z" = some ⟨[(.object "java/lang/String")], some .boolean⟩ := by decide +kernel
theorem own_pd23 : parseMethodDescriptor "(C)Z" = some ⟨[.char], some .boolean⟩ := by decide +kernel
set_option maxRecDepth 65536 in
set_option maxHeartbeats 40000000 in
theorem own_rm0 (l : Launch) (Z : State) (a0 : Array Value) (hw : ∀ d ∈ tables_1, d.before a0 Z = true) (p1 : Int32) (p2 : Int32) (p3 : Int32) (p4 : Int32) (cs : Int32) (fmt : Value) (h0 : Heap) (n0 : Nat) (Z0 : n0 ≤ h0.size) (O : Old Z n0 h0) (S_C : Sta Z Z.heap "java/lang/String" "COMPACT_STRINGS" "Z" (.int cs)) (hcs : ¬ cs = (0 : Int32)) (S_F : Sta Z Z.heap "jdk/internal/util/Preconditions" "SIOOBE_FORMATTER" "Ljava/util/function/BiFunction;" fmt) (hfmt : fmt = .null ∨ ∃ o : Addr, fmt = .ref o) (S_A : Sta Z Z.heap "java/lang/StringUTF16" "$assertionsDisabled" "Z" (.int 1)) (S_H : Sta Z Z.heap "java/lang/StringUTF16" "HI_BYTE_SHIFT" "I" (.int 0)) (S_L : Sta Z Z.heap "java/lang/StringUTF16" "LO_BYTE_SHIFT" "I" (.int 8)) :
    own_MetH l Z consts_1 tables_1 x code maxLocals ret room_1 #[(.int p1), (.int p2), (.int p3), (.int p4)] h0 (fun v h L => v = some (.int 1) ∧ Fr n0 L) := by
  refine MetFree.of_bodySF (plainFor_of_name own_pn4) hisR ?_
  intro p e s m args below meth c s₁ Bd hml0 hP hK
  obtain ⟨rfl, hZ, hh, H0⟩ := hP
  have hx := Bd.exec
  have hby := Bd.bytes
  have hml : c.maxLocals = 10 := hml0
  have hown : s.vm.findClass "com/example/chartpost/chartpost/http/PathSegmentsIsNamePinLaw" = some m.cls := findClass_of_methodNamed Bd.named
  have hnm := (name_of_methodNamed Bd.named Bd.method).1
  have hlk : meth.locks = false := Bd.notSynchronized
  have X0 : Stand p l e room_1 s m #[(.int p1), (.int p2), (.int p3), (.int p4)] below meth c s₁ [] 0 0 := Stand.of_body Bd
  have e0 : s₁.heap = h0 := by rw [← hh, Bd.state]; rfl
  have N0 := Fr.nil n0
  refine own_bodyW (Q := fun v h L => v = some (.int 1) ∧ Fr n0 L) ?_
  refine own_go (fun _ kont => castTop (own_ef m #[(.int p1), (.int p2), (.int p3), (.int p4)] maxLocals #[.val (.int p1), .val (.int p2), .val (.int p3), .val (.int p4), .unset, .unset, .unset, .unset, .unset, .unset] (own_al [(.int p1), (.int p2), (.int p3), (.int p4)] maxLocals [.val (.int p1), .val (.int p2), .val (.int p3), .val (.int p4), .unset, .unset, .unset, .unset, .unset, .unset] rfl)) kont) ?_
  show own_Go _ _ _ _ (s₁.setTop (mkF m 0 #[.val (.int p1), .val (.int p2), .val (.int p3), .val (.int p4), .unset, .unset, .unset, .unset, .unset, .unset] []))
  have Hc := H0
  refine own_go (fun _ => XS.iloadN X0.here hx rfl (hb hby at_0) rfl) ?_
  refine own_go (fun _ => XS.iconst X0.here hx rfl (hb hby at_1)) ?_
  refine own_go (fun _ => XS.iand X0.here hx rfl (hb hby at_2) rfl) ?_
  show own_Go _ _ _ _ (s₁.setTop (mkF m 3 #[.val (.int p1), .val (.int p2), .val (.int p3), .val (.int p4), .unset, .unset, .unset, .unset, .unset, .unset] [(.int (p4 &&& (3 : Int32)))]))
  have hl4 := own_4 p4
  generalize hlen : (p4 &&& (3 : Int32)) = len
  rw [hlen] at hl4
  clear hlen
  show own_Go _ _ _ _ (s₁.setTop (mkF m 3 #[.val (.int p1), .val (.int p2), .val (.int p3), .val (.int p4), .unset, .unset, .unset, .unset, .unset, .unset] [(.int len)]))
  refine own_go (fun _ => XS.istore X0.here hx rfl (hb hby at_3) rfl (l' := #[.val (.int p1), .val (.int p2), .val (.int p3), .val (.int p4), .val (.int len), .unset, .unset, .unset, .unset, .unset]) rfl) ?_
  refine own_go (fun _ => XS.iloadN X0.here hx rfl (hb hby at_5) rfl) ?_
  refine own_go (X0.ldcInt hx hown (mvT hZ (hw _ (List.mem_of_getElem? (i := 0) rfl))) (g := (mkF m 6 #[.val (.int p1), .val (.int p2), .val (.int p3), .val (.int p4), .val (.int len), .unset, .unset, .unset, .unset, .unset] [(.int p1)])) rfl (hb hby at_6)) ?_
  refine own_go (fun _ => XS.iand X0.here hx rfl (hb hby at_8) rfl) ?_
  refine own_go (fun _ => XS.i2c X0.here hx rfl (hb hby at_9) rfl) ?_
  show own_Go _ _ _ _ (s₁.setTop (mkF m 10 #[.val (.int p1), .val (.int p2), .val (.int p3), .val (.int p4), .val (.int len), .unset, .unset, .unset, .unset, .unset] [(.int ((p1 &&& (65535 : Int32)).toUInt32.toUInt16.toUInt32.toInt32))]))
  obtain ⟨c0a, c0b⟩ := own_pc (p1 &&& (65535 : Int32))
  generalize hc0 : ((p1 &&& (65535 : Int32)).toUInt32.toUInt16.toUInt32.toInt32) = c0
  rw [hc0] at c0a c0b
  show own_Go _ _ _ _ (s₁.setTop (mkF m 10 #[.val (.int p1), .val (.int p2), .val (.int p3), .val (.int p4), .val (.int len), .unset, .unset, .unset, .unset, .unset] [(.int c0)]))
  refine own_go (fun _ => XS.istore X0.here hx rfl (hb hby at_10) rfl (l' := #[.val (.int p1), .val (.int p2), .val (.int p3), .val (.int p4), .val (.int len), .val (.int c0), .unset, .unset, .unset, .unset]) rfl) ?_
  refine own_go (fun _ => XS.iloadN X0.here hx rfl (hb hby at_12) rfl) ?_
  refine own_go (X0.ldcInt hx hown (mvT hZ (hw _ (List.mem_of_getElem? (i := 0) rfl))) (g := (mkF m 13 #[.val (.int p1), .val (.int p2), .val (.int p3), .val (.int p4), .val (.int len), .val (.int c0), .unset, .unset, .unset, .unset] [(.int p2)])) rfl (hb hby at_13)) ?_
  refine own_go (fun _ => XS.iand X0.here hx rfl (hb hby at_15) rfl) ?_
  refine own_go (fun _ => XS.i2c X0.here hx rfl (hb hby at_16) rfl) ?_
  show own_Go _ _ _ _ (s₁.setTop (mkF m 17 #[.val (.int p1), .val (.int p2), .val (.int p3), .val (.int p4), .val (.int len), .val (.int c0), .unset, .unset, .unset, .unset] [(.int ((p2 &&& (65535 : Int32)).toUInt32.toUInt16.toUInt32.toInt32))]))
  obtain ⟨c1a, c1b⟩ := own_pc (p2 &&& (65535 : Int32))
  generalize hc1 : ((p2 &&& (65535 : Int32)).toUInt32.toUInt16.toUInt32.toInt32) = c1
  rw [hc1] at c1a c1b
  show own_Go _ _ _ _ (s₁.setTop (mkF m 17 #[.val (.int p1), .val (.int p2), .val (.int p3), .val (.int p4), .val (.int len), .val (.int c0), .unset, .unset, .unset, .unset] [(.int c1)]))
  refine own_go (fun _ => XS.istore X0.here hx rfl (hb hby at_17) rfl (l' := #[.val (.int p1), .val (.int p2), .val (.int p3), .val (.int p4), .val (.int len), .val (.int c0), .val (.int c1), .unset, .unset, .unset]) rfl) ?_
  refine own_go (fun _ => XS.iloadN X0.here hx rfl (hb hby at_19) rfl) ?_
  refine own_go (X0.ldcInt hx hown (mvT hZ (hw _ (List.mem_of_getElem? (i := 0) rfl))) (g := (mkF m 20 #[.val (.int p1), .val (.int p2), .val (.int p3), .val (.int p4), .val (.int len), .val (.int c0), .val (.int c1), .unset, .unset, .unset] [(.int p3)])) rfl (hb hby at_20)) ?_
  refine own_go (fun _ => XS.iand X0.here hx rfl (hb hby at_22) rfl) ?_
  refine own_go (fun _ => XS.i2c X0.here hx rfl (hb hby at_23) rfl) ?_
  show own_Go _ _ _ _ (s₁.setTop (mkF m 24 #[.val (.int p1), .val (.int p2), .val (.int p3), .val (.int p4), .val (.int len), .val (.int c0), .val (.int c1), .unset, .unset, .unset] [(.int ((p3 &&& (65535 : Int32)).toUInt32.toUInt16.toUInt32.toInt32))]))
  obtain ⟨c2a, c2b⟩ := own_pc (p3 &&& (65535 : Int32))
  generalize hc2 : ((p3 &&& (65535 : Int32)).toUInt32.toUInt16.toUInt32.toInt32) = c2
  rw [hc2] at c2a c2b
  show own_Go _ _ _ _ (s₁.setTop (mkF m 24 #[.val (.int p1), .val (.int p2), .val (.int p3), .val (.int p4), .val (.int len), .val (.int c0), .val (.int c1), .unset, .unset, .unset] [(.int c2)]))
  refine own_go (fun _ => XS.istore X0.here hx rfl (hb hby at_24) rfl (l' := #[.val (.int p1), .val (.int p2), .val (.int p3), .val (.int p4), .val (.int len), .val (.int c0), .val (.int c1), .val (.int c2), .unset, .unset]) rfl) ?_
  refine own_go (fun _ => XS.iload X0.here hx rfl (hb hby at_26) rfl) ?_
  show own_Go _ _ _ _ (s₁.setTop (mkF m 28 #[.val (.int p1), .val (.int p2), .val (.int p3), .val (.int p4), .val (.int len), .val (.int c0), .val (.int c1), .val (.int c2), .unset, .unset] [(.int len)]))
  rcases hl4 with rfl | rfl | rfl | rfl
  · have _u := trivial
    show own_Go _ _ _ _ (s₁.setTop (mkF m 28 #[.val (.int p1), .val (.int p2), .val (.int p3), .val (.int p4), .val (.int (0 : Int32)), .val (.int c0), .val (.int c1), .val (.int c2), .unset, .unset] [(.int (0 : Int32))]))
    refine own_go (fun _ => XS.ifNo X0.here hx rfl (hb hby at_28) rfl ((if0 _ _).trans (teq rfl).2)) ?_
    show own_Go _ _ _ _ (s₁.setTop (mkF m 31 #[.val (.int p1), .val (.int p2), .val (.int p3), .val (.int p4), .val (.int (0 : Int32)), .val (.int c0), .val (.int c1), .val (.int c2), .unset, .unset] []))
    obtain ⟨T1, h1, X1, e1, E1, A1, D1, -, st1⟩ := newO X0 hx hZ hown (hw _ (List.mem_of_getElem? (i := 1) rfl)) (hw _ (List.mem_of_getElem? (i := 2) rfl)) (hw _ (List.mem_of_getElem? (i := 3) rfl)) e0 (g := (mkF m 31 #[.val (.int p1), .val (.int p2), .val (.int p3), .val (.int p4), .val (.int (0 : Int32)), .val (.int c0), .val (.int c1), .val (.int c2), .unset, .unset] [])) rfl (hb hby at_31) (by decide) (by decide)
    obtain ⟨b1, g1⟩ : ∃ z, z = h0.size := ⟨_, rfl⟩
    rw [← g1] at A1 D1 st1
    refine own_go st1 ?_
    have ge_b1 : n0 ≤ b1 := Nat.le_trans Z0 (Nat.le_of_eq g1.symm)
    replace O := O.ext E1
    replace Z0 := Nat.le_trans Z0 E1.1
    have SF_b1 : Safe Z consts_1 s.vm h1 b1 := Safe.ext E1 Hc (Safe.new (Nat.le_of_eq g1.symm))
    replace Hc := CHv.ext E1 Hc
    have F_coder_b1 : Fld Z h1 b1 "java/lang/String" "coder" "B" (.int (0 : Int32)) := D1 (Or.inr (hw _ (List.mem_of_getElem? (i := 28) rfl))) (ty := .byte) (by decide)
    have F_value_b1 : Fld Z h1 b1 "java/lang/String" "value" "[B" .null := D1 (Or.inr (hw _ (List.mem_of_getElem? (i := 30) rfl))) (ty := (.array .byte)) (by decide)
    refine own_go (fun _ => XS.dup X1.here hx rfl (hb hby at_34) rfl rfl) ?_
    refine own_go (fun _ => XS.iconst X1.here hx rfl (hb hby at_35)) ?_
    obtain ⟨T2, h2, k2, X2, e2, E2, A2, st2⟩ := newP X1 hx hZ (hw _ (List.mem_of_getElem? (i := 4) rfl)) e1 (g := (mkF m 36 #[.val (.int p1), .val (.int p2), .val (.int p3), .val (.int p4), .val (.int (0 : Int32)), .val (.int c0), .val (.int c1), .val (.int c2), .unset, .unset] [(.int (0 : Int32)), (.ref b1), (.ref b1)])) rfl (hb hby at_36) rfl (by decide) (cap := 0) (by decide) (by decide) (by decide) (by decide)
    obtain ⟨b2, g2⟩ : ∃ z, z = h1.size := ⟨_, rfl⟩
    rw [← g2] at A2 st2
    refine own_go st2 ?_
    have ge_b2 : n0 ≤ b2 := Nat.le_trans Z0 (Nat.le_of_eq g2.symm)
    have ne_b1_b2 : b1 ≠ b2 := Nat.ne_of_lt (Nat.lt_of_lt_of_le A1.lt (Nat.le_of_eq g2.symm))
    replace O := O.ext E2
    replace A1 := A1.ext E2
    replace F_coder_b1 := F_coder_b1.ext E2
    replace F_value_b1 := F_value_b1.ext E2
    replace Z0 := Nat.le_trans Z0 E2.1
    replace SF_b1 := Safe.ext E2 Hc SF_b1
    have SF_b2 : Safe Z consts_1 s.vm h2 b2 := Safe.ext E2 Hc (Safe.new (Nat.le_of_eq g2.symm))
    replace Hc := CHv.ext E2 Hc
    have V_b2 : Arv Z h2 b2 k2 .char (0 : Int32) [] (.int (0 : Int32)) := Arv.new A2 (by decide)
    show own_Go _ _ _ _ (T2.setTop (mkF m 38 #[.val (.int p1), .val (.int p2), .val (.int p3), .val (.int p4), .val (.int (0 : Int32)), .val (.int c0), .val (.int c1), .val (.int c2), .unset, .unset] [(.ref b2), (.ref b1), (.ref b1)]))
    obtain ⟨_, _, ⟨T3, L3, k3, n3⟩, -, X3, hS, -, ⟨Lc3, hQ3, l3, y3, z3⟩, st3⟩ := X2.specialBackS hx (y := (⟨"java/lang/String", "<init>", "([C)V"⟩ : MethodName)) rfl hown (mvT hZ (hw _ (List.mem_of_getElem? (i := 5) rfl))) (mvT hZ (hw _ (List.mem_of_getElem? (i := 6) rfl))) (mvT hZ (hw _ (List.mem_of_getElem? (i := 7) rfl))) (by decide) (own_backH (s := s) (vm0 := s.vm) (W := 1) (own_rmI0 l Z a0 hw b1 b2 k2 h2 n0 Z0 A1 F_value_b1 F_coder_b1 V_b2 O ge_b1) hZ (hw _ (List.mem_of_getElem? (i := 7) rfl)) (hw _ (List.mem_of_getElem? (i := 3) rfl)) (by decide) (by decide) (own_ew hw) Hc) (g := (mkF m 38 #[.val (.int p1), .val (.int p2), .val (.int p3), .val (.int p4), .val (.int (0 : Int32)), .val (.int c0), .val (.int c1), .val (.int c2), .unset, .unset] [(.ref b2), (.ref b1), (.ref b1)])) rfl (by rw [hml]; rfl) (Steps.refl _) (a := b1) (argsL := [(.ref b2)]) (rest := [(.ref b1)]) (lenOf own_pd21 rfl) rfl (by show 2 * 0 + _ ≤ _; exact Nat.le_of_eq rfl) (hb hby at_38) (fun _ _ => ⟨rfl, e2, (by decide : 2 + 2 ≤ _), (by decide : 4 + 4 ≤ _)⟩)
    dsimp only [Pt.U, Pt.locs, Pt.cells, Pt.slots] at X3 l3 y3 z3 st3 hQ3 hS
    replace X3 := own_cst X3 l3 y3 z3 (k2 := 4) (n2 := 8) rfl rfl
    clear l3 y3 z3
    obtain ⟨bq3, kk3, rfl, Nq3, Oq3, hsq3, Eq3, Fvq3, Fcq3, Vq3⟩ := hQ3
    have NF3 := Fr.app N0 Nq3
    have hown : (s.setVm T3.vm).vm.findClass "com/example/chartpost/chartpost/http/PathSegmentsIsNamePinLaw" = some m.cls := by
      show T3.vm.findClass _ = _
      rw [hS.1.alike.findClass]; exact hown
    have hZ : Z.Warmed39 (s.setVm T3.vm).vm := State.Warmed39.trans (t := s) hZ hS.1
    have hsw : T3.heap.size ≤ T3.heap.size := Nat.le_refl _
    refine own_goT st3 ?_
    show own_Go _ _ _ _ (T3.setTop (mkF m 41 #[.val (.int p1), .val (.int p2), .val (.int p3), .val (.int p4), .val (.int (0 : Int32)), .val (.int c0), .val (.int c1), .val (.int c2), .unset, .unset] [(.ref b1)]))
    have O := Oq3
    replace Z0 := Nat.le_trans Z0 hsq3
    refine own_go (fun _ => XS.astore X3.here hx rfl (hb hby at_41) rfl rfl (l' := #[.val (.int p1), .val (.int p2), .val (.int p3), .val (.int p4), .val (.int (0 : Int32)), .val (.int c0), .val (.int c1), .val (.int c2), .val (.ref b1), .unset]) rfl) ?_
    refine own_go (fun _ => XS.iconst X3.here hx rfl (hb hby at_43)) ?_
    refine own_go (fun _ => XS.istore X3.here hx rfl (hb hby at_44) rfl (l' := #[.val (.int p1), .val (.int p2), .val (.int p3), .val (.int p4), .val (.int (0 : Int32)), .val (.int c0), .val (.int c1), .val (.int c2), .val (.ref b1), .val (.int (0 : Int32))]) rfl) ?_
    refine own_go (fun _ => XS.goto X3.here hx rfl (pc0 := 46) (pc' := 223) rfl (hb hby at_46) (by decide) (by decide)) ?_
    show own_Go _ _ _ _ (T3.setTop (mkF m 223 #[.val (.int p1), .val (.int p2), .val (.int p3), .val (.int p4), .val (.int (0 : Int32)), .val (.int c0), .val (.int c1), .val (.int c2), .val (.ref b1), .val (.int (0 : Int32))] []))
    refine own_go (fun _ => XS.aload X3.here hx rfl (hb hby at_223) rfl rfl) ?_
    show own_Go _ _ _ _ (T3.setTop (mkF m 225 #[.val (.int p1), .val (.int p2), .val (.int p3), .val (.int p4), .val (.int (0 : Int32)), .val (.int c0), .val (.int c1), .val (.int c2), .val (.ref b1), .val (.int (0 : Int32))] [(.ref b1)]))
    obtain ⟨_, _, ⟨T4, L4, k4, n4⟩, -, X4, ⟨Lc4, hQ4, l4, y4, z4⟩, st4⟩ := Jvm.LawKit.callS X3 hx (y := (⟨"com/example/chartpost/chartpost/http/PathSegments", "isName", "(Ljava/lang/String;)Z"⟩ : MethodName)) hown (mvT hZ (hw _ (List.mem_of_getElem? (i := 35) rfl))) (mvT hZ (hw _ (List.mem_of_getElem? (i := 36) rfl))) (mvT hZ (hw _ (List.mem_of_getElem? (i := 37) rfl))) (mvT hZ (hw _ (List.mem_of_getElem? (i := 38) rfl))) (by decide) (own_back (W := 0) (own_rmN0 l Z a0 hw b1 bq3 kk3 T3.heap n0 Z0 Eq3 Fvq3 Vq3) hZ (hw _ (List.mem_of_getElem? (i := 38) rfl)) (hw _ (List.mem_of_getElem? (i := 37) rfl)) (by decide) (by decide)) (g := (mkF m 225 #[.val (.int p1), .val (.int p2), .val (.int p3), .val (.int p4), .val (.int (0 : Int32)), .val (.int c0), .val (.int c1), .val (.int c2), .val (.ref b1), .val (.int (0 : Int32))] [(.ref b1)])) rfl (by rw [hml]; rfl) (argsL := [(.ref b1)]) (rest := []) (lenOf own_pd22 rfl) rfl (by show 2 * 0 + _ ≤ _; exact Nat.le_of_eq rfl) (hb hby at_225) (fun _ _ => ⟨rfl, rfl, (by decide : 4 + 0 ≤ _), (by decide : 8 + 0 ≤ _)⟩)
    dsimp only [Pt.U, Pt.locs, Pt.cells, Pt.slots] at X4 l4 y4 z4 st4 hQ4
    replace X4 := own_cst X4 l4 y4 z4 (k2 := 4) (n2 := 8) rfl rfl
    clear l4 y4 z4
    obtain ⟨rfl, Nq4, eq4⟩ := hQ4
    have NF4 := Fr.app NF3 Nq4
    refine own_go st4 ?_
    show own_Go _ _ _ _ (T4.setTop (mkF m 228 #[.val (.int p1), .val (.int p2), .val (.int p3), .val (.int p4), .val (.int (0 : Int32)), .val (.int c0), .val (.int c1), .val (.int c2), .val (.ref b1), .val (.int (0 : Int32))] [(.int (0 : Int32))]))
    refine own_go (fun _ => XS.iload X4.here hx rfl (hb hby at_228) rfl) ?_
    show own_Go _ _ _ _ (T4.setTop (mkF m 230 #[.val (.int p1), .val (.int p2), .val (.int p3), .val (.int p4), .val (.int (0 : Int32)), .val (.int c0), .val (.int c1), .val (.int c2), .val (.ref b1), .val (.int (0 : Int32))] [(.int (0 : Int32)), (.int (0 : Int32))]))
    refine own_go (fun _ => XS.icmpNo X4.here hx rfl (hb hby at_230) rfl (teq rfl).2) ?_
    show own_Go _ _ _ _ (T4.setTop (mkF m 233 #[.val (.int p1), .val (.int p2), .val (.int p3), .val (.int p4), .val (.int (0 : Int32)), .val (.int c0), .val (.int c1), .val (.int c2), .val (.ref b1), .val (.int (0 : Int32))] []))
    refine own_go (fun _ => XS.iconst X4.here hx rfl (hb hby at_233)) ?_
    refine own_go (fun _ => XS.goto X4.here hx rfl (pc0 := 234) (pc' := 238) rfl (hb hby at_234) (by decide) (by decide)) ?_
    show own_Go _ _ _ _ (T4.setTop (mkF m 238 #[.val (.int p1), .val (.int p2), .val (.int p3), .val (.int p4), .val (.int (0 : Int32)), .val (.int c0), .val (.int c1), .val (.int c2), .val (.ref b1), .val (.int (0 : Int32))] [(.int (1 : Int32))]))
    refine own_retW X4 hS eq4 hsw hlk (v := some (.int (1 : Int32))) (fun h => by rw [Bd.returns] at h; cases h) (fun fs hr => retN X4 hx (t := .boolean) Bd.returns (by simp) (hb hby at_238) hr) ?_ (by decide) (by decide)
    try rw [eq4]
    exact ⟨rfl, NF4⟩
  · have _u := trivial
    show own_Go _ _ _ _ (s₁.setTop (mkF m 28 #[.val (.int p1), .val (.int p2), .val (.int p3), .val (.int p4), .val (.int (1 : Int32)), .val (.int c0), .val (.int c1), .val (.int c2), .unset, .unset] [(.int (1 : Int32))]))
    refine own_go (fun _ => XS.ifYes X0.here hx rfl (pc0 := 28) (pc' := 49) rfl (hb hby at_28) rfl ((if0 _ _).trans (feq (by decide)).2) (by decide) (by decide)) ?_
    show own_Go _ _ _ _ (s₁.setTop (mkF m 49 #[.val (.int p1), .val (.int p2), .val (.int p3), .val (.int p4), .val (.int (1 : Int32)), .val (.int c0), .val (.int c1), .val (.int c2), .unset, .unset] []))
    refine own_go (fun _ => XS.iload X0.here hx rfl (hb hby at_49) rfl) ?_
    refine own_go (fun _ => XS.iconst X0.here hx rfl (hb hby at_51)) ?_
    show own_Go _ _ _ _ (s₁.setTop (mkF m 52 #[.val (.int p1), .val (.int p2), .val (.int p3), .val (.int p4), .val (.int (1 : Int32)), .val (.int c0), .val (.int c1), .val (.int c2), .unset, .unset] [(.int (1 : Int32)), (.int (1 : Int32))]))
    refine own_go (fun _ => XS.icmpNo X0.here hx rfl (hb hby at_52) rfl (teq rfl).2) ?_
    show own_Go _ _ _ _ (s₁.setTop (mkF m 55 #[.val (.int p1), .val (.int p2), .val (.int p3), .val (.int p4), .val (.int (1 : Int32)), .val (.int c0), .val (.int c1), .val (.int c2), .unset, .unset] []))
    obtain ⟨T5, h5, X5, e5, E5, A5, D5, -, st5⟩ := newO X0 hx hZ hown (hw _ (List.mem_of_getElem? (i := 1) rfl)) (hw _ (List.mem_of_getElem? (i := 2) rfl)) (hw _ (List.mem_of_getElem? (i := 3) rfl)) e0 (g := (mkF m 55 #[.val (.int p1), .val (.int p2), .val (.int p3), .val (.int p4), .val (.int (1 : Int32)), .val (.int c0), .val (.int c1), .val (.int c2), .unset, .unset] [])) rfl (hb hby at_55) (by decide) (by decide)
    obtain ⟨b5, g5⟩ : ∃ z, z = h0.size := ⟨_, rfl⟩
    rw [← g5] at A5 D5 st5
    refine own_go st5 ?_
    have ge_b5 : n0 ≤ b5 := Nat.le_trans Z0 (Nat.le_of_eq g5.symm)
    replace O := O.ext E5
    replace Z0 := Nat.le_trans Z0 E5.1
    have SF_b5 : Safe Z consts_1 s.vm h5 b5 := Safe.ext E5 Hc (Safe.new (Nat.le_of_eq g5.symm))
    replace Hc := CHv.ext E5 Hc
    have F_coder_b5 : Fld Z h5 b5 "java/lang/String" "coder" "B" (.int (0 : Int32)) := D5 (Or.inr (hw _ (List.mem_of_getElem? (i := 28) rfl))) (ty := .byte) (by decide)
    have F_value_b5 : Fld Z h5 b5 "java/lang/String" "value" "[B" .null := D5 (Or.inr (hw _ (List.mem_of_getElem? (i := 30) rfl))) (ty := (.array .byte)) (by decide)
    refine own_go (fun _ => XS.dup X5.here hx rfl (hb hby at_58) rfl rfl) ?_
    refine own_go (fun _ => XS.iconst X5.here hx rfl (hb hby at_59)) ?_
    obtain ⟨T6, h6, k6, X6, e6, E6, A6, st6⟩ := newP X5 hx hZ (hw _ (List.mem_of_getElem? (i := 4) rfl)) e5 (g := (mkF m 60 #[.val (.int p1), .val (.int p2), .val (.int p3), .val (.int p4), .val (.int (1 : Int32)), .val (.int c0), .val (.int c1), .val (.int c2), .unset, .unset] [(.int (1 : Int32)), (.ref b5), (.ref b5)])) rfl (hb hby at_60) rfl (by decide) (cap := 1) (by decide) (by decide) (by decide) (by decide)
    obtain ⟨b6, g6⟩ : ∃ z, z = h5.size := ⟨_, rfl⟩
    rw [← g6] at A6 st6
    refine own_go st6 ?_
    have ge_b6 : n0 ≤ b6 := Nat.le_trans Z0 (Nat.le_of_eq g6.symm)
    have ne_b5_b6 : b5 ≠ b6 := Nat.ne_of_lt (Nat.lt_of_lt_of_le A5.lt (Nat.le_of_eq g6.symm))
    replace O := O.ext E6
    replace A5 := A5.ext E6
    replace F_coder_b5 := F_coder_b5.ext E6
    replace F_value_b5 := F_value_b5.ext E6
    replace Z0 := Nat.le_trans Z0 E6.1
    replace SF_b5 := Safe.ext E6 Hc SF_b5
    have SF_b6 : Safe Z consts_1 s.vm h6 b6 := Safe.ext E6 Hc (Safe.new (Nat.le_of_eq g6.symm))
    replace Hc := CHv.ext E6 Hc
    have V_b6 : Arv Z h6 b6 k6 .char (1 : Int32) [(.int (0 : Int32))] (.int (0 : Int32)) := (Arv.new A6 (by decide)).pad (pad_rep [] (.int (0 : Int32)) 1)
    refine own_go (fun _ => XS.dup X6.here hx rfl (hb hby at_62) rfl rfl) ?_
    show own_Go _ _ _ _ (T6.setTop (mkF m 63 #[.val (.int p1), .val (.int p2), .val (.int p3), .val (.int p4), .val (.int (1 : Int32)), .val (.int c0), .val (.int c1), .val (.int c2), .unset, .unset] [(.ref b6), (.ref b6), (.ref b5), (.ref b5)]))
    refine own_go (fun _ => XS.iconst X6.here hx rfl (hb hby at_63)) ?_
    refine own_go (fun _ => XS.iload X6.here hx rfl (hb hby at_64) rfl) ?_
    obtain ⟨cl7, Ar7, q7, Sz7, Ng7, Hs7, Gs7⟩ := V_b6
    have hin7 : ¬ ((0 : Int32) < 0 ∨ cl7.slots.size ≤ ((0 : Int32)).toNatClampNeg) := inb_of Sz7 ⟨by decide, by decide⟩
    obtain ⟨T7, h7, X7, e7, W7, st7⟩ := stC X6 hx hZ e6 Ar7 (j := (0 : Int32)) hin7 (g := (mkF m 66 #[.val (.int p1), .val (.int p2), .val (.int p3), .val (.int p4), .val (.int (1 : Int32)), .val (.int c0), .val (.int c1), .val (.int c2), .unset, .unset] [(.int c0), (.int (0 : Int32)), (.ref b6), (.ref b6), (.ref b5), (.ref b5)])) rfl rfl (hb hby at_66)
    refine own_go st7 ?_
    have NF7 := Fr.snoc X7 N0 ge_b6
    replace V_b6 : Arv Z h7 b6 k6 .char (1 : Int32) [(.int (nar .char c0))] (.int (0 : Int32)) := Arv.set Ar7 q7 Sz7 Ng7 Hs7 Gs7 (fits_nar_char _) W7 0 rfl (Nat.le_of_ble_eq_true rfl)
    replace O := O.wr W7 ge_b6
    replace A5 := A5.wr W7
    replace F_coder_b5 := F_coder_b5.other W7 (Or.inl ne_b5_b6)
    replace F_value_b5 := F_value_b5.other W7 (Or.inl ne_b5_b6)
    replace Z0 := Nat.le_trans Z0 (Keep.of_wr W7).1
    replace SF_b5 := Safe.wr W7 SF_b6 Hc SF_b5
    have Hn := CHv.wr W7 SF_b6 Hc
    replace SF_b6 := Safe.wr W7 SF_b6 Hc SF_b6
    replace Hc := Hn
    clear Hn
    show own_Go _ _ _ _ (T7.setTop (mkF m 67 #[.val (.int p1), .val (.int p2), .val (.int p3), .val (.int p4), .val (.int (1 : Int32)), .val (.int c0), .val (.int c1), .val (.int c2), .unset, .unset] [(.ref b6), (.ref b5), (.ref b5)]))
    rw [own_ncc c0a c0b] at V_b6
    by_cases hU : ¬ (255 : Int32) < c0
    · have _u := trivial
      obtain ⟨_, _, ⟨T8, L8, k8, n8⟩, -, X8, ⟨Lc8, hQ8, l8, y8, z8⟩, st8⟩ := X7.specialBack hx (y := (⟨"java/lang/String", "<init>", "([C)V"⟩ : MethodName)) rfl hown (mvT hZ (hw _ (List.mem_of_getElem? (i := 5) rfl))) (mvT hZ (hw _ (List.mem_of_getElem? (i := 6) rfl))) (mvT hZ (hw _ (List.mem_of_getElem? (i := 7) rfl))) (by decide) (own_back (W := 1) (own_rmIL l Z a0 hw b5 b6 k6 cs 1 1 [(.int (nar .byte (c0.toInt8.toInt32)))] _ h7 n0 Z0 A5 F_value_b5 F_coder_b5 V_b6 O S_C hcs ge_b5 (by decide) (by decide) (own_rmML1 l Z a0 hw b6 k6 c0 h7 n0 Z0 V_b6 O hU)) hZ (hw _ (List.mem_of_getElem? (i := 7) rfl)) (hw _ (List.mem_of_getElem? (i := 3) rfl)) (by decide) (by decide)) (g := (mkF m 67 #[.val (.int p1), .val (.int p2), .val (.int p3), .val (.int p4), .val (.int (1 : Int32)), .val (.int c0), .val (.int c1), .val (.int c2), .unset, .unset] [(.ref b6), (.ref b5), (.ref b5)])) rfl (by rw [hml]; rfl) (Steps.refl _) (a := b5) (argsL := [(.ref b6)]) (rest := [(.ref b5)]) (lenOf own_pd21 rfl) rfl (by show 2 * 0 + _ ≤ _; exact Nat.le_of_eq rfl) (hb hby at_67) (fun _ _ => ⟨rfl, e7, (by decide : 2 + 2 ≤ _), (by decide : 5 + 9 ≤ _)⟩)
      dsimp only [Pt.U, Pt.locs, Pt.cells, Pt.slots] at X8 l8 y8 z8 st8 hQ8
      replace X8 := own_cst X8 l8 y8 z8 (k2 := 4) (n2 := 14) rfl rfl
      clear l8 y8 z8
      obtain ⟨bq8, kk8, rfl, Nq8, Kq8, Oq8, hsq8, Eq8, Fvq8, Fcq8, Vq8⟩ := hQ8
      have NF8 := Fr.app NF7 Nq8
      refine own_goT st8 ?_
      have O := Oq8
      replace Z0 := Nat.le_trans Z0 hsq8
      have Hn := CHv.keep Kq8 (fun x hx => by cases List.mem_singleton.mp hx; exact SF_b5) Hc
      replace SF_b5 := Safe.keep Kq8 (fun x hx => by cases List.mem_singleton.mp hx; exact SF_b5) Hc SF_b5
      replace Hc := Hn
      clear Hn
      show own_Go _ _ _ _ (T8.setTop (mkF m 70 #[.val (.int p1), .val (.int p2), .val (.int p3), .val (.int p4), .val (.int (1 : Int32)), .val (.int c0), .val (.int c1), .val (.int c2), .unset, .unset] [(.ref b5)]))
      have q0 := hU
      have J223 : ∀ (ex : Int32) (hex : (own_nm [(nar .byte (c0.toInt8.toInt32))] [(nar .char (own_lc (nar .byte (c0.toInt8.toInt32))))]) = ex) (Tj223 : State) (Lj223 : List Loc) (Xj223 : Stand p l e room_1 s m #[(.int p1), (.int p2), (.int p3), (.int p4)] below meth c Tj223 Lj223 4 14) (Nj223 : Fr n0 Lj223) (ej223 : Tj223.heap = T8.heap), own_Go p.tables e below (own_EndW s below (fun v h L => v = some (.int 1) ∧ Fr n0 L) room_1.cells room_1.slots) (Tj223.setTop (mkF m 223 #[.val (.int p1), .val (.int p2), .val (.int p3), .val (.int p4), .val (.int (1 : Int32)), .val (.int c0), .val (.int c1), .val (.int c2), .val (.ref b5), .val (.int ex)] [])) := by
        intro ex hex Tj223 Lj223 Xj223 Nj223 ej223
        refine own_go (fun _ => XS.aload Xj223.here hx rfl (hb hby at_223) rfl rfl) ?_
        show own_Go _ _ _ _ (Tj223.setTop (mkF m 225 #[.val (.int p1), .val (.int p2), .val (.int p3), .val (.int p4), .val (.int (1 : Int32)), .val (.int c0), .val (.int c1), .val (.int c2), .val (.ref b5), .val (.int ex)] [(.ref b5)]))
        obtain ⟨_, _, ⟨T9, L9, k9, n9⟩, -, X9, hS, -, ⟨Lc9, hQ9, l9, y9, z9⟩, st9⟩ := callSS Xj223 hx (y := (⟨"com/example/chartpost/chartpost/http/PathSegments", "isName", "(Ljava/lang/String;)Z"⟩ : MethodName)) hown (mvT hZ (hw _ (List.mem_of_getElem? (i := 35) rfl))) (mvT hZ (hw _ (List.mem_of_getElem? (i := 36) rfl))) (mvT hZ (hw _ (List.mem_of_getElem? (i := 37) rfl))) (mvT hZ (hw _ (List.mem_of_getElem? (i := 38) rfl))) (by decide) (own_backT (s := s) (vm0 := s.vm) (W := 0) (own_rmNL1 l Z a0 hw b5 bq8 kk8 cs (nar .byte (c0.toInt8.toInt32)) fmt T8.heap n0 Z0 Eq8 Fvq8 Fcq8 Vq8 O S_C hcs S_F hfmt ) hZ (hw _ (List.mem_of_getElem? (i := 38) rfl)) (hw _ (List.mem_of_getElem? (i := 37) rfl)) (by decide) (by decide) (own_ew hw) Hc (fun x hx => by cases List.mem_singleton.mp hx; exact ⟨Eq8.lt, SF_b5⟩)) (g := (mkF m 225 #[.val (.int p1), .val (.int p2), .val (.int p3), .val (.int p4), .val (.int (1 : Int32)), .val (.int c0), .val (.int c1), .val (.int c2), .val (.ref b5), .val (.int ex)] [(.ref b5)])) rfl (by rw [hml]; rfl) (argsL := [(.ref b5)]) (rest := []) (lenOf own_pd22 rfl) rfl (by show 2 * 0 + _ ≤ _; exact Nat.le_of_eq rfl) (hb hby at_225) (fun _ _ => ⟨rfl, ej223, (by decide : 4 + 6 ≤ _), (by decide : 14 + 340 ≤ _)⟩)
        dsimp only [Pt.U, Pt.locs, Pt.cells, Pt.slots] at X9 l9 y9 z9 st9 hQ9 hS
        replace X9 := own_cst X9 l9 y9 z9 (k2 := 10) (n2 := 354) rfl rfl
        clear l9 y9 z9
        obtain ⟨rfl, Nq9⟩ := hQ9
        have NF9 := Fr.app Nj223 Nq9
        have hown : (s.setVm T9.vm).vm.findClass "com/example/chartpost/chartpost/http/PathSegmentsIsNamePinLaw" = some m.cls := by
          show T9.vm.findClass _ = _
          rw [hS.1.alike.findClass]; exact hown
        have hZ : Z.Warmed39 (s.setVm T9.vm).vm := State.Warmed39.trans (t := s) hZ hS.1
        have hsw : T9.heap.size ≤ T9.heap.size := Nat.le_refl _
        refine own_goT st9 ?_
        show own_Go _ _ _ _ (T9.setTop (mkF m 228 #[.val (.int p1), .val (.int p2), .val (.int p3), .val (.int p4), .val (.int (1 : Int32)), .val (.int c0), .val (.int c1), .val (.int c2), .val (.ref b5), .val (.int ex)] [(.int (own_nm [(nar .byte (c0.toInt8.toInt32))] [(nar .char (own_lc (nar .byte (c0.toInt8.toInt32))))]))]))
        refine own_go (fun _ => XS.iload X9.here hx rfl (hb hby at_228) rfl) ?_
        show own_Go _ _ _ _ (T9.setTop (mkF m 230 #[.val (.int p1), .val (.int p2), .val (.int p3), .val (.int p4), .val (.int (1 : Int32)), .val (.int c0), .val (.int c1), .val (.int c2), .val (.ref b5), .val (.int ex)] [(.int ex), (.int (own_nm [(nar .byte (c0.toInt8.toInt32))] [(nar .char (own_lc (nar .byte (c0.toInt8.toInt32))))]))]))
        refine own_go (fun _ => XS.icmpNo X9.here hx rfl (hb hby at_230) rfl (teq hex).2) ?_
        show own_Go _ _ _ _ (T9.setTop (mkF m 233 #[.val (.int p1), .val (.int p2), .val (.int p3), .val (.int p4), .val (.int (1 : Int32)), .val (.int c0), .val (.int c1), .val (.int c2), .val (.ref b5), .val (.int ex)] []))
        refine own_go (fun _ => XS.iconst X9.here hx rfl (hb hby at_233)) ?_
        refine own_go (fun _ => XS.goto X9.here hx rfl (pc0 := 234) (pc' := 238) rfl (hb hby at_234) (by decide) (by decide)) ?_
        show own_Go _ _ _ _ (T9.setTop (mkF m 238 #[.val (.int p1), .val (.int p2), .val (.int p3), .val (.int p4), .val (.int (1 : Int32)), .val (.int c0), .val (.int c1), .val (.int c2), .val (.ref b5), .val (.int ex)] [(.int (1 : Int32))]))
        refine own_retW X9 hS rfl hsw hlk (v := some (.int (1 : Int32))) (fun h => by rw [Bd.returns] at h; cases h) (fun fs hr => retN X9 hx (t := .boolean) Bd.returns (by simp) (hb hby at_238) hr) ?_ (by decide) (by decide)
        skip
        exact ⟨rfl, NF9⟩
      refine own_go (fun _ => XS.astore X8.here hx rfl (hb hby at_70) rfl rfl (l' := #[.val (.int p1), .val (.int p2), .val (.int p3), .val (.int p4), .val (.int (1 : Int32)), .val (.int c0), .val (.int c1), .val (.int c2), .val (.ref b5), .unset]) rfl) ?_
      refine own_go (fun _ => XS.iload X8.here hx rfl (hb hby at_72) rfl) ?_
      show own_Go _ _ _ _ (T8.setTop (mkF m 74 #[.val (.int p1), .val (.int p2), .val (.int p3), .val (.int p4), .val (.int (1 : Int32)), .val (.int c0), .val (.int c1), .val (.int c2), .val (.ref b5), .unset] [(.int c0)]))
      obtain ⟨_, _, ⟨T10, L10, k10, n10⟩, -, X10, ⟨Lc10, hQ10, l10, y10, z10⟩, st10⟩ := Jvm.LawKit.callS X8 hx (y := (⟨"com/example/chartpost/chartpost/http/PathSegmentsIsNamePinLaw", "ok", "(C)Z"⟩ : MethodName)) hown (mvT hZ (hw _ (List.mem_of_getElem? (i := 31) rfl))) (mvT hZ (hw _ (List.mem_of_getElem? (i := 32) rfl))) (mvT hZ (hw _ (List.mem_of_getElem? (i := 33) rfl))) (mvT hZ (hw _ (List.mem_of_getElem? (i := 34) rfl))) (by decide) (own_back (W := 0) (own_rmOk l Z a0 hw c0 T8.heap n0 Z0) hZ (hw _ (List.mem_of_getElem? (i := 34) rfl)) (hw _ (List.mem_of_getElem? (i := 33) rfl)) (by decide) (by decide)) (g := (mkF m 74 #[.val (.int p1), .val (.int p2), .val (.int p3), .val (.int p4), .val (.int (1 : Int32)), .val (.int c0), .val (.int c1), .val (.int c2), .val (.ref b5), .unset] [(.int c0)])) rfl (by rw [hml]; rfl) (argsL := [(.int c0)]) (rest := []) (lenOf own_pd23 rfl) rfl (by show 2 * 0 + _ ≤ _; exact Nat.le_of_eq rfl) (hb hby at_74) (fun _ _ => ⟨rfl, rfl, (by decide : 4 + 0 ≤ _), (by decide : 14 + 0 ≤ _)⟩)
      dsimp only [Pt.U, Pt.locs, Pt.cells, Pt.slots] at X10 l10 y10 z10 st10 hQ10
      replace X10 := own_cst X10 l10 y10 z10 (k2 := 4) (n2 := 14) rfl rfl
      clear l10 y10 z10
      obtain ⟨rfl, Nq10, eq10⟩ := hQ10
      have NF10 := Fr.app NF8 Nq10
      refine own_go st10 ?_
      show own_Go _ _ _ _ (T10.setTop (mkF m 77 #[.val (.int p1), .val (.int p2), .val (.int p3), .val (.int p4), .val (.int (1 : Int32)), .val (.int c0), .val (.int c1), .val (.int c2), .val (.ref b5), .unset] [(.int (own_okc c0))]))
      by_cases hoc0 : (own_okc c0) = (0 : Int32)
      · have _h := hoc0
        refine own_go (fun _ => XS.ifYes X10.here hx rfl (pc0 := 77) (pc' := 91) rfl (hb hby at_77) rfl ((if0 _ _).trans (teq hoc0).1) (by decide) (by decide)) ?_
        show own_Go _ _ _ _ (T10.setTop (mkF m 91 #[.val (.int p1), .val (.int p2), .val (.int p3), .val (.int p4), .val (.int (1 : Int32)), .val (.int c0), .val (.int c1), .val (.int c2), .val (.ref b5), .unset] []))
        refine own_go (fun _ => XS.iconst X10.here hx rfl (hb hby at_91)) ?_
        refine own_go (fun _ => XS.istore X10.here hx rfl (hb hby at_92) rfl (l' := #[.val (.int p1), .val (.int p2), .val (.int p3), .val (.int p4), .val (.int (1 : Int32)), .val (.int c0), .val (.int c1), .val (.int c2), .val (.ref b5), .val (.int (0 : Int32))]) rfl) ?_
        refine own_go (fun _ => XS.goto X10.here hx rfl (pc0 := 94) (pc' := 223) rfl (hb hby at_94) (by decide) (by decide)) ?_
        show own_Go _ _ _ _ (T10.setTop (mkF m 223 #[.val (.int p1), .val (.int p2), .val (.int p3), .val (.int p4), .val (.int (1 : Int32)), .val (.int c0), .val (.int c1), .val (.int c2), .val (.ref b5), .val (.int (0 : Int32))] []))
        exact J223 _ (by rw [own_cL c0a c0b q0]; simp [own_nm, own_same, own_yb c0a q0, hoc0]) _ _ X10 NF10 eq10
      · have _h := hoc0
        refine own_go (fun _ => XS.ifNo X10.here hx rfl (hb hby at_77) rfl ((if0 _ _).trans (feq hoc0).1)) ?_
        show own_Go _ _ _ _ (T10.setTop (mkF m 80 #[.val (.int p1), .val (.int p2), .val (.int p3), .val (.int p4), .val (.int (1 : Int32)), .val (.int c0), .val (.int c1), .val (.int c2), .val (.ref b5), .unset] []))
        refine own_go (fun _ => XS.iload X10.here hx rfl (hb hby at_80) rfl) ?_
        refine own_go (fun _ => XS.bipush X10.here hx rfl (hb hby at_82)) ?_
        show own_Go _ _ _ _ (T10.setTop (mkF m 84 #[.val (.int p1), .val (.int p2), .val (.int p3), .val (.int p4), .val (.int (1 : Int32)), .val (.int c0), .val (.int c1), .val (.int c2), .val (.ref b5), .unset] [(.int (46 : Int32)), (.int c0)]))
        by_cases hsc0 : c0 = (46 : Int32)
        · have _h := hsc0
          refine own_go (fun _ => XS.icmpYes X10.here hx rfl (pc0 := 84) (pc' := 91) rfl (hb hby at_84) rfl (teq hsc0).1 (by decide) (by decide)) ?_
          show own_Go _ _ _ _ (T10.setTop (mkF m 91 #[.val (.int p1), .val (.int p2), .val (.int p3), .val (.int p4), .val (.int (1 : Int32)), .val (.int c0), .val (.int c1), .val (.int c2), .val (.ref b5), .unset] []))
          refine own_go (fun _ => XS.iconst X10.here hx rfl (hb hby at_91)) ?_
          refine own_go (fun _ => XS.istore X10.here hx rfl (hb hby at_92) rfl (l' := #[.val (.int p1), .val (.int p2), .val (.int p3), .val (.int p4), .val (.int (1 : Int32)), .val (.int c0), .val (.int c1), .val (.int c2), .val (.ref b5), .val (.int (0 : Int32))]) rfl) ?_
          refine own_go (fun _ => XS.goto X10.here hx rfl (pc0 := 94) (pc' := 223) rfl (hb hby at_94) (by decide) (by decide)) ?_
          show own_Go _ _ _ _ (T10.setTop (mkF m 223 #[.val (.int p1), .val (.int p2), .val (.int p3), .val (.int p4), .val (.int (1 : Int32)), .val (.int c0), .val (.int c1), .val (.int c2), .val (.ref b5), .val (.int (0 : Int32))] []))
          exact J223 _ (by rw [own_cL c0a c0b q0]; have t0 := (own_yb c0a q0).mpr hsc0; simp [own_nm, own_same, t0, hoc0]) _ _ X10 NF10 eq10
        · have _h := hsc0
          refine own_go (fun _ => XS.icmpNo X10.here hx rfl (hb hby at_84) rfl (feq hsc0).1) ?_
          show own_Go _ _ _ _ (T10.setTop (mkF m 87 #[.val (.int p1), .val (.int p2), .val (.int p3), .val (.int p4), .val (.int (1 : Int32)), .val (.int c0), .val (.int c1), .val (.int c2), .val (.ref b5), .unset] []))
          refine own_go (fun _ => XS.iconst X10.here hx rfl (hb hby at_87)) ?_
          refine own_go (fun _ => XS.goto X10.here hx rfl (pc0 := 88) (pc' := 92) rfl (hb hby at_88) (by decide) (by decide)) ?_
          refine own_go (fun _ => XS.istore X10.here hx rfl (hb hby at_92) rfl (l' := #[.val (.int p1), .val (.int p2), .val (.int p3), .val (.int p4), .val (.int (1 : Int32)), .val (.int c0), .val (.int c1), .val (.int c2), .val (.ref b5), .val (.int (1 : Int32))]) rfl) ?_
          refine own_go (fun _ => XS.goto X10.here hx rfl (pc0 := 94) (pc' := 223) rfl (hb hby at_94) (by decide) (by decide)) ?_
          show own_Go _ _ _ _ (T10.setTop (mkF m 223 #[.val (.int p1), .val (.int p2), .val (.int p3), .val (.int p4), .val (.int (1 : Int32)), .val (.int c0), .val (.int c1), .val (.int c2), .val (.ref b5), .val (.int (1 : Int32))] []))
          exact J223 _ (by rw [own_cL c0a c0b q0]; simp [own_nm, own_same, own_yb c0a q0, hoc0, hsc0]) _ _ X10 NF10 eq10
    · have _u := trivial
      obtain ⟨_, _, ⟨T11, L11, k11, n11⟩, -, X11, ⟨Lc11, hQ11, l11, y11, z11⟩, st11⟩ := X7.specialBack hx (y := (⟨"java/lang/String", "<init>", "([C)V"⟩ : MethodName)) rfl hown (mvT hZ (hw _ (List.mem_of_getElem? (i := 5) rfl))) (mvT hZ (hw _ (List.mem_of_getElem? (i := 6) rfl))) (mvT hZ (hw _ (List.mem_of_getElem? (i := 7) rfl))) (by decide) (own_back (W := 1) (own_rmIU l Z a0 hw b5 b6 k6 cs 1 2 [(.int (nar .byte ((c0 >>> ((0 : Int32) &&& 31)).toInt8.toInt32))), (.int (nar .byte ((c0 >>> ((8 : Int32) &&& 31)).toInt8.toInt32)))] _ h7 n0 Z0 A5 F_value_b5 F_coder_b5 V_b6 O S_C hcs ge_b5 (by decide) (by decide) (own_rmMU1 l Z a0 hw b6 k6 c0 h7 n0 Z0 V_b6 O S_A S_H S_L hU c0a c0b)) hZ (hw _ (List.mem_of_getElem? (i := 7) rfl)) (hw _ (List.mem_of_getElem? (i := 3) rfl)) (by decide) (by decide)) (g := (mkF m 67 #[.val (.int p1), .val (.int p2), .val (.int p3), .val (.int p4), .val (.int (1 : Int32)), .val (.int c0), .val (.int c1), .val (.int c2), .unset, .unset] [(.ref b6), (.ref b5), (.ref b5)])) rfl (by rw [hml]; rfl) (Steps.refl _) (a := b5) (argsL := [(.ref b6)]) (rest := [(.ref b5)]) (lenOf own_pd21 rfl) rfl (by show 2 * 0 + _ ≤ _; exact Nat.le_of_eq rfl) (hb hby at_67) (fun _ _ => ⟨rfl, e7, (by decide : 2 + 2 ≤ _), (by decide : 5 + 9 ≤ _)⟩)
      dsimp only [Pt.U, Pt.locs, Pt.cells, Pt.slots] at X11 l11 y11 z11 st11 hQ11
      replace X11 := own_cst X11 l11 y11 z11 (k2 := 4) (n2 := 14) rfl rfl
      clear l11 y11 z11
      obtain ⟨bq11, kk11, rfl, Nq11, Kq11, Oq11, hsq11, Eq11, Fvq11, Fcq11, Vq11⟩ := hQ11
      have NF11 := Fr.app NF7 Nq11
      refine own_goT st11 ?_
      have O := Oq11
      replace Z0 := Nat.le_trans Z0 hsq11
      have Hn := CHv.keep Kq11 (fun x hx => by cases List.mem_singleton.mp hx; exact SF_b5) Hc
      replace SF_b5 := Safe.keep Kq11 (fun x hx => by cases List.mem_singleton.mp hx; exact SF_b5) Hc SF_b5
      replace Hc := Hn
      clear Hn
      show own_Go _ _ _ _ (T11.setTop (mkF m 70 #[.val (.int p1), .val (.int p2), .val (.int p3), .val (.int p4), .val (.int (1 : Int32)), .val (.int c0), .val (.int c1), .val (.int c2), .unset, .unset] [(.ref b5)]))
      have J223 : ∀ (ex : Int32) (hex : (own_nmU [(nar .char (nar .char (own_gc (nar .byte ((c0 >>> ((0 : Int32) &&& 31)).toInt8.toInt32)) (nar .byte ((c0 >>> ((8 : Int32) &&& 31)).toInt8.toInt32)))))]) = ex) (Tj223 : State) (Lj223 : List Loc) (Xj223 : Stand p l e room_1 s m #[(.int p1), (.int p2), (.int p3), (.int p4)] below meth c Tj223 Lj223 4 14) (Nj223 : Fr n0 Lj223) (ej223 : Tj223.heap = T11.heap), own_Go p.tables e below (own_EndW s below (fun v h L => v = some (.int 1) ∧ Fr n0 L) room_1.cells room_1.slots) (Tj223.setTop (mkF m 223 #[.val (.int p1), .val (.int p2), .val (.int p3), .val (.int p4), .val (.int (1 : Int32)), .val (.int c0), .val (.int c1), .val (.int c2), .val (.ref b5), .val (.int ex)] [])) := by
        intro ex hex Tj223 Lj223 Xj223 Nj223 ej223
        refine own_go (fun _ => XS.aload Xj223.here hx rfl (hb hby at_223) rfl rfl) ?_
        show own_Go _ _ _ _ (Tj223.setTop (mkF m 225 #[.val (.int p1), .val (.int p2), .val (.int p3), .val (.int p4), .val (.int (1 : Int32)), .val (.int c0), .val (.int c1), .val (.int c2), .val (.ref b5), .val (.int ex)] [(.ref b5)]))
        obtain ⟨_, _, ⟨T12, L12, k12, n12⟩, -, X12, hS, -, ⟨Lc12, hQ12, l12, y12, z12⟩, st12⟩ := callSS Xj223 hx (y := (⟨"com/example/chartpost/chartpost/http/PathSegments", "isName", "(Ljava/lang/String;)Z"⟩ : MethodName)) hown (mvT hZ (hw _ (List.mem_of_getElem? (i := 35) rfl))) (mvT hZ (hw _ (List.mem_of_getElem? (i := 36) rfl))) (mvT hZ (hw _ (List.mem_of_getElem? (i := 37) rfl))) (mvT hZ (hw _ (List.mem_of_getElem? (i := 38) rfl))) (by decide) (own_backT (s := s) (vm0 := s.vm) (W := 0) (own_rmNU1 l Z a0 hw b5 bq11 kk11 cs (nar .byte ((c0 >>> ((0 : Int32) &&& 31)).toInt8.toInt32)) (nar .byte ((c0 >>> ((8 : Int32) &&& 31)).toInt8.toInt32)) fmt T11.heap n0 Z0 Eq11 Fvq11 Fcq11 Vq11 O S_C hcs S_F hfmt S_A S_H S_L) hZ (hw _ (List.mem_of_getElem? (i := 38) rfl)) (hw _ (List.mem_of_getElem? (i := 37) rfl)) (by decide) (by decide) (own_ew hw) Hc (fun x hx => by cases List.mem_singleton.mp hx; exact ⟨Eq11.lt, SF_b5⟩)) (g := (mkF m 225 #[.val (.int p1), .val (.int p2), .val (.int p3), .val (.int p4), .val (.int (1 : Int32)), .val (.int c0), .val (.int c1), .val (.int c2), .val (.ref b5), .val (.int ex)] [(.ref b5)])) rfl (by rw [hml]; rfl) (argsL := [(.ref b5)]) (rest := []) (lenOf own_pd22 rfl) rfl (by show 2 * 0 + _ ≤ _; exact Nat.le_of_eq rfl) (hb hby at_225) (fun _ _ => ⟨rfl, ej223, (by decide : 4 + 6 ≤ _), (by decide : 14 + 340 ≤ _)⟩)
        dsimp only [Pt.U, Pt.locs, Pt.cells, Pt.slots] at X12 l12 y12 z12 st12 hQ12 hS
        replace X12 := own_cst X12 l12 y12 z12 (k2 := 10) (n2 := 354) rfl rfl
        clear l12 y12 z12
        obtain ⟨rfl, Nq12⟩ := hQ12
        have NF12 := Fr.app Nj223 Nq12
        have hown : (s.setVm T12.vm).vm.findClass "com/example/chartpost/chartpost/http/PathSegmentsIsNamePinLaw" = some m.cls := by
          show T12.vm.findClass _ = _
          rw [hS.1.alike.findClass]; exact hown
        have hZ : Z.Warmed39 (s.setVm T12.vm).vm := State.Warmed39.trans (t := s) hZ hS.1
        have hsw : T12.heap.size ≤ T12.heap.size := Nat.le_refl _
        refine own_goT st12 ?_
        show own_Go _ _ _ _ (T12.setTop (mkF m 228 #[.val (.int p1), .val (.int p2), .val (.int p3), .val (.int p4), .val (.int (1 : Int32)), .val (.int c0), .val (.int c1), .val (.int c2), .val (.ref b5), .val (.int ex)] [(.int (own_nmU [(nar .char (nar .char (own_gc (nar .byte ((c0 >>> ((0 : Int32) &&& 31)).toInt8.toInt32)) (nar .byte ((c0 >>> ((8 : Int32) &&& 31)).toInt8.toInt32)))))]))]))
        refine own_go (fun _ => XS.iload X12.here hx rfl (hb hby at_228) rfl) ?_
        show own_Go _ _ _ _ (T12.setTop (mkF m 230 #[.val (.int p1), .val (.int p2), .val (.int p3), .val (.int p4), .val (.int (1 : Int32)), .val (.int c0), .val (.int c1), .val (.int c2), .val (.ref b5), .val (.int ex)] [(.int ex), (.int (own_nmU [(nar .char (nar .char (own_gc (nar .byte ((c0 >>> ((0 : Int32) &&& 31)).toInt8.toInt32)) (nar .byte ((c0 >>> ((8 : Int32) &&& 31)).toInt8.toInt32)))))]))]))
        refine own_go (fun _ => XS.icmpNo X12.here hx rfl (hb hby at_230) rfl (teq hex).2) ?_
        show own_Go _ _ _ _ (T12.setTop (mkF m 233 #[.val (.int p1), .val (.int p2), .val (.int p3), .val (.int p4), .val (.int (1 : Int32)), .val (.int c0), .val (.int c1), .val (.int c2), .val (.ref b5), .val (.int ex)] []))
        refine own_go (fun _ => XS.iconst X12.here hx rfl (hb hby at_233)) ?_
        refine own_go (fun _ => XS.goto X12.here hx rfl (pc0 := 234) (pc' := 238) rfl (hb hby at_234) (by decide) (by decide)) ?_
        show own_Go _ _ _ _ (T12.setTop (mkF m 238 #[.val (.int p1), .val (.int p2), .val (.int p3), .val (.int p4), .val (.int (1 : Int32)), .val (.int c0), .val (.int c1), .val (.int c2), .val (.ref b5), .val (.int ex)] [(.int (1 : Int32))]))
        refine own_retW X12 hS rfl hsw hlk (v := some (.int (1 : Int32))) (fun h => by rw [Bd.returns] at h; cases h) (fun fs hr => retN X12 hx (t := .boolean) Bd.returns (by simp) (hb hby at_238) hr) ?_ (by decide) (by decide)
        skip
        exact ⟨rfl, NF12⟩
      refine own_go (fun _ => XS.astore X11.here hx rfl (hb hby at_70) rfl rfl (l' := #[.val (.int p1), .val (.int p2), .val (.int p3), .val (.int p4), .val (.int (1 : Int32)), .val (.int c0), .val (.int c1), .val (.int c2), .val (.ref b5), .unset]) rfl) ?_
      refine own_go (fun _ => XS.iload X11.here hx rfl (hb hby at_72) rfl) ?_
      show own_Go _ _ _ _ (T11.setTop (mkF m 74 #[.val (.int p1), .val (.int p2), .val (.int p3), .val (.int p4), .val (.int (1 : Int32)), .val (.int c0), .val (.int c1), .val (.int c2), .val (.ref b5), .unset] [(.int c0)]))
      obtain ⟨_, _, ⟨T13, L13, k13, n13⟩, -, X13, ⟨Lc13, hQ13, l13, y13, z13⟩, st13⟩ := Jvm.LawKit.callS X11 hx (y := (⟨"com/example/chartpost/chartpost/http/PathSegmentsIsNamePinLaw", "ok", "(C)Z"⟩ : MethodName)) hown (mvT hZ (hw _ (List.mem_of_getElem? (i := 31) rfl))) (mvT hZ (hw _ (List.mem_of_getElem? (i := 32) rfl))) (mvT hZ (hw _ (List.mem_of_getElem? (i := 33) rfl))) (mvT hZ (hw _ (List.mem_of_getElem? (i := 34) rfl))) (by decide) (own_back (W := 0) (own_rmOk l Z a0 hw c0 T11.heap n0 Z0) hZ (hw _ (List.mem_of_getElem? (i := 34) rfl)) (hw _ (List.mem_of_getElem? (i := 33) rfl)) (by decide) (by decide)) (g := (mkF m 74 #[.val (.int p1), .val (.int p2), .val (.int p3), .val (.int p4), .val (.int (1 : Int32)), .val (.int c0), .val (.int c1), .val (.int c2), .val (.ref b5), .unset] [(.int c0)])) rfl (by rw [hml]; rfl) (argsL := [(.int c0)]) (rest := []) (lenOf own_pd23 rfl) rfl (by show 2 * 0 + _ ≤ _; exact Nat.le_of_eq rfl) (hb hby at_74) (fun _ _ => ⟨rfl, rfl, (by decide : 4 + 0 ≤ _), (by decide : 14 + 0 ≤ _)⟩)
      dsimp only [Pt.U, Pt.locs, Pt.cells, Pt.slots] at X13 l13 y13 z13 st13 hQ13
      replace X13 := own_cst X13 l13 y13 z13 (k2 := 4) (n2 := 14) rfl rfl
      clear l13 y13 z13
      obtain ⟨rfl, Nq13, eq13⟩ := hQ13
      have NF13 := Fr.app NF11 Nq13
      refine own_go st13 ?_
      show own_Go _ _ _ _ (T13.setTop (mkF m 77 #[.val (.int p1), .val (.int p2), .val (.int p3), .val (.int p4), .val (.int (1 : Int32)), .val (.int c0), .val (.int c1), .val (.int c2), .val (.ref b5), .unset] [(.int (own_okc c0))]))
      by_cases hoc0 : (own_okc c0) = (0 : Int32)
      · have _h := hoc0
        refine own_go (fun _ => XS.ifYes X13.here hx rfl (pc0 := 77) (pc' := 91) rfl (hb hby at_77) rfl ((if0 _ _).trans (teq hoc0).1) (by decide) (by decide)) ?_
        show own_Go _ _ _ _ (T13.setTop (mkF m 91 #[.val (.int p1), .val (.int p2), .val (.int p3), .val (.int p4), .val (.int (1 : Int32)), .val (.int c0), .val (.int c1), .val (.int c2), .val (.ref b5), .unset] []))
        refine own_go (fun _ => XS.iconst X13.here hx rfl (hb hby at_91)) ?_
        refine own_go (fun _ => XS.istore X13.here hx rfl (hb hby at_92) rfl (l' := #[.val (.int p1), .val (.int p2), .val (.int p3), .val (.int p4), .val (.int (1 : Int32)), .val (.int c0), .val (.int c1), .val (.int c2), .val (.ref b5), .val (.int (0 : Int32))]) rfl) ?_
        refine own_go (fun _ => XS.goto X13.here hx rfl (pc0 := 94) (pc' := 223) rfl (hb hby at_94) (by decide) (by decide)) ?_
        show own_Go _ _ _ _ (T13.setTop (mkF m 223 #[.val (.int p1), .val (.int p2), .val (.int p3), .val (.int p4), .val (.int (1 : Int32)), .val (.int c0), .val (.int c1), .val (.int c2), .val (.ref b5), .val (.int (0 : Int32))] []))
        exact J223 _ (by rw [own_cU c0a c0b]; simp [own_nmU, hoc0]) _ _ X13 NF13 eq13
      · have _h := hoc0
        refine own_go (fun _ => XS.ifNo X13.here hx rfl (hb hby at_77) rfl ((if0 _ _).trans (feq hoc0).1)) ?_
        show own_Go _ _ _ _ (T13.setTop (mkF m 80 #[.val (.int p1), .val (.int p2), .val (.int p3), .val (.int p4), .val (.int (1 : Int32)), .val (.int c0), .val (.int c1), .val (.int c2), .val (.ref b5), .unset] []))
        refine own_go (fun _ => XS.iload X13.here hx rfl (hb hby at_80) rfl) ?_
        refine own_go (fun _ => XS.bipush X13.here hx rfl (hb hby at_82)) ?_
        show own_Go _ _ _ _ (T13.setTop (mkF m 84 #[.val (.int p1), .val (.int p2), .val (.int p3), .val (.int p4), .val (.int (1 : Int32)), .val (.int c0), .val (.int c1), .val (.int c2), .val (.ref b5), .unset] [(.int (46 : Int32)), (.int c0)]))
        by_cases hsc0 : c0 = (46 : Int32)
        · have _h := hsc0
          refine own_go (fun _ => XS.icmpYes X13.here hx rfl (pc0 := 84) (pc' := 91) rfl (hb hby at_84) rfl (teq hsc0).1 (by decide) (by decide)) ?_
          show own_Go _ _ _ _ (T13.setTop (mkF m 91 #[.val (.int p1), .val (.int p2), .val (.int p3), .val (.int p4), .val (.int (1 : Int32)), .val (.int c0), .val (.int c1), .val (.int c2), .val (.ref b5), .unset] []))
          refine own_go (fun _ => XS.iconst X13.here hx rfl (hb hby at_91)) ?_
          refine own_go (fun _ => XS.istore X13.here hx rfl (hb hby at_92) rfl (l' := #[.val (.int p1), .val (.int p2), .val (.int p3), .val (.int p4), .val (.int (1 : Int32)), .val (.int c0), .val (.int c1), .val (.int c2), .val (.ref b5), .val (.int (0 : Int32))]) rfl) ?_
          refine own_go (fun _ => XS.goto X13.here hx rfl (pc0 := 94) (pc' := 223) rfl (hb hby at_94) (by decide) (by decide)) ?_
          show own_Go _ _ _ _ (T13.setTop (mkF m 223 #[.val (.int p1), .val (.int p2), .val (.int p3), .val (.int p4), .val (.int (1 : Int32)), .val (.int c0), .val (.int c1), .val (.int c2), .val (.ref b5), .val (.int (0 : Int32))] []))
          exact J223 _ (absurd (by rw [hsc0]; decide) hU) _ _ X13 NF13 eq13
        · have _h := hsc0
          refine own_go (fun _ => XS.icmpNo X13.here hx rfl (hb hby at_84) rfl (feq hsc0).1) ?_
          show own_Go _ _ _ _ (T13.setTop (mkF m 87 #[.val (.int p1), .val (.int p2), .val (.int p3), .val (.int p4), .val (.int (1 : Int32)), .val (.int c0), .val (.int c1), .val (.int c2), .val (.ref b5), .unset] []))
          refine own_go (fun _ => XS.iconst X13.here hx rfl (hb hby at_87)) ?_
          refine own_go (fun _ => XS.goto X13.here hx rfl (pc0 := 88) (pc' := 92) rfl (hb hby at_88) (by decide) (by decide)) ?_
          refine own_go (fun _ => XS.istore X13.here hx rfl (hb hby at_92) rfl (l' := #[.val (.int p1), .val (.int p2), .val (.int p3), .val (.int p4), .val (.int (1 : Int32)), .val (.int c0), .val (.int c1), .val (.int c2), .val (.ref b5), .val (.int (1 : Int32))]) rfl) ?_
          refine own_go (fun _ => XS.goto X13.here hx rfl (pc0 := 94) (pc' := 223) rfl (hb hby at_94) (by decide) (by decide)) ?_
          show own_Go _ _ _ _ (T13.setTop (mkF m 223 #[.val (.int p1), .val (.int p2), .val (.int p3), .val (.int p4), .val (.int (1 : Int32)), .val (.int c0), .val (.int c1), .val (.int c2), .val (.ref b5), .val (.int (1 : Int32))] []))
          exact J223 _ (by rw [own_cU c0a c0b]; simp [own_nmU, hoc0]) _ _ X13 NF13 eq13
  · have _u := trivial
    show own_Go _ _ _ _ (s₁.setTop (mkF m 28 #[.val (.int p1), .val (.int p2), .val (.int p3), .val (.int p4), .val (.int (2 : Int32)), .val (.int c0), .val (.int c1), .val (.int c2), .unset, .unset] [(.int (2 : Int32))]))
    refine own_go (fun _ => XS.ifYes X0.here hx rfl (pc0 := 28) (pc' := 49) rfl (hb hby at_28) rfl ((if0 _ _).trans (feq (by decide)).2) (by decide) (by decide)) ?_
    show own_Go _ _ _ _ (s₁.setTop (mkF m 49 #[.val (.int p1), .val (.int p2), .val (.int p3), .val (.int p4), .val (.int (2 : Int32)), .val (.int c0), .val (.int c1), .val (.int c2), .unset, .unset] []))
    refine own_go (fun _ => XS.iload X0.here hx rfl (hb hby at_49) rfl) ?_
    refine own_go (fun _ => XS.iconst X0.here hx rfl (hb hby at_51)) ?_
    show own_Go _ _ _ _ (s₁.setTop (mkF m 52 #[.val (.int p1), .val (.int p2), .val (.int p3), .val (.int p4), .val (.int (2 : Int32)), .val (.int c0), .val (.int c1), .val (.int c2), .unset, .unset] [(.int (1 : Int32)), (.int (2 : Int32))]))
    refine own_go (fun _ => XS.icmpYes X0.here hx rfl (pc0 := 52) (pc' := 97) rfl (hb hby at_52) rfl (feq (by decide)).2 (by decide) (by decide)) ?_
    show own_Go _ _ _ _ (s₁.setTop (mkF m 97 #[.val (.int p1), .val (.int p2), .val (.int p3), .val (.int p4), .val (.int (2 : Int32)), .val (.int c0), .val (.int c1), .val (.int c2), .unset, .unset] []))
    refine own_go (fun _ => XS.iload X0.here hx rfl (hb hby at_97) rfl) ?_
    refine own_go (fun _ => XS.iconst X0.here hx rfl (hb hby at_99)) ?_
    show own_Go _ _ _ _ (s₁.setTop (mkF m 100 #[.val (.int p1), .val (.int p2), .val (.int p3), .val (.int p4), .val (.int (2 : Int32)), .val (.int c0), .val (.int c1), .val (.int c2), .unset, .unset] [(.int (2 : Int32)), (.int (2 : Int32))]))
    refine own_go (fun _ => XS.icmpNo X0.here hx rfl (hb hby at_100) rfl (teq rfl).2) ?_
    show own_Go _ _ _ _ (s₁.setTop (mkF m 103 #[.val (.int p1), .val (.int p2), .val (.int p3), .val (.int p4), .val (.int (2 : Int32)), .val (.int c0), .val (.int c1), .val (.int c2), .unset, .unset] []))
    obtain ⟨T14, h14, X14, e14, E14, A14, D14, -, st14⟩ := newO X0 hx hZ hown (hw _ (List.mem_of_getElem? (i := 1) rfl)) (hw _ (List.mem_of_getElem? (i := 2) rfl)) (hw _ (List.mem_of_getElem? (i := 3) rfl)) e0 (g := (mkF m 103 #[.val (.int p1), .val (.int p2), .val (.int p3), .val (.int p4), .val (.int (2 : Int32)), .val (.int c0), .val (.int c1), .val (.int c2), .unset, .unset] [])) rfl (hb hby at_103) (by decide) (by decide)
    obtain ⟨b14, g14⟩ : ∃ z, z = h0.size := ⟨_, rfl⟩
    rw [← g14] at A14 D14 st14
    refine own_go st14 ?_
    have ge_b14 : n0 ≤ b14 := Nat.le_trans Z0 (Nat.le_of_eq g14.symm)
    replace O := O.ext E14
    replace Z0 := Nat.le_trans Z0 E14.1
    have SF_b14 : Safe Z consts_1 s.vm h14 b14 := Safe.ext E14 Hc (Safe.new (Nat.le_of_eq g14.symm))
    replace Hc := CHv.ext E14 Hc
    have F_coder_b14 : Fld Z h14 b14 "java/lang/String" "coder" "B" (.int (0 : Int32)) := D14 (Or.inr (hw _ (List.mem_of_getElem? (i := 28) rfl))) (ty := .byte) (by decide)
    have F_value_b14 : Fld Z h14 b14 "java/lang/String" "value" "[B" .null := D14 (Or.inr (hw _ (List.mem_of_getElem? (i := 30) rfl))) (ty := (.array .byte)) (by decide)
    refine own_go (fun _ => XS.dup X14.here hx rfl (hb hby at_106) rfl rfl) ?_
    refine own_go (fun _ => XS.iconst X14.here hx rfl (hb hby at_107)) ?_
    obtain ⟨T15, h15, k15, X15, e15, E15, A15, st15⟩ := newP X14 hx hZ (hw _ (List.mem_of_getElem? (i := 4) rfl)) e14 (g := (mkF m 108 #[.val (.int p1), .val (.int p2), .val (.int p3), .val (.int p4), .val (.int (2 : Int32)), .val (.int c0), .val (.int c1), .val (.int c2), .unset, .unset] [(.int (2 : Int32)), (.ref b14), (.ref b14)])) rfl (hb hby at_108) rfl (by decide) (cap := 2) (by decide) (by decide) (by decide) (by decide)
    obtain ⟨b15, g15⟩ : ∃ z, z = h14.size := ⟨_, rfl⟩
    rw [← g15] at A15 st15
    refine own_go st15 ?_
    have ge_b15 : n0 ≤ b15 := Nat.le_trans Z0 (Nat.le_of_eq g15.symm)
    have ne_b14_b15 : b14 ≠ b15 := Nat.ne_of_lt (Nat.lt_of_lt_of_le A14.lt (Nat.le_of_eq g15.symm))
    replace O := O.ext E15
    replace A14 := A14.ext E15
    replace F_coder_b14 := F_coder_b14.ext E15
    replace F_value_b14 := F_value_b14.ext E15
    replace Z0 := Nat.le_trans Z0 E15.1
    replace SF_b14 := Safe.ext E15 Hc SF_b14
    have SF_b15 : Safe Z consts_1 s.vm h15 b15 := Safe.ext E15 Hc (Safe.new (Nat.le_of_eq g15.symm))
    replace Hc := CHv.ext E15 Hc
    have V_b15 : Arv Z h15 b15 k15 .char (2 : Int32) [(.int (0 : Int32)), (.int (0 : Int32))] (.int (0 : Int32)) := (Arv.new A15 (by decide)).pad (pad_rep [] (.int (0 : Int32)) 2)
    refine own_go (fun _ => XS.dup X15.here hx rfl (hb hby at_110) rfl rfl) ?_
    show own_Go _ _ _ _ (T15.setTop (mkF m 111 #[.val (.int p1), .val (.int p2), .val (.int p3), .val (.int p4), .val (.int (2 : Int32)), .val (.int c0), .val (.int c1), .val (.int c2), .unset, .unset] [(.ref b15), (.ref b15), (.ref b14), (.ref b14)]))
    refine own_go (fun _ => XS.iconst X15.here hx rfl (hb hby at_111)) ?_
    refine own_go (fun _ => XS.iload X15.here hx rfl (hb hby at_112) rfl) ?_
    obtain ⟨cl16, Ar16, q16, Sz16, Ng16, Hs16, Gs16⟩ := V_b15
    have hin16 : ¬ ((0 : Int32) < 0 ∨ cl16.slots.size ≤ ((0 : Int32)).toNatClampNeg) := inb_of Sz16 ⟨by decide, by decide⟩
    obtain ⟨T16, h16, X16, e16, W16, st16⟩ := stC X15 hx hZ e15 Ar16 (j := (0 : Int32)) hin16 (g := (mkF m 114 #[.val (.int p1), .val (.int p2), .val (.int p3), .val (.int p4), .val (.int (2 : Int32)), .val (.int c0), .val (.int c1), .val (.int c2), .unset, .unset] [(.int c0), (.int (0 : Int32)), (.ref b15), (.ref b15), (.ref b14), (.ref b14)])) rfl rfl (hb hby at_114)
    refine own_go st16 ?_
    have NF16 := Fr.snoc X16 N0 ge_b15
    replace V_b15 : Arv Z h16 b15 k15 .char (2 : Int32) [(.int (nar .char c0)), (.int (0 : Int32))] (.int (0 : Int32)) := Arv.set Ar16 q16 Sz16 Ng16 Hs16 Gs16 (fits_nar_char _) W16 0 rfl (Nat.le_of_ble_eq_true rfl)
    replace O := O.wr W16 ge_b15
    replace A14 := A14.wr W16
    replace F_coder_b14 := F_coder_b14.other W16 (Or.inl ne_b14_b15)
    replace F_value_b14 := F_value_b14.other W16 (Or.inl ne_b14_b15)
    replace Z0 := Nat.le_trans Z0 (Keep.of_wr W16).1
    replace SF_b14 := Safe.wr W16 SF_b15 Hc SF_b14
    have Hn := CHv.wr W16 SF_b15 Hc
    replace SF_b15 := Safe.wr W16 SF_b15 Hc SF_b15
    replace Hc := Hn
    clear Hn
    refine own_go (fun _ => XS.dup X16.here hx rfl (hb hby at_115) rfl rfl) ?_
    refine own_go (fun _ => XS.iconst X16.here hx rfl (hb hby at_116)) ?_
    show own_Go _ _ _ _ (T16.setTop (mkF m 117 #[.val (.int p1), .val (.int p2), .val (.int p3), .val (.int p4), .val (.int (2 : Int32)), .val (.int c0), .val (.int c1), .val (.int c2), .unset, .unset] [(.int (1 : Int32)), (.ref b15), (.ref b15), (.ref b14), (.ref b14)]))
    refine own_go (fun _ => XS.iload X16.here hx rfl (hb hby at_117) rfl) ?_
    obtain ⟨cl17, Ar17, q17, Sz17, Ng17, Hs17, Gs17⟩ := V_b15
    have hin17 : ¬ ((1 : Int32) < 0 ∨ cl17.slots.size ≤ ((1 : Int32)).toNatClampNeg) := inb_of Sz17 ⟨by decide, by decide⟩
    obtain ⟨T17, h17, X17, e17, W17, st17⟩ := stC X16 hx hZ e16 Ar17 (j := (1 : Int32)) hin17 (g := (mkF m 119 #[.val (.int p1), .val (.int p2), .val (.int p3), .val (.int p4), .val (.int (2 : Int32)), .val (.int c0), .val (.int c1), .val (.int c2), .unset, .unset] [(.int c1), (.int (1 : Int32)), (.ref b15), (.ref b15), (.ref b14), (.ref b14)])) rfl rfl (hb hby at_119)
    refine own_go st17 ?_
    have NF17 := Fr.snoc X17 NF16 ge_b15
    replace V_b15 : Arv Z h17 b15 k15 .char (2 : Int32) [(.int (nar .char c0)), (.int (nar .char c1))] (.int (0 : Int32)) := Arv.set Ar17 q17 Sz17 Ng17 Hs17 Gs17 (fits_nar_char _) W17 1 rfl (Nat.le_of_ble_eq_true rfl)
    replace O := O.wr W17 ge_b15
    replace A14 := A14.wr W17
    replace F_coder_b14 := F_coder_b14.other W17 (Or.inl ne_b14_b15)
    replace F_value_b14 := F_value_b14.other W17 (Or.inl ne_b14_b15)
    replace Z0 := Nat.le_trans Z0 (Keep.of_wr W17).1
    replace SF_b14 := Safe.wr W17 SF_b15 Hc SF_b14
    have Hn := CHv.wr W17 SF_b15 Hc
    replace SF_b15 := Safe.wr W17 SF_b15 Hc SF_b15
    replace Hc := Hn
    clear Hn
    show own_Go _ _ _ _ (T17.setTop (mkF m 120 #[.val (.int p1), .val (.int p2), .val (.int p3), .val (.int p4), .val (.int (2 : Int32)), .val (.int c0), .val (.int c1), .val (.int c2), .unset, .unset] [(.ref b15), (.ref b14), (.ref b14)]))
    rw [own_ncc c0a c0b, own_ncc c1a c1b] at V_b15
    by_cases hU : ¬ (255 : Int32) < c0 ∧ ¬ (255 : Int32) < c1
    · have _u := trivial
      obtain ⟨_, _, ⟨T18, L18, k18, n18⟩, -, X18, ⟨Lc18, hQ18, l18, y18, z18⟩, st18⟩ := X17.specialBack hx (y := (⟨"java/lang/String", "<init>", "([C)V"⟩ : MethodName)) rfl hown (mvT hZ (hw _ (List.mem_of_getElem? (i := 5) rfl))) (mvT hZ (hw _ (List.mem_of_getElem? (i := 6) rfl))) (mvT hZ (hw _ (List.mem_of_getElem? (i := 7) rfl))) (by decide) (own_back (W := 1) (own_rmIL l Z a0 hw b14 b15 k15 cs 2 2 [(.int (nar .byte (c0.toInt8.toInt32))), (.int (nar .byte (c1.toInt8.toInt32)))] _ h17 n0 Z0 A14 F_value_b14 F_coder_b14 V_b15 O S_C hcs ge_b14 (by decide) (by decide) (own_rmML2 l Z a0 hw b15 k15 c0 c1 h17 n0 Z0 V_b15 O hU)) hZ (hw _ (List.mem_of_getElem? (i := 7) rfl)) (hw _ (List.mem_of_getElem? (i := 3) rfl)) (by decide) (by decide)) (g := (mkF m 120 #[.val (.int p1), .val (.int p2), .val (.int p3), .val (.int p4), .val (.int (2 : Int32)), .val (.int c0), .val (.int c1), .val (.int c2), .unset, .unset] [(.ref b15), (.ref b14), (.ref b14)])) rfl (by rw [hml]; rfl) (Steps.refl _) (a := b14) (argsL := [(.ref b15)]) (rest := [(.ref b14)]) (lenOf own_pd21 rfl) rfl (by show 2 * 0 + _ ≤ _; exact Nat.le_of_eq rfl) (hb hby at_120) (fun _ _ => ⟨rfl, e17, (by decide : 2 + 2 ≤ _), (by decide : 6 + 9 ≤ _)⟩)
      dsimp only [Pt.U, Pt.locs, Pt.cells, Pt.slots] at X18 l18 y18 z18 st18 hQ18
      replace X18 := own_cst X18 l18 y18 z18 (k2 := 4) (n2 := 15) rfl rfl
      clear l18 y18 z18
      obtain ⟨bq18, kk18, rfl, Nq18, Kq18, Oq18, hsq18, Eq18, Fvq18, Fcq18, Vq18⟩ := hQ18
      have NF18 := Fr.app NF17 Nq18
      refine own_goT st18 ?_
      have O := Oq18
      replace Z0 := Nat.le_trans Z0 hsq18
      have Hn := CHv.keep Kq18 (fun x hx => by cases List.mem_singleton.mp hx; exact SF_b14) Hc
      replace SF_b14 := Safe.keep Kq18 (fun x hx => by cases List.mem_singleton.mp hx; exact SF_b14) Hc SF_b14
      replace Hc := Hn
      clear Hn
      show own_Go _ _ _ _ (T18.setTop (mkF m 123 #[.val (.int p1), .val (.int p2), .val (.int p3), .val (.int p4), .val (.int (2 : Int32)), .val (.int c0), .val (.int c1), .val (.int c2), .unset, .unset] [(.ref b14)]))
      obtain ⟨q0, q1⟩ := hU
      have J223 : ∀ (ex : Int32) (hex : (own_nm [(nar .byte (c0.toInt8.toInt32)), (nar .byte (c1.toInt8.toInt32))] [(nar .char (own_lc (nar .byte (c0.toInt8.toInt32)))), (nar .char (own_lc (nar .byte (c1.toInt8.toInt32))))]) = ex) (Tj223 : State) (Lj223 : List Loc) (Xj223 : Stand p l e room_1 s m #[(.int p1), (.int p2), (.int p3), (.int p4)] below meth c Tj223 Lj223 4 15) (Nj223 : Fr n0 Lj223) (ej223 : Tj223.heap = T18.heap), own_Go p.tables e below (own_EndW s below (fun v h L => v = some (.int 1) ∧ Fr n0 L) room_1.cells room_1.slots) (Tj223.setTop (mkF m 223 #[.val (.int p1), .val (.int p2), .val (.int p3), .val (.int p4), .val (.int (2 : Int32)), .val (.int c0), .val (.int c1), .val (.int c2), .val (.ref b14), .val (.int ex)] [])) := by
        intro ex hex Tj223 Lj223 Xj223 Nj223 ej223
        refine own_go (fun _ => XS.aload Xj223.here hx rfl (hb hby at_223) rfl rfl) ?_
        show own_Go _ _ _ _ (Tj223.setTop (mkF m 225 #[.val (.int p1), .val (.int p2), .val (.int p3), .val (.int p4), .val (.int (2 : Int32)), .val (.int c0), .val (.int c1), .val (.int c2), .val (.ref b14), .val (.int ex)] [(.ref b14)]))
        obtain ⟨_, _, ⟨T19, L19, k19, n19⟩, -, X19, hS, -, ⟨Lc19, hQ19, l19, y19, z19⟩, st19⟩ := callSS Xj223 hx (y := (⟨"com/example/chartpost/chartpost/http/PathSegments", "isName", "(Ljava/lang/String;)Z"⟩ : MethodName)) hown (mvT hZ (hw _ (List.mem_of_getElem? (i := 35) rfl))) (mvT hZ (hw _ (List.mem_of_getElem? (i := 36) rfl))) (mvT hZ (hw _ (List.mem_of_getElem? (i := 37) rfl))) (mvT hZ (hw _ (List.mem_of_getElem? (i := 38) rfl))) (by decide) (own_backT (s := s) (vm0 := s.vm) (W := 0) (own_rmNL2 l Z a0 hw b14 bq18 kk18 cs (nar .byte (c0.toInt8.toInt32)) (nar .byte (c1.toInt8.toInt32)) fmt T18.heap n0 Z0 Eq18 Fvq18 Fcq18 Vq18 O S_C hcs S_F hfmt ) hZ (hw _ (List.mem_of_getElem? (i := 38) rfl)) (hw _ (List.mem_of_getElem? (i := 37) rfl)) (by decide) (by decide) (own_ew hw) Hc (fun x hx => by cases List.mem_singleton.mp hx; exact ⟨Eq18.lt, SF_b14⟩)) (g := (mkF m 225 #[.val (.int p1), .val (.int p2), .val (.int p3), .val (.int p4), .val (.int (2 : Int32)), .val (.int c0), .val (.int c1), .val (.int c2), .val (.ref b14), .val (.int ex)] [(.ref b14)])) rfl (by rw [hml]; rfl) (argsL := [(.ref b14)]) (rest := []) (lenOf own_pd22 rfl) rfl (by show 2 * 0 + _ ≤ _; exact Nat.le_of_eq rfl) (hb hby at_225) (fun _ _ => ⟨rfl, ej223, (by decide : 4 + 6 ≤ _), (by decide : 15 + 340 ≤ _)⟩)
        dsimp only [Pt.U, Pt.locs, Pt.cells, Pt.slots] at X19 l19 y19 z19 st19 hQ19 hS
        replace X19 := own_cst X19 l19 y19 z19 (k2 := 10) (n2 := 355) rfl rfl
        clear l19 y19 z19
        obtain ⟨rfl, Nq19⟩ := hQ19
        have NF19 := Fr.app Nj223 Nq19
        have hown : (s.setVm T19.vm).vm.findClass "com/example/chartpost/chartpost/http/PathSegmentsIsNamePinLaw" = some m.cls := by
          show T19.vm.findClass _ = _
          rw [hS.1.alike.findClass]; exact hown
        have hZ : Z.Warmed39 (s.setVm T19.vm).vm := State.Warmed39.trans (t := s) hZ hS.1
        have hsw : T19.heap.size ≤ T19.heap.size := Nat.le_refl _
        refine own_goT st19 ?_
        show own_Go _ _ _ _ (T19.setTop (mkF m 228 #[.val (.int p1), .val (.int p2), .val (.int p3), .val (.int p4), .val (.int (2 : Int32)), .val (.int c0), .val (.int c1), .val (.int c2), .val (.ref b14), .val (.int ex)] [(.int (own_nm [(nar .byte (c0.toInt8.toInt32)), (nar .byte (c1.toInt8.toInt32))] [(nar .char (own_lc (nar .byte (c0.toInt8.toInt32)))), (nar .char (own_lc (nar .byte (c1.toInt8.toInt32))))]))]))
        refine own_go (fun _ => XS.iload X19.here hx rfl (hb hby at_228) rfl) ?_
        show own_Go _ _ _ _ (T19.setTop (mkF m 230 #[.val (.int p1), .val (.int p2), .val (.int p3), .val (.int p4), .val (.int (2 : Int32)), .val (.int c0), .val (.int c1), .val (.int c2), .val (.ref b14), .val (.int ex)] [(.int ex), (.int (own_nm [(nar .byte (c0.toInt8.toInt32)), (nar .byte (c1.toInt8.toInt32))] [(nar .char (own_lc (nar .byte (c0.toInt8.toInt32)))), (nar .char (own_lc (nar .byte (c1.toInt8.toInt32))))]))]))
        refine own_go (fun _ => XS.icmpNo X19.here hx rfl (hb hby at_230) rfl (teq hex).2) ?_
        show own_Go _ _ _ _ (T19.setTop (mkF m 233 #[.val (.int p1), .val (.int p2), .val (.int p3), .val (.int p4), .val (.int (2 : Int32)), .val (.int c0), .val (.int c1), .val (.int c2), .val (.ref b14), .val (.int ex)] []))
        refine own_go (fun _ => XS.iconst X19.here hx rfl (hb hby at_233)) ?_
        refine own_go (fun _ => XS.goto X19.here hx rfl (pc0 := 234) (pc' := 238) rfl (hb hby at_234) (by decide) (by decide)) ?_
        show own_Go _ _ _ _ (T19.setTop (mkF m 238 #[.val (.int p1), .val (.int p2), .val (.int p3), .val (.int p4), .val (.int (2 : Int32)), .val (.int c0), .val (.int c1), .val (.int c2), .val (.ref b14), .val (.int ex)] [(.int (1 : Int32))]))
        refine own_retW X19 hS rfl hsw hlk (v := some (.int (1 : Int32))) (fun h => by rw [Bd.returns] at h; cases h) (fun fs hr => retN X19 hx (t := .boolean) Bd.returns (by simp) (hb hby at_238) hr) ?_ (by decide) (by decide)
        skip
        exact ⟨rfl, NF19⟩
      refine own_go (fun _ => XS.astore X18.here hx rfl (hb hby at_123) rfl rfl (l' := #[.val (.int p1), .val (.int p2), .val (.int p3), .val (.int p4), .val (.int (2 : Int32)), .val (.int c0), .val (.int c1), .val (.int c2), .val (.ref b14), .unset]) rfl) ?_
      refine own_go (fun _ => XS.iload X18.here hx rfl (hb hby at_125) rfl) ?_
      show own_Go _ _ _ _ (T18.setTop (mkF m 127 #[.val (.int p1), .val (.int p2), .val (.int p3), .val (.int p4), .val (.int (2 : Int32)), .val (.int c0), .val (.int c1), .val (.int c2), .val (.ref b14), .unset] [(.int c0)]))
      obtain ⟨_, _, ⟨T20, L20, k20, n20⟩, -, X20, ⟨Lc20, hQ20, l20, y20, z20⟩, st20⟩ := Jvm.LawKit.callS X18 hx (y := (⟨"com/example/chartpost/chartpost/http/PathSegmentsIsNamePinLaw", "ok", "(C)Z"⟩ : MethodName)) hown (mvT hZ (hw _ (List.mem_of_getElem? (i := 31) rfl))) (mvT hZ (hw _ (List.mem_of_getElem? (i := 32) rfl))) (mvT hZ (hw _ (List.mem_of_getElem? (i := 33) rfl))) (mvT hZ (hw _ (List.mem_of_getElem? (i := 34) rfl))) (by decide) (own_back (W := 0) (own_rmOk l Z a0 hw c0 T18.heap n0 Z0) hZ (hw _ (List.mem_of_getElem? (i := 34) rfl)) (hw _ (List.mem_of_getElem? (i := 33) rfl)) (by decide) (by decide)) (g := (mkF m 127 #[.val (.int p1), .val (.int p2), .val (.int p3), .val (.int p4), .val (.int (2 : Int32)), .val (.int c0), .val (.int c1), .val (.int c2), .val (.ref b14), .unset] [(.int c0)])) rfl (by rw [hml]; rfl) (argsL := [(.int c0)]) (rest := []) (lenOf own_pd23 rfl) rfl (by show 2 * 0 + _ ≤ _; exact Nat.le_of_eq rfl) (hb hby at_127) (fun _ _ => ⟨rfl, rfl, (by decide : 4 + 0 ≤ _), (by decide : 15 + 0 ≤ _)⟩)
      dsimp only [Pt.U, Pt.locs, Pt.cells, Pt.slots] at X20 l20 y20 z20 st20 hQ20
      replace X20 := own_cst X20 l20 y20 z20 (k2 := 4) (n2 := 15) rfl rfl
      clear l20 y20 z20
      obtain ⟨rfl, Nq20, eq20⟩ := hQ20
      have NF20 := Fr.app NF18 Nq20
      refine own_go st20 ?_
      show own_Go _ _ _ _ (T20.setTop (mkF m 130 #[.val (.int p1), .val (.int p2), .val (.int p3), .val (.int p4), .val (.int (2 : Int32)), .val (.int c0), .val (.int c1), .val (.int c2), .val (.ref b14), .unset] [(.int (own_okc c0))]))
      by_cases hoc0 : (own_okc c0) = (0 : Int32)
      · have _h := hoc0
        refine own_go (fun _ => XS.ifYes X20.here hx rfl (pc0 := 130) (pc' := 159) rfl (hb hby at_130) rfl ((if0 _ _).trans (teq hoc0).1) (by decide) (by decide)) ?_
        show own_Go _ _ _ _ (T20.setTop (mkF m 159 #[.val (.int p1), .val (.int p2), .val (.int p3), .val (.int p4), .val (.int (2 : Int32)), .val (.int c0), .val (.int c1), .val (.int c2), .val (.ref b14), .unset] []))
        refine own_go (fun _ => XS.iconst X20.here hx rfl (hb hby at_159)) ?_
        refine own_go (fun _ => XS.istore X20.here hx rfl (hb hby at_160) rfl (l' := #[.val (.int p1), .val (.int p2), .val (.int p3), .val (.int p4), .val (.int (2 : Int32)), .val (.int c0), .val (.int c1), .val (.int c2), .val (.ref b14), .val (.int (0 : Int32))]) rfl) ?_
        refine own_go (fun _ => XS.goto X20.here hx rfl (pc0 := 162) (pc' := 223) rfl (hb hby at_162) (by decide) (by decide)) ?_
        show own_Go _ _ _ _ (T20.setTop (mkF m 223 #[.val (.int p1), .val (.int p2), .val (.int p3), .val (.int p4), .val (.int (2 : Int32)), .val (.int c0), .val (.int c1), .val (.int c2), .val (.ref b14), .val (.int (0 : Int32))] []))
        exact J223 _ (by rw [own_cL c0a c0b q0, own_cL c1a c1b q1]; simp [own_nm, own_same, own_yb c0a q0, own_yb c1a q1, hoc0]) _ _ X20 NF20 eq20
      · have _h := hoc0
        refine own_go (fun _ => XS.ifNo X20.here hx rfl (hb hby at_130) rfl ((if0 _ _).trans (feq hoc0).1)) ?_
        show own_Go _ _ _ _ (T20.setTop (mkF m 133 #[.val (.int p1), .val (.int p2), .val (.int p3), .val (.int p4), .val (.int (2 : Int32)), .val (.int c0), .val (.int c1), .val (.int c2), .val (.ref b14), .unset] []))
        refine own_go (fun _ => XS.iload X20.here hx rfl (hb hby at_133) rfl) ?_
        show own_Go _ _ _ _ (T20.setTop (mkF m 135 #[.val (.int p1), .val (.int p2), .val (.int p3), .val (.int p4), .val (.int (2 : Int32)), .val (.int c0), .val (.int c1), .val (.int c2), .val (.ref b14), .unset] [(.int c1)]))
        obtain ⟨_, _, ⟨T21, L21, k21, n21⟩, -, X21, ⟨Lc21, hQ21, l21, y21, z21⟩, st21⟩ := Jvm.LawKit.callS X20 hx (y := (⟨"com/example/chartpost/chartpost/http/PathSegmentsIsNamePinLaw", "ok", "(C)Z"⟩ : MethodName)) hown (mvT hZ (hw _ (List.mem_of_getElem? (i := 31) rfl))) (mvT hZ (hw _ (List.mem_of_getElem? (i := 32) rfl))) (mvT hZ (hw _ (List.mem_of_getElem? (i := 33) rfl))) (mvT hZ (hw _ (List.mem_of_getElem? (i := 34) rfl))) (by decide) (own_back (W := 0) (own_rmOk l Z a0 hw c1 T18.heap n0 Z0) hZ (hw _ (List.mem_of_getElem? (i := 34) rfl)) (hw _ (List.mem_of_getElem? (i := 33) rfl)) (by decide) (by decide)) (g := (mkF m 135 #[.val (.int p1), .val (.int p2), .val (.int p3), .val (.int p4), .val (.int (2 : Int32)), .val (.int c0), .val (.int c1), .val (.int c2), .val (.ref b14), .unset] [(.int c1)])) rfl (by rw [hml]; rfl) (argsL := [(.int c1)]) (rest := []) (lenOf own_pd23 rfl) rfl (by show 2 * 0 + _ ≤ _; exact Nat.le_of_eq rfl) (hb hby at_135) (fun _ _ => ⟨rfl, eq20, (by decide : 4 + 0 ≤ _), (by decide : 15 + 0 ≤ _)⟩)
        dsimp only [Pt.U, Pt.locs, Pt.cells, Pt.slots] at X21 l21 y21 z21 st21 hQ21
        replace X21 := own_cst X21 l21 y21 z21 (k2 := 4) (n2 := 15) rfl rfl
        clear l21 y21 z21
        obtain ⟨rfl, Nq21, eq21⟩ := hQ21
        have NF21 := Fr.app NF20 Nq21
        refine own_go st21 ?_
        show own_Go _ _ _ _ (T21.setTop (mkF m 138 #[.val (.int p1), .val (.int p2), .val (.int p3), .val (.int p4), .val (.int (2 : Int32)), .val (.int c0), .val (.int c1), .val (.int c2), .val (.ref b14), .unset] [(.int (own_okc c1))]))
        by_cases hoc1 : (own_okc c1) = (0 : Int32)
        · have _h := hoc1
          refine own_go (fun _ => XS.ifYes X21.here hx rfl (pc0 := 138) (pc' := 159) rfl (hb hby at_138) rfl ((if0 _ _).trans (teq hoc1).1) (by decide) (by decide)) ?_
          show own_Go _ _ _ _ (T21.setTop (mkF m 159 #[.val (.int p1), .val (.int p2), .val (.int p3), .val (.int p4), .val (.int (2 : Int32)), .val (.int c0), .val (.int c1), .val (.int c2), .val (.ref b14), .unset] []))
          refine own_go (fun _ => XS.iconst X21.here hx rfl (hb hby at_159)) ?_
          refine own_go (fun _ => XS.istore X21.here hx rfl (hb hby at_160) rfl (l' := #[.val (.int p1), .val (.int p2), .val (.int p3), .val (.int p4), .val (.int (2 : Int32)), .val (.int c0), .val (.int c1), .val (.int c2), .val (.ref b14), .val (.int (0 : Int32))]) rfl) ?_
          refine own_go (fun _ => XS.goto X21.here hx rfl (pc0 := 162) (pc' := 223) rfl (hb hby at_162) (by decide) (by decide)) ?_
          show own_Go _ _ _ _ (T21.setTop (mkF m 223 #[.val (.int p1), .val (.int p2), .val (.int p3), .val (.int p4), .val (.int (2 : Int32)), .val (.int c0), .val (.int c1), .val (.int c2), .val (.ref b14), .val (.int (0 : Int32))] []))
          exact J223 _ (by rw [own_cL c0a c0b q0, own_cL c1a c1b q1]; simp [own_nm, own_same, own_yb c0a q0, own_yb c1a q1, hoc0, hoc1]) _ _ X21 NF21 eq21
        · have _h := hoc1
          refine own_go (fun _ => XS.ifNo X21.here hx rfl (hb hby at_138) rfl ((if0 _ _).trans (feq hoc1).1)) ?_
          show own_Go _ _ _ _ (T21.setTop (mkF m 141 #[.val (.int p1), .val (.int p2), .val (.int p3), .val (.int p4), .val (.int (2 : Int32)), .val (.int c0), .val (.int c1), .val (.int c2), .val (.ref b14), .unset] []))
          refine own_go (fun _ => XS.iload X21.here hx rfl (hb hby at_141) rfl) ?_
          refine own_go (fun _ => XS.bipush X21.here hx rfl (hb hby at_143)) ?_
          show own_Go _ _ _ _ (T21.setTop (mkF m 145 #[.val (.int p1), .val (.int p2), .val (.int p3), .val (.int p4), .val (.int (2 : Int32)), .val (.int c0), .val (.int c1), .val (.int c2), .val (.ref b14), .unset] [(.int (46 : Int32)), (.int c0)]))
          by_cases hsc0 : c0 = (46 : Int32)
          · have _h := hsc0
            refine own_go (fun _ => XS.icmpNo X21.here hx rfl (hb hby at_145) rfl (teq hsc0).2) ?_
            show own_Go _ _ _ _ (T21.setTop (mkF m 148 #[.val (.int p1), .val (.int p2), .val (.int p3), .val (.int p4), .val (.int (2 : Int32)), .val (.int c0), .val (.int c1), .val (.int c2), .val (.ref b14), .unset] []))
            refine own_go (fun _ => XS.iload X21.here hx rfl (hb hby at_148) rfl) ?_
            refine own_go (fun _ => XS.bipush X21.here hx rfl (hb hby at_150)) ?_
            show own_Go _ _ _ _ (T21.setTop (mkF m 152 #[.val (.int p1), .val (.int p2), .val (.int p3), .val (.int p4), .val (.int (2 : Int32)), .val (.int c0), .val (.int c1), .val (.int c2), .val (.ref b14), .unset] [(.int (46 : Int32)), (.int c1)]))
            by_cases hsc1 : c1 = (46 : Int32)
            · have _h := hsc1
              refine own_go (fun _ => XS.icmpYes X21.here hx rfl (pc0 := 152) (pc' := 159) rfl (hb hby at_152) rfl (teq hsc1).1 (by decide) (by decide)) ?_
              show own_Go _ _ _ _ (T21.setTop (mkF m 159 #[.val (.int p1), .val (.int p2), .val (.int p3), .val (.int p4), .val (.int (2 : Int32)), .val (.int c0), .val (.int c1), .val (.int c2), .val (.ref b14), .unset] []))
              refine own_go (fun _ => XS.iconst X21.here hx rfl (hb hby at_159)) ?_
              refine own_go (fun _ => XS.istore X21.here hx rfl (hb hby at_160) rfl (l' := #[.val (.int p1), .val (.int p2), .val (.int p3), .val (.int p4), .val (.int (2 : Int32)), .val (.int c0), .val (.int c1), .val (.int c2), .val (.ref b14), .val (.int (0 : Int32))]) rfl) ?_
              refine own_go (fun _ => XS.goto X21.here hx rfl (pc0 := 162) (pc' := 223) rfl (hb hby at_162) (by decide) (by decide)) ?_
              show own_Go _ _ _ _ (T21.setTop (mkF m 223 #[.val (.int p1), .val (.int p2), .val (.int p3), .val (.int p4), .val (.int (2 : Int32)), .val (.int c0), .val (.int c1), .val (.int c2), .val (.ref b14), .val (.int (0 : Int32))] []))
              exact J223 _ (by rw [own_cL c0a c0b q0, own_cL c1a c1b q1]; have t0 := (own_yb c0a q0).mpr hsc0; have t1 := (own_yb c1a q1).mpr hsc1; simp [own_nm, own_same, t0, t1, hoc0, hoc1]) _ _ X21 NF21 eq21
            · have _h := hsc1
              refine own_go (fun _ => XS.icmpNo X21.here hx rfl (hb hby at_152) rfl (feq hsc1).1) ?_
              show own_Go _ _ _ _ (T21.setTop (mkF m 155 #[.val (.int p1), .val (.int p2), .val (.int p3), .val (.int p4), .val (.int (2 : Int32)), .val (.int c0), .val (.int c1), .val (.int c2), .val (.ref b14), .unset] []))
              refine own_go (fun _ => XS.iconst X21.here hx rfl (hb hby at_155)) ?_
              refine own_go (fun _ => XS.goto X21.here hx rfl (pc0 := 156) (pc' := 160) rfl (hb hby at_156) (by decide) (by decide)) ?_
              refine own_go (fun _ => XS.istore X21.here hx rfl (hb hby at_160) rfl (l' := #[.val (.int p1), .val (.int p2), .val (.int p3), .val (.int p4), .val (.int (2 : Int32)), .val (.int c0), .val (.int c1), .val (.int c2), .val (.ref b14), .val (.int (1 : Int32))]) rfl) ?_
              refine own_go (fun _ => XS.goto X21.here hx rfl (pc0 := 162) (pc' := 223) rfl (hb hby at_162) (by decide) (by decide)) ?_
              show own_Go _ _ _ _ (T21.setTop (mkF m 223 #[.val (.int p1), .val (.int p2), .val (.int p3), .val (.int p4), .val (.int (2 : Int32)), .val (.int c0), .val (.int c1), .val (.int c2), .val (.ref b14), .val (.int (1 : Int32))] []))
              exact J223 _ (by rw [own_cL c0a c0b q0, own_cL c1a c1b q1]; have t0 := (own_yb c0a q0).mpr hsc0; simp [own_nm, own_same, own_yb c1a q1, t0, hoc0, hoc1, hsc1]) _ _ X21 NF21 eq21
          · have _h := hsc0
            refine own_go (fun _ => XS.icmpYes X21.here hx rfl (pc0 := 145) (pc' := 155) rfl (hb hby at_145) rfl (feq hsc0).2 (by decide) (by decide)) ?_
            show own_Go _ _ _ _ (T21.setTop (mkF m 155 #[.val (.int p1), .val (.int p2), .val (.int p3), .val (.int p4), .val (.int (2 : Int32)), .val (.int c0), .val (.int c1), .val (.int c2), .val (.ref b14), .unset] []))
            refine own_go (fun _ => XS.iconst X21.here hx rfl (hb hby at_155)) ?_
            refine own_go (fun _ => XS.goto X21.here hx rfl (pc0 := 156) (pc' := 160) rfl (hb hby at_156) (by decide) (by decide)) ?_
            refine own_go (fun _ => XS.istore X21.here hx rfl (hb hby at_160) rfl (l' := #[.val (.int p1), .val (.int p2), .val (.int p3), .val (.int p4), .val (.int (2 : Int32)), .val (.int c0), .val (.int c1), .val (.int c2), .val (.ref b14), .val (.int (1 : Int32))]) rfl) ?_
            refine own_go (fun _ => XS.goto X21.here hx rfl (pc0 := 162) (pc' := 223) rfl (hb hby at_162) (by decide) (by decide)) ?_
            show own_Go _ _ _ _ (T21.setTop (mkF m 223 #[.val (.int p1), .val (.int p2), .val (.int p3), .val (.int p4), .val (.int (2 : Int32)), .val (.int c0), .val (.int c1), .val (.int c2), .val (.ref b14), .val (.int (1 : Int32))] []))
            exact J223 _ (by rw [own_cL c0a c0b q0, own_cL c1a c1b q1]; simp [own_nm, own_same, own_yb c0a q0, own_yb c1a q1, hoc0, hoc1, hsc0]) _ _ X21 NF21 eq21
    · have _u := trivial
      obtain ⟨_, _, ⟨T22, L22, k22, n22⟩, -, X22, ⟨Lc22, hQ22, l22, y22, z22⟩, st22⟩ := X17.specialBack hx (y := (⟨"java/lang/String", "<init>", "([C)V"⟩ : MethodName)) rfl hown (mvT hZ (hw _ (List.mem_of_getElem? (i := 5) rfl))) (mvT hZ (hw _ (List.mem_of_getElem? (i := 6) rfl))) (mvT hZ (hw _ (List.mem_of_getElem? (i := 7) rfl))) (by decide) (own_back (W := 1) (own_rmIU l Z a0 hw b14 b15 k15 cs 2 4 [(.int (nar .byte ((c0 >>> ((0 : Int32) &&& 31)).toInt8.toInt32))), (.int (nar .byte ((c0 >>> ((8 : Int32) &&& 31)).toInt8.toInt32))), (.int (nar .byte ((c1 >>> ((0 : Int32) &&& 31)).toInt8.toInt32))), (.int (nar .byte ((c1 >>> ((8 : Int32) &&& 31)).toInt8.toInt32)))] _ h17 n0 Z0 A14 F_value_b14 F_coder_b14 V_b15 O S_C hcs ge_b14 (by decide) (by decide) (own_rmMU2 l Z a0 hw b15 k15 c0 c1 h17 n0 Z0 V_b15 O S_A S_H S_L hU c0a c0b c1a c1b)) hZ (hw _ (List.mem_of_getElem? (i := 7) rfl)) (hw _ (List.mem_of_getElem? (i := 3) rfl)) (by decide) (by decide)) (g := (mkF m 120 #[.val (.int p1), .val (.int p2), .val (.int p3), .val (.int p4), .val (.int (2 : Int32)), .val (.int c0), .val (.int c1), .val (.int c2), .unset, .unset] [(.ref b15), (.ref b14), (.ref b14)])) rfl (by rw [hml]; rfl) (Steps.refl _) (a := b14) (argsL := [(.ref b15)]) (rest := [(.ref b14)]) (lenOf own_pd21 rfl) rfl (by show 2 * 0 + _ ≤ _; exact Nat.le_of_eq rfl) (hb hby at_120) (fun _ _ => ⟨rfl, e17, (by decide : 2 + 2 ≤ _), (by decide : 6 + 9 ≤ _)⟩)
      dsimp only [Pt.U, Pt.locs, Pt.cells, Pt.slots] at X22 l22 y22 z22 st22 hQ22
      replace X22 := own_cst X22 l22 y22 z22 (k2 := 4) (n2 := 15) rfl rfl
      clear l22 y22 z22
      obtain ⟨bq22, kk22, rfl, Nq22, Kq22, Oq22, hsq22, Eq22, Fvq22, Fcq22, Vq22⟩ := hQ22
      have NF22 := Fr.app NF17 Nq22
      refine own_goT st22 ?_
      have O := Oq22
      replace Z0 := Nat.le_trans Z0 hsq22
      have Hn := CHv.keep Kq22 (fun x hx => by cases List.mem_singleton.mp hx; exact SF_b14) Hc
      replace SF_b14 := Safe.keep Kq22 (fun x hx => by cases List.mem_singleton.mp hx; exact SF_b14) Hc SF_b14
      replace Hc := Hn
      clear Hn
      show own_Go _ _ _ _ (T22.setTop (mkF m 123 #[.val (.int p1), .val (.int p2), .val (.int p3), .val (.int p4), .val (.int (2 : Int32)), .val (.int c0), .val (.int c1), .val (.int c2), .unset, .unset] [(.ref b14)]))
      have J223 : ∀ (ex : Int32) (hex : (own_nmU [(nar .char (nar .char (own_gc (nar .byte ((c0 >>> ((0 : Int32) &&& 31)).toInt8.toInt32)) (nar .byte ((c0 >>> ((8 : Int32) &&& 31)).toInt8.toInt32))))), (nar .char (nar .char (own_gc (nar .byte ((c1 >>> ((0 : Int32) &&& 31)).toInt8.toInt32)) (nar .byte ((c1 >>> ((8 : Int32) &&& 31)).toInt8.toInt32)))))]) = ex) (Tj223 : State) (Lj223 : List Loc) (Xj223 : Stand p l e room_1 s m #[(.int p1), (.int p2), (.int p3), (.int p4)] below meth c Tj223 Lj223 4 15) (Nj223 : Fr n0 Lj223) (ej223 : Tj223.heap = T22.heap), own_Go p.tables e below (own_EndW s below (fun v h L => v = some (.int 1) ∧ Fr n0 L) room_1.cells room_1.slots) (Tj223.setTop (mkF m 223 #[.val (.int p1), .val (.int p2), .val (.int p3), .val (.int p4), .val (.int (2 : Int32)), .val (.int c0), .val (.int c1), .val (.int c2), .val (.ref b14), .val (.int ex)] [])) := by
        intro ex hex Tj223 Lj223 Xj223 Nj223 ej223
        refine own_go (fun _ => XS.aload Xj223.here hx rfl (hb hby at_223) rfl rfl) ?_
        show own_Go _ _ _ _ (Tj223.setTop (mkF m 225 #[.val (.int p1), .val (.int p2), .val (.int p3), .val (.int p4), .val (.int (2 : Int32)), .val (.int c0), .val (.int c1), .val (.int c2), .val (.ref b14), .val (.int ex)] [(.ref b14)]))
        obtain ⟨_, _, ⟨T23, L23, k23, n23⟩, -, X23, hS, -, ⟨Lc23, hQ23, l23, y23, z23⟩, st23⟩ := callSS Xj223 hx (y := (⟨"com/example/chartpost/chartpost/http/PathSegments", "isName", "(Ljava/lang/String;)Z"⟩ : MethodName)) hown (mvT hZ (hw _ (List.mem_of_getElem? (i := 35) rfl))) (mvT hZ (hw _ (List.mem_of_getElem? (i := 36) rfl))) (mvT hZ (hw _ (List.mem_of_getElem? (i := 37) rfl))) (mvT hZ (hw _ (List.mem_of_getElem? (i := 38) rfl))) (by decide) (own_backT (s := s) (vm0 := s.vm) (W := 0) (own_rmNU2 l Z a0 hw b14 bq22 kk22 cs (nar .byte ((c0 >>> ((0 : Int32) &&& 31)).toInt8.toInt32)) (nar .byte ((c0 >>> ((8 : Int32) &&& 31)).toInt8.toInt32)) (nar .byte ((c1 >>> ((0 : Int32) &&& 31)).toInt8.toInt32)) (nar .byte ((c1 >>> ((8 : Int32) &&& 31)).toInt8.toInt32)) fmt T22.heap n0 Z0 Eq22 Fvq22 Fcq22 Vq22 O S_C hcs S_F hfmt S_A S_H S_L) hZ (hw _ (List.mem_of_getElem? (i := 38) rfl)) (hw _ (List.mem_of_getElem? (i := 37) rfl)) (by decide) (by decide) (own_ew hw) Hc (fun x hx => by cases List.mem_singleton.mp hx; exact ⟨Eq22.lt, SF_b14⟩)) (g := (mkF m 225 #[.val (.int p1), .val (.int p2), .val (.int p3), .val (.int p4), .val (.int (2 : Int32)), .val (.int c0), .val (.int c1), .val (.int c2), .val (.ref b14), .val (.int ex)] [(.ref b14)])) rfl (by rw [hml]; rfl) (argsL := [(.ref b14)]) (rest := []) (lenOf own_pd22 rfl) rfl (by show 2 * 0 + _ ≤ _; exact Nat.le_of_eq rfl) (hb hby at_225) (fun _ _ => ⟨rfl, ej223, (by decide : 4 + 6 ≤ _), (by decide : 15 + 340 ≤ _)⟩)
        dsimp only [Pt.U, Pt.locs, Pt.cells, Pt.slots] at X23 l23 y23 z23 st23 hQ23 hS
        replace X23 := own_cst X23 l23 y23 z23 (k2 := 10) (n2 := 355) rfl rfl
        clear l23 y23 z23
        obtain ⟨rfl, Nq23⟩ := hQ23
        have NF23 := Fr.app Nj223 Nq23
        have hown : (s.setVm T23.vm).vm.findClass "com/example/chartpost/chartpost/http/PathSegmentsIsNamePinLaw" = some m.cls := by
          show T23.vm.findClass _ = _
          rw [hS.1.alike.findClass]; exact hown
        have hZ : Z.Warmed39 (s.setVm T23.vm).vm := State.Warmed39.trans (t := s) hZ hS.1
        have hsw : T23.heap.size ≤ T23.heap.size := Nat.le_refl _
        refine own_goT st23 ?_
        show own_Go _ _ _ _ (T23.setTop (mkF m 228 #[.val (.int p1), .val (.int p2), .val (.int p3), .val (.int p4), .val (.int (2 : Int32)), .val (.int c0), .val (.int c1), .val (.int c2), .val (.ref b14), .val (.int ex)] [(.int (own_nmU [(nar .char (nar .char (own_gc (nar .byte ((c0 >>> ((0 : Int32) &&& 31)).toInt8.toInt32)) (nar .byte ((c0 >>> ((8 : Int32) &&& 31)).toInt8.toInt32))))), (nar .char (nar .char (own_gc (nar .byte ((c1 >>> ((0 : Int32) &&& 31)).toInt8.toInt32)) (nar .byte ((c1 >>> ((8 : Int32) &&& 31)).toInt8.toInt32)))))]))]))
        refine own_go (fun _ => XS.iload X23.here hx rfl (hb hby at_228) rfl) ?_
        show own_Go _ _ _ _ (T23.setTop (mkF m 230 #[.val (.int p1), .val (.int p2), .val (.int p3), .val (.int p4), .val (.int (2 : Int32)), .val (.int c0), .val (.int c1), .val (.int c2), .val (.ref b14), .val (.int ex)] [(.int ex), (.int (own_nmU [(nar .char (nar .char (own_gc (nar .byte ((c0 >>> ((0 : Int32) &&& 31)).toInt8.toInt32)) (nar .byte ((c0 >>> ((8 : Int32) &&& 31)).toInt8.toInt32))))), (nar .char (nar .char (own_gc (nar .byte ((c1 >>> ((0 : Int32) &&& 31)).toInt8.toInt32)) (nar .byte ((c1 >>> ((8 : Int32) &&& 31)).toInt8.toInt32)))))]))]))
        refine own_go (fun _ => XS.icmpNo X23.here hx rfl (hb hby at_230) rfl (teq hex).2) ?_
        show own_Go _ _ _ _ (T23.setTop (mkF m 233 #[.val (.int p1), .val (.int p2), .val (.int p3), .val (.int p4), .val (.int (2 : Int32)), .val (.int c0), .val (.int c1), .val (.int c2), .val (.ref b14), .val (.int ex)] []))
        refine own_go (fun _ => XS.iconst X23.here hx rfl (hb hby at_233)) ?_
        refine own_go (fun _ => XS.goto X23.here hx rfl (pc0 := 234) (pc' := 238) rfl (hb hby at_234) (by decide) (by decide)) ?_
        show own_Go _ _ _ _ (T23.setTop (mkF m 238 #[.val (.int p1), .val (.int p2), .val (.int p3), .val (.int p4), .val (.int (2 : Int32)), .val (.int c0), .val (.int c1), .val (.int c2), .val (.ref b14), .val (.int ex)] [(.int (1 : Int32))]))
        refine own_retW X23 hS rfl hsw hlk (v := some (.int (1 : Int32))) (fun h => by rw [Bd.returns] at h; cases h) (fun fs hr => retN X23 hx (t := .boolean) Bd.returns (by simp) (hb hby at_238) hr) ?_ (by decide) (by decide)
        skip
        exact ⟨rfl, NF23⟩
      refine own_go (fun _ => XS.astore X22.here hx rfl (hb hby at_123) rfl rfl (l' := #[.val (.int p1), .val (.int p2), .val (.int p3), .val (.int p4), .val (.int (2 : Int32)), .val (.int c0), .val (.int c1), .val (.int c2), .val (.ref b14), .unset]) rfl) ?_
      refine own_go (fun _ => XS.iload X22.here hx rfl (hb hby at_125) rfl) ?_
      show own_Go _ _ _ _ (T22.setTop (mkF m 127 #[.val (.int p1), .val (.int p2), .val (.int p3), .val (.int p4), .val (.int (2 : Int32)), .val (.int c0), .val (.int c1), .val (.int c2), .val (.ref b14), .unset] [(.int c0)]))
      obtain ⟨_, _, ⟨T24, L24, k24, n24⟩, -, X24, ⟨Lc24, hQ24, l24, y24, z24⟩, st24⟩ := Jvm.LawKit.callS X22 hx (y := (⟨"com/example/chartpost/chartpost/http/PathSegmentsIsNamePinLaw", "ok", "(C)Z"⟩ : MethodName)) hown (mvT hZ (hw _ (List.mem_of_getElem? (i := 31) rfl))) (mvT hZ (hw _ (List.mem_of_getElem? (i := 32) rfl))) (mvT hZ (hw _ (List.mem_of_getElem? (i := 33) rfl))) (mvT hZ (hw _ (List.mem_of_getElem? (i := 34) rfl))) (by decide) (own_back (W := 0) (own_rmOk l Z a0 hw c0 T22.heap n0 Z0) hZ (hw _ (List.mem_of_getElem? (i := 34) rfl)) (hw _ (List.mem_of_getElem? (i := 33) rfl)) (by decide) (by decide)) (g := (mkF m 127 #[.val (.int p1), .val (.int p2), .val (.int p3), .val (.int p4), .val (.int (2 : Int32)), .val (.int c0), .val (.int c1), .val (.int c2), .val (.ref b14), .unset] [(.int c0)])) rfl (by rw [hml]; rfl) (argsL := [(.int c0)]) (rest := []) (lenOf own_pd23 rfl) rfl (by show 2 * 0 + _ ≤ _; exact Nat.le_of_eq rfl) (hb hby at_127) (fun _ _ => ⟨rfl, rfl, (by decide : 4 + 0 ≤ _), (by decide : 15 + 0 ≤ _)⟩)
      dsimp only [Pt.U, Pt.locs, Pt.cells, Pt.slots] at X24 l24 y24 z24 st24 hQ24
      replace X24 := own_cst X24 l24 y24 z24 (k2 := 4) (n2 := 15) rfl rfl
      clear l24 y24 z24
      obtain ⟨rfl, Nq24, eq24⟩ := hQ24
      have NF24 := Fr.app NF22 Nq24
      refine own_go st24 ?_
      show own_Go _ _ _ _ (T24.setTop (mkF m 130 #[.val (.int p1), .val (.int p2), .val (.int p3), .val (.int p4), .val (.int (2 : Int32)), .val (.int c0), .val (.int c1), .val (.int c2), .val (.ref b14), .unset] [(.int (own_okc c0))]))
      by_cases hoc0 : (own_okc c0) = (0 : Int32)
      · have _h := hoc0
        refine own_go (fun _ => XS.ifYes X24.here hx rfl (pc0 := 130) (pc' := 159) rfl (hb hby at_130) rfl ((if0 _ _).trans (teq hoc0).1) (by decide) (by decide)) ?_
        show own_Go _ _ _ _ (T24.setTop (mkF m 159 #[.val (.int p1), .val (.int p2), .val (.int p3), .val (.int p4), .val (.int (2 : Int32)), .val (.int c0), .val (.int c1), .val (.int c2), .val (.ref b14), .unset] []))
        refine own_go (fun _ => XS.iconst X24.here hx rfl (hb hby at_159)) ?_
        refine own_go (fun _ => XS.istore X24.here hx rfl (hb hby at_160) rfl (l' := #[.val (.int p1), .val (.int p2), .val (.int p3), .val (.int p4), .val (.int (2 : Int32)), .val (.int c0), .val (.int c1), .val (.int c2), .val (.ref b14), .val (.int (0 : Int32))]) rfl) ?_
        refine own_go (fun _ => XS.goto X24.here hx rfl (pc0 := 162) (pc' := 223) rfl (hb hby at_162) (by decide) (by decide)) ?_
        show own_Go _ _ _ _ (T24.setTop (mkF m 223 #[.val (.int p1), .val (.int p2), .val (.int p3), .val (.int p4), .val (.int (2 : Int32)), .val (.int c0), .val (.int c1), .val (.int c2), .val (.ref b14), .val (.int (0 : Int32))] []))
        exact J223 _ (by rw [own_cU c0a c0b, own_cU c1a c1b]; simp [own_nmU, hoc0]) _ _ X24 NF24 eq24
      · have _h := hoc0
        refine own_go (fun _ => XS.ifNo X24.here hx rfl (hb hby at_130) rfl ((if0 _ _).trans (feq hoc0).1)) ?_
        show own_Go _ _ _ _ (T24.setTop (mkF m 133 #[.val (.int p1), .val (.int p2), .val (.int p3), .val (.int p4), .val (.int (2 : Int32)), .val (.int c0), .val (.int c1), .val (.int c2), .val (.ref b14), .unset] []))
        refine own_go (fun _ => XS.iload X24.here hx rfl (hb hby at_133) rfl) ?_
        show own_Go _ _ _ _ (T24.setTop (mkF m 135 #[.val (.int p1), .val (.int p2), .val (.int p3), .val (.int p4), .val (.int (2 : Int32)), .val (.int c0), .val (.int c1), .val (.int c2), .val (.ref b14), .unset] [(.int c1)]))
        obtain ⟨_, _, ⟨T25, L25, k25, n25⟩, -, X25, ⟨Lc25, hQ25, l25, y25, z25⟩, st25⟩ := Jvm.LawKit.callS X24 hx (y := (⟨"com/example/chartpost/chartpost/http/PathSegmentsIsNamePinLaw", "ok", "(C)Z"⟩ : MethodName)) hown (mvT hZ (hw _ (List.mem_of_getElem? (i := 31) rfl))) (mvT hZ (hw _ (List.mem_of_getElem? (i := 32) rfl))) (mvT hZ (hw _ (List.mem_of_getElem? (i := 33) rfl))) (mvT hZ (hw _ (List.mem_of_getElem? (i := 34) rfl))) (by decide) (own_back (W := 0) (own_rmOk l Z a0 hw c1 T22.heap n0 Z0) hZ (hw _ (List.mem_of_getElem? (i := 34) rfl)) (hw _ (List.mem_of_getElem? (i := 33) rfl)) (by decide) (by decide)) (g := (mkF m 135 #[.val (.int p1), .val (.int p2), .val (.int p3), .val (.int p4), .val (.int (2 : Int32)), .val (.int c0), .val (.int c1), .val (.int c2), .val (.ref b14), .unset] [(.int c1)])) rfl (by rw [hml]; rfl) (argsL := [(.int c1)]) (rest := []) (lenOf own_pd23 rfl) rfl (by show 2 * 0 + _ ≤ _; exact Nat.le_of_eq rfl) (hb hby at_135) (fun _ _ => ⟨rfl, eq24, (by decide : 4 + 0 ≤ _), (by decide : 15 + 0 ≤ _)⟩)
        dsimp only [Pt.U, Pt.locs, Pt.cells, Pt.slots] at X25 l25 y25 z25 st25 hQ25
        replace X25 := own_cst X25 l25 y25 z25 (k2 := 4) (n2 := 15) rfl rfl
        clear l25 y25 z25
        obtain ⟨rfl, Nq25, eq25⟩ := hQ25
        have NF25 := Fr.app NF24 Nq25
        refine own_go st25 ?_
        show own_Go _ _ _ _ (T25.setTop (mkF m 138 #[.val (.int p1), .val (.int p2), .val (.int p3), .val (.int p4), .val (.int (2 : Int32)), .val (.int c0), .val (.int c1), .val (.int c2), .val (.ref b14), .unset] [(.int (own_okc c1))]))
        by_cases hoc1 : (own_okc c1) = (0 : Int32)
        · have _h := hoc1
          refine own_go (fun _ => XS.ifYes X25.here hx rfl (pc0 := 138) (pc' := 159) rfl (hb hby at_138) rfl ((if0 _ _).trans (teq hoc1).1) (by decide) (by decide)) ?_
          show own_Go _ _ _ _ (T25.setTop (mkF m 159 #[.val (.int p1), .val (.int p2), .val (.int p3), .val (.int p4), .val (.int (2 : Int32)), .val (.int c0), .val (.int c1), .val (.int c2), .val (.ref b14), .unset] []))
          refine own_go (fun _ => XS.iconst X25.here hx rfl (hb hby at_159)) ?_
          refine own_go (fun _ => XS.istore X25.here hx rfl (hb hby at_160) rfl (l' := #[.val (.int p1), .val (.int p2), .val (.int p3), .val (.int p4), .val (.int (2 : Int32)), .val (.int c0), .val (.int c1), .val (.int c2), .val (.ref b14), .val (.int (0 : Int32))]) rfl) ?_
          refine own_go (fun _ => XS.goto X25.here hx rfl (pc0 := 162) (pc' := 223) rfl (hb hby at_162) (by decide) (by decide)) ?_
          show own_Go _ _ _ _ (T25.setTop (mkF m 223 #[.val (.int p1), .val (.int p2), .val (.int p3), .val (.int p4), .val (.int (2 : Int32)), .val (.int c0), .val (.int c1), .val (.int c2), .val (.ref b14), .val (.int (0 : Int32))] []))
          exact J223 _ (by rw [own_cU c0a c0b, own_cU c1a c1b]; simp [own_nmU, hoc0, hoc1]) _ _ X25 NF25 eq25
        · have _h := hoc1
          refine own_go (fun _ => XS.ifNo X25.here hx rfl (hb hby at_138) rfl ((if0 _ _).trans (feq hoc1).1)) ?_
          show own_Go _ _ _ _ (T25.setTop (mkF m 141 #[.val (.int p1), .val (.int p2), .val (.int p3), .val (.int p4), .val (.int (2 : Int32)), .val (.int c0), .val (.int c1), .val (.int c2), .val (.ref b14), .unset] []))
          refine own_go (fun _ => XS.iload X25.here hx rfl (hb hby at_141) rfl) ?_
          refine own_go (fun _ => XS.bipush X25.here hx rfl (hb hby at_143)) ?_
          show own_Go _ _ _ _ (T25.setTop (mkF m 145 #[.val (.int p1), .val (.int p2), .val (.int p3), .val (.int p4), .val (.int (2 : Int32)), .val (.int c0), .val (.int c1), .val (.int c2), .val (.ref b14), .unset] [(.int (46 : Int32)), (.int c0)]))
          by_cases hsc0 : c0 = (46 : Int32)
          · have _h := hsc0
            refine own_go (fun _ => XS.icmpNo X25.here hx rfl (hb hby at_145) rfl (teq hsc0).2) ?_
            show own_Go _ _ _ _ (T25.setTop (mkF m 148 #[.val (.int p1), .val (.int p2), .val (.int p3), .val (.int p4), .val (.int (2 : Int32)), .val (.int c0), .val (.int c1), .val (.int c2), .val (.ref b14), .unset] []))
            refine own_go (fun _ => XS.iload X25.here hx rfl (hb hby at_148) rfl) ?_
            refine own_go (fun _ => XS.bipush X25.here hx rfl (hb hby at_150)) ?_
            show own_Go _ _ _ _ (T25.setTop (mkF m 152 #[.val (.int p1), .val (.int p2), .val (.int p3), .val (.int p4), .val (.int (2 : Int32)), .val (.int c0), .val (.int c1), .val (.int c2), .val (.ref b14), .unset] [(.int (46 : Int32)), (.int c1)]))
            by_cases hsc1 : c1 = (46 : Int32)
            · have _h := hsc1
              refine own_go (fun _ => XS.icmpYes X25.here hx rfl (pc0 := 152) (pc' := 159) rfl (hb hby at_152) rfl (teq hsc1).1 (by decide) (by decide)) ?_
              show own_Go _ _ _ _ (T25.setTop (mkF m 159 #[.val (.int p1), .val (.int p2), .val (.int p3), .val (.int p4), .val (.int (2 : Int32)), .val (.int c0), .val (.int c1), .val (.int c2), .val (.ref b14), .unset] []))
              refine own_go (fun _ => XS.iconst X25.here hx rfl (hb hby at_159)) ?_
              refine own_go (fun _ => XS.istore X25.here hx rfl (hb hby at_160) rfl (l' := #[.val (.int p1), .val (.int p2), .val (.int p3), .val (.int p4), .val (.int (2 : Int32)), .val (.int c0), .val (.int c1), .val (.int c2), .val (.ref b14), .val (.int (0 : Int32))]) rfl) ?_
              refine own_go (fun _ => XS.goto X25.here hx rfl (pc0 := 162) (pc' := 223) rfl (hb hby at_162) (by decide) (by decide)) ?_
              show own_Go _ _ _ _ (T25.setTop (mkF m 223 #[.val (.int p1), .val (.int p2), .val (.int p3), .val (.int p4), .val (.int (2 : Int32)), .val (.int c0), .val (.int c1), .val (.int c2), .val (.ref b14), .val (.int (0 : Int32))] []))
              exact J223 _ (absurd ⟨by rw [hsc0]; decide, by rw [hsc1]; decide⟩ hU) _ _ X25 NF25 eq25
            · have _h := hsc1
              refine own_go (fun _ => XS.icmpNo X25.here hx rfl (hb hby at_152) rfl (feq hsc1).1) ?_
              show own_Go _ _ _ _ (T25.setTop (mkF m 155 #[.val (.int p1), .val (.int p2), .val (.int p3), .val (.int p4), .val (.int (2 : Int32)), .val (.int c0), .val (.int c1), .val (.int c2), .val (.ref b14), .unset] []))
              refine own_go (fun _ => XS.iconst X25.here hx rfl (hb hby at_155)) ?_
              refine own_go (fun _ => XS.goto X25.here hx rfl (pc0 := 156) (pc' := 160) rfl (hb hby at_156) (by decide) (by decide)) ?_
              refine own_go (fun _ => XS.istore X25.here hx rfl (hb hby at_160) rfl (l' := #[.val (.int p1), .val (.int p2), .val (.int p3), .val (.int p4), .val (.int (2 : Int32)), .val (.int c0), .val (.int c1), .val (.int c2), .val (.ref b14), .val (.int (1 : Int32))]) rfl) ?_
              refine own_go (fun _ => XS.goto X25.here hx rfl (pc0 := 162) (pc' := 223) rfl (hb hby at_162) (by decide) (by decide)) ?_
              show own_Go _ _ _ _ (T25.setTop (mkF m 223 #[.val (.int p1), .val (.int p2), .val (.int p3), .val (.int p4), .val (.int (2 : Int32)), .val (.int c0), .val (.int c1), .val (.int c2), .val (.ref b14), .val (.int (1 : Int32))] []))
              exact J223 _ (by rw [own_cU c0a c0b, own_cU c1a c1b]; simp [own_nmU, hoc0, hoc1]) _ _ X25 NF25 eq25
          · have _h := hsc0
            refine own_go (fun _ => XS.icmpYes X25.here hx rfl (pc0 := 145) (pc' := 155) rfl (hb hby at_145) rfl (feq hsc0).2 (by decide) (by decide)) ?_
            show own_Go _ _ _ _ (T25.setTop (mkF m 155 #[.val (.int p1), .val (.int p2), .val (.int p3), .val (.int p4), .val (.int (2 : Int32)), .val (.int c0), .val (.int c1), .val (.int c2), .val (.ref b14), .unset] []))
            refine own_go (fun _ => XS.iconst X25.here hx rfl (hb hby at_155)) ?_
            refine own_go (fun _ => XS.goto X25.here hx rfl (pc0 := 156) (pc' := 160) rfl (hb hby at_156) (by decide) (by decide)) ?_
            refine own_go (fun _ => XS.istore X25.here hx rfl (hb hby at_160) rfl (l' := #[.val (.int p1), .val (.int p2), .val (.int p3), .val (.int p4), .val (.int (2 : Int32)), .val (.int c0), .val (.int c1), .val (.int c2), .val (.ref b14), .val (.int (1 : Int32))]) rfl) ?_
            refine own_go (fun _ => XS.goto X25.here hx rfl (pc0 := 162) (pc' := 223) rfl (hb hby at_162) (by decide) (by decide)) ?_
            show own_Go _ _ _ _ (T25.setTop (mkF m 223 #[.val (.int p1), .val (.int p2), .val (.int p3), .val (.int p4), .val (.int (2 : Int32)), .val (.int c0), .val (.int c1), .val (.int c2), .val (.ref b14), .val (.int (1 : Int32))] []))
            exact J223 _ (by rw [own_cU c0a c0b, own_cU c1a c1b]; simp [own_nmU, hoc0, hoc1]) _ _ X25 NF25 eq25
  · have _u := trivial
    show own_Go _ _ _ _ (s₁.setTop (mkF m 28 #[.val (.int p1), .val (.int p2), .val (.int p3), .val (.int p4), .val (.int (3 : Int32)), .val (.int c0), .val (.int c1), .val (.int c2), .unset, .unset] [(.int (3 : Int32))]))
    refine own_go (fun _ => XS.ifYes X0.here hx rfl (pc0 := 28) (pc' := 49) rfl (hb hby at_28) rfl ((if0 _ _).trans (feq (by decide)).2) (by decide) (by decide)) ?_
    show own_Go _ _ _ _ (s₁.setTop (mkF m 49 #[.val (.int p1), .val (.int p2), .val (.int p3), .val (.int p4), .val (.int (3 : Int32)), .val (.int c0), .val (.int c1), .val (.int c2), .unset, .unset] []))
    refine own_go (fun _ => XS.iload X0.here hx rfl (hb hby at_49) rfl) ?_
    refine own_go (fun _ => XS.iconst X0.here hx rfl (hb hby at_51)) ?_
    show own_Go _ _ _ _ (s₁.setTop (mkF m 52 #[.val (.int p1), .val (.int p2), .val (.int p3), .val (.int p4), .val (.int (3 : Int32)), .val (.int c0), .val (.int c1), .val (.int c2), .unset, .unset] [(.int (1 : Int32)), (.int (3 : Int32))]))
    refine own_go (fun _ => XS.icmpYes X0.here hx rfl (pc0 := 52) (pc' := 97) rfl (hb hby at_52) rfl (feq (by decide)).2 (by decide) (by decide)) ?_
    show own_Go _ _ _ _ (s₁.setTop (mkF m 97 #[.val (.int p1), .val (.int p2), .val (.int p3), .val (.int p4), .val (.int (3 : Int32)), .val (.int c0), .val (.int c1), .val (.int c2), .unset, .unset] []))
    refine own_go (fun _ => XS.iload X0.here hx rfl (hb hby at_97) rfl) ?_
    refine own_go (fun _ => XS.iconst X0.here hx rfl (hb hby at_99)) ?_
    show own_Go _ _ _ _ (s₁.setTop (mkF m 100 #[.val (.int p1), .val (.int p2), .val (.int p3), .val (.int p4), .val (.int (3 : Int32)), .val (.int c0), .val (.int c1), .val (.int c2), .unset, .unset] [(.int (2 : Int32)), (.int (3 : Int32))]))
    refine own_go (fun _ => XS.icmpYes X0.here hx rfl (pc0 := 100) (pc' := 165) rfl (hb hby at_100) rfl (feq (by decide)).2 (by decide) (by decide)) ?_
    show own_Go _ _ _ _ (s₁.setTop (mkF m 165 #[.val (.int p1), .val (.int p2), .val (.int p3), .val (.int p4), .val (.int (3 : Int32)), .val (.int c0), .val (.int c1), .val (.int c2), .unset, .unset] []))
    obtain ⟨T26, h26, X26, e26, E26, A26, D26, -, st26⟩ := newO X0 hx hZ hown (hw _ (List.mem_of_getElem? (i := 1) rfl)) (hw _ (List.mem_of_getElem? (i := 2) rfl)) (hw _ (List.mem_of_getElem? (i := 3) rfl)) e0 (g := (mkF m 165 #[.val (.int p1), .val (.int p2), .val (.int p3), .val (.int p4), .val (.int (3 : Int32)), .val (.int c0), .val (.int c1), .val (.int c2), .unset, .unset] [])) rfl (hb hby at_165) (by decide) (by decide)
    obtain ⟨b26, g26⟩ : ∃ z, z = h0.size := ⟨_, rfl⟩
    rw [← g26] at A26 D26 st26
    refine own_go st26 ?_
    have ge_b26 : n0 ≤ b26 := Nat.le_trans Z0 (Nat.le_of_eq g26.symm)
    replace O := O.ext E26
    replace Z0 := Nat.le_trans Z0 E26.1
    have SF_b26 : Safe Z consts_1 s.vm h26 b26 := Safe.ext E26 Hc (Safe.new (Nat.le_of_eq g26.symm))
    replace Hc := CHv.ext E26 Hc
    have F_coder_b26 : Fld Z h26 b26 "java/lang/String" "coder" "B" (.int (0 : Int32)) := D26 (Or.inr (hw _ (List.mem_of_getElem? (i := 28) rfl))) (ty := .byte) (by decide)
    have F_value_b26 : Fld Z h26 b26 "java/lang/String" "value" "[B" .null := D26 (Or.inr (hw _ (List.mem_of_getElem? (i := 30) rfl))) (ty := (.array .byte)) (by decide)
    refine own_go (fun _ => XS.dup X26.here hx rfl (hb hby at_168) rfl rfl) ?_
    refine own_go (fun _ => XS.iconst X26.here hx rfl (hb hby at_169)) ?_
    obtain ⟨T27, h27, k27, X27, e27, E27, A27, st27⟩ := newP X26 hx hZ (hw _ (List.mem_of_getElem? (i := 4) rfl)) e26 (g := (mkF m 170 #[.val (.int p1), .val (.int p2), .val (.int p3), .val (.int p4), .val (.int (3 : Int32)), .val (.int c0), .val (.int c1), .val (.int c2), .unset, .unset] [(.int (3 : Int32)), (.ref b26), (.ref b26)])) rfl (hb hby at_170) rfl (by decide) (cap := 3) (by decide) (by decide) (by decide) (by decide)
    obtain ⟨b27, g27⟩ : ∃ z, z = h26.size := ⟨_, rfl⟩
    rw [← g27] at A27 st27
    refine own_go st27 ?_
    have ge_b27 : n0 ≤ b27 := Nat.le_trans Z0 (Nat.le_of_eq g27.symm)
    have ne_b26_b27 : b26 ≠ b27 := Nat.ne_of_lt (Nat.lt_of_lt_of_le A26.lt (Nat.le_of_eq g27.symm))
    replace O := O.ext E27
    replace A26 := A26.ext E27
    replace F_coder_b26 := F_coder_b26.ext E27
    replace F_value_b26 := F_value_b26.ext E27
    replace Z0 := Nat.le_trans Z0 E27.1
    replace SF_b26 := Safe.ext E27 Hc SF_b26
    have SF_b27 : Safe Z consts_1 s.vm h27 b27 := Safe.ext E27 Hc (Safe.new (Nat.le_of_eq g27.symm))
    replace Hc := CHv.ext E27 Hc
    have V_b27 : Arv Z h27 b27 k27 .char (3 : Int32) [(.int (0 : Int32)), (.int (0 : Int32)), (.int (0 : Int32))] (.int (0 : Int32)) := (Arv.new A27 (by decide)).pad (pad_rep [] (.int (0 : Int32)) 3)
    refine own_go (fun _ => XS.dup X27.here hx rfl (hb hby at_172) rfl rfl) ?_
    show own_Go _ _ _ _ (T27.setTop (mkF m 173 #[.val (.int p1), .val (.int p2), .val (.int p3), .val (.int p4), .val (.int (3 : Int32)), .val (.int c0), .val (.int c1), .val (.int c2), .unset, .unset] [(.ref b27), (.ref b27), (.ref b26), (.ref b26)]))
    refine own_go (fun _ => XS.iconst X27.here hx rfl (hb hby at_173)) ?_
    refine own_go (fun _ => XS.iload X27.here hx rfl (hb hby at_174) rfl) ?_
    obtain ⟨cl28, Ar28, q28, Sz28, Ng28, Hs28, Gs28⟩ := V_b27
    have hin28 : ¬ ((0 : Int32) < 0 ∨ cl28.slots.size ≤ ((0 : Int32)).toNatClampNeg) := inb_of Sz28 ⟨by decide, by decide⟩
    obtain ⟨T28, h28, X28, e28, W28, st28⟩ := stC X27 hx hZ e27 Ar28 (j := (0 : Int32)) hin28 (g := (mkF m 176 #[.val (.int p1), .val (.int p2), .val (.int p3), .val (.int p4), .val (.int (3 : Int32)), .val (.int c0), .val (.int c1), .val (.int c2), .unset, .unset] [(.int c0), (.int (0 : Int32)), (.ref b27), (.ref b27), (.ref b26), (.ref b26)])) rfl rfl (hb hby at_176)
    refine own_go st28 ?_
    have NF28 := Fr.snoc X28 N0 ge_b27
    replace V_b27 : Arv Z h28 b27 k27 .char (3 : Int32) [(.int (nar .char c0)), (.int (0 : Int32)), (.int (0 : Int32))] (.int (0 : Int32)) := Arv.set Ar28 q28 Sz28 Ng28 Hs28 Gs28 (fits_nar_char _) W28 0 rfl (Nat.le_of_ble_eq_true rfl)
    replace O := O.wr W28 ge_b27
    replace A26 := A26.wr W28
    replace F_coder_b26 := F_coder_b26.other W28 (Or.inl ne_b26_b27)
    replace F_value_b26 := F_value_b26.other W28 (Or.inl ne_b26_b27)
    replace Z0 := Nat.le_trans Z0 (Keep.of_wr W28).1
    replace SF_b26 := Safe.wr W28 SF_b27 Hc SF_b26
    have Hn := CHv.wr W28 SF_b27 Hc
    replace SF_b27 := Safe.wr W28 SF_b27 Hc SF_b27
    replace Hc := Hn
    clear Hn
    refine own_go (fun _ => XS.dup X28.here hx rfl (hb hby at_177) rfl rfl) ?_
    refine own_go (fun _ => XS.iconst X28.here hx rfl (hb hby at_178)) ?_
    show own_Go _ _ _ _ (T28.setTop (mkF m 179 #[.val (.int p1), .val (.int p2), .val (.int p3), .val (.int p4), .val (.int (3 : Int32)), .val (.int c0), .val (.int c1), .val (.int c2), .unset, .unset] [(.int (1 : Int32)), (.ref b27), (.ref b27), (.ref b26), (.ref b26)]))
    refine own_go (fun _ => XS.iload X28.here hx rfl (hb hby at_179) rfl) ?_
    obtain ⟨cl29, Ar29, q29, Sz29, Ng29, Hs29, Gs29⟩ := V_b27
    have hin29 : ¬ ((1 : Int32) < 0 ∨ cl29.slots.size ≤ ((1 : Int32)).toNatClampNeg) := inb_of Sz29 ⟨by decide, by decide⟩
    obtain ⟨T29, h29, X29, e29, W29, st29⟩ := stC X28 hx hZ e28 Ar29 (j := (1 : Int32)) hin29 (g := (mkF m 181 #[.val (.int p1), .val (.int p2), .val (.int p3), .val (.int p4), .val (.int (3 : Int32)), .val (.int c0), .val (.int c1), .val (.int c2), .unset, .unset] [(.int c1), (.int (1 : Int32)), (.ref b27), (.ref b27), (.ref b26), (.ref b26)])) rfl rfl (hb hby at_181)
    refine own_go st29 ?_
    have NF29 := Fr.snoc X29 NF28 ge_b27
    replace V_b27 : Arv Z h29 b27 k27 .char (3 : Int32) [(.int (nar .char c0)), (.int (nar .char c1)), (.int (0 : Int32))] (.int (0 : Int32)) := Arv.set Ar29 q29 Sz29 Ng29 Hs29 Gs29 (fits_nar_char _) W29 1 rfl (Nat.le_of_ble_eq_true rfl)
    replace O := O.wr W29 ge_b27
    replace A26 := A26.wr W29
    replace F_coder_b26 := F_coder_b26.other W29 (Or.inl ne_b26_b27)
    replace F_value_b26 := F_value_b26.other W29 (Or.inl ne_b26_b27)
    replace Z0 := Nat.le_trans Z0 (Keep.of_wr W29).1
    replace SF_b26 := Safe.wr W29 SF_b27 Hc SF_b26
    have Hn := CHv.wr W29 SF_b27 Hc
    replace SF_b27 := Safe.wr W29 SF_b27 Hc SF_b27
    replace Hc := Hn
    clear Hn
    refine own_go (fun _ => XS.dup X29.here hx rfl (hb hby at_182) rfl rfl) ?_
    refine own_go (fun _ => XS.iconst X29.here hx rfl (hb hby at_183)) ?_
    refine own_go (fun _ => XS.iload X29.here hx rfl (hb hby at_184) rfl) ?_
    show own_Go _ _ _ _ (T29.setTop (mkF m 186 #[.val (.int p1), .val (.int p2), .val (.int p3), .val (.int p4), .val (.int (3 : Int32)), .val (.int c0), .val (.int c1), .val (.int c2), .unset, .unset] [(.int c2), (.int (2 : Int32)), (.ref b27), (.ref b27), (.ref b26), (.ref b26)]))
    obtain ⟨cl30, Ar30, q30, Sz30, Ng30, Hs30, Gs30⟩ := V_b27
    have hin30 : ¬ ((2 : Int32) < 0 ∨ cl30.slots.size ≤ ((2 : Int32)).toNatClampNeg) := inb_of Sz30 ⟨by decide, by decide⟩
    obtain ⟨T30, h30, X30, e30, W30, st30⟩ := stC X29 hx hZ e29 Ar30 (j := (2 : Int32)) hin30 (g := (mkF m 186 #[.val (.int p1), .val (.int p2), .val (.int p3), .val (.int p4), .val (.int (3 : Int32)), .val (.int c0), .val (.int c1), .val (.int c2), .unset, .unset] [(.int c2), (.int (2 : Int32)), (.ref b27), (.ref b27), (.ref b26), (.ref b26)])) rfl rfl (hb hby at_186)
    refine own_go st30 ?_
    have NF30 := Fr.snoc X30 NF29 ge_b27
    replace V_b27 : Arv Z h30 b27 k27 .char (3 : Int32) [(.int (nar .char c0)), (.int (nar .char c1)), (.int (nar .char c2))] (.int (0 : Int32)) := Arv.set Ar30 q30 Sz30 Ng30 Hs30 Gs30 (fits_nar_char _) W30 2 rfl (Nat.le_of_ble_eq_true rfl)
    replace O := O.wr W30 ge_b27
    replace A26 := A26.wr W30
    replace F_coder_b26 := F_coder_b26.other W30 (Or.inl ne_b26_b27)
    replace F_value_b26 := F_value_b26.other W30 (Or.inl ne_b26_b27)
    replace Z0 := Nat.le_trans Z0 (Keep.of_wr W30).1
    replace SF_b26 := Safe.wr W30 SF_b27 Hc SF_b26
    have Hn := CHv.wr W30 SF_b27 Hc
    replace SF_b27 := Safe.wr W30 SF_b27 Hc SF_b27
    replace Hc := Hn
    clear Hn
    show own_Go _ _ _ _ (T30.setTop (mkF m 187 #[.val (.int p1), .val (.int p2), .val (.int p3), .val (.int p4), .val (.int (3 : Int32)), .val (.int c0), .val (.int c1), .val (.int c2), .unset, .unset] [(.ref b27), (.ref b26), (.ref b26)]))
    rw [own_ncc c0a c0b, own_ncc c1a c1b, own_ncc c2a c2b] at V_b27
    by_cases hU : ¬ (255 : Int32) < c0 ∧ ¬ (255 : Int32) < c1 ∧ ¬ (255 : Int32) < c2
    · have _u := trivial
      obtain ⟨_, _, ⟨T31, L31, k31, n31⟩, -, X31, ⟨Lc31, hQ31, l31, y31, z31⟩, st31⟩ := X30.specialBack hx (y := (⟨"java/lang/String", "<init>", "([C)V"⟩ : MethodName)) rfl hown (mvT hZ (hw _ (List.mem_of_getElem? (i := 5) rfl))) (mvT hZ (hw _ (List.mem_of_getElem? (i := 6) rfl))) (mvT hZ (hw _ (List.mem_of_getElem? (i := 7) rfl))) (by decide) (own_back (W := 1) (own_rmIL l Z a0 hw b26 b27 k27 cs 3 3 [(.int (nar .byte (c0.toInt8.toInt32))), (.int (nar .byte (c1.toInt8.toInt32))), (.int (nar .byte (c2.toInt8.toInt32)))] _ h30 n0 Z0 A26 F_value_b26 F_coder_b26 V_b27 O S_C hcs ge_b26 (by decide) (by decide) (own_rmML3 l Z a0 hw b27 k27 c0 c1 c2 h30 n0 Z0 V_b27 O hU)) hZ (hw _ (List.mem_of_getElem? (i := 7) rfl)) (hw _ (List.mem_of_getElem? (i := 3) rfl)) (by decide) (by decide)) (g := (mkF m 187 #[.val (.int p1), .val (.int p2), .val (.int p3), .val (.int p4), .val (.int (3 : Int32)), .val (.int c0), .val (.int c1), .val (.int c2), .unset, .unset] [(.ref b27), (.ref b26), (.ref b26)])) rfl (by rw [hml]; rfl) (Steps.refl _) (a := b26) (argsL := [(.ref b27)]) (rest := [(.ref b26)]) (lenOf own_pd21 rfl) rfl (by show 2 * 0 + _ ≤ _; exact Nat.le_of_eq rfl) (hb hby at_187) (fun _ _ => ⟨rfl, e30, (by decide : 2 + 2 ≤ _), (by decide : 7 + 9 ≤ _)⟩)
      dsimp only [Pt.U, Pt.locs, Pt.cells, Pt.slots] at X31 l31 y31 z31 st31 hQ31
      replace X31 := own_cst X31 l31 y31 z31 (k2 := 4) (n2 := 16) rfl rfl
      clear l31 y31 z31
      obtain ⟨bq31, kk31, rfl, Nq31, Kq31, Oq31, hsq31, Eq31, Fvq31, Fcq31, Vq31⟩ := hQ31
      have NF31 := Fr.app NF30 Nq31
      refine own_goT st31 ?_
      have O := Oq31
      replace Z0 := Nat.le_trans Z0 hsq31
      have Hn := CHv.keep Kq31 (fun x hx => by cases List.mem_singleton.mp hx; exact SF_b26) Hc
      replace SF_b26 := Safe.keep Kq31 (fun x hx => by cases List.mem_singleton.mp hx; exact SF_b26) Hc SF_b26
      replace Hc := Hn
      clear Hn
      show own_Go _ _ _ _ (T31.setTop (mkF m 190 #[.val (.int p1), .val (.int p2), .val (.int p3), .val (.int p4), .val (.int (3 : Int32)), .val (.int c0), .val (.int c1), .val (.int c2), .unset, .unset] [(.ref b26)]))
      obtain ⟨q0, q1, q2⟩ := hU
      have J223 : ∀ (ex : Int32) (hex : (own_nm [(nar .byte (c0.toInt8.toInt32)), (nar .byte (c1.toInt8.toInt32)), (nar .byte (c2.toInt8.toInt32))] [(nar .char (own_lc (nar .byte (c0.toInt8.toInt32)))), (nar .char (own_lc (nar .byte (c1.toInt8.toInt32)))), (nar .char (own_lc (nar .byte (c2.toInt8.toInt32))))]) = ex) (Tj223 : State) (Lj223 : List Loc) (Xj223 : Stand p l e room_1 s m #[(.int p1), (.int p2), (.int p3), (.int p4)] below meth c Tj223 Lj223 4 16) (Nj223 : Fr n0 Lj223) (ej223 : Tj223.heap = T31.heap), own_Go p.tables e below (own_EndW s below (fun v h L => v = some (.int 1) ∧ Fr n0 L) room_1.cells room_1.slots) (Tj223.setTop (mkF m 223 #[.val (.int p1), .val (.int p2), .val (.int p3), .val (.int p4), .val (.int (3 : Int32)), .val (.int c0), .val (.int c1), .val (.int c2), .val (.ref b26), .val (.int ex)] [])) := by
        intro ex hex Tj223 Lj223 Xj223 Nj223 ej223
        refine own_go (fun _ => XS.aload Xj223.here hx rfl (hb hby at_223) rfl rfl) ?_
        show own_Go _ _ _ _ (Tj223.setTop (mkF m 225 #[.val (.int p1), .val (.int p2), .val (.int p3), .val (.int p4), .val (.int (3 : Int32)), .val (.int c0), .val (.int c1), .val (.int c2), .val (.ref b26), .val (.int ex)] [(.ref b26)]))
        obtain ⟨_, _, ⟨T32, L32, k32, n32⟩, -, X32, hS, -, ⟨Lc32, hQ32, l32, y32, z32⟩, st32⟩ := callSS Xj223 hx (y := (⟨"com/example/chartpost/chartpost/http/PathSegments", "isName", "(Ljava/lang/String;)Z"⟩ : MethodName)) hown (mvT hZ (hw _ (List.mem_of_getElem? (i := 35) rfl))) (mvT hZ (hw _ (List.mem_of_getElem? (i := 36) rfl))) (mvT hZ (hw _ (List.mem_of_getElem? (i := 37) rfl))) (mvT hZ (hw _ (List.mem_of_getElem? (i := 38) rfl))) (by decide) (own_backT (s := s) (vm0 := s.vm) (W := 0) (own_rmNL3 l Z a0 hw b26 bq31 kk31 cs (nar .byte (c0.toInt8.toInt32)) (nar .byte (c1.toInt8.toInt32)) (nar .byte (c2.toInt8.toInt32)) fmt T31.heap n0 Z0 Eq31 Fvq31 Fcq31 Vq31 O S_C hcs S_F hfmt ) hZ (hw _ (List.mem_of_getElem? (i := 38) rfl)) (hw _ (List.mem_of_getElem? (i := 37) rfl)) (by decide) (by decide) (own_ew hw) Hc (fun x hx => by cases List.mem_singleton.mp hx; exact ⟨Eq31.lt, SF_b26⟩)) (g := (mkF m 225 #[.val (.int p1), .val (.int p2), .val (.int p3), .val (.int p4), .val (.int (3 : Int32)), .val (.int c0), .val (.int c1), .val (.int c2), .val (.ref b26), .val (.int ex)] [(.ref b26)])) rfl (by rw [hml]; rfl) (argsL := [(.ref b26)]) (rest := []) (lenOf own_pd22 rfl) rfl (by show 2 * 0 + _ ≤ _; exact Nat.le_of_eq rfl) (hb hby at_225) (fun _ _ => ⟨rfl, ej223, (by decide : 4 + 6 ≤ _), (by decide : 16 + 340 ≤ _)⟩)
        dsimp only [Pt.U, Pt.locs, Pt.cells, Pt.slots] at X32 l32 y32 z32 st32 hQ32 hS
        replace X32 := own_cst X32 l32 y32 z32 (k2 := 10) (n2 := 356) rfl rfl
        clear l32 y32 z32
        obtain ⟨rfl, Nq32⟩ := hQ32
        have NF32 := Fr.app Nj223 Nq32
        have hown : (s.setVm T32.vm).vm.findClass "com/example/chartpost/chartpost/http/PathSegmentsIsNamePinLaw" = some m.cls := by
          show T32.vm.findClass _ = _
          rw [hS.1.alike.findClass]; exact hown
        have hZ : Z.Warmed39 (s.setVm T32.vm).vm := State.Warmed39.trans (t := s) hZ hS.1
        have hsw : T32.heap.size ≤ T32.heap.size := Nat.le_refl _
        refine own_goT st32 ?_
        show own_Go _ _ _ _ (T32.setTop (mkF m 228 #[.val (.int p1), .val (.int p2), .val (.int p3), .val (.int p4), .val (.int (3 : Int32)), .val (.int c0), .val (.int c1), .val (.int c2), .val (.ref b26), .val (.int ex)] [(.int (own_nm [(nar .byte (c0.toInt8.toInt32)), (nar .byte (c1.toInt8.toInt32)), (nar .byte (c2.toInt8.toInt32))] [(nar .char (own_lc (nar .byte (c0.toInt8.toInt32)))), (nar .char (own_lc (nar .byte (c1.toInt8.toInt32)))), (nar .char (own_lc (nar .byte (c2.toInt8.toInt32))))]))]))
        refine own_go (fun _ => XS.iload X32.here hx rfl (hb hby at_228) rfl) ?_
        show own_Go _ _ _ _ (T32.setTop (mkF m 230 #[.val (.int p1), .val (.int p2), .val (.int p3), .val (.int p4), .val (.int (3 : Int32)), .val (.int c0), .val (.int c1), .val (.int c2), .val (.ref b26), .val (.int ex)] [(.int ex), (.int (own_nm [(nar .byte (c0.toInt8.toInt32)), (nar .byte (c1.toInt8.toInt32)), (nar .byte (c2.toInt8.toInt32))] [(nar .char (own_lc (nar .byte (c0.toInt8.toInt32)))), (nar .char (own_lc (nar .byte (c1.toInt8.toInt32)))), (nar .char (own_lc (nar .byte (c2.toInt8.toInt32))))]))]))
        refine own_go (fun _ => XS.icmpNo X32.here hx rfl (hb hby at_230) rfl (teq hex).2) ?_
        show own_Go _ _ _ _ (T32.setTop (mkF m 233 #[.val (.int p1), .val (.int p2), .val (.int p3), .val (.int p4), .val (.int (3 : Int32)), .val (.int c0), .val (.int c1), .val (.int c2), .val (.ref b26), .val (.int ex)] []))
        refine own_go (fun _ => XS.iconst X32.here hx rfl (hb hby at_233)) ?_
        refine own_go (fun _ => XS.goto X32.here hx rfl (pc0 := 234) (pc' := 238) rfl (hb hby at_234) (by decide) (by decide)) ?_
        show own_Go _ _ _ _ (T32.setTop (mkF m 238 #[.val (.int p1), .val (.int p2), .val (.int p3), .val (.int p4), .val (.int (3 : Int32)), .val (.int c0), .val (.int c1), .val (.int c2), .val (.ref b26), .val (.int ex)] [(.int (1 : Int32))]))
        refine own_retW X32 hS rfl hsw hlk (v := some (.int (1 : Int32))) (fun h => by rw [Bd.returns] at h; cases h) (fun fs hr => retN X32 hx (t := .boolean) Bd.returns (by simp) (hb hby at_238) hr) ?_ (by decide) (by decide)
        skip
        exact ⟨rfl, NF32⟩
      refine own_go (fun _ => XS.astore X31.here hx rfl (hb hby at_190) rfl rfl (l' := #[.val (.int p1), .val (.int p2), .val (.int p3), .val (.int p4), .val (.int (3 : Int32)), .val (.int c0), .val (.int c1), .val (.int c2), .val (.ref b26), .unset]) rfl) ?_
      refine own_go (fun _ => XS.iload X31.here hx rfl (hb hby at_192) rfl) ?_
      show own_Go _ _ _ _ (T31.setTop (mkF m 194 #[.val (.int p1), .val (.int p2), .val (.int p3), .val (.int p4), .val (.int (3 : Int32)), .val (.int c0), .val (.int c1), .val (.int c2), .val (.ref b26), .unset] [(.int c0)]))
      obtain ⟨_, _, ⟨T33, L33, k33, n33⟩, -, X33, ⟨Lc33, hQ33, l33, y33, z33⟩, st33⟩ := Jvm.LawKit.callS X31 hx (y := (⟨"com/example/chartpost/chartpost/http/PathSegmentsIsNamePinLaw", "ok", "(C)Z"⟩ : MethodName)) hown (mvT hZ (hw _ (List.mem_of_getElem? (i := 31) rfl))) (mvT hZ (hw _ (List.mem_of_getElem? (i := 32) rfl))) (mvT hZ (hw _ (List.mem_of_getElem? (i := 33) rfl))) (mvT hZ (hw _ (List.mem_of_getElem? (i := 34) rfl))) (by decide) (own_back (W := 0) (own_rmOk l Z a0 hw c0 T31.heap n0 Z0) hZ (hw _ (List.mem_of_getElem? (i := 34) rfl)) (hw _ (List.mem_of_getElem? (i := 33) rfl)) (by decide) (by decide)) (g := (mkF m 194 #[.val (.int p1), .val (.int p2), .val (.int p3), .val (.int p4), .val (.int (3 : Int32)), .val (.int c0), .val (.int c1), .val (.int c2), .val (.ref b26), .unset] [(.int c0)])) rfl (by rw [hml]; rfl) (argsL := [(.int c0)]) (rest := []) (lenOf own_pd23 rfl) rfl (by show 2 * 0 + _ ≤ _; exact Nat.le_of_eq rfl) (hb hby at_194) (fun _ _ => ⟨rfl, rfl, (by decide : 4 + 0 ≤ _), (by decide : 16 + 0 ≤ _)⟩)
      dsimp only [Pt.U, Pt.locs, Pt.cells, Pt.slots] at X33 l33 y33 z33 st33 hQ33
      replace X33 := own_cst X33 l33 y33 z33 (k2 := 4) (n2 := 16) rfl rfl
      clear l33 y33 z33
      obtain ⟨rfl, Nq33, eq33⟩ := hQ33
      have NF33 := Fr.app NF31 Nq33
      refine own_go st33 ?_
      show own_Go _ _ _ _ (T33.setTop (mkF m 197 #[.val (.int p1), .val (.int p2), .val (.int p3), .val (.int p4), .val (.int (3 : Int32)), .val (.int c0), .val (.int c1), .val (.int c2), .val (.ref b26), .unset] [(.int (own_okc c0))]))
      by_cases hoc0 : (own_okc c0) = (0 : Int32)
      · have _h := hoc0
        refine own_go (fun _ => XS.ifYes X33.here hx rfl (pc0 := 197) (pc' := 220) rfl (hb hby at_197) rfl ((if0 _ _).trans (teq hoc0).1) (by decide) (by decide)) ?_
        show own_Go _ _ _ _ (T33.setTop (mkF m 220 #[.val (.int p1), .val (.int p2), .val (.int p3), .val (.int p4), .val (.int (3 : Int32)), .val (.int c0), .val (.int c1), .val (.int c2), .val (.ref b26), .unset] []))
        refine own_go (fun _ => XS.iconst X33.here hx rfl (hb hby at_220)) ?_
        refine own_go (fun _ => XS.istore X33.here hx rfl (hb hby at_221) rfl (l' := #[.val (.int p1), .val (.int p2), .val (.int p3), .val (.int p4), .val (.int (3 : Int32)), .val (.int c0), .val (.int c1), .val (.int c2), .val (.ref b26), .val (.int (0 : Int32))]) rfl) ?_
        show own_Go _ _ _ _ (T33.setTop (mkF m 223 #[.val (.int p1), .val (.int p2), .val (.int p3), .val (.int p4), .val (.int (3 : Int32)), .val (.int c0), .val (.int c1), .val (.int c2), .val (.ref b26), .val (.int (0 : Int32))] []))
        exact J223 _ (by rw [own_cL c0a c0b q0, own_cL c1a c1b q1, own_cL c2a c2b q2]; simp [own_nm, own_same, own_yb c0a q0, own_yb c1a q1, own_yb c2a q2, hoc0]) _ _ X33 NF33 eq33
      · have _h := hoc0
        refine own_go (fun _ => XS.ifNo X33.here hx rfl (hb hby at_197) rfl ((if0 _ _).trans (feq hoc0).1)) ?_
        show own_Go _ _ _ _ (T33.setTop (mkF m 200 #[.val (.int p1), .val (.int p2), .val (.int p3), .val (.int p4), .val (.int (3 : Int32)), .val (.int c0), .val (.int c1), .val (.int c2), .val (.ref b26), .unset] []))
        refine own_go (fun _ => XS.iload X33.here hx rfl (hb hby at_200) rfl) ?_
        show own_Go _ _ _ _ (T33.setTop (mkF m 202 #[.val (.int p1), .val (.int p2), .val (.int p3), .val (.int p4), .val (.int (3 : Int32)), .val (.int c0), .val (.int c1), .val (.int c2), .val (.ref b26), .unset] [(.int c1)]))
        obtain ⟨_, _, ⟨T34, L34, k34, n34⟩, -, X34, ⟨Lc34, hQ34, l34, y34, z34⟩, st34⟩ := Jvm.LawKit.callS X33 hx (y := (⟨"com/example/chartpost/chartpost/http/PathSegmentsIsNamePinLaw", "ok", "(C)Z"⟩ : MethodName)) hown (mvT hZ (hw _ (List.mem_of_getElem? (i := 31) rfl))) (mvT hZ (hw _ (List.mem_of_getElem? (i := 32) rfl))) (mvT hZ (hw _ (List.mem_of_getElem? (i := 33) rfl))) (mvT hZ (hw _ (List.mem_of_getElem? (i := 34) rfl))) (by decide) (own_back (W := 0) (own_rmOk l Z a0 hw c1 T31.heap n0 Z0) hZ (hw _ (List.mem_of_getElem? (i := 34) rfl)) (hw _ (List.mem_of_getElem? (i := 33) rfl)) (by decide) (by decide)) (g := (mkF m 202 #[.val (.int p1), .val (.int p2), .val (.int p3), .val (.int p4), .val (.int (3 : Int32)), .val (.int c0), .val (.int c1), .val (.int c2), .val (.ref b26), .unset] [(.int c1)])) rfl (by rw [hml]; rfl) (argsL := [(.int c1)]) (rest := []) (lenOf own_pd23 rfl) rfl (by show 2 * 0 + _ ≤ _; exact Nat.le_of_eq rfl) (hb hby at_202) (fun _ _ => ⟨rfl, eq33, (by decide : 4 + 0 ≤ _), (by decide : 16 + 0 ≤ _)⟩)
        dsimp only [Pt.U, Pt.locs, Pt.cells, Pt.slots] at X34 l34 y34 z34 st34 hQ34
        replace X34 := own_cst X34 l34 y34 z34 (k2 := 4) (n2 := 16) rfl rfl
        clear l34 y34 z34
        obtain ⟨rfl, Nq34, eq34⟩ := hQ34
        have NF34 := Fr.app NF33 Nq34
        refine own_go st34 ?_
        show own_Go _ _ _ _ (T34.setTop (mkF m 205 #[.val (.int p1), .val (.int p2), .val (.int p3), .val (.int p4), .val (.int (3 : Int32)), .val (.int c0), .val (.int c1), .val (.int c2), .val (.ref b26), .unset] [(.int (own_okc c1))]))
        by_cases hoc1 : (own_okc c1) = (0 : Int32)
        · have _h := hoc1
          refine own_go (fun _ => XS.ifYes X34.here hx rfl (pc0 := 205) (pc' := 220) rfl (hb hby at_205) rfl ((if0 _ _).trans (teq hoc1).1) (by decide) (by decide)) ?_
          show own_Go _ _ _ _ (T34.setTop (mkF m 220 #[.val (.int p1), .val (.int p2), .val (.int p3), .val (.int p4), .val (.int (3 : Int32)), .val (.int c0), .val (.int c1), .val (.int c2), .val (.ref b26), .unset] []))
          refine own_go (fun _ => XS.iconst X34.here hx rfl (hb hby at_220)) ?_
          refine own_go (fun _ => XS.istore X34.here hx rfl (hb hby at_221) rfl (l' := #[.val (.int p1), .val (.int p2), .val (.int p3), .val (.int p4), .val (.int (3 : Int32)), .val (.int c0), .val (.int c1), .val (.int c2), .val (.ref b26), .val (.int (0 : Int32))]) rfl) ?_
          show own_Go _ _ _ _ (T34.setTop (mkF m 223 #[.val (.int p1), .val (.int p2), .val (.int p3), .val (.int p4), .val (.int (3 : Int32)), .val (.int c0), .val (.int c1), .val (.int c2), .val (.ref b26), .val (.int (0 : Int32))] []))
          exact J223 _ (by rw [own_cL c0a c0b q0, own_cL c1a c1b q1, own_cL c2a c2b q2]; simp [own_nm, own_same, own_yb c0a q0, own_yb c1a q1, own_yb c2a q2, hoc0, hoc1]) _ _ X34 NF34 eq34
        · have _h := hoc1
          refine own_go (fun _ => XS.ifNo X34.here hx rfl (hb hby at_205) rfl ((if0 _ _).trans (feq hoc1).1)) ?_
          show own_Go _ _ _ _ (T34.setTop (mkF m 208 #[.val (.int p1), .val (.int p2), .val (.int p3), .val (.int p4), .val (.int (3 : Int32)), .val (.int c0), .val (.int c1), .val (.int c2), .val (.ref b26), .unset] []))
          refine own_go (fun _ => XS.iload X34.here hx rfl (hb hby at_208) rfl) ?_
          show own_Go _ _ _ _ (T34.setTop (mkF m 210 #[.val (.int p1), .val (.int p2), .val (.int p3), .val (.int p4), .val (.int (3 : Int32)), .val (.int c0), .val (.int c1), .val (.int c2), .val (.ref b26), .unset] [(.int c2)]))
          obtain ⟨_, _, ⟨T35, L35, k35, n35⟩, -, X35, ⟨Lc35, hQ35, l35, y35, z35⟩, st35⟩ := Jvm.LawKit.callS X34 hx (y := (⟨"com/example/chartpost/chartpost/http/PathSegmentsIsNamePinLaw", "ok", "(C)Z"⟩ : MethodName)) hown (mvT hZ (hw _ (List.mem_of_getElem? (i := 31) rfl))) (mvT hZ (hw _ (List.mem_of_getElem? (i := 32) rfl))) (mvT hZ (hw _ (List.mem_of_getElem? (i := 33) rfl))) (mvT hZ (hw _ (List.mem_of_getElem? (i := 34) rfl))) (by decide) (own_back (W := 0) (own_rmOk l Z a0 hw c2 T31.heap n0 Z0) hZ (hw _ (List.mem_of_getElem? (i := 34) rfl)) (hw _ (List.mem_of_getElem? (i := 33) rfl)) (by decide) (by decide)) (g := (mkF m 210 #[.val (.int p1), .val (.int p2), .val (.int p3), .val (.int p4), .val (.int (3 : Int32)), .val (.int c0), .val (.int c1), .val (.int c2), .val (.ref b26), .unset] [(.int c2)])) rfl (by rw [hml]; rfl) (argsL := [(.int c2)]) (rest := []) (lenOf own_pd23 rfl) rfl (by show 2 * 0 + _ ≤ _; exact Nat.le_of_eq rfl) (hb hby at_210) (fun _ _ => ⟨rfl, eq34, (by decide : 4 + 0 ≤ _), (by decide : 16 + 0 ≤ _)⟩)
          dsimp only [Pt.U, Pt.locs, Pt.cells, Pt.slots] at X35 l35 y35 z35 st35 hQ35
          replace X35 := own_cst X35 l35 y35 z35 (k2 := 4) (n2 := 16) rfl rfl
          clear l35 y35 z35
          obtain ⟨rfl, Nq35, eq35⟩ := hQ35
          have NF35 := Fr.app NF34 Nq35
          refine own_go st35 ?_
          show own_Go _ _ _ _ (T35.setTop (mkF m 213 #[.val (.int p1), .val (.int p2), .val (.int p3), .val (.int p4), .val (.int (3 : Int32)), .val (.int c0), .val (.int c1), .val (.int c2), .val (.ref b26), .unset] [(.int (own_okc c2))]))
          by_cases hoc2 : (own_okc c2) = (0 : Int32)
          · have _h := hoc2
            refine own_go (fun _ => XS.ifYes X35.here hx rfl (pc0 := 213) (pc' := 220) rfl (hb hby at_213) rfl ((if0 _ _).trans (teq hoc2).1) (by decide) (by decide)) ?_
            show own_Go _ _ _ _ (T35.setTop (mkF m 220 #[.val (.int p1), .val (.int p2), .val (.int p3), .val (.int p4), .val (.int (3 : Int32)), .val (.int c0), .val (.int c1), .val (.int c2), .val (.ref b26), .unset] []))
            refine own_go (fun _ => XS.iconst X35.here hx rfl (hb hby at_220)) ?_
            refine own_go (fun _ => XS.istore X35.here hx rfl (hb hby at_221) rfl (l' := #[.val (.int p1), .val (.int p2), .val (.int p3), .val (.int p4), .val (.int (3 : Int32)), .val (.int c0), .val (.int c1), .val (.int c2), .val (.ref b26), .val (.int (0 : Int32))]) rfl) ?_
            show own_Go _ _ _ _ (T35.setTop (mkF m 223 #[.val (.int p1), .val (.int p2), .val (.int p3), .val (.int p4), .val (.int (3 : Int32)), .val (.int c0), .val (.int c1), .val (.int c2), .val (.ref b26), .val (.int (0 : Int32))] []))
            exact J223 _ (by rw [own_cL c0a c0b q0, own_cL c1a c1b q1, own_cL c2a c2b q2]; simp [own_nm, own_same, own_yb c0a q0, own_yb c1a q1, own_yb c2a q2, hoc0, hoc1, hoc2]) _ _ X35 NF35 eq35
          · have _h := hoc2
            refine own_go (fun _ => XS.ifNo X35.here hx rfl (hb hby at_213) rfl ((if0 _ _).trans (feq hoc2).1)) ?_
            show own_Go _ _ _ _ (T35.setTop (mkF m 216 #[.val (.int p1), .val (.int p2), .val (.int p3), .val (.int p4), .val (.int (3 : Int32)), .val (.int c0), .val (.int c1), .val (.int c2), .val (.ref b26), .unset] []))
            refine own_go (fun _ => XS.iconst X35.here hx rfl (hb hby at_216)) ?_
            refine own_go (fun _ => XS.goto X35.here hx rfl (pc0 := 217) (pc' := 221) rfl (hb hby at_217) (by decide) (by decide)) ?_
            refine own_go (fun _ => XS.istore X35.here hx rfl (hb hby at_221) rfl (l' := #[.val (.int p1), .val (.int p2), .val (.int p3), .val (.int p4), .val (.int (3 : Int32)), .val (.int c0), .val (.int c1), .val (.int c2), .val (.ref b26), .val (.int (1 : Int32))]) rfl) ?_
            show own_Go _ _ _ _ (T35.setTop (mkF m 223 #[.val (.int p1), .val (.int p2), .val (.int p3), .val (.int p4), .val (.int (3 : Int32)), .val (.int c0), .val (.int c1), .val (.int c2), .val (.ref b26), .val (.int (1 : Int32))] []))
            exact J223 _ (by rw [own_cL c0a c0b q0, own_cL c1a c1b q1, own_cL c2a c2b q2]; simp [own_nm, own_same, own_yb c0a q0, own_yb c1a q1, own_yb c2a q2, hoc0, hoc1, hoc2]) _ _ X35 NF35 eq35
    · have _u := trivial
      obtain ⟨_, _, ⟨T36, L36, k36, n36⟩, -, X36, ⟨Lc36, hQ36, l36, y36, z36⟩, st36⟩ := X30.specialBack hx (y := (⟨"java/lang/String", "<init>", "([C)V"⟩ : MethodName)) rfl hown (mvT hZ (hw _ (List.mem_of_getElem? (i := 5) rfl))) (mvT hZ (hw _ (List.mem_of_getElem? (i := 6) rfl))) (mvT hZ (hw _ (List.mem_of_getElem? (i := 7) rfl))) (by decide) (own_back (W := 1) (own_rmIU l Z a0 hw b26 b27 k27 cs 3 6 [(.int (nar .byte ((c0 >>> ((0 : Int32) &&& 31)).toInt8.toInt32))), (.int (nar .byte ((c0 >>> ((8 : Int32) &&& 31)).toInt8.toInt32))), (.int (nar .byte ((c1 >>> ((0 : Int32) &&& 31)).toInt8.toInt32))), (.int (nar .byte ((c1 >>> ((8 : Int32) &&& 31)).toInt8.toInt32))), (.int (nar .byte ((c2 >>> ((0 : Int32) &&& 31)).toInt8.toInt32))), (.int (nar .byte ((c2 >>> ((8 : Int32) &&& 31)).toInt8.toInt32)))] _ h30 n0 Z0 A26 F_value_b26 F_coder_b26 V_b27 O S_C hcs ge_b26 (by decide) (by decide) (own_rmMU3 l Z a0 hw b27 k27 c0 c1 c2 h30 n0 Z0 V_b27 O S_A S_H S_L hU c0a c0b c1a c1b c2a c2b)) hZ (hw _ (List.mem_of_getElem? (i := 7) rfl)) (hw _ (List.mem_of_getElem? (i := 3) rfl)) (by decide) (by decide)) (g := (mkF m 187 #[.val (.int p1), .val (.int p2), .val (.int p3), .val (.int p4), .val (.int (3 : Int32)), .val (.int c0), .val (.int c1), .val (.int c2), .unset, .unset] [(.ref b27), (.ref b26), (.ref b26)])) rfl (by rw [hml]; rfl) (Steps.refl _) (a := b26) (argsL := [(.ref b27)]) (rest := [(.ref b26)]) (lenOf own_pd21 rfl) rfl (by show 2 * 0 + _ ≤ _; exact Nat.le_of_eq rfl) (hb hby at_187) (fun _ _ => ⟨rfl, e30, (by decide : 2 + 2 ≤ _), (by decide : 7 + 9 ≤ _)⟩)
      dsimp only [Pt.U, Pt.locs, Pt.cells, Pt.slots] at X36 l36 y36 z36 st36 hQ36
      replace X36 := own_cst X36 l36 y36 z36 (k2 := 4) (n2 := 16) rfl rfl
      clear l36 y36 z36
      obtain ⟨bq36, kk36, rfl, Nq36, Kq36, Oq36, hsq36, Eq36, Fvq36, Fcq36, Vq36⟩ := hQ36
      have NF36 := Fr.app NF30 Nq36
      refine own_goT st36 ?_
      have O := Oq36
      replace Z0 := Nat.le_trans Z0 hsq36
      have Hn := CHv.keep Kq36 (fun x hx => by cases List.mem_singleton.mp hx; exact SF_b26) Hc
      replace SF_b26 := Safe.keep Kq36 (fun x hx => by cases List.mem_singleton.mp hx; exact SF_b26) Hc SF_b26
      replace Hc := Hn
      clear Hn
      show own_Go _ _ _ _ (T36.setTop (mkF m 190 #[.val (.int p1), .val (.int p2), .val (.int p3), .val (.int p4), .val (.int (3 : Int32)), .val (.int c0), .val (.int c1), .val (.int c2), .unset, .unset] [(.ref b26)]))
      have J223 : ∀ (ex : Int32) (hex : (own_nmU [(nar .char (nar .char (own_gc (nar .byte ((c0 >>> ((0 : Int32) &&& 31)).toInt8.toInt32)) (nar .byte ((c0 >>> ((8 : Int32) &&& 31)).toInt8.toInt32))))), (nar .char (nar .char (own_gc (nar .byte ((c1 >>> ((0 : Int32) &&& 31)).toInt8.toInt32)) (nar .byte ((c1 >>> ((8 : Int32) &&& 31)).toInt8.toInt32))))), (nar .char (nar .char (own_gc (nar .byte ((c2 >>> ((0 : Int32) &&& 31)).toInt8.toInt32)) (nar .byte ((c2 >>> ((8 : Int32) &&& 31)).toInt8.toInt32)))))]) = ex) (Tj223 : State) (Lj223 : List Loc) (Xj223 : Stand p l e room_1 s m #[(.int p1), (.int p2), (.int p3), (.int p4)] below meth c Tj223 Lj223 4 16) (Nj223 : Fr n0 Lj223) (ej223 : Tj223.heap = T36.heap), own_Go p.tables e below (own_EndW s below (fun v h L => v = some (.int 1) ∧ Fr n0 L) room_1.cells room_1.slots) (Tj223.setTop (mkF m 223 #[.val (.int p1), .val (.int p2), .val (.int p3), .val (.int p4), .val (.int (3 : Int32)), .val (.int c0), .val (.int c1), .val (.int c2), .val (.ref b26), .val (.int ex)] [])) := by
        intro ex hex Tj223 Lj223 Xj223 Nj223 ej223
        refine own_go (fun _ => XS.aload Xj223.here hx rfl (hb hby at_223) rfl rfl) ?_
        show own_Go _ _ _ _ (Tj223.setTop (mkF m 225 #[.val (.int p1), .val (.int p2), .val (.int p3), .val (.int p4), .val (.int (3 : Int32)), .val (.int c0), .val (.int c1), .val (.int c2), .val (.ref b26), .val (.int ex)] [(.ref b26)]))
        obtain ⟨_, _, ⟨T37, L37, k37, n37⟩, -, X37, hS, -, ⟨Lc37, hQ37, l37, y37, z37⟩, st37⟩ := callSS Xj223 hx (y := (⟨"com/example/chartpost/chartpost/http/PathSegments", "isName", "(Ljava/lang/String;)Z"⟩ : MethodName)) hown (mvT hZ (hw _ (List.mem_of_getElem? (i := 35) rfl))) (mvT hZ (hw _ (List.mem_of_getElem? (i := 36) rfl))) (mvT hZ (hw _ (List.mem_of_getElem? (i := 37) rfl))) (mvT hZ (hw _ (List.mem_of_getElem? (i := 38) rfl))) (by decide) (own_backT (s := s) (vm0 := s.vm) (W := 0) (own_rmNU3 l Z a0 hw b26 bq36 kk36 cs (nar .byte ((c0 >>> ((0 : Int32) &&& 31)).toInt8.toInt32)) (nar .byte ((c0 >>> ((8 : Int32) &&& 31)).toInt8.toInt32)) (nar .byte ((c1 >>> ((0 : Int32) &&& 31)).toInt8.toInt32)) (nar .byte ((c1 >>> ((8 : Int32) &&& 31)).toInt8.toInt32)) (nar .byte ((c2 >>> ((0 : Int32) &&& 31)).toInt8.toInt32)) (nar .byte ((c2 >>> ((8 : Int32) &&& 31)).toInt8.toInt32)) fmt T36.heap n0 Z0 Eq36 Fvq36 Fcq36 Vq36 O S_C hcs S_F hfmt S_A S_H S_L) hZ (hw _ (List.mem_of_getElem? (i := 38) rfl)) (hw _ (List.mem_of_getElem? (i := 37) rfl)) (by decide) (by decide) (own_ew hw) Hc (fun x hx => by cases List.mem_singleton.mp hx; exact ⟨Eq36.lt, SF_b26⟩)) (g := (mkF m 225 #[.val (.int p1), .val (.int p2), .val (.int p3), .val (.int p4), .val (.int (3 : Int32)), .val (.int c0), .val (.int c1), .val (.int c2), .val (.ref b26), .val (.int ex)] [(.ref b26)])) rfl (by rw [hml]; rfl) (argsL := [(.ref b26)]) (rest := []) (lenOf own_pd22 rfl) rfl (by show 2 * 0 + _ ≤ _; exact Nat.le_of_eq rfl) (hb hby at_225) (fun _ _ => ⟨rfl, ej223, (by decide : 4 + 6 ≤ _), (by decide : 16 + 340 ≤ _)⟩)
        dsimp only [Pt.U, Pt.locs, Pt.cells, Pt.slots] at X37 l37 y37 z37 st37 hQ37 hS
        replace X37 := own_cst X37 l37 y37 z37 (k2 := 10) (n2 := 356) rfl rfl
        clear l37 y37 z37
        obtain ⟨rfl, Nq37⟩ := hQ37
        have NF37 := Fr.app Nj223 Nq37
        have hown : (s.setVm T37.vm).vm.findClass "com/example/chartpost/chartpost/http/PathSegmentsIsNamePinLaw" = some m.cls := by
          show T37.vm.findClass _ = _
          rw [hS.1.alike.findClass]; exact hown
        have hZ : Z.Warmed39 (s.setVm T37.vm).vm := State.Warmed39.trans (t := s) hZ hS.1
        have hsw : T37.heap.size ≤ T37.heap.size := Nat.le_refl _
        refine own_goT st37 ?_
        show own_Go _ _ _ _ (T37.setTop (mkF m 228 #[.val (.int p1), .val (.int p2), .val (.int p3), .val (.int p4), .val (.int (3 : Int32)), .val (.int c0), .val (.int c1), .val (.int c2), .val (.ref b26), .val (.int ex)] [(.int (own_nmU [(nar .char (nar .char (own_gc (nar .byte ((c0 >>> ((0 : Int32) &&& 31)).toInt8.toInt32)) (nar .byte ((c0 >>> ((8 : Int32) &&& 31)).toInt8.toInt32))))), (nar .char (nar .char (own_gc (nar .byte ((c1 >>> ((0 : Int32) &&& 31)).toInt8.toInt32)) (nar .byte ((c1 >>> ((8 : Int32) &&& 31)).toInt8.toInt32))))), (nar .char (nar .char (own_gc (nar .byte ((c2 >>> ((0 : Int32) &&& 31)).toInt8.toInt32)) (nar .byte ((c2 >>> ((8 : Int32) &&& 31)).toInt8.toInt32)))))]))]))
        refine own_go (fun _ => XS.iload X37.here hx rfl (hb hby at_228) rfl) ?_
        show own_Go _ _ _ _ (T37.setTop (mkF m 230 #[.val (.int p1), .val (.int p2), .val (.int p3), .val (.int p4), .val (.int (3 : Int32)), .val (.int c0), .val (.int c1), .val (.int c2), .val (.ref b26), .val (.int ex)] [(.int ex), (.int (own_nmU [(nar .char (nar .char (own_gc (nar .byte ((c0 >>> ((0 : Int32) &&& 31)).toInt8.toInt32)) (nar .byte ((c0 >>> ((8 : Int32) &&& 31)).toInt8.toInt32))))), (nar .char (nar .char (own_gc (nar .byte ((c1 >>> ((0 : Int32) &&& 31)).toInt8.toInt32)) (nar .byte ((c1 >>> ((8 : Int32) &&& 31)).toInt8.toInt32))))), (nar .char (nar .char (own_gc (nar .byte ((c2 >>> ((0 : Int32) &&& 31)).toInt8.toInt32)) (nar .byte ((c2 >>> ((8 : Int32) &&& 31)).toInt8.toInt32)))))]))]))
        refine own_go (fun _ => XS.icmpNo X37.here hx rfl (hb hby at_230) rfl (teq hex).2) ?_
        show own_Go _ _ _ _ (T37.setTop (mkF m 233 #[.val (.int p1), .val (.int p2), .val (.int p3), .val (.int p4), .val (.int (3 : Int32)), .val (.int c0), .val (.int c1), .val (.int c2), .val (.ref b26), .val (.int ex)] []))
        refine own_go (fun _ => XS.iconst X37.here hx rfl (hb hby at_233)) ?_
        refine own_go (fun _ => XS.goto X37.here hx rfl (pc0 := 234) (pc' := 238) rfl (hb hby at_234) (by decide) (by decide)) ?_
        show own_Go _ _ _ _ (T37.setTop (mkF m 238 #[.val (.int p1), .val (.int p2), .val (.int p3), .val (.int p4), .val (.int (3 : Int32)), .val (.int c0), .val (.int c1), .val (.int c2), .val (.ref b26), .val (.int ex)] [(.int (1 : Int32))]))
        refine own_retW X37 hS rfl hsw hlk (v := some (.int (1 : Int32))) (fun h => by rw [Bd.returns] at h; cases h) (fun fs hr => retN X37 hx (t := .boolean) Bd.returns (by simp) (hb hby at_238) hr) ?_ (by decide) (by decide)
        skip
        exact ⟨rfl, NF37⟩
      refine own_go (fun _ => XS.astore X36.here hx rfl (hb hby at_190) rfl rfl (l' := #[.val (.int p1), .val (.int p2), .val (.int p3), .val (.int p4), .val (.int (3 : Int32)), .val (.int c0), .val (.int c1), .val (.int c2), .val (.ref b26), .unset]) rfl) ?_
      refine own_go (fun _ => XS.iload X36.here hx rfl (hb hby at_192) rfl) ?_
      show own_Go _ _ _ _ (T36.setTop (mkF m 194 #[.val (.int p1), .val (.int p2), .val (.int p3), .val (.int p4), .val (.int (3 : Int32)), .val (.int c0), .val (.int c1), .val (.int c2), .val (.ref b26), .unset] [(.int c0)]))
      obtain ⟨_, _, ⟨T38, L38, k38, n38⟩, -, X38, ⟨Lc38, hQ38, l38, y38, z38⟩, st38⟩ := Jvm.LawKit.callS X36 hx (y := (⟨"com/example/chartpost/chartpost/http/PathSegmentsIsNamePinLaw", "ok", "(C)Z"⟩ : MethodName)) hown (mvT hZ (hw _ (List.mem_of_getElem? (i := 31) rfl))) (mvT hZ (hw _ (List.mem_of_getElem? (i := 32) rfl))) (mvT hZ (hw _ (List.mem_of_getElem? (i := 33) rfl))) (mvT hZ (hw _ (List.mem_of_getElem? (i := 34) rfl))) (by decide) (own_back (W := 0) (own_rmOk l Z a0 hw c0 T36.heap n0 Z0) hZ (hw _ (List.mem_of_getElem? (i := 34) rfl)) (hw _ (List.mem_of_getElem? (i := 33) rfl)) (by decide) (by decide)) (g := (mkF m 194 #[.val (.int p1), .val (.int p2), .val (.int p3), .val (.int p4), .val (.int (3 : Int32)), .val (.int c0), .val (.int c1), .val (.int c2), .val (.ref b26), .unset] [(.int c0)])) rfl (by rw [hml]; rfl) (argsL := [(.int c0)]) (rest := []) (lenOf own_pd23 rfl) rfl (by show 2 * 0 + _ ≤ _; exact Nat.le_of_eq rfl) (hb hby at_194) (fun _ _ => ⟨rfl, rfl, (by decide : 4 + 0 ≤ _), (by decide : 16 + 0 ≤ _)⟩)
      dsimp only [Pt.U, Pt.locs, Pt.cells, Pt.slots] at X38 l38 y38 z38 st38 hQ38
      replace X38 := own_cst X38 l38 y38 z38 (k2 := 4) (n2 := 16) rfl rfl
      clear l38 y38 z38
      obtain ⟨rfl, Nq38, eq38⟩ := hQ38
      have NF38 := Fr.app NF36 Nq38
      refine own_go st38 ?_
      show own_Go _ _ _ _ (T38.setTop (mkF m 197 #[.val (.int p1), .val (.int p2), .val (.int p3), .val (.int p4), .val (.int (3 : Int32)), .val (.int c0), .val (.int c1), .val (.int c2), .val (.ref b26), .unset] [(.int (own_okc c0))]))
      by_cases hoc0 : (own_okc c0) = (0 : Int32)
      · have _h := hoc0
        refine own_go (fun _ => XS.ifYes X38.here hx rfl (pc0 := 197) (pc' := 220) rfl (hb hby at_197) rfl ((if0 _ _).trans (teq hoc0).1) (by decide) (by decide)) ?_
        show own_Go _ _ _ _ (T38.setTop (mkF m 220 #[.val (.int p1), .val (.int p2), .val (.int p3), .val (.int p4), .val (.int (3 : Int32)), .val (.int c0), .val (.int c1), .val (.int c2), .val (.ref b26), .unset] []))
        refine own_go (fun _ => XS.iconst X38.here hx rfl (hb hby at_220)) ?_
        refine own_go (fun _ => XS.istore X38.here hx rfl (hb hby at_221) rfl (l' := #[.val (.int p1), .val (.int p2), .val (.int p3), .val (.int p4), .val (.int (3 : Int32)), .val (.int c0), .val (.int c1), .val (.int c2), .val (.ref b26), .val (.int (0 : Int32))]) rfl) ?_
        show own_Go _ _ _ _ (T38.setTop (mkF m 223 #[.val (.int p1), .val (.int p2), .val (.int p3), .val (.int p4), .val (.int (3 : Int32)), .val (.int c0), .val (.int c1), .val (.int c2), .val (.ref b26), .val (.int (0 : Int32))] []))
        exact J223 _ (by rw [own_cU c0a c0b, own_cU c1a c1b, own_cU c2a c2b]; simp [own_nmU, hoc0]) _ _ X38 NF38 eq38
      · have _h := hoc0
        refine own_go (fun _ => XS.ifNo X38.here hx rfl (hb hby at_197) rfl ((if0 _ _).trans (feq hoc0).1)) ?_
        show own_Go _ _ _ _ (T38.setTop (mkF m 200 #[.val (.int p1), .val (.int p2), .val (.int p3), .val (.int p4), .val (.int (3 : Int32)), .val (.int c0), .val (.int c1), .val (.int c2), .val (.ref b26), .unset] []))
        refine own_go (fun _ => XS.iload X38.here hx rfl (hb hby at_200) rfl) ?_
        show own_Go _ _ _ _ (T38.setTop (mkF m 202 #[.val (.int p1), .val (.int p2), .val (.int p3), .val (.int p4), .val (.int (3 : Int32)), .val (.int c0), .val (.int c1), .val (.int c2), .val (.ref b26), .unset] [(.int c1)]))
        obtain ⟨_, _, ⟨T39, L39, k39, n39⟩, -, X39, ⟨Lc39, hQ39, l39, y39, z39⟩, st39⟩ := Jvm.LawKit.callS X38 hx (y := (⟨"com/example/chartpost/chartpost/http/PathSegmentsIsNamePinLaw", "ok", "(C)Z"⟩ : MethodName)) hown (mvT hZ (hw _ (List.mem_of_getElem? (i := 31) rfl))) (mvT hZ (hw _ (List.mem_of_getElem? (i := 32) rfl))) (mvT hZ (hw _ (List.mem_of_getElem? (i := 33) rfl))) (mvT hZ (hw _ (List.mem_of_getElem? (i := 34) rfl))) (by decide) (own_back (W := 0) (own_rmOk l Z a0 hw c1 T36.heap n0 Z0) hZ (hw _ (List.mem_of_getElem? (i := 34) rfl)) (hw _ (List.mem_of_getElem? (i := 33) rfl)) (by decide) (by decide)) (g := (mkF m 202 #[.val (.int p1), .val (.int p2), .val (.int p3), .val (.int p4), .val (.int (3 : Int32)), .val (.int c0), .val (.int c1), .val (.int c2), .val (.ref b26), .unset] [(.int c1)])) rfl (by rw [hml]; rfl) (argsL := [(.int c1)]) (rest := []) (lenOf own_pd23 rfl) rfl (by show 2 * 0 + _ ≤ _; exact Nat.le_of_eq rfl) (hb hby at_202) (fun _ _ => ⟨rfl, eq38, (by decide : 4 + 0 ≤ _), (by decide : 16 + 0 ≤ _)⟩)
        dsimp only [Pt.U, Pt.locs, Pt.cells, Pt.slots] at X39 l39 y39 z39 st39 hQ39
        replace X39 := own_cst X39 l39 y39 z39 (k2 := 4) (n2 := 16) rfl rfl
        clear l39 y39 z39
        obtain ⟨rfl, Nq39, eq39⟩ := hQ39
        have NF39 := Fr.app NF38 Nq39
        refine own_go st39 ?_
        show own_Go _ _ _ _ (T39.setTop (mkF m 205 #[.val (.int p1), .val (.int p2), .val (.int p3), .val (.int p4), .val (.int (3 : Int32)), .val (.int c0), .val (.int c1), .val (.int c2), .val (.ref b26), .unset] [(.int (own_okc c1))]))
        by_cases hoc1 : (own_okc c1) = (0 : Int32)
        · have _h := hoc1
          refine own_go (fun _ => XS.ifYes X39.here hx rfl (pc0 := 205) (pc' := 220) rfl (hb hby at_205) rfl ((if0 _ _).trans (teq hoc1).1) (by decide) (by decide)) ?_
          show own_Go _ _ _ _ (T39.setTop (mkF m 220 #[.val (.int p1), .val (.int p2), .val (.int p3), .val (.int p4), .val (.int (3 : Int32)), .val (.int c0), .val (.int c1), .val (.int c2), .val (.ref b26), .unset] []))
          refine own_go (fun _ => XS.iconst X39.here hx rfl (hb hby at_220)) ?_
          refine own_go (fun _ => XS.istore X39.here hx rfl (hb hby at_221) rfl (l' := #[.val (.int p1), .val (.int p2), .val (.int p3), .val (.int p4), .val (.int (3 : Int32)), .val (.int c0), .val (.int c1), .val (.int c2), .val (.ref b26), .val (.int (0 : Int32))]) rfl) ?_
          show own_Go _ _ _ _ (T39.setTop (mkF m 223 #[.val (.int p1), .val (.int p2), .val (.int p3), .val (.int p4), .val (.int (3 : Int32)), .val (.int c0), .val (.int c1), .val (.int c2), .val (.ref b26), .val (.int (0 : Int32))] []))
          exact J223 _ (by rw [own_cU c0a c0b, own_cU c1a c1b, own_cU c2a c2b]; simp [own_nmU, hoc0, hoc1]) _ _ X39 NF39 eq39
        · have _h := hoc1
          refine own_go (fun _ => XS.ifNo X39.here hx rfl (hb hby at_205) rfl ((if0 _ _).trans (feq hoc1).1)) ?_
          show own_Go _ _ _ _ (T39.setTop (mkF m 208 #[.val (.int p1), .val (.int p2), .val (.int p3), .val (.int p4), .val (.int (3 : Int32)), .val (.int c0), .val (.int c1), .val (.int c2), .val (.ref b26), .unset] []))
          refine own_go (fun _ => XS.iload X39.here hx rfl (hb hby at_208) rfl) ?_
          show own_Go _ _ _ _ (T39.setTop (mkF m 210 #[.val (.int p1), .val (.int p2), .val (.int p3), .val (.int p4), .val (.int (3 : Int32)), .val (.int c0), .val (.int c1), .val (.int c2), .val (.ref b26), .unset] [(.int c2)]))
          obtain ⟨_, _, ⟨T40, L40, k40, n40⟩, -, X40, ⟨Lc40, hQ40, l40, y40, z40⟩, st40⟩ := Jvm.LawKit.callS X39 hx (y := (⟨"com/example/chartpost/chartpost/http/PathSegmentsIsNamePinLaw", "ok", "(C)Z"⟩ : MethodName)) hown (mvT hZ (hw _ (List.mem_of_getElem? (i := 31) rfl))) (mvT hZ (hw _ (List.mem_of_getElem? (i := 32) rfl))) (mvT hZ (hw _ (List.mem_of_getElem? (i := 33) rfl))) (mvT hZ (hw _ (List.mem_of_getElem? (i := 34) rfl))) (by decide) (own_back (W := 0) (own_rmOk l Z a0 hw c2 T36.heap n0 Z0) hZ (hw _ (List.mem_of_getElem? (i := 34) rfl)) (hw _ (List.mem_of_getElem? (i := 33) rfl)) (by decide) (by decide)) (g := (mkF m 210 #[.val (.int p1), .val (.int p2), .val (.int p3), .val (.int p4), .val (.int (3 : Int32)), .val (.int c0), .val (.int c1), .val (.int c2), .val (.ref b26), .unset] [(.int c2)])) rfl (by rw [hml]; rfl) (argsL := [(.int c2)]) (rest := []) (lenOf own_pd23 rfl) rfl (by show 2 * 0 + _ ≤ _; exact Nat.le_of_eq rfl) (hb hby at_210) (fun _ _ => ⟨rfl, eq39, (by decide : 4 + 0 ≤ _), (by decide : 16 + 0 ≤ _)⟩)
          dsimp only [Pt.U, Pt.locs, Pt.cells, Pt.slots] at X40 l40 y40 z40 st40 hQ40
          replace X40 := own_cst X40 l40 y40 z40 (k2 := 4) (n2 := 16) rfl rfl
          clear l40 y40 z40
          obtain ⟨rfl, Nq40, eq40⟩ := hQ40
          have NF40 := Fr.app NF39 Nq40
          refine own_go st40 ?_
          show own_Go _ _ _ _ (T40.setTop (mkF m 213 #[.val (.int p1), .val (.int p2), .val (.int p3), .val (.int p4), .val (.int (3 : Int32)), .val (.int c0), .val (.int c1), .val (.int c2), .val (.ref b26), .unset] [(.int (own_okc c2))]))
          by_cases hoc2 : (own_okc c2) = (0 : Int32)
          · have _h := hoc2
            refine own_go (fun _ => XS.ifYes X40.here hx rfl (pc0 := 213) (pc' := 220) rfl (hb hby at_213) rfl ((if0 _ _).trans (teq hoc2).1) (by decide) (by decide)) ?_
            show own_Go _ _ _ _ (T40.setTop (mkF m 220 #[.val (.int p1), .val (.int p2), .val (.int p3), .val (.int p4), .val (.int (3 : Int32)), .val (.int c0), .val (.int c1), .val (.int c2), .val (.ref b26), .unset] []))
            refine own_go (fun _ => XS.iconst X40.here hx rfl (hb hby at_220)) ?_
            refine own_go (fun _ => XS.istore X40.here hx rfl (hb hby at_221) rfl (l' := #[.val (.int p1), .val (.int p2), .val (.int p3), .val (.int p4), .val (.int (3 : Int32)), .val (.int c0), .val (.int c1), .val (.int c2), .val (.ref b26), .val (.int (0 : Int32))]) rfl) ?_
            show own_Go _ _ _ _ (T40.setTop (mkF m 223 #[.val (.int p1), .val (.int p2), .val (.int p3), .val (.int p4), .val (.int (3 : Int32)), .val (.int c0), .val (.int c1), .val (.int c2), .val (.ref b26), .val (.int (0 : Int32))] []))
            exact J223 _ (by rw [own_cU c0a c0b, own_cU c1a c1b, own_cU c2a c2b]; simp [own_nmU, hoc0, hoc1, hoc2]) _ _ X40 NF40 eq40
          · have _h := hoc2
            refine own_go (fun _ => XS.ifNo X40.here hx rfl (hb hby at_213) rfl ((if0 _ _).trans (feq hoc2).1)) ?_
            show own_Go _ _ _ _ (T40.setTop (mkF m 216 #[.val (.int p1), .val (.int p2), .val (.int p3), .val (.int p4), .val (.int (3 : Int32)), .val (.int c0), .val (.int c1), .val (.int c2), .val (.ref b26), .unset] []))
            refine own_go (fun _ => XS.iconst X40.here hx rfl (hb hby at_216)) ?_
            refine own_go (fun _ => XS.goto X40.here hx rfl (pc0 := 217) (pc' := 221) rfl (hb hby at_217) (by decide) (by decide)) ?_
            refine own_go (fun _ => XS.istore X40.here hx rfl (hb hby at_221) rfl (l' := #[.val (.int p1), .val (.int p2), .val (.int p3), .val (.int p4), .val (.int (3 : Int32)), .val (.int c0), .val (.int c1), .val (.int c2), .val (.ref b26), .val (.int (1 : Int32))]) rfl) ?_
            show own_Go _ _ _ _ (T40.setTop (mkF m 223 #[.val (.int p1), .val (.int p2), .val (.int p3), .val (.int p4), .val (.int (3 : Int32)), .val (.int c0), .val (.int c1), .val (.int c2), .val (.ref b26), .val (.int (1 : Int32))] []))
            exact J223 _ (by rw [own_cU c0a c0b, own_cU c1a c1b, own_cU c2a c2b]; simp [own_nmU, hoc0, hoc1, hoc2]) _ _ X40 NF40 eq40
set_option maxRecDepth 65536 in
set_option maxHeartbeats 40000000 in
theorem own_comes {Post : Tables → Env → Array Value → State → Outcome → State → Prop} (hpost : ∀ tb e args s v u, (limb_1_1.after args s (.returned v) u = true ∧ limb_1_2.after args s (.returned v) u = true ∧ True) → FramedW s (.returned v) u (Jvm.fieldLocs frame_1_writes args s ++ Jvm.arrayLocs frame_1_arrays args s ++ Jvm.staticLocs frame_1_statics s) 24 4224 → Post tb e args s (.returned v) u) :
    ArmFor flags0 classFile x code maxLocals ret World_1 tables_1 room_1 Calls_1 rest_1 Pre_1 Post := by
  intro l hfl _ _ p e ha hc hk s m args below hf hA hF happ hP
  obtain ⟨hcalls, hrest, hpre⟩ := hP
  obtain ⟨-, -, -, hnamed, -, -, -, hat⟩ := (Spec.applies_iff hf).mp happ
  obtain ⟨hg, hn⟩ := and_e (Cond.before_iff.mp (show (Jvm.Cond.and given_1 narrow_1).before args s = true from hpre))
  obtain ⟨hcount, hg⟩ := and_e hg
  obtain ⟨ha0, hg⟩ := and_e hg
  obtain ⟨ha1, hg⟩ := and_e hg
  obtain ⟨ha2, hg⟩ := and_e hg
  obtain ⟨w0, w1, w2, w3, rfl⟩ : ∃ w0 w1 w2 w3 : Value, args = #[w0, w1, w2, w3] := by
    have hs : args.size = 4 := by simpa [Cond.value, given_1] using hcount
    obtain ⟨L⟩ := args
    match L, hs with
    | [w0, w1, w2, w3], _ => exact ⟨w0, w1, w2, w3, rfl⟩
  have hw := fun d (hd : d ∈ tables_1) => atoms_spec (ws := Jvm.Cond.code x code maxLocals ret :: tables_1) hat d (List.mem_cons_of_mem _ hd)
  have hfit : Fit s := fun {y c} hc i hi => by
    obtain ⟨ha, rfl⟩ := Array.getElem?_eq_some_iff.mp hc
    have q := List.all_eq_true.mp ((Array.all_eq_true_iff_forall_mem.mp hF) _ (Array.getElem_mem ha)) i (List.mem_range.mpr hi)
    simpa [Array.getElem?_eq_getElem hi] using q
  obtain ⟨hsets, hown0⟩ := atoms_of _ (rest_1_c_eq ▸ (show rest_1_c.before _ s = true from hrest))
  have hr0 := Cond.before_iff.mp hown0
  obtain ⟨i0, ei0⟩ := is_v ha0
  obtain rfl : w0 = (.int i0) := Option.some.inj ei0
  obtain ⟨i1, ei1⟩ := is_v ha1
  obtain rfl : w1 = (.int i1) := Option.some.inj ei1
  obtain ⟨i2, ei2⟩ := is_v ha2
  obtain rfl : w2 = (.int i2) := Option.some.inj ei2
  obtain ⟨i3, ei3⟩ := is_v hg
  obtain rfl : w3 = (.int i3) := Option.some.inj ei3
  obtain ⟨cs, ecs⟩ := is_v (Cond.before_iff.mp (hsets _ (List.mem_of_getElem? (i := 1) rfl)))
  have S_C := Sta.start ecs (Or.inl (hsets _ (List.mem_of_getElem? (i := 0) rfl)))
  have hcs : ¬ cs = (0 : Int32) := own_nz ecs (hsets _ (List.mem_of_getElem? (i := 2) rfl))
  have eA := own_eqi (Cond.before_iff.mp (hsets _ (List.mem_of_getElem? (i := 12) rfl)))
  have eH := own_eqi (Cond.before_iff.mp (hsets _ (List.mem_of_getElem? (i := 15) rfl)))
  have eL := own_eqi (Cond.before_iff.mp (hsets _ (List.mem_of_getElem? (i := 18) rfl)))
  have S_A := Sta.start eA (Or.inl (hsets _ (List.mem_of_getElem? (i := 11) rfl)))
  have S_H := Sta.start eH (Or.inl (hsets _ (List.mem_of_getElem? (i := 14) rfl)))
  have S_L := Sta.start eL (Or.inl (hsets _ (List.mem_of_getElem? (i := 17) rfl)))
  obtain ⟨fmt, efmt, hfm⟩ := own_isr (hsets _ (List.mem_of_getElem? (i := 8) rfl))
  have S_F := Sta.start efmt (Or.inl (hsets _ (List.mem_of_getElem? (i := 7) rfl)))
  have Hst : CHv s consts_1 s.vm s.heap := CHv.start (own_ew hw) hcalls.1 (hsets _ (List.mem_of_getElem? (i := 2) rfl)) (hw _ (List.mem_of_getElem? (i := 20) rfl)) (hw _ (List.mem_of_getElem? (i := 2) rfl))
  obtain ⟨n, o, h1, h2, h3, _, L, rfl, ⟨rfl, N⟩, hq⟩ := own_rm0 l s _ hw i0 i1 i2 i3 cs fmt s.heap s.heap.size (Nat.le_refl _) (Old.start s) S_C hcs S_F hfm S_A S_H S_L p e ha hc hk s m _ below hf ((Spec.applies_iff_loose hf).mp happ).1 ⟨rfl, State.Warmed39.refl s, rfl, Hst⟩ trivial
  refine ⟨n, _, h1, h2, h3, hpost _ _ _ _ _ _ ⟨Cond.after_iff.mpr rfl, Cond.after_iff.mpr (eq_i res_at (Term.int_eval (1)) rfl), trivial⟩ ⟨hq.1, hq.2.1, hq.2.2.1, (hq.2.2.2.sift fun y hy => Or.inr (N y hy)).mono (by decide) (by decide)⟩⟩
theorem main_1_1 : Claimed_1_1 := own_comes fun _ _ _ _ _ _ h hF => ⟨h.1, hF⟩
theorem main_1_2 : Claimed_1_2 := own_comes fun _ _ _ _ _ _ h hF => ⟨h.2.1, hF⟩
end Jvm.Pilot.@@N@@
namespace Jvm.Pilot.@@N@@
open Jvm Jvm.ClassFile Sem Op Lib Jvm.Free Jvm.Stand Jvm.Pilot.@@N@@.Jvm.D
/-! MADE BY PROGRAM (witnessworld.py) out of the Statement's table words and the real class files: 21 classes; the members and pool entries that the words name. The judged class is class 1, her method 2. -/
namespace start1
open Jvm.ClassFile
def u (s : String) : CpInfo := .utf8 (stringToUtf16 s)
/-- a pool by its gaps: so many unusable entries, then the entry; so many at the end -/
def gap : Nat → List CpInfo → List CpInfo
  | 0, r => r
  | n + 1, r => .unusable :: gap n r
def poolList (es : List (Nat × CpInfo)) (last : Nat) : List CpInfo := es.foldr (fun e r => gap e.1 (e.2 :: r)) (gap last [])
def pool (es : List (Nat × CpInfo)) (last : Nat) : Array CpInfo := ⟨poolList es last⟩
def fileOf (pool : Array CpInfo) (this : Nat) (attrs : Array Attribute := #[]) (ms : Array MethodInfo := #[]) (fl : Nat := 33) (sup : Nat := 0) (ifs : Array Nat := #[]) (fds : Array FieldInfo := #[]) : ClassFile where
  minorVersion := 0
  majorVersion := 65
  constantPool := pool
  accessFlags := fl
  thisClass := this
  superClass := sup
  interfaces := ifs
  fields := fds
  methods := ms
  attributes := attrs
def plain (name : String) (sup : Option ClassId) : Class where
  name := name
  kind := .ordinary
  loader := none
  accessFlags := 33
  super := sup
  interfaces := #[]
  cf := none
  fields := #[]
  methods := #[]
  instanceTypes := #[]
  staticTypes := #[]
  resolved := #[]
  callSites := []
  init := .initialized
  statics := none
  mirror := none

def pool0 : Array CpInfo := pool [(5, u "<init>"), (0, u "()V"), (1, .class_ 10), (1, u "java/lang/Object")] 113

def k0c0 : Code := { maxStack := 0, maxLocals := 1, code := object_method_1_code, exceptionTable := #[], attributes := #[] }
def k0m0 : Method := { name := "<init>", desc := "()V", sig := { parameters := [], returnType := none }, accessFlags := 1, code := some k0c0 }
/-- java/lang/Object -/
def k0 : Class := { plain "java/lang/Object" none with
  accessFlags := 33
  interfaces := #[]
  cf := some (fileOf pool0 8 #[] #[{ accessFlags := 1, nameIndex := 5, descriptorIndex := 6, attributes := #[] }] 33 0 #[] #[])
  fields := #[]
  methods := #[k0m0]
  instanceTypes := #[]
  staticTypes := #[]
  resolved := Array.replicate 124 none
  statics := none }

def pool1 : Array CpInfo := pool [(2, .class_ 4), (1, u "java/lang/Object"), (0, u "<init>"), (0, u "()V"), (0, .integer 65535), (0, .class_ 9), (0, u "java/lang/String"), (0, .methodref 8 11), (0, .nameAndType 5 12), (0, u "([C)V"), (0, .methodref 14 15), (0, .class_ 16), (0, .nameAndType 17 18), (0, u "com/example/chartpost/chartpost/http/PathSegmentsIsNamePinLaw"), (0, u "ok"), (0, u "(C)Z"), (0, .methodref 20 21), (0, .class_ 22), (0, .nameAndType 23 24), (0, u "com/example/chartpost/chartpost/http/PathSegments"), (0, u "isName"), (0, u "(Ljava/lang/String;)Z"), (3, u "law"), (0, u "(IIII)Z")] 2

def k1m0 : Method := { name := "<init>", desc := "()V", sig := { parameters := [], returnType := none }, accessFlags := 2, code := none }
def k1c1 : Code := { maxStack := 2, maxLocals := 1, code := method_2_code, exceptionTable := #[], attributes := #[] }
def k1m1 : Method := { name := "ok", desc := "(C)Z", sig := { parameters := [.char], returnType := some .boolean }, accessFlags := 10, code := some k1c1 }
def k1c2 : Code := { maxStack := 6, maxLocals := 10, code := code, exceptionTable := #[], attributes := #[] }
def k1m2 : Method := { name := "law", desc := "(IIII)Z", sig := { parameters := [.int, .int, .int, .int], returnType := some .boolean }, accessFlags := 9, code := some k1c2 }
/-- com/example/chartpost/chartpost/http/PathSegmentsIsNamePinLaw -/
def k1 : Class := { plain "com/example/chartpost/chartpost/http/PathSegmentsIsNamePinLaw" (some 0) with
  accessFlags := 49
  interfaces := #[]
  cf := some (fileOf pool1 14 #[] #[{ accessFlags := 2, nameIndex := 5, descriptorIndex := 6, attributes := #[] }, { accessFlags := 10, nameIndex := 17, descriptorIndex := 18, attributes := #[] }, { accessFlags := 9, nameIndex := 28, descriptorIndex := 29, attributes := #[] }] 49 2 #[] #[])
  fields := #[]
  methods := #[k1m0, k1m1, k1m2]
  instanceTypes := #[]
  staticTypes := #[]
  resolved := Array.replicate 32 none
  statics := none }

def pool2 : Array CpInfo := pool [(1, .class_ 2), (0, u "java/io/Serializable"), (0, .class_ 4), (0, u "java/lang/Object")] 2

/-- java/io/Serializable -/
def k2 : Class := { plain "java/io/Serializable" (some 0) with
  accessFlags := 1537
  interfaces := #[]
  cf := some (fileOf pool2 1 #[] #[] 1537 3 #[] #[])
  fields := #[]
  methods := #[]
  instanceTypes := #[]
  staticTypes := #[]
  resolved := Array.replicate 7 none
  statics := none }

def pool3 : Array CpInfo := pool [(1, .class_ 2), (0, u "java/lang/Comparable"), (0, .class_ 4), (0, u "java/lang/Object")] 7

/-- java/lang/Comparable -/
def k3 : Class := { plain "java/lang/Comparable" (some 0) with
  accessFlags := 1537
  interfaces := #[]
  cf := some (fileOf pool3 1 #[] #[] 1537 3 #[] #[])
  fields := #[]
  methods := #[]
  instanceTypes := #[]
  staticTypes := #[]
  resolved := Array.replicate 12 none
  statics := none }

def pool4 : Array CpInfo := pool [(2, .class_ 4), (1, u "java/lang/CharSequence"), (42, .class_ 48), (0, u "java/lang/CharSequence$1CodePointIterator"), (10, .class_ 60), (0, u "java/lang/CharSequence$1CharIterator"), (5, .class_ 67), (0, u "java/lang/Object")] 63

/-- java/lang/CharSequence -/
def k4 : Class := { plain "java/lang/CharSequence" (some 0) with
  accessFlags := 1537
  interfaces := #[]
  cf := some (fileOf pool4 2 #[.nestMembers #[47, 59]] #[] 1537 66 #[] #[])
  fields := #[]
  methods := #[]
  instanceTypes := #[]
  staticTypes := #[]
  resolved := Array.replicate 131 none
  statics := none }

def pool5 : Array CpInfo := pool [(1, .class_ 2), (0, u "java/lang/constant/Constable"), (0, .class_ 4), (0, u "java/lang/Object")] 6

/-- java/lang/constant/Constable -/
def k5 : Class := { plain "java/lang/constant/Constable" (some 0) with
  accessFlags := 1537
  interfaces := #[]
  cf := some (fileOf pool5 1 #[] #[] 1537 3 #[] #[])
  fields := #[]
  methods := #[]
  instanceTypes := #[]
  staticTypes := #[]
  resolved := Array.replicate 11 none
  statics := none }

def pool6 : Array CpInfo := pool [(1, .class_ 2), (0, u "java/lang/constant/ConstantDesc"), (0, .class_ 4), (0, u "java/lang/Object")] 32

/-- java/lang/constant/ConstantDesc -/
def k6 : Class := { plain "java/lang/constant/ConstantDesc" (some 0) with
  accessFlags := 1537
  interfaces := #[]
  cf := some (fileOf pool6 1 #[] #[] 1537 3 #[] #[])
  fields := #[]
  methods := #[]
  instanceTypes := #[]
  staticTypes := #[]
  resolved := Array.replicate 37 none
  statics := none }

def pool7 : Array CpInfo := pool [(1, .methodref 2 3), (0, .class_ 4), (0, .nameAndType 5 6), (0, u "java/lang/Object"), (0, u "<init>"), (0, u "()V"), (0, .string 8), (0, u ""), (0, .fieldref 10 11), (0, .class_ 12), (0, .nameAndType 13 14), (0, u "java/lang/String"), (0, u "value"), (0, u "[B"), (0, .fieldref 10 16), (0, .nameAndType 17 18), (0, u "coder"), (0, u "B"), (2, u "hash"), (0, u "I"), (2, u "hashIsZero"), (0, u "Z"), (0, .methodref 10 28), (0, .nameAndType 5 29), (0, u "([CIILjava/lang/Void;)V"), (8, .fieldref 10 39), (0, .nameAndType 40 26), (0, u "COMPACT_STRINGS"), (1, .class_ 44), (1, u "java/lang/StringUTF16"), (0, u "compress"), (1, .methodref 42 48), (0, .nameAndType 49 50), (0, u "coderFromArrayLen"), (0, u "([BI)B"), (56, .class_ 109), (1, u "java/lang/StringLatin1"), (32, u "()Z"), (34, .methodref 42 178), (0, .nameAndType 45 179), (0, u "([CII)[B"), (154, u "()I"), (0, .methodref 10 336), (0, .nameAndType 17 337), (0, u "()B"), (25, u "([BI)C"), (27, u "(II)V"), (35, u "(I)C"), (64, .methodref 10 493), (0, .nameAndType 494 142), (0, u "isLatin1"), (0, .methodref 107 496), (0, .nameAndType 497 363), (0, u "charAt"), (0, .methodref 42 496), (2, u "checkIndex"), (3, .methodref 10 506), (0, .nameAndType 507 334), (0, u "length"), (33, .methodref 107 542), (0, .nameAndType 543 544), (0, u "equals"), (0, u "([B[B)Z"), (28, u "(Ljava/lang/Object;)Z"), (1, .class_ 576), (0, u "java/lang/CharSequence"), (22, u "CASE_INSENSITIVE_ORDER"), (0, u "Ljava/util/Comparator;"), (32, .methodref 10 634), (0, .nameAndType 635 636), (0, u "indexOf"), (0, u "(II)I"), (0, .methodref 107 638), (0, .nameAndType 635 639), (0, u "([BIII)I"), (52, u "isEmpty"), (72, u "(I)I"), (244, u "([C)V"), (42, .fieldref 1054 1055), (0, .class_ 1056), (0, .nameAndType 1057 1058), (0, u "jdk/internal/util/Preconditions"), (0, u "SIOOBE_FORMATTER"), (0, u "Ljava/util/function/BiFunction;"), (0, .methodref 1054 1060), (0, .nameAndType 501 1061), (0, u "(IILjava/util/function/BiFunction;)I"), (39, u "serialPersistentFields"), (0, u "[Ljava/io/ObjectStreamField;"), (0, .class_ 1104), (0, u "java/lang/String$CaseInsensitiveComparator"), (1, .class_ 1107), (0, u "java/io/Serializable"), (0, .class_ 1109), (0, u "java/lang/Comparable"), (0, .class_ 1111), (0, u "java/lang/constant/Constable"), (0, .class_ 1113), (0, u "java/lang/constant/ConstantDesc"), (2, u "serialVersionUID"), (0, u "J"), (3, u "REPL"), (0, u "C"), (2, u "LATIN1"), (1, u "UTF16")] 323

def k7m0 : Method := { name := "<init>", desc := "()V", sig := { parameters := [], returnType := none }, accessFlags := 1, code := none }
def k7c1 : Code := { maxStack := 5, maxLocals := 2, code := jdk_42_method_3_code, exceptionTable := #[], attributes := #[] }
def k7m1 : Method := { name := "<init>", desc := "([C)V", sig := { parameters := [(.array .char)], returnType := none }, accessFlags := 1, code := some k7c1 }
def k7c2 : Code := { maxStack := 2, maxLocals := 1, code := jdk_42_method_54_code, exceptionTable := #[], attributes := #[] }
def k7m2 : Method := { name := "length", desc := "()I", sig := { parameters := [], returnType := some .int }, accessFlags := 1, code := some k7c2 }
def k7c3 : Code := { maxStack := 1, maxLocals := 1, code := jdk_42_method_55_code, exceptionTable := #[], attributes := #[] }
def k7m3 : Method := { name := "isEmpty", desc := "()Z", sig := { parameters := [], returnType := some .boolean }, accessFlags := 1, code := some k7c3 }
def k7c4 : Code := { maxStack := 2, maxLocals := 2, code := jdk_42_method_56_code, exceptionTable := #[], attributes := #[] }
def k7m4 : Method := { name := "charAt", desc := "(I)C", sig := { parameters := [.int], returnType := some .char }, accessFlags := 1, code := some k7c4 }
def k7c5 : Code := { maxStack := 2, maxLocals := 3, code := jdk_42_method_66_code, exceptionTable := #[], attributes := #[] }
def k7m5 : Method := { name := "equals", desc := "(Ljava/lang/Object;)Z", sig := { parameters := [(.object "java/lang/Object")], returnType := some .boolean }, accessFlags := 1, code := some k7c5 }
def k7c6 : Code := { maxStack := 3, maxLocals := 2, code := jdk_42_method_79_code, exceptionTable := #[], attributes := #[] }
def k7m6 : Method := { name := "indexOf", desc := "(I)I", sig := { parameters := [.int], returnType := some .int }, accessFlags := 1, code := some k7c6 }
def k7c7 : Code := { maxStack := 4, maxLocals := 3, code := jdk_42_method_80_code, exceptionTable := #[], attributes := #[] }
def k7m7 : Method := { name := "indexOf", desc := "(II)I", sig := { parameters := [.int, .int], returnType := some .int }, accessFlags := 1, code := some k7c7 }
def k7c8 : Code := { maxStack := 4, maxLocals := 6, code := jdk_42_method_149_code, exceptionTable := #[], attributes := #[] }
def k7m8 : Method := { name := "<init>", desc := "([CIILjava/lang/Void;)V", sig := { parameters := [(.array .char), .int, .int, (.object "java/lang/Void")], returnType := none }, accessFlags := 2, code := some k7c8 }
def k7c9 : Code := { maxStack := 1, maxLocals := 1, code := jdk_42_method_152_code, exceptionTable := #[], attributes := #[] }
def k7m9 : Method := { name := "coder", desc := "()B", sig := { parameters := [], returnType := some .byte }, accessFlags := 0, code := some k7c9 }
def k7c10 : Code := { maxStack := 1, maxLocals := 1, code := jdk_42_method_154_code, exceptionTable := #[], attributes := #[] }
def k7m10 : Method := { name := "isLatin1", desc := "()Z", sig := { parameters := [], returnType := some .boolean }, accessFlags := 0, code := some k7c10 }
def k7c11 : Code := { maxStack := 3, maxLocals := 2, code := jdk_42_method_155_code, exceptionTable := #[], attributes := #[] }
def k7m11 : Method := { name := "checkIndex", desc := "(II)V", sig := { parameters := [.int, .int], returnType := none }, accessFlags := 8, code := some k7c11 }
/-- java/lang/String -/
def k7 : Class := { plain "java/lang/String" (some 0) with
  accessFlags := 49
  interfaces := #[2, 3, 4, 5, 6]
  cf := some (fileOf pool7 10 #[.nestMembers #[1103]] #[{ accessFlags := 1, nameIndex := 5, descriptorIndex := 6, attributes := #[] }, { accessFlags := 1, nameIndex := 5, descriptorIndex := 1010, attributes := #[] }, { accessFlags := 1, nameIndex := 507, descriptorIndex := 334, attributes := #[] }, { accessFlags := 1, nameIndex := 692, descriptorIndex := 142, attributes := #[] }, { accessFlags := 1, nameIndex := 497, descriptorIndex := 427, attributes := #[] }, { accessFlags := 1, nameIndex := 543, descriptorIndex := 573, attributes := #[] }, { accessFlags := 1, nameIndex := 635, descriptorIndex := 765, attributes := #[] }, { accessFlags := 1, nameIndex := 635, descriptorIndex := 636, attributes := #[] }, { accessFlags := 2, nameIndex := 5, descriptorIndex := 29, attributes := #[] }, { accessFlags := 0, nameIndex := 17, descriptorIndex := 337, attributes := #[] }, { accessFlags := 0, nameIndex := 494, descriptorIndex := 142, attributes := #[] }, { accessFlags := 8, nameIndex := 501, descriptorIndex := 391, attributes := #[] }] 49 2 #[1106, 1108, 575, 1110, 1112] #[{ accessFlags := 18, nameIndex := 13, descriptorIndex := 14, attributes := #[] }, { accessFlags := 18, nameIndex := 17, descriptorIndex := 18, attributes := #[] }, { accessFlags := 2, nameIndex := 21, descriptorIndex := 22, attributes := #[] }, { accessFlags := 2, nameIndex := 25, descriptorIndex := 26, attributes := #[] }, { accessFlags := 26, nameIndex := 1116, descriptorIndex := 1117, attributes := #[] }, { accessFlags := 24, nameIndex := 40, descriptorIndex := 26, attributes := #[] }, { accessFlags := 26, nameIndex := 1101, descriptorIndex := 1102, attributes := #[] }, { accessFlags := 26, nameIndex := 1121, descriptorIndex := 1122, attributes := #[] }, { accessFlags := 25, nameIndex := 599, descriptorIndex := 600, attributes := #[] }, { accessFlags := 24, nameIndex := 1125, descriptorIndex := 18, attributes := #[] }, { accessFlags := 24, nameIndex := 1127, descriptorIndex := 18, attributes := #[] }])
  fields := #[{ name := "value", type := (.array .byte), accessFlags := 18, slot := 0, constantValue := 0 }, { name := "coder", type := .byte, accessFlags := 18, slot := 1, constantValue := 0 }, { name := "hash", type := .int, accessFlags := 2, slot := 2, constantValue := 0 }, { name := "hashIsZero", type := .boolean, accessFlags := 2, slot := 3, constantValue := 0 }, { name := "serialVersionUID", type := .long, accessFlags := 26, slot := 0, constantValue := 0 }, { name := "COMPACT_STRINGS", type := .boolean, accessFlags := 24, slot := 1, constantValue := 0 }, { name := "serialPersistentFields", type := (.array (.object "java/io/ObjectStreamField")), accessFlags := 26, slot := 2, constantValue := 0 }, { name := "REPL", type := .char, accessFlags := 26, slot := 3, constantValue := 0 }, { name := "CASE_INSENSITIVE_ORDER", type := (.object "java/util/Comparator"), accessFlags := 25, slot := 4, constantValue := 0 }, { name := "LATIN1", type := .byte, accessFlags := 24, slot := 5, constantValue := 0 }, { name := "UTF16", type := .byte, accessFlags := 24, slot := 6, constantValue := 0 }]
  methods := #[k7m0, k7m1, k7m2, k7m3, k7m4, k7m5, k7m6, k7m7, k7m8, k7m9, k7m10, k7m11]
  instanceTypes := #[(.array .byte), .byte, .int, .boolean]
  staticTypes := #[.long, .boolean, (.array (.object "java/io/ObjectStreamField")), .char, (.object "java/util/Comparator"), .byte, .byte]
  resolved := Array.replicate 1451 none
  statics := some 0 }

def pool8 : Array CpInfo := pool [(3, .class_ 4), (0, u "java/lang/String"), (1, .class_ 8), (1, u "java/lang/Object"), (0, u "<init>"), (0, u "()V"), (0, .methodref 12 13), (0, .class_ 14), (0, .nameAndType 15 16), (0, u "java/lang/StringUTF16"), (0, u "newBytesLength"), (0, u "(I)I"), (3, .integer 1073741823), (23, .fieldref 12 45), (0, .nameAndType 46 47), (0, u "$assertionsDisabled"), (0, u "Z"), (0, .methodref 12 49), (0, .nameAndType 50 51), (0, u "length"), (0, u "([B)I"), (7, .fieldref 12 60), (0, .nameAndType 61 62), (0, u "HI_BYTE_SHIFT"), (0, u "I"), (0, .fieldref 12 64), (0, .nameAndType 65 62), (0, u "LO_BYTE_SHIFT"), (1, .methodref 12 68), (0, .nameAndType 69 70), (0, u "checkIndex"), (0, u "(I[B)V"), (0, .methodref 12 72), (0, .nameAndType 73 74), (0, u "getChar"), (0, u "([BI)C"), (32, .methodref 12 108), (0, .nameAndType 109 110), (0, u "newBytesFor"), (0, u "(I)[B"), (0, .methodref 12 112), (0, .nameAndType 113 114), (0, u "putChar"), (0, u "([BII)V"), (0, .methodref 12 116), (0, .nameAndType 117 118), (0, u "compress"), (0, u "([CI[BII)I"), (0, .methodref 12 120), (0, .nameAndType 121 122), (0, u "toBytes"), (0, u "([CII)[B"), (138, u "coderFromArrayLen"), (0, u "([BI)B"), (106, .class_ 371), (1, u "java/lang/StringUTF16$LinesSpliterator"), (20, u "charAt"), (21, .methodref 3 415), (0, .nameAndType 69 416), (0, u "(II)V"), (13, u "MAX_LENGTH"), (196, .class_ 628), (0, u "java/lang/StringUTF16$CodePointsSpliterator"), (0, .class_ 630), (0, u "java/lang/StringUTF16$CharsSpliterator")] 4

def k8m0 : Method := { name := "<init>", desc := "()V", sig := { parameters := [], returnType := none }, accessFlags := 0, code := none }
def k8c1 : Code := { maxStack := 1, maxLocals := 1, code := jdk_52_method_2_code, exceptionTable := #[], attributes := #[] }
def k8m1 : Method := { name := "newBytesFor", desc := "(I)[B", sig := { parameters := [.int], returnType := some (.array .byte) }, accessFlags := 9, code := some k8c1 }
def k8c2 : Code := { maxStack := 4, maxLocals := 1, code := jdk_52_method_3_code, exceptionTable := #[], attributes := #[] }
def k8m2 : Method := { name := "newBytesLength", desc := "(I)I", sig := { parameters := [.int], returnType := some .int }, accessFlags := 9, code := some k8c2 }
def k8c3 : Code := { maxStack := 4, maxLocals := 3, code := jdk_52_method_4_code, exceptionTable := #[], attributes := #[] }
def k8m3 : Method := { name := "putChar", desc := "([BII)V", sig := { parameters := [(.array .byte), .int, .int], returnType := none }, accessFlags := 8, code := some k8c3 }
def k8c4 : Code := { maxStack := 3, maxLocals := 2, code := jdk_52_method_5_code, exceptionTable := #[], attributes := #[] }
def k8m4 : Method := { name := "getChar", desc := "([BI)C", sig := { parameters := [(.array .byte), .int], returnType := some .char }, accessFlags := 8, code := some k8c4 }
def k8c5 : Code := { maxStack := 2, maxLocals := 1, code := jdk_52_method_6_code, exceptionTable := #[], attributes := #[] }
def k8m5 : Method := { name := "length", desc := "([B)I", sig := { parameters := [(.array .byte)], returnType := some .int }, accessFlags := 9, code := some k8c5 }
def k8c6 : Code := { maxStack := 4, maxLocals := 5, code := jdk_52_method_14_code, exceptionTable := #[], attributes := #[] }
def k8m6 : Method := { name := "toBytes", desc := "([CII)[B", sig := { parameters := [(.array .char), .int, .int], returnType := some (.array .byte) }, accessFlags := 9, code := some k8c6 }
def k8c7 : Code := { maxStack := 2, maxLocals := 2, code := jdk_52_method_15_code, exceptionTable := #[], attributes := #[] }
def k8m7 : Method := { name := "coderFromArrayLen", desc := "([BI)B", sig := { parameters := [(.array .byte), .int], returnType := some .byte }, accessFlags := 8, code := some k8c7 }
def k8c8 : Code := { maxStack := 5, maxLocals := 6, code := jdk_52_method_16_code, exceptionTable := #[], attributes := #[] }
def k8m8 : Method := { name := "compress", desc := "([CII)[B", sig := { parameters := [(.array .char), .int, .int], returnType := some (.array .byte) }, accessFlags := 9, code := some k8c8 }
def k8c9 : Code := { maxStack := 3, maxLocals := 7, code := jdk_52_method_21_code, exceptionTable := #[], attributes := #[] }
def k8m9 : Method := { name := "compress", desc := "([CI[BII)I", sig := { parameters := [(.array .char), .int, (.array .byte), .int, .int], returnType := some .int }, accessFlags := 9, code := some k8c9 }
def k8c10 : Code := { maxStack := 2, maxLocals := 2, code := jdk_52_method_83_code, exceptionTable := #[], attributes := #[] }
def k8m10 : Method := { name := "charAt", desc := "([BI)C", sig := { parameters := [(.array .byte), .int], returnType := some .char }, accessFlags := 9, code := some k8c10 }
def k8c11 : Code := { maxStack := 2, maxLocals := 2, code := jdk_52_method_91_code, exceptionTable := #[], attributes := #[] }
def k8m11 : Method := { name := "checkIndex", desc := "(I[B)V", sig := { parameters := [.int, (.array .byte)], returnType := none }, accessFlags := 9, code := some k8c11 }
/-- java/lang/StringUTF16 -/
def k8 : Class := { plain "java/lang/StringUTF16" (some 0) with
  accessFlags := 48
  interfaces := #[]
  cf := some (fileOf pool8 12 #[.nestMembers #[627, 629, 369]] #[{ accessFlags := 0, nameIndex := 9, descriptorIndex := 10, attributes := #[] }, { accessFlags := 9, nameIndex := 109, descriptorIndex := 110, attributes := #[] }, { accessFlags := 9, nameIndex := 15, descriptorIndex := 16, attributes := #[] }, { accessFlags := 8, nameIndex := 113, descriptorIndex := 114, attributes := #[] }, { accessFlags := 8, nameIndex := 73, descriptorIndex := 74, attributes := #[] }, { accessFlags := 9, nameIndex := 50, descriptorIndex := 51, attributes := #[] }, { accessFlags := 9, nameIndex := 121, descriptorIndex := 122, attributes := #[] }, { accessFlags := 8, nameIndex := 261, descriptorIndex := 262, attributes := #[] }, { accessFlags := 9, nameIndex := 117, descriptorIndex := 122, attributes := #[] }, { accessFlags := 9, nameIndex := 117, descriptorIndex := 118, attributes := #[] }, { accessFlags := 9, nameIndex := 392, descriptorIndex := 74, attributes := #[] }, { accessFlags := 9, nameIndex := 69, descriptorIndex := 70, attributes := #[] }] 48 6 #[] #[{ accessFlags := 26, nameIndex := 61, descriptorIndex := 62, attributes := #[] }, { accessFlags := 26, nameIndex := 65, descriptorIndex := 62, attributes := #[] }, { accessFlags := 24, nameIndex := 430, descriptorIndex := 62, attributes := #[] }, { accessFlags := 4120, nameIndex := 46, descriptorIndex := 47, attributes := #[] }])
  fields := #[{ name := "HI_BYTE_SHIFT", type := .int, accessFlags := 26, slot := 0, constantValue := 0 }, { name := "LO_BYTE_SHIFT", type := .int, accessFlags := 26, slot := 1, constantValue := 0 }, { name := "MAX_LENGTH", type := .int, accessFlags := 24, slot := 2, constantValue := 0 }, { name := "$assertionsDisabled", type := .boolean, accessFlags := 4120, slot := 3, constantValue := 0 }]
  methods := #[k8m0, k8m1, k8m2, k8m3, k8m4, k8m5, k8m6, k8m7, k8m8, k8m9, k8m10, k8m11]
  instanceTypes := #[]
  staticTypes := #[.int, .int, .int, .boolean]
  resolved := Array.replicate 635 none
  statics := some 1 }

def pool9 : Array CpInfo := pool [(2, .class_ 4), (1, u "java/lang/Object"), (0, u "<init>"), (0, u "()V"), (0, .methodref 8 9), (0, .class_ 10), (0, .nameAndType 11 12), (0, u "java/lang/String"), (0, u "isEmpty"), (0, u "()Z"), (0, .string 14), (0, u "."), (0, .methodref 8 16), (0, .nameAndType 17 18), (0, u "equals"), (0, u "(Ljava/lang/Object;)Z"), (0, .string 20), (0, u ".."), (0, .methodref 8 22), (0, .nameAndType 23 24), (0, u "length"), (0, u "()I"), (0, .class_ 26), (0, u "com/example/chartpost/chartpost/http/PathSegments"), (0, .string 28), (0, u "ABCDEFGHIJKLMNOPQRSTUVWXYZabcdefghijklmnopqrstuvwxyz0123456789-._~!$&'()*+,;=:@"), (0, .methodref 8 30), (0, .nameAndType 31 32), (0, u "charAt"), (0, u "(I)C"), (0, .methodref 8 34), (0, .nameAndType 35 36), (0, u "indexOf"), (0, u "(I)I"), (71, u "NAME_CHARACTERS"), (0, u "Ljava/lang/String;"), (3, u "isName"), (0, u "(Ljava/lang/String;)Z")] 26

def k9m0 : Method := { name := "<init>", desc := "()V", sig := { parameters := [], returnType := none }, accessFlags := 2, code := none }
def k9c1 : Code := { maxStack := 3, maxLocals := 2, code := prog_30_method_2_code, exceptionTable := #[], attributes := #[] }
def k9m1 : Method := { name := "isName", desc := "(Ljava/lang/String;)Z", sig := { parameters := [(.object "java/lang/String")], returnType := some .boolean }, accessFlags := 9, code := some k9c1 }
/-- com/example/chartpost/chartpost/http/PathSegments -/
def k9 : Class := { plain "com/example/chartpost/chartpost/http/PathSegments" (some 0) with
  accessFlags := 49
  interfaces := #[]
  cf := some (fileOf pool9 25 #[] #[{ accessFlags := 2, nameIndex := 5, descriptorIndex := 6, attributes := #[] }, { accessFlags := 9, nameIndex := 113, descriptorIndex := 114, attributes := #[] }] 49 2 #[] #[{ accessFlags := 26, nameIndex := 108, descriptorIndex := 109, attributes := #[] }])
  fields := #[{ name := "NAME_CHARACTERS", type := (.object "java/lang/String"), accessFlags := 26, slot := 0, constantValue := 0 }]
  methods := #[k9m0, k9m1]
  instanceTypes := #[]
  staticTypes := #[(.object "java/lang/String")]
  resolved := Array.replicate 141 none
  statics := none }

def pool10 : Array CpInfo := pool [(1, .class_ 2), (0, u "java/lang/String"), (1, .class_ 6), (1, u "java/lang/Object"), (0, u "<init>"), (0, u "()V"), (0, .methodref 1 10), (0, .nameAndType 11 12), (0, u "checkIndex"), (0, u "(II)V"), (1, .class_ 16), (1, u "java/lang/StringLatin1"), (21, .methodref 39 40), (0, .class_ 41), (0, .nameAndType 42 43), (0, u "java/lang/Math"), (0, u "min"), (0, u "(II)I"), (9, u "([BI)C"), (34, .methodref 14 89), (0, .nameAndType 90 91), (0, u "canEncode"), (0, u "(I)Z"), (0, .methodref 39 93), (0, .nameAndType 94 43), (0, u "max"), (0, .methodref 14 96), (0, .nameAndType 97 98), (0, u "indexOfChar"), (0, u "([BIII)I"), (2, u "indexOf"), (19, u "$assertionsDisabled"), (0, u "Z"), (98, .class_ 223), (1, u "java/lang/StringLatin1$LinesSpliterator"), (28, u "charAt"), (28, u "equals"), (0, u "([B[B)Z"), (107, .class_ 391), (0, u "java/lang/StringLatin1$CharsSpliterator")] 3

def k10m0 : Method := { name := "<init>", desc := "()V", sig := { parameters := [], returnType := none }, accessFlags := 0, code := none }
def k10c1 : Code := { maxStack := 2, maxLocals := 2, code := jdk_43_method_2_code, exceptionTable := #[], attributes := #[] }
def k10m1 : Method := { name := "charAt", desc := "([BI)C", sig := { parameters := [(.array .byte), .int], returnType := some .char }, accessFlags := 9, code := some k10c1 }
def k10c2 : Code := { maxStack := 2, maxLocals := 1, code := jdk_43_method_4_code, exceptionTable := #[], attributes := #[] }
def k10m2 : Method := { name := "canEncode", desc := "(I)Z", sig := { parameters := [.int], returnType := some .boolean }, accessFlags := 9, code := some k10c2 }
def k10c3 : Code := { maxStack := 3, maxLocals := 3, code := jdk_43_method_13_code, exceptionTable := #[], attributes := #[] }
def k10m3 : Method := { name := "equals", desc := "([B[B)Z", sig := { parameters := [(.array .byte), (.array .byte)], returnType := some .boolean }, accessFlags := 9, code := some k10c3 }
def k10c4 : Code := { maxStack := 4, maxLocals := 4, code := jdk_43_method_22_code, exceptionTable := #[], attributes := #[] }
def k10m4 : Method := { name := "indexOf", desc := "([BIII)I", sig := { parameters := [(.array .byte), .int, .int, .int], returnType := some .int }, accessFlags := 9, code := some k10c4 }
def k10c5 : Code := { maxStack := 2, maxLocals := 6, code := jdk_43_method_23_code, exceptionTable := #[], attributes := #[] }
def k10m5 : Method := { name := "indexOfChar", desc := "([BIII)I", sig := { parameters := [(.array .byte), .int, .int, .int], returnType := some .int }, accessFlags := 10, code := some k10c5 }
/-- java/lang/StringLatin1 -/
def k10 : Class := { plain "java/lang/StringLatin1" (some 0) with
  accessFlags := 48
  interfaces := #[]
  cf := some (fileOf pool10 14 #[.nestMembers #[390, 221]] #[{ accessFlags := 0, nameIndex := 7, descriptorIndex := 8, attributes := #[] }, { accessFlags := 9, nameIndex := 252, descriptorIndex := 53, attributes := #[] }, { accessFlags := 9, nameIndex := 90, descriptorIndex := 91, attributes := #[] }, { accessFlags := 9, nameIndex := 281, descriptorIndex := 282, attributes := #[] }, { accessFlags := 9, nameIndex := 101, descriptorIndex := 98, attributes := #[] }, { accessFlags := 10, nameIndex := 97, descriptorIndex := 98, attributes := #[] }] 48 4 #[] #[{ accessFlags := 4120, nameIndex := 121, descriptorIndex := 122, attributes := #[] }])
  fields := #[{ name := "$assertionsDisabled", type := .boolean, accessFlags := 4120, slot := 0, constantValue := 0 }]
  methods := #[k10m0, k10m1, k10m2, k10m3, k10m4, k10m5]
  instanceTypes := #[]
  staticTypes := #[.boolean]
  resolved := Array.replicate 395 none
  statics := none }

def pool11 : Array CpInfo := pool [(2, .class_ 4), (1, u "java/lang/Object"), (0, u "<init>"), (0, u "()V"), (17, .class_ 26), (1, u "jdk/internal/util/Preconditions"), (6, u "checkIndex"), (21, .class_ 56), (0, u "jdk/internal/util/Preconditions$4"), (57, .class_ 115), (0, u "jdk/internal/util/Preconditions$1"), (7, u "SIOOBE_FORMATTER"), (0, u "Ljava/util/function/BiFunction;"), (0, .class_ 126), (0, u "jdk/internal/util/Preconditions$2"), (3, u "AIOOBE_FORMATTER"), (0, .class_ 132), (0, u "jdk/internal/util/Preconditions$3"), (3, u "IOOBE_FORMATTER"), (41, u "(IILjava/util/function/BiFunction;)I")] 15

def k11m0 : Method := { name := "<init>", desc := "()V", sig := { parameters := [], returnType := none }, accessFlags := 1, code := none }
def k11c1 : Code := { maxStack := 3, maxLocals := 3, code := jdk_41_method_11_code, exceptionTable := #[], attributes := #[] }
def k11m1 : Method := { name := "checkIndex", desc := "(IILjava/util/function/BiFunction;)I", sig := { parameters := [.int, .int, (.object "java/util/function/BiFunction")], returnType := some .int }, accessFlags := 9, code := some k11c1 }
/-- jdk/internal/util/Preconditions -/
def k11 : Class := { plain "jdk/internal/util/Preconditions" (some 0) with
  accessFlags := 33
  interfaces := #[]
  cf := some (fileOf pool11 24 #[.nestMembers #[55, 131, 125, 114]] #[{ accessFlags := 1, nameIndex := 5, descriptorIndex := 6, attributes := #[] }, { accessFlags := 9, nameIndex := 33, descriptorIndex := 178, attributes := #[] }] 33 2 #[] #[{ accessFlags := 25, nameIndex := 123, descriptorIndex := 124, attributes := #[] }, { accessFlags := 25, nameIndex := 130, descriptorIndex := 124, attributes := #[] }, { accessFlags := 25, nameIndex := 136, descriptorIndex := 124, attributes := #[] }])
  fields := #[{ name := "SIOOBE_FORMATTER", type := (.object "java/util/function/BiFunction"), accessFlags := 25, slot := 0, constantValue := 0 }, { name := "AIOOBE_FORMATTER", type := (.object "java/util/function/BiFunction"), accessFlags := 25, slot := 1, constantValue := 0 }, { name := "IOOBE_FORMATTER", type := (.object "java/util/function/BiFunction"), accessFlags := 25, slot := 2, constantValue := 0 }]
  methods := #[k11m0, k11m1]
  instanceTypes := #[]
  staticTypes := #[(.object "java/util/function/BiFunction"), (.object "java/util/function/BiFunction"), (.object "java/util/function/BiFunction")]
  resolved := Array.replicate 194 none
  statics := some 2 }

def pool12 : Array CpInfo := pool [(1, .class_ 2), (0, u "java/lang/Math"), (1, .class_ 6), (1, u "java/lang/Object"), (0, u "<init>"), (0, u "()V"), (89, .class_ 100), (1, u "java/lang/Math$RandomNumberGeneratorHolder"), (71, u "negativeZeroFloatBits"), (0, u "J"), (2, u "negativeZeroDoubleBits"), (21, u "max"), (2, u "min"), (43, u "$assertionsDisabled"), (0, u "Z"), (88, u "(II)I"), (2, u "twoToTheDoubleScaleDown"), (0, u "D"), (4, u "twoToTheDoubleScaleUp"), (9, u "E"), (3, u "PI"), (2, u "TAU"), (2, u "DEGREES_TO_RADIANS"), (0, u "RADIANS_TO_DEGREES")] 94

def k12m0 : Method := { name := "<init>", desc := "()V", sig := { parameters := [], returnType := none }, accessFlags := 2, code := none }
def k12c1 : Code := { maxStack := 2, maxLocals := 2, code := jdk_29_method_65_code, exceptionTable := #[], attributes := #[] }
def k12m1 : Method := { name := "max", desc := "(II)I", sig := { parameters := [.int, .int], returnType := some .int }, accessFlags := 9, code := some k12c1 }
def k12c2 : Code := { maxStack := 2, maxLocals := 2, code := jdk_29_method_69_code, exceptionTable := #[], attributes := #[] }
def k12m2 : Method := { name := "min", desc := "(II)I", sig := { parameters := [.int, .int], returnType := some .int }, accessFlags := 9, code := some k12c2 }
/-- java/lang/Math -/
def k12 : Class := { plain "java/lang/Math" (some 0) with
  accessFlags := 49
  interfaces := #[]
  cf := some (fileOf pool12 1 #[.nestMembers #[98]] #[{ accessFlags := 2, nameIndex := 7, descriptorIndex := 8, attributes := #[] }, { accessFlags := 9, nameIndex := 198, descriptorIndex := 335, attributes := #[] }, { accessFlags := 9, nameIndex := 201, descriptorIndex := 335, attributes := #[] }] 49 4 #[] #[{ accessFlags := 25, nameIndex := 354, descriptorIndex := 339, attributes := #[] }, { accessFlags := 25, nameIndex := 358, descriptorIndex := 339, attributes := #[] }, { accessFlags := 25, nameIndex := 361, descriptorIndex := 339, attributes := #[] }, { accessFlags := 26, nameIndex := 364, descriptorIndex := 339, attributes := #[] }, { accessFlags := 26, nameIndex := 365, descriptorIndex := 339, attributes := #[] }, { accessFlags := 26, nameIndex := 172, descriptorIndex := 173, attributes := #[] }, { accessFlags := 26, nameIndex := 176, descriptorIndex := 173, attributes := #[] }, { accessFlags := 8, nameIndex := 344, descriptorIndex := 339, attributes := #[] }, { accessFlags := 8, nameIndex := 338, descriptorIndex := 339, attributes := #[] }, { accessFlags := 4120, nameIndex := 245, descriptorIndex := 246, attributes := #[] }])
  fields := #[{ name := "E", type := .double, accessFlags := 25, slot := 0, constantValue := 0 }, { name := "PI", type := .double, accessFlags := 25, slot := 1, constantValue := 0 }, { name := "TAU", type := .double, accessFlags := 25, slot := 2, constantValue := 0 }, { name := "DEGREES_TO_RADIANS", type := .double, accessFlags := 26, slot := 3, constantValue := 0 }, { name := "RADIANS_TO_DEGREES", type := .double, accessFlags := 26, slot := 4, constantValue := 0 }, { name := "negativeZeroFloatBits", type := .long, accessFlags := 26, slot := 5, constantValue := 0 }, { name := "negativeZeroDoubleBits", type := .long, accessFlags := 26, slot := 6, constantValue := 0 }, { name := "twoToTheDoubleScaleUp", type := .double, accessFlags := 8, slot := 7, constantValue := 0 }, { name := "twoToTheDoubleScaleDown", type := .double, accessFlags := 8, slot := 8, constantValue := 0 }, { name := "$assertionsDisabled", type := .boolean, accessFlags := 4120, slot := 9, constantValue := 0 }]
  methods := #[k12m0, k12m1, k12m2]
  instanceTypes := #[]
  staticTypes := #[.double, .double, .double, .double, .double, .long, .long, .double, .double, .boolean]
  resolved := Array.replicate 460 none
  statics := none }

def pool13 : Array CpInfo := pool [(9, u "<init>"), (6, .class_ 18), (1, u "java/lang/Object"), (0, u "()V"), (1, .class_ 23), (1, u "jdk/internal/util/ArraysSupport"), (0, u "LOG2_ARRAY_LONG_INDEX_SCALE"), (0, u "I"), (2, u "U"), (0, u "Ljdk/internal/misc/Unsafe;"), (8, u "BIG_ENDIAN"), (0, u "Z"), (8, u "LOG2_BYTE_BIT_SIZE"), (4, u "LOG2_ARRAY_INT_INDEX_SCALE"), (54, u "JLA"), (0, u "Ljdk/internal/access/JavaLangAccess;"), (11, u "LOG2_ARRAY_BOOLEAN_INDEX_SCALE"), (9, u "LOG2_ARRAY_BYTE_INDEX_SCALE"), (5, u "LOG2_ARRAY_CHAR_INDEX_SCALE"), (5, u "LOG2_ARRAY_SHORT_INDEX_SCALE"), (18, u "LOG2_ARRAY_FLOAT_INDEX_SCALE"), (24, u "LOG2_ARRAY_DOUBLE_INDEX_SCALE"), (89, u "T_BOOLEAN"), (2, u "T_CHAR"), (1, u "T_FLOAT"), (1, u "T_DOUBLE"), (1, u "T_BYTE"), (1, u "T_SHORT"), (1, u "T_INT"), (1, u "T_LONG"), (1, u "SOFT_MAX_ARRAY_LENGTH")] 83

def k13m0 : Method := { name := "<init>", desc := "()V", sig := { parameters := [], returnType := none }, accessFlags := 2, code := none }
/-- jdk/internal/util/ArraysSupport -/
def k13 : Class := { plain "jdk/internal/util/ArraysSupport" (some 0) with
  accessFlags := 33
  interfaces := #[]
  cf := some (fileOf pool13 21 #[] #[{ accessFlags := 2, nameIndex := 9, descriptorIndex := 19, attributes := #[] }] 33 16 #[] #[{ accessFlags := 24, nameIndex := 28, descriptorIndex := 29, attributes := #[] }, { accessFlags := 26, nameIndex := 38, descriptorIndex := 39, attributes := #[] }, { accessFlags := 25, nameIndex := 121, descriptorIndex := 25, attributes := #[] }, { accessFlags := 25, nameIndex := 131, descriptorIndex := 25, attributes := #[] }, { accessFlags := 25, nameIndex := 137, descriptorIndex := 25, attributes := #[] }, { accessFlags := 25, nameIndex := 143, descriptorIndex := 25, attributes := #[] }, { accessFlags := 25, nameIndex := 53, descriptorIndex := 25, attributes := #[] }, { accessFlags := 25, nameIndex := 24, descriptorIndex := 25, attributes := #[] }, { accessFlags := 25, nameIndex := 162, descriptorIndex := 25, attributes := #[] }, { accessFlags := 25, nameIndex := 187, descriptorIndex := 25, attributes := #[] }, { accessFlags := 26, nameIndex := 48, descriptorIndex := 25, attributes := #[] }, { accessFlags := 25, nameIndex := 277, descriptorIndex := 25, attributes := #[] }, { accessFlags := 25, nameIndex := 280, descriptorIndex := 25, attributes := #[] }, { accessFlags := 25, nameIndex := 282, descriptorIndex := 25, attributes := #[] }, { accessFlags := 25, nameIndex := 284, descriptorIndex := 25, attributes := #[] }, { accessFlags := 25, nameIndex := 286, descriptorIndex := 25, attributes := #[] }, { accessFlags := 25, nameIndex := 288, descriptorIndex := 25, attributes := #[] }, { accessFlags := 25, nameIndex := 290, descriptorIndex := 25, attributes := #[] }, { accessFlags := 25, nameIndex := 292, descriptorIndex := 25, attributes := #[] }, { accessFlags := 26, nameIndex := 108, descriptorIndex := 109, attributes := #[] }, { accessFlags := 25, nameIndex := 294, descriptorIndex := 25, attributes := #[] }])
  fields := #[{ name := "U", type := (.object "jdk/internal/misc/Unsafe"), accessFlags := 24, slot := 0, constantValue := 0 }, { name := "BIG_ENDIAN", type := .boolean, accessFlags := 26, slot := 1, constantValue := 0 }, { name := "LOG2_ARRAY_BOOLEAN_INDEX_SCALE", type := .int, accessFlags := 25, slot := 2, constantValue := 0 }, { name := "LOG2_ARRAY_BYTE_INDEX_SCALE", type := .int, accessFlags := 25, slot := 3, constantValue := 0 }, { name := "LOG2_ARRAY_CHAR_INDEX_SCALE", type := .int, accessFlags := 25, slot := 4, constantValue := 0 }, { name := "LOG2_ARRAY_SHORT_INDEX_SCALE", type := .int, accessFlags := 25, slot := 5, constantValue := 0 }, { name := "LOG2_ARRAY_INT_INDEX_SCALE", type := .int, accessFlags := 25, slot := 6, constantValue := 0 }, { name := "LOG2_ARRAY_LONG_INDEX_SCALE", type := .int, accessFlags := 25, slot := 7, constantValue := 0 }, { name := "LOG2_ARRAY_FLOAT_INDEX_SCALE", type := .int, accessFlags := 25, slot := 8, constantValue := 0 }, { name := "LOG2_ARRAY_DOUBLE_INDEX_SCALE", type := .int, accessFlags := 25, slot := 9, constantValue := 0 }, { name := "LOG2_BYTE_BIT_SIZE", type := .int, accessFlags := 26, slot := 10, constantValue := 0 }, { name := "T_BOOLEAN", type := .int, accessFlags := 25, slot := 11, constantValue := 0 }, { name := "T_CHAR", type := .int, accessFlags := 25, slot := 12, constantValue := 0 }, { name := "T_FLOAT", type := .int, accessFlags := 25, slot := 13, constantValue := 0 }, { name := "T_DOUBLE", type := .int, accessFlags := 25, slot := 14, constantValue := 0 }, { name := "T_BYTE", type := .int, accessFlags := 25, slot := 15, constantValue := 0 }, { name := "T_SHORT", type := .int, accessFlags := 25, slot := 16, constantValue := 0 }, { name := "T_INT", type := .int, accessFlags := 25, slot := 17, constantValue := 0 }, { name := "T_LONG", type := .int, accessFlags := 25, slot := 18, constantValue := 0 }, { name := "JLA", type := (.object "jdk/internal/access/JavaLangAccess"), accessFlags := 26, slot := 19, constantValue := 0 }, { name := "SOFT_MAX_ARRAY_LENGTH", type := .int, accessFlags := 25, slot := 20, constantValue := 0 }]
  methods := #[k13m0]
  instanceTypes := #[]
  staticTypes := #[(.object "jdk/internal/misc/Unsafe"), .boolean, .int, .int, .int, .int, .int, .int, .int, .int, .int, .int, .int, .int, .int, .int, .int, .int, .int, (.object "jdk/internal/access/JavaLangAccess"), .int]
  resolved := Array.replicate 378 none
  statics := none }

def pool14 : Array CpInfo := pool [(1, u "java/lang/Cloneable"), (0, .class_ 1), (0, u "java/lang/Object"), (0, .class_ 3)] 3

/-- java/lang/Cloneable -/
def k14 : Class := { plain "java/lang/Cloneable" (some 0) with
  accessFlags := 1537
  interfaces := #[]
  cf := some (fileOf pool14 2 #[] #[] 1537 4 #[] #[])
  fields := #[]
  methods := #[]
  instanceTypes := #[]
  staticTypes := #[]
  resolved := Array.replicate 8 none
  statics := none }

/-- the primitive byte -/
def k15 : Class := { plain "byte" none with kind := .primitive 'B', accessFlags := 0x411 }
/-- [B -/
def k16 : Class := { plain "[B" (some 0) with kind := .array 15 .byte, interfaces := #[14, 2], accessFlags := 1041 }

/-- the primitive char -/
def k17 : Class := { plain "char" none with kind := .primitive 'C', accessFlags := 0x411 }
/-- [C -/
def k18 : Class := { plain "[C" (some 0) with kind := .array 17 .char, interfaces := #[14, 2], accessFlags := 1041 }

/-- the primitive int -/
def k19 : Class := { plain "int" none with kind := .primitive 'I', accessFlags := 0x411 }
/-- [I -/
def k20 : Class := { plain "[I" (some 0) with kind := .array 19 .int, interfaces := #[14, 2], accessFlags := 1041 }

def heap : Heap := #[{ cls := 7, slots := #[.long 0, .int 1, .null, .int 0, .null, .int 0, .int 0], vm := .statics 7 },
  { cls := 8, slots := #[.int 0, .int 8, .int 0, .int 1], vm := .statics 8 },
  { cls := 11, slots := #[.null, .null, .null], vm := .statics 11 }]
def classes : Array Class := #[k0, k1, k2, k3, k4, k5, k6, k7, k8, k9, k10, k11, k12, k13, k14, k15, k16, k17, k18, k19, k20]
def interned : List (Array UInt16 × Addr) := []
def slotsUsed : Nat := 14
def theMethod : MethodId := ⟨1, 2⟩
def args0 : Array Value := #[.int 5, .int 6, .int 7, .int 8]
def aboutOver (below : List Frame) : State where
  vm := { classes := classes, interned := interned.toArray }
  heap := heap
  slotsUsed := slotsUsed
  threads := #[{ frames := .invoking theMethod args0 :: below }]
def below0 : List Frame := [.native { method := ⟨0, 0⟩, args := #[] }]
def about1 : State := aboutOver below0
def p0 : Program := .bare "" "" ""
def e0 : Env := launch0.env 0 0 0
theorem w_frames : about1.frames = Frame.invoking theMethod args0 :: below0 := rfl
set_option maxRecDepth 65536 in
theorem w_args : argsFit about1.vm theMethod args0 = true := by decide +kernel
set_option maxRecDepth 65536 in
theorem w_heap : heapFits about1 = true := by decide +kernel
set_option maxRecDepth 65536 in
theorem w_runnable : about1.curStatus? = some .runnable := by decide +kernel
set_option maxRecDepth 65536 in
theorem w_alone : about1.alone = true := by decide +kernel
set_option maxRecDepth 65536 in
theorem w_named : about1.methodNamed? x = some theMethod := by decide +kernel
set_option maxRecDepth 65536 in
theorem w_hears : about1.hears theMethod below0 = true := by decide +kernel
set_option maxRecDepth 65536 in
theorem w_ripe : about1.ripe theMethod args0 below0 = true := by decide +kernel
theorem w_running : about1.status = .running := rfl
set_option maxRecDepth 65536 in
theorem w_room : about1.hasRoom e0.platform room_1 = true :=
  launch0.hasRoom_least _ room_1 (by decide +kernel) (by decide +kernel) (by decide +kernel) (by decide +kernel) (by decide +kernel) (by decide +kernel)
theorem allAtoms_all (ts : List Jvm.Cond) (a : Array Jvm.Value) (st : Jvm.State) : (allAtoms ts).before a st = ts.all (fun c => c.before a st) := by
  induction ts with
  | nil => rfl
  | cons c t ih =>
    show (Jvm.Cond.and c (allAtoms t)).before a st = _
    rw [Jvm.Cond.before_and, ih, List.all_cons]
def words1 : List Jvm.Cond := Jvm.Cond.code x code maxLocals ret :: tables_1
/-- a 'code' word, met by the world's own term for the bytes: nothing is compared byte by byte -/
theorem code_word {y : MethodName} {bytes : ByteArray} {mx : Nat} {rt : Option FieldType} {a : Array Value} {s : State} {m : MethodId} {meth : Method} {c : Code} (h1 : s.methodNamed? y = some m) (h2 : s.vm.method? m = some meth) (h3 : meth.code = some c) (h4 : c.code = bytes)
    (h5 : (c.maxLocals == mx && c.exceptionTable.isEmpty && decide (c.maxStack ≤ mostOperands) && decide (meth.sig.returnType = rt) && !meth.locks && decide (parseMethodDescriptor y.desc = some meth.sig)) = true) : (Jvm.Cond.code y bytes mx rt).before a s = true := by
  simp only [Bool.and_eq_true, beq_iff_eq, Bool.not_eq_true', decide_eq_true_eq] at h5
  obtain ⟨⟨⟨⟨⟨g1, g2⟩, g3⟩, g4⟩, g5⟩, g6⟩ := h5
  simp [Cond.before, Cond.holds, Cond.value, h1, h2, h3, h4, g1, g2, g3, g4, g5, g6]
def isCode : Jvm.Cond → Bool
  | .code _ _ _ _ => true
  | _ => false
theorem all_split {L : List Jvm.Cond} {P : Jvm.Cond → Bool} (h1 : L.all (fun c => isCode c || P c) = true) (h2 : ∀ c ∈ L.filter isCode, P c = true) : L.all P = true := by
  refine List.all_eq_true.mpr fun c hc => ?_
  have h := List.all_eq_true.mp h1 c hc
  rcases Bool.eq_false_or_eq_true (isCode c) with hi | hi
  · exact h2 c (List.mem_filter.mpr ⟨hc, hi⟩)
  · simpa [hi] using h
set_option maxRecDepth 65536 in
theorem w_c0 : (Jvm.Cond.code x code maxLocals ret).before args0 about1 = true := code_word (m := ⟨1, 2⟩) (meth := k1m2) (c := k1c2) (by decide +kernel) rfl rfl rfl (by decide +kernel)
set_option maxRecDepth 65536 in
theorem w_c1 : (Jvm.Cond.code ({ cls := "java/lang/String", name := "<init>", desc := "([C)V" } : Jvm.MethodName) jdk_42_method_3_code (2 : Nat) (Option.none : Option Jvm.ClassFile.FieldType)).before args0 about1 = true := code_word (m := ⟨7, 1⟩) (meth := k7m1) (c := k7c1) (by decide +kernel) rfl rfl rfl (by decide +kernel)
set_option maxRecDepth 65536 in
theorem w_c2 : (Jvm.Cond.code ({ cls := "java/lang/String", name := "<init>", desc := "([CIILjava/lang/Void;)V" } : Jvm.MethodName) jdk_42_method_149_code (6 : Nat) (Option.none : Option Jvm.ClassFile.FieldType)).before args0 about1 = true := code_word (m := ⟨7, 8⟩) (meth := k7m8) (c := k7c8) (by decide +kernel) rfl rfl rfl (by decide +kernel)
set_option maxRecDepth 65536 in
theorem w_c3 : (Jvm.Cond.code ({ cls := "java/lang/Object", name := "<init>", desc := "()V" } : Jvm.MethodName) object_method_1_code (1 : Nat) (Option.none : Option Jvm.ClassFile.FieldType)).before args0 about1 = true := code_word (m := ⟨0, 0⟩) (meth := k0m0) (c := k0c0) (by decide +kernel) rfl rfl rfl (by decide +kernel)
set_option maxRecDepth 65536 in
theorem w_c4 : (Jvm.Cond.code ({ cls := "java/lang/StringUTF16", name := "compress", desc := "([CII)[B" } : Jvm.MethodName) jdk_52_method_16_code (6 : Nat) (Option.some (Jvm.ClassFile.FieldType.array Jvm.ClassFile.FieldType.byte))).before args0 about1 = true := code_word (m := ⟨8, 8⟩) (meth := k8m8) (c := k8c8) (by decide +kernel) rfl rfl rfl (by decide +kernel)
set_option maxRecDepth 65536 in
theorem w_c5 : (Jvm.Cond.code ({ cls := "java/lang/StringUTF16", name := "compress", desc := "([CI[BII)I" } : Jvm.MethodName) jdk_52_method_21_code (7 : Nat) (Option.some Jvm.ClassFile.FieldType.int)).before args0 about1 = true := code_word (m := ⟨8, 9⟩) (meth := k8m9) (c := k8c9) (by decide +kernel) rfl rfl rfl (by decide +kernel)
set_option maxRecDepth 65536 in
theorem w_c6 : (Jvm.Cond.code ({ cls := "java/lang/StringUTF16", name := "coderFromArrayLen", desc := "([BI)B" } : Jvm.MethodName) jdk_52_method_15_code (2 : Nat) (Option.some Jvm.ClassFile.FieldType.byte)).before args0 about1 = true := code_word (m := ⟨8, 7⟩) (meth := k8m7) (c := k8c7) (by decide +kernel) rfl rfl rfl (by decide +kernel)
set_option maxRecDepth 65536 in
theorem w_c7 : (Jvm.Cond.code ({ cls := "com/example/chartpost/chartpost/http/PathSegmentsIsNamePinLaw", name := "ok", desc := "(C)Z" } : Jvm.MethodName) method_2_code (1 : Nat) (Option.some Jvm.ClassFile.FieldType.boolean)).before args0 about1 = true := code_word (m := ⟨1, 1⟩) (meth := k1m1) (c := k1c1) (by decide +kernel) rfl rfl rfl (by decide +kernel)
set_option maxRecDepth 65536 in
theorem w_c8 : (Jvm.Cond.code ({ cls := "com/example/chartpost/chartpost/http/PathSegments", name := "isName", desc := "(Ljava/lang/String;)Z" } : Jvm.MethodName) prog_30_method_2_code (2 : Nat) (Option.some Jvm.ClassFile.FieldType.boolean)).before args0 about1 = true := code_word (m := ⟨9, 1⟩) (meth := k9m1) (c := k9c1) (by decide +kernel) rfl rfl rfl (by decide +kernel)
set_option maxRecDepth 65536 in
theorem w_c9 : (Jvm.Cond.code ({ cls := "java/lang/String", name := "isEmpty", desc := "()Z" } : Jvm.MethodName) jdk_42_method_55_code (1 : Nat) (Option.some Jvm.ClassFile.FieldType.boolean)).before args0 about1 = true := code_word (m := ⟨7, 3⟩) (meth := k7m3) (c := k7c3) (by decide +kernel) rfl rfl rfl (by decide +kernel)
set_option maxRecDepth 65536 in
theorem w_c10 : (Jvm.Cond.code ({ cls := "java/lang/String", name := "equals", desc := "(Ljava/lang/Object;)Z" } : Jvm.MethodName) jdk_42_method_66_code (3 : Nat) (Option.some Jvm.ClassFile.FieldType.boolean)).before args0 about1 = true := code_word (m := ⟨7, 5⟩) (meth := k7m5) (c := k7c5) (by decide +kernel) rfl rfl rfl (by decide +kernel)
set_option maxRecDepth 65536 in
theorem w_c11 : (Jvm.Cond.code ({ cls := "java/lang/StringLatin1", name := "equals", desc := "([B[B)Z" } : Jvm.MethodName) jdk_43_method_13_code (3 : Nat) (Option.some Jvm.ClassFile.FieldType.boolean)).before args0 about1 = true := code_word (m := ⟨10, 3⟩) (meth := k10m3) (c := k10c3) (by decide +kernel) rfl rfl rfl (by decide +kernel)
set_option maxRecDepth 65536 in
theorem w_c12 : (Jvm.Cond.code ({ cls := "java/lang/String", name := "length", desc := "()I" } : Jvm.MethodName) jdk_42_method_54_code (1 : Nat) (Option.some Jvm.ClassFile.FieldType.int)).before args0 about1 = true := code_word (m := ⟨7, 2⟩) (meth := k7m2) (c := k7c2) (by decide +kernel) rfl rfl rfl (by decide +kernel)
set_option maxRecDepth 65536 in
theorem w_c13 : (Jvm.Cond.code ({ cls := "java/lang/String", name := "coder", desc := "()B" } : Jvm.MethodName) jdk_42_method_152_code (1 : Nat) (Option.some Jvm.ClassFile.FieldType.byte)).before args0 about1 = true := code_word (m := ⟨7, 9⟩) (meth := k7m9) (c := k7c9) (by decide +kernel) rfl rfl rfl (by decide +kernel)
set_option maxRecDepth 65536 in
theorem w_c14 : (Jvm.Cond.code ({ cls := "java/lang/String", name := "charAt", desc := "(I)C" } : Jvm.MethodName) jdk_42_method_56_code (2 : Nat) (Option.some Jvm.ClassFile.FieldType.char)).before args0 about1 = true := code_word (m := ⟨7, 4⟩) (meth := k7m4) (c := k7c4) (by decide +kernel) rfl rfl rfl (by decide +kernel)
set_option maxRecDepth 65536 in
theorem w_c15 : (Jvm.Cond.code ({ cls := "java/lang/String", name := "isLatin1", desc := "()Z" } : Jvm.MethodName) jdk_42_method_154_code (1 : Nat) (Option.some Jvm.ClassFile.FieldType.boolean)).before args0 about1 = true := code_word (m := ⟨7, 10⟩) (meth := k7m10) (c := k7c10) (by decide +kernel) rfl rfl rfl (by decide +kernel)
set_option maxRecDepth 65536 in
theorem w_c16 : (Jvm.Cond.code ({ cls := "java/lang/StringLatin1", name := "charAt", desc := "([BI)C" } : Jvm.MethodName) jdk_43_method_2_code (2 : Nat) (Option.some Jvm.ClassFile.FieldType.char)).before args0 about1 = true := code_word (m := ⟨10, 1⟩) (meth := k10m1) (c := k10c1) (by decide +kernel) rfl rfl rfl (by decide +kernel)
set_option maxRecDepth 65536 in
theorem w_c17 : (Jvm.Cond.code ({ cls := "java/lang/String", name := "checkIndex", desc := "(II)V" } : Jvm.MethodName) jdk_42_method_155_code (2 : Nat) (Option.none : Option Jvm.ClassFile.FieldType)).before args0 about1 = true := code_word (m := ⟨7, 11⟩) (meth := k7m11) (c := k7c11) (by decide +kernel) rfl rfl rfl (by decide +kernel)
set_option maxRecDepth 65536 in
theorem w_c18 : (Jvm.Cond.code ({ cls := "jdk/internal/util/Preconditions", name := "checkIndex", desc := "(IILjava/util/function/BiFunction;)I" } : Jvm.MethodName) jdk_41_method_11_code (3 : Nat) (Option.some Jvm.ClassFile.FieldType.int)).before args0 about1 = true := code_word (m := ⟨11, 1⟩) (meth := k11m1) (c := k11c1) (by decide +kernel) rfl rfl rfl (by decide +kernel)
set_option maxRecDepth 65536 in
theorem w_c19 : (Jvm.Cond.code ({ cls := "java/lang/String", name := "indexOf", desc := "(I)I" } : Jvm.MethodName) jdk_42_method_79_code (2 : Nat) (Option.some Jvm.ClassFile.FieldType.int)).before args0 about1 = true := code_word (m := ⟨7, 6⟩) (meth := k7m6) (c := k7c6) (by decide +kernel) rfl rfl rfl (by decide +kernel)
set_option maxRecDepth 65536 in
theorem w_c20 : (Jvm.Cond.code ({ cls := "java/lang/String", name := "indexOf", desc := "(II)I" } : Jvm.MethodName) jdk_42_method_80_code (3 : Nat) (Option.some Jvm.ClassFile.FieldType.int)).before args0 about1 = true := code_word (m := ⟨7, 7⟩) (meth := k7m7) (c := k7c7) (by decide +kernel) rfl rfl rfl (by decide +kernel)
set_option maxRecDepth 65536 in
theorem w_c21 : (Jvm.Cond.code ({ cls := "java/lang/StringLatin1", name := "indexOf", desc := "([BIII)I" } : Jvm.MethodName) jdk_43_method_22_code (4 : Nat) (Option.some Jvm.ClassFile.FieldType.int)).before args0 about1 = true := code_word (m := ⟨10, 4⟩) (meth := k10m4) (c := k10c4) (by decide +kernel) rfl rfl rfl (by decide +kernel)
set_option maxRecDepth 65536 in
theorem w_c22 : (Jvm.Cond.code ({ cls := "java/lang/StringLatin1", name := "canEncode", desc := "(I)Z" } : Jvm.MethodName) jdk_43_method_4_code (1 : Nat) (Option.some Jvm.ClassFile.FieldType.boolean)).before args0 about1 = true := code_word (m := ⟨10, 2⟩) (meth := k10m2) (c := k10c2) (by decide +kernel) rfl rfl rfl (by decide +kernel)
set_option maxRecDepth 65536 in
theorem w_c23 : (Jvm.Cond.code ({ cls := "java/lang/Math", name := "max", desc := "(II)I" } : Jvm.MethodName) jdk_29_method_65_code (2 : Nat) (Option.some Jvm.ClassFile.FieldType.int)).before args0 about1 = true := code_word (m := ⟨12, 1⟩) (meth := k12m1) (c := k12c1) (by decide +kernel) rfl rfl rfl (by decide +kernel)
set_option maxRecDepth 65536 in
theorem w_c24 : (Jvm.Cond.code ({ cls := "java/lang/Math", name := "min", desc := "(II)I" } : Jvm.MethodName) jdk_29_method_69_code (2 : Nat) (Option.some Jvm.ClassFile.FieldType.int)).before args0 about1 = true := code_word (m := ⟨12, 2⟩) (meth := k12m2) (c := k12c2) (by decide +kernel) rfl rfl rfl (by decide +kernel)
set_option maxRecDepth 65536 in
theorem w_c25 : (Jvm.Cond.code ({ cls := "java/lang/StringLatin1", name := "indexOfChar", desc := "([BIII)I" } : Jvm.MethodName) jdk_43_method_23_code (6 : Nat) (Option.some Jvm.ClassFile.FieldType.int)).before args0 about1 = true := code_word (m := ⟨10, 5⟩) (meth := k10m5) (c := k10c5) (by decide +kernel) rfl rfl rfl (by decide +kernel)
set_option maxRecDepth 65536 in
theorem w_c26 : (Jvm.Cond.code ({ cls := "java/lang/StringUTF16", name := "toBytes", desc := "([CII)[B" } : Jvm.MethodName) jdk_52_method_14_code (5 : Nat) (Option.some (Jvm.ClassFile.FieldType.array Jvm.ClassFile.FieldType.byte))).before args0 about1 = true := code_word (m := ⟨8, 6⟩) (meth := k8m6) (c := k8c6) (by decide +kernel) rfl rfl rfl (by decide +kernel)
set_option maxRecDepth 65536 in
theorem w_c27 : (Jvm.Cond.code ({ cls := "java/lang/StringUTF16", name := "newBytesFor", desc := "(I)[B" } : Jvm.MethodName) jdk_52_method_2_code (1 : Nat) (Option.some (Jvm.ClassFile.FieldType.array Jvm.ClassFile.FieldType.byte))).before args0 about1 = true := code_word (m := ⟨8, 1⟩) (meth := k8m1) (c := k8c1) (by decide +kernel) rfl rfl rfl (by decide +kernel)
set_option maxRecDepth 65536 in
theorem w_c28 : (Jvm.Cond.code ({ cls := "java/lang/StringUTF16", name := "newBytesLength", desc := "(I)I" } : Jvm.MethodName) jdk_52_method_3_code (1 : Nat) (Option.some Jvm.ClassFile.FieldType.int)).before args0 about1 = true := code_word (m := ⟨8, 2⟩) (meth := k8m2) (c := k8c2) (by decide +kernel) rfl rfl rfl (by decide +kernel)
set_option maxRecDepth 65536 in
theorem w_c29 : (Jvm.Cond.code ({ cls := "java/lang/StringUTF16", name := "putChar", desc := "([BII)V" } : Jvm.MethodName) jdk_52_method_4_code (3 : Nat) (Option.none : Option Jvm.ClassFile.FieldType)).before args0 about1 = true := code_word (m := ⟨8, 3⟩) (meth := k8m3) (c := k8c3) (by decide +kernel) rfl rfl rfl (by decide +kernel)
set_option maxRecDepth 65536 in
theorem w_c30 : (Jvm.Cond.code ({ cls := "java/lang/StringUTF16", name := "getChar", desc := "([BI)C" } : Jvm.MethodName) jdk_52_method_5_code (2 : Nat) (Option.some Jvm.ClassFile.FieldType.char)).before args0 about1 = true := code_word (m := ⟨8, 4⟩) (meth := k8m4) (c := k8c4) (by decide +kernel) rfl rfl rfl (by decide +kernel)
set_option maxRecDepth 65536 in
theorem w_c31 : (Jvm.Cond.code ({ cls := "java/lang/StringUTF16", name := "charAt", desc := "([BI)C" } : Jvm.MethodName) jdk_52_method_83_code (2 : Nat) (Option.some Jvm.ClassFile.FieldType.char)).before args0 about1 = true := code_word (m := ⟨8, 10⟩) (meth := k8m10) (c := k8c10) (by decide +kernel) rfl rfl rfl (by decide +kernel)
set_option maxRecDepth 65536 in
theorem w_c32 : (Jvm.Cond.code ({ cls := "java/lang/StringUTF16", name := "checkIndex", desc := "(I[B)V" } : Jvm.MethodName) jdk_52_method_91_code (2 : Nat) (Option.none : Option Jvm.ClassFile.FieldType)).before args0 about1 = true := code_word (m := ⟨8, 11⟩) (meth := k8m11) (c := k8c11) (by decide +kernel) rfl rfl rfl (by decide +kernel)
set_option maxRecDepth 65536 in
theorem w_c33 : (Jvm.Cond.code ({ cls := "java/lang/StringUTF16", name := "length", desc := "([B)I" } : Jvm.MethodName) jdk_52_method_6_code (1 : Nat) (Option.some Jvm.ClassFile.FieldType.int)).before args0 about1 = true := code_word (m := ⟨8, 5⟩) (meth := k8m5) (c := k8c5) (by decide +kernel) rfl rfl rfl (by decide +kernel)
def codes1 : List Jvm.Cond := [Jvm.Cond.code x code maxLocals ret, Jvm.Cond.code ({ cls := "java/lang/String", name := "<init>", desc := "([C)V" } : Jvm.MethodName) jdk_42_method_3_code (2 : Nat) (Option.none : Option Jvm.ClassFile.FieldType), Jvm.Cond.code ({ cls := "java/lang/String", name := "<init>", desc := "([CIILjava/lang/Void;)V" } : Jvm.MethodName) jdk_42_method_149_code (6 : Nat) (Option.none : Option Jvm.ClassFile.FieldType), Jvm.Cond.code ({ cls := "java/lang/Object", name := "<init>", desc := "()V" } : Jvm.MethodName) object_method_1_code (1 : Nat) (Option.none : Option Jvm.ClassFile.FieldType), Jvm.Cond.code ({ cls := "java/lang/StringUTF16", name := "compress", desc := "([CII)[B" } : Jvm.MethodName) jdk_52_method_16_code (6 : Nat) (Option.some (Jvm.ClassFile.FieldType.array Jvm.ClassFile.FieldType.byte)), Jvm.Cond.code ({ cls := "java/lang/StringUTF16", name := "compress", desc := "([CI[BII)I" } : Jvm.MethodName) jdk_52_method_21_code (7 : Nat) (Option.some Jvm.ClassFile.FieldType.int), Jvm.Cond.code ({ cls := "java/lang/StringUTF16", name := "coderFromArrayLen", desc := "([BI)B" } : Jvm.MethodName) jdk_52_method_15_code (2 : Nat) (Option.some Jvm.ClassFile.FieldType.byte), Jvm.Cond.code ({ cls := "com/example/chartpost/chartpost/http/PathSegmentsIsNamePinLaw", name := "ok", desc := "(C)Z" } : Jvm.MethodName) method_2_code (1 : Nat) (Option.some Jvm.ClassFile.FieldType.boolean), Jvm.Cond.code ({ cls := "com/example/chartpost/chartpost/http/PathSegments", name := "isName", desc := "(Ljava/lang/String;)Z" } : Jvm.MethodName) prog_30_method_2_code (2 : Nat) (Option.some Jvm.ClassFile.FieldType.boolean), Jvm.Cond.code ({ cls := "java/lang/String", name := "isEmpty", desc := "()Z" } : Jvm.MethodName) jdk_42_method_55_code (1 : Nat) (Option.some Jvm.ClassFile.FieldType.boolean), Jvm.Cond.code ({ cls := "java/lang/String", name := "equals", desc := "(Ljava/lang/Object;)Z" } : Jvm.MethodName) jdk_42_method_66_code (3 : Nat) (Option.some Jvm.ClassFile.FieldType.boolean), Jvm.Cond.code ({ cls := "java/lang/StringLatin1", name := "equals", desc := "([B[B)Z" } : Jvm.MethodName) jdk_43_method_13_code (3 : Nat) (Option.some Jvm.ClassFile.FieldType.boolean), Jvm.Cond.code ({ cls := "java/lang/String", name := "length", desc := "()I" } : Jvm.MethodName) jdk_42_method_54_code (1 : Nat) (Option.some Jvm.ClassFile.FieldType.int), Jvm.Cond.code ({ cls := "java/lang/String", name := "coder", desc := "()B" } : Jvm.MethodName) jdk_42_method_152_code (1 : Nat) (Option.some Jvm.ClassFile.FieldType.byte), Jvm.Cond.code ({ cls := "java/lang/String", name := "charAt", desc := "(I)C" } : Jvm.MethodName) jdk_42_method_56_code (2 : Nat) (Option.some Jvm.ClassFile.FieldType.char), Jvm.Cond.code ({ cls := "java/lang/String", name := "isLatin1", desc := "()Z" } : Jvm.MethodName) jdk_42_method_154_code (1 : Nat) (Option.some Jvm.ClassFile.FieldType.boolean), Jvm.Cond.code ({ cls := "java/lang/StringLatin1", name := "charAt", desc := "([BI)C" } : Jvm.MethodName) jdk_43_method_2_code (2 : Nat) (Option.some Jvm.ClassFile.FieldType.char), Jvm.Cond.code ({ cls := "java/lang/String", name := "checkIndex", desc := "(II)V" } : Jvm.MethodName) jdk_42_method_155_code (2 : Nat) (Option.none : Option Jvm.ClassFile.FieldType), Jvm.Cond.code ({ cls := "jdk/internal/util/Preconditions", name := "checkIndex", desc := "(IILjava/util/function/BiFunction;)I" } : Jvm.MethodName) jdk_41_method_11_code (3 : Nat) (Option.some Jvm.ClassFile.FieldType.int), Jvm.Cond.code ({ cls := "java/lang/String", name := "indexOf", desc := "(I)I" } : Jvm.MethodName) jdk_42_method_79_code (2 : Nat) (Option.some Jvm.ClassFile.FieldType.int), Jvm.Cond.code ({ cls := "java/lang/String", name := "indexOf", desc := "(II)I" } : Jvm.MethodName) jdk_42_method_80_code (3 : Nat) (Option.some Jvm.ClassFile.FieldType.int), Jvm.Cond.code ({ cls := "java/lang/StringLatin1", name := "indexOf", desc := "([BIII)I" } : Jvm.MethodName) jdk_43_method_22_code (4 : Nat) (Option.some Jvm.ClassFile.FieldType.int), Jvm.Cond.code ({ cls := "java/lang/StringLatin1", name := "canEncode", desc := "(I)Z" } : Jvm.MethodName) jdk_43_method_4_code (1 : Nat) (Option.some Jvm.ClassFile.FieldType.boolean), Jvm.Cond.code ({ cls := "java/lang/Math", name := "max", desc := "(II)I" } : Jvm.MethodName) jdk_29_method_65_code (2 : Nat) (Option.some Jvm.ClassFile.FieldType.int), Jvm.Cond.code ({ cls := "java/lang/Math", name := "min", desc := "(II)I" } : Jvm.MethodName) jdk_29_method_69_code (2 : Nat) (Option.some Jvm.ClassFile.FieldType.int), Jvm.Cond.code ({ cls := "java/lang/StringLatin1", name := "indexOfChar", desc := "([BIII)I" } : Jvm.MethodName) jdk_43_method_23_code (6 : Nat) (Option.some Jvm.ClassFile.FieldType.int), Jvm.Cond.code ({ cls := "java/lang/StringUTF16", name := "toBytes", desc := "([CII)[B" } : Jvm.MethodName) jdk_52_method_14_code (5 : Nat) (Option.some (Jvm.ClassFile.FieldType.array Jvm.ClassFile.FieldType.byte)), Jvm.Cond.code ({ cls := "java/lang/StringUTF16", name := "newBytesFor", desc := "(I)[B" } : Jvm.MethodName) jdk_52_method_2_code (1 : Nat) (Option.some (Jvm.ClassFile.FieldType.array Jvm.ClassFile.FieldType.byte)), Jvm.Cond.code ({ cls := "java/lang/StringUTF16", name := "newBytesLength", desc := "(I)I" } : Jvm.MethodName) jdk_52_method_3_code (1 : Nat) (Option.some Jvm.ClassFile.FieldType.int), Jvm.Cond.code ({ cls := "java/lang/StringUTF16", name := "putChar", desc := "([BII)V" } : Jvm.MethodName) jdk_52_method_4_code (3 : Nat) (Option.none : Option Jvm.ClassFile.FieldType), Jvm.Cond.code ({ cls := "java/lang/StringUTF16", name := "getChar", desc := "([BI)C" } : Jvm.MethodName) jdk_52_method_5_code (2 : Nat) (Option.some Jvm.ClassFile.FieldType.char), Jvm.Cond.code ({ cls := "java/lang/StringUTF16", name := "charAt", desc := "([BI)C" } : Jvm.MethodName) jdk_52_method_83_code (2 : Nat) (Option.some Jvm.ClassFile.FieldType.char), Jvm.Cond.code ({ cls := "java/lang/StringUTF16", name := "checkIndex", desc := "(I[B)V" } : Jvm.MethodName) jdk_52_method_91_code (2 : Nat) (Option.none : Option Jvm.ClassFile.FieldType), Jvm.Cond.code ({ cls := "java/lang/StringUTF16", name := "length", desc := "([B)I" } : Jvm.MethodName) jdk_52_method_6_code (1 : Nat) (Option.some Jvm.ClassFile.FieldType.int)]
set_option maxRecDepth 65536 in
theorem codes_eq : words1.filter isCode = codes1 := rfl
theorem w_codes : ∀ c ∈ words1.filter isCode, c.before args0 about1 = true := by
  rw [codes_eq]
  intro c hc
  simp only [codes1, List.mem_cons, List.not_mem_nil, or_false] at hc
  rcases hc with rfl | rfl | rfl | rfl | rfl | rfl | rfl | rfl | rfl | rfl | rfl | rfl | rfl | rfl | rfl | rfl | rfl | rfl | rfl | rfl | rfl | rfl | rfl | rfl | rfl | rfl | rfl | rfl | rfl | rfl | rfl | rfl | rfl | rfl
  · exact w_c0
  · exact w_c1
  · exact w_c2
  · exact w_c3
  · exact w_c4
  · exact w_c5
  · exact w_c6
  · exact w_c7
  · exact w_c8
  · exact w_c9
  · exact w_c10
  · exact w_c11
  · exact w_c12
  · exact w_c13
  · exact w_c14
  · exact w_c15
  · exact w_c16
  · exact w_c17
  · exact w_c18
  · exact w_c19
  · exact w_c20
  · exact w_c21
  · exact w_c22
  · exact w_c23
  · exact w_c24
  · exact w_c25
  · exact w_c26
  · exact w_c27
  · exact w_c28
  · exact w_c29
  · exact w_c30
  · exact w_c31
  · exact w_c32
  · exact w_c33
set_option maxRecDepth 65536 in
theorem w_t1 : (words1.take 24).all (fun c => isCode c || c.before args0 about1) = true := by decide +kernel
set_option maxRecDepth 65536 in
theorem w_t2 : ((words1.drop 24).take 24).all (fun c => isCode c || c.before args0 about1) = true := by decide +kernel
set_option maxRecDepth 65536 in
theorem w_t3 : (((words1.drop 24).drop 24).take 24).all (fun c => isCode c || c.before args0 about1) = true := by decide +kernel
set_option maxRecDepth 65536 in
theorem w_t4 : ((((words1.drop 24).drop 24).drop 24).take 24).all (fun c => isCode c || c.before args0 about1) = true := by decide +kernel
set_option maxRecDepth 65536 in
theorem w_t5 : (((((words1.drop 24).drop 24).drop 24).drop 24).take 24).all (fun c => isCode c || c.before args0 about1) = true := by decide +kernel
set_option maxRecDepth 65536 in
theorem w_t6 : ((((((words1.drop 24).drop 24).drop 24).drop 24).drop 24).take 24).all (fun c => isCode c || c.before args0 about1) = true := by decide +kernel
set_option maxRecDepth 65536 in
theorem w_t7 : ((((((words1.drop 24).drop 24).drop 24).drop 24).drop 24).drop 24).all (fun c => isCode c || c.before args0 about1) = true := by decide +kernel
theorem w_tables : (allAtoms (Jvm.Cond.code x code maxLocals ret :: tables_1)).before args0 about1 = true := by
  rw [allAtoms_all]
  show words1.all (fun c => c.before args0 about1) = true
  refine all_split ?_ w_codes
  rw [← List.take_append_drop 24 words1, List.all_append, w_t1, ← List.take_append_drop 24 (words1.drop 24), List.all_append, w_t2, ← List.take_append_drop 24 ((words1.drop 24).drop 24), List.all_append, w_t3, ← List.take_append_drop 24 (((words1.drop 24).drop 24).drop 24), List.all_append, w_t4, ← List.take_append_drop 24 ((((words1.drop 24).drop 24).drop 24).drop 24), List.all_append, w_t5, ← List.take_append_drop 24 (((((words1.drop 24).drop 24).drop 24).drop 24).drop 24), List.all_append, w_t6, w_t7]
  rfl
set_option maxRecDepth 65536 in
theorem w_rest : rest_1_c.before args0 about1 = true := by decide +kernel
set_option maxRecDepth 65536 in
theorem w_case : (Jvm.Cond.and given_1 narrow_1).before args0 about1 = true := by decide +kernel
set_option maxRecDepth 65536 in
theorem w_consts : constsHeld consts_1 about1 := Jvm.Lit.constsHeldB_iff.mp (by decide +kernel)
theorem w_applies : (headSpec (Jvm.Cond.code x code maxLocals ret :: tables_1) room_1).applies x e0.platform about1 = true :=
  (Spec.applies_iff w_frames).mpr ⟨w_running, w_runnable, w_alone, w_named, w_hears, w_ripe, w_room, w_tables⟩
theorem atStart : AtStart classFile x code maxLocals ret World_1 tables_1 room_1 Calls_1 rest_1 Pre_1 launch0 p0 e0 about1 theMethod args0 below0 :=
  ⟨lists_1, trivial, launch0.admits_env _ _ _, launch0.least_env, fairChoices_fair.cas, fairChoices_fair.clock, w_frames, w_args, w_heap, w_applies, ⟨w_consts, trivial⟩, w_rest, w_case⟩
end start1
theorem witness_1 : WitnessClaimed_1 := ⟨start1.p0, start1.e0, start1.about1, start1.theMethod, start1.args0, start1.below0, start1.atStart⟩
end Jvm.Pilot.@@N@@
