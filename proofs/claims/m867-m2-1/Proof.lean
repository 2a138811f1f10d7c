import JvmDerived
import JvmDerived.Pilot.@@N@@Statement
import JvmDerived.Pilot.@@N@@Code
set_option linter.unusedVariables false
set_option linter.unusedSimpArgs false

namespace Jvm.Pilot.@@N@@
open Jvm Jvm.ClassFile Sem Op Lib Jvm.Free Jvm.Stand Jvm.LawKit Jvm.RoadKit Bundle Jvm.Pilot.@@N@@.Jvm.D
/-- the run from A comes to a state of which P holds -/
def own_Go (tb : Tables) (e : Env) (below : List Frame) (P : State → Prop) (A : State) : Prop := ∃ U, Steps tb e below A U ∧ P U
theorem own_go {tb : Tables} {e : Env} {below : List Frame} {P : State → Prop} {A B : State} (h : ∀ t, Steps tb e below B t → Steps tb e below A t) (k : own_Go tb e below P B) : own_Go tb e below P A := by
  obtain ⟨U, h1, h2⟩ := k; exact ⟨U, h U h1, h2⟩
theorem own_goT {tb : Tables} {e : Env} {below : List Frame} {P : State → Prop} {A B : State} (h : Steps tb e below A B) (k : own_Go tb e below P B) : own_Go tb e below P A := by
  obtain ⟨U, h1, h2⟩ := k; exact ⟨U, h.trans h1, h2⟩
/-- the body's end: it returned, and Q says of what -/
def own_End (s : State) (below : List Frame) (Q : Option Value → Heap → List Loc → Prop) (cells slots : Nat) (t : State) : Prop := ∃ o, t.status = .running ∧ Ended t below o ∧ ∃ v L, o = .returned v ∧ Q v t.heap L ∧ FrameEnd s o t L cells slots
theorem own_body {tb : Tables} {e : Env} {below : List Frame} {s A : State} {Q : Option Value → Heap → List Loc → Prop} {cells slots : Nat} (k : own_Go tb e below (own_End s below Q cells slots) A) :
    ∃ s₂ o, Steps tb e below A s₂ ∧ s₂.status = .running ∧ Ended s₂ below o ∧ ∃ v L, o = .returned v ∧ Q v s₂.heap L ∧ FrameEnd s o s₂ L cells slots := by
  obtain ⟨U, h1, o, h2, h3, h4⟩ := k; exact ⟨U, o, h1, h2, h3, h4⟩
theorem own_ret {p : Program} {l : Launch} {e : Env} {R : Room} {s : State} {m : MethodId} {args : Array Value} {below : List Frame} {meth : Method} {c : Code} {T A : State} {locs : List Loc} {cells slots : Nat} {Q : Option Value → Heap → List Loc → Prop} {cs ss : Nat}
    (X : Stand p l e R s m args below meth c T locs cells slots) (hlk : meth.locks = false) {v : Option Value} (hv : meth.sig.returnType = none → v = none)
    (hst : ∀ fs : List Frame, (∀ (f : JFrame) (acts : List Action), f.method = m → f.locked = none → f.entered = [] → (doReturn e (T.setTop f) acts v).1 = T.setFrames fs) → Steps p.tables e below A (T.setFrames fs))
    (hQ : Q v T.heap locs) (hc : cells ≤ cs) (hs : slots ≤ ss) : own_Go p.tables e below (own_End s below Q cs ss) A := by
  obtain ⟨fs, hr, hrun, hended, hW, hsame⟩ := X.leave (v := v) hv hlk
  exact ⟨_, hst fs hr, _, hrun, hended, _, _, rfl, hQ, ⟨_, rfl⟩, hW, hsame.mono hc hs⟩
theorem own_ef (m : MethodId) (as : Array Value) (n : Nat) (Ls : Array Slot) (h : argsToLocals as n = Ls) : entryFrame m as n = mkF m 0 Ls [] := by rw [← h]; rfl
/-- a body's contract in this family -/
abbrev own_Met (l : Launch) (Z : State) (ws : List Jvm.Cond) (y : MethodName) (bytes : ByteArray) (maxL : Nat) (ret : Option FieldType) (rm : Room) (as : Array Value) (h0 : Heap) (Q : Option Value → Heap → List Loc → Prop) : Prop :=
  MetFree l y (head1 (Jvm.Cond.code y bytes maxL ret :: ws) rm) (fun a U => a = as ∧ Z.Warmed39 U.vm ∧ U.heap = h0) (fun _ _ _ _ _ => True) (fun _ U o U' => ∃ v L, o = .returned v ∧ Q v U'.heap L ∧ FrameEnd U o U' L rm.cells rm.slots)
theorem own_sta_keep {Z : State} {h h' : Heap} {C n d : String} {v : Value} {ws : List Addr} (F : Sta Z h C n d v) (K : Keep h h' ws) (q : ∀ a ∈ ws, ∃ C', Exa Z h a C') : Sta Z h' C n d v := by
  obtain ⟨cf, i, k, f, st, cell, h1, h2, h3, h4, h5, h6, h7⟩ := F
  refine ⟨cf, i, k, f, st, cell, h1, h2, h3, h4, K.2.1 st cell h5 fun hm => ?_, h6, h7⟩
  obtain ⟨C', cell', k', e1, -, -, e4, -⟩ := q st hm
  cases h5.symm.trans e1
  rw [e4] at h6; cases h6
theorem own_back {p : Program} {l : Launch} {e : Env} {R : Room} {s : State} {args : Array Value} {below : List Frame} {Z : State} {a0 : Array Value} {h : Heap} {y : MethodName} {bytes : ByteArray} {maxL : Nat} {ret : Option FieldType} {rm : Room} {len W : Nat} {as' : Array Value} {Q : Option Value → Heap → List Loc → Prop}
    (hM : own_Met l Z [] y bytes maxL ret rm as' h Q) (hZ : Z.Warmed39 s.vm) (wc : (Cond.code y bytes maxL ret).before a0 Z = true) (wz : (Cond.initialized y.cls).before a0 Z = true) (hf : rm.frames + 1 ≤ R.frames) (hl : W + (maxL + 11) + rm.locals ≤ R.locals) :
    Back l R p e below s args y len W (fun A a => a = as' ∧ A.U.heap = h ∧ A.cells + rm.cells ≤ R.cells ∧ A.slots + rm.slots ≤ R.slots)
      (fun A _ v B => ∃ L, Q v B.U.heap L ∧ B.locs = A.locs ++ L ∧ B.cells = A.cells + rm.cells ∧ B.slots = A.slots + rm.slots) :=
  backOf (Q := Q) hM hZ wc wz hf hl
theorem own_hp {T : State} {h : Heap} {a : Addr} {cl : Cell} (eT : T.heap = h) (h1 : h[a]? = some cl) : T.heap[a]? = some cl := by rw [eT]; exact h1
def own_asl : List Value → List Slot
  | [] => []
  | v :: r => if v.category = 2 then .val v :: .second :: own_asl r else .val v :: own_asl r
def own_apu (acc : Array Slot) (v : Value) : Array Slot := if v.category = 2 then (acc.push (.val v)).push .second else acc.push (.val v)
theorem own_al1 (l : List Value) (a : Array Slot) : (l.foldl own_apu a).toList = a.toList ++ own_asl l := by
  induction l generalizing a with
  | nil => simp [own_asl]
  | cons v r ih =>
    rw [List.foldl_cons, ih]
    by_cases h : v.category = 2 <;> simp [own_asl, own_apu, h]
theorem own_al (l : List Value) (n : Nat) (L : List Slot) (h : own_asl l ++ List.replicate (n - (own_asl l).length) .unset = L) : argsToLocals l.toArray n = L.toArray := by
  have q : argsToLocals l.toArray n = l.foldl own_apu #[] ++ Array.replicate (n - (l.foldl own_apu #[]).size) .unset := by
    rw [← List.foldl_toArray]; rfl
  have k := own_al1 l #[]
  rw [q, ← h]
  apply Array.toList_inj.mp
  rw [Array.toList_append, k, ← Array.length_toList, k]; simp
theorem own_cst {p : Program} {l : Launch} {e : Env} {R : Room} {s : State} {m : MethodId} {args : Array Value} {below : List Frame} {meth : Method} {c : Code} {T : State} {L L' : List Loc} {k n k' n' k2 n2 : Nat}
    (X : Stand p l e R s m args below meth c T L k n) (hl : L = L') (hk : k = k') (hn : n = n') (h1 : k' = k2) (h2 : n' = n2) : Stand p l e R s m args below meth c T L' k2 n2 := by
  subst hl hk hn h1 h2; exact X
theorem own_eqi {args : Array Value} {s : State} {t : Term} {k : Int32} (h : (Jvm.Cond.eq t (.int k)).value args s none s [] = some true) : t.eval args s none [] s = some (.int k) := by
  simp only [Cond.value, Term.eval] at h
  cases ht : t.eval args s none [] s with
  | none => simp [ht] at h
  | some x => cases x <;> simp [ht] at h ⊢; exact h
theorem own_eqr {args : Array Value} {s : State} {t u : Term} {a : Addr} (h : (Jvm.Cond.eq t u).value args s none s [] = some true) (hu : u.eval args s none [] s = some (.ref a)) : t.eval args s none [] s = some (.ref a) := by
  simp only [Cond.value] at h
  cases ht : t.eval args s none [] s with
  | none => simp [ht] at h
  | some x => cases x <;> simp [ht, hu] at h ⊢; exact h
theorem own_fld {args : Array Value} {s : State} {t : Term} {a : Addr} {C n d : String} {v : Value} (ht : t.eval args s none [] s = some (.ref a)) (h : (Term.field t C n d).eval args s none [] s = some v) : Fld s s.heap a C n d v :=
  Fld.start (by rw [fld_at ht] at h; exact h)
theorem own_len {args : Array Value} {s : State} {t : Term} {a : Addr} {cl : Cell} {ty : FieldType} {k : Int32} (A : Arr s s.heap a cl ty) (ht : t.eval args s none [] s = some (.ref a)) (h : (Term.length t).eval args s none [] s = some (.int k)) : cl.slots.size < 2 ^ 31 ∧ cl.slots.size.toInt32 = k := by
  have ha : s.arrayAt? a = some cl := A.fin (Vm.Alike.refl _)
  by_cases hl : cl.slots.size < 2 ^ 31
  · rw [len_f ht ha hl] at h; exact ⟨hl, by injection h with h; injection h⟩
  · simp [Term.eval, ht, ha, hl] at h
theorem own_elem {args : Array Value} {s : State} {t : Term} {a : Addr} {cl : Cell} {ty : FieldType} {j : Int32} {v : Value} (ht : t.eval args s none [] s = some (.ref a)) (A : Arr s s.heap a cl ty) (h : (Term.elem t (.int j)).eval args s none [] s = some v) : cl.slots[j.toNatClampNeg]? = some v :=
  (elem_in h ht (Term.int_eval j) A.1).2
theorem own_getR {p : Program} {l : Launch} {e : Env} {R : Room} {s : State} {m : MethodId} {args : Array Value} {below : List Frame} {meth : Method} {c : Code} {T : State} {locs : List Loc} {cells slots : Nat} {Z : State} {a0 : Array Value} {h : Heap}
    (X : Stand p l e R s m args below meth c T locs cells slots) (hx : p.tables.exec = Jvm.exec) (hZ : Z.Warmed39 s.vm) {own C n d : String} {index : Nat} (hown : s.vm.findClass own = some m.cls) (w : (Cond.fieldRef own index C n d).before a0 Z = true)
    (eT : T.heap = h) {a : Addr} {v : Value} (F : Fld Z h a C n d v) {g : JFrame} (hg : g.method = m) {rest : List Value} (hs : g.stack = .ref a :: rest) (hd : decode c.code g.pc = .ok (.getfield index, 3)) :
    ∀ target, Steps p.tables e below (T.setTop { g with pc := g.pc + 3, stack := v :: rest }) target → Steps p.tables e below (T.setTop g) target := by
  obtain ⟨cell, cf, k, i, f, h1, h2, h3, h4, h5, h6, h7⟩ := F
  have hT : Z.Warmed39 T.vm := wtrans hZ X.warmed
  have w2 : (Cond.fieldRef own index C n d).before a0 (Z.setVm T.vm) = true := Cond.fieldRef_warmed39 hT w
  have hcur : (Z.setVm T.vm).vm.findClass own = some m.cls := by
    show T.vm.findClass own = _
    rw [X.warmed.alike.findClass]; exact hown
  obtain ⟨c1, k1, i1, f1, q1, q2⟩ := Cond.fieldRef_spec hcur w2
  obtain ⟨k', q3, -⟩ := State.fieldFound?_setVm (s := Z) hT.alike h2
  cases q1.symm.trans q3
  have q4 : T.vm.fieldReady m.cls index cf f := q2
  have hc : T.heap[a]? = some cell := by rw [eT]; exact h1
  intro target hrest
  subst hg
  jvm_step X.here [hx, hd, getfield.wp_ready (e := e) (s := T) (f := g) X.here.top q4 h3 hs hc h4 h7]
  exact hrest

theorem own_pk (x : Int32) : 0 ≤ (nar .char ((x &&& 255).toUInt32.toUInt16.toUInt32.toInt32)).toInt ∧ (nar .char ((x &&& 255).toUInt32.toUInt16.toUInt32.toInt32)).toInt < 256 := by
  have a1 := c_mask x 255 8 (by decide) (by decide)
  have a2 := c_i2c (x &&& 255); have a3 := c_i2c ((x &&& 255).toUInt32.toUInt16.toUInt32.toInt32)
  have e : nar .char ((x &&& 255).toUInt32.toUInt16.toUInt32.toInt32) = ((x &&& 255).toUInt32.toUInt16.toUInt32.toInt32).toUInt32.toUInt16.toUInt32.toInt32 := rfl
  rw [e]; omega
theorem own_nc {c : Int32} (h1 : 0 ≤ c.toInt) (h2 : c.toInt < 256) : (nar .char c).toInt = c.toInt := by
  have a := c_i2c c
  have e : nar .char c = c.toUInt32.toUInt16.toUInt32.toInt32 := rfl
  rw [e]; omega
theorem own_lat {c : Int32} (h1 : 0 ≤ c.toInt) (h2 : c.toInt < 256) : ¬ (255 : Int32) < nar .char c := by
  rw [Int32.lt_iff_toInt_lt, own_nc h1 h2]; have e : (255 : Int32).toInt = 255 := rfl
  omega
def own_y (c : Int32) : Int32 := nar .byte ((nar .char c).toInt8.toInt32)
theorem own_yk {c k : Int32} (h1 : 0 ≤ c.toInt) (h2 : c.toInt < 256) (kc : 0 ≤ k.toInt) (k2 : k.toInt < 128) : own_y c = k ↔ c = k := by
  have a := own_nc h1 h2; have b := c_i2b (nar .char c); have d := c_i2b (nar .char c).toInt8.toInt32
  have e : own_y c = (nar .char c).toInt8.toInt32.toInt8.toInt32 := rfl
  rw [← Int32.toInt_inj, ← Int32.toInt_inj, e]; omega
def own_ok (c : Int32) : Int32 := if c = 46 then 0 else if c = 47 then 0 else 1
theorem own_okz (c : Int32) : own_ok c = 0 ↔ (c = 46 ∨ c = 47) := by
  unfold own_ok; by_cases h1 : c = 46
  · simp [h1]
  · by_cases h2 : c = 47
    · simp [h2]
    · simp [h1, h2]
def own_x (ys : List Int32) : Int32 := if (∀ y ∈ ys, ¬ y = 46) ∧ (∀ y ∈ ys, ¬ y = 47) then 1 else 0
theorem own_xA {ys : List Int32} {r : Int32} (h : r < 0 ↔ ∀ y ∈ ys, ¬ y = 46) (hn : ¬ r < 0) : own_x ys = 0 := if_neg (fun q => hn (h.mpr q.1))
theorem own_xB {ys : List Int32} {r : Int32} (h : r < 0 ↔ ∀ y ∈ ys, ¬ y = 47) (hn : ¬ r < 0) : own_x ys = 0 := if_neg (fun q => hn (h.mpr q.2))
theorem own_x1 {ys : List Int32} {r r' : Int32} (h : r < 0 ↔ ∀ y ∈ ys, ¬ y = 46) (h' : r' < 0 ↔ ∀ y ∈ ys, ¬ y = 47) (q : r < 0) (q' : r' < 0) : own_x ys = 1 := if_pos ⟨h.mp q, h'.mp q'⟩
theorem own_xall (cs : List Int32) (hb : ∀ c ∈ cs, 0 ≤ c.toInt ∧ c.toInt < 256) : own_x (cs.map own_y) = if ∀ c ∈ cs, ¬ own_ok c = 0 then 1 else 0 := by
  unfold own_x
  have k : ((∀ y ∈ cs.map own_y, ¬ y = 46) ∧ (∀ y ∈ cs.map own_y, ¬ y = 47)) ↔ ∀ c ∈ cs, ¬ own_ok c = 0 := by
    constructor
    · rintro ⟨p1, p2⟩ c hc q
      obtain ⟨b1, b2⟩ := hb c hc
      rcases (own_okz c).mp q with e | e
      · exact p1 _ (List.mem_map_of_mem hc) ((own_yk b1 b2 (by decide) (by decide)).mpr e)
      · exact p2 _ (List.mem_map_of_mem hc) ((own_yk b1 b2 (by decide) (by decide)).mpr e)
    · intro q
      refine ⟨fun y hy e => ?_, fun y hy e => ?_⟩
      · obtain ⟨c, hc, rfl⟩ := List.mem_map.mp hy
        obtain ⟨b1, b2⟩ := hb c hc
        exact q c hc ((own_okz c).mpr (Or.inl ((own_yk b1 b2 (by decide) (by decide)).mp e)))
      · obtain ⟨c, hc, rfl⟩ := List.mem_map.mp hy
        obtain ⟨b1, b2⟩ := hb c hc
        exact q c hc ((own_okz c).mpr (Or.inr ((own_yk b1 b2 (by decide) (by decide)).mp e)))
  by_cases h : ∀ c ∈ cs, ¬ own_ok c = 0
  · rw [if_pos h, if_pos (k.mpr h)]
  · rw [if_neg h, if_neg (fun q => h (k.mp q))]
/-- contracts of bodies that may intern: the start's String constants are held (CHv), the end is the wide one -/
abbrev own_MetH (l : Launch) (Z : State) (EL : List (String × Nat)) (ws : List Jvm.Cond) (y : MethodName) (bytes : ByteArray) (maxL : Nat) (ret : Option FieldType) (rm : Room) (as : Array Value) (h0 : Heap) (Q : Option Value → Heap → List Loc → Prop) : Prop :=
  MetFree l y (head1 (Jvm.Cond.code y bytes maxL ret :: ws) rm) (fun a U => a = as ∧ Z.Warmed39 U.vm ∧ U.heap = h0 ∧ CHv Z EL U.vm h0) (fun _ _ _ _ _ => True) (fun _ U o U' => ∃ v L, o = .returned v ∧ Q v U'.heap L ∧ ReturnedEndW U o U' L rm.cells rm.slots)
def own_EndW (s : State) (below : List Frame) (Q : Option Value → Heap → List Loc → Prop) (cells slots : Nat) (t : State) : Prop := ∃ o, t.status = .running ∧ Ended t below o ∧ ∃ v L, o = .returned v ∧ Q v t.heap L ∧ ReturnedEndW s o t L cells slots
theorem own_bodyW {tb : Tables} {e : Env} {below : List Frame} {s A : State} {Q : Option Value → Heap → List Loc → Prop} {cells slots : Nat} (k : own_Go tb e below (own_EndW s below Q cells slots) A) :
    ∃ s₂ o, Steps tb e below A s₂ ∧ s₂.status = .running ∧ Ended s₂ below o ∧ ∃ v L, o = .returned v ∧ Q v s₂.heap L ∧ ReturnedEndW s o s₂ L cells slots := by
  obtain ⟨U, h1, o, h2, h3, h4⟩ := k; exact ⟨U, o, h1, h2, h3, h4⟩
theorem own_retV {p : Program} {l : Launch} {e : Env} {R : Room} {s : State} {m : MethodId} {args : Array Value} {below : List Frame} {meth : Method} {c : Code} {T A : State} {locs : List Loc} {cells slots : Nat} {Q : Option Value → Heap → List Loc → Prop} {cs ss : Nat}
    (X : Stand p l e R s m args below meth c T locs cells slots) (hlk : meth.locks = false) {v : Option Value} (hv : meth.sig.returnType = none → v = none)
    (hst : ∀ fs : List Frame, (∀ (f : JFrame) (acts : List Action), f.method = m → f.locked = none → f.entered = [] → (doReturn e (T.setTop f) acts v).1 = T.setFrames fs) → Steps p.tables e below A (T.setFrames fs))
    (hQ : Q v T.heap locs) (hc : cells ≤ cs) (hs : slots ≤ ss) : own_Go p.tables e below (own_EndW s below Q cs ss) A := by
  obtain ⟨fs, hr, hrun, hended, hW, hsame⟩ := X.leave (v := v) hv hlk
  exact ⟨_, hst fs hr, _, hrun, hended, _, _, rfl, hQ, ReturnedEndW.of_narrow ⟨_, rfl⟩ hW (hsame.mono hc hs)⟩
theorem own_retW {p : Program} {l : Launch} {e : Env} {R : Room} {s : State} {m : MethodId} {args : Array Value} {below : List Frame} {meth : Method} {c : Code} {T A : State} {locs : List Loc} {cells slots : Nat} {Q : Option Value → Heap → List Loc → Prop} {cs ss : Nat} {vm1 : Vm} {n : Nat} {h : Heap}
    (X : Stand p l e R (s.setVm vm1) m args below meth c T locs cells slots) (hS : s.Since vm1 n) (eT : T.heap = h) (hn : n ≤ h.size) (hlk : meth.locks = false) {v : Option Value} (hv : meth.sig.returnType = none → v = none)
    (hst : ∀ fs : List Frame, (∀ (f : JFrame) (acts : List Action), f.method = m → f.locked = none → f.entered = [] → (doReturn e (T.setTop f) acts v).1 = T.setFrames fs) → Steps p.tables e below A (T.setFrames fs))
    (hQ : Q v T.heap locs) (hc : cells ≤ cs) (hs : slots ≤ ss) : own_Go p.tables e below (own_EndW s below Q cs ss) A := by
  obtain ⟨fs, hr, hrun, hended, r1, r2, r3, r4⟩ := X.leaveW hS (by rw [eT]; exact hn) (v := v) hv hlk
  exact ⟨_, hst fs hr, _, hrun, hended, _, _, rfl, hQ, r1, r2, r3, r4.mono hc hs⟩
theorem own_backH {p : Program} {l : Launch} {e : Env} {R : Room} {s : State} {args : Array Value} {below : List Frame} {Z : State} {a0 : Array Value} {EL : List (String × Nat)} {h : Heap} {vm0 : Vm} {y : MethodName} {bytes : ByteArray} {maxL : Nat} {ret : Option FieldType} {rm : Room} {len W : Nat} {as' : Array Value} {Q : Option Value → Heap → List Loc → Prop}
    (hM : own_MetH l Z EL [] y bytes maxL ret rm as' h Q) (hZ : Z.Warmed39 vm0) (wc : (Cond.code y bytes maxL ret).before a0 Z = true) (wz : (Cond.initialized y.cls).before a0 Z = true) (hf : rm.frames + 1 ≤ R.frames) (hl : W + (maxL + 11) + rm.locals ≤ R.locals) (hEL : EW Z a0 EL) (H : CHv Z EL vm0 h) :
    BackS l R p e below (s.setVm vm0) args y len W (fun A a => a = as' ∧ A.U.heap = h ∧ A.cells + rm.cells ≤ R.cells ∧ A.slots + rm.slots ≤ R.slots)
      (fun A _ v B => ∃ L, Q v B.U.heap L ∧ B.locs = A.locs ++ L ∧ B.cells = A.cells + rm.cells ∧ B.slots = A.slots + rm.slots) :=
  BackS.of_freeW (bytes := bytes) (maxL := maxL) (ret := ret) (E := fun _ _ o t L k n => k = rm.cells ∧ n = rm.slots ∧ ∃ v, o = .returned v ∧ Q v t.heap L) hM hf hl
    (fun m meth c A a Y hp => have hU : Z.Warmed39 A.U.vm := wtrans (s := s.setVm vm0) hZ Y.warmed
      ⟨by show (Cond.and _ .tt).before a A.U = true; rw [Cond.before_and, mv hU wc]; rfl, mv hU wc, mv hU wz, hp.2.2.1, hp.2.2.2⟩)
    (fun m meth c A a g mk Y hp => ⟨hp.1, wtrans (s := s.setVm vm0) hZ Y.warmed, hp.2.1, (CHv.at Y hZ hEL H).1⟩) (fun _ _ _ _ _ _ _ _ _ => trivial)
    (fun _ _ _ _ ⟨v, L, h1, h2, h3⟩ => ⟨L, _, _, h3, rfl, rfl, v, h1, h2⟩)
    (fun m meth c A a g mk v t L k n Y hp _ _ ⟨e1, e2, v', e3, e4⟩ => by cases e3; subst e1 e2; exact ⟨L, e4, rfl, rfl, rfl⟩)
theorem own_fne {Z : State} {h : Heap} {x y : Addr} {C n d : String} {v w : Value} (F : Fld Z h x C n d v) (G : Fld Z h y C n d w) (hvw : v ≠ w) : x ≠ y := fun q => by
  subst q
  obtain ⟨cell, cf, k, i, f, h1, h2, h3, h4, h5, h6, h7⟩ := F
  obtain ⟨cell', cf', k', i', f', g1, g2, g3, g4, g5, g6, g7⟩ := G
  cases h1.symm.trans g1; cases h2.symm.trans g2
  exact hvw (Option.some.inj (h7.symm.trans g7))
theorem own_sat : Bundle.stringAtoms = [.initialized "java/lang/String", .instantiable "java/lang/String" 4, .arrayClass .byte, .laysFinal "java/lang/String" "java/lang/String" "value" "[B", .laysFinal "java/lang/String" "java/lang/String" "coder" "B", .soleField "java/lang/String" "value", .soleField "java/lang/String" "coder"] := rfl

abbrev own_MetK (l : Launch) (Z : State) (EL : List (String × Nat)) (ws : List Jvm.Cond) (y : MethodName) (bytes : ByteArray) (maxL : Nat) (ret : Option FieldType) (rm : Room) (as : Array Value) (h0 : Heap) (Q : Option Value → Heap → List Loc → Prop) : Prop :=
  MetFree l y (head1 (Jvm.Cond.code y bytes maxL ret :: ws) rm) (fun a U => a = as ∧ Z.Warmed39 U.vm ∧ U.heap = h0 ∧ CHv Z EL U.vm h0) (fun _ _ _ _ _ => True) (fun _ U o U' => ∃ v L, o = .returned v ∧ Q v U'.heap L ∧ CHr Z EL U.vm U.heap U'.vm U'.heap ∧ ReturnedEndW U o U' L rm.cells rm.slots)
def own_EndK (Z : State) (EL : List (String × Nat)) (s : State) (below : List Frame) (Q : Option Value → Heap → List Loc → Prop) (cells slots : Nat) (t : State) : Prop := ∃ o, t.status = .running ∧ Ended t below o ∧ ∃ v L, o = .returned v ∧ Q v t.heap L ∧ CHr Z EL s.vm s.heap t.vm t.heap ∧ ReturnedEndW s o t L cells slots
theorem own_bodyK {Z : State} {EL : List (String × Nat)} {tb : Tables} {e : Env} {below : List Frame} {s A : State} {Q : Option Value → Heap → List Loc → Prop} {cells slots : Nat} (k : own_Go tb e below (own_EndK Z EL s below Q cells slots) A) :
    ∃ s₂ o, Steps tb e below A s₂ ∧ s₂.status = .running ∧ Ended s₂ below o ∧ ∃ v L, o = .returned v ∧ Q v s₂.heap L ∧ CHr Z EL s.vm s.heap s₂.vm s₂.heap ∧ ReturnedEndW s o s₂ L cells slots := by
  obtain ⟨U, h1, o, h2, h3, h4⟩ := k; exact ⟨U, o, h1, h2, h3, h4⟩
theorem own_retK {p : Program} {l : Launch} {e : Env} {R : Room} {s : State} {m : MethodId} {args : Array Value} {below : List Frame} {meth : Method} {c : Code} {T A : State} {locs : List Loc} {cells slots : Nat} {Q : Option Value → Heap → List Loc → Prop} {cs ss : Nat} {vm1 : Vm} {n : Nat} {h h0 : Heap} {Z : State} {a0 : Array Value} {EL : List (String × Nat)}
    (X : Stand p l e R (s.setVm vm1) m args below meth c T locs cells slots) (hS : s.Since vm1 n) (eT : T.heap = h) (hn : n ≤ h.size) (hh : s.heap = h0) (hZ : Z.Warmed39 vm1) (hEL : EW Z a0 EL) (CR : CHr Z EL s.vm h0 vm1 h) (hlk : meth.locks = false) {v : Option Value} (hv : meth.sig.returnType = none → v = none)
    (hst : ∀ fs : List Frame, (∀ (f : JFrame) (acts : List Action), f.method = m → f.locked = none → f.entered = [] → (doReturn e (T.setTop f) acts v).1 = T.setFrames fs) → Steps p.tables e below A (T.setFrames fs))
    (hQ : Q v T.heap locs) (hc : cells ≤ cs) (hs : slots ≤ ss) : own_Go p.tables e below (own_EndK Z EL s below Q cs ss) A := by
  obtain ⟨fs, hr, hrun, hended, r1, r2, r3, r4⟩ := X.leaveW hS (by rw [eT]; exact hn) (v := v) hv hlk
  refine ⟨_, hst fs hr, _, hrun, hended, _, _, rfl, hQ, ?_, r1, r2, r3, r4.mono hc hs⟩
  subst hh eT
  have q := CHv.at X hZ hEL CR.1
  exact CR.trans q
theorem own_sin {s : State} {vm0 vm2 : Vm} {k0 n2 : Nat} {T : State} {h : Heap} (hS : s.Since vm0 k0) (hsw : k0 ≤ h.size) (eT : T.heap = h) (h2 : (s.setVm vm0).Since vm2 n2) (hgr : T.heap.size ≤ n2) : s.Since vm2 n2 := hS.trans h2 (by rw [eT] at hgr; exact Nat.le_trans hsw hgr)
theorem own_backK {p : Program} {l : Launch} {e : Env} {R : Room} {s : State} {args : Array Value} {below : List Frame} {Z : State} {a0 : Array Value} {EL : List (String × Nat)} {h : Heap} {vm0 : Vm} {y : MethodName} {bytes : ByteArray} {maxL : Nat} {ret : Option FieldType} {rm : Room} {len W : Nat} {as' : Array Value} {Q : Option Value → Heap → List Loc → Prop}
    (hM : own_MetK l Z EL [] y bytes maxL ret rm as' h Q) (hZ : Z.Warmed39 vm0) (wc : (Cond.code y bytes maxL ret).before a0 Z = true) (wz : (Cond.initialized y.cls).before a0 Z = true) (hf : rm.frames + 1 ≤ R.frames) (hl : W + (maxL + 11) + rm.locals ≤ R.locals) (hEL : EW Z a0 EL) (H : CHv Z EL vm0 h) :
    BackS l R p e below (s.setVm vm0) args y len W (fun A a => a = as' ∧ A.U.heap = h ∧ A.cells + rm.cells ≤ R.cells ∧ A.slots + rm.slots ≤ R.slots)
      (fun A _ v B => ∃ L, Q v B.U.heap L ∧ B.locs = A.locs ++ L ∧ B.cells = A.cells + rm.cells ∧ B.slots = A.slots + rm.slots ∧ CHr Z EL vm0 h B.U.vm B.U.heap) :=
  backOfSH (Q := Q) hM hZ wc wz hf hl hEL H
theorem own_narv {w : Value} {C : String} (h : w.isRef = true) : narrow (.object C) w = w := by cases w <;> first | rfl | simp [Value.isRef] at h
theorem own_fitv {w : Value} {C : String} (h : w.isRef = true) : fits (.object C) w = true := by cases w <;> first | rfl | simp [Value.isRef] at h

theorem own_shr0 (z : Int32) : (z >>> ((0 : Int32) &&& 31)) = z := by
  apply Int32.toBitVec_inj.mp; show z.toBitVec.sshiftRight' _ = _; simp
theorem own_sb {a b : Int32} (h1 : 0 ≤ a.toInt) (h2 : a.toInt ≤ b.toInt) : (b - a).toInt = b.toInt - a.toInt := by
  have := c_isub b a; have := rng32 (b - a); have := rng32 b; omega
theorem own_sb0 {a b : Int32} (h1 : 0 ≤ a.toInt) (h2 : a.toInt ≤ b.toInt) : 0 ≤ (b - a).toInt := by have := own_sb h1 h2; omega
theorem own_sb3 {a b z : Int32} (h1 : 0 ≤ a.toInt) (h2 : a.toInt ≤ b.toInt) (h3 : b.toInt ≤ z.toInt) : a.toInt + (b - a).toInt ≤ z.toInt := by have := own_sb h1 h2; omega
theorem own_sb4 {a b z : Int32} (h1 : 0 ≤ a.toInt) (h2 : a.toInt ≤ b.toInt) (h3 : b.toInt ≤ z.toInt) (h4 : z.toInt ≤ 4) : (b - a).toInt ≤ 4 := by have := own_sb h1 h2; omega
theorem own_n0 {x : Int32} (h : 0 ≤ x.toInt) : ¬ x < (0 : Int32) := by
  have e0 : (0 : Int32).toInt = 0 := rfl
  rw [Int32.lt_iff_toInt_lt, e0]; omega
theorem own_ge {x : Int32} (h : ¬ x < (0 : Int32)) : 0 ≤ x.toInt := by
  have e0 : (0 : Int32).toInt = 0 := rfl
  rw [Int32.lt_iff_toInt_lt, e0] at h; omega
theorem own_le0 {x : Int32} (h : 0 ≤ x.toInt) : (0 : Int32).toInt ≤ x.toInt := by
  have e0 : (0 : Int32).toInt = 0 := rfl
  omega
theorem own_ltz {x : Int32} (h : x.toInt < 0) : x < (0 : Int32) := by
  have e0 : (0 : Int32).toInt = 0 := rfl
  rw [Int32.lt_iff_toInt_lt, e0]; exact h
theorem own_nl {a b : Int32} (h : a.toInt ≤ b.toInt) : ¬ b < a := by rw [Int32.lt_iff_toInt_lt]; omega
theorem own_lt {a b : Int32} (h : a.toInt < b.toInt) : a < b := Int32.lt_iff_toInt_lt.mpr h
theorem own_eqI {x y : Int32} (h : y.toInt ≤ x.toInt) (q : ¬ y < x) : x = y := by
  rw [Int32.lt_iff_toInt_lt] at q; apply Int32.toInt_inj.mp; omega
theorem own_cap {a b z : Int32} (h1 : 0 ≤ a.toInt) (h2 : a.toInt ≤ b.toInt) (h3 : b.toInt ≤ z.toInt) (h4 : z.toInt ≤ 4) : (b - a).toNatClampNeg ≤ 4 := by
  have := own_sb h1 h2; simp only [Int32.toNatClampNeg]; omega
theorem own_h4 {a b z : Int32} (h1 : 0 ≤ a.toInt) (h2 : a.toInt ≤ b.toInt) (h3 : b.toInt ≤ z.toInt) : a.toNatClampNeg + (b - a).toNatClampNeg ≤ z.toNatClampNeg := by
  have := own_sb h1 h2; simp only [Int32.toNatClampNeg]; omega
theorem own_mn {a b z : Int32} (h1 : 0 ≤ a.toInt) (h2 : a.toInt ≤ b.toInt) (h3 : b.toInt ≤ z.toInt) : (b - a).toInt ≤ (z - a).toInt := by
  have := own_sb h1 h2; have := own_sb h1 (Int.le_trans h2 h3); omega
theorem own_hl {n : Nat} {d : Value} : (0 : Int32).toNatClampNeg + n ≤ ([] ++ List.replicate n d).length := by
  have e : (0 : Int32).toNatClampNeg = 0 := rfl
  rw [e]; simp
theorem own_h5 {n : Nat} : (0 : Int32).toNatClampNeg + n ≤ n := by
  have e : (0 : Int32).toNatClampNeg = 0 := rfl
  rw [e]; omega
theorem own_ads (a b : Int32) : a + (b - a) = b := by
  apply Int32.toInt_inj.mp
  have := c_isub b a; have := c_iadd a (b - a); have := rng32 (a + (b - a)); have := rng32 b; omega
theorem own_adl (a b : Int32) : a + b - a = b := by
  apply Int32.toInt_inj.mp
  have := c_isub (a + b) a; have := c_iadd a b; have := rng32 (a + b - a); have := rng32 b; omega
theorem own_sub0 (a : Int32) : a - 0 = a := by
  apply Int32.toInt_inj.mp
  have e0 : (0 : Int32).toInt = 0 := rfl
  have := c_isub a 0; have := rng32 (a - 0); have := rng32 a; omega
theorem own_ab {a b z : Int32} (h1 : 0 ≤ a.toInt) (h2 : 0 ≤ b.toInt) (h3 : a.toInt + b.toInt ≤ z.toInt) : a.toInt ≤ (a + b).toInt ∧ (a + b).toInt ≤ z.toInt := by
  have := c_iadd a b; have := rng32 (a + b); have := rng32 z; omega
theorem own_d1 {d z : Int32} (h1 : -1 ≤ d.toInt) (h2 : d.toInt < z.toInt) : 0 ≤ (d + (1 : Int32)).toInt ∧ (d + (1 : Int32)).toInt ≤ z.toInt := by
  have e1 : (1 : Int32).toInt = 1 := rfl
  have := c_iadd d 1; have := rng32 (d + 1); have := rng32 z; omega
theorem own_im2 {i z : Int32} {q : Nat} (h : i.toInt < z.toInt) (ik : i.toInt + 1 = ((q + 1 : Nat) : Int)) : (i + Int32.ofInt (-1)).toInt < z.toInt ∧ (i + Int32.ofInt (-1)).toInt + 1 = (q : Int) := by
  have e1 : (Int32.ofInt (-1)).toInt = -1 := by decide
  have a := c_iadd i (Int32.ofInt (-1)); have b := rng32 (i + Int32.ofInt (-1)); have c := rng32 i
  rw [e1] at a
  generalize (i + Int32.ofInt (-1)).toInt = w at a b ⊢
  omega
theorem own_z1 {z : Int32} (h : 0 ≤ z.toInt) (q : ¬ z = (0 : Int32)) : (1 : Int32).toInt ≤ z.toInt := by
  have e0 : (0 : Int32).toInt = 0 := rfl
  have e1 : (1 : Int32).toInt = 1 := rfl
  rw [← Int32.toInt_inj, e0] at q; omega
def own_ix (z : Int32) (vs : List Value) (chb r : Int32) : Prop := -1 ≤ r.toInt ∧ r.toInt < z.toInt ∧ (0 ≤ r.toInt → vs.getD r.toNatClampNeg (.int 0) = .int chb)
theorem own_ixm {z : Int32} {vs : List Value} {chb : Int32} (h : 0 ≤ z.toInt) : own_ix z vs chb (-1) := by
  have e : (-1 : Int32).toInt = -1 := rfl
  exact ⟨by omega, by omega, fun q => by omega⟩
theorem own_i1 {z i : Int32} {vs : List Value} (H : own_ix z vs 47 i) (h46 : vs.getD 0 (.int 0) = .int 46) (hi : ¬ i < (0 : Int32)) : (1 : Int32).toInt ≤ i.toInt := by
  have e1 : (1 : Int32).toInt = 1 := rfl
  have g := own_ge hi
  rcases Int.lt_or_le 0 i.toInt with q | q
  · omega
  · have k := H.2.2 g
    have z0 : i.toNatClampNeg = 0 := by simp only [Int32.toNatClampNeg]; omega
    rw [z0, h46] at k
    exact absurd (Value.int.inj k) (by decide)
theorem own_vz {Z : State} {h : Heap} {b : Addr} {k : ClassId} {ty : FieldType} {z : Int32} {vs : List Value} {d : Value} (V : Arv Z h b k ty z vs d) : 0 ≤ z.toInt := by
  obtain ⟨c, -, -, -, q, -⟩ := V; exact own_ge q
theorem own_gv {Z : State} {h : Heap} {b : Addr} {k : ClassId} {z i : Int32} {vs : List Value} (V : Arv Z h b k .byte z vs (.int 0)) (h1 : 0 ≤ i.toInt) (h2 : i.toInt < z.toInt) : ∃ y, vs.getD i.toNatClampNeg (.int 0) = .int y := by
  obtain ⟨c, -, -, S, -, -, G⟩ := V
  have q := G i.toNatClampNeg (by rw [S]; simp only [Int32.toNatClampNeg]; omega)
  generalize vs.getD i.toNatClampNeg (.int 0) = w at q
  cases w with
  | int y => exact ⟨y, rfl⟩
  | _ => first | exact (Bool.false_ne_true q).elim | simp [fits] at q
theorem own_inb {i z : Int32} (h1 : 0 ≤ i.toInt) (h2 : i.toInt < z.toInt) : ¬ i < 0 ∧ i < z := ⟨own_n0 h1, own_lt h2⟩
theorem own_svr {w : Value} {P : Addr → Prop} (h : w = .null ∨ ∃ o : Addr, w = .ref o ∧ P o) : w.isRef = true := by
  rcases h with rfl | ⟨o, rfl, -⟩ <;> rfl
theorem own_pnr {w : Value} {a : Addr} (h : w = .null ∨ w = .ref a) : w.isRef = true := by rcases h with rfl | rfl <;> rfl
theorem own_pns {w : Value} {a : Addr} {P : Addr → Prop} (h : w = .null ∨ w = .ref a) (E : P a) : w = .null ∨ ∃ o : Addr, w = .ref o ∧ P o := h.imp id fun q => ⟨a, q, E⟩
theorem own_catr (a : Addr) : (Value.ref a).category = 1 := rfl
theorem own_exne {Z : State} {h : Heap} {a b : Addr} {C D : String} (E : Exa Z h a C) (F : Exa Z h b D) (hn : C ≠ D) : a ≠ b := fun q => by
  subst q
  obtain ⟨c1, k1, g1, g2, -⟩ := E
  obtain ⟨c2, k2, f1, f2, -⟩ := F
  cases g1.symm.trans f1
  obtain ⟨k, e1, e2⟩ := Vm.findClass_spec g2
  obtain ⟨k', e3, e4⟩ := Vm.findClass_spec f2
  cases e1.symm.trans e3
  exact hn (e2.symm.trans e4)
theorem own_vo (x : Int32) : ¬ (255 : Int32) < (x &&& (255 : Int32)).toUInt32.toUInt16.toUInt32.toInt32 := by
  have a1 := c_mask x 255 8 (by decide) (by decide); have a2 := c_i2c (x &&& 255)
  have e255 : (255 : Int32).toInt = 255 := rfl
  rw [Int32.lt_iff_toInt_lt, e255]; omega
theorem own_isr {args : Array Value} {s : State} {t : Term} (h : (Jvm.Cond.isRef t).before args s = true) : ∃ v, t.eval args s none [] s = some v ∧ (v = .null ∨ ∃ o : Addr, v = .ref o) := by
  have h2 := Cond.before_iff.mp h
  simp only [Cond.value] at h2
  cases ht : t.eval args s none [] s with
  | none => simp [ht] at h2
  | some x => exact ⟨x, rfl, by cases x <;> simp [ht, Value.isRef] at h2 ⊢⟩
theorem own_nz {args : Array Value} {s : State} {t : Term} {cs : Int32} (ev : t.eval args s none [] s = some (.int cs)) (h : (Jvm.Cond.not (Jvm.Cond.eq t (.int 0))).before args s = true) : ¬ cs = (0 : Int32) := fun q => by
  subst q
  have h2 := Cond.before_iff.mp h
  simp [Cond.value, Term.eval, ev] at h2

theorem own_svk {Z : State} {h h' : Heap} {w : Value} {C : String} {ws : List Addr} (s : w = .null ∨ ∃ o : Addr, w = .ref o ∧ Exa Z h o C) (K : Keep h h' ws) : w = .null ∨ ∃ o : Addr, w = .ref o ∧ Exa Z h' o C := s.imp id fun ⟨o, q, E⟩ => ⟨o, q, E.keep K⟩
theorem own_ws {Z : State} {a0 : Array Value} (hw : ∀ d ∈ tables_1, d.before a0 Z = true) : ∀ a ∈ Bundle.stringAtoms, a.before a0 Z = true := by
  intro d hd
  rw [own_sat] at hd
  simp only [List.mem_cons, List.not_mem_nil, or_false] at hd
  rcases hd with rfl | rfl | rfl | rfl | rfl | rfl | rfl
  · exact hw _ (List.mem_of_getElem? (i := 6) rfl)
  · exact hw _ (List.mem_of_getElem? (i := 7) rfl)
  · exact hw _ (List.mem_of_getElem? (i := 8) rfl)
  · exact hw _ (List.mem_of_getElem? (i := 9) rfl)
  · exact hw _ (List.mem_of_getElem? (i := 10) rfl)
  · exact hw _ (List.mem_of_getElem? (i := 11) rfl)
  · exact hw _ (List.mem_of_getElem? (i := 12) rfl)
theorem own_ew {Z : State} {a0 : Array Value} (hw : ∀ d ∈ tables_1, d.before a0 Z = true) : EW Z a0 consts_1 := (EW.cons (text := "") (hw _ (List.mem_of_getElem? (i := 5) rfl)) (by decide +kernel) (EW.cons (text := "") (hw _ (List.mem_of_getElem? (i := 221) rfl)) (by decide +kernel) EW.nil))
theorem own_pn0 : plainName "java/lang/StringLatin1" = true := by first | (simp [plainName, overriddenIn]; done) | decide +kernel
theorem own_d14_0 : decode jdk_43_method_4_code 0 = .ok (.iload_n 0, 1) := by decide +kernel
theorem own_d14_1 : decode jdk_43_method_4_code 1 = .ok (.ifCond .lt 14, 3) := by decide +kernel
theorem own_d14_4 : decode jdk_43_method_4_code 4 = .ok (.iload_n 0, 1) := by decide +kernel
theorem own_d14_5 : decode jdk_43_method_4_code 5 = .ok (.sipush 255, 3) := by decide +kernel
theorem own_d14_8 : decode jdk_43_method_4_code 8 = .ok (.if_icmp .gt 7, 3) := by decide +kernel
theorem own_d14_11 : decode jdk_43_method_4_code 11 = .ok (.iconst 1, 1) := by decide +kernel
theorem own_d14_12 : decode jdk_43_method_4_code 12 = .ok (.goto 4, 3) := by decide +kernel
theorem own_d14_16 : decode jdk_43_method_4_code 16 = .ok (.ireturn, 1) := by decide +kernel
set_option maxRecDepth 65536 in
set_option maxHeartbeats 40000000 in
theorem own_rmCE (l : Launch) (Z : State) (a0 : Array Value) (hw : ∀ d ∈ tables_1, d.before a0 Z = true) (ch : Int32) (h0 : Heap) (n0 : Nat) (Z0 : n0 ≤ h0.size) (c1 : ¬ ch < (0 : Int32)) (c2 : ¬ (255 : Int32) < ch) :
    own_Met l Z [] (⟨"java/lang/StringLatin1", "canEncode", "(I)Z"⟩ : MethodName) jdk_43_method_4_code 1 (some .boolean) ({ frames := 0, cells := 0, slots := 0, locals := 0 } : Room) #[(.int ch)] h0 (fun v h L => v = some (.int 1) ∧ Fr n0 L ∧ h = h0) := by
  refine MetFree.of_bodySF (plainFor_of_name own_pn0) hisR ?_
  intro p e s m args below meth c s₁ Bd hml0 hP hK
  obtain ⟨rfl, hZ, hh⟩ := hP
  have hx := Bd.exec
  have hby := Bd.bytes
  have hml : c.maxLocals = 1 := hml0
  have hown : s.vm.findClass "java/lang/StringLatin1" = some m.cls := findClass_of_methodNamed Bd.named
  have hnm := (name_of_methodNamed Bd.named Bd.method).1
  have hlk : meth.locks = false := Bd.notSynchronized
  have X0 : Stand p l e ({ frames := 0, cells := 0, slots := 0, locals := 0 } : Room) s m #[(.int ch)] below meth c s₁ [] 0 0 := Stand.of_body Bd
  have e0 : s₁.heap = h0 := by rw [← hh, Bd.state]; rfl
  have N0 := Fr.nil n0
  refine own_body (Q := fun v h L => v = some (.int 1) ∧ Fr n0 L ∧ h = h0) ?_
  refine own_go (fun _ kont => castTop (own_ef m #[(.int ch)] 1 #[.val (.int ch)] (own_al [(.int ch)] 1 [.val (.int ch)] rfl)) kont) ?_
  show own_Go _ _ _ _ (s₁.setTop (mkF m 0 #[.val (.int ch)] []))
  refine own_go (fun _ => XS.iloadN X0.here hx rfl (hb hby own_d14_0) rfl) ?_
  show own_Go _ _ _ _ (s₁.setTop (mkF m 1 #[.val (.int ch)] [(.int ch)]))
  refine own_go (fun _ => XS.ifNo X0.here hx rfl (hb hby own_d14_1) rfl ((if0 _ _).trans (flt c1).1)) ?_
  show own_Go _ _ _ _ (s₁.setTop (mkF m 4 #[.val (.int ch)] []))
  refine own_go (fun _ => XS.iloadN X0.here hx rfl (hb hby own_d14_4) rfl) ?_
  refine own_go (fun _ => XS.sipush X0.here hx rfl (hb hby own_d14_5)) ?_
  show own_Go _ _ _ _ (s₁.setTop (mkF m 8 #[.val (.int ch)] [(.int (255 : Int32)), (.int ch)]))
  refine own_go (fun _ => XS.icmpNo X0.here hx rfl (hb hby own_d14_8) rfl (flt c2).2.2.1) ?_
  show own_Go _ _ _ _ (s₁.setTop (mkF m 11 #[.val (.int ch)] []))
  refine own_go (fun _ => XS.iconst X0.here hx rfl (hb hby own_d14_11)) ?_
  refine own_go (fun _ => XS.goto X0.here hx rfl (pc0 := 12) (pc' := 16) rfl (hb hby own_d14_12) (by decide) (by decide)) ?_
  show own_Go _ _ _ _ (s₁.setTop (mkF m 16 #[.val (.int ch)] [(.int (1 : Int32))]))
  refine own_ret X0 hlk (v := some (.int (1 : Int32))) (fun h => by rw [Bd.returns] at h; cases h) (fun fs hr => retN X0 hx (t := .boolean) Bd.returns (by simp) (hb hby own_d14_16) hr) ?_ (by decide) (by decide)
  try rw [e0]
  exact ⟨rfl, N0, rfl⟩
theorem own_d15_0 : decode jdk_29_method_65_code 0 = .ok (.iload_n 0, 1) := by decide +kernel
theorem own_d15_1 : decode jdk_29_method_65_code 1 = .ok (.iload_n 1, 1) := by decide +kernel
theorem own_d15_2 : decode jdk_29_method_65_code 2 = .ok (.if_icmp .lt 7, 3) := by decide +kernel
theorem own_d15_5 : decode jdk_29_method_65_code 5 = .ok (.iload_n 0, 1) := by decide +kernel
theorem own_d15_6 : decode jdk_29_method_65_code 6 = .ok (.goto 4, 3) := by decide +kernel
theorem own_d15_10 : decode jdk_29_method_65_code 10 = .ok (.ireturn, 1) := by decide +kernel
set_option maxRecDepth 65536 in
set_option maxHeartbeats 40000000 in
theorem own_rmMax (l : Launch) (Z : State) (a0 : Array Value) (hw : ∀ d ∈ tables_1, d.before a0 Z = true)  (h0 : Heap) (n0 : Nat) (Z0 : n0 ≤ h0.size)  :
    own_Met l Z [] (⟨"java/lang/Math", "max", "(II)I"⟩ : MethodName) jdk_29_method_65_code 2 (some .int) ({ frames := 0, cells := 0, slots := 0, locals := 0 } : Room) #[(.int (0 : Int32)), (.int (0 : Int32))] h0 (fun v h L => v = some (.int 0) ∧ Fr n0 L ∧ h = h0) := by
  refine MetFree.of_bodySF (Jvm.Free.JP.mathPlain rfl (by decide +kernel)) hisR ?_
  intro p e s m args below meth c s₁ Bd hml0 hP hK
  obtain ⟨rfl, hZ, hh⟩ := hP
  have hx := Bd.exec
  have hby := Bd.bytes
  have hml : c.maxLocals = 2 := hml0
  have hown : s.vm.findClass "java/lang/Math" = some m.cls := findClass_of_methodNamed Bd.named
  have hnm := (name_of_methodNamed Bd.named Bd.method).1
  have hlk : meth.locks = false := Bd.notSynchronized
  have X0 : Stand p l e ({ frames := 0, cells := 0, slots := 0, locals := 0 } : Room) s m #[(.int (0 : Int32)), (.int (0 : Int32))] below meth c s₁ [] 0 0 := Stand.of_body Bd
  have e0 : s₁.heap = h0 := by rw [← hh, Bd.state]; rfl
  have N0 := Fr.nil n0
  refine own_body (Q := fun v h L => v = some (.int 0) ∧ Fr n0 L ∧ h = h0) ?_
  refine own_go (fun _ kont => castTop (own_ef m #[(.int (0 : Int32)), (.int (0 : Int32))] 2 #[.val (.int (0 : Int32)), .val (.int (0 : Int32))] (own_al [(.int (0 : Int32)), (.int (0 : Int32))] 2 [.val (.int (0 : Int32)), .val (.int (0 : Int32))] rfl)) kont) ?_
  show own_Go _ _ _ _ (s₁.setTop (mkF m 0 #[.val (.int (0 : Int32)), .val (.int (0 : Int32))] []))
  refine own_go (fun _ => XS.iloadN X0.here hx rfl (hb hby own_d15_0) rfl) ?_
  refine own_go (fun _ => XS.iloadN X0.here hx rfl (hb hby own_d15_1) rfl) ?_
  show own_Go _ _ _ _ (s₁.setTop (mkF m 2 #[.val (.int (0 : Int32)), .val (.int (0 : Int32))] [(.int (0 : Int32)), (.int (0 : Int32))]))
  refine own_go (fun _ => XS.icmpNo X0.here hx rfl (hb hby own_d15_2) rfl (flt (by decide)).1) ?_
  show own_Go _ _ _ _ (s₁.setTop (mkF m 5 #[.val (.int (0 : Int32)), .val (.int (0 : Int32))] []))
  refine own_go (fun _ => XS.iloadN X0.here hx rfl (hb hby own_d15_5) rfl) ?_
  refine own_go (fun _ => XS.goto X0.here hx rfl (pc0 := 6) (pc' := 10) rfl (hb hby own_d15_6) (by decide) (by decide)) ?_
  show own_Go _ _ _ _ (s₁.setTop (mkF m 10 #[.val (.int (0 : Int32)), .val (.int (0 : Int32))] [(.int (0 : Int32))]))
  refine own_ret X0 hlk (v := some (.int (0 : Int32))) (fun h => by rw [Bd.returns] at h; cases h) (fun fs hr => retOut X0 hx Bd.returns rfl (Or.inl ⟨rfl, Or.inl rfl, _, rfl⟩) (hb hby own_d15_10) hr) ?_ (by decide) (by decide)
  try rw [e0]
  exact ⟨rfl, N0, rfl⟩
theorem own_pn1 : plainName "java/lang/String" = true := by first | (simp [plainName, overriddenIn]; done) | decide +kernel
theorem own_d17_0 : decode jdk_42_method_55_code 0 = .ok (.aload_n 0, 1) := by decide +kernel
theorem own_d17_1 : decode jdk_42_method_55_code 1 = .ok (.getfield 9, 3) := by decide +kernel
theorem own_d17_4 : decode jdk_42_method_55_code 4 = .ok (.arraylength, 1) := by decide +kernel
theorem own_d17_5 : decode jdk_42_method_55_code 5 = .ok (.ifCond .ne 7, 3) := by decide +kernel
theorem own_d17_8 : decode jdk_42_method_55_code 8 = .ok (.iconst 1, 1) := by decide +kernel
theorem own_d17_9 : decode jdk_42_method_55_code 9 = .ok (.goto 4, 3) := by decide +kernel
theorem own_d17_13 : decode jdk_42_method_55_code 13 = .ok (.ireturn, 1) := by decide +kernel
set_option maxRecDepth 65536 in
set_option maxHeartbeats 40000000 in
theorem own_rmE0 (l : Launch) (Z : State) (a0 : Array Value) (hw : ∀ d ∈ tables_1, d.before a0 Z = true) (a1 : Addr) (b : Addr) (k : ClassId) (h0 : Heap) (n0 : Nat) (Z0 : n0 ≤ h0.size) (Fv : Fld Z h0 a1 "java/lang/String" "value" "[B" (.ref b)) (V : Arv Z h0 b k .byte 0 [] (.int 0)) :
    own_Met l Z [] (⟨"java/lang/String", "isEmpty", "()Z"⟩ : MethodName) jdk_42_method_55_code 1 (some .boolean) ({ frames := 0, cells := 0, slots := 0, locals := 0 } : Room) #[(.ref a1)] h0 (fun v h L => v = some (.int 1) ∧ Fr n0 L ∧ h = h0) := by
  refine MetFree.of_bodySF (plainFor_of_name own_pn1) hisR ?_
  intro p e s m args below meth c s₁ Bd hml0 hP hK
  obtain ⟨rfl, hZ, hh⟩ := hP
  have hx := Bd.exec
  have hby := Bd.bytes
  have hml : c.maxLocals = 1 := hml0
  have hown : s.vm.findClass "java/lang/String" = some m.cls := findClass_of_methodNamed Bd.named
  have hnm := (name_of_methodNamed Bd.named Bd.method).1
  have hlk : meth.locks = false := Bd.notSynchronized
  have X0 : Stand p l e ({ frames := 0, cells := 0, slots := 0, locals := 0 } : Room) s m #[(.ref a1)] below meth c s₁ [] 0 0 := Stand.of_body Bd
  have e0 : s₁.heap = h0 := by rw [← hh, Bd.state]; rfl
  have N0 := Fr.nil n0
  refine own_body (Q := fun v h L => v = some (.int 1) ∧ Fr n0 L ∧ h = h0) ?_
  refine own_go (fun _ kont => castTop (own_ef m #[(.ref a1)] 1 #[.val (.ref a1)] (own_al [(.ref a1)] 1 [.val (.ref a1)] rfl)) kont) ?_
  show own_Go _ _ _ _ (s₁.setTop (mkF m 0 #[.val (.ref a1)] []))
  refine own_go (fun _ => XS.aloadN X0.here hx rfl (hb hby own_d17_0) rfl rfl) ?_
  obtain ⟨T1, X1, e1, st1⟩ := getF X0 hx hZ hown (host := "") (Or.inl (hw _ (List.mem_of_getElem? (i := 32) rfl))) Via.refl e0 Fv (g := (mkF m 1 #[.val (.ref a1)] [(.ref a1)])) rfl rfl (hb hby own_d17_1)
  refine own_go st1 ?_
  obtain ⟨cl2, Ar2, -, Sz2, Ng2, -, -⟩ := id V
  refine own_go (X1.arraylength hx (own_hp e1 Ar2.1) (State.isArrayOf_alike hZ.alike Ar2.2.1) (g := (mkF m 4 #[.val (.ref a1)] [(.ref b)])) rfl rfl (hb hby own_d17_4)) ?_
  rw [len_of Sz2 Ng2]
  show own_Go _ _ _ _ (T1.setTop (mkF m 5 #[.val (.ref a1)] [(.int (0 : Int32))]))
  refine own_go (fun _ => XS.ifNo X1.here hx rfl (hb hby own_d17_5) rfl ((if0 _ _).trans (teq (by decide)).2)) ?_
  show own_Go _ _ _ _ (T1.setTop (mkF m 8 #[.val (.ref a1)] []))
  refine own_go (fun _ => XS.iconst X1.here hx rfl (hb hby own_d17_8)) ?_
  refine own_go (fun _ => XS.goto X1.here hx rfl (pc0 := 9) (pc' := 13) rfl (hb hby own_d17_9) (by decide) (by decide)) ?_
  show own_Go _ _ _ _ (T1.setTop (mkF m 13 #[.val (.ref a1)] [(.int (1 : Int32))]))
  refine own_ret X1 hlk (v := some (.int (1 : Int32))) (fun h => by rw [Bd.returns] at h; cases h) (fun fs hr => retN X1 hx (t := .boolean) Bd.returns (by simp) (hb hby own_d17_13) hr) ?_ (by decide) (by decide)
  try rw [e1]
  exact ⟨rfl, N0, rfl⟩
theorem own_d12_0 : decode jdk_42_method_152_code 0 = .ok (.getstatic 38, 3) := by decide +kernel
theorem own_d12_3 : decode jdk_42_method_152_code 3 = .ok (.ifCond .eq 10, 3) := by decide +kernel
theorem own_d12_6 : decode jdk_42_method_152_code 6 = .ok (.aload_n 0, 1) := by decide +kernel
theorem own_d12_7 : decode jdk_42_method_152_code 7 = .ok (.getfield 15, 3) := by decide +kernel
theorem own_d12_10 : decode jdk_42_method_152_code 10 = .ok (.goto 4, 3) := by decide +kernel
theorem own_d12_14 : decode jdk_42_method_152_code 14 = .ok (.ireturn, 1) := by decide +kernel
set_option maxRecDepth 65536 in
set_option maxHeartbeats 40000000 in
theorem own_rmco0 (l : Launch) (Z : State) (a0 : Array Value) (hw : ∀ d ∈ tables_1, d.before a0 Z = true) (a1 : Addr) (cs : Int32) (h0 : Heap) (n0 : Nat) (Z0 : n0 ≤ h0.size) (Fc : Fld Z h0 a1 "java/lang/String" "coder" "B" (.int 0)) (O : Old Z n0 h0) (S_C : Sta Z Z.heap "java/lang/String" "COMPACT_STRINGS" "Z" (.int cs)) (hcs : ¬ cs = (0 : Int32)) :
    own_Met l Z [] (⟨"java/lang/String", "coder", "()B"⟩ : MethodName) jdk_42_method_152_code 1 (some .byte) ({ frames := 0, cells := 0, slots := 0, locals := 0 } : Room) #[(.ref a1)] h0 (fun v h L => v = some (.int 0) ∧ Fr n0 L ∧ h = h0) := by
  refine MetFree.of_bodySF (plainFor_of_name own_pn1) hisR ?_
  intro p e s m args below meth c s₁ Bd hml0 hP hK
  obtain ⟨rfl, hZ, hh⟩ := hP
  have hx := Bd.exec
  have hby := Bd.bytes
  have hml : c.maxLocals = 1 := hml0
  have hown : s.vm.findClass "java/lang/String" = some m.cls := findClass_of_methodNamed Bd.named
  have hnm := (name_of_methodNamed Bd.named Bd.method).1
  have hlk : meth.locks = false := Bd.notSynchronized
  have X0 : Stand p l e ({ frames := 0, cells := 0, slots := 0, locals := 0 } : Room) s m #[(.ref a1)] below meth c s₁ [] 0 0 := Stand.of_body Bd
  have e0 : s₁.heap = h0 := by rw [← hh, Bd.state]; rfl
  have N0 := Fr.nil n0
  refine own_body (Q := fun v h L => v = some (.int 0) ∧ Fr n0 L ∧ h = h0) ?_
  refine own_go (fun _ kont => castTop (own_ef m #[(.ref a1)] 1 #[.val (.ref a1)] (own_al [(.ref a1)] 1 [.val (.ref a1)] rfl)) kont) ?_
  show own_Go _ _ _ _ (s₁.setTop (mkF m 0 #[.val (.ref a1)] []))
  obtain ⟨T1, X1, e1, st1⟩ := getS2 X0 hx hZ hown (host := "") (Or.inl (hw _ (List.mem_of_getElem? (i := 16) rfl))) Via.refl e0 (S_C.ext O.2) (g := (mkF m 0 #[.val (.ref a1)] [])) rfl (hb hby own_d12_0)
  refine own_go st1 ?_
  show own_Go _ _ _ _ (T1.setTop (mkF m 3 #[.val (.ref a1)] [(.int cs)]))
  refine own_go (fun _ => XS.ifNo X1.here hx rfl (hb hby own_d12_3) rfl ((if0 _ _).trans (feq hcs).1)) ?_
  show own_Go _ _ _ _ (T1.setTop (mkF m 6 #[.val (.ref a1)] []))
  refine own_go (fun _ => XS.aloadN X1.here hx rfl (hb hby own_d12_6) rfl rfl) ?_
  obtain ⟨T2, X2, e2, st2⟩ := getF X1 hx hZ hown (host := "") (Or.inl (hw _ (List.mem_of_getElem? (i := 33) rfl))) Via.refl e1 Fc (g := (mkF m 7 #[.val (.ref a1)] [(.ref a1)])) rfl rfl (hb hby own_d12_7)
  refine own_go st2 ?_
  refine own_go (fun _ => XS.goto X2.here hx rfl (pc0 := 10) (pc' := 14) rfl (hb hby own_d12_10) (by decide) (by decide)) ?_
  show own_Go _ _ _ _ (T2.setTop (mkF m 14 #[.val (.ref a1)] [(.int (0 : Int32))]))
  refine own_ret X2 hlk (v := some (.int (0 : Int32))) (fun h => by rw [Bd.returns] at h; cases h) (fun fs hr => retN X2 hx (t := .byte) Bd.returns (by simp) (hb hby own_d12_14) hr) ?_ (by decide) (by decide)
  try rw [e2]
  exact ⟨rfl, N0, rfl⟩
theorem own_d10_0 : decode jdk_42_method_154_code 0 = .ok (.getstatic 38, 3) := by decide +kernel
theorem own_d10_3 : decode jdk_42_method_154_code 3 = .ok (.ifCond .eq 14, 3) := by decide +kernel
theorem own_d10_6 : decode jdk_42_method_154_code 6 = .ok (.aload_n 0, 1) := by decide +kernel
theorem own_d10_7 : decode jdk_42_method_154_code 7 = .ok (.getfield 15, 3) := by decide +kernel
theorem own_d10_10 : decode jdk_42_method_154_code 10 = .ok (.ifCond .ne 7, 3) := by decide +kernel
theorem own_d10_13 : decode jdk_42_method_154_code 13 = .ok (.iconst 1, 1) := by decide +kernel
theorem own_d10_14 : decode jdk_42_method_154_code 14 = .ok (.goto 4, 3) := by decide +kernel
theorem own_d10_18 : decode jdk_42_method_154_code 18 = .ok (.ireturn, 1) := by decide +kernel
set_option maxRecDepth 65536 in
set_option maxHeartbeats 40000000 in
theorem own_rmil0 (l : Launch) (Z : State) (a0 : Array Value) (hw : ∀ d ∈ tables_1, d.before a0 Z = true) (a1 : Addr) (cs : Int32) (h0 : Heap) (n0 : Nat) (Z0 : n0 ≤ h0.size) (Fc : Fld Z h0 a1 "java/lang/String" "coder" "B" (.int 0)) (O : Old Z n0 h0) (S_C : Sta Z Z.heap "java/lang/String" "COMPACT_STRINGS" "Z" (.int cs)) (hcs : ¬ cs = (0 : Int32)) :
    own_Met l Z [] (⟨"java/lang/String", "isLatin1", "()Z"⟩ : MethodName) jdk_42_method_154_code 1 (some .boolean) ({ frames := 0, cells := 0, slots := 0, locals := 0 } : Room) #[(.ref a1)] h0 (fun v h L => v = some (.int 1) ∧ Fr n0 L ∧ h = h0) := by
  refine MetFree.of_bodySF (plainFor_of_name own_pn1) hisR ?_
  intro p e s m args below meth c s₁ Bd hml0 hP hK
  obtain ⟨rfl, hZ, hh⟩ := hP
  have hx := Bd.exec
  have hby := Bd.bytes
  have hml : c.maxLocals = 1 := hml0
  have hown : s.vm.findClass "java/lang/String" = some m.cls := findClass_of_methodNamed Bd.named
  have hnm := (name_of_methodNamed Bd.named Bd.method).1
  have hlk : meth.locks = false := Bd.notSynchronized
  have X0 : Stand p l e ({ frames := 0, cells := 0, slots := 0, locals := 0 } : Room) s m #[(.ref a1)] below meth c s₁ [] 0 0 := Stand.of_body Bd
  have e0 : s₁.heap = h0 := by rw [← hh, Bd.state]; rfl
  have N0 := Fr.nil n0
  refine own_body (Q := fun v h L => v = some (.int 1) ∧ Fr n0 L ∧ h = h0) ?_
  refine own_go (fun _ kont => castTop (own_ef m #[(.ref a1)] 1 #[.val (.ref a1)] (own_al [(.ref a1)] 1 [.val (.ref a1)] rfl)) kont) ?_
  show own_Go _ _ _ _ (s₁.setTop (mkF m 0 #[.val (.ref a1)] []))
  obtain ⟨T1, X1, e1, st1⟩ := getS2 X0 hx hZ hown (host := "") (Or.inl (hw _ (List.mem_of_getElem? (i := 16) rfl))) Via.refl e0 (S_C.ext O.2) (g := (mkF m 0 #[.val (.ref a1)] [])) rfl (hb hby own_d10_0)
  refine own_go st1 ?_
  show own_Go _ _ _ _ (T1.setTop (mkF m 3 #[.val (.ref a1)] [(.int cs)]))
  refine own_go (fun _ => XS.ifNo X1.here hx rfl (hb hby own_d10_3) rfl ((if0 _ _).trans (feq hcs).1)) ?_
  show own_Go _ _ _ _ (T1.setTop (mkF m 6 #[.val (.ref a1)] []))
  refine own_go (fun _ => XS.aloadN X1.here hx rfl (hb hby own_d10_6) rfl rfl) ?_
  obtain ⟨T2, X2, e2, st2⟩ := getF X1 hx hZ hown (host := "") (Or.inl (hw _ (List.mem_of_getElem? (i := 33) rfl))) Via.refl e1 Fc (g := (mkF m 7 #[.val (.ref a1)] [(.ref a1)])) rfl rfl (hb hby own_d10_7)
  refine own_go st2 ?_
  show own_Go _ _ _ _ (T2.setTop (mkF m 10 #[.val (.ref a1)] [(.int (0 : Int32))]))
  refine own_go (fun _ => XS.ifNo X2.here hx rfl (hb hby own_d10_10) rfl ((if0 _ _).trans (teq (by decide)).2)) ?_
  show own_Go _ _ _ _ (T2.setTop (mkF m 13 #[.val (.ref a1)] []))
  refine own_go (fun _ => XS.iconst X2.here hx rfl (hb hby own_d10_13)) ?_
  refine own_go (fun _ => XS.goto X2.here hx rfl (pc0 := 14) (pc' := 18) rfl (hb hby own_d10_14) (by decide) (by decide)) ?_
  show own_Go _ _ _ _ (T2.setTop (mkF m 18 #[.val (.ref a1)] [(.int (1 : Int32))]))
  refine own_ret X2 hlk (v := some (.int (1 : Int32))) (fun h => by rw [Bd.returns] at h; cases h) (fun fs hr => retN X2 hx (t := .boolean) Bd.returns (by simp) (hb hby own_d10_18) hr) ?_ (by decide) (by decide)
  try rw [e2]
  exact ⟨rfl, N0, rfl⟩
theorem own_d11_0 : decode jdk_42_method_54_code 0 = .ok (.aload_n 0, 1) := by decide +kernel
theorem own_d11_1 : decode jdk_42_method_54_code 1 = .ok (.getfield 9, 3) := by decide +kernel
theorem own_d11_4 : decode jdk_42_method_54_code 4 = .ok (.arraylength, 1) := by decide +kernel
theorem own_d11_5 : decode jdk_42_method_54_code 5 = .ok (.aload_n 0, 1) := by decide +kernel
theorem own_d11_6 : decode jdk_42_method_54_code 6 = .ok (.invokevirtual 335, 3) := by decide +kernel
theorem own_pd0 : parseMethodDescriptor "()B" = some ⟨[], some .byte⟩ := by decide +kernel
theorem own_d11_9 : decode jdk_42_method_54_code 9 = .ok (.ishr, 1) := by decide +kernel
theorem own_d11_10 : decode jdk_42_method_54_code 10 = .ok (.ireturn, 1) := by decide +kernel
set_option maxRecDepth 65536 in
set_option maxHeartbeats 40000000 in
theorem own_rmln0 (l : Launch) (Z : State) (a0 : Array Value) (hw : ∀ d ∈ tables_1, d.before a0 Z = true) (a1 : Addr) (b : Addr) (k : ClassId) (cs : Int32) (z : Int32) (n : Int32) (vs : List Value) (h0 : Heap) (n0 : Nat) (Z0 : n0 ≤ h0.size) (E1 : Exa Z h0 a1 "java/lang/String") (Fv : Fld Z h0 a1 "java/lang/String" "value" "[B" (.ref b)) (Fc : Fld Z h0 a1 "java/lang/String" "coder" "B" (.int 0)) (V : Arv Z h0 b k .byte z vs (.int 0)) (O : Old Z n0 h0) (S_C : Sta Z Z.heap "java/lang/String" "COMPACT_STRINGS" "Z" (.int cs)) (hcs : ¬ cs = (0 : Int32)) (hn : (z >>> ((0 : Int32) &&& 31)) = n) :
    own_Met l Z [] (⟨"java/lang/String", "length", "()I"⟩ : MethodName) jdk_42_method_54_code 1 (some .int) ({ frames := 1, cells := 0, slots := 0, locals := 13 } : Room) #[(.ref a1)] h0 (fun v h L => v = some (.int n) ∧ Fr n0 L ∧ h = h0) := by
  refine MetFree.of_bodySF (plainFor_of_name own_pn1) hisR ?_
  intro p e s m args below meth c s₁ Bd hml0 hP hK
  obtain ⟨rfl, hZ, hh⟩ := hP
  have hx := Bd.exec
  have hby := Bd.bytes
  have hml : c.maxLocals = 1 := hml0
  have hown : s.vm.findClass "java/lang/String" = some m.cls := findClass_of_methodNamed Bd.named
  have hnm := (name_of_methodNamed Bd.named Bd.method).1
  have hlk : meth.locks = false := Bd.notSynchronized
  have X0 : Stand p l e ({ frames := 1, cells := 0, slots := 0, locals := 13 } : Room) s m #[(.ref a1)] below meth c s₁ [] 0 0 := Stand.of_body Bd
  have e0 : s₁.heap = h0 := by rw [← hh, Bd.state]; rfl
  have N0 := Fr.nil n0
  refine own_body (Q := fun v h L => v = some (.int n) ∧ Fr n0 L ∧ h = h0) ?_
  refine own_go (fun _ kont => castTop (own_ef m #[(.ref a1)] 1 #[.val (.ref a1)] (own_al [(.ref a1)] 1 [.val (.ref a1)] rfl)) kont) ?_
  show own_Go _ _ _ _ (s₁.setTop (mkF m 0 #[.val (.ref a1)] []))
  refine own_go (fun _ => XS.aloadN X0.here hx rfl (hb hby own_d11_0) rfl rfl) ?_
  obtain ⟨T1, X1, e1, st1⟩ := getF X0 hx hZ hown (host := "") (Or.inl (hw _ (List.mem_of_getElem? (i := 32) rfl))) Via.refl e0 Fv (g := (mkF m 1 #[.val (.ref a1)] [(.ref a1)])) rfl rfl (hb hby own_d11_1)
  refine own_go st1 ?_
  obtain ⟨cl2, Ar2, -, Sz2, Ng2, -, -⟩ := id V
  refine own_go (X1.arraylength hx (own_hp e1 Ar2.1) (State.isArrayOf_alike hZ.alike Ar2.2.1) (g := (mkF m 4 #[.val (.ref a1)] [(.ref b)])) rfl rfl (hb hby own_d11_4)) ?_
  rw [len_of Sz2 Ng2]
  refine own_go (fun _ => XS.aloadN X1.here hx rfl (hb hby own_d11_5) rfl rfl) ?_
  show own_Go _ _ _ _ (T1.setTop (mkF m 6 #[.val (.ref a1)] [(.ref a1), (.int z)]))
  obtain ⟨cq3, kq3, q3a, q3b, q3c⟩ := isOf hZ e1 E1
  obtain ⟨_, _, ⟨T3, L3, k3, n3⟩, -, X3, ⟨Lc3, hQ3, l3, y3, z3⟩, st3⟩ := X1.virtualBack hx (y := (⟨"java/lang/String", "coder", "()B"⟩ : MethodName)) (z := (⟨"java/lang/String", "coder", "()B"⟩ : MethodName)) hown (mvT hZ (hw _ (List.mem_of_getElem? (i := 61) rfl))) (mvT hZ (hw _ (List.mem_of_getElem? (i := 62) rfl))) (notFace_of_selects (args := #[]) (mvT hZ (hw _ (List.mem_of_getElem? (i := 64) rfl)))) (mvT hZ (hw _ (List.mem_of_getElem? (i := 64) rfl))) (mvT hZ (hw _ (List.mem_of_getElem? (i := 63) rfl))) (by decide) (own_back (W := 1) (own_rmco0 l Z a0 hw a1 cs h0 n0 Z0 Fc O S_C hcs) hZ (hw _ (List.mem_of_getElem? (i := 65) rfl)) (hw _ (List.mem_of_getElem? (i := 6) rfl)) (by decide) (by decide)) q3a q3c (g := (mkF m 6 #[.val (.ref a1)] [(.ref a1), (.int z)])) rfl (by rw [hml]; rfl) (Steps.refl _) (argsL := []) (rest := [(.int z)]) (lenOf own_pd0 rfl) rfl (by show 2 * 0 + _ ≤ _; exact Nat.le_of_eq rfl) (hb hby own_d11_6) (fun _ _ => ⟨rfl, e1, (by decide : 0 + 0 ≤ _), (by decide : 0 + 0 ≤ _)⟩)
  dsimp only [Pt.U, Pt.locs, Pt.cells, Pt.slots] at X3 l3 y3 z3 st3 hQ3
  replace X3 := own_cst X3 l3 y3 z3 (k2 := 0) (n2 := 0) rfl rfl
  clear l3 y3 z3
  obtain ⟨rfl, Nq3, eq3⟩ := hQ3
  have NF3 := Fr.app N0 Nq3
  refine own_goT st3 ?_
  show own_Go _ _ _ _ (T3.setTop (mkF m 9 #[.val (.ref a1)] [(.int (0 : Int32)), (.int z)]))
  refine own_go (fun _ => XS.ishr X3.here hx rfl (hb hby own_d11_9) rfl) ?_
  show own_Go _ _ _ _ (T3.setTop (mkF m 10 #[.val (.ref a1)] [(.int (z >>> ((0 : Int32) &&& 31)))]))
  refine own_ret X3 hlk (v := some (.int (z >>> ((0 : Int32) &&& 31)))) (fun h => by rw [Bd.returns] at h; cases h) (fun fs hr => retOut X3 hx Bd.returns rfl (Or.inl ⟨rfl, Or.inl rfl, _, rfl⟩) (hb hby own_d11_10) hr) ?_ (by decide) (by decide)
  try rw [eq3]
  exact ⟨by rw [hn], NF3, rfl⟩
theorem own_d17_12 : decode jdk_42_method_55_code 12 = .ok (.iconst 0, 1) := by decide +kernel
set_option maxRecDepth 65536 in
set_option maxHeartbeats 40000000 in
theorem own_rme (l : Launch) (Z : State) (a0 : Array Value) (hw : ∀ d ∈ tables_1, d.before a0 Z = true) (a1 : Addr) (b : Addr) (k : ClassId) (z : Int32) (vs : List Value) (h0 : Heap) (n0 : Nat) (Z0 : n0 ≤ h0.size) (Fv : Fld Z h0 a1 "java/lang/String" "value" "[B" (.ref b)) (V : Arv Z h0 b k .byte z vs (.int 0)) (hz : ¬ z = (0 : Int32)) :
    own_Met l Z [] (⟨"java/lang/String", "isEmpty", "()Z"⟩ : MethodName) jdk_42_method_55_code 1 (some .boolean) ({ frames := 0, cells := 0, slots := 0, locals := 0 } : Room) #[(.ref a1)] h0 (fun v h L => v = some (.int 0) ∧ Fr n0 L ∧ h = h0) := by
  refine MetFree.of_bodySF (plainFor_of_name own_pn1) hisR ?_
  intro p e s m args below meth c s₁ Bd hml0 hP hK
  obtain ⟨rfl, hZ, hh⟩ := hP
  have hx := Bd.exec
  have hby := Bd.bytes
  have hml : c.maxLocals = 1 := hml0
  have hown : s.vm.findClass "java/lang/String" = some m.cls := findClass_of_methodNamed Bd.named
  have hnm := (name_of_methodNamed Bd.named Bd.method).1
  have hlk : meth.locks = false := Bd.notSynchronized
  have X0 : Stand p l e ({ frames := 0, cells := 0, slots := 0, locals := 0 } : Room) s m #[(.ref a1)] below meth c s₁ [] 0 0 := Stand.of_body Bd
  have e0 : s₁.heap = h0 := by rw [← hh, Bd.state]; rfl
  have N0 := Fr.nil n0
  refine own_body (Q := fun v h L => v = some (.int 0) ∧ Fr n0 L ∧ h = h0) ?_
  refine own_go (fun _ kont => castTop (own_ef m #[(.ref a1)] 1 #[.val (.ref a1)] (own_al [(.ref a1)] 1 [.val (.ref a1)] rfl)) kont) ?_
  show own_Go _ _ _ _ (s₁.setTop (mkF m 0 #[.val (.ref a1)] []))
  refine own_go (fun _ => XS.aloadN X0.here hx rfl (hb hby own_d17_0) rfl rfl) ?_
  obtain ⟨T1, X1, e1, st1⟩ := getF X0 hx hZ hown (host := "") (Or.inl (hw _ (List.mem_of_getElem? (i := 32) rfl))) Via.refl e0 Fv (g := (mkF m 1 #[.val (.ref a1)] [(.ref a1)])) rfl rfl (hb hby own_d17_1)
  refine own_go st1 ?_
  obtain ⟨cl2, Ar2, -, Sz2, Ng2, -, -⟩ := id V
  refine own_go (X1.arraylength hx (own_hp e1 Ar2.1) (State.isArrayOf_alike hZ.alike Ar2.2.1) (g := (mkF m 4 #[.val (.ref a1)] [(.ref b)])) rfl rfl (hb hby own_d17_4)) ?_
  rw [len_of Sz2 Ng2]
  show own_Go _ _ _ _ (T1.setTop (mkF m 5 #[.val (.ref a1)] [(.int z)]))
  refine own_go (fun _ => XS.ifYes X1.here hx rfl (pc0 := 5) (pc' := 12) rfl (hb hby own_d17_5) rfl ((if0 _ _).trans (feq hz).2) (by decide) (by decide)) ?_
  show own_Go _ _ _ _ (T1.setTop (mkF m 12 #[.val (.ref a1)] []))
  refine own_go (fun _ => XS.iconst X1.here hx rfl (hb hby own_d17_12)) ?_
  show own_Go _ _ _ _ (T1.setTop (mkF m 13 #[.val (.ref a1)] [(.int (0 : Int32))]))
  refine own_ret X1 hlk (v := some (.int (0 : Int32))) (fun h => by rw [Bd.returns] at h; cases h) (fun fs hr => retN X1 hx (t := .boolean) Bd.returns (by simp) (hb hby own_d17_13) hr) ?_ (by decide) (by decide)
  try rw [e1]
  exact ⟨rfl, N0, rfl⟩
theorem own_pn2 : plainName "java/lang/StringUTF16" = true := by first | (simp [plainName, overriddenIn]; done) | decide +kernel
theorem own_d41_0 : decode jdk_52_method_15_code 0 = .ok (.iload_n 1, 1) := by decide +kernel
theorem own_d41_1 : decode jdk_52_method_15_code 1 = .ok (.aload_n 0, 1) := by decide +kernel
theorem own_d41_2 : decode jdk_52_method_15_code 2 = .ok (.arraylength, 1) := by decide +kernel
theorem own_d41_3 : decode jdk_52_method_15_code 3 = .ok (.isub, 1) := by decide +kernel
theorem own_d41_4 : decode jdk_52_method_15_code 4 = .ok (.bipush 31, 2) := by decide +kernel
theorem own_d41_6 : decode jdk_52_method_15_code 6 = .ok (.iushr, 1) := by decide +kernel
theorem own_d41_7 : decode jdk_52_method_15_code 7 = .ok (.i2b, 1) := by decide +kernel
theorem own_d41_8 : decode jdk_52_method_15_code 8 = .ok (.ireturn, 1) := by decide +kernel
set_option maxRecDepth 65536 in
set_option maxHeartbeats 40000000 in
theorem own_rmA (l : Launch) (Z : State) (a0 : Array Value) (hw : ∀ d ∈ tables_1, d.before a0 Z = true) (b : Addr) (k : ClassId) (n : Int32) (z : Int32) (u : Int32) (vs : List Value) (h0 : Heap) (n0 : Nat) (Z0 : n0 ≤ h0.size) (V : Arv Z h0 b k .byte z vs (.int 0)) (hu : nar .byte ((((n - z).toUInt32 >>> ((31 : Int32) &&& 31).toUInt32).toInt32).toInt8.toInt32) = u) :
    own_Met l Z [] (⟨"java/lang/StringUTF16", "coderFromArrayLen", "([BI)B"⟩ : MethodName) jdk_52_method_15_code 2 (some .byte) ({ frames := 0, cells := 0, slots := 0, locals := 0 } : Room) #[(.ref b), (.int n)] h0 (fun v h L => v = some (.int u) ∧ Fr n0 L ∧ h = h0) := by
  refine MetFree.of_bodySF (plainFor_of_name own_pn2) hisR ?_
  intro p e s m args below meth c s₁ Bd hml0 hP hK
  obtain ⟨rfl, hZ, hh⟩ := hP
  have hx := Bd.exec
  have hby := Bd.bytes
  have hml : c.maxLocals = 2 := hml0
  have hown : s.vm.findClass "java/lang/StringUTF16" = some m.cls := findClass_of_methodNamed Bd.named
  have hnm := (name_of_methodNamed Bd.named Bd.method).1
  have hlk : meth.locks = false := Bd.notSynchronized
  have X0 : Stand p l e ({ frames := 0, cells := 0, slots := 0, locals := 0 } : Room) s m #[(.ref b), (.int n)] below meth c s₁ [] 0 0 := Stand.of_body Bd
  have e0 : s₁.heap = h0 := by rw [← hh, Bd.state]; rfl
  have N0 := Fr.nil n0
  refine own_body (Q := fun v h L => v = some (.int u) ∧ Fr n0 L ∧ h = h0) ?_
  refine own_go (fun _ kont => castTop (own_ef m #[(.ref b), (.int n)] 2 #[.val (.ref b), .val (.int n)] (own_al [(.ref b), (.int n)] 2 [.val (.ref b), .val (.int n)] rfl)) kont) ?_
  show own_Go _ _ _ _ (s₁.setTop (mkF m 0 #[.val (.ref b), .val (.int n)] []))
  refine own_go (fun _ => XS.iloadN X0.here hx rfl (hb hby own_d41_0) rfl) ?_
  refine own_go (fun _ => XS.aloadN X0.here hx rfl (hb hby own_d41_1) rfl rfl) ?_
  obtain ⟨cl1, Ar1, -, Sz1, Ng1, -, -⟩ := id V
  refine own_go (X0.arraylength hx (own_hp e0 Ar1.1) (State.isArrayOf_alike hZ.alike Ar1.2.1) (g := (mkF m 2 #[.val (.ref b), .val (.int n)] [(.ref b), (.int n)])) rfl rfl (hb hby own_d41_2)) ?_
  rw [len_of Sz1 Ng1]
  refine own_go (fun _ => XS.isub X0.here hx rfl (hb hby own_d41_3) rfl) ?_
  show own_Go _ _ _ _ (s₁.setTop (mkF m 4 #[.val (.ref b), .val (.int n)] [(.int (n - z))]))
  refine own_go (fun _ => XS.bipush X0.here hx rfl (hb hby own_d41_4)) ?_
  refine own_go (fun _ => XS.iushr X0.here hx rfl (hb hby own_d41_6) rfl) ?_
  refine own_go (fun _ => XS.i2b X0.here hx rfl (hb hby own_d41_7) rfl) ?_
  show own_Go _ _ _ _ (s₁.setTop (mkF m 8 #[.val (.ref b), .val (.int n)] [(.int ((((n - z).toUInt32 >>> ((31 : Int32) &&& 31).toUInt32).toInt32).toInt8.toInt32))]))
  refine own_ret X0 hlk (v := some (.int (nar .byte ((((n - z).toUInt32 >>> ((31 : Int32) &&& 31).toUInt32).toInt32).toInt8.toInt32)))) (fun h => by rw [Bd.returns] at h; cases h) (fun fs hr => retN X0 hx (t := .byte) Bd.returns (by simp) (hb hby own_d41_8) hr) ?_ (by decide) (by decide)
  try rw [e0]
  exact ⟨by rw [hu], N0, rfl⟩
theorem own_d40_0 : decode jdk_52_method_21_code 0 = .ok (.iconst 0, 1) := by decide +kernel
theorem own_d40_1 : decode jdk_52_method_21_code 1 = .ok (.istore 5, 2) := by decide +kernel
theorem own_d40_3 : decode jdk_52_method_21_code 3 = .ok (.iload 5, 2) := by decide +kernel
theorem own_d40_5 : decode jdk_52_method_21_code 5 = .ok (.iload 4, 2) := by decide +kernel
theorem own_d40_7 : decode jdk_52_method_21_code 7 = .ok (.if_icmp .ge 37, 3) := by decide +kernel
theorem own_d40_10 : decode jdk_52_method_21_code 10 = .ok (.aload_n 0, 1) := by decide +kernel
theorem own_d40_11 : decode jdk_52_method_21_code 11 = .ok (.iload_n 1, 1) := by decide +kernel
theorem own_d40_12 : decode jdk_52_method_21_code 12 = .ok (.caload, 1) := by decide +kernel
theorem own_d40_13 : decode jdk_52_method_21_code 13 = .ok (.istore 6, 2) := by decide +kernel
theorem own_d40_15 : decode jdk_52_method_21_code 15 = .ok (.iload 6, 2) := by decide +kernel
theorem own_d40_17 : decode jdk_52_method_21_code 17 = .ok (.sipush 255, 3) := by decide +kernel
theorem own_d40_20 : decode jdk_52_method_21_code 20 = .ok (.if_icmp .le 6, 3) := by decide +kernel
theorem own_d40_23 : decode jdk_52_method_21_code 23 = .ok (.iload 5, 2) := by decide +kernel
theorem own_d40_25 : decode jdk_52_method_21_code 25 = .ok (.ireturn, 1) := by decide +kernel
theorem own_d40_26 : decode jdk_52_method_21_code 26 = .ok (.aload_n 2, 1) := by decide +kernel
theorem own_d40_27 : decode jdk_52_method_21_code 27 = .ok (.iload_n 3, 1) := by decide +kernel
theorem own_d40_28 : decode jdk_52_method_21_code 28 = .ok (.iload 6, 2) := by decide +kernel
theorem own_d40_30 : decode jdk_52_method_21_code 30 = .ok (.i2b, 1) := by decide +kernel
theorem own_d40_31 : decode jdk_52_method_21_code 31 = .ok (.bastore, 1) := by decide +kernel
theorem own_d40_32 : decode jdk_52_method_21_code 32 = .ok (.iinc 1 1, 3) := by decide +kernel
theorem own_d40_35 : decode jdk_52_method_21_code 35 = .ok (.iinc 3 1, 3) := by decide +kernel
theorem own_d40_38 : decode jdk_52_method_21_code 38 = .ok (.iinc 5 1, 3) := by decide +kernel
theorem own_d40_41 : decode jdk_52_method_21_code 41 = .ok (.goto (-38), 3) := by decide +kernel
theorem own_d40_44 : decode jdk_52_method_21_code 44 = .ok (.iload 4, 2) := by decide +kernel
theorem own_d40_46 : decode jdk_52_method_21_code 46 = .ok (.ireturn, 1) := by decide +kernel
set_option maxRecDepth 65536 in
set_option maxHeartbeats 40000000 in
theorem own_rmK4 (l : Launch) (Z : State) (a0 : Array Value) (hw : ∀ d ∈ tables_1, d.before a0 Z = true) (a1 : Addr) (a2 : Addr) (kc : ClassId) (kd : ClassId) (x0 : Int32) (x1 : Int32) (x2 : Int32) (x3 : Int32) (h0 : Heap) (n0 : Nat) (Z0 : n0 ≤ h0.size) (Vc : Arv Z h0 a1 kc .char 4 [(.int x0), (.int x1), (.int x2), (.int x3)] (.int 0)) (Vd : Arv Z h0 a2 kd .byte 4 [(.int 0), (.int 0), (.int 0), (.int 0)] (.int 0)) (ge_a2 : n0 ≤ a2) (ne12 : a1 ≠ a2) (O : Old Z n0 h0) :
    own_Met l Z [] (⟨"java/lang/StringUTF16", "compress", "([CI[BII)I"⟩ : MethodName) jdk_52_method_21_code 7 (some .int) ({ frames := 0, cells := 0, slots := 0, locals := 0 } : Room) #[(.ref a1), (.int (0 : Int32)), (.ref a2), (.int (0 : Int32)), (.int (4 : Int32))] h0 (fun v h L => ∃ r : Int32, v = some (.int r) ∧ Fr n0 L ∧ Keep h0 h [a2] ∧ Old Z n0 h ∧ (((255 : Int32) < x0 ∧ r = 0) ∨ ((255 : Int32) < x1 ∧ r = 1) ∨ ((255 : Int32) < x2 ∧ r = 2) ∨ ((255 : Int32) < x3 ∧ r = 3) ∨ ((¬ (255 : Int32) < x0 ∧ ¬ (255 : Int32) < x1 ∧ ¬ (255 : Int32) < x2 ∧ ¬ (255 : Int32) < x3) ∧ r = 4 ∧ Arv Z h a2 kd .byte 4 [(.int (nar .byte (x0.toInt8.toInt32))), (.int (nar .byte (x1.toInt8.toInt32))), (.int (nar .byte (x2.toInt8.toInt32))), (.int (nar .byte (x3.toInt8.toInt32)))] (.int 0)))) := by
  refine MetFree.of_bodySF (plainFor_of_name own_pn2) hisR ?_
  intro p e s m args below meth c s₁ Bd hml0 hP hK
  obtain ⟨rfl, hZ, hh⟩ := hP
  have hx := Bd.exec
  have hby := Bd.bytes
  have hml : c.maxLocals = 7 := hml0
  have hown : s.vm.findClass "java/lang/StringUTF16" = some m.cls := findClass_of_methodNamed Bd.named
  have hnm := (name_of_methodNamed Bd.named Bd.method).1
  have hlk : meth.locks = false := Bd.notSynchronized
  have X0 : Stand p l e ({ frames := 0, cells := 0, slots := 0, locals := 0 } : Room) s m #[(.ref a1), (.int (0 : Int32)), (.ref a2), (.int (0 : Int32)), (.int (4 : Int32))] below meth c s₁ [] 0 0 := Stand.of_body Bd
  have e0 : s₁.heap = h0 := by rw [← hh, Bd.state]; rfl
  have N0 := Fr.nil n0
  refine own_body (Q := fun v h L => ∃ r : Int32, v = some (.int r) ∧ Fr n0 L ∧ Keep h0 h [a2] ∧ Old Z n0 h ∧ (((255 : Int32) < x0 ∧ r = 0) ∨ ((255 : Int32) < x1 ∧ r = 1) ∨ ((255 : Int32) < x2 ∧ r = 2) ∨ ((255 : Int32) < x3 ∧ r = 3) ∨ ((¬ (255 : Int32) < x0 ∧ ¬ (255 : Int32) < x1 ∧ ¬ (255 : Int32) < x2 ∧ ¬ (255 : Int32) < x3) ∧ r = 4 ∧ Arv Z h a2 kd .byte 4 [(.int (nar .byte (x0.toInt8.toInt32))), (.int (nar .byte (x1.toInt8.toInt32))), (.int (nar .byte (x2.toInt8.toInt32))), (.int (nar .byte (x3.toInt8.toInt32)))] (.int 0)))) ?_
  refine own_go (fun _ kont => castTop (own_ef m #[(.ref a1), (.int (0 : Int32)), (.ref a2), (.int (0 : Int32)), (.int (4 : Int32))] 7 #[.val (.ref a1), .val (.int (0 : Int32)), .val (.ref a2), .val (.int (0 : Int32)), .val (.int (4 : Int32)), .unset, .unset] (own_al [(.ref a1), (.int (0 : Int32)), (.ref a2), (.int (0 : Int32)), (.int (4 : Int32))] 7 [.val (.ref a1), .val (.int (0 : Int32)), .val (.ref a2), .val (.int (0 : Int32)), .val (.int (4 : Int32)), .unset, .unset] rfl)) kont) ?_
  show own_Go _ _ _ _ (s₁.setTop (mkF m 0 #[.val (.ref a1), .val (.int (0 : Int32)), .val (.ref a2), .val (.int (0 : Int32)), .val (.int (4 : Int32)), .unset, .unset] []))
  have K0 : Keep h0 h0 [a2] := Keep.refl _ _
  refine own_go (fun _ => XS.iconst X0.here hx rfl (hb hby own_d40_0)) ?_
  refine own_go (fun _ => XS.istore X0.here hx rfl (hb hby own_d40_1) rfl (l' := #[.val (.ref a1), .val (.int (0 : Int32)), .val (.ref a2), .val (.int (0 : Int32)), .val (.int (4 : Int32)), .val (.int (0 : Int32)), .unset]) rfl) ?_
  refine own_go (fun _ => XS.iload X0.here hx rfl (hb hby own_d40_3) rfl) ?_
  refine own_go (fun _ => XS.iload X0.here hx rfl (hb hby own_d40_5) rfl) ?_
  show own_Go _ _ _ _ (s₁.setTop (mkF m 7 #[.val (.ref a1), .val (.int (0 : Int32)), .val (.ref a2), .val (.int (0 : Int32)), .val (.int (4 : Int32)), .val (.int (0 : Int32)), .unset] [(.int (4 : Int32)), (.int (0 : Int32))]))
  refine own_go (fun _ => XS.icmpNo X0.here hx rfl (hb hby own_d40_7) rfl (tlt (by decide)).2.1) ?_
  show own_Go _ _ _ _ (s₁.setTop (mkF m 10 #[.val (.ref a1), .val (.int (0 : Int32)), .val (.ref a2), .val (.int (0 : Int32)), .val (.int (4 : Int32)), .val (.int (0 : Int32)), .unset] []))
  refine own_go (fun _ => XS.aloadN X0.here hx rfl (hb hby own_d40_10) rfl rfl) ?_
  refine own_go (fun _ => XS.iloadN X0.here hx rfl (hb hby own_d40_11) rfl) ?_
  obtain ⟨cl1, Ar1, q1, Sz1, Ng1, Hs1, Gs1⟩ := id Vc
  have hin1 : ¬ ((0 : Int32) < 0 ∨ cl1.slots.size ≤ ((0 : Int32)).toNatClampNeg) := inb_of Sz1 ⟨by decide, by decide⟩
  have hat1 : cl1.slots[((0 : Int32)).toNatClampNeg]? = some (.int x0) := Hs1.at hin1 rfl
  refine own_go (X0.caload hx (j := (0 : Int32)) (v := (.int x0)) (own_hp e0 Ar1.1) (State.isArrayOf_alike hZ.alike Ar1.2.1) Ar1.2.2 hin1 hat1 (g := (mkF m 12 #[.val (.ref a1), .val (.int (0 : Int32)), .val (.ref a2), .val (.int (0 : Int32)), .val (.int (4 : Int32)), .val (.int (0 : Int32)), .unset] [(.int (0 : Int32)), (.ref a1)])) rfl rfl (hb hby own_d40_12)) ?_
  refine own_go (fun _ => XS.istore X0.here hx rfl (hb hby own_d40_13) rfl (l' := #[.val (.ref a1), .val (.int (0 : Int32)), .val (.ref a2), .val (.int (0 : Int32)), .val (.int (4 : Int32)), .val (.int (0 : Int32)), .val (.int x0)]) rfl) ?_
  show own_Go _ _ _ _ (s₁.setTop (mkF m 15 #[.val (.ref a1), .val (.int (0 : Int32)), .val (.ref a2), .val (.int (0 : Int32)), .val (.int (4 : Int32)), .val (.int (0 : Int32)), .val (.int x0)] []))
  refine own_go (fun _ => XS.iload X0.here hx rfl (hb hby own_d40_15) rfl) ?_
  refine own_go (fun _ => XS.sipush X0.here hx rfl (hb hby own_d40_17)) ?_
  show own_Go _ _ _ _ (s₁.setTop (mkF m 20 #[.val (.ref a1), .val (.int (0 : Int32)), .val (.ref a2), .val (.int (0 : Int32)), .val (.int (4 : Int32)), .val (.int (0 : Int32)), .val (.int x0)] [(.int (255 : Int32)), (.int x0)]))
  by_cases hx0 : (255 : Int32) < x0
  · have _h := hx0
    refine own_go (fun _ => XS.icmpNo X0.here hx rfl (hb hby own_d40_20) rfl (tlt hx0).2.2.2) ?_
    show own_Go _ _ _ _ (s₁.setTop (mkF m 23 #[.val (.ref a1), .val (.int (0 : Int32)), .val (.ref a2), .val (.int (0 : Int32)), .val (.int (4 : Int32)), .val (.int (0 : Int32)), .val (.int x0)] []))
    refine own_go (fun _ => XS.iload X0.here hx rfl (hb hby own_d40_23) rfl) ?_
    show own_Go _ _ _ _ (s₁.setTop (mkF m 25 #[.val (.ref a1), .val (.int (0 : Int32)), .val (.ref a2), .val (.int (0 : Int32)), .val (.int (4 : Int32)), .val (.int (0 : Int32)), .val (.int x0)] [(.int (0 : Int32))]))
    refine own_ret X0 hlk (v := some (.int (0 : Int32))) (fun h => by rw [Bd.returns] at h; cases h) (fun fs hr => retOut X0 hx Bd.returns rfl (Or.inl ⟨rfl, Or.inl rfl, _, rfl⟩) (hb hby own_d40_25) hr) ?_ (by decide) (by decide)
    try rw [e0]
    exact ⟨_, rfl, N0, K0, O, Or.inl ⟨hx0, rfl⟩⟩
  · have _h := hx0
    refine own_go (fun _ => XS.icmpYes X0.here hx rfl (pc0 := 20) (pc' := 26) rfl (hb hby own_d40_20) rfl (flt hx0).2.2.2 (by decide) (by decide)) ?_
    show own_Go _ _ _ _ (s₁.setTop (mkF m 26 #[.val (.ref a1), .val (.int (0 : Int32)), .val (.ref a2), .val (.int (0 : Int32)), .val (.int (4 : Int32)), .val (.int (0 : Int32)), .val (.int x0)] []))
    refine own_go (fun _ => XS.aloadN X0.here hx rfl (hb hby own_d40_26) rfl rfl) ?_
    refine own_go (fun _ => XS.iloadN X0.here hx rfl (hb hby own_d40_27) rfl) ?_
    refine own_go (fun _ => XS.iload X0.here hx rfl (hb hby own_d40_28) rfl) ?_
    refine own_go (fun _ => XS.i2b X0.here hx rfl (hb hby own_d40_30) rfl) ?_
    show own_Go _ _ _ _ (s₁.setTop (mkF m 31 #[.val (.ref a1), .val (.int (0 : Int32)), .val (.ref a2), .val (.int (0 : Int32)), .val (.int (4 : Int32)), .val (.int (0 : Int32)), .val (.int x0)] [(.int (x0.toInt8.toInt32)), (.int (0 : Int32)), (.ref a2)]))
    obtain ⟨cl2, Ar2, q2, Sz2, Ng2, Hs2, Gs2⟩ := Vd
    have hin2 : ¬ ((0 : Int32) < 0 ∨ cl2.slots.size ≤ ((0 : Int32)).toNatClampNeg) := inb_of Sz2 ⟨by decide, by decide⟩
    obtain ⟨T2, h2, X2, e2, W2, st2⟩ := stB X0 hx hZ e0 Ar2 (j := (0 : Int32)) hin2 (g := (mkF m 31 #[.val (.ref a1), .val (.int (0 : Int32)), .val (.ref a2), .val (.int (0 : Int32)), .val (.int (4 : Int32)), .val (.int (0 : Int32)), .val (.int x0)] [(.int (x0.toInt8.toInt32)), (.int (0 : Int32)), (.ref a2)])) rfl rfl (hb hby own_d40_31)
    refine own_go st2 ?_
    have NF2 := Fr.snoc X2 N0 ge_a2
    replace Vd : Arv Z h2 a2 kd .byte (4 : Int32) [(.int (nar .byte (x0.toInt8.toInt32))), (.int (0 : Int32)), (.int (0 : Int32)), (.int (0 : Int32))] (.int (0 : Int32)) := Arv.set Ar2 q2 Sz2 Ng2 Hs2 Gs2 (fits_nar_byte _) W2 0 rfl (Nat.le_of_ble_eq_true rfl)
    replace Vc := Vc.other W2 ne12
    replace O := O.wr W2 ge_a2
    replace Z0 := Nat.le_trans Z0 (Keep.of_wr W2).1
    replace K0 := K0.wr W2 (Or.inl (List.mem_of_getElem? (i := 0) rfl))
    refine own_go (fun _ => XS.iinc X2.here hx rfl (hb hby own_d40_32) rfl (l' := #[.val (.ref a1), .val (.int (1 : Int32)), .val (.ref a2), .val (.int (0 : Int32)), .val (.int (4 : Int32)), .val (.int (0 : Int32)), .val (.int x0)]) rfl) ?_
    refine own_go (fun _ => XS.iinc X2.here hx rfl (hb hby own_d40_35) rfl (l' := #[.val (.ref a1), .val (.int (1 : Int32)), .val (.ref a2), .val (.int (1 : Int32)), .val (.int (4 : Int32)), .val (.int (0 : Int32)), .val (.int x0)]) rfl) ?_
    refine own_go (fun _ => XS.iinc X2.here hx rfl (hb hby own_d40_38) rfl (l' := #[.val (.ref a1), .val (.int (1 : Int32)), .val (.ref a2), .val (.int (1 : Int32)), .val (.int (4 : Int32)), .val (.int (1 : Int32)), .val (.int x0)]) rfl) ?_
    show own_Go _ _ _ _ (T2.setTop (mkF m 41 #[.val (.ref a1), .val (.int (1 : Int32)), .val (.ref a2), .val (.int (1 : Int32)), .val (.int (4 : Int32)), .val (.int (1 : Int32)), .val (.int x0)] []))
    refine own_go (fun _ => XS.goto X2.here hx rfl (pc0 := 41) (pc' := 3) rfl (hb hby own_d40_41) (by decide) (by decide)) ?_
    refine own_go (fun _ => XS.iload X2.here hx rfl (hb hby own_d40_3) rfl) ?_
    refine own_go (fun _ => XS.iload X2.here hx rfl (hb hby own_d40_5) rfl) ?_
    show own_Go _ _ _ _ (T2.setTop (mkF m 7 #[.val (.ref a1), .val (.int (1 : Int32)), .val (.ref a2), .val (.int (1 : Int32)), .val (.int (4 : Int32)), .val (.int (1 : Int32)), .val (.int x0)] [(.int (4 : Int32)), (.int (1 : Int32))]))
    refine own_go (fun _ => XS.icmpNo X2.here hx rfl (hb hby own_d40_7) rfl (tlt (by decide)).2.1) ?_
    show own_Go _ _ _ _ (T2.setTop (mkF m 10 #[.val (.ref a1), .val (.int (1 : Int32)), .val (.ref a2), .val (.int (1 : Int32)), .val (.int (4 : Int32)), .val (.int (1 : Int32)), .val (.int x0)] []))
    refine own_go (fun _ => XS.aloadN X2.here hx rfl (hb hby own_d40_10) rfl rfl) ?_
    refine own_go (fun _ => XS.iloadN X2.here hx rfl (hb hby own_d40_11) rfl) ?_
    obtain ⟨cl3, Ar3, q3, Sz3, Ng3, Hs3, Gs3⟩ := id Vc
    have hin3 : ¬ ((1 : Int32) < 0 ∨ cl3.slots.size ≤ ((1 : Int32)).toNatClampNeg) := inb_of Sz3 ⟨by decide, by decide⟩
    have hat3 : cl3.slots[((1 : Int32)).toNatClampNeg]? = some (.int x1) := Hs3.at hin3 rfl
    refine own_go (X2.caload hx (j := (1 : Int32)) (v := (.int x1)) (own_hp e2 Ar3.1) (State.isArrayOf_alike hZ.alike Ar3.2.1) Ar3.2.2 hin3 hat3 (g := (mkF m 12 #[.val (.ref a1), .val (.int (1 : Int32)), .val (.ref a2), .val (.int (1 : Int32)), .val (.int (4 : Int32)), .val (.int (1 : Int32)), .val (.int x0)] [(.int (1 : Int32)), (.ref a1)])) rfl rfl (hb hby own_d40_12)) ?_
    refine own_go (fun _ => XS.istore X2.here hx rfl (hb hby own_d40_13) rfl (l' := #[.val (.ref a1), .val (.int (1 : Int32)), .val (.ref a2), .val (.int (1 : Int32)), .val (.int (4 : Int32)), .val (.int (1 : Int32)), .val (.int x1)]) rfl) ?_
    show own_Go _ _ _ _ (T2.setTop (mkF m 15 #[.val (.ref a1), .val (.int (1 : Int32)), .val (.ref a2), .val (.int (1 : Int32)), .val (.int (4 : Int32)), .val (.int (1 : Int32)), .val (.int x1)] []))
    refine own_go (fun _ => XS.iload X2.here hx rfl (hb hby own_d40_15) rfl) ?_
    refine own_go (fun _ => XS.sipush X2.here hx rfl (hb hby own_d40_17)) ?_
    show own_Go _ _ _ _ (T2.setTop (mkF m 20 #[.val (.ref a1), .val (.int (1 : Int32)), .val (.ref a2), .val (.int (1 : Int32)), .val (.int (4 : Int32)), .val (.int (1 : Int32)), .val (.int x1)] [(.int (255 : Int32)), (.int x1)]))
    by_cases hx1 : (255 : Int32) < x1
    · have _h := hx1
      refine own_go (fun _ => XS.icmpNo X2.here hx rfl (hb hby own_d40_20) rfl (tlt hx1).2.2.2) ?_
      show own_Go _ _ _ _ (T2.setTop (mkF m 23 #[.val (.ref a1), .val (.int (1 : Int32)), .val (.ref a2), .val (.int (1 : Int32)), .val (.int (4 : Int32)), .val (.int (1 : Int32)), .val (.int x1)] []))
      refine own_go (fun _ => XS.iload X2.here hx rfl (hb hby own_d40_23) rfl) ?_
      show own_Go _ _ _ _ (T2.setTop (mkF m 25 #[.val (.ref a1), .val (.int (1 : Int32)), .val (.ref a2), .val (.int (1 : Int32)), .val (.int (4 : Int32)), .val (.int (1 : Int32)), .val (.int x1)] [(.int (1 : Int32))]))
      refine own_ret X2 hlk (v := some (.int (1 : Int32))) (fun h => by rw [Bd.returns] at h; cases h) (fun fs hr => retOut X2 hx Bd.returns rfl (Or.inl ⟨rfl, Or.inl rfl, _, rfl⟩) (hb hby own_d40_25) hr) ?_ (by decide) (by decide)
      try rw [e2]
      exact ⟨_, rfl, NF2, K0, O, Or.inr (Or.inl ⟨hx1, rfl⟩)⟩
    · have _h := hx1
      refine own_go (fun _ => XS.icmpYes X2.here hx rfl (pc0 := 20) (pc' := 26) rfl (hb hby own_d40_20) rfl (flt hx1).2.2.2 (by decide) (by decide)) ?_
      show own_Go _ _ _ _ (T2.setTop (mkF m 26 #[.val (.ref a1), .val (.int (1 : Int32)), .val (.ref a2), .val (.int (1 : Int32)), .val (.int (4 : Int32)), .val (.int (1 : Int32)), .val (.int x1)] []))
      refine own_go (fun _ => XS.aloadN X2.here hx rfl (hb hby own_d40_26) rfl rfl) ?_
      refine own_go (fun _ => XS.iloadN X2.here hx rfl (hb hby own_d40_27) rfl) ?_
      refine own_go (fun _ => XS.iload X2.here hx rfl (hb hby own_d40_28) rfl) ?_
      refine own_go (fun _ => XS.i2b X2.here hx rfl (hb hby own_d40_30) rfl) ?_
      show own_Go _ _ _ _ (T2.setTop (mkF m 31 #[.val (.ref a1), .val (.int (1 : Int32)), .val (.ref a2), .val (.int (1 : Int32)), .val (.int (4 : Int32)), .val (.int (1 : Int32)), .val (.int x1)] [(.int (x1.toInt8.toInt32)), (.int (1 : Int32)), (.ref a2)]))
      obtain ⟨cl4, Ar4, q4, Sz4, Ng4, Hs4, Gs4⟩ := Vd
      have hin4 : ¬ ((1 : Int32) < 0 ∨ cl4.slots.size ≤ ((1 : Int32)).toNatClampNeg) := inb_of Sz4 ⟨by decide, by decide⟩
      obtain ⟨T4, h4, X4, e4, W4, st4⟩ := stB X2 hx hZ e2 Ar4 (j := (1 : Int32)) hin4 (g := (mkF m 31 #[.val (.ref a1), .val (.int (1 : Int32)), .val (.ref a2), .val (.int (1 : Int32)), .val (.int (4 : Int32)), .val (.int (1 : Int32)), .val (.int x1)] [(.int (x1.toInt8.toInt32)), (.int (1 : Int32)), (.ref a2)])) rfl rfl (hb hby own_d40_31)
      refine own_go st4 ?_
      have NF4 := Fr.snoc X4 NF2 ge_a2
      replace Vd : Arv Z h4 a2 kd .byte (4 : Int32) [(.int (nar .byte (x0.toInt8.toInt32))), (.int (nar .byte (x1.toInt8.toInt32))), (.int (0 : Int32)), (.int (0 : Int32))] (.int (0 : Int32)) := Arv.set Ar4 q4 Sz4 Ng4 Hs4 Gs4 (fits_nar_byte _) W4 1 rfl (Nat.le_of_ble_eq_true rfl)
      replace Vc := Vc.other W4 ne12
      replace O := O.wr W4 ge_a2
      replace Z0 := Nat.le_trans Z0 (Keep.of_wr W4).1
      replace K0 := K0.wr W4 (Or.inl (List.mem_of_getElem? (i := 0) rfl))
      refine own_go (fun _ => XS.iinc X4.here hx rfl (hb hby own_d40_32) rfl (l' := #[.val (.ref a1), .val (.int (2 : Int32)), .val (.ref a2), .val (.int (1 : Int32)), .val (.int (4 : Int32)), .val (.int (1 : Int32)), .val (.int x1)]) rfl) ?_
      refine own_go (fun _ => XS.iinc X4.here hx rfl (hb hby own_d40_35) rfl (l' := #[.val (.ref a1), .val (.int (2 : Int32)), .val (.ref a2), .val (.int (2 : Int32)), .val (.int (4 : Int32)), .val (.int (1 : Int32)), .val (.int x1)]) rfl) ?_
      refine own_go (fun _ => XS.iinc X4.here hx rfl (hb hby own_d40_38) rfl (l' := #[.val (.ref a1), .val (.int (2 : Int32)), .val (.ref a2), .val (.int (2 : Int32)), .val (.int (4 : Int32)), .val (.int (2 : Int32)), .val (.int x1)]) rfl) ?_
      show own_Go _ _ _ _ (T4.setTop (mkF m 41 #[.val (.ref a1), .val (.int (2 : Int32)), .val (.ref a2), .val (.int (2 : Int32)), .val (.int (4 : Int32)), .val (.int (2 : Int32)), .val (.int x1)] []))
      refine own_go (fun _ => XS.goto X4.here hx rfl (pc0 := 41) (pc' := 3) rfl (hb hby own_d40_41) (by decide) (by decide)) ?_
      refine own_go (fun _ => XS.iload X4.here hx rfl (hb hby own_d40_3) rfl) ?_
      refine own_go (fun _ => XS.iload X4.here hx rfl (hb hby own_d40_5) rfl) ?_
      show own_Go _ _ _ _ (T4.setTop (mkF m 7 #[.val (.ref a1), .val (.int (2 : Int32)), .val (.ref a2), .val (.int (2 : Int32)), .val (.int (4 : Int32)), .val (.int (2 : Int32)), .val (.int x1)] [(.int (4 : Int32)), (.int (2 : Int32))]))
      refine own_go (fun _ => XS.icmpNo X4.here hx rfl (hb hby own_d40_7) rfl (tlt (by decide)).2.1) ?_
      show own_Go _ _ _ _ (T4.setTop (mkF m 10 #[.val (.ref a1), .val (.int (2 : Int32)), .val (.ref a2), .val (.int (2 : Int32)), .val (.int (4 : Int32)), .val (.int (2 : Int32)), .val (.int x1)] []))
      refine own_go (fun _ => XS.aloadN X4.here hx rfl (hb hby own_d40_10) rfl rfl) ?_
      refine own_go (fun _ => XS.iloadN X4.here hx rfl (hb hby own_d40_11) rfl) ?_
      obtain ⟨cl5, Ar5, q5, Sz5, Ng5, Hs5, Gs5⟩ := id Vc
      have hin5 : ¬ ((2 : Int32) < 0 ∨ cl5.slots.size ≤ ((2 : Int32)).toNatClampNeg) := inb_of Sz5 ⟨by decide, by decide⟩
      have hat5 : cl5.slots[((2 : Int32)).toNatClampNeg]? = some (.int x2) := Hs5.at hin5 rfl
      refine own_go (X4.caload hx (j := (2 : Int32)) (v := (.int x2)) (own_hp e4 Ar5.1) (State.isArrayOf_alike hZ.alike Ar5.2.1) Ar5.2.2 hin5 hat5 (g := (mkF m 12 #[.val (.ref a1), .val (.int (2 : Int32)), .val (.ref a2), .val (.int (2 : Int32)), .val (.int (4 : Int32)), .val (.int (2 : Int32)), .val (.int x1)] [(.int (2 : Int32)), (.ref a1)])) rfl rfl (hb hby own_d40_12)) ?_
      refine own_go (fun _ => XS.istore X4.here hx rfl (hb hby own_d40_13) rfl (l' := #[.val (.ref a1), .val (.int (2 : Int32)), .val (.ref a2), .val (.int (2 : Int32)), .val (.int (4 : Int32)), .val (.int (2 : Int32)), .val (.int x2)]) rfl) ?_
      show own_Go _ _ _ _ (T4.setTop (mkF m 15 #[.val (.ref a1), .val (.int (2 : Int32)), .val (.ref a2), .val (.int (2 : Int32)), .val (.int (4 : Int32)), .val (.int (2 : Int32)), .val (.int x2)] []))
      refine own_go (fun _ => XS.iload X4.here hx rfl (hb hby own_d40_15) rfl) ?_
      refine own_go (fun _ => XS.sipush X4.here hx rfl (hb hby own_d40_17)) ?_
      show own_Go _ _ _ _ (T4.setTop (mkF m 20 #[.val (.ref a1), .val (.int (2 : Int32)), .val (.ref a2), .val (.int (2 : Int32)), .val (.int (4 : Int32)), .val (.int (2 : Int32)), .val (.int x2)] [(.int (255 : Int32)), (.int x2)]))
      by_cases hx2 : (255 : Int32) < x2
      · have _h := hx2
        refine own_go (fun _ => XS.icmpNo X4.here hx rfl (hb hby own_d40_20) rfl (tlt hx2).2.2.2) ?_
        show own_Go _ _ _ _ (T4.setTop (mkF m 23 #[.val (.ref a1), .val (.int (2 : Int32)), .val (.ref a2), .val (.int (2 : Int32)), .val (.int (4 : Int32)), .val (.int (2 : Int32)), .val (.int x2)] []))
        refine own_go (fun _ => XS.iload X4.here hx rfl (hb hby own_d40_23) rfl) ?_
        show own_Go _ _ _ _ (T4.setTop (mkF m 25 #[.val (.ref a1), .val (.int (2 : Int32)), .val (.ref a2), .val (.int (2 : Int32)), .val (.int (4 : Int32)), .val (.int (2 : Int32)), .val (.int x2)] [(.int (2 : Int32))]))
        refine own_ret X4 hlk (v := some (.int (2 : Int32))) (fun h => by rw [Bd.returns] at h; cases h) (fun fs hr => retOut X4 hx Bd.returns rfl (Or.inl ⟨rfl, Or.inl rfl, _, rfl⟩) (hb hby own_d40_25) hr) ?_ (by decide) (by decide)
        try rw [e4]
        exact ⟨_, rfl, NF4, K0, O, Or.inr (Or.inr (Or.inl ⟨hx2, rfl⟩))⟩
      · have _h := hx2
        refine own_go (fun _ => XS.icmpYes X4.here hx rfl (pc0 := 20) (pc' := 26) rfl (hb hby own_d40_20) rfl (flt hx2).2.2.2 (by decide) (by decide)) ?_
        show own_Go _ _ _ _ (T4.setTop (mkF m 26 #[.val (.ref a1), .val (.int (2 : Int32)), .val (.ref a2), .val (.int (2 : Int32)), .val (.int (4 : Int32)), .val (.int (2 : Int32)), .val (.int x2)] []))
        refine own_go (fun _ => XS.aloadN X4.here hx rfl (hb hby own_d40_26) rfl rfl) ?_
        refine own_go (fun _ => XS.iloadN X4.here hx rfl (hb hby own_d40_27) rfl) ?_
        refine own_go (fun _ => XS.iload X4.here hx rfl (hb hby own_d40_28) rfl) ?_
        refine own_go (fun _ => XS.i2b X4.here hx rfl (hb hby own_d40_30) rfl) ?_
        show own_Go _ _ _ _ (T4.setTop (mkF m 31 #[.val (.ref a1), .val (.int (2 : Int32)), .val (.ref a2), .val (.int (2 : Int32)), .val (.int (4 : Int32)), .val (.int (2 : Int32)), .val (.int x2)] [(.int (x2.toInt8.toInt32)), (.int (2 : Int32)), (.ref a2)]))
        obtain ⟨cl6, Ar6, q6, Sz6, Ng6, Hs6, Gs6⟩ := Vd
        have hin6 : ¬ ((2 : Int32) < 0 ∨ cl6.slots.size ≤ ((2 : Int32)).toNatClampNeg) := inb_of Sz6 ⟨by decide, by decide⟩
        obtain ⟨T6, h6, X6, e6, W6, st6⟩ := stB X4 hx hZ e4 Ar6 (j := (2 : Int32)) hin6 (g := (mkF m 31 #[.val (.ref a1), .val (.int (2 : Int32)), .val (.ref a2), .val (.int (2 : Int32)), .val (.int (4 : Int32)), .val (.int (2 : Int32)), .val (.int x2)] [(.int (x2.toInt8.toInt32)), (.int (2 : Int32)), (.ref a2)])) rfl rfl (hb hby own_d40_31)
        refine own_go st6 ?_
        have NF6 := Fr.snoc X6 NF4 ge_a2
        replace Vd : Arv Z h6 a2 kd .byte (4 : Int32) [(.int (nar .byte (x0.toInt8.toInt32))), (.int (nar .byte (x1.toInt8.toInt32))), (.int (nar .byte (x2.toInt8.toInt32))), (.int (0 : Int32))] (.int (0 : Int32)) := Arv.set Ar6 q6 Sz6 Ng6 Hs6 Gs6 (fits_nar_byte _) W6 2 rfl (Nat.le_of_ble_eq_true rfl)
        replace Vc := Vc.other W6 ne12
        replace O := O.wr W6 ge_a2
        replace Z0 := Nat.le_trans Z0 (Keep.of_wr W6).1
        replace K0 := K0.wr W6 (Or.inl (List.mem_of_getElem? (i := 0) rfl))
        refine own_go (fun _ => XS.iinc X6.here hx rfl (hb hby own_d40_32) rfl (l' := #[.val (.ref a1), .val (.int (3 : Int32)), .val (.ref a2), .val (.int (2 : Int32)), .val (.int (4 : Int32)), .val (.int (2 : Int32)), .val (.int x2)]) rfl) ?_
        refine own_go (fun _ => XS.iinc X6.here hx rfl (hb hby own_d40_35) rfl (l' := #[.val (.ref a1), .val (.int (3 : Int32)), .val (.ref a2), .val (.int (3 : Int32)), .val (.int (4 : Int32)), .val (.int (2 : Int32)), .val (.int x2)]) rfl) ?_
        refine own_go (fun _ => XS.iinc X6.here hx rfl (hb hby own_d40_38) rfl (l' := #[.val (.ref a1), .val (.int (3 : Int32)), .val (.ref a2), .val (.int (3 : Int32)), .val (.int (4 : Int32)), .val (.int (3 : Int32)), .val (.int x2)]) rfl) ?_
        show own_Go _ _ _ _ (T6.setTop (mkF m 41 #[.val (.ref a1), .val (.int (3 : Int32)), .val (.ref a2), .val (.int (3 : Int32)), .val (.int (4 : Int32)), .val (.int (3 : Int32)), .val (.int x2)] []))
        refine own_go (fun _ => XS.goto X6.here hx rfl (pc0 := 41) (pc' := 3) rfl (hb hby own_d40_41) (by decide) (by decide)) ?_
        refine own_go (fun _ => XS.iload X6.here hx rfl (hb hby own_d40_3) rfl) ?_
        refine own_go (fun _ => XS.iload X6.here hx rfl (hb hby own_d40_5) rfl) ?_
        show own_Go _ _ _ _ (T6.setTop (mkF m 7 #[.val (.ref a1), .val (.int (3 : Int32)), .val (.ref a2), .val (.int (3 : Int32)), .val (.int (4 : Int32)), .val (.int (3 : Int32)), .val (.int x2)] [(.int (4 : Int32)), (.int (3 : Int32))]))
        refine own_go (fun _ => XS.icmpNo X6.here hx rfl (hb hby own_d40_7) rfl (tlt (by decide)).2.1) ?_
        show own_Go _ _ _ _ (T6.setTop (mkF m 10 #[.val (.ref a1), .val (.int (3 : Int32)), .val (.ref a2), .val (.int (3 : Int32)), .val (.int (4 : Int32)), .val (.int (3 : Int32)), .val (.int x2)] []))
        refine own_go (fun _ => XS.aloadN X6.here hx rfl (hb hby own_d40_10) rfl rfl) ?_
        refine own_go (fun _ => XS.iloadN X6.here hx rfl (hb hby own_d40_11) rfl) ?_
        obtain ⟨cl7, Ar7, q7, Sz7, Ng7, Hs7, Gs7⟩ := id Vc
        have hin7 : ¬ ((3 : Int32) < 0 ∨ cl7.slots.size ≤ ((3 : Int32)).toNatClampNeg) := inb_of Sz7 ⟨by decide, by decide⟩
        have hat7 : cl7.slots[((3 : Int32)).toNatClampNeg]? = some (.int x3) := Hs7.at hin7 rfl
        refine own_go (X6.caload hx (j := (3 : Int32)) (v := (.int x3)) (own_hp e6 Ar7.1) (State.isArrayOf_alike hZ.alike Ar7.2.1) Ar7.2.2 hin7 hat7 (g := (mkF m 12 #[.val (.ref a1), .val (.int (3 : Int32)), .val (.ref a2), .val (.int (3 : Int32)), .val (.int (4 : Int32)), .val (.int (3 : Int32)), .val (.int x2)] [(.int (3 : Int32)), (.ref a1)])) rfl rfl (hb hby own_d40_12)) ?_
        refine own_go (fun _ => XS.istore X6.here hx rfl (hb hby own_d40_13) rfl (l' := #[.val (.ref a1), .val (.int (3 : Int32)), .val (.ref a2), .val (.int (3 : Int32)), .val (.int (4 : Int32)), .val (.int (3 : Int32)), .val (.int x3)]) rfl) ?_
        show own_Go _ _ _ _ (T6.setTop (mkF m 15 #[.val (.ref a1), .val (.int (3 : Int32)), .val (.ref a2), .val (.int (3 : Int32)), .val (.int (4 : Int32)), .val (.int (3 : Int32)), .val (.int x3)] []))
        refine own_go (fun _ => XS.iload X6.here hx rfl (hb hby own_d40_15) rfl) ?_
        refine own_go (fun _ => XS.sipush X6.here hx rfl (hb hby own_d40_17)) ?_
        show own_Go _ _ _ _ (T6.setTop (mkF m 20 #[.val (.ref a1), .val (.int (3 : Int32)), .val (.ref a2), .val (.int (3 : Int32)), .val (.int (4 : Int32)), .val (.int (3 : Int32)), .val (.int x3)] [(.int (255 : Int32)), (.int x3)]))
        by_cases hx3 : (255 : Int32) < x3
        · have _h := hx3
          refine own_go (fun _ => XS.icmpNo X6.here hx rfl (hb hby own_d40_20) rfl (tlt hx3).2.2.2) ?_
          show own_Go _ _ _ _ (T6.setTop (mkF m 23 #[.val (.ref a1), .val (.int (3 : Int32)), .val (.ref a2), .val (.int (3 : Int32)), .val (.int (4 : Int32)), .val (.int (3 : Int32)), .val (.int x3)] []))
          refine own_go (fun _ => XS.iload X6.here hx rfl (hb hby own_d40_23) rfl) ?_
          show own_Go _ _ _ _ (T6.setTop (mkF m 25 #[.val (.ref a1), .val (.int (3 : Int32)), .val (.ref a2), .val (.int (3 : Int32)), .val (.int (4 : Int32)), .val (.int (3 : Int32)), .val (.int x3)] [(.int (3 : Int32))]))
          refine own_ret X6 hlk (v := some (.int (3 : Int32))) (fun h => by rw [Bd.returns] at h; cases h) (fun fs hr => retOut X6 hx Bd.returns rfl (Or.inl ⟨rfl, Or.inl rfl, _, rfl⟩) (hb hby own_d40_25) hr) ?_ (by decide) (by decide)
          try rw [e6]
          exact ⟨_, rfl, NF6, K0, O, Or.inr (Or.inr (Or.inr (Or.inl ⟨hx3, rfl⟩)))⟩
        · have _h := hx3
          refine own_go (fun _ => XS.icmpYes X6.here hx rfl (pc0 := 20) (pc' := 26) rfl (hb hby own_d40_20) rfl (flt hx3).2.2.2 (by decide) (by decide)) ?_
          show own_Go _ _ _ _ (T6.setTop (mkF m 26 #[.val (.ref a1), .val (.int (3 : Int32)), .val (.ref a2), .val (.int (3 : Int32)), .val (.int (4 : Int32)), .val (.int (3 : Int32)), .val (.int x3)] []))
          refine own_go (fun _ => XS.aloadN X6.here hx rfl (hb hby own_d40_26) rfl rfl) ?_
          refine own_go (fun _ => XS.iloadN X6.here hx rfl (hb hby own_d40_27) rfl) ?_
          refine own_go (fun _ => XS.iload X6.here hx rfl (hb hby own_d40_28) rfl) ?_
          refine own_go (fun _ => XS.i2b X6.here hx rfl (hb hby own_d40_30) rfl) ?_
          show own_Go _ _ _ _ (T6.setTop (mkF m 31 #[.val (.ref a1), .val (.int (3 : Int32)), .val (.ref a2), .val (.int (3 : Int32)), .val (.int (4 : Int32)), .val (.int (3 : Int32)), .val (.int x3)] [(.int (x3.toInt8.toInt32)), (.int (3 : Int32)), (.ref a2)]))
          obtain ⟨cl8, Ar8, q8, Sz8, Ng8, Hs8, Gs8⟩ := Vd
          have hin8 : ¬ ((3 : Int32) < 0 ∨ cl8.slots.size ≤ ((3 : Int32)).toNatClampNeg) := inb_of Sz8 ⟨by decide, by decide⟩
          obtain ⟨T8, h8, X8, e8, W8, st8⟩ := stB X6 hx hZ e6 Ar8 (j := (3 : Int32)) hin8 (g := (mkF m 31 #[.val (.ref a1), .val (.int (3 : Int32)), .val (.ref a2), .val (.int (3 : Int32)), .val (.int (4 : Int32)), .val (.int (3 : Int32)), .val (.int x3)] [(.int (x3.toInt8.toInt32)), (.int (3 : Int32)), (.ref a2)])) rfl rfl (hb hby own_d40_31)
          refine own_go st8 ?_
          have NF8 := Fr.snoc X8 NF6 ge_a2
          replace Vd : Arv Z h8 a2 kd .byte (4 : Int32) [(.int (nar .byte (x0.toInt8.toInt32))), (.int (nar .byte (x1.toInt8.toInt32))), (.int (nar .byte (x2.toInt8.toInt32))), (.int (nar .byte (x3.toInt8.toInt32)))] (.int (0 : Int32)) := Arv.set Ar8 q8 Sz8 Ng8 Hs8 Gs8 (fits_nar_byte _) W8 3 rfl (Nat.le_of_ble_eq_true rfl)
          replace Vc := Vc.other W8 ne12
          replace O := O.wr W8 ge_a2
          replace Z0 := Nat.le_trans Z0 (Keep.of_wr W8).1
          replace K0 := K0.wr W8 (Or.inl (List.mem_of_getElem? (i := 0) rfl))
          refine own_go (fun _ => XS.iinc X8.here hx rfl (hb hby own_d40_32) rfl (l' := #[.val (.ref a1), .val (.int (4 : Int32)), .val (.ref a2), .val (.int (3 : Int32)), .val (.int (4 : Int32)), .val (.int (3 : Int32)), .val (.int x3)]) rfl) ?_
          refine own_go (fun _ => XS.iinc X8.here hx rfl (hb hby own_d40_35) rfl (l' := #[.val (.ref a1), .val (.int (4 : Int32)), .val (.ref a2), .val (.int (4 : Int32)), .val (.int (4 : Int32)), .val (.int (3 : Int32)), .val (.int x3)]) rfl) ?_
          refine own_go (fun _ => XS.iinc X8.here hx rfl (hb hby own_d40_38) rfl (l' := #[.val (.ref a1), .val (.int (4 : Int32)), .val (.ref a2), .val (.int (4 : Int32)), .val (.int (4 : Int32)), .val (.int (4 : Int32)), .val (.int x3)]) rfl) ?_
          show own_Go _ _ _ _ (T8.setTop (mkF m 41 #[.val (.ref a1), .val (.int (4 : Int32)), .val (.ref a2), .val (.int (4 : Int32)), .val (.int (4 : Int32)), .val (.int (4 : Int32)), .val (.int x3)] []))
          refine own_go (fun _ => XS.goto X8.here hx rfl (pc0 := 41) (pc' := 3) rfl (hb hby own_d40_41) (by decide) (by decide)) ?_
          refine own_go (fun _ => XS.iload X8.here hx rfl (hb hby own_d40_3) rfl) ?_
          refine own_go (fun _ => XS.iload X8.here hx rfl (hb hby own_d40_5) rfl) ?_
          show own_Go _ _ _ _ (T8.setTop (mkF m 7 #[.val (.ref a1), .val (.int (4 : Int32)), .val (.ref a2), .val (.int (4 : Int32)), .val (.int (4 : Int32)), .val (.int (4 : Int32)), .val (.int x3)] [(.int (4 : Int32)), (.int (4 : Int32))]))
          refine own_go (fun _ => XS.icmpYes X8.here hx rfl (pc0 := 7) (pc' := 44) rfl (hb hby own_d40_7) rfl (flt (by decide)).2.1 (by decide) (by decide)) ?_
          show own_Go _ _ _ _ (T8.setTop (mkF m 44 #[.val (.ref a1), .val (.int (4 : Int32)), .val (.ref a2), .val (.int (4 : Int32)), .val (.int (4 : Int32)), .val (.int (4 : Int32)), .val (.int x3)] []))
          refine own_go (fun _ => XS.iload X8.here hx rfl (hb hby own_d40_44) rfl) ?_
          show own_Go _ _ _ _ (T8.setTop (mkF m 46 #[.val (.ref a1), .val (.int (4 : Int32)), .val (.ref a2), .val (.int (4 : Int32)), .val (.int (4 : Int32)), .val (.int (4 : Int32)), .val (.int x3)] [(.int (4 : Int32))]))
          refine own_ret X8 hlk (v := some (.int (4 : Int32))) (fun h => by rw [Bd.returns] at h; cases h) (fun fs hr => retOut X8 hx Bd.returns rfl (Or.inl ⟨rfl, Or.inl rfl, _, rfl⟩) (hb hby own_d40_46) hr) ?_ (by decide) (by decide)
          try rw [e8]
          exact ⟨_, rfl, NF8, K0, O, Or.inr (Or.inr (Or.inr (Or.inr (⟨⟨hx0, hx1, hx2, hx3⟩, rfl, Vd⟩))))⟩
theorem own_d39_0 : decode jdk_52_method_16_code 0 = .ok (.iload_n 2, 1) := by decide +kernel
theorem own_d39_1 : decode jdk_52_method_16_code 1 = .ok (.newarray .byte, 2) := by decide +kernel
theorem own_d39_3 : decode jdk_52_method_16_code 3 = .ok (.astore_n 3, 1) := by decide +kernel
theorem own_d39_4 : decode jdk_52_method_16_code 4 = .ok (.aload_n 0, 1) := by decide +kernel
theorem own_d39_5 : decode jdk_52_method_16_code 5 = .ok (.iload_n 1, 1) := by decide +kernel
theorem own_d39_6 : decode jdk_52_method_16_code 6 = .ok (.aload_n 3, 1) := by decide +kernel
theorem own_d39_7 : decode jdk_52_method_16_code 7 = .ok (.iconst 0, 1) := by decide +kernel
theorem own_d39_8 : decode jdk_52_method_16_code 8 = .ok (.iload_n 2, 1) := by decide +kernel
theorem own_d39_9 : decode jdk_52_method_16_code 9 = .ok (.invokestatic 115, 3) := by decide +kernel
theorem own_pd1 : parseMethodDescriptor "([CI[BII)I" = some ⟨[(.array .char), .int, (.array .byte), .int, .int], some .int⟩ := by decide +kernel
theorem own_d39_12 : decode jdk_52_method_16_code 12 = .ok (.istore 4, 2) := by decide +kernel
theorem own_d39_14 : decode jdk_52_method_16_code 14 = .ok (.iload 4, 2) := by decide +kernel
theorem own_d39_16 : decode jdk_52_method_16_code 16 = .ok (.iload_n 2, 1) := by decide +kernel
theorem own_d39_17 : decode jdk_52_method_16_code 17 = .ok (.if_icmp .eq 40, 3) := by decide +kernel
theorem own_d39_57 : decode jdk_52_method_16_code 57 = .ok (.aload_n 3, 1) := by decide +kernel
theorem own_d39_58 : decode jdk_52_method_16_code 58 = .ok (.areturn, 1) := by decide +kernel
set_option maxRecDepth 65536 in
set_option maxHeartbeats 40000000 in
theorem own_rmML4 (l : Launch) (Z : State) (a0 : Array Value) (hw : ∀ d ∈ tables_1, d.before a0 Z = true) (a1 : Addr) (kc : ClassId) (x0 : Int32) (x1 : Int32) (x2 : Int32) (x3 : Int32) (h0 : Heap) (n0 : Nat) (Z0 : n0 ≤ h0.size) (Vc : Arv Z h0 a1 kc .char 4 [(.int x0), (.int x1), (.int x2), (.int x3)] (.int 0)) (O : Old Z n0 h0) (hx' : ¬ (255 : Int32) < x0 ∧ ¬ (255 : Int32) < x1 ∧ ¬ (255 : Int32) < x2 ∧ ¬ (255 : Int32) < x3) :
    own_Met l Z [] (⟨"java/lang/StringUTF16", "compress", "([CII)[B"⟩ : MethodName) jdk_52_method_16_code 6 (some (.array .byte)) ({ frames := 3, cells := 2, slots := 9, locals := 40 } : Room) #[(.ref a1), (.int (0 : Int32)), (.int (4 : Int32))] h0 (fun v h L => ∃ (b : Addr) (k : ClassId), v = some (.ref b) ∧ Fr n0 L ∧ Keep h0 h [] ∧ Old Z n0 h ∧ n0 ≤ b ∧ h0.size ≤ b ∧ Arv Z h b k .byte 4 [(.int (nar .byte (x0.toInt8.toInt32))), (.int (nar .byte (x1.toInt8.toInt32))), (.int (nar .byte (x2.toInt8.toInt32))), (.int (nar .byte (x3.toInt8.toInt32)))] (.int 0)) := by
  refine MetFree.of_bodySF (plainFor_of_name own_pn2) hisR ?_
  intro p e s m args below meth c s₁ Bd hml0 hP hK
  obtain ⟨rfl, hZ, hh⟩ := hP
  have hx := Bd.exec
  have hby := Bd.bytes
  have hml : c.maxLocals = 6 := hml0
  have hown : s.vm.findClass "java/lang/StringUTF16" = some m.cls := findClass_of_methodNamed Bd.named
  have hnm := (name_of_methodNamed Bd.named Bd.method).1
  have hlk : meth.locks = false := Bd.notSynchronized
  have X0 : Stand p l e ({ frames := 3, cells := 2, slots := 9, locals := 40 } : Room) s m #[(.ref a1), (.int (0 : Int32)), (.int (4 : Int32))] below meth c s₁ [] 0 0 := Stand.of_body Bd
  have e0 : s₁.heap = h0 := by rw [← hh, Bd.state]; rfl
  have N0 := Fr.nil n0
  refine own_body (Q := fun v h L => ∃ (b : Addr) (k : ClassId), v = some (.ref b) ∧ Fr n0 L ∧ Keep h0 h [] ∧ Old Z n0 h ∧ n0 ≤ b ∧ h0.size ≤ b ∧ Arv Z h b k .byte 4 [(.int (nar .byte (x0.toInt8.toInt32))), (.int (nar .byte (x1.toInt8.toInt32))), (.int (nar .byte (x2.toInt8.toInt32))), (.int (nar .byte (x3.toInt8.toInt32)))] (.int 0)) ?_
  refine own_go (fun _ kont => castTop (own_ef m #[(.ref a1), (.int (0 : Int32)), (.int (4 : Int32))] 6 #[.val (.ref a1), .val (.int (0 : Int32)), .val (.int (4 : Int32)), .unset, .unset, .unset] (own_al [(.ref a1), (.int (0 : Int32)), (.int (4 : Int32))] 6 [.val (.ref a1), .val (.int (0 : Int32)), .val (.int (4 : Int32)), .unset, .unset, .unset] rfl)) kont) ?_
  show own_Go _ _ _ _ (s₁.setTop (mkF m 0 #[.val (.ref a1), .val (.int (0 : Int32)), .val (.int (4 : Int32)), .unset, .unset, .unset] []))
  have K0 : Keep h0 h0 [] := Keep.refl _ _
  refine own_go (fun _ => XS.iloadN X0.here hx rfl (hb hby own_d39_0) rfl) ?_
  obtain ⟨T1, h1, k1, X1, e1, E1, A1, st1⟩ := newP X0 hx hZ (hw _ (List.mem_of_getElem? (i := 8) rfl)) e0 (g := (mkF m 1 #[.val (.ref a1), .val (.int (0 : Int32)), .val (.int (4 : Int32)), .unset, .unset, .unset] [(.int (4 : Int32))])) rfl (hb hby own_d39_1) rfl (by decide) (cap := 4) (by decide) (by decide) (by decide) (by decide)
  obtain ⟨b1, g1⟩ : ∃ z, z = h0.size := ⟨_, rfl⟩
  rw [← g1] at A1 st1
  refine own_go st1 ?_
  have ge_b1 : n0 ≤ b1 := Nat.le_trans Z0 (Nat.le_of_eq g1.symm)
  have ne_a1_b1 : a1 ≠ b1 := Nat.ne_of_lt (Nat.lt_of_lt_of_le Vc.lt (Nat.le_of_eq g1.symm))
  have sz_b1 : h0.size ≤ b1 := Nat.le_trans K0.1 (Nat.le_of_eq g1.symm)
  replace Vc := Vc.ext E1
  replace O := O.ext E1
  replace Z0 := Nat.le_trans Z0 E1.1
  replace K0 := K0.ext E1
  have V_b1 : Arv Z h1 b1 k1 .byte (4 : Int32) [(.int (0 : Int32)), (.int (0 : Int32)), (.int (0 : Int32)), (.int (0 : Int32))] (.int (0 : Int32)) := (Arv.new A1 (by decide)).pad (pad_rep [] (.int (0 : Int32)) 4)
  refine own_go (fun _ => XS.astoreN X1.here hx rfl (hb hby own_d39_3) rfl rfl (l' := #[.val (.ref a1), .val (.int (0 : Int32)), .val (.int (4 : Int32)), .val (.ref b1), .unset, .unset]) rfl) ?_
  refine own_go (fun _ => XS.aloadN X1.here hx rfl (hb hby own_d39_4) rfl rfl) ?_
  show own_Go _ _ _ _ (T1.setTop (mkF m 5 #[.val (.ref a1), .val (.int (0 : Int32)), .val (.int (4 : Int32)), .val (.ref b1), .unset, .unset] [(.ref a1)]))
  refine own_go (fun _ => XS.iloadN X1.here hx rfl (hb hby own_d39_5) rfl) ?_
  refine own_go (fun _ => XS.aloadN X1.here hx rfl (hb hby own_d39_6) rfl rfl) ?_
  refine own_go (fun _ => XS.iconst X1.here hx rfl (hb hby own_d39_7)) ?_
  refine own_go (fun _ => XS.iloadN X1.here hx rfl (hb hby own_d39_8) rfl) ?_
  show own_Go _ _ _ _ (T1.setTop (mkF m 9 #[.val (.ref a1), .val (.int (0 : Int32)), .val (.int (4 : Int32)), .val (.ref b1), .unset, .unset] [(.int (4 : Int32)), (.int (0 : Int32)), (.ref b1), (.int (0 : Int32)), (.ref a1)]))
  obtain ⟨_, _, ⟨T2, L2, k2, n2⟩, -, X2, ⟨Lc2, hQ2, l2, y2, z2⟩, st2⟩ := Jvm.LawKit.callS X1 hx (y := (⟨"java/lang/StringUTF16", "compress", "([CI[BII)I"⟩ : MethodName)) hown (mvT hZ (hw _ (List.mem_of_getElem? (i := 192) rfl))) (mvT hZ (hw _ (List.mem_of_getElem? (i := 193) rfl))) (mvT hZ (hw _ (List.mem_of_getElem? (i := 190) rfl))) (mvT hZ (hw _ (List.mem_of_getElem? (i := 194) rfl))) (by decide) (own_back (W := 0) (own_rmK4 l Z a0 hw a1 b1 kc k1 x0 x1 x2 x3 h1 n0 Z0 Vc V_b1 ge_b1 ne_a1_b1 O) hZ (hw _ (List.mem_of_getElem? (i := 194) rfl)) (hw _ (List.mem_of_getElem? (i := 190) rfl)) (by decide) (by decide)) (g := (mkF m 9 #[.val (.ref a1), .val (.int (0 : Int32)), .val (.int (4 : Int32)), .val (.ref b1), .unset, .unset] [(.int (4 : Int32)), (.int (0 : Int32)), (.ref b1), (.int (0 : Int32)), (.ref a1)])) rfl (by rw [hml]; rfl) (argsL := [(.ref a1), (.int (0 : Int32)), (.ref b1), (.int (0 : Int32)), (.int (4 : Int32))]) (rest := []) (lenOf own_pd1 rfl) rfl (by show 2 * 0 + _ ≤ _; exact Nat.le_of_eq rfl) (hb hby own_d39_9) (fun _ _ => ⟨rfl, e1, (by decide : 1 + 0 ≤ _), (by decide : 4 + 0 ≤ _)⟩)
  dsimp only [Pt.U, Pt.locs, Pt.cells, Pt.slots] at X2 l2 y2 z2 st2 hQ2
  replace X2 := own_cst X2 l2 y2 z2 (k2 := 1) (n2 := 4) rfl rfl
  clear l2 y2 z2
  obtain ⟨r2, rfl, Nq2, K2, O2, Dj2⟩ := hQ2
  have NF2 := Fr.app N0 Nq2
  refine own_go st2 ?_
  replace Vc := Vc.keep K2 (ninS ne_a1_b1 nin0)
  replace Z0 := Nat.le_trans Z0 K2.1
  replace K0 := K0.trans K2 (allS (Or.inr sz_b1) all0)
  have O := O2
  have DV : r2 = 4 ∧ Arv Z T2.heap b1 k1 .byte 4 [(.int (nar .byte (x0.toInt8.toInt32))), (.int (nar .byte (x1.toInt8.toInt32))), (.int (nar .byte (x2.toInt8.toInt32))), (.int (nar .byte (x3.toInt8.toInt32)))] (.int 0) := by
    rcases Dj2 with ⟨q, -⟩ | ⟨q, -⟩ | ⟨q, -⟩ | ⟨q, -⟩ | ⟨-, q⟩
    · exact absurd q hx'.1
    · exact absurd q hx'.2.1
    · exact absurd q hx'.2.2.1
    · exact absurd q hx'.2.2.2
    · exact q
  obtain ⟨rfl, V2⟩ := DV
  show own_Go _ _ _ _ (T2.setTop (mkF m 12 #[.val (.ref a1), .val (.int (0 : Int32)), .val (.int (4 : Int32)), .val (.ref b1), .unset, .unset] [(.int (4 : Int32))]))
  refine own_go (fun _ => XS.istore X2.here hx rfl (hb hby own_d39_12) rfl (l' := #[.val (.ref a1), .val (.int (0 : Int32)), .val (.int (4 : Int32)), .val (.ref b1), .val (.int (4 : Int32)), .unset]) rfl) ?_
  refine own_go (fun _ => XS.iload X2.here hx rfl (hb hby own_d39_14) rfl) ?_
  refine own_go (fun _ => XS.iloadN X2.here hx rfl (hb hby own_d39_16) rfl) ?_
  show own_Go _ _ _ _ (T2.setTop (mkF m 17 #[.val (.ref a1), .val (.int (0 : Int32)), .val (.int (4 : Int32)), .val (.ref b1), .val (.int (4 : Int32)), .unset] [(.int (4 : Int32)), (.int (4 : Int32))]))
  refine own_go (fun _ => XS.icmpYes X2.here hx rfl (pc0 := 17) (pc' := 57) rfl (hb hby own_d39_17) rfl (teq rfl).1 (by decide) (by decide)) ?_
  show own_Go _ _ _ _ (T2.setTop (mkF m 57 #[.val (.ref a1), .val (.int (0 : Int32)), .val (.int (4 : Int32)), .val (.ref b1), .val (.int (4 : Int32)), .unset] []))
  refine own_go (fun _ => XS.aloadN X2.here hx rfl (hb hby own_d39_57) rfl rfl) ?_
  show own_Go _ _ _ _ (T2.setTop (mkF m 58 #[.val (.ref a1), .val (.int (0 : Int32)), .val (.int (4 : Int32)), .val (.ref b1), .val (.int (4 : Int32)), .unset] [(.ref b1)]))
  refine own_ret X2 hlk (v := some (.ref b1)) (fun h => by rw [Bd.returns] at h; cases h) (fun fs hr => retOut X2 hx Bd.returns rfl (Or.inr (Or.inr (Or.inr (Or.inr ⟨rfl, rfl, rfl⟩)))) (hb hby own_d39_58) hr) ?_ (by decide) (by decide)
  skip
  exact ⟨b1, k1, rfl, NF2, K0, O, ge_b1, sz_b1, V2⟩
theorem own_d38_0 : decode jdk_42_method_149_code 0 = .ok (.aload_n 0, 1) := by decide +kernel
theorem own_d38_1 : decode jdk_42_method_149_code 1 = .ok (.invokespecial 1, 3) := by decide +kernel
theorem own_d38_4 : decode jdk_42_method_149_code 4 = .ok (.iload_n 3, 1) := by decide +kernel
theorem own_d38_5 : decode jdk_42_method_149_code 5 = .ok (.ifCond .ne 22, 3) := by decide +kernel
theorem own_d38_27 : decode jdk_42_method_149_code 27 = .ok (.getstatic 38, 3) := by decide +kernel
theorem own_d38_30 : decode jdk_42_method_149_code 30 = .ok (.ifCond .eq 28, 3) := by decide +kernel
theorem own_d38_33 : decode jdk_42_method_149_code 33 = .ok (.aload_n 1, 1) := by decide +kernel
theorem own_d38_34 : decode jdk_42_method_149_code 34 = .ok (.iload_n 2, 1) := by decide +kernel
theorem own_d38_35 : decode jdk_42_method_149_code 35 = .ok (.iload_n 3, 1) := by decide +kernel
theorem own_d38_36 : decode jdk_42_method_149_code 36 = .ok (.invokestatic 177, 3) := by decide +kernel
theorem own_pd2 : parseMethodDescriptor "([CII)[B" = some ⟨[(.array .char), .int, .int], some (.array .byte)⟩ := by decide +kernel
theorem own_d38_39 : decode jdk_42_method_149_code 39 = .ok (.astore 5, 2) := by decide +kernel
theorem own_d38_41 : decode jdk_42_method_149_code 41 = .ok (.aload_n 0, 1) := by decide +kernel
theorem own_d38_42 : decode jdk_42_method_149_code 42 = .ok (.aload 5, 2) := by decide +kernel
theorem own_d38_44 : decode jdk_42_method_149_code 44 = .ok (.iload_n 3, 1) := by decide +kernel
theorem own_d38_45 : decode jdk_42_method_149_code 45 = .ok (.invokestatic 47, 3) := by decide +kernel
theorem own_pd3 : parseMethodDescriptor "([BI)B" = some ⟨[(.array .byte), .int], some .byte⟩ := by decide +kernel
theorem own_d38_48 : decode jdk_42_method_149_code 48 = .ok (.putfield 15, 3) := by decide +kernel
theorem own_d38_51 : decode jdk_42_method_149_code 51 = .ok (.aload_n 0, 1) := by decide +kernel
theorem own_d38_52 : decode jdk_42_method_149_code 52 = .ok (.aload 5, 2) := by decide +kernel
theorem own_d38_54 : decode jdk_42_method_149_code 54 = .ok (.putfield 9, 3) := by decide +kernel
theorem own_d38_57 : decode jdk_42_method_149_code 57 = .ok (.return_, 1) := by decide +kernel
set_option maxRecDepth 65536 in
set_option maxHeartbeats 40000000 in
theorem own_rmJL (l : Launch) (Z : State) (a0 : Array Value) (hw : ∀ d ∈ tables_1, d.before a0 Z = true) (a1 : Addr) (a2 : Addr) (cs : Int32) (n : Int32) (z : Int32) (vs : List Value) (h0 : Heap) (n0 : Nat) (Z0 : n0 ≤ h0.size) (E1 : Exa Z h0 a1 "java/lang/String") (Fv : Fld Z h0 a1 "java/lang/String" "value" "[B" .null) (Fc : Fld Z h0 a1 "java/lang/String" "coder" "B" (.int 0)) (O : Old Z n0 h0) (S_C : Sta Z Z.heap "java/lang/String" "COMPACT_STRINGS" "Z" (.int cs)) (hcs : ¬ cs = (0 : Int32)) (ge_a1 : n0 ≤ a1) (hnz : ¬ n = (0 : Int32)) (hu : nar .byte ((((n - z).toUInt32 >>> ((31 : Int32) &&& 31).toUInt32).toInt32).toInt8.toInt32) = 0) (hM : own_Met l Z [] (⟨"java/lang/StringUTF16", "compress", "([CII)[B"⟩ : MethodName) jdk_52_method_16_code 6 (some (.array .byte)) ({ frames := 3, cells := 2, slots := 9, locals := 40 } : Room) #[(.ref a2), (.int (0 : Int32)), (.int n)] h0 (fun v h L => ∃ (b : Addr) (k : ClassId), v = some (.ref b) ∧ Fr n0 L ∧ Keep h0 h [] ∧ Old Z n0 h ∧ n0 ≤ b ∧ h0.size ≤ b ∧ Arv Z h b k .byte z vs (.int 0))) :
    own_Met l Z [] (⟨"java/lang/String", "<init>", "([CIILjava/lang/Void;)V"⟩ : MethodName) jdk_42_method_149_code 6 none ({ frames := 4, cells := 2, slots := 9, locals := 57 } : Room) #[(.ref a1), (.ref a2), (.int (0 : Int32)), (.int n), .null] h0 (fun v h L => ∃ (b : Addr) (k : ClassId), v = none ∧ Fr n0 L ∧ Keep h0 h [a1] ∧ Old Z n0 h ∧ h0.size ≤ h.size ∧ Exa Z h a1 "java/lang/String" ∧ Fld Z h a1 "java/lang/String" "value" "[B" (.ref b) ∧ Fld Z h a1 "java/lang/String" "coder" "B" (.int 0) ∧ Arv Z h b k .byte z vs (.int 0)) := by
  refine MetFree.of_bodySF (plainFor_of_name own_pn1) hisR ?_
  intro p e s m args below meth c s₁ Bd hml0 hP hK
  obtain ⟨rfl, hZ, hh⟩ := hP
  have hx := Bd.exec
  have hby := Bd.bytes
  have hml : c.maxLocals = 6 := hml0
  have hown : s.vm.findClass "java/lang/String" = some m.cls := findClass_of_methodNamed Bd.named
  have hnm := (name_of_methodNamed Bd.named Bd.method).1
  have hlk : meth.locks = false := Bd.notSynchronized
  have X0 : Stand p l e ({ frames := 4, cells := 2, slots := 9, locals := 57 } : Room) s m #[(.ref a1), (.ref a2), (.int (0 : Int32)), (.int n), .null] below meth c s₁ [] 0 0 := Stand.of_body Bd
  have e0 : s₁.heap = h0 := by rw [← hh, Bd.state]; rfl
  have N0 := Fr.nil n0
  refine own_body (Q := fun v h L => ∃ (b : Addr) (k : ClassId), v = none ∧ Fr n0 L ∧ Keep h0 h [a1] ∧ Old Z n0 h ∧ h0.size ≤ h.size ∧ Exa Z h a1 "java/lang/String" ∧ Fld Z h a1 "java/lang/String" "value" "[B" (.ref b) ∧ Fld Z h a1 "java/lang/String" "coder" "B" (.int 0) ∧ Arv Z h b k .byte z vs (.int 0)) ?_
  refine own_go (fun _ kont => castTop (own_ef m #[(.ref a1), (.ref a2), (.int (0 : Int32)), (.int n), .null] 6 #[.val (.ref a1), .val (.ref a2), .val (.int (0 : Int32)), .val (.int n), .val .null, .unset] (own_al [(.ref a1), (.ref a2), (.int (0 : Int32)), (.int n), .null] 6 [.val (.ref a1), .val (.ref a2), .val (.int (0 : Int32)), .val (.int n), .val .null, .unset] rfl)) kont) ?_
  show own_Go _ _ _ _ (s₁.setTop (mkF m 0 #[.val (.ref a1), .val (.ref a2), .val (.int (0 : Int32)), .val (.int n), .val .null, .unset] []))
  have hs0 : h0.size ≤ h0.size := Nat.le_refl _
  have K0 : Keep h0 h0 [a1] := Keep.refl _ _
  refine own_go (fun _ => XS.aloadN X0.here hx rfl (hb hby own_d38_0) rfl rfl) ?_
  show own_Go _ _ _ _ (s₁.setTop (mkF m 1 #[.val (.ref a1), .val (.ref a2), .val (.int (0 : Int32)), .val (.int n), .val .null, .unset] [(.ref a1)]))
  obtain ⟨T1, X1, e1, st1⟩ := initO X0 hx hZ hown (hw _ (List.mem_of_getElem? (i := 29) rfl)) (hw _ (List.mem_of_getElem? (i := 30) rfl)) (hw _ (List.mem_of_getElem? (i := 31) rfl)) e0 (g := (mkF m 1 #[.val (.ref a1), .val (.ref a2), .val (.int (0 : Int32)), .val (.int n), .val .null, .unset] [(.ref a1)])) rfl (by rw [hml]; rfl) rfl (hb hby own_d38_1) (by decide) (W := 0) (by show 2 * 0 + _ ≤ _; exact Nat.le_of_eq rfl) (by decide)
  refine own_go st1 ?_
  show own_Go _ _ _ _ (T1.setTop (mkF m 4 #[.val (.ref a1), .val (.ref a2), .val (.int (0 : Int32)), .val (.int n), .val .null, .unset] []))
  refine own_go (fun _ => XS.iloadN X1.here hx rfl (hb hby own_d38_4) rfl) ?_
  show own_Go _ _ _ _ (T1.setTop (mkF m 5 #[.val (.ref a1), .val (.ref a2), .val (.int (0 : Int32)), .val (.int n), .val .null, .unset] [(.int n)]))
  refine own_go (fun _ => XS.ifYes X1.here hx rfl (pc0 := 5) (pc' := 27) rfl (hb hby own_d38_5) rfl ((if0 _ _).trans (feq hnz).2) (by decide) (by decide)) ?_
  show own_Go _ _ _ _ (T1.setTop (mkF m 27 #[.val (.ref a1), .val (.ref a2), .val (.int (0 : Int32)), .val (.int n), .val .null, .unset] []))
  obtain ⟨T2, X2, e2, st2⟩ := getS2 X1 hx hZ hown (host := "") (Or.inl (hw _ (List.mem_of_getElem? (i := 16) rfl))) Via.refl e1 (S_C.ext O.2) (g := (mkF m 27 #[.val (.ref a1), .val (.ref a2), .val (.int (0 : Int32)), .val (.int n), .val .null, .unset] [])) rfl (hb hby own_d38_27)
  refine own_go st2 ?_
  show own_Go _ _ _ _ (T2.setTop (mkF m 30 #[.val (.ref a1), .val (.ref a2), .val (.int (0 : Int32)), .val (.int n), .val .null, .unset] [(.int cs)]))
  refine own_go (fun _ => XS.ifNo X2.here hx rfl (hb hby own_d38_30) rfl ((if0 _ _).trans (feq hcs).1)) ?_
  show own_Go _ _ _ _ (T2.setTop (mkF m 33 #[.val (.ref a1), .val (.ref a2), .val (.int (0 : Int32)), .val (.int n), .val .null, .unset] []))
  refine own_go (fun _ => XS.aloadN X2.here hx rfl (hb hby own_d38_33) rfl rfl) ?_
  refine own_go (fun _ => XS.iloadN X2.here hx rfl (hb hby own_d38_34) rfl) ?_
  refine own_go (fun _ => XS.iloadN X2.here hx rfl (hb hby own_d38_35) rfl) ?_
  show own_Go _ _ _ _ (T2.setTop (mkF m 36 #[.val (.ref a1), .val (.ref a2), .val (.int (0 : Int32)), .val (.int n), .val .null, .unset] [(.int n), (.int (0 : Int32)), (.ref a2)]))
  obtain ⟨_, _, ⟨T3, L3, k3, n3⟩, -, X3, ⟨Lc3, hQ3, l3, y3, z3⟩, st3⟩ := Jvm.LawKit.callS X2 hx (y := (⟨"java/lang/StringUTF16", "compress", "([CII)[B"⟩ : MethodName)) hown (mvT hZ (hw _ (List.mem_of_getElem? (i := 188) rfl))) (mvT hZ (hw _ (List.mem_of_getElem? (i := 189) rfl))) (mvT hZ (hw _ (List.mem_of_getElem? (i := 190) rfl))) (mvT hZ (hw _ (List.mem_of_getElem? (i := 191) rfl))) (by decide) (own_back (W := 0) (hM) hZ (hw _ (List.mem_of_getElem? (i := 191) rfl)) (hw _ (List.mem_of_getElem? (i := 190) rfl)) (by decide) (by decide)) (g := (mkF m 36 #[.val (.ref a1), .val (.ref a2), .val (.int (0 : Int32)), .val (.int n), .val .null, .unset] [(.int n), (.int (0 : Int32)), (.ref a2)])) rfl (by rw [hml]; rfl) (argsL := [(.ref a2), (.int (0 : Int32)), (.int n)]) (rest := []) (lenOf own_pd2 rfl) rfl (by show 2 * 0 + _ ≤ _; exact Nat.le_of_eq rfl) (hb hby own_d38_36) (fun _ _ => ⟨rfl, e2, (by decide : 0 + 2 ≤ _), (by decide : 0 + 9 ≤ _)⟩)
  dsimp only [Pt.U, Pt.locs, Pt.cells, Pt.slots] at X3 l3 y3 z3 st3 hQ3
  replace X3 := own_cst X3 l3 y3 z3 (k2 := 2) (n2 := 9) rfl rfl
  clear l3 y3 z3
  obtain ⟨b3, kk3, rfl, Nq3, K3, O3, geb3, szq3, V3⟩ := hQ3
  have NF3 := Fr.app N0 Nq3
  refine own_go st3 ?_
  have ne_a1_b3 : a1 ≠ b3 := Nat.ne_of_lt (Nat.lt_of_lt_of_le E1.lt szq3)
  have sz_b3 : h0.size ≤ b3 := Nat.le_trans K0.1 szq3
  replace E1 := E1.keep K3
  replace Fv := Fv.keep K3 nin0
  replace Fc := Fc.keep K3 nin0
  replace Z0 := Nat.le_trans Z0 K3.1
  replace K0 := K0.trans K3 all0
  replace hs0 := Nat.le_trans hs0 K3.1
  have O := O3
  show own_Go _ _ _ _ (T3.setTop (mkF m 39 #[.val (.ref a1), .val (.ref a2), .val (.int (0 : Int32)), .val (.int n), .val .null, .unset] [(.ref b3)]))
  refine own_go (fun _ => XS.astore X3.here hx rfl (hb hby own_d38_39) rfl rfl (l' := #[.val (.ref a1), .val (.ref a2), .val (.int (0 : Int32)), .val (.int n), .val .null, .val (.ref b3)]) rfl) ?_
  refine own_go (fun _ => XS.aloadN X3.here hx rfl (hb hby own_d38_41) rfl rfl) ?_
  refine own_go (fun _ => XS.aload X3.here hx rfl (hb hby own_d38_42) rfl rfl) ?_
  refine own_go (fun _ => XS.iloadN X3.here hx rfl (hb hby own_d38_44) rfl) ?_
  show own_Go _ _ _ _ (T3.setTop (mkF m 45 #[.val (.ref a1), .val (.ref a2), .val (.int (0 : Int32)), .val (.int n), .val .null, .val (.ref b3)] [(.int n), (.ref b3), (.ref a1)]))
  obtain ⟨_, _, ⟨T4, L4, k4, n4⟩, -, X4, ⟨Lc4, hQ4, l4, y4, z4⟩, st4⟩ := Jvm.LawKit.callS X3 hx (y := (⟨"java/lang/StringUTF16", "coderFromArrayLen", "([BI)B"⟩ : MethodName)) hown (mvT hZ (hw _ (List.mem_of_getElem? (i := 195) rfl))) (mvT hZ (hw _ (List.mem_of_getElem? (i := 196) rfl))) (mvT hZ (hw _ (List.mem_of_getElem? (i := 190) rfl))) (mvT hZ (hw _ (List.mem_of_getElem? (i := 197) rfl))) (by decide) (own_back (W := 1) (own_rmA l Z a0 hw b3 kk3 n z 0 vs T3.heap n0 Z0 V3 hu) hZ (hw _ (List.mem_of_getElem? (i := 197) rfl)) (hw _ (List.mem_of_getElem? (i := 190) rfl)) (by decide) (by decide)) (g := (mkF m 45 #[.val (.ref a1), .val (.ref a2), .val (.int (0 : Int32)), .val (.int n), .val .null, .val (.ref b3)] [(.int n), (.ref b3), (.ref a1)])) rfl (by rw [hml]; rfl) (argsL := [(.ref b3), (.int n)]) (rest := [(.ref a1)]) (lenOf own_pd3 rfl) rfl (by show 2 * 0 + _ ≤ _; exact Nat.le_of_eq rfl) (hb hby own_d38_45) (fun _ _ => ⟨rfl, rfl, (by decide : 2 + 0 ≤ _), (by decide : 9 + 0 ≤ _)⟩)
  dsimp only [Pt.U, Pt.locs, Pt.cells, Pt.slots] at X4 l4 y4 z4 st4 hQ4
  replace X4 := own_cst X4 l4 y4 z4 (k2 := 2) (n2 := 9) rfl rfl
  clear l4 y4 z4
  obtain ⟨rfl, Nq4, eq4⟩ := hQ4
  have NF4 := Fr.app NF3 Nq4
  refine own_go st4 ?_
  show own_Go _ _ _ _ (T4.setTop (mkF m 48 #[.val (.ref a1), .val (.ref a2), .val (.int (0 : Int32)), .val (.int n), .val .null, .val (.ref b3)] [(.int (0 : Int32)), (.ref a1)]))
  obtain ⟨T5, h5, X5, e5, W5, st5⟩ := putFN X4 hx hZ hown (hw _ (List.mem_of_getElem? (i := 33) rfl)) Via.refl eq4 Fc E1 (Or.inr ⟨(hw _ (List.mem_of_getElem? (i := 10) rfl)), rfl, hnm⟩) (hw _ (List.mem_of_getElem? (i := 7) rfl)) (ty := .byte) (v' := (.int (0 : Int32))) (by decide) rfl rfl (g := (mkF m 48 #[.val (.ref a1), .val (.ref a2), .val (.int (0 : Int32)), .val (.int n), .val .null, .val (.ref b3)] [(.int (0 : Int32)), (.ref a1)])) rfl rfl (hb hby own_d38_48)
  refine own_go st5 ?_
  have NF5 := Fr.snoc X5 NF4 ge_a1
  replace Fc := Fc.same W5
  replace E1 := E1.wr W5
  replace Fv := Fv.other W5 (Or.inr (slot_ne (Or.inr (hw _ (List.mem_of_getElem? (i := 9) rfl))) (Or.inr (hw _ (List.mem_of_getElem? (i := 10) rfl))) (by decide) (t := (.array .byte)) (t' := .byte) (by decide) (by decide)))
  replace O := O.wr W5 ge_a1
  replace V3 := V3.other W5 (Ne.symm ne_a1_b3)
  replace Z0 := Nat.le_trans Z0 (Keep.of_wr W5).1
  replace hs0 := Nat.le_trans hs0 (Keep.of_wr W5).1
  replace K0 := K0.wr W5 (Or.inl (List.mem_of_getElem? (i := 0) rfl))
  refine own_go (fun _ => XS.aloadN X5.here hx rfl (hb hby own_d38_51) rfl rfl) ?_
  refine own_go (fun _ => XS.aload X5.here hx rfl (hb hby own_d38_52) rfl rfl) ?_
  obtain ⟨T6, h6, X6, e6, W6, st6⟩ := putF X5 hx hZ hown (host := "") (Or.inl (hw _ (List.mem_of_getElem? (i := 32) rfl))) Via.refl e5 Fv E1 (Or.inr ⟨(hw _ (List.mem_of_getElem? (i := 9) rfl)), rfl, hnm⟩) (hw _ (List.mem_of_getElem? (i := 7) rfl)) (ty := (.array .byte)) (by decide) rfl rfl (g := (mkF m 54 #[.val (.ref a1), .val (.ref a2), .val (.int (0 : Int32)), .val (.int n), .val .null, .val (.ref b3)] [(.ref b3), (.ref a1)])) rfl rfl (hb hby own_d38_54)
  refine own_go st6 ?_
  have NF6 := Fr.snoc X6 NF5 ge_a1
  replace Fv := Fv.same W6
  replace E1 := E1.wr W6
  replace Fc := Fc.other W6 (Or.inr (slot_ne (Or.inr (hw _ (List.mem_of_getElem? (i := 10) rfl))) (Or.inr (hw _ (List.mem_of_getElem? (i := 9) rfl))) (by decide) (t := .byte) (t' := (.array .byte)) (by decide) (by decide)))
  replace O := O.wr W6 ge_a1
  replace V3 := V3.other W6 (Ne.symm ne_a1_b3)
  replace Z0 := Nat.le_trans Z0 (Keep.of_wr W6).1
  replace hs0 := Nat.le_trans hs0 (Keep.of_wr W6).1
  replace K0 := K0.wr W6 (Or.inl (List.mem_of_getElem? (i := 0) rfl))
  show own_Go _ _ _ _ (T6.setTop (mkF m 57 #[.val (.ref a1), .val (.ref a2), .val (.int (0 : Int32)), .val (.int n), .val .null, .val (.ref b3)] []))
  refine own_ret X6 hlk (v := none) (fun _ => rfl) (fun fs hr => X6.returnOut hx Bd.returns (hb hby own_d38_57) hr) ?_ (by decide) (by decide)
  try rw [e6]
  exact ⟨b3, kk3, rfl, NF6, K0, O, hs0, E1, Fv, Fc, V3⟩
theorem own_d37_0 : decode jdk_42_method_3_code 0 = .ok (.aload_n 0, 1) := by decide +kernel
theorem own_d37_1 : decode jdk_42_method_3_code 1 = .ok (.aload_n 1, 1) := by decide +kernel
theorem own_d37_2 : decode jdk_42_method_3_code 2 = .ok (.iconst 0, 1) := by decide +kernel
theorem own_d37_3 : decode jdk_42_method_3_code 3 = .ok (.aload_n 1, 1) := by decide +kernel
theorem own_d37_4 : decode jdk_42_method_3_code 4 = .ok (.arraylength, 1) := by decide +kernel
theorem own_d37_5 : decode jdk_42_method_3_code 5 = .ok (.aconst_null, 1) := by decide +kernel
theorem own_d37_6 : decode jdk_42_method_3_code 6 = .ok (.invokespecial 27, 3) := by decide +kernel
theorem own_pd4 : parseMethodDescriptor "([CIILjava/lang/Void;)V" = some ⟨[(.array .char), .int, .int, (.object "java/lang/Void")], none⟩ := by decide +kernel
theorem own_d37_9 : decode jdk_42_method_3_code 9 = .ok (.return_, 1) := by decide +kernel
set_option maxRecDepth 65536 in
set_option maxHeartbeats 40000000 in
theorem own_rmIL (l : Launch) (Z : State) (a0 : Array Value) (hw : ∀ d ∈ tables_1, d.before a0 Z = true) (a1 : Addr) (a2 : Addr) (kc : ClassId) (cs : Int32) (n : Int32) (z : Int32) (vs : List Value) (xs : List Value) (h0 : Heap) (n0 : Nat) (Z0 : n0 ≤ h0.size) (E1 : Exa Z h0 a1 "java/lang/String") (Fv : Fld Z h0 a1 "java/lang/String" "value" "[B" .null) (Fc : Fld Z h0 a1 "java/lang/String" "coder" "B" (.int 0)) (Vc : Arv Z h0 a2 kc .char n xs (.int 0)) (O : Old Z n0 h0) (S_C : Sta Z Z.heap "java/lang/String" "COMPACT_STRINGS" "Z" (.int cs)) (hcs : ¬ cs = (0 : Int32)) (ge_a1 : n0 ≤ a1) (hnz : ¬ n = (0 : Int32)) (hu : nar .byte ((((n - z).toUInt32 >>> ((31 : Int32) &&& 31).toUInt32).toInt32).toInt8.toInt32) = 0) (hM : own_Met l Z [] (⟨"java/lang/StringUTF16", "compress", "([CII)[B"⟩ : MethodName) jdk_52_method_16_code 6 (some (.array .byte)) ({ frames := 3, cells := 2, slots := 9, locals := 40 } : Room) #[(.ref a2), (.int (0 : Int32)), (.int n)] h0 (fun v h L => ∃ (b : Addr) (k : ClassId), v = some (.ref b) ∧ Fr n0 L ∧ Keep h0 h [] ∧ Old Z n0 h ∧ n0 ≤ b ∧ h0.size ≤ b ∧ Arv Z h b k .byte z vs (.int 0))) :
    own_Met l Z [] (⟨"java/lang/String", "<init>", "([C)V"⟩ : MethodName) jdk_42_method_3_code 2 none ({ frames := 5, cells := 2, slots := 9, locals := 74 } : Room) #[(.ref a1), (.ref a2)] h0 (fun v h L => ∃ (b : Addr) (k : ClassId), v = none ∧ Fr n0 L ∧ Keep h0 h [a1] ∧ Old Z n0 h ∧ h0.size ≤ h.size ∧ Exa Z h a1 "java/lang/String" ∧ Fld Z h a1 "java/lang/String" "value" "[B" (.ref b) ∧ Fld Z h a1 "java/lang/String" "coder" "B" (.int 0) ∧ Arv Z h b k .byte z vs (.int 0)) := by
  refine MetFree.of_bodySF (plainFor_of_name own_pn1) hisR ?_
  intro p e s m args below meth c s₁ Bd hml0 hP hK
  obtain ⟨rfl, hZ, hh⟩ := hP
  have hx := Bd.exec
  have hby := Bd.bytes
  have hml : c.maxLocals = 2 := hml0
  have hown : s.vm.findClass "java/lang/String" = some m.cls := findClass_of_methodNamed Bd.named
  have hnm := (name_of_methodNamed Bd.named Bd.method).1
  have hlk : meth.locks = false := Bd.notSynchronized
  have X0 : Stand p l e ({ frames := 5, cells := 2, slots := 9, locals := 74 } : Room) s m #[(.ref a1), (.ref a2)] below meth c s₁ [] 0 0 := Stand.of_body Bd
  have e0 : s₁.heap = h0 := by rw [← hh, Bd.state]; rfl
  have N0 := Fr.nil n0
  refine own_body (Q := fun v h L => ∃ (b : Addr) (k : ClassId), v = none ∧ Fr n0 L ∧ Keep h0 h [a1] ∧ Old Z n0 h ∧ h0.size ≤ h.size ∧ Exa Z h a1 "java/lang/String" ∧ Fld Z h a1 "java/lang/String" "value" "[B" (.ref b) ∧ Fld Z h a1 "java/lang/String" "coder" "B" (.int 0) ∧ Arv Z h b k .byte z vs (.int 0)) ?_
  refine own_go (fun _ kont => castTop (own_ef m #[(.ref a1), (.ref a2)] 2 #[.val (.ref a1), .val (.ref a2)] (own_al [(.ref a1), (.ref a2)] 2 [.val (.ref a1), .val (.ref a2)] rfl)) kont) ?_
  show own_Go _ _ _ _ (s₁.setTop (mkF m 0 #[.val (.ref a1), .val (.ref a2)] []))
  refine own_go (fun _ => XS.aloadN X0.here hx rfl (hb hby own_d37_0) rfl rfl) ?_
  refine own_go (fun _ => XS.aloadN X0.here hx rfl (hb hby own_d37_1) rfl rfl) ?_
  refine own_go (fun _ => XS.iconst X0.here hx rfl (hb hby own_d37_2)) ?_
  refine own_go (fun _ => XS.aloadN X0.here hx rfl (hb hby own_d37_3) rfl rfl) ?_
  show own_Go _ _ _ _ (s₁.setTop (mkF m 4 #[.val (.ref a1), .val (.ref a2)] [(.ref a2), (.int (0 : Int32)), (.ref a2), (.ref a1)]))
  obtain ⟨cl1, Ar1, -, Sz1, Ng1, -, -⟩ := id Vc
  refine own_go (X0.arraylength hx (own_hp e0 Ar1.1) (State.isArrayOf_alike hZ.alike Ar1.2.1) (g := (mkF m 4 #[.val (.ref a1), .val (.ref a2)] [(.ref a2), (.int (0 : Int32)), (.ref a2), (.ref a1)])) rfl rfl (hb hby own_d37_4)) ?_
  rw [len_of Sz1 Ng1]
  refine own_go (fun _ => XS.aconstNull X0.here hx rfl (hb hby own_d37_5)) ?_
  show own_Go _ _ _ _ (s₁.setTop (mkF m 6 #[.val (.ref a1), .val (.ref a2)] [.null, (.int n), (.int (0 : Int32)), (.ref a2), (.ref a1)]))
  obtain ⟨_, _, ⟨T2, L2, k2, n2⟩, -, X2, ⟨Lc2, hQ2, l2, y2, z2⟩, st2⟩ := X0.specialBack hx (y := (⟨"java/lang/String", "<init>", "([CIILjava/lang/Void;)V"⟩ : MethodName)) rfl hown (mvT hZ (hw _ (List.mem_of_getElem? (i := 185) rfl))) (mvT hZ (hw _ (List.mem_of_getElem? (i := 186) rfl))) (mvT hZ (hw _ (List.mem_of_getElem? (i := 187) rfl))) (by decide) (own_back (W := 0) (own_rmJL l Z a0 hw a1 a2 cs n z vs h0 n0 Z0 E1 Fv Fc O S_C hcs ge_a1 hnz hu hM) hZ (hw _ (List.mem_of_getElem? (i := 187) rfl)) (hw _ (List.mem_of_getElem? (i := 6) rfl)) (by decide) (by decide)) (g := (mkF m 6 #[.val (.ref a1), .val (.ref a2)] [.null, (.int n), (.int (0 : Int32)), (.ref a2), (.ref a1)])) rfl (by rw [hml]; rfl) (Steps.refl _) (a := a1) (argsL := [(.ref a2), (.int (0 : Int32)), (.int n), .null]) (rest := []) (lenOf own_pd4 rfl) rfl (by show 2 * 0 + _ ≤ _; exact Nat.le_of_eq rfl) (hb hby own_d37_6) (fun _ _ => ⟨rfl, e0, (by decide : 0 + 2 ≤ _), (by decide : 0 + 9 ≤ _)⟩)
  dsimp only [Pt.U, Pt.locs, Pt.cells, Pt.slots] at X2 l2 y2 z2 st2 hQ2
  replace X2 := own_cst X2 l2 y2 z2 (k2 := 2) (n2 := 9) rfl rfl
  clear l2 y2 z2
  obtain ⟨b2, kk2, rfl, Nq2, K2, O2, hs2, E2, Fv2, Fc2, V2⟩ := hQ2
  have NF2 := Fr.app N0 Nq2
  refine own_goT st2 ?_
  show own_Go _ _ _ _ (T2.setTop (mkF m 9 #[.val (.ref a1), .val (.ref a2)] []))
  refine own_ret X2 hlk (v := none) (fun _ => rfl) (fun fs hr => X2.returnOut hx Bd.returns (hb hby own_d37_9) hr) ?_ (by decide) (by decide)
  skip
  exact ⟨b2, kk2, rfl, NF2, K2, O2, hs2, E2, Fv2, Fc2, V2⟩
set_option maxRecDepth 65536 in
set_option maxHeartbeats 40000000 in
theorem own_rmeZ (l : Launch) (Z : State) (a0 : Array Value) (hw : ∀ d ∈ tables_1, d.before a0 Z = true) (a1 : Addr) (b : Addr) (k : ClassId) (z : Int32) (vs : List Value) (h0 : Heap) (n0 : Nat) (Z0 : n0 ≤ h0.size) (Fv : Fld Z h0 a1 "java/lang/String" "value" "[B" (.ref b)) (V : Arv Z h0 b k .byte z vs (.int 0)) (hz : z = (0 : Int32)) :
    own_Met l Z [] (⟨"java/lang/String", "isEmpty", "()Z"⟩ : MethodName) jdk_42_method_55_code 1 (some .boolean) ({ frames := 0, cells := 0, slots := 0, locals := 0 } : Room) #[(.ref a1)] h0 (fun v h L => v = some (.int 1) ∧ Fr n0 L ∧ h = h0) := by
  refine MetFree.of_bodySF (plainFor_of_name own_pn1) hisR ?_
  intro p e s m args below meth c s₁ Bd hml0 hP hK
  obtain ⟨rfl, hZ, hh⟩ := hP
  have hx := Bd.exec
  have hby := Bd.bytes
  have hml : c.maxLocals = 1 := hml0
  have hown : s.vm.findClass "java/lang/String" = some m.cls := findClass_of_methodNamed Bd.named
  have hnm := (name_of_methodNamed Bd.named Bd.method).1
  have hlk : meth.locks = false := Bd.notSynchronized
  have X0 : Stand p l e ({ frames := 0, cells := 0, slots := 0, locals := 0 } : Room) s m #[(.ref a1)] below meth c s₁ [] 0 0 := Stand.of_body Bd
  have e0 : s₁.heap = h0 := by rw [← hh, Bd.state]; rfl
  have N0 := Fr.nil n0
  refine own_body (Q := fun v h L => v = some (.int 1) ∧ Fr n0 L ∧ h = h0) ?_
  refine own_go (fun _ kont => castTop (own_ef m #[(.ref a1)] 1 #[.val (.ref a1)] (own_al [(.ref a1)] 1 [.val (.ref a1)] rfl)) kont) ?_
  show own_Go _ _ _ _ (s₁.setTop (mkF m 0 #[.val (.ref a1)] []))
  refine own_go (fun _ => XS.aloadN X0.here hx rfl (hb hby own_d17_0) rfl rfl) ?_
  obtain ⟨T1, X1, e1, st1⟩ := getF X0 hx hZ hown (host := "") (Or.inl (hw _ (List.mem_of_getElem? (i := 32) rfl))) Via.refl e0 Fv (g := (mkF m 1 #[.val (.ref a1)] [(.ref a1)])) rfl rfl (hb hby own_d17_1)
  refine own_go st1 ?_
  obtain ⟨cl2, Ar2, -, Sz2, Ng2, -, -⟩ := id V
  refine own_go (X1.arraylength hx (own_hp e1 Ar2.1) (State.isArrayOf_alike hZ.alike Ar2.2.1) (g := (mkF m 4 #[.val (.ref a1)] [(.ref b)])) rfl rfl (hb hby own_d17_4)) ?_
  rw [len_of Sz2 Ng2]
  show own_Go _ _ _ _ (T1.setTop (mkF m 5 #[.val (.ref a1)] [(.int z)]))
  refine own_go (fun _ => XS.ifNo X1.here hx rfl (hb hby own_d17_5) rfl ((if0 _ _).trans (teq hz).2)) ?_
  show own_Go _ _ _ _ (T1.setTop (mkF m 8 #[.val (.ref a1)] []))
  refine own_go (fun _ => XS.iconst X1.here hx rfl (hb hby own_d17_8)) ?_
  refine own_go (fun _ => XS.goto X1.here hx rfl (pc0 := 9) (pc' := 13) rfl (hb hby own_d17_9) (by decide) (by decide)) ?_
  show own_Go _ _ _ _ (T1.setTop (mkF m 13 #[.val (.ref a1)] [(.int (1 : Int32))]))
  refine own_ret X1 hlk (v := some (.int (1 : Int32))) (fun h => by rw [Bd.returns] at h; cases h) (fun fs hr => retN X1 hx (t := .boolean) Bd.returns (by simp) (hb hby own_d17_13) hr) ?_ (by decide) (by decide)
  try rw [e1]
  exact ⟨rfl, N0, rfl⟩
theorem own_d16_0 : decode jdk_29_method_69_code 0 = .ok (.iload_n 0, 1) := by decide +kernel
theorem own_d16_1 : decode jdk_29_method_69_code 1 = .ok (.iload_n 1, 1) := by decide +kernel
theorem own_d16_2 : decode jdk_29_method_69_code 2 = .ok (.if_icmp .gt 7, 3) := by decide +kernel
theorem own_d16_9 : decode jdk_29_method_69_code 9 = .ok (.iload_n 1, 1) := by decide +kernel
theorem own_d16_10 : decode jdk_29_method_69_code 10 = .ok (.ireturn, 1) := by decide +kernel
theorem own_d16_5 : decode jdk_29_method_69_code 5 = .ok (.iload_n 0, 1) := by decide +kernel
theorem own_d16_6 : decode jdk_29_method_69_code 6 = .ok (.goto 4, 3) := by decide +kernel
set_option maxRecDepth 65536 in
set_option maxHeartbeats 40000000 in
theorem own_rmMn (l : Launch) (Z : State) (a0 : Array Value) (hw : ∀ d ∈ tables_1, d.before a0 Z = true) (mx : Int32) (my : Int32) (h0 : Heap) (n0 : Nat) (Z0 : n0 ≤ h0.size) (hxy : my.toInt ≤ mx.toInt) :
    own_Met l Z [] (⟨"java/lang/Math", "min", "(II)I"⟩ : MethodName) jdk_29_method_69_code 2 (some .int) ({ frames := 0, cells := 0, slots := 0, locals := 0 } : Room) #[(.int mx), (.int my)] h0 (fun v h L => v = some (.int my) ∧ Fr n0 L ∧ h = h0) := by
  refine MetFree.of_bodySF (Jvm.Free.JP.mathPlain rfl (by decide +kernel)) hisR ?_
  intro p e s m args below meth c s₁ Bd hml0 hP hK
  obtain ⟨rfl, hZ, hh⟩ := hP
  have hx := Bd.exec
  have hby := Bd.bytes
  have hml : c.maxLocals = 2 := hml0
  have hown : s.vm.findClass "java/lang/Math" = some m.cls := findClass_of_methodNamed Bd.named
  have hnm := (name_of_methodNamed Bd.named Bd.method).1
  have hlk : meth.locks = false := Bd.notSynchronized
  have X0 : Stand p l e ({ frames := 0, cells := 0, slots := 0, locals := 0 } : Room) s m #[(.int mx), (.int my)] below meth c s₁ [] 0 0 := Stand.of_body Bd
  have e0 : s₁.heap = h0 := by rw [← hh, Bd.state]; rfl
  have N0 := Fr.nil n0
  refine own_body (Q := fun v h L => v = some (.int my) ∧ Fr n0 L ∧ h = h0) ?_
  refine own_go (fun _ kont => castTop (own_ef m #[(.int mx), (.int my)] 2 #[.val (.int mx), .val (.int my)] (own_al [(.int mx), (.int my)] 2 [.val (.int mx), .val (.int my)] rfl)) kont) ?_
  show own_Go _ _ _ _ (s₁.setTop (mkF m 0 #[.val (.int mx), .val (.int my)] []))
  refine own_go (fun _ => XS.iloadN X0.here hx rfl (hb hby own_d16_0) rfl) ?_
  refine own_go (fun _ => XS.iloadN X0.here hx rfl (hb hby own_d16_1) rfl) ?_
  show own_Go _ _ _ _ (s₁.setTop (mkF m 2 #[.val (.int mx), .val (.int my)] [(.int my), (.int mx)]))
  by_cases hq : my < mx
  · have _h := hq
    refine own_go (fun _ => XS.icmpYes X0.here hx rfl (pc0 := 2) (pc' := 9) rfl (hb hby own_d16_2) rfl (tlt hq).2.2.1 (by decide) (by decide)) ?_
    show own_Go _ _ _ _ (s₁.setTop (mkF m 9 #[.val (.int mx), .val (.int my)] []))
    refine own_go (fun _ => XS.iloadN X0.here hx rfl (hb hby own_d16_9) rfl) ?_
    show own_Go _ _ _ _ (s₁.setTop (mkF m 10 #[.val (.int mx), .val (.int my)] [(.int my)]))
    refine own_ret X0 hlk (v := some (.int my)) (fun h => by rw [Bd.returns] at h; cases h) (fun fs hr => retOut X0 hx Bd.returns rfl (Or.inl ⟨rfl, Or.inl rfl, _, rfl⟩) (hb hby own_d16_10) hr) ?_ (by decide) (by decide)
    try rw [e0]
    exact ⟨rfl, N0, rfl⟩
  · have _h := hq
    refine own_go (fun _ => XS.icmpNo X0.here hx rfl (hb hby own_d16_2) rfl (flt hq).2.2.1) ?_
    show own_Go _ _ _ _ (s₁.setTop (mkF m 5 #[.val (.int mx), .val (.int my)] []))
    refine own_go (fun _ => XS.iloadN X0.here hx rfl (hb hby own_d16_5) rfl) ?_
    refine own_go (fun _ => XS.goto X0.here hx rfl (pc0 := 6) (pc' := 10) rfl (hb hby own_d16_6) (by decide) (by decide)) ?_
    show own_Go _ _ _ _ (s₁.setTop (mkF m 10 #[.val (.int mx), .val (.int my)] [(.int mx)]))
    refine own_ret X0 hlk (v := some (.int mx)) (fun h => by rw [Bd.returns] at h; cases h) (fun fs hr => retOut X0 hx Bd.returns rfl (Or.inl ⟨rfl, Or.inl rfl, _, rfl⟩) (hb hby own_d16_10) hr) ?_ (by decide) (by decide)
    try rw [e0]
    exact ⟨by rw [own_eqI hxy hq], N0, rfl⟩
theorem own_d42_0 : decode jdk_43_method_23_code 0 = .ok (.iload_n 1, 1) := by decide +kernel
theorem own_d42_1 : decode jdk_43_method_23_code 1 = .ok (.i2b, 1) := by decide +kernel
theorem own_d42_2 : decode jdk_43_method_23_code 2 = .ok (.istore 4, 2) := by decide +kernel
theorem own_d42_4 : decode jdk_43_method_23_code 4 = .ok (.iload_n 2, 1) := by decide +kernel
theorem own_d42_5 : decode jdk_43_method_23_code 5 = .ok (.istore 5, 2) := by decide +kernel
theorem own_d42_7 : decode jdk_43_method_23_code 7 = .ok (.iload 5, 2) := by decide +kernel
theorem own_d42_9 : decode jdk_43_method_23_code 9 = .ok (.iload_n 3, 1) := by decide +kernel
theorem own_d42_10 : decode jdk_43_method_23_code 10 = .ok (.if_icmp .ge 21, 3) := by decide +kernel
theorem own_d42_31 : decode jdk_43_method_23_code 31 = .ok (.iconst (-1), 1) := by decide +kernel
theorem own_d42_32 : decode jdk_43_method_23_code 32 = .ok (.ireturn, 1) := by decide +kernel
theorem own_d42_13 : decode jdk_43_method_23_code 13 = .ok (.aload_n 0, 1) := by decide +kernel
theorem own_d42_14 : decode jdk_43_method_23_code 14 = .ok (.iload 5, 2) := by decide +kernel
theorem own_d42_16 : decode jdk_43_method_23_code 16 = .ok (.baload, 1) := by decide +kernel
theorem own_d42_17 : decode jdk_43_method_23_code 17 = .ok (.iload 4, 2) := by decide +kernel
theorem own_d42_19 : decode jdk_43_method_23_code 19 = .ok (.if_icmp .ne 6, 3) := by decide +kernel
theorem own_d42_22 : decode jdk_43_method_23_code 22 = .ok (.iload 5, 2) := by decide +kernel
theorem own_d42_24 : decode jdk_43_method_23_code 24 = .ok (.ireturn, 1) := by decide +kernel
theorem own_d42_25 : decode jdk_43_method_23_code 25 = .ok (.iinc 5 1, 3) := by decide +kernel
theorem own_d42_28 : decode jdk_43_method_23_code 28 = .ok (.goto (-21), 3) := by decide +kernel
set_option maxRecDepth 65536 in
set_option maxHeartbeats 40000000 in
theorem own_rmXG (l : Launch) (Z : State) (a0 : Array Value) (hw : ∀ d ∈ tables_1, d.before a0 Z = true) (b : Addr) (k : ClassId) (ch : Int32) (chb : Int32) (z : Int32) (vs : List Value) (h0 : Heap) (n0 : Nat) (Z0 : n0 ≤ h0.size) (V : Arv Z h0 b k .byte z vs (.int 0)) (c3 : ch.toInt8.toInt32 = chb) :
    own_Met l Z [] (⟨"java/lang/StringLatin1", "indexOfChar", "([BIII)I"⟩ : MethodName) jdk_43_method_23_code 6 (some .int) ({ frames := 0, cells := 0, slots := 0, locals := 0 } : Room) #[(.ref b), (.int ch), (.int (0 : Int32)), (.int z)] h0 (fun v h L => ∃ r : Int32, v = some (.int r) ∧ Fr n0 L ∧ h = h0 ∧ own_ix z vs chb r) := by
  refine MetFree.of_bodySF (plainFor_of_name own_pn0) hisR ?_
  intro p e s m args below meth c s₁ Bd hml0 hP hK
  obtain ⟨rfl, hZ, hh⟩ := hP
  have hx := Bd.exec
  have hby := Bd.bytes
  have hml : c.maxLocals = 6 := hml0
  have hown : s.vm.findClass "java/lang/StringLatin1" = some m.cls := findClass_of_methodNamed Bd.named
  have hnm := (name_of_methodNamed Bd.named Bd.method).1
  have hlk : meth.locks = false := Bd.notSynchronized
  have X0 : Stand p l e ({ frames := 0, cells := 0, slots := 0, locals := 0 } : Room) s m #[(.ref b), (.int ch), (.int (0 : Int32)), (.int z)] below meth c s₁ [] 0 0 := Stand.of_body Bd
  have e0 : s₁.heap = h0 := by rw [← hh, Bd.state]; rfl
  have N0 := Fr.nil n0
  refine own_body (Q := fun v h L => ∃ r : Int32, v = some (.int r) ∧ Fr n0 L ∧ h = h0 ∧ own_ix z vs chb r) ?_
  refine own_go (fun _ kont => castTop (own_ef m #[(.ref b), (.int ch), (.int (0 : Int32)), (.int z)] 6 #[.val (.ref b), .val (.int ch), .val (.int (0 : Int32)), .val (.int z), .unset, .unset] (own_al [(.ref b), (.int ch), (.int (0 : Int32)), (.int z)] 6 [.val (.ref b), .val (.int ch), .val (.int (0 : Int32)), .val (.int z), .unset, .unset] rfl)) kont) ?_
  show own_Go _ _ _ _ (s₁.setTop (mkF m 0 #[.val (.ref b), .val (.int ch), .val (.int (0 : Int32)), .val (.int z), .unset, .unset] []))
  have hz0 := own_vz V
  refine own_go (fun _ => XS.iloadN X0.here hx rfl (hb hby own_d42_0) rfl) ?_
  refine own_go (fun _ => XS.i2b X0.here hx rfl (hb hby own_d42_1) rfl) ?_
  show own_Go _ _ _ _ (s₁.setTop (mkF m 2 #[.val (.ref b), .val (.int ch), .val (.int (0 : Int32)), .val (.int z), .unset, .unset] [(.int (ch.toInt8.toInt32))]))
  rw [c3]
  show own_Go _ _ _ _ (s₁.setTop (mkF m 2 #[.val (.ref b), .val (.int ch), .val (.int (0 : Int32)), .val (.int z), .unset, .unset] [(.int chb)]))
  refine own_go (fun _ => XS.istore X0.here hx rfl (hb hby own_d42_2) rfl (l' := #[.val (.ref b), .val (.int ch), .val (.int (0 : Int32)), .val (.int z), .val (.int chb), .unset]) rfl) ?_
  refine own_go (fun _ => XS.iloadN X0.here hx rfl (hb hby own_d42_4) rfl) ?_
  refine own_go (fun _ => XS.istore X0.here hx rfl (hb hby own_d42_5) rfl (l' := #[.val (.ref b), .val (.int ch), .val (.int (0 : Int32)), .val (.int z), .val (.int chb), .val (.int (0 : Int32))]) rfl) ?_
  show own_Go _ _ _ _ (s₁.setTop (mkF m 7 #[.val (.ref b), .val (.int ch), .val (.int (0 : Int32)), .val (.int z), .val (.int chb), .val (.int (0 : Int32))] []))
  have loop : ∀ (q : Nat) (i : Int32) (T : State) (L : List Loc) (X : Stand p l e ({ frames := 0, cells := 0, slots := 0, locals := 0 } : Room) s m #[(.ref b), (.int ch), (.int (0 : Int32)), (.int z)] below meth c T L 0 0) (N : Fr n0 L) (eT : T.heap = h0) (i1 : 0 ≤ i.toInt) (ik : i.toInt + q = z.toInt), own_Go p.tables e below (own_End s below (fun v h L => ∃ r : Int32, v = some (.int r) ∧ Fr n0 L ∧ h = h0 ∧ own_ix z vs chb r) ({ frames := 0, cells := 0, slots := 0, locals := 0 } : Room).cells ({ frames := 0, cells := 0, slots := 0, locals := 0 } : Room).slots) (T.setTop (mkF m 7 #[.val (.ref b), .val (.int ch), .val (.int (0 : Int32)), .val (.int z), .val (.int chb), .val (.int i)] [])) := by
    intro q
    induction q with
    | zero =>
      intro i T L X N eT i1 ik
      show own_Go _ _ _ _ (T.setTop (mkF m 7 #[.val (.ref b), .val (.int ch), .val (.int (0 : Int32)), .val (.int z), .val (.int chb), .val (.int i)] []))
      refine own_go (fun _ => XS.iload X.here hx rfl (hb hby own_d42_7) rfl) ?_
      refine own_go (fun _ => XS.iloadN X.here hx rfl (hb hby own_d42_9) rfl) ?_
      show own_Go _ _ _ _ (T.setTop (mkF m 10 #[.val (.ref b), .val (.int ch), .val (.int (0 : Int32)), .val (.int z), .val (.int chb), .val (.int i)] [(.int z), (.int i)]))
      refine own_go (fun _ => XS.icmpYes X.here hx rfl (pc0 := 10) (pc' := 31) rfl (hb hby own_d42_10) rfl (flt (own_nl (by omega))).2.1 (by decide) (by decide)) ?_
      show own_Go _ _ _ _ (T.setTop (mkF m 31 #[.val (.ref b), .val (.int ch), .val (.int (0 : Int32)), .val (.int z), .val (.int chb), .val (.int i)] []))
      refine own_go (fun _ => XS.iconst X.here hx rfl (hb hby own_d42_31)) ?_
      show own_Go _ _ _ _ (T.setTop (mkF m 32 #[.val (.ref b), .val (.int ch), .val (.int (0 : Int32)), .val (.int z), .val (.int chb), .val (.int i)] [(.int (-1 : Int32))]))
      refine own_ret X hlk (v := some (.int (-1 : Int32))) (fun h => by rw [Bd.returns] at h; cases h) (fun fs hr => retOut X hx Bd.returns rfl (Or.inl ⟨rfl, Or.inl rfl, _, rfl⟩) (hb hby own_d42_32) hr) ?_ (by decide) (by decide)
      try rw [eT]
      exact ⟨_, rfl, N, rfl, own_ixm hz0⟩
    | succ q ih =>
      intro i T L X N eT i1 ik
      show own_Go _ _ _ _ (T.setTop (mkF m 7 #[.val (.ref b), .val (.int ch), .val (.int (0 : Int32)), .val (.int z), .val (.int chb), .val (.int i)] []))
      refine own_go (fun _ => XS.iload X.here hx rfl (hb hby own_d42_7) rfl) ?_
      refine own_go (fun _ => XS.iloadN X.here hx rfl (hb hby own_d42_9) rfl) ?_
      show own_Go _ _ _ _ (T.setTop (mkF m 10 #[.val (.ref b), .val (.int ch), .val (.int (0 : Int32)), .val (.int z), .val (.int chb), .val (.int i)] [(.int z), (.int i)]))
      refine own_go (fun _ => XS.icmpNo X.here hx rfl (hb hby own_d42_10) rfl (tlt (own_lt (by omega))).2.1) ?_
      show own_Go _ _ _ _ (T.setTop (mkF m 13 #[.val (.ref b), .val (.int ch), .val (.int (0 : Int32)), .val (.int z), .val (.int chb), .val (.int i)] []))
      refine own_go (fun _ => XS.aloadN X.here hx rfl (hb hby own_d42_13) rfl rfl) ?_
      refine own_go (fun _ => XS.iload X.here hx rfl (hb hby own_d42_14) rfl) ?_
      show own_Go _ _ _ _ (T.setTop (mkF m 16 #[.val (.ref b), .val (.int ch), .val (.int (0 : Int32)), .val (.int z), .val (.int chb), .val (.int i)] [(.int i), (.ref b)]))
      obtain ⟨yv, hyv⟩ := own_gv V (i := i) (by omega) (by omega)
      obtain ⟨cl1, Ar1, q1, Sz1, Ng1, Hs1, Gs1⟩ := id V
      have hin1 : ¬ (i < 0 ∨ cl1.slots.size ≤ (i).toNatClampNeg) := inb_of Sz1 (own_inb (by omega) (by omega))
      have hat1 : cl1.slots[(i).toNatClampNeg]? = some (.int yv) := Hs1.at hin1 hyv
      refine own_go (X.baloadBytes hx (j := i) (v := (.int yv)) (own_hp eT Ar1.1) (State.isArrayOf_alike hZ.alike Ar1.2.1) Ar1.2.2 hin1 hat1 (g := (mkF m 16 #[.val (.ref b), .val (.int ch), .val (.int (0 : Int32)), .val (.int z), .val (.int chb), .val (.int i)] [(.int i), (.ref b)])) rfl rfl (hb hby own_d42_16)) ?_
      show own_Go _ _ _ _ (T.setTop (mkF m 17 #[.val (.ref b), .val (.int ch), .val (.int (0 : Int32)), .val (.int z), .val (.int chb), .val (.int i)] [(.int yv)]))
      refine own_go (fun _ => XS.iload X.here hx rfl (hb hby own_d42_17) rfl) ?_
      show own_Go _ _ _ _ (T.setTop (mkF m 19 #[.val (.ref b), .val (.int ch), .val (.int (0 : Int32)), .val (.int z), .val (.int chb), .val (.int i)] [(.int chb), (.int yv)]))
      by_cases hy : yv = chb
      · have _h := hy
        refine own_go (fun _ => XS.icmpNo X.here hx rfl (hb hby own_d42_19) rfl (teq hy).2) ?_
        show own_Go _ _ _ _ (T.setTop (mkF m 22 #[.val (.ref b), .val (.int ch), .val (.int (0 : Int32)), .val (.int z), .val (.int chb), .val (.int i)] []))
        refine own_go (fun _ => XS.iload X.here hx rfl (hb hby own_d42_22) rfl) ?_
        show own_Go _ _ _ _ (T.setTop (mkF m 24 #[.val (.ref b), .val (.int ch), .val (.int (0 : Int32)), .val (.int z), .val (.int chb), .val (.int i)] [(.int i)]))
        refine own_ret X hlk (v := some (.int i)) (fun h => by rw [Bd.returns] at h; cases h) (fun fs hr => retOut X hx Bd.returns rfl (Or.inl ⟨rfl, Or.inl rfl, _, rfl⟩) (hb hby own_d42_24) hr) ?_ (by decide) (by decide)
        try rw [eT]
        exact ⟨_, rfl, N, rfl, by omega, by omega, fun _ => hyv.trans (congrArg Value.int hy)⟩
      · have _h := hy
        refine own_go (fun _ => XS.icmpYes X.here hx rfl (pc0 := 19) (pc' := 25) rfl (hb hby own_d42_19) rfl (feq hy).2 (by decide) (by decide)) ?_
        show own_Go _ _ _ _ (T.setTop (mkF m 25 #[.val (.ref b), .val (.int ch), .val (.int (0 : Int32)), .val (.int z), .val (.int chb), .val (.int i)] []))
        refine own_go (fun _ => XS.iinc X.here hx rfl (hb hby own_d42_25) rfl (l' := #[.val (.ref b), .val (.int ch), .val (.int (0 : Int32)), .val (.int z), .val (.int chb), .val (.int (i + (1 : Int32)))]) rfl) ?_
        refine own_go (fun _ => XS.goto X.here hx rfl (pc0 := 28) (pc' := 7) rfl (hb hby own_d42_28) (by decide) (by decide)) ?_
        show own_Go _ _ _ _ (T.setTop (mkF m 7 #[.val (.ref b), .val (.int ch), .val (.int (0 : Int32)), .val (.int z), .val (.int chb), .val (.int (i + (1 : Int32)))] []))
        exact ih (i + (1 : Int32)) _ _ X N eT (by have := c_iadd i 1; have := rng32 (i + 1); have := rng32 z; have e1 : (1 : Int32).toInt = 1 := rfl; omega) (by have := c_iadd i 1; have := rng32 (i + 1); have := rng32 z; have e1 : (1 : Int32).toInt = 1 := rfl; omega)
  exact loop z.toInt.toNat (0 : Int32) _ _ X0 N0 e0 (by decide) (by have e0 : (0 : Int32).toInt = 0 := rfl; omega)
theorem own_d13_0 : decode jdk_43_method_22_code 0 = .ok (.iload_n 1, 1) := by decide +kernel
theorem own_d13_1 : decode jdk_43_method_22_code 1 = .ok (.invokestatic 88, 3) := by decide +kernel
theorem own_pd5 : parseMethodDescriptor "(I)Z" = some ⟨[.int], some .boolean⟩ := by decide +kernel
theorem own_d13_4 : decode jdk_43_method_22_code 4 = .ok (.ifCond .ne 5, 3) := by decide +kernel
theorem own_d13_9 : decode jdk_43_method_22_code 9 = .ok (.iload_n 2, 1) := by decide +kernel
theorem own_d13_10 : decode jdk_43_method_22_code 10 = .ok (.iconst 0, 1) := by decide +kernel
theorem own_d13_11 : decode jdk_43_method_22_code 11 = .ok (.invokestatic 92, 3) := by decide +kernel
theorem own_pd6 : parseMethodDescriptor "(II)I" = some ⟨[.int, .int], some .int⟩ := by decide +kernel
theorem own_d13_14 : decode jdk_43_method_22_code 14 = .ok (.istore_n 2, 1) := by decide +kernel
theorem own_d13_15 : decode jdk_43_method_22_code 15 = .ok (.iload_n 3, 1) := by decide +kernel
theorem own_d13_16 : decode jdk_43_method_22_code 16 = .ok (.aload_n 0, 1) := by decide +kernel
theorem own_d13_17 : decode jdk_43_method_22_code 17 = .ok (.arraylength, 1) := by decide +kernel
theorem own_d13_18 : decode jdk_43_method_22_code 18 = .ok (.invokestatic 38, 3) := by decide +kernel
theorem own_d13_21 : decode jdk_43_method_22_code 21 = .ok (.istore_n 3, 1) := by decide +kernel
theorem own_d13_22 : decode jdk_43_method_22_code 22 = .ok (.iload_n 2, 1) := by decide +kernel
theorem own_d13_23 : decode jdk_43_method_22_code 23 = .ok (.iload_n 3, 1) := by decide +kernel
theorem own_d13_24 : decode jdk_43_method_22_code 24 = .ok (.if_icmp .lt 5, 3) := by decide +kernel
theorem own_d13_29 : decode jdk_43_method_22_code 29 = .ok (.aload_n 0, 1) := by decide +kernel
theorem own_d13_30 : decode jdk_43_method_22_code 30 = .ok (.iload_n 1, 1) := by decide +kernel
theorem own_d13_31 : decode jdk_43_method_22_code 31 = .ok (.iload_n 2, 1) := by decide +kernel
theorem own_d13_32 : decode jdk_43_method_22_code 32 = .ok (.iload_n 3, 1) := by decide +kernel
theorem own_d13_33 : decode jdk_43_method_22_code 33 = .ok (.invokestatic 95, 3) := by decide +kernel
theorem own_pd7 : parseMethodDescriptor "([BIII)I" = some ⟨[(.array .byte), .int, .int, .int], some .int⟩ := by decide +kernel
theorem own_d13_36 : decode jdk_43_method_22_code 36 = .ok (.ireturn, 1) := by decide +kernel
theorem own_d13_27 : decode jdk_43_method_22_code 27 = .ok (.iconst (-1), 1) := by decide +kernel
theorem own_d13_28 : decode jdk_43_method_22_code 28 = .ok (.ireturn, 1) := by decide +kernel
set_option maxRecDepth 65536 in
set_option maxHeartbeats 40000000 in
theorem own_rmYG (l : Launch) (Z : State) (a0 : Array Value) (hw : ∀ d ∈ tables_1, d.before a0 Z = true) (b : Addr) (k : ClassId) (ch : Int32) (chb : Int32) (z : Int32) (vs : List Value) (h0 : Heap) (n0 : Nat) (Z0 : n0 ≤ h0.size) (V : Arv Z h0 b k .byte z vs (.int 0)) (c1 : ¬ ch < (0 : Int32)) (c2 : ¬ (255 : Int32) < ch) (c3 : ch.toInt8.toInt32 = chb) :
    own_Met l Z [] (⟨"java/lang/StringLatin1", "indexOf", "([BIII)I"⟩ : MethodName) jdk_43_method_22_code 4 (some .int) ({ frames := 1, cells := 0, slots := 0, locals := 17 } : Room) #[(.ref b), (.int ch), (.int (0 : Int32)), (.int z)] h0 (fun v h L => ∃ r : Int32, v = some (.int r) ∧ Fr n0 L ∧ h = h0 ∧ own_ix z vs chb r) := by
  refine MetFree.of_bodySF (plainFor_of_name own_pn0) hisR ?_
  intro p e s m args below meth c s₁ Bd hml0 hP hK
  obtain ⟨rfl, hZ, hh⟩ := hP
  have hx := Bd.exec
  have hby := Bd.bytes
  have hml : c.maxLocals = 4 := hml0
  have hown : s.vm.findClass "java/lang/StringLatin1" = some m.cls := findClass_of_methodNamed Bd.named
  have hnm := (name_of_methodNamed Bd.named Bd.method).1
  have hlk : meth.locks = false := Bd.notSynchronized
  have X0 : Stand p l e ({ frames := 1, cells := 0, slots := 0, locals := 17 } : Room) s m #[(.ref b), (.int ch), (.int (0 : Int32)), (.int z)] below meth c s₁ [] 0 0 := Stand.of_body Bd
  have e0 : s₁.heap = h0 := by rw [← hh, Bd.state]; rfl
  have N0 := Fr.nil n0
  refine own_body (Q := fun v h L => ∃ r : Int32, v = some (.int r) ∧ Fr n0 L ∧ h = h0 ∧ own_ix z vs chb r) ?_
  refine own_go (fun _ kont => castTop (own_ef m #[(.ref b), (.int ch), (.int (0 : Int32)), (.int z)] 4 #[.val (.ref b), .val (.int ch), .val (.int (0 : Int32)), .val (.int z)] (own_al [(.ref b), (.int ch), (.int (0 : Int32)), (.int z)] 4 [.val (.ref b), .val (.int ch), .val (.int (0 : Int32)), .val (.int z)] rfl)) kont) ?_
  show own_Go _ _ _ _ (s₁.setTop (mkF m 0 #[.val (.ref b), .val (.int ch), .val (.int (0 : Int32)), .val (.int z)] []))
  refine own_go (fun _ => XS.iloadN X0.here hx rfl (hb hby own_d13_0) rfl) ?_
  show own_Go _ _ _ _ (s₁.setTop (mkF m 1 #[.val (.ref b), .val (.int ch), .val (.int (0 : Int32)), .val (.int z)] [(.int ch)]))
  obtain ⟨_, _, ⟨T1, L1, k1, n1⟩, -, X1, ⟨Lc1, hQ1, l1, y1, z1⟩, st1⟩ := Jvm.LawKit.callS X0 hx (y := (⟨"java/lang/StringLatin1", "canEncode", "(I)Z"⟩ : MethodName)) hown (mvT hZ (hw _ (List.mem_of_getElem? (i := 69) rfl))) (mvT hZ (hw _ (List.mem_of_getElem? (i := 70) rfl))) (mvT hZ (hw _ (List.mem_of_getElem? (i := 19) rfl))) (mvT hZ (hw _ (List.mem_of_getElem? (i := 71) rfl))) (by decide) (own_back (W := 0) (own_rmCE l Z a0 hw ch h0 n0 Z0 c1 c2) hZ (hw _ (List.mem_of_getElem? (i := 71) rfl)) (hw _ (List.mem_of_getElem? (i := 19) rfl)) (by decide) (by decide)) (g := (mkF m 1 #[.val (.ref b), .val (.int ch), .val (.int (0 : Int32)), .val (.int z)] [(.int ch)])) rfl (by rw [hml]; rfl) (argsL := [(.int ch)]) (rest := []) (lenOf own_pd5 rfl) rfl (by show 2 * 0 + _ ≤ _; exact Nat.le_of_eq rfl) (hb hby own_d13_1) (fun _ _ => ⟨rfl, e0, (by decide : 0 + 0 ≤ _), (by decide : 0 + 0 ≤ _)⟩)
  dsimp only [Pt.U, Pt.locs, Pt.cells, Pt.slots] at X1 l1 y1 z1 st1 hQ1
  replace X1 := own_cst X1 l1 y1 z1 (k2 := 0) (n2 := 0) rfl rfl
  clear l1 y1 z1
  obtain ⟨rfl, Nq1, eq1⟩ := hQ1
  have NF1 := Fr.app N0 Nq1
  refine own_go st1 ?_
  show own_Go _ _ _ _ (T1.setTop (mkF m 4 #[.val (.ref b), .val (.int ch), .val (.int (0 : Int32)), .val (.int z)] [(.int (1 : Int32))]))
  refine own_go (fun _ => XS.ifYes X1.here hx rfl (pc0 := 4) (pc' := 9) rfl (hb hby own_d13_4) rfl ((if0 _ _).trans (feq (by decide)).2) (by decide) (by decide)) ?_
  show own_Go _ _ _ _ (T1.setTop (mkF m 9 #[.val (.ref b), .val (.int ch), .val (.int (0 : Int32)), .val (.int z)] []))
  refine own_go (fun _ => XS.iloadN X1.here hx rfl (hb hby own_d13_9) rfl) ?_
  refine own_go (fun _ => XS.iconst X1.here hx rfl (hb hby own_d13_10)) ?_
  show own_Go _ _ _ _ (T1.setTop (mkF m 11 #[.val (.ref b), .val (.int ch), .val (.int (0 : Int32)), .val (.int z)] [(.int (0 : Int32)), (.int (0 : Int32))]))
  obtain ⟨_, _, ⟨T2, L2, k2, n2⟩, -, X2, ⟨Lc2, hQ2, l2, y2, z2⟩, st2⟩ := Jvm.LawKit.callS X1 hx (y := (⟨"java/lang/Math", "max", "(II)I"⟩ : MethodName)) hown (mvT hZ (hw _ (List.mem_of_getElem? (i := 72) rfl))) (mvT hZ (hw _ (List.mem_of_getElem? (i := 73) rfl))) (mvT hZ (hw _ (List.mem_of_getElem? (i := 74) rfl))) (mvT hZ (hw _ (List.mem_of_getElem? (i := 75) rfl))) (by decide) (own_back (W := 0) (own_rmMax l Z a0 hw h0 n0 Z0) hZ (hw _ (List.mem_of_getElem? (i := 75) rfl)) (hw _ (List.mem_of_getElem? (i := 74) rfl)) (by decide) (by decide)) (g := (mkF m 11 #[.val (.ref b), .val (.int ch), .val (.int (0 : Int32)), .val (.int z)] [(.int (0 : Int32)), (.int (0 : Int32))])) rfl (by rw [hml]; rfl) (argsL := [(.int (0 : Int32)), (.int (0 : Int32))]) (rest := []) (lenOf own_pd6 rfl) rfl (by show 2 * 0 + _ ≤ _; exact Nat.le_of_eq rfl) (hb hby own_d13_11) (fun _ _ => ⟨rfl, eq1, (by decide : 0 + 0 ≤ _), (by decide : 0 + 0 ≤ _)⟩)
  dsimp only [Pt.U, Pt.locs, Pt.cells, Pt.slots] at X2 l2 y2 z2 st2 hQ2
  replace X2 := own_cst X2 l2 y2 z2 (k2 := 0) (n2 := 0) rfl rfl
  clear l2 y2 z2
  obtain ⟨rfl, Nq2, eq2⟩ := hQ2
  have NF2 := Fr.app NF1 Nq2
  refine own_go st2 ?_
  show own_Go _ _ _ _ (T2.setTop (mkF m 14 #[.val (.ref b), .val (.int ch), .val (.int (0 : Int32)), .val (.int z)] [(.int (0 : Int32))]))
  refine own_go (fun _ => XS.istoreN X2.here hx rfl (hb hby own_d13_14) rfl (l' := #[.val (.ref b), .val (.int ch), .val (.int (0 : Int32)), .val (.int z)]) rfl) ?_
  refine own_go (fun _ => XS.iloadN X2.here hx rfl (hb hby own_d13_15) rfl) ?_
  refine own_go (fun _ => XS.aloadN X2.here hx rfl (hb hby own_d13_16) rfl rfl) ?_
  obtain ⟨cl3, Ar3, -, Sz3, Ng3, -, -⟩ := id V
  refine own_go (X2.arraylength hx (own_hp eq2 Ar3.1) (State.isArrayOf_alike hZ.alike Ar3.2.1) (g := (mkF m 17 #[.val (.ref b), .val (.int ch), .val (.int (0 : Int32)), .val (.int z)] [(.ref b), (.int z)])) rfl rfl (hb hby own_d13_17)) ?_
  rw [len_of Sz3 Ng3]
  show own_Go _ _ _ _ (T2.setTop (mkF m 18 #[.val (.ref b), .val (.int ch), .val (.int (0 : Int32)), .val (.int z)] [(.int z), (.int z)]))
  obtain ⟨_, _, ⟨T4, L4, k4, n4⟩, -, X4, ⟨Lc4, hQ4, l4, y4, z4⟩, st4⟩ := Jvm.LawKit.callS X2 hx (y := (⟨"java/lang/Math", "min", "(II)I"⟩ : MethodName)) hown (mvT hZ (hw _ (List.mem_of_getElem? (i := 76) rfl))) (mvT hZ (hw _ (List.mem_of_getElem? (i := 77) rfl))) (mvT hZ (hw _ (List.mem_of_getElem? (i := 74) rfl))) (mvT hZ (hw _ (List.mem_of_getElem? (i := 78) rfl))) (by decide) (own_back (W := 0) (own_rmMn l Z a0 hw z z h0 n0 Z0 (Int.le_refl _)) hZ (hw _ (List.mem_of_getElem? (i := 78) rfl)) (hw _ (List.mem_of_getElem? (i := 74) rfl)) (by decide) (by decide)) (g := (mkF m 18 #[.val (.ref b), .val (.int ch), .val (.int (0 : Int32)), .val (.int z)] [(.int z), (.int z)])) rfl (by rw [hml]; rfl) (argsL := [(.int z), (.int z)]) (rest := []) (lenOf own_pd6 rfl) rfl (by show 2 * 0 + _ ≤ _; exact Nat.le_of_eq rfl) (hb hby own_d13_18) (fun _ _ => ⟨rfl, eq2, (by decide : 0 + 0 ≤ _), (by decide : 0 + 0 ≤ _)⟩)
  dsimp only [Pt.U, Pt.locs, Pt.cells, Pt.slots] at X4 l4 y4 z4 st4 hQ4
  replace X4 := own_cst X4 l4 y4 z4 (k2 := 0) (n2 := 0) rfl rfl
  clear l4 y4 z4
  obtain ⟨rfl, Nq4, eq4⟩ := hQ4
  have NF4 := Fr.app NF2 Nq4
  refine own_go st4 ?_
  show own_Go _ _ _ _ (T4.setTop (mkF m 21 #[.val (.ref b), .val (.int ch), .val (.int (0 : Int32)), .val (.int z)] [(.int z)]))
  refine own_go (fun _ => XS.istoreN X4.here hx rfl (hb hby own_d13_21) rfl (l' := #[.val (.ref b), .val (.int ch), .val (.int (0 : Int32)), .val (.int z)]) rfl) ?_
  refine own_go (fun _ => XS.iloadN X4.here hx rfl (hb hby own_d13_22) rfl) ?_
  refine own_go (fun _ => XS.iloadN X4.here hx rfl (hb hby own_d13_23) rfl) ?_
  show own_Go _ _ _ _ (T4.setTop (mkF m 24 #[.val (.ref b), .val (.int ch), .val (.int (0 : Int32)), .val (.int z)] [(.int z), (.int (0 : Int32))]))
  by_cases hp : (0 : Int32) < z
  · have _h := hp
    refine own_go (fun _ => XS.icmpYes X4.here hx rfl (pc0 := 24) (pc' := 29) rfl (hb hby own_d13_24) rfl (tlt hp).1 (by decide) (by decide)) ?_
    show own_Go _ _ _ _ (T4.setTop (mkF m 29 #[.val (.ref b), .val (.int ch), .val (.int (0 : Int32)), .val (.int z)] []))
    refine own_go (fun _ => XS.aloadN X4.here hx rfl (hb hby own_d13_29) rfl rfl) ?_
    refine own_go (fun _ => XS.iloadN X4.here hx rfl (hb hby own_d13_30) rfl) ?_
    refine own_go (fun _ => XS.iloadN X4.here hx rfl (hb hby own_d13_31) rfl) ?_
    refine own_go (fun _ => XS.iloadN X4.here hx rfl (hb hby own_d13_32) rfl) ?_
    show own_Go _ _ _ _ (T4.setTop (mkF m 33 #[.val (.ref b), .val (.int ch), .val (.int (0 : Int32)), .val (.int z)] [(.int z), (.int (0 : Int32)), (.int ch), (.ref b)]))
    obtain ⟨_, _, ⟨T5, L5, k5, n5⟩, -, X5, ⟨Lc5, hQ5, l5, y5, z5⟩, st5⟩ := Jvm.LawKit.callS X4 hx (y := (⟨"java/lang/StringLatin1", "indexOfChar", "([BIII)I"⟩ : MethodName)) hown (mvT hZ (hw _ (List.mem_of_getElem? (i := 198) rfl))) (mvT hZ (hw _ (List.mem_of_getElem? (i := 199) rfl))) (mvT hZ (hw _ (List.mem_of_getElem? (i := 19) rfl))) (mvT hZ (hw _ (List.mem_of_getElem? (i := 200) rfl))) (by decide) (own_back (W := 0) (own_rmXG l Z a0 hw b k ch chb z vs h0 n0 Z0 V c3) hZ (hw _ (List.mem_of_getElem? (i := 200) rfl)) (hw _ (List.mem_of_getElem? (i := 19) rfl)) (by decide) (by decide)) (g := (mkF m 33 #[.val (.ref b), .val (.int ch), .val (.int (0 : Int32)), .val (.int z)] [(.int z), (.int (0 : Int32)), (.int ch), (.ref b)])) rfl (by rw [hml]; rfl) (argsL := [(.ref b), (.int ch), (.int (0 : Int32)), (.int z)]) (rest := []) (lenOf own_pd7 rfl) rfl (by show 2 * 0 + _ ≤ _; exact Nat.le_of_eq rfl) (hb hby own_d13_33) (fun _ _ => ⟨rfl, eq4, (by decide : 0 + 0 ≤ _), (by decide : 0 + 0 ≤ _)⟩)
    dsimp only [Pt.U, Pt.locs, Pt.cells, Pt.slots] at X5 l5 y5 z5 st5 hQ5
    replace X5 := own_cst X5 l5 y5 z5 (k2 := 0) (n2 := 0) rfl rfl
    clear l5 y5 z5
    obtain ⟨r5, rfl, Nq5, eq5, hr5⟩ := hQ5
    have NF5 := Fr.app NF4 Nq5
    refine own_go st5 ?_
    show own_Go _ _ _ _ (T5.setTop (mkF m 36 #[.val (.ref b), .val (.int ch), .val (.int (0 : Int32)), .val (.int z)] [(.int r5)]))
    refine own_ret X5 hlk (v := some (.int r5)) (fun h => by rw [Bd.returns] at h; cases h) (fun fs hr => retOut X5 hx Bd.returns rfl (Or.inl ⟨rfl, Or.inl rfl, _, rfl⟩) (hb hby own_d13_36) hr) ?_ (by decide) (by decide)
    try rw [eq5]
    exact ⟨_, rfl, NF5, rfl, hr5⟩
  · have _h := hp
    refine own_go (fun _ => XS.icmpNo X4.here hx rfl (hb hby own_d13_24) rfl (flt hp).1) ?_
    show own_Go _ _ _ _ (T4.setTop (mkF m 27 #[.val (.ref b), .val (.int ch), .val (.int (0 : Int32)), .val (.int z)] []))
    refine own_go (fun _ => XS.iconst X4.here hx rfl (hb hby own_d13_27)) ?_
    show own_Go _ _ _ _ (T4.setTop (mkF m 28 #[.val (.ref b), .val (.int ch), .val (.int (0 : Int32)), .val (.int z)] [(.int (-1 : Int32))]))
    refine own_ret X4 hlk (v := some (.int (-1 : Int32))) (fun h => by rw [Bd.returns] at h; cases h) (fun fs hr => retOut X4 hx Bd.returns rfl (Or.inl ⟨rfl, Or.inl rfl, _, rfl⟩) (hb hby own_d13_28) hr) ?_ (by decide) (by decide)
    try rw [eq4]
    exact ⟨_, rfl, NF4, rfl, own_ixm (own_vz V)⟩
theorem own_d9_0 : decode jdk_42_method_80_code 0 = .ok (.aload_n 0, 1) := by decide +kernel
theorem own_d9_1 : decode jdk_42_method_80_code 1 = .ok (.invokevirtual 492, 3) := by decide +kernel
theorem own_pd8 : parseMethodDescriptor "()Z" = some ⟨[], some .boolean⟩ := by decide +kernel
theorem own_d9_4 : decode jdk_42_method_80_code 4 = .ok (.ifCond .eq 19, 3) := by decide +kernel
theorem own_d9_7 : decode jdk_42_method_80_code 7 = .ok (.aload_n 0, 1) := by decide +kernel
theorem own_d9_8 : decode jdk_42_method_80_code 8 = .ok (.getfield 9, 3) := by decide +kernel
theorem own_d9_11 : decode jdk_42_method_80_code 11 = .ok (.iload_n 1, 1) := by decide +kernel
theorem own_d9_12 : decode jdk_42_method_80_code 12 = .ok (.iload_n 2, 1) := by decide +kernel
theorem own_d9_13 : decode jdk_42_method_80_code 13 = .ok (.aload_n 0, 1) := by decide +kernel
theorem own_d9_14 : decode jdk_42_method_80_code 14 = .ok (.invokevirtual 505, 3) := by decide +kernel
theorem own_pd9 : parseMethodDescriptor "()I" = some ⟨[], some .int⟩ := by decide +kernel
theorem own_d9_17 : decode jdk_42_method_80_code 17 = .ok (.invokestatic 637, 3) := by decide +kernel
theorem own_d9_20 : decode jdk_42_method_80_code 20 = .ok (.goto 16, 3) := by decide +kernel
theorem own_d9_36 : decode jdk_42_method_80_code 36 = .ok (.ireturn, 1) := by decide +kernel
set_option maxRecDepth 65536 in
set_option maxHeartbeats 40000000 in
theorem own_rmZG (l : Launch) (Z : State) (a0 : Array Value) (hw : ∀ d ∈ tables_1, d.before a0 Z = true) (a1 : Addr) (b : Addr) (k : ClassId) (cs : Int32) (ch : Int32) (chb : Int32) (z : Int32) (vs : List Value) (h0 : Heap) (n0 : Nat) (Z0 : n0 ≤ h0.size) (E1 : Exa Z h0 a1 "java/lang/String") (Fv : Fld Z h0 a1 "java/lang/String" "value" "[B" (.ref b)) (Fc : Fld Z h0 a1 "java/lang/String" "coder" "B" (.int 0)) (V : Arv Z h0 b k .byte z vs (.int 0)) (O : Old Z n0 h0) (S_C : Sta Z Z.heap "java/lang/String" "COMPACT_STRINGS" "Z" (.int cs)) (hcs : ¬ cs = (0 : Int32)) (c1 : ¬ ch < (0 : Int32)) (c2 : ¬ (255 : Int32) < ch) (c3 : ch.toInt8.toInt32 = chb) :
    own_Met l Z [] (⟨"java/lang/String", "indexOf", "(II)I"⟩ : MethodName) jdk_42_method_80_code 3 (some .int) ({ frames := 2, cells := 0, slots := 0, locals := 32 } : Room) #[(.ref a1), (.int ch), (.int (0 : Int32))] h0 (fun v h L => ∃ r : Int32, v = some (.int r) ∧ Fr n0 L ∧ h = h0 ∧ own_ix z vs chb r) := by
  refine MetFree.of_bodySF (plainFor_of_name own_pn1) hisR ?_
  intro p e s m args below meth c s₁ Bd hml0 hP hK
  obtain ⟨rfl, hZ, hh⟩ := hP
  have hx := Bd.exec
  have hby := Bd.bytes
  have hml : c.maxLocals = 3 := hml0
  have hown : s.vm.findClass "java/lang/String" = some m.cls := findClass_of_methodNamed Bd.named
  have hnm := (name_of_methodNamed Bd.named Bd.method).1
  have hlk : meth.locks = false := Bd.notSynchronized
  have X0 : Stand p l e ({ frames := 2, cells := 0, slots := 0, locals := 32 } : Room) s m #[(.ref a1), (.int ch), (.int (0 : Int32))] below meth c s₁ [] 0 0 := Stand.of_body Bd
  have e0 : s₁.heap = h0 := by rw [← hh, Bd.state]; rfl
  have N0 := Fr.nil n0
  refine own_body (Q := fun v h L => ∃ r : Int32, v = some (.int r) ∧ Fr n0 L ∧ h = h0 ∧ own_ix z vs chb r) ?_
  refine own_go (fun _ kont => castTop (own_ef m #[(.ref a1), (.int ch), (.int (0 : Int32))] 3 #[.val (.ref a1), .val (.int ch), .val (.int (0 : Int32))] (own_al [(.ref a1), (.int ch), (.int (0 : Int32))] 3 [.val (.ref a1), .val (.int ch), .val (.int (0 : Int32))] rfl)) kont) ?_
  show own_Go _ _ _ _ (s₁.setTop (mkF m 0 #[.val (.ref a1), .val (.int ch), .val (.int (0 : Int32))] []))
  refine own_go (fun _ => XS.aloadN X0.here hx rfl (hb hby own_d9_0) rfl rfl) ?_
  show own_Go _ _ _ _ (s₁.setTop (mkF m 1 #[.val (.ref a1), .val (.int ch), .val (.int (0 : Int32))] [(.ref a1)]))
  obtain ⟨cq1, kq1, q1a, q1b, q1c⟩ := isOf hZ e0 E1
  obtain ⟨_, _, ⟨T1, L1, k1, n1⟩, -, X1, ⟨Lc1, hQ1, l1, y1, z1⟩, st1⟩ := X0.virtualBack hx (y := (⟨"java/lang/String", "isLatin1", "()Z"⟩ : MethodName)) (z := (⟨"java/lang/String", "isLatin1", "()Z"⟩ : MethodName)) hown (mvT hZ (hw _ (List.mem_of_getElem? (i := 51) rfl))) (mvT hZ (hw _ (List.mem_of_getElem? (i := 52) rfl))) (notFace_of_selects (args := #[]) (mvT hZ (hw _ (List.mem_of_getElem? (i := 54) rfl)))) (mvT hZ (hw _ (List.mem_of_getElem? (i := 54) rfl))) (mvT hZ (hw _ (List.mem_of_getElem? (i := 53) rfl))) (by decide) (own_back (W := 0) (own_rmil0 l Z a0 hw a1 cs h0 n0 Z0 Fc O S_C hcs) hZ (hw _ (List.mem_of_getElem? (i := 55) rfl)) (hw _ (List.mem_of_getElem? (i := 6) rfl)) (by decide) (by decide)) q1a q1c (g := (mkF m 1 #[.val (.ref a1), .val (.int ch), .val (.int (0 : Int32))] [(.ref a1)])) rfl (by rw [hml]; rfl) (Steps.refl _) (argsL := []) (rest := []) (lenOf own_pd8 rfl) rfl (by show 2 * 0 + _ ≤ _; exact Nat.le_of_eq rfl) (hb hby own_d9_1) (fun _ _ => ⟨rfl, e0, (by decide : 0 + 0 ≤ _), (by decide : 0 + 0 ≤ _)⟩)
  dsimp only [Pt.U, Pt.locs, Pt.cells, Pt.slots] at X1 l1 y1 z1 st1 hQ1
  replace X1 := own_cst X1 l1 y1 z1 (k2 := 0) (n2 := 0) rfl rfl
  clear l1 y1 z1
  obtain ⟨rfl, Nq1, eq1⟩ := hQ1
  have NF1 := Fr.app N0 Nq1
  refine own_goT st1 ?_
  show own_Go _ _ _ _ (T1.setTop (mkF m 4 #[.val (.ref a1), .val (.int ch), .val (.int (0 : Int32))] [(.int (1 : Int32))]))
  refine own_go (fun _ => XS.ifNo X1.here hx rfl (hb hby own_d9_4) rfl ((if0 _ _).trans (feq (by decide)).1)) ?_
  show own_Go _ _ _ _ (T1.setTop (mkF m 7 #[.val (.ref a1), .val (.int ch), .val (.int (0 : Int32))] []))
  refine own_go (fun _ => XS.aloadN X1.here hx rfl (hb hby own_d9_7) rfl rfl) ?_
  obtain ⟨T2, X2, e2, st2⟩ := getF X1 hx hZ hown (host := "") (Or.inl (hw _ (List.mem_of_getElem? (i := 32) rfl))) Via.refl eq1 Fv (g := (mkF m 8 #[.val (.ref a1), .val (.int ch), .val (.int (0 : Int32))] [(.ref a1)])) rfl rfl (hb hby own_d9_8)
  refine own_go st2 ?_
  refine own_go (fun _ => XS.iloadN X2.here hx rfl (hb hby own_d9_11) rfl) ?_
  refine own_go (fun _ => XS.iloadN X2.here hx rfl (hb hby own_d9_12) rfl) ?_
  show own_Go _ _ _ _ (T2.setTop (mkF m 13 #[.val (.ref a1), .val (.int ch), .val (.int (0 : Int32))] [(.int (0 : Int32)), (.int ch), (.ref b)]))
  refine own_go (fun _ => XS.aloadN X2.here hx rfl (hb hby own_d9_13) rfl rfl) ?_
  show own_Go _ _ _ _ (T2.setTop (mkF m 14 #[.val (.ref a1), .val (.int ch), .val (.int (0 : Int32))] [(.ref a1), (.int (0 : Int32)), (.int ch), (.ref b)]))
  obtain ⟨cq3, kq3, q3a, q3b, q3c⟩ := isOf hZ e2 E1
  obtain ⟨_, _, ⟨T3, L3, k3, n3⟩, -, X3, ⟨Lc3, hQ3, l3, y3, z3⟩, st3⟩ := X2.virtualBack hx (y := (⟨"java/lang/String", "length", "()I"⟩ : MethodName)) (z := (⟨"java/lang/String", "length", "()I"⟩ : MethodName)) hown (mvT hZ (hw _ (List.mem_of_getElem? (i := 56) rfl))) (mvT hZ (hw _ (List.mem_of_getElem? (i := 57) rfl))) (notFace_of_selects (args := #[]) (mvT hZ (hw _ (List.mem_of_getElem? (i := 59) rfl)))) (mvT hZ (hw _ (List.mem_of_getElem? (i := 59) rfl))) (mvT hZ (hw _ (List.mem_of_getElem? (i := 58) rfl))) (by decide) (own_back (W := 3) (own_rmln0 l Z a0 hw a1 b k cs z z vs h0 n0 Z0 E1 Fv Fc V O S_C hcs (own_shr0 z)) hZ (hw _ (List.mem_of_getElem? (i := 60) rfl)) (hw _ (List.mem_of_getElem? (i := 6) rfl)) (by decide) (by decide)) q3a q3c (g := (mkF m 14 #[.val (.ref a1), .val (.int ch), .val (.int (0 : Int32))] [(.ref a1), (.int (0 : Int32)), (.int ch), (.ref b)])) rfl (by rw [hml]; rfl) (Steps.refl _) (argsL := []) (rest := [(.int (0 : Int32)), (.int ch), (.ref b)]) (lenOf own_pd9 rfl) rfl (by show 2 * 0 + _ ≤ _; exact Nat.le_of_eq rfl) (hb hby own_d9_14) (fun _ _ => ⟨rfl, e2, (by decide : 0 + 0 ≤ _), (by decide : 0 + 0 ≤ _)⟩)
  dsimp only [Pt.U, Pt.locs, Pt.cells, Pt.slots] at X3 l3 y3 z3 st3 hQ3
  replace X3 := own_cst X3 l3 y3 z3 (k2 := 0) (n2 := 0) rfl rfl
  clear l3 y3 z3
  obtain ⟨rfl, Nq3, eq3⟩ := hQ3
  have NF3 := Fr.app NF1 Nq3
  refine own_goT st3 ?_
  show own_Go _ _ _ _ (T3.setTop (mkF m 17 #[.val (.ref a1), .val (.int ch), .val (.int (0 : Int32))] [(.int z), (.int (0 : Int32)), (.int ch), (.ref b)]))
  obtain ⟨_, _, ⟨T4, L4, k4, n4⟩, -, X4, ⟨Lc4, hQ4, l4, y4, z4⟩, st4⟩ := Jvm.LawKit.callS X3 hx (y := (⟨"java/lang/StringLatin1", "indexOf", "([BIII)I"⟩ : MethodName)) hown (mvT hZ (hw _ (List.mem_of_getElem? (i := 66) rfl))) (mvT hZ (hw _ (List.mem_of_getElem? (i := 67) rfl))) (mvT hZ (hw _ (List.mem_of_getElem? (i := 19) rfl))) (mvT hZ (hw _ (List.mem_of_getElem? (i := 68) rfl))) (by decide) (own_back (W := 0) (own_rmYG l Z a0 hw b k ch chb z vs h0 n0 Z0 V c1 c2 c3) hZ (hw _ (List.mem_of_getElem? (i := 68) rfl)) (hw _ (List.mem_of_getElem? (i := 19) rfl)) (by decide) (by decide)) (g := (mkF m 17 #[.val (.ref a1), .val (.int ch), .val (.int (0 : Int32))] [(.int z), (.int (0 : Int32)), (.int ch), (.ref b)])) rfl (by rw [hml]; rfl) (argsL := [(.ref b), (.int ch), (.int (0 : Int32)), (.int z)]) (rest := []) (lenOf own_pd7 rfl) rfl (by show 2 * 0 + _ ≤ _; exact Nat.le_of_eq rfl) (hb hby own_d9_17) (fun _ _ => ⟨rfl, eq3, (by decide : 0 + 0 ≤ _), (by decide : 0 + 0 ≤ _)⟩)
  dsimp only [Pt.U, Pt.locs, Pt.cells, Pt.slots] at X4 l4 y4 z4 st4 hQ4
  replace X4 := own_cst X4 l4 y4 z4 (k2 := 0) (n2 := 0) rfl rfl
  clear l4 y4 z4
  obtain ⟨r4, rfl, Nq4, eq4, hr4⟩ := hQ4
  have NF4 := Fr.app NF3 Nq4
  refine own_go st4 ?_
  show own_Go _ _ _ _ (T4.setTop (mkF m 20 #[.val (.ref a1), .val (.int ch), .val (.int (0 : Int32))] [(.int r4)]))
  refine own_go (fun _ => XS.goto X4.here hx rfl (pc0 := 20) (pc' := 36) rfl (hb hby own_d9_20) (by decide) (by decide)) ?_
  show own_Go _ _ _ _ (T4.setTop (mkF m 36 #[.val (.ref a1), .val (.int ch), .val (.int (0 : Int32))] [(.int r4)]))
  refine own_ret X4 hlk (v := some (.int r4)) (fun h => by rw [Bd.returns] at h; cases h) (fun fs hr => retOut X4 hx Bd.returns rfl (Or.inl ⟨rfl, Or.inl rfl, _, rfl⟩) (hb hby own_d9_36) hr) ?_ (by decide) (by decide)
  try rw [eq4]
  exact ⟨_, rfl, NF4, rfl, hr4⟩
theorem own_d8_0 : decode jdk_42_method_79_code 0 = .ok (.aload_n 0, 1) := by decide +kernel
theorem own_d8_1 : decode jdk_42_method_79_code 1 = .ok (.iload_n 1, 1) := by decide +kernel
theorem own_d8_2 : decode jdk_42_method_79_code 2 = .ok (.iconst 0, 1) := by decide +kernel
theorem own_d8_3 : decode jdk_42_method_79_code 3 = .ok (.invokevirtual 633, 3) := by decide +kernel
theorem own_d8_6 : decode jdk_42_method_79_code 6 = .ok (.ireturn, 1) := by decide +kernel
set_option maxRecDepth 65536 in
set_option maxHeartbeats 40000000 in
theorem own_rmUG (l : Launch) (Z : State) (a0 : Array Value) (hw : ∀ d ∈ tables_1, d.before a0 Z = true) (a1 : Addr) (b : Addr) (k : ClassId) (cs : Int32) (ch : Int32) (chb : Int32) (z : Int32) (vs : List Value) (h0 : Heap) (n0 : Nat) (Z0 : n0 ≤ h0.size) (E1 : Exa Z h0 a1 "java/lang/String") (Fv : Fld Z h0 a1 "java/lang/String" "value" "[B" (.ref b)) (Fc : Fld Z h0 a1 "java/lang/String" "coder" "B" (.int 0)) (V : Arv Z h0 b k .byte z vs (.int 0)) (O : Old Z n0 h0) (S_C : Sta Z Z.heap "java/lang/String" "COMPACT_STRINGS" "Z" (.int cs)) (hcs : ¬ cs = (0 : Int32)) (c1 : ¬ ch < (0 : Int32)) (c2 : ¬ (255 : Int32) < ch) (c3 : ch.toInt8.toInt32 = chb) :
    own_Met l Z [] (⟨"java/lang/String", "indexOf", "(I)I"⟩ : MethodName) jdk_42_method_79_code 2 (some .int) ({ frames := 3, cells := 0, slots := 0, locals := 46 } : Room) #[(.ref a1), (.int ch)] h0 (fun v h L => ∃ r : Int32, v = some (.int r) ∧ Fr n0 L ∧ h = h0 ∧ own_ix z vs chb r) := by
  refine MetFree.of_bodySF (plainFor_of_name own_pn1) hisR ?_
  intro p e s m args below meth c s₁ Bd hml0 hP hK
  obtain ⟨rfl, hZ, hh⟩ := hP
  have hx := Bd.exec
  have hby := Bd.bytes
  have hml : c.maxLocals = 2 := hml0
  have hown : s.vm.findClass "java/lang/String" = some m.cls := findClass_of_methodNamed Bd.named
  have hnm := (name_of_methodNamed Bd.named Bd.method).1
  have hlk : meth.locks = false := Bd.notSynchronized
  have X0 : Stand p l e ({ frames := 3, cells := 0, slots := 0, locals := 46 } : Room) s m #[(.ref a1), (.int ch)] below meth c s₁ [] 0 0 := Stand.of_body Bd
  have e0 : s₁.heap = h0 := by rw [← hh, Bd.state]; rfl
  have N0 := Fr.nil n0
  refine own_body (Q := fun v h L => ∃ r : Int32, v = some (.int r) ∧ Fr n0 L ∧ h = h0 ∧ own_ix z vs chb r) ?_
  refine own_go (fun _ kont => castTop (own_ef m #[(.ref a1), (.int ch)] 2 #[.val (.ref a1), .val (.int ch)] (own_al [(.ref a1), (.int ch)] 2 [.val (.ref a1), .val (.int ch)] rfl)) kont) ?_
  show own_Go _ _ _ _ (s₁.setTop (mkF m 0 #[.val (.ref a1), .val (.int ch)] []))
  refine own_go (fun _ => XS.aloadN X0.here hx rfl (hb hby own_d8_0) rfl rfl) ?_
  refine own_go (fun _ => XS.iloadN X0.here hx rfl (hb hby own_d8_1) rfl) ?_
  refine own_go (fun _ => XS.iconst X0.here hx rfl (hb hby own_d8_2)) ?_
  show own_Go _ _ _ _ (s₁.setTop (mkF m 3 #[.val (.ref a1), .val (.int ch)] [(.int (0 : Int32)), (.int ch), (.ref a1)]))
  obtain ⟨cq1, kq1, q1a, q1b, q1c⟩ := isOf hZ e0 E1
  obtain ⟨_, _, ⟨T1, L1, k1, n1⟩, -, X1, ⟨Lc1, hQ1, l1, y1, z1⟩, st1⟩ := X0.virtualBack hx (y := (⟨"java/lang/String", "indexOf", "(II)I"⟩ : MethodName)) (z := (⟨"java/lang/String", "indexOf", "(II)I"⟩ : MethodName)) hown (mvT hZ (hw _ (List.mem_of_getElem? (i := 46) rfl))) (mvT hZ (hw _ (List.mem_of_getElem? (i := 47) rfl))) (notFace_of_selects (args := #[]) (mvT hZ (hw _ (List.mem_of_getElem? (i := 49) rfl)))) (mvT hZ (hw _ (List.mem_of_getElem? (i := 49) rfl))) (mvT hZ (hw _ (List.mem_of_getElem? (i := 48) rfl))) (by decide) (own_back (W := 0) (own_rmZG l Z a0 hw a1 b k cs ch chb z vs h0 n0 Z0 E1 Fv Fc V O S_C hcs c1 c2 c3) hZ (hw _ (List.mem_of_getElem? (i := 50) rfl)) (hw _ (List.mem_of_getElem? (i := 6) rfl)) (by decide) (by decide)) q1a q1c (g := (mkF m 3 #[.val (.ref a1), .val (.int ch)] [(.int (0 : Int32)), (.int ch), (.ref a1)])) rfl (by rw [hml]; rfl) (Steps.refl _) (argsL := [(.int ch), (.int (0 : Int32))]) (rest := []) (lenOf own_pd6 rfl) rfl (by show 2 * 0 + _ ≤ _; exact Nat.le_of_eq rfl) (hb hby own_d8_3) (fun _ _ => ⟨rfl, e0, (by decide : 0 + 0 ≤ _), (by decide : 0 + 0 ≤ _)⟩)
  dsimp only [Pt.U, Pt.locs, Pt.cells, Pt.slots] at X1 l1 y1 z1 st1 hQ1
  replace X1 := own_cst X1 l1 y1 z1 (k2 := 0) (n2 := 0) rfl rfl
  clear l1 y1 z1
  obtain ⟨r1, rfl, Nq1, eq1, hr1⟩ := hQ1
  have NF1 := Fr.app N0 Nq1
  refine own_goT st1 ?_
  show own_Go _ _ _ _ (T1.setTop (mkF m 6 #[.val (.ref a1), .val (.int ch)] [(.int r1)]))
  refine own_ret X1 hlk (v := some (.int r1)) (fun h => by rw [Bd.returns] at h; cases h) (fun fs hr => retOut X1 hx Bd.returns rfl (Or.inl ⟨rfl, Or.inl rfl, _, rfl⟩) (hb hby own_d8_6) hr) ?_ (by decide) (by decide)
  try rw [eq1]
  exact ⟨_, rfl, NF1, rfl, hr1⟩
theorem own_d23_0 : decode jdk_43_method_27_code 0 = .ok (.iload_n 1, 1) := by decide +kernel
theorem own_d23_1 : decode jdk_43_method_27_code 1 = .ok (.invokestatic 88, 3) := by decide +kernel
theorem own_d23_4 : decode jdk_43_method_27_code 4 = .ok (.ifCond .ne 5, 3) := by decide +kernel
theorem own_d23_9 : decode jdk_43_method_27_code 9 = .ok (.iload_n 2, 1) := by decide +kernel
theorem own_d23_10 : decode jdk_43_method_27_code 10 = .ok (.aload_n 0, 1) := by decide +kernel
theorem own_d23_11 : decode jdk_43_method_27_code 11 = .ok (.arraylength, 1) := by decide +kernel
theorem own_d23_12 : decode jdk_43_method_27_code 12 = .ok (.iconst 1, 1) := by decide +kernel
theorem own_d23_13 : decode jdk_43_method_27_code 13 = .ok (.isub, 1) := by decide +kernel
theorem own_d23_14 : decode jdk_43_method_27_code 14 = .ok (.invokestatic 38, 3) := by decide +kernel
theorem own_d23_17 : decode jdk_43_method_27_code 17 = .ok (.istore_n 3, 1) := by decide +kernel
theorem own_d23_18 : decode jdk_43_method_27_code 18 = .ok (.iload_n 3, 1) := by decide +kernel
theorem own_d23_19 : decode jdk_43_method_27_code 19 = .ok (.ifCond .lt 19, 3) := by decide +kernel
theorem own_d23_38 : decode jdk_43_method_27_code 38 = .ok (.iconst (-1), 1) := by decide +kernel
theorem own_d23_39 : decode jdk_43_method_27_code 39 = .ok (.ireturn, 1) := by decide +kernel
theorem own_d23_22 : decode jdk_43_method_27_code 22 = .ok (.aload_n 0, 1) := by decide +kernel
theorem own_d23_23 : decode jdk_43_method_27_code 23 = .ok (.iload_n 3, 1) := by decide +kernel
theorem own_d23_24 : decode jdk_43_method_27_code 24 = .ok (.baload, 1) := by decide +kernel
theorem own_d23_25 : decode jdk_43_method_27_code 25 = .ok (.iload_n 1, 1) := by decide +kernel
theorem own_d23_26 : decode jdk_43_method_27_code 26 = .ok (.i2b, 1) := by decide +kernel
theorem own_d23_27 : decode jdk_43_method_27_code 27 = .ok (.if_icmp .ne 5, 3) := by decide +kernel
theorem own_d23_30 : decode jdk_43_method_27_code 30 = .ok (.iload_n 3, 1) := by decide +kernel
theorem own_d23_31 : decode jdk_43_method_27_code 31 = .ok (.ireturn, 1) := by decide +kernel
theorem own_d23_32 : decode jdk_43_method_27_code 32 = .ok (.iinc 3 (-1), 3) := by decide +kernel
theorem own_d23_35 : decode jdk_43_method_27_code 35 = .ok (.goto (-17), 3) := by decide +kernel
set_option maxRecDepth 65536 in
set_option maxHeartbeats 40000000 in
theorem own_rmLG (l : Launch) (Z : State) (a0 : Array Value) (hw : ∀ d ∈ tables_1, d.before a0 Z = true) (b : Addr) (k : ClassId) (ch : Int32) (z : Int32) (vs : List Value) (h0 : Heap) (n0 : Nat) (Z0 : n0 ≤ h0.size) (V : Arv Z h0 b k .byte z vs (.int 0)) (c1 : ¬ ch < (0 : Int32)) (c2 : ¬ (255 : Int32) < ch) :
    own_Met l Z [] (⟨"java/lang/StringLatin1", "lastIndexOf", "([BII)I"⟩ : MethodName) jdk_43_method_27_code 4 (some .int) ({ frames := 1, cells := 0, slots := 0, locals := 13 } : Room) #[(.ref b), (.int ch), (.int (z - (1 : Int32)))] h0 (fun v h L => ∃ r : Int32, v = some (.int r) ∧ Fr n0 L ∧ h = h0 ∧ -1 ≤ r.toInt ∧ r.toInt < z.toInt) := by
  refine MetFree.of_bodySF (plainFor_of_name own_pn0) hisR ?_
  intro p e s m args below meth c s₁ Bd hml0 hP hK
  obtain ⟨rfl, hZ, hh⟩ := hP
  have hx := Bd.exec
  have hby := Bd.bytes
  have hml : c.maxLocals = 4 := hml0
  have hown : s.vm.findClass "java/lang/StringLatin1" = some m.cls := findClass_of_methodNamed Bd.named
  have hnm := (name_of_methodNamed Bd.named Bd.method).1
  have hlk : meth.locks = false := Bd.notSynchronized
  have X0 : Stand p l e ({ frames := 1, cells := 0, slots := 0, locals := 13 } : Room) s m #[(.ref b), (.int ch), (.int (z - (1 : Int32)))] below meth c s₁ [] 0 0 := Stand.of_body Bd
  have e0 : s₁.heap = h0 := by rw [← hh, Bd.state]; rfl
  have N0 := Fr.nil n0
  refine own_body (Q := fun v h L => ∃ r : Int32, v = some (.int r) ∧ Fr n0 L ∧ h = h0 ∧ -1 ≤ r.toInt ∧ r.toInt < z.toInt) ?_
  refine own_go (fun _ kont => castTop (own_ef m #[(.ref b), (.int ch), (.int (z - (1 : Int32)))] 4 #[.val (.ref b), .val (.int ch), .val (.int (z - (1 : Int32))), .unset] (own_al [(.ref b), (.int ch), (.int (z - (1 : Int32)))] 4 [.val (.ref b), .val (.int ch), .val (.int (z - (1 : Int32))), .unset] rfl)) kont) ?_
  show own_Go _ _ _ _ (s₁.setTop (mkF m 0 #[.val (.ref b), .val (.int ch), .val (.int (z - (1 : Int32))), .unset] []))
  have hz0 := own_vz V
  have hz1 : (z - 1).toInt = z.toInt - 1 := by
    have e1 : (1 : Int32).toInt = 1 := rfl
    have := c_isub z 1; have := rng32 (z - 1); have := rng32 z; omega
  refine own_go (fun _ => XS.iloadN X0.here hx rfl (hb hby own_d23_0) rfl) ?_
  show own_Go _ _ _ _ (s₁.setTop (mkF m 1 #[.val (.ref b), .val (.int ch), .val (.int (z - (1 : Int32))), .unset] [(.int ch)]))
  obtain ⟨_, _, ⟨T1, L1, k1, n1⟩, -, X1, ⟨Lc1, hQ1, l1, y1, z1⟩, st1⟩ := Jvm.LawKit.callS X0 hx (y := (⟨"java/lang/StringLatin1", "canEncode", "(I)Z"⟩ : MethodName)) hown (mvT hZ (hw _ (List.mem_of_getElem? (i := 69) rfl))) (mvT hZ (hw _ (List.mem_of_getElem? (i := 70) rfl))) (mvT hZ (hw _ (List.mem_of_getElem? (i := 19) rfl))) (mvT hZ (hw _ (List.mem_of_getElem? (i := 71) rfl))) (by decide) (own_back (W := 0) (own_rmCE l Z a0 hw ch h0 n0 Z0 c1 c2) hZ (hw _ (List.mem_of_getElem? (i := 71) rfl)) (hw _ (List.mem_of_getElem? (i := 19) rfl)) (by decide) (by decide)) (g := (mkF m 1 #[.val (.ref b), .val (.int ch), .val (.int (z - (1 : Int32))), .unset] [(.int ch)])) rfl (by rw [hml]; rfl) (argsL := [(.int ch)]) (rest := []) (lenOf own_pd5 rfl) rfl (by show 2 * 0 + _ ≤ _; exact Nat.le_of_eq rfl) (hb hby own_d23_1) (fun _ _ => ⟨rfl, e0, (by decide : 0 + 0 ≤ _), (by decide : 0 + 0 ≤ _)⟩)
  dsimp only [Pt.U, Pt.locs, Pt.cells, Pt.slots] at X1 l1 y1 z1 st1 hQ1
  replace X1 := own_cst X1 l1 y1 z1 (k2 := 0) (n2 := 0) rfl rfl
  clear l1 y1 z1
  obtain ⟨rfl, Nq1, eq1⟩ := hQ1
  have NF1 := Fr.app N0 Nq1
  refine own_go st1 ?_
  show own_Go _ _ _ _ (T1.setTop (mkF m 4 #[.val (.ref b), .val (.int ch), .val (.int (z - (1 : Int32))), .unset] [(.int (1 : Int32))]))
  refine own_go (fun _ => XS.ifYes X1.here hx rfl (pc0 := 4) (pc' := 9) rfl (hb hby own_d23_4) rfl ((if0 _ _).trans (feq (by decide)).2) (by decide) (by decide)) ?_
  show own_Go _ _ _ _ (T1.setTop (mkF m 9 #[.val (.ref b), .val (.int ch), .val (.int (z - (1 : Int32))), .unset] []))
  refine own_go (fun _ => XS.iloadN X1.here hx rfl (hb hby own_d23_9) rfl) ?_
  refine own_go (fun _ => XS.aloadN X1.here hx rfl (hb hby own_d23_10) rfl rfl) ?_
  obtain ⟨cl2, Ar2, -, Sz2, Ng2, -, -⟩ := id V
  refine own_go (X1.arraylength hx (own_hp eq1 Ar2.1) (State.isArrayOf_alike hZ.alike Ar2.2.1) (g := (mkF m 11 #[.val (.ref b), .val (.int ch), .val (.int (z - (1 : Int32))), .unset] [(.ref b), (.int (z - (1 : Int32)))])) rfl rfl (hb hby own_d23_11)) ?_
  rw [len_of Sz2 Ng2]
  refine own_go (fun _ => XS.iconst X1.here hx rfl (hb hby own_d23_12)) ?_
  show own_Go _ _ _ _ (T1.setTop (mkF m 13 #[.val (.ref b), .val (.int ch), .val (.int (z - (1 : Int32))), .unset] [(.int (1 : Int32)), (.int z), (.int (z - (1 : Int32)))]))
  refine own_go (fun _ => XS.isub X1.here hx rfl (hb hby own_d23_13) rfl) ?_
  show own_Go _ _ _ _ (T1.setTop (mkF m 14 #[.val (.ref b), .val (.int ch), .val (.int (z - (1 : Int32))), .unset] [(.int (z - (1 : Int32))), (.int (z - (1 : Int32)))]))
  obtain ⟨_, _, ⟨T3, L3, k3, n3⟩, -, X3, ⟨Lc3, hQ3, l3, y3, z3⟩, st3⟩ := Jvm.LawKit.callS X1 hx (y := (⟨"java/lang/Math", "min", "(II)I"⟩ : MethodName)) hown (mvT hZ (hw _ (List.mem_of_getElem? (i := 76) rfl))) (mvT hZ (hw _ (List.mem_of_getElem? (i := 77) rfl))) (mvT hZ (hw _ (List.mem_of_getElem? (i := 74) rfl))) (mvT hZ (hw _ (List.mem_of_getElem? (i := 78) rfl))) (by decide) (own_back (W := 0) (own_rmMn l Z a0 hw (z - (1 : Int32)) (z - (1 : Int32)) h0 n0 Z0 (Int.le_refl _)) hZ (hw _ (List.mem_of_getElem? (i := 78) rfl)) (hw _ (List.mem_of_getElem? (i := 74) rfl)) (by decide) (by decide)) (g := (mkF m 14 #[.val (.ref b), .val (.int ch), .val (.int (z - (1 : Int32))), .unset] [(.int (z - (1 : Int32))), (.int (z - (1 : Int32)))])) rfl (by rw [hml]; rfl) (argsL := [(.int (z - (1 : Int32))), (.int (z - (1 : Int32)))]) (rest := []) (lenOf own_pd6 rfl) rfl (by show 2 * 0 + _ ≤ _; exact Nat.le_of_eq rfl) (hb hby own_d23_14) (fun _ _ => ⟨rfl, eq1, (by decide : 0 + 0 ≤ _), (by decide : 0 + 0 ≤ _)⟩)
  dsimp only [Pt.U, Pt.locs, Pt.cells, Pt.slots] at X3 l3 y3 z3 st3 hQ3
  replace X3 := own_cst X3 l3 y3 z3 (k2 := 0) (n2 := 0) rfl rfl
  clear l3 y3 z3
  obtain ⟨rfl, Nq3, eq3⟩ := hQ3
  have NF3 := Fr.app NF1 Nq3
  refine own_go st3 ?_
  show own_Go _ _ _ _ (T3.setTop (mkF m 17 #[.val (.ref b), .val (.int ch), .val (.int (z - (1 : Int32))), .unset] [(.int (z - (1 : Int32)))]))
  refine own_go (fun _ => XS.istoreN X3.here hx rfl (hb hby own_d23_17) rfl (l' := #[.val (.ref b), .val (.int ch), .val (.int (z - (1 : Int32))), .val (.int (z - (1 : Int32)))]) rfl) ?_
  show own_Go _ _ _ _ (T3.setTop (mkF m 18 #[.val (.ref b), .val (.int ch), .val (.int (z - (1 : Int32))), .val (.int (z - (1 : Int32)))] []))
  have loop : ∀ (q : Nat) (i : Int32) (T : State) (L : List Loc) (X : Stand p l e ({ frames := 1, cells := 0, slots := 0, locals := 13 } : Room) s m #[(.ref b), (.int ch), (.int (z - (1 : Int32)))] below meth c T L 0 0) (N : Fr n0 L) (eT : T.heap = h0) (i1 : i.toInt < z.toInt) (ik : i.toInt + 1 = q), own_Go p.tables e below (own_End s below (fun v h L => ∃ r : Int32, v = some (.int r) ∧ Fr n0 L ∧ h = h0 ∧ -1 ≤ r.toInt ∧ r.toInt < z.toInt) ({ frames := 1, cells := 0, slots := 0, locals := 13 } : Room).cells ({ frames := 1, cells := 0, slots := 0, locals := 13 } : Room).slots) (T.setTop (mkF m 18 #[.val (.ref b), .val (.int ch), .val (.int (z - (1 : Int32))), .val (.int i)] [])) := by
    intro q
    induction q with
    | zero =>
      intro i T L X N eT i1 ik
      show own_Go _ _ _ _ (T.setTop (mkF m 18 #[.val (.ref b), .val (.int ch), .val (.int (z - (1 : Int32))), .val (.int i)] []))
      refine own_go (fun _ => XS.iloadN X.here hx rfl (hb hby own_d23_18) rfl) ?_
      show own_Go _ _ _ _ (T.setTop (mkF m 19 #[.val (.ref b), .val (.int ch), .val (.int (z - (1 : Int32))), .val (.int i)] [(.int i)]))
      refine own_go (fun _ => XS.ifYes X.here hx rfl (pc0 := 19) (pc' := 38) rfl (hb hby own_d23_19) rfl ((if0 _ _).trans (tlt (own_ltz (by omega))).1) (by decide) (by decide)) ?_
      show own_Go _ _ _ _ (T.setTop (mkF m 38 #[.val (.ref b), .val (.int ch), .val (.int (z - (1 : Int32))), .val (.int i)] []))
      refine own_go (fun _ => XS.iconst X.here hx rfl (hb hby own_d23_38)) ?_
      show own_Go _ _ _ _ (T.setTop (mkF m 39 #[.val (.ref b), .val (.int ch), .val (.int (z - (1 : Int32))), .val (.int i)] [(.int (-1 : Int32))]))
      refine own_ret X hlk (v := some (.int (-1 : Int32))) (fun h => by rw [Bd.returns] at h; cases h) (fun fs hr => retOut X hx Bd.returns rfl (Or.inl ⟨rfl, Or.inl rfl, _, rfl⟩) (hb hby own_d23_39) hr) ?_ (by decide) (by decide)
      try rw [eT]
      exact ⟨_, rfl, N, rfl, by decide, by have e1 : (-1 : Int32).toInt = -1 := rfl; omega⟩
    | succ q ih =>
      intro i T L X N eT i1 ik
      show own_Go _ _ _ _ (T.setTop (mkF m 18 #[.val (.ref b), .val (.int ch), .val (.int (z - (1 : Int32))), .val (.int i)] []))
      refine own_go (fun _ => XS.iloadN X.here hx rfl (hb hby own_d23_18) rfl) ?_
      show own_Go _ _ _ _ (T.setTop (mkF m 19 #[.val (.ref b), .val (.int ch), .val (.int (z - (1 : Int32))), .val (.int i)] [(.int i)]))
      refine own_go (fun _ => XS.ifNo X.here hx rfl (hb hby own_d23_19) rfl ((if0 _ _).trans (flt (own_n0 (by omega))).1)) ?_
      show own_Go _ _ _ _ (T.setTop (mkF m 22 #[.val (.ref b), .val (.int ch), .val (.int (z - (1 : Int32))), .val (.int i)] []))
      refine own_go (fun _ => XS.aloadN X.here hx rfl (hb hby own_d23_22) rfl rfl) ?_
      refine own_go (fun _ => XS.iloadN X.here hx rfl (hb hby own_d23_23) rfl) ?_
      show own_Go _ _ _ _ (T.setTop (mkF m 24 #[.val (.ref b), .val (.int ch), .val (.int (z - (1 : Int32))), .val (.int i)] [(.int i), (.ref b)]))
      obtain ⟨yv, hyv⟩ := own_gv V (i := i) (by omega) (by omega)
      obtain ⟨cl4, Ar4, q4, Sz4, Ng4, Hs4, Gs4⟩ := id V
      have hin4 : ¬ (i < 0 ∨ cl4.slots.size ≤ (i).toNatClampNeg) := inb_of Sz4 (own_inb (by omega) (by omega))
      have hat4 : cl4.slots[(i).toNatClampNeg]? = some (.int yv) := Hs4.at hin4 hyv
      refine own_go (X.baloadBytes hx (j := i) (v := (.int yv)) (own_hp eT Ar4.1) (State.isArrayOf_alike hZ.alike Ar4.2.1) Ar4.2.2 hin4 hat4 (g := (mkF m 24 #[.val (.ref b), .val (.int ch), .val (.int (z - (1 : Int32))), .val (.int i)] [(.int i), (.ref b)])) rfl rfl (hb hby own_d23_24)) ?_
      show own_Go _ _ _ _ (T.setTop (mkF m 25 #[.val (.ref b), .val (.int ch), .val (.int (z - (1 : Int32))), .val (.int i)] [(.int yv)]))
      refine own_go (fun _ => XS.iloadN X.here hx rfl (hb hby own_d23_25) rfl) ?_
      refine own_go (fun _ => XS.i2b X.here hx rfl (hb hby own_d23_26) rfl) ?_
      show own_Go _ _ _ _ (T.setTop (mkF m 27 #[.val (.ref b), .val (.int ch), .val (.int (z - (1 : Int32))), .val (.int i)] [(.int (ch.toInt8.toInt32)), (.int yv)]))
      by_cases hy : yv = (ch.toInt8.toInt32)
      · have _h := hy
        refine own_go (fun _ => XS.icmpNo X.here hx rfl (hb hby own_d23_27) rfl (teq hy).2) ?_
        show own_Go _ _ _ _ (T.setTop (mkF m 30 #[.val (.ref b), .val (.int ch), .val (.int (z - (1 : Int32))), .val (.int i)] []))
        refine own_go (fun _ => XS.iloadN X.here hx rfl (hb hby own_d23_30) rfl) ?_
        show own_Go _ _ _ _ (T.setTop (mkF m 31 #[.val (.ref b), .val (.int ch), .val (.int (z - (1 : Int32))), .val (.int i)] [(.int i)]))
        refine own_ret X hlk (v := some (.int i)) (fun h => by rw [Bd.returns] at h; cases h) (fun fs hr => retOut X hx Bd.returns rfl (Or.inl ⟨rfl, Or.inl rfl, _, rfl⟩) (hb hby own_d23_31) hr) ?_ (by decide) (by decide)
        try rw [eT]
        exact ⟨_, rfl, N, rfl, by omega, by omega⟩
      · have _h := hy
        refine own_go (fun _ => XS.icmpYes X.here hx rfl (pc0 := 27) (pc' := 32) rfl (hb hby own_d23_27) rfl (feq hy).2 (by decide) (by decide)) ?_
        show own_Go _ _ _ _ (T.setTop (mkF m 32 #[.val (.ref b), .val (.int ch), .val (.int (z - (1 : Int32))), .val (.int i)] []))
        refine own_go (fun _ => XS.iinc X.here hx rfl (hb hby own_d23_32) rfl (l' := #[.val (.ref b), .val (.int ch), .val (.int (z - (1 : Int32))), .val (.int (i + Int32.ofInt (-1)))]) rfl) ?_
        refine own_go (fun _ => XS.goto X.here hx rfl (pc0 := 35) (pc' := 18) rfl (hb hby own_d23_35) (by decide) (by decide)) ?_
        show own_Go _ _ _ _ (T.setTop (mkF m 18 #[.val (.ref b), .val (.int ch), .val (.int (z - (1 : Int32))), .val (.int (i + Int32.ofInt (-1)))] []))
        exact ih (i + Int32.ofInt (-1)) _ _ X N eT (own_im2 i1 ik).1 (own_im2 i1 ik).2
  exact loop z.toInt.toNat (z - (1 : Int32)) _ _ X3 NF3 eq3 (by omega) (by omega)
theorem own_d22_0 : decode jdk_42_method_83_code 0 = .ok (.aload_n 0, 1) := by decide +kernel
theorem own_d22_1 : decode jdk_42_method_83_code 1 = .ok (.invokevirtual 492, 3) := by decide +kernel
theorem own_d22_4 : decode jdk_42_method_83_code 4 = .ok (.ifCond .eq 15, 3) := by decide +kernel
theorem own_d22_7 : decode jdk_42_method_83_code 7 = .ok (.aload_n 0, 1) := by decide +kernel
theorem own_d22_8 : decode jdk_42_method_83_code 8 = .ok (.getfield 9, 3) := by decide +kernel
theorem own_d22_11 : decode jdk_42_method_83_code 11 = .ok (.iload_n 1, 1) := by decide +kernel
theorem own_d22_12 : decode jdk_42_method_83_code 12 = .ok (.iload_n 2, 1) := by decide +kernel
theorem own_d22_13 : decode jdk_42_method_83_code 13 = .ok (.invokestatic 644, 3) := by decide +kernel
theorem own_pd10 : parseMethodDescriptor "([BII)I" = some ⟨[(.array .byte), .int, .int], some .int⟩ := by decide +kernel
theorem own_d22_16 : decode jdk_42_method_83_code 16 = .ok (.goto 12, 3) := by decide +kernel
theorem own_d22_28 : decode jdk_42_method_83_code 28 = .ok (.ireturn, 1) := by decide +kernel
set_option maxRecDepth 65536 in
set_option maxHeartbeats 40000000 in
theorem own_rmLH (l : Launch) (Z : State) (a0 : Array Value) (hw : ∀ d ∈ tables_1, d.before a0 Z = true) (a1 : Addr) (b : Addr) (k : ClassId) (cs : Int32) (ch : Int32) (z : Int32) (vs : List Value) (h0 : Heap) (n0 : Nat) (Z0 : n0 ≤ h0.size) (E1 : Exa Z h0 a1 "java/lang/String") (Fv : Fld Z h0 a1 "java/lang/String" "value" "[B" (.ref b)) (Fc : Fld Z h0 a1 "java/lang/String" "coder" "B" (.int 0)) (V : Arv Z h0 b k .byte z vs (.int 0)) (O : Old Z n0 h0) (S_C : Sta Z Z.heap "java/lang/String" "COMPACT_STRINGS" "Z" (.int cs)) (hcs : ¬ cs = (0 : Int32)) (c1 : ¬ ch < (0 : Int32)) (c2 : ¬ (255 : Int32) < ch) :
    own_Met l Z [] (⟨"java/lang/String", "lastIndexOf", "(II)I"⟩ : MethodName) jdk_42_method_83_code 3 (some .int) ({ frames := 2, cells := 0, slots := 0, locals := 28 } : Room) #[(.ref a1), (.int ch), (.int (z - (1 : Int32)))] h0 (fun v h L => ∃ r : Int32, v = some (.int r) ∧ Fr n0 L ∧ h = h0 ∧ -1 ≤ r.toInt ∧ r.toInt < z.toInt) := by
  refine MetFree.of_bodySF (plainFor_of_name own_pn1) hisR ?_
  intro p e s m args below meth c s₁ Bd hml0 hP hK
  obtain ⟨rfl, hZ, hh⟩ := hP
  have hx := Bd.exec
  have hby := Bd.bytes
  have hml : c.maxLocals = 3 := hml0
  have hown : s.vm.findClass "java/lang/String" = some m.cls := findClass_of_methodNamed Bd.named
  have hnm := (name_of_methodNamed Bd.named Bd.method).1
  have hlk : meth.locks = false := Bd.notSynchronized
  have X0 : Stand p l e ({ frames := 2, cells := 0, slots := 0, locals := 28 } : Room) s m #[(.ref a1), (.int ch), (.int (z - (1 : Int32)))] below meth c s₁ [] 0 0 := Stand.of_body Bd
  have e0 : s₁.heap = h0 := by rw [← hh, Bd.state]; rfl
  have N0 := Fr.nil n0
  refine own_body (Q := fun v h L => ∃ r : Int32, v = some (.int r) ∧ Fr n0 L ∧ h = h0 ∧ -1 ≤ r.toInt ∧ r.toInt < z.toInt) ?_
  refine own_go (fun _ kont => castTop (own_ef m #[(.ref a1), (.int ch), (.int (z - (1 : Int32)))] 3 #[.val (.ref a1), .val (.int ch), .val (.int (z - (1 : Int32)))] (own_al [(.ref a1), (.int ch), (.int (z - (1 : Int32)))] 3 [.val (.ref a1), .val (.int ch), .val (.int (z - (1 : Int32)))] rfl)) kont) ?_
  show own_Go _ _ _ _ (s₁.setTop (mkF m 0 #[.val (.ref a1), .val (.int ch), .val (.int (z - (1 : Int32)))] []))
  refine own_go (fun _ => XS.aloadN X0.here hx rfl (hb hby own_d22_0) rfl rfl) ?_
  show own_Go _ _ _ _ (s₁.setTop (mkF m 1 #[.val (.ref a1), .val (.int ch), .val (.int (z - (1 : Int32)))] [(.ref a1)]))
  obtain ⟨cq1, kq1, q1a, q1b, q1c⟩ := isOf hZ e0 E1
  obtain ⟨_, _, ⟨T1, L1, k1, n1⟩, -, X1, ⟨Lc1, hQ1, l1, y1, z1⟩, st1⟩ := X0.virtualBack hx (y := (⟨"java/lang/String", "isLatin1", "()Z"⟩ : MethodName)) (z := (⟨"java/lang/String", "isLatin1", "()Z"⟩ : MethodName)) hown (mvT hZ (hw _ (List.mem_of_getElem? (i := 51) rfl))) (mvT hZ (hw _ (List.mem_of_getElem? (i := 52) rfl))) (notFace_of_selects (args := #[]) (mvT hZ (hw _ (List.mem_of_getElem? (i := 54) rfl)))) (mvT hZ (hw _ (List.mem_of_getElem? (i := 54) rfl))) (mvT hZ (hw _ (List.mem_of_getElem? (i := 53) rfl))) (by decide) (own_back (W := 0) (own_rmil0 l Z a0 hw a1 cs h0 n0 Z0 Fc O S_C hcs) hZ (hw _ (List.mem_of_getElem? (i := 55) rfl)) (hw _ (List.mem_of_getElem? (i := 6) rfl)) (by decide) (by decide)) q1a q1c (g := (mkF m 1 #[.val (.ref a1), .val (.int ch), .val (.int (z - (1 : Int32)))] [(.ref a1)])) rfl (by rw [hml]; rfl) (Steps.refl _) (argsL := []) (rest := []) (lenOf own_pd8 rfl) rfl (by show 2 * 0 + _ ≤ _; exact Nat.le_of_eq rfl) (hb hby own_d22_1) (fun _ _ => ⟨rfl, e0, (by decide : 0 + 0 ≤ _), (by decide : 0 + 0 ≤ _)⟩)
  dsimp only [Pt.U, Pt.locs, Pt.cells, Pt.slots] at X1 l1 y1 z1 st1 hQ1
  replace X1 := own_cst X1 l1 y1 z1 (k2 := 0) (n2 := 0) rfl rfl
  clear l1 y1 z1
  obtain ⟨rfl, Nq1, eq1⟩ := hQ1
  have NF1 := Fr.app N0 Nq1
  refine own_goT st1 ?_
  show own_Go _ _ _ _ (T1.setTop (mkF m 4 #[.val (.ref a1), .val (.int ch), .val (.int (z - (1 : Int32)))] [(.int (1 : Int32))]))
  refine own_go (fun _ => XS.ifNo X1.here hx rfl (hb hby own_d22_4) rfl ((if0 _ _).trans (feq (by decide)).1)) ?_
  show own_Go _ _ _ _ (T1.setTop (mkF m 7 #[.val (.ref a1), .val (.int ch), .val (.int (z - (1 : Int32)))] []))
  refine own_go (fun _ => XS.aloadN X1.here hx rfl (hb hby own_d22_7) rfl rfl) ?_
  obtain ⟨T2, X2, e2, st2⟩ := getF X1 hx hZ hown (host := "") (Or.inl (hw _ (List.mem_of_getElem? (i := 32) rfl))) Via.refl eq1 Fv (g := (mkF m 8 #[.val (.ref a1), .val (.int ch), .val (.int (z - (1 : Int32)))] [(.ref a1)])) rfl rfl (hb hby own_d22_8)
  refine own_go st2 ?_
  refine own_go (fun _ => XS.iloadN X2.here hx rfl (hb hby own_d22_11) rfl) ?_
  refine own_go (fun _ => XS.iloadN X2.here hx rfl (hb hby own_d22_12) rfl) ?_
  show own_Go _ _ _ _ (T2.setTop (mkF m 13 #[.val (.ref a1), .val (.int ch), .val (.int (z - (1 : Int32)))] [(.int (z - (1 : Int32))), (.int ch), (.ref b)]))
  obtain ⟨_, _, ⟨T3, L3, k3, n3⟩, -, X3, ⟨Lc3, hQ3, l3, y3, z3⟩, st3⟩ := Jvm.LawKit.callS X2 hx (y := (⟨"java/lang/StringLatin1", "lastIndexOf", "([BII)I"⟩ : MethodName)) hown (mvT hZ (hw _ (List.mem_of_getElem? (i := 108) rfl))) (mvT hZ (hw _ (List.mem_of_getElem? (i := 109) rfl))) (mvT hZ (hw _ (List.mem_of_getElem? (i := 19) rfl))) (mvT hZ (hw _ (List.mem_of_getElem? (i := 110) rfl))) (by decide) (own_back (W := 0) (own_rmLG l Z a0 hw b k ch z vs h0 n0 Z0 V c1 c2) hZ (hw _ (List.mem_of_getElem? (i := 110) rfl)) (hw _ (List.mem_of_getElem? (i := 19) rfl)) (by decide) (by decide)) (g := (mkF m 13 #[.val (.ref a1), .val (.int ch), .val (.int (z - (1 : Int32)))] [(.int (z - (1 : Int32))), (.int ch), (.ref b)])) rfl (by rw [hml]; rfl) (argsL := [(.ref b), (.int ch), (.int (z - (1 : Int32)))]) (rest := []) (lenOf own_pd10 rfl) rfl (by show 2 * 0 + _ ≤ _; exact Nat.le_of_eq rfl) (hb hby own_d22_13) (fun _ _ => ⟨rfl, e2, (by decide : 0 + 0 ≤ _), (by decide : 0 + 0 ≤ _)⟩)
  dsimp only [Pt.U, Pt.locs, Pt.cells, Pt.slots] at X3 l3 y3 z3 st3 hQ3
  replace X3 := own_cst X3 l3 y3 z3 (k2 := 0) (n2 := 0) rfl rfl
  clear l3 y3 z3
  obtain ⟨r3, rfl, Nq3, eq3, har3, hbr3⟩ := hQ3
  have NF3 := Fr.app NF1 Nq3
  refine own_go st3 ?_
  show own_Go _ _ _ _ (T3.setTop (mkF m 16 #[.val (.ref a1), .val (.int ch), .val (.int (z - (1 : Int32)))] [(.int r3)]))
  refine own_go (fun _ => XS.goto X3.here hx rfl (pc0 := 16) (pc' := 28) rfl (hb hby own_d22_16) (by decide) (by decide)) ?_
  show own_Go _ _ _ _ (T3.setTop (mkF m 28 #[.val (.ref a1), .val (.int ch), .val (.int (z - (1 : Int32)))] [(.int r3)]))
  refine own_ret X3 hlk (v := some (.int r3)) (fun h => by rw [Bd.returns] at h; cases h) (fun fs hr => retOut X3 hx Bd.returns rfl (Or.inl ⟨rfl, Or.inl rfl, _, rfl⟩) (hb hby own_d22_28) hr) ?_ (by decide) (by decide)
  try rw [eq3]
  exact ⟨_, rfl, NF3, rfl, har3, hbr3⟩
theorem own_d21_0 : decode jdk_42_method_82_code 0 = .ok (.aload_n 0, 1) := by decide +kernel
theorem own_d21_1 : decode jdk_42_method_82_code 1 = .ok (.iload_n 1, 1) := by decide +kernel
theorem own_d21_2 : decode jdk_42_method_82_code 2 = .ok (.aload_n 0, 1) := by decide +kernel
theorem own_d21_3 : decode jdk_42_method_82_code 3 = .ok (.invokevirtual 505, 3) := by decide +kernel
theorem own_d21_6 : decode jdk_42_method_82_code 6 = .ok (.iconst 1, 1) := by decide +kernel
theorem own_d21_7 : decode jdk_42_method_82_code 7 = .ok (.isub, 1) := by decide +kernel
theorem own_d21_8 : decode jdk_42_method_82_code 8 = .ok (.invokevirtual 641, 3) := by decide +kernel
theorem own_d21_11 : decode jdk_42_method_82_code 11 = .ok (.ireturn, 1) := by decide +kernel
set_option maxRecDepth 65536 in
set_option maxHeartbeats 40000000 in
theorem own_rmLI (l : Launch) (Z : State) (a0 : Array Value) (hw : ∀ d ∈ tables_1, d.before a0 Z = true) (a1 : Addr) (b : Addr) (k : ClassId) (cs : Int32) (ch : Int32) (z : Int32) (vs : List Value) (h0 : Heap) (n0 : Nat) (Z0 : n0 ≤ h0.size) (E1 : Exa Z h0 a1 "java/lang/String") (Fv : Fld Z h0 a1 "java/lang/String" "value" "[B" (.ref b)) (Fc : Fld Z h0 a1 "java/lang/String" "coder" "B" (.int 0)) (V : Arv Z h0 b k .byte z vs (.int 0)) (O : Old Z n0 h0) (S_C : Sta Z Z.heap "java/lang/String" "COMPACT_STRINGS" "Z" (.int cs)) (hcs : ¬ cs = (0 : Int32)) (c1 : ¬ ch < (0 : Int32)) (c2 : ¬ (255 : Int32) < ch) :
    own_Met l Z [] (⟨"java/lang/String", "lastIndexOf", "(I)I"⟩ : MethodName) jdk_42_method_82_code 2 (some .int) ({ frames := 3, cells := 0, slots := 0, locals := 42 } : Room) #[(.ref a1), (.int ch)] h0 (fun v h L => ∃ r : Int32, v = some (.int r) ∧ Fr n0 L ∧ h = h0 ∧ -1 ≤ r.toInt ∧ r.toInt < z.toInt) := by
  refine MetFree.of_bodySF (plainFor_of_name own_pn1) hisR ?_
  intro p e s m args below meth c s₁ Bd hml0 hP hK
  obtain ⟨rfl, hZ, hh⟩ := hP
  have hx := Bd.exec
  have hby := Bd.bytes
  have hml : c.maxLocals = 2 := hml0
  have hown : s.vm.findClass "java/lang/String" = some m.cls := findClass_of_methodNamed Bd.named
  have hnm := (name_of_methodNamed Bd.named Bd.method).1
  have hlk : meth.locks = false := Bd.notSynchronized
  have X0 : Stand p l e ({ frames := 3, cells := 0, slots := 0, locals := 42 } : Room) s m #[(.ref a1), (.int ch)] below meth c s₁ [] 0 0 := Stand.of_body Bd
  have e0 : s₁.heap = h0 := by rw [← hh, Bd.state]; rfl
  have N0 := Fr.nil n0
  refine own_body (Q := fun v h L => ∃ r : Int32, v = some (.int r) ∧ Fr n0 L ∧ h = h0 ∧ -1 ≤ r.toInt ∧ r.toInt < z.toInt) ?_
  refine own_go (fun _ kont => castTop (own_ef m #[(.ref a1), (.int ch)] 2 #[.val (.ref a1), .val (.int ch)] (own_al [(.ref a1), (.int ch)] 2 [.val (.ref a1), .val (.int ch)] rfl)) kont) ?_
  show own_Go _ _ _ _ (s₁.setTop (mkF m 0 #[.val (.ref a1), .val (.int ch)] []))
  refine own_go (fun _ => XS.aloadN X0.here hx rfl (hb hby own_d21_0) rfl rfl) ?_
  refine own_go (fun _ => XS.iloadN X0.here hx rfl (hb hby own_d21_1) rfl) ?_
  refine own_go (fun _ => XS.aloadN X0.here hx rfl (hb hby own_d21_2) rfl rfl) ?_
  show own_Go _ _ _ _ (s₁.setTop (mkF m 3 #[.val (.ref a1), .val (.int ch)] [(.ref a1), (.int ch), (.ref a1)]))
  obtain ⟨cq1, kq1, q1a, q1b, q1c⟩ := isOf hZ e0 E1
  obtain ⟨_, _, ⟨T1, L1, k1, n1⟩, -, X1, ⟨Lc1, hQ1, l1, y1, z1⟩, st1⟩ := X0.virtualBack hx (y := (⟨"java/lang/String", "length", "()I"⟩ : MethodName)) (z := (⟨"java/lang/String", "length", "()I"⟩ : MethodName)) hown (mvT hZ (hw _ (List.mem_of_getElem? (i := 56) rfl))) (mvT hZ (hw _ (List.mem_of_getElem? (i := 57) rfl))) (notFace_of_selects (args := #[]) (mvT hZ (hw _ (List.mem_of_getElem? (i := 59) rfl)))) (mvT hZ (hw _ (List.mem_of_getElem? (i := 59) rfl))) (mvT hZ (hw _ (List.mem_of_getElem? (i := 58) rfl))) (by decide) (own_back (W := 2) (own_rmln0 l Z a0 hw a1 b k cs z z vs h0 n0 Z0 E1 Fv Fc V O S_C hcs (own_shr0 z)) hZ (hw _ (List.mem_of_getElem? (i := 60) rfl)) (hw _ (List.mem_of_getElem? (i := 6) rfl)) (by decide) (by decide)) q1a q1c (g := (mkF m 3 #[.val (.ref a1), .val (.int ch)] [(.ref a1), (.int ch), (.ref a1)])) rfl (by rw [hml]; rfl) (Steps.refl _) (argsL := []) (rest := [(.int ch), (.ref a1)]) (lenOf own_pd9 rfl) rfl (by show 2 * 0 + _ ≤ _; exact Nat.le_of_eq rfl) (hb hby own_d21_3) (fun _ _ => ⟨rfl, e0, (by decide : 0 + 0 ≤ _), (by decide : 0 + 0 ≤ _)⟩)
  dsimp only [Pt.U, Pt.locs, Pt.cells, Pt.slots] at X1 l1 y1 z1 st1 hQ1
  replace X1 := own_cst X1 l1 y1 z1 (k2 := 0) (n2 := 0) rfl rfl
  clear l1 y1 z1
  obtain ⟨rfl, Nq1, eq1⟩ := hQ1
  have NF1 := Fr.app N0 Nq1
  refine own_goT st1 ?_
  show own_Go _ _ _ _ (T1.setTop (mkF m 6 #[.val (.ref a1), .val (.int ch)] [(.int z), (.int ch), (.ref a1)]))
  refine own_go (fun _ => XS.iconst X1.here hx rfl (hb hby own_d21_6)) ?_
  refine own_go (fun _ => XS.isub X1.here hx rfl (hb hby own_d21_7) rfl) ?_
  show own_Go _ _ _ _ (T1.setTop (mkF m 8 #[.val (.ref a1), .val (.int ch)] [(.int (z - (1 : Int32))), (.int ch), (.ref a1)]))
  obtain ⟨cq2, kq2, q2a, q2b, q2c⟩ := isOf hZ eq1 E1
  obtain ⟨_, _, ⟨T2, L2, k2, n2⟩, -, X2, ⟨Lc2, hQ2, l2, y2, z2⟩, st2⟩ := X1.virtualBack hx (y := (⟨"java/lang/String", "lastIndexOf", "(II)I"⟩ : MethodName)) (z := (⟨"java/lang/String", "lastIndexOf", "(II)I"⟩ : MethodName)) hown (mvT hZ (hw _ (List.mem_of_getElem? (i := 103) rfl))) (mvT hZ (hw _ (List.mem_of_getElem? (i := 104) rfl))) (notFace_of_selects (args := #[]) (mvT hZ (hw _ (List.mem_of_getElem? (i := 106) rfl)))) (mvT hZ (hw _ (List.mem_of_getElem? (i := 106) rfl))) (mvT hZ (hw _ (List.mem_of_getElem? (i := 105) rfl))) (by decide) (own_back (W := 0) (own_rmLH l Z a0 hw a1 b k cs ch z vs h0 n0 Z0 E1 Fv Fc V O S_C hcs c1 c2) hZ (hw _ (List.mem_of_getElem? (i := 107) rfl)) (hw _ (List.mem_of_getElem? (i := 6) rfl)) (by decide) (by decide)) q2a q2c (g := (mkF m 8 #[.val (.ref a1), .val (.int ch)] [(.int (z - (1 : Int32))), (.int ch), (.ref a1)])) rfl (by rw [hml]; rfl) (Steps.refl _) (argsL := [(.int ch), (.int (z - (1 : Int32)))]) (rest := []) (lenOf own_pd6 rfl) rfl (by show 2 * 0 + _ ≤ _; exact Nat.le_of_eq rfl) (hb hby own_d21_8) (fun _ _ => ⟨rfl, eq1, (by decide : 0 + 0 ≤ _), (by decide : 0 + 0 ≤ _)⟩)
  dsimp only [Pt.U, Pt.locs, Pt.cells, Pt.slots] at X2 l2 y2 z2 st2 hQ2
  replace X2 := own_cst X2 l2 y2 z2 (k2 := 0) (n2 := 0) rfl rfl
  clear l2 y2 z2
  obtain ⟨r2, rfl, Nq2, eq2, har2, hbr2⟩ := hQ2
  have NF2 := Fr.app NF1 Nq2
  refine own_goT st2 ?_
  show own_Go _ _ _ _ (T2.setTop (mkF m 11 #[.val (.ref a1), .val (.int ch)] [(.int r2)]))
  refine own_ret X2 hlk (v := some (.int r2)) (fun h => by rw [Bd.returns] at h; cases h) (fun fs hr => retOut X2 hx Bd.returns rfl (Or.inl ⟨rfl, Or.inl rfl, _, rfl⟩) (hb hby own_d21_11) hr) ?_ (by decide) (by decide)
  try rw [eq2]
  exact ⟨_, rfl, NF2, rfl, har2, hbr2⟩
theorem own_pn3 : plainName "jdk/internal/util/Preconditions" = true := by first | (simp [plainName, overriddenIn]; done) | decide +kernel
theorem own_d20_0 : decode jdk_41_method_12_code 0 = .ok (.iload_n 0, 1) := by decide +kernel
theorem own_d20_1 : decode jdk_41_method_12_code 1 = .ok (.ifCond .lt 13, 3) := by decide +kernel
theorem own_d20_4 : decode jdk_41_method_12_code 4 = .ok (.iload_n 0, 1) := by decide +kernel
theorem own_d20_5 : decode jdk_41_method_12_code 5 = .ok (.iload_n 1, 1) := by decide +kernel
theorem own_d20_6 : decode jdk_41_method_12_code 6 = .ok (.if_icmp .gt 8, 3) := by decide +kernel
theorem own_d20_9 : decode jdk_41_method_12_code 9 = .ok (.iload_n 1, 1) := by decide +kernel
theorem own_d20_10 : decode jdk_41_method_12_code 10 = .ok (.iload_n 2, 1) := by decide +kernel
theorem own_d20_11 : decode jdk_41_method_12_code 11 = .ok (.if_icmp .le 11, 3) := by decide +kernel
theorem own_d20_22 : decode jdk_41_method_12_code 22 = .ok (.iload_n 0, 1) := by decide +kernel
theorem own_d20_23 : decode jdk_41_method_12_code 23 = .ok (.ireturn, 1) := by decide +kernel
set_option maxRecDepth 65536 in
set_option maxHeartbeats 40000000 in
theorem own_rmFN (l : Launch) (Z : State) (a0 : Array Value) (hw : ∀ d ∈ tables_1, d.before a0 Z = true) (fb : Int32) (fe : Int32) (z : Int32) (h0 : Heap) (n0 : Nat) (Z0 : n0 ≤ h0.size) (f1 : ¬ fb < (0 : Int32)) (f2 : ¬ fe < fb) (f3 : ¬ z < fe) :
    own_Met l Z [] (⟨"jdk/internal/util/Preconditions", "checkFromToIndex", "(IIILjava/util/function/BiFunction;)I"⟩ : MethodName) jdk_41_method_12_code 4 (some .int) ({ frames := 0, cells := 0, slots := 0, locals := 0 } : Room) #[(.int fb), (.int fe), (.int z), .null] h0 (fun v h L => v = some (.int fb) ∧ Fr n0 L ∧ h = h0) := by
  refine MetFree.of_bodySF (plainFor_of_name own_pn3) hisR ?_
  intro p e s m args below meth c s₁ Bd hml0 hP hK
  obtain ⟨rfl, hZ, hh⟩ := hP
  have hx := Bd.exec
  have hby := Bd.bytes
  have hml : c.maxLocals = 4 := hml0
  have hown : s.vm.findClass "jdk/internal/util/Preconditions" = some m.cls := findClass_of_methodNamed Bd.named
  have hnm := (name_of_methodNamed Bd.named Bd.method).1
  have hlk : meth.locks = false := Bd.notSynchronized
  have X0 : Stand p l e ({ frames := 0, cells := 0, slots := 0, locals := 0 } : Room) s m #[(.int fb), (.int fe), (.int z), .null] below meth c s₁ [] 0 0 := Stand.of_body Bd
  have e0 : s₁.heap = h0 := by rw [← hh, Bd.state]; rfl
  have N0 := Fr.nil n0
  refine own_body (Q := fun v h L => v = some (.int fb) ∧ Fr n0 L ∧ h = h0) ?_
  refine own_go (fun _ kont => castTop (own_ef m #[(.int fb), (.int fe), (.int z), .null] 4 #[.val (.int fb), .val (.int fe), .val (.int z), .val .null] (own_al [(.int fb), (.int fe), (.int z), .null] 4 [.val (.int fb), .val (.int fe), .val (.int z), .val .null] rfl)) kont) ?_
  show own_Go _ _ _ _ (s₁.setTop (mkF m 0 #[.val (.int fb), .val (.int fe), .val (.int z), .val .null] []))
  refine own_go (fun _ => XS.iloadN X0.here hx rfl (hb hby own_d20_0) rfl) ?_
  show own_Go _ _ _ _ (s₁.setTop (mkF m 1 #[.val (.int fb), .val (.int fe), .val (.int z), .val .null] [(.int fb)]))
  refine own_go (fun _ => XS.ifNo X0.here hx rfl (hb hby own_d20_1) rfl ((if0 _ _).trans (flt f1).1)) ?_
  show own_Go _ _ _ _ (s₁.setTop (mkF m 4 #[.val (.int fb), .val (.int fe), .val (.int z), .val .null] []))
  refine own_go (fun _ => XS.iloadN X0.here hx rfl (hb hby own_d20_4) rfl) ?_
  refine own_go (fun _ => XS.iloadN X0.here hx rfl (hb hby own_d20_5) rfl) ?_
  show own_Go _ _ _ _ (s₁.setTop (mkF m 6 #[.val (.int fb), .val (.int fe), .val (.int z), .val .null] [(.int fe), (.int fb)]))
  refine own_go (fun _ => XS.icmpNo X0.here hx rfl (hb hby own_d20_6) rfl (flt f2).2.2.1) ?_
  show own_Go _ _ _ _ (s₁.setTop (mkF m 9 #[.val (.int fb), .val (.int fe), .val (.int z), .val .null] []))
  refine own_go (fun _ => XS.iloadN X0.here hx rfl (hb hby own_d20_9) rfl) ?_
  refine own_go (fun _ => XS.iloadN X0.here hx rfl (hb hby own_d20_10) rfl) ?_
  show own_Go _ _ _ _ (s₁.setTop (mkF m 11 #[.val (.int fb), .val (.int fe), .val (.int z), .val .null] [(.int z), (.int fe)]))
  refine own_go (fun _ => XS.icmpYes X0.here hx rfl (pc0 := 11) (pc' := 22) rfl (hb hby own_d20_11) rfl (flt f3).2.2.2 (by decide) (by decide)) ?_
  show own_Go _ _ _ _ (s₁.setTop (mkF m 22 #[.val (.int fb), .val (.int fe), .val (.int z), .val .null] []))
  refine own_go (fun _ => XS.iloadN X0.here hx rfl (hb hby own_d20_22) rfl) ?_
  show own_Go _ _ _ _ (s₁.setTop (mkF m 23 #[.val (.int fb), .val (.int fe), .val (.int z), .val .null] [(.int fb)]))
  refine own_ret X0 hlk (v := some (.int fb)) (fun h => by rw [Bd.returns] at h; cases h) (fun fs hr => retOut X0 hx Bd.returns rfl (Or.inl ⟨rfl, Or.inl rfl, _, rfl⟩) (hb hby own_d20_23) hr) ?_ (by decide) (by decide)
  try rw [e0]
  exact ⟨rfl, N0, rfl⟩
set_option maxRecDepth 65536 in
set_option maxHeartbeats 40000000 in
theorem own_rmFR (l : Launch) (Z : State) (a0 : Array Value) (hw : ∀ d ∈ tables_1, d.before a0 Z = true) (fb : Int32) (fe : Int32) (z : Int32) (o : Addr) (h0 : Heap) (n0 : Nat) (Z0 : n0 ≤ h0.size) (f1 : ¬ fb < (0 : Int32)) (f2 : ¬ fe < fb) (f3 : ¬ z < fe) :
    own_Met l Z [] (⟨"jdk/internal/util/Preconditions", "checkFromToIndex", "(IIILjava/util/function/BiFunction;)I"⟩ : MethodName) jdk_41_method_12_code 4 (some .int) ({ frames := 0, cells := 0, slots := 0, locals := 0 } : Room) #[(.int fb), (.int fe), (.int z), (.ref o)] h0 (fun v h L => v = some (.int fb) ∧ Fr n0 L ∧ h = h0) := by
  refine MetFree.of_bodySF (plainFor_of_name own_pn3) hisR ?_
  intro p e s m args below meth c s₁ Bd hml0 hP hK
  obtain ⟨rfl, hZ, hh⟩ := hP
  have hx := Bd.exec
  have hby := Bd.bytes
  have hml : c.maxLocals = 4 := hml0
  have hown : s.vm.findClass "jdk/internal/util/Preconditions" = some m.cls := findClass_of_methodNamed Bd.named
  have hnm := (name_of_methodNamed Bd.named Bd.method).1
  have hlk : meth.locks = false := Bd.notSynchronized
  have X0 : Stand p l e ({ frames := 0, cells := 0, slots := 0, locals := 0 } : Room) s m #[(.int fb), (.int fe), (.int z), (.ref o)] below meth c s₁ [] 0 0 := Stand.of_body Bd
  have e0 : s₁.heap = h0 := by rw [← hh, Bd.state]; rfl
  have N0 := Fr.nil n0
  refine own_body (Q := fun v h L => v = some (.int fb) ∧ Fr n0 L ∧ h = h0) ?_
  refine own_go (fun _ kont => castTop (own_ef m #[(.int fb), (.int fe), (.int z), (.ref o)] 4 #[.val (.int fb), .val (.int fe), .val (.int z), .val (.ref o)] (own_al [(.int fb), (.int fe), (.int z), (.ref o)] 4 [.val (.int fb), .val (.int fe), .val (.int z), .val (.ref o)] rfl)) kont) ?_
  show own_Go _ _ _ _ (s₁.setTop (mkF m 0 #[.val (.int fb), .val (.int fe), .val (.int z), .val (.ref o)] []))
  refine own_go (fun _ => XS.iloadN X0.here hx rfl (hb hby own_d20_0) rfl) ?_
  show own_Go _ _ _ _ (s₁.setTop (mkF m 1 #[.val (.int fb), .val (.int fe), .val (.int z), .val (.ref o)] [(.int fb)]))
  refine own_go (fun _ => XS.ifNo X0.here hx rfl (hb hby own_d20_1) rfl ((if0 _ _).trans (flt f1).1)) ?_
  show own_Go _ _ _ _ (s₁.setTop (mkF m 4 #[.val (.int fb), .val (.int fe), .val (.int z), .val (.ref o)] []))
  refine own_go (fun _ => XS.iloadN X0.here hx rfl (hb hby own_d20_4) rfl) ?_
  refine own_go (fun _ => XS.iloadN X0.here hx rfl (hb hby own_d20_5) rfl) ?_
  show own_Go _ _ _ _ (s₁.setTop (mkF m 6 #[.val (.int fb), .val (.int fe), .val (.int z), .val (.ref o)] [(.int fe), (.int fb)]))
  refine own_go (fun _ => XS.icmpNo X0.here hx rfl (hb hby own_d20_6) rfl (flt f2).2.2.1) ?_
  show own_Go _ _ _ _ (s₁.setTop (mkF m 9 #[.val (.int fb), .val (.int fe), .val (.int z), .val (.ref o)] []))
  refine own_go (fun _ => XS.iloadN X0.here hx rfl (hb hby own_d20_9) rfl) ?_
  refine own_go (fun _ => XS.iloadN X0.here hx rfl (hb hby own_d20_10) rfl) ?_
  show own_Go _ _ _ _ (s₁.setTop (mkF m 11 #[.val (.int fb), .val (.int fe), .val (.int z), .val (.ref o)] [(.int z), (.int fe)]))
  refine own_go (fun _ => XS.icmpYes X0.here hx rfl (pc0 := 11) (pc' := 22) rfl (hb hby own_d20_11) rfl (flt f3).2.2.2 (by decide) (by decide)) ?_
  show own_Go _ _ _ _ (s₁.setTop (mkF m 22 #[.val (.int fb), .val (.int fe), .val (.int z), .val (.ref o)] []))
  refine own_go (fun _ => XS.iloadN X0.here hx rfl (hb hby own_d20_22) rfl) ?_
  show own_Go _ _ _ _ (s₁.setTop (mkF m 23 #[.val (.int fb), .val (.int fe), .val (.int z), .val (.ref o)] [(.int fb)]))
  refine own_ret X0 hlk (v := some (.int fb)) (fun h => by rw [Bd.returns] at h; cases h) (fun fs hr => retOut X0 hx Bd.returns rfl (Or.inl ⟨rfl, Or.inl rfl, _, rfl⟩) (hb hby own_d20_23) hr) ?_ (by decide) (by decide)
  try rw [e0]
  exact ⟨rfl, N0, rfl⟩
theorem own_d19_0 : decode jdk_42_method_158_code 0 = .ok (.iload_n 0, 1) := by decide +kernel
theorem own_d19_1 : decode jdk_42_method_158_code 1 = .ok (.iload_n 1, 1) := by decide +kernel
theorem own_d19_2 : decode jdk_42_method_158_code 2 = .ok (.iload_n 2, 1) := by decide +kernel
theorem own_d19_3 : decode jdk_42_method_158_code 3 = .ok (.getstatic 1053, 3) := by decide +kernel
theorem own_d19_6 : decode jdk_42_method_158_code 6 = .ok (.invokestatic 1062, 3) := by decide +kernel
theorem own_pd11 : parseMethodDescriptor "(IIILjava/util/function/BiFunction;)I" = some ⟨[.int, .int, .int, (.object "java/util/function/BiFunction")], some .int⟩ := by decide +kernel
theorem own_d19_9 : decode jdk_42_method_158_code 9 = .ok (.pop, 1) := by decide +kernel
theorem own_d19_10 : decode jdk_42_method_158_code 10 = .ok (.return_, 1) := by decide +kernel
set_option maxRecDepth 65536 in
set_option maxHeartbeats 40000000 in
theorem own_rmCBE (l : Launch) (Z : State) (a0 : Array Value) (hw : ∀ d ∈ tables_1, d.before a0 Z = true) (fb : Int32) (fe : Int32) (z : Int32) (fmt : Value) (h0 : Heap) (n0 : Nat) (Z0 : n0 ≤ h0.size) (f1 : ¬ fb < (0 : Int32)) (f2 : ¬ fe < fb) (f3 : ¬ z < fe) (O : Old Z n0 h0) (S_F : Sta Z Z.heap "jdk/internal/util/Preconditions" "SIOOBE_FORMATTER" "Ljava/util/function/BiFunction;" fmt) (hfmt : fmt = .null ∨ ∃ o : Addr, fmt = .ref o) :
    own_Met l Z [] (⟨"java/lang/String", "checkBoundsBeginEnd", "(III)V"⟩ : MethodName) jdk_42_method_158_code 3 none ({ frames := 1, cells := 0, slots := 0, locals := 15 } : Room) #[(.int fb), (.int fe), (.int z)] h0 (fun v h L => v = none ∧ Fr n0 L ∧ h = h0) := by
  refine MetFree.of_bodySF (plainFor_of_name own_pn1) hisR ?_
  intro p e s m args below meth c s₁ Bd hml0 hP hK
  obtain ⟨rfl, hZ, hh⟩ := hP
  have hx := Bd.exec
  have hby := Bd.bytes
  have hml : c.maxLocals = 3 := hml0
  have hown : s.vm.findClass "java/lang/String" = some m.cls := findClass_of_methodNamed Bd.named
  have hnm := (name_of_methodNamed Bd.named Bd.method).1
  have hlk : meth.locks = false := Bd.notSynchronized
  have X0 : Stand p l e ({ frames := 1, cells := 0, slots := 0, locals := 15 } : Room) s m #[(.int fb), (.int fe), (.int z)] below meth c s₁ [] 0 0 := Stand.of_body Bd
  have e0 : s₁.heap = h0 := by rw [← hh, Bd.state]; rfl
  have N0 := Fr.nil n0
  refine own_body (Q := fun v h L => v = none ∧ Fr n0 L ∧ h = h0) ?_
  refine own_go (fun _ kont => castTop (own_ef m #[(.int fb), (.int fe), (.int z)] 3 #[.val (.int fb), .val (.int fe), .val (.int z)] (own_al [(.int fb), (.int fe), (.int z)] 3 [.val (.int fb), .val (.int fe), .val (.int z)] rfl)) kont) ?_
  show own_Go _ _ _ _ (s₁.setTop (mkF m 0 #[.val (.int fb), .val (.int fe), .val (.int z)] []))
  rcases hfmt with rfl | ⟨o, rfl⟩
  · have _u := trivial
    refine own_go (fun _ => XS.iloadN X0.here hx rfl (hb hby own_d19_0) rfl) ?_
    refine own_go (fun _ => XS.iloadN X0.here hx rfl (hb hby own_d19_1) rfl) ?_
    refine own_go (fun _ => XS.iloadN X0.here hx rfl (hb hby own_d19_2) rfl) ?_
    show own_Go _ _ _ _ (s₁.setTop (mkF m 3 #[.val (.int fb), .val (.int fe), .val (.int z)] [(.int z), (.int fe), (.int fb)]))
    obtain ⟨T1, X1, e1, st1⟩ := getS2 X0 hx hZ hown (host := "") (Or.inl (hw _ (List.mem_of_getElem? (i := 93) rfl))) Via.refl e0 (S_F.ext O.2) (g := (mkF m 3 #[.val (.int fb), .val (.int fe), .val (.int z)] [(.int z), (.int fe), (.int fb)])) rfl (hb hby own_d19_3)
    refine own_go st1 ?_
    show own_Go _ _ _ _ (T1.setTop (mkF m 6 #[.val (.int fb), .val (.int fe), .val (.int z)] [.null, (.int z), (.int fe), (.int fb)]))
    obtain ⟨_, _, ⟨T2, L2, k2, n2⟩, -, X2, ⟨Lc2, hQ2, l2, y2, z2⟩, st2⟩ := Jvm.LawKit.callS X1 hx (y := (⟨"jdk/internal/util/Preconditions", "checkFromToIndex", "(IIILjava/util/function/BiFunction;)I"⟩ : MethodName)) hown (mvT hZ (hw _ (List.mem_of_getElem? (i := 95) rfl))) (mvT hZ (hw _ (List.mem_of_getElem? (i := 96) rfl))) (mvT hZ (hw _ (List.mem_of_getElem? (i := 94) rfl))) (mvT hZ (hw _ (List.mem_of_getElem? (i := 97) rfl))) (by decide) (own_back (W := 0) (own_rmFN l Z a0 hw fb fe z h0 n0 Z0 f1 f2 f3) hZ (hw _ (List.mem_of_getElem? (i := 97) rfl)) (hw _ (List.mem_of_getElem? (i := 94) rfl)) (by decide) (by decide)) (g := (mkF m 6 #[.val (.int fb), .val (.int fe), .val (.int z)] [.null, (.int z), (.int fe), (.int fb)])) rfl (by rw [hml]; rfl) (argsL := [(.int fb), (.int fe), (.int z), .null]) (rest := []) (lenOf own_pd11 rfl) rfl (by show 2 * 0 + _ ≤ _; exact Nat.le_of_eq rfl) (hb hby own_d19_6) (fun _ _ => ⟨rfl, e1, (by decide : 0 + 0 ≤ _), (by decide : 0 + 0 ≤ _)⟩)
    dsimp only [Pt.U, Pt.locs, Pt.cells, Pt.slots] at X2 l2 y2 z2 st2 hQ2
    replace X2 := own_cst X2 l2 y2 z2 (k2 := 0) (n2 := 0) rfl rfl
    clear l2 y2 z2
    obtain ⟨rfl, Nq2, eq2⟩ := hQ2
    have NF2 := Fr.app N0 Nq2
    refine own_go st2 ?_
    show own_Go _ _ _ _ (T2.setTop (mkF m 9 #[.val (.int fb), .val (.int fe), .val (.int z)] [(.int fb)]))
    refine own_go (fun _ => XS.pop X2.here hx rfl (hb hby own_d19_9) rfl rfl) ?_
    show own_Go _ _ _ _ (T2.setTop (mkF m 10 #[.val (.int fb), .val (.int fe), .val (.int z)] []))
    refine own_ret X2 hlk (v := none) (fun _ => rfl) (fun fs hr => X2.returnOut hx Bd.returns (hb hby own_d19_10) hr) ?_ (by decide) (by decide)
    try rw [eq2]
    exact ⟨rfl, NF2, rfl⟩
  · have _u := trivial
    refine own_go (fun _ => XS.iloadN X0.here hx rfl (hb hby own_d19_0) rfl) ?_
    refine own_go (fun _ => XS.iloadN X0.here hx rfl (hb hby own_d19_1) rfl) ?_
    refine own_go (fun _ => XS.iloadN X0.here hx rfl (hb hby own_d19_2) rfl) ?_
    show own_Go _ _ _ _ (s₁.setTop (mkF m 3 #[.val (.int fb), .val (.int fe), .val (.int z)] [(.int z), (.int fe), (.int fb)]))
    obtain ⟨T3, X3, e3, st3⟩ := getS2 X0 hx hZ hown (host := "") (Or.inl (hw _ (List.mem_of_getElem? (i := 93) rfl))) Via.refl e0 (S_F.ext O.2) (g := (mkF m 3 #[.val (.int fb), .val (.int fe), .val (.int z)] [(.int z), (.int fe), (.int fb)])) rfl (hb hby own_d19_3)
    refine own_go st3 ?_
    show own_Go _ _ _ _ (T3.setTop (mkF m 6 #[.val (.int fb), .val (.int fe), .val (.int z)] [(.ref o), (.int z), (.int fe), (.int fb)]))
    obtain ⟨_, _, ⟨T4, L4, k4, n4⟩, -, X4, ⟨Lc4, hQ4, l4, y4, z4⟩, st4⟩ := Jvm.LawKit.callS X3 hx (y := (⟨"jdk/internal/util/Preconditions", "checkFromToIndex", "(IIILjava/util/function/BiFunction;)I"⟩ : MethodName)) hown (mvT hZ (hw _ (List.mem_of_getElem? (i := 95) rfl))) (mvT hZ (hw _ (List.mem_of_getElem? (i := 96) rfl))) (mvT hZ (hw _ (List.mem_of_getElem? (i := 94) rfl))) (mvT hZ (hw _ (List.mem_of_getElem? (i := 97) rfl))) (by decide) (own_back (W := 0) (own_rmFR l Z a0 hw fb fe z o h0 n0 Z0 f1 f2 f3) hZ (hw _ (List.mem_of_getElem? (i := 97) rfl)) (hw _ (List.mem_of_getElem? (i := 94) rfl)) (by decide) (by decide)) (g := (mkF m 6 #[.val (.int fb), .val (.int fe), .val (.int z)] [(.ref o), (.int z), (.int fe), (.int fb)])) rfl (by rw [hml]; rfl) (argsL := [(.int fb), (.int fe), (.int z), (.ref o)]) (rest := []) (lenOf own_pd11 rfl) rfl (by show 2 * 0 + _ ≤ _; exact Nat.le_of_eq rfl) (hb hby own_d19_6) (fun _ _ => ⟨rfl, e3, (by decide : 0 + 0 ≤ _), (by decide : 0 + 0 ≤ _)⟩)
    dsimp only [Pt.U, Pt.locs, Pt.cells, Pt.slots] at X4 l4 y4 z4 st4 hQ4
    replace X4 := own_cst X4 l4 y4 z4 (k2 := 0) (n2 := 0) rfl rfl
    clear l4 y4 z4
    obtain ⟨rfl, Nq4, eq4⟩ := hQ4
    have NF4 := Fr.app N0 Nq4
    refine own_go st4 ?_
    show own_Go _ _ _ _ (T4.setTop (mkF m 9 #[.val (.int fb), .val (.int fe), .val (.int z)] [(.int fb)]))
    refine own_go (fun _ => XS.pop X4.here hx rfl (hb hby own_d19_9) rfl rfl) ?_
    show own_Go _ _ _ _ (T4.setTop (mkF m 10 #[.val (.int fb), .val (.int fe), .val (.int z)] []))
    refine own_ret X4 hlk (v := none) (fun _ => rfl) (fun fs hr => X4.returnOut hx Bd.returns (hb hby own_d19_10) hr) ?_ (by decide) (by decide)
    try rw [eq4]
    exact ⟨rfl, NF4, rfl⟩
theorem own_pn4 : plainName "java/util/Arrays" = true := by first | (simp [plainName, overriddenIn]; done) | decide +kernel
theorem own_d46_0 : decode jdk_65_method_131_code 0 = .ok (.iload_n 1, 1) := by decide +kernel
theorem own_d46_1 : decode jdk_65_method_131_code 1 = .ok (.iload_n 0, 1) := by decide +kernel
theorem own_d46_2 : decode jdk_65_method_131_code 2 = .ok (.if_icmp .ge 35, 3) := by decide +kernel
theorem own_d46_37 : decode jdk_65_method_131_code 37 = .ok (.return_, 1) := by decide +kernel
set_option maxRecDepth 65536 in
set_option maxHeartbeats 40000000 in
theorem own_rmCL (l : Launch) (Z : State) (a0 : Array Value) (hw : ∀ d ∈ tables_1, d.before a0 Z = true) (fb : Int32) (fe : Int32) (h0 : Heap) (n0 : Nat) (Z0 : n0 ≤ h0.size) (cl0 : ¬ fe < fb) :
    own_Met l Z [] (⟨"java/util/Arrays", "checkLength", "(II)V"⟩ : MethodName) jdk_65_method_131_code 2 none ({ frames := 0, cells := 0, slots := 0, locals := 0 } : Room) #[(.int fb), (.int fe)] h0 (fun v h L => v = none ∧ Fr n0 L ∧ h = h0) := by
  refine MetFree.of_bodySF (plainFor_of_name own_pn4) hisR ?_
  intro p e s m args below meth c s₁ Bd hml0 hP hK
  obtain ⟨rfl, hZ, hh⟩ := hP
  have hx := Bd.exec
  have hby := Bd.bytes
  have hml : c.maxLocals = 2 := hml0
  have hown : s.vm.findClass "java/util/Arrays" = some m.cls := findClass_of_methodNamed Bd.named
  have hnm := (name_of_methodNamed Bd.named Bd.method).1
  have hlk : meth.locks = false := Bd.notSynchronized
  have X0 : Stand p l e ({ frames := 0, cells := 0, slots := 0, locals := 0 } : Room) s m #[(.int fb), (.int fe)] below meth c s₁ [] 0 0 := Stand.of_body Bd
  have e0 : s₁.heap = h0 := by rw [← hh, Bd.state]; rfl
  have N0 := Fr.nil n0
  refine own_body (Q := fun v h L => v = none ∧ Fr n0 L ∧ h = h0) ?_
  refine own_go (fun _ kont => castTop (own_ef m #[(.int fb), (.int fe)] 2 #[.val (.int fb), .val (.int fe)] (own_al [(.int fb), (.int fe)] 2 [.val (.int fb), .val (.int fe)] rfl)) kont) ?_
  show own_Go _ _ _ _ (s₁.setTop (mkF m 0 #[.val (.int fb), .val (.int fe)] []))
  refine own_go (fun _ => XS.iloadN X0.here hx rfl (hb hby own_d46_0) rfl) ?_
  refine own_go (fun _ => XS.iloadN X0.here hx rfl (hb hby own_d46_1) rfl) ?_
  show own_Go _ _ _ _ (s₁.setTop (mkF m 2 #[.val (.int fb), .val (.int fe)] [(.int fb), (.int fe)]))
  refine own_go (fun _ => XS.icmpYes X0.here hx rfl (pc0 := 2) (pc' := 37) rfl (hb hby own_d46_2) rfl (flt cl0).2.1 (by decide) (by decide)) ?_
  show own_Go _ _ _ _ (s₁.setTop (mkF m 37 #[.val (.int fb), .val (.int fe)] []))
  refine own_ret X0 hlk (v := none) (fun _ => rfl) (fun fs hr => X0.returnOut hx Bd.returns (hb hby own_d46_37) hr) ?_ (by decide) (by decide)
  try rw [e0]
  exact ⟨rfl, N0, rfl⟩
theorem own_d45_0 : decode jdk_65_method_133_code 0 = .ok (.iload_n 1, 1) := by decide +kernel
theorem own_d45_1 : decode jdk_65_method_133_code 1 = .ok (.iload_n 2, 1) := by decide +kernel
theorem own_d45_2 : decode jdk_65_method_133_code 2 = .ok (.invokestatic 343, 3) := by decide +kernel
theorem own_pd12 : parseMethodDescriptor "(II)V" = some ⟨[.int, .int], none⟩ := by decide +kernel
theorem own_d45_5 : decode jdk_65_method_133_code 5 = .ok (.iload_n 2, 1) := by decide +kernel
theorem own_d45_6 : decode jdk_65_method_133_code 6 = .ok (.iload_n 1, 1) := by decide +kernel
theorem own_d45_7 : decode jdk_65_method_133_code 7 = .ok (.isub, 1) := by decide +kernel
theorem own_d45_8 : decode jdk_65_method_133_code 8 = .ok (.istore_n 3, 1) := by decide +kernel
theorem own_d45_9 : decode jdk_65_method_133_code 9 = .ok (.iload_n 3, 1) := by decide +kernel
theorem own_d45_10 : decode jdk_65_method_133_code 10 = .ok (.newarray .byte, 2) := by decide +kernel
theorem own_d45_12 : decode jdk_65_method_133_code 12 = .ok (.astore 4, 2) := by decide +kernel
theorem own_d45_14 : decode jdk_65_method_133_code 14 = .ok (.aload_n 0, 1) := by decide +kernel
theorem own_d45_15 : decode jdk_65_method_133_code 15 = .ok (.iload_n 1, 1) := by decide +kernel
theorem own_d45_16 : decode jdk_65_method_133_code 16 = .ok (.aload 4, 2) := by decide +kernel
theorem own_d45_18 : decode jdk_65_method_133_code 18 = .ok (.iconst 0, 1) := by decide +kernel
theorem own_d45_19 : decode jdk_65_method_133_code 19 = .ok (.aload_n 0, 1) := by decide +kernel
theorem own_d45_20 : decode jdk_65_method_133_code 20 = .ok (.arraylength, 1) := by decide +kernel
theorem own_d45_21 : decode jdk_65_method_133_code 21 = .ok (.iload_n 1, 1) := by decide +kernel
theorem own_d45_22 : decode jdk_65_method_133_code 22 = .ok (.isub, 1) := by decide +kernel
theorem own_d45_23 : decode jdk_65_method_133_code 23 = .ok (.iload_n 3, 1) := by decide +kernel
theorem own_d45_24 : decode jdk_65_method_133_code 24 = .ok (.invokestatic 304, 3) := by decide +kernel
theorem own_d45_27 : decode jdk_65_method_133_code 27 = .ok (.invokestatic 150, 3) := by decide +kernel
theorem own_d45_30 : decode jdk_65_method_133_code 30 = .ok (.aload 4, 2) := by decide +kernel
theorem own_d45_32 : decode jdk_65_method_133_code 32 = .ok (.areturn, 1) := by decide +kernel
set_option maxRecDepth 65536 in
set_option maxHeartbeats 40000000 in
theorem own_rmCY (l : Launch) (Z : State) (a0 : Array Value) (hw : ∀ d ∈ tables_1, d.before a0 Z = true) (b : Addr) (k : ClassId) (z : Int32) (fb : Int32) (fe : Int32) (vs : List Value) (h0 : Heap) (n0 : Nat) (Z0 : n0 ≤ h0.size) (V : Arv Z h0 b k .byte z vs (.int 0)) (O : Old Z n0 h0) (cd1 : 0 ≤ fb.toInt) (cd2 : fb.toInt ≤ fe.toInt) (cd3 : fe.toInt ≤ z.toInt) (cd4 : z.toInt ≤ 4) :
    own_Met l Z [] (⟨"java/util/Arrays", "copyOfRangeByte", "([BII)[B"⟩ : MethodName) jdk_65_method_133_code 5 (some (.array .byte)) ({ frames := 1, cells := 1, slots := 4, locals := 60 } : Room) #[(.ref b), (.int fb), (.int fe)] h0 (fun v h L => ∃ (b : Addr) (k : ClassId) (us : List Value), v = some (.ref b) ∧ Fr n0 L ∧ Keep h0 h [] ∧ Old Z n0 h ∧ n0 ≤ b ∧ h0.size ≤ b ∧ Arv Z h b k .byte (fe - fb) us (.int 0)) := by
  refine MetFree.of_bodySF (plainFor_of_name own_pn4) hisR ?_
  intro p e s m args below meth c s₁ Bd hml0 hP hK
  obtain ⟨rfl, hZ, hh⟩ := hP
  have hx := Bd.exec
  have hby := Bd.bytes
  have hml : c.maxLocals = 5 := hml0
  have hown : s.vm.findClass "java/util/Arrays" = some m.cls := findClass_of_methodNamed Bd.named
  have hnm := (name_of_methodNamed Bd.named Bd.method).1
  have hlk : meth.locks = false := Bd.notSynchronized
  have X0 : Stand p l e ({ frames := 1, cells := 1, slots := 4, locals := 60 } : Room) s m #[(.ref b), (.int fb), (.int fe)] below meth c s₁ [] 0 0 := Stand.of_body Bd
  have e0 : s₁.heap = h0 := by rw [← hh, Bd.state]; rfl
  have N0 := Fr.nil n0
  refine own_body (Q := fun v h L => ∃ (b : Addr) (k : ClassId) (us : List Value), v = some (.ref b) ∧ Fr n0 L ∧ Keep h0 h [] ∧ Old Z n0 h ∧ n0 ≤ b ∧ h0.size ≤ b ∧ Arv Z h b k .byte (fe - fb) us (.int 0)) ?_
  refine own_go (fun _ kont => castTop (own_ef m #[(.ref b), (.int fb), (.int fe)] 5 #[.val (.ref b), .val (.int fb), .val (.int fe), .unset, .unset] (own_al [(.ref b), (.int fb), (.int fe)] 5 [.val (.ref b), .val (.int fb), .val (.int fe), .unset, .unset] rfl)) kont) ?_
  show own_Go _ _ _ _ (s₁.setTop (mkF m 0 #[.val (.ref b), .val (.int fb), .val (.int fe), .unset, .unset] []))
  have K0 : Keep h0 h0 [] := Keep.refl _ _
  refine own_go (fun _ => XS.iloadN X0.here hx rfl (hb hby own_d45_0) rfl) ?_
  refine own_go (fun _ => XS.iloadN X0.here hx rfl (hb hby own_d45_1) rfl) ?_
  show own_Go _ _ _ _ (s₁.setTop (mkF m 2 #[.val (.ref b), .val (.int fb), .val (.int fe), .unset, .unset] [(.int fe), (.int fb)]))
  obtain ⟨_, _, ⟨T1, L1, k1, n1⟩, -, X1, ⟨Lc1, hQ1, l1, y1, z1⟩, st1⟩ := Jvm.LawKit.callS X0 hx (y := (⟨"java/util/Arrays", "checkLength", "(II)V"⟩ : MethodName)) hown (mvT hZ (hw _ (List.mem_of_getElem? (i := 212) rfl))) (mvT hZ (hw _ (List.mem_of_getElem? (i := 213) rfl))) (mvT hZ (hw _ (List.mem_of_getElem? (i := 207) rfl))) (mvT hZ (hw _ (List.mem_of_getElem? (i := 214) rfl))) (by decide) (own_back (W := 0) (own_rmCL l Z a0 hw fb fe h0 n0 Z0 (own_nl cd2)) hZ (hw _ (List.mem_of_getElem? (i := 214) rfl)) (hw _ (List.mem_of_getElem? (i := 207) rfl)) (by decide) (by decide)) (g := (mkF m 2 #[.val (.ref b), .val (.int fb), .val (.int fe), .unset, .unset] [(.int fe), (.int fb)])) rfl (by rw [hml]; rfl) (argsL := [(.int fb), (.int fe)]) (rest := []) (lenOf own_pd12 rfl) rfl (by show 2 * 0 + _ ≤ _; exact Nat.le_of_eq rfl) (hb hby own_d45_2) (fun _ _ => ⟨rfl, e0, (by decide : 0 + 0 ≤ _), (by decide : 0 + 0 ≤ _)⟩)
  dsimp only [Pt.U, Pt.locs, Pt.cells, Pt.slots] at X1 l1 y1 z1 st1 hQ1
  replace X1 := own_cst X1 l1 y1 z1 (k2 := 0) (n2 := 0) rfl rfl
  clear l1 y1 z1
  obtain ⟨rfl, Nq1, eq1⟩ := hQ1
  have NF1 := Fr.app N0 Nq1
  refine own_go st1 ?_
  show own_Go _ _ _ _ (T1.setTop (mkF m 5 #[.val (.ref b), .val (.int fb), .val (.int fe), .unset, .unset] []))
  refine own_go (fun _ => XS.iloadN X1.here hx rfl (hb hby own_d45_5) rfl) ?_
  refine own_go (fun _ => XS.iloadN X1.here hx rfl (hb hby own_d45_6) rfl) ?_
  refine own_go (fun _ => XS.isub X1.here hx rfl (hb hby own_d45_7) rfl) ?_
  refine own_go (fun _ => XS.istoreN X1.here hx rfl (hb hby own_d45_8) rfl (l' := #[.val (.ref b), .val (.int fb), .val (.int fe), .val (.int (fe - fb)), .unset]) rfl) ?_
  show own_Go _ _ _ _ (T1.setTop (mkF m 9 #[.val (.ref b), .val (.int fb), .val (.int fe), .val (.int (fe - fb)), .unset] []))
  refine own_go (fun _ => XS.iloadN X1.here hx rfl (hb hby own_d45_9) rfl) ?_
  show own_Go _ _ _ _ (T1.setTop (mkF m 10 #[.val (.ref b), .val (.int fb), .val (.int fe), .val (.int (fe - fb)), .unset] [(.int (fe - fb))]))
  obtain ⟨T2, h2, k2, X2, e2, E2, A2, st2⟩ := newP X1 hx hZ (hw _ (List.mem_of_getElem? (i := 8) rfl)) eq1 (g := (mkF m 10 #[.val (.ref b), .val (.int fb), .val (.int fe), .val (.int (fe - fb)), .unset] [(.int (fe - fb))])) rfl (hb hby own_d45_10) rfl (own_n0 (own_sb0 cd1 cd2)) (cap := 4) (own_cap cd1 cd2 cd3 cd4) (by decide) (by decide) (by decide)
  obtain ⟨b2, g2⟩ : ∃ z, z = h0.size := ⟨_, rfl⟩
  rw [← g2] at A2 st2
  refine own_go st2 ?_
  have ge_b2 : n0 ≤ b2 := Nat.le_trans Z0 (Nat.le_of_eq g2.symm)
  have ne_b_b2 : b ≠ b2 := Nat.ne_of_lt (Nat.lt_of_lt_of_le V.lt (Nat.le_of_eq g2.symm))
  have sz_b2 : h0.size ≤ b2 := Nat.le_trans K0.1 (Nat.le_of_eq g2.symm)
  replace V := V.ext E2
  replace O := O.ext E2
  replace Z0 := Nat.le_trans Z0 E2.1
  replace K0 := K0.ext E2
  have V_b2 : Arv Z h2 b2 k2 .byte (fe - fb) [] (.int (0 : Int32)) := Arv.new A2 (own_n0 (own_sb0 cd1 cd2))
  show own_Go _ _ _ _ (T2.setTop (mkF m 12 #[.val (.ref b), .val (.int fb), .val (.int fe), .val (.int (fe - fb)), .unset] [(.ref b2)]))
  refine own_go (fun _ => XS.astore X2.here hx rfl (hb hby own_d45_12) rfl rfl (l' := #[.val (.ref b), .val (.int fb), .val (.int fe), .val (.int (fe - fb)), .val (.ref b2)]) rfl) ?_
  refine own_go (fun _ => XS.aloadN X2.here hx rfl (hb hby own_d45_14) rfl rfl) ?_
  refine own_go (fun _ => XS.iloadN X2.here hx rfl (hb hby own_d45_15) rfl) ?_
  refine own_go (fun _ => XS.aload X2.here hx rfl (hb hby own_d45_16) rfl rfl) ?_
  show own_Go _ _ _ _ (T2.setTop (mkF m 18 #[.val (.ref b), .val (.int fb), .val (.int fe), .val (.int (fe - fb)), .val (.ref b2)] [(.ref b2), (.int fb), (.ref b)]))
  refine own_go (fun _ => XS.iconst X2.here hx rfl (hb hby own_d45_18)) ?_
  refine own_go (fun _ => XS.aloadN X2.here hx rfl (hb hby own_d45_19) rfl rfl) ?_
  obtain ⟨cl3, Ar3, -, Sz3, Ng3, -, -⟩ := id V
  refine own_go (X2.arraylength hx (own_hp e2 Ar3.1) (State.isArrayOf_alike hZ.alike Ar3.2.1) (g := (mkF m 20 #[.val (.ref b), .val (.int fb), .val (.int fe), .val (.int (fe - fb)), .val (.ref b2)] [(.ref b), (.int (0 : Int32)), (.ref b2), (.int fb), (.ref b)])) rfl rfl (hb hby own_d45_20)) ?_
  rw [len_of Sz3 Ng3]
  refine own_go (fun _ => XS.iloadN X2.here hx rfl (hb hby own_d45_21) rfl) ?_
  show own_Go _ _ _ _ (T2.setTop (mkF m 22 #[.val (.ref b), .val (.int fb), .val (.int fe), .val (.int (fe - fb)), .val (.ref b2)] [(.int fb), (.int z), (.int (0 : Int32)), (.ref b2), (.int fb), (.ref b)]))
  refine own_go (fun _ => XS.isub X2.here hx rfl (hb hby own_d45_22) rfl) ?_
  refine own_go (fun _ => XS.iloadN X2.here hx rfl (hb hby own_d45_23) rfl) ?_
  show own_Go _ _ _ _ (T2.setTop (mkF m 24 #[.val (.ref b), .val (.int fb), .val (.int fe), .val (.int (fe - fb)), .val (.ref b2)] [(.int (fe - fb)), (.int (z - fb)), (.int (0 : Int32)), (.ref b2), (.int fb), (.ref b)]))
  obtain ⟨_, _, ⟨T4, L4, k4, n4⟩, -, X4, ⟨Lc4, hQ4, l4, y4, z4⟩, st4⟩ := Jvm.LawKit.callS X2 hx (y := (⟨"java/lang/Math", "min", "(II)I"⟩ : MethodName)) hown (mvT hZ (hw _ (List.mem_of_getElem? (i := 215) rfl))) (mvT hZ (hw _ (List.mem_of_getElem? (i := 77) rfl))) (mvT hZ (hw _ (List.mem_of_getElem? (i := 74) rfl))) (mvT hZ (hw _ (List.mem_of_getElem? (i := 78) rfl))) (by decide) (own_back (W := 4) (own_rmMn l Z a0 hw (z - fb) (fe - fb) h2 n0 Z0 (own_mn cd1 cd2 cd3)) hZ (hw _ (List.mem_of_getElem? (i := 78) rfl)) (hw _ (List.mem_of_getElem? (i := 74) rfl)) (by decide) (by decide)) (g := (mkF m 24 #[.val (.ref b), .val (.int fb), .val (.int fe), .val (.int (fe - fb)), .val (.ref b2)] [(.int (fe - fb)), (.int (z - fb)), (.int (0 : Int32)), (.ref b2), (.int fb), (.ref b)])) rfl (by rw [hml]; rfl) (argsL := [(.int (z - fb)), (.int (fe - fb))]) (rest := [(.int (0 : Int32)), (.ref b2), (.int fb), (.ref b)]) (lenOf own_pd6 rfl) rfl (by show 2 * 0 + _ ≤ _; exact Nat.le_of_eq rfl) (hb hby own_d45_24) (fun _ _ => ⟨rfl, e2, (by decide : 1 + 0 ≤ _), (by decide : 4 + 0 ≤ _)⟩)
  dsimp only [Pt.U, Pt.locs, Pt.cells, Pt.slots] at X4 l4 y4 z4 st4 hQ4
  replace X4 := own_cst X4 l4 y4 z4 (k2 := 1) (n2 := 4) rfl rfl
  clear l4 y4 z4
  obtain ⟨rfl, Nq4, eq4⟩ := hQ4
  have NF4 := Fr.app NF1 Nq4
  refine own_go st4 ?_
  show own_Go _ _ _ _ (T4.setTop (mkF m 27 #[.val (.ref b), .val (.int fb), .val (.int fe), .val (.int (fe - fb)), .val (.ref b2)] [(.int (fe - fb)), (.int (0 : Int32)), (.ref b2), (.int fb), (.ref b)]))
  have VP5 := V_b2.pad (pad_rep [] (.int 0) (fe - fb).toNatClampNeg)
  obtain ⟨T5, h5, L5, X5, e5, NF5, K5, W5, st5⟩ := cpA X4 hx hZ hown (hw _ (List.mem_of_getElem? (i := 216) rfl)) (hw _ (List.mem_of_getElem? (i := 219) rfl)) (hw _ (List.mem_of_getElem? (i := 217) rfl)) (hw _ (List.mem_of_getElem? (i := 218) rfl)) eq4 V VP5 (Or.inl ⟨rfl, rfl⟩) (own_n0 cd1) (by decide) (own_n0 (own_sb0 cd1 cd2)) (own_h4 cd1 cd2 cd3) own_h5 rfl own_hl NF4 ge_b2 (g := (mkF m 27 #[.val (.ref b), .val (.int fb), .val (.int fe), .val (.int (fe - fb)), .val (.ref b2)] [(.int (fe - fb)), (.int (0 : Int32)), (.ref b2), (.int fb), (.ref b)])) rfl (by rw [hml]; rfl) rfl (hb hby own_d45_27) (by decide) (W := 0) (by show 2 * 0 + _ ≤ _; exact Nat.le_of_eq rfl) (by decide)
  refine own_go st5 ?_
  replace O := O.keep K5 (allS ge_b2 all0)
  replace V := V.keep K5 (ninS ne_b_b2 nin0)
  replace Z0 := Nat.le_trans Z0 K5.1
  replace K0 := K0.trans K5 (allS (Or.inr sz_b2) all0)
  show own_Go _ _ _ _ (T5.setTop (mkF m 30 #[.val (.ref b), .val (.int fb), .val (.int fe), .val (.int (fe - fb)), .val (.ref b2)] []))
  refine own_go (fun _ => XS.aload X5.here hx rfl (hb hby own_d45_30) rfl rfl) ?_
  show own_Go _ _ _ _ (T5.setTop (mkF m 32 #[.val (.ref b), .val (.int fb), .val (.int fe), .val (.int (fe - fb)), .val (.ref b2)] [(.ref b2)]))
  refine own_ret X5 hlk (v := some (.ref b2)) (fun h => by rw [Bd.returns] at h; cases h) (fun fs hr => retOut X5 hx Bd.returns rfl (Or.inr (Or.inr (Or.inr (Or.inr ⟨rfl, rfl, rfl⟩)))) (hb hby own_d45_32) hr) ?_ (by decide) (by decide)
  try rw [e5]
  exact ⟨b2, k2, _, rfl, NF5, K0, O, ge_b2, sz_b2, W5⟩
theorem own_d44_0 : decode jdk_65_method_132_code 0 = .ok (.iload_n 1, 1) := by decide +kernel
theorem own_d44_1 : decode jdk_65_method_132_code 1 = .ok (.ifCond .ne 9, 3) := by decide +kernel
theorem own_d44_4 : decode jdk_65_method_132_code 4 = .ok (.iload_n 2, 1) := by decide +kernel
theorem own_d44_5 : decode jdk_65_method_132_code 5 = .ok (.aload_n 0, 1) := by decide +kernel
theorem own_d44_6 : decode jdk_65_method_132_code 6 = .ok (.arraylength, 1) := by decide +kernel
theorem own_d44_7 : decode jdk_65_method_132_code 7 = .ok (.if_icmp .eq 10, 3) := by decide +kernel
theorem own_d44_10 : decode jdk_65_method_132_code 10 = .ok (.aload_n 0, 1) := by decide +kernel
theorem own_d44_11 : decode jdk_65_method_132_code 11 = .ok (.iload_n 1, 1) := by decide +kernel
theorem own_d44_12 : decode jdk_65_method_132_code 12 = .ok (.iload_n 2, 1) := by decide +kernel
theorem own_d44_13 : decode jdk_65_method_132_code 13 = .ok (.invokestatic 339, 3) := by decide +kernel
theorem own_pd13 : parseMethodDescriptor "([BII)[B" = some ⟨[(.array .byte), .int, .int], some (.array .byte)⟩ := by decide +kernel
theorem own_d44_16 : decode jdk_65_method_132_code 16 = .ok (.areturn, 1) := by decide +kernel
set_option maxRecDepth 65536 in
set_option maxHeartbeats 40000000 in
theorem own_rmCR (l : Launch) (Z : State) (a0 : Array Value) (hw : ∀ d ∈ tables_1, d.before a0 Z = true) (b : Addr) (k : ClassId) (z : Int32) (fb : Int32) (fe : Int32) (vs : List Value) (h0 : Heap) (n0 : Nat) (Z0 : n0 ≤ h0.size) (V : Arv Z h0 b k .byte z vs (.int 0)) (O : Old Z n0 h0) (cd1 : 0 ≤ fb.toInt) (cd2 : fb.toInt ≤ fe.toInt) (cd3 : fe.toInt ≤ z.toInt) (cd4 : z.toInt ≤ 4) (cd5 : ¬ (fb = (0 : Int32) ∧ fe = z)) :
    own_Met l Z [] (⟨"java/util/Arrays", "copyOfRange", "([BII)[B"⟩ : MethodName) jdk_65_method_132_code 3 (some (.array .byte)) ({ frames := 2, cells := 1, slots := 4, locals := 76 } : Room) #[(.ref b), (.int fb), (.int fe)] h0 (fun v h L => ∃ (b : Addr) (k : ClassId) (us : List Value), v = some (.ref b) ∧ Fr n0 L ∧ Keep h0 h [] ∧ Old Z n0 h ∧ n0 ≤ b ∧ h0.size ≤ b ∧ Arv Z h b k .byte (fe - fb) us (.int 0)) := by
  refine MetFree.of_bodySF (plainFor_of_name own_pn4) hisR ?_
  intro p e s m args below meth c s₁ Bd hml0 hP hK
  obtain ⟨rfl, hZ, hh⟩ := hP
  have hx := Bd.exec
  have hby := Bd.bytes
  have hml : c.maxLocals = 3 := hml0
  have hown : s.vm.findClass "java/util/Arrays" = some m.cls := findClass_of_methodNamed Bd.named
  have hnm := (name_of_methodNamed Bd.named Bd.method).1
  have hlk : meth.locks = false := Bd.notSynchronized
  have X0 : Stand p l e ({ frames := 2, cells := 1, slots := 4, locals := 76 } : Room) s m #[(.ref b), (.int fb), (.int fe)] below meth c s₁ [] 0 0 := Stand.of_body Bd
  have e0 : s₁.heap = h0 := by rw [← hh, Bd.state]; rfl
  have N0 := Fr.nil n0
  refine own_body (Q := fun v h L => ∃ (b : Addr) (k : ClassId) (us : List Value), v = some (.ref b) ∧ Fr n0 L ∧ Keep h0 h [] ∧ Old Z n0 h ∧ n0 ≤ b ∧ h0.size ≤ b ∧ Arv Z h b k .byte (fe - fb) us (.int 0)) ?_
  refine own_go (fun _ kont => castTop (own_ef m #[(.ref b), (.int fb), (.int fe)] 3 #[.val (.ref b), .val (.int fb), .val (.int fe)] (own_al [(.ref b), (.int fb), (.int fe)] 3 [.val (.ref b), .val (.int fb), .val (.int fe)] rfl)) kont) ?_
  show own_Go _ _ _ _ (s₁.setTop (mkF m 0 #[.val (.ref b), .val (.int fb), .val (.int fe)] []))
  have K0 : Keep h0 h0 [] := Keep.refl _ _
  refine own_go (fun _ => XS.iloadN X0.here hx rfl (hb hby own_d44_0) rfl) ?_
  show own_Go _ _ _ _ (s₁.setTop (mkF m 1 #[.val (.ref b), .val (.int fb), .val (.int fe)] [(.int fb)]))
  by_cases hf0 : fb = (0 : Int32)
  · have _h := hf0
    refine own_go (fun _ => XS.ifNo X0.here hx rfl (hb hby own_d44_1) rfl ((if0 _ _).trans (teq hf0).2)) ?_
    show own_Go _ _ _ _ (s₁.setTop (mkF m 4 #[.val (.ref b), .val (.int fb), .val (.int fe)] []))
    refine own_go (fun _ => XS.iloadN X0.here hx rfl (hb hby own_d44_4) rfl) ?_
    refine own_go (fun _ => XS.aloadN X0.here hx rfl (hb hby own_d44_5) rfl rfl) ?_
    obtain ⟨cl1, Ar1, -, Sz1, Ng1, -, -⟩ := id V
    refine own_go (X0.arraylength hx (own_hp e0 Ar1.1) (State.isArrayOf_alike hZ.alike Ar1.2.1) (g := (mkF m 6 #[.val (.ref b), .val (.int fb), .val (.int fe)] [(.ref b), (.int fe)])) rfl rfl (hb hby own_d44_6)) ?_
    rw [len_of Sz1 Ng1]
    show own_Go _ _ _ _ (s₁.setTop (mkF m 7 #[.val (.ref b), .val (.int fb), .val (.int fe)] [(.int z), (.int fe)]))
    refine own_go (fun _ => XS.icmpNo X0.here hx rfl (hb hby own_d44_7) rfl (feq (fun q => cd5 ⟨hf0, q⟩)).1) ?_
    show own_Go _ _ _ _ (s₁.setTop (mkF m 10 #[.val (.ref b), .val (.int fb), .val (.int fe)] []))
    refine own_go (fun _ => XS.aloadN X0.here hx rfl (hb hby own_d44_10) rfl rfl) ?_
    refine own_go (fun _ => XS.iloadN X0.here hx rfl (hb hby own_d44_11) rfl) ?_
    refine own_go (fun _ => XS.iloadN X0.here hx rfl (hb hby own_d44_12) rfl) ?_
    show own_Go _ _ _ _ (s₁.setTop (mkF m 13 #[.val (.ref b), .val (.int fb), .val (.int fe)] [(.int fe), (.int fb), (.ref b)]))
    obtain ⟨_, _, ⟨T2, L2, k2, n2⟩, -, X2, ⟨Lc2, hQ2, l2, y2, z2⟩, st2⟩ := Jvm.LawKit.callS X0 hx (y := (⟨"java/util/Arrays", "copyOfRangeByte", "([BII)[B"⟩ : MethodName)) hown (mvT hZ (hw _ (List.mem_of_getElem? (i := 209) rfl))) (mvT hZ (hw _ (List.mem_of_getElem? (i := 210) rfl))) (mvT hZ (hw _ (List.mem_of_getElem? (i := 207) rfl))) (mvT hZ (hw _ (List.mem_of_getElem? (i := 211) rfl))) (by decide) (own_back (W := 0) (own_rmCY l Z a0 hw b k z fb fe vs h0 n0 Z0 V O cd1 cd2 cd3 cd4) hZ (hw _ (List.mem_of_getElem? (i := 211) rfl)) (hw _ (List.mem_of_getElem? (i := 207) rfl)) (by decide) (by decide)) (g := (mkF m 13 #[.val (.ref b), .val (.int fb), .val (.int fe)] [(.int fe), (.int fb), (.ref b)])) rfl (by rw [hml]; rfl) (argsL := [(.ref b), (.int fb), (.int fe)]) (rest := []) (lenOf own_pd13 rfl) rfl (by show 2 * 0 + _ ≤ _; exact Nat.le_of_eq rfl) (hb hby own_d44_13) (fun _ _ => ⟨rfl, e0, (by decide : 0 + 1 ≤ _), (by decide : 0 + 4 ≤ _)⟩)
    dsimp only [Pt.U, Pt.locs, Pt.cells, Pt.slots] at X2 l2 y2 z2 st2 hQ2
    replace X2 := own_cst X2 l2 y2 z2 (k2 := 1) (n2 := 4) rfl rfl
    clear l2 y2 z2
    obtain ⟨bq2, kk2, us2, rfl, Nq2, K2, O2, geb2, szq2, V2⟩ := hQ2
    have NF2 := Fr.app N0 Nq2
    refine own_go st2 ?_
    replace V := V.keep K2 nin0
    replace Z0 := Nat.le_trans Z0 K2.1
    replace K0 := K0.trans K2 all0
    have O := O2
    show own_Go _ _ _ _ (T2.setTop (mkF m 16 #[.val (.ref b), .val (.int fb), .val (.int fe)] [(.ref bq2)]))
    refine own_ret X2 hlk (v := some (.ref bq2)) (fun h => by rw [Bd.returns] at h; cases h) (fun fs hr => retOut X2 hx Bd.returns rfl (Or.inr (Or.inr (Or.inr (Or.inr ⟨rfl, rfl, rfl⟩)))) (hb hby own_d44_16) hr) ?_ (by decide) (by decide)
    skip
    exact ⟨bq2, kk2, us2, rfl, NF2, K0, O, geb2, szq2, V2⟩
  · have _h := hf0
    refine own_go (fun _ => XS.ifYes X0.here hx rfl (pc0 := 1) (pc' := 10) rfl (hb hby own_d44_1) rfl ((if0 _ _).trans (feq hf0).2) (by decide) (by decide)) ?_
    show own_Go _ _ _ _ (s₁.setTop (mkF m 10 #[.val (.ref b), .val (.int fb), .val (.int fe)] []))
    refine own_go (fun _ => XS.aloadN X0.here hx rfl (hb hby own_d44_10) rfl rfl) ?_
    refine own_go (fun _ => XS.iloadN X0.here hx rfl (hb hby own_d44_11) rfl) ?_
    refine own_go (fun _ => XS.iloadN X0.here hx rfl (hb hby own_d44_12) rfl) ?_
    show own_Go _ _ _ _ (s₁.setTop (mkF m 13 #[.val (.ref b), .val (.int fb), .val (.int fe)] [(.int fe), (.int fb), (.ref b)]))
    obtain ⟨_, _, ⟨T3, L3, k3, n3⟩, -, X3, ⟨Lc3, hQ3, l3, y3, z3⟩, st3⟩ := Jvm.LawKit.callS X0 hx (y := (⟨"java/util/Arrays", "copyOfRangeByte", "([BII)[B"⟩ : MethodName)) hown (mvT hZ (hw _ (List.mem_of_getElem? (i := 209) rfl))) (mvT hZ (hw _ (List.mem_of_getElem? (i := 210) rfl))) (mvT hZ (hw _ (List.mem_of_getElem? (i := 207) rfl))) (mvT hZ (hw _ (List.mem_of_getElem? (i := 211) rfl))) (by decide) (own_back (W := 0) (own_rmCY l Z a0 hw b k z fb fe vs h0 n0 Z0 V O cd1 cd2 cd3 cd4) hZ (hw _ (List.mem_of_getElem? (i := 211) rfl)) (hw _ (List.mem_of_getElem? (i := 207) rfl)) (by decide) (by decide)) (g := (mkF m 13 #[.val (.ref b), .val (.int fb), .val (.int fe)] [(.int fe), (.int fb), (.ref b)])) rfl (by rw [hml]; rfl) (argsL := [(.ref b), (.int fb), (.int fe)]) (rest := []) (lenOf own_pd13 rfl) rfl (by show 2 * 0 + _ ≤ _; exact Nat.le_of_eq rfl) (hb hby own_d44_13) (fun _ _ => ⟨rfl, e0, (by decide : 0 + 1 ≤ _), (by decide : 0 + 4 ≤ _)⟩)
    dsimp only [Pt.U, Pt.locs, Pt.cells, Pt.slots] at X3 l3 y3 z3 st3 hQ3
    replace X3 := own_cst X3 l3 y3 z3 (k2 := 1) (n2 := 4) rfl rfl
    clear l3 y3 z3
    obtain ⟨bq3, kk3, us3, rfl, Nq3, K3, O3, geb3, szq3, V3⟩ := hQ3
    have NF3 := Fr.app N0 Nq3
    refine own_go st3 ?_
    replace V := V.keep K3 nin0
    replace Z0 := Nat.le_trans Z0 K3.1
    replace K0 := K0.trans K3 all0
    have O := O3
    show own_Go _ _ _ _ (T3.setTop (mkF m 16 #[.val (.ref b), .val (.int fb), .val (.int fe)] [(.ref bq3)]))
    refine own_ret X3 hlk (v := some (.ref bq3)) (fun h => by rw [Bd.returns] at h; cases h) (fun fs hr => retOut X3 hx Bd.returns rfl (Or.inr (Or.inr (Or.inr (Or.inr ⟨rfl, rfl, rfl⟩)))) (hb hby own_d44_16) hr) ?_ (by decide) (by decide)
    skip
    exact ⟨bq3, kk3, us3, rfl, NF3, K0, O, geb3, szq3, V3⟩
theorem own_d5_0 : decode jdk_42_method_151_code 0 = .ok (.aload_n 0, 1) := by decide +kernel
theorem own_d5_1 : decode jdk_42_method_151_code 1 = .ok (.invokespecial 1, 3) := by decide +kernel
theorem own_d5_4 : decode jdk_42_method_151_code 4 = .ok (.aload_n 0, 1) := by decide +kernel
theorem own_d5_5 : decode jdk_42_method_151_code 5 = .ok (.aload_n 1, 1) := by decide +kernel
theorem own_d5_6 : decode jdk_42_method_151_code 6 = .ok (.putfield 9, 3) := by decide +kernel
theorem own_d5_9 : decode jdk_42_method_151_code 9 = .ok (.aload_n 0, 1) := by decide +kernel
theorem own_d5_10 : decode jdk_42_method_151_code 10 = .ok (.iload_n 2, 1) := by decide +kernel
theorem own_d5_11 : decode jdk_42_method_151_code 11 = .ok (.putfield 15, 3) := by decide +kernel
theorem own_d5_14 : decode jdk_42_method_151_code 14 = .ok (.return_, 1) := by decide +kernel
set_option maxRecDepth 65536 in
set_option maxHeartbeats 40000000 in
theorem own_rmIB (l : Launch) (Z : State) (a0 : Array Value) (hw : ∀ d ∈ tables_1, d.before a0 Z = true) (a1 : Addr) (b : Addr) (h0 : Heap) (n0 : Nat) (Z0 : n0 ≤ h0.size) (E1 : Exa Z h0 a1 "java/lang/String") (Fv : Fld Z h0 a1 "java/lang/String" "value" "[B" .null) (Fc : Fld Z h0 a1 "java/lang/String" "coder" "B" (.int 0)) (O : Old Z n0 h0) (ge_a1 : n0 ≤ a1) :
    own_Met l Z [] (⟨"java/lang/String", "<init>", "([BB)V"⟩ : MethodName) jdk_42_method_151_code 3 none ({ frames := 1, cells := 0, slots := 0, locals := 12 } : Room) #[(.ref a1), (.ref b), (.int (0 : Int32))] h0 (fun v h L => v = none ∧ Fr n0 L ∧ Keep h0 h [a1] ∧ Old Z n0 h ∧ Exa Z h a1 "java/lang/String" ∧ Fld Z h a1 "java/lang/String" "value" "[B" (.ref b) ∧ Fld Z h a1 "java/lang/String" "coder" "B" (.int 0)) := by
  refine MetFree.of_bodySF (plainFor_of_name own_pn1) hisR ?_
  intro p e s m args below meth c s₁ Bd hml0 hP hK
  obtain ⟨rfl, hZ, hh⟩ := hP
  have hx := Bd.exec
  have hby := Bd.bytes
  have hml : c.maxLocals = 3 := hml0
  have hown : s.vm.findClass "java/lang/String" = some m.cls := findClass_of_methodNamed Bd.named
  have hnm := (name_of_methodNamed Bd.named Bd.method).1
  have hlk : meth.locks = false := Bd.notSynchronized
  have X0 : Stand p l e ({ frames := 1, cells := 0, slots := 0, locals := 12 } : Room) s m #[(.ref a1), (.ref b), (.int (0 : Int32))] below meth c s₁ [] 0 0 := Stand.of_body Bd
  have e0 : s₁.heap = h0 := by rw [← hh, Bd.state]; rfl
  have N0 := Fr.nil n0
  refine own_body (Q := fun v h L => v = none ∧ Fr n0 L ∧ Keep h0 h [a1] ∧ Old Z n0 h ∧ Exa Z h a1 "java/lang/String" ∧ Fld Z h a1 "java/lang/String" "value" "[B" (.ref b) ∧ Fld Z h a1 "java/lang/String" "coder" "B" (.int 0)) ?_
  refine own_go (fun _ kont => castTop (own_ef m #[(.ref a1), (.ref b), (.int (0 : Int32))] 3 #[.val (.ref a1), .val (.ref b), .val (.int (0 : Int32))] (own_al [(.ref a1), (.ref b), (.int (0 : Int32))] 3 [.val (.ref a1), .val (.ref b), .val (.int (0 : Int32))] rfl)) kont) ?_
  show own_Go _ _ _ _ (s₁.setTop (mkF m 0 #[.val (.ref a1), .val (.ref b), .val (.int (0 : Int32))] []))
  have K0 : Keep h0 h0 [a1] := Keep.refl _ _
  refine own_go (fun _ => XS.aloadN X0.here hx rfl (hb hby own_d5_0) rfl rfl) ?_
  show own_Go _ _ _ _ (s₁.setTop (mkF m 1 #[.val (.ref a1), .val (.ref b), .val (.int (0 : Int32))] [(.ref a1)]))
  obtain ⟨T1, X1, e1, st1⟩ := initO X0 hx hZ hown (hw _ (List.mem_of_getElem? (i := 29) rfl)) (hw _ (List.mem_of_getElem? (i := 30) rfl)) (hw _ (List.mem_of_getElem? (i := 31) rfl)) e0 (g := (mkF m 1 #[.val (.ref a1), .val (.ref b), .val (.int (0 : Int32))] [(.ref a1)])) rfl (by rw [hml]; rfl) rfl (hb hby own_d5_1) (by decide) (W := 0) (by show 2 * 0 + _ ≤ _; exact Nat.le_of_eq rfl) (by decide)
  refine own_go st1 ?_
  show own_Go _ _ _ _ (T1.setTop (mkF m 4 #[.val (.ref a1), .val (.ref b), .val (.int (0 : Int32))] []))
  refine own_go (fun _ => XS.aloadN X1.here hx rfl (hb hby own_d5_4) rfl rfl) ?_
  refine own_go (fun _ => XS.aloadN X1.here hx rfl (hb hby own_d5_5) rfl rfl) ?_
  obtain ⟨T2, h2, X2, e2, W2, st2⟩ := putF X1 hx hZ hown (host := "") (Or.inl (hw _ (List.mem_of_getElem? (i := 32) rfl))) Via.refl e1 Fv E1 (Or.inr ⟨(hw _ (List.mem_of_getElem? (i := 9) rfl)), rfl, hnm⟩) (hw _ (List.mem_of_getElem? (i := 7) rfl)) (ty := (.array .byte)) (by decide) rfl rfl (g := (mkF m 6 #[.val (.ref a1), .val (.ref b), .val (.int (0 : Int32))] [(.ref b), (.ref a1)])) rfl rfl (hb hby own_d5_6)
  refine own_go st2 ?_
  have NF2 := Fr.snoc X2 N0 ge_a1
  replace Fv := Fv.same W2
  replace E1 := E1.wr W2
  replace Fc := Fc.other W2 (Or.inr (slot_ne (Or.inr (hw _ (List.mem_of_getElem? (i := 10) rfl))) (Or.inr (hw _ (List.mem_of_getElem? (i := 9) rfl))) (by decide) (t := .byte) (t' := (.array .byte)) (by decide) (by decide)))
  replace O := O.wr W2 ge_a1
  replace Z0 := Nat.le_trans Z0 (Keep.of_wr W2).1
  replace K0 := K0.wr W2 (Or.inl (List.mem_of_getElem? (i := 0) rfl))
  refine own_go (fun _ => XS.aloadN X2.here hx rfl (hb hby own_d5_9) rfl rfl) ?_
  show own_Go _ _ _ _ (T2.setTop (mkF m 10 #[.val (.ref a1), .val (.ref b), .val (.int (0 : Int32))] [(.ref a1)]))
  refine own_go (fun _ => XS.iloadN X2.here hx rfl (hb hby own_d5_10) rfl) ?_
  obtain ⟨T3, h3, X3, e3, W3, st3⟩ := putFN X2 hx hZ hown (hw _ (List.mem_of_getElem? (i := 33) rfl)) Via.refl e2 Fc E1 (Or.inr ⟨(hw _ (List.mem_of_getElem? (i := 10) rfl)), rfl, hnm⟩) (hw _ (List.mem_of_getElem? (i := 7) rfl)) (ty := .byte) (v' := (.int (0 : Int32))) (by decide) rfl rfl (g := (mkF m 11 #[.val (.ref a1), .val (.ref b), .val (.int (0 : Int32))] [(.int (0 : Int32)), (.ref a1)])) rfl rfl (hb hby own_d5_11)
  refine own_go st3 ?_
  have NF3 := Fr.snoc X3 NF2 ge_a1
  replace Fc := Fc.same W3
  replace E1 := E1.wr W3
  replace Fv := Fv.other W3 (Or.inr (slot_ne (Or.inr (hw _ (List.mem_of_getElem? (i := 9) rfl))) (Or.inr (hw _ (List.mem_of_getElem? (i := 10) rfl))) (by decide) (t := (.array .byte)) (t' := .byte) (by decide) (by decide)))
  replace O := O.wr W3 ge_a1
  replace Z0 := Nat.le_trans Z0 (Keep.of_wr W3).1
  replace K0 := K0.wr W3 (Or.inl (List.mem_of_getElem? (i := 0) rfl))
  show own_Go _ _ _ _ (T3.setTop (mkF m 14 #[.val (.ref a1), .val (.ref b), .val (.int (0 : Int32))] []))
  refine own_ret X3 hlk (v := none) (fun _ => rfl) (fun fs hr => X3.returnOut hx Bd.returns (hb hby own_d5_14) hr) ?_ (by decide) (by decide)
  try rw [e3]
  exact ⟨rfl, NF3, K0, O, E1, Fv, Fc⟩
theorem own_d43_0 : decode jdk_43_method_47_code 0 = .ok (.iload_n 2, 1) := by decide +kernel
theorem own_d43_1 : decode jdk_43_method_47_code 1 = .ok (.ifCond .ne 6, 3) := by decide +kernel
theorem own_d43_7 : decode jdk_43_method_47_code 7 = .ok (.new 1, 3) := by decide +kernel
theorem own_d43_10 : decode jdk_43_method_47_code 10 = .ok (.dup, 1) := by decide +kernel
theorem own_d43_11 : decode jdk_43_method_47_code 11 = .ok (.aload_n 0, 1) := by decide +kernel
theorem own_d43_12 : decode jdk_43_method_47_code 12 = .ok (.iload_n 1, 1) := by decide +kernel
theorem own_d43_13 : decode jdk_43_method_47_code 13 = .ok (.iload_n 1, 1) := by decide +kernel
theorem own_d43_14 : decode jdk_43_method_47_code 14 = .ok (.iload_n 2, 1) := by decide +kernel
theorem own_d43_15 : decode jdk_43_method_47_code 15 = .ok (.iadd, 1) := by decide +kernel
theorem own_d43_16 : decode jdk_43_method_47_code 16 = .ok (.invokestatic 232, 3) := by decide +kernel
theorem own_d43_19 : decode jdk_43_method_47_code 19 = .ok (.iconst 0, 1) := by decide +kernel
theorem own_d43_20 : decode jdk_43_method_47_code 20 = .ok (.invokespecial 112, 3) := by decide +kernel
theorem own_pd14 : parseMethodDescriptor "([BB)V" = some ⟨[(.array .byte), .byte], none⟩ := by decide +kernel
theorem own_d43_23 : decode jdk_43_method_47_code 23 = .ok (.areturn, 1) := by decide +kernel
set_option maxRecDepth 65536 in
set_option maxHeartbeats 40000000 in
theorem own_rmNS (l : Launch) (Z : State) (a0 : Array Value) (hw : ∀ d ∈ tables_1, d.before a0 Z = true) (b : Addr) (k : ClassId) (z : Int32) (fb : Int32) (ln : Int32) (vs : List Value) (h0 : Heap) (n0 : Nat) (Z0 : n0 ≤ h0.size) (V : Arv Z h0 b k .byte z vs (.int 0)) (O : Old Z n0 h0) (nl : ¬ ln = (0 : Int32)) (bd1 : 0 ≤ fb.toInt) (bd2 : 0 ≤ ln.toInt) (bd3 : fb.toInt + ln.toInt ≤ z.toInt) (bd4 : z.toInt ≤ 4) (bd5 : ¬ (fb = (0 : Int32) ∧ (fb + ln) = z)) :
    own_Met l Z [] (⟨"java/lang/StringLatin1", "newString", "([BII)Ljava/lang/String;"⟩ : MethodName) jdk_43_method_47_code 3 (some (.object "java/lang/String")) ({ frames := 3, cells := 2, slots := 8, locals := 92 } : Room) #[(.ref b), (.int fb), (.int ln)] h0 (fun v h L => ∃ (sa sb : Addr) (sk : ClassId) (svs : List Value), v = some (.ref sa) ∧ Fr n0 L ∧ Keep h0 h [] ∧ Old Z n0 h ∧ Exa Z h sa "java/lang/String" ∧ Fld Z h sa "java/lang/String" "value" "[B" (.ref sb) ∧ Fld Z h sa "java/lang/String" "coder" "B" (.int 0) ∧ Arv Z h sb sk .byte ln svs (.int 0)) := by
  refine MetFree.of_bodySF (plainFor_of_name own_pn0) hisR ?_
  intro p e s m args below meth c s₁ Bd hml0 hP hK
  obtain ⟨rfl, hZ, hh⟩ := hP
  have hx := Bd.exec
  have hby := Bd.bytes
  have hml : c.maxLocals = 3 := hml0
  have hown : s.vm.findClass "java/lang/StringLatin1" = some m.cls := findClass_of_methodNamed Bd.named
  have hnm := (name_of_methodNamed Bd.named Bd.method).1
  have hlk : meth.locks = false := Bd.notSynchronized
  have X0 : Stand p l e ({ frames := 3, cells := 2, slots := 8, locals := 92 } : Room) s m #[(.ref b), (.int fb), (.int ln)] below meth c s₁ [] 0 0 := Stand.of_body Bd
  have e0 : s₁.heap = h0 := by rw [← hh, Bd.state]; rfl
  have N0 := Fr.nil n0
  refine own_body (Q := fun v h L => ∃ (sa sb : Addr) (sk : ClassId) (svs : List Value), v = some (.ref sa) ∧ Fr n0 L ∧ Keep h0 h [] ∧ Old Z n0 h ∧ Exa Z h sa "java/lang/String" ∧ Fld Z h sa "java/lang/String" "value" "[B" (.ref sb) ∧ Fld Z h sa "java/lang/String" "coder" "B" (.int 0) ∧ Arv Z h sb sk .byte ln svs (.int 0)) ?_
  refine own_go (fun _ kont => castTop (own_ef m #[(.ref b), (.int fb), (.int ln)] 3 #[.val (.ref b), .val (.int fb), .val (.int ln)] (own_al [(.ref b), (.int fb), (.int ln)] 3 [.val (.ref b), .val (.int fb), .val (.int ln)] rfl)) kont) ?_
  show own_Go _ _ _ _ (s₁.setTop (mkF m 0 #[.val (.ref b), .val (.int fb), .val (.int ln)] []))
  have K0 : Keep h0 h0 [] := Keep.refl _ _
  refine own_go (fun _ => XS.iloadN X0.here hx rfl (hb hby own_d43_0) rfl) ?_
  show own_Go _ _ _ _ (s₁.setTop (mkF m 1 #[.val (.ref b), .val (.int fb), .val (.int ln)] [(.int ln)]))
  refine own_go (fun _ => XS.ifYes X0.here hx rfl (pc0 := 1) (pc' := 7) rfl (hb hby own_d43_1) rfl ((if0 _ _).trans (feq nl).2) (by decide) (by decide)) ?_
  show own_Go _ _ _ _ (s₁.setTop (mkF m 7 #[.val (.ref b), .val (.int fb), .val (.int ln)] []))
  obtain ⟨T1, h1, X1, e1, E1, A1, D1, -, st1⟩ := newO X0 hx hZ hown (hw _ (List.mem_of_getElem? (i := 204) rfl)) (hw _ (List.mem_of_getElem? (i := 7) rfl)) (hw _ (List.mem_of_getElem? (i := 6) rfl)) e0 (g := (mkF m 7 #[.val (.ref b), .val (.int fb), .val (.int ln)] [])) rfl (hb hby own_d43_7) (by decide) (by decide)
  obtain ⟨b1, g1⟩ : ∃ z, z = h0.size := ⟨_, rfl⟩
  rw [← g1] at A1 D1 st1
  refine own_go st1 ?_
  have ge_b1 : n0 ≤ b1 := Nat.le_trans Z0 (Nat.le_of_eq g1.symm)
  have sz_b1 : h0.size ≤ b1 := Nat.le_trans K0.1 (Nat.le_of_eq g1.symm)
  replace V := V.ext E1
  replace O := O.ext E1
  replace Z0 := Nat.le_trans Z0 E1.1
  replace K0 := K0.ext E1
  have F_value_b1 : Fld Z h1 b1 "java/lang/String" "value" "[B" .null := D1 (Or.inr (hw _ (List.mem_of_getElem? (i := 9) rfl))) (ty := (.array .byte)) (by decide)
  have F_coder_b1 : Fld Z h1 b1 "java/lang/String" "coder" "B" (.int (0 : Int32)) := D1 (Or.inr (hw _ (List.mem_of_getElem? (i := 10) rfl))) (ty := .byte) (by decide)
  refine own_go (fun _ => XS.dup X1.here hx rfl (hb hby own_d43_10) rfl rfl) ?_
  refine own_go (fun _ => XS.aloadN X1.here hx rfl (hb hby own_d43_11) rfl rfl) ?_
  refine own_go (fun _ => XS.iloadN X1.here hx rfl (hb hby own_d43_12) rfl) ?_
  show own_Go _ _ _ _ (T1.setTop (mkF m 13 #[.val (.ref b), .val (.int fb), .val (.int ln)] [(.int fb), (.ref b), (.ref b1), (.ref b1)]))
  refine own_go (fun _ => XS.iloadN X1.here hx rfl (hb hby own_d43_13) rfl) ?_
  refine own_go (fun _ => XS.iloadN X1.here hx rfl (hb hby own_d43_14) rfl) ?_
  refine own_go (fun _ => XS.iadd X1.here hx rfl (hb hby own_d43_15) rfl) ?_
  show own_Go _ _ _ _ (T1.setTop (mkF m 16 #[.val (.ref b), .val (.int fb), .val (.int ln)] [(.int (fb + ln)), (.int fb), (.ref b), (.ref b1), (.ref b1)]))
  obtain ⟨_, _, ⟨T2, L2, k2, n2⟩, -, X2, ⟨Lc2, hQ2, l2, y2, z2⟩, st2⟩ := Jvm.LawKit.callS X1 hx (y := (⟨"java/util/Arrays", "copyOfRange", "([BII)[B"⟩ : MethodName)) hown (mvT hZ (hw _ (List.mem_of_getElem? (i := 205) rfl))) (mvT hZ (hw _ (List.mem_of_getElem? (i := 206) rfl))) (mvT hZ (hw _ (List.mem_of_getElem? (i := 207) rfl))) (mvT hZ (hw _ (List.mem_of_getElem? (i := 208) rfl))) (by decide) (own_back (W := 2) (own_rmCR l Z a0 hw b k z fb (fb + ln) vs h1 n0 Z0 V O bd1 (own_ab bd1 bd2 bd3).1 (own_ab bd1 bd2 bd3).2 bd4 bd5) hZ (hw _ (List.mem_of_getElem? (i := 208) rfl)) (hw _ (List.mem_of_getElem? (i := 207) rfl)) (by decide) (by decide)) (g := (mkF m 16 #[.val (.ref b), .val (.int fb), .val (.int ln)] [(.int (fb + ln)), (.int fb), (.ref b), (.ref b1), (.ref b1)])) rfl (by rw [hml]; rfl) (argsL := [(.ref b), (.int fb), (.int (fb + ln))]) (rest := [(.ref b1), (.ref b1)]) (lenOf own_pd13 rfl) rfl (by show 2 * 0 + _ ≤ _; exact Nat.le_of_eq rfl) (hb hby own_d43_16) (fun _ _ => ⟨rfl, e1, (by decide : 1 + 1 ≤ _), (by decide : 4 + 4 ≤ _)⟩)
  dsimp only [Pt.U, Pt.locs, Pt.cells, Pt.slots] at X2 l2 y2 z2 st2 hQ2
  replace X2 := own_cst X2 l2 y2 z2 (k2 := 2) (n2 := 8) rfl rfl
  clear l2 y2 z2
  obtain ⟨bq2, kk2, us2, rfl, Nq2, K2, O2, geb2, szq2, V2⟩ := hQ2
  have NF2 := Fr.app N0 Nq2
  refine own_go st2 ?_
  have ne_b1_bq2 : b1 ≠ bq2 := Nat.ne_of_lt (Nat.lt_of_lt_of_le A1.lt szq2)
  have sz_bq2 : h0.size ≤ bq2 := Nat.le_trans K0.1 szq2
  replace A1 := A1.keep K2
  replace F_value_b1 := F_value_b1.keep K2 nin0
  replace F_coder_b1 := F_coder_b1.keep K2 nin0
  replace Z0 := Nat.le_trans Z0 K2.1
  replace K0 := K0.trans K2 all0
  have O := O2
  rw [own_adl] at V2
  show own_Go _ _ _ _ (T2.setTop (mkF m 19 #[.val (.ref b), .val (.int fb), .val (.int ln)] [(.ref bq2), (.ref b1), (.ref b1)]))
  refine own_go (fun _ => XS.iconst X2.here hx rfl (hb hby own_d43_19)) ?_
  show own_Go _ _ _ _ (T2.setTop (mkF m 20 #[.val (.ref b), .val (.int fb), .val (.int ln)] [(.int (0 : Int32)), (.ref bq2), (.ref b1), (.ref b1)]))
  obtain ⟨_, _, ⟨T3, L3, k3, n3⟩, -, X3, ⟨Lc3, hQ3, l3, y3, z3⟩, st3⟩ := X2.specialBack hx (y := (⟨"java/lang/String", "<init>", "([BB)V"⟩ : MethodName)) rfl hown (mvT hZ (hw _ (List.mem_of_getElem? (i := 220) rfl))) (mvT hZ (hw _ (List.mem_of_getElem? (i := 26) rfl))) (mvT hZ (hw _ (List.mem_of_getElem? (i := 28) rfl))) (by decide) (own_back (W := 1) (own_rmIB l Z a0 hw b1 bq2 T2.heap n0 Z0 A1 F_value_b1 F_coder_b1 O ge_b1) hZ (hw _ (List.mem_of_getElem? (i := 28) rfl)) (hw _ (List.mem_of_getElem? (i := 6) rfl)) (by decide) (by decide)) (g := (mkF m 20 #[.val (.ref b), .val (.int fb), .val (.int ln)] [(.int (0 : Int32)), (.ref bq2), (.ref b1), (.ref b1)])) rfl (by rw [hml]; rfl) (Steps.refl _) (a := b1) (argsL := [(.ref bq2), (.int (0 : Int32))]) (rest := [(.ref b1)]) (lenOf own_pd14 rfl) rfl (by show 2 * 0 + _ ≤ _; exact Nat.le_of_eq rfl) (hb hby own_d43_20) (fun _ _ => ⟨rfl, rfl, (by decide : 2 + 0 ≤ _), (by decide : 8 + 0 ≤ _)⟩)
  dsimp only [Pt.U, Pt.locs, Pt.cells, Pt.slots] at X3 l3 y3 z3 st3 hQ3
  replace X3 := own_cst X3 l3 y3 z3 (k2 := 2) (n2 := 8) rfl rfl
  clear l3 y3 z3
  obtain ⟨rfl, Nq3, K3, O3, E3, Fv3, Fc3⟩ := hQ3
  have NF3 := Fr.app NF2 Nq3
  refine own_goT st3 ?_
  replace V2 := V2.keep K3 (ninS (Ne.symm ne_b1_bq2) nin0)
  replace Z0 := Nat.le_trans Z0 K3.1
  replace K0 := K0.trans K3 (allS (Or.inr sz_b1) all0)
  have O := O3
  show own_Go _ _ _ _ (T3.setTop (mkF m 23 #[.val (.ref b), .val (.int fb), .val (.int ln)] [(.ref b1)]))
  refine own_ret X3 hlk (v := some (.ref b1)) (fun h => by rw [Bd.returns] at h; cases h) (fun fs hr => retOut X3 hx Bd.returns rfl (Or.inr (Or.inr (Or.inr (Or.inr ⟨rfl, rfl, rfl⟩)))) (hb hby own_d43_23) hr) ?_ (by decide) (by decide)
  skip
  exact ⟨b1, bq2, kk2, us2, rfl, NF3, K0, O, E3, Fv3, Fc3, V2⟩
theorem own_d43_4 : decode jdk_43_method_47_code 4 = .ok (.ldc 151, 2) := by decide +kernel
theorem own_d43_6 : decode jdk_43_method_47_code 6 = .ok (.areturn, 1) := by decide +kernel
set_option maxRecDepth 65536 in
set_option maxHeartbeats 40000000 in
theorem own_rmNZ (l : Launch) (Z : State) (a0 : Array Value) (hw : ∀ d ∈ tables_1, d.before a0 Z = true) (b : Addr) (fb : Int32) (h0 : Heap) (n0 : Nat) (Z0 : n0 ≤ h0.size) (O : Old Z n0 h0) :
    own_MetK l Z consts_1 [] (⟨"java/lang/StringLatin1", "newString", "([BII)Ljava/lang/String;"⟩ : MethodName) jdk_43_method_47_code 3 (some (.object "java/lang/String")) ({ frames := 0, cells := 2, slots := 4, locals := 0 } : Room) #[(.ref b), (.int fb), (.int (0 : Int32))] h0 (fun v h L => ∃ (sa sb : Addr) (sk : ClassId) (svs : List Value), v = some (.ref sa) ∧ Fr n0 L ∧ Keep h0 h [] ∧ Old Z n0 h ∧ Exa Z h sa "java/lang/String" ∧ Fld Z h sa "java/lang/String" "value" "[B" (.ref sb) ∧ Fld Z h sa "java/lang/String" "coder" "B" (.int 0) ∧ Arv Z h sb sk .byte 0 svs (.int 0)) := by
  refine MetFree.of_bodySF (plainFor_of_name own_pn0) hisR ?_
  intro p e s m args below meth c s₁ Bd hml0 hP hK
  obtain ⟨rfl, hZ0, hh, H0⟩ := hP
  have hx := Bd.exec
  have hby := Bd.bytes
  have hml : c.maxLocals = 3 := hml0
  have hown0 : s.vm.findClass "java/lang/StringLatin1" = some m.cls := findClass_of_methodNamed Bd.named
  have hnm := (name_of_methodNamed Bd.named Bd.method).1
  have hlk : meth.locks = false := Bd.notSynchronized
  have X0 : Stand p l e ({ frames := 0, cells := 2, slots := 4, locals := 0 } : Room) (s.setVm s.vm) m #[(.ref b), (.int fb), (.int (0 : Int32))] below meth c s₁ [] 0 0 := Stand.of_body Bd
  have hZ : Z.Warmed39 (s.setVm s.vm).vm := hZ0
  have hown : (s.setVm s.vm).vm.findClass "java/lang/StringLatin1" = some m.cls := hown0
  have hS : s.Since s.vm h0.size := State.WarmedH.since (State.WarmedH.refl s) _
  have hsw : h0.size ≤ h0.size := Nat.le_refl _
  have CR : CHr Z consts_1 s.vm h0 s.vm h0 := CHr.refl H0
  have e0 : s₁.heap = h0 := by rw [← hh, Bd.state]; rfl
  have N0 := Fr.nil n0
  refine own_bodyK (Q := fun v h L => ∃ (sa sb : Addr) (sk : ClassId) (svs : List Value), v = some (.ref sa) ∧ Fr n0 L ∧ Keep h0 h [] ∧ Old Z n0 h ∧ Exa Z h sa "java/lang/String" ∧ Fld Z h sa "java/lang/String" "value" "[B" (.ref sb) ∧ Fld Z h sa "java/lang/String" "coder" "B" (.int 0) ∧ Arv Z h sb sk .byte 0 svs (.int 0)) ?_
  refine own_go (fun _ kont => castTop (own_ef m #[(.ref b), (.int fb), (.int (0 : Int32))] 3 #[.val (.ref b), .val (.int fb), .val (.int (0 : Int32))] (own_al [(.ref b), (.int fb), (.int (0 : Int32))] 3 [.val (.ref b), .val (.int fb), .val (.int (0 : Int32))] rfl)) kont) ?_
  show own_Go _ _ _ _ (s₁.setTop (mkF m 0 #[.val (.ref b), .val (.int fb), .val (.int (0 : Int32))] []))
  have K0 : Keep h0 h0 [] := Keep.refl _ _
  refine own_go (fun _ => XS.iloadN X0.here hx rfl (hb hby own_d43_0) rfl) ?_
  show own_Go _ _ _ _ (s₁.setTop (mkF m 1 #[.val (.ref b), .val (.int fb), .val (.int (0 : Int32))] [(.int (0 : Int32))]))
  refine own_go (fun _ => XS.ifNo X0.here hx rfl (hb hby own_d43_1) rfl ((if0 _ _).trans (teq rfl).2)) ?_
  show own_Go _ _ _ _ (s₁.setTop (mkF m 4 #[.val (.ref b), .val (.int fb), .val (.int (0 : Int32))] []))
  obtain ⟨la1, T1, h1, kq1, lb1, kb1, X1, e1, E1, hS1, hsw1, hZ1, hown1, Ex1, Fc1, Fv1, V1, -, -, CR1, Lt1, sf1, st1⟩ := ldcCH (s := s) (vm0 := s.vm) (EL := consts_1) X0 hx hZ hown (hw _ (List.mem_of_getElem? (i := 221) rfl)) (own_ws hw) e0 hS hsw (own_ew hw) (List.mem_of_getElem? (i := 1) rfl) CR.1 (vs := []) (z := 0) ⟨by decide +kernel, by first | rfl | decide +kernel⟩ (by decide) rfl (g := (mkF m 4 #[.val (.ref b), .val (.int fb), .val (.int (0 : Int32))] [])) rfl (hb hby own_d43_4) (n := 0) (by decide) (by decide) (by decide) (by decide)
  refine own_go st1 ?_
  replace O := O.ext E1
  replace Z0 := Nat.le_trans Z0 E1.1
  replace K0 := K0.ext E1
  have hZ := hZ1
  have hown := hown1
  have hS := hS1
  have hsw := hsw1
  replace CR := CR.trans CR1
  show own_Go _ _ _ _ (T1.setTop (mkF m 6 #[.val (.ref b), .val (.int fb), .val (.int (0 : Int32))] [(.ref la1)]))
  refine own_retK X1 hS e1 hsw hh hZ (own_ew hw) CR hlk (v := some (.ref la1)) (fun h => by rw [Bd.returns] at h; cases h) (fun fs hr => retOut X1 hx Bd.returns rfl (Or.inr (Or.inr (Or.inr (Or.inr ⟨rfl, rfl, rfl⟩)))) (hb hby own_d43_6) hr) ?_ (by decide) (by decide)
  try rw [e1]
  exact ⟨la1, lb1, kb1, [], rfl, N0, K0, O, Ex1, Fv1, Fc1, V1⟩
theorem own_d18_0 : decode jdk_42_method_92_code 0 = .ok (.aload_n 0, 1) := by decide +kernel
theorem own_d18_1 : decode jdk_42_method_92_code 1 = .ok (.invokevirtual 505, 3) := by decide +kernel
theorem own_d18_4 : decode jdk_42_method_92_code 4 = .ok (.istore_n 3, 1) := by decide +kernel
theorem own_d18_5 : decode jdk_42_method_92_code 5 = .ok (.iload_n 1, 1) := by decide +kernel
theorem own_d18_6 : decode jdk_42_method_92_code 6 = .ok (.iload_n 2, 1) := by decide +kernel
theorem own_d18_7 : decode jdk_42_method_92_code 7 = .ok (.iload_n 3, 1) := by decide +kernel
theorem own_d18_8 : decode jdk_42_method_92_code 8 = .ok (.invokestatic 521, 3) := by decide +kernel
theorem own_pd15 : parseMethodDescriptor "(III)V" = some ⟨[.int, .int, .int], none⟩ := by decide +kernel
theorem own_d18_11 : decode jdk_42_method_92_code 11 = .ok (.iload_n 1, 1) := by decide +kernel
theorem own_d18_12 : decode jdk_42_method_92_code 12 = .ok (.ifCond .ne 10, 3) := by decide +kernel
theorem own_d18_15 : decode jdk_42_method_92_code 15 = .ok (.iload_n 2, 1) := by decide +kernel
theorem own_d18_16 : decode jdk_42_method_92_code 16 = .ok (.iload_n 3, 1) := by decide +kernel
theorem own_d18_17 : decode jdk_42_method_92_code 17 = .ok (.if_icmp .ne 5, 3) := by decide +kernel
theorem own_d18_20 : decode jdk_42_method_92_code 20 = .ok (.aload_n 0, 1) := by decide +kernel
theorem own_d18_21 : decode jdk_42_method_92_code 21 = .ok (.areturn, 1) := by decide +kernel
theorem own_d18_22 : decode jdk_42_method_92_code 22 = .ok (.iload_n 2, 1) := by decide +kernel
theorem own_d18_23 : decode jdk_42_method_92_code 23 = .ok (.iload_n 1, 1) := by decide +kernel
theorem own_d18_24 : decode jdk_42_method_92_code 24 = .ok (.isub, 1) := by decide +kernel
theorem own_d18_25 : decode jdk_42_method_92_code 25 = .ok (.istore 4, 2) := by decide +kernel
theorem own_d18_27 : decode jdk_42_method_92_code 27 = .ok (.aload_n 0, 1) := by decide +kernel
theorem own_d18_28 : decode jdk_42_method_92_code 28 = .ok (.invokevirtual 492, 3) := by decide +kernel
theorem own_d18_31 : decode jdk_42_method_92_code 31 = .ok (.ifCond .eq 16, 3) := by decide +kernel
theorem own_d18_34 : decode jdk_42_method_92_code 34 = .ok (.aload_n 0, 1) := by decide +kernel
theorem own_d18_35 : decode jdk_42_method_92_code 35 = .ok (.getfield 9, 3) := by decide +kernel
theorem own_d18_38 : decode jdk_42_method_92_code 38 = .ok (.iload_n 1, 1) := by decide +kernel
theorem own_d18_39 : decode jdk_42_method_92_code 39 = .ok (.iload 4, 2) := by decide +kernel
theorem own_d18_41 : decode jdk_42_method_92_code 41 = .ok (.invokestatic 685, 3) := by decide +kernel
theorem own_pd16 : parseMethodDescriptor "([BII)Ljava/lang/String;" = some ⟨[(.array .byte), .int, .int], some (.object "java/lang/String")⟩ := by decide +kernel
theorem own_d18_44 : decode jdk_42_method_92_code 44 = .ok (.goto 13, 3) := by decide +kernel
theorem own_d18_57 : decode jdk_42_method_92_code 57 = .ok (.areturn, 1) := by decide +kernel
set_option maxRecDepth 65536 in
set_option maxHeartbeats 40000000 in
theorem own_rmSS (l : Launch) (Z : State) (a0 : Array Value) (hw : ∀ d ∈ tables_1, d.before a0 Z = true) (a1 : Addr) (b : Addr) (k : ClassId) (cs : Int32) (fmt : Value) (z : Int32) (fb : Int32) (fe : Int32) (vs : List Value) (h0 : Heap) (n0 : Nat) (Z0 : n0 ≤ h0.size) (E1 : Exa Z h0 a1 "java/lang/String") (Fv : Fld Z h0 a1 "java/lang/String" "value" "[B" (.ref b)) (Fc : Fld Z h0 a1 "java/lang/String" "coder" "B" (.int 0)) (V : Arv Z h0 b k .byte z vs (.int 0)) (O : Old Z n0 h0) (S_C : Sta Z Z.heap "java/lang/String" "COMPACT_STRINGS" "Z" (.int cs)) (hcs : ¬ cs = (0 : Int32)) (S_F : Sta Z Z.heap "jdk/internal/util/Preconditions" "SIOOBE_FORMATTER" "Ljava/util/function/BiFunction;" fmt) (hfmt : fmt = .null ∨ ∃ o : Addr, fmt = .ref o) (p1 : 0 ≤ fb.toInt) (p2 : fb.toInt ≤ fe.toInt) (p3 : fe.toInt ≤ z.toInt) (p4 : z.toInt ≤ 4) :
    own_MetK l Z consts_1 [] (⟨"java/lang/String", "substring", "(II)Ljava/lang/String;"⟩ : MethodName) jdk_42_method_92_code 5 (some (.object "java/lang/String")) ({ frames := 4, cells := 2, slots := 8, locals := 106 } : Room) #[(.ref a1), (.int fb), (.int fe)] h0 (fun v h L => ∃ (sa sb : Addr) (sk : ClassId) (svs : List Value), v = some (.ref sa) ∧ Fr n0 L ∧ Keep h0 h [] ∧ Old Z n0 h ∧ Exa Z h sa "java/lang/String" ∧ Fld Z h sa "java/lang/String" "value" "[B" (.ref sb) ∧ Fld Z h sa "java/lang/String" "coder" "B" (.int 0) ∧ Arv Z h sb sk .byte (fe - fb) svs (.int 0)) := by
  refine MetFree.of_bodySF (plainFor_of_name own_pn1) hisR ?_
  intro p e s m args below meth c s₁ Bd hml0 hP hK
  obtain ⟨rfl, hZ0, hh, H0⟩ := hP
  have hx := Bd.exec
  have hby := Bd.bytes
  have hml : c.maxLocals = 5 := hml0
  have hown0 : s.vm.findClass "java/lang/String" = some m.cls := findClass_of_methodNamed Bd.named
  have hnm := (name_of_methodNamed Bd.named Bd.method).1
  have hlk : meth.locks = false := Bd.notSynchronized
  have X0 : Stand p l e ({ frames := 4, cells := 2, slots := 8, locals := 106 } : Room) (s.setVm s.vm) m #[(.ref a1), (.int fb), (.int fe)] below meth c s₁ [] 0 0 := Stand.of_body Bd
  have hZ : Z.Warmed39 (s.setVm s.vm).vm := hZ0
  have hown : (s.setVm s.vm).vm.findClass "java/lang/String" = some m.cls := hown0
  have hS : s.Since s.vm h0.size := State.WarmedH.since (State.WarmedH.refl s) _
  have hsw : h0.size ≤ h0.size := Nat.le_refl _
  have CR : CHr Z consts_1 s.vm h0 s.vm h0 := CHr.refl H0
  have e0 : s₁.heap = h0 := by rw [← hh, Bd.state]; rfl
  have N0 := Fr.nil n0
  refine own_bodyK (Q := fun v h L => ∃ (sa sb : Addr) (sk : ClassId) (svs : List Value), v = some (.ref sa) ∧ Fr n0 L ∧ Keep h0 h [] ∧ Old Z n0 h ∧ Exa Z h sa "java/lang/String" ∧ Fld Z h sa "java/lang/String" "value" "[B" (.ref sb) ∧ Fld Z h sa "java/lang/String" "coder" "B" (.int 0) ∧ Arv Z h sb sk .byte (fe - fb) svs (.int 0)) ?_
  refine own_go (fun _ kont => castTop (own_ef m #[(.ref a1), (.int fb), (.int fe)] 5 #[.val (.ref a1), .val (.int fb), .val (.int fe), .unset, .unset] (own_al [(.ref a1), (.int fb), (.int fe)] 5 [.val (.ref a1), .val (.int fb), .val (.int fe), .unset, .unset] rfl)) kont) ?_
  show own_Go _ _ _ _ (s₁.setTop (mkF m 0 #[.val (.ref a1), .val (.int fb), .val (.int fe), .unset, .unset] []))
  have K0 : Keep h0 h0 [] := Keep.refl _ _
  refine own_go (fun _ => XS.aloadN X0.here hx rfl (hb hby own_d18_0) rfl rfl) ?_
  show own_Go _ _ _ _ (s₁.setTop (mkF m 1 #[.val (.ref a1), .val (.int fb), .val (.int fe), .unset, .unset] [(.ref a1)]))
  obtain ⟨cq1, kq1, q1a, q1b, q1c⟩ := isOf hZ e0 E1
  obtain ⟨_, _, ⟨T1, L1, k1, n1⟩, -, X1, ⟨Lc1, hQ1, l1, y1, z1⟩, st1⟩ := X0.virtualBack hx (y := (⟨"java/lang/String", "length", "()I"⟩ : MethodName)) (z := (⟨"java/lang/String", "length", "()I"⟩ : MethodName)) hown (mvT hZ (hw _ (List.mem_of_getElem? (i := 56) rfl))) (mvT hZ (hw _ (List.mem_of_getElem? (i := 57) rfl))) (notFace_of_selects (args := #[]) (mvT hZ (hw _ (List.mem_of_getElem? (i := 59) rfl)))) (mvT hZ (hw _ (List.mem_of_getElem? (i := 59) rfl))) (mvT hZ (hw _ (List.mem_of_getElem? (i := 58) rfl))) (by decide) (own_back (W := 0) (own_rmln0 l Z a0 hw a1 b k cs z z vs h0 n0 Z0 E1 Fv Fc V O S_C hcs (own_shr0 z)) hZ (hw _ (List.mem_of_getElem? (i := 60) rfl)) (hw _ (List.mem_of_getElem? (i := 6) rfl)) (by decide) (by decide)) q1a q1c (g := (mkF m 1 #[.val (.ref a1), .val (.int fb), .val (.int fe), .unset, .unset] [(.ref a1)])) rfl (by rw [hml]; rfl) (Steps.refl _) (argsL := []) (rest := []) (lenOf own_pd9 rfl) rfl (by show 2 * 0 + _ ≤ _; exact Nat.le_of_eq rfl) (hb hby own_d18_1) (fun _ _ => ⟨rfl, e0, (by decide : 0 + 0 ≤ _), (by decide : 0 + 0 ≤ _)⟩)
  dsimp only [Pt.U, Pt.locs, Pt.cells, Pt.slots] at X1 l1 y1 z1 st1 hQ1
  replace X1 := own_cst X1 l1 y1 z1 (k2 := 0) (n2 := 0) rfl rfl
  clear l1 y1 z1
  obtain ⟨rfl, Nq1, eq1⟩ := hQ1
  have NF1 := Fr.app N0 Nq1
  refine own_goT st1 ?_
  show own_Go _ _ _ _ (T1.setTop (mkF m 4 #[.val (.ref a1), .val (.int fb), .val (.int fe), .unset, .unset] [(.int z)]))
  refine own_go (fun _ => XS.istoreN X1.here hx rfl (hb hby own_d18_4) rfl (l' := #[.val (.ref a1), .val (.int fb), .val (.int fe), .val (.int z), .unset]) rfl) ?_
  refine own_go (fun _ => XS.iloadN X1.here hx rfl (hb hby own_d18_5) rfl) ?_
  refine own_go (fun _ => XS.iloadN X1.here hx rfl (hb hby own_d18_6) rfl) ?_
  refine own_go (fun _ => XS.iloadN X1.here hx rfl (hb hby own_d18_7) rfl) ?_
  show own_Go _ _ _ _ (T1.setTop (mkF m 8 #[.val (.ref a1), .val (.int fb), .val (.int fe), .val (.int z), .unset] [(.int z), (.int fe), (.int fb)]))
  obtain ⟨_, _, ⟨T2, L2, k2, n2⟩, -, X2, ⟨Lc2, hQ2, l2, y2, z2⟩, st2⟩ := Jvm.LawKit.callS X1 hx (y := (⟨"java/lang/String", "checkBoundsBeginEnd", "(III)V"⟩ : MethodName)) hown (mvT hZ (hw _ (List.mem_of_getElem? (i := 90) rfl))) (mvT hZ (hw _ (List.mem_of_getElem? (i := 91) rfl))) (mvT hZ (hw _ (List.mem_of_getElem? (i := 6) rfl))) (mvT hZ (hw _ (List.mem_of_getElem? (i := 92) rfl))) (by decide) (own_back (W := 0) (own_rmCBE l Z a0 hw fb fe z fmt h0 n0 Z0 (own_n0 p1) (own_nl p2) (own_nl p3) O S_F hfmt) hZ (hw _ (List.mem_of_getElem? (i := 92) rfl)) (hw _ (List.mem_of_getElem? (i := 6) rfl)) (by decide) (by decide)) (g := (mkF m 8 #[.val (.ref a1), .val (.int fb), .val (.int fe), .val (.int z), .unset] [(.int z), (.int fe), (.int fb)])) rfl (by rw [hml]; rfl) (argsL := [(.int fb), (.int fe), (.int z)]) (rest := []) (lenOf own_pd15 rfl) rfl (by show 2 * 0 + _ ≤ _; exact Nat.le_of_eq rfl) (hb hby own_d18_8) (fun _ _ => ⟨rfl, eq1, (by decide : 0 + 0 ≤ _), (by decide : 0 + 0 ≤ _)⟩)
  dsimp only [Pt.U, Pt.locs, Pt.cells, Pt.slots] at X2 l2 y2 z2 st2 hQ2
  replace X2 := own_cst X2 l2 y2 z2 (k2 := 0) (n2 := 0) rfl rfl
  clear l2 y2 z2
  obtain ⟨rfl, Nq2, eq2⟩ := hQ2
  have NF2 := Fr.app NF1 Nq2
  refine own_go st2 ?_
  show own_Go _ _ _ _ (T2.setTop (mkF m 11 #[.val (.ref a1), .val (.int fb), .val (.int fe), .val (.int z), .unset] []))
  refine own_go (fun _ => XS.iloadN X2.here hx rfl (hb hby own_d18_11) rfl) ?_
  show own_Go _ _ _ _ (T2.setTop (mkF m 12 #[.val (.ref a1), .val (.int fb), .val (.int fe), .val (.int z), .unset] [(.int fb)]))
  by_cases q1 : fb = (0 : Int32)
  · have _h := q1
    refine own_go (fun _ => XS.ifNo X2.here hx rfl (hb hby own_d18_12) rfl ((if0 _ _).trans (teq q1).2)) ?_
    show own_Go _ _ _ _ (T2.setTop (mkF m 15 #[.val (.ref a1), .val (.int fb), .val (.int fe), .val (.int z), .unset] []))
    refine own_go (fun _ => XS.iloadN X2.here hx rfl (hb hby own_d18_15) rfl) ?_
    refine own_go (fun _ => XS.iloadN X2.here hx rfl (hb hby own_d18_16) rfl) ?_
    show own_Go _ _ _ _ (T2.setTop (mkF m 17 #[.val (.ref a1), .val (.int fb), .val (.int fe), .val (.int z), .unset] [(.int z), (.int fe)]))
    by_cases q2 : fe = z
    · have _h := q2
      refine own_go (fun _ => XS.icmpNo X2.here hx rfl (hb hby own_d18_17) rfl (teq q2).2) ?_
      show own_Go _ _ _ _ (T2.setTop (mkF m 20 #[.val (.ref a1), .val (.int fb), .val (.int fe), .val (.int z), .unset] []))
      refine own_go (fun _ => XS.aloadN X2.here hx rfl (hb hby own_d18_20) rfl rfl) ?_
      show own_Go _ _ _ _ (T2.setTop (mkF m 21 #[.val (.ref a1), .val (.int fb), .val (.int fe), .val (.int z), .unset] [(.ref a1)]))
      refine own_retK X2 hS eq2 hsw hh hZ (own_ew hw) CR hlk (v := some (.ref a1)) (fun h => by rw [Bd.returns] at h; cases h) (fun fs hr => retOut X2 hx Bd.returns rfl (Or.inr (Or.inr (Or.inr (Or.inr ⟨rfl, rfl, rfl⟩)))) (hb hby own_d18_21) hr) ?_ (by decide) (by decide)
      try rw [eq2]
      exact ⟨a1, b, k, vs, rfl, NF2, K0, O, E1, Fv, Fc, by rw [q1, q2, own_sub0]; exact V⟩
    · have _h := q2
      refine own_go (fun _ => XS.icmpYes X2.here hx rfl (pc0 := 17) (pc' := 22) rfl (hb hby own_d18_17) rfl (feq q2).2 (by decide) (by decide)) ?_
      show own_Go _ _ _ _ (T2.setTop (mkF m 22 #[.val (.ref a1), .val (.int fb), .val (.int fe), .val (.int z), .unset] []))
      refine own_go (fun _ => XS.iloadN X2.here hx rfl (hb hby own_d18_22) rfl) ?_
      refine own_go (fun _ => XS.iloadN X2.here hx rfl (hb hby own_d18_23) rfl) ?_
      refine own_go (fun _ => XS.isub X2.here hx rfl (hb hby own_d18_24) rfl) ?_
      refine own_go (fun _ => XS.istore X2.here hx rfl (hb hby own_d18_25) rfl (l' := #[.val (.ref a1), .val (.int fb), .val (.int fe), .val (.int z), .val (.int (fe - fb))]) rfl) ?_
      show own_Go _ _ _ _ (T2.setTop (mkF m 27 #[.val (.ref a1), .val (.int fb), .val (.int fe), .val (.int z), .val (.int (fe - fb))] []))
      refine own_go (fun _ => XS.aloadN X2.here hx rfl (hb hby own_d18_27) rfl rfl) ?_
      show own_Go _ _ _ _ (T2.setTop (mkF m 28 #[.val (.ref a1), .val (.int fb), .val (.int fe), .val (.int z), .val (.int (fe - fb))] [(.ref a1)]))
      obtain ⟨cq3, kq3, q3a, q3b, q3c⟩ := isOf hZ eq2 E1
      obtain ⟨_, _, ⟨T3, L3, k3, n3⟩, -, X3, ⟨Lc3, hQ3, l3, y3, z3⟩, st3⟩ := X2.virtualBack hx (y := (⟨"java/lang/String", "isLatin1", "()Z"⟩ : MethodName)) (z := (⟨"java/lang/String", "isLatin1", "()Z"⟩ : MethodName)) hown (mvT hZ (hw _ (List.mem_of_getElem? (i := 51) rfl))) (mvT hZ (hw _ (List.mem_of_getElem? (i := 52) rfl))) (notFace_of_selects (args := #[]) (mvT hZ (hw _ (List.mem_of_getElem? (i := 54) rfl)))) (mvT hZ (hw _ (List.mem_of_getElem? (i := 54) rfl))) (mvT hZ (hw _ (List.mem_of_getElem? (i := 53) rfl))) (by decide) (own_back (W := 0) (own_rmil0 l Z a0 hw a1 cs h0 n0 Z0 Fc O S_C hcs) hZ (hw _ (List.mem_of_getElem? (i := 55) rfl)) (hw _ (List.mem_of_getElem? (i := 6) rfl)) (by decide) (by decide)) q3a q3c (g := (mkF m 28 #[.val (.ref a1), .val (.int fb), .val (.int fe), .val (.int z), .val (.int (fe - fb))] [(.ref a1)])) rfl (by rw [hml]; rfl) (Steps.refl _) (argsL := []) (rest := []) (lenOf own_pd8 rfl) rfl (by show 2 * 0 + _ ≤ _; exact Nat.le_of_eq rfl) (hb hby own_d18_28) (fun _ _ => ⟨rfl, eq2, (by decide : 0 + 0 ≤ _), (by decide : 0 + 0 ≤ _)⟩)
      dsimp only [Pt.U, Pt.locs, Pt.cells, Pt.slots] at X3 l3 y3 z3 st3 hQ3
      replace X3 := own_cst X3 l3 y3 z3 (k2 := 0) (n2 := 0) rfl rfl
      clear l3 y3 z3
      obtain ⟨rfl, Nq3, eq3⟩ := hQ3
      have NF3 := Fr.app NF2 Nq3
      refine own_goT st3 ?_
      show own_Go _ _ _ _ (T3.setTop (mkF m 31 #[.val (.ref a1), .val (.int fb), .val (.int fe), .val (.int z), .val (.int (fe - fb))] [(.int (1 : Int32))]))
      refine own_go (fun _ => XS.ifNo X3.here hx rfl (hb hby own_d18_31) rfl ((if0 _ _).trans (feq (by decide)).1)) ?_
      show own_Go _ _ _ _ (T3.setTop (mkF m 34 #[.val (.ref a1), .val (.int fb), .val (.int fe), .val (.int z), .val (.int (fe - fb))] []))
      refine own_go (fun _ => XS.aloadN X3.here hx rfl (hb hby own_d18_34) rfl rfl) ?_
      obtain ⟨T4, X4, e4, st4⟩ := getF X3 hx hZ hown (host := "") (Or.inl (hw _ (List.mem_of_getElem? (i := 32) rfl))) Via.refl eq3 Fv (g := (mkF m 35 #[.val (.ref a1), .val (.int fb), .val (.int fe), .val (.int z), .val (.int (fe - fb))] [(.ref a1)])) rfl rfl (hb hby own_d18_35)
      refine own_go st4 ?_
      refine own_go (fun _ => XS.iloadN X4.here hx rfl (hb hby own_d18_38) rfl) ?_
      refine own_go (fun _ => XS.iload X4.here hx rfl (hb hby own_d18_39) rfl) ?_
      show own_Go _ _ _ _ (T4.setTop (mkF m 41 #[.val (.ref a1), .val (.int fb), .val (.int fe), .val (.int z), .val (.int (fe - fb))] [(.int (fe - fb)), (.int fb), (.ref b)]))
      by_cases q3 : (fe - fb) = (0 : Int32)
      · have _u := trivial
        rw [q3]
        show own_Go _ _ _ _ (T4.setTop (mkF m 41 #[.val (.ref a1), .val (.int fb), .val (.int fe), .val (.int z), .val (.int (0 : Int32))] [(.int (0 : Int32)), (.int fb), (.ref b)]))
        obtain ⟨_, _, ⟨T5, L5, k5, n5⟩, -, X5, hS5, hgr5, ⟨Lc5, hQ5, l5, y5, z5, CR5⟩, st5⟩ := callSS X4 hx (y := (⟨"java/lang/StringLatin1", "newString", "([BII)Ljava/lang/String;"⟩ : MethodName)) hown (mvT hZ (hw _ (List.mem_of_getElem? (i := 201) rfl))) (mvT hZ (hw _ (List.mem_of_getElem? (i := 202) rfl))) (mvT hZ (hw _ (List.mem_of_getElem? (i := 19) rfl))) (mvT hZ (hw _ (List.mem_of_getElem? (i := 203) rfl))) (by decide) (own_backK (s := s) (vm0 := s.vm) (W := 0) (own_rmNZ l Z a0 hw b fb h0 n0 Z0 O) hZ (hw _ (List.mem_of_getElem? (i := 203) rfl)) (hw _ (List.mem_of_getElem? (i := 19) rfl)) (by decide) (by decide) (own_ew hw) CR.1) (g := (mkF m 41 #[.val (.ref a1), .val (.int fb), .val (.int fe), .val (.int z), .val (.int (0 : Int32))] [(.int (0 : Int32)), (.int fb), (.ref b)])) rfl (by rw [hml]; rfl) (argsL := [(.ref b), (.int fb), (.int (0 : Int32))]) (rest := []) (lenOf own_pd16 rfl) rfl (by show 2 * 0 + _ ≤ _; exact Nat.le_of_eq rfl) (hb hby own_d18_41) (fun _ _ => ⟨rfl, e4, (by decide : 0 + 2 ≤ _), (by decide : 0 + 4 ≤ _)⟩)
        dsimp only [Pt.U, Pt.locs, Pt.cells, Pt.slots] at X5 l5 y5 z5 st5 hQ5 hS5 hgr5 CR5
        replace X5 := own_cst X5 l5 y5 z5 (k2 := 2) (n2 := 4) rfl rfl
        clear l5 y5 z5
        obtain ⟨sa5, sb5, sk5, svs5, rfl, Nq5, K5, O5, Ex5, Fv5, Fc5, V5⟩ := hQ5
        have NF5 := Fr.app NF3 Nq5
        have X5 : Stand p l e ({ frames := 4, cells := 2, slots := 8, locals := 106 } : Room) (s.setVm T5.vm) m #[(.ref a1), (.int fb), (.int fe)] below meth c T5 _ 2 4 := X5
        have hS := own_sin hS hsw e4 hS5 hgr5
        have hsw : T5.heap.size ≤ T5.heap.size := Nat.le_refl _
        have hown : (s.setVm T5.vm).vm.findClass "java/lang/String" = some m.cls := by
          show T5.vm.findClass _ = _
          rw [hS.1.alike.findClass]; exact hown0
        have hZ : Z.Warmed39 (s.setVm T5.vm).vm := State.Warmed39.trans (t := s) hZ0 hS.1
        replace CR := CR.trans CR5
        refine own_goT st5 ?_
        have O := O5
        replace K0 := K0.trans K5 all0
        show own_Go _ _ _ _ (T5.setTop (mkF m 44 #[.val (.ref a1), .val (.int fb), .val (.int fe), .val (.int z), .val (.int (0 : Int32))] [(.ref sa5)]))
        refine own_go (fun _ => XS.goto X5.here hx rfl (pc0 := 44) (pc' := 57) rfl (hb hby own_d18_44) (by decide) (by decide)) ?_
        show own_Go _ _ _ _ (T5.setTop (mkF m 57 #[.val (.ref a1), .val (.int fb), .val (.int fe), .val (.int z), .val (.int (0 : Int32))] [(.ref sa5)]))
        refine own_retK X5 hS rfl hsw hh hZ (own_ew hw) CR hlk (v := some (.ref sa5)) (fun h => by rw [Bd.returns] at h; cases h) (fun fs hr => retOut X5 hx Bd.returns rfl (Or.inr (Or.inr (Or.inr (Or.inr ⟨rfl, rfl, rfl⟩)))) (hb hby own_d18_57) hr) ?_ (by decide) (by decide)
        skip
        exact ⟨sa5, sb5, sk5, svs5, rfl, NF5, K0, O, Ex5, Fv5, Fc5, by first | exact V5 | (rw [q3]; exact V5)⟩
      · have _u := trivial
        obtain ⟨_, _, ⟨T6, L6, k6, n6⟩, -, X6, ⟨Lc6, hQ6, l6, y6, z6⟩, st6⟩ := Jvm.LawKit.callS X4 hx (y := (⟨"java/lang/StringLatin1", "newString", "([BII)Ljava/lang/String;"⟩ : MethodName)) hown (mvT hZ (hw _ (List.mem_of_getElem? (i := 201) rfl))) (mvT hZ (hw _ (List.mem_of_getElem? (i := 202) rfl))) (mvT hZ (hw _ (List.mem_of_getElem? (i := 19) rfl))) (mvT hZ (hw _ (List.mem_of_getElem? (i := 203) rfl))) (by decide) (own_back (W := 0) (own_rmNS l Z a0 hw b k z fb (fe - fb) vs h0 n0 Z0 V O q3 p1 (own_sb0 p1 p2) (own_sb3 p1 p2 p3) p4 (fun q => q2 ((own_ads _ _).symm.trans q.2))) hZ (hw _ (List.mem_of_getElem? (i := 203) rfl)) (hw _ (List.mem_of_getElem? (i := 19) rfl)) (by decide) (by decide)) (g := (mkF m 41 #[.val (.ref a1), .val (.int fb), .val (.int fe), .val (.int z), .val (.int (fe - fb))] [(.int (fe - fb)), (.int fb), (.ref b)])) rfl (by rw [hml]; rfl) (argsL := [(.ref b), (.int fb), (.int (fe - fb))]) (rest := []) (lenOf own_pd16 rfl) rfl (by show 2 * 0 + _ ≤ _; exact Nat.le_of_eq rfl) (hb hby own_d18_41) (fun _ _ => ⟨rfl, e4, (by decide : 0 + 2 ≤ _), (by decide : 0 + 8 ≤ _)⟩)
        dsimp only [Pt.U, Pt.locs, Pt.cells, Pt.slots] at X6 l6 y6 z6 st6 hQ6
        replace X6 := own_cst X6 l6 y6 z6 (k2 := 2) (n2 := 8) rfl rfl
        clear l6 y6 z6
        obtain ⟨sa6, sb6, sk6, svs6, rfl, Nq6, K6, O6, Ex6, Fv6, Fc6, V6⟩ := hQ6
        have NF6 := Fr.app NF3 Nq6
        refine own_go st6 ?_
        replace CR := CR.trans (CHr.keep K6 all0 CR.1)
        replace hsw := Nat.le_trans hsw K6.1
        replace Z0 := Nat.le_trans Z0 K6.1
        replace K0 := K0.trans K6 all0
        have O := O6
        show own_Go _ _ _ _ (T6.setTop (mkF m 44 #[.val (.ref a1), .val (.int fb), .val (.int fe), .val (.int z), .val (.int (fe - fb))] [(.ref sa6)]))
        refine own_go (fun _ => XS.goto X6.here hx rfl (pc0 := 44) (pc' := 57) rfl (hb hby own_d18_44) (by decide) (by decide)) ?_
        show own_Go _ _ _ _ (T6.setTop (mkF m 57 #[.val (.ref a1), .val (.int fb), .val (.int fe), .val (.int z), .val (.int (fe - fb))] [(.ref sa6)]))
        refine own_retK X6 hS rfl hsw hh hZ (own_ew hw) CR hlk (v := some (.ref sa6)) (fun h => by rw [Bd.returns] at h; cases h) (fun fs hr => retOut X6 hx Bd.returns rfl (Or.inr (Or.inr (Or.inr (Or.inr ⟨rfl, rfl, rfl⟩)))) (hb hby own_d18_57) hr) ?_ (by decide) (by decide)
        skip
        exact ⟨sa6, sb6, sk6, svs6, rfl, NF6, K0, O, Ex6, Fv6, Fc6, V6⟩
  · have _h := q1
    refine own_go (fun _ => XS.ifYes X2.here hx rfl (pc0 := 12) (pc' := 22) rfl (hb hby own_d18_12) rfl ((if0 _ _).trans (feq q1).2) (by decide) (by decide)) ?_
    show own_Go _ _ _ _ (T2.setTop (mkF m 22 #[.val (.ref a1), .val (.int fb), .val (.int fe), .val (.int z), .unset] []))
    refine own_go (fun _ => XS.iloadN X2.here hx rfl (hb hby own_d18_22) rfl) ?_
    refine own_go (fun _ => XS.iloadN X2.here hx rfl (hb hby own_d18_23) rfl) ?_
    refine own_go (fun _ => XS.isub X2.here hx rfl (hb hby own_d18_24) rfl) ?_
    refine own_go (fun _ => XS.istore X2.here hx rfl (hb hby own_d18_25) rfl (l' := #[.val (.ref a1), .val (.int fb), .val (.int fe), .val (.int z), .val (.int (fe - fb))]) rfl) ?_
    show own_Go _ _ _ _ (T2.setTop (mkF m 27 #[.val (.ref a1), .val (.int fb), .val (.int fe), .val (.int z), .val (.int (fe - fb))] []))
    refine own_go (fun _ => XS.aloadN X2.here hx rfl (hb hby own_d18_27) rfl rfl) ?_
    show own_Go _ _ _ _ (T2.setTop (mkF m 28 #[.val (.ref a1), .val (.int fb), .val (.int fe), .val (.int z), .val (.int (fe - fb))] [(.ref a1)]))
    obtain ⟨cq7, kq7, q7a, q7b, q7c⟩ := isOf hZ eq2 E1
    obtain ⟨_, _, ⟨T7, L7, k7, n7⟩, -, X7, ⟨Lc7, hQ7, l7, y7, z7⟩, st7⟩ := X2.virtualBack hx (y := (⟨"java/lang/String", "isLatin1", "()Z"⟩ : MethodName)) (z := (⟨"java/lang/String", "isLatin1", "()Z"⟩ : MethodName)) hown (mvT hZ (hw _ (List.mem_of_getElem? (i := 51) rfl))) (mvT hZ (hw _ (List.mem_of_getElem? (i := 52) rfl))) (notFace_of_selects (args := #[]) (mvT hZ (hw _ (List.mem_of_getElem? (i := 54) rfl)))) (mvT hZ (hw _ (List.mem_of_getElem? (i := 54) rfl))) (mvT hZ (hw _ (List.mem_of_getElem? (i := 53) rfl))) (by decide) (own_back (W := 0) (own_rmil0 l Z a0 hw a1 cs h0 n0 Z0 Fc O S_C hcs) hZ (hw _ (List.mem_of_getElem? (i := 55) rfl)) (hw _ (List.mem_of_getElem? (i := 6) rfl)) (by decide) (by decide)) q7a q7c (g := (mkF m 28 #[.val (.ref a1), .val (.int fb), .val (.int fe), .val (.int z), .val (.int (fe - fb))] [(.ref a1)])) rfl (by rw [hml]; rfl) (Steps.refl _) (argsL := []) (rest := []) (lenOf own_pd8 rfl) rfl (by show 2 * 0 + _ ≤ _; exact Nat.le_of_eq rfl) (hb hby own_d18_28) (fun _ _ => ⟨rfl, eq2, (by decide : 0 + 0 ≤ _), (by decide : 0 + 0 ≤ _)⟩)
    dsimp only [Pt.U, Pt.locs, Pt.cells, Pt.slots] at X7 l7 y7 z7 st7 hQ7
    replace X7 := own_cst X7 l7 y7 z7 (k2 := 0) (n2 := 0) rfl rfl
    clear l7 y7 z7
    obtain ⟨rfl, Nq7, eq7⟩ := hQ7
    have NF7 := Fr.app NF2 Nq7
    refine own_goT st7 ?_
    show own_Go _ _ _ _ (T7.setTop (mkF m 31 #[.val (.ref a1), .val (.int fb), .val (.int fe), .val (.int z), .val (.int (fe - fb))] [(.int (1 : Int32))]))
    refine own_go (fun _ => XS.ifNo X7.here hx rfl (hb hby own_d18_31) rfl ((if0 _ _).trans (feq (by decide)).1)) ?_
    show own_Go _ _ _ _ (T7.setTop (mkF m 34 #[.val (.ref a1), .val (.int fb), .val (.int fe), .val (.int z), .val (.int (fe - fb))] []))
    refine own_go (fun _ => XS.aloadN X7.here hx rfl (hb hby own_d18_34) rfl rfl) ?_
    obtain ⟨T8, X8, e8, st8⟩ := getF X7 hx hZ hown (host := "") (Or.inl (hw _ (List.mem_of_getElem? (i := 32) rfl))) Via.refl eq7 Fv (g := (mkF m 35 #[.val (.ref a1), .val (.int fb), .val (.int fe), .val (.int z), .val (.int (fe - fb))] [(.ref a1)])) rfl rfl (hb hby own_d18_35)
    refine own_go st8 ?_
    refine own_go (fun _ => XS.iloadN X8.here hx rfl (hb hby own_d18_38) rfl) ?_
    refine own_go (fun _ => XS.iload X8.here hx rfl (hb hby own_d18_39) rfl) ?_
    show own_Go _ _ _ _ (T8.setTop (mkF m 41 #[.val (.ref a1), .val (.int fb), .val (.int fe), .val (.int z), .val (.int (fe - fb))] [(.int (fe - fb)), (.int fb), (.ref b)]))
    by_cases q3 : (fe - fb) = (0 : Int32)
    · have _u := trivial
      rw [q3]
      show own_Go _ _ _ _ (T8.setTop (mkF m 41 #[.val (.ref a1), .val (.int fb), .val (.int fe), .val (.int z), .val (.int (0 : Int32))] [(.int (0 : Int32)), (.int fb), (.ref b)]))
      obtain ⟨_, _, ⟨T9, L9, k9, n9⟩, -, X9, hS9, hgr9, ⟨Lc9, hQ9, l9, y9, z9, CR9⟩, st9⟩ := callSS X8 hx (y := (⟨"java/lang/StringLatin1", "newString", "([BII)Ljava/lang/String;"⟩ : MethodName)) hown (mvT hZ (hw _ (List.mem_of_getElem? (i := 201) rfl))) (mvT hZ (hw _ (List.mem_of_getElem? (i := 202) rfl))) (mvT hZ (hw _ (List.mem_of_getElem? (i := 19) rfl))) (mvT hZ (hw _ (List.mem_of_getElem? (i := 203) rfl))) (by decide) (own_backK (s := s) (vm0 := s.vm) (W := 0) (own_rmNZ l Z a0 hw b fb h0 n0 Z0 O) hZ (hw _ (List.mem_of_getElem? (i := 203) rfl)) (hw _ (List.mem_of_getElem? (i := 19) rfl)) (by decide) (by decide) (own_ew hw) CR.1) (g := (mkF m 41 #[.val (.ref a1), .val (.int fb), .val (.int fe), .val (.int z), .val (.int (0 : Int32))] [(.int (0 : Int32)), (.int fb), (.ref b)])) rfl (by rw [hml]; rfl) (argsL := [(.ref b), (.int fb), (.int (0 : Int32))]) (rest := []) (lenOf own_pd16 rfl) rfl (by show 2 * 0 + _ ≤ _; exact Nat.le_of_eq rfl) (hb hby own_d18_41) (fun _ _ => ⟨rfl, e8, (by decide : 0 + 2 ≤ _), (by decide : 0 + 4 ≤ _)⟩)
      dsimp only [Pt.U, Pt.locs, Pt.cells, Pt.slots] at X9 l9 y9 z9 st9 hQ9 hS9 hgr9 CR9
      replace X9 := own_cst X9 l9 y9 z9 (k2 := 2) (n2 := 4) rfl rfl
      clear l9 y9 z9
      obtain ⟨sa9, sb9, sk9, svs9, rfl, Nq9, K9, O9, Ex9, Fv9, Fc9, V9⟩ := hQ9
      have NF9 := Fr.app NF7 Nq9
      have X9 : Stand p l e ({ frames := 4, cells := 2, slots := 8, locals := 106 } : Room) (s.setVm T9.vm) m #[(.ref a1), (.int fb), (.int fe)] below meth c T9 _ 2 4 := X9
      have hS := own_sin hS hsw e8 hS9 hgr9
      have hsw : T9.heap.size ≤ T9.heap.size := Nat.le_refl _
      have hown : (s.setVm T9.vm).vm.findClass "java/lang/String" = some m.cls := by
        show T9.vm.findClass _ = _
        rw [hS.1.alike.findClass]; exact hown0
      have hZ : Z.Warmed39 (s.setVm T9.vm).vm := State.Warmed39.trans (t := s) hZ0 hS.1
      replace CR := CR.trans CR9
      refine own_goT st9 ?_
      have O := O9
      replace K0 := K0.trans K9 all0
      show own_Go _ _ _ _ (T9.setTop (mkF m 44 #[.val (.ref a1), .val (.int fb), .val (.int fe), .val (.int z), .val (.int (0 : Int32))] [(.ref sa9)]))
      refine own_go (fun _ => XS.goto X9.here hx rfl (pc0 := 44) (pc' := 57) rfl (hb hby own_d18_44) (by decide) (by decide)) ?_
      show own_Go _ _ _ _ (T9.setTop (mkF m 57 #[.val (.ref a1), .val (.int fb), .val (.int fe), .val (.int z), .val (.int (0 : Int32))] [(.ref sa9)]))
      refine own_retK X9 hS rfl hsw hh hZ (own_ew hw) CR hlk (v := some (.ref sa9)) (fun h => by rw [Bd.returns] at h; cases h) (fun fs hr => retOut X9 hx Bd.returns rfl (Or.inr (Or.inr (Or.inr (Or.inr ⟨rfl, rfl, rfl⟩)))) (hb hby own_d18_57) hr) ?_ (by decide) (by decide)
      skip
      exact ⟨sa9, sb9, sk9, svs9, rfl, NF9, K0, O, Ex9, Fv9, Fc9, by first | exact V9 | (rw [q3]; exact V9)⟩
    · have _u := trivial
      obtain ⟨_, _, ⟨T10, L10, k10, n10⟩, -, X10, ⟨Lc10, hQ10, l10, y10, z10⟩, st10⟩ := Jvm.LawKit.callS X8 hx (y := (⟨"java/lang/StringLatin1", "newString", "([BII)Ljava/lang/String;"⟩ : MethodName)) hown (mvT hZ (hw _ (List.mem_of_getElem? (i := 201) rfl))) (mvT hZ (hw _ (List.mem_of_getElem? (i := 202) rfl))) (mvT hZ (hw _ (List.mem_of_getElem? (i := 19) rfl))) (mvT hZ (hw _ (List.mem_of_getElem? (i := 203) rfl))) (by decide) (own_back (W := 0) (own_rmNS l Z a0 hw b k z fb (fe - fb) vs h0 n0 Z0 V O q3 p1 (own_sb0 p1 p2) (own_sb3 p1 p2 p3) p4 (fun q => q1 q.1)) hZ (hw _ (List.mem_of_getElem? (i := 203) rfl)) (hw _ (List.mem_of_getElem? (i := 19) rfl)) (by decide) (by decide)) (g := (mkF m 41 #[.val (.ref a1), .val (.int fb), .val (.int fe), .val (.int z), .val (.int (fe - fb))] [(.int (fe - fb)), (.int fb), (.ref b)])) rfl (by rw [hml]; rfl) (argsL := [(.ref b), (.int fb), (.int (fe - fb))]) (rest := []) (lenOf own_pd16 rfl) rfl (by show 2 * 0 + _ ≤ _; exact Nat.le_of_eq rfl) (hb hby own_d18_41) (fun _ _ => ⟨rfl, e8, (by decide : 0 + 2 ≤ _), (by decide : 0 + 8 ≤ _)⟩)
      dsimp only [Pt.U, Pt.locs, Pt.cells, Pt.slots] at X10 l10 y10 z10 st10 hQ10
      replace X10 := own_cst X10 l10 y10 z10 (k2 := 2) (n2 := 8) rfl rfl
      clear l10 y10 z10
      obtain ⟨sa10, sb10, sk10, svs10, rfl, Nq10, K10, O10, Ex10, Fv10, Fc10, V10⟩ := hQ10
      have NF10 := Fr.app NF7 Nq10
      refine own_go st10 ?_
      replace CR := CR.trans (CHr.keep K10 all0 CR.1)
      replace hsw := Nat.le_trans hsw K10.1
      replace Z0 := Nat.le_trans Z0 K10.1
      replace K0 := K0.trans K10 all0
      have O := O10
      show own_Go _ _ _ _ (T10.setTop (mkF m 44 #[.val (.ref a1), .val (.int fb), .val (.int fe), .val (.int z), .val (.int (fe - fb))] [(.ref sa10)]))
      refine own_go (fun _ => XS.goto X10.here hx rfl (pc0 := 44) (pc' := 57) rfl (hb hby own_d18_44) (by decide) (by decide)) ?_
      show own_Go _ _ _ _ (T10.setTop (mkF m 57 #[.val (.ref a1), .val (.int fb), .val (.int fe), .val (.int z), .val (.int (fe - fb))] [(.ref sa10)]))
      refine own_retK X10 hS rfl hsw hh hZ (own_ew hw) CR hlk (v := some (.ref sa10)) (fun h => by rw [Bd.returns] at h; cases h) (fun fs hr => retOut X10 hx Bd.returns rfl (Or.inr (Or.inr (Or.inr (Or.inr ⟨rfl, rfl, rfl⟩)))) (hb hby own_d18_57) hr) ?_ (by decide) (by decide)
      skip
      exact ⟨sa10, sb10, sk10, svs10, rfl, NF10, K0, O, Ex10, Fv10, Fc10, V10⟩
theorem own_d24_0 : decode jdk_42_method_91_code 0 = .ok (.aload_n 0, 1) := by decide +kernel
theorem own_d24_1 : decode jdk_42_method_91_code 1 = .ok (.iload_n 1, 1) := by decide +kernel
theorem own_d24_2 : decode jdk_42_method_91_code 2 = .ok (.aload_n 0, 1) := by decide +kernel
theorem own_d24_3 : decode jdk_42_method_91_code 3 = .ok (.invokevirtual 505, 3) := by decide +kernel
theorem own_d24_6 : decode jdk_42_method_91_code 6 = .ok (.invokevirtual 681, 3) := by decide +kernel
theorem own_pd17 : parseMethodDescriptor "(II)Ljava/lang/String;" = some ⟨[.int, .int], some (.object "java/lang/String")⟩ := by decide +kernel
theorem own_d24_9 : decode jdk_42_method_91_code 9 = .ok (.areturn, 1) := by decide +kernel
set_option maxRecDepth 65536 in
set_option maxHeartbeats 40000000 in
theorem own_rmSI (l : Launch) (Z : State) (a0 : Array Value) (hw : ∀ d ∈ tables_1, d.before a0 Z = true) (a1 : Addr) (b : Addr) (k : ClassId) (cs : Int32) (fmt : Value) (z : Int32) (fb : Int32) (vs : List Value) (h0 : Heap) (n0 : Nat) (Z0 : n0 ≤ h0.size) (E1 : Exa Z h0 a1 "java/lang/String") (Fv : Fld Z h0 a1 "java/lang/String" "value" "[B" (.ref b)) (Fc : Fld Z h0 a1 "java/lang/String" "coder" "B" (.int 0)) (V : Arv Z h0 b k .byte z vs (.int 0)) (O : Old Z n0 h0) (S_C : Sta Z Z.heap "java/lang/String" "COMPACT_STRINGS" "Z" (.int cs)) (hcs : ¬ cs = (0 : Int32)) (S_F : Sta Z Z.heap "jdk/internal/util/Preconditions" "SIOOBE_FORMATTER" "Ljava/util/function/BiFunction;" fmt) (hfmt : fmt = .null ∨ ∃ o : Addr, fmt = .ref o) (p1 : 0 ≤ fb.toInt) (p3 : fb.toInt ≤ z.toInt) (p4 : z.toInt ≤ 4) :
    own_MetK l Z consts_1 [] (⟨"java/lang/String", "substring", "(I)Ljava/lang/String;"⟩ : MethodName) jdk_42_method_91_code 2 (some (.object "java/lang/String")) ({ frames := 5, cells := 2, slots := 8, locals := 122 } : Room) #[(.ref a1), (.int fb)] h0 (fun v h L => ∃ (sa sb : Addr) (sk : ClassId) (svs : List Value), v = some (.ref sa) ∧ Fr n0 L ∧ Keep h0 h [] ∧ Old Z n0 h ∧ Exa Z h sa "java/lang/String" ∧ Fld Z h sa "java/lang/String" "value" "[B" (.ref sb) ∧ Fld Z h sa "java/lang/String" "coder" "B" (.int 0) ∧ Arv Z h sb sk .byte (z - fb) svs (.int 0)) := by
  refine MetFree.of_bodySF (plainFor_of_name own_pn1) hisR ?_
  intro p e s m args below meth c s₁ Bd hml0 hP hK
  obtain ⟨rfl, hZ0, hh, H0⟩ := hP
  have hx := Bd.exec
  have hby := Bd.bytes
  have hml : c.maxLocals = 2 := hml0
  have hown0 : s.vm.findClass "java/lang/String" = some m.cls := findClass_of_methodNamed Bd.named
  have hnm := (name_of_methodNamed Bd.named Bd.method).1
  have hlk : meth.locks = false := Bd.notSynchronized
  have X0 : Stand p l e ({ frames := 5, cells := 2, slots := 8, locals := 122 } : Room) (s.setVm s.vm) m #[(.ref a1), (.int fb)] below meth c s₁ [] 0 0 := Stand.of_body Bd
  have hZ : Z.Warmed39 (s.setVm s.vm).vm := hZ0
  have hown : (s.setVm s.vm).vm.findClass "java/lang/String" = some m.cls := hown0
  have hS : s.Since s.vm h0.size := State.WarmedH.since (State.WarmedH.refl s) _
  have hsw : h0.size ≤ h0.size := Nat.le_refl _
  have CR : CHr Z consts_1 s.vm h0 s.vm h0 := CHr.refl H0
  have e0 : s₁.heap = h0 := by rw [← hh, Bd.state]; rfl
  have N0 := Fr.nil n0
  refine own_bodyK (Q := fun v h L => ∃ (sa sb : Addr) (sk : ClassId) (svs : List Value), v = some (.ref sa) ∧ Fr n0 L ∧ Keep h0 h [] ∧ Old Z n0 h ∧ Exa Z h sa "java/lang/String" ∧ Fld Z h sa "java/lang/String" "value" "[B" (.ref sb) ∧ Fld Z h sa "java/lang/String" "coder" "B" (.int 0) ∧ Arv Z h sb sk .byte (z - fb) svs (.int 0)) ?_
  refine own_go (fun _ kont => castTop (own_ef m #[(.ref a1), (.int fb)] 2 #[.val (.ref a1), .val (.int fb)] (own_al [(.ref a1), (.int fb)] 2 [.val (.ref a1), .val (.int fb)] rfl)) kont) ?_
  show own_Go _ _ _ _ (s₁.setTop (mkF m 0 #[.val (.ref a1), .val (.int fb)] []))
  have K0 : Keep h0 h0 [] := Keep.refl _ _
  refine own_go (fun _ => XS.aloadN X0.here hx rfl (hb hby own_d24_0) rfl rfl) ?_
  refine own_go (fun _ => XS.iloadN X0.here hx rfl (hb hby own_d24_1) rfl) ?_
  refine own_go (fun _ => XS.aloadN X0.here hx rfl (hb hby own_d24_2) rfl rfl) ?_
  show own_Go _ _ _ _ (s₁.setTop (mkF m 3 #[.val (.ref a1), .val (.int fb)] [(.ref a1), (.int fb), (.ref a1)]))
  obtain ⟨cq1, kq1, q1a, q1b, q1c⟩ := isOf hZ e0 E1
  obtain ⟨_, _, ⟨T1, L1, k1, n1⟩, -, X1, ⟨Lc1, hQ1, l1, y1, z1⟩, st1⟩ := X0.virtualBack hx (y := (⟨"java/lang/String", "length", "()I"⟩ : MethodName)) (z := (⟨"java/lang/String", "length", "()I"⟩ : MethodName)) hown (mvT hZ (hw _ (List.mem_of_getElem? (i := 56) rfl))) (mvT hZ (hw _ (List.mem_of_getElem? (i := 57) rfl))) (notFace_of_selects (args := #[]) (mvT hZ (hw _ (List.mem_of_getElem? (i := 59) rfl)))) (mvT hZ (hw _ (List.mem_of_getElem? (i := 59) rfl))) (mvT hZ (hw _ (List.mem_of_getElem? (i := 58) rfl))) (by decide) (own_back (W := 2) (own_rmln0 l Z a0 hw a1 b k cs z z vs h0 n0 Z0 E1 Fv Fc V O S_C hcs (own_shr0 z)) hZ (hw _ (List.mem_of_getElem? (i := 60) rfl)) (hw _ (List.mem_of_getElem? (i := 6) rfl)) (by decide) (by decide)) q1a q1c (g := (mkF m 3 #[.val (.ref a1), .val (.int fb)] [(.ref a1), (.int fb), (.ref a1)])) rfl (by rw [hml]; rfl) (Steps.refl _) (argsL := []) (rest := [(.int fb), (.ref a1)]) (lenOf own_pd9 rfl) rfl (by show 2 * 0 + _ ≤ _; exact Nat.le_of_eq rfl) (hb hby own_d24_3) (fun _ _ => ⟨rfl, e0, (by decide : 0 + 0 ≤ _), (by decide : 0 + 0 ≤ _)⟩)
  dsimp only [Pt.U, Pt.locs, Pt.cells, Pt.slots] at X1 l1 y1 z1 st1 hQ1
  replace X1 := own_cst X1 l1 y1 z1 (k2 := 0) (n2 := 0) rfl rfl
  clear l1 y1 z1
  obtain ⟨rfl, Nq1, eq1⟩ := hQ1
  have NF1 := Fr.app N0 Nq1
  refine own_goT st1 ?_
  show own_Go _ _ _ _ (T1.setTop (mkF m 6 #[.val (.ref a1), .val (.int fb)] [(.int z), (.int fb), (.ref a1)]))
  obtain ⟨cq2, kq2, q2a, q2b, q2c⟩ := isOf hZ eq1 E1
  obtain ⟨_, _, ⟨T2, L2, k2, n2⟩, -, X2, hS2, hgr2, ⟨Lc2, hQ2, l2, y2, z2, CR2⟩, st2⟩ := X1.virtualBackS hx (y := (⟨"java/lang/String", "substring", "(II)Ljava/lang/String;"⟩ : MethodName)) (z := (⟨"java/lang/String", "substring", "(II)Ljava/lang/String;"⟩ : MethodName)) hown (mvT hZ (hw _ (List.mem_of_getElem? (i := 120) rfl))) (mvT hZ (hw _ (List.mem_of_getElem? (i := 86) rfl))) (notFace_of_selects (args := #[]) (mvT hZ (hw _ (List.mem_of_getElem? (i := 88) rfl)))) (mvT hZ (hw _ (List.mem_of_getElem? (i := 88) rfl))) (mvT hZ (hw _ (List.mem_of_getElem? (i := 87) rfl))) (by decide) (own_backK (s := s) (vm0 := s.vm) (W := 0) (own_rmSS l Z a0 hw a1 b k cs fmt z fb z vs h0 n0 Z0 E1 Fv Fc V O S_C hcs S_F hfmt p1 p3 (Int.le_refl _) p4) hZ (hw _ (List.mem_of_getElem? (i := 89) rfl)) (hw _ (List.mem_of_getElem? (i := 6) rfl)) (by decide) (by decide) (own_ew hw) CR.1) q2a q2c (g := (mkF m 6 #[.val (.ref a1), .val (.int fb)] [(.int z), (.int fb), (.ref a1)])) rfl (by rw [hml]; rfl) (Steps.refl _) (argsL := [(.int fb), (.int z)]) (rest := []) (lenOf own_pd17 rfl) rfl (by show 2 * 0 + _ ≤ _; exact Nat.le_of_eq rfl) (hb hby own_d24_6) (fun _ _ => ⟨rfl, eq1, (by decide : 0 + 2 ≤ _), (by decide : 0 + 8 ≤ _)⟩)
  dsimp only [Pt.U, Pt.locs, Pt.cells, Pt.slots] at X2 l2 y2 z2 st2 hQ2 hS2 hgr2 CR2
  replace X2 := own_cst X2 l2 y2 z2 (k2 := 2) (n2 := 8) rfl rfl
  clear l2 y2 z2
  obtain ⟨sa2, sb2, sk2, svs2, rfl, Nq2, K2, O2, Ex2, Fv2, Fc2, V2⟩ := hQ2
  have NF2 := Fr.app NF1 Nq2
  have X2 : Stand p l e ({ frames := 5, cells := 2, slots := 8, locals := 122 } : Room) (s.setVm T2.vm) m #[(.ref a1), (.int fb)] below meth c T2 _ 2 8 := X2
  have hS := own_sin hS hsw eq1 hS2 hgr2
  have hsw : T2.heap.size ≤ T2.heap.size := Nat.le_refl _
  have hown : (s.setVm T2.vm).vm.findClass "java/lang/String" = some m.cls := by
    show T2.vm.findClass _ = _
    rw [hS.1.alike.findClass]; exact hown0
  have hZ : Z.Warmed39 (s.setVm T2.vm).vm := State.Warmed39.trans (t := s) hZ0 hS.1
  replace CR := CR.trans CR2
  refine own_goT st2 ?_
  have O := O2
  replace K0 := K0.trans K2 all0
  show own_Go _ _ _ _ (T2.setTop (mkF m 9 #[.val (.ref a1), .val (.int fb)] [(.ref sa2)]))
  refine own_retK X2 hS rfl hsw hh hZ (own_ew hw) CR hlk (v := some (.ref sa2)) (fun h => by rw [Bd.returns] at h; cases h) (fun fs hr => retOut X2 hx Bd.returns rfl (Or.inr (Or.inr (Or.inr (Or.inr ⟨rfl, rfl, rfl⟩)))) (hb hby own_d24_9) hr) ?_ (by decide) (by decide)
  skip
  exact ⟨sa2, sb2, sk2, svs2, rfl, NF2, K0, O, Ex2, Fv2, Fc2, V2⟩
theorem own_pn5 : plainName "com/example/ratatoskr/ratatoskr/request/RequestPathInfo" = true := by first | (simp [plainName, overriddenIn]; done) | decide +kernel
theorem own_d25_0 : decode prog_14_method_17_code 0 = .ok (.aload_n 0, 1) := by decide +kernel
theorem own_d25_1 : decode prog_14_method_17_code 1 = .ok (.invokevirtual 13, 3) := by decide +kernel
theorem own_d25_4 : decode prog_14_method_17_code 4 = .ok (.ifCond .eq 7, 3) := by decide +kernel
theorem own_d25_7 : decode prog_14_method_17_code 7 = .ok (.aconst_null, 1) := by decide +kernel
theorem own_d25_8 : decode prog_14_method_17_code 8 = .ok (.goto 4, 3) := by decide +kernel
theorem own_d25_12 : decode prog_14_method_17_code 12 = .ok (.areturn, 1) := by decide +kernel
theorem own_d25_11 : decode prog_14_method_17_code 11 = .ok (.aload_n 0, 1) := by decide +kernel
set_option maxRecDepth 65536 in
set_option maxHeartbeats 40000000 in
theorem own_rmPN (l : Launch) (Z : State) (a0 : Array Value) (hw : ∀ d ∈ tables_1, d.before a0 Z = true) (a1 : Addr) (b : Addr) (k : ClassId) (z : Int32) (vs : List Value) (h0 : Heap) (n0 : Nat) (Z0 : n0 ≤ h0.size) (E1 : Exa Z h0 a1 "java/lang/String") (Fv : Fld Z h0 a1 "java/lang/String" "value" "[B" (.ref b)) (V : Arv Z h0 b k .byte z vs (.int 0)) :
    own_Met l Z [] (⟨"com/example/ratatoskr/ratatoskr/request/RequestPathInfo", "presentOrNull", "(Ljava/lang/String;)Ljava/lang/String;"⟩ : MethodName) prog_14_method_17_code 1 (some (.object "java/lang/String")) ({ frames := 1, cells := 0, slots := 0, locals := 12 } : Room) #[(.ref a1)] h0 (fun v h L => ∃ w : Value, v = some w ∧ Fr n0 L ∧ h = h0 ∧ (w = .null ∨ w = .ref a1)) := by
  refine MetFree.of_bodySF (plainFor_of_name own_pn5) hisR ?_
  intro p e s m args below meth c s₁ Bd hml0 hP hK
  obtain ⟨rfl, hZ, hh⟩ := hP
  have hx := Bd.exec
  have hby := Bd.bytes
  have hml : c.maxLocals = 1 := hml0
  have hown : s.vm.findClass "com/example/ratatoskr/ratatoskr/request/RequestPathInfo" = some m.cls := findClass_of_methodNamed Bd.named
  have hnm := (name_of_methodNamed Bd.named Bd.method).1
  have hlk : meth.locks = false := Bd.notSynchronized
  have X0 : Stand p l e ({ frames := 1, cells := 0, slots := 0, locals := 12 } : Room) s m #[(.ref a1)] below meth c s₁ [] 0 0 := Stand.of_body Bd
  have e0 : s₁.heap = h0 := by rw [← hh, Bd.state]; rfl
  have N0 := Fr.nil n0
  refine own_body (Q := fun v h L => ∃ w : Value, v = some w ∧ Fr n0 L ∧ h = h0 ∧ (w = .null ∨ w = .ref a1)) ?_
  refine own_go (fun _ kont => castTop (own_ef m #[(.ref a1)] 1 #[.val (.ref a1)] (own_al [(.ref a1)] 1 [.val (.ref a1)] rfl)) kont) ?_
  show own_Go _ _ _ _ (s₁.setTop (mkF m 0 #[.val (.ref a1)] []))
  refine own_go (fun _ => XS.aloadN X0.here hx rfl (hb hby own_d25_0) rfl rfl) ?_
  show own_Go _ _ _ _ (s₁.setTop (mkF m 1 #[.val (.ref a1)] [(.ref a1)]))
  by_cases hz : z = (0 : Int32)
  · have _u := trivial
    obtain ⟨cq1, kq1, q1a, q1b, q1c⟩ := isOf hZ e0 E1
    obtain ⟨_, _, ⟨T1, L1, k1, n1⟩, -, X1, ⟨Lc1, hQ1, l1, y1, z1⟩, st1⟩ := X0.virtualBack hx (y := (⟨"java/lang/String", "isEmpty", "()Z"⟩ : MethodName)) (z := (⟨"java/lang/String", "isEmpty", "()Z"⟩ : MethodName)) hown (mvT hZ (hw _ (List.mem_of_getElem? (i := 79) rfl))) (mvT hZ (hw _ (List.mem_of_getElem? (i := 80) rfl))) (notFace_of_selects (args := #[]) (mvT hZ (hw _ (List.mem_of_getElem? (i := 82) rfl)))) (mvT hZ (hw _ (List.mem_of_getElem? (i := 82) rfl))) (mvT hZ (hw _ (List.mem_of_getElem? (i := 81) rfl))) (by decide) (own_back (W := 0) (own_rmeZ l Z a0 hw a1 b k z vs h0 n0 Z0 Fv V hz) hZ (hw _ (List.mem_of_getElem? (i := 83) rfl)) (hw _ (List.mem_of_getElem? (i := 6) rfl)) (by decide) (by decide)) q1a q1c (g := (mkF m 1 #[.val (.ref a1)] [(.ref a1)])) rfl (by rw [hml]; rfl) (Steps.refl _) (argsL := []) (rest := []) (lenOf own_pd8 rfl) rfl (by show 2 * 0 + _ ≤ _; exact Nat.le_of_eq rfl) (hb hby own_d25_1) (fun _ _ => ⟨rfl, e0, (by decide : 0 + 0 ≤ _), (by decide : 0 + 0 ≤ _)⟩)
    dsimp only [Pt.U, Pt.locs, Pt.cells, Pt.slots] at X1 l1 y1 z1 st1 hQ1
    replace X1 := own_cst X1 l1 y1 z1 (k2 := 0) (n2 := 0) rfl rfl
    clear l1 y1 z1
    obtain ⟨rfl, Nq1, eq1⟩ := hQ1
    have NF1 := Fr.app N0 Nq1
    refine own_goT st1 ?_
    show own_Go _ _ _ _ (T1.setTop (mkF m 4 #[.val (.ref a1)] [(.int (1 : Int32))]))
    refine own_go (fun _ => XS.ifNo X1.here hx rfl (hb hby own_d25_4) rfl ((if0 _ _).trans (feq (by decide)).1)) ?_
    show own_Go _ _ _ _ (T1.setTop (mkF m 7 #[.val (.ref a1)] []))
    refine own_go (fun _ => XS.aconstNull X1.here hx rfl (hb hby own_d25_7)) ?_
    refine own_go (fun _ => XS.goto X1.here hx rfl (pc0 := 8) (pc' := 12) rfl (hb hby own_d25_8) (by decide) (by decide)) ?_
    show own_Go _ _ _ _ (T1.setTop (mkF m 12 #[.val (.ref a1)] [.null]))
    refine own_ret X1 hlk (v := some .null) (fun h => by rw [Bd.returns] at h; cases h) (fun fs hr => retOut X1 hx Bd.returns rfl (Or.inr (Or.inr (Or.inr (Or.inr ⟨rfl, rfl, rfl⟩)))) (hb hby own_d25_12) hr) ?_ (by decide) (by decide)
    try rw [eq1]
    exact ⟨_, rfl, NF1, rfl, Or.inl rfl⟩
  · have _u := trivial
    obtain ⟨cq2, kq2, q2a, q2b, q2c⟩ := isOf hZ e0 E1
    obtain ⟨_, _, ⟨T2, L2, k2, n2⟩, -, X2, ⟨Lc2, hQ2, l2, y2, z2⟩, st2⟩ := X0.virtualBack hx (y := (⟨"java/lang/String", "isEmpty", "()Z"⟩ : MethodName)) (z := (⟨"java/lang/String", "isEmpty", "()Z"⟩ : MethodName)) hown (mvT hZ (hw _ (List.mem_of_getElem? (i := 79) rfl))) (mvT hZ (hw _ (List.mem_of_getElem? (i := 80) rfl))) (notFace_of_selects (args := #[]) (mvT hZ (hw _ (List.mem_of_getElem? (i := 82) rfl)))) (mvT hZ (hw _ (List.mem_of_getElem? (i := 82) rfl))) (mvT hZ (hw _ (List.mem_of_getElem? (i := 81) rfl))) (by decide) (own_back (W := 0) (own_rme l Z a0 hw a1 b k z vs h0 n0 Z0 Fv V hz) hZ (hw _ (List.mem_of_getElem? (i := 83) rfl)) (hw _ (List.mem_of_getElem? (i := 6) rfl)) (by decide) (by decide)) q2a q2c (g := (mkF m 1 #[.val (.ref a1)] [(.ref a1)])) rfl (by rw [hml]; rfl) (Steps.refl _) (argsL := []) (rest := []) (lenOf own_pd8 rfl) rfl (by show 2 * 0 + _ ≤ _; exact Nat.le_of_eq rfl) (hb hby own_d25_1) (fun _ _ => ⟨rfl, e0, (by decide : 0 + 0 ≤ _), (by decide : 0 + 0 ≤ _)⟩)
    dsimp only [Pt.U, Pt.locs, Pt.cells, Pt.slots] at X2 l2 y2 z2 st2 hQ2
    replace X2 := own_cst X2 l2 y2 z2 (k2 := 0) (n2 := 0) rfl rfl
    clear l2 y2 z2
    obtain ⟨rfl, Nq2, eq2⟩ := hQ2
    have NF2 := Fr.app N0 Nq2
    refine own_goT st2 ?_
    show own_Go _ _ _ _ (T2.setTop (mkF m 4 #[.val (.ref a1)] [(.int (0 : Int32))]))
    refine own_go (fun _ => XS.ifYes X2.here hx rfl (pc0 := 4) (pc' := 11) rfl (hb hby own_d25_4) rfl ((if0 _ _).trans (teq rfl).1) (by decide) (by decide)) ?_
    show own_Go _ _ _ _ (T2.setTop (mkF m 11 #[.val (.ref a1)] []))
    refine own_go (fun _ => XS.aloadN X2.here hx rfl (hb hby own_d25_11) rfl rfl) ?_
    show own_Go _ _ _ _ (T2.setTop (mkF m 12 #[.val (.ref a1)] [(.ref a1)]))
    refine own_ret X2 hlk (v := some (.ref a1)) (fun h => by rw [Bd.returns] at h; cases h) (fun fs hr => retOut X2 hx Bd.returns rfl (Or.inr (Or.inr (Or.inr (Or.inr ⟨rfl, rfl, rfl⟩)))) (hb hby own_d25_12) hr) ?_ (by decide) (by decide)
    try rw [eq2]
    exact ⟨_, rfl, NF2, rfl, Or.inr rfl⟩
theorem own_pn6 : plainName "java/util/Map" = true := by first | (simp [plainName, overriddenIn]; done) | decide +kernel
theorem own_d26_0 : decode jdk_72_method_26_code 0 = .ok (.getstatic 81, 3) := by decide +kernel
theorem own_d26_3 : decode jdk_72_method_26_code 3 = .ok (.areturn, 1) := by decide +kernel
set_option maxRecDepth 65536 in
set_option maxHeartbeats 40000000 in
theorem own_rmMO (l : Launch) (Z : State) (a0 : Array Value) (hw : ∀ d ∈ tables_1, d.before a0 Z = true) (em : Addr) (h0 : Heap) (n0 : Nat) (Z0 : n0 ≤ h0.size) (O : Old Z n0 h0) (S_M : Sta Z Z.heap "java/util/ImmutableCollections" "EMPTY_MAP" "Ljava/util/ImmutableCollections$MapN;" (.ref em)) :
    own_Met l Z [] (⟨"java/util/Map", "of", "()Ljava/util/Map;"⟩ : MethodName) jdk_72_method_26_code 0 (some (.object "java/util/Map")) ({ frames := 0, cells := 0, slots := 0, locals := 0 } : Room) #[] h0 (fun v h L => v = some (.ref em) ∧ Fr n0 L ∧ h = h0) := by
  refine MetFree.of_bodySF (plainFor_of_name own_pn6) hisR ?_
  intro p e s m args below meth c s₁ Bd hml0 hP hK
  obtain ⟨rfl, hZ, hh⟩ := hP
  have hx := Bd.exec
  have hby := Bd.bytes
  have hml : c.maxLocals = 0 := hml0
  have hown : s.vm.findClass "java/util/Map" = some m.cls := findClass_of_methodNamed Bd.named
  have hnm := (name_of_methodNamed Bd.named Bd.method).1
  have hlk : meth.locks = false := Bd.notSynchronized
  have X0 : Stand p l e ({ frames := 0, cells := 0, slots := 0, locals := 0 } : Room) s m #[] below meth c s₁ [] 0 0 := Stand.of_body Bd
  have e0 : s₁.heap = h0 := by rw [← hh, Bd.state]; rfl
  have N0 := Fr.nil n0
  refine own_body (Q := fun v h L => v = some (.ref em) ∧ Fr n0 L ∧ h = h0) ?_
  refine own_go (fun _ kont => castTop (own_ef m #[] 0 #[] (own_al [] 0 [] rfl)) kont) ?_
  show own_Go _ _ _ _ (s₁.setTop (mkF m 0 #[] []))
  obtain ⟨T1, X1, e1, st1⟩ := getS2 X0 hx hZ hown (host := "") (Or.inl (hw _ (List.mem_of_getElem? (i := 132) rfl))) Via.refl e0 (S_M.ext O.2) (g := (mkF m 0 #[] [])) rfl (hb hby own_d26_0)
  refine own_go st1 ?_
  show own_Go _ _ _ _ (T1.setTop (mkF m 3 #[] [(.ref em)]))
  refine own_ret X1 hlk (v := some (.ref em)) (fun h => by rw [Bd.returns] at h; cases h) (fun fs hr => retOut X1 hx Bd.returns rfl (Or.inr (Or.inr (Or.inr (Or.inr ⟨rfl, rfl, rfl⟩)))) (hb hby own_d26_3) hr) ?_ (by decide) (by decide)
  try rw [e1]
  exact ⟨rfl, N0, rfl⟩
theorem own_d31_0 : decode prog_14_method_5_code 0 = .ok (.aload_n 0, 1) := by decide +kernel
theorem own_d31_1 : decode prog_14_method_5_code 1 = .ok (.getfield 28, 3) := by decide +kernel
theorem own_d31_4 : decode prog_14_method_5_code 4 = .ok (.areturn, 1) := by decide +kernel
set_option maxRecDepth 65536 in
set_option maxHeartbeats 40000000 in
theorem own_rmg0 (l : Launch) (Z : State) (a0 : Array Value) (hw : ∀ d ∈ tables_1, d.before a0 Z = true) (a1 : Addr) (wv : Value) (h0 : Heap) (n0 : Nat) (Z0 : n0 ≤ h0.size) (F : Fld Z h0 a1 "com/example/ratatoskr/ratatoskr/request/RequestPathInfo" "resourcePath" "Ljava/lang/String;" wv) (hrv : wv.isRef = true) :
    own_Met l Z [] (⟨"com/example/ratatoskr/ratatoskr/request/RequestPathInfo", "getResourcePath", "()Ljava/lang/String;"⟩ : MethodName) prog_14_method_5_code 1 (some (.object "java/lang/String")) ({ frames := 0, cells := 0, slots := 0, locals := 0 } : Room) #[(.ref a1)] h0 (fun v h L => v = some wv ∧ Fr n0 L ∧ h = h0) := by
  refine MetFree.of_bodySF (plainFor_of_name own_pn5) hisR ?_
  intro p e s m args below meth c s₁ Bd hml0 hP hK
  obtain ⟨rfl, hZ, hh⟩ := hP
  have hx := Bd.exec
  have hby := Bd.bytes
  have hml : c.maxLocals = 1 := hml0
  have hown : s.vm.findClass "com/example/ratatoskr/ratatoskr/request/RequestPathInfo" = some m.cls := findClass_of_methodNamed Bd.named
  have hnm := (name_of_methodNamed Bd.named Bd.method).1
  have hlk : meth.locks = false := Bd.notSynchronized
  have X0 : Stand p l e ({ frames := 0, cells := 0, slots := 0, locals := 0 } : Room) s m #[(.ref a1)] below meth c s₁ [] 0 0 := Stand.of_body Bd
  have e0 : s₁.heap = h0 := by rw [← hh, Bd.state]; rfl
  have N0 := Fr.nil n0
  refine own_body (Q := fun v h L => v = some wv ∧ Fr n0 L ∧ h = h0) ?_
  refine own_go (fun _ kont => castTop (own_ef m #[(.ref a1)] 1 #[.val (.ref a1)] (own_al [(.ref a1)] 1 [.val (.ref a1)] rfl)) kont) ?_
  show own_Go _ _ _ _ (s₁.setTop (mkF m 0 #[.val (.ref a1)] []))
  refine own_go (fun _ => XS.aloadN X0.here hx rfl (hb hby own_d31_0) rfl rfl) ?_
  obtain ⟨T1, X1, e1, st1⟩ := getF X0 hx hZ hown (host := "") (Or.inl (hw _ (List.mem_of_getElem? (i := 111) rfl))) Via.refl e0 F (g := (mkF m 1 #[.val (.ref a1)] [(.ref a1)])) rfl rfl (hb hby own_d31_1)
  refine own_go st1 ?_
  show own_Go _ _ _ _ (T1.setTop (mkF m 4 #[.val (.ref a1)] [wv]))
  refine own_ret X1 hlk (v := some wv) (fun h => by rw [Bd.returns] at h; cases h) (fun fs hr => retOut X1 hx Bd.returns (own_narv hrv) (Or.inr (Or.inr (Or.inr (Or.inr ⟨rfl, rfl, hrv⟩)))) (hb hby own_d31_4) hr) ?_ (by decide) (by decide)
  try rw [e1]
  exact ⟨rfl, N0, rfl⟩
theorem own_d34_0 : decode prog_14_method_6_code 0 = .ok (.aload_n 0, 1) := by decide +kernel
theorem own_d34_1 : decode prog_14_method_6_code 1 = .ok (.getfield 38, 3) := by decide +kernel
theorem own_d34_4 : decode prog_14_method_6_code 4 = .ok (.areturn, 1) := by decide +kernel
set_option maxRecDepth 65536 in
set_option maxHeartbeats 40000000 in
theorem own_rmg1 (l : Launch) (Z : State) (a0 : Array Value) (hw : ∀ d ∈ tables_1, d.before a0 Z = true) (a1 : Addr) (wv : Value) (h0 : Heap) (n0 : Nat) (Z0 : n0 ≤ h0.size) (F : Fld Z h0 a1 "com/example/ratatoskr/ratatoskr/request/RequestPathInfo" "selectorString" "Ljava/lang/String;" wv) (hrv : wv.isRef = true) :
    own_Met l Z [] (⟨"com/example/ratatoskr/ratatoskr/request/RequestPathInfo", "getSelectorString", "()Ljava/lang/String;"⟩ : MethodName) prog_14_method_6_code 1 (some (.object "java/lang/String")) ({ frames := 0, cells := 0, slots := 0, locals := 0 } : Room) #[(.ref a1)] h0 (fun v h L => v = some wv ∧ Fr n0 L ∧ h = h0) := by
  refine MetFree.of_bodySF (plainFor_of_name own_pn5) hisR ?_
  intro p e s m args below meth c s₁ Bd hml0 hP hK
  obtain ⟨rfl, hZ, hh⟩ := hP
  have hx := Bd.exec
  have hby := Bd.bytes
  have hml : c.maxLocals = 1 := hml0
  have hown : s.vm.findClass "com/example/ratatoskr/ratatoskr/request/RequestPathInfo" = some m.cls := findClass_of_methodNamed Bd.named
  have hnm := (name_of_methodNamed Bd.named Bd.method).1
  have hlk : meth.locks = false := Bd.notSynchronized
  have X0 : Stand p l e ({ frames := 0, cells := 0, slots := 0, locals := 0 } : Room) s m #[(.ref a1)] below meth c s₁ [] 0 0 := Stand.of_body Bd
  have e0 : s₁.heap = h0 := by rw [← hh, Bd.state]; rfl
  have N0 := Fr.nil n0
  refine own_body (Q := fun v h L => v = some wv ∧ Fr n0 L ∧ h = h0) ?_
  refine own_go (fun _ kont => castTop (own_ef m #[(.ref a1)] 1 #[.val (.ref a1)] (own_al [(.ref a1)] 1 [.val (.ref a1)] rfl)) kont) ?_
  show own_Go _ _ _ _ (s₁.setTop (mkF m 0 #[.val (.ref a1)] []))
  refine own_go (fun _ => XS.aloadN X0.here hx rfl (hb hby own_d34_0) rfl rfl) ?_
  obtain ⟨T1, X1, e1, st1⟩ := getF X0 hx hZ hown (host := "") (Or.inl (hw _ (List.mem_of_getElem? (i := 113) rfl))) Via.refl e0 F (g := (mkF m 1 #[.val (.ref a1)] [(.ref a1)])) rfl rfl (hb hby own_d34_1)
  refine own_go st1 ?_
  show own_Go _ _ _ _ (T1.setTop (mkF m 4 #[.val (.ref a1)] [wv]))
  refine own_ret X1 hlk (v := some wv) (fun h => by rw [Bd.returns] at h; cases h) (fun fs hr => retOut X1 hx Bd.returns (own_narv hrv) (Or.inr (Or.inr (Or.inr (Or.inr ⟨rfl, rfl, hrv⟩)))) (hb hby own_d34_4) hr) ?_ (by decide) (by decide)
  try rw [e1]
  exact ⟨rfl, N0, rfl⟩
theorem own_d35_0 : decode prog_14_method_14_code 0 = .ok (.aload_n 0, 1) := by decide +kernel
theorem own_d35_1 : decode prog_14_method_14_code 1 = .ok (.getfield 44, 3) := by decide +kernel
theorem own_d35_4 : decode prog_14_method_14_code 4 = .ok (.areturn, 1) := by decide +kernel
set_option maxRecDepth 65536 in
set_option maxHeartbeats 40000000 in
theorem own_rmg2 (l : Launch) (Z : State) (a0 : Array Value) (hw : ∀ d ∈ tables_1, d.before a0 Z = true) (a1 : Addr) (wv : Value) (h0 : Heap) (n0 : Nat) (Z0 : n0 ≤ h0.size) (F : Fld Z h0 a1 "com/example/ratatoskr/ratatoskr/request/RequestPathInfo" "extension" "Ljava/lang/String;" wv) (hrv : wv.isRef = true) :
    own_Met l Z [] (⟨"com/example/ratatoskr/ratatoskr/request/RequestPathInfo", "getExtension", "()Ljava/lang/String;"⟩ : MethodName) prog_14_method_14_code 1 (some (.object "java/lang/String")) ({ frames := 0, cells := 0, slots := 0, locals := 0 } : Room) #[(.ref a1)] h0 (fun v h L => v = some wv ∧ Fr n0 L ∧ h = h0) := by
  refine MetFree.of_bodySF (plainFor_of_name own_pn5) hisR ?_
  intro p e s m args below meth c s₁ Bd hml0 hP hK
  obtain ⟨rfl, hZ, hh⟩ := hP
  have hx := Bd.exec
  have hby := Bd.bytes
  have hml : c.maxLocals = 1 := hml0
  have hown : s.vm.findClass "com/example/ratatoskr/ratatoskr/request/RequestPathInfo" = some m.cls := findClass_of_methodNamed Bd.named
  have hnm := (name_of_methodNamed Bd.named Bd.method).1
  have hlk : meth.locks = false := Bd.notSynchronized
  have X0 : Stand p l e ({ frames := 0, cells := 0, slots := 0, locals := 0 } : Room) s m #[(.ref a1)] below meth c s₁ [] 0 0 := Stand.of_body Bd
  have e0 : s₁.heap = h0 := by rw [← hh, Bd.state]; rfl
  have N0 := Fr.nil n0
  refine own_body (Q := fun v h L => v = some wv ∧ Fr n0 L ∧ h = h0) ?_
  refine own_go (fun _ kont => castTop (own_ef m #[(.ref a1)] 1 #[.val (.ref a1)] (own_al [(.ref a1)] 1 [.val (.ref a1)] rfl)) kont) ?_
  show own_Go _ _ _ _ (s₁.setTop (mkF m 0 #[.val (.ref a1)] []))
  refine own_go (fun _ => XS.aloadN X0.here hx rfl (hb hby own_d35_0) rfl rfl) ?_
  obtain ⟨T1, X1, e1, st1⟩ := getF X0 hx hZ hown (host := "") (Or.inl (hw _ (List.mem_of_getElem? (i := 124) rfl))) Via.refl e0 F (g := (mkF m 1 #[.val (.ref a1)] [(.ref a1)])) rfl rfl (hb hby own_d35_1)
  refine own_go st1 ?_
  show own_Go _ _ _ _ (T1.setTop (mkF m 4 #[.val (.ref a1)] [wv]))
  refine own_ret X1 hlk (v := some wv) (fun h => by rw [Bd.returns] at h; cases h) (fun fs hr => retOut X1 hx Bd.returns (own_narv hrv) (Or.inr (Or.inr (Or.inr (Or.inr ⟨rfl, rfl, hrv⟩)))) (hb hby own_d35_4) hr) ?_ (by decide) (by decide)
  try rw [e1]
  exact ⟨rfl, N0, rfl⟩
theorem own_d36_0 : decode prog_14_method_15_code 0 = .ok (.aload_n 0, 1) := by decide +kernel
theorem own_d36_1 : decode prog_14_method_15_code 1 = .ok (.getfield 47, 3) := by decide +kernel
theorem own_d36_4 : decode prog_14_method_15_code 4 = .ok (.areturn, 1) := by decide +kernel
set_option maxRecDepth 65536 in
set_option maxHeartbeats 40000000 in
theorem own_rmg3 (l : Launch) (Z : State) (a0 : Array Value) (hw : ∀ d ∈ tables_1, d.before a0 Z = true) (a1 : Addr) (wv : Value) (h0 : Heap) (n0 : Nat) (Z0 : n0 ≤ h0.size) (F : Fld Z h0 a1 "com/example/ratatoskr/ratatoskr/request/RequestPathInfo" "suffix" "Ljava/lang/String;" wv) (hrv : wv.isRef = true) :
    own_Met l Z [] (⟨"com/example/ratatoskr/ratatoskr/request/RequestPathInfo", "getSuffix", "()Ljava/lang/String;"⟩ : MethodName) prog_14_method_15_code 1 (some (.object "java/lang/String")) ({ frames := 0, cells := 0, slots := 0, locals := 0 } : Room) #[(.ref a1)] h0 (fun v h L => v = some wv ∧ Fr n0 L ∧ h = h0) := by
  refine MetFree.of_bodySF (plainFor_of_name own_pn5) hisR ?_
  intro p e s m args below meth c s₁ Bd hml0 hP hK
  obtain ⟨rfl, hZ, hh⟩ := hP
  have hx := Bd.exec
  have hby := Bd.bytes
  have hml : c.maxLocals = 1 := hml0
  have hown : s.vm.findClass "com/example/ratatoskr/ratatoskr/request/RequestPathInfo" = some m.cls := findClass_of_methodNamed Bd.named
  have hnm := (name_of_methodNamed Bd.named Bd.method).1
  have hlk : meth.locks = false := Bd.notSynchronized
  have X0 : Stand p l e ({ frames := 0, cells := 0, slots := 0, locals := 0 } : Room) s m #[(.ref a1)] below meth c s₁ [] 0 0 := Stand.of_body Bd
  have e0 : s₁.heap = h0 := by rw [← hh, Bd.state]; rfl
  have N0 := Fr.nil n0
  refine own_body (Q := fun v h L => v = some wv ∧ Fr n0 L ∧ h = h0) ?_
  refine own_go (fun _ kont => castTop (own_ef m #[(.ref a1)] 1 #[.val (.ref a1)] (own_al [(.ref a1)] 1 [.val (.ref a1)] rfl)) kont) ?_
  show own_Go _ _ _ _ (s₁.setTop (mkF m 0 #[.val (.ref a1)] []))
  refine own_go (fun _ => XS.aloadN X0.here hx rfl (hb hby own_d36_0) rfl rfl) ?_
  obtain ⟨T1, X1, e1, st1⟩ := getF X0 hx hZ hown (host := "") (Or.inl (hw _ (List.mem_of_getElem? (i := 126) rfl))) Via.refl e0 F (g := (mkF m 1 #[.val (.ref a1)] [(.ref a1)])) rfl rfl (hb hby own_d36_1)
  refine own_go st1 ?_
  show own_Go _ _ _ _ (T1.setTop (mkF m 4 #[.val (.ref a1)] [wv]))
  refine own_ret X1 hlk (v := some wv) (fun h => by rw [Bd.returns] at h; cases h) (fun fs hr => retOut X1 hx Bd.returns (own_narv hrv) (Or.inr (Or.inr (Or.inr (Or.inr ⟨rfl, rfl, hrv⟩)))) (hb hby own_d36_4) hr) ?_ (by decide) (by decide)
  try rw [e1]
  exact ⟨rfl, N0, rfl⟩
theorem own_d29_0 : decode prog_14_method_16_code 0 = .ok (.aload_n 0, 1) := by decide +kernel
theorem own_d29_1 : decode prog_14_method_16_code 1 = .ok (.getfield 56, 3) := by decide +kernel
theorem own_d29_4 : decode prog_14_method_16_code 4 = .ok (.areturn, 1) := by decide +kernel
set_option maxRecDepth 65536 in
set_option maxHeartbeats 40000000 in
theorem own_rmg4 (l : Launch) (Z : State) (a0 : Array Value) (hw : ∀ d ∈ tables_1, d.before a0 Z = true) (a1 : Addr) (wv : Value) (h0 : Heap) (n0 : Nat) (Z0 : n0 ≤ h0.size) (F : Fld Z h0 a1 "com/example/ratatoskr/ratatoskr/request/RequestPathInfo" "parameters" "Ljava/util/Map;" wv) (hrv : wv.isRef = true) :
    own_Met l Z [] (⟨"com/example/ratatoskr/ratatoskr/request/RequestPathInfo", "getParameters", "()Ljava/util/Map;"⟩ : MethodName) prog_14_method_16_code 1 (some (.object "java/util/Map")) ({ frames := 0, cells := 0, slots := 0, locals := 0 } : Room) #[(.ref a1)] h0 (fun v h L => v = some wv ∧ Fr n0 L ∧ h = h0) := by
  refine MetFree.of_bodySF (plainFor_of_name own_pn5) hisR ?_
  intro p e s m args below meth c s₁ Bd hml0 hP hK
  obtain ⟨rfl, hZ, hh⟩ := hP
  have hx := Bd.exec
  have hby := Bd.bytes
  have hml : c.maxLocals = 1 := hml0
  have hown : s.vm.findClass "com/example/ratatoskr/ratatoskr/request/RequestPathInfo" = some m.cls := findClass_of_methodNamed Bd.named
  have hnm := (name_of_methodNamed Bd.named Bd.method).1
  have hlk : meth.locks = false := Bd.notSynchronized
  have X0 : Stand p l e ({ frames := 0, cells := 0, slots := 0, locals := 0 } : Room) s m #[(.ref a1)] below meth c s₁ [] 0 0 := Stand.of_body Bd
  have e0 : s₁.heap = h0 := by rw [← hh, Bd.state]; rfl
  have N0 := Fr.nil n0
  refine own_body (Q := fun v h L => v = some wv ∧ Fr n0 L ∧ h = h0) ?_
  refine own_go (fun _ kont => castTop (own_ef m #[(.ref a1)] 1 #[.val (.ref a1)] (own_al [(.ref a1)] 1 [.val (.ref a1)] rfl)) kont) ?_
  show own_Go _ _ _ _ (s₁.setTop (mkF m 0 #[.val (.ref a1)] []))
  refine own_go (fun _ => XS.aloadN X0.here hx rfl (hb hby own_d29_0) rfl rfl) ?_
  obtain ⟨T1, X1, e1, st1⟩ := getF X0 hx hZ hown (host := "") (Or.inl (hw _ (List.mem_of_getElem? (i := 134) rfl))) Via.refl e0 F (g := (mkF m 1 #[.val (.ref a1)] [(.ref a1)])) rfl rfl (hb hby own_d29_1)
  refine own_go st1 ?_
  show own_Go _ _ _ _ (T1.setTop (mkF m 4 #[.val (.ref a1)] [wv]))
  refine own_ret X1 hlk (v := some wv) (fun h => by rw [Bd.returns] at h; cases h) (fun fs hr => retOut X1 hx Bd.returns (own_narv hrv) (Or.inr (Or.inr (Or.inr (Or.inr ⟨rfl, rfl, hrv⟩)))) (hb hby own_d29_4) hr) ?_ (by decide) (by decide)
  try rw [e1]
  exact ⟨rfl, N0, rfl⟩
theorem own_d33_0 : decode jdk_42_method_66_code 0 = .ok (.aload_n 0, 1) := by decide +kernel
theorem own_d33_1 : decode jdk_42_method_66_code 1 = .ok (.aload_n 1, 1) := by decide +kernel
theorem own_d33_2 : decode jdk_42_method_66_code 2 = .ok (.if_acmp .ne 5, 3) := by decide +kernel
theorem own_d33_5 : decode jdk_42_method_66_code 5 = .ok (.iconst 1, 1) := by decide +kernel
theorem own_d33_6 : decode jdk_42_method_66_code 6 = .ok (.ireturn, 1) := by decide +kernel
set_option maxRecDepth 65536 in
set_option maxHeartbeats 40000000 in
theorem own_rmeqS (l : Launch) (Z : State) (a0 : Array Value) (hw : ∀ d ∈ tables_1, d.before a0 Z = true) (o : Addr) (h0 : Heap) (n0 : Nat) (Z0 : n0 ≤ h0.size)  :
    own_Met l Z [] (⟨"java/lang/String", "equals", "(Ljava/lang/Object;)Z"⟩ : MethodName) jdk_42_method_66_code 3 (some .boolean) ({ frames := 0, cells := 0, slots := 0, locals := 0 } : Room) #[(.ref o), (.ref o)] h0 (fun v h L => v = some (.int 1) ∧ Fr n0 L ∧ h = h0) := by
  refine MetFree.of_bodySF (plainFor_of_name own_pn1) hisR ?_
  intro p e s m args below meth c s₁ Bd hml0 hP hK
  obtain ⟨rfl, hZ, hh⟩ := hP
  have hx := Bd.exec
  have hby := Bd.bytes
  have hml : c.maxLocals = 3 := hml0
  have hown : s.vm.findClass "java/lang/String" = some m.cls := findClass_of_methodNamed Bd.named
  have hnm := (name_of_methodNamed Bd.named Bd.method).1
  have hlk : meth.locks = false := Bd.notSynchronized
  have X0 : Stand p l e ({ frames := 0, cells := 0, slots := 0, locals := 0 } : Room) s m #[(.ref o), (.ref o)] below meth c s₁ [] 0 0 := Stand.of_body Bd
  have e0 : s₁.heap = h0 := by rw [← hh, Bd.state]; rfl
  have N0 := Fr.nil n0
  refine own_body (Q := fun v h L => v = some (.int 1) ∧ Fr n0 L ∧ h = h0) ?_
  refine own_go (fun _ kont => castTop (own_ef m #[(.ref o), (.ref o)] 3 #[.val (.ref o), .val (.ref o), .unset] (own_al [(.ref o), (.ref o)] 3 [.val (.ref o), .val (.ref o), .unset] rfl)) kont) ?_
  show own_Go _ _ _ _ (s₁.setTop (mkF m 0 #[.val (.ref o), .val (.ref o), .unset] []))
  refine own_go (fun _ => XS.aloadN X0.here hx rfl (hb hby own_d33_0) rfl rfl) ?_
  refine own_go (fun _ => XS.aloadN X0.here hx rfl (hb hby own_d33_1) rfl rfl) ?_
  show own_Go _ _ _ _ (s₁.setTop (mkF m 2 #[.val (.ref o), .val (.ref o), .unset] [(.ref o), (.ref o)]))
  refine own_go (fun _ => Jvm.RoadKit.acmp (g := (mkF m 2 #[.val (.ref o), .val (.ref o), .unset] [(.ref o), (.ref o)])) X0 hx rfl rfl rfl (pc0 := 2) (pc' := 5) (same := true) rfl (hb hby own_d33_2) rfl (decide_eq_true (congrArg Value.ref rfl)) (by decide) (by decide)) ?_
  show own_Go _ _ _ _ (s₁.setTop (mkF m 5 #[.val (.ref o), .val (.ref o), .unset] []))
  refine own_go (fun _ => XS.iconst X0.here hx rfl (hb hby own_d33_5)) ?_
  show own_Go _ _ _ _ (s₁.setTop (mkF m 6 #[.val (.ref o), .val (.ref o), .unset] [(.int (1 : Int32))]))
  refine own_ret X0 hlk (v := some (.int (1 : Int32))) (fun h => by rw [Bd.returns] at h; cases h) (fun fs hr => retN X0 hx (t := .boolean) Bd.returns (by simp) (hb hby own_d33_6) hr) ?_ (by decide) (by decide)
  try rw [e0]
  exact ⟨rfl, N0, rfl⟩
theorem own_pn7 : plainName "com/example/ratatoskr/ratatoskr/request/RequestPathInfoWithParametersPinLaw" = true := by first | (simp [plainName, overriddenIn]; done) | decide +kernel
theorem own_d32_0 : decode method_3_code 0 = .ok (.aload_n 0, 1) := by decide +kernel
theorem own_d32_1 : decode method_3_code 1 = .ok (.ifnonnull 15, 3) := by decide +kernel
theorem own_d32_4 : decode method_3_code 4 = .ok (.aload_n 1, 1) := by decide +kernel
theorem own_d32_5 : decode method_3_code 5 = .ok (.ifnonnull 7, 3) := by decide +kernel
theorem own_d32_8 : decode method_3_code 8 = .ok (.iconst 1, 1) := by decide +kernel
theorem own_d32_9 : decode method_3_code 9 = .ok (.goto 12, 3) := by decide +kernel
theorem own_d32_21 : decode method_3_code 21 = .ok (.ireturn, 1) := by decide +kernel
set_option maxRecDepth 65536 in
set_option maxHeartbeats 40000000 in
theorem own_rmEqN (l : Launch) (Z : State) (a0 : Array Value) (hw : ∀ d ∈ tables_1, d.before a0 Z = true)  (h0 : Heap) (n0 : Nat) (Z0 : n0 ≤ h0.size)  :
    own_Met l Z [] (⟨"com/example/ratatoskr/ratatoskr/request/RequestPathInfoWithParametersPinLaw", "eq", "(Ljava/lang/String;Ljava/lang/String;)Z"⟩ : MethodName) method_3_code 2 (some .boolean) ({ frames := 1, cells := 0, slots := 0, locals := 14 } : Room) #[.null, .null] h0 (fun v h L => v = some (.int 1) ∧ Fr n0 L ∧ h = h0) := by
  refine MetFree.of_bodySF (plainFor_of_name own_pn7) hisR ?_
  intro p e s m args below meth c s₁ Bd hml0 hP hK
  obtain ⟨rfl, hZ, hh⟩ := hP
  have hx := Bd.exec
  have hby := Bd.bytes
  have hml : c.maxLocals = 2 := hml0
  have hown : s.vm.findClass "com/example/ratatoskr/ratatoskr/request/RequestPathInfoWithParametersPinLaw" = some m.cls := findClass_of_methodNamed Bd.named
  have hnm := (name_of_methodNamed Bd.named Bd.method).1
  have hlk : meth.locks = false := Bd.notSynchronized
  have X0 : Stand p l e ({ frames := 1, cells := 0, slots := 0, locals := 14 } : Room) s m #[.null, .null] below meth c s₁ [] 0 0 := Stand.of_body Bd
  have e0 : s₁.heap = h0 := by rw [← hh, Bd.state]; rfl
  have N0 := Fr.nil n0
  refine own_body (Q := fun v h L => v = some (.int 1) ∧ Fr n0 L ∧ h = h0) ?_
  refine own_go (fun _ kont => castTop (own_ef m #[.null, .null] 2 #[.val .null, .val .null] (own_al [.null, .null] 2 [.val .null, .val .null] rfl)) kont) ?_
  show own_Go _ _ _ _ (s₁.setTop (mkF m 0 #[.val .null, .val .null] []))
  refine own_go (fun _ => XS.aloadN X0.here hx rfl (hb hby own_d32_0) rfl rfl) ?_
  show own_Go _ _ _ _ (s₁.setTop (mkF m 1 #[.val .null, .val .null] [.null]))
  refine own_go (fun _ => XS.ifnonnullNo X0.here hx rfl (hb hby own_d32_1) rfl) ?_
  show own_Go _ _ _ _ (s₁.setTop (mkF m 4 #[.val .null, .val .null] []))
  refine own_go (fun _ => XS.aloadN X0.here hx rfl (hb hby own_d32_4) rfl rfl) ?_
  show own_Go _ _ _ _ (s₁.setTop (mkF m 5 #[.val .null, .val .null] [.null]))
  refine own_go (fun _ => XS.ifnonnullNo X0.here hx rfl (hb hby own_d32_5) rfl) ?_
  show own_Go _ _ _ _ (s₁.setTop (mkF m 8 #[.val .null, .val .null] []))
  refine own_go (fun _ => XS.iconst X0.here hx rfl (hb hby own_d32_8)) ?_
  refine own_go (fun _ => XS.goto X0.here hx rfl (pc0 := 9) (pc' := 21) rfl (hb hby own_d32_9) (by decide) (by decide)) ?_
  show own_Go _ _ _ _ (s₁.setTop (mkF m 21 #[.val .null, .val .null] [(.int (1 : Int32))]))
  refine own_ret X0 hlk (v := some (.int (1 : Int32))) (fun h => by rw [Bd.returns] at h; cases h) (fun fs hr => retN X0 hx (t := .boolean) Bd.returns (by simp) (hb hby own_d32_21) hr) ?_ (by decide) (by decide)
  try rw [e0]
  exact ⟨rfl, N0, rfl⟩
theorem own_d32_16 : decode method_3_code 16 = .ok (.aload_n 0, 1) := by decide +kernel
theorem own_d32_17 : decode method_3_code 17 = .ok (.aload_n 1, 1) := by decide +kernel
theorem own_d32_18 : decode method_3_code 18 = .ok (.invokevirtual 7, 3) := by decide +kernel
theorem own_pd18 : parseMethodDescriptor "(Ljava/lang/Object;)Z" = some ⟨[(.object "java/lang/Object")], some .boolean⟩ := by decide +kernel
set_option maxRecDepth 65536 in
set_option maxHeartbeats 40000000 in
theorem own_rmEqR (l : Launch) (Z : State) (a0 : Array Value) (hw : ∀ d ∈ tables_1, d.before a0 Z = true) (o : Addr) (h0 : Heap) (n0 : Nat) (Z0 : n0 ≤ h0.size) (E : Exa Z h0 o "java/lang/String") :
    own_Met l Z [] (⟨"com/example/ratatoskr/ratatoskr/request/RequestPathInfoWithParametersPinLaw", "eq", "(Ljava/lang/String;Ljava/lang/String;)Z"⟩ : MethodName) method_3_code 2 (some .boolean) ({ frames := 1, cells := 0, slots := 0, locals := 14 } : Room) #[(.ref o), (.ref o)] h0 (fun v h L => v = some (.int 1) ∧ Fr n0 L ∧ h = h0) := by
  refine MetFree.of_bodySF (plainFor_of_name own_pn7) hisR ?_
  intro p e s m args below meth c s₁ Bd hml0 hP hK
  obtain ⟨rfl, hZ, hh⟩ := hP
  have hx := Bd.exec
  have hby := Bd.bytes
  have hml : c.maxLocals = 2 := hml0
  have hown : s.vm.findClass "com/example/ratatoskr/ratatoskr/request/RequestPathInfoWithParametersPinLaw" = some m.cls := findClass_of_methodNamed Bd.named
  have hnm := (name_of_methodNamed Bd.named Bd.method).1
  have hlk : meth.locks = false := Bd.notSynchronized
  have X0 : Stand p l e ({ frames := 1, cells := 0, slots := 0, locals := 14 } : Room) s m #[(.ref o), (.ref o)] below meth c s₁ [] 0 0 := Stand.of_body Bd
  have e0 : s₁.heap = h0 := by rw [← hh, Bd.state]; rfl
  have N0 := Fr.nil n0
  refine own_body (Q := fun v h L => v = some (.int 1) ∧ Fr n0 L ∧ h = h0) ?_
  refine own_go (fun _ kont => castTop (own_ef m #[(.ref o), (.ref o)] 2 #[.val (.ref o), .val (.ref o)] (own_al [(.ref o), (.ref o)] 2 [.val (.ref o), .val (.ref o)] rfl)) kont) ?_
  show own_Go _ _ _ _ (s₁.setTop (mkF m 0 #[.val (.ref o), .val (.ref o)] []))
  refine own_go (fun _ => XS.aloadN X0.here hx rfl (hb hby own_d32_0) rfl rfl) ?_
  show own_Go _ _ _ _ (s₁.setTop (mkF m 1 #[.val (.ref o), .val (.ref o)] [(.ref o)]))
  refine own_go (fun _ => XS.ifnonnullYes X0.here hx rfl (pc0 := 1) (pc' := 16) rfl (hb hby own_d32_1) rfl (by decide) (by decide)) ?_
  show own_Go _ _ _ _ (s₁.setTop (mkF m 16 #[.val (.ref o), .val (.ref o)] []))
  refine own_go (fun _ => XS.aloadN X0.here hx rfl (hb hby own_d32_16) rfl rfl) ?_
  refine own_go (fun _ => XS.aloadN X0.here hx rfl (hb hby own_d32_17) rfl rfl) ?_
  show own_Go _ _ _ _ (s₁.setTop (mkF m 18 #[.val (.ref o), .val (.ref o)] [(.ref o), (.ref o)]))
  obtain ⟨cq1, kq1, q1a, q1b, q1c⟩ := isOf hZ e0 E
  obtain ⟨_, _, ⟨T1, L1, k1, n1⟩, -, X1, ⟨Lc1, hQ1, l1, y1, z1⟩, st1⟩ := X0.virtualBack hx (y := (⟨"java/lang/String", "equals", "(Ljava/lang/Object;)Z"⟩ : MethodName)) (z := (⟨"java/lang/String", "equals", "(Ljava/lang/Object;)Z"⟩ : MethodName)) hown (mvT hZ (hw _ (List.mem_of_getElem? (i := 161) rfl))) (mvT hZ (hw _ (List.mem_of_getElem? (i := 162) rfl))) (notFace_of_selects (args := #[]) (mvT hZ (hw _ (List.mem_of_getElem? (i := 164) rfl)))) (mvT hZ (hw _ (List.mem_of_getElem? (i := 164) rfl))) (mvT hZ (hw _ (List.mem_of_getElem? (i := 163) rfl))) (by decide) (own_back (W := 0) (own_rmeqS l Z a0 hw o h0 n0 Z0) hZ (hw _ (List.mem_of_getElem? (i := 165) rfl)) (hw _ (List.mem_of_getElem? (i := 6) rfl)) (by decide) (by decide)) q1a q1c (g := (mkF m 18 #[.val (.ref o), .val (.ref o)] [(.ref o), (.ref o)])) rfl (by rw [hml]; rfl) (Steps.refl _) (argsL := [(.ref o)]) (rest := []) (lenOf own_pd18 rfl) rfl (by show 2 * 0 + _ ≤ _; exact Nat.le_of_eq rfl) (hb hby own_d32_18) (fun _ _ => ⟨rfl, e0, (by decide : 0 + 0 ≤ _), (by decide : 0 + 0 ≤ _)⟩)
  dsimp only [Pt.U, Pt.locs, Pt.cells, Pt.slots] at X1 l1 y1 z1 st1 hQ1
  replace X1 := own_cst X1 l1 y1 z1 (k2 := 0) (n2 := 0) rfl rfl
  clear l1 y1 z1
  obtain ⟨rfl, Nq1, eq1⟩ := hQ1
  have NF1 := Fr.app N0 Nq1
  refine own_goT st1 ?_
  show own_Go _ _ _ _ (T1.setTop (mkF m 21 #[.val (.ref o), .val (.ref o)] [(.int (1 : Int32))]))
  refine own_ret X1 hlk (v := some (.int (1 : Int32))) (fun h => by rw [Bd.returns] at h; cases h) (fun fs hr => retN X1 hx (t := .boolean) Bd.returns (by simp) (hb hby own_d32_21) hr) ?_ (by decide) (by decide)
  try rw [eq1]
  exact ⟨rfl, NF1, rfl⟩
theorem own_rmEq (l : Launch) (Z : State) (a0 : Array Value) (hw : ∀ d ∈ tables_1, d.before a0 Z = true) (wv : Value) (h0 : Heap) (n0 : Nat) (Z0 : n0 ≤ h0.size) (hsv : wv = .null ∨ ∃ o : Addr, wv = .ref o ∧ Exa Z h0 o "java/lang/String") :
    own_Met l Z [] (⟨"com/example/ratatoskr/ratatoskr/request/RequestPathInfoWithParametersPinLaw", "eq", "(Ljava/lang/String;Ljava/lang/String;)Z"⟩ : MethodName) method_3_code 2 (some .boolean) ({ frames := 1, cells := 0, slots := 0, locals := 14 } : Room) #[wv, wv] h0 (fun v h L => v = some (.int 1) ∧ Fr n0 L ∧ h = h0) := by
  rcases hsv with rfl | ⟨o, rfl, E⟩
  · exact own_rmEqN l Z a0 hw h0 n0 Z0
  · exact own_rmEqR l Z a0 hw o h0 n0 Z0 E
theorem own_d30_0 : decode method_4_code 0 = .ok (.aload_n 0, 1) := by decide +kernel
theorem own_d30_1 : decode method_4_code 1 = .ok (.invokevirtual 13, 3) := by decide +kernel
theorem own_pd19 : parseMethodDescriptor "()Ljava/lang/String;" = some ⟨[], some (.object "java/lang/String")⟩ := by decide +kernel
theorem own_d30_4 : decode method_4_code 4 = .ok (.aload_n 1, 1) := by decide +kernel
theorem own_d30_5 : decode method_4_code 5 = .ok (.invokevirtual 13, 3) := by decide +kernel
theorem own_d30_8 : decode method_4_code 8 = .ok (.invokestatic 19, 3) := by decide +kernel
theorem own_pd20 : parseMethodDescriptor "(Ljava/lang/String;Ljava/lang/String;)Z" = some ⟨[(.object "java/lang/String"), (.object "java/lang/String")], some .boolean⟩ := by decide +kernel
theorem own_d30_11 : decode method_4_code 11 = .ok (.ifCond .eq 49, 3) := by decide +kernel
theorem own_d30_14 : decode method_4_code 14 = .ok (.aload_n 0, 1) := by decide +kernel
theorem own_d30_15 : decode method_4_code 15 = .ok (.invokevirtual 25, 3) := by decide +kernel
theorem own_d30_18 : decode method_4_code 18 = .ok (.aload_n 1, 1) := by decide +kernel
theorem own_d30_19 : decode method_4_code 19 = .ok (.invokevirtual 25, 3) := by decide +kernel
theorem own_d30_22 : decode method_4_code 22 = .ok (.invokestatic 19, 3) := by decide +kernel
theorem own_d30_25 : decode method_4_code 25 = .ok (.ifCond .eq 35, 3) := by decide +kernel
theorem own_d30_28 : decode method_4_code 28 = .ok (.aload_n 0, 1) := by decide +kernel
theorem own_d30_29 : decode method_4_code 29 = .ok (.invokevirtual 28, 3) := by decide +kernel
theorem own_d30_32 : decode method_4_code 32 = .ok (.aload_n 1, 1) := by decide +kernel
theorem own_d30_33 : decode method_4_code 33 = .ok (.invokevirtual 28, 3) := by decide +kernel
theorem own_d30_36 : decode method_4_code 36 = .ok (.invokestatic 19, 3) := by decide +kernel
theorem own_d30_39 : decode method_4_code 39 = .ok (.ifCond .eq 21, 3) := by decide +kernel
theorem own_d30_42 : decode method_4_code 42 = .ok (.aload_n 0, 1) := by decide +kernel
theorem own_d30_43 : decode method_4_code 43 = .ok (.invokevirtual 31, 3) := by decide +kernel
theorem own_d30_46 : decode method_4_code 46 = .ok (.aload_n 1, 1) := by decide +kernel
theorem own_d30_47 : decode method_4_code 47 = .ok (.invokevirtual 31, 3) := by decide +kernel
theorem own_d30_50 : decode method_4_code 50 = .ok (.invokestatic 19, 3) := by decide +kernel
theorem own_d30_53 : decode method_4_code 53 = .ok (.ifCond .eq 7, 3) := by decide +kernel
theorem own_d30_56 : decode method_4_code 56 = .ok (.iconst 1, 1) := by decide +kernel
theorem own_d30_57 : decode method_4_code 57 = .ok (.goto 4, 3) := by decide +kernel
theorem own_d30_61 : decode method_4_code 61 = .ok (.ireturn, 1) := by decide +kernel
set_option maxRecDepth 65536 in
set_option maxHeartbeats 40000000 in
theorem own_rmSM (l : Launch) (Z : State) (a0 : Array Value) (hw : ∀ d ∈ tables_1, d.before a0 Z = true) (a1 : Addr) (a2 : Addr) (rp : Addr) (w1 : Value) (w2 : Value) (w3 : Value) (h0 : Heap) (n0 : Nat) (Z0 : n0 ≤ h0.size) (EA : Exa Z h0 a1 "com/example/ratatoskr/ratatoskr/request/RequestPathInfo") (EB : Exa Z h0 a2 "com/example/ratatoskr/ratatoskr/request/RequestPathInfo") (FA0 : Fld Z h0 a1 "com/example/ratatoskr/ratatoskr/request/RequestPathInfo" "resourcePath" "Ljava/lang/String;" (.ref rp)) (FA1 : Fld Z h0 a1 "com/example/ratatoskr/ratatoskr/request/RequestPathInfo" "selectorString" "Ljava/lang/String;" w1) (FA2 : Fld Z h0 a1 "com/example/ratatoskr/ratatoskr/request/RequestPathInfo" "extension" "Ljava/lang/String;" w2) (FA3 : Fld Z h0 a1 "com/example/ratatoskr/ratatoskr/request/RequestPathInfo" "suffix" "Ljava/lang/String;" w3) (FB0 : Fld Z h0 a2 "com/example/ratatoskr/ratatoskr/request/RequestPathInfo" "resourcePath" "Ljava/lang/String;" (.ref rp)) (FB1 : Fld Z h0 a2 "com/example/ratatoskr/ratatoskr/request/RequestPathInfo" "selectorString" "Ljava/lang/String;" w1) (FB2 : Fld Z h0 a2 "com/example/ratatoskr/ratatoskr/request/RequestPathInfo" "extension" "Ljava/lang/String;" w2) (FB3 : Fld Z h0 a2 "com/example/ratatoskr/ratatoskr/request/RequestPathInfo" "suffix" "Ljava/lang/String;" w3) (Er : Exa Z h0 rp "java/lang/String") (s1 : w1 = .null ∨ ∃ o : Addr, w1 = .ref o ∧ Exa Z h0 o "java/lang/String") (s2 : w2 = .null ∨ ∃ o : Addr, w2 = .ref o ∧ Exa Z h0 o "java/lang/String") (s3 : w3 = .null ∨ ∃ o : Addr, w3 = .ref o ∧ Exa Z h0 o "java/lang/String") :
    own_Met l Z [] (⟨"com/example/ratatoskr/ratatoskr/request/RequestPathInfoWithParametersPinLaw", "same", "(Lcom/example/ratatoskr/ratatoskr/request/RequestPathInfo;Lcom/example/ratatoskr/ratatoskr/request/RequestPathInfo;)Z"⟩ : MethodName) method_4_code 2 (some .boolean) ({ frames := 2, cells := 0, slots := 0, locals := 27 } : Room) #[(.ref a1), (.ref a2)] h0 (fun v h L => v = some (.int 1) ∧ Fr n0 L ∧ h = h0) := by
  refine MetFree.of_bodySF (plainFor_of_name own_pn7) hisR ?_
  intro p e s m args below meth c s₁ Bd hml0 hP hK
  obtain ⟨rfl, hZ, hh⟩ := hP
  have hx := Bd.exec
  have hby := Bd.bytes
  have hml : c.maxLocals = 2 := hml0
  have hown : s.vm.findClass "com/example/ratatoskr/ratatoskr/request/RequestPathInfoWithParametersPinLaw" = some m.cls := findClass_of_methodNamed Bd.named
  have hnm := (name_of_methodNamed Bd.named Bd.method).1
  have hlk : meth.locks = false := Bd.notSynchronized
  have X0 : Stand p l e ({ frames := 2, cells := 0, slots := 0, locals := 27 } : Room) s m #[(.ref a1), (.ref a2)] below meth c s₁ [] 0 0 := Stand.of_body Bd
  have e0 : s₁.heap = h0 := by rw [← hh, Bd.state]; rfl
  have N0 := Fr.nil n0
  refine own_body (Q := fun v h L => v = some (.int 1) ∧ Fr n0 L ∧ h = h0) ?_
  refine own_go (fun _ kont => castTop (own_ef m #[(.ref a1), (.ref a2)] 2 #[.val (.ref a1), .val (.ref a2)] (own_al [(.ref a1), (.ref a2)] 2 [.val (.ref a1), .val (.ref a2)] rfl)) kont) ?_
  show own_Go _ _ _ _ (s₁.setTop (mkF m 0 #[.val (.ref a1), .val (.ref a2)] []))
  refine own_go (fun _ => XS.aloadN X0.here hx rfl (hb hby own_d30_0) rfl rfl) ?_
  show own_Go _ _ _ _ (s₁.setTop (mkF m 1 #[.val (.ref a1), .val (.ref a2)] [(.ref a1)]))
  obtain ⟨cq1, kq1, q1a, q1b, q1c⟩ := isOf hZ e0 EA
  obtain ⟨_, _, ⟨T1, L1, k1, n1⟩, -, X1, ⟨Lc1, hQ1, l1, y1, z1⟩, st1⟩ := X0.virtualBack hx (y := (⟨"com/example/ratatoskr/ratatoskr/request/RequestPathInfo", "getResourcePath", "()Ljava/lang/String;"⟩ : MethodName)) (z := (⟨"com/example/ratatoskr/ratatoskr/request/RequestPathInfo", "getResourcePath", "()Ljava/lang/String;"⟩ : MethodName)) hown (mvT hZ (hw _ (List.mem_of_getElem? (i := 153) rfl))) (mvT hZ (hw _ (List.mem_of_getElem? (i := 154) rfl))) (notFace_of_selects (args := #[]) (mvT hZ (hw _ (List.mem_of_getElem? (i := 156) rfl)))) (mvT hZ (hw _ (List.mem_of_getElem? (i := 156) rfl))) (mvT hZ (hw _ (List.mem_of_getElem? (i := 155) rfl))) (by decide) (own_back (W := 0) (own_rmg0 l Z a0 hw a1 (.ref rp) h0 n0 Z0 FA0 rfl) hZ (hw _ (List.mem_of_getElem? (i := 157) rfl)) (hw _ (List.mem_of_getElem? (i := 36) rfl)) (by decide) (by decide)) q1a q1c (g := (mkF m 1 #[.val (.ref a1), .val (.ref a2)] [(.ref a1)])) rfl (by rw [hml]; rfl) (Steps.refl _) (argsL := []) (rest := []) (lenOf own_pd19 rfl) rfl (by show 2 * 0 + _ ≤ _; exact Nat.le_of_eq rfl) (hb hby own_d30_1) (fun _ _ => ⟨rfl, e0, (by decide : 0 + 0 ≤ _), (by decide : 0 + 0 ≤ _)⟩)
  dsimp only [Pt.U, Pt.locs, Pt.cells, Pt.slots] at X1 l1 y1 z1 st1 hQ1
  replace X1 := own_cst X1 l1 y1 z1 (k2 := 0) (n2 := 0) rfl rfl
  clear l1 y1 z1
  obtain ⟨rfl, Nq1, eq1⟩ := hQ1
  have NF1 := Fr.app N0 Nq1
  refine own_goT st1 ?_
  show own_Go _ _ _ _ (T1.setTop (mkF m 4 #[.val (.ref a1), .val (.ref a2)] [(.ref rp)]))
  refine own_go (fun _ => XS.aloadN X1.here hx rfl (hb hby own_d30_4) rfl rfl) ?_
  show own_Go _ _ _ _ (T1.setTop (mkF m 5 #[.val (.ref a1), .val (.ref a2)] [(.ref a2), (.ref rp)]))
  obtain ⟨cq2, kq2, q2a, q2b, q2c⟩ := isOf hZ eq1 EB
  obtain ⟨_, _, ⟨T2, L2, k2, n2⟩, -, X2, ⟨Lc2, hQ2, l2, y2, z2⟩, st2⟩ := X1.virtualBack hx (y := (⟨"com/example/ratatoskr/ratatoskr/request/RequestPathInfo", "getResourcePath", "()Ljava/lang/String;"⟩ : MethodName)) (z := (⟨"com/example/ratatoskr/ratatoskr/request/RequestPathInfo", "getResourcePath", "()Ljava/lang/String;"⟩ : MethodName)) hown (mvT hZ (hw _ (List.mem_of_getElem? (i := 153) rfl))) (mvT hZ (hw _ (List.mem_of_getElem? (i := 154) rfl))) (notFace_of_selects (args := #[]) (mvT hZ (hw _ (List.mem_of_getElem? (i := 156) rfl)))) (mvT hZ (hw _ (List.mem_of_getElem? (i := 156) rfl))) (mvT hZ (hw _ (List.mem_of_getElem? (i := 155) rfl))) (by decide) (own_back (W := 1) (own_rmg0 l Z a0 hw a2 (.ref rp) h0 n0 Z0 FB0 rfl) hZ (hw _ (List.mem_of_getElem? (i := 157) rfl)) (hw _ (List.mem_of_getElem? (i := 36) rfl)) (by decide) (by decide)) q2a q2c (g := (mkF m 5 #[.val (.ref a1), .val (.ref a2)] [(.ref a2), (.ref rp)])) rfl (by rw [hml]; rfl) (Steps.refl _) (argsL := []) (rest := [(.ref rp)]) (lenOf own_pd19 rfl) rfl (by show 2 * 0 + _ ≤ _; exact Nat.le_of_eq rfl) (hb hby own_d30_5) (fun _ _ => ⟨rfl, eq1, (by decide : 0 + 0 ≤ _), (by decide : 0 + 0 ≤ _)⟩)
  dsimp only [Pt.U, Pt.locs, Pt.cells, Pt.slots] at X2 l2 y2 z2 st2 hQ2
  replace X2 := own_cst X2 l2 y2 z2 (k2 := 0) (n2 := 0) rfl rfl
  clear l2 y2 z2
  obtain ⟨rfl, Nq2, eq2⟩ := hQ2
  have NF2 := Fr.app NF1 Nq2
  refine own_goT st2 ?_
  show own_Go _ _ _ _ (T2.setTop (mkF m 8 #[.val (.ref a1), .val (.ref a2)] [(.ref rp), (.ref rp)]))
  obtain ⟨_, _, ⟨T3, L3, k3, n3⟩, -, X3, ⟨Lc3, hQ3, l3, y3, z3⟩, st3⟩ := Jvm.LawKit.callS X2 hx (y := (⟨"com/example/ratatoskr/ratatoskr/request/RequestPathInfoWithParametersPinLaw", "eq", "(Ljava/lang/String;Ljava/lang/String;)Z"⟩ : MethodName)) hown (mvT hZ (hw _ (List.mem_of_getElem? (i := 158) rfl))) (mvT hZ (hw _ (List.mem_of_getElem? (i := 159) rfl))) (mvT hZ (hw _ (List.mem_of_getElem? (i := 3) rfl))) (mvT hZ (hw _ (List.mem_of_getElem? (i := 160) rfl))) (by decide) (own_back (W := 0) (own_rmEq l Z a0 hw (.ref rp) h0 n0 Z0 (Or.inr ⟨rp, rfl, Er⟩)) hZ (hw _ (List.mem_of_getElem? (i := 160) rfl)) (hw _ (List.mem_of_getElem? (i := 3) rfl)) (by decide) (by decide)) (g := (mkF m 8 #[.val (.ref a1), .val (.ref a2)] [(.ref rp), (.ref rp)])) rfl (by rw [hml]; rfl) (argsL := [(.ref rp), (.ref rp)]) (rest := []) (lenOf own_pd20 rfl) rfl (by show 2 * 0 + _ ≤ _; exact Nat.le_of_eq rfl) (hb hby own_d30_8) (fun _ _ => ⟨rfl, eq2, (by decide : 0 + 0 ≤ _), (by decide : 0 + 0 ≤ _)⟩)
  dsimp only [Pt.U, Pt.locs, Pt.cells, Pt.slots] at X3 l3 y3 z3 st3 hQ3
  replace X3 := own_cst X3 l3 y3 z3 (k2 := 0) (n2 := 0) rfl rfl
  clear l3 y3 z3
  obtain ⟨rfl, Nq3, eq3⟩ := hQ3
  have NF3 := Fr.app NF2 Nq3
  refine own_go st3 ?_
  show own_Go _ _ _ _ (T3.setTop (mkF m 11 #[.val (.ref a1), .val (.ref a2)] [(.int (1 : Int32))]))
  refine own_go (fun _ => XS.ifNo X3.here hx rfl (hb hby own_d30_11) rfl ((if0 _ _).trans (feq (by decide)).1)) ?_
  show own_Go _ _ _ _ (T3.setTop (mkF m 14 #[.val (.ref a1), .val (.ref a2)] []))
  refine own_go (fun _ => XS.aloadN X3.here hx rfl (hb hby own_d30_14) rfl rfl) ?_
  show own_Go _ _ _ _ (T3.setTop (mkF m 15 #[.val (.ref a1), .val (.ref a2)] [(.ref a1)]))
  obtain ⟨cq4, kq4, q4a, q4b, q4c⟩ := isOf hZ eq3 EA
  obtain ⟨_, _, ⟨T4, L4, k4, n4⟩, -, X4, ⟨Lc4, hQ4, l4, y4, z4⟩, st4⟩ := X3.virtualBack hx (y := (⟨"com/example/ratatoskr/ratatoskr/request/RequestPathInfo", "getSelectorString", "()Ljava/lang/String;"⟩ : MethodName)) (z := (⟨"com/example/ratatoskr/ratatoskr/request/RequestPathInfo", "getSelectorString", "()Ljava/lang/String;"⟩ : MethodName)) hown (mvT hZ (hw _ (List.mem_of_getElem? (i := 166) rfl))) (mvT hZ (hw _ (List.mem_of_getElem? (i := 167) rfl))) (notFace_of_selects (args := #[]) (mvT hZ (hw _ (List.mem_of_getElem? (i := 169) rfl)))) (mvT hZ (hw _ (List.mem_of_getElem? (i := 169) rfl))) (mvT hZ (hw _ (List.mem_of_getElem? (i := 168) rfl))) (by decide) (own_back (W := 0) (own_rmg1 l Z a0 hw a1 w1 h0 n0 Z0 FA1 (own_svr s1)) hZ (hw _ (List.mem_of_getElem? (i := 170) rfl)) (hw _ (List.mem_of_getElem? (i := 36) rfl)) (by decide) (by decide)) q4a q4c (g := (mkF m 15 #[.val (.ref a1), .val (.ref a2)] [(.ref a1)])) rfl (by rw [hml]; rfl) (Steps.refl _) (argsL := []) (rest := []) (lenOf own_pd19 rfl) rfl (by show 2 * 0 + _ ≤ _; exact Nat.le_of_eq rfl) (hb hby own_d30_15) (fun _ _ => ⟨rfl, eq3, (by decide : 0 + 0 ≤ _), (by decide : 0 + 0 ≤ _)⟩)
  dsimp only [Pt.U, Pt.locs, Pt.cells, Pt.slots] at X4 l4 y4 z4 st4 hQ4
  replace X4 := own_cst X4 l4 y4 z4 (k2 := 0) (n2 := 0) rfl rfl
  clear l4 y4 z4
  obtain ⟨rfl, Nq4, eq4⟩ := hQ4
  have NF4 := Fr.app NF3 Nq4
  refine own_goT st4 ?_
  show own_Go _ _ _ _ (T4.setTop (mkF m 18 #[.val (.ref a1), .val (.ref a2)] [w1]))
  refine own_go (fun _ => XS.aloadN X4.here hx rfl (hb hby own_d30_18) rfl rfl) ?_
  show own_Go _ _ _ _ (T4.setTop (mkF m 19 #[.val (.ref a1), .val (.ref a2)] [(.ref a2), w1]))
  obtain ⟨cq5, kq5, q5a, q5b, q5c⟩ := isOf hZ eq4 EB
  obtain ⟨_, _, ⟨T5, L5, k5, n5⟩, -, X5, ⟨Lc5, hQ5, l5, y5, z5⟩, st5⟩ := X4.virtualBack hx (y := (⟨"com/example/ratatoskr/ratatoskr/request/RequestPathInfo", "getSelectorString", "()Ljava/lang/String;"⟩ : MethodName)) (z := (⟨"com/example/ratatoskr/ratatoskr/request/RequestPathInfo", "getSelectorString", "()Ljava/lang/String;"⟩ : MethodName)) hown (mvT hZ (hw _ (List.mem_of_getElem? (i := 166) rfl))) (mvT hZ (hw _ (List.mem_of_getElem? (i := 167) rfl))) (notFace_of_selects (args := #[]) (mvT hZ (hw _ (List.mem_of_getElem? (i := 169) rfl)))) (mvT hZ (hw _ (List.mem_of_getElem? (i := 169) rfl))) (mvT hZ (hw _ (List.mem_of_getElem? (i := 168) rfl))) (by decide) (own_back (W := 1) (own_rmg1 l Z a0 hw a2 w1 h0 n0 Z0 FB1 (own_svr s1)) hZ (hw _ (List.mem_of_getElem? (i := 170) rfl)) (hw _ (List.mem_of_getElem? (i := 36) rfl)) (by decide) (by decide)) q5a q5c (g := (mkF m 19 #[.val (.ref a1), .val (.ref a2)] [(.ref a2), w1])) rfl (by rw [hml]; rfl) (Steps.refl _) (argsL := []) (rest := [w1]) (lenOf own_pd19 rfl) rfl (by have c0 := Jvm.Free.XT.cat1 (own_svr s1); show 2 * 0 + (Value.category w1 + 0) ≤ _; omega) (hb hby own_d30_19) (fun _ _ => ⟨rfl, eq4, (by decide : 0 + 0 ≤ _), (by decide : 0 + 0 ≤ _)⟩)
  dsimp only [Pt.U, Pt.locs, Pt.cells, Pt.slots] at X5 l5 y5 z5 st5 hQ5
  replace X5 := own_cst X5 l5 y5 z5 (k2 := 0) (n2 := 0) rfl rfl
  clear l5 y5 z5
  obtain ⟨rfl, Nq5, eq5⟩ := hQ5
  have NF5 := Fr.app NF4 Nq5
  refine own_goT st5 ?_
  show own_Go _ _ _ _ (T5.setTop (mkF m 22 #[.val (.ref a1), .val (.ref a2)] [w1, w1]))
  obtain ⟨_, _, ⟨T6, L6, k6, n6⟩, -, X6, ⟨Lc6, hQ6, l6, y6, z6⟩, st6⟩ := Jvm.LawKit.callS X5 hx (y := (⟨"com/example/ratatoskr/ratatoskr/request/RequestPathInfoWithParametersPinLaw", "eq", "(Ljava/lang/String;Ljava/lang/String;)Z"⟩ : MethodName)) hown (mvT hZ (hw _ (List.mem_of_getElem? (i := 158) rfl))) (mvT hZ (hw _ (List.mem_of_getElem? (i := 159) rfl))) (mvT hZ (hw _ (List.mem_of_getElem? (i := 3) rfl))) (mvT hZ (hw _ (List.mem_of_getElem? (i := 160) rfl))) (by decide) (own_back (W := 0) (own_rmEq l Z a0 hw w1 h0 n0 Z0 s1) hZ (hw _ (List.mem_of_getElem? (i := 160) rfl)) (hw _ (List.mem_of_getElem? (i := 3) rfl)) (by decide) (by decide)) (g := (mkF m 22 #[.val (.ref a1), .val (.ref a2)] [w1, w1])) rfl (by rw [hml]; rfl) (argsL := [w1, w1]) (rest := []) (lenOf own_pd20 rfl) rfl (by show 2 * 0 + _ ≤ _; exact Nat.le_of_eq rfl) (hb hby own_d30_22) (fun _ _ => ⟨rfl, eq5, (by decide : 0 + 0 ≤ _), (by decide : 0 + 0 ≤ _)⟩)
  dsimp only [Pt.U, Pt.locs, Pt.cells, Pt.slots] at X6 l6 y6 z6 st6 hQ6
  replace X6 := own_cst X6 l6 y6 z6 (k2 := 0) (n2 := 0) rfl rfl
  clear l6 y6 z6
  obtain ⟨rfl, Nq6, eq6⟩ := hQ6
  have NF6 := Fr.app NF5 Nq6
  refine own_go st6 ?_
  show own_Go _ _ _ _ (T6.setTop (mkF m 25 #[.val (.ref a1), .val (.ref a2)] [(.int (1 : Int32))]))
  refine own_go (fun _ => XS.ifNo X6.here hx rfl (hb hby own_d30_25) rfl ((if0 _ _).trans (feq (by decide)).1)) ?_
  show own_Go _ _ _ _ (T6.setTop (mkF m 28 #[.val (.ref a1), .val (.ref a2)] []))
  refine own_go (fun _ => XS.aloadN X6.here hx rfl (hb hby own_d30_28) rfl rfl) ?_
  show own_Go _ _ _ _ (T6.setTop (mkF m 29 #[.val (.ref a1), .val (.ref a2)] [(.ref a1)]))
  obtain ⟨cq7, kq7, q7a, q7b, q7c⟩ := isOf hZ eq6 EA
  obtain ⟨_, _, ⟨T7, L7, k7, n7⟩, -, X7, ⟨Lc7, hQ7, l7, y7, z7⟩, st7⟩ := X6.virtualBack hx (y := (⟨"com/example/ratatoskr/ratatoskr/request/RequestPathInfo", "getExtension", "()Ljava/lang/String;"⟩ : MethodName)) (z := (⟨"com/example/ratatoskr/ratatoskr/request/RequestPathInfo", "getExtension", "()Ljava/lang/String;"⟩ : MethodName)) hown (mvT hZ (hw _ (List.mem_of_getElem? (i := 171) rfl))) (mvT hZ (hw _ (List.mem_of_getElem? (i := 172) rfl))) (notFace_of_selects (args := #[]) (mvT hZ (hw _ (List.mem_of_getElem? (i := 174) rfl)))) (mvT hZ (hw _ (List.mem_of_getElem? (i := 174) rfl))) (mvT hZ (hw _ (List.mem_of_getElem? (i := 173) rfl))) (by decide) (own_back (W := 0) (own_rmg2 l Z a0 hw a1 w2 h0 n0 Z0 FA2 (own_svr s2)) hZ (hw _ (List.mem_of_getElem? (i := 175) rfl)) (hw _ (List.mem_of_getElem? (i := 36) rfl)) (by decide) (by decide)) q7a q7c (g := (mkF m 29 #[.val (.ref a1), .val (.ref a2)] [(.ref a1)])) rfl (by rw [hml]; rfl) (Steps.refl _) (argsL := []) (rest := []) (lenOf own_pd19 rfl) rfl (by show 2 * 0 + _ ≤ _; exact Nat.le_of_eq rfl) (hb hby own_d30_29) (fun _ _ => ⟨rfl, eq6, (by decide : 0 + 0 ≤ _), (by decide : 0 + 0 ≤ _)⟩)
  dsimp only [Pt.U, Pt.locs, Pt.cells, Pt.slots] at X7 l7 y7 z7 st7 hQ7
  replace X7 := own_cst X7 l7 y7 z7 (k2 := 0) (n2 := 0) rfl rfl
  clear l7 y7 z7
  obtain ⟨rfl, Nq7, eq7⟩ := hQ7
  have NF7 := Fr.app NF6 Nq7
  refine own_goT st7 ?_
  show own_Go _ _ _ _ (T7.setTop (mkF m 32 #[.val (.ref a1), .val (.ref a2)] [w2]))
  refine own_go (fun _ => XS.aloadN X7.here hx rfl (hb hby own_d30_32) rfl rfl) ?_
  show own_Go _ _ _ _ (T7.setTop (mkF m 33 #[.val (.ref a1), .val (.ref a2)] [(.ref a2), w2]))
  obtain ⟨cq8, kq8, q8a, q8b, q8c⟩ := isOf hZ eq7 EB
  obtain ⟨_, _, ⟨T8, L8, k8, n8⟩, -, X8, ⟨Lc8, hQ8, l8, y8, z8⟩, st8⟩ := X7.virtualBack hx (y := (⟨"com/example/ratatoskr/ratatoskr/request/RequestPathInfo", "getExtension", "()Ljava/lang/String;"⟩ : MethodName)) (z := (⟨"com/example/ratatoskr/ratatoskr/request/RequestPathInfo", "getExtension", "()Ljava/lang/String;"⟩ : MethodName)) hown (mvT hZ (hw _ (List.mem_of_getElem? (i := 171) rfl))) (mvT hZ (hw _ (List.mem_of_getElem? (i := 172) rfl))) (notFace_of_selects (args := #[]) (mvT hZ (hw _ (List.mem_of_getElem? (i := 174) rfl)))) (mvT hZ (hw _ (List.mem_of_getElem? (i := 174) rfl))) (mvT hZ (hw _ (List.mem_of_getElem? (i := 173) rfl))) (by decide) (own_back (W := 1) (own_rmg2 l Z a0 hw a2 w2 h0 n0 Z0 FB2 (own_svr s2)) hZ (hw _ (List.mem_of_getElem? (i := 175) rfl)) (hw _ (List.mem_of_getElem? (i := 36) rfl)) (by decide) (by decide)) q8a q8c (g := (mkF m 33 #[.val (.ref a1), .val (.ref a2)] [(.ref a2), w2])) rfl (by rw [hml]; rfl) (Steps.refl _) (argsL := []) (rest := [w2]) (lenOf own_pd19 rfl) rfl (by have c0 := Jvm.Free.XT.cat1 (own_svr s2); show 2 * 0 + (Value.category w2 + 0) ≤ _; omega) (hb hby own_d30_33) (fun _ _ => ⟨rfl, eq7, (by decide : 0 + 0 ≤ _), (by decide : 0 + 0 ≤ _)⟩)
  dsimp only [Pt.U, Pt.locs, Pt.cells, Pt.slots] at X8 l8 y8 z8 st8 hQ8
  replace X8 := own_cst X8 l8 y8 z8 (k2 := 0) (n2 := 0) rfl rfl
  clear l8 y8 z8
  obtain ⟨rfl, Nq8, eq8⟩ := hQ8
  have NF8 := Fr.app NF7 Nq8
  refine own_goT st8 ?_
  show own_Go _ _ _ _ (T8.setTop (mkF m 36 #[.val (.ref a1), .val (.ref a2)] [w2, w2]))
  obtain ⟨_, _, ⟨T9, L9, k9, n9⟩, -, X9, ⟨Lc9, hQ9, l9, y9, z9⟩, st9⟩ := Jvm.LawKit.callS X8 hx (y := (⟨"com/example/ratatoskr/ratatoskr/request/RequestPathInfoWithParametersPinLaw", "eq", "(Ljava/lang/String;Ljava/lang/String;)Z"⟩ : MethodName)) hown (mvT hZ (hw _ (List.mem_of_getElem? (i := 158) rfl))) (mvT hZ (hw _ (List.mem_of_getElem? (i := 159) rfl))) (mvT hZ (hw _ (List.mem_of_getElem? (i := 3) rfl))) (mvT hZ (hw _ (List.mem_of_getElem? (i := 160) rfl))) (by decide) (own_back (W := 0) (own_rmEq l Z a0 hw w2 h0 n0 Z0 s2) hZ (hw _ (List.mem_of_getElem? (i := 160) rfl)) (hw _ (List.mem_of_getElem? (i := 3) rfl)) (by decide) (by decide)) (g := (mkF m 36 #[.val (.ref a1), .val (.ref a2)] [w2, w2])) rfl (by rw [hml]; rfl) (argsL := [w2, w2]) (rest := []) (lenOf own_pd20 rfl) rfl (by show 2 * 0 + _ ≤ _; exact Nat.le_of_eq rfl) (hb hby own_d30_36) (fun _ _ => ⟨rfl, eq8, (by decide : 0 + 0 ≤ _), (by decide : 0 + 0 ≤ _)⟩)
  dsimp only [Pt.U, Pt.locs, Pt.cells, Pt.slots] at X9 l9 y9 z9 st9 hQ9
  replace X9 := own_cst X9 l9 y9 z9 (k2 := 0) (n2 := 0) rfl rfl
  clear l9 y9 z9
  obtain ⟨rfl, Nq9, eq9⟩ := hQ9
  have NF9 := Fr.app NF8 Nq9
  refine own_go st9 ?_
  show own_Go _ _ _ _ (T9.setTop (mkF m 39 #[.val (.ref a1), .val (.ref a2)] [(.int (1 : Int32))]))
  refine own_go (fun _ => XS.ifNo X9.here hx rfl (hb hby own_d30_39) rfl ((if0 _ _).trans (feq (by decide)).1)) ?_
  show own_Go _ _ _ _ (T9.setTop (mkF m 42 #[.val (.ref a1), .val (.ref a2)] []))
  refine own_go (fun _ => XS.aloadN X9.here hx rfl (hb hby own_d30_42) rfl rfl) ?_
  show own_Go _ _ _ _ (T9.setTop (mkF m 43 #[.val (.ref a1), .val (.ref a2)] [(.ref a1)]))
  obtain ⟨cq10, kq10, q10a, q10b, q10c⟩ := isOf hZ eq9 EA
  obtain ⟨_, _, ⟨T10, L10, k10, n10⟩, -, X10, ⟨Lc10, hQ10, l10, y10, z10⟩, st10⟩ := X9.virtualBack hx (y := (⟨"com/example/ratatoskr/ratatoskr/request/RequestPathInfo", "getSuffix", "()Ljava/lang/String;"⟩ : MethodName)) (z := (⟨"com/example/ratatoskr/ratatoskr/request/RequestPathInfo", "getSuffix", "()Ljava/lang/String;"⟩ : MethodName)) hown (mvT hZ (hw _ (List.mem_of_getElem? (i := 176) rfl))) (mvT hZ (hw _ (List.mem_of_getElem? (i := 177) rfl))) (notFace_of_selects (args := #[]) (mvT hZ (hw _ (List.mem_of_getElem? (i := 179) rfl)))) (mvT hZ (hw _ (List.mem_of_getElem? (i := 179) rfl))) (mvT hZ (hw _ (List.mem_of_getElem? (i := 178) rfl))) (by decide) (own_back (W := 0) (own_rmg3 l Z a0 hw a1 w3 h0 n0 Z0 FA3 (own_svr s3)) hZ (hw _ (List.mem_of_getElem? (i := 180) rfl)) (hw _ (List.mem_of_getElem? (i := 36) rfl)) (by decide) (by decide)) q10a q10c (g := (mkF m 43 #[.val (.ref a1), .val (.ref a2)] [(.ref a1)])) rfl (by rw [hml]; rfl) (Steps.refl _) (argsL := []) (rest := []) (lenOf own_pd19 rfl) rfl (by show 2 * 0 + _ ≤ _; exact Nat.le_of_eq rfl) (hb hby own_d30_43) (fun _ _ => ⟨rfl, eq9, (by decide : 0 + 0 ≤ _), (by decide : 0 + 0 ≤ _)⟩)
  dsimp only [Pt.U, Pt.locs, Pt.cells, Pt.slots] at X10 l10 y10 z10 st10 hQ10
  replace X10 := own_cst X10 l10 y10 z10 (k2 := 0) (n2 := 0) rfl rfl
  clear l10 y10 z10
  obtain ⟨rfl, Nq10, eq10⟩ := hQ10
  have NF10 := Fr.app NF9 Nq10
  refine own_goT st10 ?_
  show own_Go _ _ _ _ (T10.setTop (mkF m 46 #[.val (.ref a1), .val (.ref a2)] [w3]))
  refine own_go (fun _ => XS.aloadN X10.here hx rfl (hb hby own_d30_46) rfl rfl) ?_
  show own_Go _ _ _ _ (T10.setTop (mkF m 47 #[.val (.ref a1), .val (.ref a2)] [(.ref a2), w3]))
  obtain ⟨cq11, kq11, q11a, q11b, q11c⟩ := isOf hZ eq10 EB
  obtain ⟨_, _, ⟨T11, L11, k11, n11⟩, -, X11, ⟨Lc11, hQ11, l11, y11, z11⟩, st11⟩ := X10.virtualBack hx (y := (⟨"com/example/ratatoskr/ratatoskr/request/RequestPathInfo", "getSuffix", "()Ljava/lang/String;"⟩ : MethodName)) (z := (⟨"com/example/ratatoskr/ratatoskr/request/RequestPathInfo", "getSuffix", "()Ljava/lang/String;"⟩ : MethodName)) hown (mvT hZ (hw _ (List.mem_of_getElem? (i := 176) rfl))) (mvT hZ (hw _ (List.mem_of_getElem? (i := 177) rfl))) (notFace_of_selects (args := #[]) (mvT hZ (hw _ (List.mem_of_getElem? (i := 179) rfl)))) (mvT hZ (hw _ (List.mem_of_getElem? (i := 179) rfl))) (mvT hZ (hw _ (List.mem_of_getElem? (i := 178) rfl))) (by decide) (own_back (W := 1) (own_rmg3 l Z a0 hw a2 w3 h0 n0 Z0 FB3 (own_svr s3)) hZ (hw _ (List.mem_of_getElem? (i := 180) rfl)) (hw _ (List.mem_of_getElem? (i := 36) rfl)) (by decide) (by decide)) q11a q11c (g := (mkF m 47 #[.val (.ref a1), .val (.ref a2)] [(.ref a2), w3])) rfl (by rw [hml]; rfl) (Steps.refl _) (argsL := []) (rest := [w3]) (lenOf own_pd19 rfl) rfl (by have c0 := Jvm.Free.XT.cat1 (own_svr s3); show 2 * 0 + (Value.category w3 + 0) ≤ _; omega) (hb hby own_d30_47) (fun _ _ => ⟨rfl, eq10, (by decide : 0 + 0 ≤ _), (by decide : 0 + 0 ≤ _)⟩)
  dsimp only [Pt.U, Pt.locs, Pt.cells, Pt.slots] at X11 l11 y11 z11 st11 hQ11
  replace X11 := own_cst X11 l11 y11 z11 (k2 := 0) (n2 := 0) rfl rfl
  clear l11 y11 z11
  obtain ⟨rfl, Nq11, eq11⟩ := hQ11
  have NF11 := Fr.app NF10 Nq11
  refine own_goT st11 ?_
  show own_Go _ _ _ _ (T11.setTop (mkF m 50 #[.val (.ref a1), .val (.ref a2)] [w3, w3]))
  obtain ⟨_, _, ⟨T12, L12, k12, n12⟩, -, X12, ⟨Lc12, hQ12, l12, y12, z12⟩, st12⟩ := Jvm.LawKit.callS X11 hx (y := (⟨"com/example/ratatoskr/ratatoskr/request/RequestPathInfoWithParametersPinLaw", "eq", "(Ljava/lang/String;Ljava/lang/String;)Z"⟩ : MethodName)) hown (mvT hZ (hw _ (List.mem_of_getElem? (i := 158) rfl))) (mvT hZ (hw _ (List.mem_of_getElem? (i := 159) rfl))) (mvT hZ (hw _ (List.mem_of_getElem? (i := 3) rfl))) (mvT hZ (hw _ (List.mem_of_getElem? (i := 160) rfl))) (by decide) (own_back (W := 0) (own_rmEq l Z a0 hw w3 h0 n0 Z0 s3) hZ (hw _ (List.mem_of_getElem? (i := 160) rfl)) (hw _ (List.mem_of_getElem? (i := 3) rfl)) (by decide) (by decide)) (g := (mkF m 50 #[.val (.ref a1), .val (.ref a2)] [w3, w3])) rfl (by rw [hml]; rfl) (argsL := [w3, w3]) (rest := []) (lenOf own_pd20 rfl) rfl (by show 2 * 0 + _ ≤ _; exact Nat.le_of_eq rfl) (hb hby own_d30_50) (fun _ _ => ⟨rfl, eq11, (by decide : 0 + 0 ≤ _), (by decide : 0 + 0 ≤ _)⟩)
  dsimp only [Pt.U, Pt.locs, Pt.cells, Pt.slots] at X12 l12 y12 z12 st12 hQ12
  replace X12 := own_cst X12 l12 y12 z12 (k2 := 0) (n2 := 0) rfl rfl
  clear l12 y12 z12
  obtain ⟨rfl, Nq12, eq12⟩ := hQ12
  have NF12 := Fr.app NF11 Nq12
  refine own_go st12 ?_
  show own_Go _ _ _ _ (T12.setTop (mkF m 53 #[.val (.ref a1), .val (.ref a2)] [(.int (1 : Int32))]))
  refine own_go (fun _ => XS.ifNo X12.here hx rfl (hb hby own_d30_53) rfl ((if0 _ _).trans (feq (by decide)).1)) ?_
  show own_Go _ _ _ _ (T12.setTop (mkF m 56 #[.val (.ref a1), .val (.ref a2)] []))
  refine own_go (fun _ => XS.iconst X12.here hx rfl (hb hby own_d30_56)) ?_
  refine own_go (fun _ => XS.goto X12.here hx rfl (pc0 := 57) (pc' := 61) rfl (hb hby own_d30_57) (by decide) (by decide)) ?_
  show own_Go _ _ _ _ (T12.setTop (mkF m 61 #[.val (.ref a1), .val (.ref a2)] [(.int (1 : Int32))]))
  refine own_ret X12 hlk (v := some (.int (1 : Int32))) (fun h => by rw [Bd.returns] at h; cases h) (fun fs hr => retN X12 hx (t := .boolean) Bd.returns (by simp) (hb hby own_d30_61) hr) ?_ (by decide) (by decide)
  try rw [eq12]
  exact ⟨rfl, NF12, rfl⟩
theorem own_d28_0 : decode prog_14_method_2_code 0 = .ok (.aload_n 0, 1) := by decide +kernel
theorem own_d28_1 : decode prog_14_method_2_code 1 = .ok (.invokespecial 1, 3) := by decide +kernel
theorem own_d28_4 : decode prog_14_method_2_code 4 = .ok (.aload_n 0, 1) := by decide +kernel
theorem own_d28_5 : decode prog_14_method_2_code 5 = .ok (.aload_n 1, 1) := by decide +kernel
theorem own_d28_6 : decode prog_14_method_2_code 6 = .ok (.putfield 28, 3) := by decide +kernel
theorem own_d28_9 : decode prog_14_method_2_code 9 = .ok (.aload_n 0, 1) := by decide +kernel
theorem own_d28_10 : decode prog_14_method_2_code 10 = .ok (.aload_n 2, 1) := by decide +kernel
theorem own_d28_11 : decode prog_14_method_2_code 11 = .ok (.putfield 38, 3) := by decide +kernel
theorem own_d28_14 : decode prog_14_method_2_code 14 = .ok (.aload_n 0, 1) := by decide +kernel
theorem own_d28_15 : decode prog_14_method_2_code 15 = .ok (.aload_n 3, 1) := by decide +kernel
theorem own_d28_16 : decode prog_14_method_2_code 16 = .ok (.putfield 44, 3) := by decide +kernel
theorem own_d28_19 : decode prog_14_method_2_code 19 = .ok (.aload_n 0, 1) := by decide +kernel
theorem own_d28_20 : decode prog_14_method_2_code 20 = .ok (.aload 4, 2) := by decide +kernel
theorem own_d28_22 : decode prog_14_method_2_code 22 = .ok (.putfield 47, 3) := by decide +kernel
theorem own_d28_25 : decode prog_14_method_2_code 25 = .ok (.aload_n 0, 1) := by decide +kernel
theorem own_d28_26 : decode prog_14_method_2_code 26 = .ok (.aload 5, 2) := by decide +kernel
theorem own_d28_28 : decode prog_14_method_2_code 28 = .ok (.putfield 56, 3) := by decide +kernel
theorem own_d28_31 : decode prog_14_method_2_code 31 = .ok (.return_, 1) := by decide +kernel
set_option maxRecDepth 65536 in
set_option maxHeartbeats 40000000 in
theorem own_rmI5 (l : Launch) (Z : State) (a0 : Array Value) (hw : ∀ d ∈ tables_1, d.before a0 Z = true) (a1 : Addr) (v0 : Value) (w1 : Value) (w2 : Value) (w3 : Value) (mp : Value) (h0 : Heap) (n0 : Nat) (Z0 : n0 ≤ h0.size) (E1 : Exa Z h0 a1 "com/example/ratatoskr/ratatoskr/request/RequestPathInfo") (F0 : Fld Z h0 a1 "com/example/ratatoskr/ratatoskr/request/RequestPathInfo" "resourcePath" "Ljava/lang/String;" .null) (F1 : Fld Z h0 a1 "com/example/ratatoskr/ratatoskr/request/RequestPathInfo" "selectorString" "Ljava/lang/String;" .null) (F2 : Fld Z h0 a1 "com/example/ratatoskr/ratatoskr/request/RequestPathInfo" "extension" "Ljava/lang/String;" .null) (F3 : Fld Z h0 a1 "com/example/ratatoskr/ratatoskr/request/RequestPathInfo" "suffix" "Ljava/lang/String;" .null) (F4 : Fld Z h0 a1 "com/example/ratatoskr/ratatoskr/request/RequestPathInfo" "parameters" "Ljava/util/Map;" .null) (O : Old Z n0 h0) (ge_a1 : n0 ≤ a1) (hr0 : v0.isRef = true) (hr1 : w1.isRef = true) (hr2 : w2.isRef = true) (hr3 : w3.isRef = true) (hr4 : mp.isRef = true) :
    own_Met l Z [] (⟨"com/example/ratatoskr/ratatoskr/request/RequestPathInfo", "<init>", "(Ljava/lang/String;Ljava/lang/String;Ljava/lang/String;Ljava/lang/String;Ljava/util/Map;)V"⟩ : MethodName) prog_14_method_2_code 6 none ({ frames := 1, cells := 0, slots := 0, locals := 12 } : Room) #[(.ref a1), v0, w1, w2, w3, mp] h0 (fun v h L => v = none ∧ Fr n0 L ∧ Keep h0 h [a1] ∧ Old Z n0 h ∧ Exa Z h a1 "com/example/ratatoskr/ratatoskr/request/RequestPathInfo" ∧ Fld Z h a1 "com/example/ratatoskr/ratatoskr/request/RequestPathInfo" "resourcePath" "Ljava/lang/String;" v0 ∧ Fld Z h a1 "com/example/ratatoskr/ratatoskr/request/RequestPathInfo" "selectorString" "Ljava/lang/String;" w1 ∧ Fld Z h a1 "com/example/ratatoskr/ratatoskr/request/RequestPathInfo" "extension" "Ljava/lang/String;" w2 ∧ Fld Z h a1 "com/example/ratatoskr/ratatoskr/request/RequestPathInfo" "suffix" "Ljava/lang/String;" w3 ∧ Fld Z h a1 "com/example/ratatoskr/ratatoskr/request/RequestPathInfo" "parameters" "Ljava/util/Map;" mp) := by
  refine MetFree.of_bodySF (plainFor_of_name own_pn5) hisR ?_
  intro p e s m args below meth c s₁ Bd hml0 hP hK
  obtain ⟨rfl, hZ, hh⟩ := hP
  have hx := Bd.exec
  have hby := Bd.bytes
  have hml : c.maxLocals = 6 := hml0
  have hown : s.vm.findClass "com/example/ratatoskr/ratatoskr/request/RequestPathInfo" = some m.cls := findClass_of_methodNamed Bd.named
  have hnm := (name_of_methodNamed Bd.named Bd.method).1
  have hlk : meth.locks = false := Bd.notSynchronized
  have X0 : Stand p l e ({ frames := 1, cells := 0, slots := 0, locals := 12 } : Room) s m #[(.ref a1), v0, w1, w2, w3, mp] below meth c s₁ [] 0 0 := Stand.of_body Bd
  have e0 : s₁.heap = h0 := by rw [← hh, Bd.state]; rfl
  have N0 := Fr.nil n0
  refine own_body (Q := fun v h L => v = none ∧ Fr n0 L ∧ Keep h0 h [a1] ∧ Old Z n0 h ∧ Exa Z h a1 "com/example/ratatoskr/ratatoskr/request/RequestPathInfo" ∧ Fld Z h a1 "com/example/ratatoskr/ratatoskr/request/RequestPathInfo" "resourcePath" "Ljava/lang/String;" v0 ∧ Fld Z h a1 "com/example/ratatoskr/ratatoskr/request/RequestPathInfo" "selectorString" "Ljava/lang/String;" w1 ∧ Fld Z h a1 "com/example/ratatoskr/ratatoskr/request/RequestPathInfo" "extension" "Ljava/lang/String;" w2 ∧ Fld Z h a1 "com/example/ratatoskr/ratatoskr/request/RequestPathInfo" "suffix" "Ljava/lang/String;" w3 ∧ Fld Z h a1 "com/example/ratatoskr/ratatoskr/request/RequestPathInfo" "parameters" "Ljava/util/Map;" mp) ?_
  refine own_go (fun _ kont => castTop (own_ef m #[(.ref a1), v0, w1, w2, w3, mp] 6 #[.val (.ref a1), .val v0, .val w1, .val w2, .val w3, .val mp] (own_al [(.ref a1), v0, w1, w2, w3, mp] 6 [.val (.ref a1), .val v0, .val w1, .val w2, .val w3, .val mp] (by simp [own_asl, own_catr, Jvm.Free.XT.cat1 hr0, Jvm.Free.XT.cat1 hr1, Jvm.Free.XT.cat1 hr2, Jvm.Free.XT.cat1 hr3, Jvm.Free.XT.cat1 hr4]))) kont) ?_
  show own_Go _ _ _ _ (s₁.setTop (mkF m 0 #[.val (.ref a1), .val v0, .val w1, .val w2, .val w3, .val mp] []))
  have K0 : Keep h0 h0 [a1] := Keep.refl _ _
  refine own_go (fun _ => XS.aloadN X0.here hx rfl (hb hby own_d28_0) rfl rfl) ?_
  show own_Go _ _ _ _ (s₁.setTop (mkF m 1 #[.val (.ref a1), .val v0, .val w1, .val w2, .val w3, .val mp] [(.ref a1)]))
  obtain ⟨T1, X1, e1, st1⟩ := initO X0 hx hZ hown (hw _ (List.mem_of_getElem? (i := 40) rfl)) (hw _ (List.mem_of_getElem? (i := 30) rfl)) (hw _ (List.mem_of_getElem? (i := 31) rfl)) e0 (g := (mkF m 1 #[.val (.ref a1), .val v0, .val w1, .val w2, .val w3, .val mp] [(.ref a1)])) rfl (by rw [hml]; rfl) rfl (hb hby own_d28_1) (by decide) (W := 0) (by show 2 * 0 + _ ≤ _; exact Nat.le_of_eq rfl) (by decide)
  refine own_go st1 ?_
  show own_Go _ _ _ _ (T1.setTop (mkF m 4 #[.val (.ref a1), .val v0, .val w1, .val w2, .val w3, .val mp] []))
  refine own_go (fun _ => XS.aloadN X1.here hx rfl (hb hby own_d28_4) rfl rfl) ?_
  refine own_go (fun _ => XS.aloadN X1.here hx rfl (hb hby own_d28_5) rfl hr0) ?_
  obtain ⟨T2, h2, X2, e2, W2, st2⟩ := putF X1 hx hZ hown (host := "") (Or.inl (hw _ (List.mem_of_getElem? (i := 111) rfl))) Via.refl e1 F0 E1 (Or.inr ⟨(hw _ (List.mem_of_getElem? (i := 112) rfl)), rfl, hnm⟩) (hw _ (List.mem_of_getElem? (i := 35) rfl)) (ty := (.object "java/lang/String")) (by decide) (own_narv hr0) (own_fitv hr0) (g := (mkF m 6 #[.val (.ref a1), .val v0, .val w1, .val w2, .val w3, .val mp] [v0, (.ref a1)])) rfl rfl (hb hby own_d28_6)
  refine own_go st2 ?_
  have NF2 := Fr.snoc X2 N0 ge_a1
  replace F0 := F0.same W2
  replace E1 := E1.wr W2
  replace O := O.wr W2 ge_a1
  replace F1 := F1.other W2 (Or.inr (slot_ne (Or.inr (hw _ (List.mem_of_getElem? (i := 114) rfl))) (Or.inr (hw _ (List.mem_of_getElem? (i := 112) rfl))) (by decide) (t := (.object "java/lang/String")) (t' := (.object "java/lang/String")) (by decide) (by decide)))
  replace F2 := F2.other W2 (Or.inr (slot_ne (Or.inr (hw _ (List.mem_of_getElem? (i := 125) rfl))) (Or.inr (hw _ (List.mem_of_getElem? (i := 112) rfl))) (by decide) (t := (.object "java/lang/String")) (t' := (.object "java/lang/String")) (by decide) (by decide)))
  replace F3 := F3.other W2 (Or.inr (slot_ne (Or.inr (hw _ (List.mem_of_getElem? (i := 127) rfl))) (Or.inr (hw _ (List.mem_of_getElem? (i := 112) rfl))) (by decide) (t := (.object "java/lang/String")) (t' := (.object "java/lang/String")) (by decide) (by decide)))
  replace F4 := F4.other W2 (Or.inr (slot_ne (Or.inr (hw _ (List.mem_of_getElem? (i := 135) rfl))) (Or.inr (hw _ (List.mem_of_getElem? (i := 112) rfl))) (by decide) (t := (.object "java/util/Map")) (t' := (.object "java/lang/String")) (by decide) (by decide)))
  replace Z0 := Nat.le_trans Z0 (Keep.of_wr W2).1
  replace K0 := K0.wr W2 (Or.inl (List.mem_of_getElem? (i := 0) rfl))
  refine own_go (fun _ => XS.aloadN X2.here hx rfl (hb hby own_d28_9) rfl rfl) ?_
  show own_Go _ _ _ _ (T2.setTop (mkF m 10 #[.val (.ref a1), .val v0, .val w1, .val w2, .val w3, .val mp] [(.ref a1)]))
  refine own_go (fun _ => XS.aloadN X2.here hx rfl (hb hby own_d28_10) rfl hr1) ?_
  obtain ⟨T3, h3, X3, e3, W3, st3⟩ := putF X2 hx hZ hown (host := "") (Or.inl (hw _ (List.mem_of_getElem? (i := 113) rfl))) Via.refl e2 F1 E1 (Or.inr ⟨(hw _ (List.mem_of_getElem? (i := 114) rfl)), rfl, hnm⟩) (hw _ (List.mem_of_getElem? (i := 35) rfl)) (ty := (.object "java/lang/String")) (by decide) (own_narv hr1) (own_fitv hr1) (g := (mkF m 11 #[.val (.ref a1), .val v0, .val w1, .val w2, .val w3, .val mp] [w1, (.ref a1)])) rfl rfl (hb hby own_d28_11)
  refine own_go st3 ?_
  have NF3 := Fr.snoc X3 NF2 ge_a1
  replace F1 := F1.same W3
  replace E1 := E1.wr W3
  replace O := O.wr W3 ge_a1
  replace F0 := F0.other W3 (Or.inr (slot_ne (Or.inr (hw _ (List.mem_of_getElem? (i := 112) rfl))) (Or.inr (hw _ (List.mem_of_getElem? (i := 114) rfl))) (by decide) (t := (.object "java/lang/String")) (t' := (.object "java/lang/String")) (by decide) (by decide)))
  replace F2 := F2.other W3 (Or.inr (slot_ne (Or.inr (hw _ (List.mem_of_getElem? (i := 125) rfl))) (Or.inr (hw _ (List.mem_of_getElem? (i := 114) rfl))) (by decide) (t := (.object "java/lang/String")) (t' := (.object "java/lang/String")) (by decide) (by decide)))
  replace F3 := F3.other W3 (Or.inr (slot_ne (Or.inr (hw _ (List.mem_of_getElem? (i := 127) rfl))) (Or.inr (hw _ (List.mem_of_getElem? (i := 114) rfl))) (by decide) (t := (.object "java/lang/String")) (t' := (.object "java/lang/String")) (by decide) (by decide)))
  replace F4 := F4.other W3 (Or.inr (slot_ne (Or.inr (hw _ (List.mem_of_getElem? (i := 135) rfl))) (Or.inr (hw _ (List.mem_of_getElem? (i := 114) rfl))) (by decide) (t := (.object "java/util/Map")) (t' := (.object "java/lang/String")) (by decide) (by decide)))
  replace Z0 := Nat.le_trans Z0 (Keep.of_wr W3).1
  replace K0 := K0.wr W3 (Or.inl (List.mem_of_getElem? (i := 0) rfl))
  refine own_go (fun _ => XS.aloadN X3.here hx rfl (hb hby own_d28_14) rfl rfl) ?_
  refine own_go (fun _ => XS.aloadN X3.here hx rfl (hb hby own_d28_15) rfl hr2) ?_
  show own_Go _ _ _ _ (T3.setTop (mkF m 16 #[.val (.ref a1), .val v0, .val w1, .val w2, .val w3, .val mp] [w2, (.ref a1)]))
  obtain ⟨T4, h4, X4, e4, W4, st4⟩ := putF X3 hx hZ hown (host := "") (Or.inl (hw _ (List.mem_of_getElem? (i := 124) rfl))) Via.refl e3 F2 E1 (Or.inr ⟨(hw _ (List.mem_of_getElem? (i := 125) rfl)), rfl, hnm⟩) (hw _ (List.mem_of_getElem? (i := 35) rfl)) (ty := (.object "java/lang/String")) (by decide) (own_narv hr2) (own_fitv hr2) (g := (mkF m 16 #[.val (.ref a1), .val v0, .val w1, .val w2, .val w3, .val mp] [w2, (.ref a1)])) rfl rfl (hb hby own_d28_16)
  refine own_go st4 ?_
  have NF4 := Fr.snoc X4 NF3 ge_a1
  replace F2 := F2.same W4
  replace E1 := E1.wr W4
  replace O := O.wr W4 ge_a1
  replace F0 := F0.other W4 (Or.inr (slot_ne (Or.inr (hw _ (List.mem_of_getElem? (i := 112) rfl))) (Or.inr (hw _ (List.mem_of_getElem? (i := 125) rfl))) (by decide) (t := (.object "java/lang/String")) (t' := (.object "java/lang/String")) (by decide) (by decide)))
  replace F1 := F1.other W4 (Or.inr (slot_ne (Or.inr (hw _ (List.mem_of_getElem? (i := 114) rfl))) (Or.inr (hw _ (List.mem_of_getElem? (i := 125) rfl))) (by decide) (t := (.object "java/lang/String")) (t' := (.object "java/lang/String")) (by decide) (by decide)))
  replace F3 := F3.other W4 (Or.inr (slot_ne (Or.inr (hw _ (List.mem_of_getElem? (i := 127) rfl))) (Or.inr (hw _ (List.mem_of_getElem? (i := 125) rfl))) (by decide) (t := (.object "java/lang/String")) (t' := (.object "java/lang/String")) (by decide) (by decide)))
  replace F4 := F4.other W4 (Or.inr (slot_ne (Or.inr (hw _ (List.mem_of_getElem? (i := 135) rfl))) (Or.inr (hw _ (List.mem_of_getElem? (i := 125) rfl))) (by decide) (t := (.object "java/util/Map")) (t' := (.object "java/lang/String")) (by decide) (by decide)))
  replace Z0 := Nat.le_trans Z0 (Keep.of_wr W4).1
  replace K0 := K0.wr W4 (Or.inl (List.mem_of_getElem? (i := 0) rfl))
  refine own_go (fun _ => XS.aloadN X4.here hx rfl (hb hby own_d28_19) rfl rfl) ?_
  refine own_go (fun _ => XS.aload X4.here hx rfl (hb hby own_d28_20) rfl hr3) ?_
  obtain ⟨T5, h5, X5, e5, W5, st5⟩ := putF X4 hx hZ hown (host := "") (Or.inl (hw _ (List.mem_of_getElem? (i := 126) rfl))) Via.refl e4 F3 E1 (Or.inr ⟨(hw _ (List.mem_of_getElem? (i := 127) rfl)), rfl, hnm⟩) (hw _ (List.mem_of_getElem? (i := 35) rfl)) (ty := (.object "java/lang/String")) (by decide) (own_narv hr3) (own_fitv hr3) (g := (mkF m 22 #[.val (.ref a1), .val v0, .val w1, .val w2, .val w3, .val mp] [w3, (.ref a1)])) rfl rfl (hb hby own_d28_22)
  refine own_go st5 ?_
  have NF5 := Fr.snoc X5 NF4 ge_a1
  replace F3 := F3.same W5
  replace E1 := E1.wr W5
  replace O := O.wr W5 ge_a1
  replace F0 := F0.other W5 (Or.inr (slot_ne (Or.inr (hw _ (List.mem_of_getElem? (i := 112) rfl))) (Or.inr (hw _ (List.mem_of_getElem? (i := 127) rfl))) (by decide) (t := (.object "java/lang/String")) (t' := (.object "java/lang/String")) (by decide) (by decide)))
  replace F1 := F1.other W5 (Or.inr (slot_ne (Or.inr (hw _ (List.mem_of_getElem? (i := 114) rfl))) (Or.inr (hw _ (List.mem_of_getElem? (i := 127) rfl))) (by decide) (t := (.object "java/lang/String")) (t' := (.object "java/lang/String")) (by decide) (by decide)))
  replace F2 := F2.other W5 (Or.inr (slot_ne (Or.inr (hw _ (List.mem_of_getElem? (i := 125) rfl))) (Or.inr (hw _ (List.mem_of_getElem? (i := 127) rfl))) (by decide) (t := (.object "java/lang/String")) (t' := (.object "java/lang/String")) (by decide) (by decide)))
  replace F4 := F4.other W5 (Or.inr (slot_ne (Or.inr (hw _ (List.mem_of_getElem? (i := 135) rfl))) (Or.inr (hw _ (List.mem_of_getElem? (i := 127) rfl))) (by decide) (t := (.object "java/util/Map")) (t' := (.object "java/lang/String")) (by decide) (by decide)))
  replace Z0 := Nat.le_trans Z0 (Keep.of_wr W5).1
  replace K0 := K0.wr W5 (Or.inl (List.mem_of_getElem? (i := 0) rfl))
  show own_Go _ _ _ _ (T5.setTop (mkF m 25 #[.val (.ref a1), .val v0, .val w1, .val w2, .val w3, .val mp] []))
  refine own_go (fun _ => XS.aloadN X5.here hx rfl (hb hby own_d28_25) rfl rfl) ?_
  refine own_go (fun _ => XS.aload X5.here hx rfl (hb hby own_d28_26) rfl hr4) ?_
  obtain ⟨T6, h6, X6, e6, W6, st6⟩ := putF X5 hx hZ hown (host := "") (Or.inl (hw _ (List.mem_of_getElem? (i := 134) rfl))) Via.refl e5 F4 E1 (Or.inr ⟨(hw _ (List.mem_of_getElem? (i := 135) rfl)), rfl, hnm⟩) (hw _ (List.mem_of_getElem? (i := 35) rfl)) (ty := (.object "java/util/Map")) (by decide) (own_narv hr4) (own_fitv hr4) (g := (mkF m 28 #[.val (.ref a1), .val v0, .val w1, .val w2, .val w3, .val mp] [mp, (.ref a1)])) rfl rfl (hb hby own_d28_28)
  refine own_go st6 ?_
  have NF6 := Fr.snoc X6 NF5 ge_a1
  replace F4 := F4.same W6
  replace E1 := E1.wr W6
  replace O := O.wr W6 ge_a1
  replace F0 := F0.other W6 (Or.inr (slot_ne (Or.inr (hw _ (List.mem_of_getElem? (i := 112) rfl))) (Or.inr (hw _ (List.mem_of_getElem? (i := 135) rfl))) (by decide) (t := (.object "java/lang/String")) (t' := (.object "java/util/Map")) (by decide) (by decide)))
  replace F1 := F1.other W6 (Or.inr (slot_ne (Or.inr (hw _ (List.mem_of_getElem? (i := 114) rfl))) (Or.inr (hw _ (List.mem_of_getElem? (i := 135) rfl))) (by decide) (t := (.object "java/lang/String")) (t' := (.object "java/util/Map")) (by decide) (by decide)))
  replace F2 := F2.other W6 (Or.inr (slot_ne (Or.inr (hw _ (List.mem_of_getElem? (i := 125) rfl))) (Or.inr (hw _ (List.mem_of_getElem? (i := 135) rfl))) (by decide) (t := (.object "java/lang/String")) (t' := (.object "java/util/Map")) (by decide) (by decide)))
  replace F3 := F3.other W6 (Or.inr (slot_ne (Or.inr (hw _ (List.mem_of_getElem? (i := 127) rfl))) (Or.inr (hw _ (List.mem_of_getElem? (i := 135) rfl))) (by decide) (t := (.object "java/lang/String")) (t' := (.object "java/util/Map")) (by decide) (by decide)))
  replace Z0 := Nat.le_trans Z0 (Keep.of_wr W6).1
  replace K0 := K0.wr W6 (Or.inl (List.mem_of_getElem? (i := 0) rfl))
  show own_Go _ _ _ _ (T6.setTop (mkF m 31 #[.val (.ref a1), .val v0, .val w1, .val w2, .val w3, .val mp] []))
  refine own_ret X6 hlk (v := none) (fun _ => rfl) (fun fs hr => X6.returnOut hx Bd.returns (hb hby own_d28_31) hr) ?_ (by decide) (by decide)
  try rw [e6]
  exact ⟨rfl, NF6, K0, O, E1, F0, F1, F2, F3, F4⟩
theorem own_d27_0 : decode prog_14_method_4_code 0 = .ok (.new 29, 3) := by decide +kernel
theorem own_d27_3 : decode prog_14_method_4_code 3 = .ok (.dup, 1) := by decide +kernel
theorem own_d27_4 : decode prog_14_method_4_code 4 = .ok (.aload_n 0, 1) := by decide +kernel
theorem own_d27_5 : decode prog_14_method_4_code 5 = .ok (.getfield 28, 3) := by decide +kernel
theorem own_d27_8 : decode prog_14_method_4_code 8 = .ok (.aload_n 0, 1) := by decide +kernel
theorem own_d27_9 : decode prog_14_method_4_code 9 = .ok (.getfield 38, 3) := by decide +kernel
theorem own_d27_12 : decode prog_14_method_4_code 12 = .ok (.aload_n 0, 1) := by decide +kernel
theorem own_d27_13 : decode prog_14_method_4_code 13 = .ok (.getfield 44, 3) := by decide +kernel
theorem own_d27_16 : decode prog_14_method_4_code 16 = .ok (.aload_n 0, 1) := by decide +kernel
theorem own_d27_17 : decode prog_14_method_4_code 17 = .ok (.getfield 47, 3) := by decide +kernel
theorem own_d27_20 : decode prog_14_method_4_code 20 = .ok (.aload_n 1, 1) := by decide +kernel
theorem own_d27_21 : decode prog_14_method_4_code 21 = .ok (.invokespecial 60, 3) := by decide +kernel
theorem own_pd21 : parseMethodDescriptor "(Ljava/lang/String;Ljava/lang/String;Ljava/lang/String;Ljava/lang/String;Ljava/util/Map;)V" = some ⟨[(.object "java/lang/String"), (.object "java/lang/String"), (.object "java/lang/String"), (.object "java/lang/String"), (.object "java/util/Map")], none⟩ := by decide +kernel
theorem own_d27_24 : decode prog_14_method_4_code 24 = .ok (.areturn, 1) := by decide +kernel
set_option maxRecDepth 65536 in
set_option maxHeartbeats 40000000 in
theorem own_rmWP (l : Launch) (Z : State) (a0 : Array Value) (hw : ∀ d ∈ tables_1, d.before a0 Z = true) (a1 : Addr) (v0 : Value) (w1 : Value) (w2 : Value) (w3 : Value) (mp : Value) (h0 : Heap) (n0 : Nat) (Z0 : n0 ≤ h0.size) (EA : Exa Z h0 a1 "com/example/ratatoskr/ratatoskr/request/RequestPathInfo") (F0 : Fld Z h0 a1 "com/example/ratatoskr/ratatoskr/request/RequestPathInfo" "resourcePath" "Ljava/lang/String;" v0) (F1 : Fld Z h0 a1 "com/example/ratatoskr/ratatoskr/request/RequestPathInfo" "selectorString" "Ljava/lang/String;" w1) (F2 : Fld Z h0 a1 "com/example/ratatoskr/ratatoskr/request/RequestPathInfo" "extension" "Ljava/lang/String;" w2) (F3 : Fld Z h0 a1 "com/example/ratatoskr/ratatoskr/request/RequestPathInfo" "suffix" "Ljava/lang/String;" w3) (O : Old Z n0 h0) (hr0 : v0.isRef = true) (hr1 : w1.isRef = true) (hr2 : w2.isRef = true) (hr3 : w3.isRef = true) (hr4 : mp.isRef = true) :
    own_Met l Z [] (⟨"com/example/ratatoskr/ratatoskr/request/RequestPathInfo", "withParameters", "(Ljava/util/Map;)Lcom/example/ratatoskr/ratatoskr/request/RequestPathInfo;"⟩ : MethodName) prog_14_method_4_code 2 (some (.object "com/example/ratatoskr/ratatoskr/request/RequestPathInfo")) ({ frames := 2, cells := 1, slots := 5, locals := 30 } : Room) #[(.ref a1), mp] h0 (fun v h L => ∃ a' : Addr, v = some (.ref a') ∧ Fr n0 L ∧ Keep h0 h [] ∧ Old Z n0 h ∧ h0.size ≤ a' ∧ Exa Z h a' "com/example/ratatoskr/ratatoskr/request/RequestPathInfo" ∧ Fld Z h a' "com/example/ratatoskr/ratatoskr/request/RequestPathInfo" "resourcePath" "Ljava/lang/String;" v0 ∧ Fld Z h a' "com/example/ratatoskr/ratatoskr/request/RequestPathInfo" "selectorString" "Ljava/lang/String;" w1 ∧ Fld Z h a' "com/example/ratatoskr/ratatoskr/request/RequestPathInfo" "extension" "Ljava/lang/String;" w2 ∧ Fld Z h a' "com/example/ratatoskr/ratatoskr/request/RequestPathInfo" "suffix" "Ljava/lang/String;" w3 ∧ Fld Z h a' "com/example/ratatoskr/ratatoskr/request/RequestPathInfo" "parameters" "Ljava/util/Map;" mp) := by
  refine MetFree.of_bodySF (plainFor_of_name own_pn5) hisR ?_
  intro p e s m args below meth c s₁ Bd hml0 hP hK
  obtain ⟨rfl, hZ, hh⟩ := hP
  have hx := Bd.exec
  have hby := Bd.bytes
  have hml : c.maxLocals = 2 := hml0
  have hown : s.vm.findClass "com/example/ratatoskr/ratatoskr/request/RequestPathInfo" = some m.cls := findClass_of_methodNamed Bd.named
  have hnm := (name_of_methodNamed Bd.named Bd.method).1
  have hlk : meth.locks = false := Bd.notSynchronized
  have X0 : Stand p l e ({ frames := 2, cells := 1, slots := 5, locals := 30 } : Room) s m #[(.ref a1), mp] below meth c s₁ [] 0 0 := Stand.of_body Bd
  have e0 : s₁.heap = h0 := by rw [← hh, Bd.state]; rfl
  have N0 := Fr.nil n0
  refine own_body (Q := fun v h L => ∃ a' : Addr, v = some (.ref a') ∧ Fr n0 L ∧ Keep h0 h [] ∧ Old Z n0 h ∧ h0.size ≤ a' ∧ Exa Z h a' "com/example/ratatoskr/ratatoskr/request/RequestPathInfo" ∧ Fld Z h a' "com/example/ratatoskr/ratatoskr/request/RequestPathInfo" "resourcePath" "Ljava/lang/String;" v0 ∧ Fld Z h a' "com/example/ratatoskr/ratatoskr/request/RequestPathInfo" "selectorString" "Ljava/lang/String;" w1 ∧ Fld Z h a' "com/example/ratatoskr/ratatoskr/request/RequestPathInfo" "extension" "Ljava/lang/String;" w2 ∧ Fld Z h a' "com/example/ratatoskr/ratatoskr/request/RequestPathInfo" "suffix" "Ljava/lang/String;" w3 ∧ Fld Z h a' "com/example/ratatoskr/ratatoskr/request/RequestPathInfo" "parameters" "Ljava/util/Map;" mp) ?_
  refine own_go (fun _ kont => castTop (own_ef m #[(.ref a1), mp] 2 #[.val (.ref a1), .val mp] (own_al [(.ref a1), mp] 2 [.val (.ref a1), .val mp] (by simp [own_asl, own_catr, Jvm.Free.XT.cat1 hr4]))) kont) ?_
  show own_Go _ _ _ _ (s₁.setTop (mkF m 0 #[.val (.ref a1), .val mp] []))
  have K0 : Keep h0 h0 [] := Keep.refl _ _
  obtain ⟨T1, h1, X1, e1, E1, A1, D1, -, st1⟩ := newO X0 hx hZ hown (hw _ (List.mem_of_getElem? (i := 141) rfl)) (hw _ (List.mem_of_getElem? (i := 35) rfl)) (hw _ (List.mem_of_getElem? (i := 36) rfl)) e0 (g := (mkF m 0 #[.val (.ref a1), .val mp] [])) rfl (hb hby own_d27_0) (by decide) (by decide)
  obtain ⟨b1, g1⟩ : ∃ z, z = h0.size := ⟨_, rfl⟩
  rw [← g1] at A1 D1 st1
  refine own_go st1 ?_
  have ge_b1 : n0 ≤ b1 := Nat.le_trans Z0 (Nat.le_of_eq g1.symm)
  have sz_b1 : h0.size ≤ b1 := Nat.le_trans K0.1 (Nat.le_of_eq g1.symm)
  replace EA := EA.ext E1
  replace O := O.ext E1
  replace F0 := F0.ext E1
  replace F1 := F1.ext E1
  replace F2 := F2.ext E1
  replace F3 := F3.ext E1
  replace Z0 := Nat.le_trans Z0 E1.1
  replace K0 := K0.ext E1
  have F_resourcePath_b1 : Fld Z h1 b1 "com/example/ratatoskr/ratatoskr/request/RequestPathInfo" "resourcePath" "Ljava/lang/String;" .null := D1 (Or.inr (hw _ (List.mem_of_getElem? (i := 112) rfl))) (ty := (.object "java/lang/String")) (by decide)
  have F_selectorString_b1 : Fld Z h1 b1 "com/example/ratatoskr/ratatoskr/request/RequestPathInfo" "selectorString" "Ljava/lang/String;" .null := D1 (Or.inr (hw _ (List.mem_of_getElem? (i := 114) rfl))) (ty := (.object "java/lang/String")) (by decide)
  have F_extension_b1 : Fld Z h1 b1 "com/example/ratatoskr/ratatoskr/request/RequestPathInfo" "extension" "Ljava/lang/String;" .null := D1 (Or.inr (hw _ (List.mem_of_getElem? (i := 125) rfl))) (ty := (.object "java/lang/String")) (by decide)
  have F_suffix_b1 : Fld Z h1 b1 "com/example/ratatoskr/ratatoskr/request/RequestPathInfo" "suffix" "Ljava/lang/String;" .null := D1 (Or.inr (hw _ (List.mem_of_getElem? (i := 127) rfl))) (ty := (.object "java/lang/String")) (by decide)
  have F_parameters_b1 : Fld Z h1 b1 "com/example/ratatoskr/ratatoskr/request/RequestPathInfo" "parameters" "Ljava/util/Map;" .null := D1 (Or.inr (hw _ (List.mem_of_getElem? (i := 135) rfl))) (ty := (.object "java/util/Map")) (by decide)
  refine own_go (fun _ => XS.dup X1.here hx rfl (hb hby own_d27_3) rfl rfl) ?_
  refine own_go (fun _ => XS.aloadN X1.here hx rfl (hb hby own_d27_4) rfl rfl) ?_
  obtain ⟨T2, X2, e2, st2⟩ := getF X1 hx hZ hown (host := "") (Or.inl (hw _ (List.mem_of_getElem? (i := 111) rfl))) Via.refl e1 F0 (g := (mkF m 5 #[.val (.ref a1), .val mp] [(.ref a1), (.ref b1), (.ref b1)])) rfl rfl (hb hby own_d27_5)
  refine own_go st2 ?_
  show own_Go _ _ _ _ (T2.setTop (mkF m 8 #[.val (.ref a1), .val mp] [v0, (.ref b1), (.ref b1)]))
  refine own_go (fun _ => XS.aloadN X2.here hx rfl (hb hby own_d27_8) rfl rfl) ?_
  obtain ⟨T3, X3, e3, st3⟩ := getF X2 hx hZ hown (host := "") (Or.inl (hw _ (List.mem_of_getElem? (i := 113) rfl))) Via.refl e2 F1 (g := (mkF m 9 #[.val (.ref a1), .val mp] [(.ref a1), v0, (.ref b1), (.ref b1)])) rfl rfl (hb hby own_d27_9)
  refine own_go st3 ?_
  refine own_go (fun _ => XS.aloadN X3.here hx rfl (hb hby own_d27_12) rfl rfl) ?_
  obtain ⟨T4, X4, e4, st4⟩ := getF X3 hx hZ hown (host := "") (Or.inl (hw _ (List.mem_of_getElem? (i := 124) rfl))) Via.refl e3 F2 (g := (mkF m 13 #[.val (.ref a1), .val mp] [(.ref a1), w1, v0, (.ref b1), (.ref b1)])) rfl rfl (hb hby own_d27_13)
  refine own_go st4 ?_
  show own_Go _ _ _ _ (T4.setTop (mkF m 16 #[.val (.ref a1), .val mp] [w2, w1, v0, (.ref b1), (.ref b1)]))
  refine own_go (fun _ => XS.aloadN X4.here hx rfl (hb hby own_d27_16) rfl rfl) ?_
  obtain ⟨T5, X5, e5, st5⟩ := getF X4 hx hZ hown (host := "") (Or.inl (hw _ (List.mem_of_getElem? (i := 126) rfl))) Via.refl e4 F3 (g := (mkF m 17 #[.val (.ref a1), .val mp] [(.ref a1), w2, w1, v0, (.ref b1), (.ref b1)])) rfl rfl (hb hby own_d27_17)
  refine own_go st5 ?_
  refine own_go (fun _ => XS.aloadN X5.here hx rfl (hb hby own_d27_20) rfl hr4) ?_
  show own_Go _ _ _ _ (T5.setTop (mkF m 21 #[.val (.ref a1), .val mp] [mp, w3, w2, w1, v0, (.ref b1), (.ref b1)]))
  obtain ⟨_, _, ⟨T6, L6, k6, n6⟩, -, X6, ⟨Lc6, hQ6, l6, y6, z6⟩, st6⟩ := X5.specialBack hx (y := (⟨"com/example/ratatoskr/ratatoskr/request/RequestPathInfo", "<init>", "(Ljava/lang/String;Ljava/lang/String;Ljava/lang/String;Ljava/lang/String;Ljava/util/Map;)V"⟩ : MethodName)) rfl hown (mvT hZ (hw _ (List.mem_of_getElem? (i := 142) rfl))) (mvT hZ (hw _ (List.mem_of_getElem? (i := 143) rfl))) (mvT hZ (hw _ (List.mem_of_getElem? (i := 144) rfl))) (by decide) (own_back (W := 1) (own_rmI5 l Z a0 hw b1 v0 w1 w2 w3 mp h1 n0 Z0 A1 F_resourcePath_b1 F_selectorString_b1 F_extension_b1 F_suffix_b1 F_parameters_b1 O ge_b1 hr0 hr1 hr2 hr3 hr4) hZ (hw _ (List.mem_of_getElem? (i := 144) rfl)) (hw _ (List.mem_of_getElem? (i := 36) rfl)) (by decide) (by decide)) (g := (mkF m 21 #[.val (.ref a1), .val mp] [mp, w3, w2, w1, v0, (.ref b1), (.ref b1)])) rfl (by rw [hml]; rfl) (Steps.refl _) (a := b1) (argsL := [v0, w1, w2, w3, mp]) (rest := [(.ref b1)]) (lenOf own_pd21 rfl) rfl (by show 2 * 0 + _ ≤ _; exact Nat.le_of_eq rfl) (hb hby own_d27_21) (fun _ _ => ⟨rfl, e5, (by decide : 1 + 0 ≤ _), (by decide : 5 + 0 ≤ _)⟩)
  dsimp only [Pt.U, Pt.locs, Pt.cells, Pt.slots] at X6 l6 y6 z6 st6 hQ6
  replace X6 := own_cst X6 l6 y6 z6 (k2 := 1) (n2 := 5) rfl rfl
  clear l6 y6 z6
  obtain ⟨rfl, Nq6, K6, O6, E6, Fa6, Fb6, Fc6, Fd6, Fe6⟩ := hQ6
  have NF6 := Fr.app N0 Nq6
  refine own_goT st6 ?_
  replace Z0 := Nat.le_trans Z0 K6.1
  replace K0 := K0.trans K6 (allS (Or.inr sz_b1) all0)
  have O := O6
  show own_Go _ _ _ _ (T6.setTop (mkF m 24 #[.val (.ref a1), .val mp] [(.ref b1)]))
  refine own_ret X6 hlk (v := some (.ref b1)) (fun h => by rw [Bd.returns] at h; cases h) (fun fs hr => retOut X6 hx Bd.returns rfl (Or.inr (Or.inr (Or.inr (Or.inr ⟨rfl, rfl, rfl⟩)))) (hb hby own_d27_24) hr) ?_ (by decide) (by decide)
  skip
  exact ⟨b1, rfl, NF6, K0, O, sz_b1, E6, Fa6, Fb6, Fc6, Fd6, Fe6⟩
theorem own_d7_0 : decode prog_14_method_1_code 0 = .ok (.aload_n 0, 1) := by decide +kernel
theorem own_d7_1 : decode prog_14_method_1_code 1 = .ok (.invokespecial 1, 3) := by decide +kernel
theorem own_d7_4 : decode prog_14_method_1_code 4 = .ok (.aload_n 2, 1) := by decide +kernel
theorem own_d7_5 : decode prog_14_method_1_code 5 = .ok (.bipush 47, 2) := by decide +kernel
theorem own_d7_7 : decode prog_14_method_1_code 7 = .ok (.invokevirtual 7, 3) := by decide +kernel
theorem own_pd22 : parseMethodDescriptor "(I)I" = some ⟨[.int], some .int⟩ := by decide +kernel
theorem own_d7_10 : decode prog_14_method_1_code 10 = .ok (.istore_n 3, 1) := by decide +kernel
theorem own_d7_11 : decode prog_14_method_1_code 11 = .ok (.aload_n 2, 1) := by decide +kernel
theorem own_d7_12 : decode prog_14_method_1_code 12 = .ok (.aload_n 2, 1) := by decide +kernel
theorem own_d7_36 : decode prog_14_method_1_code 36 = .ok (.invokevirtual 21, 3) := by decide +kernel
theorem own_d7_39 : decode prog_14_method_1_code 39 = .ok (.astore 4, 2) := by decide +kernel
theorem own_d7_41 : decode prog_14_method_1_code 41 = .ok (.aload 4, 2) := by decide +kernel
theorem own_d7_43 : decode prog_14_method_1_code 43 = .ok (.bipush 46, 2) := by decide +kernel
theorem own_d7_45 : decode prog_14_method_1_code 45 = .ok (.invokevirtual 25, 3) := by decide +kernel
theorem own_d7_48 : decode prog_14_method_1_code 48 = .ok (.istore 5, 2) := by decide +kernel
theorem own_d7_50 : decode prog_14_method_1_code 50 = .ok (.aload_n 0, 1) := by decide +kernel
theorem own_d7_51 : decode prog_14_method_1_code 51 = .ok (.aload_n 1, 1) := by decide +kernel
theorem own_d7_52 : decode prog_14_method_1_code 52 = .ok (.putfield 28, 3) := by decide +kernel
theorem own_d7_55 : decode prog_14_method_1_code 55 = .ok (.aload_n 0, 1) := by decide +kernel
theorem own_d7_56 : decode prog_14_method_1_code 56 = .ok (.iload 5, 2) := by decide +kernel
theorem own_d7_58 : decode prog_14_method_1_code 58 = .ok (.ifCond .ge 7, 3) := by decide +kernel
theorem own_d7_61 : decode prog_14_method_1_code 61 = .ok (.aconst_null, 1) := by decide +kernel
theorem own_d7_62 : decode prog_14_method_1_code 62 = .ok (.goto 14, 3) := by decide +kernel
theorem own_d7_76 : decode prog_14_method_1_code 76 = .ok (.putfield 38, 3) := by decide +kernel
theorem own_d7_79 : decode prog_14_method_1_code 79 = .ok (.aload_n 0, 1) := by decide +kernel
theorem own_d7_80 : decode prog_14_method_1_code 80 = .ok (.aload 4, 2) := by decide +kernel
theorem own_d7_82 : decode prog_14_method_1_code 82 = .ok (.iload 5, 2) := by decide +kernel
theorem own_d7_84 : decode prog_14_method_1_code 84 = .ok (.iconst 1, 1) := by decide +kernel
theorem own_d7_85 : decode prog_14_method_1_code 85 = .ok (.iadd, 1) := by decide +kernel
theorem own_d7_86 : decode prog_14_method_1_code 86 = .ok (.invokevirtual 41, 3) := by decide +kernel
theorem own_pd23 : parseMethodDescriptor "(I)Ljava/lang/String;" = some ⟨[.int], some (.object "java/lang/String")⟩ := by decide +kernel
theorem own_d7_89 : decode prog_14_method_1_code 89 = .ok (.invokestatic 34, 3) := by decide +kernel
theorem own_pd24 : parseMethodDescriptor "(Ljava/lang/String;)Ljava/lang/String;" = some ⟨[(.object "java/lang/String")], some (.object "java/lang/String")⟩ := by decide +kernel
theorem own_d7_92 : decode prog_14_method_1_code 92 = .ok (.putfield 44, 3) := by decide +kernel
theorem own_d7_95 : decode prog_14_method_1_code 95 = .ok (.aload_n 0, 1) := by decide +kernel
theorem own_d7_96 : decode prog_14_method_1_code 96 = .ok (.iload_n 3, 1) := by decide +kernel
theorem own_d7_97 : decode prog_14_method_1_code 97 = .ok (.ifCond .ge 7, 3) := by decide +kernel
theorem own_d7_100 : decode prog_14_method_1_code 100 = .ok (.aconst_null, 1) := by decide +kernel
theorem own_d7_101 : decode prog_14_method_1_code 101 = .ok (.goto 8, 3) := by decide +kernel
theorem own_d7_109 : decode prog_14_method_1_code 109 = .ok (.putfield 47, 3) := by decide +kernel
theorem own_d7_112 : decode prog_14_method_1_code 112 = .ok (.aload_n 0, 1) := by decide +kernel
theorem own_d7_113 : decode prog_14_method_1_code 113 = .ok (.invokestatic 50, 3) := by decide +kernel
theorem own_pd25 : parseMethodDescriptor "()Ljava/util/Map;" = some ⟨[], some (.object "java/util/Map")⟩ := by decide +kernel
theorem own_d7_116 : decode prog_14_method_1_code 116 = .ok (.putfield 56, 3) := by decide +kernel
theorem own_d7_119 : decode prog_14_method_1_code 119 = .ok (.return_, 1) := by decide +kernel
theorem own_d7_104 : decode prog_14_method_1_code 104 = .ok (.aload_n 2, 1) := by decide +kernel
theorem own_d7_105 : decode prog_14_method_1_code 105 = .ok (.iload_n 3, 1) := by decide +kernel
theorem own_d7_106 : decode prog_14_method_1_code 106 = .ok (.invokevirtual 41, 3) := by decide +kernel
theorem own_d7_65 : decode prog_14_method_1_code 65 = .ok (.aload 4, 2) := by decide +kernel
theorem own_d7_67 : decode prog_14_method_1_code 67 = .ok (.iconst 0, 1) := by decide +kernel
theorem own_d7_68 : decode prog_14_method_1_code 68 = .ok (.iload 5, 2) := by decide +kernel
theorem own_d7_70 : decode prog_14_method_1_code 70 = .ok (.invokevirtual 21, 3) := by decide +kernel
theorem own_d7_73 : decode prog_14_method_1_code 73 = .ok (.invokestatic 34, 3) := by decide +kernel
theorem own_d7_13 : decode prog_14_method_1_code 13 = .ok (.invokevirtual 13, 3) := by decide +kernel
theorem own_d7_16 : decode prog_14_method_1_code 16 = .ok (.ifCond .eq 7, 3) := by decide +kernel
theorem own_d7_19 : decode prog_14_method_1_code 19 = .ok (.iconst 0, 1) := by decide +kernel
theorem own_d7_20 : decode prog_14_method_1_code 20 = .ok (.goto 4, 3) := by decide +kernel
theorem own_d7_24 : decode prog_14_method_1_code 24 = .ok (.iload_n 3, 1) := by decide +kernel
theorem own_d7_25 : decode prog_14_method_1_code 25 = .ok (.ifCond .ge 10, 3) := by decide +kernel
theorem own_d7_28 : decode prog_14_method_1_code 28 = .ok (.aload_n 2, 1) := by decide +kernel
theorem own_d7_29 : decode prog_14_method_1_code 29 = .ok (.invokevirtual 17, 3) := by decide +kernel
theorem own_d7_32 : decode prog_14_method_1_code 32 = .ok (.goto 4, 3) := by decide +kernel
theorem own_d7_35 : decode prog_14_method_1_code 35 = .ok (.iload_n 3, 1) := by decide +kernel
theorem own_d7_23 : decode prog_14_method_1_code 23 = .ok (.iconst 1, 1) := by decide +kernel
set_option maxRecDepth 65536 in
set_option maxHeartbeats 40000000 in
theorem own_rmRP (l : Launch) (Z : State) (a0 : Array Value) (hw : ∀ d ∈ tables_1, d.before a0 Z = true) (a1 : Addr) (a2 : Addr) (a3 : Addr) (b : Addr) (k : ClassId) (cs : Int32) (fmt : Value) (z : Int32) (vs : List Value) (em : Addr) (h0 : Heap) (n0 : Nat) (Z0 : n0 ≤ h0.size) (E1 : Exa Z h0 a1 "com/example/ratatoskr/ratatoskr/request/RequestPathInfo") (F0 : Fld Z h0 a1 "com/example/ratatoskr/ratatoskr/request/RequestPathInfo" "resourcePath" "Ljava/lang/String;" .null) (F1 : Fld Z h0 a1 "com/example/ratatoskr/ratatoskr/request/RequestPathInfo" "selectorString" "Ljava/lang/String;" .null) (F2 : Fld Z h0 a1 "com/example/ratatoskr/ratatoskr/request/RequestPathInfo" "extension" "Ljava/lang/String;" .null) (F3 : Fld Z h0 a1 "com/example/ratatoskr/ratatoskr/request/RequestPathInfo" "suffix" "Ljava/lang/String;" .null) (F4 : Fld Z h0 a1 "com/example/ratatoskr/ratatoskr/request/RequestPathInfo" "parameters" "Ljava/util/Map;" .null) (E3 : Exa Z h0 a3 "java/lang/String") (Fv : Fld Z h0 a3 "java/lang/String" "value" "[B" (.ref b)) (Fc : Fld Z h0 a3 "java/lang/String" "coder" "B" (.int 0)) (V : Arv Z h0 b k .byte z vs (.int 0)) (O : Old Z n0 h0) (S_C : Sta Z Z.heap "java/lang/String" "COMPACT_STRINGS" "Z" (.int cs)) (hcs : ¬ cs = (0 : Int32)) (S_F : Sta Z Z.heap "jdk/internal/util/Preconditions" "SIOOBE_FORMATTER" "Ljava/util/function/BiFunction;" fmt) (hfmt : fmt = .null ∨ ∃ o : Addr, fmt = .ref o) (S_M : Sta Z Z.heap "java/util/ImmutableCollections" "EMPTY_MAP" "Ljava/util/ImmutableCollections$MapN;" (.ref em)) (ge_a1 : n0 ≤ a1) (p4 : z.toInt ≤ 4) (h46 : ¬ z = (0 : Int32) → vs.getD 0 (.int 0) = .int 46) :
    own_MetK l Z consts_1 [] (⟨"com/example/ratatoskr/ratatoskr/request/RequestPathInfo", "<init>", "(Ljava/lang/String;Ljava/lang/String;)V"⟩ : MethodName) prog_14_method_1_code 6 none ({ frames := 6, cells := 8, slots := 32, locals := 136 } : Room) #[(.ref a1), (.ref a2), (.ref a3)] h0 (fun v h L => ∃ w1 w2 w3 : Value, v = none ∧ Fr n0 L ∧ Keep h0 h [a1] ∧ Old Z n0 h ∧ Exa Z h a1 "com/example/ratatoskr/ratatoskr/request/RequestPathInfo" ∧ Fld Z h a1 "com/example/ratatoskr/ratatoskr/request/RequestPathInfo" "resourcePath" "Ljava/lang/String;" (.ref a2) ∧ Fld Z h a1 "com/example/ratatoskr/ratatoskr/request/RequestPathInfo" "selectorString" "Ljava/lang/String;" w1 ∧ Fld Z h a1 "com/example/ratatoskr/ratatoskr/request/RequestPathInfo" "extension" "Ljava/lang/String;" w2 ∧ Fld Z h a1 "com/example/ratatoskr/ratatoskr/request/RequestPathInfo" "suffix" "Ljava/lang/String;" w3 ∧ Fld Z h a1 "com/example/ratatoskr/ratatoskr/request/RequestPathInfo" "parameters" "Ljava/util/Map;" (.ref em) ∧ (w1 = .null ∨ ∃ o : Addr, w1 = .ref o ∧ Exa Z h o "java/lang/String") ∧ (w2 = .null ∨ ∃ o : Addr, w2 = .ref o ∧ Exa Z h o "java/lang/String") ∧ (w3 = .null ∨ ∃ o : Addr, w3 = .ref o ∧ Exa Z h o "java/lang/String")) := by
  refine MetFree.of_bodySF (plainFor_of_name own_pn5) hisR ?_
  intro p e s m args below meth c s₁ Bd hml0 hP hK
  obtain ⟨rfl, hZ0, hh, H0⟩ := hP
  have hx := Bd.exec
  have hby := Bd.bytes
  have hml : c.maxLocals = 6 := hml0
  have hown0 : s.vm.findClass "com/example/ratatoskr/ratatoskr/request/RequestPathInfo" = some m.cls := findClass_of_methodNamed Bd.named
  have hnm := (name_of_methodNamed Bd.named Bd.method).1
  have hlk : meth.locks = false := Bd.notSynchronized
  have X0 : Stand p l e ({ frames := 6, cells := 8, slots := 32, locals := 136 } : Room) (s.setVm s.vm) m #[(.ref a1), (.ref a2), (.ref a3)] below meth c s₁ [] 0 0 := Stand.of_body Bd
  have hZ : Z.Warmed39 (s.setVm s.vm).vm := hZ0
  have hown : (s.setVm s.vm).vm.findClass "com/example/ratatoskr/ratatoskr/request/RequestPathInfo" = some m.cls := hown0
  have hS : s.Since s.vm h0.size := State.WarmedH.since (State.WarmedH.refl s) _
  have hsw : h0.size ≤ h0.size := Nat.le_refl _
  have CR : CHr Z consts_1 s.vm h0 s.vm h0 := CHr.refl H0
  have e0 : s₁.heap = h0 := by rw [← hh, Bd.state]; rfl
  have N0 := Fr.nil n0
  refine own_bodyK (Q := fun v h L => ∃ w1 w2 w3 : Value, v = none ∧ Fr n0 L ∧ Keep h0 h [a1] ∧ Old Z n0 h ∧ Exa Z h a1 "com/example/ratatoskr/ratatoskr/request/RequestPathInfo" ∧ Fld Z h a1 "com/example/ratatoskr/ratatoskr/request/RequestPathInfo" "resourcePath" "Ljava/lang/String;" (.ref a2) ∧ Fld Z h a1 "com/example/ratatoskr/ratatoskr/request/RequestPathInfo" "selectorString" "Ljava/lang/String;" w1 ∧ Fld Z h a1 "com/example/ratatoskr/ratatoskr/request/RequestPathInfo" "extension" "Ljava/lang/String;" w2 ∧ Fld Z h a1 "com/example/ratatoskr/ratatoskr/request/RequestPathInfo" "suffix" "Ljava/lang/String;" w3 ∧ Fld Z h a1 "com/example/ratatoskr/ratatoskr/request/RequestPathInfo" "parameters" "Ljava/util/Map;" (.ref em) ∧ (w1 = .null ∨ ∃ o : Addr, w1 = .ref o ∧ Exa Z h o "java/lang/String") ∧ (w2 = .null ∨ ∃ o : Addr, w2 = .ref o ∧ Exa Z h o "java/lang/String") ∧ (w3 = .null ∨ ∃ o : Addr, w3 = .ref o ∧ Exa Z h o "java/lang/String")) ?_
  refine own_go (fun _ kont => castTop (own_ef m #[(.ref a1), (.ref a2), (.ref a3)] 6 #[.val (.ref a1), .val (.ref a2), .val (.ref a3), .unset, .unset, .unset] (own_al [(.ref a1), (.ref a2), (.ref a3)] 6 [.val (.ref a1), .val (.ref a2), .val (.ref a3), .unset, .unset, .unset] rfl)) kont) ?_
  show own_Go _ _ _ _ (s₁.setTop (mkF m 0 #[.val (.ref a1), .val (.ref a2), .val (.ref a3), .unset, .unset, .unset] []))
  have K0 : Keep h0 h0 [a1] := Keep.refl _ _
  have ne_a3_a1 : a3 ≠ a1 := own_exne E3 E1 (by decide)
  have ne_b_a1 : b ≠ a1 := Ne.symm (Exa.neArv E1 V (hw _ (List.mem_of_getElem? (i := 35) rfl)))
  have hz0 := own_vz V
  refine own_go (fun _ => XS.aloadN X0.here hx rfl (hb hby own_d7_0) rfl rfl) ?_
  show own_Go _ _ _ _ (s₁.setTop (mkF m 1 #[.val (.ref a1), .val (.ref a2), .val (.ref a3), .unset, .unset, .unset] [(.ref a1)]))
  obtain ⟨T1, X1, e1, st1⟩ := initO X0 hx hZ hown (hw _ (List.mem_of_getElem? (i := 40) rfl)) (hw _ (List.mem_of_getElem? (i := 30) rfl)) (hw _ (List.mem_of_getElem? (i := 31) rfl)) e0 (g := (mkF m 1 #[.val (.ref a1), .val (.ref a2), .val (.ref a3), .unset, .unset, .unset] [(.ref a1)])) rfl (by rw [hml]; rfl) rfl (hb hby own_d7_1) (by decide) (W := 0) (by show 2 * 0 + _ ≤ _; exact Nat.le_of_eq rfl) (by decide)
  refine own_go st1 ?_
  show own_Go _ _ _ _ (T1.setTop (mkF m 4 #[.val (.ref a1), .val (.ref a2), .val (.ref a3), .unset, .unset, .unset] []))
  refine own_go (fun _ => XS.aloadN X1.here hx rfl (hb hby own_d7_4) rfl rfl) ?_
  refine own_go (fun _ => XS.bipush X1.here hx rfl (hb hby own_d7_5)) ?_
  show own_Go _ _ _ _ (T1.setTop (mkF m 7 #[.val (.ref a1), .val (.ref a2), .val (.ref a3), .unset, .unset, .unset] [(.int (47 : Int32)), (.ref a3)]))
  obtain ⟨cq2, kq2, q2a, q2b, q2c⟩ := isOf hZ e1 E3
  obtain ⟨_, _, ⟨T2, L2, k2, n2⟩, -, X2, ⟨Lc2, hQ2, l2, y2, z2⟩, st2⟩ := X1.virtualBack hx (y := (⟨"java/lang/String", "indexOf", "(I)I"⟩ : MethodName)) (z := (⟨"java/lang/String", "indexOf", "(I)I"⟩ : MethodName)) hown (mvT hZ (hw _ (List.mem_of_getElem? (i := 41) rfl))) (mvT hZ (hw _ (List.mem_of_getElem? (i := 42) rfl))) (notFace_of_selects (args := #[]) (mvT hZ (hw _ (List.mem_of_getElem? (i := 44) rfl)))) (mvT hZ (hw _ (List.mem_of_getElem? (i := 44) rfl))) (mvT hZ (hw _ (List.mem_of_getElem? (i := 43) rfl))) (by decide) (own_back (W := 0) (own_rmUG l Z a0 hw a3 b k cs 47 47 z vs h0 n0 Z0 E3 Fv Fc V O S_C hcs (by decide) (by decide) (by decide)) hZ (hw _ (List.mem_of_getElem? (i := 45) rfl)) (hw _ (List.mem_of_getElem? (i := 6) rfl)) (by decide) (by decide)) q2a q2c (g := (mkF m 7 #[.val (.ref a1), .val (.ref a2), .val (.ref a3), .unset, .unset, .unset] [(.int (47 : Int32)), (.ref a3)])) rfl (by rw [hml]; rfl) (Steps.refl _) (argsL := [(.int (47 : Int32))]) (rest := []) (lenOf own_pd22 rfl) rfl (by show 2 * 0 + _ ≤ _; exact Nat.le_of_eq rfl) (hb hby own_d7_7) (fun _ _ => ⟨rfl, e1, (by decide : 0 + 0 ≤ _), (by decide : 0 + 0 ≤ _)⟩)
  dsimp only [Pt.U, Pt.locs, Pt.cells, Pt.slots] at X2 l2 y2 z2 st2 hQ2
  replace X2 := own_cst X2 l2 y2 z2 (k2 := 0) (n2 := 0) rfl rfl
  clear l2 y2 z2
  obtain ⟨ri, rfl, Nq2, eq2, hix⟩ := hQ2
  have NF2 := Fr.app N0 Nq2
  refine own_goT st2 ?_
  show own_Go _ _ _ _ (T2.setTop (mkF m 10 #[.val (.ref a1), .val (.ref a2), .val (.ref a3), .unset, .unset, .unset] [(.int ri)]))
  refine own_go (fun _ => XS.istoreN X2.here hx rfl (hb hby own_d7_10) rfl (l' := #[.val (.ref a1), .val (.ref a2), .val (.ref a3), .val (.int ri), .unset, .unset]) rfl) ?_
  refine own_go (fun _ => XS.aloadN X2.here hx rfl (hb hby own_d7_11) rfl rfl) ?_
  refine own_go (fun _ => XS.aloadN X2.here hx rfl (hb hby own_d7_12) rfl rfl) ?_
  show own_Go _ _ _ _ (T2.setTop (mkF m 13 #[.val (.ref a1), .val (.ref a2), .val (.ref a3), .val (.int ri), .unset, .unset] [(.ref a3), (.ref a3)]))
  have J36 : ∀ (bg : Int32) (en : Int32) (j1 : 0 ≤ bg.toInt) (j2 : bg.toInt ≤ en.toInt) (j3 : en.toInt ≤ z.toInt) (Tj36 : State) (Lj36 : List Loc) (Xj36 : Stand p l e ({ frames := 6, cells := 8, slots := 32, locals := 136 } : Room) (s.setVm s.vm) m #[(.ref a1), (.ref a2), (.ref a3)] below meth c Tj36 Lj36 0 0) (Nj36 : Fr n0 Lj36) (ej36 : Tj36.heap = h0), own_Go p.tables e below (own_EndK Z consts_1 s below (fun v h L => ∃ w1 w2 w3 : Value, v = none ∧ Fr n0 L ∧ Keep h0 h [a1] ∧ Old Z n0 h ∧ Exa Z h a1 "com/example/ratatoskr/ratatoskr/request/RequestPathInfo" ∧ Fld Z h a1 "com/example/ratatoskr/ratatoskr/request/RequestPathInfo" "resourcePath" "Ljava/lang/String;" (.ref a2) ∧ Fld Z h a1 "com/example/ratatoskr/ratatoskr/request/RequestPathInfo" "selectorString" "Ljava/lang/String;" w1 ∧ Fld Z h a1 "com/example/ratatoskr/ratatoskr/request/RequestPathInfo" "extension" "Ljava/lang/String;" w2 ∧ Fld Z h a1 "com/example/ratatoskr/ratatoskr/request/RequestPathInfo" "suffix" "Ljava/lang/String;" w3 ∧ Fld Z h a1 "com/example/ratatoskr/ratatoskr/request/RequestPathInfo" "parameters" "Ljava/util/Map;" (.ref em) ∧ (w1 = .null ∨ ∃ o : Addr, w1 = .ref o ∧ Exa Z h o "java/lang/String") ∧ (w2 = .null ∨ ∃ o : Addr, w2 = .ref o ∧ Exa Z h o "java/lang/String") ∧ (w3 = .null ∨ ∃ o : Addr, w3 = .ref o ∧ Exa Z h o "java/lang/String")) ({ frames := 6, cells := 8, slots := 32, locals := 136 } : Room).cells ({ frames := 6, cells := 8, slots := 32, locals := 136 } : Room).slots) (Tj36.setTop (mkF m 36 #[.val (.ref a1), .val (.ref a2), .val (.ref a3), .val (.int ri), .unset, .unset] [(.int en), (.int bg), (.ref a3)])) := by
    intro bg en j1 j2 j3 Tj36 Lj36 Xj36 Nj36 ej36
    obtain ⟨cq3, kq3, q3a, q3b, q3c⟩ := isOf hZ ej36 E3
    obtain ⟨_, _, ⟨T3, L3, k3, n3⟩, -, X3, hS3, hgr3, ⟨Lc3, hQ3, l3, y3, z3, CR3⟩, st3⟩ := Xj36.virtualBackS hx (y := (⟨"java/lang/String", "substring", "(II)Ljava/lang/String;"⟩ : MethodName)) (z := (⟨"java/lang/String", "substring", "(II)Ljava/lang/String;"⟩ : MethodName)) hown (mvT hZ (hw _ (List.mem_of_getElem? (i := 85) rfl))) (mvT hZ (hw _ (List.mem_of_getElem? (i := 86) rfl))) (notFace_of_selects (args := #[]) (mvT hZ (hw _ (List.mem_of_getElem? (i := 88) rfl)))) (mvT hZ (hw _ (List.mem_of_getElem? (i := 88) rfl))) (mvT hZ (hw _ (List.mem_of_getElem? (i := 87) rfl))) (by decide) (own_backK (s := s) (vm0 := s.vm) (W := 0) (own_rmSS l Z a0 hw a3 b k cs fmt z bg en vs h0 n0 Z0 E3 Fv Fc V O S_C hcs S_F hfmt j1 j2 j3 p4) hZ (hw _ (List.mem_of_getElem? (i := 89) rfl)) (hw _ (List.mem_of_getElem? (i := 6) rfl)) (by decide) (by decide) (own_ew hw) CR.1) q3a q3c (g := (mkF m 36 #[.val (.ref a1), .val (.ref a2), .val (.ref a3), .val (.int ri), .unset, .unset] [(.int en), (.int bg), (.ref a3)])) rfl (by rw [hml]; rfl) (Steps.refl _) (argsL := [(.int bg), (.int en)]) (rest := []) (lenOf own_pd17 rfl) rfl (by show 2 * 0 + _ ≤ _; exact Nat.le_of_eq rfl) (hb hby own_d7_36) (fun _ _ => ⟨rfl, ej36, (by decide : 0 + 2 ≤ _), (by decide : 0 + 8 ≤ _)⟩)
    dsimp only [Pt.U, Pt.locs, Pt.cells, Pt.slots] at X3 l3 y3 z3 st3 hQ3 hS3 hgr3 CR3
    replace X3 := own_cst X3 l3 y3 z3 (k2 := 2) (n2 := 8) rfl rfl
    clear l3 y3 z3
    obtain ⟨sa3, sb3, sk3, svs3, rfl, Nq3, K3, O3, Ex3, Fv3, Fc3, V3⟩ := hQ3
    have NF3 := Fr.app Nj36 Nq3
    have X3 : Stand p l e ({ frames := 6, cells := 8, slots := 32, locals := 136 } : Room) (s.setVm T3.vm) m #[(.ref a1), (.ref a2), (.ref a3)] below meth c T3 _ 2 8 := X3
    have hS := own_sin hS hsw ej36 hS3 hgr3
    have hsw : T3.heap.size ≤ T3.heap.size := Nat.le_refl _
    have hown : (s.setVm T3.vm).vm.findClass "com/example/ratatoskr/ratatoskr/request/RequestPathInfo" = some m.cls := by
      show T3.vm.findClass _ = _
      rw [hS.1.alike.findClass]; exact hown0
    have hZ : Z.Warmed39 (s.setVm T3.vm).vm := State.Warmed39.trans (t := s) hZ0 hS.1
    replace CR := CR.trans CR3
    refine own_goT st3 ?_
    replace E1 := E1.keep K3
    replace F0 := F0.keep K3 nin0
    replace F1 := F1.keep K3 nin0
    replace F2 := F2.keep K3 nin0
    replace F3 := F3.keep K3 nin0
    replace F4 := F4.keep K3 nin0
    replace E3 := E3.keep K3
    replace Fv := Fv.keep K3 nin0
    replace Fc := Fc.keep K3 nin0
    replace V := V.keep K3 nin0
    replace Z0 := Nat.le_trans Z0 K3.1
    replace K0 := K0.trans K3 all0
    have O := O3
    have ne_sa3_a1 : sa3 ≠ a1 := own_exne Ex3 E1 (by decide)
    have ne_sb3_a1 : sb3 ≠ a1 := Ne.symm (Exa.neArv E1 V3 (hw _ (List.mem_of_getElem? (i := 35) rfl)))
    show own_Go _ _ _ _ (T3.setTop (mkF m 39 #[.val (.ref a1), .val (.ref a2), .val (.ref a3), .val (.int ri), .unset, .unset] [(.ref sa3)]))
    refine own_go (fun _ => XS.astore X3.here hx rfl (hb hby own_d7_39) rfl rfl (l' := #[.val (.ref a1), .val (.ref a2), .val (.ref a3), .val (.int ri), .val (.ref sa3), .unset]) rfl) ?_
    refine own_go (fun _ => XS.aload X3.here hx rfl (hb hby own_d7_41) rfl rfl) ?_
    refine own_go (fun _ => XS.bipush X3.here hx rfl (hb hby own_d7_43)) ?_
    show own_Go _ _ _ _ (T3.setTop (mkF m 45 #[.val (.ref a1), .val (.ref a2), .val (.ref a3), .val (.int ri), .val (.ref sa3), .unset] [(.int (46 : Int32)), (.ref sa3)]))
    obtain ⟨cq4, kq4, q4a, q4b, q4c⟩ := isOf hZ rfl Ex3
    obtain ⟨_, _, ⟨T4, L4, k4, n4⟩, -, X4, ⟨Lc4, hQ4, l4, y4, z4⟩, st4⟩ := X3.virtualBack hx (y := (⟨"java/lang/String", "lastIndexOf", "(I)I"⟩ : MethodName)) (z := (⟨"java/lang/String", "lastIndexOf", "(I)I"⟩ : MethodName)) hown (mvT hZ (hw _ (List.mem_of_getElem? (i := 98) rfl))) (mvT hZ (hw _ (List.mem_of_getElem? (i := 99) rfl))) (notFace_of_selects (args := #[]) (mvT hZ (hw _ (List.mem_of_getElem? (i := 101) rfl)))) (mvT hZ (hw _ (List.mem_of_getElem? (i := 101) rfl))) (mvT hZ (hw _ (List.mem_of_getElem? (i := 100) rfl))) (by decide) (own_back (W := 0) (own_rmLI l Z a0 hw sa3 sb3 sk3 cs 46 (en - bg) svs3 T3.heap n0 Z0 Ex3 Fv3 Fc3 V3 O S_C hcs (by decide) (by decide)) hZ (hw _ (List.mem_of_getElem? (i := 102) rfl)) (hw _ (List.mem_of_getElem? (i := 6) rfl)) (by decide) (by decide)) q4a q4c (g := (mkF m 45 #[.val (.ref a1), .val (.ref a2), .val (.ref a3), .val (.int ri), .val (.ref sa3), .unset] [(.int (46 : Int32)), (.ref sa3)])) rfl (by rw [hml]; rfl) (Steps.refl _) (argsL := [(.int (46 : Int32))]) (rest := []) (lenOf own_pd22 rfl) rfl (by show 2 * 0 + _ ≤ _; exact Nat.le_of_eq rfl) (hb hby own_d7_45) (fun _ _ => ⟨rfl, rfl, (by decide : 2 + 0 ≤ _), (by decide : 8 + 0 ≤ _)⟩)
    dsimp only [Pt.U, Pt.locs, Pt.cells, Pt.slots] at X4 l4 y4 z4 st4 hQ4
    replace X4 := own_cst X4 l4 y4 z4 (k2 := 2) (n2 := 8) rfl rfl
    clear l4 y4 z4
    obtain ⟨rd, rfl, Nq4, eq4, hda, hdb⟩ := hQ4
    have NF4 := Fr.app NF3 Nq4
    refine own_goT st4 ?_
    show own_Go _ _ _ _ (T4.setTop (mkF m 48 #[.val (.ref a1), .val (.ref a2), .val (.ref a3), .val (.int ri), .val (.ref sa3), .unset] [(.int rd)]))
    refine own_go (fun _ => XS.istore X4.here hx rfl (hb hby own_d7_48) rfl (l' := #[.val (.ref a1), .val (.ref a2), .val (.ref a3), .val (.int ri), .val (.ref sa3), .val (.int rd)]) rfl) ?_
    refine own_go (fun _ => XS.aloadN X4.here hx rfl (hb hby own_d7_50) rfl rfl) ?_
    refine own_go (fun _ => XS.aloadN X4.here hx rfl (hb hby own_d7_51) rfl rfl) ?_
    obtain ⟨T5, h5, X5, e5, W5, st5⟩ := putF X4 hx hZ hown (host := "") (Or.inl (hw _ (List.mem_of_getElem? (i := 111) rfl))) Via.refl eq4 F0 E1 (Or.inr ⟨(hw _ (List.mem_of_getElem? (i := 112) rfl)), rfl, hnm⟩) (hw _ (List.mem_of_getElem? (i := 35) rfl)) (ty := (.object "java/lang/String")) (by decide) rfl rfl (g := (mkF m 52 #[.val (.ref a1), .val (.ref a2), .val (.ref a3), .val (.int ri), .val (.ref sa3), .val (.int rd)] [(.ref a2), (.ref a1)])) rfl rfl (hb hby own_d7_52)
    refine own_go st5 ?_
    have NF5 := Fr.snoc X5 NF4 ge_a1
    replace F0 := F0.same W5
    have SFo : Safe Z consts_1 T3.vm T3.heap a1 := (Safe.exa hZ.alike E1 (by decide) (by decide))
    replace CR := CR.trans (CHr.wr W5 SFo CR.1)
    clear SFo
    replace E1 := E1.wr W5
    replace F1 := F1.other W5 (Or.inr (slot_ne (Or.inr (hw _ (List.mem_of_getElem? (i := 114) rfl))) (Or.inr (hw _ (List.mem_of_getElem? (i := 112) rfl))) (by decide) (t := (.object "java/lang/String")) (t' := (.object "java/lang/String")) (by decide) (by decide)))
    replace F2 := F2.other W5 (Or.inr (slot_ne (Or.inr (hw _ (List.mem_of_getElem? (i := 125) rfl))) (Or.inr (hw _ (List.mem_of_getElem? (i := 112) rfl))) (by decide) (t := (.object "java/lang/String")) (t' := (.object "java/lang/String")) (by decide) (by decide)))
    replace F3 := F3.other W5 (Or.inr (slot_ne (Or.inr (hw _ (List.mem_of_getElem? (i := 127) rfl))) (Or.inr (hw _ (List.mem_of_getElem? (i := 112) rfl))) (by decide) (t := (.object "java/lang/String")) (t' := (.object "java/lang/String")) (by decide) (by decide)))
    replace F4 := F4.other W5 (Or.inr (slot_ne (Or.inr (hw _ (List.mem_of_getElem? (i := 135) rfl))) (Or.inr (hw _ (List.mem_of_getElem? (i := 112) rfl))) (by decide) (t := (.object "java/util/Map")) (t' := (.object "java/lang/String")) (by decide) (by decide)))
    replace E3 := E3.wr W5
    replace Fv := Fv.other W5 (Or.inl ne_a3_a1)
    replace Fc := Fc.other W5 (Or.inl ne_a3_a1)
    replace V := V.other W5 ne_b_a1
    replace O := O.wr W5 ge_a1
    replace Ex3 := Ex3.wr W5
    replace Fv3 := Fv3.other W5 (Or.inl ne_sa3_a1)
    replace Fc3 := Fc3.other W5 (Or.inl ne_sa3_a1)
    replace V3 := V3.other W5 ne_sb3_a1
    replace Z0 := Nat.le_trans Z0 (Keep.of_wr W5).1
    replace hsw := Nat.le_trans hsw (Keep.of_wr W5).1
    replace K0 := K0.wr W5 (Or.inl (List.mem_of_getElem? (i := 0) rfl))
    show own_Go _ _ _ _ (T5.setTop (mkF m 55 #[.val (.ref a1), .val (.ref a2), .val (.ref a3), .val (.int ri), .val (.ref sa3), .val (.int rd)] []))
    refine own_go (fun _ => XS.aloadN X5.here hx rfl (hb hby own_d7_55) rfl rfl) ?_
    refine own_go (fun _ => XS.iload X5.here hx rfl (hb hby own_d7_56) rfl) ?_
    show own_Go _ _ _ _ (T5.setTop (mkF m 58 #[.val (.ref a1), .val (.ref a2), .val (.ref a3), .val (.int ri), .val (.ref sa3), .val (.int rd)] [(.int rd), (.ref a1)]))
    by_cases hd : rd < (0 : Int32)
    · have _h := hd
      refine own_go (fun _ => XS.ifNo X5.here hx rfl (hb hby own_d7_58) rfl ((if0 _ _).trans (tlt hd).2.1)) ?_
      show own_Go _ _ _ _ (T5.setTop (mkF m 61 #[.val (.ref a1), .val (.ref a2), .val (.ref a3), .val (.int ri), .val (.ref sa3), .val (.int rd)] [(.ref a1)]))
      refine own_go (fun _ => XS.aconstNull X5.here hx rfl (hb hby own_d7_61)) ?_
      refine own_go (fun _ => XS.goto X5.here hx rfl (pc0 := 62) (pc' := 76) rfl (hb hby own_d7_62) (by decide) (by decide)) ?_
      obtain ⟨T6, h6, X6, e6, W6, st6⟩ := putF X5 hx hZ hown (host := "") (Or.inl (hw _ (List.mem_of_getElem? (i := 113) rfl))) Via.refl e5 F1 E1 (Or.inr ⟨(hw _ (List.mem_of_getElem? (i := 114) rfl)), rfl, hnm⟩) (hw _ (List.mem_of_getElem? (i := 35) rfl)) (ty := (.object "java/lang/String")) (by decide) rfl rfl (g := (mkF m 76 #[.val (.ref a1), .val (.ref a2), .val (.ref a3), .val (.int ri), .val (.ref sa3), .val (.int rd)] [.null, (.ref a1)])) rfl rfl (hb hby own_d7_76)
      refine own_go st6 ?_
      have NF6 := Fr.snoc X6 NF5 ge_a1
      replace F1 := F1.same W6
      have SFo : Safe Z consts_1 T3.vm h5 a1 := (Safe.exa hZ.alike E1 (by decide) (by decide))
      replace CR := CR.trans (CHr.wr W6 SFo CR.1)
      clear SFo
      replace E1 := E1.wr W6
      replace F0 := F0.other W6 (Or.inr (slot_ne (Or.inr (hw _ (List.mem_of_getElem? (i := 112) rfl))) (Or.inr (hw _ (List.mem_of_getElem? (i := 114) rfl))) (by decide) (t := (.object "java/lang/String")) (t' := (.object "java/lang/String")) (by decide) (by decide)))
      replace F2 := F2.other W6 (Or.inr (slot_ne (Or.inr (hw _ (List.mem_of_getElem? (i := 125) rfl))) (Or.inr (hw _ (List.mem_of_getElem? (i := 114) rfl))) (by decide) (t := (.object "java/lang/String")) (t' := (.object "java/lang/String")) (by decide) (by decide)))
      replace F3 := F3.other W6 (Or.inr (slot_ne (Or.inr (hw _ (List.mem_of_getElem? (i := 127) rfl))) (Or.inr (hw _ (List.mem_of_getElem? (i := 114) rfl))) (by decide) (t := (.object "java/lang/String")) (t' := (.object "java/lang/String")) (by decide) (by decide)))
      replace F4 := F4.other W6 (Or.inr (slot_ne (Or.inr (hw _ (List.mem_of_getElem? (i := 135) rfl))) (Or.inr (hw _ (List.mem_of_getElem? (i := 114) rfl))) (by decide) (t := (.object "java/util/Map")) (t' := (.object "java/lang/String")) (by decide) (by decide)))
      replace E3 := E3.wr W6
      replace Fv := Fv.other W6 (Or.inl ne_a3_a1)
      replace Fc := Fc.other W6 (Or.inl ne_a3_a1)
      replace V := V.other W6 ne_b_a1
      replace O := O.wr W6 ge_a1
      replace Ex3 := Ex3.wr W6
      replace Fv3 := Fv3.other W6 (Or.inl ne_sa3_a1)
      replace Fc3 := Fc3.other W6 (Or.inl ne_sa3_a1)
      replace V3 := V3.other W6 ne_sb3_a1
      replace Z0 := Nat.le_trans Z0 (Keep.of_wr W6).1
      replace hsw := Nat.le_trans hsw (Keep.of_wr W6).1
      replace K0 := K0.wr W6 (Or.inl (List.mem_of_getElem? (i := 0) rfl))
      refine own_go (fun _ => XS.aloadN X6.here hx rfl (hb hby own_d7_79) rfl rfl) ?_
      show own_Go _ _ _ _ (T6.setTop (mkF m 80 #[.val (.ref a1), .val (.ref a2), .val (.ref a3), .val (.int ri), .val (.ref sa3), .val (.int rd)] [(.ref a1)]))
      refine own_go (fun _ => XS.aload X6.here hx rfl (hb hby own_d7_80) rfl rfl) ?_
      refine own_go (fun _ => XS.iload X6.here hx rfl (hb hby own_d7_82) rfl) ?_
      refine own_go (fun _ => XS.iconst X6.here hx rfl (hb hby own_d7_84)) ?_
      refine own_go (fun _ => XS.iadd X6.here hx rfl (hb hby own_d7_85) rfl) ?_
      show own_Go _ _ _ _ (T6.setTop (mkF m 86 #[.val (.ref a1), .val (.ref a2), .val (.ref a3), .val (.int ri), .val (.ref sa3), .val (.int rd)] [(.int (rd + (1 : Int32))), (.ref sa3), (.ref a1)]))
      obtain ⟨cq7, kq7, q7a, q7b, q7c⟩ := isOf hZ e6 Ex3
      obtain ⟨_, _, ⟨T7, L7, k7, n7⟩, -, X7, hS7, hgr7, ⟨Lc7, hQ7, l7, y7, z7, CR7⟩, st7⟩ := X6.virtualBackS hx (y := (⟨"java/lang/String", "substring", "(I)Ljava/lang/String;"⟩ : MethodName)) (z := (⟨"java/lang/String", "substring", "(I)Ljava/lang/String;"⟩ : MethodName)) hown (mvT hZ (hw _ (List.mem_of_getElem? (i := 115) rfl))) (mvT hZ (hw _ (List.mem_of_getElem? (i := 116) rfl))) (notFace_of_selects (args := #[]) (mvT hZ (hw _ (List.mem_of_getElem? (i := 118) rfl)))) (mvT hZ (hw _ (List.mem_of_getElem? (i := 118) rfl))) (mvT hZ (hw _ (List.mem_of_getElem? (i := 117) rfl))) (by decide) (own_backK (s := s) (vm0 := T3.vm) (W := 1) (own_rmSI l Z a0 hw sa3 sb3 sk3 cs fmt (en - bg) (rd + (1 : Int32)) svs3 h6 n0 Z0 Ex3 Fv3 Fc3 V3 O S_C hcs S_F hfmt (own_d1 hda hdb).1 (own_d1 hda hdb).2 (own_sb4 j1 j2 j3 p4)) hZ (hw _ (List.mem_of_getElem? (i := 119) rfl)) (hw _ (List.mem_of_getElem? (i := 6) rfl)) (by decide) (by decide) (own_ew hw) CR.1) q7a q7c (g := (mkF m 86 #[.val (.ref a1), .val (.ref a2), .val (.ref a3), .val (.int ri), .val (.ref sa3), .val (.int rd)] [(.int (rd + (1 : Int32))), (.ref sa3), (.ref a1)])) rfl (by rw [hml]; rfl) (Steps.refl _) (argsL := [(.int (rd + (1 : Int32)))]) (rest := [(.ref a1)]) (lenOf own_pd23 rfl) rfl (by show 2 * 0 + _ ≤ _; exact Nat.le_of_eq rfl) (hb hby own_d7_86) (fun _ _ => ⟨rfl, e6, (by decide : 2 + 2 ≤ _), (by decide : 8 + 8 ≤ _)⟩)
      dsimp only [Pt.U, Pt.locs, Pt.cells, Pt.slots] at X7 l7 y7 z7 st7 hQ7 hS7 hgr7 CR7
      replace X7 := own_cst X7 l7 y7 z7 (k2 := 4) (n2 := 16) rfl rfl
      clear l7 y7 z7
      obtain ⟨sa7, sb7, sk7, svs7, rfl, Nq7, K7, O7, Ex7, Fv7, Fc7, V7⟩ := hQ7
      have NF7 := Fr.app NF6 Nq7
      have X7 : Stand p l e ({ frames := 6, cells := 8, slots := 32, locals := 136 } : Room) (s.setVm T7.vm) m #[(.ref a1), (.ref a2), (.ref a3)] below meth c T7 _ 4 16 := X7
      have hS := own_sin hS hsw e6 hS7 hgr7
      have hsw : T7.heap.size ≤ T7.heap.size := Nat.le_refl _
      have hown : (s.setVm T7.vm).vm.findClass "com/example/ratatoskr/ratatoskr/request/RequestPathInfo" = some m.cls := by
        show T7.vm.findClass _ = _
        rw [hS.1.alike.findClass]; exact hown0
      have hZ : Z.Warmed39 (s.setVm T7.vm).vm := State.Warmed39.trans (t := s) hZ0 hS.1
      replace CR := CR.trans CR7
      refine own_goT st7 ?_
      replace E1 := E1.keep K7
      replace F0 := F0.keep K7 nin0
      replace F1 := F1.keep K7 nin0
      replace F2 := F2.keep K7 nin0
      replace F3 := F3.keep K7 nin0
      replace F4 := F4.keep K7 nin0
      replace E3 := E3.keep K7
      replace Fv := Fv.keep K7 nin0
      replace Fc := Fc.keep K7 nin0
      replace V := V.keep K7 nin0
      replace Ex3 := Ex3.keep K7
      replace Fv3 := Fv3.keep K7 nin0
      replace Fc3 := Fc3.keep K7 nin0
      replace V3 := V3.keep K7 nin0
      replace Z0 := Nat.le_trans Z0 K7.1
      replace K0 := K0.trans K7 all0
      have O := O7
      show own_Go _ _ _ _ (T7.setTop (mkF m 89 #[.val (.ref a1), .val (.ref a2), .val (.ref a3), .val (.int ri), .val (.ref sa3), .val (.int rd)] [(.ref sa7), (.ref a1)]))
      obtain ⟨_, _, ⟨T8, L8, k8, n8⟩, -, X8, ⟨Lc8, hQ8, l8, y8, z8⟩, st8⟩ := Jvm.LawKit.callS X7 hx (y := (⟨"com/example/ratatoskr/ratatoskr/request/RequestPathInfo", "presentOrNull", "(Ljava/lang/String;)Ljava/lang/String;"⟩ : MethodName)) hown (mvT hZ (hw _ (List.mem_of_getElem? (i := 121) rfl))) (mvT hZ (hw _ (List.mem_of_getElem? (i := 122) rfl))) (mvT hZ (hw _ (List.mem_of_getElem? (i := 36) rfl))) (mvT hZ (hw _ (List.mem_of_getElem? (i := 123) rfl))) (by decide) (own_back (W := 1) (own_rmPN l Z a0 hw sa7 sb7 sk7 ((en - bg) - (rd + (1 : Int32))) svs7 T7.heap n0 Z0 Ex7 Fv7 V7) hZ (hw _ (List.mem_of_getElem? (i := 123) rfl)) (hw _ (List.mem_of_getElem? (i := 36) rfl)) (by decide) (by decide)) (g := (mkF m 89 #[.val (.ref a1), .val (.ref a2), .val (.ref a3), .val (.int ri), .val (.ref sa3), .val (.int rd)] [(.ref sa7), (.ref a1)])) rfl (by rw [hml]; rfl) (argsL := [(.ref sa7)]) (rest := [(.ref a1)]) (lenOf own_pd24 rfl) rfl (by show 2 * 0 + _ ≤ _; exact Nat.le_of_eq rfl) (hb hby own_d7_89) (fun _ _ => ⟨rfl, rfl, (by decide : 4 + 0 ≤ _), (by decide : 16 + 0 ≤ _)⟩)
      dsimp only [Pt.U, Pt.locs, Pt.cells, Pt.slots] at X8 l8 y8 z8 st8 hQ8
      replace X8 := own_cst X8 l8 y8 z8 (k2 := 4) (n2 := 16) rfl rfl
      clear l8 y8 z8
      obtain ⟨w8, rfl, Nq8, eq8, hpn8⟩ := hQ8
      have NF8 := Fr.app NF7 Nq8
      refine own_go st8 ?_
      show own_Go _ _ _ _ (T8.setTop (mkF m 92 #[.val (.ref a1), .val (.ref a2), .val (.ref a3), .val (.int ri), .val (.ref sa3), .val (.int rd)] [w8, (.ref a1)]))
      obtain ⟨T9, h9, X9, e9, W9, st9⟩ := putF X8 hx hZ hown (host := "") (Or.inl (hw _ (List.mem_of_getElem? (i := 124) rfl))) Via.refl eq8 F2 E1 (Or.inr ⟨(hw _ (List.mem_of_getElem? (i := 125) rfl)), rfl, hnm⟩) (hw _ (List.mem_of_getElem? (i := 35) rfl)) (ty := (.object "java/lang/String")) (by decide) (own_narv (own_pnr hpn8)) (own_fitv (own_pnr hpn8)) (g := (mkF m 92 #[.val (.ref a1), .val (.ref a2), .val (.ref a3), .val (.int ri), .val (.ref sa3), .val (.int rd)] [w8, (.ref a1)])) rfl rfl (hb hby own_d7_92)
      refine own_go st9 ?_
      have NF9 := Fr.snoc X9 NF8 ge_a1
      replace F2 := F2.same W9
      have SFo : Safe Z consts_1 T7.vm T7.heap a1 := (Safe.exa hZ.alike E1 (by decide) (by decide))
      replace CR := CR.trans (CHr.wr W9 SFo CR.1)
      clear SFo
      replace E1 := E1.wr W9
      replace F0 := F0.other W9 (Or.inr (slot_ne (Or.inr (hw _ (List.mem_of_getElem? (i := 112) rfl))) (Or.inr (hw _ (List.mem_of_getElem? (i := 125) rfl))) (by decide) (t := (.object "java/lang/String")) (t' := (.object "java/lang/String")) (by decide) (by decide)))
      replace F1 := F1.other W9 (Or.inr (slot_ne (Or.inr (hw _ (List.mem_of_getElem? (i := 114) rfl))) (Or.inr (hw _ (List.mem_of_getElem? (i := 125) rfl))) (by decide) (t := (.object "java/lang/String")) (t' := (.object "java/lang/String")) (by decide) (by decide)))
      replace F3 := F3.other W9 (Or.inr (slot_ne (Or.inr (hw _ (List.mem_of_getElem? (i := 127) rfl))) (Or.inr (hw _ (List.mem_of_getElem? (i := 125) rfl))) (by decide) (t := (.object "java/lang/String")) (t' := (.object "java/lang/String")) (by decide) (by decide)))
      replace F4 := F4.other W9 (Or.inr (slot_ne (Or.inr (hw _ (List.mem_of_getElem? (i := 135) rfl))) (Or.inr (hw _ (List.mem_of_getElem? (i := 125) rfl))) (by decide) (t := (.object "java/util/Map")) (t' := (.object "java/lang/String")) (by decide) (by decide)))
      replace E3 := E3.wr W9
      replace Fv := Fv.other W9 (Or.inl ne_a3_a1)
      replace Fc := Fc.other W9 (Or.inl ne_a3_a1)
      replace V := V.other W9 ne_b_a1
      replace Ex3 := Ex3.wr W9
      replace Fv3 := Fv3.other W9 (Or.inl ne_sa3_a1)
      replace Fc3 := Fc3.other W9 (Or.inl ne_sa3_a1)
      replace V3 := V3.other W9 ne_sb3_a1
      replace O := O.wr W9 ge_a1
      replace Ex7 := Ex7.wr W9
      replace Z0 := Nat.le_trans Z0 (Keep.of_wr W9).1
      replace hsw := Nat.le_trans hsw (Keep.of_wr W9).1
      replace K0 := K0.wr W9 (Or.inl (List.mem_of_getElem? (i := 0) rfl))
      refine own_go (fun _ => XS.aloadN X9.here hx rfl (hb hby own_d7_95) rfl rfl) ?_
      refine own_go (fun _ => XS.iloadN X9.here hx rfl (hb hby own_d7_96) rfl) ?_
      show own_Go _ _ _ _ (T9.setTop (mkF m 97 #[.val (.ref a1), .val (.ref a2), .val (.ref a3), .val (.int ri), .val (.ref sa3), .val (.int rd)] [(.int ri), (.ref a1)]))
      by_cases hi2 : ri < (0 : Int32)
      · have _h := hi2
        refine own_go (fun _ => XS.ifNo X9.here hx rfl (hb hby own_d7_97) rfl ((if0 _ _).trans (tlt hi2).2.1)) ?_
        show own_Go _ _ _ _ (T9.setTop (mkF m 100 #[.val (.ref a1), .val (.ref a2), .val (.ref a3), .val (.int ri), .val (.ref sa3), .val (.int rd)] [(.ref a1)]))
        refine own_go (fun _ => XS.aconstNull X9.here hx rfl (hb hby own_d7_100)) ?_
        refine own_go (fun _ => XS.goto X9.here hx rfl (pc0 := 101) (pc' := 109) rfl (hb hby own_d7_101) (by decide) (by decide)) ?_
        obtain ⟨T10, h10, X10, e10, W10, st10⟩ := putF X9 hx hZ hown (host := "") (Or.inl (hw _ (List.mem_of_getElem? (i := 126) rfl))) Via.refl e9 F3 E1 (Or.inr ⟨(hw _ (List.mem_of_getElem? (i := 127) rfl)), rfl, hnm⟩) (hw _ (List.mem_of_getElem? (i := 35) rfl)) (ty := (.object "java/lang/String")) (by decide) rfl rfl (g := (mkF m 109 #[.val (.ref a1), .val (.ref a2), .val (.ref a3), .val (.int ri), .val (.ref sa3), .val (.int rd)] [.null, (.ref a1)])) rfl rfl (hb hby own_d7_109)
        refine own_go st10 ?_
        have NF10 := Fr.snoc X10 NF9 ge_a1
        replace F3 := F3.same W10
        have SFo : Safe Z consts_1 T7.vm h9 a1 := (Safe.exa hZ.alike E1 (by decide) (by decide))
        replace CR := CR.trans (CHr.wr W10 SFo CR.1)
        clear SFo
        replace E1 := E1.wr W10
        replace F0 := F0.other W10 (Or.inr (slot_ne (Or.inr (hw _ (List.mem_of_getElem? (i := 112) rfl))) (Or.inr (hw _ (List.mem_of_getElem? (i := 127) rfl))) (by decide) (t := (.object "java/lang/String")) (t' := (.object "java/lang/String")) (by decide) (by decide)))
        replace F1 := F1.other W10 (Or.inr (slot_ne (Or.inr (hw _ (List.mem_of_getElem? (i := 114) rfl))) (Or.inr (hw _ (List.mem_of_getElem? (i := 127) rfl))) (by decide) (t := (.object "java/lang/String")) (t' := (.object "java/lang/String")) (by decide) (by decide)))
        replace F2 := F2.other W10 (Or.inr (slot_ne (Or.inr (hw _ (List.mem_of_getElem? (i := 125) rfl))) (Or.inr (hw _ (List.mem_of_getElem? (i := 127) rfl))) (by decide) (t := (.object "java/lang/String")) (t' := (.object "java/lang/String")) (by decide) (by decide)))
        replace F4 := F4.other W10 (Or.inr (slot_ne (Or.inr (hw _ (List.mem_of_getElem? (i := 135) rfl))) (Or.inr (hw _ (List.mem_of_getElem? (i := 127) rfl))) (by decide) (t := (.object "java/util/Map")) (t' := (.object "java/lang/String")) (by decide) (by decide)))
        replace E3 := E3.wr W10
        replace Fv := Fv.other W10 (Or.inl ne_a3_a1)
        replace Fc := Fc.other W10 (Or.inl ne_a3_a1)
        replace V := V.other W10 ne_b_a1
        replace Ex3 := Ex3.wr W10
        replace Fv3 := Fv3.other W10 (Or.inl ne_sa3_a1)
        replace Fc3 := Fc3.other W10 (Or.inl ne_sa3_a1)
        replace V3 := V3.other W10 ne_sb3_a1
        replace O := O.wr W10 ge_a1
        replace Ex7 := Ex7.wr W10
        replace Z0 := Nat.le_trans Z0 (Keep.of_wr W10).1
        replace hsw := Nat.le_trans hsw (Keep.of_wr W10).1
        replace K0 := K0.wr W10 (Or.inl (List.mem_of_getElem? (i := 0) rfl))
        refine own_go (fun _ => XS.aloadN X10.here hx rfl (hb hby own_d7_112) rfl rfl) ?_
        show own_Go _ _ _ _ (T10.setTop (mkF m 113 #[.val (.ref a1), .val (.ref a2), .val (.ref a3), .val (.int ri), .val (.ref sa3), .val (.int rd)] [(.ref a1)]))
        obtain ⟨_, _, ⟨T11, L11, k11, n11⟩, -, X11, ⟨Lc11, hQ11, l11, y11, z11⟩, st11⟩ := Jvm.LawKit.callS X10 hx (y := (⟨"java/util/Map", "of", "()Ljava/util/Map;"⟩ : MethodName)) hown (mvT hZ (hw _ (List.mem_of_getElem? (i := 128) rfl))) (mvT hZ (hw _ (List.mem_of_getElem? (i := 129) rfl))) (mvT hZ (hw _ (List.mem_of_getElem? (i := 130) rfl))) (mvT hZ (hw _ (List.mem_of_getElem? (i := 131) rfl))) (by decide) (own_back (W := 1) (own_rmMO l Z a0 hw em h10 n0 Z0 O S_M) hZ (hw _ (List.mem_of_getElem? (i := 131) rfl)) (hw _ (List.mem_of_getElem? (i := 130) rfl)) (by decide) (by decide)) (g := (mkF m 113 #[.val (.ref a1), .val (.ref a2), .val (.ref a3), .val (.int ri), .val (.ref sa3), .val (.int rd)] [(.ref a1)])) rfl (by rw [hml]; rfl) (argsL := []) (rest := [(.ref a1)]) (lenOf own_pd25 rfl) rfl (by show 2 * 0 + _ ≤ _; exact Nat.le_of_eq rfl) (hb hby own_d7_113) (fun _ _ => ⟨rfl, e10, (by decide : 4 + 0 ≤ _), (by decide : 16 + 0 ≤ _)⟩)
        dsimp only [Pt.U, Pt.locs, Pt.cells, Pt.slots] at X11 l11 y11 z11 st11 hQ11
        replace X11 := own_cst X11 l11 y11 z11 (k2 := 4) (n2 := 16) rfl rfl
        clear l11 y11 z11
        obtain ⟨rfl, Nq11, eq11⟩ := hQ11
        have NF11 := Fr.app NF10 Nq11
        refine own_go st11 ?_
        show own_Go _ _ _ _ (T11.setTop (mkF m 116 #[.val (.ref a1), .val (.ref a2), .val (.ref a3), .val (.int ri), .val (.ref sa3), .val (.int rd)] [(.ref em), (.ref a1)]))
        obtain ⟨T12, h12, X12, e12, W12, st12⟩ := putF X11 hx hZ hown (host := "") (Or.inl (hw _ (List.mem_of_getElem? (i := 134) rfl))) Via.refl eq11 F4 E1 (Or.inr ⟨(hw _ (List.mem_of_getElem? (i := 135) rfl)), rfl, hnm⟩) (hw _ (List.mem_of_getElem? (i := 35) rfl)) (ty := (.object "java/util/Map")) (by decide) rfl rfl (g := (mkF m 116 #[.val (.ref a1), .val (.ref a2), .val (.ref a3), .val (.int ri), .val (.ref sa3), .val (.int rd)] [(.ref em), (.ref a1)])) rfl rfl (hb hby own_d7_116)
        refine own_go st12 ?_
        have NF12 := Fr.snoc X12 NF11 ge_a1
        replace F4 := F4.same W12
        have SFo : Safe Z consts_1 T7.vm h10 a1 := (Safe.exa hZ.alike E1 (by decide) (by decide))
        replace CR := CR.trans (CHr.wr W12 SFo CR.1)
        clear SFo
        replace E1 := E1.wr W12
        replace F0 := F0.other W12 (Or.inr (slot_ne (Or.inr (hw _ (List.mem_of_getElem? (i := 112) rfl))) (Or.inr (hw _ (List.mem_of_getElem? (i := 135) rfl))) (by decide) (t := (.object "java/lang/String")) (t' := (.object "java/util/Map")) (by decide) (by decide)))
        replace F1 := F1.other W12 (Or.inr (slot_ne (Or.inr (hw _ (List.mem_of_getElem? (i := 114) rfl))) (Or.inr (hw _ (List.mem_of_getElem? (i := 135) rfl))) (by decide) (t := (.object "java/lang/String")) (t' := (.object "java/util/Map")) (by decide) (by decide)))
        replace F2 := F2.other W12 (Or.inr (slot_ne (Or.inr (hw _ (List.mem_of_getElem? (i := 125) rfl))) (Or.inr (hw _ (List.mem_of_getElem? (i := 135) rfl))) (by decide) (t := (.object "java/lang/String")) (t' := (.object "java/util/Map")) (by decide) (by decide)))
        replace F3 := F3.other W12 (Or.inr (slot_ne (Or.inr (hw _ (List.mem_of_getElem? (i := 127) rfl))) (Or.inr (hw _ (List.mem_of_getElem? (i := 135) rfl))) (by decide) (t := (.object "java/lang/String")) (t' := (.object "java/util/Map")) (by decide) (by decide)))
        replace E3 := E3.wr W12
        replace Fv := Fv.other W12 (Or.inl ne_a3_a1)
        replace Fc := Fc.other W12 (Or.inl ne_a3_a1)
        replace V := V.other W12 ne_b_a1
        replace Ex3 := Ex3.wr W12
        replace Fv3 := Fv3.other W12 (Or.inl ne_sa3_a1)
        replace Fc3 := Fc3.other W12 (Or.inl ne_sa3_a1)
        replace V3 := V3.other W12 ne_sb3_a1
        replace O := O.wr W12 ge_a1
        replace Ex7 := Ex7.wr W12
        replace Z0 := Nat.le_trans Z0 (Keep.of_wr W12).1
        replace hsw := Nat.le_trans hsw (Keep.of_wr W12).1
        replace K0 := K0.wr W12 (Or.inl (List.mem_of_getElem? (i := 0) rfl))
        show own_Go _ _ _ _ (T12.setTop (mkF m 119 #[.val (.ref a1), .val (.ref a2), .val (.ref a3), .val (.int ri), .val (.ref sa3), .val (.int rd)] []))
        refine own_retK X12 hS e12 hsw hh hZ (own_ew hw) CR hlk (v := none) (fun _ => rfl) (fun fs hr => X12.returnOut hx Bd.returns (hb hby own_d7_119) hr) ?_ (by decide) (by decide)
        try rw [e12]
        exact ⟨.null, w8, .null, rfl, NF12, K0, O, E1, F0, F1, F2, F3, F4, (Or.inl rfl), (own_pns hpn8 Ex7), (Or.inl rfl)⟩
      · have _h := hi2
        refine own_go (fun _ => XS.ifYes X9.here hx rfl (pc0 := 97) (pc' := 104) rfl (hb hby own_d7_97) rfl ((if0 _ _).trans (flt hi2).2.1) (by decide) (by decide)) ?_
        show own_Go _ _ _ _ (T9.setTop (mkF m 104 #[.val (.ref a1), .val (.ref a2), .val (.ref a3), .val (.int ri), .val (.ref sa3), .val (.int rd)] [(.ref a1)]))
        refine own_go (fun _ => XS.aloadN X9.here hx rfl (hb hby own_d7_104) rfl rfl) ?_
        refine own_go (fun _ => XS.iloadN X9.here hx rfl (hb hby own_d7_105) rfl) ?_
        show own_Go _ _ _ _ (T9.setTop (mkF m 106 #[.val (.ref a1), .val (.ref a2), .val (.ref a3), .val (.int ri), .val (.ref sa3), .val (.int rd)] [(.int ri), (.ref a3), (.ref a1)]))
        obtain ⟨cq13, kq13, q13a, q13b, q13c⟩ := isOf hZ e9 E3
        obtain ⟨_, _, ⟨T13, L13, k13, n13⟩, -, X13, hS13, hgr13, ⟨Lc13, hQ13, l13, y13, z13, CR13⟩, st13⟩ := X9.virtualBackS hx (y := (⟨"java/lang/String", "substring", "(I)Ljava/lang/String;"⟩ : MethodName)) (z := (⟨"java/lang/String", "substring", "(I)Ljava/lang/String;"⟩ : MethodName)) hown (mvT hZ (hw _ (List.mem_of_getElem? (i := 115) rfl))) (mvT hZ (hw _ (List.mem_of_getElem? (i := 116) rfl))) (notFace_of_selects (args := #[]) (mvT hZ (hw _ (List.mem_of_getElem? (i := 118) rfl)))) (mvT hZ (hw _ (List.mem_of_getElem? (i := 118) rfl))) (mvT hZ (hw _ (List.mem_of_getElem? (i := 117) rfl))) (by decide) (own_backK (s := s) (vm0 := T7.vm) (W := 1) (own_rmSI l Z a0 hw a3 b k cs fmt z ri vs h9 n0 Z0 E3 Fv Fc V O S_C hcs S_F hfmt (own_ge hi2) (Int.le_of_lt hix.2.1) p4) hZ (hw _ (List.mem_of_getElem? (i := 119) rfl)) (hw _ (List.mem_of_getElem? (i := 6) rfl)) (by decide) (by decide) (own_ew hw) CR.1) q13a q13c (g := (mkF m 106 #[.val (.ref a1), .val (.ref a2), .val (.ref a3), .val (.int ri), .val (.ref sa3), .val (.int rd)] [(.int ri), (.ref a3), (.ref a1)])) rfl (by rw [hml]; rfl) (Steps.refl _) (argsL := [(.int ri)]) (rest := [(.ref a1)]) (lenOf own_pd23 rfl) rfl (by show 2 * 0 + _ ≤ _; exact Nat.le_of_eq rfl) (hb hby own_d7_106) (fun _ _ => ⟨rfl, e9, (by decide : 4 + 2 ≤ _), (by decide : 16 + 8 ≤ _)⟩)
        dsimp only [Pt.U, Pt.locs, Pt.cells, Pt.slots] at X13 l13 y13 z13 st13 hQ13 hS13 hgr13 CR13
        replace X13 := own_cst X13 l13 y13 z13 (k2 := 6) (n2 := 24) rfl rfl
        clear l13 y13 z13
        obtain ⟨sa13, sb13, sk13, svs13, rfl, Nq13, K13, O13, Ex13, Fv13, Fc13, V13⟩ := hQ13
        have NF13 := Fr.app NF9 Nq13
        have X13 : Stand p l e ({ frames := 6, cells := 8, slots := 32, locals := 136 } : Room) (s.setVm T13.vm) m #[(.ref a1), (.ref a2), (.ref a3)] below meth c T13 _ 6 24 := X13
        have hS := own_sin hS hsw e9 hS13 hgr13
        have hsw : T13.heap.size ≤ T13.heap.size := Nat.le_refl _
        have hown : (s.setVm T13.vm).vm.findClass "com/example/ratatoskr/ratatoskr/request/RequestPathInfo" = some m.cls := by
          show T13.vm.findClass _ = _
          rw [hS.1.alike.findClass]; exact hown0
        have hZ : Z.Warmed39 (s.setVm T13.vm).vm := State.Warmed39.trans (t := s) hZ0 hS.1
        replace CR := CR.trans CR13
        refine own_goT st13 ?_
        replace E1 := E1.keep K13
        replace F0 := F0.keep K13 nin0
        replace F1 := F1.keep K13 nin0
        replace F2 := F2.keep K13 nin0
        replace F3 := F3.keep K13 nin0
        replace F4 := F4.keep K13 nin0
        replace E3 := E3.keep K13
        replace Fv := Fv.keep K13 nin0
        replace Fc := Fc.keep K13 nin0
        replace V := V.keep K13 nin0
        replace Ex3 := Ex3.keep K13
        replace Fv3 := Fv3.keep K13 nin0
        replace Fc3 := Fc3.keep K13 nin0
        replace V3 := V3.keep K13 nin0
        replace Ex7 := Ex7.keep K13
        replace Z0 := Nat.le_trans Z0 K13.1
        replace K0 := K0.trans K13 all0
        have O := O13
        show own_Go _ _ _ _ (T13.setTop (mkF m 109 #[.val (.ref a1), .val (.ref a2), .val (.ref a3), .val (.int ri), .val (.ref sa3), .val (.int rd)] [(.ref sa13), (.ref a1)]))
        obtain ⟨T14, h14, X14, e14, W14, st14⟩ := putF X13 hx hZ hown (host := "") (Or.inl (hw _ (List.mem_of_getElem? (i := 126) rfl))) Via.refl rfl F3 E1 (Or.inr ⟨(hw _ (List.mem_of_getElem? (i := 127) rfl)), rfl, hnm⟩) (hw _ (List.mem_of_getElem? (i := 35) rfl)) (ty := (.object "java/lang/String")) (by decide) rfl rfl (g := (mkF m 109 #[.val (.ref a1), .val (.ref a2), .val (.ref a3), .val (.int ri), .val (.ref sa3), .val (.int rd)] [(.ref sa13), (.ref a1)])) rfl rfl (hb hby own_d7_109)
        refine own_go st14 ?_
        have NF14 := Fr.snoc X14 NF13 ge_a1
        replace F3 := F3.same W14
        have SFo : Safe Z consts_1 T13.vm T13.heap a1 := (Safe.exa hZ.alike E1 (by decide) (by decide))
        replace CR := CR.trans (CHr.wr W14 SFo CR.1)
        clear SFo
        replace E1 := E1.wr W14
        replace F0 := F0.other W14 (Or.inr (slot_ne (Or.inr (hw _ (List.mem_of_getElem? (i := 112) rfl))) (Or.inr (hw _ (List.mem_of_getElem? (i := 127) rfl))) (by decide) (t := (.object "java/lang/String")) (t' := (.object "java/lang/String")) (by decide) (by decide)))
        replace F1 := F1.other W14 (Or.inr (slot_ne (Or.inr (hw _ (List.mem_of_getElem? (i := 114) rfl))) (Or.inr (hw _ (List.mem_of_getElem? (i := 127) rfl))) (by decide) (t := (.object "java/lang/String")) (t' := (.object "java/lang/String")) (by decide) (by decide)))
        replace F2 := F2.other W14 (Or.inr (slot_ne (Or.inr (hw _ (List.mem_of_getElem? (i := 125) rfl))) (Or.inr (hw _ (List.mem_of_getElem? (i := 127) rfl))) (by decide) (t := (.object "java/lang/String")) (t' := (.object "java/lang/String")) (by decide) (by decide)))
        replace F4 := F4.other W14 (Or.inr (slot_ne (Or.inr (hw _ (List.mem_of_getElem? (i := 135) rfl))) (Or.inr (hw _ (List.mem_of_getElem? (i := 127) rfl))) (by decide) (t := (.object "java/util/Map")) (t' := (.object "java/lang/String")) (by decide) (by decide)))
        replace E3 := E3.wr W14
        replace Fv := Fv.other W14 (Or.inl ne_a3_a1)
        replace Fc := Fc.other W14 (Or.inl ne_a3_a1)
        replace V := V.other W14 ne_b_a1
        replace Ex3 := Ex3.wr W14
        replace Fv3 := Fv3.other W14 (Or.inl ne_sa3_a1)
        replace Fc3 := Fc3.other W14 (Or.inl ne_sa3_a1)
        replace V3 := V3.other W14 ne_sb3_a1
        replace Ex7 := Ex7.wr W14
        replace O := O.wr W14 ge_a1
        replace Ex13 := Ex13.wr W14
        replace Z0 := Nat.le_trans Z0 (Keep.of_wr W14).1
        replace hsw := Nat.le_trans hsw (Keep.of_wr W14).1
        replace K0 := K0.wr W14 (Or.inl (List.mem_of_getElem? (i := 0) rfl))
        refine own_go (fun _ => XS.aloadN X14.here hx rfl (hb hby own_d7_112) rfl rfl) ?_
        show own_Go _ _ _ _ (T14.setTop (mkF m 113 #[.val (.ref a1), .val (.ref a2), .val (.ref a3), .val (.int ri), .val (.ref sa3), .val (.int rd)] [(.ref a1)]))
        obtain ⟨_, _, ⟨T15, L15, k15, n15⟩, -, X15, ⟨Lc15, hQ15, l15, y15, z15⟩, st15⟩ := Jvm.LawKit.callS X14 hx (y := (⟨"java/util/Map", "of", "()Ljava/util/Map;"⟩ : MethodName)) hown (mvT hZ (hw _ (List.mem_of_getElem? (i := 128) rfl))) (mvT hZ (hw _ (List.mem_of_getElem? (i := 129) rfl))) (mvT hZ (hw _ (List.mem_of_getElem? (i := 130) rfl))) (mvT hZ (hw _ (List.mem_of_getElem? (i := 131) rfl))) (by decide) (own_back (W := 1) (own_rmMO l Z a0 hw em h14 n0 Z0 O S_M) hZ (hw _ (List.mem_of_getElem? (i := 131) rfl)) (hw _ (List.mem_of_getElem? (i := 130) rfl)) (by decide) (by decide)) (g := (mkF m 113 #[.val (.ref a1), .val (.ref a2), .val (.ref a3), .val (.int ri), .val (.ref sa3), .val (.int rd)] [(.ref a1)])) rfl (by rw [hml]; rfl) (argsL := []) (rest := [(.ref a1)]) (lenOf own_pd25 rfl) rfl (by show 2 * 0 + _ ≤ _; exact Nat.le_of_eq rfl) (hb hby own_d7_113) (fun _ _ => ⟨rfl, e14, (by decide : 6 + 0 ≤ _), (by decide : 24 + 0 ≤ _)⟩)
        dsimp only [Pt.U, Pt.locs, Pt.cells, Pt.slots] at X15 l15 y15 z15 st15 hQ15
        replace X15 := own_cst X15 l15 y15 z15 (k2 := 6) (n2 := 24) rfl rfl
        clear l15 y15 z15
        obtain ⟨rfl, Nq15, eq15⟩ := hQ15
        have NF15 := Fr.app NF14 Nq15
        refine own_go st15 ?_
        show own_Go _ _ _ _ (T15.setTop (mkF m 116 #[.val (.ref a1), .val (.ref a2), .val (.ref a3), .val (.int ri), .val (.ref sa3), .val (.int rd)] [(.ref em), (.ref a1)]))
        obtain ⟨T16, h16, X16, e16, W16, st16⟩ := putF X15 hx hZ hown (host := "") (Or.inl (hw _ (List.mem_of_getElem? (i := 134) rfl))) Via.refl eq15 F4 E1 (Or.inr ⟨(hw _ (List.mem_of_getElem? (i := 135) rfl)), rfl, hnm⟩) (hw _ (List.mem_of_getElem? (i := 35) rfl)) (ty := (.object "java/util/Map")) (by decide) rfl rfl (g := (mkF m 116 #[.val (.ref a1), .val (.ref a2), .val (.ref a3), .val (.int ri), .val (.ref sa3), .val (.int rd)] [(.ref em), (.ref a1)])) rfl rfl (hb hby own_d7_116)
        refine own_go st16 ?_
        have NF16 := Fr.snoc X16 NF15 ge_a1
        replace F4 := F4.same W16
        have SFo : Safe Z consts_1 T13.vm h14 a1 := (Safe.exa hZ.alike E1 (by decide) (by decide))
        replace CR := CR.trans (CHr.wr W16 SFo CR.1)
        clear SFo
        replace E1 := E1.wr W16
        replace F0 := F0.other W16 (Or.inr (slot_ne (Or.inr (hw _ (List.mem_of_getElem? (i := 112) rfl))) (Or.inr (hw _ (List.mem_of_getElem? (i := 135) rfl))) (by decide) (t := (.object "java/lang/String")) (t' := (.object "java/util/Map")) (by decide) (by decide)))
        replace F1 := F1.other W16 (Or.inr (slot_ne (Or.inr (hw _ (List.mem_of_getElem? (i := 114) rfl))) (Or.inr (hw _ (List.mem_of_getElem? (i := 135) rfl))) (by decide) (t := (.object "java/lang/String")) (t' := (.object "java/util/Map")) (by decide) (by decide)))
        replace F2 := F2.other W16 (Or.inr (slot_ne (Or.inr (hw _ (List.mem_of_getElem? (i := 125) rfl))) (Or.inr (hw _ (List.mem_of_getElem? (i := 135) rfl))) (by decide) (t := (.object "java/lang/String")) (t' := (.object "java/util/Map")) (by decide) (by decide)))
        replace F3 := F3.other W16 (Or.inr (slot_ne (Or.inr (hw _ (List.mem_of_getElem? (i := 127) rfl))) (Or.inr (hw _ (List.mem_of_getElem? (i := 135) rfl))) (by decide) (t := (.object "java/lang/String")) (t' := (.object "java/util/Map")) (by decide) (by decide)))
        replace E3 := E3.wr W16
        replace Fv := Fv.other W16 (Or.inl ne_a3_a1)
        replace Fc := Fc.other W16 (Or.inl ne_a3_a1)
        replace V := V.other W16 ne_b_a1
        replace Ex3 := Ex3.wr W16
        replace Fv3 := Fv3.other W16 (Or.inl ne_sa3_a1)
        replace Fc3 := Fc3.other W16 (Or.inl ne_sa3_a1)
        replace V3 := V3.other W16 ne_sb3_a1
        replace Ex7 := Ex7.wr W16
        replace O := O.wr W16 ge_a1
        replace Ex13 := Ex13.wr W16
        replace Z0 := Nat.le_trans Z0 (Keep.of_wr W16).1
        replace hsw := Nat.le_trans hsw (Keep.of_wr W16).1
        replace K0 := K0.wr W16 (Or.inl (List.mem_of_getElem? (i := 0) rfl))
        show own_Go _ _ _ _ (T16.setTop (mkF m 119 #[.val (.ref a1), .val (.ref a2), .val (.ref a3), .val (.int ri), .val (.ref sa3), .val (.int rd)] []))
        refine own_retK X16 hS e16 hsw hh hZ (own_ew hw) CR hlk (v := none) (fun _ => rfl) (fun fs hr => X16.returnOut hx Bd.returns (hb hby own_d7_119) hr) ?_ (by decide) (by decide)
        try rw [e16]
        exact ⟨.null, w8, (.ref sa13), rfl, NF16, K0, O, E1, F0, F1, F2, F3, F4, (Or.inl rfl), (own_pns hpn8 Ex7), (Or.inr ⟨_, rfl, Ex13⟩)⟩
    · have _h := hd
      refine own_go (fun _ => XS.ifYes X5.here hx rfl (pc0 := 58) (pc' := 65) rfl (hb hby own_d7_58) rfl ((if0 _ _).trans (flt hd).2.1) (by decide) (by decide)) ?_
      show own_Go _ _ _ _ (T5.setTop (mkF m 65 #[.val (.ref a1), .val (.ref a2), .val (.ref a3), .val (.int ri), .val (.ref sa3), .val (.int rd)] [(.ref a1)]))
      refine own_go (fun _ => XS.aload X5.here hx rfl (hb hby own_d7_65) rfl rfl) ?_
      refine own_go (fun _ => XS.iconst X5.here hx rfl (hb hby own_d7_67)) ?_
      refine own_go (fun _ => XS.iload X5.here hx rfl (hb hby own_d7_68) rfl) ?_
      show own_Go _ _ _ _ (T5.setTop (mkF m 70 #[.val (.ref a1), .val (.ref a2), .val (.ref a3), .val (.int ri), .val (.ref sa3), .val (.int rd)] [(.int rd), (.int (0 : Int32)), (.ref sa3), (.ref a1)]))
      obtain ⟨cq17, kq17, q17a, q17b, q17c⟩ := isOf hZ e5 Ex3
      obtain ⟨_, _, ⟨T17, L17, k17, n17⟩, -, X17, hS17, hgr17, ⟨Lc17, hQ17, l17, y17, z17, CR17⟩, st17⟩ := X5.virtualBackS hx (y := (⟨"java/lang/String", "substring", "(II)Ljava/lang/String;"⟩ : MethodName)) (z := (⟨"java/lang/String", "substring", "(II)Ljava/lang/String;"⟩ : MethodName)) hown (mvT hZ (hw _ (List.mem_of_getElem? (i := 85) rfl))) (mvT hZ (hw _ (List.mem_of_getElem? (i := 86) rfl))) (notFace_of_selects (args := #[]) (mvT hZ (hw _ (List.mem_of_getElem? (i := 88) rfl)))) (mvT hZ (hw _ (List.mem_of_getElem? (i := 88) rfl))) (mvT hZ (hw _ (List.mem_of_getElem? (i := 87) rfl))) (by decide) (own_backK (s := s) (vm0 := T3.vm) (W := 1) (own_rmSS l Z a0 hw sa3 sb3 sk3 cs fmt (en - bg) 0 rd svs3 h5 n0 Z0 Ex3 Fv3 Fc3 V3 O S_C hcs S_F hfmt (by decide) (own_le0 (own_ge hd)) (Int.le_of_lt hdb) (own_sb4 j1 j2 j3 p4)) hZ (hw _ (List.mem_of_getElem? (i := 89) rfl)) (hw _ (List.mem_of_getElem? (i := 6) rfl)) (by decide) (by decide) (own_ew hw) CR.1) q17a q17c (g := (mkF m 70 #[.val (.ref a1), .val (.ref a2), .val (.ref a3), .val (.int ri), .val (.ref sa3), .val (.int rd)] [(.int rd), (.int (0 : Int32)), (.ref sa3), (.ref a1)])) rfl (by rw [hml]; rfl) (Steps.refl _) (argsL := [(.int (0 : Int32)), (.int rd)]) (rest := [(.ref a1)]) (lenOf own_pd17 rfl) rfl (by show 2 * 0 + _ ≤ _; exact Nat.le_of_eq rfl) (hb hby own_d7_70) (fun _ _ => ⟨rfl, e5, (by decide : 2 + 2 ≤ _), (by decide : 8 + 8 ≤ _)⟩)
      dsimp only [Pt.U, Pt.locs, Pt.cells, Pt.slots] at X17 l17 y17 z17 st17 hQ17 hS17 hgr17 CR17
      replace X17 := own_cst X17 l17 y17 z17 (k2 := 4) (n2 := 16) rfl rfl
      clear l17 y17 z17
      obtain ⟨sa17, sb17, sk17, svs17, rfl, Nq17, K17, O17, Ex17, Fv17, Fc17, V17⟩ := hQ17
      have NF17 := Fr.app NF5 Nq17
      have X17 : Stand p l e ({ frames := 6, cells := 8, slots := 32, locals := 136 } : Room) (s.setVm T17.vm) m #[(.ref a1), (.ref a2), (.ref a3)] below meth c T17 _ 4 16 := X17
      have hS := own_sin hS hsw e5 hS17 hgr17
      have hsw : T17.heap.size ≤ T17.heap.size := Nat.le_refl _
      have hown : (s.setVm T17.vm).vm.findClass "com/example/ratatoskr/ratatoskr/request/RequestPathInfo" = some m.cls := by
        show T17.vm.findClass _ = _
        rw [hS.1.alike.findClass]; exact hown0
      have hZ : Z.Warmed39 (s.setVm T17.vm).vm := State.Warmed39.trans (t := s) hZ0 hS.1
      replace CR := CR.trans CR17
      refine own_goT st17 ?_
      replace E1 := E1.keep K17
      replace F0 := F0.keep K17 nin0
      replace F1 := F1.keep K17 nin0
      replace F2 := F2.keep K17 nin0
      replace F3 := F3.keep K17 nin0
      replace F4 := F4.keep K17 nin0
      replace E3 := E3.keep K17
      replace Fv := Fv.keep K17 nin0
      replace Fc := Fc.keep K17 nin0
      replace V := V.keep K17 nin0
      replace Ex3 := Ex3.keep K17
      replace Fv3 := Fv3.keep K17 nin0
      replace Fc3 := Fc3.keep K17 nin0
      replace V3 := V3.keep K17 nin0
      replace Z0 := Nat.le_trans Z0 K17.1
      replace K0 := K0.trans K17 all0
      have O := O17
      show own_Go _ _ _ _ (T17.setTop (mkF m 73 #[.val (.ref a1), .val (.ref a2), .val (.ref a3), .val (.int ri), .val (.ref sa3), .val (.int rd)] [(.ref sa17), (.ref a1)]))
      obtain ⟨_, _, ⟨T18, L18, k18, n18⟩, -, X18, ⟨Lc18, hQ18, l18, y18, z18⟩, st18⟩ := Jvm.LawKit.callS X17 hx (y := (⟨"com/example/ratatoskr/ratatoskr/request/RequestPathInfo", "presentOrNull", "(Ljava/lang/String;)Ljava/lang/String;"⟩ : MethodName)) hown (mvT hZ (hw _ (List.mem_of_getElem? (i := 121) rfl))) (mvT hZ (hw _ (List.mem_of_getElem? (i := 122) rfl))) (mvT hZ (hw _ (List.mem_of_getElem? (i := 36) rfl))) (mvT hZ (hw _ (List.mem_of_getElem? (i := 123) rfl))) (by decide) (own_back (W := 1) (own_rmPN l Z a0 hw sa17 sb17 sk17 (rd - 0) svs17 T17.heap n0 Z0 Ex17 Fv17 V17) hZ (hw _ (List.mem_of_getElem? (i := 123) rfl)) (hw _ (List.mem_of_getElem? (i := 36) rfl)) (by decide) (by decide)) (g := (mkF m 73 #[.val (.ref a1), .val (.ref a2), .val (.ref a3), .val (.int ri), .val (.ref sa3), .val (.int rd)] [(.ref sa17), (.ref a1)])) rfl (by rw [hml]; rfl) (argsL := [(.ref sa17)]) (rest := [(.ref a1)]) (lenOf own_pd24 rfl) rfl (by show 2 * 0 + _ ≤ _; exact Nat.le_of_eq rfl) (hb hby own_d7_73) (fun _ _ => ⟨rfl, rfl, (by decide : 4 + 0 ≤ _), (by decide : 16 + 0 ≤ _)⟩)
      dsimp only [Pt.U, Pt.locs, Pt.cells, Pt.slots] at X18 l18 y18 z18 st18 hQ18
      replace X18 := own_cst X18 l18 y18 z18 (k2 := 4) (n2 := 16) rfl rfl
      clear l18 y18 z18
      obtain ⟨w18, rfl, Nq18, eq18, hpn18⟩ := hQ18
      have NF18 := Fr.app NF17 Nq18
      refine own_go st18 ?_
      show own_Go _ _ _ _ (T18.setTop (mkF m 76 #[.val (.ref a1), .val (.ref a2), .val (.ref a3), .val (.int ri), .val (.ref sa3), .val (.int rd)] [w18, (.ref a1)]))
      obtain ⟨T19, h19, X19, e19, W19, st19⟩ := putF X18 hx hZ hown (host := "") (Or.inl (hw _ (List.mem_of_getElem? (i := 113) rfl))) Via.refl eq18 F1 E1 (Or.inr ⟨(hw _ (List.mem_of_getElem? (i := 114) rfl)), rfl, hnm⟩) (hw _ (List.mem_of_getElem? (i := 35) rfl)) (ty := (.object "java/lang/String")) (by decide) (own_narv (own_pnr hpn18)) (own_fitv (own_pnr hpn18)) (g := (mkF m 76 #[.val (.ref a1), .val (.ref a2), .val (.ref a3), .val (.int ri), .val (.ref sa3), .val (.int rd)] [w18, (.ref a1)])) rfl rfl (hb hby own_d7_76)
      refine own_go st19 ?_
      have NF19 := Fr.snoc X19 NF18 ge_a1
      replace F1 := F1.same W19
      have SFo : Safe Z consts_1 T17.vm T17.heap a1 := (Safe.exa hZ.alike E1 (by decide) (by decide))
      replace CR := CR.trans (CHr.wr W19 SFo CR.1)
      clear SFo
      replace E1 := E1.wr W19
      replace F0 := F0.other W19 (Or.inr (slot_ne (Or.inr (hw _ (List.mem_of_getElem? (i := 112) rfl))) (Or.inr (hw _ (List.mem_of_getElem? (i := 114) rfl))) (by decide) (t := (.object "java/lang/String")) (t' := (.object "java/lang/String")) (by decide) (by decide)))
      replace F2 := F2.other W19 (Or.inr (slot_ne (Or.inr (hw _ (List.mem_of_getElem? (i := 125) rfl))) (Or.inr (hw _ (List.mem_of_getElem? (i := 114) rfl))) (by decide) (t := (.object "java/lang/String")) (t' := (.object "java/lang/String")) (by decide) (by decide)))
      replace F3 := F3.other W19 (Or.inr (slot_ne (Or.inr (hw _ (List.mem_of_getElem? (i := 127) rfl))) (Or.inr (hw _ (List.mem_of_getElem? (i := 114) rfl))) (by decide) (t := (.object "java/lang/String")) (t' := (.object "java/lang/String")) (by decide) (by decide)))
      replace F4 := F4.other W19 (Or.inr (slot_ne (Or.inr (hw _ (List.mem_of_getElem? (i := 135) rfl))) (Or.inr (hw _ (List.mem_of_getElem? (i := 114) rfl))) (by decide) (t := (.object "java/util/Map")) (t' := (.object "java/lang/String")) (by decide) (by decide)))
      replace E3 := E3.wr W19
      replace Fv := Fv.other W19 (Or.inl ne_a3_a1)
      replace Fc := Fc.other W19 (Or.inl ne_a3_a1)
      replace V := V.other W19 ne_b_a1
      replace Ex3 := Ex3.wr W19
      replace Fv3 := Fv3.other W19 (Or.inl ne_sa3_a1)
      replace Fc3 := Fc3.other W19 (Or.inl ne_sa3_a1)
      replace V3 := V3.other W19 ne_sb3_a1
      replace O := O.wr W19 ge_a1
      replace Ex17 := Ex17.wr W19
      replace Z0 := Nat.le_trans Z0 (Keep.of_wr W19).1
      replace hsw := Nat.le_trans hsw (Keep.of_wr W19).1
      replace K0 := K0.wr W19 (Or.inl (List.mem_of_getElem? (i := 0) rfl))
      refine own_go (fun _ => XS.aloadN X19.here hx rfl (hb hby own_d7_79) rfl rfl) ?_
      refine own_go (fun _ => XS.aload X19.here hx rfl (hb hby own_d7_80) rfl rfl) ?_
      refine own_go (fun _ => XS.iload X19.here hx rfl (hb hby own_d7_82) rfl) ?_
      show own_Go _ _ _ _ (T19.setTop (mkF m 84 #[.val (.ref a1), .val (.ref a2), .val (.ref a3), .val (.int ri), .val (.ref sa3), .val (.int rd)] [(.int rd), (.ref sa3), (.ref a1)]))
      refine own_go (fun _ => XS.iconst X19.here hx rfl (hb hby own_d7_84)) ?_
      refine own_go (fun _ => XS.iadd X19.here hx rfl (hb hby own_d7_85) rfl) ?_
      show own_Go _ _ _ _ (T19.setTop (mkF m 86 #[.val (.ref a1), .val (.ref a2), .val (.ref a3), .val (.int ri), .val (.ref sa3), .val (.int rd)] [(.int (rd + (1 : Int32))), (.ref sa3), (.ref a1)]))
      obtain ⟨cq20, kq20, q20a, q20b, q20c⟩ := isOf hZ e19 Ex3
      obtain ⟨_, _, ⟨T20, L20, k20, n20⟩, -, X20, hS20, hgr20, ⟨Lc20, hQ20, l20, y20, z20, CR20⟩, st20⟩ := X19.virtualBackS hx (y := (⟨"java/lang/String", "substring", "(I)Ljava/lang/String;"⟩ : MethodName)) (z := (⟨"java/lang/String", "substring", "(I)Ljava/lang/String;"⟩ : MethodName)) hown (mvT hZ (hw _ (List.mem_of_getElem? (i := 115) rfl))) (mvT hZ (hw _ (List.mem_of_getElem? (i := 116) rfl))) (notFace_of_selects (args := #[]) (mvT hZ (hw _ (List.mem_of_getElem? (i := 118) rfl)))) (mvT hZ (hw _ (List.mem_of_getElem? (i := 118) rfl))) (mvT hZ (hw _ (List.mem_of_getElem? (i := 117) rfl))) (by decide) (own_backK (s := s) (vm0 := T17.vm) (W := 1) (own_rmSI l Z a0 hw sa3 sb3 sk3 cs fmt (en - bg) (rd + (1 : Int32)) svs3 h19 n0 Z0 Ex3 Fv3 Fc3 V3 O S_C hcs S_F hfmt (own_d1 hda hdb).1 (own_d1 hda hdb).2 (own_sb4 j1 j2 j3 p4)) hZ (hw _ (List.mem_of_getElem? (i := 119) rfl)) (hw _ (List.mem_of_getElem? (i := 6) rfl)) (by decide) (by decide) (own_ew hw) CR.1) q20a q20c (g := (mkF m 86 #[.val (.ref a1), .val (.ref a2), .val (.ref a3), .val (.int ri), .val (.ref sa3), .val (.int rd)] [(.int (rd + (1 : Int32))), (.ref sa3), (.ref a1)])) rfl (by rw [hml]; rfl) (Steps.refl _) (argsL := [(.int (rd + (1 : Int32)))]) (rest := [(.ref a1)]) (lenOf own_pd23 rfl) rfl (by show 2 * 0 + _ ≤ _; exact Nat.le_of_eq rfl) (hb hby own_d7_86) (fun _ _ => ⟨rfl, e19, (by decide : 4 + 2 ≤ _), (by decide : 16 + 8 ≤ _)⟩)
      dsimp only [Pt.U, Pt.locs, Pt.cells, Pt.slots] at X20 l20 y20 z20 st20 hQ20 hS20 hgr20 CR20
      replace X20 := own_cst X20 l20 y20 z20 (k2 := 6) (n2 := 24) rfl rfl
      clear l20 y20 z20
      obtain ⟨sa20, sb20, sk20, svs20, rfl, Nq20, K20, O20, Ex20, Fv20, Fc20, V20⟩ := hQ20
      have NF20 := Fr.app NF19 Nq20
      have X20 : Stand p l e ({ frames := 6, cells := 8, slots := 32, locals := 136 } : Room) (s.setVm T20.vm) m #[(.ref a1), (.ref a2), (.ref a3)] below meth c T20 _ 6 24 := X20
      have hS := own_sin hS hsw e19 hS20 hgr20
      have hsw : T20.heap.size ≤ T20.heap.size := Nat.le_refl _
      have hown : (s.setVm T20.vm).vm.findClass "com/example/ratatoskr/ratatoskr/request/RequestPathInfo" = some m.cls := by
        show T20.vm.findClass _ = _
        rw [hS.1.alike.findClass]; exact hown0
      have hZ : Z.Warmed39 (s.setVm T20.vm).vm := State.Warmed39.trans (t := s) hZ0 hS.1
      replace CR := CR.trans CR20
      refine own_goT st20 ?_
      replace E1 := E1.keep K20
      replace F0 := F0.keep K20 nin0
      replace F1 := F1.keep K20 nin0
      replace F2 := F2.keep K20 nin0
      replace F3 := F3.keep K20 nin0
      replace F4 := F4.keep K20 nin0
      replace E3 := E3.keep K20
      replace Fv := Fv.keep K20 nin0
      replace Fc := Fc.keep K20 nin0
      replace V := V.keep K20 nin0
      replace Ex3 := Ex3.keep K20
      replace Fv3 := Fv3.keep K20 nin0
      replace Fc3 := Fc3.keep K20 nin0
      replace V3 := V3.keep K20 nin0
      replace Ex17 := Ex17.keep K20
      replace Z0 := Nat.le_trans Z0 K20.1
      replace K0 := K0.trans K20 all0
      have O := O20
      show own_Go _ _ _ _ (T20.setTop (mkF m 89 #[.val (.ref a1), .val (.ref a2), .val (.ref a3), .val (.int ri), .val (.ref sa3), .val (.int rd)] [(.ref sa20), (.ref a1)]))
      obtain ⟨_, _, ⟨T21, L21, k21, n21⟩, -, X21, ⟨Lc21, hQ21, l21, y21, z21⟩, st21⟩ := Jvm.LawKit.callS X20 hx (y := (⟨"com/example/ratatoskr/ratatoskr/request/RequestPathInfo", "presentOrNull", "(Ljava/lang/String;)Ljava/lang/String;"⟩ : MethodName)) hown (mvT hZ (hw _ (List.mem_of_getElem? (i := 121) rfl))) (mvT hZ (hw _ (List.mem_of_getElem? (i := 122) rfl))) (mvT hZ (hw _ (List.mem_of_getElem? (i := 36) rfl))) (mvT hZ (hw _ (List.mem_of_getElem? (i := 123) rfl))) (by decide) (own_back (W := 1) (own_rmPN l Z a0 hw sa20 sb20 sk20 ((en - bg) - (rd + (1 : Int32))) svs20 T20.heap n0 Z0 Ex20 Fv20 V20) hZ (hw _ (List.mem_of_getElem? (i := 123) rfl)) (hw _ (List.mem_of_getElem? (i := 36) rfl)) (by decide) (by decide)) (g := (mkF m 89 #[.val (.ref a1), .val (.ref a2), .val (.ref a3), .val (.int ri), .val (.ref sa3), .val (.int rd)] [(.ref sa20), (.ref a1)])) rfl (by rw [hml]; rfl) (argsL := [(.ref sa20)]) (rest := [(.ref a1)]) (lenOf own_pd24 rfl) rfl (by show 2 * 0 + _ ≤ _; exact Nat.le_of_eq rfl) (hb hby own_d7_89) (fun _ _ => ⟨rfl, rfl, (by decide : 6 + 0 ≤ _), (by decide : 24 + 0 ≤ _)⟩)
      dsimp only [Pt.U, Pt.locs, Pt.cells, Pt.slots] at X21 l21 y21 z21 st21 hQ21
      replace X21 := own_cst X21 l21 y21 z21 (k2 := 6) (n2 := 24) rfl rfl
      clear l21 y21 z21
      obtain ⟨w21, rfl, Nq21, eq21, hpn21⟩ := hQ21
      have NF21 := Fr.app NF20 Nq21
      refine own_go st21 ?_
      show own_Go _ _ _ _ (T21.setTop (mkF m 92 #[.val (.ref a1), .val (.ref a2), .val (.ref a3), .val (.int ri), .val (.ref sa3), .val (.int rd)] [w21, (.ref a1)]))
      obtain ⟨T22, h22, X22, e22, W22, st22⟩ := putF X21 hx hZ hown (host := "") (Or.inl (hw _ (List.mem_of_getElem? (i := 124) rfl))) Via.refl eq21 F2 E1 (Or.inr ⟨(hw _ (List.mem_of_getElem? (i := 125) rfl)), rfl, hnm⟩) (hw _ (List.mem_of_getElem? (i := 35) rfl)) (ty := (.object "java/lang/String")) (by decide) (own_narv (own_pnr hpn21)) (own_fitv (own_pnr hpn21)) (g := (mkF m 92 #[.val (.ref a1), .val (.ref a2), .val (.ref a3), .val (.int ri), .val (.ref sa3), .val (.int rd)] [w21, (.ref a1)])) rfl rfl (hb hby own_d7_92)
      refine own_go st22 ?_
      have NF22 := Fr.snoc X22 NF21 ge_a1
      replace F2 := F2.same W22
      have SFo : Safe Z consts_1 T20.vm T20.heap a1 := (Safe.exa hZ.alike E1 (by decide) (by decide))
      replace CR := CR.trans (CHr.wr W22 SFo CR.1)
      clear SFo
      replace E1 := E1.wr W22
      replace F0 := F0.other W22 (Or.inr (slot_ne (Or.inr (hw _ (List.mem_of_getElem? (i := 112) rfl))) (Or.inr (hw _ (List.mem_of_getElem? (i := 125) rfl))) (by decide) (t := (.object "java/lang/String")) (t' := (.object "java/lang/String")) (by decide) (by decide)))
      replace F1 := F1.other W22 (Or.inr (slot_ne (Or.inr (hw _ (List.mem_of_getElem? (i := 114) rfl))) (Or.inr (hw _ (List.mem_of_getElem? (i := 125) rfl))) (by decide) (t := (.object "java/lang/String")) (t' := (.object "java/lang/String")) (by decide) (by decide)))
      replace F3 := F3.other W22 (Or.inr (slot_ne (Or.inr (hw _ (List.mem_of_getElem? (i := 127) rfl))) (Or.inr (hw _ (List.mem_of_getElem? (i := 125) rfl))) (by decide) (t := (.object "java/lang/String")) (t' := (.object "java/lang/String")) (by decide) (by decide)))
      replace F4 := F4.other W22 (Or.inr (slot_ne (Or.inr (hw _ (List.mem_of_getElem? (i := 135) rfl))) (Or.inr (hw _ (List.mem_of_getElem? (i := 125) rfl))) (by decide) (t := (.object "java/util/Map")) (t' := (.object "java/lang/String")) (by decide) (by decide)))
      replace E3 := E3.wr W22
      replace Fv := Fv.other W22 (Or.inl ne_a3_a1)
      replace Fc := Fc.other W22 (Or.inl ne_a3_a1)
      replace V := V.other W22 ne_b_a1
      replace Ex3 := Ex3.wr W22
      replace Fv3 := Fv3.other W22 (Or.inl ne_sa3_a1)
      replace Fc3 := Fc3.other W22 (Or.inl ne_sa3_a1)
      replace V3 := V3.other W22 ne_sb3_a1
      replace Ex17 := Ex17.wr W22
      replace O := O.wr W22 ge_a1
      replace Ex20 := Ex20.wr W22
      replace Z0 := Nat.le_trans Z0 (Keep.of_wr W22).1
      replace hsw := Nat.le_trans hsw (Keep.of_wr W22).1
      replace K0 := K0.wr W22 (Or.inl (List.mem_of_getElem? (i := 0) rfl))
      refine own_go (fun _ => XS.aloadN X22.here hx rfl (hb hby own_d7_95) rfl rfl) ?_
      refine own_go (fun _ => XS.iloadN X22.here hx rfl (hb hby own_d7_96) rfl) ?_
      show own_Go _ _ _ _ (T22.setTop (mkF m 97 #[.val (.ref a1), .val (.ref a2), .val (.ref a3), .val (.int ri), .val (.ref sa3), .val (.int rd)] [(.int ri), (.ref a1)]))
      by_cases hi2 : ri < (0 : Int32)
      · have _h := hi2
        refine own_go (fun _ => XS.ifNo X22.here hx rfl (hb hby own_d7_97) rfl ((if0 _ _).trans (tlt hi2).2.1)) ?_
        show own_Go _ _ _ _ (T22.setTop (mkF m 100 #[.val (.ref a1), .val (.ref a2), .val (.ref a3), .val (.int ri), .val (.ref sa3), .val (.int rd)] [(.ref a1)]))
        refine own_go (fun _ => XS.aconstNull X22.here hx rfl (hb hby own_d7_100)) ?_
        refine own_go (fun _ => XS.goto X22.here hx rfl (pc0 := 101) (pc' := 109) rfl (hb hby own_d7_101) (by decide) (by decide)) ?_
        obtain ⟨T23, h23, X23, e23, W23, st23⟩ := putF X22 hx hZ hown (host := "") (Or.inl (hw _ (List.mem_of_getElem? (i := 126) rfl))) Via.refl e22 F3 E1 (Or.inr ⟨(hw _ (List.mem_of_getElem? (i := 127) rfl)), rfl, hnm⟩) (hw _ (List.mem_of_getElem? (i := 35) rfl)) (ty := (.object "java/lang/String")) (by decide) rfl rfl (g := (mkF m 109 #[.val (.ref a1), .val (.ref a2), .val (.ref a3), .val (.int ri), .val (.ref sa3), .val (.int rd)] [.null, (.ref a1)])) rfl rfl (hb hby own_d7_109)
        refine own_go st23 ?_
        have NF23 := Fr.snoc X23 NF22 ge_a1
        replace F3 := F3.same W23
        have SFo : Safe Z consts_1 T20.vm h22 a1 := (Safe.exa hZ.alike E1 (by decide) (by decide))
        replace CR := CR.trans (CHr.wr W23 SFo CR.1)
        clear SFo
        replace E1 := E1.wr W23
        replace F0 := F0.other W23 (Or.inr (slot_ne (Or.inr (hw _ (List.mem_of_getElem? (i := 112) rfl))) (Or.inr (hw _ (List.mem_of_getElem? (i := 127) rfl))) (by decide) (t := (.object "java/lang/String")) (t' := (.object "java/lang/String")) (by decide) (by decide)))
        replace F1 := F1.other W23 (Or.inr (slot_ne (Or.inr (hw _ (List.mem_of_getElem? (i := 114) rfl))) (Or.inr (hw _ (List.mem_of_getElem? (i := 127) rfl))) (by decide) (t := (.object "java/lang/String")) (t' := (.object "java/lang/String")) (by decide) (by decide)))
        replace F2 := F2.other W23 (Or.inr (slot_ne (Or.inr (hw _ (List.mem_of_getElem? (i := 125) rfl))) (Or.inr (hw _ (List.mem_of_getElem? (i := 127) rfl))) (by decide) (t := (.object "java/lang/String")) (t' := (.object "java/lang/String")) (by decide) (by decide)))
        replace F4 := F4.other W23 (Or.inr (slot_ne (Or.inr (hw _ (List.mem_of_getElem? (i := 135) rfl))) (Or.inr (hw _ (List.mem_of_getElem? (i := 127) rfl))) (by decide) (t := (.object "java/util/Map")) (t' := (.object "java/lang/String")) (by decide) (by decide)))
        replace E3 := E3.wr W23
        replace Fv := Fv.other W23 (Or.inl ne_a3_a1)
        replace Fc := Fc.other W23 (Or.inl ne_a3_a1)
        replace V := V.other W23 ne_b_a1
        replace Ex3 := Ex3.wr W23
        replace Fv3 := Fv3.other W23 (Or.inl ne_sa3_a1)
        replace Fc3 := Fc3.other W23 (Or.inl ne_sa3_a1)
        replace V3 := V3.other W23 ne_sb3_a1
        replace Ex17 := Ex17.wr W23
        replace O := O.wr W23 ge_a1
        replace Ex20 := Ex20.wr W23
        replace Z0 := Nat.le_trans Z0 (Keep.of_wr W23).1
        replace hsw := Nat.le_trans hsw (Keep.of_wr W23).1
        replace K0 := K0.wr W23 (Or.inl (List.mem_of_getElem? (i := 0) rfl))
        refine own_go (fun _ => XS.aloadN X23.here hx rfl (hb hby own_d7_112) rfl rfl) ?_
        show own_Go _ _ _ _ (T23.setTop (mkF m 113 #[.val (.ref a1), .val (.ref a2), .val (.ref a3), .val (.int ri), .val (.ref sa3), .val (.int rd)] [(.ref a1)]))
        obtain ⟨_, _, ⟨T24, L24, k24, n24⟩, -, X24, ⟨Lc24, hQ24, l24, y24, z24⟩, st24⟩ := Jvm.LawKit.callS X23 hx (y := (⟨"java/util/Map", "of", "()Ljava/util/Map;"⟩ : MethodName)) hown (mvT hZ (hw _ (List.mem_of_getElem? (i := 128) rfl))) (mvT hZ (hw _ (List.mem_of_getElem? (i := 129) rfl))) (mvT hZ (hw _ (List.mem_of_getElem? (i := 130) rfl))) (mvT hZ (hw _ (List.mem_of_getElem? (i := 131) rfl))) (by decide) (own_back (W := 1) (own_rmMO l Z a0 hw em h23 n0 Z0 O S_M) hZ (hw _ (List.mem_of_getElem? (i := 131) rfl)) (hw _ (List.mem_of_getElem? (i := 130) rfl)) (by decide) (by decide)) (g := (mkF m 113 #[.val (.ref a1), .val (.ref a2), .val (.ref a3), .val (.int ri), .val (.ref sa3), .val (.int rd)] [(.ref a1)])) rfl (by rw [hml]; rfl) (argsL := []) (rest := [(.ref a1)]) (lenOf own_pd25 rfl) rfl (by show 2 * 0 + _ ≤ _; exact Nat.le_of_eq rfl) (hb hby own_d7_113) (fun _ _ => ⟨rfl, e23, (by decide : 6 + 0 ≤ _), (by decide : 24 + 0 ≤ _)⟩)
        dsimp only [Pt.U, Pt.locs, Pt.cells, Pt.slots] at X24 l24 y24 z24 st24 hQ24
        replace X24 := own_cst X24 l24 y24 z24 (k2 := 6) (n2 := 24) rfl rfl
        clear l24 y24 z24
        obtain ⟨rfl, Nq24, eq24⟩ := hQ24
        have NF24 := Fr.app NF23 Nq24
        refine own_go st24 ?_
        show own_Go _ _ _ _ (T24.setTop (mkF m 116 #[.val (.ref a1), .val (.ref a2), .val (.ref a3), .val (.int ri), .val (.ref sa3), .val (.int rd)] [(.ref em), (.ref a1)]))
        obtain ⟨T25, h25, X25, e25, W25, st25⟩ := putF X24 hx hZ hown (host := "") (Or.inl (hw _ (List.mem_of_getElem? (i := 134) rfl))) Via.refl eq24 F4 E1 (Or.inr ⟨(hw _ (List.mem_of_getElem? (i := 135) rfl)), rfl, hnm⟩) (hw _ (List.mem_of_getElem? (i := 35) rfl)) (ty := (.object "java/util/Map")) (by decide) rfl rfl (g := (mkF m 116 #[.val (.ref a1), .val (.ref a2), .val (.ref a3), .val (.int ri), .val (.ref sa3), .val (.int rd)] [(.ref em), (.ref a1)])) rfl rfl (hb hby own_d7_116)
        refine own_go st25 ?_
        have NF25 := Fr.snoc X25 NF24 ge_a1
        replace F4 := F4.same W25
        have SFo : Safe Z consts_1 T20.vm h23 a1 := (Safe.exa hZ.alike E1 (by decide) (by decide))
        replace CR := CR.trans (CHr.wr W25 SFo CR.1)
        clear SFo
        replace E1 := E1.wr W25
        replace F0 := F0.other W25 (Or.inr (slot_ne (Or.inr (hw _ (List.mem_of_getElem? (i := 112) rfl))) (Or.inr (hw _ (List.mem_of_getElem? (i := 135) rfl))) (by decide) (t := (.object "java/lang/String")) (t' := (.object "java/util/Map")) (by decide) (by decide)))
        replace F1 := F1.other W25 (Or.inr (slot_ne (Or.inr (hw _ (List.mem_of_getElem? (i := 114) rfl))) (Or.inr (hw _ (List.mem_of_getElem? (i := 135) rfl))) (by decide) (t := (.object "java/lang/String")) (t' := (.object "java/util/Map")) (by decide) (by decide)))
        replace F2 := F2.other W25 (Or.inr (slot_ne (Or.inr (hw _ (List.mem_of_getElem? (i := 125) rfl))) (Or.inr (hw _ (List.mem_of_getElem? (i := 135) rfl))) (by decide) (t := (.object "java/lang/String")) (t' := (.object "java/util/Map")) (by decide) (by decide)))
        replace F3 := F3.other W25 (Or.inr (slot_ne (Or.inr (hw _ (List.mem_of_getElem? (i := 127) rfl))) (Or.inr (hw _ (List.mem_of_getElem? (i := 135) rfl))) (by decide) (t := (.object "java/lang/String")) (t' := (.object "java/util/Map")) (by decide) (by decide)))
        replace E3 := E3.wr W25
        replace Fv := Fv.other W25 (Or.inl ne_a3_a1)
        replace Fc := Fc.other W25 (Or.inl ne_a3_a1)
        replace V := V.other W25 ne_b_a1
        replace Ex3 := Ex3.wr W25
        replace Fv3 := Fv3.other W25 (Or.inl ne_sa3_a1)
        replace Fc3 := Fc3.other W25 (Or.inl ne_sa3_a1)
        replace V3 := V3.other W25 ne_sb3_a1
        replace Ex17 := Ex17.wr W25
        replace O := O.wr W25 ge_a1
        replace Ex20 := Ex20.wr W25
        replace Z0 := Nat.le_trans Z0 (Keep.of_wr W25).1
        replace hsw := Nat.le_trans hsw (Keep.of_wr W25).1
        replace K0 := K0.wr W25 (Or.inl (List.mem_of_getElem? (i := 0) rfl))
        show own_Go _ _ _ _ (T25.setTop (mkF m 119 #[.val (.ref a1), .val (.ref a2), .val (.ref a3), .val (.int ri), .val (.ref sa3), .val (.int rd)] []))
        refine own_retK X25 hS e25 hsw hh hZ (own_ew hw) CR hlk (v := none) (fun _ => rfl) (fun fs hr => X25.returnOut hx Bd.returns (hb hby own_d7_119) hr) ?_ (by decide) (by decide)
        try rw [e25]
        exact ⟨w18, w21, .null, rfl, NF25, K0, O, E1, F0, F1, F2, F3, F4, (own_pns hpn18 Ex17), (own_pns hpn21 Ex20), (Or.inl rfl)⟩
      · have _h := hi2
        refine own_go (fun _ => XS.ifYes X22.here hx rfl (pc0 := 97) (pc' := 104) rfl (hb hby own_d7_97) rfl ((if0 _ _).trans (flt hi2).2.1) (by decide) (by decide)) ?_
        show own_Go _ _ _ _ (T22.setTop (mkF m 104 #[.val (.ref a1), .val (.ref a2), .val (.ref a3), .val (.int ri), .val (.ref sa3), .val (.int rd)] [(.ref a1)]))
        refine own_go (fun _ => XS.aloadN X22.here hx rfl (hb hby own_d7_104) rfl rfl) ?_
        refine own_go (fun _ => XS.iloadN X22.here hx rfl (hb hby own_d7_105) rfl) ?_
        show own_Go _ _ _ _ (T22.setTop (mkF m 106 #[.val (.ref a1), .val (.ref a2), .val (.ref a3), .val (.int ri), .val (.ref sa3), .val (.int rd)] [(.int ri), (.ref a3), (.ref a1)]))
        obtain ⟨cq26, kq26, q26a, q26b, q26c⟩ := isOf hZ e22 E3
        obtain ⟨_, _, ⟨T26, L26, k26, n26⟩, -, X26, hS26, hgr26, ⟨Lc26, hQ26, l26, y26, z26, CR26⟩, st26⟩ := X22.virtualBackS hx (y := (⟨"java/lang/String", "substring", "(I)Ljava/lang/String;"⟩ : MethodName)) (z := (⟨"java/lang/String", "substring", "(I)Ljava/lang/String;"⟩ : MethodName)) hown (mvT hZ (hw _ (List.mem_of_getElem? (i := 115) rfl))) (mvT hZ (hw _ (List.mem_of_getElem? (i := 116) rfl))) (notFace_of_selects (args := #[]) (mvT hZ (hw _ (List.mem_of_getElem? (i := 118) rfl)))) (mvT hZ (hw _ (List.mem_of_getElem? (i := 118) rfl))) (mvT hZ (hw _ (List.mem_of_getElem? (i := 117) rfl))) (by decide) (own_backK (s := s) (vm0 := T20.vm) (W := 1) (own_rmSI l Z a0 hw a3 b k cs fmt z ri vs h22 n0 Z0 E3 Fv Fc V O S_C hcs S_F hfmt (own_ge hi2) (Int.le_of_lt hix.2.1) p4) hZ (hw _ (List.mem_of_getElem? (i := 119) rfl)) (hw _ (List.mem_of_getElem? (i := 6) rfl)) (by decide) (by decide) (own_ew hw) CR.1) q26a q26c (g := (mkF m 106 #[.val (.ref a1), .val (.ref a2), .val (.ref a3), .val (.int ri), .val (.ref sa3), .val (.int rd)] [(.int ri), (.ref a3), (.ref a1)])) rfl (by rw [hml]; rfl) (Steps.refl _) (argsL := [(.int ri)]) (rest := [(.ref a1)]) (lenOf own_pd23 rfl) rfl (by show 2 * 0 + _ ≤ _; exact Nat.le_of_eq rfl) (hb hby own_d7_106) (fun _ _ => ⟨rfl, e22, (by decide : 6 + 2 ≤ _), (by decide : 24 + 8 ≤ _)⟩)
        dsimp only [Pt.U, Pt.locs, Pt.cells, Pt.slots] at X26 l26 y26 z26 st26 hQ26 hS26 hgr26 CR26
        replace X26 := own_cst X26 l26 y26 z26 (k2 := 8) (n2 := 32) rfl rfl
        clear l26 y26 z26
        obtain ⟨sa26, sb26, sk26, svs26, rfl, Nq26, K26, O26, Ex26, Fv26, Fc26, V26⟩ := hQ26
        have NF26 := Fr.app NF22 Nq26
        have X26 : Stand p l e ({ frames := 6, cells := 8, slots := 32, locals := 136 } : Room) (s.setVm T26.vm) m #[(.ref a1), (.ref a2), (.ref a3)] below meth c T26 _ 8 32 := X26
        have hS := own_sin hS hsw e22 hS26 hgr26
        have hsw : T26.heap.size ≤ T26.heap.size := Nat.le_refl _
        have hown : (s.setVm T26.vm).vm.findClass "com/example/ratatoskr/ratatoskr/request/RequestPathInfo" = some m.cls := by
          show T26.vm.findClass _ = _
          rw [hS.1.alike.findClass]; exact hown0
        have hZ : Z.Warmed39 (s.setVm T26.vm).vm := State.Warmed39.trans (t := s) hZ0 hS.1
        replace CR := CR.trans CR26
        refine own_goT st26 ?_
        replace E1 := E1.keep K26
        replace F0 := F0.keep K26 nin0
        replace F1 := F1.keep K26 nin0
        replace F2 := F2.keep K26 nin0
        replace F3 := F3.keep K26 nin0
        replace F4 := F4.keep K26 nin0
        replace E3 := E3.keep K26
        replace Fv := Fv.keep K26 nin0
        replace Fc := Fc.keep K26 nin0
        replace V := V.keep K26 nin0
        replace Ex3 := Ex3.keep K26
        replace Fv3 := Fv3.keep K26 nin0
        replace Fc3 := Fc3.keep K26 nin0
        replace V3 := V3.keep K26 nin0
        replace Ex17 := Ex17.keep K26
        replace Ex20 := Ex20.keep K26
        replace Z0 := Nat.le_trans Z0 K26.1
        replace K0 := K0.trans K26 all0
        have O := O26
        show own_Go _ _ _ _ (T26.setTop (mkF m 109 #[.val (.ref a1), .val (.ref a2), .val (.ref a3), .val (.int ri), .val (.ref sa3), .val (.int rd)] [(.ref sa26), (.ref a1)]))
        obtain ⟨T27, h27, X27, e27, W27, st27⟩ := putF X26 hx hZ hown (host := "") (Or.inl (hw _ (List.mem_of_getElem? (i := 126) rfl))) Via.refl rfl F3 E1 (Or.inr ⟨(hw _ (List.mem_of_getElem? (i := 127) rfl)), rfl, hnm⟩) (hw _ (List.mem_of_getElem? (i := 35) rfl)) (ty := (.object "java/lang/String")) (by decide) rfl rfl (g := (mkF m 109 #[.val (.ref a1), .val (.ref a2), .val (.ref a3), .val (.int ri), .val (.ref sa3), .val (.int rd)] [(.ref sa26), (.ref a1)])) rfl rfl (hb hby own_d7_109)
        refine own_go st27 ?_
        have NF27 := Fr.snoc X27 NF26 ge_a1
        replace F3 := F3.same W27
        have SFo : Safe Z consts_1 T26.vm T26.heap a1 := (Safe.exa hZ.alike E1 (by decide) (by decide))
        replace CR := CR.trans (CHr.wr W27 SFo CR.1)
        clear SFo
        replace E1 := E1.wr W27
        replace F0 := F0.other W27 (Or.inr (slot_ne (Or.inr (hw _ (List.mem_of_getElem? (i := 112) rfl))) (Or.inr (hw _ (List.mem_of_getElem? (i := 127) rfl))) (by decide) (t := (.object "java/lang/String")) (t' := (.object "java/lang/String")) (by decide) (by decide)))
        replace F1 := F1.other W27 (Or.inr (slot_ne (Or.inr (hw _ (List.mem_of_getElem? (i := 114) rfl))) (Or.inr (hw _ (List.mem_of_getElem? (i := 127) rfl))) (by decide) (t := (.object "java/lang/String")) (t' := (.object "java/lang/String")) (by decide) (by decide)))
        replace F2 := F2.other W27 (Or.inr (slot_ne (Or.inr (hw _ (List.mem_of_getElem? (i := 125) rfl))) (Or.inr (hw _ (List.mem_of_getElem? (i := 127) rfl))) (by decide) (t := (.object "java/lang/String")) (t' := (.object "java/lang/String")) (by decide) (by decide)))
        replace F4 := F4.other W27 (Or.inr (slot_ne (Or.inr (hw _ (List.mem_of_getElem? (i := 135) rfl))) (Or.inr (hw _ (List.mem_of_getElem? (i := 127) rfl))) (by decide) (t := (.object "java/util/Map")) (t' := (.object "java/lang/String")) (by decide) (by decide)))
        replace E3 := E3.wr W27
        replace Fv := Fv.other W27 (Or.inl ne_a3_a1)
        replace Fc := Fc.other W27 (Or.inl ne_a3_a1)
        replace V := V.other W27 ne_b_a1
        replace Ex3 := Ex3.wr W27
        replace Fv3 := Fv3.other W27 (Or.inl ne_sa3_a1)
        replace Fc3 := Fc3.other W27 (Or.inl ne_sa3_a1)
        replace V3 := V3.other W27 ne_sb3_a1
        replace Ex17 := Ex17.wr W27
        replace Ex20 := Ex20.wr W27
        replace O := O.wr W27 ge_a1
        replace Ex26 := Ex26.wr W27
        replace Z0 := Nat.le_trans Z0 (Keep.of_wr W27).1
        replace hsw := Nat.le_trans hsw (Keep.of_wr W27).1
        replace K0 := K0.wr W27 (Or.inl (List.mem_of_getElem? (i := 0) rfl))
        refine own_go (fun _ => XS.aloadN X27.here hx rfl (hb hby own_d7_112) rfl rfl) ?_
        show own_Go _ _ _ _ (T27.setTop (mkF m 113 #[.val (.ref a1), .val (.ref a2), .val (.ref a3), .val (.int ri), .val (.ref sa3), .val (.int rd)] [(.ref a1)]))
        obtain ⟨_, _, ⟨T28, L28, k28, n28⟩, -, X28, ⟨Lc28, hQ28, l28, y28, z28⟩, st28⟩ := Jvm.LawKit.callS X27 hx (y := (⟨"java/util/Map", "of", "()Ljava/util/Map;"⟩ : MethodName)) hown (mvT hZ (hw _ (List.mem_of_getElem? (i := 128) rfl))) (mvT hZ (hw _ (List.mem_of_getElem? (i := 129) rfl))) (mvT hZ (hw _ (List.mem_of_getElem? (i := 130) rfl))) (mvT hZ (hw _ (List.mem_of_getElem? (i := 131) rfl))) (by decide) (own_back (W := 1) (own_rmMO l Z a0 hw em h27 n0 Z0 O S_M) hZ (hw _ (List.mem_of_getElem? (i := 131) rfl)) (hw _ (List.mem_of_getElem? (i := 130) rfl)) (by decide) (by decide)) (g := (mkF m 113 #[.val (.ref a1), .val (.ref a2), .val (.ref a3), .val (.int ri), .val (.ref sa3), .val (.int rd)] [(.ref a1)])) rfl (by rw [hml]; rfl) (argsL := []) (rest := [(.ref a1)]) (lenOf own_pd25 rfl) rfl (by show 2 * 0 + _ ≤ _; exact Nat.le_of_eq rfl) (hb hby own_d7_113) (fun _ _ => ⟨rfl, e27, (by decide : 8 + 0 ≤ _), (by decide : 32 + 0 ≤ _)⟩)
        dsimp only [Pt.U, Pt.locs, Pt.cells, Pt.slots] at X28 l28 y28 z28 st28 hQ28
        replace X28 := own_cst X28 l28 y28 z28 (k2 := 8) (n2 := 32) rfl rfl
        clear l28 y28 z28
        obtain ⟨rfl, Nq28, eq28⟩ := hQ28
        have NF28 := Fr.app NF27 Nq28
        refine own_go st28 ?_
        show own_Go _ _ _ _ (T28.setTop (mkF m 116 #[.val (.ref a1), .val (.ref a2), .val (.ref a3), .val (.int ri), .val (.ref sa3), .val (.int rd)] [(.ref em), (.ref a1)]))
        obtain ⟨T29, h29, X29, e29, W29, st29⟩ := putF X28 hx hZ hown (host := "") (Or.inl (hw _ (List.mem_of_getElem? (i := 134) rfl))) Via.refl eq28 F4 E1 (Or.inr ⟨(hw _ (List.mem_of_getElem? (i := 135) rfl)), rfl, hnm⟩) (hw _ (List.mem_of_getElem? (i := 35) rfl)) (ty := (.object "java/util/Map")) (by decide) rfl rfl (g := (mkF m 116 #[.val (.ref a1), .val (.ref a2), .val (.ref a3), .val (.int ri), .val (.ref sa3), .val (.int rd)] [(.ref em), (.ref a1)])) rfl rfl (hb hby own_d7_116)
        refine own_go st29 ?_
        have NF29 := Fr.snoc X29 NF28 ge_a1
        replace F4 := F4.same W29
        have SFo : Safe Z consts_1 T26.vm h27 a1 := (Safe.exa hZ.alike E1 (by decide) (by decide))
        replace CR := CR.trans (CHr.wr W29 SFo CR.1)
        clear SFo
        replace E1 := E1.wr W29
        replace F0 := F0.other W29 (Or.inr (slot_ne (Or.inr (hw _ (List.mem_of_getElem? (i := 112) rfl))) (Or.inr (hw _ (List.mem_of_getElem? (i := 135) rfl))) (by decide) (t := (.object "java/lang/String")) (t' := (.object "java/util/Map")) (by decide) (by decide)))
        replace F1 := F1.other W29 (Or.inr (slot_ne (Or.inr (hw _ (List.mem_of_getElem? (i := 114) rfl))) (Or.inr (hw _ (List.mem_of_getElem? (i := 135) rfl))) (by decide) (t := (.object "java/lang/String")) (t' := (.object "java/util/Map")) (by decide) (by decide)))
        replace F2 := F2.other W29 (Or.inr (slot_ne (Or.inr (hw _ (List.mem_of_getElem? (i := 125) rfl))) (Or.inr (hw _ (List.mem_of_getElem? (i := 135) rfl))) (by decide) (t := (.object "java/lang/String")) (t' := (.object "java/util/Map")) (by decide) (by decide)))
        replace F3 := F3.other W29 (Or.inr (slot_ne (Or.inr (hw _ (List.mem_of_getElem? (i := 127) rfl))) (Or.inr (hw _ (List.mem_of_getElem? (i := 135) rfl))) (by decide) (t := (.object "java/lang/String")) (t' := (.object "java/util/Map")) (by decide) (by decide)))
        replace E3 := E3.wr W29
        replace Fv := Fv.other W29 (Or.inl ne_a3_a1)
        replace Fc := Fc.other W29 (Or.inl ne_a3_a1)
        replace V := V.other W29 ne_b_a1
        replace Ex3 := Ex3.wr W29
        replace Fv3 := Fv3.other W29 (Or.inl ne_sa3_a1)
        replace Fc3 := Fc3.other W29 (Or.inl ne_sa3_a1)
        replace V3 := V3.other W29 ne_sb3_a1
        replace Ex17 := Ex17.wr W29
        replace Ex20 := Ex20.wr W29
        replace O := O.wr W29 ge_a1
        replace Ex26 := Ex26.wr W29
        replace Z0 := Nat.le_trans Z0 (Keep.of_wr W29).1
        replace hsw := Nat.le_trans hsw (Keep.of_wr W29).1
        replace K0 := K0.wr W29 (Or.inl (List.mem_of_getElem? (i := 0) rfl))
        show own_Go _ _ _ _ (T29.setTop (mkF m 119 #[.val (.ref a1), .val (.ref a2), .val (.ref a3), .val (.int ri), .val (.ref sa3), .val (.int rd)] []))
        refine own_retK X29 hS e29 hsw hh hZ (own_ew hw) CR hlk (v := none) (fun _ => rfl) (fun fs hr => X29.returnOut hx Bd.returns (hb hby own_d7_119) hr) ?_ (by decide) (by decide)
        try rw [e29]
        exact ⟨w18, w21, (.ref sa26), rfl, NF29, K0, O, E1, F0, F1, F2, F3, F4, (own_pns hpn18 Ex17), (own_pns hpn21 Ex20), (Or.inr ⟨_, rfl, Ex26⟩)⟩
  by_cases hz : z = (0 : Int32)
  · have _u := trivial
    obtain ⟨cq30, kq30, q30a, q30b, q30c⟩ := isOf hZ eq2 E3
    obtain ⟨_, _, ⟨T30, L30, k30, n30⟩, -, X30, ⟨Lc30, hQ30, l30, y30, z30⟩, st30⟩ := X2.virtualBack hx (y := (⟨"java/lang/String", "isEmpty", "()Z"⟩ : MethodName)) (z := (⟨"java/lang/String", "isEmpty", "()Z"⟩ : MethodName)) hown (mvT hZ (hw _ (List.mem_of_getElem? (i := 79) rfl))) (mvT hZ (hw _ (List.mem_of_getElem? (i := 80) rfl))) (notFace_of_selects (args := #[]) (mvT hZ (hw _ (List.mem_of_getElem? (i := 82) rfl)))) (mvT hZ (hw _ (List.mem_of_getElem? (i := 82) rfl))) (mvT hZ (hw _ (List.mem_of_getElem? (i := 81) rfl))) (by decide) (own_back (W := 1) (own_rmeZ l Z a0 hw a3 b k z vs h0 n0 Z0 Fv V hz) hZ (hw _ (List.mem_of_getElem? (i := 83) rfl)) (hw _ (List.mem_of_getElem? (i := 6) rfl)) (by decide) (by decide)) q30a q30c (g := (mkF m 13 #[.val (.ref a1), .val (.ref a2), .val (.ref a3), .val (.int ri), .unset, .unset] [(.ref a3), (.ref a3)])) rfl (by rw [hml]; rfl) (Steps.refl _) (argsL := []) (rest := [(.ref a3)]) (lenOf own_pd8 rfl) rfl (by show 2 * 0 + _ ≤ _; exact Nat.le_of_eq rfl) (hb hby own_d7_13) (fun _ _ => ⟨rfl, eq2, (by decide : 0 + 0 ≤ _), (by decide : 0 + 0 ≤ _)⟩)
    dsimp only [Pt.U, Pt.locs, Pt.cells, Pt.slots] at X30 l30 y30 z30 st30 hQ30
    replace X30 := own_cst X30 l30 y30 z30 (k2 := 0) (n2 := 0) rfl rfl
    clear l30 y30 z30
    obtain ⟨rfl, Nq30, eq30⟩ := hQ30
    have NF30 := Fr.app NF2 Nq30
    refine own_goT st30 ?_
    show own_Go _ _ _ _ (T30.setTop (mkF m 16 #[.val (.ref a1), .val (.ref a2), .val (.ref a3), .val (.int ri), .unset, .unset] [(.int (1 : Int32)), (.ref a3)]))
    refine own_go (fun _ => XS.ifNo X30.here hx rfl (hb hby own_d7_16) rfl ((if0 _ _).trans (feq (by decide)).1)) ?_
    show own_Go _ _ _ _ (T30.setTop (mkF m 19 #[.val (.ref a1), .val (.ref a2), .val (.ref a3), .val (.int ri), .unset, .unset] [(.ref a3)]))
    refine own_go (fun _ => XS.iconst X30.here hx rfl (hb hby own_d7_19)) ?_
    refine own_go (fun _ => XS.goto X30.here hx rfl (pc0 := 20) (pc' := 24) rfl (hb hby own_d7_20) (by decide) (by decide)) ?_
    refine own_go (fun _ => XS.iloadN X30.here hx rfl (hb hby own_d7_24) rfl) ?_
    show own_Go _ _ _ _ (T30.setTop (mkF m 25 #[.val (.ref a1), .val (.ref a2), .val (.ref a3), .val (.int ri), .unset, .unset] [(.int ri), (.int (0 : Int32)), (.ref a3)]))
    by_cases hi : ri < (0 : Int32)
    · have _h := hi
      refine own_go (fun _ => XS.ifNo X30.here hx rfl (hb hby own_d7_25) rfl ((if0 _ _).trans (tlt hi).2.1)) ?_
      show own_Go _ _ _ _ (T30.setTop (mkF m 28 #[.val (.ref a1), .val (.ref a2), .val (.ref a3), .val (.int ri), .unset, .unset] [(.int (0 : Int32)), (.ref a3)]))
      refine own_go (fun _ => XS.aloadN X30.here hx rfl (hb hby own_d7_28) rfl rfl) ?_
      show own_Go _ _ _ _ (T30.setTop (mkF m 29 #[.val (.ref a1), .val (.ref a2), .val (.ref a3), .val (.int ri), .unset, .unset] [(.ref a3), (.int (0 : Int32)), (.ref a3)]))
      obtain ⟨cq31, kq31, q31a, q31b, q31c⟩ := isOf hZ eq30 E3
      obtain ⟨_, _, ⟨T31, L31, k31, n31⟩, -, X31, ⟨Lc31, hQ31, l31, y31, z31⟩, st31⟩ := X30.virtualBack hx (y := (⟨"java/lang/String", "length", "()I"⟩ : MethodName)) (z := (⟨"java/lang/String", "length", "()I"⟩ : MethodName)) hown (mvT hZ (hw _ (List.mem_of_getElem? (i := 84) rfl))) (mvT hZ (hw _ (List.mem_of_getElem? (i := 57) rfl))) (notFace_of_selects (args := #[]) (mvT hZ (hw _ (List.mem_of_getElem? (i := 59) rfl)))) (mvT hZ (hw _ (List.mem_of_getElem? (i := 59) rfl))) (mvT hZ (hw _ (List.mem_of_getElem? (i := 58) rfl))) (by decide) (own_back (W := 2) (own_rmln0 l Z a0 hw a3 b k cs z z vs h0 n0 Z0 E3 Fv Fc V O S_C hcs (own_shr0 z)) hZ (hw _ (List.mem_of_getElem? (i := 60) rfl)) (hw _ (List.mem_of_getElem? (i := 6) rfl)) (by decide) (by decide)) q31a q31c (g := (mkF m 29 #[.val (.ref a1), .val (.ref a2), .val (.ref a3), .val (.int ri), .unset, .unset] [(.ref a3), (.int (0 : Int32)), (.ref a3)])) rfl (by rw [hml]; rfl) (Steps.refl _) (argsL := []) (rest := [(.int (0 : Int32)), (.ref a3)]) (lenOf own_pd9 rfl) rfl (by show 2 * 0 + _ ≤ _; exact Nat.le_of_eq rfl) (hb hby own_d7_29) (fun _ _ => ⟨rfl, eq30, (by decide : 0 + 0 ≤ _), (by decide : 0 + 0 ≤ _)⟩)
      dsimp only [Pt.U, Pt.locs, Pt.cells, Pt.slots] at X31 l31 y31 z31 st31 hQ31
      replace X31 := own_cst X31 l31 y31 z31 (k2 := 0) (n2 := 0) rfl rfl
      clear l31 y31 z31
      obtain ⟨rfl, Nq31, eq31⟩ := hQ31
      have NF31 := Fr.app NF30 Nq31
      refine own_goT st31 ?_
      show own_Go _ _ _ _ (T31.setTop (mkF m 32 #[.val (.ref a1), .val (.ref a2), .val (.ref a3), .val (.int ri), .unset, .unset] [(.int z), (.int (0 : Int32)), (.ref a3)]))
      refine own_go (fun _ => XS.goto X31.here hx rfl (pc0 := 32) (pc' := 36) rfl (hb hby own_d7_32) (by decide) (by decide)) ?_
      show own_Go _ _ _ _ (T31.setTop (mkF m 36 #[.val (.ref a1), .val (.ref a2), .val (.ref a3), .val (.int ri), .unset, .unset] [(.int z), (.int (0 : Int32)), (.ref a3)]))
      exact J36 (0 : Int32) z (by decide) (own_le0 hz0) (Int.le_refl _) _ _ X31 NF31 eq31
    · have _h := hi
      refine own_go (fun _ => XS.ifYes X30.here hx rfl (pc0 := 25) (pc' := 35) rfl (hb hby own_d7_25) rfl ((if0 _ _).trans (flt hi).2.1) (by decide) (by decide)) ?_
      show own_Go _ _ _ _ (T30.setTop (mkF m 35 #[.val (.ref a1), .val (.ref a2), .val (.ref a3), .val (.int ri), .unset, .unset] [(.int (0 : Int32)), (.ref a3)]))
      refine own_go (fun _ => XS.iloadN X30.here hx rfl (hb hby own_d7_35) rfl) ?_
      show own_Go _ _ _ _ (T30.setTop (mkF m 36 #[.val (.ref a1), .val (.ref a2), .val (.ref a3), .val (.int ri), .unset, .unset] [(.int ri), (.int (0 : Int32)), (.ref a3)]))
      exact J36 (0 : Int32) ri (by decide) (own_le0 (own_ge hi)) (Int.le_of_lt hix.2.1) _ _ X30 NF30 eq30
  · have _u := trivial
    obtain ⟨cq32, kq32, q32a, q32b, q32c⟩ := isOf hZ eq2 E3
    obtain ⟨_, _, ⟨T32, L32, k32, n32⟩, -, X32, ⟨Lc32, hQ32, l32, y32, z32⟩, st32⟩ := X2.virtualBack hx (y := (⟨"java/lang/String", "isEmpty", "()Z"⟩ : MethodName)) (z := (⟨"java/lang/String", "isEmpty", "()Z"⟩ : MethodName)) hown (mvT hZ (hw _ (List.mem_of_getElem? (i := 79) rfl))) (mvT hZ (hw _ (List.mem_of_getElem? (i := 80) rfl))) (notFace_of_selects (args := #[]) (mvT hZ (hw _ (List.mem_of_getElem? (i := 82) rfl)))) (mvT hZ (hw _ (List.mem_of_getElem? (i := 82) rfl))) (mvT hZ (hw _ (List.mem_of_getElem? (i := 81) rfl))) (by decide) (own_back (W := 1) (own_rme l Z a0 hw a3 b k z vs h0 n0 Z0 Fv V hz) hZ (hw _ (List.mem_of_getElem? (i := 83) rfl)) (hw _ (List.mem_of_getElem? (i := 6) rfl)) (by decide) (by decide)) q32a q32c (g := (mkF m 13 #[.val (.ref a1), .val (.ref a2), .val (.ref a3), .val (.int ri), .unset, .unset] [(.ref a3), (.ref a3)])) rfl (by rw [hml]; rfl) (Steps.refl _) (argsL := []) (rest := [(.ref a3)]) (lenOf own_pd8 rfl) rfl (by show 2 * 0 + _ ≤ _; exact Nat.le_of_eq rfl) (hb hby own_d7_13) (fun _ _ => ⟨rfl, eq2, (by decide : 0 + 0 ≤ _), (by decide : 0 + 0 ≤ _)⟩)
    dsimp only [Pt.U, Pt.locs, Pt.cells, Pt.slots] at X32 l32 y32 z32 st32 hQ32
    replace X32 := own_cst X32 l32 y32 z32 (k2 := 0) (n2 := 0) rfl rfl
    clear l32 y32 z32
    obtain ⟨rfl, Nq32, eq32⟩ := hQ32
    have NF32 := Fr.app NF2 Nq32
    refine own_goT st32 ?_
    show own_Go _ _ _ _ (T32.setTop (mkF m 16 #[.val (.ref a1), .val (.ref a2), .val (.ref a3), .val (.int ri), .unset, .unset] [(.int (0 : Int32)), (.ref a3)]))
    refine own_go (fun _ => XS.ifYes X32.here hx rfl (pc0 := 16) (pc' := 23) rfl (hb hby own_d7_16) rfl ((if0 _ _).trans (teq rfl).1) (by decide) (by decide)) ?_
    show own_Go _ _ _ _ (T32.setTop (mkF m 23 #[.val (.ref a1), .val (.ref a2), .val (.ref a3), .val (.int ri), .unset, .unset] [(.ref a3)]))
    refine own_go (fun _ => XS.iconst X32.here hx rfl (hb hby own_d7_23)) ?_
    refine own_go (fun _ => XS.iloadN X32.here hx rfl (hb hby own_d7_24) rfl) ?_
    show own_Go _ _ _ _ (T32.setTop (mkF m 25 #[.val (.ref a1), .val (.ref a2), .val (.ref a3), .val (.int ri), .unset, .unset] [(.int ri), (.int (1 : Int32)), (.ref a3)]))
    by_cases hi : ri < (0 : Int32)
    · have _h := hi
      refine own_go (fun _ => XS.ifNo X32.here hx rfl (hb hby own_d7_25) rfl ((if0 _ _).trans (tlt hi).2.1)) ?_
      show own_Go _ _ _ _ (T32.setTop (mkF m 28 #[.val (.ref a1), .val (.ref a2), .val (.ref a3), .val (.int ri), .unset, .unset] [(.int (1 : Int32)), (.ref a3)]))
      refine own_go (fun _ => XS.aloadN X32.here hx rfl (hb hby own_d7_28) rfl rfl) ?_
      show own_Go _ _ _ _ (T32.setTop (mkF m 29 #[.val (.ref a1), .val (.ref a2), .val (.ref a3), .val (.int ri), .unset, .unset] [(.ref a3), (.int (1 : Int32)), (.ref a3)]))
      obtain ⟨cq33, kq33, q33a, q33b, q33c⟩ := isOf hZ eq32 E3
      obtain ⟨_, _, ⟨T33, L33, k33, n33⟩, -, X33, ⟨Lc33, hQ33, l33, y33, z33⟩, st33⟩ := X32.virtualBack hx (y := (⟨"java/lang/String", "length", "()I"⟩ : MethodName)) (z := (⟨"java/lang/String", "length", "()I"⟩ : MethodName)) hown (mvT hZ (hw _ (List.mem_of_getElem? (i := 84) rfl))) (mvT hZ (hw _ (List.mem_of_getElem? (i := 57) rfl))) (notFace_of_selects (args := #[]) (mvT hZ (hw _ (List.mem_of_getElem? (i := 59) rfl)))) (mvT hZ (hw _ (List.mem_of_getElem? (i := 59) rfl))) (mvT hZ (hw _ (List.mem_of_getElem? (i := 58) rfl))) (by decide) (own_back (W := 2) (own_rmln0 l Z a0 hw a3 b k cs z z vs h0 n0 Z0 E3 Fv Fc V O S_C hcs (own_shr0 z)) hZ (hw _ (List.mem_of_getElem? (i := 60) rfl)) (hw _ (List.mem_of_getElem? (i := 6) rfl)) (by decide) (by decide)) q33a q33c (g := (mkF m 29 #[.val (.ref a1), .val (.ref a2), .val (.ref a3), .val (.int ri), .unset, .unset] [(.ref a3), (.int (1 : Int32)), (.ref a3)])) rfl (by rw [hml]; rfl) (Steps.refl _) (argsL := []) (rest := [(.int (1 : Int32)), (.ref a3)]) (lenOf own_pd9 rfl) rfl (by show 2 * 0 + _ ≤ _; exact Nat.le_of_eq rfl) (hb hby own_d7_29) (fun _ _ => ⟨rfl, eq32, (by decide : 0 + 0 ≤ _), (by decide : 0 + 0 ≤ _)⟩)
      dsimp only [Pt.U, Pt.locs, Pt.cells, Pt.slots] at X33 l33 y33 z33 st33 hQ33
      replace X33 := own_cst X33 l33 y33 z33 (k2 := 0) (n2 := 0) rfl rfl
      clear l33 y33 z33
      obtain ⟨rfl, Nq33, eq33⟩ := hQ33
      have NF33 := Fr.app NF32 Nq33
      refine own_goT st33 ?_
      show own_Go _ _ _ _ (T33.setTop (mkF m 32 #[.val (.ref a1), .val (.ref a2), .val (.ref a3), .val (.int ri), .unset, .unset] [(.int z), (.int (1 : Int32)), (.ref a3)]))
      refine own_go (fun _ => XS.goto X33.here hx rfl (pc0 := 32) (pc' := 36) rfl (hb hby own_d7_32) (by decide) (by decide)) ?_
      show own_Go _ _ _ _ (T33.setTop (mkF m 36 #[.val (.ref a1), .val (.ref a2), .val (.ref a3), .val (.int ri), .unset, .unset] [(.int z), (.int (1 : Int32)), (.ref a3)]))
      exact J36 (1 : Int32) z (by decide) (own_z1 hz0 hz) (Int.le_refl _) _ _ X33 NF33 eq33
    · have _h := hi
      refine own_go (fun _ => XS.ifYes X32.here hx rfl (pc0 := 25) (pc' := 35) rfl (hb hby own_d7_25) rfl ((if0 _ _).trans (flt hi).2.1) (by decide) (by decide)) ?_
      show own_Go _ _ _ _ (T32.setTop (mkF m 35 #[.val (.ref a1), .val (.ref a2), .val (.ref a3), .val (.int ri), .unset, .unset] [(.int (1 : Int32)), (.ref a3)]))
      refine own_go (fun _ => XS.iloadN X32.here hx rfl (hb hby own_d7_35) rfl) ?_
      show own_Go _ _ _ _ (T32.setTop (mkF m 36 #[.val (.ref a1), .val (.ref a2), .val (.ref a3), .val (.int ri), .unset, .unset] [(.int ri), (.int (1 : Int32)), (.ref a3)]))
      exact J36 (1 : Int32) ri (by decide) (own_i1 hix (h46 hz) hi) (Int.le_of_lt hix.2.1) _ _ X32 NF32 eq32
theorem own_d1_0 : decode method_2_code 0 = .ok (.iload_n 0, 1) := by decide +kernel
theorem own_d1_1 : decode method_2_code 1 = .ok (.iconst 3, 1) := by decide +kernel
theorem own_d1_2 : decode method_2_code 2 = .ok (.iand, 1) := by decide +kernel
theorem own_d1_3 : decode method_2_code 3 = .ok (.istore_n 1, 1) := by decide +kernel
theorem own_d1_4 : decode method_2_code 4 = .ok (.iload_n 1, 1) := by decide +kernel
theorem own_d1_5 : decode method_2_code 5 = .ok (.ifCond .ne 6, 3) := by decide +kernel
theorem own_d1_8 : decode method_2_code 8 = .ok (.bipush 46, 2) := by decide +kernel
theorem own_d1_10 : decode method_2_code 10 = .ok (.ireturn, 1) := by decide +kernel
theorem own_d1_11 : decode method_2_code 11 = .ok (.iload_n 1, 1) := by decide +kernel
theorem own_d1_12 : decode method_2_code 12 = .ok (.iconst 1, 1) := by decide +kernel
theorem own_d1_13 : decode method_2_code 13 = .ok (.if_icmp .ne 6, 3) := by decide +kernel
theorem own_d1_16 : decode method_2_code 16 = .ok (.bipush 47, 2) := by decide +kernel
theorem own_d1_18 : decode method_2_code 18 = .ok (.ireturn, 1) := by decide +kernel
theorem own_d1_19 : decode method_2_code 19 = .ok (.iload_n 0, 1) := by decide +kernel
theorem own_d1_20 : decode method_2_code 20 = .ok (.iconst 2, 1) := by decide +kernel
theorem own_d1_21 : decode method_2_code 21 = .ok (.iushr, 1) := by decide +kernel
theorem own_d1_22 : decode method_2_code 22 = .ok (.sipush 255, 3) := by decide +kernel
theorem own_d1_25 : decode method_2_code 25 = .ok (.iand, 1) := by decide +kernel
theorem own_d1_26 : decode method_2_code 26 = .ok (.i2c, 1) := by decide +kernel
theorem own_d1_27 : decode method_2_code 27 = .ok (.ireturn, 1) := by decide +kernel
set_option maxRecDepth 65536 in
set_option maxHeartbeats 40000000 in
theorem own_rmpk (l : Launch) (Z : State) (a0 : Array Value) (hw : ∀ d ∈ tables_1, d.before a0 Z = true) (p1 : Int32) (h0 : Heap) (n0 : Nat) (Z0 : n0 ≤ h0.size)  :
    own_Met l Z [] (⟨"com/example/ratatoskr/ratatoskr/request/RequestPathInfoWithParametersPinLaw", "pick", "(I)C"⟩ : MethodName) method_2_code 2 (some .char) ({ frames := 0, cells := 0, slots := 0, locals := 0 } : Room) #[(.int p1)] h0 (fun v h L => ∃ c : Int32, v = some (.int c) ∧ Fr n0 L ∧ h = h0 ∧ 0 ≤ c.toInt ∧ c.toInt < 256) := by
  refine MetFree.of_bodySF (plainFor_of_name own_pn7) hisR ?_
  intro p e s m args below meth c s₁ Bd hml0 hP hK
  obtain ⟨rfl, hZ, hh⟩ := hP
  have hx := Bd.exec
  have hby := Bd.bytes
  have hml : c.maxLocals = 2 := hml0
  have hown : s.vm.findClass "com/example/ratatoskr/ratatoskr/request/RequestPathInfoWithParametersPinLaw" = some m.cls := findClass_of_methodNamed Bd.named
  have hnm := (name_of_methodNamed Bd.named Bd.method).1
  have hlk : meth.locks = false := Bd.notSynchronized
  have X0 : Stand p l e ({ frames := 0, cells := 0, slots := 0, locals := 0 } : Room) s m #[(.int p1)] below meth c s₁ [] 0 0 := Stand.of_body Bd
  have e0 : s₁.heap = h0 := by rw [← hh, Bd.state]; rfl
  have N0 := Fr.nil n0
  refine own_body (Q := fun v h L => ∃ c : Int32, v = some (.int c) ∧ Fr n0 L ∧ h = h0 ∧ 0 ≤ c.toInt ∧ c.toInt < 256) ?_
  refine own_go (fun _ kont => castTop (own_ef m #[(.int p1)] 2 #[.val (.int p1), .unset] (own_al [(.int p1)] 2 [.val (.int p1), .unset] rfl)) kont) ?_
  show own_Go _ _ _ _ (s₁.setTop (mkF m 0 #[.val (.int p1), .unset] []))
  refine own_go (fun _ => XS.iloadN X0.here hx rfl (hb hby own_d1_0) rfl) ?_
  refine own_go (fun _ => XS.iconst X0.here hx rfl (hb hby own_d1_1)) ?_
  refine own_go (fun _ => XS.iand X0.here hx rfl (hb hby own_d1_2) rfl) ?_
  refine own_go (fun _ => XS.istoreN X0.here hx rfl (hb hby own_d1_3) rfl (l' := #[.val (.int p1), .val (.int (p1 &&& (3 : Int32)))]) rfl) ?_
  show own_Go _ _ _ _ (s₁.setTop (mkF m 4 #[.val (.int p1), .val (.int (p1 &&& (3 : Int32)))] []))
  refine own_go (fun _ => XS.iloadN X0.here hx rfl (hb hby own_d1_4) rfl) ?_
  show own_Go _ _ _ _ (s₁.setTop (mkF m 5 #[.val (.int p1), .val (.int (p1 &&& (3 : Int32)))] [(.int (p1 &&& (3 : Int32)))]))
  by_cases hk : (p1 &&& (3 : Int32)) = (0 : Int32)
  · have _h := hk
    refine own_go (fun _ => XS.ifNo X0.here hx rfl (hb hby own_d1_5) rfl ((if0 _ _).trans (teq hk).2)) ?_
    show own_Go _ _ _ _ (s₁.setTop (mkF m 8 #[.val (.int p1), .val (.int (p1 &&& (3 : Int32)))] []))
    refine own_go (fun _ => XS.bipush X0.here hx rfl (hb hby own_d1_8)) ?_
    show own_Go _ _ _ _ (s₁.setTop (mkF m 10 #[.val (.int p1), .val (.int (p1 &&& (3 : Int32)))] [(.int (46 : Int32))]))
    refine own_ret X0 hlk (v := some (.int (nar .char (46 : Int32)))) (fun h => by rw [Bd.returns] at h; cases h) (fun fs hr => retN X0 hx (t := .char) Bd.returns (by simp) (hb hby own_d1_10) hr) ?_ (by decide) (by decide)
    try rw [e0]
    exact ⟨_, rfl, N0, rfl, by decide, by decide⟩
  · have _h := hk
    refine own_go (fun _ => XS.ifYes X0.here hx rfl (pc0 := 5) (pc' := 11) rfl (hb hby own_d1_5) rfl ((if0 _ _).trans (feq hk).2) (by decide) (by decide)) ?_
    show own_Go _ _ _ _ (s₁.setTop (mkF m 11 #[.val (.int p1), .val (.int (p1 &&& (3 : Int32)))] []))
    refine own_go (fun _ => XS.iloadN X0.here hx rfl (hb hby own_d1_11) rfl) ?_
    refine own_go (fun _ => XS.iconst X0.here hx rfl (hb hby own_d1_12)) ?_
    show own_Go _ _ _ _ (s₁.setTop (mkF m 13 #[.val (.int p1), .val (.int (p1 &&& (3 : Int32)))] [(.int (1 : Int32)), (.int (p1 &&& (3 : Int32)))]))
    by_cases hk2 : (p1 &&& (3 : Int32)) = (1 : Int32)
    · have _h := hk2
      refine own_go (fun _ => XS.icmpNo X0.here hx rfl (hb hby own_d1_13) rfl (teq hk2).2) ?_
      show own_Go _ _ _ _ (s₁.setTop (mkF m 16 #[.val (.int p1), .val (.int (p1 &&& (3 : Int32)))] []))
      refine own_go (fun _ => XS.bipush X0.here hx rfl (hb hby own_d1_16)) ?_
      show own_Go _ _ _ _ (s₁.setTop (mkF m 18 #[.val (.int p1), .val (.int (p1 &&& (3 : Int32)))] [(.int (47 : Int32))]))
      refine own_ret X0 hlk (v := some (.int (nar .char (47 : Int32)))) (fun h => by rw [Bd.returns] at h; cases h) (fun fs hr => retN X0 hx (t := .char) Bd.returns (by simp) (hb hby own_d1_18) hr) ?_ (by decide) (by decide)
      try rw [e0]
      exact ⟨_, rfl, N0, rfl, by decide, by decide⟩
    · have _h := hk2
      refine own_go (fun _ => XS.icmpYes X0.here hx rfl (pc0 := 13) (pc' := 19) rfl (hb hby own_d1_13) rfl (feq hk2).2 (by decide) (by decide)) ?_
      show own_Go _ _ _ _ (s₁.setTop (mkF m 19 #[.val (.int p1), .val (.int (p1 &&& (3 : Int32)))] []))
      refine own_go (fun _ => XS.iloadN X0.here hx rfl (hb hby own_d1_19) rfl) ?_
      refine own_go (fun _ => XS.iconst X0.here hx rfl (hb hby own_d1_20)) ?_
      refine own_go (fun _ => XS.iushr X0.here hx rfl (hb hby own_d1_21) rfl) ?_
      refine own_go (fun _ => XS.sipush X0.here hx rfl (hb hby own_d1_22)) ?_
      show own_Go _ _ _ _ (s₁.setTop (mkF m 25 #[.val (.int p1), .val (.int (p1 &&& (3 : Int32)))] [(.int (255 : Int32)), (.int ((p1.toUInt32 >>> ((2 : Int32) &&& 31).toUInt32).toInt32))]))
      refine own_go (fun _ => XS.iand X0.here hx rfl (hb hby own_d1_25) rfl) ?_
      refine own_go (fun _ => XS.i2c X0.here hx rfl (hb hby own_d1_26) rfl) ?_
      show own_Go _ _ _ _ (s₁.setTop (mkF m 27 #[.val (.int p1), .val (.int (p1 &&& (3 : Int32)))] [(.int ((((p1.toUInt32 >>> ((2 : Int32) &&& 31).toUInt32).toInt32) &&& (255 : Int32)).toUInt32.toUInt16.toUInt32.toInt32))]))
      refine own_ret X0 hlk (v := some (.int (nar .char ((((p1.toUInt32 >>> ((2 : Int32) &&& 31).toUInt32).toInt32) &&& (255 : Int32)).toUInt32.toUInt16.toUInt32.toInt32)))) (fun h => by rw [Bd.returns] at h; cases h) (fun fs hr => retN X0 hx (t := .char) Bd.returns (by simp) (hb hby own_d1_27) hr) ?_ (by decide) (by decide)
      try rw [e0]
      exact ⟨_, rfl, N0, rfl, (own_pk _).1, (own_pk _).2⟩
theorem own_d3_0 : decode jdk_43_method_3_code 0 = .ok (.iload_n 0, 1) := by decide +kernel
theorem own_d3_1 : decode jdk_43_method_3_code 1 = .ok (.sipush 255, 3) := by decide +kernel
theorem own_d3_4 : decode jdk_43_method_3_code 4 = .ok (.if_icmp .gt 7, 3) := by decide +kernel
theorem own_d3_7 : decode jdk_43_method_3_code 7 = .ok (.iconst 1, 1) := by decide +kernel
theorem own_d3_8 : decode jdk_43_method_3_code 8 = .ok (.goto 4, 3) := by decide +kernel
theorem own_d3_12 : decode jdk_43_method_3_code 12 = .ok (.ireturn, 1) := by decide +kernel
set_option maxRecDepth 65536 in
set_option maxHeartbeats 40000000 in
theorem own_rmCC (l : Launch) (Z : State) (a0 : Array Value) (hw : ∀ d ∈ tables_1, d.before a0 Z = true) (ch : Int32) (h0 : Heap) (n0 : Nat) (Z0 : n0 ≤ h0.size) (c2 : ¬ (255 : Int32) < ch) :
    own_Met l Z [] (⟨"java/lang/StringLatin1", "canEncode", "(C)Z"⟩ : MethodName) jdk_43_method_3_code 1 (some .boolean) ({ frames := 0, cells := 0, slots := 0, locals := 0 } : Room) #[(.int ch)] h0 (fun v h L => v = some (.int 1) ∧ Fr n0 L ∧ h = h0) := by
  refine MetFree.of_bodySF (plainFor_of_name own_pn0) hisR ?_
  intro p e s m args below meth c s₁ Bd hml0 hP hK
  obtain ⟨rfl, hZ, hh⟩ := hP
  have hx := Bd.exec
  have hby := Bd.bytes
  have hml : c.maxLocals = 1 := hml0
  have hown : s.vm.findClass "java/lang/StringLatin1" = some m.cls := findClass_of_methodNamed Bd.named
  have hnm := (name_of_methodNamed Bd.named Bd.method).1
  have hlk : meth.locks = false := Bd.notSynchronized
  have X0 : Stand p l e ({ frames := 0, cells := 0, slots := 0, locals := 0 } : Room) s m #[(.int ch)] below meth c s₁ [] 0 0 := Stand.of_body Bd
  have e0 : s₁.heap = h0 := by rw [← hh, Bd.state]; rfl
  have N0 := Fr.nil n0
  refine own_body (Q := fun v h L => v = some (.int 1) ∧ Fr n0 L ∧ h = h0) ?_
  refine own_go (fun _ kont => castTop (own_ef m #[(.int ch)] 1 #[.val (.int ch)] (own_al [(.int ch)] 1 [.val (.int ch)] rfl)) kont) ?_
  show own_Go _ _ _ _ (s₁.setTop (mkF m 0 #[.val (.int ch)] []))
  refine own_go (fun _ => XS.iloadN X0.here hx rfl (hb hby own_d3_0) rfl) ?_
  refine own_go (fun _ => XS.sipush X0.here hx rfl (hb hby own_d3_1)) ?_
  show own_Go _ _ _ _ (s₁.setTop (mkF m 4 #[.val (.int ch)] [(.int (255 : Int32)), (.int ch)]))
  refine own_go (fun _ => XS.icmpNo X0.here hx rfl (hb hby own_d3_4) rfl (flt c2).2.2.1) ?_
  show own_Go _ _ _ _ (s₁.setTop (mkF m 7 #[.val (.int ch)] []))
  refine own_go (fun _ => XS.iconst X0.here hx rfl (hb hby own_d3_7)) ?_
  refine own_go (fun _ => XS.goto X0.here hx rfl (pc0 := 8) (pc' := 12) rfl (hb hby own_d3_8) (by decide) (by decide)) ?_
  show own_Go _ _ _ _ (s₁.setTop (mkF m 12 #[.val (.int ch)] [(.int (1 : Int32))]))
  refine own_ret X0 hlk (v := some (.int (1 : Int32))) (fun h => by rw [Bd.returns] at h; cases h) (fun fs hr => retN X0 hx (t := .boolean) Bd.returns (by simp) (hb hby own_d3_12) hr) ?_ (by decide) (by decide)
  try rw [e0]
  exact ⟨rfl, N0, rfl⟩
theorem own_d4_0 : decode jdk_43_method_46_code 0 = .ok (.iconst 1, 1) := by decide +kernel
theorem own_d4_1 : decode jdk_43_method_46_code 1 = .ok (.newarray .byte, 2) := by decide +kernel
theorem own_d4_3 : decode jdk_43_method_46_code 3 = .ok (.dup, 1) := by decide +kernel
theorem own_d4_4 : decode jdk_43_method_46_code 4 = .ok (.iconst 0, 1) := by decide +kernel
theorem own_d4_5 : decode jdk_43_method_46_code 5 = .ok (.iload_n 0, 1) := by decide +kernel
theorem own_d4_6 : decode jdk_43_method_46_code 6 = .ok (.i2b, 1) := by decide +kernel
theorem own_d4_7 : decode jdk_43_method_46_code 7 = .ok (.bastore, 1) := by decide +kernel
theorem own_d4_8 : decode jdk_43_method_46_code 8 = .ok (.areturn, 1) := by decide +kernel
set_option maxRecDepth 65536 in
set_option maxHeartbeats 40000000 in
theorem own_rmtb (l : Launch) (Z : State) (a0 : Array Value) (hw : ∀ d ∈ tables_1, d.before a0 Z = true) (ch : Int32) (h0 : Heap) (n0 : Nat) (Z0 : n0 ≤ h0.size) (O : Old Z n0 h0) :
    own_Met l Z [] (⟨"java/lang/StringLatin1", "toBytes", "(C)[B"⟩ : MethodName) jdk_43_method_46_code 1 (some (.array .byte)) ({ frames := 0, cells := 1, slots := 1, locals := 0 } : Room) #[(.int ch)] h0 (fun v h L => ∃ (b : Addr) (k : ClassId), v = some (.ref b) ∧ Fr n0 L ∧ Keep h0 h [] ∧ Old Z n0 h ∧ n0 ≤ b ∧ h0.size ≤ b ∧ Arv Z h b k .byte 1 [(.int (nar .byte (ch.toInt8.toInt32)))] (.int 0)) := by
  refine MetFree.of_bodySF (plainFor_of_name own_pn0) hisR ?_
  intro p e s m args below meth c s₁ Bd hml0 hP hK
  obtain ⟨rfl, hZ, hh⟩ := hP
  have hx := Bd.exec
  have hby := Bd.bytes
  have hml : c.maxLocals = 1 := hml0
  have hown : s.vm.findClass "java/lang/StringLatin1" = some m.cls := findClass_of_methodNamed Bd.named
  have hnm := (name_of_methodNamed Bd.named Bd.method).1
  have hlk : meth.locks = false := Bd.notSynchronized
  have X0 : Stand p l e ({ frames := 0, cells := 1, slots := 1, locals := 0 } : Room) s m #[(.int ch)] below meth c s₁ [] 0 0 := Stand.of_body Bd
  have e0 : s₁.heap = h0 := by rw [← hh, Bd.state]; rfl
  have N0 := Fr.nil n0
  refine own_body (Q := fun v h L => ∃ (b : Addr) (k : ClassId), v = some (.ref b) ∧ Fr n0 L ∧ Keep h0 h [] ∧ Old Z n0 h ∧ n0 ≤ b ∧ h0.size ≤ b ∧ Arv Z h b k .byte 1 [(.int (nar .byte (ch.toInt8.toInt32)))] (.int 0)) ?_
  refine own_go (fun _ kont => castTop (own_ef m #[(.int ch)] 1 #[.val (.int ch)] (own_al [(.int ch)] 1 [.val (.int ch)] rfl)) kont) ?_
  show own_Go _ _ _ _ (s₁.setTop (mkF m 0 #[.val (.int ch)] []))
  have K0 : Keep h0 h0 [] := Keep.refl _ _
  refine own_go (fun _ => XS.iconst X0.here hx rfl (hb hby own_d4_0)) ?_
  obtain ⟨T1, h1, k1, X1, e1, E1, A1, st1⟩ := newP X0 hx hZ (hw _ (List.mem_of_getElem? (i := 8) rfl)) e0 (g := (mkF m 1 #[.val (.int ch)] [(.int (1 : Int32))])) rfl (hb hby own_d4_1) rfl (by decide) (cap := 1) (by decide) (by decide) (by decide) (by decide)
  obtain ⟨b1, g1⟩ : ∃ z, z = h0.size := ⟨_, rfl⟩
  rw [← g1] at A1 st1
  refine own_go st1 ?_
  have ge_b1 : n0 ≤ b1 := Nat.le_trans Z0 (Nat.le_of_eq g1.symm)
  have sz_b1 : h0.size ≤ b1 := Nat.le_trans K0.1 (Nat.le_of_eq g1.symm)
  replace O := O.ext E1
  replace Z0 := Nat.le_trans Z0 E1.1
  replace K0 := K0.ext E1
  have V_b1 : Arv Z h1 b1 k1 .byte (1 : Int32) [(.int (0 : Int32))] (.int (0 : Int32)) := (Arv.new A1 (by decide)).pad (pad_rep [] (.int (0 : Int32)) 1)
  refine own_go (fun _ => XS.dup X1.here hx rfl (hb hby own_d4_3) rfl rfl) ?_
  refine own_go (fun _ => XS.iconst X1.here hx rfl (hb hby own_d4_4)) ?_
  show own_Go _ _ _ _ (T1.setTop (mkF m 5 #[.val (.int ch)] [(.int (0 : Int32)), (.ref b1), (.ref b1)]))
  refine own_go (fun _ => XS.iloadN X1.here hx rfl (hb hby own_d4_5) rfl) ?_
  refine own_go (fun _ => XS.i2b X1.here hx rfl (hb hby own_d4_6) rfl) ?_
  obtain ⟨cl2, Ar2, q2, Sz2, Ng2, Hs2, Gs2⟩ := V_b1
  have hin2 : ¬ ((0 : Int32) < 0 ∨ cl2.slots.size ≤ ((0 : Int32)).toNatClampNeg) := inb_of Sz2 ⟨by decide, by decide⟩
  obtain ⟨T2, h2, X2, e2, W2, st2⟩ := stB X1 hx hZ e1 Ar2 (j := (0 : Int32)) hin2 (g := (mkF m 7 #[.val (.int ch)] [(.int (ch.toInt8.toInt32)), (.int (0 : Int32)), (.ref b1), (.ref b1)])) rfl rfl (hb hby own_d4_7)
  refine own_go st2 ?_
  have NF2 := Fr.snoc X2 N0 ge_b1
  replace V_b1 : Arv Z h2 b1 k1 .byte (1 : Int32) [(.int (nar .byte (ch.toInt8.toInt32)))] (.int (0 : Int32)) := Arv.set Ar2 q2 Sz2 Ng2 Hs2 Gs2 (fits_nar_byte _) W2 0 rfl (Nat.le_of_ble_eq_true rfl)
  replace O := O.wr W2 ge_b1
  replace Z0 := Nat.le_trans Z0 (Keep.of_wr W2).1
  replace K0 := K0.wr W2 (Or.inr sz_b1)
  show own_Go _ _ _ _ (T2.setTop (mkF m 8 #[.val (.int ch)] [(.ref b1)]))
  refine own_ret X2 hlk (v := some (.ref b1)) (fun h => by rw [Bd.returns] at h; cases h) (fun fs hr => retOut X2 hx Bd.returns rfl (Or.inr (Or.inr (Or.inr (Or.inr ⟨rfl, rfl, rfl⟩)))) (hb hby own_d4_8) hr) ?_ (by decide) (by decide)
  try rw [e2]
  exact ⟨b1, k1, rfl, NF2, K0, O, ge_b1, sz_b1, V_b1⟩
theorem own_d2_0 : decode jdk_42_method_139_code 0 = .ok (.getstatic 38, 3) := by decide +kernel
theorem own_d2_3 : decode jdk_42_method_139_code 3 = .ok (.ifCond .eq 23, 3) := by decide +kernel
theorem own_d2_6 : decode jdk_42_method_139_code 6 = .ok (.iload_n 0, 1) := by decide +kernel
theorem own_d2_7 : decode jdk_42_method_139_code 7 = .ok (.invokestatic 1015, 3) := by decide +kernel
theorem own_pd26 : parseMethodDescriptor "(C)Z" = some ⟨[.char], some .boolean⟩ := by decide +kernel
theorem own_d2_10 : decode jdk_42_method_139_code 10 = .ok (.ifCond .eq 16, 3) := by decide +kernel
theorem own_d2_13 : decode jdk_42_method_139_code 13 = .ok (.new 10, 3) := by decide +kernel
theorem own_d2_16 : decode jdk_42_method_139_code 16 = .ok (.dup, 1) := by decide +kernel
theorem own_d2_17 : decode jdk_42_method_139_code 17 = .ok (.iload_n 0, 1) := by decide +kernel
theorem own_d2_18 : decode jdk_42_method_139_code 18 = .ok (.invokestatic 1018, 3) := by decide +kernel
theorem own_pd27 : parseMethodDescriptor "(C)[B" = some ⟨[.char], some (.array .byte)⟩ := by decide +kernel
theorem own_d2_21 : decode jdk_42_method_139_code 21 = .ok (.iconst 0, 1) := by decide +kernel
theorem own_d2_22 : decode jdk_42_method_139_code 22 = .ok (.invokespecial 209, 3) := by decide +kernel
theorem own_d2_25 : decode jdk_42_method_139_code 25 = .ok (.areturn, 1) := by decide +kernel
set_option maxRecDepth 65536 in
set_option maxHeartbeats 40000000 in
theorem own_rmVO (l : Launch) (Z : State) (a0 : Array Value) (hw : ∀ d ∈ tables_1, d.before a0 Z = true) (ch : Int32) (cs : Int32) (h0 : Heap) (n0 : Nat) (Z0 : n0 ≤ h0.size) (O : Old Z n0 h0) (S_C : Sta Z Z.heap "java/lang/String" "COMPACT_STRINGS" "Z" (.int cs)) (hcs : ¬ cs = (0 : Int32)) (c2 : ¬ (255 : Int32) < ch) :
    own_Met l Z [] (⟨"java/lang/String", "valueOf", "(C)Ljava/lang/String;"⟩ : MethodName) jdk_42_method_139_code 1 (some (.object "java/lang/String")) ({ frames := 2, cells := 2, slots := 5, locals := 28 } : Room) #[(.int ch)] h0 (fun v h L => ∃ a' : Addr, v = some (.ref a') ∧ Fr n0 L ∧ Keep h0 h [] ∧ Old Z n0 h ∧ Exa Z h a' "java/lang/String") := by
  refine MetFree.of_bodySF (plainFor_of_name own_pn1) hisR ?_
  intro p e s m args below meth c s₁ Bd hml0 hP hK
  obtain ⟨rfl, hZ, hh⟩ := hP
  have hx := Bd.exec
  have hby := Bd.bytes
  have hml : c.maxLocals = 1 := hml0
  have hown : s.vm.findClass "java/lang/String" = some m.cls := findClass_of_methodNamed Bd.named
  have hnm := (name_of_methodNamed Bd.named Bd.method).1
  have hlk : meth.locks = false := Bd.notSynchronized
  have X0 : Stand p l e ({ frames := 2, cells := 2, slots := 5, locals := 28 } : Room) s m #[(.int ch)] below meth c s₁ [] 0 0 := Stand.of_body Bd
  have e0 : s₁.heap = h0 := by rw [← hh, Bd.state]; rfl
  have N0 := Fr.nil n0
  refine own_body (Q := fun v h L => ∃ a' : Addr, v = some (.ref a') ∧ Fr n0 L ∧ Keep h0 h [] ∧ Old Z n0 h ∧ Exa Z h a' "java/lang/String") ?_
  refine own_go (fun _ kont => castTop (own_ef m #[(.int ch)] 1 #[.val (.int ch)] (own_al [(.int ch)] 1 [.val (.int ch)] rfl)) kont) ?_
  show own_Go _ _ _ _ (s₁.setTop (mkF m 0 #[.val (.int ch)] []))
  have K0 : Keep h0 h0 [] := Keep.refl _ _
  obtain ⟨T1, X1, e1, st1⟩ := getS2 X0 hx hZ hown (host := "") (Or.inl (hw _ (List.mem_of_getElem? (i := 16) rfl))) Via.refl e0 (S_C.ext O.2) (g := (mkF m 0 #[.val (.int ch)] [])) rfl (hb hby own_d2_0)
  refine own_go st1 ?_
  show own_Go _ _ _ _ (T1.setTop (mkF m 3 #[.val (.int ch)] [(.int cs)]))
  refine own_go (fun _ => XS.ifNo X1.here hx rfl (hb hby own_d2_3) rfl ((if0 _ _).trans (feq hcs).1)) ?_
  show own_Go _ _ _ _ (T1.setTop (mkF m 6 #[.val (.int ch)] []))
  refine own_go (fun _ => XS.iloadN X1.here hx rfl (hb hby own_d2_6) rfl) ?_
  show own_Go _ _ _ _ (T1.setTop (mkF m 7 #[.val (.int ch)] [(.int ch)]))
  obtain ⟨_, _, ⟨T2, L2, k2, n2⟩, -, X2, ⟨Lc2, hQ2, l2, y2, z2⟩, st2⟩ := Jvm.LawKit.callS X1 hx (y := (⟨"java/lang/StringLatin1", "canEncode", "(C)Z"⟩ : MethodName)) hown (mvT hZ (hw _ (List.mem_of_getElem? (i := 17) rfl))) (mvT hZ (hw _ (List.mem_of_getElem? (i := 18) rfl))) (mvT hZ (hw _ (List.mem_of_getElem? (i := 19) rfl))) (mvT hZ (hw _ (List.mem_of_getElem? (i := 20) rfl))) (by decide) (own_back (W := 0) (own_rmCC l Z a0 hw ch h0 n0 Z0 c2) hZ (hw _ (List.mem_of_getElem? (i := 20) rfl)) (hw _ (List.mem_of_getElem? (i := 19) rfl)) (by decide) (by decide)) (g := (mkF m 7 #[.val (.int ch)] [(.int ch)])) rfl (by rw [hml]; rfl) (argsL := [(.int ch)]) (rest := []) (lenOf own_pd26 rfl) rfl (by show 2 * 0 + _ ≤ _; exact Nat.le_of_eq rfl) (hb hby own_d2_7) (fun _ _ => ⟨rfl, e1, (by decide : 0 + 0 ≤ _), (by decide : 0 + 0 ≤ _)⟩)
  dsimp only [Pt.U, Pt.locs, Pt.cells, Pt.slots] at X2 l2 y2 z2 st2 hQ2
  replace X2 := own_cst X2 l2 y2 z2 (k2 := 0) (n2 := 0) rfl rfl
  clear l2 y2 z2
  obtain ⟨rfl, Nq2, eq2⟩ := hQ2
  have NF2 := Fr.app N0 Nq2
  refine own_go st2 ?_
  show own_Go _ _ _ _ (T2.setTop (mkF m 10 #[.val (.int ch)] [(.int (1 : Int32))]))
  refine own_go (fun _ => XS.ifNo X2.here hx rfl (hb hby own_d2_10) rfl ((if0 _ _).trans (feq (by decide)).1)) ?_
  show own_Go _ _ _ _ (T2.setTop (mkF m 13 #[.val (.int ch)] []))
  obtain ⟨T3, h3, X3, e3, E3, A3, D3, -, st3⟩ := newO X2 hx hZ hown (hw _ (List.mem_of_getElem? (i := 21) rfl)) (hw _ (List.mem_of_getElem? (i := 7) rfl)) (hw _ (List.mem_of_getElem? (i := 6) rfl)) eq2 (g := (mkF m 13 #[.val (.int ch)] [])) rfl (hb hby own_d2_13) (by decide) (by decide)
  obtain ⟨b3, g3⟩ : ∃ z, z = h0.size := ⟨_, rfl⟩
  rw [← g3] at A3 D3 st3
  refine own_go st3 ?_
  have ge_b3 : n0 ≤ b3 := Nat.le_trans Z0 (Nat.le_of_eq g3.symm)
  have sz_b3 : h0.size ≤ b3 := Nat.le_trans K0.1 (Nat.le_of_eq g3.symm)
  replace O := O.ext E3
  replace Z0 := Nat.le_trans Z0 E3.1
  replace K0 := K0.ext E3
  have F_value_b3 : Fld Z h3 b3 "java/lang/String" "value" "[B" .null := D3 (Or.inr (hw _ (List.mem_of_getElem? (i := 9) rfl))) (ty := (.array .byte)) (by decide)
  have F_coder_b3 : Fld Z h3 b3 "java/lang/String" "coder" "B" (.int (0 : Int32)) := D3 (Or.inr (hw _ (List.mem_of_getElem? (i := 10) rfl))) (ty := .byte) (by decide)
  refine own_go (fun _ => XS.dup X3.here hx rfl (hb hby own_d2_16) rfl rfl) ?_
  refine own_go (fun _ => XS.iloadN X3.here hx rfl (hb hby own_d2_17) rfl) ?_
  show own_Go _ _ _ _ (T3.setTop (mkF m 18 #[.val (.int ch)] [(.int ch), (.ref b3), (.ref b3)]))
  obtain ⟨_, _, ⟨T4, L4, k4, n4⟩, -, X4, ⟨Lc4, hQ4, l4, y4, z4⟩, st4⟩ := Jvm.LawKit.callS X3 hx (y := (⟨"java/lang/StringLatin1", "toBytes", "(C)[B"⟩ : MethodName)) hown (mvT hZ (hw _ (List.mem_of_getElem? (i := 22) rfl))) (mvT hZ (hw _ (List.mem_of_getElem? (i := 23) rfl))) (mvT hZ (hw _ (List.mem_of_getElem? (i := 19) rfl))) (mvT hZ (hw _ (List.mem_of_getElem? (i := 24) rfl))) (by decide) (own_back (W := 2) (own_rmtb l Z a0 hw ch h3 n0 Z0 O) hZ (hw _ (List.mem_of_getElem? (i := 24) rfl)) (hw _ (List.mem_of_getElem? (i := 19) rfl)) (by decide) (by decide)) (g := (mkF m 18 #[.val (.int ch)] [(.int ch), (.ref b3), (.ref b3)])) rfl (by rw [hml]; rfl) (argsL := [(.int ch)]) (rest := [(.ref b3), (.ref b3)]) (lenOf own_pd27 rfl) rfl (by show 2 * 0 + _ ≤ _; exact Nat.le_of_eq rfl) (hb hby own_d2_18) (fun _ _ => ⟨rfl, e3, (by decide : 1 + 1 ≤ _), (by decide : 4 + 1 ≤ _)⟩)
  dsimp only [Pt.U, Pt.locs, Pt.cells, Pt.slots] at X4 l4 y4 z4 st4 hQ4
  replace X4 := own_cst X4 l4 y4 z4 (k2 := 2) (n2 := 5) rfl rfl
  clear l4 y4 z4
  obtain ⟨bq4, kk4, rfl, Nq4, K4, O4, geb4, szq4, V4⟩ := hQ4
  have NF4 := Fr.app NF2 Nq4
  refine own_go st4 ?_
  have ne_b3_bq4 : b3 ≠ bq4 := Nat.ne_of_lt (Nat.lt_of_lt_of_le A3.lt szq4)
  have sz_bq4 : h0.size ≤ bq4 := Nat.le_trans K0.1 szq4
  replace A3 := A3.keep K4
  replace F_value_b3 := F_value_b3.keep K4 nin0
  replace F_coder_b3 := F_coder_b3.keep K4 nin0
  replace Z0 := Nat.le_trans Z0 K4.1
  replace K0 := K0.trans K4 all0
  have O := O4
  show own_Go _ _ _ _ (T4.setTop (mkF m 21 #[.val (.int ch)] [(.ref bq4), (.ref b3), (.ref b3)]))
  refine own_go (fun _ => XS.iconst X4.here hx rfl (hb hby own_d2_21)) ?_
  show own_Go _ _ _ _ (T4.setTop (mkF m 22 #[.val (.int ch)] [(.int (0 : Int32)), (.ref bq4), (.ref b3), (.ref b3)]))
  obtain ⟨_, _, ⟨T5, L5, k5, n5⟩, -, X5, ⟨Lc5, hQ5, l5, y5, z5⟩, st5⟩ := X4.specialBack hx (y := (⟨"java/lang/String", "<init>", "([BB)V"⟩ : MethodName)) rfl hown (mvT hZ (hw _ (List.mem_of_getElem? (i := 25) rfl))) (mvT hZ (hw _ (List.mem_of_getElem? (i := 26) rfl))) (mvT hZ (hw _ (List.mem_of_getElem? (i := 28) rfl))) (by decide) (own_back (W := 1) (own_rmIB l Z a0 hw b3 bq4 T4.heap n0 Z0 A3 F_value_b3 F_coder_b3 O ge_b3) hZ (hw _ (List.mem_of_getElem? (i := 28) rfl)) (hw _ (List.mem_of_getElem? (i := 6) rfl)) (by decide) (by decide)) (g := (mkF m 22 #[.val (.int ch)] [(.int (0 : Int32)), (.ref bq4), (.ref b3), (.ref b3)])) rfl (by rw [hml]; rfl) (Steps.refl _) (a := b3) (argsL := [(.ref bq4), (.int (0 : Int32))]) (rest := [(.ref b3)]) (lenOf own_pd14 rfl) rfl (by show 2 * 0 + _ ≤ _; exact Nat.le_of_eq rfl) (hb hby own_d2_22) (fun _ _ => ⟨rfl, rfl, (by decide : 2 + 0 ≤ _), (by decide : 5 + 0 ≤ _)⟩)
  dsimp only [Pt.U, Pt.locs, Pt.cells, Pt.slots] at X5 l5 y5 z5 st5 hQ5
  replace X5 := own_cst X5 l5 y5 z5 (k2 := 2) (n2 := 5) rfl rfl
  clear l5 y5 z5
  obtain ⟨rfl, Nq5, K5, O5, E5, Fv5, Fc5⟩ := hQ5
  have NF5 := Fr.app NF4 Nq5
  refine own_goT st5 ?_
  replace Z0 := Nat.le_trans Z0 K5.1
  replace K0 := K0.trans K5 (allS (Or.inr sz_b3) all0)
  have O := O5
  show own_Go _ _ _ _ (T5.setTop (mkF m 25 #[.val (.int ch)] [(.ref b3)]))
  refine own_ret X5 hlk (v := some (.ref b3)) (fun h => by rw [Bd.returns] at h; cases h) (fun fs hr => retOut X5 hx Bd.returns rfl (Or.inr (Or.inr (Or.inr (Or.inr ⟨rfl, rfl, rfl⟩)))) (hb hby own_d2_25) hr) ?_ (by decide) (by decide)
  skip
  exact ⟨b3, rfl, NF5, K0, O, E5⟩
theorem own_pd28 : parseMethodDescriptor "(I)C" = some ⟨[.int], some .char⟩ := by decide +kernel
theorem own_pd29 : parseMethodDescriptor "([C)V" = some ⟨[(.array .char)], none⟩ := by decide +kernel
theorem own_pd30 : parseMethodDescriptor "(C)Ljava/lang/String;" = some ⟨[.char], some (.object "java/lang/String")⟩ := by decide +kernel
theorem own_pd31 : parseMethodDescriptor "(Ljava/lang/String;Ljava/lang/String;)V" = some ⟨[(.object "java/lang/String"), (.object "java/lang/String")], none⟩ := by decide +kernel
theorem own_pd32 : parseMethodDescriptor "(Ljava/util/Map;)Lcom/example/ratatoskr/ratatoskr/request/RequestPathInfo;" = some ⟨[(.object "java/util/Map")], some (.object "com/example/ratatoskr/ratatoskr/request/RequestPathInfo")⟩ := by decide +kernel
theorem own_pd33 : parseMethodDescriptor "(Lcom/example/ratatoskr/ratatoskr/request/RequestPathInfo;Lcom/example/ratatoskr/ratatoskr/request/RequestPathInfo;)Z" = some ⟨[(.object "com/example/ratatoskr/ratatoskr/request/RequestPathInfo"), (.object "com/example/ratatoskr/ratatoskr/request/RequestPathInfo")], some .boolean⟩ := by decide +kernel
set_option maxRecDepth 65536 in
set_option maxHeartbeats 40000000 in
theorem own_rm0 (l : Launch) (Z : State) (a0 : Array Value) (hw : ∀ d ∈ tables_1, d.before a0 Z = true) (p1 : Int32) (p2 : Int32) (p3 : Int32) (p4 : Int32) (cs : Int32) (fmt : Value) (em : Addr) (h0 : Heap) (n0 : Nat) (Z0 : n0 ≤ h0.size) (O : Old Z n0 h0) (S_C : Sta Z Z.heap "java/lang/String" "COMPACT_STRINGS" "Z" (.int cs)) (hcs : ¬ cs = (0 : Int32)) (S_F : Sta Z Z.heap "jdk/internal/util/Preconditions" "SIOOBE_FORMATTER" "Ljava/util/function/BiFunction;" fmt) (hfmt : fmt = .null ∨ ∃ o : Addr, fmt = .ref o) (S_M : Sta Z Z.heap "java/util/ImmutableCollections" "EMPTY_MAP" "Ljava/util/ImmutableCollections$MapN;" (.ref em)) :
    own_MetH l Z consts_1 tables_1 x code maxLocals ret room_1 #[(.int p1), (.int p2), (.int p3), (.int p4)] h0 (fun v h L => v = some (.int 1) ∧ Fr n0 L) := by
  refine MetFree.of_bodySF (plainFor_of_name own_pn7) hisR ?_
  intro p e s m args below meth c s₁ Bd hml0 hP hK
  obtain ⟨rfl, hZ0, hh, H0⟩ := hP
  have hx := Bd.exec
  have hby := Bd.bytes
  have hml : c.maxLocals = 10 := hml0
  have hown0 : s.vm.findClass "com/example/ratatoskr/ratatoskr/request/RequestPathInfoWithParametersPinLaw" = some m.cls := findClass_of_methodNamed Bd.named
  have hnm := (name_of_methodNamed Bd.named Bd.method).1
  have hlk : meth.locks = false := Bd.notSynchronized
  have X0 : Stand p l e room_1 (s.setVm s.vm) m #[(.int p1), (.int p2), (.int p3), (.int p4)] below meth c s₁ [] 0 0 := Stand.of_body Bd
  have hZ : Z.Warmed39 (s.setVm s.vm).vm := hZ0
  have hown : (s.setVm s.vm).vm.findClass "com/example/ratatoskr/ratatoskr/request/RequestPathInfoWithParametersPinLaw" = some m.cls := hown0
  have hS : s.Since s.vm h0.size := State.WarmedH.since (State.WarmedH.refl s) _
  have hsw : h0.size ≤ h0.size := Nat.le_refl _
  have CR : CHr Z consts_1 s.vm h0 s.vm h0 := CHr.refl H0
  have e0 : s₁.heap = h0 := by rw [← hh, Bd.state]; rfl
  have N0 := Fr.nil n0
  refine own_bodyW (Q := fun v h L => v = some (.int 1) ∧ Fr n0 L) ?_
  refine own_go (fun _ kont => castTop (own_ef m #[(.int p1), (.int p2), (.int p3), (.int p4)] maxLocals #[.val (.int p1), .val (.int p2), .val (.int p3), .val (.int p4), .unset, .unset, .unset, .unset, .unset, .unset] (own_al [(.int p1), (.int p2), (.int p3), (.int p4)] maxLocals [.val (.int p1), .val (.int p2), .val (.int p3), .val (.int p4), .unset, .unset, .unset, .unset, .unset, .unset] rfl)) kont) ?_
  show own_Go _ _ _ _ (s₁.setTop (mkF m 0 #[.val (.int p1), .val (.int p2), .val (.int p3), .val (.int p4), .unset, .unset, .unset, .unset, .unset, .unset] []))
  refine own_go (fun _ => XS.iconst X0.here hx rfl (hb hby at_0)) ?_
  obtain ⟨T1, h1, k1, X1, e1, E1, A1, st1⟩ := newP X0 hx hZ (hw _ (List.mem_of_getElem? (i := 0) rfl)) e0 (g := (mkF m 1 #[.val (.int p1), .val (.int p2), .val (.int p3), .val (.int p4), .unset, .unset, .unset, .unset, .unset, .unset] [(.int (4 : Int32))])) rfl (hb hby at_1) rfl (by decide) (cap := 4) (by decide) (by decide) (by decide) (by decide)
  obtain ⟨b1, g1⟩ : ∃ z, z = h0.size := ⟨_, rfl⟩
  rw [← g1] at A1 st1
  refine own_go st1 ?_
  have ge_b1 : n0 ≤ b1 := Nat.le_trans Z0 (Nat.le_of_eq g1.symm)
  replace O := O.ext E1
  replace Z0 := Nat.le_trans Z0 E1.1
  replace hsw := Nat.le_trans hsw E1.1
  replace CR := CR.trans (CHr.ext E1 CR.1)
  have V_b1 : Arv Z h1 b1 k1 .char (4 : Int32) [(.int (0 : Int32)), (.int (0 : Int32)), (.int (0 : Int32)), (.int (0 : Int32))] (.int (0 : Int32)) := (Arv.new A1 (by decide)).pad (pad_rep [] (.int (0 : Int32)) 4)
  refine own_go (fun _ => XS.astore X1.here hx rfl (hb hby at_3) rfl rfl (l' := #[.val (.int p1), .val (.int p2), .val (.int p3), .val (.int p4), .val (.ref b1), .unset, .unset, .unset, .unset, .unset]) rfl) ?_
  refine own_go (fun _ => XS.aload X1.here hx rfl (hb hby at_5) rfl rfl) ?_
  show own_Go _ _ _ _ (T1.setTop (mkF m 7 #[.val (.int p1), .val (.int p2), .val (.int p3), .val (.int p4), .val (.ref b1), .unset, .unset, .unset, .unset, .unset] [(.ref b1)]))
  refine own_go (fun _ => XS.iconst X1.here hx rfl (hb hby at_7)) ?_
  refine own_go (fun _ => XS.bipush X1.here hx rfl (hb hby at_8)) ?_
  obtain ⟨cl2, Ar2, q2, Sz2, Ng2, Hs2, Gs2⟩ := V_b1
  have hin2 : ¬ ((0 : Int32) < 0 ∨ cl2.slots.size ≤ ((0 : Int32)).toNatClampNeg) := inb_of Sz2 ⟨by decide, by decide⟩
  obtain ⟨T2, h2, X2, e2, W2, st2⟩ := stC X1 hx hZ e1 Ar2 (j := (0 : Int32)) hin2 (g := (mkF m 10 #[.val (.int p1), .val (.int p2), .val (.int p3), .val (.int p4), .val (.ref b1), .unset, .unset, .unset, .unset, .unset] [(.int (46 : Int32)), (.int (0 : Int32)), (.ref b1)])) rfl rfl (hb hby at_10)
  refine own_go st2 ?_
  have NF2 := Fr.snoc X2 N0 ge_b1
  replace V_b1 : Arv Z h2 b1 k1 .char (4 : Int32) [(.int (nar .char (46 : Int32))), (.int (0 : Int32)), (.int (0 : Int32)), (.int (0 : Int32))] (.int (0 : Int32)) := Arv.set Ar2 q2 Sz2 Ng2 Hs2 Gs2 (fits_nar_char _) W2 0 rfl (Nat.le_of_ble_eq_true rfl)
  have SFo : Safe Z consts_1 s.vm h1 b1 := (Safe.arr hZ.alike Ar2 (by exact nofun))
  replace CR := CR.trans (CHr.wr W2 SFo CR.1)
  clear SFo
  replace O := O.wr W2 ge_b1
  replace Z0 := Nat.le_trans Z0 (Keep.of_wr W2).1
  replace hsw := Nat.le_trans hsw (Keep.of_wr W2).1
  refine own_go (fun _ => XS.aload X2.here hx rfl (hb hby at_11) rfl rfl) ?_
  show own_Go _ _ _ _ (T2.setTop (mkF m 13 #[.val (.int p1), .val (.int p2), .val (.int p3), .val (.int p4), .val (.ref b1), .unset, .unset, .unset, .unset, .unset] [(.ref b1)]))
  refine own_go (fun _ => XS.iconst X2.here hx rfl (hb hby at_13)) ?_
  refine own_go (fun _ => XS.iloadN X2.here hx rfl (hb hby at_14) rfl) ?_
  show own_Go _ _ _ _ (T2.setTop (mkF m 15 #[.val (.int p1), .val (.int p2), .val (.int p3), .val (.int p4), .val (.ref b1), .unset, .unset, .unset, .unset, .unset] [(.int p2), (.int (1 : Int32)), (.ref b1)]))
  obtain ⟨_, _, ⟨T3, L3, k3, n3⟩, -, X3, ⟨Lc3, hQ3, l3, y3, z3⟩, st3⟩ := Jvm.LawKit.callS X2 hx (y := (⟨"com/example/ratatoskr/ratatoskr/request/RequestPathInfoWithParametersPinLaw", "pick", "(I)C"⟩ : MethodName)) hown (mvT hZ (hw _ (List.mem_of_getElem? (i := 1) rfl))) (mvT hZ (hw _ (List.mem_of_getElem? (i := 2) rfl))) (mvT hZ (hw _ (List.mem_of_getElem? (i := 3) rfl))) (mvT hZ (hw _ (List.mem_of_getElem? (i := 4) rfl))) (by decide) (own_back (W := 2) (own_rmpk l Z a0 hw p2 h2 n0 Z0) hZ (hw _ (List.mem_of_getElem? (i := 4) rfl)) (hw _ (List.mem_of_getElem? (i := 3) rfl)) (by decide) (by decide)) (g := (mkF m 15 #[.val (.int p1), .val (.int p2), .val (.int p3), .val (.int p4), .val (.ref b1), .unset, .unset, .unset, .unset, .unset] [(.int p2), (.int (1 : Int32)), (.ref b1)])) rfl (by rw [hml]; rfl) (argsL := [(.int p2)]) (rest := [(.int (1 : Int32)), (.ref b1)]) (lenOf own_pd28 rfl) rfl (by show 2 * 0 + _ ≤ _; exact Nat.le_of_eq rfl) (hb hby at_15) (fun _ _ => ⟨rfl, e2, (by decide : 1 + 0 ≤ _), (by decide : 4 + 0 ≤ _)⟩)
  dsimp only [Pt.U, Pt.locs, Pt.cells, Pt.slots] at X3 l3 y3 z3 st3 hQ3
  replace X3 := own_cst X3 l3 y3 z3 (k2 := 1) (n2 := 4) rfl rfl
  clear l3 y3 z3
  obtain ⟨c1, rfl, Nq3, eq3, c1a, c1b⟩ := hQ3
  have NF3 := Fr.app NF2 Nq3
  refine own_go st3 ?_
  show own_Go _ _ _ _ (T3.setTop (mkF m 18 #[.val (.int p1), .val (.int p2), .val (.int p3), .val (.int p4), .val (.ref b1), .unset, .unset, .unset, .unset, .unset] [(.int c1), (.int (1 : Int32)), (.ref b1)]))
  obtain ⟨cl4, Ar4, q4, Sz4, Ng4, Hs4, Gs4⟩ := V_b1
  have hin4 : ¬ ((1 : Int32) < 0 ∨ cl4.slots.size ≤ ((1 : Int32)).toNatClampNeg) := inb_of Sz4 ⟨by decide, by decide⟩
  obtain ⟨T4, h4, X4, e4, W4, st4⟩ := stC X3 hx hZ eq3 Ar4 (j := (1 : Int32)) hin4 (g := (mkF m 18 #[.val (.int p1), .val (.int p2), .val (.int p3), .val (.int p4), .val (.ref b1), .unset, .unset, .unset, .unset, .unset] [(.int c1), (.int (1 : Int32)), (.ref b1)])) rfl rfl (hb hby at_18)
  refine own_go st4 ?_
  have NF4 := Fr.snoc X4 NF3 ge_b1
  replace V_b1 : Arv Z h4 b1 k1 .char (4 : Int32) [(.int (nar .char (46 : Int32))), (.int (nar .char c1)), (.int (0 : Int32)), (.int (0 : Int32))] (.int (0 : Int32)) := Arv.set Ar4 q4 Sz4 Ng4 Hs4 Gs4 (fits_nar_char _) W4 1 rfl (Nat.le_of_ble_eq_true rfl)
  have SFo : Safe Z consts_1 s.vm h2 b1 := (Safe.arr hZ.alike Ar4 (by exact nofun))
  replace CR := CR.trans (CHr.wr W4 SFo CR.1)
  clear SFo
  replace O := O.wr W4 ge_b1
  replace Z0 := Nat.le_trans Z0 (Keep.of_wr W4).1
  replace hsw := Nat.le_trans hsw (Keep.of_wr W4).1
  refine own_go (fun _ => XS.aload X4.here hx rfl (hb hby at_19) rfl rfl) ?_
  refine own_go (fun _ => XS.iconst X4.here hx rfl (hb hby at_21)) ?_
  refine own_go (fun _ => XS.iloadN X4.here hx rfl (hb hby at_22) rfl) ?_
  show own_Go _ _ _ _ (T4.setTop (mkF m 23 #[.val (.int p1), .val (.int p2), .val (.int p3), .val (.int p4), .val (.ref b1), .unset, .unset, .unset, .unset, .unset] [(.int p2), (.int (2 : Int32)), (.ref b1)]))
  refine own_go (fun _ => XS.bipush X4.here hx rfl (hb hby at_23)) ?_
  refine own_go (fun _ => XS.iushr X4.here hx rfl (hb hby at_25) rfl) ?_
  show own_Go _ _ _ _ (T4.setTop (mkF m 26 #[.val (.int p1), .val (.int p2), .val (.int p3), .val (.int p4), .val (.ref b1), .unset, .unset, .unset, .unset, .unset] [(.int ((p2.toUInt32 >>> ((10 : Int32) &&& 31).toUInt32).toInt32)), (.int (2 : Int32)), (.ref b1)]))
  obtain ⟨_, _, ⟨T5, L5, k5, n5⟩, -, X5, ⟨Lc5, hQ5, l5, y5, z5⟩, st5⟩ := Jvm.LawKit.callS X4 hx (y := (⟨"com/example/ratatoskr/ratatoskr/request/RequestPathInfoWithParametersPinLaw", "pick", "(I)C"⟩ : MethodName)) hown (mvT hZ (hw _ (List.mem_of_getElem? (i := 1) rfl))) (mvT hZ (hw _ (List.mem_of_getElem? (i := 2) rfl))) (mvT hZ (hw _ (List.mem_of_getElem? (i := 3) rfl))) (mvT hZ (hw _ (List.mem_of_getElem? (i := 4) rfl))) (by decide) (own_back (W := 2) (own_rmpk l Z a0 hw ((p2.toUInt32 >>> ((10 : Int32) &&& 31).toUInt32).toInt32) h4 n0 Z0) hZ (hw _ (List.mem_of_getElem? (i := 4) rfl)) (hw _ (List.mem_of_getElem? (i := 3) rfl)) (by decide) (by decide)) (g := (mkF m 26 #[.val (.int p1), .val (.int p2), .val (.int p3), .val (.int p4), .val (.ref b1), .unset, .unset, .unset, .unset, .unset] [(.int ((p2.toUInt32 >>> ((10 : Int32) &&& 31).toUInt32).toInt32)), (.int (2 : Int32)), (.ref b1)])) rfl (by rw [hml]; rfl) (argsL := [(.int ((p2.toUInt32 >>> ((10 : Int32) &&& 31).toUInt32).toInt32))]) (rest := [(.int (2 : Int32)), (.ref b1)]) (lenOf own_pd28 rfl) rfl (by show 2 * 0 + _ ≤ _; exact Nat.le_of_eq rfl) (hb hby at_26) (fun _ _ => ⟨rfl, e4, (by decide : 1 + 0 ≤ _), (by decide : 4 + 0 ≤ _)⟩)
  dsimp only [Pt.U, Pt.locs, Pt.cells, Pt.slots] at X5 l5 y5 z5 st5 hQ5
  replace X5 := own_cst X5 l5 y5 z5 (k2 := 1) (n2 := 4) rfl rfl
  clear l5 y5 z5
  obtain ⟨c2, rfl, Nq5, eq5, c2a, c2b⟩ := hQ5
  have NF5 := Fr.app NF4 Nq5
  refine own_go st5 ?_
  show own_Go _ _ _ _ (T5.setTop (mkF m 29 #[.val (.int p1), .val (.int p2), .val (.int p3), .val (.int p4), .val (.ref b1), .unset, .unset, .unset, .unset, .unset] [(.int c2), (.int (2 : Int32)), (.ref b1)]))
  obtain ⟨cl6, Ar6, q6, Sz6, Ng6, Hs6, Gs6⟩ := V_b1
  have hin6 : ¬ ((2 : Int32) < 0 ∨ cl6.slots.size ≤ ((2 : Int32)).toNatClampNeg) := inb_of Sz6 ⟨by decide, by decide⟩
  obtain ⟨T6, h6, X6, e6, W6, st6⟩ := stC X5 hx hZ eq5 Ar6 (j := (2 : Int32)) hin6 (g := (mkF m 29 #[.val (.int p1), .val (.int p2), .val (.int p3), .val (.int p4), .val (.ref b1), .unset, .unset, .unset, .unset, .unset] [(.int c2), (.int (2 : Int32)), (.ref b1)])) rfl rfl (hb hby at_29)
  refine own_go st6 ?_
  have NF6 := Fr.snoc X6 NF5 ge_b1
  replace V_b1 : Arv Z h6 b1 k1 .char (4 : Int32) [(.int (nar .char (46 : Int32))), (.int (nar .char c1)), (.int (nar .char c2)), (.int (0 : Int32))] (.int (0 : Int32)) := Arv.set Ar6 q6 Sz6 Ng6 Hs6 Gs6 (fits_nar_char _) W6 2 rfl (Nat.le_of_ble_eq_true rfl)
  have SFo : Safe Z consts_1 s.vm h4 b1 := (Safe.arr hZ.alike Ar6 (by exact nofun))
  replace CR := CR.trans (CHr.wr W6 SFo CR.1)
  clear SFo
  replace O := O.wr W6 ge_b1
  replace Z0 := Nat.le_trans Z0 (Keep.of_wr W6).1
  replace hsw := Nat.le_trans hsw (Keep.of_wr W6).1
  refine own_go (fun _ => XS.aload X6.here hx rfl (hb hby at_30) rfl rfl) ?_
  refine own_go (fun _ => XS.iconst X6.here hx rfl (hb hby at_32)) ?_
  refine own_go (fun _ => XS.iloadN X6.here hx rfl (hb hby at_33) rfl) ?_
  show own_Go _ _ _ _ (T6.setTop (mkF m 34 #[.val (.int p1), .val (.int p2), .val (.int p3), .val (.int p4), .val (.ref b1), .unset, .unset, .unset, .unset, .unset] [(.int p3), (.int (3 : Int32)), (.ref b1)]))
  obtain ⟨_, _, ⟨T7, L7, k7, n7⟩, -, X7, ⟨Lc7, hQ7, l7, y7, z7⟩, st7⟩ := Jvm.LawKit.callS X6 hx (y := (⟨"com/example/ratatoskr/ratatoskr/request/RequestPathInfoWithParametersPinLaw", "pick", "(I)C"⟩ : MethodName)) hown (mvT hZ (hw _ (List.mem_of_getElem? (i := 1) rfl))) (mvT hZ (hw _ (List.mem_of_getElem? (i := 2) rfl))) (mvT hZ (hw _ (List.mem_of_getElem? (i := 3) rfl))) (mvT hZ (hw _ (List.mem_of_getElem? (i := 4) rfl))) (by decide) (own_back (W := 2) (own_rmpk l Z a0 hw p3 h6 n0 Z0) hZ (hw _ (List.mem_of_getElem? (i := 4) rfl)) (hw _ (List.mem_of_getElem? (i := 3) rfl)) (by decide) (by decide)) (g := (mkF m 34 #[.val (.int p1), .val (.int p2), .val (.int p3), .val (.int p4), .val (.ref b1), .unset, .unset, .unset, .unset, .unset] [(.int p3), (.int (3 : Int32)), (.ref b1)])) rfl (by rw [hml]; rfl) (argsL := [(.int p3)]) (rest := [(.int (3 : Int32)), (.ref b1)]) (lenOf own_pd28 rfl) rfl (by show 2 * 0 + _ ≤ _; exact Nat.le_of_eq rfl) (hb hby at_34) (fun _ _ => ⟨rfl, e6, (by decide : 1 + 0 ≤ _), (by decide : 4 + 0 ≤ _)⟩)
  dsimp only [Pt.U, Pt.locs, Pt.cells, Pt.slots] at X7 l7 y7 z7 st7 hQ7
  replace X7 := own_cst X7 l7 y7 z7 (k2 := 1) (n2 := 4) rfl rfl
  clear l7 y7 z7
  obtain ⟨c3, rfl, Nq7, eq7, c3a, c3b⟩ := hQ7
  have NF7 := Fr.app NF6 Nq7
  refine own_go st7 ?_
  show own_Go _ _ _ _ (T7.setTop (mkF m 37 #[.val (.int p1), .val (.int p2), .val (.int p3), .val (.int p4), .val (.ref b1), .unset, .unset, .unset, .unset, .unset] [(.int c3), (.int (3 : Int32)), (.ref b1)]))
  obtain ⟨cl8, Ar8, q8, Sz8, Ng8, Hs8, Gs8⟩ := V_b1
  have hin8 : ¬ ((3 : Int32) < 0 ∨ cl8.slots.size ≤ ((3 : Int32)).toNatClampNeg) := inb_of Sz8 ⟨by decide, by decide⟩
  obtain ⟨T8, h8, X8, e8, W8, st8⟩ := stC X7 hx hZ eq7 Ar8 (j := (3 : Int32)) hin8 (g := (mkF m 37 #[.val (.int p1), .val (.int p2), .val (.int p3), .val (.int p4), .val (.ref b1), .unset, .unset, .unset, .unset, .unset] [(.int c3), (.int (3 : Int32)), (.ref b1)])) rfl rfl (hb hby at_37)
  refine own_go st8 ?_
  have NF8 := Fr.snoc X8 NF7 ge_b1
  replace V_b1 : Arv Z h8 b1 k1 .char (4 : Int32) [(.int (nar .char (46 : Int32))), (.int (nar .char c1)), (.int (nar .char c2)), (.int (nar .char c3))] (.int (0 : Int32)) := Arv.set Ar8 q8 Sz8 Ng8 Hs8 Gs8 (fits_nar_char _) W8 3 rfl (Nat.le_of_ble_eq_true rfl)
  have SFo : Safe Z consts_1 s.vm h6 b1 := (Safe.arr hZ.alike Ar8 (by exact nofun))
  replace CR := CR.trans (CHr.wr W8 SFo CR.1)
  clear SFo
  replace O := O.wr W8 ge_b1
  replace Z0 := Nat.le_trans Z0 (Keep.of_wr W8).1
  replace hsw := Nat.le_trans hsw (Keep.of_wr W8).1
  refine own_go (fun _ => XS.iloadN X8.here hx rfl (hb hby at_38) rfl) ?_
  refine own_go (fun _ => XS.iconst X8.here hx rfl (hb hby at_39)) ?_
  refine own_go (fun _ => XS.iand X8.here hx rfl (hb hby at_40) rfl) ?_
  show own_Go _ _ _ _ (T8.setTop (mkF m 41 #[.val (.int p1), .val (.int p2), .val (.int p3), .val (.int p4), .val (.ref b1), .unset, .unset, .unset, .unset, .unset] [(.int (p4 &&& (1 : Int32)))]))
  by_cases hfl : (p4 &&& (1 : Int32)) = (0 : Int32)
  · have _h := hfl
    refine own_go (fun _ => XS.ifYes X8.here hx rfl (pc0 := 41) (pc' := 49) rfl (hb hby at_41) rfl ((if0 _ _).trans (teq hfl).1) (by decide) (by decide)) ?_
    show own_Go _ _ _ _ (T8.setTop (mkF m 49 #[.val (.int p1), .val (.int p2), .val (.int p3), .val (.int p4), .val (.ref b1), .unset, .unset, .unset, .unset, .unset] []))
    obtain ⟨T9, h9, X9, e9, E9, A9, D9, -, st9⟩ := newO X8 hx hZ hown (hw _ (List.mem_of_getElem? (i := 181) rfl)) (hw _ (List.mem_of_getElem? (i := 7) rfl)) (hw _ (List.mem_of_getElem? (i := 6) rfl)) e8 (g := (mkF m 49 #[.val (.int p1), .val (.int p2), .val (.int p3), .val (.int p4), .val (.ref b1), .unset, .unset, .unset, .unset, .unset] [])) rfl (hb hby at_49) (by decide) (by decide)
    obtain ⟨b9, g9⟩ : ∃ z, z = h8.size := ⟨_, rfl⟩
    rw [← g9] at A9 D9 st9
    refine own_go st9 ?_
    have ge_b9 : n0 ≤ b9 := Nat.le_trans Z0 (Nat.le_of_eq g9.symm)
    have ne_b1_b9 : b1 ≠ b9 := Nat.ne_of_lt (Nat.lt_of_lt_of_le V_b1.lt (Nat.le_of_eq g9.symm))
    replace O := O.ext E9
    replace V_b1 := V_b1.ext E9
    replace Z0 := Nat.le_trans Z0 E9.1
    replace hsw := Nat.le_trans hsw E9.1
    have SF_b9 : Safe Z consts_1 s.vm h9 b9 := Safe.ext E9 CR.1 (Safe.new (Nat.le_of_eq g9.symm))
    replace CR := CR.trans (CHr.ext E9 CR.1)
    have F_value_b9 : Fld Z h9 b9 "java/lang/String" "value" "[B" .null := D9 (Or.inr (hw _ (List.mem_of_getElem? (i := 9) rfl))) (ty := (.array .byte)) (by decide)
    have F_coder_b9 : Fld Z h9 b9 "java/lang/String" "coder" "B" (.int (0 : Int32)) := D9 (Or.inr (hw _ (List.mem_of_getElem? (i := 10) rfl))) (ty := .byte) (by decide)
    refine own_go (fun _ => XS.dup X9.here hx rfl (hb hby at_52) rfl rfl) ?_
    refine own_go (fun _ => XS.aload X9.here hx rfl (hb hby at_53) rfl rfl) ?_
    show own_Go _ _ _ _ (T9.setTop (mkF m 55 #[.val (.int p1), .val (.int p2), .val (.int p3), .val (.int p4), .val (.ref b1), .unset, .unset, .unset, .unset, .unset] [(.ref b1), (.ref b9), (.ref b9)]))
    obtain ⟨_, _, ⟨T10, L10, k10, n10⟩, -, X10, ⟨Lc10, hQ10, l10, y10, z10⟩, st10⟩ := X9.specialBack hx (y := (⟨"java/lang/String", "<init>", "([C)V"⟩ : MethodName)) rfl hown (mvT hZ (hw _ (List.mem_of_getElem? (i := 182) rfl))) (mvT hZ (hw _ (List.mem_of_getElem? (i := 183) rfl))) (mvT hZ (hw _ (List.mem_of_getElem? (i := 184) rfl))) (by decide) (own_back (W := 1) (own_rmIL l Z a0 hw b9 b1 k1 cs 4 4 [(.int (nar .byte ((nar .char (46 : Int32)).toInt8.toInt32))), (.int (nar .byte ((nar .char c1).toInt8.toInt32))), (.int (nar .byte ((nar .char c2).toInt8.toInt32))), (.int (nar .byte ((nar .char c3).toInt8.toInt32)))] _ h9 n0 Z0 A9 F_value_b9 F_coder_b9 V_b1 O S_C hcs ge_b9 (by decide) (by decide) (own_rmML4 l Z a0 hw b1 k1 (nar .char (46 : Int32)) (nar .char c1) (nar .char c2) (nar .char c3) h9 n0 Z0 V_b1 O ⟨by decide, own_lat c1a c1b, own_lat c2a c2b, own_lat c3a c3b⟩)) hZ (hw _ (List.mem_of_getElem? (i := 184) rfl)) (hw _ (List.mem_of_getElem? (i := 6) rfl)) (by decide) (by decide)) (g := (mkF m 55 #[.val (.int p1), .val (.int p2), .val (.int p3), .val (.int p4), .val (.ref b1), .unset, .unset, .unset, .unset, .unset] [(.ref b1), (.ref b9), (.ref b9)])) rfl (by rw [hml]; rfl) (Steps.refl _) (a := b9) (argsL := [(.ref b1)]) (rest := [(.ref b9)]) (lenOf own_pd29 rfl) rfl (by show 2 * 0 + _ ≤ _; exact Nat.le_of_eq rfl) (hb hby at_55) (fun _ _ => ⟨rfl, e9, (by decide : 2 + 2 ≤ _), (by decide : 8 + 9 ≤ _)⟩)
    dsimp only [Pt.U, Pt.locs, Pt.cells, Pt.slots] at X10 l10 y10 z10 st10 hQ10
    replace X10 := own_cst X10 l10 y10 z10 (k2 := 4) (n2 := 17) rfl rfl
    clear l10 y10 z10
    obtain ⟨bq10, kk10, rfl, Nq10, Kq10, Oq10, hsq10, Eq10, Fvq10, Fcq10, Vq10⟩ := hQ10
    have NF10 := Fr.app NF8 Nq10
    refine own_goT st10 ?_
    have SFn_b9 := Safe.keep Kq10 (allS SF_b9 all0) CR.1 SF_b9
    replace CR := CR.trans (CHr.keep Kq10 (allS SF_b9 all0) CR.1)
    replace SF_b9 := SFn_b9
    clear SFn_b9
    replace hsw := Nat.le_trans hsw Kq10.1
    replace Z0 := Nat.le_trans Z0 Kq10.1
    have O := Oq10
    show own_Go _ _ _ _ (T10.setTop (mkF m 58 #[.val (.int p1), .val (.int p2), .val (.int p3), .val (.int p4), .val (.ref b1), .unset, .unset, .unset, .unset, .unset] [(.ref b9)]))
    refine own_go (fun _ => XS.astore X10.here hx rfl (hb hby at_58) rfl rfl (l' := #[.val (.int p1), .val (.int p2), .val (.int p3), .val (.int p4), .val (.ref b1), .val (.ref b9), .unset, .unset, .unset, .unset]) rfl) ?_
    refine own_go (fun _ => XS.iloadN X10.here hx rfl (hb hby at_60) rfl) ?_
    refine own_go (fun _ => XS.sipush X10.here hx rfl (hb hby at_61)) ?_
    refine own_go (fun _ => XS.iand X10.here hx rfl (hb hby at_64) rfl) ?_
    show own_Go _ _ _ _ (T10.setTop (mkF m 65 #[.val (.int p1), .val (.int p2), .val (.int p3), .val (.int p4), .val (.ref b1), .val (.ref b9), .unset, .unset, .unset, .unset] [(.int (p1 &&& (255 : Int32)))]))
    refine own_go (fun _ => XS.i2c X10.here hx rfl (hb hby at_65) rfl) ?_
    show own_Go _ _ _ _ (T10.setTop (mkF m 66 #[.val (.int p1), .val (.int p2), .val (.int p3), .val (.int p4), .val (.ref b1), .val (.ref b9), .unset, .unset, .unset, .unset] [(.int ((p1 &&& (255 : Int32)).toUInt32.toUInt16.toUInt32.toInt32))]))
    obtain ⟨_, _, ⟨T11, L11, k11, n11⟩, -, X11, ⟨Lc11, hQ11, l11, y11, z11⟩, st11⟩ := Jvm.LawKit.callS X10 hx (y := (⟨"java/lang/String", "valueOf", "(C)Ljava/lang/String;"⟩ : MethodName)) hown (mvT hZ (hw _ (List.mem_of_getElem? (i := 13) rfl))) (mvT hZ (hw _ (List.mem_of_getElem? (i := 14) rfl))) (mvT hZ (hw _ (List.mem_of_getElem? (i := 6) rfl))) (mvT hZ (hw _ (List.mem_of_getElem? (i := 15) rfl))) (by decide) (own_back (W := 0) (own_rmVO l Z a0 hw ((p1 &&& (255 : Int32)).toUInt32.toUInt16.toUInt32.toInt32) cs T10.heap n0 Z0 O S_C hcs (own_vo _)) hZ (hw _ (List.mem_of_getElem? (i := 15) rfl)) (hw _ (List.mem_of_getElem? (i := 6) rfl)) (by decide) (by decide)) (g := (mkF m 66 #[.val (.int p1), .val (.int p2), .val (.int p3), .val (.int p4), .val (.ref b1), .val (.ref b9), .unset, .unset, .unset, .unset] [(.int ((p1 &&& (255 : Int32)).toUInt32.toUInt16.toUInt32.toInt32))])) rfl (by rw [hml]; rfl) (argsL := [(.int ((p1 &&& (255 : Int32)).toUInt32.toUInt16.toUInt32.toInt32))]) (rest := []) (lenOf own_pd30 rfl) rfl (by show 2 * 0 + _ ≤ _; exact Nat.le_of_eq rfl) (hb hby at_66) (fun _ _ => ⟨rfl, rfl, (by decide : 4 + 2 ≤ _), (by decide : 17 + 5 ≤ _)⟩)
    dsimp only [Pt.U, Pt.locs, Pt.cells, Pt.slots] at X11 l11 y11 z11 st11 hQ11
    replace X11 := own_cst X11 l11 y11 z11 (k2 := 6) (n2 := 22) rfl rfl
    clear l11 y11 z11
    obtain ⟨rp, rfl, Nq11, K11, O11, Er⟩ := hQ11
    have NF11 := Fr.app NF10 Nq11
    refine own_go st11 ?_
    replace CR := CR.trans (CHr.keep K11 all0 CR.1)
    replace hsw := Nat.le_trans hsw K11.1
    replace Eq10 := Eq10.keep K11
    replace Fvq10 := Fvq10.keep K11 nin0
    replace Fcq10 := Fcq10.keep K11 nin0
    replace Vq10 := Vq10.keep K11 nin0
    replace Z0 := Nat.le_trans Z0 K11.1
    have O := O11
    show own_Go _ _ _ _ (T11.setTop (mkF m 69 #[.val (.int p1), .val (.int p2), .val (.int p3), .val (.int p4), .val (.ref b1), .val (.ref b9), .unset, .unset, .unset, .unset] [(.ref rp)]))
    refine own_go (fun _ => XS.astore X11.here hx rfl (hb hby at_69) rfl rfl (l' := #[.val (.int p1), .val (.int p2), .val (.int p3), .val (.int p4), .val (.ref b1), .val (.ref b9), .val (.ref rp), .unset, .unset, .unset]) rfl) ?_
    obtain ⟨T12, h12, X12, e12, E12, A12, D12, -, st12⟩ := newO X11 hx hZ hown (hw _ (List.mem_of_getElem? (i := 34) rfl)) (hw _ (List.mem_of_getElem? (i := 35) rfl)) (hw _ (List.mem_of_getElem? (i := 36) rfl)) rfl (g := (mkF m 71 #[.val (.int p1), .val (.int p2), .val (.int p3), .val (.int p4), .val (.ref b1), .val (.ref b9), .val (.ref rp), .unset, .unset, .unset] [])) rfl (hb hby at_71) (by decide) (by decide)
    obtain ⟨b12, g12⟩ : ∃ z, z = T11.heap.size := ⟨_, rfl⟩
    rw [← g12] at A12 D12 st12
    refine own_go st12 ?_
    have ge_b12 : n0 ≤ b12 := Nat.le_trans Z0 (Nat.le_of_eq g12.symm)
    replace Eq10 := Eq10.ext E12
    replace Fvq10 := Fvq10.ext E12
    replace Fcq10 := Fcq10.ext E12
    replace Vq10 := Vq10.ext E12
    replace O := O.ext E12
    replace Er := Er.ext E12
    replace Z0 := Nat.le_trans Z0 E12.1
    replace hsw := Nat.le_trans hsw E12.1
    replace CR := CR.trans (CHr.ext E12 CR.1)
    have F_resourcePath_b12 : Fld Z h12 b12 "com/example/ratatoskr/ratatoskr/request/RequestPathInfo" "resourcePath" "Ljava/lang/String;" .null := D12 (Or.inr (hw _ (List.mem_of_getElem? (i := 112) rfl))) (ty := (.object "java/lang/String")) (by decide)
    have F_selectorString_b12 : Fld Z h12 b12 "com/example/ratatoskr/ratatoskr/request/RequestPathInfo" "selectorString" "Ljava/lang/String;" .null := D12 (Or.inr (hw _ (List.mem_of_getElem? (i := 114) rfl))) (ty := (.object "java/lang/String")) (by decide)
    have F_extension_b12 : Fld Z h12 b12 "com/example/ratatoskr/ratatoskr/request/RequestPathInfo" "extension" "Ljava/lang/String;" .null := D12 (Or.inr (hw _ (List.mem_of_getElem? (i := 125) rfl))) (ty := (.object "java/lang/String")) (by decide)
    have F_suffix_b12 : Fld Z h12 b12 "com/example/ratatoskr/ratatoskr/request/RequestPathInfo" "suffix" "Ljava/lang/String;" .null := D12 (Or.inr (hw _ (List.mem_of_getElem? (i := 127) rfl))) (ty := (.object "java/lang/String")) (by decide)
    have F_parameters_b12 : Fld Z h12 b12 "com/example/ratatoskr/ratatoskr/request/RequestPathInfo" "parameters" "Ljava/util/Map;" .null := D12 (Or.inr (hw _ (List.mem_of_getElem? (i := 135) rfl))) (ty := (.object "java/util/Map")) (by decide)
    refine own_go (fun _ => XS.dup X12.here hx rfl (hb hby at_74) rfl rfl) ?_
    refine own_go (fun _ => XS.aload X12.here hx rfl (hb hby at_75) rfl rfl) ?_
    show own_Go _ _ _ _ (T12.setTop (mkF m 77 #[.val (.int p1), .val (.int p2), .val (.int p3), .val (.int p4), .val (.ref b1), .val (.ref b9), .val (.ref rp), .unset, .unset, .unset] [(.ref rp), (.ref b12), (.ref b12)]))
    refine own_go (fun _ => XS.aload X12.here hx rfl (hb hby at_77) rfl rfl) ?_
    show own_Go _ _ _ _ (T12.setTop (mkF m 79 #[.val (.int p1), .val (.int p2), .val (.int p3), .val (.int p4), .val (.ref b1), .val (.ref b9), .val (.ref rp), .unset, .unset, .unset] [(.ref b9), (.ref rp), (.ref b12), (.ref b12)]))
    obtain ⟨_, _, ⟨T13, L13, k13, n13⟩, -, X13, hS13, hgr13, ⟨Lc13, hQ13, l13, y13, z13, CR13⟩, st13⟩ := X12.specialBackS hx (y := (⟨"com/example/ratatoskr/ratatoskr/request/RequestPathInfo", "<init>", "(Ljava/lang/String;Ljava/lang/String;)V"⟩ : MethodName)) rfl hown (mvT hZ (hw _ (List.mem_of_getElem? (i := 37) rfl))) (mvT hZ (hw _ (List.mem_of_getElem? (i := 38) rfl))) (mvT hZ (hw _ (List.mem_of_getElem? (i := 39) rfl))) (by decide) (own_backK (s := s) (vm0 := s.vm) (W := 1) (own_rmRP l Z a0 hw b12 rp b9 bq10 kk10 cs fmt 4 [(.int (nar .byte ((nar .char (46 : Int32)).toInt8.toInt32))), (.int (nar .byte ((nar .char c1).toInt8.toInt32))), (.int (nar .byte ((nar .char c2).toInt8.toInt32))), (.int (nar .byte ((nar .char c3).toInt8.toInt32)))] em h12 n0 Z0 A12 F_resourcePath_b12 F_selectorString_b12 F_extension_b12 F_suffix_b12 F_parameters_b12 Eq10 Fvq10 Fcq10 Vq10 O S_C hcs S_F hfmt S_M ge_b12 (by decide) (fun _ => congrArg Value.int (by decide))) hZ (hw _ (List.mem_of_getElem? (i := 39) rfl)) (hw _ (List.mem_of_getElem? (i := 36) rfl)) (by decide) (by decide) (own_ew hw) CR.1) (g := (mkF m 79 #[.val (.int p1), .val (.int p2), .val (.int p3), .val (.int p4), .val (.ref b1), .val (.ref b9), .val (.ref rp), .unset, .unset, .unset] [(.ref b9), (.ref rp), (.ref b12), (.ref b12)])) rfl (by rw [hml]; rfl) (Steps.refl _) (a := b12) (argsL := [(.ref rp), (.ref b9)]) (rest := [(.ref b12)]) (lenOf own_pd31 rfl) rfl (by show 2 * 0 + _ ≤ _; exact Nat.le_of_eq rfl) (hb hby at_79) (fun _ _ => ⟨rfl, e12, (by decide : 7 + 8 ≤ _), (by decide : 27 + 32 ≤ _)⟩)
    dsimp only [Pt.U, Pt.locs, Pt.cells, Pt.slots] at X13 l13 y13 z13 st13 hQ13 hS13 hgr13 CR13
    replace X13 := own_cst X13 l13 y13 z13 (k2 := 15) (n2 := 59) rfl rfl
    clear l13 y13 z13
    obtain ⟨w1, w2, w3, rfl, Nq13, K13, O13, E13, Fr0_13, Fr1_13, Fr2_13, Fr3_13, Fr4_13, s1, s2, s3⟩ := hQ13
    have NF13 := Fr.app NF11 Nq13
    have X13 : Stand p l e room_1 (s.setVm T13.vm) m #[(.int p1), (.int p2), (.int p3), (.int p4)] below meth c T13 _ 15 59 := X13
    have hS := own_sin hS hsw e12 hS13 hgr13
    have hsw : T13.heap.size ≤ T13.heap.size := Nat.le_refl _
    have hown : (s.setVm T13.vm).vm.findClass "com/example/ratatoskr/ratatoskr/request/RequestPathInfoWithParametersPinLaw" = some m.cls := by
      show T13.vm.findClass _ = _
      rw [hS.1.alike.findClass]; exact hown0
    have hZ : Z.Warmed39 (s.setVm T13.vm).vm := State.Warmed39.trans (t := s) hZ0 hS.1
    replace CR := CR.trans CR13
    refine own_goT st13 ?_
    replace Er := Er.keep K13
    replace Z0 := Nat.le_trans Z0 K13.1
    have O := O13
    show own_Go _ _ _ _ (T13.setTop (mkF m 82 #[.val (.int p1), .val (.int p2), .val (.int p3), .val (.int p4), .val (.ref b1), .val (.ref b9), .val (.ref rp), .unset, .unset, .unset] [(.ref b12)]))
    refine own_go (fun _ => XS.astore X13.here hx rfl (hb hby at_82) rfl rfl (l' := #[.val (.int p1), .val (.int p2), .val (.int p3), .val (.int p4), .val (.ref b1), .val (.ref b9), .val (.ref rp), .val (.ref b12), .unset, .unset]) rfl) ?_
    refine own_go (fun _ => XS.aload X13.here hx rfl (hb hby at_84) rfl rfl) ?_
    refine own_go (fun _ => XS.aconstNull X13.here hx rfl (hb hby at_86)) ?_
    show own_Go _ _ _ _ (T13.setTop (mkF m 87 #[.val (.int p1), .val (.int p2), .val (.int p3), .val (.int p4), .val (.ref b1), .val (.ref b9), .val (.ref rp), .val (.ref b12), .unset, .unset] [.null, (.ref b12)]))
    obtain ⟨cq14, kq14, q14a, q14b, q14c⟩ := isOf hZ rfl E13
    obtain ⟨_, _, ⟨T14, L14, k14, n14⟩, -, X14, ⟨Lc14, hQ14, l14, y14, z14⟩, st14⟩ := X13.virtualBack hx (y := (⟨"com/example/ratatoskr/ratatoskr/request/RequestPathInfo", "withParameters", "(Ljava/util/Map;)Lcom/example/ratatoskr/ratatoskr/request/RequestPathInfo;"⟩ : MethodName)) (z := (⟨"com/example/ratatoskr/ratatoskr/request/RequestPathInfo", "withParameters", "(Ljava/util/Map;)Lcom/example/ratatoskr/ratatoskr/request/RequestPathInfo;"⟩ : MethodName)) hown (mvT hZ (hw _ (List.mem_of_getElem? (i := 136) rfl))) (mvT hZ (hw _ (List.mem_of_getElem? (i := 137) rfl))) (notFace_of_selects (args := #[]) (mvT hZ (hw _ (List.mem_of_getElem? (i := 139) rfl)))) (mvT hZ (hw _ (List.mem_of_getElem? (i := 139) rfl))) (mvT hZ (hw _ (List.mem_of_getElem? (i := 138) rfl))) (by decide) (own_back (W := 0) (own_rmWP l Z a0 hw b12 (.ref rp) w1 w2 w3 .null T13.heap n0 Z0 E13 Fr0_13 Fr1_13 Fr2_13 Fr3_13 O rfl (own_svr s1) (own_svr s2) (own_svr s3) rfl) hZ (hw _ (List.mem_of_getElem? (i := 140) rfl)) (hw _ (List.mem_of_getElem? (i := 36) rfl)) (by decide) (by decide)) q14a q14c (g := (mkF m 87 #[.val (.int p1), .val (.int p2), .val (.int p3), .val (.int p4), .val (.ref b1), .val (.ref b9), .val (.ref rp), .val (.ref b12), .unset, .unset] [.null, (.ref b12)])) rfl (by rw [hml]; rfl) (Steps.refl _) (argsL := [.null]) (rest := []) (lenOf own_pd32 rfl) rfl (by show 2 * 0 + _ ≤ _; exact Nat.le_of_eq rfl) (hb hby at_87) (fun _ _ => ⟨rfl, rfl, (by decide : 15 + 1 ≤ _), (by decide : 59 + 5 ≤ _)⟩)
    dsimp only [Pt.U, Pt.locs, Pt.cells, Pt.slots] at X14 l14 y14 z14 st14 hQ14
    replace X14 := own_cst X14 l14 y14 z14 (k2 := 16) (n2 := 64) rfl rfl
    clear l14 y14 z14
    obtain ⟨ao14, rfl, Nq14, K14, O14, sz14, E14, Fr0_14, Fr1_14, Fr2_14, Fr3_14, Fr4_14⟩ := hQ14
    have NF14 := Fr.app NF13 Nq14
    refine own_goT st14 ?_
    have ne_b12_ao14 : b12 ≠ ao14 := Nat.ne_of_lt (Nat.lt_of_lt_of_le E13.lt sz14)
    replace hsw := Nat.le_trans hsw K14.1
    replace Er := Er.keep K14
    replace E13 := E13.keep K14
    replace Fr0_13 := Fr0_13.keep K14 nin0
    replace Fr1_13 := Fr1_13.keep K14 nin0
    replace Fr2_13 := Fr2_13.keep K14 nin0
    replace Fr3_13 := Fr3_13.keep K14 nin0
    replace Fr4_13 := Fr4_13.keep K14 nin0
    replace Z0 := Nat.le_trans Z0 K14.1
    replace s1 := own_svk s1 K14
    replace s2 := own_svk s2 K14
    replace s3 := own_svk s3 K14
    have O := O14
    show own_Go _ _ _ _ (T14.setTop (mkF m 90 #[.val (.int p1), .val (.int p2), .val (.int p3), .val (.int p4), .val (.ref b1), .val (.ref b9), .val (.ref rp), .val (.ref b12), .unset, .unset] [(.ref ao14)]))
    refine own_go (fun _ => XS.astore X14.here hx rfl (hb hby at_90) rfl rfl (l' := #[.val (.int p1), .val (.int p2), .val (.int p3), .val (.int p4), .val (.ref b1), .val (.ref b9), .val (.ref rp), .val (.ref b12), .val (.ref ao14), .unset]) rfl) ?_
    refine own_go (fun _ => XS.aload X14.here hx rfl (hb hby at_92) rfl rfl) ?_
    refine own_go (fun _ => XS.aload X14.here hx rfl (hb hby at_94) rfl rfl) ?_
    show own_Go _ _ _ _ (T14.setTop (mkF m 96 #[.val (.int p1), .val (.int p2), .val (.int p3), .val (.int p4), .val (.ref b1), .val (.ref b9), .val (.ref rp), .val (.ref b12), .val (.ref ao14), .unset] [(.ref b12), (.ref ao14)]))
    obtain ⟨cq15, kq15, q15a, q15b, q15c⟩ := isOf hZ rfl E13
    obtain ⟨_, _, ⟨T15, L15, k15, n15⟩, -, X15, ⟨Lc15, hQ15, l15, y15, z15⟩, st15⟩ := X14.virtualBack hx (y := (⟨"com/example/ratatoskr/ratatoskr/request/RequestPathInfo", "getParameters", "()Ljava/util/Map;"⟩ : MethodName)) (z := (⟨"com/example/ratatoskr/ratatoskr/request/RequestPathInfo", "getParameters", "()Ljava/util/Map;"⟩ : MethodName)) hown (mvT hZ (hw _ (List.mem_of_getElem? (i := 145) rfl))) (mvT hZ (hw _ (List.mem_of_getElem? (i := 146) rfl))) (notFace_of_selects (args := #[]) (mvT hZ (hw _ (List.mem_of_getElem? (i := 148) rfl)))) (mvT hZ (hw _ (List.mem_of_getElem? (i := 148) rfl))) (mvT hZ (hw _ (List.mem_of_getElem? (i := 147) rfl))) (by decide) (own_back (W := 1) (own_rmg4 l Z a0 hw b12 (.ref em) T14.heap n0 Z0 Fr4_13 rfl) hZ (hw _ (List.mem_of_getElem? (i := 149) rfl)) (hw _ (List.mem_of_getElem? (i := 36) rfl)) (by decide) (by decide)) q15a q15c (g := (mkF m 96 #[.val (.int p1), .val (.int p2), .val (.int p3), .val (.int p4), .val (.ref b1), .val (.ref b9), .val (.ref rp), .val (.ref b12), .val (.ref ao14), .unset] [(.ref b12), (.ref ao14)])) rfl (by rw [hml]; rfl) (Steps.refl _) (argsL := []) (rest := [(.ref ao14)]) (lenOf own_pd25 rfl) rfl (by show 2 * 0 + _ ≤ _; exact Nat.le_of_eq rfl) (hb hby at_96) (fun _ _ => ⟨rfl, rfl, (by decide : 16 + 0 ≤ _), (by decide : 64 + 0 ≤ _)⟩)
    dsimp only [Pt.U, Pt.locs, Pt.cells, Pt.slots] at X15 l15 y15 z15 st15 hQ15
    replace X15 := own_cst X15 l15 y15 z15 (k2 := 16) (n2 := 64) rfl rfl
    clear l15 y15 z15
    obtain ⟨rfl, Nq15, eq15⟩ := hQ15
    have NF15 := Fr.app NF14 Nq15
    refine own_goT st15 ?_
    show own_Go _ _ _ _ (T15.setTop (mkF m 99 #[.val (.int p1), .val (.int p2), .val (.int p3), .val (.int p4), .val (.ref b1), .val (.ref b9), .val (.ref rp), .val (.ref b12), .val (.ref ao14), .unset] [(.ref em), (.ref ao14)]))
    obtain ⟨cq16, kq16, q16a, q16b, q16c⟩ := isOf hZ eq15 E14
    obtain ⟨_, _, ⟨T16, L16, k16, n16⟩, -, X16, ⟨Lc16, hQ16, l16, y16, z16⟩, st16⟩ := X15.virtualBack hx (y := (⟨"com/example/ratatoskr/ratatoskr/request/RequestPathInfo", "withParameters", "(Ljava/util/Map;)Lcom/example/ratatoskr/ratatoskr/request/RequestPathInfo;"⟩ : MethodName)) (z := (⟨"com/example/ratatoskr/ratatoskr/request/RequestPathInfo", "withParameters", "(Ljava/util/Map;)Lcom/example/ratatoskr/ratatoskr/request/RequestPathInfo;"⟩ : MethodName)) hown (mvT hZ (hw _ (List.mem_of_getElem? (i := 136) rfl))) (mvT hZ (hw _ (List.mem_of_getElem? (i := 137) rfl))) (notFace_of_selects (args := #[]) (mvT hZ (hw _ (List.mem_of_getElem? (i := 139) rfl)))) (mvT hZ (hw _ (List.mem_of_getElem? (i := 139) rfl))) (mvT hZ (hw _ (List.mem_of_getElem? (i := 138) rfl))) (by decide) (own_back (W := 0) (own_rmWP l Z a0 hw ao14 (.ref rp) w1 w2 w3 (.ref em) T14.heap n0 Z0 E14 Fr0_14 Fr1_14 Fr2_14 Fr3_14 O rfl (own_svr s1) (own_svr s2) (own_svr s3) rfl) hZ (hw _ (List.mem_of_getElem? (i := 140) rfl)) (hw _ (List.mem_of_getElem? (i := 36) rfl)) (by decide) (by decide)) q16a q16c (g := (mkF m 99 #[.val (.int p1), .val (.int p2), .val (.int p3), .val (.int p4), .val (.ref b1), .val (.ref b9), .val (.ref rp), .val (.ref b12), .val (.ref ao14), .unset] [(.ref em), (.ref ao14)])) rfl (by rw [hml]; rfl) (Steps.refl _) (argsL := [(.ref em)]) (rest := []) (lenOf own_pd32 rfl) rfl (by show 2 * 0 + _ ≤ _; exact Nat.le_of_eq rfl) (hb hby at_99) (fun _ _ => ⟨rfl, eq15, (by decide : 16 + 1 ≤ _), (by decide : 64 + 5 ≤ _)⟩)
    dsimp only [Pt.U, Pt.locs, Pt.cells, Pt.slots] at X16 l16 y16 z16 st16 hQ16
    replace X16 := own_cst X16 l16 y16 z16 (k2 := 17) (n2 := 69) rfl rfl
    clear l16 y16 z16
    obtain ⟨ao16, rfl, Nq16, K16, O16, sz16, E16, Fr0_16, Fr1_16, Fr2_16, Fr3_16, Fr4_16⟩ := hQ16
    have NF16 := Fr.app NF15 Nq16
    refine own_goT st16 ?_
    have ne_b12_ao16 : b12 ≠ ao16 := Nat.ne_of_lt (Nat.lt_of_lt_of_le E13.lt sz16)
    have ne_ao14_ao16 : ao14 ≠ ao16 := Nat.ne_of_lt (Nat.lt_of_lt_of_le E14.lt sz16)
    replace hsw := Nat.le_trans hsw K16.1
    replace Er := Er.keep K16
    replace E13 := E13.keep K16
    replace Fr0_13 := Fr0_13.keep K16 nin0
    replace Fr1_13 := Fr1_13.keep K16 nin0
    replace Fr2_13 := Fr2_13.keep K16 nin0
    replace Fr3_13 := Fr3_13.keep K16 nin0
    replace Fr4_13 := Fr4_13.keep K16 nin0
    replace E14 := E14.keep K16
    replace Fr0_14 := Fr0_14.keep K16 nin0
    replace Fr1_14 := Fr1_14.keep K16 nin0
    replace Fr2_14 := Fr2_14.keep K16 nin0
    replace Fr3_14 := Fr3_14.keep K16 nin0
    replace Fr4_14 := Fr4_14.keep K16 nin0
    replace Z0 := Nat.le_trans Z0 K16.1
    replace s1 := own_svk s1 K16
    replace s2 := own_svk s2 K16
    replace s3 := own_svk s3 K16
    have O := O16
    show own_Go _ _ _ _ (T16.setTop (mkF m 102 #[.val (.int p1), .val (.int p2), .val (.int p3), .val (.int p4), .val (.ref b1), .val (.ref b9), .val (.ref rp), .val (.ref b12), .val (.ref ao14), .unset] [(.ref ao16)]))
    refine own_go (fun _ => XS.astore X16.here hx rfl (hb hby at_102) rfl rfl (l' := #[.val (.int p1), .val (.int p2), .val (.int p3), .val (.int p4), .val (.ref b1), .val (.ref b9), .val (.ref rp), .val (.ref b12), .val (.ref ao14), .val (.ref ao16)]) rfl) ?_
    refine own_go (fun _ => XS.aload X16.here hx rfl (hb hby at_104) rfl rfl) ?_
    show own_Go _ _ _ _ (T16.setTop (mkF m 106 #[.val (.int p1), .val (.int p2), .val (.int p3), .val (.int p4), .val (.ref b1), .val (.ref b9), .val (.ref rp), .val (.ref b12), .val (.ref ao14), .val (.ref ao16)] [(.ref b12)]))
    obtain ⟨cq17, kq17, q17a, q17b, q17c⟩ := isOf hZ rfl E13
    obtain ⟨_, _, ⟨T17, L17, k17, n17⟩, -, X17, ⟨Lc17, hQ17, l17, y17, z17⟩, st17⟩ := X16.virtualBack hx (y := (⟨"com/example/ratatoskr/ratatoskr/request/RequestPathInfo", "getParameters", "()Ljava/util/Map;"⟩ : MethodName)) (z := (⟨"com/example/ratatoskr/ratatoskr/request/RequestPathInfo", "getParameters", "()Ljava/util/Map;"⟩ : MethodName)) hown (mvT hZ (hw _ (List.mem_of_getElem? (i := 145) rfl))) (mvT hZ (hw _ (List.mem_of_getElem? (i := 146) rfl))) (notFace_of_selects (args := #[]) (mvT hZ (hw _ (List.mem_of_getElem? (i := 148) rfl)))) (mvT hZ (hw _ (List.mem_of_getElem? (i := 148) rfl))) (mvT hZ (hw _ (List.mem_of_getElem? (i := 147) rfl))) (by decide) (own_back (W := 0) (own_rmg4 l Z a0 hw b12 (.ref em) T16.heap n0 Z0 Fr4_13 rfl) hZ (hw _ (List.mem_of_getElem? (i := 149) rfl)) (hw _ (List.mem_of_getElem? (i := 36) rfl)) (by decide) (by decide)) q17a q17c (g := (mkF m 106 #[.val (.int p1), .val (.int p2), .val (.int p3), .val (.int p4), .val (.ref b1), .val (.ref b9), .val (.ref rp), .val (.ref b12), .val (.ref ao14), .val (.ref ao16)] [(.ref b12)])) rfl (by rw [hml]; rfl) (Steps.refl _) (argsL := []) (rest := []) (lenOf own_pd25 rfl) rfl (by show 2 * 0 + _ ≤ _; exact Nat.le_of_eq rfl) (hb hby at_106) (fun _ _ => ⟨rfl, rfl, (by decide : 17 + 0 ≤ _), (by decide : 69 + 0 ≤ _)⟩)
    dsimp only [Pt.U, Pt.locs, Pt.cells, Pt.slots] at X17 l17 y17 z17 st17 hQ17
    replace X17 := own_cst X17 l17 y17 z17 (k2 := 17) (n2 := 69) rfl rfl
    clear l17 y17 z17
    obtain ⟨rfl, Nq17, eq17⟩ := hQ17
    have NF17 := Fr.app NF16 Nq17
    refine own_goT st17 ?_
    show own_Go _ _ _ _ (T17.setTop (mkF m 109 #[.val (.int p1), .val (.int p2), .val (.int p3), .val (.int p4), .val (.ref b1), .val (.ref b9), .val (.ref rp), .val (.ref b12), .val (.ref ao14), .val (.ref ao16)] [(.ref em)]))
    refine own_go (fun _ => XS.ifnullNo X17.here hx rfl (hb hby at_109) rfl) ?_
    show own_Go _ _ _ _ (T17.setTop (mkF m 112 #[.val (.int p1), .val (.int p2), .val (.int p3), .val (.int p4), .val (.ref b1), .val (.ref b9), .val (.ref rp), .val (.ref b12), .val (.ref ao14), .val (.ref ao16)] []))
    refine own_go (fun _ => XS.aload X17.here hx rfl (hb hby at_112) rfl rfl) ?_
    show own_Go _ _ _ _ (T17.setTop (mkF m 114 #[.val (.int p1), .val (.int p2), .val (.int p3), .val (.int p4), .val (.ref b1), .val (.ref b9), .val (.ref rp), .val (.ref b12), .val (.ref ao14), .val (.ref ao16)] [(.ref ao14)]))
    obtain ⟨cq18, kq18, q18a, q18b, q18c⟩ := isOf hZ eq17 E14
    obtain ⟨_, _, ⟨T18, L18, k18, n18⟩, -, X18, ⟨Lc18, hQ18, l18, y18, z18⟩, st18⟩ := X17.virtualBack hx (y := (⟨"com/example/ratatoskr/ratatoskr/request/RequestPathInfo", "getParameters", "()Ljava/util/Map;"⟩ : MethodName)) (z := (⟨"com/example/ratatoskr/ratatoskr/request/RequestPathInfo", "getParameters", "()Ljava/util/Map;"⟩ : MethodName)) hown (mvT hZ (hw _ (List.mem_of_getElem? (i := 145) rfl))) (mvT hZ (hw _ (List.mem_of_getElem? (i := 146) rfl))) (notFace_of_selects (args := #[]) (mvT hZ (hw _ (List.mem_of_getElem? (i := 148) rfl)))) (mvT hZ (hw _ (List.mem_of_getElem? (i := 148) rfl))) (mvT hZ (hw _ (List.mem_of_getElem? (i := 147) rfl))) (by decide) (own_back (W := 0) (own_rmg4 l Z a0 hw ao14 .null T16.heap n0 Z0 Fr4_14 rfl) hZ (hw _ (List.mem_of_getElem? (i := 149) rfl)) (hw _ (List.mem_of_getElem? (i := 36) rfl)) (by decide) (by decide)) q18a q18c (g := (mkF m 114 #[.val (.int p1), .val (.int p2), .val (.int p3), .val (.int p4), .val (.ref b1), .val (.ref b9), .val (.ref rp), .val (.ref b12), .val (.ref ao14), .val (.ref ao16)] [(.ref ao14)])) rfl (by rw [hml]; rfl) (Steps.refl _) (argsL := []) (rest := []) (lenOf own_pd25 rfl) rfl (by show 2 * 0 + _ ≤ _; exact Nat.le_of_eq rfl) (hb hby at_114) (fun _ _ => ⟨rfl, eq17, (by decide : 17 + 0 ≤ _), (by decide : 69 + 0 ≤ _)⟩)
    dsimp only [Pt.U, Pt.locs, Pt.cells, Pt.slots] at X18 l18 y18 z18 st18 hQ18
    replace X18 := own_cst X18 l18 y18 z18 (k2 := 17) (n2 := 69) rfl rfl
    clear l18 y18 z18
    obtain ⟨rfl, Nq18, eq18⟩ := hQ18
    have NF18 := Fr.app NF17 Nq18
    refine own_goT st18 ?_
    show own_Go _ _ _ _ (T18.setTop (mkF m 117 #[.val (.int p1), .val (.int p2), .val (.int p3), .val (.int p4), .val (.ref b1), .val (.ref b9), .val (.ref rp), .val (.ref b12), .val (.ref ao14), .val (.ref ao16)] [.null]))
    refine own_go (fun _ => XS.ifnonnullNo X18.here hx rfl (hb hby at_117) rfl) ?_
    show own_Go _ _ _ _ (T18.setTop (mkF m 120 #[.val (.int p1), .val (.int p2), .val (.int p3), .val (.int p4), .val (.ref b1), .val (.ref b9), .val (.ref rp), .val (.ref b12), .val (.ref ao14), .val (.ref ao16)] []))
    refine own_go (fun _ => XS.aload X18.here hx rfl (hb hby at_120) rfl rfl) ?_
    show own_Go _ _ _ _ (T18.setTop (mkF m 122 #[.val (.int p1), .val (.int p2), .val (.int p3), .val (.int p4), .val (.ref b1), .val (.ref b9), .val (.ref rp), .val (.ref b12), .val (.ref ao14), .val (.ref ao16)] [(.ref ao16)]))
    obtain ⟨cq19, kq19, q19a, q19b, q19c⟩ := isOf hZ eq18 E16
    obtain ⟨_, _, ⟨T19, L19, k19, n19⟩, -, X19, ⟨Lc19, hQ19, l19, y19, z19⟩, st19⟩ := X18.virtualBack hx (y := (⟨"com/example/ratatoskr/ratatoskr/request/RequestPathInfo", "getParameters", "()Ljava/util/Map;"⟩ : MethodName)) (z := (⟨"com/example/ratatoskr/ratatoskr/request/RequestPathInfo", "getParameters", "()Ljava/util/Map;"⟩ : MethodName)) hown (mvT hZ (hw _ (List.mem_of_getElem? (i := 145) rfl))) (mvT hZ (hw _ (List.mem_of_getElem? (i := 146) rfl))) (notFace_of_selects (args := #[]) (mvT hZ (hw _ (List.mem_of_getElem? (i := 148) rfl)))) (mvT hZ (hw _ (List.mem_of_getElem? (i := 148) rfl))) (mvT hZ (hw _ (List.mem_of_getElem? (i := 147) rfl))) (by decide) (own_back (W := 0) (own_rmg4 l Z a0 hw ao16 (.ref em) T16.heap n0 Z0 Fr4_16 rfl) hZ (hw _ (List.mem_of_getElem? (i := 149) rfl)) (hw _ (List.mem_of_getElem? (i := 36) rfl)) (by decide) (by decide)) q19a q19c (g := (mkF m 122 #[.val (.int p1), .val (.int p2), .val (.int p3), .val (.int p4), .val (.ref b1), .val (.ref b9), .val (.ref rp), .val (.ref b12), .val (.ref ao14), .val (.ref ao16)] [(.ref ao16)])) rfl (by rw [hml]; rfl) (Steps.refl _) (argsL := []) (rest := []) (lenOf own_pd25 rfl) rfl (by show 2 * 0 + _ ≤ _; exact Nat.le_of_eq rfl) (hb hby at_122) (fun _ _ => ⟨rfl, eq18, (by decide : 17 + 0 ≤ _), (by decide : 69 + 0 ≤ _)⟩)
    dsimp only [Pt.U, Pt.locs, Pt.cells, Pt.slots] at X19 l19 y19 z19 st19 hQ19
    replace X19 := own_cst X19 l19 y19 z19 (k2 := 17) (n2 := 69) rfl rfl
    clear l19 y19 z19
    obtain ⟨rfl, Nq19, eq19⟩ := hQ19
    have NF19 := Fr.app NF18 Nq19
    refine own_goT st19 ?_
    show own_Go _ _ _ _ (T19.setTop (mkF m 125 #[.val (.int p1), .val (.int p2), .val (.int p3), .val (.int p4), .val (.ref b1), .val (.ref b9), .val (.ref rp), .val (.ref b12), .val (.ref ao14), .val (.ref ao16)] [(.ref em)]))
    refine own_go (fun _ => XS.aload X19.here hx rfl (hb hby at_125) rfl rfl) ?_
    show own_Go _ _ _ _ (T19.setTop (mkF m 127 #[.val (.int p1), .val (.int p2), .val (.int p3), .val (.int p4), .val (.ref b1), .val (.ref b9), .val (.ref rp), .val (.ref b12), .val (.ref ao14), .val (.ref ao16)] [(.ref b12), (.ref em)]))
    obtain ⟨cq20, kq20, q20a, q20b, q20c⟩ := isOf hZ eq19 E13
    obtain ⟨_, _, ⟨T20, L20, k20, n20⟩, -, X20, ⟨Lc20, hQ20, l20, y20, z20⟩, st20⟩ := X19.virtualBack hx (y := (⟨"com/example/ratatoskr/ratatoskr/request/RequestPathInfo", "getParameters", "()Ljava/util/Map;"⟩ : MethodName)) (z := (⟨"com/example/ratatoskr/ratatoskr/request/RequestPathInfo", "getParameters", "()Ljava/util/Map;"⟩ : MethodName)) hown (mvT hZ (hw _ (List.mem_of_getElem? (i := 145) rfl))) (mvT hZ (hw _ (List.mem_of_getElem? (i := 146) rfl))) (notFace_of_selects (args := #[]) (mvT hZ (hw _ (List.mem_of_getElem? (i := 148) rfl)))) (mvT hZ (hw _ (List.mem_of_getElem? (i := 148) rfl))) (mvT hZ (hw _ (List.mem_of_getElem? (i := 147) rfl))) (by decide) (own_back (W := 1) (own_rmg4 l Z a0 hw b12 (.ref em) T16.heap n0 Z0 Fr4_13 rfl) hZ (hw _ (List.mem_of_getElem? (i := 149) rfl)) (hw _ (List.mem_of_getElem? (i := 36) rfl)) (by decide) (by decide)) q20a q20c (g := (mkF m 127 #[.val (.int p1), .val (.int p2), .val (.int p3), .val (.int p4), .val (.ref b1), .val (.ref b9), .val (.ref rp), .val (.ref b12), .val (.ref ao14), .val (.ref ao16)] [(.ref b12), (.ref em)])) rfl (by rw [hml]; rfl) (Steps.refl _) (argsL := []) (rest := [(.ref em)]) (lenOf own_pd25 rfl) rfl (by show 2 * 0 + _ ≤ _; exact Nat.le_of_eq rfl) (hb hby at_127) (fun _ _ => ⟨rfl, eq19, (by decide : 17 + 0 ≤ _), (by decide : 69 + 0 ≤ _)⟩)
    dsimp only [Pt.U, Pt.locs, Pt.cells, Pt.slots] at X20 l20 y20 z20 st20 hQ20
    replace X20 := own_cst X20 l20 y20 z20 (k2 := 17) (n2 := 69) rfl rfl
    clear l20 y20 z20
    obtain ⟨rfl, Nq20, eq20⟩ := hQ20
    have NF20 := Fr.app NF19 Nq20
    refine own_goT st20 ?_
    show own_Go _ _ _ _ (T20.setTop (mkF m 130 #[.val (.int p1), .val (.int p2), .val (.int p3), .val (.int p4), .val (.ref b1), .val (.ref b9), .val (.ref rp), .val (.ref b12), .val (.ref ao14), .val (.ref ao16)] [(.ref em), (.ref em)]))
    refine own_go (fun _ => Jvm.RoadKit.acmp (g := (mkF m 130 #[.val (.int p1), .val (.int p2), .val (.int p3), .val (.int p4), .val (.ref b1), .val (.ref b9), .val (.ref rp), .val (.ref b12), .val (.ref ao14), .val (.ref ao16)] [(.ref em), (.ref em)])) X20 hx rfl rfl rfl (pc0 := 130) (pc' := 133) (same := true) rfl (hb hby at_130) rfl (decide_eq_true (congrArg Value.ref rfl)) (by decide) (by decide)) ?_
    show own_Go _ _ _ _ (T20.setTop (mkF m 133 #[.val (.int p1), .val (.int p2), .val (.int p3), .val (.int p4), .val (.ref b1), .val (.ref b9), .val (.ref rp), .val (.ref b12), .val (.ref ao14), .val (.ref ao16)] []))
    refine own_go (fun _ => XS.aload X20.here hx rfl (hb hby at_133) rfl rfl) ?_
    refine own_go (fun _ => XS.aload X20.here hx rfl (hb hby at_135) rfl rfl) ?_
    show own_Go _ _ _ _ (T20.setTop (mkF m 137 #[.val (.int p1), .val (.int p2), .val (.int p3), .val (.int p4), .val (.ref b1), .val (.ref b9), .val (.ref rp), .val (.ref b12), .val (.ref ao14), .val (.ref ao16)] [(.ref ao14), (.ref b12)]))
    obtain ⟨_, _, ⟨T21, L21, k21, n21⟩, -, X21, ⟨Lc21, hQ21, l21, y21, z21⟩, st21⟩ := Jvm.LawKit.callS X20 hx (y := (⟨"com/example/ratatoskr/ratatoskr/request/RequestPathInfoWithParametersPinLaw", "same", "(Lcom/example/ratatoskr/ratatoskr/request/RequestPathInfo;Lcom/example/ratatoskr/ratatoskr/request/RequestPathInfo;)Z"⟩ : MethodName)) hown (mvT hZ (hw _ (List.mem_of_getElem? (i := 150) rfl))) (mvT hZ (hw _ (List.mem_of_getElem? (i := 151) rfl))) (mvT hZ (hw _ (List.mem_of_getElem? (i := 3) rfl))) (mvT hZ (hw _ (List.mem_of_getElem? (i := 152) rfl))) (by decide) (own_back (W := 0) (own_rmSM l Z a0 hw b12 ao14 rp w1 w2 w3 T16.heap n0 Z0 E13 E14 Fr0_13 Fr1_13 Fr2_13 Fr3_13 Fr0_14 Fr1_14 Fr2_14 Fr3_14 Er s1 s2 s3) hZ (hw _ (List.mem_of_getElem? (i := 152) rfl)) (hw _ (List.mem_of_getElem? (i := 3) rfl)) (by decide) (by decide)) (g := (mkF m 137 #[.val (.int p1), .val (.int p2), .val (.int p3), .val (.int p4), .val (.ref b1), .val (.ref b9), .val (.ref rp), .val (.ref b12), .val (.ref ao14), .val (.ref ao16)] [(.ref ao14), (.ref b12)])) rfl (by rw [hml]; rfl) (argsL := [(.ref b12), (.ref ao14)]) (rest := []) (lenOf own_pd33 rfl) rfl (by show 2 * 0 + _ ≤ _; exact Nat.le_of_eq rfl) (hb hby at_137) (fun _ _ => ⟨rfl, eq20, (by decide : 17 + 0 ≤ _), (by decide : 69 + 0 ≤ _)⟩)
    dsimp only [Pt.U, Pt.locs, Pt.cells, Pt.slots] at X21 l21 y21 z21 st21 hQ21
    replace X21 := own_cst X21 l21 y21 z21 (k2 := 17) (n2 := 69) rfl rfl
    clear l21 y21 z21
    obtain ⟨rfl, Nq21, eq21⟩ := hQ21
    have NF21 := Fr.app NF20 Nq21
    refine own_go st21 ?_
    show own_Go _ _ _ _ (T21.setTop (mkF m 140 #[.val (.int p1), .val (.int p2), .val (.int p3), .val (.int p4), .val (.ref b1), .val (.ref b9), .val (.ref rp), .val (.ref b12), .val (.ref ao14), .val (.ref ao16)] [(.int (1 : Int32))]))
    refine own_go (fun _ => XS.ifNo X21.here hx rfl (hb hby at_140) rfl ((if0 _ _).trans (feq (by decide)).1)) ?_
    show own_Go _ _ _ _ (T21.setTop (mkF m 143 #[.val (.int p1), .val (.int p2), .val (.int p3), .val (.int p4), .val (.ref b1), .val (.ref b9), .val (.ref rp), .val (.ref b12), .val (.ref ao14), .val (.ref ao16)] []))
    refine own_go (fun _ => XS.aload X21.here hx rfl (hb hby at_143) rfl rfl) ?_
    refine own_go (fun _ => XS.aload X21.here hx rfl (hb hby at_145) rfl rfl) ?_
    show own_Go _ _ _ _ (T21.setTop (mkF m 147 #[.val (.int p1), .val (.int p2), .val (.int p3), .val (.int p4), .val (.ref b1), .val (.ref b9), .val (.ref rp), .val (.ref b12), .val (.ref ao14), .val (.ref ao16)] [(.ref ao16), (.ref b12)]))
    obtain ⟨_, _, ⟨T22, L22, k22, n22⟩, -, X22, ⟨Lc22, hQ22, l22, y22, z22⟩, st22⟩ := Jvm.LawKit.callS X21 hx (y := (⟨"com/example/ratatoskr/ratatoskr/request/RequestPathInfoWithParametersPinLaw", "same", "(Lcom/example/ratatoskr/ratatoskr/request/RequestPathInfo;Lcom/example/ratatoskr/ratatoskr/request/RequestPathInfo;)Z"⟩ : MethodName)) hown (mvT hZ (hw _ (List.mem_of_getElem? (i := 150) rfl))) (mvT hZ (hw _ (List.mem_of_getElem? (i := 151) rfl))) (mvT hZ (hw _ (List.mem_of_getElem? (i := 3) rfl))) (mvT hZ (hw _ (List.mem_of_getElem? (i := 152) rfl))) (by decide) (own_back (W := 0) (own_rmSM l Z a0 hw b12 ao16 rp w1 w2 w3 T16.heap n0 Z0 E13 E16 Fr0_13 Fr1_13 Fr2_13 Fr3_13 Fr0_16 Fr1_16 Fr2_16 Fr3_16 Er s1 s2 s3) hZ (hw _ (List.mem_of_getElem? (i := 152) rfl)) (hw _ (List.mem_of_getElem? (i := 3) rfl)) (by decide) (by decide)) (g := (mkF m 147 #[.val (.int p1), .val (.int p2), .val (.int p3), .val (.int p4), .val (.ref b1), .val (.ref b9), .val (.ref rp), .val (.ref b12), .val (.ref ao14), .val (.ref ao16)] [(.ref ao16), (.ref b12)])) rfl (by rw [hml]; rfl) (argsL := [(.ref b12), (.ref ao16)]) (rest := []) (lenOf own_pd33 rfl) rfl (by show 2 * 0 + _ ≤ _; exact Nat.le_of_eq rfl) (hb hby at_147) (fun _ _ => ⟨rfl, eq21, (by decide : 17 + 0 ≤ _), (by decide : 69 + 0 ≤ _)⟩)
    dsimp only [Pt.U, Pt.locs, Pt.cells, Pt.slots] at X22 l22 y22 z22 st22 hQ22
    replace X22 := own_cst X22 l22 y22 z22 (k2 := 17) (n2 := 69) rfl rfl
    clear l22 y22 z22
    obtain ⟨rfl, Nq22, eq22⟩ := hQ22
    have NF22 := Fr.app NF21 Nq22
    refine own_go st22 ?_
    show own_Go _ _ _ _ (T22.setTop (mkF m 150 #[.val (.int p1), .val (.int p2), .val (.int p3), .val (.int p4), .val (.ref b1), .val (.ref b9), .val (.ref rp), .val (.ref b12), .val (.ref ao14), .val (.ref ao16)] [(.int (1 : Int32))]))
    refine own_go (fun _ => XS.ifNo X22.here hx rfl (hb hby at_150) rfl ((if0 _ _).trans (feq (by decide)).1)) ?_
    show own_Go _ _ _ _ (T22.setTop (mkF m 153 #[.val (.int p1), .val (.int p2), .val (.int p3), .val (.int p4), .val (.ref b1), .val (.ref b9), .val (.ref rp), .val (.ref b12), .val (.ref ao14), .val (.ref ao16)] []))
    refine own_go (fun _ => XS.iconst X22.here hx rfl (hb hby at_153)) ?_
    refine own_go (fun _ => XS.goto X22.here hx rfl (pc0 := 154) (pc' := 158) rfl (hb hby at_154) (by decide) (by decide)) ?_
    show own_Go _ _ _ _ (T22.setTop (mkF m 158 #[.val (.int p1), .val (.int p2), .val (.int p3), .val (.int p4), .val (.ref b1), .val (.ref b9), .val (.ref rp), .val (.ref b12), .val (.ref ao14), .val (.ref ao16)] [(.int (1 : Int32))]))
    refine own_retW X22 hS eq22 hsw hlk (v := some (.int (1 : Int32))) (fun h => by rw [Bd.returns] at h; cases h) (fun fs hr => retN X22 hx (t := .boolean) Bd.returns (by simp) (hb hby at_158) hr) ?_ (by decide) (by decide)
    try rw [eq22]
    exact ⟨rfl, NF22⟩
  · have _h := hfl
    refine own_go (fun _ => XS.ifNo X8.here hx rfl (hb hby at_41) rfl ((if0 _ _).trans (feq hfl).1)) ?_
    show own_Go _ _ _ _ (T8.setTop (mkF m 44 #[.val (.int p1), .val (.int p2), .val (.int p3), .val (.int p4), .val (.ref b1), .unset, .unset, .unset, .unset, .unset] []))
    obtain ⟨la23, T23, h23, kq23, lb23, kb23, X23, e23, E23, hS23, hsw23, hZ23, hown23, Ex23, Fc23, Fv23, V23, -, -, CR23, Lt23, sf23, st23⟩ := ldcCH (s := s) (vm0 := s.vm) (EL := consts_1) X8 hx hZ hown (hw _ (List.mem_of_getElem? (i := 5) rfl)) (own_ws hw) e8 hS hsw (own_ew hw) (List.mem_of_getElem? (i := 0) rfl) CR.1 (vs := []) (z := 0) ⟨by decide +kernel, by first | rfl | decide +kernel⟩ (by decide) rfl (g := (mkF m 44 #[.val (.int p1), .val (.int p2), .val (.int p3), .val (.int p4), .val (.ref b1), .unset, .unset, .unset, .unset, .unset] [])) rfl (hb hby at_44) (n := 0) (by decide) (by decide) (by decide) (by decide)
    refine own_go st23 ?_
    replace O := O.ext E23
    replace V_b1 := V_b1.ext E23
    replace Z0 := Nat.le_trans Z0 E23.1
    have hZ := hZ23
    have hown := hown23
    have hS := hS23
    have hsw := hsw23
    replace CR := CR.trans CR23
    show own_Go _ _ _ _ (T23.setTop (mkF m 46 #[.val (.int p1), .val (.int p2), .val (.int p3), .val (.int p4), .val (.ref b1), .unset, .unset, .unset, .unset, .unset] [(.ref la23)]))
    refine own_go (fun _ => XS.goto X23.here hx rfl (pc0 := 46) (pc' := 58) rfl (hb hby at_46) (by decide) (by decide)) ?_
    refine own_go (fun _ => XS.astore X23.here hx rfl (hb hby at_58) rfl rfl (l' := #[.val (.int p1), .val (.int p2), .val (.int p3), .val (.int p4), .val (.ref b1), .val (.ref la23), .unset, .unset, .unset, .unset]) rfl) ?_
    refine own_go (fun _ => XS.iloadN X23.here hx rfl (hb hby at_60) rfl) ?_
    refine own_go (fun _ => XS.sipush X23.here hx rfl (hb hby at_61)) ?_
    show own_Go _ _ _ _ (T23.setTop (mkF m 64 #[.val (.int p1), .val (.int p2), .val (.int p3), .val (.int p4), .val (.ref b1), .val (.ref la23), .unset, .unset, .unset, .unset] [(.int (255 : Int32)), (.int p1)]))
    refine own_go (fun _ => XS.iand X23.here hx rfl (hb hby at_64) rfl) ?_
    refine own_go (fun _ => XS.i2c X23.here hx rfl (hb hby at_65) rfl) ?_
    show own_Go _ _ _ _ (T23.setTop (mkF m 66 #[.val (.int p1), .val (.int p2), .val (.int p3), .val (.int p4), .val (.ref b1), .val (.ref la23), .unset, .unset, .unset, .unset] [(.int ((p1 &&& (255 : Int32)).toUInt32.toUInt16.toUInt32.toInt32))]))
    obtain ⟨_, _, ⟨T24, L24, k24, n24⟩, -, X24, ⟨Lc24, hQ24, l24, y24, z24⟩, st24⟩ := Jvm.LawKit.callS X23 hx (y := (⟨"java/lang/String", "valueOf", "(C)Ljava/lang/String;"⟩ : MethodName)) hown (mvT hZ (hw _ (List.mem_of_getElem? (i := 13) rfl))) (mvT hZ (hw _ (List.mem_of_getElem? (i := 14) rfl))) (mvT hZ (hw _ (List.mem_of_getElem? (i := 6) rfl))) (mvT hZ (hw _ (List.mem_of_getElem? (i := 15) rfl))) (by decide) (own_back (W := 0) (own_rmVO l Z a0 hw ((p1 &&& (255 : Int32)).toUInt32.toUInt16.toUInt32.toInt32) cs h23 n0 Z0 O S_C hcs (own_vo _)) hZ (hw _ (List.mem_of_getElem? (i := 15) rfl)) (hw _ (List.mem_of_getElem? (i := 6) rfl)) (by decide) (by decide)) (g := (mkF m 66 #[.val (.int p1), .val (.int p2), .val (.int p3), .val (.int p4), .val (.ref b1), .val (.ref la23), .unset, .unset, .unset, .unset] [(.int ((p1 &&& (255 : Int32)).toUInt32.toUInt16.toUInt32.toInt32))])) rfl (by rw [hml]; rfl) (argsL := [(.int ((p1 &&& (255 : Int32)).toUInt32.toUInt16.toUInt32.toInt32))]) (rest := []) (lenOf own_pd30 rfl) rfl (by show 2 * 0 + _ ≤ _; exact Nat.le_of_eq rfl) (hb hby at_66) (fun _ _ => ⟨rfl, e23, (by decide : 3 + 2 ≤ _), (by decide : 8 + 5 ≤ _)⟩)
    dsimp only [Pt.U, Pt.locs, Pt.cells, Pt.slots] at X24 l24 y24 z24 st24 hQ24
    replace X24 := own_cst X24 l24 y24 z24 (k2 := 5) (n2 := 13) rfl rfl
    clear l24 y24 z24
    obtain ⟨rp, rfl, Nq24, K24, O24, Er⟩ := hQ24
    have NF24 := Fr.app NF8 Nq24
    refine own_go st24 ?_
    replace CR := CR.trans (CHr.keep K24 all0 CR.1)
    replace hsw := Nat.le_trans hsw K24.1
    replace Ex23 := Ex23.keep K24
    replace Fv23 := Fv23.keep K24 nin0
    replace Fc23 := Fc23.keep K24 nin0
    replace V23 := V23.keep K24 nin0
    replace Z0 := Nat.le_trans Z0 K24.1
    have O := O24
    show own_Go _ _ _ _ (T24.setTop (mkF m 69 #[.val (.int p1), .val (.int p2), .val (.int p3), .val (.int p4), .val (.ref b1), .val (.ref la23), .unset, .unset, .unset, .unset] [(.ref rp)]))
    refine own_go (fun _ => XS.astore X24.here hx rfl (hb hby at_69) rfl rfl (l' := #[.val (.int p1), .val (.int p2), .val (.int p3), .val (.int p4), .val (.ref b1), .val (.ref la23), .val (.ref rp), .unset, .unset, .unset]) rfl) ?_
    obtain ⟨T25, h25, X25, e25, E25, A25, D25, -, st25⟩ := newO X24 hx hZ hown (hw _ (List.mem_of_getElem? (i := 34) rfl)) (hw _ (List.mem_of_getElem? (i := 35) rfl)) (hw _ (List.mem_of_getElem? (i := 36) rfl)) rfl (g := (mkF m 71 #[.val (.int p1), .val (.int p2), .val (.int p3), .val (.int p4), .val (.ref b1), .val (.ref la23), .val (.ref rp), .unset, .unset, .unset] [])) rfl (hb hby at_71) (by decide) (by decide)
    obtain ⟨b25, g25⟩ : ∃ z, z = T24.heap.size := ⟨_, rfl⟩
    rw [← g25] at A25 D25 st25
    refine own_go st25 ?_
    have ge_b25 : n0 ≤ b25 := Nat.le_trans Z0 (Nat.le_of_eq g25.symm)
    replace Ex23 := Ex23.ext E25
    replace Fv23 := Fv23.ext E25
    replace Fc23 := Fc23.ext E25
    replace V23 := V23.ext E25
    replace O := O.ext E25
    replace Er := Er.ext E25
    replace Z0 := Nat.le_trans Z0 E25.1
    replace hsw := Nat.le_trans hsw E25.1
    replace CR := CR.trans (CHr.ext E25 CR.1)
    have F_resourcePath_b25 : Fld Z h25 b25 "com/example/ratatoskr/ratatoskr/request/RequestPathInfo" "resourcePath" "Ljava/lang/String;" .null := D25 (Or.inr (hw _ (List.mem_of_getElem? (i := 112) rfl))) (ty := (.object "java/lang/String")) (by decide)
    have F_selectorString_b25 : Fld Z h25 b25 "com/example/ratatoskr/ratatoskr/request/RequestPathInfo" "selectorString" "Ljava/lang/String;" .null := D25 (Or.inr (hw _ (List.mem_of_getElem? (i := 114) rfl))) (ty := (.object "java/lang/String")) (by decide)
    have F_extension_b25 : Fld Z h25 b25 "com/example/ratatoskr/ratatoskr/request/RequestPathInfo" "extension" "Ljava/lang/String;" .null := D25 (Or.inr (hw _ (List.mem_of_getElem? (i := 125) rfl))) (ty := (.object "java/lang/String")) (by decide)
    have F_suffix_b25 : Fld Z h25 b25 "com/example/ratatoskr/ratatoskr/request/RequestPathInfo" "suffix" "Ljava/lang/String;" .null := D25 (Or.inr (hw _ (List.mem_of_getElem? (i := 127) rfl))) (ty := (.object "java/lang/String")) (by decide)
    have F_parameters_b25 : Fld Z h25 b25 "com/example/ratatoskr/ratatoskr/request/RequestPathInfo" "parameters" "Ljava/util/Map;" .null := D25 (Or.inr (hw _ (List.mem_of_getElem? (i := 135) rfl))) (ty := (.object "java/util/Map")) (by decide)
    refine own_go (fun _ => XS.dup X25.here hx rfl (hb hby at_74) rfl rfl) ?_
    refine own_go (fun _ => XS.aload X25.here hx rfl (hb hby at_75) rfl rfl) ?_
    show own_Go _ _ _ _ (T25.setTop (mkF m 77 #[.val (.int p1), .val (.int p2), .val (.int p3), .val (.int p4), .val (.ref b1), .val (.ref la23), .val (.ref rp), .unset, .unset, .unset] [(.ref rp), (.ref b25), (.ref b25)]))
    refine own_go (fun _ => XS.aload X25.here hx rfl (hb hby at_77) rfl rfl) ?_
    show own_Go _ _ _ _ (T25.setTop (mkF m 79 #[.val (.int p1), .val (.int p2), .val (.int p3), .val (.int p4), .val (.ref b1), .val (.ref la23), .val (.ref rp), .unset, .unset, .unset] [(.ref la23), (.ref rp), (.ref b25), (.ref b25)]))
    obtain ⟨_, _, ⟨T26, L26, k26, n26⟩, -, X26, hS26, hgr26, ⟨Lc26, hQ26, l26, y26, z26, CR26⟩, st26⟩ := X25.specialBackS hx (y := (⟨"com/example/ratatoskr/ratatoskr/request/RequestPathInfo", "<init>", "(Ljava/lang/String;Ljava/lang/String;)V"⟩ : MethodName)) rfl hown (mvT hZ (hw _ (List.mem_of_getElem? (i := 37) rfl))) (mvT hZ (hw _ (List.mem_of_getElem? (i := 38) rfl))) (mvT hZ (hw _ (List.mem_of_getElem? (i := 39) rfl))) (by decide) (own_backK (s := s) (vm0 := T23.vm) (W := 1) (own_rmRP l Z a0 hw b25 rp la23 lb23 kb23 cs fmt 0 [] em h25 n0 Z0 A25 F_resourcePath_b25 F_selectorString_b25 F_extension_b25 F_suffix_b25 F_parameters_b25 Ex23 Fv23 Fc23 V23 O S_C hcs S_F hfmt S_M ge_b25 (by decide) (fun q => absurd rfl q)) hZ (hw _ (List.mem_of_getElem? (i := 39) rfl)) (hw _ (List.mem_of_getElem? (i := 36) rfl)) (by decide) (by decide) (own_ew hw) CR.1) (g := (mkF m 79 #[.val (.int p1), .val (.int p2), .val (.int p3), .val (.int p4), .val (.ref b1), .val (.ref la23), .val (.ref rp), .unset, .unset, .unset] [(.ref la23), (.ref rp), (.ref b25), (.ref b25)])) rfl (by rw [hml]; rfl) (Steps.refl _) (a := b25) (argsL := [(.ref rp), (.ref la23)]) (rest := [(.ref b25)]) (lenOf own_pd31 rfl) rfl (by show 2 * 0 + _ ≤ _; exact Nat.le_of_eq rfl) (hb hby at_79) (fun _ _ => ⟨rfl, e25, (by decide : 6 + 8 ≤ _), (by decide : 18 + 32 ≤ _)⟩)
    dsimp only [Pt.U, Pt.locs, Pt.cells, Pt.slots] at X26 l26 y26 z26 st26 hQ26 hS26 hgr26 CR26
    replace X26 := own_cst X26 l26 y26 z26 (k2 := 14) (n2 := 50) rfl rfl
    clear l26 y26 z26
    obtain ⟨w1, w2, w3, rfl, Nq26, K26, O26, E26, Fr0_26, Fr1_26, Fr2_26, Fr3_26, Fr4_26, s1, s2, s3⟩ := hQ26
    have NF26 := Fr.app NF24 Nq26
    have X26 : Stand p l e room_1 (s.setVm T26.vm) m #[(.int p1), (.int p2), (.int p3), (.int p4)] below meth c T26 _ 14 50 := X26
    have hS := own_sin hS hsw e25 hS26 hgr26
    have hsw : T26.heap.size ≤ T26.heap.size := Nat.le_refl _
    have hown : (s.setVm T26.vm).vm.findClass "com/example/ratatoskr/ratatoskr/request/RequestPathInfoWithParametersPinLaw" = some m.cls := by
      show T26.vm.findClass _ = _
      rw [hS.1.alike.findClass]; exact hown0
    have hZ : Z.Warmed39 (s.setVm T26.vm).vm := State.Warmed39.trans (t := s) hZ0 hS.1
    replace CR := CR.trans CR26
    refine own_goT st26 ?_
    replace Er := Er.keep K26
    replace Z0 := Nat.le_trans Z0 K26.1
    have O := O26
    show own_Go _ _ _ _ (T26.setTop (mkF m 82 #[.val (.int p1), .val (.int p2), .val (.int p3), .val (.int p4), .val (.ref b1), .val (.ref la23), .val (.ref rp), .unset, .unset, .unset] [(.ref b25)]))
    refine own_go (fun _ => XS.astore X26.here hx rfl (hb hby at_82) rfl rfl (l' := #[.val (.int p1), .val (.int p2), .val (.int p3), .val (.int p4), .val (.ref b1), .val (.ref la23), .val (.ref rp), .val (.ref b25), .unset, .unset]) rfl) ?_
    refine own_go (fun _ => XS.aload X26.here hx rfl (hb hby at_84) rfl rfl) ?_
    refine own_go (fun _ => XS.aconstNull X26.here hx rfl (hb hby at_86)) ?_
    show own_Go _ _ _ _ (T26.setTop (mkF m 87 #[.val (.int p1), .val (.int p2), .val (.int p3), .val (.int p4), .val (.ref b1), .val (.ref la23), .val (.ref rp), .val (.ref b25), .unset, .unset] [.null, (.ref b25)]))
    obtain ⟨cq27, kq27, q27a, q27b, q27c⟩ := isOf hZ rfl E26
    obtain ⟨_, _, ⟨T27, L27, k27, n27⟩, -, X27, ⟨Lc27, hQ27, l27, y27, z27⟩, st27⟩ := X26.virtualBack hx (y := (⟨"com/example/ratatoskr/ratatoskr/request/RequestPathInfo", "withParameters", "(Ljava/util/Map;)Lcom/example/ratatoskr/ratatoskr/request/RequestPathInfo;"⟩ : MethodName)) (z := (⟨"com/example/ratatoskr/ratatoskr/request/RequestPathInfo", "withParameters", "(Ljava/util/Map;)Lcom/example/ratatoskr/ratatoskr/request/RequestPathInfo;"⟩ : MethodName)) hown (mvT hZ (hw _ (List.mem_of_getElem? (i := 136) rfl))) (mvT hZ (hw _ (List.mem_of_getElem? (i := 137) rfl))) (notFace_of_selects (args := #[]) (mvT hZ (hw _ (List.mem_of_getElem? (i := 139) rfl)))) (mvT hZ (hw _ (List.mem_of_getElem? (i := 139) rfl))) (mvT hZ (hw _ (List.mem_of_getElem? (i := 138) rfl))) (by decide) (own_back (W := 0) (own_rmWP l Z a0 hw b25 (.ref rp) w1 w2 w3 .null T26.heap n0 Z0 E26 Fr0_26 Fr1_26 Fr2_26 Fr3_26 O rfl (own_svr s1) (own_svr s2) (own_svr s3) rfl) hZ (hw _ (List.mem_of_getElem? (i := 140) rfl)) (hw _ (List.mem_of_getElem? (i := 36) rfl)) (by decide) (by decide)) q27a q27c (g := (mkF m 87 #[.val (.int p1), .val (.int p2), .val (.int p3), .val (.int p4), .val (.ref b1), .val (.ref la23), .val (.ref rp), .val (.ref b25), .unset, .unset] [.null, (.ref b25)])) rfl (by rw [hml]; rfl) (Steps.refl _) (argsL := [.null]) (rest := []) (lenOf own_pd32 rfl) rfl (by show 2 * 0 + _ ≤ _; exact Nat.le_of_eq rfl) (hb hby at_87) (fun _ _ => ⟨rfl, rfl, (by decide : 14 + 1 ≤ _), (by decide : 50 + 5 ≤ _)⟩)
    dsimp only [Pt.U, Pt.locs, Pt.cells, Pt.slots] at X27 l27 y27 z27 st27 hQ27
    replace X27 := own_cst X27 l27 y27 z27 (k2 := 15) (n2 := 55) rfl rfl
    clear l27 y27 z27
    obtain ⟨ao27, rfl, Nq27, K27, O27, sz27, E27, Fr0_27, Fr1_27, Fr2_27, Fr3_27, Fr4_27⟩ := hQ27
    have NF27 := Fr.app NF26 Nq27
    refine own_goT st27 ?_
    have ne_b25_ao27 : b25 ≠ ao27 := Nat.ne_of_lt (Nat.lt_of_lt_of_le E26.lt sz27)
    replace hsw := Nat.le_trans hsw K27.1
    replace Er := Er.keep K27
    replace E26 := E26.keep K27
    replace Fr0_26 := Fr0_26.keep K27 nin0
    replace Fr1_26 := Fr1_26.keep K27 nin0
    replace Fr2_26 := Fr2_26.keep K27 nin0
    replace Fr3_26 := Fr3_26.keep K27 nin0
    replace Fr4_26 := Fr4_26.keep K27 nin0
    replace Z0 := Nat.le_trans Z0 K27.1
    replace s1 := own_svk s1 K27
    replace s2 := own_svk s2 K27
    replace s3 := own_svk s3 K27
    have O := O27
    show own_Go _ _ _ _ (T27.setTop (mkF m 90 #[.val (.int p1), .val (.int p2), .val (.int p3), .val (.int p4), .val (.ref b1), .val (.ref la23), .val (.ref rp), .val (.ref b25), .unset, .unset] [(.ref ao27)]))
    refine own_go (fun _ => XS.astore X27.here hx rfl (hb hby at_90) rfl rfl (l' := #[.val (.int p1), .val (.int p2), .val (.int p3), .val (.int p4), .val (.ref b1), .val (.ref la23), .val (.ref rp), .val (.ref b25), .val (.ref ao27), .unset]) rfl) ?_
    refine own_go (fun _ => XS.aload X27.here hx rfl (hb hby at_92) rfl rfl) ?_
    refine own_go (fun _ => XS.aload X27.here hx rfl (hb hby at_94) rfl rfl) ?_
    show own_Go _ _ _ _ (T27.setTop (mkF m 96 #[.val (.int p1), .val (.int p2), .val (.int p3), .val (.int p4), .val (.ref b1), .val (.ref la23), .val (.ref rp), .val (.ref b25), .val (.ref ao27), .unset] [(.ref b25), (.ref ao27)]))
    obtain ⟨cq28, kq28, q28a, q28b, q28c⟩ := isOf hZ rfl E26
    obtain ⟨_, _, ⟨T28, L28, k28, n28⟩, -, X28, ⟨Lc28, hQ28, l28, y28, z28⟩, st28⟩ := X27.virtualBack hx (y := (⟨"com/example/ratatoskr/ratatoskr/request/RequestPathInfo", "getParameters", "()Ljava/util/Map;"⟩ : MethodName)) (z := (⟨"com/example/ratatoskr/ratatoskr/request/RequestPathInfo", "getParameters", "()Ljava/util/Map;"⟩ : MethodName)) hown (mvT hZ (hw _ (List.mem_of_getElem? (i := 145) rfl))) (mvT hZ (hw _ (List.mem_of_getElem? (i := 146) rfl))) (notFace_of_selects (args := #[]) (mvT hZ (hw _ (List.mem_of_getElem? (i := 148) rfl)))) (mvT hZ (hw _ (List.mem_of_getElem? (i := 148) rfl))) (mvT hZ (hw _ (List.mem_of_getElem? (i := 147) rfl))) (by decide) (own_back (W := 1) (own_rmg4 l Z a0 hw b25 (.ref em) T27.heap n0 Z0 Fr4_26 rfl) hZ (hw _ (List.mem_of_getElem? (i := 149) rfl)) (hw _ (List.mem_of_getElem? (i := 36) rfl)) (by decide) (by decide)) q28a q28c (g := (mkF m 96 #[.val (.int p1), .val (.int p2), .val (.int p3), .val (.int p4), .val (.ref b1), .val (.ref la23), .val (.ref rp), .val (.ref b25), .val (.ref ao27), .unset] [(.ref b25), (.ref ao27)])) rfl (by rw [hml]; rfl) (Steps.refl _) (argsL := []) (rest := [(.ref ao27)]) (lenOf own_pd25 rfl) rfl (by show 2 * 0 + _ ≤ _; exact Nat.le_of_eq rfl) (hb hby at_96) (fun _ _ => ⟨rfl, rfl, (by decide : 15 + 0 ≤ _), (by decide : 55 + 0 ≤ _)⟩)
    dsimp only [Pt.U, Pt.locs, Pt.cells, Pt.slots] at X28 l28 y28 z28 st28 hQ28
    replace X28 := own_cst X28 l28 y28 z28 (k2 := 15) (n2 := 55) rfl rfl
    clear l28 y28 z28
    obtain ⟨rfl, Nq28, eq28⟩ := hQ28
    have NF28 := Fr.app NF27 Nq28
    refine own_goT st28 ?_
    show own_Go _ _ _ _ (T28.setTop (mkF m 99 #[.val (.int p1), .val (.int p2), .val (.int p3), .val (.int p4), .val (.ref b1), .val (.ref la23), .val (.ref rp), .val (.ref b25), .val (.ref ao27), .unset] [(.ref em), (.ref ao27)]))
    obtain ⟨cq29, kq29, q29a, q29b, q29c⟩ := isOf hZ eq28 E27
    obtain ⟨_, _, ⟨T29, L29, k29, n29⟩, -, X29, ⟨Lc29, hQ29, l29, y29, z29⟩, st29⟩ := X28.virtualBack hx (y := (⟨"com/example/ratatoskr/ratatoskr/request/RequestPathInfo", "withParameters", "(Ljava/util/Map;)Lcom/example/ratatoskr/ratatoskr/request/RequestPathInfo;"⟩ : MethodName)) (z := (⟨"com/example/ratatoskr/ratatoskr/request/RequestPathInfo", "withParameters", "(Ljava/util/Map;)Lcom/example/ratatoskr/ratatoskr/request/RequestPathInfo;"⟩ : MethodName)) hown (mvT hZ (hw _ (List.mem_of_getElem? (i := 136) rfl))) (mvT hZ (hw _ (List.mem_of_getElem? (i := 137) rfl))) (notFace_of_selects (args := #[]) (mvT hZ (hw _ (List.mem_of_getElem? (i := 139) rfl)))) (mvT hZ (hw _ (List.mem_of_getElem? (i := 139) rfl))) (mvT hZ (hw _ (List.mem_of_getElem? (i := 138) rfl))) (by decide) (own_back (W := 0) (own_rmWP l Z a0 hw ao27 (.ref rp) w1 w2 w3 (.ref em) T27.heap n0 Z0 E27 Fr0_27 Fr1_27 Fr2_27 Fr3_27 O rfl (own_svr s1) (own_svr s2) (own_svr s3) rfl) hZ (hw _ (List.mem_of_getElem? (i := 140) rfl)) (hw _ (List.mem_of_getElem? (i := 36) rfl)) (by decide) (by decide)) q29a q29c (g := (mkF m 99 #[.val (.int p1), .val (.int p2), .val (.int p3), .val (.int p4), .val (.ref b1), .val (.ref la23), .val (.ref rp), .val (.ref b25), .val (.ref ao27), .unset] [(.ref em), (.ref ao27)])) rfl (by rw [hml]; rfl) (Steps.refl _) (argsL := [(.ref em)]) (rest := []) (lenOf own_pd32 rfl) rfl (by show 2 * 0 + _ ≤ _; exact Nat.le_of_eq rfl) (hb hby at_99) (fun _ _ => ⟨rfl, eq28, (by decide : 15 + 1 ≤ _), (by decide : 55 + 5 ≤ _)⟩)
    dsimp only [Pt.U, Pt.locs, Pt.cells, Pt.slots] at X29 l29 y29 z29 st29 hQ29
    replace X29 := own_cst X29 l29 y29 z29 (k2 := 16) (n2 := 60) rfl rfl
    clear l29 y29 z29
    obtain ⟨ao29, rfl, Nq29, K29, O29, sz29, E29, Fr0_29, Fr1_29, Fr2_29, Fr3_29, Fr4_29⟩ := hQ29
    have NF29 := Fr.app NF28 Nq29
    refine own_goT st29 ?_
    have ne_b25_ao29 : b25 ≠ ao29 := Nat.ne_of_lt (Nat.lt_of_lt_of_le E26.lt sz29)
    have ne_ao27_ao29 : ao27 ≠ ao29 := Nat.ne_of_lt (Nat.lt_of_lt_of_le E27.lt sz29)
    replace hsw := Nat.le_trans hsw K29.1
    replace Er := Er.keep K29
    replace E26 := E26.keep K29
    replace Fr0_26 := Fr0_26.keep K29 nin0
    replace Fr1_26 := Fr1_26.keep K29 nin0
    replace Fr2_26 := Fr2_26.keep K29 nin0
    replace Fr3_26 := Fr3_26.keep K29 nin0
    replace Fr4_26 := Fr4_26.keep K29 nin0
    replace E27 := E27.keep K29
    replace Fr0_27 := Fr0_27.keep K29 nin0
    replace Fr1_27 := Fr1_27.keep K29 nin0
    replace Fr2_27 := Fr2_27.keep K29 nin0
    replace Fr3_27 := Fr3_27.keep K29 nin0
    replace Fr4_27 := Fr4_27.keep K29 nin0
    replace Z0 := Nat.le_trans Z0 K29.1
    replace s1 := own_svk s1 K29
    replace s2 := own_svk s2 K29
    replace s3 := own_svk s3 K29
    have O := O29
    show own_Go _ _ _ _ (T29.setTop (mkF m 102 #[.val (.int p1), .val (.int p2), .val (.int p3), .val (.int p4), .val (.ref b1), .val (.ref la23), .val (.ref rp), .val (.ref b25), .val (.ref ao27), .unset] [(.ref ao29)]))
    refine own_go (fun _ => XS.astore X29.here hx rfl (hb hby at_102) rfl rfl (l' := #[.val (.int p1), .val (.int p2), .val (.int p3), .val (.int p4), .val (.ref b1), .val (.ref la23), .val (.ref rp), .val (.ref b25), .val (.ref ao27), .val (.ref ao29)]) rfl) ?_
    refine own_go (fun _ => XS.aload X29.here hx rfl (hb hby at_104) rfl rfl) ?_
    show own_Go _ _ _ _ (T29.setTop (mkF m 106 #[.val (.int p1), .val (.int p2), .val (.int p3), .val (.int p4), .val (.ref b1), .val (.ref la23), .val (.ref rp), .val (.ref b25), .val (.ref ao27), .val (.ref ao29)] [(.ref b25)]))
    obtain ⟨cq30, kq30, q30a, q30b, q30c⟩ := isOf hZ rfl E26
    obtain ⟨_, _, ⟨T30, L30, k30, n30⟩, -, X30, ⟨Lc30, hQ30, l30, y30, z30⟩, st30⟩ := X29.virtualBack hx (y := (⟨"com/example/ratatoskr/ratatoskr/request/RequestPathInfo", "getParameters", "()Ljava/util/Map;"⟩ : MethodName)) (z := (⟨"com/example/ratatoskr/ratatoskr/request/RequestPathInfo", "getParameters", "()Ljava/util/Map;"⟩ : MethodName)) hown (mvT hZ (hw _ (List.mem_of_getElem? (i := 145) rfl))) (mvT hZ (hw _ (List.mem_of_getElem? (i := 146) rfl))) (notFace_of_selects (args := #[]) (mvT hZ (hw _ (List.mem_of_getElem? (i := 148) rfl)))) (mvT hZ (hw _ (List.mem_of_getElem? (i := 148) rfl))) (mvT hZ (hw _ (List.mem_of_getElem? (i := 147) rfl))) (by decide) (own_back (W := 0) (own_rmg4 l Z a0 hw b25 (.ref em) T29.heap n0 Z0 Fr4_26 rfl) hZ (hw _ (List.mem_of_getElem? (i := 149) rfl)) (hw _ (List.mem_of_getElem? (i := 36) rfl)) (by decide) (by decide)) q30a q30c (g := (mkF m 106 #[.val (.int p1), .val (.int p2), .val (.int p3), .val (.int p4), .val (.ref b1), .val (.ref la23), .val (.ref rp), .val (.ref b25), .val (.ref ao27), .val (.ref ao29)] [(.ref b25)])) rfl (by rw [hml]; rfl) (Steps.refl _) (argsL := []) (rest := []) (lenOf own_pd25 rfl) rfl (by show 2 * 0 + _ ≤ _; exact Nat.le_of_eq rfl) (hb hby at_106) (fun _ _ => ⟨rfl, rfl, (by decide : 16 + 0 ≤ _), (by decide : 60 + 0 ≤ _)⟩)
    dsimp only [Pt.U, Pt.locs, Pt.cells, Pt.slots] at X30 l30 y30 z30 st30 hQ30
    replace X30 := own_cst X30 l30 y30 z30 (k2 := 16) (n2 := 60) rfl rfl
    clear l30 y30 z30
    obtain ⟨rfl, Nq30, eq30⟩ := hQ30
    have NF30 := Fr.app NF29 Nq30
    refine own_goT st30 ?_
    show own_Go _ _ _ _ (T30.setTop (mkF m 109 #[.val (.int p1), .val (.int p2), .val (.int p3), .val (.int p4), .val (.ref b1), .val (.ref la23), .val (.ref rp), .val (.ref b25), .val (.ref ao27), .val (.ref ao29)] [(.ref em)]))
    refine own_go (fun _ => XS.ifnullNo X30.here hx rfl (hb hby at_109) rfl) ?_
    show own_Go _ _ _ _ (T30.setTop (mkF m 112 #[.val (.int p1), .val (.int p2), .val (.int p3), .val (.int p4), .val (.ref b1), .val (.ref la23), .val (.ref rp), .val (.ref b25), .val (.ref ao27), .val (.ref ao29)] []))
    refine own_go (fun _ => XS.aload X30.here hx rfl (hb hby at_112) rfl rfl) ?_
    show own_Go _ _ _ _ (T30.setTop (mkF m 114 #[.val (.int p1), .val (.int p2), .val (.int p3), .val (.int p4), .val (.ref b1), .val (.ref la23), .val (.ref rp), .val (.ref b25), .val (.ref ao27), .val (.ref ao29)] [(.ref ao27)]))
    obtain ⟨cq31, kq31, q31a, q31b, q31c⟩ := isOf hZ eq30 E27
    obtain ⟨_, _, ⟨T31, L31, k31, n31⟩, -, X31, ⟨Lc31, hQ31, l31, y31, z31⟩, st31⟩ := X30.virtualBack hx (y := (⟨"com/example/ratatoskr/ratatoskr/request/RequestPathInfo", "getParameters", "()Ljava/util/Map;"⟩ : MethodName)) (z := (⟨"com/example/ratatoskr/ratatoskr/request/RequestPathInfo", "getParameters", "()Ljava/util/Map;"⟩ : MethodName)) hown (mvT hZ (hw _ (List.mem_of_getElem? (i := 145) rfl))) (mvT hZ (hw _ (List.mem_of_getElem? (i := 146) rfl))) (notFace_of_selects (args := #[]) (mvT hZ (hw _ (List.mem_of_getElem? (i := 148) rfl)))) (mvT hZ (hw _ (List.mem_of_getElem? (i := 148) rfl))) (mvT hZ (hw _ (List.mem_of_getElem? (i := 147) rfl))) (by decide) (own_back (W := 0) (own_rmg4 l Z a0 hw ao27 .null T29.heap n0 Z0 Fr4_27 rfl) hZ (hw _ (List.mem_of_getElem? (i := 149) rfl)) (hw _ (List.mem_of_getElem? (i := 36) rfl)) (by decide) (by decide)) q31a q31c (g := (mkF m 114 #[.val (.int p1), .val (.int p2), .val (.int p3), .val (.int p4), .val (.ref b1), .val (.ref la23), .val (.ref rp), .val (.ref b25), .val (.ref ao27), .val (.ref ao29)] [(.ref ao27)])) rfl (by rw [hml]; rfl) (Steps.refl _) (argsL := []) (rest := []) (lenOf own_pd25 rfl) rfl (by show 2 * 0 + _ ≤ _; exact Nat.le_of_eq rfl) (hb hby at_114) (fun _ _ => ⟨rfl, eq30, (by decide : 16 + 0 ≤ _), (by decide : 60 + 0 ≤ _)⟩)
    dsimp only [Pt.U, Pt.locs, Pt.cells, Pt.slots] at X31 l31 y31 z31 st31 hQ31
    replace X31 := own_cst X31 l31 y31 z31 (k2 := 16) (n2 := 60) rfl rfl
    clear l31 y31 z31
    obtain ⟨rfl, Nq31, eq31⟩ := hQ31
    have NF31 := Fr.app NF30 Nq31
    refine own_goT st31 ?_
    show own_Go _ _ _ _ (T31.setTop (mkF m 117 #[.val (.int p1), .val (.int p2), .val (.int p3), .val (.int p4), .val (.ref b1), .val (.ref la23), .val (.ref rp), .val (.ref b25), .val (.ref ao27), .val (.ref ao29)] [.null]))
    refine own_go (fun _ => XS.ifnonnullNo X31.here hx rfl (hb hby at_117) rfl) ?_
    show own_Go _ _ _ _ (T31.setTop (mkF m 120 #[.val (.int p1), .val (.int p2), .val (.int p3), .val (.int p4), .val (.ref b1), .val (.ref la23), .val (.ref rp), .val (.ref b25), .val (.ref ao27), .val (.ref ao29)] []))
    refine own_go (fun _ => XS.aload X31.here hx rfl (hb hby at_120) rfl rfl) ?_
    show own_Go _ _ _ _ (T31.setTop (mkF m 122 #[.val (.int p1), .val (.int p2), .val (.int p3), .val (.int p4), .val (.ref b1), .val (.ref la23), .val (.ref rp), .val (.ref b25), .val (.ref ao27), .val (.ref ao29)] [(.ref ao29)]))
    obtain ⟨cq32, kq32, q32a, q32b, q32c⟩ := isOf hZ eq31 E29
    obtain ⟨_, _, ⟨T32, L32, k32, n32⟩, -, X32, ⟨Lc32, hQ32, l32, y32, z32⟩, st32⟩ := X31.virtualBack hx (y := (⟨"com/example/ratatoskr/ratatoskr/request/RequestPathInfo", "getParameters", "()Ljava/util/Map;"⟩ : MethodName)) (z := (⟨"com/example/ratatoskr/ratatoskr/request/RequestPathInfo", "getParameters", "()Ljava/util/Map;"⟩ : MethodName)) hown (mvT hZ (hw _ (List.mem_of_getElem? (i := 145) rfl))) (mvT hZ (hw _ (List.mem_of_getElem? (i := 146) rfl))) (notFace_of_selects (args := #[]) (mvT hZ (hw _ (List.mem_of_getElem? (i := 148) rfl)))) (mvT hZ (hw _ (List.mem_of_getElem? (i := 148) rfl))) (mvT hZ (hw _ (List.mem_of_getElem? (i := 147) rfl))) (by decide) (own_back (W := 0) (own_rmg4 l Z a0 hw ao29 (.ref em) T29.heap n0 Z0 Fr4_29 rfl) hZ (hw _ (List.mem_of_getElem? (i := 149) rfl)) (hw _ (List.mem_of_getElem? (i := 36) rfl)) (by decide) (by decide)) q32a q32c (g := (mkF m 122 #[.val (.int p1), .val (.int p2), .val (.int p3), .val (.int p4), .val (.ref b1), .val (.ref la23), .val (.ref rp), .val (.ref b25), .val (.ref ao27), .val (.ref ao29)] [(.ref ao29)])) rfl (by rw [hml]; rfl) (Steps.refl _) (argsL := []) (rest := []) (lenOf own_pd25 rfl) rfl (by show 2 * 0 + _ ≤ _; exact Nat.le_of_eq rfl) (hb hby at_122) (fun _ _ => ⟨rfl, eq31, (by decide : 16 + 0 ≤ _), (by decide : 60 + 0 ≤ _)⟩)
    dsimp only [Pt.U, Pt.locs, Pt.cells, Pt.slots] at X32 l32 y32 z32 st32 hQ32
    replace X32 := own_cst X32 l32 y32 z32 (k2 := 16) (n2 := 60) rfl rfl
    clear l32 y32 z32
    obtain ⟨rfl, Nq32, eq32⟩ := hQ32
    have NF32 := Fr.app NF31 Nq32
    refine own_goT st32 ?_
    show own_Go _ _ _ _ (T32.setTop (mkF m 125 #[.val (.int p1), .val (.int p2), .val (.int p3), .val (.int p4), .val (.ref b1), .val (.ref la23), .val (.ref rp), .val (.ref b25), .val (.ref ao27), .val (.ref ao29)] [(.ref em)]))
    refine own_go (fun _ => XS.aload X32.here hx rfl (hb hby at_125) rfl rfl) ?_
    show own_Go _ _ _ _ (T32.setTop (mkF m 127 #[.val (.int p1), .val (.int p2), .val (.int p3), .val (.int p4), .val (.ref b1), .val (.ref la23), .val (.ref rp), .val (.ref b25), .val (.ref ao27), .val (.ref ao29)] [(.ref b25), (.ref em)]))
    obtain ⟨cq33, kq33, q33a, q33b, q33c⟩ := isOf hZ eq32 E26
    obtain ⟨_, _, ⟨T33, L33, k33, n33⟩, -, X33, ⟨Lc33, hQ33, l33, y33, z33⟩, st33⟩ := X32.virtualBack hx (y := (⟨"com/example/ratatoskr/ratatoskr/request/RequestPathInfo", "getParameters", "()Ljava/util/Map;"⟩ : MethodName)) (z := (⟨"com/example/ratatoskr/ratatoskr/request/RequestPathInfo", "getParameters", "()Ljava/util/Map;"⟩ : MethodName)) hown (mvT hZ (hw _ (List.mem_of_getElem? (i := 145) rfl))) (mvT hZ (hw _ (List.mem_of_getElem? (i := 146) rfl))) (notFace_of_selects (args := #[]) (mvT hZ (hw _ (List.mem_of_getElem? (i := 148) rfl)))) (mvT hZ (hw _ (List.mem_of_getElem? (i := 148) rfl))) (mvT hZ (hw _ (List.mem_of_getElem? (i := 147) rfl))) (by decide) (own_back (W := 1) (own_rmg4 l Z a0 hw b25 (.ref em) T29.heap n0 Z0 Fr4_26 rfl) hZ (hw _ (List.mem_of_getElem? (i := 149) rfl)) (hw _ (List.mem_of_getElem? (i := 36) rfl)) (by decide) (by decide)) q33a q33c (g := (mkF m 127 #[.val (.int p1), .val (.int p2), .val (.int p3), .val (.int p4), .val (.ref b1), .val (.ref la23), .val (.ref rp), .val (.ref b25), .val (.ref ao27), .val (.ref ao29)] [(.ref b25), (.ref em)])) rfl (by rw [hml]; rfl) (Steps.refl _) (argsL := []) (rest := [(.ref em)]) (lenOf own_pd25 rfl) rfl (by show 2 * 0 + _ ≤ _; exact Nat.le_of_eq rfl) (hb hby at_127) (fun _ _ => ⟨rfl, eq32, (by decide : 16 + 0 ≤ _), (by decide : 60 + 0 ≤ _)⟩)
    dsimp only [Pt.U, Pt.locs, Pt.cells, Pt.slots] at X33 l33 y33 z33 st33 hQ33
    replace X33 := own_cst X33 l33 y33 z33 (k2 := 16) (n2 := 60) rfl rfl
    clear l33 y33 z33
    obtain ⟨rfl, Nq33, eq33⟩ := hQ33
    have NF33 := Fr.app NF32 Nq33
    refine own_goT st33 ?_
    show own_Go _ _ _ _ (T33.setTop (mkF m 130 #[.val (.int p1), .val (.int p2), .val (.int p3), .val (.int p4), .val (.ref b1), .val (.ref la23), .val (.ref rp), .val (.ref b25), .val (.ref ao27), .val (.ref ao29)] [(.ref em), (.ref em)]))
    refine own_go (fun _ => Jvm.RoadKit.acmp (g := (mkF m 130 #[.val (.int p1), .val (.int p2), .val (.int p3), .val (.int p4), .val (.ref b1), .val (.ref la23), .val (.ref rp), .val (.ref b25), .val (.ref ao27), .val (.ref ao29)] [(.ref em), (.ref em)])) X33 hx rfl rfl rfl (pc0 := 130) (pc' := 133) (same := true) rfl (hb hby at_130) rfl (decide_eq_true (congrArg Value.ref rfl)) (by decide) (by decide)) ?_
    show own_Go _ _ _ _ (T33.setTop (mkF m 133 #[.val (.int p1), .val (.int p2), .val (.int p3), .val (.int p4), .val (.ref b1), .val (.ref la23), .val (.ref rp), .val (.ref b25), .val (.ref ao27), .val (.ref ao29)] []))
    refine own_go (fun _ => XS.aload X33.here hx rfl (hb hby at_133) rfl rfl) ?_
    refine own_go (fun _ => XS.aload X33.here hx rfl (hb hby at_135) rfl rfl) ?_
    show own_Go _ _ _ _ (T33.setTop (mkF m 137 #[.val (.int p1), .val (.int p2), .val (.int p3), .val (.int p4), .val (.ref b1), .val (.ref la23), .val (.ref rp), .val (.ref b25), .val (.ref ao27), .val (.ref ao29)] [(.ref ao27), (.ref b25)]))
    obtain ⟨_, _, ⟨T34, L34, k34, n34⟩, -, X34, ⟨Lc34, hQ34, l34, y34, z34⟩, st34⟩ := Jvm.LawKit.callS X33 hx (y := (⟨"com/example/ratatoskr/ratatoskr/request/RequestPathInfoWithParametersPinLaw", "same", "(Lcom/example/ratatoskr/ratatoskr/request/RequestPathInfo;Lcom/example/ratatoskr/ratatoskr/request/RequestPathInfo;)Z"⟩ : MethodName)) hown (mvT hZ (hw _ (List.mem_of_getElem? (i := 150) rfl))) (mvT hZ (hw _ (List.mem_of_getElem? (i := 151) rfl))) (mvT hZ (hw _ (List.mem_of_getElem? (i := 3) rfl))) (mvT hZ (hw _ (List.mem_of_getElem? (i := 152) rfl))) (by decide) (own_back (W := 0) (own_rmSM l Z a0 hw b25 ao27 rp w1 w2 w3 T29.heap n0 Z0 E26 E27 Fr0_26 Fr1_26 Fr2_26 Fr3_26 Fr0_27 Fr1_27 Fr2_27 Fr3_27 Er s1 s2 s3) hZ (hw _ (List.mem_of_getElem? (i := 152) rfl)) (hw _ (List.mem_of_getElem? (i := 3) rfl)) (by decide) (by decide)) (g := (mkF m 137 #[.val (.int p1), .val (.int p2), .val (.int p3), .val (.int p4), .val (.ref b1), .val (.ref la23), .val (.ref rp), .val (.ref b25), .val (.ref ao27), .val (.ref ao29)] [(.ref ao27), (.ref b25)])) rfl (by rw [hml]; rfl) (argsL := [(.ref b25), (.ref ao27)]) (rest := []) (lenOf own_pd33 rfl) rfl (by show 2 * 0 + _ ≤ _; exact Nat.le_of_eq rfl) (hb hby at_137) (fun _ _ => ⟨rfl, eq33, (by decide : 16 + 0 ≤ _), (by decide : 60 + 0 ≤ _)⟩)
    dsimp only [Pt.U, Pt.locs, Pt.cells, Pt.slots] at X34 l34 y34 z34 st34 hQ34
    replace X34 := own_cst X34 l34 y34 z34 (k2 := 16) (n2 := 60) rfl rfl
    clear l34 y34 z34
    obtain ⟨rfl, Nq34, eq34⟩ := hQ34
    have NF34 := Fr.app NF33 Nq34
    refine own_go st34 ?_
    show own_Go _ _ _ _ (T34.setTop (mkF m 140 #[.val (.int p1), .val (.int p2), .val (.int p3), .val (.int p4), .val (.ref b1), .val (.ref la23), .val (.ref rp), .val (.ref b25), .val (.ref ao27), .val (.ref ao29)] [(.int (1 : Int32))]))
    refine own_go (fun _ => XS.ifNo X34.here hx rfl (hb hby at_140) rfl ((if0 _ _).trans (feq (by decide)).1)) ?_
    show own_Go _ _ _ _ (T34.setTop (mkF m 143 #[.val (.int p1), .val (.int p2), .val (.int p3), .val (.int p4), .val (.ref b1), .val (.ref la23), .val (.ref rp), .val (.ref b25), .val (.ref ao27), .val (.ref ao29)] []))
    refine own_go (fun _ => XS.aload X34.here hx rfl (hb hby at_143) rfl rfl) ?_
    refine own_go (fun _ => XS.aload X34.here hx rfl (hb hby at_145) rfl rfl) ?_
    show own_Go _ _ _ _ (T34.setTop (mkF m 147 #[.val (.int p1), .val (.int p2), .val (.int p3), .val (.int p4), .val (.ref b1), .val (.ref la23), .val (.ref rp), .val (.ref b25), .val (.ref ao27), .val (.ref ao29)] [(.ref ao29), (.ref b25)]))
    obtain ⟨_, _, ⟨T35, L35, k35, n35⟩, -, X35, ⟨Lc35, hQ35, l35, y35, z35⟩, st35⟩ := Jvm.LawKit.callS X34 hx (y := (⟨"com/example/ratatoskr/ratatoskr/request/RequestPathInfoWithParametersPinLaw", "same", "(Lcom/example/ratatoskr/ratatoskr/request/RequestPathInfo;Lcom/example/ratatoskr/ratatoskr/request/RequestPathInfo;)Z"⟩ : MethodName)) hown (mvT hZ (hw _ (List.mem_of_getElem? (i := 150) rfl))) (mvT hZ (hw _ (List.mem_of_getElem? (i := 151) rfl))) (mvT hZ (hw _ (List.mem_of_getElem? (i := 3) rfl))) (mvT hZ (hw _ (List.mem_of_getElem? (i := 152) rfl))) (by decide) (own_back (W := 0) (own_rmSM l Z a0 hw b25 ao29 rp w1 w2 w3 T29.heap n0 Z0 E26 E29 Fr0_26 Fr1_26 Fr2_26 Fr3_26 Fr0_29 Fr1_29 Fr2_29 Fr3_29 Er s1 s2 s3) hZ (hw _ (List.mem_of_getElem? (i := 152) rfl)) (hw _ (List.mem_of_getElem? (i := 3) rfl)) (by decide) (by decide)) (g := (mkF m 147 #[.val (.int p1), .val (.int p2), .val (.int p3), .val (.int p4), .val (.ref b1), .val (.ref la23), .val (.ref rp), .val (.ref b25), .val (.ref ao27), .val (.ref ao29)] [(.ref ao29), (.ref b25)])) rfl (by rw [hml]; rfl) (argsL := [(.ref b25), (.ref ao29)]) (rest := []) (lenOf own_pd33 rfl) rfl (by show 2 * 0 + _ ≤ _; exact Nat.le_of_eq rfl) (hb hby at_147) (fun _ _ => ⟨rfl, eq34, (by decide : 16 + 0 ≤ _), (by decide : 60 + 0 ≤ _)⟩)
    dsimp only [Pt.U, Pt.locs, Pt.cells, Pt.slots] at X35 l35 y35 z35 st35 hQ35
    replace X35 := own_cst X35 l35 y35 z35 (k2 := 16) (n2 := 60) rfl rfl
    clear l35 y35 z35
    obtain ⟨rfl, Nq35, eq35⟩ := hQ35
    have NF35 := Fr.app NF34 Nq35
    refine own_go st35 ?_
    show own_Go _ _ _ _ (T35.setTop (mkF m 150 #[.val (.int p1), .val (.int p2), .val (.int p3), .val (.int p4), .val (.ref b1), .val (.ref la23), .val (.ref rp), .val (.ref b25), .val (.ref ao27), .val (.ref ao29)] [(.int (1 : Int32))]))
    refine own_go (fun _ => XS.ifNo X35.here hx rfl (hb hby at_150) rfl ((if0 _ _).trans (feq (by decide)).1)) ?_
    show own_Go _ _ _ _ (T35.setTop (mkF m 153 #[.val (.int p1), .val (.int p2), .val (.int p3), .val (.int p4), .val (.ref b1), .val (.ref la23), .val (.ref rp), .val (.ref b25), .val (.ref ao27), .val (.ref ao29)] []))
    refine own_go (fun _ => XS.iconst X35.here hx rfl (hb hby at_153)) ?_
    refine own_go (fun _ => XS.goto X35.here hx rfl (pc0 := 154) (pc' := 158) rfl (hb hby at_154) (by decide) (by decide)) ?_
    show own_Go _ _ _ _ (T35.setTop (mkF m 158 #[.val (.int p1), .val (.int p2), .val (.int p3), .val (.int p4), .val (.ref b1), .val (.ref la23), .val (.ref rp), .val (.ref b25), .val (.ref ao27), .val (.ref ao29)] [(.int (1 : Int32))]))
    refine own_retW X35 hS eq35 hsw hlk (v := some (.int (1 : Int32))) (fun h => by rw [Bd.returns] at h; cases h) (fun fs hr => retN X35 hx (t := .boolean) Bd.returns (by simp) (hb hby at_158) hr) ?_ (by decide) (by decide)
    try rw [eq35]
    exact ⟨rfl, NF35⟩
set_option maxRecDepth 65536 in
set_option maxHeartbeats 40000000 in
theorem own_comes {Post : Tables → Env → Array Value → State → Outcome → State → Prop} (hpost : ∀ tb e args s v u, (limb_1_1.after args s (.returned v) u = true ∧ limb_1_2.after args s (.returned v) u = true ∧ True) → FramedW s (.returned v) u (Jvm.fieldLocs frame_1_writes args s ++ Jvm.arrayLocs frame_1_arrays args s ++ Jvm.staticLocs frame_1_statics s) 40 2240 → Post tb e args s (.returned v) u) :
    ArmFor flags0 classFile x code maxLocals ret World_1 tables_1 room_1 Calls_1 rest_1 Pre_1 Post := by
  intro l hfl _ _ p e ha hc hk s m args below hf hA hF happ hP
  obtain ⟨hcalls, hrest, hpre⟩ := hP
  obtain ⟨-, -, -, hnamed, -, -, -, hat⟩ := (Spec.applies_iff hf).mp happ
  obtain ⟨hg, hn⟩ := and_e (Cond.before_iff.mp (show (Jvm.Cond.and given_1 narrow_1).before args s = true from hpre))
  obtain ⟨hcount, hg⟩ := and_e hg
  obtain ⟨ha0, hg⟩ := and_e hg
  obtain ⟨ha1, hg⟩ := and_e hg
  obtain ⟨ha2, hg⟩ := and_e hg
  obtain ⟨w0, w1, w2, w3, rfl⟩ : ∃ w0 w1 w2 w3 : Value, args = #[w0, w1, w2, w3] := by
    have hs : args.size = 4 := by simpa [Cond.value, given_1] using hcount
    obtain ⟨L⟩ := args
    match L, hs with
    | [w0, w1, w2, w3], _ => exact ⟨w0, w1, w2, w3, rfl⟩
  have hw := fun d (hd : d ∈ tables_1) => atoms_spec (ws := Jvm.Cond.code x code maxLocals ret :: tables_1) hat d (List.mem_cons_of_mem _ hd)
  have hfit : Fit s := fun {y c} hc i hi => by
    obtain ⟨ha, rfl⟩ := Array.getElem?_eq_some_iff.mp hc
    have q := List.all_eq_true.mp ((Array.all_eq_true_iff_forall_mem.mp hF) _ (Array.getElem_mem ha)) i (List.mem_range.mpr hi)
    simpa [Array.getElem?_eq_getElem hi] using q
  obtain ⟨hsets, hown0⟩ := atoms_of _ (rest_1_c_eq ▸ (show rest_1_c.before _ s = true from hrest))
  have hr0 := Cond.before_iff.mp hown0
  obtain ⟨i0, ei0⟩ := is_v ha0
  obtain rfl : w0 = (.int i0) := Option.some.inj ei0
  obtain ⟨i1, ei1⟩ := is_v ha1
  obtain rfl : w1 = (.int i1) := Option.some.inj ei1
  obtain ⟨i2, ei2⟩ := is_v ha2
  obtain rfl : w2 = (.int i2) := Option.some.inj ei2
  obtain ⟨i3, ei3⟩ := is_v hg
  obtain rfl : w3 = (.int i3) := Option.some.inj ei3
  obtain ⟨cs, ecs⟩ := is_v (Cond.before_iff.mp (hsets _ (List.mem_of_getElem? (i := 1) rfl)))
  have S_C := Sta.start ecs (Or.inl (hsets _ (List.mem_of_getElem? (i := 0) rfl)))
  have hcs : ¬ cs = (0 : Int32) := own_nz ecs (hsets _ (List.mem_of_getElem? (i := 2) rfl))
  obtain ⟨fmt, efmt, hfm⟩ := own_isr (hsets _ (List.mem_of_getElem? (i := 8) rfl))
  have S_F := Sta.start efmt (Or.inl (hsets _ (List.mem_of_getElem? (i := 7) rfl)))
  obtain ⟨em, eem⟩ := exa_v (Cond.before_iff.mp (hsets _ (List.mem_of_getElem? (i := 11) rfl)))
  have S_M := Sta.start eem (Or.inl (hsets _ (List.mem_of_getElem? (i := 10) rfl)))
  have Hst : CHv s consts_1 s.vm s.heap := CHv.start (own_ew hw) hcalls.1 (hsets _ (List.mem_of_getElem? (i := 2) rfl)) (hw _ (List.mem_of_getElem? (i := 8) rfl)) (hw _ (List.mem_of_getElem? (i := 7) rfl))
  obtain ⟨n, o, h1, h2, h3, _, L, rfl, ⟨rfl, N⟩, hq⟩ := own_rm0 l s _ hw i0 i1 i2 i3 cs fmt em s.heap s.heap.size (Nat.le_refl _) (Old.start s) S_C hcs S_F hfm S_M p e ha hc hk s m _ below hf ((Spec.applies_iff_loose hf).mp happ).1 ⟨rfl, State.Warmed39.refl s, rfl, Hst⟩ trivial
  refine ⟨n, _, h1, h2, h3, hpost _ _ _ _ _ _ ⟨Cond.after_iff.mpr rfl, Cond.after_iff.mpr (eq_i res_at (Term.int_eval (1)) rfl), trivial⟩ ⟨hq.1, hq.2.1, hq.2.2.1, (hq.2.2.2.sift fun y hy => Or.inr (N y hy)).mono (by decide) (by decide)⟩⟩
theorem main_1_1 : Claimed_1_1 := own_comes fun _ _ _ _ _ _ h hF => ⟨h.1, hF⟩
theorem main_1_2 : Claimed_1_2 := own_comes fun _ _ _ _ _ _ h hF => ⟨h.2.1, hF⟩
end Jvm.Pilot.@@N@@
namespace Jvm.Pilot.@@N@@
open Jvm Jvm.ClassFile Sem Op Lib Jvm.Free Jvm.Stand Jvm.Pilot.@@N@@.Jvm.D
/-! MADE BY PROGRAM (witnessworld.py) out of the Statement's table words and the real class files: 29 classes; the members and pool entries that the words name. The judged class is class 1, her method 4. -/
namespace start1
open Jvm.ClassFile
def u (s : String) : CpInfo := .utf8 (stringToUtf16 s)
/-- a pool by its gaps: so many unusable entries, then the entry; so many at the end -/
def gap : Nat → List CpInfo → List CpInfo
  | 0, r => r
  | n + 1, r => .unusable :: gap n r
def poolList (es : List (Nat × CpInfo)) (last : Nat) : List CpInfo := es.foldr (fun e r => gap e.1 (e.2 :: r)) (gap last [])
def pool (es : List (Nat × CpInfo)) (last : Nat) : Array CpInfo := ⟨poolList es last⟩
def fileOf (pool : Array CpInfo) (this : Nat) (attrs : Array Attribute := #[]) (ms : Array MethodInfo := #[]) (fl : Nat := 33) (sup : Nat := 0) (ifs : Array Nat := #[]) (fds : Array FieldInfo := #[]) : ClassFile where
  minorVersion := 0
  majorVersion := 65
  constantPool := pool
  accessFlags := fl
  thisClass := this
  superClass := sup
  interfaces := ifs
  fields := fds
  methods := ms
  attributes := attrs
def plain (name : String) (sup : Option ClassId) : Class where
  name := name
  kind := .ordinary
  loader := none
  accessFlags := 33
  super := sup
  interfaces := #[]
  cf := none
  fields := #[]
  methods := #[]
  instanceTypes := #[]
  staticTypes := #[]
  resolved := #[]
  callSites := []
  init := .initialized
  statics := none
  mirror := none

def pool0 : Array CpInfo := pool [(5, u "<init>"), (0, u "()V"), (1, .class_ 10), (1, u "java/lang/Object")] 113

def k0c0 : Code := { maxStack := 0, maxLocals := 1, code := object_method_1_code, exceptionTable := #[], attributes := #[] }
def k0m0 : Method := { name := "<init>", desc := "()V", sig := { parameters := [], returnType := none }, accessFlags := 1, code := some k0c0 }
/-- java/lang/Object -/
def k0 : Class := { plain "java/lang/Object" none with
  accessFlags := 33
  interfaces := #[]
  cf := some (fileOf pool0 8 #[] #[{ accessFlags := 1, nameIndex := 5, descriptorIndex := 6, attributes := #[] }] 33 0 #[] #[])
  fields := #[]
  methods := #[k0m0]
  instanceTypes := #[]
  staticTypes := #[]
  resolved := Array.replicate 124 none
  statics := none }

def pool1 : Array CpInfo := pool [(2, .class_ 4), (1, u "java/lang/Object"), (0, u "<init>"), (0, u "()V"), (0, .methodref 8 9), (0, .class_ 10), (0, .nameAndType 11 12), (0, u "java/lang/String"), (0, u "equals"), (0, u "(Ljava/lang/Object;)Z"), (0, .methodref 14 15), (0, .class_ 16), (0, .nameAndType 17 18), (0, u "com/example/ratatoskr/ratatoskr/request/RequestPathInfo"), (0, u "getResourcePath"), (0, u "()Ljava/lang/String;"), (0, .methodref 20 21), (0, .class_ 22), (0, .nameAndType 23 24), (0, u "com/example/ratatoskr/ratatoskr/request/RequestPathInfoWithParametersPinLaw"), (0, u "eq"), (0, u "(Ljava/lang/String;Ljava/lang/String;)Z"), (0, .methodref 14 26), (0, .nameAndType 27 18), (0, u "getSelectorString"), (0, .methodref 14 29), (0, .nameAndType 30 18), (0, u "getExtension"), (0, .methodref 14 32), (0, .nameAndType 33 18), (0, u "getSuffix"), (0, .methodref 20 35), (0, .nameAndType 36 37), (0, u "pick"), (0, u "(I)C"), (0, .string 39), (0, u ""), (0, .methodref 8 41), (0, .nameAndType 5 42), (0, u "([C)V"), (0, .methodref 8 44), (0, .nameAndType 45 46), (0, u "valueOf"), (0, u "(C)Ljava/lang/String;"), (0, .methodref 14 48), (0, .nameAndType 5 49), (0, u "(Ljava/lang/String;Ljava/lang/String;)V"), (0, .methodref 14 51), (0, .nameAndType 52 53), (0, u "withParameters"), (0, u "(Ljava/util/Map;)Lcom/example/ratatoskr/ratatoskr/request/RequestPathInfo;"), (0, .methodref 14 55), (0, .nameAndType 56 57), (0, u "getParameters"), (0, u "()Ljava/util/Map;"), (0, .methodref 20 59), (0, .nameAndType 60 61), (0, u "same"), (0, u "(Lcom/example/ratatoskr/ratatoskr/request/RequestPathInfo;Lcom/example/ratatoskr/ratatoskr/request/RequestPathInfo;)Z"), (3, u "law"), (0, u "(IIII)Z")] 4

def k1m0 : Method := { name := "<init>", desc := "()V", sig := { parameters := [], returnType := none }, accessFlags := 1, code := none }
def k1c1 : Code := { maxStack := 2, maxLocals := 2, code := method_2_code, exceptionTable := #[], attributes := #[] }
def k1m1 : Method := { name := "pick", desc := "(I)C", sig := { parameters := [.int], returnType := some .char }, accessFlags := 10, code := some k1c1 }
def k1c2 : Code := { maxStack := 2, maxLocals := 2, code := method_3_code, exceptionTable := #[], attributes := #[] }
def k1m2 : Method := { name := "eq", desc := "(Ljava/lang/String;Ljava/lang/String;)Z", sig := { parameters := [(.object "java/lang/String"), (.object "java/lang/String")], returnType := some .boolean }, accessFlags := 10, code := some k1c2 }
def k1c3 : Code := { maxStack := 2, maxLocals := 2, code := method_4_code, exceptionTable := #[], attributes := #[] }
def k1m3 : Method := { name := "same", desc := "(Lcom/example/ratatoskr/ratatoskr/request/RequestPathInfo;Lcom/example/ratatoskr/ratatoskr/request/RequestPathInfo;)Z", sig := { parameters := [(.object "com/example/ratatoskr/ratatoskr/request/RequestPathInfo"), (.object "com/example/ratatoskr/ratatoskr/request/RequestPathInfo")], returnType := some .boolean }, accessFlags := 10, code := some k1c3 }
def k1c4 : Code := { maxStack := 4, maxLocals := 10, code := code, exceptionTable := #[], attributes := #[] }
def k1m4 : Method := { name := "law", desc := "(IIII)Z", sig := { parameters := [.int, .int, .int, .int], returnType := some .boolean }, accessFlags := 9, code := some k1c4 }
/-- com/example/ratatoskr/ratatoskr/request/RequestPathInfoWithParametersPinLaw -/
def k1 : Class := { plain "com/example/ratatoskr/ratatoskr/request/RequestPathInfoWithParametersPinLaw" (some 0) with
  accessFlags := 49
  interfaces := #[]
  cf := some (fileOf pool1 20 #[] #[{ accessFlags := 1, nameIndex := 5, descriptorIndex := 6, attributes := #[] }, { accessFlags := 10, nameIndex := 36, descriptorIndex := 37, attributes := #[] }, { accessFlags := 10, nameIndex := 23, descriptorIndex := 24, attributes := #[] }, { accessFlags := 10, nameIndex := 60, descriptorIndex := 61, attributes := #[] }, { accessFlags := 9, nameIndex := 65, descriptorIndex := 66, attributes := #[] }] 49 2 #[] #[])
  fields := #[]
  methods := #[k1m0, k1m1, k1m2, k1m3, k1m4]
  instanceTypes := #[]
  staticTypes := #[]
  resolved := Array.replicate 71 none
  statics := none }

def pool2 : Array CpInfo := pool [(1, .class_ 2), (0, u "java/io/Serializable"), (0, .class_ 4), (0, u "java/lang/Object")] 2

/-- java/io/Serializable -/
def k2 : Class := { plain "java/io/Serializable" (some 0) with
  accessFlags := 1537
  interfaces := #[]
  cf := some (fileOf pool2 1 #[] #[] 1537 3 #[] #[])
  fields := #[]
  methods := #[]
  instanceTypes := #[]
  staticTypes := #[]
  resolved := Array.replicate 7 none
  statics := none }

def pool3 : Array CpInfo := pool [(1, .class_ 2), (0, u "java/lang/Comparable"), (0, .class_ 4), (0, u "java/lang/Object")] 7

/-- java/lang/Comparable -/
def k3 : Class := { plain "java/lang/Comparable" (some 0) with
  accessFlags := 1537
  interfaces := #[]
  cf := some (fileOf pool3 1 #[] #[] 1537 3 #[] #[])
  fields := #[]
  methods := #[]
  instanceTypes := #[]
  staticTypes := #[]
  resolved := Array.replicate 12 none
  statics := none }

def pool4 : Array CpInfo := pool [(2, .class_ 4), (1, u "java/lang/CharSequence"), (42, .class_ 48), (0, u "java/lang/CharSequence$1CodePointIterator"), (10, .class_ 60), (0, u "java/lang/CharSequence$1CharIterator"), (5, .class_ 67), (0, u "java/lang/Object")] 63

/-- java/lang/CharSequence -/
def k4 : Class := { plain "java/lang/CharSequence" (some 0) with
  accessFlags := 1537
  interfaces := #[]
  cf := some (fileOf pool4 2 #[.nestMembers #[47, 59]] #[] 1537 66 #[] #[])
  fields := #[]
  methods := #[]
  instanceTypes := #[]
  staticTypes := #[]
  resolved := Array.replicate 131 none
  statics := none }

def pool5 : Array CpInfo := pool [(1, .class_ 2), (0, u "java/lang/constant/Constable"), (0, .class_ 4), (0, u "java/lang/Object")] 6

/-- java/lang/constant/Constable -/
def k5 : Class := { plain "java/lang/constant/Constable" (some 0) with
  accessFlags := 1537
  interfaces := #[]
  cf := some (fileOf pool5 1 #[] #[] 1537 3 #[] #[])
  fields := #[]
  methods := #[]
  instanceTypes := #[]
  staticTypes := #[]
  resolved := Array.replicate 11 none
  statics := none }

def pool6 : Array CpInfo := pool [(1, .class_ 2), (0, u "java/lang/constant/ConstantDesc"), (0, .class_ 4), (0, u "java/lang/Object")] 32

/-- java/lang/constant/ConstantDesc -/
def k6 : Class := { plain "java/lang/constant/ConstantDesc" (some 0) with
  accessFlags := 1537
  interfaces := #[]
  cf := some (fileOf pool6 1 #[] #[] 1537 3 #[] #[])
  fields := #[]
  methods := #[]
  instanceTypes := #[]
  staticTypes := #[]
  resolved := Array.replicate 37 none
  statics := none }

def pool7 : Array CpInfo := pool [(1, .methodref 2 3), (0, .class_ 4), (0, .nameAndType 5 6), (0, u "java/lang/Object"), (0, u "<init>"), (0, u "()V"), (2, .fieldref 10 11), (0, .class_ 12), (0, .nameAndType 13 14), (0, u "java/lang/String"), (0, u "value"), (0, u "[B"), (0, .fieldref 10 16), (0, .nameAndType 17 18), (0, u "coder"), (0, u "B"), (2, u "hash"), (0, u "I"), (2, u "hashIsZero"), (0, u "Z"), (0, .methodref 10 28), (0, .nameAndType 5 29), (0, u "([CIILjava/lang/Void;)V"), (8, .fieldref 10 39), (0, .nameAndType 40 26), (0, u "COMPACT_STRINGS"), (1, .class_ 44), (1, u "java/lang/StringUTF16"), (0, u "compress"), (1, .methodref 42 48), (0, .nameAndType 49 50), (0, u "coderFromArrayLen"), (0, u "([BI)B"), (2, u "toBytes"), (43, u "([BII)I"), (9, .class_ 109), (1, u "java/lang/StringLatin1"), (32, u "()Z"), (34, .methodref 42 178), (0, .nameAndType 45 179), (0, u "([CII)[B"), (29, .methodref 10 210), (0, .nameAndType 5 211), (0, u "([BB)V"), (122, u "()I"), (0, .methodref 10 336), (0, .nameAndType 17 337), (0, u "()B"), (31, u "(C)Z"), (122, .methodref 10 493), (0, .nameAndType 494 142), (0, u "isLatin1"), (10, .methodref 10 506), (0, .nameAndType 507 334), (0, u "length"), (5, u "checkFromToIndex"), (7, .methodref 10 522), (0, .nameAndType 523 524), (0, u "checkBoundsBeginEnd"), (0, u "(III)V"), (18, u "equals"), (29, u "(Ljava/lang/Object;)Z"), (1, .class_ 576), (0, u "java/lang/CharSequence"), (22, u "CASE_INSENSITIVE_ORDER"), (0, u "Ljava/util/Comparator;"), (32, .methodref 10 634), (0, .nameAndType 635 636), (0, u "indexOf"), (0, u "(II)I"), (0, .methodref 107 638), (0, .nameAndType 635 639), (0, u "([BIII)I"), (1, .methodref 10 642), (0, .nameAndType 643 636), (0, u "lastIndexOf"), (0, .methodref 107 645), (0, .nameAndType 643 97), (35, .methodref 10 682), (0, .nameAndType 683 684), (0, u "substring"), (0, u "(II)Ljava/lang/String;"), (0, .methodref 107 686), (0, .nameAndType 687 688), (0, u "newString"), (0, u "([BII)Ljava/lang/String;"), (3, u "isEmpty"), (72, u "(I)I"), (16, u "valueOf"), (0, u "(C)Ljava/lang/String;"), (108, u "(I)Ljava/lang/String;"), (117, u "([C)V"), (4, .methodref 107 1016), (0, .nameAndType 1017 369), (0, u "canEncode"), (0, .methodref 107 1019), (0, .nameAndType 53 1020), (0, u "(C)[B"), (32, .fieldref 1054 1055), (0, .class_ 1056), (0, .nameAndType 1057 1058), (0, u "jdk/internal/util/Preconditions"), (0, u "SIOOBE_FORMATTER"), (0, u "Ljava/util/function/BiFunction;"), (3, .methodref 1054 1063), (0, .nameAndType 513 1064), (0, u "(IIILjava/util/function/BiFunction;)I"), (36, u "serialPersistentFields"), (0, u "[Ljava/io/ObjectStreamField;"), (0, .class_ 1104), (0, u "java/lang/String$CaseInsensitiveComparator"), (1, .class_ 1107), (0, u "java/io/Serializable"), (0, .class_ 1109), (0, u "java/lang/Comparable"), (0, .class_ 1111), (0, u "java/lang/constant/Constable"), (0, .class_ 1113), (0, u "java/lang/constant/ConstantDesc"), (2, u "serialVersionUID"), (0, u "J"), (3, u "REPL"), (0, u "C"), (2, u "LATIN1"), (1, u "UTF16")] 323

def k7m0 : Method := { name := "<init>", desc := "()V", sig := { parameters := [], returnType := none }, accessFlags := 1, code := none }
def k7c1 : Code := { maxStack := 5, maxLocals := 2, code := jdk_42_method_3_code, exceptionTable := #[], attributes := #[] }
def k7m1 : Method := { name := "<init>", desc := "([C)V", sig := { parameters := [(.array .char)], returnType := none }, accessFlags := 1, code := some k7c1 }
def k7c2 : Code := { maxStack := 2, maxLocals := 1, code := jdk_42_method_54_code, exceptionTable := #[], attributes := #[] }
def k7m2 : Method := { name := "length", desc := "()I", sig := { parameters := [], returnType := some .int }, accessFlags := 1, code := some k7c2 }
def k7c3 : Code := { maxStack := 1, maxLocals := 1, code := jdk_42_method_55_code, exceptionTable := #[], attributes := #[] }
def k7m3 : Method := { name := "isEmpty", desc := "()Z", sig := { parameters := [], returnType := some .boolean }, accessFlags := 1, code := some k7c3 }
def k7c4 : Code := { maxStack := 2, maxLocals := 3, code := jdk_42_method_66_code, exceptionTable := #[], attributes := #[] }
def k7m4 : Method := { name := "equals", desc := "(Ljava/lang/Object;)Z", sig := { parameters := [(.object "java/lang/Object")], returnType := some .boolean }, accessFlags := 1, code := some k7c4 }
def k7c5 : Code := { maxStack := 3, maxLocals := 2, code := jdk_42_method_79_code, exceptionTable := #[], attributes := #[] }
def k7m5 : Method := { name := "indexOf", desc := "(I)I", sig := { parameters := [.int], returnType := some .int }, accessFlags := 1, code := some k7c5 }
def k7c6 : Code := { maxStack := 4, maxLocals := 3, code := jdk_42_method_80_code, exceptionTable := #[], attributes := #[] }
def k7m6 : Method := { name := "indexOf", desc := "(II)I", sig := { parameters := [.int, .int], returnType := some .int }, accessFlags := 1, code := some k7c6 }
def k7c7 : Code := { maxStack := 4, maxLocals := 2, code := jdk_42_method_82_code, exceptionTable := #[], attributes := #[] }
def k7m7 : Method := { name := "lastIndexOf", desc := "(I)I", sig := { parameters := [.int], returnType := some .int }, accessFlags := 1, code := some k7c7 }
def k7c8 : Code := { maxStack := 3, maxLocals := 3, code := jdk_42_method_83_code, exceptionTable := #[], attributes := #[] }
def k7m8 : Method := { name := "lastIndexOf", desc := "(II)I", sig := { parameters := [.int, .int], returnType := some .int }, accessFlags := 1, code := some k7c8 }
def k7c9 : Code := { maxStack := 3, maxLocals := 2, code := jdk_42_method_91_code, exceptionTable := #[], attributes := #[] }
def k7m9 : Method := { name := "substring", desc := "(I)Ljava/lang/String;", sig := { parameters := [.int], returnType := some (.object "java/lang/String") }, accessFlags := 1, code := some k7c9 }
def k7c10 : Code := { maxStack := 3, maxLocals := 5, code := jdk_42_method_92_code, exceptionTable := #[], attributes := #[] }
def k7m10 : Method := { name := "substring", desc := "(II)Ljava/lang/String;", sig := { parameters := [.int, .int], returnType := some (.object "java/lang/String") }, accessFlags := 1, code := some k7c10 }
def k7c11 : Code := { maxStack := 4, maxLocals := 1, code := jdk_42_method_139_code, exceptionTable := #[], attributes := #[] }
def k7m11 : Method := { name := "valueOf", desc := "(C)Ljava/lang/String;", sig := { parameters := [.char], returnType := some (.object "java/lang/String") }, accessFlags := 9, code := some k7c11 }
def k7c12 : Code := { maxStack := 4, maxLocals := 6, code := jdk_42_method_149_code, exceptionTable := #[], attributes := #[] }
def k7m12 : Method := { name := "<init>", desc := "([CIILjava/lang/Void;)V", sig := { parameters := [(.array .char), .int, .int, (.object "java/lang/Void")], returnType := none }, accessFlags := 2, code := some k7c12 }
def k7c13 : Code := { maxStack := 2, maxLocals := 3, code := jdk_42_method_151_code, exceptionTable := #[], attributes := #[] }
def k7m13 : Method := { name := "<init>", desc := "([BB)V", sig := { parameters := [(.array .byte), .byte], returnType := none }, accessFlags := 0, code := some k7c13 }
def k7c14 : Code := { maxStack := 1, maxLocals := 1, code := jdk_42_method_152_code, exceptionTable := #[], attributes := #[] }
def k7m14 : Method := { name := "coder", desc := "()B", sig := { parameters := [], returnType := some .byte }, accessFlags := 0, code := some k7c14 }
def k7c15 : Code := { maxStack := 1, maxLocals := 1, code := jdk_42_method_154_code, exceptionTable := #[], attributes := #[] }
def k7m15 : Method := { name := "isLatin1", desc := "()Z", sig := { parameters := [], returnType := some .boolean }, accessFlags := 0, code := some k7c15 }
def k7c16 : Code := { maxStack := 4, maxLocals := 3, code := jdk_42_method_158_code, exceptionTable := #[], attributes := #[] }
def k7m16 : Method := { name := "checkBoundsBeginEnd", desc := "(III)V", sig := { parameters := [.int, .int, .int], returnType := none }, accessFlags := 8, code := some k7c16 }
/-- java/lang/String -/
def k7 : Class := { plain "java/lang/String" (some 0) with
  accessFlags := 49
  interfaces := #[2, 3, 4, 5, 6]
  cf := some (fileOf pool7 10 #[.nestMembers #[1103]] #[{ accessFlags := 1, nameIndex := 5, descriptorIndex := 6, attributes := #[] }, { accessFlags := 1, nameIndex := 5, descriptorIndex := 1010, attributes := #[] }, { accessFlags := 1, nameIndex := 507, descriptorIndex := 334, attributes := #[] }, { accessFlags := 1, nameIndex := 692, descriptorIndex := 142, attributes := #[] }, { accessFlags := 1, nameIndex := 543, descriptorIndex := 573, attributes := #[] }, { accessFlags := 1, nameIndex := 635, descriptorIndex := 765, attributes := #[] }, { accessFlags := 1, nameIndex := 635, descriptorIndex := 636, attributes := #[] }, { accessFlags := 1, nameIndex := 643, descriptorIndex := 765, attributes := #[] }, { accessFlags := 1, nameIndex := 643, descriptorIndex := 636, attributes := #[] }, { accessFlags := 1, nameIndex := 683, descriptorIndex := 892, attributes := #[] }, { accessFlags := 1, nameIndex := 683, descriptorIndex := 684, attributes := #[] }, { accessFlags := 9, nameIndex := 782, descriptorIndex := 783, attributes := #[] }, { accessFlags := 2, nameIndex := 5, descriptorIndex := 29, attributes := #[] }, { accessFlags := 0, nameIndex := 5, descriptorIndex := 211, attributes := #[] }, { accessFlags := 0, nameIndex := 17, descriptorIndex := 337, attributes := #[] }, { accessFlags := 0, nameIndex := 494, descriptorIndex := 142, attributes := #[] }, { accessFlags := 8, nameIndex := 523, descriptorIndex := 524, attributes := #[] }] 49 2 #[1106, 1108, 575, 1110, 1112] #[{ accessFlags := 18, nameIndex := 13, descriptorIndex := 14, attributes := #[] }, { accessFlags := 18, nameIndex := 17, descriptorIndex := 18, attributes := #[] }, { accessFlags := 2, nameIndex := 21, descriptorIndex := 22, attributes := #[] }, { accessFlags := 2, nameIndex := 25, descriptorIndex := 26, attributes := #[] }, { accessFlags := 26, nameIndex := 1116, descriptorIndex := 1117, attributes := #[] }, { accessFlags := 24, nameIndex := 40, descriptorIndex := 26, attributes := #[] }, { accessFlags := 26, nameIndex := 1101, descriptorIndex := 1102, attributes := #[] }, { accessFlags := 26, nameIndex := 1121, descriptorIndex := 1122, attributes := #[] }, { accessFlags := 25, nameIndex := 599, descriptorIndex := 600, attributes := #[] }, { accessFlags := 24, nameIndex := 1125, descriptorIndex := 18, attributes := #[] }, { accessFlags := 24, nameIndex := 1127, descriptorIndex := 18, attributes := #[] }])
  fields := #[{ name := "value", type := (.array .byte), accessFlags := 18, slot := 0, constantValue := 0 }, { name := "coder", type := .byte, accessFlags := 18, slot := 1, constantValue := 0 }, { name := "hash", type := .int, accessFlags := 2, slot := 2, constantValue := 0 }, { name := "hashIsZero", type := .boolean, accessFlags := 2, slot := 3, constantValue := 0 }, { name := "serialVersionUID", type := .long, accessFlags := 26, slot := 0, constantValue := 0 }, { name := "COMPACT_STRINGS", type := .boolean, accessFlags := 24, slot := 1, constantValue := 0 }, { name := "serialPersistentFields", type := (.array (.object "java/io/ObjectStreamField")), accessFlags := 26, slot := 2, constantValue := 0 }, { name := "REPL", type := .char, accessFlags := 26, slot := 3, constantValue := 0 }, { name := "CASE_INSENSITIVE_ORDER", type := (.object "java/util/Comparator"), accessFlags := 25, slot := 4, constantValue := 0 }, { name := "LATIN1", type := .byte, accessFlags := 24, slot := 5, constantValue := 0 }, { name := "UTF16", type := .byte, accessFlags := 24, slot := 6, constantValue := 0 }]
  methods := #[k7m0, k7m1, k7m2, k7m3, k7m4, k7m5, k7m6, k7m7, k7m8, k7m9, k7m10, k7m11, k7m12, k7m13, k7m14, k7m15, k7m16]
  instanceTypes := #[(.array .byte), .byte, .int, .boolean]
  staticTypes := #[.long, .boolean, (.array (.object "java/io/ObjectStreamField")), .char, (.object "java/util/Comparator"), .byte, .byte]
  resolved := Array.replicate 1451 none
  statics := some 0 }

def pool8 : Array CpInfo := pool [(1, .class_ 2), (0, u "java/lang/String"), (1, .class_ 6), (1, u "java/lang/Object"), (0, u "<init>"), (0, u "()V"), (5, .class_ 16), (1, u "java/lang/StringLatin1"), (21, .methodref 39 40), (0, .class_ 41), (0, .nameAndType 42 43), (0, u "java/lang/Math"), (0, u "min"), (0, u "(II)I"), (44, .methodref 14 89), (0, .nameAndType 90 91), (0, u "canEncode"), (0, u "(I)Z"), (0, .methodref 39 93), (0, .nameAndType 94 43), (0, u "max"), (0, .methodref 14 96), (0, .nameAndType 97 98), (0, u "indexOfChar"), (0, u "([BIII)I"), (2, u "indexOf"), (3, u "(C)Z"), (6, .methodref 1 113), (0, .nameAndType 7 114), (0, u "([BB)V"), (6, u "$assertionsDisabled"), (0, u "Z"), (8, .class_ 133), (1, u "java/util/Arrays"), (17, .string 152), (0, u ""), (43, u "newString"), (0, u "([BII)Ljava/lang/String;"), (23, .class_ 223), (1, u "java/lang/StringLatin1$LinesSpliterator"), (8, .methodref 131 233), (0, .nameAndType 234 235), (0, u "copyOfRange"), (0, u "([BII)[B"), (25, u "([BII)I"), (47, u "lastIndexOf"), (70, u "toBytes"), (1, u "(C)[B"), (7, .class_ 391), (0, u "java/lang/StringLatin1$CharsSpliterator")] 3

def k8m0 : Method := { name := "<init>", desc := "()V", sig := { parameters := [], returnType := none }, accessFlags := 0, code := none }
def k8c1 : Code := { maxStack := 2, maxLocals := 1, code := jdk_43_method_3_code, exceptionTable := #[], attributes := #[] }
def k8m1 : Method := { name := "canEncode", desc := "(C)Z", sig := { parameters := [.char], returnType := some .boolean }, accessFlags := 9, code := some k8c1 }
def k8c2 : Code := { maxStack := 2, maxLocals := 1, code := jdk_43_method_4_code, exceptionTable := #[], attributes := #[] }
def k8m2 : Method := { name := "canEncode", desc := "(I)Z", sig := { parameters := [.int], returnType := some .boolean }, accessFlags := 9, code := some k8c2 }
def k8c3 : Code := { maxStack := 4, maxLocals := 4, code := jdk_43_method_22_code, exceptionTable := #[], attributes := #[] }
def k8m3 : Method := { name := "indexOf", desc := "([BIII)I", sig := { parameters := [(.array .byte), .int, .int, .int], returnType := some .int }, accessFlags := 9, code := some k8c3 }
def k8c4 : Code := { maxStack := 2, maxLocals := 6, code := jdk_43_method_23_code, exceptionTable := #[], attributes := #[] }
def k8m4 : Method := { name := "indexOfChar", desc := "([BIII)I", sig := { parameters := [(.array .byte), .int, .int, .int], returnType := some .int }, accessFlags := 10, code := some k8c4 }
def k8c5 : Code := { maxStack := 3, maxLocals := 4, code := jdk_43_method_27_code, exceptionTable := #[], attributes := #[] }
def k8m5 : Method := { name := "lastIndexOf", desc := "([BII)I", sig := { parameters := [(.array .byte), .int, .int], returnType := some .int }, accessFlags := 9, code := some k8c5 }
def k8c6 : Code := { maxStack := 4, maxLocals := 1, code := jdk_43_method_46_code, exceptionTable := #[], attributes := #[] }
def k8m6 : Method := { name := "toBytes", desc := "(C)[B", sig := { parameters := [.char], returnType := some (.array .byte) }, accessFlags := 9, code := some k8c6 }
def k8c7 : Code := { maxStack := 6, maxLocals := 3, code := jdk_43_method_47_code, exceptionTable := #[], attributes := #[] }
def k8m7 : Method := { name := "newString", desc := "([BII)Ljava/lang/String;", sig := { parameters := [(.array .byte), .int, .int], returnType := some (.object "java/lang/String") }, accessFlags := 9, code := some k8c7 }
/-- java/lang/StringLatin1 -/
def k8 : Class := { plain "java/lang/StringLatin1" (some 0) with
  accessFlags := 48
  interfaces := #[]
  cf := some (fileOf pool8 14 #[.nestMembers #[390, 221]] #[{ accessFlags := 0, nameIndex := 7, descriptorIndex := 8, attributes := #[] }, { accessFlags := 9, nameIndex := 90, descriptorIndex := 105, attributes := #[] }, { accessFlags := 9, nameIndex := 90, descriptorIndex := 91, attributes := #[] }, { accessFlags := 9, nameIndex := 101, descriptorIndex := 98, attributes := #[] }, { accessFlags := 10, nameIndex := 97, descriptorIndex := 98, attributes := #[] }, { accessFlags := 9, nameIndex := 309, descriptorIndex := 261, attributes := #[] }, { accessFlags := 9, nameIndex := 380, descriptorIndex := 382, attributes := #[] }, { accessFlags := 9, nameIndex := 196, descriptorIndex := 197, attributes := #[] }] 48 4 #[] #[{ accessFlags := 4120, nameIndex := 121, descriptorIndex := 122, attributes := #[] }])
  fields := #[{ name := "$assertionsDisabled", type := .boolean, accessFlags := 4120, slot := 0, constantValue := 0 }]
  methods := #[k8m0, k8m1, k8m2, k8m3, k8m4, k8m5, k8m6, k8m7]
  instanceTypes := #[]
  staticTypes := #[.boolean]
  resolved := Array.replicate 395 none
  statics := none }

def pool9 : Array CpInfo := pool [(1, .methodref 2 3), (0, .class_ 4), (0, .nameAndType 5 6), (0, u "java/lang/Object"), (0, u "<init>"), (0, u "()V"), (0, .methodref 8 9), (0, .class_ 10), (0, .nameAndType 11 12), (0, u "java/lang/String"), (0, u "indexOf"), (0, u "(I)I"), (0, .methodref 8 14), (0, .nameAndType 15 16), (0, u "isEmpty"), (0, u "()Z"), (0, .methodref 8 18), (0, .nameAndType 19 20), (0, u "length"), (0, u "()I"), (0, .methodref 8 22), (0, .nameAndType 23 24), (0, u "substring"), (0, u "(II)Ljava/lang/String;"), (0, .methodref 8 26), (0, .nameAndType 27 12), (0, u "lastIndexOf"), (0, .fieldref 29 30), (0, .class_ 31), (0, .nameAndType 32 33), (0, u "com/example/ratatoskr/ratatoskr/request/RequestPathInfo"), (0, u "resourcePath"), (0, u "Ljava/lang/String;"), (0, .methodref 29 35), (0, .nameAndType 36 37), (0, u "presentOrNull"), (0, u "(Ljava/lang/String;)Ljava/lang/String;"), (0, .fieldref 29 39), (0, .nameAndType 40 33), (0, u "selectorString"), (0, .methodref 8 42), (0, .nameAndType 23 43), (0, u "(I)Ljava/lang/String;"), (0, .fieldref 29 45), (0, .nameAndType 46 33), (0, u "extension"), (0, .fieldref 29 48), (0, .nameAndType 49 33), (0, u "suffix"), (0, .interfaceMethodref 51 52), (0, .class_ 53), (0, .nameAndType 54 55), (0, u "java/util/Map"), (0, u "of"), (0, u "()Ljava/util/Map;"), (0, .fieldref 29 57), (0, .nameAndType 58 59), (0, u "parameters"), (0, u "Ljava/util/Map;"), (0, .methodref 29 61), (0, .nameAndType 5 62), (0, u "(Ljava/lang/String;Ljava/lang/String;Ljava/lang/String;Ljava/lang/String;Ljava/util/Map;)V"), (9, .class_ 73), (0, u "com/example/ratatoskr/ratatoskr/request/RequestPathInfo$Selectors"), (31, u "(Ljava/lang/String;Ljava/lang/String;)V"), (6, u "withParameters"), (0, u "(Ljava/util/Map;)Lcom/example/ratatoskr/ratatoskr/request/RequestPathInfo;"), (1, u "getResourcePath"), (0, u "()Ljava/lang/String;"), (0, u "getSelectorString"), (6, u "getExtension"), (0, u "getSuffix"), (0, u "getParameters")] 20

def k9c0 : Code := { maxStack := 4, maxLocals := 6, code := prog_14_method_1_code, exceptionTable := #[], attributes := #[] }
def k9m0 : Method := { name := "<init>", desc := "(Ljava/lang/String;Ljava/lang/String;)V", sig := { parameters := [(.object "java/lang/String"), (.object "java/lang/String")], returnType := none }, accessFlags := 0, code := some k9c0 }
def k9c1 : Code := { maxStack := 2, maxLocals := 6, code := prog_14_method_2_code, exceptionTable := #[], attributes := #[] }
def k9m1 : Method := { name := "<init>", desc := "(Ljava/lang/String;Ljava/lang/String;Ljava/lang/String;Ljava/lang/String;Ljava/util/Map;)V", sig := { parameters := [(.object "java/lang/String"), (.object "java/lang/String"), (.object "java/lang/String"), (.object "java/lang/String"), (.object "java/util/Map")], returnType := none }, accessFlags := 2, code := some k9c1 }
def k9c2 : Code := { maxStack := 7, maxLocals := 2, code := prog_14_method_4_code, exceptionTable := #[], attributes := #[] }
def k9m2 : Method := { name := "withParameters", desc := "(Ljava/util/Map;)Lcom/example/ratatoskr/ratatoskr/request/RequestPathInfo;", sig := { parameters := [(.object "java/util/Map")], returnType := some (.object "com/example/ratatoskr/ratatoskr/request/RequestPathInfo") }, accessFlags := 0, code := some k9c2 }
def k9c3 : Code := { maxStack := 1, maxLocals := 1, code := prog_14_method_5_code, exceptionTable := #[], attributes := #[] }
def k9m3 : Method := { name := "getResourcePath", desc := "()Ljava/lang/String;", sig := { parameters := [], returnType := some (.object "java/lang/String") }, accessFlags := 1, code := some k9c3 }
def k9c4 : Code := { maxStack := 1, maxLocals := 1, code := prog_14_method_6_code, exceptionTable := #[], attributes := #[] }
def k9m4 : Method := { name := "getSelectorString", desc := "()Ljava/lang/String;", sig := { parameters := [], returnType := some (.object "java/lang/String") }, accessFlags := 1, code := some k9c4 }
def k9c5 : Code := { maxStack := 1, maxLocals := 1, code := prog_14_method_14_code, exceptionTable := #[], attributes := #[] }
def k9m5 : Method := { name := "getExtension", desc := "()Ljava/lang/String;", sig := { parameters := [], returnType := some (.object "java/lang/String") }, accessFlags := 1, code := some k9c5 }
def k9c6 : Code := { maxStack := 1, maxLocals := 1, code := prog_14_method_15_code, exceptionTable := #[], attributes := #[] }
def k9m6 : Method := { name := "getSuffix", desc := "()Ljava/lang/String;", sig := { parameters := [], returnType := some (.object "java/lang/String") }, accessFlags := 1, code := some k9c6 }
def k9c7 : Code := { maxStack := 1, maxLocals := 1, code := prog_14_method_16_code, exceptionTable := #[], attributes := #[] }
def k9m7 : Method := { name := "getParameters", desc := "()Ljava/util/Map;", sig := { parameters := [], returnType := some (.object "java/util/Map") }, accessFlags := 1, code := some k9c7 }
def k9c8 : Code := { maxStack := 1, maxLocals := 1, code := prog_14_method_17_code, exceptionTable := #[], attributes := #[] }
def k9m8 : Method := { name := "presentOrNull", desc := "(Ljava/lang/String;)Ljava/lang/String;", sig := { parameters := [(.object "java/lang/String")], returnType := some (.object "java/lang/String") }, accessFlags := 10, code := some k9c8 }
/-- com/example/ratatoskr/ratatoskr/request/RequestPathInfo -/
def k9 : Class := { plain "com/example/ratatoskr/ratatoskr/request/RequestPathInfo" (some 0) with
  accessFlags := 49
  interfaces := #[]
  cf := some (fileOf pool9 29 #[.nestMembers #[72]] #[{ accessFlags := 0, nameIndex := 5, descriptorIndex := 105, attributes := #[] }, { accessFlags := 2, nameIndex := 5, descriptorIndex := 62, attributes := #[] }, { accessFlags := 0, nameIndex := 112, descriptorIndex := 113, attributes := #[] }, { accessFlags := 1, nameIndex := 115, descriptorIndex := 116, attributes := #[] }, { accessFlags := 1, nameIndex := 117, descriptorIndex := 116, attributes := #[] }, { accessFlags := 1, nameIndex := 124, descriptorIndex := 116, attributes := #[] }, { accessFlags := 1, nameIndex := 125, descriptorIndex := 116, attributes := #[] }, { accessFlags := 1, nameIndex := 126, descriptorIndex := 55, attributes := #[] }, { accessFlags := 10, nameIndex := 36, descriptorIndex := 37, attributes := #[] }] 49 2 #[] #[{ accessFlags := 18, nameIndex := 32, descriptorIndex := 33, attributes := #[] }, { accessFlags := 18, nameIndex := 40, descriptorIndex := 33, attributes := #[] }, { accessFlags := 18, nameIndex := 46, descriptorIndex := 33, attributes := #[] }, { accessFlags := 18, nameIndex := 49, descriptorIndex := 33, attributes := #[] }, { accessFlags := 18, nameIndex := 58, descriptorIndex := 59, attributes := #[] }])
  fields := #[{ name := "resourcePath", type := (.object "java/lang/String"), accessFlags := 18, slot := 0, constantValue := 0 }, { name := "selectorString", type := (.object "java/lang/String"), accessFlags := 18, slot := 1, constantValue := 0 }, { name := "extension", type := (.object "java/lang/String"), accessFlags := 18, slot := 2, constantValue := 0 }, { name := "suffix", type := (.object "java/lang/String"), accessFlags := 18, slot := 3, constantValue := 0 }, { name := "parameters", type := (.object "java/util/Map"), accessFlags := 18, slot := 4, constantValue := 0 }]
  methods := #[k9m0, k9m1, k9m2, k9m3, k9m4, k9m5, k9m6, k9m7, k9m8]
  instanceTypes := #[(.object "java/lang/String"), (.object "java/lang/String"), (.object "java/lang/String"), (.object "java/lang/String"), (.object "java/util/Map")]
  staticTypes := #[]
  resolved := Array.replicate 147 none
  statics := none }

def pool10 : Array CpInfo := pool [(1, .class_ 2), (0, u "java/lang/Math"), (1, .class_ 6), (1, u "java/lang/Object"), (0, u "<init>"), (0, u "()V"), (89, .class_ 100), (1, u "java/lang/Math$RandomNumberGeneratorHolder"), (71, u "negativeZeroFloatBits"), (0, u "J"), (2, u "negativeZeroDoubleBits"), (21, u "max"), (2, u "min"), (43, u "$assertionsDisabled"), (0, u "Z"), (88, u "(II)I"), (2, u "twoToTheDoubleScaleDown"), (0, u "D"), (4, u "twoToTheDoubleScaleUp"), (9, u "E"), (3, u "PI"), (2, u "TAU"), (2, u "DEGREES_TO_RADIANS"), (0, u "RADIANS_TO_DEGREES")] 94

def k10m0 : Method := { name := "<init>", desc := "()V", sig := { parameters := [], returnType := none }, accessFlags := 2, code := none }
def k10c1 : Code := { maxStack := 2, maxLocals := 2, code := jdk_29_method_65_code, exceptionTable := #[], attributes := #[] }
def k10m1 : Method := { name := "max", desc := "(II)I", sig := { parameters := [.int, .int], returnType := some .int }, accessFlags := 9, code := some k10c1 }
def k10c2 : Code := { maxStack := 2, maxLocals := 2, code := jdk_29_method_69_code, exceptionTable := #[], attributes := #[] }
def k10m2 : Method := { name := "min", desc := "(II)I", sig := { parameters := [.int, .int], returnType := some .int }, accessFlags := 9, code := some k10c2 }
/-- java/lang/Math -/
def k10 : Class := { plain "java/lang/Math" (some 0) with
  accessFlags := 49
  interfaces := #[]
  cf := some (fileOf pool10 1 #[.nestMembers #[98]] #[{ accessFlags := 2, nameIndex := 7, descriptorIndex := 8, attributes := #[] }, { accessFlags := 9, nameIndex := 198, descriptorIndex := 335, attributes := #[] }, { accessFlags := 9, nameIndex := 201, descriptorIndex := 335, attributes := #[] }] 49 4 #[] #[{ accessFlags := 25, nameIndex := 354, descriptorIndex := 339, attributes := #[] }, { accessFlags := 25, nameIndex := 358, descriptorIndex := 339, attributes := #[] }, { accessFlags := 25, nameIndex := 361, descriptorIndex := 339, attributes := #[] }, { accessFlags := 26, nameIndex := 364, descriptorIndex := 339, attributes := #[] }, { accessFlags := 26, nameIndex := 365, descriptorIndex := 339, attributes := #[] }, { accessFlags := 26, nameIndex := 172, descriptorIndex := 173, attributes := #[] }, { accessFlags := 26, nameIndex := 176, descriptorIndex := 173, attributes := #[] }, { accessFlags := 8, nameIndex := 344, descriptorIndex := 339, attributes := #[] }, { accessFlags := 8, nameIndex := 338, descriptorIndex := 339, attributes := #[] }, { accessFlags := 4120, nameIndex := 245, descriptorIndex := 246, attributes := #[] }])
  fields := #[{ name := "E", type := .double, accessFlags := 25, slot := 0, constantValue := 0 }, { name := "PI", type := .double, accessFlags := 25, slot := 1, constantValue := 0 }, { name := "TAU", type := .double, accessFlags := 25, slot := 2, constantValue := 0 }, { name := "DEGREES_TO_RADIANS", type := .double, accessFlags := 26, slot := 3, constantValue := 0 }, { name := "RADIANS_TO_DEGREES", type := .double, accessFlags := 26, slot := 4, constantValue := 0 }, { name := "negativeZeroFloatBits", type := .long, accessFlags := 26, slot := 5, constantValue := 0 }, { name := "negativeZeroDoubleBits", type := .long, accessFlags := 26, slot := 6, constantValue := 0 }, { name := "twoToTheDoubleScaleUp", type := .double, accessFlags := 8, slot := 7, constantValue := 0 }, { name := "twoToTheDoubleScaleDown", type := .double, accessFlags := 8, slot := 8, constantValue := 0 }, { name := "$assertionsDisabled", type := .boolean, accessFlags := 4120, slot := 9, constantValue := 0 }]
  methods := #[k10m0, k10m1, k10m2]
  instanceTypes := #[]
  staticTypes := #[.double, .double, .double, .double, .double, .long, .long, .double, .double, .boolean]
  resolved := Array.replicate 460 none
  statics := none }

def pool11 : Array CpInfo := pool [(2, .class_ 4), (1, u "java/lang/Object"), (0, u "<init>"), (0, u "()V"), (17, .class_ 26), (1, u "jdk/internal/util/Preconditions"), (20, u "checkFromToIndex"), (7, .class_ 56), (0, u "jdk/internal/util/Preconditions$4"), (57, .class_ 115), (0, u "jdk/internal/util/Preconditions$1"), (7, u "SIOOBE_FORMATTER"), (0, u "Ljava/util/function/BiFunction;"), (0, .class_ 126), (0, u "jdk/internal/util/Preconditions$2"), (3, u "AIOOBE_FORMATTER"), (0, .class_ 132), (0, u "jdk/internal/util/Preconditions$3"), (3, u "IOOBE_FORMATTER"), (46, u "(IIILjava/util/function/BiFunction;)I")] 10

def k11m0 : Method := { name := "<init>", desc := "()V", sig := { parameters := [], returnType := none }, accessFlags := 1, code := none }
def k11c1 : Code := { maxStack := 4, maxLocals := 4, code := jdk_41_method_12_code, exceptionTable := #[], attributes := #[] }
def k11m1 : Method := { name := "checkFromToIndex", desc := "(IIILjava/util/function/BiFunction;)I", sig := { parameters := [.int, .int, .int, (.object "java/util/function/BiFunction")], returnType := some .int }, accessFlags := 9, code := some k11c1 }
/-- jdk/internal/util/Preconditions -/
def k11 : Class := { plain "jdk/internal/util/Preconditions" (some 0) with
  accessFlags := 33
  interfaces := #[]
  cf := some (fileOf pool11 24 #[.nestMembers #[55, 131, 125, 114]] #[{ accessFlags := 1, nameIndex := 5, descriptorIndex := 6, attributes := #[] }, { accessFlags := 9, nameIndex := 47, descriptorIndex := 183, attributes := #[] }] 33 2 #[] #[{ accessFlags := 25, nameIndex := 123, descriptorIndex := 124, attributes := #[] }, { accessFlags := 25, nameIndex := 130, descriptorIndex := 124, attributes := #[] }, { accessFlags := 25, nameIndex := 136, descriptorIndex := 124, attributes := #[] }])
  fields := #[{ name := "SIOOBE_FORMATTER", type := (.object "java/util/function/BiFunction"), accessFlags := 25, slot := 0, constantValue := 0 }, { name := "AIOOBE_FORMATTER", type := (.object "java/util/function/BiFunction"), accessFlags := 25, slot := 1, constantValue := 0 }, { name := "IOOBE_FORMATTER", type := (.object "java/util/function/BiFunction"), accessFlags := 25, slot := 2, constantValue := 0 }]
  methods := #[k11m0, k11m1]
  instanceTypes := #[]
  staticTypes := #[(.object "java/util/function/BiFunction"), (.object "java/util/function/BiFunction"), (.object "java/util/function/BiFunction")]
  resolved := Array.replicate 194 none
  statics := some 1 }

def pool12 : Array CpInfo := pool [(2, .class_ 4), (1, u "java/util/Map"), (31, .class_ 37), (0, u "java/util/Map$Entry"), (43, .fieldref 82 83), (0, .class_ 84), (0, .nameAndType 85 86), (0, u "java/util/ImmutableCollections"), (0, u "EMPTY_MAP"), (0, u "Ljava/util/ImmutableCollections$MapN;"), (6, .class_ 94), (0, u "java/lang/Object"), (13, u "of"), (0, u "()Ljava/util/Map;")] 153

def k12c0 : Code := { maxStack := 1, maxLocals := 0, code := jdk_72_method_26_code, exceptionTable := #[], attributes := #[] }
def k12m0 : Method := { name := "of", desc := "()Ljava/util/Map;", sig := { parameters := [], returnType := some (.object "java/util/Map") }, accessFlags := 9, code := some k12c0 }
/-- java/util/Map -/
def k12 : Class := { plain "java/util/Map" (some 0) with
  accessFlags := 1537
  interfaces := #[]
  cf := some (fileOf pool12 2 #[.nestMembers #[36]] #[{ accessFlags := 9, nameIndex := 108, descriptorIndex := 109, attributes := #[] }] 1537 93 #[] #[])
  fields := #[]
  methods := #[k12m0]
  instanceTypes := #[]
  staticTypes := #[]
  resolved := Array.replicate 263 none
  statics := none }

def pool13 : Array CpInfo := pool [(2, .class_ 4), (1, u "java/lang/Object"), (0, u "<init>"), (0, u "()V"), (3, .class_ 11), (0, u "java/util/ImmutableCollections$List12"), (0, .class_ 13), (0, u "java/util/ImmutableCollections$ListN"), (3, u "Z"), (29, .class_ 49), (1, u "java/util/ImmutableCollections"), (0, u "$assertionsDisabled"), (5, u "[Ljava/lang/Object;"), (5, u "EMPTY_LIST"), (0, u "Ljava/util/ImmutableCollections$ListN;"), (8, u "EMPTY_LIST_NULLS"), (22, u "SALT32L"), (0, u "J"), (2, u "REVERSE"), (6, u "archivedObjects"), (2, u "EMPTY"), (0, u "Ljava/lang/Object;"), (0, .class_ 112), (0, u "java/util/ImmutableCollections$SetN"), (5, u "EMPTY_SET"), (0, u "Ljava/util/ImmutableCollections$SetN;"), (0, .class_ 121), (0, u "java/util/ImmutableCollections$MapN"), (3, u "EMPTY_MAP"), (0, u "Ljava/util/ImmutableCollections$MapN;"), (4, u "EXPAND_FACTOR"), (0, u "I"), (36, .class_ 170), (0, u "java/util/ImmutableCollections$MapN$MapNIterator"), (0, .class_ 172), (0, u "java/util/ImmutableCollections$MapN$1"), (0, .class_ 174), (0, u "java/util/ImmutableCollections$Map1"), (0, .class_ 176), (0, u "java/util/ImmutableCollections$AbstractImmutableMap"), (0, .class_ 178), (0, u "java/util/ImmutableCollections$SetN$SetNIterator"), (0, .class_ 180), (0, u "java/util/ImmutableCollections$Set12"), (0, .class_ 182), (0, u "java/util/ImmutableCollections$Set12$1"), (0, .class_ 184), (0, u "java/util/ImmutableCollections$AbstractImmutableSet"), (0, .class_ 186), (0, u "java/util/ImmutableCollections$SubList"), (0, .class_ 188), (0, u "java/util/ImmutableCollections$ListItr"), (0, .class_ 190), (0, u "java/util/ImmutableCollections$AbstractImmutableList"), (0, .class_ 192), (0, u "java/util/ImmutableCollections$AbstractImmutableCollection"), (0, .class_ 194), (0, u "java/util/ImmutableCollections$Access"), (0, .class_ 196), (0, u "java/util/ImmutableCollections$Access$1")] 16

def k13m0 : Method := { name := "<init>", desc := "()V", sig := { parameters := [], returnType := none }, accessFlags := 2, code := none }
/-- java/util/ImmutableCollections -/
def k13 : Class := { plain "java/util/ImmutableCollections" (some 0) with
  accessFlags := 32
  interfaces := #[]
  cf := some (fileOf pool13 47 #[.nestMembers #[120, 169, 171, 173, 175, 111, 177, 179, 181, 183, 12, 10, 185, 187, 189, 191, 193, 195]] #[{ accessFlags := 2, nameIndex := 5, descriptorIndex := 6, attributes := #[] }] 32 2 #[] #[{ accessFlags := 26, nameIndex := 95, descriptorIndex := 96, attributes := #[] }, { accessFlags := 26, nameIndex := 99, descriptorIndex := 17, attributes := #[] }, { accessFlags := 10, nameIndex := 106, descriptorIndex := 56, attributes := #[] }, { accessFlags := 26, nameIndex := 109, descriptorIndex := 110, attributes := #[] }, { accessFlags := 24, nameIndex := 62, descriptorIndex := 63, attributes := #[] }, { accessFlags := 24, nameIndex := 72, descriptorIndex := 63, attributes := #[] }, { accessFlags := 24, nameIndex := 118, descriptorIndex := 119, attributes := #[] }, { accessFlags := 24, nameIndex := 125, descriptorIndex := 126, attributes := #[] }, { accessFlags := 24, nameIndex := 131, descriptorIndex := 132, attributes := #[] }, { accessFlags := 4120, nameIndex := 50, descriptorIndex := 17, attributes := #[] }])
  fields := #[{ name := "SALT32L", type := .long, accessFlags := 26, slot := 0, constantValue := 0 }, { name := "REVERSE", type := .boolean, accessFlags := 26, slot := 1, constantValue := 0 }, { name := "archivedObjects", type := (.array (.object "java/lang/Object")), accessFlags := 10, slot := 2, constantValue := 0 }, { name := "EMPTY", type := (.object "java/lang/Object"), accessFlags := 26, slot := 3, constantValue := 0 }, { name := "EMPTY_LIST", type := (.object "java/util/ImmutableCollections$ListN"), accessFlags := 24, slot := 4, constantValue := 0 }, { name := "EMPTY_LIST_NULLS", type := (.object "java/util/ImmutableCollections$ListN"), accessFlags := 24, slot := 5, constantValue := 0 }, { name := "EMPTY_SET", type := (.object "java/util/ImmutableCollections$SetN"), accessFlags := 24, slot := 6, constantValue := 0 }, { name := "EMPTY_MAP", type := (.object "java/util/ImmutableCollections$MapN"), accessFlags := 24, slot := 7, constantValue := 0 }, { name := "EXPAND_FACTOR", type := .int, accessFlags := 24, slot := 8, constantValue := 0 }, { name := "$assertionsDisabled", type := .boolean, accessFlags := 4120, slot := 9, constantValue := 0 }]
  methods := #[k13m0]
  instanceTypes := #[]
  staticTypes := #[.long, .boolean, (.array (.object "java/lang/Object")), (.object "java/lang/Object"), (.object "java/util/ImmutableCollections$ListN"), (.object "java/util/ImmutableCollections$ListN"), (.object "java/util/ImmutableCollections$SetN"), (.object "java/util/ImmutableCollections$MapN"), .int, .boolean]
  resolved := Array.replicate 213 none
  statics := some 2 }

def pool14 : Array CpInfo := pool [(6, .class_ 8), (1, u "java/lang/Object"), (0, u "<init>"), (0, u "()V"), (1, .class_ 14), (1, u "java/lang/StringUTF16"), (31, u "$assertionsDisabled"), (0, u "Z"), (13, u "HI_BYTE_SHIFT"), (0, u "I"), (2, u "LO_BYTE_SHIFT"), (49, .methodref 12 116), (0, .nameAndType 117 118), (0, u "compress"), (0, u "([CI[BII)I"), (3, u "([CII)[B"), (138, u "coderFromArrayLen"), (0, u "([BI)B"), (106, .class_ 371), (1, u "java/lang/StringUTF16$LinesSpliterator"), (58, u "MAX_LENGTH"), (196, .class_ 628), (0, u "java/lang/StringUTF16$CodePointsSpliterator"), (0, .class_ 630), (0, u "java/lang/StringUTF16$CharsSpliterator")] 4

def k14m0 : Method := { name := "<init>", desc := "()V", sig := { parameters := [], returnType := none }, accessFlags := 0, code := none }
def k14c1 : Code := { maxStack := 2, maxLocals := 2, code := jdk_52_method_15_code, exceptionTable := #[], attributes := #[] }
def k14m1 : Method := { name := "coderFromArrayLen", desc := "([BI)B", sig := { parameters := [(.array .byte), .int], returnType := some .byte }, accessFlags := 8, code := some k14c1 }
def k14c2 : Code := { maxStack := 5, maxLocals := 6, code := jdk_52_method_16_code, exceptionTable := #[], attributes := #[] }
def k14m2 : Method := { name := "compress", desc := "([CII)[B", sig := { parameters := [(.array .char), .int, .int], returnType := some (.array .byte) }, accessFlags := 9, code := some k14c2 }
def k14c3 : Code := { maxStack := 3, maxLocals := 7, code := jdk_52_method_21_code, exceptionTable := #[], attributes := #[] }
def k14m3 : Method := { name := "compress", desc := "([CI[BII)I", sig := { parameters := [(.array .char), .int, (.array .byte), .int, .int], returnType := some .int }, accessFlags := 9, code := some k14c3 }
/-- java/lang/StringUTF16 -/
def k14 : Class := { plain "java/lang/StringUTF16" (some 0) with
  accessFlags := 48
  interfaces := #[]
  cf := some (fileOf pool14 12 #[.nestMembers #[627, 629, 369]] #[{ accessFlags := 0, nameIndex := 9, descriptorIndex := 10, attributes := #[] }, { accessFlags := 8, nameIndex := 261, descriptorIndex := 262, attributes := #[] }, { accessFlags := 9, nameIndex := 117, descriptorIndex := 122, attributes := #[] }, { accessFlags := 9, nameIndex := 117, descriptorIndex := 118, attributes := #[] }] 48 6 #[] #[{ accessFlags := 26, nameIndex := 61, descriptorIndex := 62, attributes := #[] }, { accessFlags := 26, nameIndex := 65, descriptorIndex := 62, attributes := #[] }, { accessFlags := 24, nameIndex := 430, descriptorIndex := 62, attributes := #[] }, { accessFlags := 4120, nameIndex := 46, descriptorIndex := 47, attributes := #[] }])
  fields := #[{ name := "HI_BYTE_SHIFT", type := .int, accessFlags := 26, slot := 0, constantValue := 0 }, { name := "LO_BYTE_SHIFT", type := .int, accessFlags := 26, slot := 1, constantValue := 0 }, { name := "MAX_LENGTH", type := .int, accessFlags := 24, slot := 2, constantValue := 0 }, { name := "$assertionsDisabled", type := .boolean, accessFlags := 4120, slot := 3, constantValue := 0 }]
  methods := #[k14m0, k14m1, k14m2, k14m3]
  instanceTypes := #[]
  staticTypes := #[.int, .int, .int, .boolean]
  resolved := Array.replicate 635 none
  statics := none }

def pool15 : Array CpInfo := pool [(2, .class_ 4), (1, u "java/lang/Object"), (0, u "<init>"), (0, u "()V"), (7, .class_ 16), (1, u "java/util/Arrays"), (57, .class_ 76), (1, u "java/util/Arrays$NaturalOrder"), (36, .class_ 115), (1, u "java/util/Arrays$LegacyMergeSort"), (1, u "Z"), (21, u "copyOfRange"), (10, .methodref 151 152), (0, .class_ 153), (0, .nameAndType 154 155), (0, u "java/lang/System"), (0, u "arraycopy"), (0, u "(Ljava/lang/Object;ILjava/lang/Object;II)V"), (148, .methodref 305 306), (0, .class_ 307), (0, .nameAndType 308 309), (0, u "java/lang/Math"), (0, u "min"), (0, u "(II)I"), (29, .methodref 14 340), (0, .nameAndType 341 342), (0, u "copyOfRangeByte"), (0, u "([BII)[B"), (0, .methodref 14 344), (0, .nameAndType 345 346), (0, u "checkLength"), (0, u "(II)V"), (28, .class_ 376), (0, u "java/util/Arrays$ArrayList"), (68, u "$assertionsDisabled"), (269, u "MIN_ARRAY_SORT_GRAN"), (0, u "I"), (2, u "INSERTIONSORT_THRESHOLD"), (255, .class_ 976), (0, u "java/util/Arrays$ArrayItr")] 52

def k15m0 : Method := { name := "<init>", desc := "()V", sig := { parameters := [], returnType := none }, accessFlags := 2, code := none }
def k15c1 : Code := { maxStack := 4, maxLocals := 2, code := jdk_65_method_131_code, exceptionTable := #[], attributes := #[] }
def k15m1 : Method := { name := "checkLength", desc := "(II)V", sig := { parameters := [.int, .int], returnType := none }, accessFlags := 10, code := some k15c1 }
def k15c2 : Code := { maxStack := 3, maxLocals := 3, code := jdk_65_method_132_code, exceptionTable := #[], attributes := #[] }
def k15m2 : Method := { name := "copyOfRange", desc := "([BII)[B", sig := { parameters := [(.array .byte), .int, .int], returnType := some (.array .byte) }, accessFlags := 9, code := some k15c2 }
def k15c3 : Code := { maxStack := 6, maxLocals := 5, code := jdk_65_method_133_code, exceptionTable := #[], attributes := #[] }
def k15m3 : Method := { name := "copyOfRangeByte", desc := "([BII)[B", sig := { parameters := [(.array .byte), .int, .int], returnType := some (.array .byte) }, accessFlags := 10, code := some k15c3 }
/-- java/util/Arrays -/
def k15 : Class := { plain "java/util/Arrays" (some 0) with
  accessFlags := 49
  interfaces := #[]
  cf := some (fileOf pool15 14 #[.nestMembers #[975, 375, 113, 74]] #[{ accessFlags := 2, nameIndex := 5, descriptorIndex := 6, attributes := #[] }, { accessFlags := 10, nameIndex := 345, descriptorIndex := 346, attributes := #[] }, { accessFlags := 9, nameIndex := 139, descriptorIndex := 342, attributes := #[] }, { accessFlags := 10, nameIndex := 341, descriptorIndex := 342, attributes := #[] }] 49 2 #[] #[{ accessFlags := 26, nameIndex := 715, descriptorIndex := 716, attributes := #[] }, { accessFlags := 26, nameIndex := 719, descriptorIndex := 716, attributes := #[] }, { accessFlags := 4120, nameIndex := 445, descriptorIndex := 117, attributes := #[] }])
  fields := #[{ name := "MIN_ARRAY_SORT_GRAN", type := .int, accessFlags := 26, slot := 0, constantValue := 0 }, { name := "INSERTIONSORT_THRESHOLD", type := .int, accessFlags := 26, slot := 1, constantValue := 0 }, { name := "$assertionsDisabled", type := .boolean, accessFlags := 4120, slot := 2, constantValue := 0 }]
  methods := #[k15m0, k15m1, k15m2, k15m3]
  instanceTypes := #[]
  staticTypes := #[.int, .int, .boolean]
  resolved := Array.replicate 1029 none
  statics := none }

def pool16 : Array CpInfo := pool [(2, .class_ 4), (1, u "java/lang/Object"), (0, u "<init>"), (0, u "()V"), (1, .class_ 10), (1, u "java/lang/System"), (0, u "allowSecurityManager"), (0, u "I"), (16, u "cons"), (0, u "Ljava/io/Console;"), (77, .class_ 110), (1, u "java/lang/System$CallersHolder"), (43, u "initialErrStream"), (0, u "Ljava/io/PrintStream;"), (19, u "security"), (0, u "Ljava/lang/SecurityManager;"), (31, .class_ 209), (0, u "java/lang/System$1"), (7, u "props"), (0, u "Ljava/util/Properties;"), (2, u "lineSeparator"), (0, u "Ljava/lang/String;"), (96, .class_ 321), (1, u "java/lang/System$LoggerFinder"), (5, .class_ 328), (0, u "java/lang/System$Logger"), (67, u "err"), (2, u "out"), (91, u "notSupportedJnuEncoding"), (15, u "in"), (17, u "initialIn"), (0, u "Ljava/io/InputStream;"), (35, u "bootLayer"), (0, u "Ljava/lang/ModuleLayer;"), (99, .class_ 664), (0, u "java/lang/System$2"), (9, u "NEVER"), (2, u "MAYBE"), (49, u "arraycopy"), (0, u "(Ljava/lang/Object;ILjava/lang/Object;II)V"), (72, .class_ 802), (0, u "java/lang/System$Logger$Level")] 31

def k16m0 : Method := { name := "<init>", desc := "()V", sig := { parameters := [], returnType := none }, accessFlags := 2, code := none }
def k16m1 : Method := { name := "arraycopy", desc := "(Ljava/lang/Object;ILjava/lang/Object;II)V", sig := { parameters := [(.object "java/lang/Object"), .int, (.object "java/lang/Object"), .int, .int], returnType := none }, accessFlags := 265, code := none }
/-- java/lang/System -/
def k16 : Class := { plain "java/lang/System" (some 0) with
  accessFlags := 49
  interfaces := #[]
  cf := some (fileOf pool16 8 #[.nestMembers #[319, 327, 801, 108, 663, 208]] #[{ accessFlags := 2, nameIndex := 5, descriptorIndex := 6, attributes := #[] }, { accessFlags := 265, nameIndex := 727, descriptorIndex := 728, attributes := #[] }] 49 2 #[] #[{ accessFlags := 25, nameIndex := 507, descriptorIndex := 526, attributes := #[] }, { accessFlags := 25, nameIndex := 399, descriptorIndex := 155, attributes := #[] }, { accessFlags := 25, nameIndex := 396, descriptorIndex := 155, attributes := #[] }, { accessFlags := 10, nameIndex := 525, descriptorIndex := 526, attributes := #[] }, { accessFlags := 26, nameIndex := 674, descriptorIndex := 12, attributes := #[] }, { accessFlags := 26, nameIndex := 677, descriptorIndex := 12, attributes := #[] }, { accessFlags := 10, nameIndex := 11, descriptorIndex := 12, attributes := #[] }, { accessFlags := 74, nameIndex := 175, descriptorIndex := 176, attributes := #[] }, { accessFlags := 10, nameIndex := 491, descriptorIndex := 222, attributes := #[] }, { accessFlags := 74, nameIndex := 29, descriptorIndex := 30, attributes := #[] }, { accessFlags := 74, nameIndex := 154, descriptorIndex := 155, attributes := #[] }, { accessFlags := 10, nameIndex := 217, descriptorIndex := 218, attributes := #[] }, { accessFlags := 10, nameIndex := 221, descriptorIndex := 222, attributes := #[] }, { accessFlags := 8, nameIndex := 562, descriptorIndex := 563, attributes := #[] }])
  fields := #[{ name := "in", type := (.object "java/io/InputStream"), accessFlags := 25, slot := 0, constantValue := 0 }, { name := "out", type := (.object "java/io/PrintStream"), accessFlags := 25, slot := 1, constantValue := 0 }, { name := "err", type := (.object "java/io/PrintStream"), accessFlags := 25, slot := 2, constantValue := 0 }, { name := "initialIn", type := (.object "java/io/InputStream"), accessFlags := 10, slot := 3, constantValue := 0 }, { name := "NEVER", type := .int, accessFlags := 26, slot := 4, constantValue := 0 }, { name := "MAYBE", type := .int, accessFlags := 26, slot := 5, constantValue := 0 }, { name := "allowSecurityManager", type := .int, accessFlags := 10, slot := 6, constantValue := 0 }, { name := "security", type := (.object "java/lang/SecurityManager"), accessFlags := 74, slot := 7, constantValue := 0 }, { name := "notSupportedJnuEncoding", type := (.object "java/lang/String"), accessFlags := 10, slot := 8, constantValue := 0 }, { name := "cons", type := (.object "java/io/Console"), accessFlags := 74, slot := 9, constantValue := 0 }, { name := "initialErrStream", type := (.object "java/io/PrintStream"), accessFlags := 74, slot := 10, constantValue := 0 }, { name := "props", type := (.object "java/util/Properties"), accessFlags := 10, slot := 11, constantValue := 0 }, { name := "lineSeparator", type := (.object "java/lang/String"), accessFlags := 10, slot := 12, constantValue := 0 }, { name := "bootLayer", type := (.object "java/lang/ModuleLayer"), accessFlags := 8, slot := 13, constantValue := 0 }]
  methods := #[k16m0, k16m1]
  instanceTypes := #[]
  staticTypes := #[(.object "java/io/InputStream"), (.object "java/io/PrintStream"), (.object "java/io/PrintStream"), (.object "java/io/InputStream"), .int, .int, .int, (.object "java/lang/SecurityManager"), (.object "java/lang/String"), (.object "java/io/Console"), (.object "java/io/PrintStream"), (.object "java/util/Properties"), (.object "java/lang/String"), (.object "java/lang/ModuleLayer")]
  resolved := Array.replicate 834 none
  statics := none }

def pool17 : Array CpInfo := pool [(9, u "<init>"), (6, .class_ 18), (1, u "java/lang/Object"), (0, u "()V"), (1, .class_ 23), (1, u "jdk/internal/util/ArraysSupport"), (0, u "LOG2_ARRAY_LONG_INDEX_SCALE"), (0, u "I"), (2, u "U"), (0, u "Ljdk/internal/misc/Unsafe;"), (8, u "BIG_ENDIAN"), (0, u "Z"), (8, u "LOG2_BYTE_BIT_SIZE"), (4, u "LOG2_ARRAY_INT_INDEX_SCALE"), (54, u "JLA"), (0, u "Ljdk/internal/access/JavaLangAccess;"), (11, u "LOG2_ARRAY_BOOLEAN_INDEX_SCALE"), (9, u "LOG2_ARRAY_BYTE_INDEX_SCALE"), (5, u "LOG2_ARRAY_CHAR_INDEX_SCALE"), (5, u "LOG2_ARRAY_SHORT_INDEX_SCALE"), (18, u "LOG2_ARRAY_FLOAT_INDEX_SCALE"), (24, u "LOG2_ARRAY_DOUBLE_INDEX_SCALE"), (89, u "T_BOOLEAN"), (2, u "T_CHAR"), (1, u "T_FLOAT"), (1, u "T_DOUBLE"), (1, u "T_BYTE"), (1, u "T_SHORT"), (1, u "T_INT"), (1, u "T_LONG"), (1, u "SOFT_MAX_ARRAY_LENGTH")] 83

def k17m0 : Method := { name := "<init>", desc := "()V", sig := { parameters := [], returnType := none }, accessFlags := 2, code := none }
/-- jdk/internal/util/ArraysSupport -/
def k17 : Class := { plain "jdk/internal/util/ArraysSupport" (some 0) with
  accessFlags := 33
  interfaces := #[]
  cf := some (fileOf pool17 21 #[] #[{ accessFlags := 2, nameIndex := 9, descriptorIndex := 19, attributes := #[] }] 33 16 #[] #[{ accessFlags := 24, nameIndex := 28, descriptorIndex := 29, attributes := #[] }, { accessFlags := 26, nameIndex := 38, descriptorIndex := 39, attributes := #[] }, { accessFlags := 25, nameIndex := 121, descriptorIndex := 25, attributes := #[] }, { accessFlags := 25, nameIndex := 131, descriptorIndex := 25, attributes := #[] }, { accessFlags := 25, nameIndex := 137, descriptorIndex := 25, attributes := #[] }, { accessFlags := 25, nameIndex := 143, descriptorIndex := 25, attributes := #[] }, { accessFlags := 25, nameIndex := 53, descriptorIndex := 25, attributes := #[] }, { accessFlags := 25, nameIndex := 24, descriptorIndex := 25, attributes := #[] }, { accessFlags := 25, nameIndex := 162, descriptorIndex := 25, attributes := #[] }, { accessFlags := 25, nameIndex := 187, descriptorIndex := 25, attributes := #[] }, { accessFlags := 26, nameIndex := 48, descriptorIndex := 25, attributes := #[] }, { accessFlags := 25, nameIndex := 277, descriptorIndex := 25, attributes := #[] }, { accessFlags := 25, nameIndex := 280, descriptorIndex := 25, attributes := #[] }, { accessFlags := 25, nameIndex := 282, descriptorIndex := 25, attributes := #[] }, { accessFlags := 25, nameIndex := 284, descriptorIndex := 25, attributes := #[] }, { accessFlags := 25, nameIndex := 286, descriptorIndex := 25, attributes := #[] }, { accessFlags := 25, nameIndex := 288, descriptorIndex := 25, attributes := #[] }, { accessFlags := 25, nameIndex := 290, descriptorIndex := 25, attributes := #[] }, { accessFlags := 25, nameIndex := 292, descriptorIndex := 25, attributes := #[] }, { accessFlags := 26, nameIndex := 108, descriptorIndex := 109, attributes := #[] }, { accessFlags := 25, nameIndex := 294, descriptorIndex := 25, attributes := #[] }])
  fields := #[{ name := "U", type := (.object "jdk/internal/misc/Unsafe"), accessFlags := 24, slot := 0, constantValue := 0 }, { name := "BIG_ENDIAN", type := .boolean, accessFlags := 26, slot := 1, constantValue := 0 }, { name := "LOG2_ARRAY_BOOLEAN_INDEX_SCALE", type := .int, accessFlags := 25, slot := 2, constantValue := 0 }, { name := "LOG2_ARRAY_BYTE_INDEX_SCALE", type := .int, accessFlags := 25, slot := 3, constantValue := 0 }, { name := "LOG2_ARRAY_CHAR_INDEX_SCALE", type := .int, accessFlags := 25, slot := 4, constantValue := 0 }, { name := "LOG2_ARRAY_SHORT_INDEX_SCALE", type := .int, accessFlags := 25, slot := 5, constantValue := 0 }, { name := "LOG2_ARRAY_INT_INDEX_SCALE", type := .int, accessFlags := 25, slot := 6, constantValue := 0 }, { name := "LOG2_ARRAY_LONG_INDEX_SCALE", type := .int, accessFlags := 25, slot := 7, constantValue := 0 }, { name := "LOG2_ARRAY_FLOAT_INDEX_SCALE", type := .int, accessFlags := 25, slot := 8, constantValue := 0 }, { name := "LOG2_ARRAY_DOUBLE_INDEX_SCALE", type := .int, accessFlags := 25, slot := 9, constantValue := 0 }, { name := "LOG2_BYTE_BIT_SIZE", type := .int, accessFlags := 26, slot := 10, constantValue := 0 }, { name := "T_BOOLEAN", type := .int, accessFlags := 25, slot := 11, constantValue := 0 }, { name := "T_CHAR", type := .int, accessFlags := 25, slot := 12, constantValue := 0 }, { name := "T_FLOAT", type := .int, accessFlags := 25, slot := 13, constantValue := 0 }, { name := "T_DOUBLE", type := .int, accessFlags := 25, slot := 14, constantValue := 0 }, { name := "T_BYTE", type := .int, accessFlags := 25, slot := 15, constantValue := 0 }, { name := "T_SHORT", type := .int, accessFlags := 25, slot := 16, constantValue := 0 }, { name := "T_INT", type := .int, accessFlags := 25, slot := 17, constantValue := 0 }, { name := "T_LONG", type := .int, accessFlags := 25, slot := 18, constantValue := 0 }, { name := "JLA", type := (.object "jdk/internal/access/JavaLangAccess"), accessFlags := 26, slot := 19, constantValue := 0 }, { name := "SOFT_MAX_ARRAY_LENGTH", type := .int, accessFlags := 25, slot := 20, constantValue := 0 }]
  methods := #[k17m0]
  instanceTypes := #[]
  staticTypes := #[(.object "jdk/internal/misc/Unsafe"), .boolean, .int, .int, .int, .int, .int, .int, .int, .int, .int, .int, .int, .int, .int, .int, .int, .int, .int, (.object "jdk/internal/access/JavaLangAccess"), .int]
  resolved := Array.replicate 378 none
  statics := none }

def pool18 : Array CpInfo := pool [(2, .class_ 4), (1, u "java/lang/Object"), (0, u "<init>"), (0, u "()V"), (1, .class_ 10), (1, u "java/util/AbstractMap"), (42, .class_ 54), (0, u "java/util/Map"), (9, u "keySet"), (0, u "Ljava/util/Set;"), (0, .class_ 67), (0, u "java/util/AbstractMap$1"), (5, u "values"), (0, u "Ljava/util/Collection;"), (0, .class_ 76), (0, u "java/util/AbstractMap$2"), (104, .class_ 182), (0, u "java/util/AbstractMap$ViewCollection"), (0, .class_ 184), (0, u "java/util/AbstractMap$SimpleImmutableEntry"), (0, .class_ 186), (0, u "java/util/AbstractMap$SimpleEntry"), (0, .class_ 188), (0, u "java/util/AbstractMap$2$1"), (0, .class_ 190), (0, u "java/util/AbstractMap$1$1")] 5

def k18m0 : Method := { name := "<init>", desc := "()V", sig := { parameters := [], returnType := none }, accessFlags := 4, code := none }
/-- java/util/AbstractMap -/
def k18 : Class := { plain "java/util/AbstractMap" (some 0) with
  accessFlags := 1057
  interfaces := #[12]
  cf := some (fileOf pool18 8 #[.nestMembers #[181, 183, 185, 75, 187, 66, 189]] #[{ accessFlags := 4, nameIndex := 5, descriptorIndex := 6, attributes := #[] }] 1057 2 #[53] #[{ accessFlags := 128, nameIndex := 64, descriptorIndex := 65, attributes := #[] }, { accessFlags := 128, nameIndex := 73, descriptorIndex := 74, attributes := #[] }])
  fields := #[{ name := "keySet", type := (.object "java/util/Set"), accessFlags := 128, slot := 0, constantValue := 0 }, { name := "values", type := (.object "java/util/Collection"), accessFlags := 128, slot := 1, constantValue := 0 }]
  methods := #[k18m0]
  instanceTypes := #[(.object "java/util/Set"), (.object "java/util/Collection")]
  staticTypes := #[]
  resolved := Array.replicate 196 none
  statics := none }

def pool19 : Array CpInfo := pool [(2, .class_ 4), (1, u "java/util/AbstractMap"), (0, u "<init>"), (0, u "()V"), (1, .class_ 10), (1, u "java/util/ImmutableCollections"), (3, .class_ 16), (1, u "java/util/ImmutableCollections$AbstractImmutableMap"), (2, .class_ 20), (0, u "java/io/Serializable")] 66

def k19m0 : Method := { name := "<init>", desc := "()V", sig := { parameters := [], returnType := none }, accessFlags := 0, code := none }
/-- java/util/ImmutableCollections$AbstractImmutableMap -/
def k19 : Class := { plain "java/util/ImmutableCollections$AbstractImmutableMap" (some 18) with
  accessFlags := 1056
  interfaces := #[2]
  cf := some (fileOf pool19 14 #[.nestHost 8] #[{ accessFlags := 0, nameIndex := 5, descriptorIndex := 6, attributes := #[] }] 1056 2 #[19] #[])
  fields := #[]
  methods := #[k19m0]
  instanceTypes := #[(.object "java/util/Set"), (.object "java/util/Collection")]
  staticTypes := #[]
  resolved := Array.replicate 87 none
  statics := none }

def pool20 : Array CpInfo := pool [(1, .class_ 2), (0, u "java/util/ImmutableCollections"), (1, .class_ 6), (1, u "java/util/ImmutableCollections$AbstractImmutableMap"), (10, .class_ 19), (1, u "java/util/ImmutableCollections$MapN"), (0, u "size"), (0, u "I"), (4, u "table"), (0, u "[Ljava/lang/Object;")] 121

/-- java/util/ImmutableCollections$MapN -/
def k20 : Class := { plain "java/util/ImmutableCollections$MapN" (some 19) with
  accessFlags := 48
  interfaces := #[]
  cf := some (fileOf pool20 17 #[.nestHost 1] #[] 48 4 #[] #[{ accessFlags := 16, nameIndex := 26, descriptorIndex := 27, attributes := #[] }, { accessFlags := 16, nameIndex := 20, descriptorIndex := 21, attributes := #[] }])
  fields := #[{ name := "table", type := (.array (.object "java/lang/Object")), accessFlags := 16, slot := 2, constantValue := 0 }, { name := "size", type := .int, accessFlags := 16, slot := 3, constantValue := 0 }]
  methods := #[]
  instanceTypes := #[(.object "java/util/Set"), (.object "java/util/Collection"), (.array (.object "java/lang/Object")), .int]
  staticTypes := #[]
  resolved := Array.replicate 149 none
  statics := none }

def pool21 : Array CpInfo := pool [(1, u "java/lang/Cloneable"), (0, .class_ 1), (0, u "java/lang/Object"), (0, .class_ 3)] 3

/-- java/lang/Cloneable -/
def k21 : Class := { plain "java/lang/Cloneable" (some 0) with
  accessFlags := 1537
  interfaces := #[]
  cf := some (fileOf pool21 2 #[] #[] 1537 4 #[] #[])
  fields := #[]
  methods := #[]
  instanceTypes := #[]
  staticTypes := #[]
  resolved := Array.replicate 8 none
  statics := none }

/-- the primitive byte -/
def k22 : Class := { plain "byte" none with kind := .primitive 'B', accessFlags := 0x411 }
/-- [B -/
def k23 : Class := { plain "[B" (some 0) with kind := .array 22 .byte, interfaces := #[21, 2], accessFlags := 1041 }

/-- the primitive char -/
def k24 : Class := { plain "char" none with kind := .primitive 'C', accessFlags := 0x411 }
/-- [C -/
def k25 : Class := { plain "[C" (some 0) with kind := .array 24 .char, interfaces := #[21, 2], accessFlags := 1041 }

/-- the primitive int -/
def k26 : Class := { plain "int" none with kind := .primitive 'I', accessFlags := 0x411 }
/-- [I -/
def k27 : Class := { plain "[I" (some 0) with kind := .array 26 .int, interfaces := #[21, 2], accessFlags := 1041 }

/-- [Ljava/lang/Object; -/
def k28 : Class := { plain "[Ljava/lang/Object;" (some 0) with kind := .array 0 (.object "java/lang/Object"), interfaces := #[21, 2], accessFlags := 1041 }

def heap : Heap := #[{ cls := 7, slots := #[.long 0, .int 1, .null, .int 0, .null, .int 0, .int 0], vm := .statics 7 },
  { cls := 11, slots := #[.null, .null, .null], vm := .statics 11 },
  { cls := 13, slots := #[.long 0, .int 0, .null, .null, .null, .null, .null, .ref 4, .int 0, .int 0], vm := .statics 13 },
  { cls := 28, slots := #[], vm := .none },
  { cls := 20, slots := #[.null, .null, .ref 3, .int 0], vm := .none }]
def classes : Array Class := #[k0, k1, k2, k3, k4, k5, k6, k7, k8, k9, k10, k11, k12, k13, k14, k15, k16, k17, k18, k19, k20, k21, k22, k23, k24, k25, k26, k27, k28]
def interned : List (Array UInt16 × Addr) := []
def slotsUsed : Nat := 24
def theMethod : MethodId := ⟨1, 4⟩
def args0 : Array Value := #[.int 5, .int 6, .int 7, .int 8]
def aboutOver (below : List Frame) : State where
  vm := { classes := classes, interned := interned.toArray }
  heap := heap
  slotsUsed := slotsUsed
  threads := #[{ frames := .invoking theMethod args0 :: below }]
def below0 : List Frame := [.native { method := ⟨0, 0⟩, args := #[] }]
def about1 : State := aboutOver below0
def p0 : Program := .bare "" "" ""
def e0 : Env := launch0.env 0 0 0
theorem w_frames : about1.frames = Frame.invoking theMethod args0 :: below0 := rfl
set_option maxRecDepth 65536 in
theorem w_args : argsFit about1.vm theMethod args0 = true := by decide +kernel
set_option maxRecDepth 65536 in
theorem w_heap : heapFits about1 = true := by decide +kernel
set_option maxRecDepth 65536 in
theorem w_runnable : about1.curStatus? = some .runnable := by decide +kernel
set_option maxRecDepth 65536 in
theorem w_alone : about1.alone = true := by decide +kernel
set_option maxRecDepth 65536 in
theorem w_named : about1.methodNamed? x = some theMethod := by decide +kernel
set_option maxRecDepth 65536 in
theorem w_hears : about1.hears theMethod below0 = true := by decide +kernel
set_option maxRecDepth 65536 in
theorem w_ripe : about1.ripe theMethod args0 below0 = true := by decide +kernel
theorem w_running : about1.status = .running := rfl
set_option maxRecDepth 65536 in
theorem w_room : about1.hasRoom e0.platform room_1 = true :=
  launch0.hasRoom_least _ room_1 (by decide +kernel) (by decide +kernel) (by decide +kernel) (by decide +kernel) (by decide +kernel) (by decide +kernel)
theorem allAtoms_all (ts : List Jvm.Cond) (a : Array Jvm.Value) (st : Jvm.State) : (allAtoms ts).before a st = ts.all (fun c => c.before a st) := by
  induction ts with
  | nil => rfl
  | cons c t ih =>
    show (Jvm.Cond.and c (allAtoms t)).before a st = _
    rw [Jvm.Cond.before_and, ih, List.all_cons]
def words1 : List Jvm.Cond := Jvm.Cond.code x code maxLocals ret :: tables_1
/-- a 'code' word, met by the world's own term for the bytes: nothing is compared byte by byte -/
theorem code_word {y : MethodName} {bytes : ByteArray} {mx : Nat} {rt : Option FieldType} {a : Array Value} {s : State} {m : MethodId} {meth : Method} {c : Code} (h1 : s.methodNamed? y = some m) (h2 : s.vm.method? m = some meth) (h3 : meth.code = some c) (h4 : c.code = bytes)
    (h5 : (c.maxLocals == mx && c.exceptionTable.isEmpty && decide (c.maxStack ≤ mostOperands) && decide (meth.sig.returnType = rt) && !meth.locks && decide (parseMethodDescriptor y.desc = some meth.sig)) = true) : (Jvm.Cond.code y bytes mx rt).before a s = true := by
  simp only [Bool.and_eq_true, beq_iff_eq, Bool.not_eq_true', decide_eq_true_eq] at h5
  obtain ⟨⟨⟨⟨⟨g1, g2⟩, g3⟩, g4⟩, g5⟩, g6⟩ := h5
  simp [Cond.before, Cond.holds, Cond.value, h1, h2, h3, h4, g1, g2, g3, g4, g5, g6]
def isCode : Jvm.Cond → Bool
  | .code _ _ _ _ => true
  | _ => false
theorem all_split {L : List Jvm.Cond} {P : Jvm.Cond → Bool} (h1 : L.all (fun c => isCode c || P c) = true) (h2 : ∀ c ∈ L.filter isCode, P c = true) : L.all P = true := by
  refine List.all_eq_true.mpr fun c hc => ?_
  have h := List.all_eq_true.mp h1 c hc
  rcases Bool.eq_false_or_eq_true (isCode c) with hi | hi
  · exact h2 c (List.mem_filter.mpr ⟨hc, hi⟩)
  · simpa [hi] using h
set_option maxRecDepth 65536 in
theorem w_c0 : (Jvm.Cond.code x code maxLocals ret).before args0 about1 = true := code_word (m := ⟨1, 4⟩) (meth := k1m4) (c := k1c4) (by decide +kernel) rfl rfl rfl (by decide +kernel)
set_option maxRecDepth 65536 in
theorem w_c1 : (Jvm.Cond.code ({ cls := "com/example/ratatoskr/ratatoskr/request/RequestPathInfoWithParametersPinLaw", name := "pick", desc := "(I)C" } : Jvm.MethodName) method_2_code (2 : Nat) (Option.some Jvm.ClassFile.FieldType.char)).before args0 about1 = true := code_word (m := ⟨1, 1⟩) (meth := k1m1) (c := k1c1) (by decide +kernel) rfl rfl rfl (by decide +kernel)
set_option maxRecDepth 65536 in
theorem w_c2 : (Jvm.Cond.code ({ cls := "java/lang/String", name := "valueOf", desc := "(C)Ljava/lang/String;" } : Jvm.MethodName) jdk_42_method_139_code (1 : Nat) (Option.some (Jvm.ClassFile.FieldType.object "java/lang/String"))).before args0 about1 = true := code_word (m := ⟨7, 11⟩) (meth := k7m11) (c := k7c11) (by decide +kernel) rfl rfl rfl (by decide +kernel)
set_option maxRecDepth 65536 in
theorem w_c3 : (Jvm.Cond.code ({ cls := "java/lang/StringLatin1", name := "canEncode", desc := "(C)Z" } : Jvm.MethodName) jdk_43_method_3_code (1 : Nat) (Option.some Jvm.ClassFile.FieldType.boolean)).before args0 about1 = true := code_word (m := ⟨8, 1⟩) (meth := k8m1) (c := k8c1) (by decide +kernel) rfl rfl rfl (by decide +kernel)
set_option maxRecDepth 65536 in
theorem w_c4 : (Jvm.Cond.code ({ cls := "java/lang/StringLatin1", name := "toBytes", desc := "(C)[B" } : Jvm.MethodName) jdk_43_method_46_code (1 : Nat) (Option.some (Jvm.ClassFile.FieldType.array Jvm.ClassFile.FieldType.byte))).before args0 about1 = true := code_word (m := ⟨8, 6⟩) (meth := k8m6) (c := k8c6) (by decide +kernel) rfl rfl rfl (by decide +kernel)
set_option maxRecDepth 65536 in
theorem w_c5 : (Jvm.Cond.code ({ cls := "java/lang/String", name := "<init>", desc := "([BB)V" } : Jvm.MethodName) jdk_42_method_151_code (3 : Nat) (Option.none : Option Jvm.ClassFile.FieldType)).before args0 about1 = true := code_word (m := ⟨7, 13⟩) (meth := k7m13) (c := k7c13) (by decide +kernel) rfl rfl rfl (by decide +kernel)
set_option maxRecDepth 65536 in
theorem w_c6 : (Jvm.Cond.code ({ cls := "java/lang/Object", name := "<init>", desc := "()V" } : Jvm.MethodName) object_method_1_code (1 : Nat) (Option.none : Option Jvm.ClassFile.FieldType)).before args0 about1 = true := code_word (m := ⟨0, 0⟩) (meth := k0m0) (c := k0c0) (by decide +kernel) rfl rfl rfl (by decide +kernel)
set_option maxRecDepth 65536 in
theorem w_c7 : (Jvm.Cond.code ({ cls := "com/example/ratatoskr/ratatoskr/request/RequestPathInfo", name := "<init>", desc := "(Ljava/lang/String;Ljava/lang/String;)V" } : Jvm.MethodName) prog_14_method_1_code (6 : Nat) (Option.none : Option Jvm.ClassFile.FieldType)).before args0 about1 = true := code_word (m := ⟨9, 0⟩) (meth := k9m0) (c := k9c0) (by decide +kernel) rfl rfl rfl (by decide +kernel)
set_option maxRecDepth 65536 in
theorem w_c8 : (Jvm.Cond.code ({ cls := "java/lang/String", name := "indexOf", desc := "(I)I" } : Jvm.MethodName) jdk_42_method_79_code (2 : Nat) (Option.some Jvm.ClassFile.FieldType.int)).before args0 about1 = true := code_word (m := ⟨7, 5⟩) (meth := k7m5) (c := k7c5) (by decide +kernel) rfl rfl rfl (by decide +kernel)
set_option maxRecDepth 65536 in
theorem w_c9 : (Jvm.Cond.code ({ cls := "java/lang/String", name := "indexOf", desc := "(II)I" } : Jvm.MethodName) jdk_42_method_80_code (3 : Nat) (Option.some Jvm.ClassFile.FieldType.int)).before args0 about1 = true := code_word (m := ⟨7, 6⟩) (meth := k7m6) (c := k7c6) (by decide +kernel) rfl rfl rfl (by decide +kernel)
set_option maxRecDepth 65536 in
theorem w_c10 : (Jvm.Cond.code ({ cls := "java/lang/String", name := "isLatin1", desc := "()Z" } : Jvm.MethodName) jdk_42_method_154_code (1 : Nat) (Option.some Jvm.ClassFile.FieldType.boolean)).before args0 about1 = true := code_word (m := ⟨7, 15⟩) (meth := k7m15) (c := k7c15) (by decide +kernel) rfl rfl rfl (by decide +kernel)
set_option maxRecDepth 65536 in
theorem w_c11 : (Jvm.Cond.code ({ cls := "java/lang/String", name := "length", desc := "()I" } : Jvm.MethodName) jdk_42_method_54_code (1 : Nat) (Option.some Jvm.ClassFile.FieldType.int)).before args0 about1 = true := code_word (m := ⟨7, 2⟩) (meth := k7m2) (c := k7c2) (by decide +kernel) rfl rfl rfl (by decide +kernel)
set_option maxRecDepth 65536 in
theorem w_c12 : (Jvm.Cond.code ({ cls := "java/lang/String", name := "coder", desc := "()B" } : Jvm.MethodName) jdk_42_method_152_code (1 : Nat) (Option.some Jvm.ClassFile.FieldType.byte)).before args0 about1 = true := code_word (m := ⟨7, 14⟩) (meth := k7m14) (c := k7c14) (by decide +kernel) rfl rfl rfl (by decide +kernel)
set_option maxRecDepth 65536 in
theorem w_c13 : (Jvm.Cond.code ({ cls := "java/lang/StringLatin1", name := "indexOf", desc := "([BIII)I" } : Jvm.MethodName) jdk_43_method_22_code (4 : Nat) (Option.some Jvm.ClassFile.FieldType.int)).before args0 about1 = true := code_word (m := ⟨8, 3⟩) (meth := k8m3) (c := k8c3) (by decide +kernel) rfl rfl rfl (by decide +kernel)
set_option maxRecDepth 65536 in
theorem w_c14 : (Jvm.Cond.code ({ cls := "java/lang/StringLatin1", name := "canEncode", desc := "(I)Z" } : Jvm.MethodName) jdk_43_method_4_code (1 : Nat) (Option.some Jvm.ClassFile.FieldType.boolean)).before args0 about1 = true := code_word (m := ⟨8, 2⟩) (meth := k8m2) (c := k8c2) (by decide +kernel) rfl rfl rfl (by decide +kernel)
set_option maxRecDepth 65536 in
theorem w_c15 : (Jvm.Cond.code ({ cls := "java/lang/Math", name := "max", desc := "(II)I" } : Jvm.MethodName) jdk_29_method_65_code (2 : Nat) (Option.some Jvm.ClassFile.FieldType.int)).before args0 about1 = true := code_word (m := ⟨10, 1⟩) (meth := k10m1) (c := k10c1) (by decide +kernel) rfl rfl rfl (by decide +kernel)
set_option maxRecDepth 65536 in
theorem w_c16 : (Jvm.Cond.code ({ cls := "java/lang/Math", name := "min", desc := "(II)I" } : Jvm.MethodName) jdk_29_method_69_code (2 : Nat) (Option.some Jvm.ClassFile.FieldType.int)).before args0 about1 = true := code_word (m := ⟨10, 2⟩) (meth := k10m2) (c := k10c2) (by decide +kernel) rfl rfl rfl (by decide +kernel)
set_option maxRecDepth 65536 in
theorem w_c17 : (Jvm.Cond.code ({ cls := "java/lang/String", name := "isEmpty", desc := "()Z" } : Jvm.MethodName) jdk_42_method_55_code (1 : Nat) (Option.some Jvm.ClassFile.FieldType.boolean)).before args0 about1 = true := code_word (m := ⟨7, 3⟩) (meth := k7m3) (c := k7c3) (by decide +kernel) rfl rfl rfl (by decide +kernel)
set_option maxRecDepth 65536 in
theorem w_c18 : (Jvm.Cond.code ({ cls := "java/lang/String", name := "substring", desc := "(II)Ljava/lang/String;" } : Jvm.MethodName) jdk_42_method_92_code (5 : Nat) (Option.some (Jvm.ClassFile.FieldType.object "java/lang/String"))).before args0 about1 = true := code_word (m := ⟨7, 10⟩) (meth := k7m10) (c := k7c10) (by decide +kernel) rfl rfl rfl (by decide +kernel)
set_option maxRecDepth 65536 in
theorem w_c19 : (Jvm.Cond.code ({ cls := "java/lang/String", name := "checkBoundsBeginEnd", desc := "(III)V" } : Jvm.MethodName) jdk_42_method_158_code (3 : Nat) (Option.none : Option Jvm.ClassFile.FieldType)).before args0 about1 = true := code_word (m := ⟨7, 16⟩) (meth := k7m16) (c := k7c16) (by decide +kernel) rfl rfl rfl (by decide +kernel)
set_option maxRecDepth 65536 in
theorem w_c20 : (Jvm.Cond.code ({ cls := "jdk/internal/util/Preconditions", name := "checkFromToIndex", desc := "(IIILjava/util/function/BiFunction;)I" } : Jvm.MethodName) jdk_41_method_12_code (4 : Nat) (Option.some Jvm.ClassFile.FieldType.int)).before args0 about1 = true := code_word (m := ⟨11, 1⟩) (meth := k11m1) (c := k11c1) (by decide +kernel) rfl rfl rfl (by decide +kernel)
set_option maxRecDepth 65536 in
theorem w_c21 : (Jvm.Cond.code ({ cls := "java/lang/String", name := "lastIndexOf", desc := "(I)I" } : Jvm.MethodName) jdk_42_method_82_code (2 : Nat) (Option.some Jvm.ClassFile.FieldType.int)).before args0 about1 = true := code_word (m := ⟨7, 7⟩) (meth := k7m7) (c := k7c7) (by decide +kernel) rfl rfl rfl (by decide +kernel)
set_option maxRecDepth 65536 in
theorem w_c22 : (Jvm.Cond.code ({ cls := "java/lang/String", name := "lastIndexOf", desc := "(II)I" } : Jvm.MethodName) jdk_42_method_83_code (3 : Nat) (Option.some Jvm.ClassFile.FieldType.int)).before args0 about1 = true := code_word (m := ⟨7, 8⟩) (meth := k7m8) (c := k7c8) (by decide +kernel) rfl rfl rfl (by decide +kernel)
set_option maxRecDepth 65536 in
theorem w_c23 : (Jvm.Cond.code ({ cls := "java/lang/StringLatin1", name := "lastIndexOf", desc := "([BII)I" } : Jvm.MethodName) jdk_43_method_27_code (4 : Nat) (Option.some Jvm.ClassFile.FieldType.int)).before args0 about1 = true := code_word (m := ⟨8, 5⟩) (meth := k8m5) (c := k8c5) (by decide +kernel) rfl rfl rfl (by decide +kernel)
set_option maxRecDepth 65536 in
theorem w_c24 : (Jvm.Cond.code ({ cls := "java/lang/String", name := "substring", desc := "(I)Ljava/lang/String;" } : Jvm.MethodName) jdk_42_method_91_code (2 : Nat) (Option.some (Jvm.ClassFile.FieldType.object "java/lang/String"))).before args0 about1 = true := code_word (m := ⟨7, 9⟩) (meth := k7m9) (c := k7c9) (by decide +kernel) rfl rfl rfl (by decide +kernel)
set_option maxRecDepth 65536 in
theorem w_c25 : (Jvm.Cond.code ({ cls := "com/example/ratatoskr/ratatoskr/request/RequestPathInfo", name := "presentOrNull", desc := "(Ljava/lang/String;)Ljava/lang/String;" } : Jvm.MethodName) prog_14_method_17_code (1 : Nat) (Option.some (Jvm.ClassFile.FieldType.object "java/lang/String"))).before args0 about1 = true := code_word (m := ⟨9, 8⟩) (meth := k9m8) (c := k9c8) (by decide +kernel) rfl rfl rfl (by decide +kernel)
set_option maxRecDepth 65536 in
theorem w_c26 : (Jvm.Cond.code ({ cls := "java/util/Map", name := "of", desc := "()Ljava/util/Map;" } : Jvm.MethodName) jdk_72_method_26_code (0 : Nat) (Option.some (Jvm.ClassFile.FieldType.object "java/util/Map"))).before args0 about1 = true := code_word (m := ⟨12, 0⟩) (meth := k12m0) (c := k12c0) (by decide +kernel) rfl rfl rfl (by decide +kernel)
set_option maxRecDepth 65536 in
theorem w_c27 : (Jvm.Cond.code ({ cls := "com/example/ratatoskr/ratatoskr/request/RequestPathInfo", name := "withParameters", desc := "(Ljava/util/Map;)Lcom/example/ratatoskr/ratatoskr/request/RequestPathInfo;" } : Jvm.MethodName) prog_14_method_4_code (2 : Nat) (Option.some (Jvm.ClassFile.FieldType.object "com/example/ratatoskr/ratatoskr/request/RequestPathInfo"))).before args0 about1 = true := code_word (m := ⟨9, 2⟩) (meth := k9m2) (c := k9c2) (by decide +kernel) rfl rfl rfl (by decide +kernel)
set_option maxRecDepth 65536 in
theorem w_c28 : (Jvm.Cond.code ({ cls := "com/example/ratatoskr/ratatoskr/request/RequestPathInfo", name := "<init>", desc := "(Ljava/lang/String;Ljava/lang/String;Ljava/lang/String;Ljava/lang/String;Ljava/util/Map;)V" } : Jvm.MethodName) prog_14_method_2_code (6 : Nat) (Option.none : Option Jvm.ClassFile.FieldType)).before args0 about1 = true := code_word (m := ⟨9, 1⟩) (meth := k9m1) (c := k9c1) (by decide +kernel) rfl rfl rfl (by decide +kernel)
set_option maxRecDepth 65536 in
theorem w_c29 : (Jvm.Cond.code ({ cls := "com/example/ratatoskr/ratatoskr/request/RequestPathInfo", name := "getParameters", desc := "()Ljava/util/Map;" } : Jvm.MethodName) prog_14_method_16_code (1 : Nat) (Option.some (Jvm.ClassFile.FieldType.object "java/util/Map"))).before args0 about1 = true := code_word (m := ⟨9, 7⟩) (meth := k9m7) (c := k9c7) (by decide +kernel) rfl rfl rfl (by decide +kernel)
set_option maxRecDepth 65536 in
theorem w_c30 : (Jvm.Cond.code ({ cls := "com/example/ratatoskr/ratatoskr/request/RequestPathInfoWithParametersPinLaw", name := "same", desc := "(Lcom/example/ratatoskr/ratatoskr/request/RequestPathInfo;Lcom/example/ratatoskr/ratatoskr/request/RequestPathInfo;)Z" } : Jvm.MethodName) method_4_code (2 : Nat) (Option.some Jvm.ClassFile.FieldType.boolean)).before args0 about1 = true := code_word (m := ⟨1, 3⟩) (meth := k1m3) (c := k1c3) (by decide +kernel) rfl rfl rfl (by decide +kernel)
set_option maxRecDepth 65536 in
theorem w_c31 : (Jvm.Cond.code ({ cls := "com/example/ratatoskr/ratatoskr/request/RequestPathInfo", name := "getResourcePath", desc := "()Ljava/lang/String;" } : Jvm.MethodName) prog_14_method_5_code (1 : Nat) (Option.some (Jvm.ClassFile.FieldType.object "java/lang/String"))).before args0 about1 = true := code_word (m := ⟨9, 3⟩) (meth := k9m3) (c := k9c3) (by decide +kernel) rfl rfl rfl (by decide +kernel)
set_option maxRecDepth 65536 in
theorem w_c32 : (Jvm.Cond.code ({ cls := "com/example/ratatoskr/ratatoskr/request/RequestPathInfoWithParametersPinLaw", name := "eq", desc := "(Ljava/lang/String;Ljava/lang/String;)Z" } : Jvm.MethodName) method_3_code (2 : Nat) (Option.some Jvm.ClassFile.FieldType.boolean)).before args0 about1 = true := code_word (m := ⟨1, 2⟩) (meth := k1m2) (c := k1c2) (by decide +kernel) rfl rfl rfl (by decide +kernel)
set_option maxRecDepth 65536 in
theorem w_c33 : (Jvm.Cond.code ({ cls := "java/lang/String", name := "equals", desc := "(Ljava/lang/Object;)Z" } : Jvm.MethodName) jdk_42_method_66_code (3 : Nat) (Option.some Jvm.ClassFile.FieldType.boolean)).before args0 about1 = true := code_word (m := ⟨7, 4⟩) (meth := k7m4) (c := k7c4) (by decide +kernel) rfl rfl rfl (by decide +kernel)
set_option maxRecDepth 65536 in
theorem w_c34 : (Jvm.Cond.code ({ cls := "com/example/ratatoskr/ratatoskr/request/RequestPathInfo", name := "getSelectorString", desc := "()Ljava/lang/String;" } : Jvm.MethodName) prog_14_method_6_code (1 : Nat) (Option.some (Jvm.ClassFile.FieldType.object "java/lang/String"))).before args0 about1 = true := code_word (m := ⟨9, 4⟩) (meth := k9m4) (c := k9c4) (by decide +kernel) rfl rfl rfl (by decide +kernel)
set_option maxRecDepth 65536 in
theorem w_c35 : (Jvm.Cond.code ({ cls := "com/example/ratatoskr/ratatoskr/request/RequestPathInfo", name := "getExtension", desc := "()Ljava/lang/String;" } : Jvm.MethodName) prog_14_method_14_code (1 : Nat) (Option.some (Jvm.ClassFile.FieldType.object "java/lang/String"))).before args0 about1 = true := code_word (m := ⟨9, 5⟩) (meth := k9m5) (c := k9c5) (by decide +kernel) rfl rfl rfl (by decide +kernel)
set_option maxRecDepth 65536 in
theorem w_c36 : (Jvm.Cond.code ({ cls := "com/example/ratatoskr/ratatoskr/request/RequestPathInfo", name := "getSuffix", desc := "()Ljava/lang/String;" } : Jvm.MethodName) prog_14_method_15_code (1 : Nat) (Option.some (Jvm.ClassFile.FieldType.object "java/lang/String"))).before args0 about1 = true := code_word (m := ⟨9, 6⟩) (meth := k9m6) (c := k9c6) (by decide +kernel) rfl rfl rfl (by decide +kernel)
set_option maxRecDepth 65536 in
theorem w_c37 : (Jvm.Cond.code ({ cls := "java/lang/String", name := "<init>", desc := "([C)V" } : Jvm.MethodName) jdk_42_method_3_code (2 : Nat) (Option.none : Option Jvm.ClassFile.FieldType)).before args0 about1 = true := code_word (m := ⟨7, 1⟩) (meth := k7m1) (c := k7c1) (by decide +kernel) rfl rfl rfl (by decide +kernel)
set_option maxRecDepth 65536 in
theorem w_c38 : (Jvm.Cond.code ({ cls := "java/lang/String", name := "<init>", desc := "([CIILjava/lang/Void;)V" } : Jvm.MethodName) jdk_42_method_149_code (6 : Nat) (Option.none : Option Jvm.ClassFile.FieldType)).before args0 about1 = true := code_word (m := ⟨7, 12⟩) (meth := k7m12) (c := k7c12) (by decide +kernel) rfl rfl rfl (by decide +kernel)
set_option maxRecDepth 65536 in
theorem w_c39 : (Jvm.Cond.code ({ cls := "java/lang/StringUTF16", name := "compress", desc := "([CII)[B" } : Jvm.MethodName) jdk_52_method_16_code (6 : Nat) (Option.some (Jvm.ClassFile.FieldType.array Jvm.ClassFile.FieldType.byte))).before args0 about1 = true := code_word (m := ⟨14, 2⟩) (meth := k14m2) (c := k14c2) (by decide +kernel) rfl rfl rfl (by decide +kernel)
set_option maxRecDepth 65536 in
theorem w_c40 : (Jvm.Cond.code ({ cls := "java/lang/StringUTF16", name := "compress", desc := "([CI[BII)I" } : Jvm.MethodName) jdk_52_method_21_code (7 : Nat) (Option.some Jvm.ClassFile.FieldType.int)).before args0 about1 = true := code_word (m := ⟨14, 3⟩) (meth := k14m3) (c := k14c3) (by decide +kernel) rfl rfl rfl (by decide +kernel)
set_option maxRecDepth 65536 in
theorem w_c41 : (Jvm.Cond.code ({ cls := "java/lang/StringUTF16", name := "coderFromArrayLen", desc := "([BI)B" } : Jvm.MethodName) jdk_52_method_15_code (2 : Nat) (Option.some Jvm.ClassFile.FieldType.byte)).before args0 about1 = true := code_word (m := ⟨14, 1⟩) (meth := k14m1) (c := k14c1) (by decide +kernel) rfl rfl rfl (by decide +kernel)
set_option maxRecDepth 65536 in
theorem w_c42 : (Jvm.Cond.code ({ cls := "java/lang/StringLatin1", name := "indexOfChar", desc := "([BIII)I" } : Jvm.MethodName) jdk_43_method_23_code (6 : Nat) (Option.some Jvm.ClassFile.FieldType.int)).before args0 about1 = true := code_word (m := ⟨8, 4⟩) (meth := k8m4) (c := k8c4) (by decide +kernel) rfl rfl rfl (by decide +kernel)
set_option maxRecDepth 65536 in
theorem w_c43 : (Jvm.Cond.code ({ cls := "java/lang/StringLatin1", name := "newString", desc := "([BII)Ljava/lang/String;" } : Jvm.MethodName) jdk_43_method_47_code (3 : Nat) (Option.some (Jvm.ClassFile.FieldType.object "java/lang/String"))).before args0 about1 = true := code_word (m := ⟨8, 7⟩) (meth := k8m7) (c := k8c7) (by decide +kernel) rfl rfl rfl (by decide +kernel)
set_option maxRecDepth 65536 in
theorem w_c44 : (Jvm.Cond.code ({ cls := "java/util/Arrays", name := "copyOfRange", desc := "([BII)[B" } : Jvm.MethodName) jdk_65_method_132_code (3 : Nat) (Option.some (Jvm.ClassFile.FieldType.array Jvm.ClassFile.FieldType.byte))).before args0 about1 = true := code_word (m := ⟨15, 2⟩) (meth := k15m2) (c := k15c2) (by decide +kernel) rfl rfl rfl (by decide +kernel)
set_option maxRecDepth 65536 in
theorem w_c45 : (Jvm.Cond.code ({ cls := "java/util/Arrays", name := "copyOfRangeByte", desc := "([BII)[B" } : Jvm.MethodName) jdk_65_method_133_code (5 : Nat) (Option.some (Jvm.ClassFile.FieldType.array Jvm.ClassFile.FieldType.byte))).before args0 about1 = true := code_word (m := ⟨15, 3⟩) (meth := k15m3) (c := k15c3) (by decide +kernel) rfl rfl rfl (by decide +kernel)
set_option maxRecDepth 65536 in
theorem w_c46 : (Jvm.Cond.code ({ cls := "java/util/Arrays", name := "checkLength", desc := "(II)V" } : Jvm.MethodName) jdk_65_method_131_code (2 : Nat) (Option.none : Option Jvm.ClassFile.FieldType)).before args0 about1 = true := code_word (m := ⟨15, 1⟩) (meth := k15m1) (c := k15c1) (by decide +kernel) rfl rfl rfl (by decide +kernel)
def codes1 : List Jvm.Cond := [Jvm.Cond.code x code maxLocals ret, Jvm.Cond.code ({ cls := "com/example/ratatoskr/ratatoskr/request/RequestPathInfoWithParametersPinLaw", name := "pick", desc := "(I)C" } : Jvm.MethodName) method_2_code (2 : Nat) (Option.some Jvm.ClassFile.FieldType.char), Jvm.Cond.code ({ cls := "java/lang/String", name := "valueOf", desc := "(C)Ljava/lang/String;" } : Jvm.MethodName) jdk_42_method_139_code (1 : Nat) (Option.some (Jvm.ClassFile.FieldType.object "java/lang/String")), Jvm.Cond.code ({ cls := "java/lang/StringLatin1", name := "canEncode", desc := "(C)Z" } : Jvm.MethodName) jdk_43_method_3_code (1 : Nat) (Option.some Jvm.ClassFile.FieldType.boolean), Jvm.Cond.code ({ cls := "java/lang/StringLatin1", name := "toBytes", desc := "(C)[B" } : Jvm.MethodName) jdk_43_method_46_code (1 : Nat) (Option.some (Jvm.ClassFile.FieldType.array Jvm.ClassFile.FieldType.byte)), Jvm.Cond.code ({ cls := "java/lang/String", name := "<init>", desc := "([BB)V" } : Jvm.MethodName) jdk_42_method_151_code (3 : Nat) (Option.none : Option Jvm.ClassFile.FieldType), Jvm.Cond.code ({ cls := "java/lang/Object", name := "<init>", desc := "()V" } : Jvm.MethodName) object_method_1_code (1 : Nat) (Option.none : Option Jvm.ClassFile.FieldType), Jvm.Cond.code ({ cls := "com/example/ratatoskr/ratatoskr/request/RequestPathInfo", name := "<init>", desc := "(Ljava/lang/String;Ljava/lang/String;)V" } : Jvm.MethodName) prog_14_method_1_code (6 : Nat) (Option.none : Option Jvm.ClassFile.FieldType), Jvm.Cond.code ({ cls := "java/lang/String", name := "indexOf", desc := "(I)I" } : Jvm.MethodName) jdk_42_method_79_code (2 : Nat) (Option.some Jvm.ClassFile.FieldType.int), Jvm.Cond.code ({ cls := "java/lang/String", name := "indexOf", desc := "(II)I" } : Jvm.MethodName) jdk_42_method_80_code (3 : Nat) (Option.some Jvm.ClassFile.FieldType.int), Jvm.Cond.code ({ cls := "java/lang/String", name := "isLatin1", desc := "()Z" } : Jvm.MethodName) jdk_42_method_154_code (1 : Nat) (Option.some Jvm.ClassFile.FieldType.boolean), Jvm.Cond.code ({ cls := "java/lang/String", name := "length", desc := "()I" } : Jvm.MethodName) jdk_42_method_54_code (1 : Nat) (Option.some Jvm.ClassFile.FieldType.int), Jvm.Cond.code ({ cls := "java/lang/String", name := "coder", desc := "()B" } : Jvm.MethodName) jdk_42_method_152_code (1 : Nat) (Option.some Jvm.ClassFile.FieldType.byte), Jvm.Cond.code ({ cls := "java/lang/StringLatin1", name := "indexOf", desc := "([BIII)I" } : Jvm.MethodName) jdk_43_method_22_code (4 : Nat) (Option.some Jvm.ClassFile.FieldType.int), Jvm.Cond.code ({ cls := "java/lang/StringLatin1", name := "canEncode", desc := "(I)Z" } : Jvm.MethodName) jdk_43_method_4_code (1 : Nat) (Option.some Jvm.ClassFile.FieldType.boolean), Jvm.Cond.code ({ cls := "java/lang/Math", name := "max", desc := "(II)I" } : Jvm.MethodName) jdk_29_method_65_code (2 : Nat) (Option.some Jvm.ClassFile.FieldType.int), Jvm.Cond.code ({ cls := "java/lang/Math", name := "min", desc := "(II)I" } : Jvm.MethodName) jdk_29_method_69_code (2 : Nat) (Option.some Jvm.ClassFile.FieldType.int), Jvm.Cond.code ({ cls := "java/lang/String", name := "isEmpty", desc := "()Z" } : Jvm.MethodName) jdk_42_method_55_code (1 : Nat) (Option.some Jvm.ClassFile.FieldType.boolean), Jvm.Cond.code ({ cls := "java/lang/String", name := "substring", desc := "(II)Ljava/lang/String;" } : Jvm.MethodName) jdk_42_method_92_code (5 : Nat) (Option.some (Jvm.ClassFile.FieldType.object "java/lang/String")), Jvm.Cond.code ({ cls := "java/lang/String", name := "checkBoundsBeginEnd", desc := "(III)V" } : Jvm.MethodName) jdk_42_method_158_code (3 : Nat) (Option.none : Option Jvm.ClassFile.FieldType), Jvm.Cond.code ({ cls := "jdk/internal/util/Preconditions", name := "checkFromToIndex", desc := "(IIILjava/util/function/BiFunction;)I" } : Jvm.MethodName) jdk_41_method_12_code (4 : Nat) (Option.some Jvm.ClassFile.FieldType.int), Jvm.Cond.code ({ cls := "java/lang/String", name := "lastIndexOf", desc := "(I)I" } : Jvm.MethodName) jdk_42_method_82_code (2 : Nat) (Option.some Jvm.ClassFile.FieldType.int), Jvm.Cond.code ({ cls := "java/lang/String", name := "lastIndexOf", desc := "(II)I" } : Jvm.MethodName) jdk_42_method_83_code (3 : Nat) (Option.some Jvm.ClassFile.FieldType.int), Jvm.Cond.code ({ cls := "java/lang/StringLatin1", name := "lastIndexOf", desc := "([BII)I" } : Jvm.MethodName) jdk_43_method_27_code (4 : Nat) (Option.some Jvm.ClassFile.FieldType.int), Jvm.Cond.code ({ cls := "java/lang/String", name := "substring", desc := "(I)Ljava/lang/String;" } : Jvm.MethodName) jdk_42_method_91_code (2 : Nat) (Option.some (Jvm.ClassFile.FieldType.object "java/lang/String")), Jvm.Cond.code ({ cls := "com/example/ratatoskr/ratatoskr/request/RequestPathInfo", name := "presentOrNull", desc := "(Ljava/lang/String;)Ljava/lang/String;" } : Jvm.MethodName) prog_14_method_17_code (1 : Nat) (Option.some (Jvm.ClassFile.FieldType.object "java/lang/String")), Jvm.Cond.code ({ cls := "java/util/Map", name := "of", desc := "()Ljava/util/Map;" } : Jvm.MethodName) jdk_72_method_26_code (0 : Nat) (Option.some (Jvm.ClassFile.FieldType.object "java/util/Map")), Jvm.Cond.code ({ cls := "com/example/ratatoskr/ratatoskr/request/RequestPathInfo", name := "withParameters", desc := "(Ljava/util/Map;)Lcom/example/ratatoskr/ratatoskr/request/RequestPathInfo;" } : Jvm.MethodName) prog_14_method_4_code (2 : Nat) (Option.some (Jvm.ClassFile.FieldType.object "com/example/ratatoskr/ratatoskr/request/RequestPathInfo")), Jvm.Cond.code ({ cls := "com/example/ratatoskr/ratatoskr/request/RequestPathInfo", name := "<init>", desc := "(Ljava/lang/String;Ljava/lang/String;Ljava/lang/String;Ljava/lang/String;Ljava/util/Map;)V" } : Jvm.MethodName) prog_14_method_2_code (6 : Nat) (Option.none : Option Jvm.ClassFile.FieldType), Jvm.Cond.code ({ cls := "com/example/ratatoskr/ratatoskr/request/RequestPathInfo", name := "getParameters", desc := "()Ljava/util/Map;" } : Jvm.MethodName) prog_14_method_16_code (1 : Nat) (Option.some (Jvm.ClassFile.FieldType.object "java/util/Map")), Jvm.Cond.code ({ cls := "com/example/ratatoskr/ratatoskr/request/RequestPathInfoWithParametersPinLaw", name := "same", desc := "(Lcom/example/ratatoskr/ratatoskr/request/RequestPathInfo;Lcom/example/ratatoskr/ratatoskr/request/RequestPathInfo;)Z" } : Jvm.MethodName) method_4_code (2 : Nat) (Option.some Jvm.ClassFile.FieldType.boolean), Jvm.Cond.code ({ cls := "com/example/ratatoskr/ratatoskr/request/RequestPathInfo", name := "getResourcePath", desc := "()Ljava/lang/String;" } : Jvm.MethodName) prog_14_method_5_code (1 : Nat) (Option.some (Jvm.ClassFile.FieldType.object "java/lang/String")), Jvm.Cond.code ({ cls := "com/example/ratatoskr/ratatoskr/request/RequestPathInfoWithParametersPinLaw", name := "eq", desc := "(Ljava/lang/String;Ljava/lang/String;)Z" } : Jvm.MethodName) method_3_code (2 : Nat) (Option.some Jvm.ClassFile.FieldType.boolean), Jvm.Cond.code ({ cls := "java/lang/String", name := "equals", desc := "(Ljava/lang/Object;)Z" } : Jvm.MethodName) jdk_42_method_66_code (3 : Nat) (Option.some Jvm.ClassFile.FieldType.boolean), Jvm.Cond.code ({ cls := "com/example/ratatoskr/ratatoskr/request/RequestPathInfo", name := "getSelectorString", desc := "()Ljava/lang/String;" } : Jvm.MethodName) prog_14_method_6_code (1 : Nat) (Option.some (Jvm.ClassFile.FieldType.object "java/lang/String")), Jvm.Cond.code ({ cls := "com/example/ratatoskr/ratatoskr/request/RequestPathInfo", name := "getExtension", desc := "()Ljava/lang/String;" } : Jvm.MethodName) prog_14_method_14_code (1 : Nat) (Option.some (Jvm.ClassFile.FieldType.object "java/lang/String")), Jvm.Cond.code ({ cls := "com/example/ratatoskr/ratatoskr/request/RequestPathInfo", name := "getSuffix", desc := "()Ljava/lang/String;" } : Jvm.MethodName) prog_14_method_15_code (1 : Nat) (Option.some (Jvm.ClassFile.FieldType.object "java/lang/String")), Jvm.Cond.code ({ cls := "java/lang/String", name := "<init>", desc := "([C)V" } : Jvm.MethodName) jdk_42_method_3_code (2 : Nat) (Option.none : Option Jvm.ClassFile.FieldType), Jvm.Cond.code ({ cls := "java/lang/String", name := "<init>", desc := "([CIILjava/lang/Void;)V" } : Jvm.MethodName) jdk_42_method_149_code (6 : Nat) (Option.none : Option Jvm.ClassFile.FieldType), Jvm.Cond.code ({ cls := "java/lang/StringUTF16", name := "compress", desc := "([CII)[B" } : Jvm.MethodName) jdk_52_method_16_code (6 : Nat) (Option.some (Jvm.ClassFile.FieldType.array Jvm.ClassFile.FieldType.byte)), Jvm.Cond.code ({ cls := "java/lang/StringUTF16", name := "compress", desc := "([CI[BII)I" } : Jvm.MethodName) jdk_52_method_21_code (7 : Nat) (Option.some Jvm.ClassFile.FieldType.int), Jvm.Cond.code ({ cls := "java/lang/StringUTF16", name := "coderFromArrayLen", desc := "([BI)B" } : Jvm.MethodName) jdk_52_method_15_code (2 : Nat) (Option.some Jvm.ClassFile.FieldType.byte), Jvm.Cond.code ({ cls := "java/lang/StringLatin1", name := "indexOfChar", desc := "([BIII)I" } : Jvm.MethodName) jdk_43_method_23_code (6 : Nat) (Option.some Jvm.ClassFile.FieldType.int), Jvm.Cond.code ({ cls := "java/lang/StringLatin1", name := "newString", desc := "([BII)Ljava/lang/String;" } : Jvm.MethodName) jdk_43_method_47_code (3 : Nat) (Option.some (Jvm.ClassFile.FieldType.object "java/lang/String")), Jvm.Cond.code ({ cls := "java/util/Arrays", name := "copyOfRange", desc := "([BII)[B" } : Jvm.MethodName) jdk_65_method_132_code (3 : Nat) (Option.some (Jvm.ClassFile.FieldType.array Jvm.ClassFile.FieldType.byte)), Jvm.Cond.code ({ cls := "java/util/Arrays", name := "copyOfRangeByte", desc := "([BII)[B" } : Jvm.MethodName) jdk_65_method_133_code (5 : Nat) (Option.some (Jvm.ClassFile.FieldType.array Jvm.ClassFile.FieldType.byte)), Jvm.Cond.code ({ cls := "java/util/Arrays", name := "checkLength", desc := "(II)V" } : Jvm.MethodName) jdk_65_method_131_code (2 : Nat) (Option.none : Option Jvm.ClassFile.FieldType)]
set_option maxRecDepth 65536 in
theorem codes_eq : words1.filter isCode = codes1 := rfl
theorem w_codes : ∀ c ∈ words1.filter isCode, c.before args0 about1 = true := by
  rw [codes_eq]
  intro c hc
  simp only [codes1, List.mem_cons, List.not_mem_nil, or_false] at hc
  rcases hc with rfl | rfl | rfl | rfl | rfl | rfl | rfl | rfl | rfl | rfl | rfl | rfl | rfl | rfl | rfl | rfl | rfl | rfl | rfl | rfl | rfl | rfl | rfl | rfl | rfl | rfl | rfl | rfl | rfl | rfl | rfl | rfl | rfl | rfl | rfl | rfl | rfl | rfl | rfl | rfl | rfl | rfl | rfl | rfl | rfl | rfl | rfl
  · exact w_c0
  · exact w_c1
  · exact w_c2
  · exact w_c3
  · exact w_c4
  · exact w_c5
  · exact w_c6
  · exact w_c7
  · exact w_c8
  · exact w_c9
  · exact w_c10
  · exact w_c11
  · exact w_c12
  · exact w_c13
  · exact w_c14
  · exact w_c15
  · exact w_c16
  · exact w_c17
  · exact w_c18
  · exact w_c19
  · exact w_c20
  · exact w_c21
  · exact w_c22
  · exact w_c23
  · exact w_c24
  · exact w_c25
  · exact w_c26
  · exact w_c27
  · exact w_c28
  · exact w_c29
  · exact w_c30
  · exact w_c31
  · exact w_c32
  · exact w_c33
  · exact w_c34
  · exact w_c35
  · exact w_c36
  · exact w_c37
  · exact w_c38
  · exact w_c39
  · exact w_c40
  · exact w_c41
  · exact w_c42
  · exact w_c43
  · exact w_c44
  · exact w_c45
  · exact w_c46
set_option maxRecDepth 65536 in
theorem w_t1 : (words1.take 24).all (fun c => isCode c || c.before args0 about1) = true := by decide +kernel
set_option maxRecDepth 65536 in
theorem w_t2 : ((words1.drop 24).take 24).all (fun c => isCode c || c.before args0 about1) = true := by decide +kernel
set_option maxRecDepth 65536 in
theorem w_t3 : (((words1.drop 24).drop 24).take 24).all (fun c => isCode c || c.before args0 about1) = true := by decide +kernel
set_option maxRecDepth 65536 in
theorem w_t4 : ((((words1.drop 24).drop 24).drop 24).take 24).all (fun c => isCode c || c.before args0 about1) = true := by decide +kernel
set_option maxRecDepth 65536 in
theorem w_t5 : (((((words1.drop 24).drop 24).drop 24).drop 24).take 24).all (fun c => isCode c || c.before args0 about1) = true := by decide +kernel
set_option maxRecDepth 65536 in
theorem w_t6 : ((((((words1.drop 24).drop 24).drop 24).drop 24).drop 24).take 24).all (fun c => isCode c || c.before args0 about1) = true := by decide +kernel
set_option maxRecDepth 65536 in
theorem w_t7 : (((((((words1.drop 24).drop 24).drop 24).drop 24).drop 24).drop 24).take 24).all (fun c => isCode c || c.before args0 about1) = true := by decide +kernel
set_option maxRecDepth 65536 in
theorem w_t8 : ((((((((words1.drop 24).drop 24).drop 24).drop 24).drop 24).drop 24).drop 24).take 24).all (fun c => isCode c || c.before args0 about1) = true := by decide +kernel
set_option maxRecDepth 65536 in
theorem w_t9 : (((((((((words1.drop 24).drop 24).drop 24).drop 24).drop 24).drop 24).drop 24).drop 24).take 24).all (fun c => isCode c || c.before args0 about1) = true := by decide +kernel
set_option maxRecDepth 65536 in
theorem w_t10 : (((((((((words1.drop 24).drop 24).drop 24).drop 24).drop 24).drop 24).drop 24).drop 24).drop 24).all (fun c => isCode c || c.before args0 about1) = true := by decide +kernel
theorem w_tables : (allAtoms (Jvm.Cond.code x code maxLocals ret :: tables_1)).before args0 about1 = true := by
  rw [allAtoms_all]
  show words1.all (fun c => c.before args0 about1) = true
  refine all_split ?_ w_codes
  rw [← List.take_append_drop 24 words1, List.all_append, w_t1, ← List.take_append_drop 24 (words1.drop 24), List.all_append, w_t2, ← List.take_append_drop 24 ((words1.drop 24).drop 24), List.all_append, w_t3, ← List.take_append_drop 24 (((words1.drop 24).drop 24).drop 24), List.all_append, w_t4, ← List.take_append_drop 24 ((((words1.drop 24).drop 24).drop 24).drop 24), List.all_append, w_t5, ← List.take_append_drop 24 (((((words1.drop 24).drop 24).drop 24).drop 24).drop 24), List.all_append, w_t6, ← List.take_append_drop 24 ((((((words1.drop 24).drop 24).drop 24).drop 24).drop 24).drop 24), List.all_append, w_t7, ← List.take_append_drop 24 (((((((words1.drop 24).drop 24).drop 24).drop 24).drop 24).drop 24).drop 24), List.all_append, w_t8, ← List.take_append_drop 24 ((((((((words1.drop 24).drop 24).drop 24).drop 24).drop 24).drop 24).drop 24).drop 24), List.all_append, w_t9, w_t10]
  rfl
set_option maxRecDepth 65536 in
theorem w_rest : rest_1_c.before args0 about1 = true := by decide +kernel
set_option maxRecDepth 65536 in
theorem w_case : (Jvm.Cond.and given_1 narrow_1).before args0 about1 = true := by decide +kernel
set_option maxRecDepth 65536 in
theorem w_consts : constsHeld consts_1 about1 := Jvm.Lit.constsHeldB_iff.mp (by decide +kernel)
theorem w_applies : (headSpec (Jvm.Cond.code x code maxLocals ret :: tables_1) room_1).applies x e0.platform about1 = true :=
  (Spec.applies_iff w_frames).mpr ⟨w_running, w_runnable, w_alone, w_named, w_hears, w_ripe, w_room, w_tables⟩
theorem atStart : AtStart classFile x code maxLocals ret World_1 tables_1 room_1 Calls_1 rest_1 Pre_1 launch0 p0 e0 about1 theMethod args0 below0 :=
  ⟨lists_1, trivial, launch0.admits_env _ _ _, launch0.least_env, fairChoices_fair.cas, fairChoices_fair.clock, w_frames, w_args, w_heap, w_applies, ⟨w_consts, trivial⟩, w_rest, w_case⟩
end start1
theorem witness_1 : WitnessClaimed_1 := ⟨start1.p0, start1.e0, start1.about1, start1.theMethod, start1.args0, start1.below0, start1.atStart⟩
end Jvm.Pilot.@@N@@
