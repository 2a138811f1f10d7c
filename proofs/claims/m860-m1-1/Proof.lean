import JvmDerived
import JvmDerived.Pilot.@@N@@Statement
import JvmDerived.Pilot.@@N@@Code
set_option linter.unusedVariables false
set_option linter.unusedSimpArgs false

namespace Jvm.Pilot.@@N@@
open Jvm Jvm.ClassFile Sem Op Lib Jvm.Free Jvm.Stand Jvm.LawKit Jvm.RoadKit Bundle Jvm.Pilot.@@N@@.Jvm.D
/-- the run from A comes to a state of which P holds -/
def own_Go (tb : Tables) (e : Env) (below : List Frame) (P : State → Prop) (A : State) : Prop := ∃ U, Steps tb e below A U ∧ P U
theorem own_go {tb : Tables} {e : Env} {below : List Frame} {P : State → Prop} {A B : State} (h : ∀ t, Steps tb e below B t → Steps tb e below A t) (k : own_Go tb e below P B) : own_Go tb e below P A := by
  obtain ⟨U, h1, h2⟩ := k; exact ⟨U, h U h1, h2⟩
theorem own_goT {tb : Tables} {e : Env} {below : List Frame} {P : State → Prop} {A B : State} (h : Steps tb e below A B) (k : own_Go tb e below P B) : own_Go tb e below P A := by
  obtain ⟨U, h1, h2⟩ := k; exact ⟨U, h.trans h1, h2⟩
/-- the body's end: it returned, and Q says of what -/
def own_End (s : State) (below : List Frame) (Q : Option Value → Heap → List Loc → Prop) (cells slots : Nat) (t : State) : Prop := ∃ o, t.status = .running ∧ Ended t below o ∧ ∃ v L, o = .returned v ∧ Q v t.heap L ∧ FrameEnd s o t L cells slots
theorem own_body {tb : Tables} {e : Env} {below : List Frame} {s A : State} {Q : Option Value → Heap → List Loc → Prop} {cells slots : Nat} (k : own_Go tb e below (own_End s below Q cells slots) A) :
    ∃ s₂ o, Steps tb e below A s₂ ∧ s₂.status = .running ∧ Ended s₂ below o ∧ ∃ v L, o = .returned v ∧ Q v s₂.heap L ∧ FrameEnd s o s₂ L cells slots := by
  obtain ⟨U, h1, o, h2, h3, h4⟩ := k; exact ⟨U, o, h1, h2, h3, h4⟩
theorem own_ret {p : Program} {l : Launch} {e : Env} {R : Room} {s : State} {m : MethodId} {args : Array Value} {below : List Frame} {meth : Method} {c : Code} {T A : State} {locs : List Loc} {cells slots : Nat} {Q : Option Value → Heap → List Loc → Prop} {cs ss : Nat}
    (X : Stand p l e R s m args below meth c T locs cells slots) (hlk : meth.locks = false) {v : Option Value} (hv : meth.sig.returnType = none → v = none)
    (hst : ∀ fs : List Frame, (∀ (f : JFrame) (acts : List Action), f.method = m → f.locked = none → f.entered = [] → (doReturn e (T.setTop f) acts v).1 = T.setFrames fs) → Steps p.tables e below A (T.setFrames fs))
    (hQ : Q v T.heap locs) (hc : cells ≤ cs) (hs : slots ≤ ss) : own_Go p.tables e below (own_End s below Q cs ss) A := by
  obtain ⟨fs, hr, hrun, hended, hW, hsame⟩ := X.leave (v := v) hv hlk
  exact ⟨_, hst fs hr, _, hrun, hended, _, _, rfl, hQ, ⟨_, rfl⟩, hW, hsame.mono hc hs⟩
theorem own_ef (m : MethodId) (as : Array Value) (n : Nat) (Ls : Array Slot) (h : argsToLocals as n = Ls) : entryFrame m as n = mkF m 0 Ls [] := by rw [← h]; rfl
/-- a body's contract in this family -/
abbrev own_Met (l : Launch) (Z : State) (ws : List Jvm.Cond) (y : MethodName) (bytes : ByteArray) (maxL : Nat) (ret : Option FieldType) (rm : Room) (as : Array Value) (h0 : Heap) (Q : Option Value → Heap → List Loc → Prop) : Prop :=
  MetFree l y (head1 (Jvm.Cond.code y bytes maxL ret :: ws) rm) (fun a U => a = as ∧ Z.Warmed39 U.vm ∧ U.heap = h0) (fun _ _ _ _ _ => True) (fun _ U o U' => ∃ v L, o = .returned v ∧ Q v U'.heap L ∧ FrameEnd U o U' L rm.cells rm.slots)
theorem own_sta_keep {Z : State} {h h' : Heap} {C n d : String} {v : Value} {ws : List Addr} (F : Sta Z h C n d v) (K : Keep h h' ws) (q : ∀ a ∈ ws, ∃ C', Exa Z h a C') : Sta Z h' C n d v := by
  obtain ⟨cf, i, k, f, st, cell, h1, h2, h3, h4, h5, h6, h7⟩ := F
  refine ⟨cf, i, k, f, st, cell, h1, h2, h3, h4, K.2.1 st cell h5 fun hm => ?_, h6, h7⟩
  obtain ⟨C', cell', k', e1, -, -, e4, -⟩ := q st hm
  cases h5.symm.trans e1
  rw [e4] at h6; cases h6
theorem own_back {p : Program} {l : Launch} {e : Env} {R : Room} {s : State} {args : Array Value} {below : List Frame} {Z : State} {a0 : Array Value} {h : Heap} {y : MethodName} {bytes : ByteArray} {maxL : Nat} {ret : Option FieldType} {rm : Room} {len W : Nat} {as' : Array Value} {Q : Option Value → Heap → List Loc → Prop}
    (hM : own_Met l Z [] y bytes maxL ret rm as' h Q) (hZ : Z.Warmed39 s.vm) (wc : (Cond.code y bytes maxL ret).before a0 Z = true) (wz : (Cond.initialized y.cls).before a0 Z = true) (hf : rm.frames + 1 ≤ R.frames) (hl : W + (maxL + 11) + rm.locals ≤ R.locals) :
    Back l R p e below s args y len W (fun A a => a = as' ∧ A.U.heap = h ∧ A.cells + rm.cells ≤ R.cells ∧ A.slots + rm.slots ≤ R.slots)
      (fun A _ v B => ∃ L, Q v B.U.heap L ∧ B.locs = A.locs ++ L ∧ B.cells = A.cells + rm.cells ∧ B.slots = A.slots + rm.slots) :=
  backOf (Q := Q) hM hZ wc wz hf hl
theorem own_hp {T : State} {h : Heap} {a : Addr} {cl : Cell} (eT : T.heap = h) (h1 : h[a]? = some cl) : T.heap[a]? = some cl := by rw [eT]; exact h1
def own_asl : List Value → List Slot
  | [] => []
  | v :: r => if v.category = 2 then .val v :: .second :: own_asl r else .val v :: own_asl r
def own_apu (acc : Array Slot) (v : Value) : Array Slot := if v.category = 2 then (acc.push (.val v)).push .second else acc.push (.val v)
theorem own_al1 (l : List Value) (a : Array Slot) : (l.foldl own_apu a).toList = a.toList ++ own_asl l := by
  induction l generalizing a with
  | nil => simp [own_asl]
  | cons v r ih =>
    rw [List.foldl_cons, ih]
    by_cases h : v.category = 2 <;> simp [own_asl, own_apu, h]
theorem own_al (l : List Value) (n : Nat) (L : List Slot) (h : own_asl l ++ List.replicate (n - (own_asl l).length) .unset = L) : argsToLocals l.toArray n = L.toArray := by
  have q : argsToLocals l.toArray n = l.foldl own_apu #[] ++ Array.replicate (n - (l.foldl own_apu #[]).size) .unset := by
    rw [← List.foldl_toArray]; rfl
  have k := own_al1 l #[]
  rw [q, ← h]
  apply Array.toList_inj.mp
  rw [Array.toList_append, k, ← Array.length_toList, k]; simp
theorem own_cst {p : Program} {l : Launch} {e : Env} {R : Room} {s : State} {m : MethodId} {args : Array Value} {below : List Frame} {meth : Method} {c : Code} {T : State} {L L' : List Loc} {k n k' n' k2 n2 : Nat}
    (X : Stand p l e R s m args below meth c T L k n) (hl : L = L') (hk : k = k') (hn : n = n') (h1 : k' = k2) (h2 : n' = n2) : Stand p l e R s m args below meth c T L' k2 n2 := by
  subst hl hk hn h1 h2; exact X
theorem own_eqi {args : Array Value} {s : State} {t : Term} {k : Int32} (h : (Jvm.Cond.eq t (.int k)).value args s none s [] = some true) : t.eval args s none [] s = some (.int k) := by
  simp only [Cond.value, Term.eval] at h
  cases ht : t.eval args s none [] s with
  | none => simp [ht] at h
  | some x => cases x <;> simp [ht] at h ⊢; exact h
theorem own_eqr {args : Array Value} {s : State} {t u : Term} {a : Addr} (h : (Jvm.Cond.eq t u).value args s none s [] = some true) (hu : u.eval args s none [] s = some (.ref a)) : t.eval args s none [] s = some (.ref a) := by
  simp only [Cond.value] at h
  cases ht : t.eval args s none [] s with
  | none => simp [ht] at h
  | some x => cases x <;> simp [ht, hu] at h ⊢; exact h
theorem own_fld {args : Array Value} {s : State} {t : Term} {a : Addr} {C n d : String} {v : Value} (ht : t.eval args s none [] s = some (.ref a)) (h : (Term.field t C n d).eval args s none [] s = some v) : Fld s s.heap a C n d v :=
  Fld.start (by rw [fld_at ht] at h; exact h)
theorem own_len {args : Array Value} {s : State} {t : Term} {a : Addr} {cl : Cell} {ty : FieldType} {k : Int32} (A : Arr s s.heap a cl ty) (ht : t.eval args s none [] s = some (.ref a)) (h : (Term.length t).eval args s none [] s = some (.int k)) : cl.slots.size < 2 ^ 31 ∧ cl.slots.size.toInt32 = k := by
  have ha : s.arrayAt? a = some cl := A.fin (Vm.Alike.refl _)
  by_cases hl : cl.slots.size < 2 ^ 31
  · rw [len_f ht ha hl] at h; exact ⟨hl, by injection h with h; injection h⟩
  · simp [Term.eval, ht, ha, hl] at h
theorem own_elem {args : Array Value} {s : State} {t : Term} {a : Addr} {cl : Cell} {ty : FieldType} {j : Int32} {v : Value} (ht : t.eval args s none [] s = some (.ref a)) (A : Arr s s.heap a cl ty) (h : (Term.elem t (.int j)).eval args s none [] s = some v) : cl.slots[j.toNatClampNeg]? = some v :=
  (elem_in h ht (Term.int_eval j) A.1).2
theorem own_getR {p : Program} {l : Launch} {e : Env} {R : Room} {s : State} {m : MethodId} {args : Array Value} {below : List Frame} {meth : Method} {c : Code} {T : State} {locs : List Loc} {cells slots : Nat} {Z : State} {a0 : Array Value} {h : Heap}
    (X : Stand p l e R s m args below meth c T locs cells slots) (hx : p.tables.exec = Jvm.exec) (hZ : Z.Warmed39 s.vm) {own C n d : String} {index : Nat} (hown : s.vm.findClass own = some m.cls) (w : (Cond.fieldRef own index C n d).before a0 Z = true)
    (eT : T.heap = h) {a : Addr} {v : Value} (F : Fld Z h a C n d v) {g : JFrame} (hg : g.method = m) {rest : List Value} (hs : g.stack = .ref a :: rest) (hd : decode c.code g.pc = .ok (.getfield index, 3)) :
    ∀ target, Steps p.tables e below (T.setTop { g with pc := g.pc + 3, stack := v :: rest }) target → Steps p.tables e below (T.setTop g) target := by
  obtain ⟨cell, cf, k, i, f, h1, h2, h3, h4, h5, h6, h7⟩ := F
  have hT : Z.Warmed39 T.vm := wtrans hZ X.warmed
  have w2 : (Cond.fieldRef own index C n d).before a0 (Z.setVm T.vm) = true := Cond.fieldRef_warmed39 hT w
  have hcur : (Z.setVm T.vm).vm.findClass own = some m.cls := by
    show T.vm.findClass own = _
    rw [X.warmed.alike.findClass]; exact hown
  obtain ⟨c1, k1, i1, f1, q1, q2⟩ := Cond.fieldRef_spec hcur w2
  obtain ⟨k', q3, -⟩ := State.fieldFound?_setVm (s := Z) hT.alike h2
  cases q1.symm.trans q3
  have q4 : T.vm.fieldReady m.cls index cf f := q2
  have hc : T.heap[a]? = some cell := by rw [eT]; exact h1
  intro target hrest
  subst hg
  jvm_step X.here [hx, hd, getfield.wp_ready (e := e) (s := T) (f := g) X.here.top q4 h3 hs hc h4 h7]
  exact hrest

def own_g (ys : List Int32) (j : Int32) : Int32 := ys.getD j.toNatClampNeg 0
theorem own_gm (ys : List Int32) (j : Int32) : (ys.map Value.int).getD j.toNatClampNeg (.int 0) = .int (own_g ys j) := by
  simp only [own_g, List.getD_eq_getElem?_getD, List.getElem?_map]
  cases ys[j.toNatClampNeg]? <;> rfl
def own_sw2 (ys : List Int32) (i t : Int32) : Int32 := if i + 0 < t ∧ own_g ys (i + 0) = 13 ∧ i + 1 < t ∧ own_g ys (i + 1) = 10 then 1 else 0
def own_sw4 (ys : List Int32) (i t : Int32) : Int32 := if i + 0 < t ∧ own_g ys (i + 0) = 13 ∧ i + 1 < t ∧ own_g ys (i + 1) = 10 ∧ i + 2 < t ∧ own_g ys (i + 2) = 13 ∧ i + 3 < t ∧ own_g ys (i + 3) = 10 then 1 else 0
def own_scan (ys : List Int32) (t : Int32) : Nat → Int32 → Int32
  | 0, _ => -1
  | k + 1, i => if t - 4 < i then -1 else if own_sw4 ys i t = 0 then own_scan ys t k (i + 1) else i + 2
theorem own_scanS (ys : List Int32) (t : Int32) (k : Nat) (i : Int32) : own_scan ys t (k + 1) i = if t - 4 < i then -1 else if own_sw4 ys i t = 0 then own_scan ys t k (i + 1) else i + 2 := rfl
def own_bk (ys : List Int32) (k f t : Int32) : Int32 := if ¬ k < f ∧ ¬ t < k + 4 ∧ own_g ys k = 13 ∧ own_g ys (k + 1) = 10 ∧ own_g ys (k + 2) = 13 ∧ own_g ys (k + 3) = 10 then 1 else 0
def own_cr (ys : List Int32) (f t : Int32) : Int32 := if ¬ t < f + 2 ∧ own_g ys f = 13 ∧ own_g ys (f + 1) = 10 then 1 else 0
def own_pick (c v x : Int32) : Int32 := if c = 0 then x else v
def own_end (ys : List Int32) (f t : Int32) : Int32 := if own_sw2 ys f t = 0 then own_scan ys t 9 f else f
theorem own_ib {i t c : Int32} (h1 : 0 ≤ i.toInt) (h2 : i.toInt ≤ 8) (c1 : 0 ≤ c.toInt) (c2 : c.toInt ≤ 4) (ht : t.toInt ≤ 8) (h : i + c < t) : ¬ i + c < 0 ∧ i + c < 8 := by
  have a := c_iadd i c; have r := rng32 (i + c)
  have e0 : (0 : Int32).toInt = 0 := rfl
  have e8 : (8 : Int32).toInt = 8 := rfl
  simp only [Int32.lt_iff_toInt_lt, e0, e8] at *; omega
theorem own_kb {k c : Int32} (h1 : 0 ≤ k.toInt) (h2 : k.toInt ≤ 4) (c1 : 0 ≤ c.toInt) (c2 : c.toInt ≤ 3) : ¬ k + c < 0 ∧ k + c < 8 := by
  have a := c_iadd k c; have r := rng32 (k + c)
  have e0 : (0 : Int32).toInt = 0 := rfl
  have e8 : (8 : Int32).toInt = 8 := rfl
  simp only [Int32.lt_iff_toInt_lt, e0, e8] at *; omega
theorem own_kb0 {k : Int32} (h1 : 0 ≤ k.toInt) (h2 : k.toInt ≤ 7) : ¬ k < 0 ∧ k < 8 := by
  have e0 : (0 : Int32).toInt = 0 := rfl
  have e8 : (8 : Int32).toInt = 8 := rfl
  simp only [Int32.lt_iff_toInt_lt, e0, e8] at *; omega
theorem own_f (x : Int32) : 0 ≤ ((x &&& 2147483647) % 9).toInt ∧ ((x &&& 2147483647) % 9).toInt ≤ 8 := by
  have h := c_mask x 2147483647 31 (by decide) (by decide)
  have h2 := (c_irem (x &&& 2147483647) 9 9 rfl).1 (by omega); omega
theorem own_9 {f : Int32} (h1 : 0 ≤ f.toInt) (h2 : f.toInt ≤ 8) : (9 : Int32) - f ≠ 0 := fun q => by
  have a := c_isub 9 f; have e9 : (9 : Int32).toInt = 9 := rfl
  have e0 : (0 : Int32).toInt = 0 := rfl
  rw [q, e9, e0] at a; omega
theorem own_t {f : Int32} (x : Int32) (h1 : 0 ≤ f.toInt) (h2 : f.toInt ≤ 8) : f.toInt ≤ (f + (x &&& 2147483647) % (9 - f)).toInt ∧ (f + (x &&& 2147483647) % (9 - f)).toInt ≤ 8 := by
  have h := c_mask x 2147483647 31 (by decide) (by decide)
  have a := c_isub 9 f; have ra := rng32 (9 - f); have e9 : (9 : Int32).toInt = 9 := rfl
  rw [e9] at a
  have b := (c_iremV (x &&& 2147483647) (9 - f)).1 (by omega) (by omega)
  generalize (x &&& 2147483647) % (9 - f) = y at b ⊢
  have d := c_iadd f y; have rd := rng32 (f + y); omega
theorem own_i0 (i : Int32) : i + 0 = i := by
  apply Int32.toInt_inj.mp
  have := c_iadd i 0; have := rng32 i; have := rng32 (i + 0); have e : (0 : Int32).toInt = 0 := rfl
  omega
theorem own_swcr {ys : List Int32} {f t : Int32} (h1 : 0 ≤ f.toInt) (h2 : f.toInt ≤ 8) : own_sw2 ys f t = own_cr ys f t := by
  have a1 := c_iadd f 1; have r1 := rng32 (f + 1); have a2 := c_iadd f 2; have r2 := rng32 (f + 2)
  have e1 : (1 : Int32).toInt = 1 := rfl
  have e2 : (2 : Int32).toInt = 2 := rfl
  rw [e1] at a1; rw [e2] at a2
  have rt := rng32 t
  unfold own_sw2 own_cr
  rw [own_i0]
  have q : (f < t ∧ own_g ys f = 13 ∧ f + 1 < t ∧ own_g ys (f + 1) = 10) ↔ (¬ t < f + 2 ∧ own_g ys f = 13 ∧ own_g ys (f + 1) = 10) := by
    simp only [Int32.lt_iff_toInt_lt]
    constructor
    · rintro ⟨p1, p2, p3, p4⟩; exact ⟨by omega, p2, p4⟩
    · rintro ⟨p1, p2, p3⟩; exact ⟨by omega, p2, by omega, p3⟩
  simp only [q]
def own_B (ys : List Int32) (i : Int32) : Bool := decide (own_g ys i = 13 ∧ own_g ys (i + 1) = 10 ∧ own_g ys (i + 2) = 13 ∧ own_g ys (i + 3) = 10)
theorem own_sw4B {ys : List Int32} {i t : Int32} (h1 : 0 ≤ i.toInt) (h2 : i.toInt + 4 ≤ t.toInt) (h3 : t.toInt ≤ 8) : own_sw4 ys i t = 0 ↔ own_B ys i = false := by
  have a1 := c_iadd i 1; have r1 := rng32 (i + 1); have a2 := c_iadd i 2; have r2 := rng32 (i + 2); have a3 := c_iadd i 3; have r3 := rng32 (i + 3)
  have e1 : (1 : Int32).toInt = 1 := rfl
  have e2 : (2 : Int32).toInt = 2 := rfl
  have e3 : (3 : Int32).toInt = 3 := rfl
  rw [e1] at a1; rw [e2] at a2; rw [e3] at a3
  unfold own_sw4 own_B
  rw [own_i0]
  have q : (i < t ∧ own_g ys i = 13 ∧ i + 1 < t ∧ own_g ys (i + 1) = 10 ∧ i + 2 < t ∧ own_g ys (i + 2) = 13 ∧ i + 3 < t ∧ own_g ys (i + 3) = 10) ↔ (own_g ys i = 13 ∧ own_g ys (i + 1) = 10 ∧ own_g ys (i + 2) = 13 ∧ own_g ys (i + 3) = 10) := by
    simp only [Int32.lt_iff_toInt_lt]
    constructor
    · rintro ⟨-, p2, -, p4, -, p6, -, p8⟩; exact ⟨p2, p4, p6, p8⟩
    · rintro ⟨p2, p4, p6, p8⟩; exact ⟨by omega, p2, by omega, p4, by omega, p6, by omega, p8⟩
  simp only [q, decide_eq_false_iff_not]
  by_cases hq : own_g ys i = 13 ∧ own_g ys (i + 1) = 10 ∧ own_g ys (i + 2) = 13 ∧ own_g ys (i + 3) = 10
  · simp [hq]
  · simp [hq]
def own_lk (b0 b1 b2 b3 b4 : Bool) (i : Int32) : Bool := if i = 0 then b0 else if i = 1 then b1 else if i = 2 then b2 else if i = 3 then b3 else b4
def own_scanB (b0 b1 b2 b3 b4 : Bool) (t : Int32) : Nat → Int32 → Int32
  | 0, _ => -1
  | k + 1, i => if t - 4 < i then -1 else if own_lk b0 b1 b2 b3 b4 i = false then own_scanB b0 b1 b2 b3 b4 t k (i + 1) else i + 2
theorem own_scan_eq {ys : List Int32} {t : Int32} (t1 : 0 ≤ t.toInt) (t2 : t.toInt ≤ 8) : ∀ (k : Nat) (i : Int32), 0 ≤ i.toInt → i.toInt ≤ 9 → own_scan ys t k i = own_scanB (own_B ys 0) (own_B ys 1) (own_B ys 2) (own_B ys 3) (own_B ys 4) t k i
  | 0, _, _, _ => rfl
  | k + 1, i, h1, h2 => by
    have a := c_isub t 4; have r := rng32 (t - 4); have e4 : (4 : Int32).toInt = 4 := rfl
    rw [e4] at a
    unfold own_scan own_scanB
    by_cases hq : t - 4 < i
    · simp only [hq, if_true]
    · simp only [hq, if_false]
      rw [Int32.lt_iff_toInt_lt] at hq
      have e0 : (0 : Int32).toInt = 0 := rfl
      have e1 : (1 : Int32).toInt = 1 := rfl
      have e2 : (2 : Int32).toInt = 2 := rfl
      have e3 : (3 : Int32).toInt = 3 := rfl
      have hi : i = 0 ∨ i = 1 ∨ i = 2 ∨ i = 3 ∨ i = 4 := by simp only [← Int32.toInt_inj, e0, e1, e2, e3, e4]; omega
      have hl : own_lk (own_B ys 0) (own_B ys 1) (own_B ys 2) (own_B ys 3) (own_B ys 4) i = own_B ys i := by rcases hi with rfl | rfl | rfl | rfl | rfl <;> rfl
      have a1 := c_iadd i 1; have r1 := rng32 (i + 1)
      rw [e1] at a1
      rw [hl, own_scan_eq t1 t2 k (i + 1) (by omega) (by omega)]
      simp only [own_sw4B h1 (by omega : i.toInt + 4 ≤ t.toInt) t2]
theorem own_bkB {ys : List Int32} {k f t : Int32} : own_bk ys k f t = if ¬ k < f ∧ ¬ t < k + 4 ∧ own_B ys k = true then 1 else 0 := by
  unfold own_bk own_B; simp only [decide_eq_true_eq]
theorem own_all : ∀ (f t : Fin 9), f ≤ t → ∀ b0 b1 b2 b3 b4 : Bool, own_scanB b0 b1 b2 b3 b4 (Int32.ofNat t.1) 9 (Int32.ofNat f.1) =
    own_pick (if ¬ (0 : Int32) < Int32.ofNat f.1 ∧ ¬ Int32.ofNat t.1 < (0 : Int32) + 4 ∧ b0 = true then 1 else 0) 2 (own_pick (if ¬ (1 : Int32) < Int32.ofNat f.1 ∧ ¬ Int32.ofNat t.1 < (1 : Int32) + 4 ∧ b1 = true then 1 else 0) 3
      (own_pick (if ¬ (2 : Int32) < Int32.ofNat f.1 ∧ ¬ Int32.ofNat t.1 < (2 : Int32) + 4 ∧ b2 = true then 1 else 0) 4 (own_pick (if ¬ (3 : Int32) < Int32.ofNat f.1 ∧ ¬ Int32.ofNat t.1 < (3 : Int32) + 4 ∧ b3 = true then 1 else 0) 5
        (own_pick (if ¬ (4 : Int32) < Int32.ofNat f.1 ∧ ¬ Int32.ofNat t.1 < (4 : Int32) + 4 ∧ b4 = true then 1 else 0) 6 (-1))))) := by decide +kernel
theorem own_small {f : Int32} (h1 : 0 ≤ f.toInt) (h2 : f.toInt ≤ 8) : ∃ n : Fin 9, f = Int32.ofNat n.1 ∧ (n.1 : Int) = f.toInt := by
  refine ⟨⟨f.toInt.toNat, by omega⟩, ?_, by show ((f.toInt.toNat : Nat) : Int) = f.toInt; omega⟩
  apply Int32.toInt_inj.mp
  show _ = (Int32.ofNat f.toInt.toNat).toInt
  rw [Int32.toInt_ofNat_small (by omega)]; omega
theorem own_fin {ys : List Int32} {f t : Int32} (h1 : 0 ≤ f.toInt) (h2 : f.toInt ≤ 8) (h3 : f.toInt ≤ t.toInt) (h4 : t.toInt ≤ 8) :
    own_end ys f t = own_pick (own_cr ys f t) f (own_pick (own_bk ys 0 f t) 2 (own_pick (own_bk ys 1 f t) 3 (own_pick (own_bk ys 2 f t) 4 (own_pick (own_bk ys 3 f t) 5 (own_pick (own_bk ys 4 f t) 6 (-1)))))) := by
  unfold own_end
  rw [own_swcr h1 h2, own_scan_eq (by omega) h4 9 f h1 (by omega)]
  simp only [own_bkB]
  obtain ⟨n, rfl, hn⟩ := own_small h1 h2
  obtain ⟨k, rfl, hk⟩ := own_small (f := t) (by omega) h4
  rw [own_all n k (by show n.1 ≤ k.1; omega)]
  rfl
theorem own_d3_0 : decode prog_20_method_4_code 0 = .ok (.iconst 0, 1) := by decide +kernel
theorem own_d3_1 : decode prog_20_method_4_code 1 = .ok (.istore 4, 2) := by decide +kernel
theorem own_d3_3 : decode prog_20_method_4_code 3 = .ok (.iload 4, 2) := by decide +kernel
theorem own_d3_5 : decode prog_20_method_4_code 5 = .ok (.aload_n 3, 1) := by decide +kernel
theorem own_d3_6 : decode prog_20_method_4_code 6 = .ok (.arraylength, 1) := by decide +kernel
theorem own_d3_7 : decode prog_20_method_4_code 7 = .ok (.if_icmp .ge 32, 3) := by decide +kernel
theorem own_d3_10 : decode prog_20_method_4_code 10 = .ok (.iload_n 1, 1) := by decide +kernel
theorem own_d3_11 : decode prog_20_method_4_code 11 = .ok (.iload 4, 2) := by decide +kernel
theorem own_d3_13 : decode prog_20_method_4_code 13 = .ok (.iadd, 1) := by decide +kernel
theorem own_d3_14 : decode prog_20_method_4_code 14 = .ok (.iload_n 2, 1) := by decide +kernel
theorem own_d3_15 : decode prog_20_method_4_code 15 = .ok (.if_icmp .ge 16, 3) := by decide +kernel
theorem own_d3_18 : decode prog_20_method_4_code 18 = .ok (.aload_n 0, 1) := by decide +kernel
theorem own_d3_19 : decode prog_20_method_4_code 19 = .ok (.iload_n 1, 1) := by decide +kernel
theorem own_d3_20 : decode prog_20_method_4_code 20 = .ok (.iload 4, 2) := by decide +kernel
theorem own_d3_22 : decode prog_20_method_4_code 22 = .ok (.iadd, 1) := by decide +kernel
theorem own_d3_23 : decode prog_20_method_4_code 23 = .ok (.baload, 1) := by decide +kernel
theorem own_d3_24 : decode prog_20_method_4_code 24 = .ok (.aload_n 3, 1) := by decide +kernel
theorem own_d3_25 : decode prog_20_method_4_code 25 = .ok (.iload 4, 2) := by decide +kernel
theorem own_d3_27 : decode prog_20_method_4_code 27 = .ok (.baload, 1) := by decide +kernel
theorem own_d3_28 : decode prog_20_method_4_code 28 = .ok (.if_icmp .eq 5, 3) := by decide +kernel
theorem own_d3_31 : decode prog_20_method_4_code 31 = .ok (.iconst 0, 1) := by decide +kernel
theorem own_d3_32 : decode prog_20_method_4_code 32 = .ok (.ireturn, 1) := by decide +kernel
theorem own_d3_33 : decode prog_20_method_4_code 33 = .ok (.iinc 4 1, 3) := by decide +kernel
theorem own_d3_36 : decode prog_20_method_4_code 36 = .ok (.goto (-33), 3) := by decide +kernel
theorem own_d3_39 : decode prog_20_method_4_code 39 = .ok (.iconst 1, 1) := by decide +kernel
theorem own_d3_40 : decode prog_20_method_4_code 40 = .ok (.ireturn, 1) := by decide +kernel
theorem own_pn0 : plainName "com/example/chartpost/chartpost/http/HeaderFields" = true := by first | (simp [plainName, overriddenIn]; done) | decide +kernel
set_option maxRecDepth 65536 in
set_option maxHeartbeats 40000000 in
theorem own_rmW2 (l : Launch) (Z : State) (a0 : Array Value) (hw : ∀ d ∈ tables_1, d.before a0 Z = true) (a1 : Addr) (i : Int32) (t : Int32) (a4 : Addr) (ys : List Int32) (k1 : ClassId) (k4 : ClassId) (h0 : Heap) (n0 : Nat) (Z0 : n0 ≤ h0.size) (V1 : Arv Z h0 a1 k1 .byte 8 (ys.map Value.int) (.int 0)) (V4 : Arv Z h0 a4 k4 .byte 2 [(.int 13), (.int 10)] (.int 0)) (h1 : 0 ≤ i.toInt) (h2 : i.toInt ≤ 8) (ht : t.toInt ≤ 8) :
    own_Met l Z [] (⟨"com/example/chartpost/chartpost/http/HeaderFields", "startsWith", "([BII[B)Z"⟩ : MethodName) prog_20_method_4_code 5 (some .boolean) ({ frames := 0, cells := 0, slots := 0, locals := 0 } : Room) #[(.ref a1), (.int i), (.int t), (.ref a4)] h0 (fun v h L => v = some (.int (own_sw2 ys i t)) ∧ Fr n0 L ∧ h = h0) := by
  refine MetFree.of_bodySF (plainFor_of_name own_pn0) hisR ?_
  intro p e s m args below meth c s₁ Bd hml0 hP hK
  obtain ⟨rfl, hZ, hh⟩ := hP
  have hx := Bd.exec
  have hby := Bd.bytes
  have hml : c.maxLocals = 5 := hml0
  have hown : s.vm.findClass "com/example/chartpost/chartpost/http/HeaderFields" = some m.cls := findClass_of_methodNamed Bd.named
  have hnm := (name_of_methodNamed Bd.named Bd.method).1
  have hlk : meth.locks = false := Bd.notSynchronized
  have X0 : Stand p l e ({ frames := 0, cells := 0, slots := 0, locals := 0 } : Room) s m #[(.ref a1), (.int i), (.int t), (.ref a4)] below meth c s₁ [] 0 0 := Stand.of_body Bd
  have e0 : s₁.heap = h0 := by rw [← hh, Bd.state]; rfl
  have N0 := Fr.nil n0
  refine own_body (Q := fun v h L => v = some (.int (own_sw2 ys i t)) ∧ Fr n0 L ∧ h = h0) ?_
  refine own_go (fun _ kont => castTop (own_ef m #[(.ref a1), (.int i), (.int t), (.ref a4)] 5 #[.val (.ref a1), .val (.int i), .val (.int t), .val (.ref a4), .unset] (own_al [(.ref a1), (.int i), (.int t), (.ref a4)] 5 [.val (.ref a1), .val (.int i), .val (.int t), .val (.ref a4), .unset] rfl)) kont) ?_
  show own_Go _ _ _ _ (s₁.setTop (mkF m 0 #[.val (.ref a1), .val (.int i), .val (.int t), .val (.ref a4), .unset] []))
  refine own_go (fun _ kont => XS.iconst X0.here hx rfl (hb hby own_d3_0) kont) ?_
  show own_Go _ _ _ _ (s₁.setTop (mkF m 1 #[.val (.ref a1), .val (.int i), .val (.int t), .val (.ref a4), .unset] [(.int (0 : Int32))]))
  refine own_go (fun _ kont => XS.istore X0.here hx rfl (hb hby own_d3_1) rfl (l' := #[.val (.ref a1), .val (.int i), .val (.int t), .val (.ref a4), .val (.int (0 : Int32))]) rfl kont) ?_
  show own_Go _ _ _ _ (s₁.setTop (mkF m 3 #[.val (.ref a1), .val (.int i), .val (.int t), .val (.ref a4), .val (.int (0 : Int32))] []))
  refine own_go (fun _ kont => XS.iload X0.here hx rfl (hb hby own_d3_3) rfl kont) ?_
  show own_Go _ _ _ _ (s₁.setTop (mkF m 5 #[.val (.ref a1), .val (.int i), .val (.int t), .val (.ref a4), .val (.int (0 : Int32))] [(.int (0 : Int32))]))
  refine own_go (fun _ kont => XS.aloadN X0.here hx rfl (hb hby own_d3_5) rfl rfl kont) ?_
  show own_Go _ _ _ _ (s₁.setTop (mkF m 6 #[.val (.ref a1), .val (.int i), .val (.int t), .val (.ref a4), .val (.int (0 : Int32))] [(.ref a4), (.int (0 : Int32))]))
  obtain ⟨cl1, Ar1, -, Sz1, Ng1, -, -⟩ := id V4
  refine own_go (X0.arraylength hx (own_hp e0 Ar1.1) (State.isArrayOf_alike hZ.alike Ar1.2.1) (g := (mkF m 6 #[.val (.ref a1), .val (.int i), .val (.int t), .val (.ref a4), .val (.int (0 : Int32))] [(.ref a4), (.int (0 : Int32))])) rfl rfl (hb hby own_d3_6)) ?_
  rw [len_of Sz1 Ng1]
  show own_Go _ _ _ _ (s₁.setTop (mkF m 7 #[.val (.ref a1), .val (.int i), .val (.int t), .val (.ref a4), .val (.int (0 : Int32))] [(.int (2 : Int32)), (.int (0 : Int32))]))
  refine own_go (fun _ kont => XS.icmpNo X0.here hx rfl (hb hby own_d3_7) rfl (tlt (by decide)).2.1 kont) ?_
  show own_Go _ _ _ _ (s₁.setTop (mkF m 10 #[.val (.ref a1), .val (.int i), .val (.int t), .val (.ref a4), .val (.int (0 : Int32))] []))
  refine own_go (fun _ kont => XS.iloadN X0.here hx rfl (hb hby own_d3_10) rfl kont) ?_
  show own_Go _ _ _ _ (s₁.setTop (mkF m 11 #[.val (.ref a1), .val (.int i), .val (.int t), .val (.ref a4), .val (.int (0 : Int32))] [(.int i)]))
  refine own_go (fun _ kont => XS.iload X0.here hx rfl (hb hby own_d3_11) rfl kont) ?_
  show own_Go _ _ _ _ (s₁.setTop (mkF m 13 #[.val (.ref a1), .val (.int i), .val (.int t), .val (.ref a4), .val (.int (0 : Int32))] [(.int (0 : Int32)), (.int i)]))
  refine own_go (fun _ kont => XS.iadd X0.here hx rfl (hb hby own_d3_13) rfl kont) ?_
  show own_Go _ _ _ _ (s₁.setTop (mkF m 14 #[.val (.ref a1), .val (.int i), .val (.int t), .val (.ref a4), .val (.int (0 : Int32))] [(.int (i + (0 : Int32)))]))
  refine own_go (fun _ kont => XS.iloadN X0.here hx rfl (hb hby own_d3_14) rfl kont) ?_
  show own_Go _ _ _ _ (s₁.setTop (mkF m 15 #[.val (.ref a1), .val (.int i), .val (.int t), .val (.ref a4), .val (.int (0 : Int32))] [(.int t), (.int (i + (0 : Int32)))]))
  by_cases hA0 : (i + (0 : Int32)) < t
  · have _h := hA0
    refine own_go (fun _ kont => XS.icmpNo X0.here hx rfl (hb hby own_d3_15) rfl (tlt hA0).2.1 kont) ?_
    show own_Go _ _ _ _ (s₁.setTop (mkF m 18 #[.val (.ref a1), .val (.int i), .val (.int t), .val (.ref a4), .val (.int (0 : Int32))] []))
    refine own_go (fun _ kont => XS.aloadN X0.here hx rfl (hb hby own_d3_18) rfl rfl kont) ?_
    show own_Go _ _ _ _ (s₁.setTop (mkF m 19 #[.val (.ref a1), .val (.int i), .val (.int t), .val (.ref a4), .val (.int (0 : Int32))] [(.ref a1)]))
    refine own_go (fun _ kont => XS.iloadN X0.here hx rfl (hb hby own_d3_19) rfl kont) ?_
    show own_Go _ _ _ _ (s₁.setTop (mkF m 20 #[.val (.ref a1), .val (.int i), .val (.int t), .val (.ref a4), .val (.int (0 : Int32))] [(.int i), (.ref a1)]))
    refine own_go (fun _ kont => XS.iload X0.here hx rfl (hb hby own_d3_20) rfl kont) ?_
    show own_Go _ _ _ _ (s₁.setTop (mkF m 22 #[.val (.ref a1), .val (.int i), .val (.int t), .val (.ref a4), .val (.int (0 : Int32))] [(.int (0 : Int32)), (.int i), (.ref a1)]))
    refine own_go (fun _ kont => XS.iadd X0.here hx rfl (hb hby own_d3_22) rfl kont) ?_
    show own_Go _ _ _ _ (s₁.setTop (mkF m 23 #[.val (.ref a1), .val (.int i), .val (.int t), .val (.ref a4), .val (.int (0 : Int32))] [(.int (i + (0 : Int32))), (.ref a1)]))
    obtain ⟨cl2, Ar2, q2, Sz2, Ng2, Hs2, Gs2⟩ := id V1
    have hin2 : ¬ ((i + (0 : Int32)) < 0 ∨ cl2.slots.size ≤ ((i + (0 : Int32))).toNatClampNeg) := inb_of Sz2 (own_ib h1 h2 (by decide) (by decide) ht hA0)
    have hat2 : cl2.slots[((i + (0 : Int32))).toNatClampNeg]? = some (.int (own_g ys (i + (0 : Int32)))) := Hs2.at hin2 (own_gm ys _)
    refine own_go (X0.baloadBytes hx (j := (i + (0 : Int32))) (v := (.int (own_g ys (i + (0 : Int32))))) (own_hp e0 Ar2.1) (State.isArrayOf_alike hZ.alike Ar2.2.1) Ar2.2.2 hin2 hat2 (g := (mkF m 23 #[.val (.ref a1), .val (.int i), .val (.int t), .val (.ref a4), .val (.int (0 : Int32))] [(.int (i + (0 : Int32))), (.ref a1)])) rfl rfl (hb hby own_d3_23)) ?_
    show own_Go _ _ _ _ (s₁.setTop (mkF m 24 #[.val (.ref a1), .val (.int i), .val (.int t), .val (.ref a4), .val (.int (0 : Int32))] [(.int (own_g ys (i + (0 : Int32))))]))
    refine own_go (fun _ kont => XS.aloadN X0.here hx rfl (hb hby own_d3_24) rfl rfl kont) ?_
    show own_Go _ _ _ _ (s₁.setTop (mkF m 25 #[.val (.ref a1), .val (.int i), .val (.int t), .val (.ref a4), .val (.int (0 : Int32))] [(.ref a4), (.int (own_g ys (i + (0 : Int32))))]))
    refine own_go (fun _ kont => XS.iload X0.here hx rfl (hb hby own_d3_25) rfl kont) ?_
    show own_Go _ _ _ _ (s₁.setTop (mkF m 27 #[.val (.ref a1), .val (.int i), .val (.int t), .val (.ref a4), .val (.int (0 : Int32))] [(.int (0 : Int32)), (.ref a4), (.int (own_g ys (i + (0 : Int32))))]))
    obtain ⟨cl3, Ar3, q3, Sz3, Ng3, Hs3, Gs3⟩ := id V4
    have hin3 : ¬ ((0 : Int32) < 0 ∨ cl3.slots.size ≤ ((0 : Int32)).toNatClampNeg) := inb_of Sz3 ⟨by decide, by decide⟩
    have hat3 : cl3.slots[((0 : Int32)).toNatClampNeg]? = some (.int (13 : Int32)) := Hs3.at hin3 rfl
    refine own_go (X0.baloadBytes hx (j := (0 : Int32)) (v := (.int (13 : Int32))) (own_hp e0 Ar3.1) (State.isArrayOf_alike hZ.alike Ar3.2.1) Ar3.2.2 hin3 hat3 (g := (mkF m 27 #[.val (.ref a1), .val (.int i), .val (.int t), .val (.ref a4), .val (.int (0 : Int32))] [(.int (0 : Int32)), (.ref a4), (.int (own_g ys (i + (0 : Int32))))])) rfl rfl (hb hby own_d3_27)) ?_
    show own_Go _ _ _ _ (s₁.setTop (mkF m 28 #[.val (.ref a1), .val (.int i), .val (.int t), .val (.ref a4), .val (.int (0 : Int32))] [(.int (13 : Int32)), (.int (own_g ys (i + (0 : Int32))))]))
    by_cases hB0 : (own_g ys (i + (0 : Int32))) = (13 : Int32)
    · have _h := hB0
      refine own_go (fun _ kont => XS.icmpYes X0.here hx rfl (pc0 := 28) (pc' := 33) rfl (hb hby own_d3_28) rfl (teq hB0).1 (by decide) (by decide) kont) ?_
      show own_Go _ _ _ _ (s₁.setTop (mkF m 33 #[.val (.ref a1), .val (.int i), .val (.int t), .val (.ref a4), .val (.int (0 : Int32))] []))
      refine own_go (fun _ kont => XS.iinc X0.here hx rfl (hb hby own_d3_33) rfl (l' := #[.val (.ref a1), .val (.int i), .val (.int t), .val (.ref a4), .val (.int (1 : Int32))]) rfl kont) ?_
      show own_Go _ _ _ _ (s₁.setTop (mkF m 36 #[.val (.ref a1), .val (.int i), .val (.int t), .val (.ref a4), .val (.int (1 : Int32))] []))
      refine own_go (fun _ kont => XS.goto X0.here hx rfl (pc0 := 36) (pc' := 3) rfl (hb hby own_d3_36) (by decide) (by decide) kont) ?_
      show own_Go _ _ _ _ (s₁.setTop (mkF m 3 #[.val (.ref a1), .val (.int i), .val (.int t), .val (.ref a4), .val (.int (1 : Int32))] []))
      refine own_go (fun _ kont => XS.iload X0.here hx rfl (hb hby own_d3_3) rfl kont) ?_
      show own_Go _ _ _ _ (s₁.setTop (mkF m 5 #[.val (.ref a1), .val (.int i), .val (.int t), .val (.ref a4), .val (.int (1 : Int32))] [(.int (1 : Int32))]))
      refine own_go (fun _ kont => XS.aloadN X0.here hx rfl (hb hby own_d3_5) rfl rfl kont) ?_
      show own_Go _ _ _ _ (s₁.setTop (mkF m 6 #[.val (.ref a1), .val (.int i), .val (.int t), .val (.ref a4), .val (.int (1 : Int32))] [(.ref a4), (.int (1 : Int32))]))
      obtain ⟨cl4, Ar4, -, Sz4, Ng4, -, -⟩ := id V4
      refine own_go (X0.arraylength hx (own_hp e0 Ar4.1) (State.isArrayOf_alike hZ.alike Ar4.2.1) (g := (mkF m 6 #[.val (.ref a1), .val (.int i), .val (.int t), .val (.ref a4), .val (.int (1 : Int32))] [(.ref a4), (.int (1 : Int32))])) rfl rfl (hb hby own_d3_6)) ?_
      rw [len_of Sz4 Ng4]
      show own_Go _ _ _ _ (s₁.setTop (mkF m 7 #[.val (.ref a1), .val (.int i), .val (.int t), .val (.ref a4), .val (.int (1 : Int32))] [(.int (2 : Int32)), (.int (1 : Int32))]))
      refine own_go (fun _ kont => XS.icmpNo X0.here hx rfl (hb hby own_d3_7) rfl (tlt (by decide)).2.1 kont) ?_
      show own_Go _ _ _ _ (s₁.setTop (mkF m 10 #[.val (.ref a1), .val (.int i), .val (.int t), .val (.ref a4), .val (.int (1 : Int32))] []))
      refine own_go (fun _ kont => XS.iloadN X0.here hx rfl (hb hby own_d3_10) rfl kont) ?_
      show own_Go _ _ _ _ (s₁.setTop (mkF m 11 #[.val (.ref a1), .val (.int i), .val (.int t), .val (.ref a4), .val (.int (1 : Int32))] [(.int i)]))
      refine own_go (fun _ kont => XS.iload X0.here hx rfl (hb hby own_d3_11) rfl kont) ?_
      show own_Go _ _ _ _ (s₁.setTop (mkF m 13 #[.val (.ref a1), .val (.int i), .val (.int t), .val (.ref a4), .val (.int (1 : Int32))] [(.int (1 : Int32)), (.int i)]))
      refine own_go (fun _ kont => XS.iadd X0.here hx rfl (hb hby own_d3_13) rfl kont) ?_
      show own_Go _ _ _ _ (s₁.setTop (mkF m 14 #[.val (.ref a1), .val (.int i), .val (.int t), .val (.ref a4), .val (.int (1 : Int32))] [(.int (i + (1 : Int32)))]))
      refine own_go (fun _ kont => XS.iloadN X0.here hx rfl (hb hby own_d3_14) rfl kont) ?_
      show own_Go _ _ _ _ (s₁.setTop (mkF m 15 #[.val (.ref a1), .val (.int i), .val (.int t), .val (.ref a4), .val (.int (1 : Int32))] [(.int t), (.int (i + (1 : Int32)))]))
      by_cases hA1 : (i + (1 : Int32)) < t
      · have _h := hA1
        refine own_go (fun _ kont => XS.icmpNo X0.here hx rfl (hb hby own_d3_15) rfl (tlt hA1).2.1 kont) ?_
        show own_Go _ _ _ _ (s₁.setTop (mkF m 18 #[.val (.ref a1), .val (.int i), .val (.int t), .val (.ref a4), .val (.int (1 : Int32))] []))
        refine own_go (fun _ kont => XS.aloadN X0.here hx rfl (hb hby own_d3_18) rfl rfl kont) ?_
        show own_Go _ _ _ _ (s₁.setTop (mkF m 19 #[.val (.ref a1), .val (.int i), .val (.int t), .val (.ref a4), .val (.int (1 : Int32))] [(.ref a1)]))
        refine own_go (fun _ kont => XS.iloadN X0.here hx rfl (hb hby own_d3_19) rfl kont) ?_
        show own_Go _ _ _ _ (s₁.setTop (mkF m 20 #[.val (.ref a1), .val (.int i), .val (.int t), .val (.ref a4), .val (.int (1 : Int32))] [(.int i), (.ref a1)]))
        refine own_go (fun _ kont => XS.iload X0.here hx rfl (hb hby own_d3_20) rfl kont) ?_
        show own_Go _ _ _ _ (s₁.setTop (mkF m 22 #[.val (.ref a1), .val (.int i), .val (.int t), .val (.ref a4), .val (.int (1 : Int32))] [(.int (1 : Int32)), (.int i), (.ref a1)]))
        refine own_go (fun _ kont => XS.iadd X0.here hx rfl (hb hby own_d3_22) rfl kont) ?_
        show own_Go _ _ _ _ (s₁.setTop (mkF m 23 #[.val (.ref a1), .val (.int i), .val (.int t), .val (.ref a4), .val (.int (1 : Int32))] [(.int (i + (1 : Int32))), (.ref a1)]))
        obtain ⟨cl5, Ar5, q5, Sz5, Ng5, Hs5, Gs5⟩ := id V1
        have hin5 : ¬ ((i + (1 : Int32)) < 0 ∨ cl5.slots.size ≤ ((i + (1 : Int32))).toNatClampNeg) := inb_of Sz5 (own_ib h1 h2 (by decide) (by decide) ht hA1)
        have hat5 : cl5.slots[((i + (1 : Int32))).toNatClampNeg]? = some (.int (own_g ys (i + (1 : Int32)))) := Hs5.at hin5 (own_gm ys _)
        refine own_go (X0.baloadBytes hx (j := (i + (1 : Int32))) (v := (.int (own_g ys (i + (1 : Int32))))) (own_hp e0 Ar5.1) (State.isArrayOf_alike hZ.alike Ar5.2.1) Ar5.2.2 hin5 hat5 (g := (mkF m 23 #[.val (.ref a1), .val (.int i), .val (.int t), .val (.ref a4), .val (.int (1 : Int32))] [(.int (i + (1 : Int32))), (.ref a1)])) rfl rfl (hb hby own_d3_23)) ?_
        show own_Go _ _ _ _ (s₁.setTop (mkF m 24 #[.val (.ref a1), .val (.int i), .val (.int t), .val (.ref a4), .val (.int (1 : Int32))] [(.int (own_g ys (i + (1 : Int32))))]))
        refine own_go (fun _ kont => XS.aloadN X0.here hx rfl (hb hby own_d3_24) rfl rfl kont) ?_
        show own_Go _ _ _ _ (s₁.setTop (mkF m 25 #[.val (.ref a1), .val (.int i), .val (.int t), .val (.ref a4), .val (.int (1 : Int32))] [(.ref a4), (.int (own_g ys (i + (1 : Int32))))]))
        refine own_go (fun _ kont => XS.iload X0.here hx rfl (hb hby own_d3_25) rfl kont) ?_
        show own_Go _ _ _ _ (s₁.setTop (mkF m 27 #[.val (.ref a1), .val (.int i), .val (.int t), .val (.ref a4), .val (.int (1 : Int32))] [(.int (1 : Int32)), (.ref a4), (.int (own_g ys (i + (1 : Int32))))]))
        obtain ⟨cl6, Ar6, q6, Sz6, Ng6, Hs6, Gs6⟩ := id V4
        have hin6 : ¬ ((1 : Int32) < 0 ∨ cl6.slots.size ≤ ((1 : Int32)).toNatClampNeg) := inb_of Sz6 ⟨by decide, by decide⟩
        have hat6 : cl6.slots[((1 : Int32)).toNatClampNeg]? = some (.int (10 : Int32)) := Hs6.at hin6 rfl
        refine own_go (X0.baloadBytes hx (j := (1 : Int32)) (v := (.int (10 : Int32))) (own_hp e0 Ar6.1) (State.isArrayOf_alike hZ.alike Ar6.2.1) Ar6.2.2 hin6 hat6 (g := (mkF m 27 #[.val (.ref a1), .val (.int i), .val (.int t), .val (.ref a4), .val (.int (1 : Int32))] [(.int (1 : Int32)), (.ref a4), (.int (own_g ys (i + (1 : Int32))))])) rfl rfl (hb hby own_d3_27)) ?_
        show own_Go _ _ _ _ (s₁.setTop (mkF m 28 #[.val (.ref a1), .val (.int i), .val (.int t), .val (.ref a4), .val (.int (1 : Int32))] [(.int (10 : Int32)), (.int (own_g ys (i + (1 : Int32))))]))
        by_cases hB1 : (own_g ys (i + (1 : Int32))) = (10 : Int32)
        · have _h := hB1
          refine own_go (fun _ kont => XS.icmpYes X0.here hx rfl (pc0 := 28) (pc' := 33) rfl (hb hby own_d3_28) rfl (teq hB1).1 (by decide) (by decide) kont) ?_
          show own_Go _ _ _ _ (s₁.setTop (mkF m 33 #[.val (.ref a1), .val (.int i), .val (.int t), .val (.ref a4), .val (.int (1 : Int32))] []))
          refine own_go (fun _ kont => XS.iinc X0.here hx rfl (hb hby own_d3_33) rfl (l' := #[.val (.ref a1), .val (.int i), .val (.int t), .val (.ref a4), .val (.int (2 : Int32))]) rfl kont) ?_
          show own_Go _ _ _ _ (s₁.setTop (mkF m 36 #[.val (.ref a1), .val (.int i), .val (.int t), .val (.ref a4), .val (.int (2 : Int32))] []))
          refine own_go (fun _ kont => XS.goto X0.here hx rfl (pc0 := 36) (pc' := 3) rfl (hb hby own_d3_36) (by decide) (by decide) kont) ?_
          show own_Go _ _ _ _ (s₁.setTop (mkF m 3 #[.val (.ref a1), .val (.int i), .val (.int t), .val (.ref a4), .val (.int (2 : Int32))] []))
          refine own_go (fun _ kont => XS.iload X0.here hx rfl (hb hby own_d3_3) rfl kont) ?_
          show own_Go _ _ _ _ (s₁.setTop (mkF m 5 #[.val (.ref a1), .val (.int i), .val (.int t), .val (.ref a4), .val (.int (2 : Int32))] [(.int (2 : Int32))]))
          refine own_go (fun _ kont => XS.aloadN X0.here hx rfl (hb hby own_d3_5) rfl rfl kont) ?_
          show own_Go _ _ _ _ (s₁.setTop (mkF m 6 #[.val (.ref a1), .val (.int i), .val (.int t), .val (.ref a4), .val (.int (2 : Int32))] [(.ref a4), (.int (2 : Int32))]))
          obtain ⟨cl7, Ar7, -, Sz7, Ng7, -, -⟩ := id V4
          refine own_go (X0.arraylength hx (own_hp e0 Ar7.1) (State.isArrayOf_alike hZ.alike Ar7.2.1) (g := (mkF m 6 #[.val (.ref a1), .val (.int i), .val (.int t), .val (.ref a4), .val (.int (2 : Int32))] [(.ref a4), (.int (2 : Int32))])) rfl rfl (hb hby own_d3_6)) ?_
          rw [len_of Sz7 Ng7]
          show own_Go _ _ _ _ (s₁.setTop (mkF m 7 #[.val (.ref a1), .val (.int i), .val (.int t), .val (.ref a4), .val (.int (2 : Int32))] [(.int (2 : Int32)), (.int (2 : Int32))]))
          refine own_go (fun _ kont => XS.icmpYes X0.here hx rfl (pc0 := 7) (pc' := 39) rfl (hb hby own_d3_7) rfl (flt (by decide)).2.1 (by decide) (by decide) kont) ?_
          show own_Go _ _ _ _ (s₁.setTop (mkF m 39 #[.val (.ref a1), .val (.int i), .val (.int t), .val (.ref a4), .val (.int (2 : Int32))] []))
          refine own_go (fun _ kont => XS.iconst X0.here hx rfl (hb hby own_d3_39) kont) ?_
          show own_Go _ _ _ _ (s₁.setTop (mkF m 40 #[.val (.ref a1), .val (.int i), .val (.int t), .val (.ref a4), .val (.int (2 : Int32))] [(.int (1 : Int32))]))
          refine own_ret X0 hlk (v := some (.int (1 : Int32))) (fun h => by rw [Bd.returns] at h; cases h) (fun fs hr => retN X0 hx (t := .boolean) Bd.returns (by simp) (hb hby own_d3_40) hr) ?_ (by decide) (by decide)
          try rw [e0]
          exact ⟨by rw [show own_sw2 ys i t = 1 from if_pos ⟨hA0, hB0, hA1, hB1⟩], N0, rfl⟩
        · have _h := hB1
          refine own_go (fun _ kont => XS.icmpNo X0.here hx rfl (hb hby own_d3_28) rfl (feq hB1).1 kont) ?_
          show own_Go _ _ _ _ (s₁.setTop (mkF m 31 #[.val (.ref a1), .val (.int i), .val (.int t), .val (.ref a4), .val (.int (1 : Int32))] []))
          refine own_go (fun _ kont => XS.iconst X0.here hx rfl (hb hby own_d3_31) kont) ?_
          show own_Go _ _ _ _ (s₁.setTop (mkF m 32 #[.val (.ref a1), .val (.int i), .val (.int t), .val (.ref a4), .val (.int (1 : Int32))] [(.int (0 : Int32))]))
          refine own_ret X0 hlk (v := some (.int (0 : Int32))) (fun h => by rw [Bd.returns] at h; cases h) (fun fs hr => retN X0 hx (t := .boolean) Bd.returns (by simp) (hb hby own_d3_32) hr) ?_ (by decide) (by decide)
          try rw [e0]
          exact ⟨by rw [show own_sw2 ys i t = 0 from if_neg fun q => hB1 q.2.2.2], N0, rfl⟩
      · have _h := hA1
        refine own_go (fun _ kont => XS.icmpYes X0.here hx rfl (pc0 := 15) (pc' := 31) rfl (hb hby own_d3_15) rfl (flt hA1).2.1 (by decide) (by decide) kont) ?_
        show own_Go _ _ _ _ (s₁.setTop (mkF m 31 #[.val (.ref a1), .val (.int i), .val (.int t), .val (.ref a4), .val (.int (1 : Int32))] []))
        refine own_go (fun _ kont => XS.iconst X0.here hx rfl (hb hby own_d3_31) kont) ?_
        show own_Go _ _ _ _ (s₁.setTop (mkF m 32 #[.val (.ref a1), .val (.int i), .val (.int t), .val (.ref a4), .val (.int (1 : Int32))] [(.int (0 : Int32))]))
        refine own_ret X0 hlk (v := some (.int (0 : Int32))) (fun h => by rw [Bd.returns] at h; cases h) (fun fs hr => retN X0 hx (t := .boolean) Bd.returns (by simp) (hb hby own_d3_32) hr) ?_ (by decide) (by decide)
        try rw [e0]
        exact ⟨by rw [show own_sw2 ys i t = 0 from if_neg fun q => hA1 q.2.2.1], N0, rfl⟩
    · have _h := hB0
      refine own_go (fun _ kont => XS.icmpNo X0.here hx rfl (hb hby own_d3_28) rfl (feq hB0).1 kont) ?_
      show own_Go _ _ _ _ (s₁.setTop (mkF m 31 #[.val (.ref a1), .val (.int i), .val (.int t), .val (.ref a4), .val (.int (0 : Int32))] []))
      refine own_go (fun _ kont => XS.iconst X0.here hx rfl (hb hby own_d3_31) kont) ?_
      show own_Go _ _ _ _ (s₁.setTop (mkF m 32 #[.val (.ref a1), .val (.int i), .val (.int t), .val (.ref a4), .val (.int (0 : Int32))] [(.int (0 : Int32))]))
      refine own_ret X0 hlk (v := some (.int (0 : Int32))) (fun h => by rw [Bd.returns] at h; cases h) (fun fs hr => retN X0 hx (t := .boolean) Bd.returns (by simp) (hb hby own_d3_32) hr) ?_ (by decide) (by decide)
      try rw [e0]
      exact ⟨by rw [show own_sw2 ys i t = 0 from if_neg fun q => hB0 q.2.1], N0, rfl⟩
  · have _h := hA0
    refine own_go (fun _ kont => XS.icmpYes X0.here hx rfl (pc0 := 15) (pc' := 31) rfl (hb hby own_d3_15) rfl (flt hA0).2.1 (by decide) (by decide) kont) ?_
    show own_Go _ _ _ _ (s₁.setTop (mkF m 31 #[.val (.ref a1), .val (.int i), .val (.int t), .val (.ref a4), .val (.int (0 : Int32))] []))
    refine own_go (fun _ kont => XS.iconst X0.here hx rfl (hb hby own_d3_31) kont) ?_
    show own_Go _ _ _ _ (s₁.setTop (mkF m 32 #[.val (.ref a1), .val (.int i), .val (.int t), .val (.ref a4), .val (.int (0 : Int32))] [(.int (0 : Int32))]))
    refine own_ret X0 hlk (v := some (.int (0 : Int32))) (fun h => by rw [Bd.returns] at h; cases h) (fun fs hr => retN X0 hx (t := .boolean) Bd.returns (by simp) (hb hby own_d3_32) hr) ?_ (by decide) (by decide)
    try rw [e0]
    exact ⟨by rw [show own_sw2 ys i t = 0 from if_neg fun q => hA0 q.1], N0, rfl⟩
set_option maxRecDepth 65536 in
set_option maxHeartbeats 40000000 in
theorem own_rmW4 (l : Launch) (Z : State) (a0 : Array Value) (hw : ∀ d ∈ tables_1, d.before a0 Z = true) (a1 : Addr) (i : Int32) (t : Int32) (a4 : Addr) (ys : List Int32) (k1 : ClassId) (k4 : ClassId) (h0 : Heap) (n0 : Nat) (Z0 : n0 ≤ h0.size) (V1 : Arv Z h0 a1 k1 .byte 8 (ys.map Value.int) (.int 0)) (V4 : Arv Z h0 a4 k4 .byte 4 [(.int 13), (.int 10), (.int 13), (.int 10)] (.int 0)) (h1 : 0 ≤ i.toInt) (h2 : i.toInt ≤ 8) (ht : t.toInt ≤ 8) :
    own_Met l Z [] (⟨"com/example/chartpost/chartpost/http/HeaderFields", "startsWith", "([BII[B)Z"⟩ : MethodName) prog_20_method_4_code 5 (some .boolean) ({ frames := 0, cells := 0, slots := 0, locals := 0 } : Room) #[(.ref a1), (.int i), (.int t), (.ref a4)] h0 (fun v h L => v = some (.int (own_sw4 ys i t)) ∧ Fr n0 L ∧ h = h0) := by
  refine MetFree.of_bodySF (plainFor_of_name own_pn0) hisR ?_
  intro p e s m args below meth c s₁ Bd hml0 hP hK
  obtain ⟨rfl, hZ, hh⟩ := hP
  have hx := Bd.exec
  have hby := Bd.bytes
  have hml : c.maxLocals = 5 := hml0
  have hown : s.vm.findClass "com/example/chartpost/chartpost/http/HeaderFields" = some m.cls := findClass_of_methodNamed Bd.named
  have hnm := (name_of_methodNamed Bd.named Bd.method).1
  have hlk : meth.locks = false := Bd.notSynchronized
  have X0 : Stand p l e ({ frames := 0, cells := 0, slots := 0, locals := 0 } : Room) s m #[(.ref a1), (.int i), (.int t), (.ref a4)] below meth c s₁ [] 0 0 := Stand.of_body Bd
  have e0 : s₁.heap = h0 := by rw [← hh, Bd.state]; rfl
  have N0 := Fr.nil n0
  refine own_body (Q := fun v h L => v = some (.int (own_sw4 ys i t)) ∧ Fr n0 L ∧ h = h0) ?_
  refine own_go (fun _ kont => castTop (own_ef m #[(.ref a1), (.int i), (.int t), (.ref a4)] 5 #[.val (.ref a1), .val (.int i), .val (.int t), .val (.ref a4), .unset] (own_al [(.ref a1), (.int i), (.int t), (.ref a4)] 5 [.val (.ref a1), .val (.int i), .val (.int t), .val (.ref a4), .unset] rfl)) kont) ?_
  show own_Go _ _ _ _ (s₁.setTop (mkF m 0 #[.val (.ref a1), .val (.int i), .val (.int t), .val (.ref a4), .unset] []))
  refine own_go (fun _ kont => XS.iconst X0.here hx rfl (hb hby own_d3_0) kont) ?_
  show own_Go _ _ _ _ (s₁.setTop (mkF m 1 #[.val (.ref a1), .val (.int i), .val (.int t), .val (.ref a4), .unset] [(.int (0 : Int32))]))
  refine own_go (fun _ kont => XS.istore X0.here hx rfl (hb hby own_d3_1) rfl (l' := #[.val (.ref a1), .val (.int i), .val (.int t), .val (.ref a4), .val (.int (0 : Int32))]) rfl kont) ?_
  show own_Go _ _ _ _ (s₁.setTop (mkF m 3 #[.val (.ref a1), .val (.int i), .val (.int t), .val (.ref a4), .val (.int (0 : Int32))] []))
  refine own_go (fun _ kont => XS.iload X0.here hx rfl (hb hby own_d3_3) rfl kont) ?_
  show own_Go _ _ _ _ (s₁.setTop (mkF m 5 #[.val (.ref a1), .val (.int i), .val (.int t), .val (.ref a4), .val (.int (0 : Int32))] [(.int (0 : Int32))]))
  refine own_go (fun _ kont => XS.aloadN X0.here hx rfl (hb hby own_d3_5) rfl rfl kont) ?_
  show own_Go _ _ _ _ (s₁.setTop (mkF m 6 #[.val (.ref a1), .val (.int i), .val (.int t), .val (.ref a4), .val (.int (0 : Int32))] [(.ref a4), (.int (0 : Int32))]))
  obtain ⟨cl1, Ar1, -, Sz1, Ng1, -, -⟩ := id V4
  refine own_go (X0.arraylength hx (own_hp e0 Ar1.1) (State.isArrayOf_alike hZ.alike Ar1.2.1) (g := (mkF m 6 #[.val (.ref a1), .val (.int i), .val (.int t), .val (.ref a4), .val (.int (0 : Int32))] [(.ref a4), (.int (0 : Int32))])) rfl rfl (hb hby own_d3_6)) ?_
  rw [len_of Sz1 Ng1]
  show own_Go _ _ _ _ (s₁.setTop (mkF m 7 #[.val (.ref a1), .val (.int i), .val (.int t), .val (.ref a4), .val (.int (0 : Int32))] [(.int (4 : Int32)), (.int (0 : Int32))]))
  refine own_go (fun _ kont => XS.icmpNo X0.here hx rfl (hb hby own_d3_7) rfl (tlt (by decide)).2.1 kont) ?_
  show own_Go _ _ _ _ (s₁.setTop (mkF m 10 #[.val (.ref a1), .val (.int i), .val (.int t), .val (.ref a4), .val (.int (0 : Int32))] []))
  refine own_go (fun _ kont => XS.iloadN X0.here hx rfl (hb hby own_d3_10) rfl kont) ?_
  show own_Go _ _ _ _ (s₁.setTop (mkF m 11 #[.val (.ref a1), .val (.int i), .val (.int t), .val (.ref a4), .val (.int (0 : Int32))] [(.int i)]))
  refine own_go (fun _ kont => XS.iload X0.here hx rfl (hb hby own_d3_11) rfl kont) ?_
  show own_Go _ _ _ _ (s₁.setTop (mkF m 13 #[.val (.ref a1), .val (.int i), .val (.int t), .val (.ref a4), .val (.int (0 : Int32))] [(.int (0 : Int32)), (.int i)]))
  refine own_go (fun _ kont => XS.iadd X0.here hx rfl (hb hby own_d3_13) rfl kont) ?_
  show own_Go _ _ _ _ (s₁.setTop (mkF m 14 #[.val (.ref a1), .val (.int i), .val (.int t), .val (.ref a4), .val (.int (0 : Int32))] [(.int (i + (0 : Int32)))]))
  refine own_go (fun _ kont => XS.iloadN X0.here hx rfl (hb hby own_d3_14) rfl kont) ?_
  show own_Go _ _ _ _ (s₁.setTop (mkF m 15 #[.val (.ref a1), .val (.int i), .val (.int t), .val (.ref a4), .val (.int (0 : Int32))] [(.int t), (.int (i + (0 : Int32)))]))
  by_cases hA0 : (i + (0 : Int32)) < t
  · have _h := hA0
    refine own_go (fun _ kont => XS.icmpNo X0.here hx rfl (hb hby own_d3_15) rfl (tlt hA0).2.1 kont) ?_
    show own_Go _ _ _ _ (s₁.setTop (mkF m 18 #[.val (.ref a1), .val (.int i), .val (.int t), .val (.ref a4), .val (.int (0 : Int32))] []))
    refine own_go (fun _ kont => XS.aloadN X0.here hx rfl (hb hby own_d3_18) rfl rfl kont) ?_
    show own_Go _ _ _ _ (s₁.setTop (mkF m 19 #[.val (.ref a1), .val (.int i), .val (.int t), .val (.ref a4), .val (.int (0 : Int32))] [(.ref a1)]))
    refine own_go (fun _ kont => XS.iloadN X0.here hx rfl (hb hby own_d3_19) rfl kont) ?_
    show own_Go _ _ _ _ (s₁.setTop (mkF m 20 #[.val (.ref a1), .val (.int i), .val (.int t), .val (.ref a4), .val (.int (0 : Int32))] [(.int i), (.ref a1)]))
    refine own_go (fun _ kont => XS.iload X0.here hx rfl (hb hby own_d3_20) rfl kont) ?_
    show own_Go _ _ _ _ (s₁.setTop (mkF m 22 #[.val (.ref a1), .val (.int i), .val (.int t), .val (.ref a4), .val (.int (0 : Int32))] [(.int (0 : Int32)), (.int i), (.ref a1)]))
    refine own_go (fun _ kont => XS.iadd X0.here hx rfl (hb hby own_d3_22) rfl kont) ?_
    show own_Go _ _ _ _ (s₁.setTop (mkF m 23 #[.val (.ref a1), .val (.int i), .val (.int t), .val (.ref a4), .val (.int (0 : Int32))] [(.int (i + (0 : Int32))), (.ref a1)]))
    obtain ⟨cl2, Ar2, q2, Sz2, Ng2, Hs2, Gs2⟩ := id V1
    have hin2 : ¬ ((i + (0 : Int32)) < 0 ∨ cl2.slots.size ≤ ((i + (0 : Int32))).toNatClampNeg) := inb_of Sz2 (own_ib h1 h2 (by decide) (by decide) ht hA0)
    have hat2 : cl2.slots[((i + (0 : Int32))).toNatClampNeg]? = some (.int (own_g ys (i + (0 : Int32)))) := Hs2.at hin2 (own_gm ys _)
    refine own_go (X0.baloadBytes hx (j := (i + (0 : Int32))) (v := (.int (own_g ys (i + (0 : Int32))))) (own_hp e0 Ar2.1) (State.isArrayOf_alike hZ.alike Ar2.2.1) Ar2.2.2 hin2 hat2 (g := (mkF m 23 #[.val (.ref a1), .val (.int i), .val (.int t), .val (.ref a4), .val (.int (0 : Int32))] [(.int (i + (0 : Int32))), (.ref a1)])) rfl rfl (hb hby own_d3_23)) ?_
    show own_Go _ _ _ _ (s₁.setTop (mkF m 24 #[.val (.ref a1), .val (.int i), .val (.int t), .val (.ref a4), .val (.int (0 : Int32))] [(.int (own_g ys (i + (0 : Int32))))]))
    refine own_go (fun _ kont => XS.aloadN X0.here hx rfl (hb hby own_d3_24) rfl rfl kont) ?_
    show own_Go _ _ _ _ (s₁.setTop (mkF m 25 #[.val (.ref a1), .val (.int i), .val (.int t), .val (.ref a4), .val (.int (0 : Int32))] [(.ref a4), (.int (own_g ys (i + (0 : Int32))))]))
    refine own_go (fun _ kont => XS.iload X0.here hx rfl (hb hby own_d3_25) rfl kont) ?_
    show own_Go _ _ _ _ (s₁.setTop (mkF m 27 #[.val (.ref a1), .val (.int i), .val (.int t), .val (.ref a4), .val (.int (0 : Int32))] [(.int (0 : Int32)), (.ref a4), (.int (own_g ys (i + (0 : Int32))))]))
    obtain ⟨cl3, Ar3, q3, Sz3, Ng3, Hs3, Gs3⟩ := id V4
    have hin3 : ¬ ((0 : Int32) < 0 ∨ cl3.slots.size ≤ ((0 : Int32)).toNatClampNeg) := inb_of Sz3 ⟨by decide, by decide⟩
    have hat3 : cl3.slots[((0 : Int32)).toNatClampNeg]? = some (.int (13 : Int32)) := Hs3.at hin3 rfl
    refine own_go (X0.baloadBytes hx (j := (0 : Int32)) (v := (.int (13 : Int32))) (own_hp e0 Ar3.1) (State.isArrayOf_alike hZ.alike Ar3.2.1) Ar3.2.2 hin3 hat3 (g := (mkF m 27 #[.val (.ref a1), .val (.int i), .val (.int t), .val (.ref a4), .val (.int (0 : Int32))] [(.int (0 : Int32)), (.ref a4), (.int (own_g ys (i + (0 : Int32))))])) rfl rfl (hb hby own_d3_27)) ?_
    show own_Go _ _ _ _ (s₁.setTop (mkF m 28 #[.val (.ref a1), .val (.int i), .val (.int t), .val (.ref a4), .val (.int (0 : Int32))] [(.int (13 : Int32)), (.int (own_g ys (i + (0 : Int32))))]))
    by_cases hB0 : (own_g ys (i + (0 : Int32))) = (13 : Int32)
    · have _h := hB0
      refine own_go (fun _ kont => XS.icmpYes X0.here hx rfl (pc0 := 28) (pc' := 33) rfl (hb hby own_d3_28) rfl (teq hB0).1 (by decide) (by decide) kont) ?_
      show own_Go _ _ _ _ (s₁.setTop (mkF m 33 #[.val (.ref a1), .val (.int i), .val (.int t), .val (.ref a4), .val (.int (0 : Int32))] []))
      refine own_go (fun _ kont => XS.iinc X0.here hx rfl (hb hby own_d3_33) rfl (l' := #[.val (.ref a1), .val (.int i), .val (.int t), .val (.ref a4), .val (.int (1 : Int32))]) rfl kont) ?_
      show own_Go _ _ _ _ (s₁.setTop (mkF m 36 #[.val (.ref a1), .val (.int i), .val (.int t), .val (.ref a4), .val (.int (1 : Int32))] []))
      refine own_go (fun _ kont => XS.goto X0.here hx rfl (pc0 := 36) (pc' := 3) rfl (hb hby own_d3_36) (by decide) (by decide) kont) ?_
      show own_Go _ _ _ _ (s₁.setTop (mkF m 3 #[.val (.ref a1), .val (.int i), .val (.int t), .val (.ref a4), .val (.int (1 : Int32))] []))
      refine own_go (fun _ kont => XS.iload X0.here hx rfl (hb hby own_d3_3) rfl kont) ?_
      show own_Go _ _ _ _ (s₁.setTop (mkF m 5 #[.val (.ref a1), .val (.int i), .val (.int t), .val (.ref a4), .val (.int (1 : Int32))] [(.int (1 : Int32))]))
      refine own_go (fun _ kont => XS.aloadN X0.here hx rfl (hb hby own_d3_5) rfl rfl kont) ?_
      show own_Go _ _ _ _ (s₁.setTop (mkF m 6 #[.val (.ref a1), .val (.int i), .val (.int t), .val (.ref a4), .val (.int (1 : Int32))] [(.ref a4), (.int (1 : Int32))]))
      obtain ⟨cl4, Ar4, -, Sz4, Ng4, -, -⟩ := id V4
      refine own_go (X0.arraylength hx (own_hp e0 Ar4.1) (State.isArrayOf_alike hZ.alike Ar4.2.1) (g := (mkF m 6 #[.val (.ref a1), .val (.int i), .val (.int t), .val (.ref a4), .val (.int (1 : Int32))] [(.ref a4), (.int (1 : Int32))])) rfl rfl (hb hby own_d3_6)) ?_
      rw [len_of Sz4 Ng4]
      show own_Go _ _ _ _ (s₁.setTop (mkF m 7 #[.val (.ref a1), .val (.int i), .val (.int t), .val (.ref a4), .val (.int (1 : Int32))] [(.int (4 : Int32)), (.int (1 : Int32))]))
      refine own_go (fun _ kont => XS.icmpNo X0.here hx rfl (hb hby own_d3_7) rfl (tlt (by decide)).2.1 kont) ?_
      show own_Go _ _ _ _ (s₁.setTop (mkF m 10 #[.val (.ref a1), .val (.int i), .val (.int t), .val (.ref a4), .val (.int (1 : Int32))] []))
      refine own_go (fun _ kont => XS.iloadN X0.here hx rfl (hb hby own_d3_10) rfl kont) ?_
      show own_Go _ _ _ _ (s₁.setTop (mkF m 11 #[.val (.ref a1), .val (.int i), .val (.int t), .val (.ref a4), .val (.int (1 : Int32))] [(.int i)]))
      refine own_go (fun _ kont => XS.iload X0.here hx rfl (hb hby own_d3_11) rfl kont) ?_
      show own_Go _ _ _ _ (s₁.setTop (mkF m 13 #[.val (.ref a1), .val (.int i), .val (.int t), .val (.ref a4), .val (.int (1 : Int32))] [(.int (1 : Int32)), (.int i)]))
      refine own_go (fun _ kont => XS.iadd X0.here hx rfl (hb hby own_d3_13) rfl kont) ?_
      show own_Go _ _ _ _ (s₁.setTop (mkF m 14 #[.val (.ref a1), .val (.int i), .val (.int t), .val (.ref a4), .val (.int (1 : Int32))] [(.int (i + (1 : Int32)))]))
      refine own_go (fun _ kont => XS.iloadN X0.here hx rfl (hb hby own_d3_14) rfl kont) ?_
      show own_Go _ _ _ _ (s₁.setTop (mkF m 15 #[.val (.ref a1), .val (.int i), .val (.int t), .val (.ref a4), .val (.int (1 : Int32))] [(.int t), (.int (i + (1 : Int32)))]))
      by_cases hA1 : (i + (1 : Int32)) < t
      · have _h := hA1
        refine own_go (fun _ kont => XS.icmpNo X0.here hx rfl (hb hby own_d3_15) rfl (tlt hA1).2.1 kont) ?_
        show own_Go _ _ _ _ (s₁.setTop (mkF m 18 #[.val (.ref a1), .val (.int i), .val (.int t), .val (.ref a4), .val (.int (1 : Int32))] []))
        refine own_go (fun _ kont => XS.aloadN X0.here hx rfl (hb hby own_d3_18) rfl rfl kont) ?_
        show own_Go _ _ _ _ (s₁.setTop (mkF m 19 #[.val (.ref a1), .val (.int i), .val (.int t), .val (.ref a4), .val (.int (1 : Int32))] [(.ref a1)]))
        refine own_go (fun _ kont => XS.iloadN X0.here hx rfl (hb hby own_d3_19) rfl kont) ?_
        show own_Go _ _ _ _ (s₁.setTop (mkF m 20 #[.val (.ref a1), .val (.int i), .val (.int t), .val (.ref a4), .val (.int (1 : Int32))] [(.int i), (.ref a1)]))
        refine own_go (fun _ kont => XS.iload X0.here hx rfl (hb hby own_d3_20) rfl kont) ?_
        show own_Go _ _ _ _ (s₁.setTop (mkF m 22 #[.val (.ref a1), .val (.int i), .val (.int t), .val (.ref a4), .val (.int (1 : Int32))] [(.int (1 : Int32)), (.int i), (.ref a1)]))
        refine own_go (fun _ kont => XS.iadd X0.here hx rfl (hb hby own_d3_22) rfl kont) ?_
        show own_Go _ _ _ _ (s₁.setTop (mkF m 23 #[.val (.ref a1), .val (.int i), .val (.int t), .val (.ref a4), .val (.int (1 : Int32))] [(.int (i + (1 : Int32))), (.ref a1)]))
        obtain ⟨cl5, Ar5, q5, Sz5, Ng5, Hs5, Gs5⟩ := id V1
        have hin5 : ¬ ((i + (1 : Int32)) < 0 ∨ cl5.slots.size ≤ ((i + (1 : Int32))).toNatClampNeg) := inb_of Sz5 (own_ib h1 h2 (by decide) (by decide) ht hA1)
        have hat5 : cl5.slots[((i + (1 : Int32))).toNatClampNeg]? = some (.int (own_g ys (i + (1 : Int32)))) := Hs5.at hin5 (own_gm ys _)
        refine own_go (X0.baloadBytes hx (j := (i + (1 : Int32))) (v := (.int (own_g ys (i + (1 : Int32))))) (own_hp e0 Ar5.1) (State.isArrayOf_alike hZ.alike Ar5.2.1) Ar5.2.2 hin5 hat5 (g := (mkF m 23 #[.val (.ref a1), .val (.int i), .val (.int t), .val (.ref a4), .val (.int (1 : Int32))] [(.int (i + (1 : Int32))), (.ref a1)])) rfl rfl (hb hby own_d3_23)) ?_
        show own_Go _ _ _ _ (s₁.setTop (mkF m 24 #[.val (.ref a1), .val (.int i), .val (.int t), .val (.ref a4), .val (.int (1 : Int32))] [(.int (own_g ys (i + (1 : Int32))))]))
        refine own_go (fun _ kont => XS.aloadN X0.here hx rfl (hb hby own_d3_24) rfl rfl kont) ?_
        show own_Go _ _ _ _ (s₁.setTop (mkF m 25 #[.val (.ref a1), .val (.int i), .val (.int t), .val (.ref a4), .val (.int (1 : Int32))] [(.ref a4), (.int (own_g ys (i + (1 : Int32))))]))
        refine own_go (fun _ kont => XS.iload X0.here hx rfl (hb hby own_d3_25) rfl kont) ?_
        show own_Go _ _ _ _ (s₁.setTop (mkF m 27 #[.val (.ref a1), .val (.int i), .val (.int t), .val (.ref a4), .val (.int (1 : Int32))] [(.int (1 : Int32)), (.ref a4), (.int (own_g ys (i + (1 : Int32))))]))
        obtain ⟨cl6, Ar6, q6, Sz6, Ng6, Hs6, Gs6⟩ := id V4
        have hin6 : ¬ ((1 : Int32) < 0 ∨ cl6.slots.size ≤ ((1 : Int32)).toNatClampNeg) := inb_of Sz6 ⟨by decide, by decide⟩
        have hat6 : cl6.slots[((1 : Int32)).toNatClampNeg]? = some (.int (10 : Int32)) := Hs6.at hin6 rfl
        refine own_go (X0.baloadBytes hx (j := (1 : Int32)) (v := (.int (10 : Int32))) (own_hp e0 Ar6.1) (State.isArrayOf_alike hZ.alike Ar6.2.1) Ar6.2.2 hin6 hat6 (g := (mkF m 27 #[.val (.ref a1), .val (.int i), .val (.int t), .val (.ref a4), .val (.int (1 : Int32))] [(.int (1 : Int32)), (.ref a4), (.int (own_g ys (i + (1 : Int32))))])) rfl rfl (hb hby own_d3_27)) ?_
        show own_Go _ _ _ _ (s₁.setTop (mkF m 28 #[.val (.ref a1), .val (.int i), .val (.int t), .val (.ref a4), .val (.int (1 : Int32))] [(.int (10 : Int32)), (.int (own_g ys (i + (1 : Int32))))]))
        by_cases hB1 : (own_g ys (i + (1 : Int32))) = (10 : Int32)
        · have _h := hB1
          refine own_go (fun _ kont => XS.icmpYes X0.here hx rfl (pc0 := 28) (pc' := 33) rfl (hb hby own_d3_28) rfl (teq hB1).1 (by decide) (by decide) kont) ?_
          show own_Go _ _ _ _ (s₁.setTop (mkF m 33 #[.val (.ref a1), .val (.int i), .val (.int t), .val (.ref a4), .val (.int (1 : Int32))] []))
          refine own_go (fun _ kont => XS.iinc X0.here hx rfl (hb hby own_d3_33) rfl (l' := #[.val (.ref a1), .val (.int i), .val (.int t), .val (.ref a4), .val (.int (2 : Int32))]) rfl kont) ?_
          show own_Go _ _ _ _ (s₁.setTop (mkF m 36 #[.val (.ref a1), .val (.int i), .val (.int t), .val (.ref a4), .val (.int (2 : Int32))] []))
          refine own_go (fun _ kont => XS.goto X0.here hx rfl (pc0 := 36) (pc' := 3) rfl (hb hby own_d3_36) (by decide) (by decide) kont) ?_
          show own_Go _ _ _ _ (s₁.setTop (mkF m 3 #[.val (.ref a1), .val (.int i), .val (.int t), .val (.ref a4), .val (.int (2 : Int32))] []))
          refine own_go (fun _ kont => XS.iload X0.here hx rfl (hb hby own_d3_3) rfl kont) ?_
          show own_Go _ _ _ _ (s₁.setTop (mkF m 5 #[.val (.ref a1), .val (.int i), .val (.int t), .val (.ref a4), .val (.int (2 : Int32))] [(.int (2 : Int32))]))
          refine own_go (fun _ kont => XS.aloadN X0.here hx rfl (hb hby own_d3_5) rfl rfl kont) ?_
          show own_Go _ _ _ _ (s₁.setTop (mkF m 6 #[.val (.ref a1), .val (.int i), .val (.int t), .val (.ref a4), .val (.int (2 : Int32))] [(.ref a4), (.int (2 : Int32))]))
          obtain ⟨cl7, Ar7, -, Sz7, Ng7, -, -⟩ := id V4
          refine own_go (X0.arraylength hx (own_hp e0 Ar7.1) (State.isArrayOf_alike hZ.alike Ar7.2.1) (g := (mkF m 6 #[.val (.ref a1), .val (.int i), .val (.int t), .val (.ref a4), .val (.int (2 : Int32))] [(.ref a4), (.int (2 : Int32))])) rfl rfl (hb hby own_d3_6)) ?_
          rw [len_of Sz7 Ng7]
          show own_Go _ _ _ _ (s₁.setTop (mkF m 7 #[.val (.ref a1), .val (.int i), .val (.int t), .val (.ref a4), .val (.int (2 : Int32))] [(.int (4 : Int32)), (.int (2 : Int32))]))
          refine own_go (fun _ kont => XS.icmpNo X0.here hx rfl (hb hby own_d3_7) rfl (tlt (by decide)).2.1 kont) ?_
          show own_Go _ _ _ _ (s₁.setTop (mkF m 10 #[.val (.ref a1), .val (.int i), .val (.int t), .val (.ref a4), .val (.int (2 : Int32))] []))
          refine own_go (fun _ kont => XS.iloadN X0.here hx rfl (hb hby own_d3_10) rfl kont) ?_
          show own_Go _ _ _ _ (s₁.setTop (mkF m 11 #[.val (.ref a1), .val (.int i), .val (.int t), .val (.ref a4), .val (.int (2 : Int32))] [(.int i)]))
          refine own_go (fun _ kont => XS.iload X0.here hx rfl (hb hby own_d3_11) rfl kont) ?_
          show own_Go _ _ _ _ (s₁.setTop (mkF m 13 #[.val (.ref a1), .val (.int i), .val (.int t), .val (.ref a4), .val (.int (2 : Int32))] [(.int (2 : Int32)), (.int i)]))
          refine own_go (fun _ kont => XS.iadd X0.here hx rfl (hb hby own_d3_13) rfl kont) ?_
          show own_Go _ _ _ _ (s₁.setTop (mkF m 14 #[.val (.ref a1), .val (.int i), .val (.int t), .val (.ref a4), .val (.int (2 : Int32))] [(.int (i + (2 : Int32)))]))
          refine own_go (fun _ kont => XS.iloadN X0.here hx rfl (hb hby own_d3_14) rfl kont) ?_
          show own_Go _ _ _ _ (s₁.setTop (mkF m 15 #[.val (.ref a1), .val (.int i), .val (.int t), .val (.ref a4), .val (.int (2 : Int32))] [(.int t), (.int (i + (2 : Int32)))]))
          by_cases hA2 : (i + (2 : Int32)) < t
          · have _h := hA2
            refine own_go (fun _ kont => XS.icmpNo X0.here hx rfl (hb hby own_d3_15) rfl (tlt hA2).2.1 kont) ?_
            show own_Go _ _ _ _ (s₁.setTop (mkF m 18 #[.val (.ref a1), .val (.int i), .val (.int t), .val (.ref a4), .val (.int (2 : Int32))] []))
            refine own_go (fun _ kont => XS.aloadN X0.here hx rfl (hb hby own_d3_18) rfl rfl kont) ?_
            show own_Go _ _ _ _ (s₁.setTop (mkF m 19 #[.val (.ref a1), .val (.int i), .val (.int t), .val (.ref a4), .val (.int (2 : Int32))] [(.ref a1)]))
            refine own_go (fun _ kont => XS.iloadN X0.here hx rfl (hb hby own_d3_19) rfl kont) ?_
            show own_Go _ _ _ _ (s₁.setTop (mkF m 20 #[.val (.ref a1), .val (.int i), .val (.int t), .val (.ref a4), .val (.int (2 : Int32))] [(.int i), (.ref a1)]))
            refine own_go (fun _ kont => XS.iload X0.here hx rfl (hb hby own_d3_20) rfl kont) ?_
            show own_Go _ _ _ _ (s₁.setTop (mkF m 22 #[.val (.ref a1), .val (.int i), .val (.int t), .val (.ref a4), .val (.int (2 : Int32))] [(.int (2 : Int32)), (.int i), (.ref a1)]))
            refine own_go (fun _ kont => XS.iadd X0.here hx rfl (hb hby own_d3_22) rfl kont) ?_
            show own_Go _ _ _ _ (s₁.setTop (mkF m 23 #[.val (.ref a1), .val (.int i), .val (.int t), .val (.ref a4), .val (.int (2 : Int32))] [(.int (i + (2 : Int32))), (.ref a1)]))
            obtain ⟨cl8, Ar8, q8, Sz8, Ng8, Hs8, Gs8⟩ := id V1
            have hin8 : ¬ ((i + (2 : Int32)) < 0 ∨ cl8.slots.size ≤ ((i + (2 : Int32))).toNatClampNeg) := inb_of Sz8 (own_ib h1 h2 (by decide) (by decide) ht hA2)
            have hat8 : cl8.slots[((i + (2 : Int32))).toNatClampNeg]? = some (.int (own_g ys (i + (2 : Int32)))) := Hs8.at hin8 (own_gm ys _)
            refine own_go (X0.baloadBytes hx (j := (i + (2 : Int32))) (v := (.int (own_g ys (i + (2 : Int32))))) (own_hp e0 Ar8.1) (State.isArrayOf_alike hZ.alike Ar8.2.1) Ar8.2.2 hin8 hat8 (g := (mkF m 23 #[.val (.ref a1), .val (.int i), .val (.int t), .val (.ref a4), .val (.int (2 : Int32))] [(.int (i + (2 : Int32))), (.ref a1)])) rfl rfl (hb hby own_d3_23)) ?_
            show own_Go _ _ _ _ (s₁.setTop (mkF m 24 #[.val (.ref a1), .val (.int i), .val (.int t), .val (.ref a4), .val (.int (2 : Int32))] [(.int (own_g ys (i + (2 : Int32))))]))
            refine own_go (fun _ kont => XS.aloadN X0.here hx rfl (hb hby own_d3_24) rfl rfl kont) ?_
            show own_Go _ _ _ _ (s₁.setTop (mkF m 25 #[.val (.ref a1), .val (.int i), .val (.int t), .val (.ref a4), .val (.int (2 : Int32))] [(.ref a4), (.int (own_g ys (i + (2 : Int32))))]))
            refine own_go (fun _ kont => XS.iload X0.here hx rfl (hb hby own_d3_25) rfl kont) ?_
            show own_Go _ _ _ _ (s₁.setTop (mkF m 27 #[.val (.ref a1), .val (.int i), .val (.int t), .val (.ref a4), .val (.int (2 : Int32))] [(.int (2 : Int32)), (.ref a4), (.int (own_g ys (i + (2 : Int32))))]))
            obtain ⟨cl9, Ar9, q9, Sz9, Ng9, Hs9, Gs9⟩ := id V4
            have hin9 : ¬ ((2 : Int32) < 0 ∨ cl9.slots.size ≤ ((2 : Int32)).toNatClampNeg) := inb_of Sz9 ⟨by decide, by decide⟩
            have hat9 : cl9.slots[((2 : Int32)).toNatClampNeg]? = some (.int (13 : Int32)) := Hs9.at hin9 rfl
            refine own_go (X0.baloadBytes hx (j := (2 : Int32)) (v := (.int (13 : Int32))) (own_hp e0 Ar9.1) (State.isArrayOf_alike hZ.alike Ar9.2.1) Ar9.2.2 hin9 hat9 (g := (mkF m 27 #[.val (.ref a1), .val (.int i), .val (.int t), .val (.ref a4), .val (.int (2 : Int32))] [(.int (2 : Int32)), (.ref a4), (.int (own_g ys (i + (2 : Int32))))])) rfl rfl (hb hby own_d3_27)) ?_
            show own_Go _ _ _ _ (s₁.setTop (mkF m 28 #[.val (.ref a1), .val (.int i), .val (.int t), .val (.ref a4), .val (.int (2 : Int32))] [(.int (13 : Int32)), (.int (own_g ys (i + (2 : Int32))))]))
            by_cases hB2 : (own_g ys (i + (2 : Int32))) = (13 : Int32)
            · have _h := hB2
              refine own_go (fun _ kont => XS.icmpYes X0.here hx rfl (pc0 := 28) (pc' := 33) rfl (hb hby own_d3_28) rfl (teq hB2).1 (by decide) (by decide) kont) ?_
              show own_Go _ _ _ _ (s₁.setTop (mkF m 33 #[.val (.ref a1), .val (.int i), .val (.int t), .val (.ref a4), .val (.int (2 : Int32))] []))
              refine own_go (fun _ kont => XS.iinc X0.here hx rfl (hb hby own_d3_33) rfl (l' := #[.val (.ref a1), .val (.int i), .val (.int t), .val (.ref a4), .val (.int (3 : Int32))]) rfl kont) ?_
              show own_Go _ _ _ _ (s₁.setTop (mkF m 36 #[.val (.ref a1), .val (.int i), .val (.int t), .val (.ref a4), .val (.int (3 : Int32))] []))
              refine own_go (fun _ kont => XS.goto X0.here hx rfl (pc0 := 36) (pc' := 3) rfl (hb hby own_d3_36) (by decide) (by decide) kont) ?_
              show own_Go _ _ _ _ (s₁.setTop (mkF m 3 #[.val (.ref a1), .val (.int i), .val (.int t), .val (.ref a4), .val (.int (3 : Int32))] []))
              refine own_go (fun _ kont => XS.iload X0.here hx rfl (hb hby own_d3_3) rfl kont) ?_
              show own_Go _ _ _ _ (s₁.setTop (mkF m 5 #[.val (.ref a1), .val (.int i), .val (.int t), .val (.ref a4), .val (.int (3 : Int32))] [(.int (3 : Int32))]))
              refine own_go (fun _ kont => XS.aloadN X0.here hx rfl (hb hby own_d3_5) rfl rfl kont) ?_
              show own_Go _ _ _ _ (s₁.setTop (mkF m 6 #[.val (.ref a1), .val (.int i), .val (.int t), .val (.ref a4), .val (.int (3 : Int32))] [(.ref a4), (.int (3 : Int32))]))
              obtain ⟨cl10, Ar10, -, Sz10, Ng10, -, -⟩ := id V4
              refine own_go (X0.arraylength hx (own_hp e0 Ar10.1) (State.isArrayOf_alike hZ.alike Ar10.2.1) (g := (mkF m 6 #[.val (.ref a1), .val (.int i), .val (.int t), .val (.ref a4), .val (.int (3 : Int32))] [(.ref a4), (.int (3 : Int32))])) rfl rfl (hb hby own_d3_6)) ?_
              rw [len_of Sz10 Ng10]
              show own_Go _ _ _ _ (s₁.setTop (mkF m 7 #[.val (.ref a1), .val (.int i), .val (.int t), .val (.ref a4), .val (.int (3 : Int32))] [(.int (4 : Int32)), (.int (3 : Int32))]))
              refine own_go (fun _ kont => XS.icmpNo X0.here hx rfl (hb hby own_d3_7) rfl (tlt (by decide)).2.1 kont) ?_
              show own_Go _ _ _ _ (s₁.setTop (mkF m 10 #[.val (.ref a1), .val (.int i), .val (.int t), .val (.ref a4), .val (.int (3 : Int32))] []))
              refine own_go (fun _ kont => XS.iloadN X0.here hx rfl (hb hby own_d3_10) rfl kont) ?_
              show own_Go _ _ _ _ (s₁.setTop (mkF m 11 #[.val (.ref a1), .val (.int i), .val (.int t), .val (.ref a4), .val (.int (3 : Int32))] [(.int i)]))
              refine own_go (fun _ kont => XS.iload X0.here hx rfl (hb hby own_d3_11) rfl kont) ?_
              show own_Go _ _ _ _ (s₁.setTop (mkF m 13 #[.val (.ref a1), .val (.int i), .val (.int t), .val (.ref a4), .val (.int (3 : Int32))] [(.int (3 : Int32)), (.int i)]))
              refine own_go (fun _ kont => XS.iadd X0.here hx rfl (hb hby own_d3_13) rfl kont) ?_
              show own_Go _ _ _ _ (s₁.setTop (mkF m 14 #[.val (.ref a1), .val (.int i), .val (.int t), .val (.ref a4), .val (.int (3 : Int32))] [(.int (i + (3 : Int32)))]))
              refine own_go (fun _ kont => XS.iloadN X0.here hx rfl (hb hby own_d3_14) rfl kont) ?_
              show own_Go _ _ _ _ (s₁.setTop (mkF m 15 #[.val (.ref a1), .val (.int i), .val (.int t), .val (.ref a4), .val (.int (3 : Int32))] [(.int t), (.int (i + (3 : Int32)))]))
              by_cases hA3 : (i + (3 : Int32)) < t
              · have _h := hA3
                refine own_go (fun _ kont => XS.icmpNo X0.here hx rfl (hb hby own_d3_15) rfl (tlt hA3).2.1 kont) ?_
                show own_Go _ _ _ _ (s₁.setTop (mkF m 18 #[.val (.ref a1), .val (.int i), .val (.int t), .val (.ref a4), .val (.int (3 : Int32))] []))
                refine own_go (fun _ kont => XS.aloadN X0.here hx rfl (hb hby own_d3_18) rfl rfl kont) ?_
                show own_Go _ _ _ _ (s₁.setTop (mkF m 19 #[.val (.ref a1), .val (.int i), .val (.int t), .val (.ref a4), .val (.int (3 : Int32))] [(.ref a1)]))
                refine own_go (fun _ kont => XS.iloadN X0.here hx rfl (hb hby own_d3_19) rfl kont) ?_
                show own_Go _ _ _ _ (s₁.setTop (mkF m 20 #[.val (.ref a1), .val (.int i), .val (.int t), .val (.ref a4), .val (.int (3 : Int32))] [(.int i), (.ref a1)]))
                refine own_go (fun _ kont => XS.iload X0.here hx rfl (hb hby own_d3_20) rfl kont) ?_
                show own_Go _ _ _ _ (s₁.setTop (mkF m 22 #[.val (.ref a1), .val (.int i), .val (.int t), .val (.ref a4), .val (.int (3 : Int32))] [(.int (3 : Int32)), (.int i), (.ref a1)]))
                refine own_go (fun _ kont => XS.iadd X0.here hx rfl (hb hby own_d3_22) rfl kont) ?_
                show own_Go _ _ _ _ (s₁.setTop (mkF m 23 #[.val (.ref a1), .val (.int i), .val (.int t), .val (.ref a4), .val (.int (3 : Int32))] [(.int (i + (3 : Int32))), (.ref a1)]))
                obtain ⟨cl11, Ar11, q11, Sz11, Ng11, Hs11, Gs11⟩ := id V1
                have hin11 : ¬ ((i + (3 : Int32)) < 0 ∨ cl11.slots.size ≤ ((i + (3 : Int32))).toNatClampNeg) := inb_of Sz11 (own_ib h1 h2 (by decide) (by decide) ht hA3)
                have hat11 : cl11.slots[((i + (3 : Int32))).toNatClampNeg]? = some (.int (own_g ys (i + (3 : Int32)))) := Hs11.at hin11 (own_gm ys _)
                refine own_go (X0.baloadBytes hx (j := (i + (3 : Int32))) (v := (.int (own_g ys (i + (3 : Int32))))) (own_hp e0 Ar11.1) (State.isArrayOf_alike hZ.alike Ar11.2.1) Ar11.2.2 hin11 hat11 (g := (mkF m 23 #[.val (.ref a1), .val (.int i), .val (.int t), .val (.ref a4), .val (.int (3 : Int32))] [(.int (i + (3 : Int32))), (.ref a1)])) rfl rfl (hb hby own_d3_23)) ?_
                show own_Go _ _ _ _ (s₁.setTop (mkF m 24 #[.val (.ref a1), .val (.int i), .val (.int t), .val (.ref a4), .val (.int (3 : Int32))] [(.int (own_g ys (i + (3 : Int32))))]))
                refine own_go (fun _ kont => XS.aloadN X0.here hx rfl (hb hby own_d3_24) rfl rfl kont) ?_
                show own_Go _ _ _ _ (s₁.setTop (mkF m 25 #[.val (.ref a1), .val (.int i), .val (.int t), .val (.ref a4), .val (.int (3 : Int32))] [(.ref a4), (.int (own_g ys (i + (3 : Int32))))]))
                refine own_go (fun _ kont => XS.iload X0.here hx rfl (hb hby own_d3_25) rfl kont) ?_
                show own_Go _ _ _ _ (s₁.setTop (mkF m 27 #[.val (.ref a1), .val (.int i), .val (.int t), .val (.ref a4), .val (.int (3 : Int32))] [(.int (3 : Int32)), (.ref a4), (.int (own_g ys (i + (3 : Int32))))]))
                obtain ⟨cl12, Ar12, q12, Sz12, Ng12, Hs12, Gs12⟩ := id V4
                have hin12 : ¬ ((3 : Int32) < 0 ∨ cl12.slots.size ≤ ((3 : Int32)).toNatClampNeg) := inb_of Sz12 ⟨by decide, by decide⟩
                have hat12 : cl12.slots[((3 : Int32)).toNatClampNeg]? = some (.int (10 : Int32)) := Hs12.at hin12 rfl
                refine own_go (X0.baloadBytes hx (j := (3 : Int32)) (v := (.int (10 : Int32))) (own_hp e0 Ar12.1) (State.isArrayOf_alike hZ.alike Ar12.2.1) Ar12.2.2 hin12 hat12 (g := (mkF m 27 #[.val (.ref a1), .val (.int i), .val (.int t), .val (.ref a4), .val (.int (3 : Int32))] [(.int (3 : Int32)), (.ref a4), (.int (own_g ys (i + (3 : Int32))))])) rfl rfl (hb hby own_d3_27)) ?_
                show own_Go _ _ _ _ (s₁.setTop (mkF m 28 #[.val (.ref a1), .val (.int i), .val (.int t), .val (.ref a4), .val (.int (3 : Int32))] [(.int (10 : Int32)), (.int (own_g ys (i + (3 : Int32))))]))
                by_cases hB3 : (own_g ys (i + (3 : Int32))) = (10 : Int32)
                · have _h := hB3
                  refine own_go (fun _ kont => XS.icmpYes X0.here hx rfl (pc0 := 28) (pc' := 33) rfl (hb hby own_d3_28) rfl (teq hB3).1 (by decide) (by decide) kont) ?_
                  show own_Go _ _ _ _ (s₁.setTop (mkF m 33 #[.val (.ref a1), .val (.int i), .val (.int t), .val (.ref a4), .val (.int (3 : Int32))] []))
                  refine own_go (fun _ kont => XS.iinc X0.here hx rfl (hb hby own_d3_33) rfl (l' := #[.val (.ref a1), .val (.int i), .val (.int t), .val (.ref a4), .val (.int (4 : Int32))]) rfl kont) ?_
                  show own_Go _ _ _ _ (s₁.setTop (mkF m 36 #[.val (.ref a1), .val (.int i), .val (.int t), .val (.ref a4), .val (.int (4 : Int32))] []))
                  refine own_go (fun _ kont => XS.goto X0.here hx rfl (pc0 := 36) (pc' := 3) rfl (hb hby own_d3_36) (by decide) (by decide) kont) ?_
                  show own_Go _ _ _ _ (s₁.setTop (mkF m 3 #[.val (.ref a1), .val (.int i), .val (.int t), .val (.ref a4), .val (.int (4 : Int32))] []))
                  refine own_go (fun _ kont => XS.iload X0.here hx rfl (hb hby own_d3_3) rfl kont) ?_
                  show own_Go _ _ _ _ (s₁.setTop (mkF m 5 #[.val (.ref a1), .val (.int i), .val (.int t), .val (.ref a4), .val (.int (4 : Int32))] [(.int (4 : Int32))]))
                  refine own_go (fun _ kont => XS.aloadN X0.here hx rfl (hb hby own_d3_5) rfl rfl kont) ?_
                  show own_Go _ _ _ _ (s₁.setTop (mkF m 6 #[.val (.ref a1), .val (.int i), .val (.int t), .val (.ref a4), .val (.int (4 : Int32))] [(.ref a4), (.int (4 : Int32))]))
                  obtain ⟨cl13, Ar13, -, Sz13, Ng13, -, -⟩ := id V4
                  refine own_go (X0.arraylength hx (own_hp e0 Ar13.1) (State.isArrayOf_alike hZ.alike Ar13.2.1) (g := (mkF m 6 #[.val (.ref a1), .val (.int i), .val (.int t), .val (.ref a4), .val (.int (4 : Int32))] [(.ref a4), (.int (4 : Int32))])) rfl rfl (hb hby own_d3_6)) ?_
                  rw [len_of Sz13 Ng13]
                  show own_Go _ _ _ _ (s₁.setTop (mkF m 7 #[.val (.ref a1), .val (.int i), .val (.int t), .val (.ref a4), .val (.int (4 : Int32))] [(.int (4 : Int32)), (.int (4 : Int32))]))
                  refine own_go (fun _ kont => XS.icmpYes X0.here hx rfl (pc0 := 7) (pc' := 39) rfl (hb hby own_d3_7) rfl (flt (by decide)).2.1 (by decide) (by decide) kont) ?_
                  show own_Go _ _ _ _ (s₁.setTop (mkF m 39 #[.val (.ref a1), .val (.int i), .val (.int t), .val (.ref a4), .val (.int (4 : Int32))] []))
                  refine own_go (fun _ kont => XS.iconst X0.here hx rfl (hb hby own_d3_39) kont) ?_
                  show own_Go _ _ _ _ (s₁.setTop (mkF m 40 #[.val (.ref a1), .val (.int i), .val (.int t), .val (.ref a4), .val (.int (4 : Int32))] [(.int (1 : Int32))]))
                  refine own_ret X0 hlk (v := some (.int (1 : Int32))) (fun h => by rw [Bd.returns] at h; cases h) (fun fs hr => retN X0 hx (t := .boolean) Bd.returns (by simp) (hb hby own_d3_40) hr) ?_ (by decide) (by decide)
                  try rw [e0]
                  exact ⟨by rw [show own_sw4 ys i t = 1 from if_pos ⟨hA0, hB0, hA1, hB1, hA2, hB2, hA3, hB3⟩], N0, rfl⟩
                · have _h := hB3
                  refine own_go (fun _ kont => XS.icmpNo X0.here hx rfl (hb hby own_d3_28) rfl (feq hB3).1 kont) ?_
                  show own_Go _ _ _ _ (s₁.setTop (mkF m 31 #[.val (.ref a1), .val (.int i), .val (.int t), .val (.ref a4), .val (.int (3 : Int32))] []))
                  refine own_go (fun _ kont => XS.iconst X0.here hx rfl (hb hby own_d3_31) kont) ?_
                  show own_Go _ _ _ _ (s₁.setTop (mkF m 32 #[.val (.ref a1), .val (.int i), .val (.int t), .val (.ref a4), .val (.int (3 : Int32))] [(.int (0 : Int32))]))
                  refine own_ret X0 hlk (v := some (.int (0 : Int32))) (fun h => by rw [Bd.returns] at h; cases h) (fun fs hr => retN X0 hx (t := .boolean) Bd.returns (by simp) (hb hby own_d3_32) hr) ?_ (by decide) (by decide)
                  try rw [e0]
                  exact ⟨by rw [show own_sw4 ys i t = 0 from if_neg fun q => hB3 q.2.2.2.2.2.2.2], N0, rfl⟩
              · have _h := hA3
                refine own_go (fun _ kont => XS.icmpYes X0.here hx rfl (pc0 := 15) (pc' := 31) rfl (hb hby own_d3_15) rfl (flt hA3).2.1 (by decide) (by decide) kont) ?_
                show own_Go _ _ _ _ (s₁.setTop (mkF m 31 #[.val (.ref a1), .val (.int i), .val (.int t), .val (.ref a4), .val (.int (3 : Int32))] []))
                refine own_go (fun _ kont => XS.iconst X0.here hx rfl (hb hby own_d3_31) kont) ?_
                show own_Go _ _ _ _ (s₁.setTop (mkF m 32 #[.val (.ref a1), .val (.int i), .val (.int t), .val (.ref a4), .val (.int (3 : Int32))] [(.int (0 : Int32))]))
                refine own_ret X0 hlk (v := some (.int (0 : Int32))) (fun h => by rw [Bd.returns] at h; cases h) (fun fs hr => retN X0 hx (t := .boolean) Bd.returns (by simp) (hb hby own_d3_32) hr) ?_ (by decide) (by decide)
                try rw [e0]
                exact ⟨by rw [show own_sw4 ys i t = 0 from if_neg fun q => hA3 q.2.2.2.2.2.2.1], N0, rfl⟩
            · have _h := hB2
              refine own_go (fun _ kont => XS.icmpNo X0.here hx rfl (hb hby own_d3_28) rfl (feq hB2).1 kont) ?_
              show own_Go _ _ _ _ (s₁.setTop (mkF m 31 #[.val (.ref a1), .val (.int i), .val (.int t), .val (.ref a4), .val (.int (2 : Int32))] []))
              refine own_go (fun _ kont => XS.iconst X0.here hx rfl (hb hby own_d3_31) kont) ?_
              show own_Go _ _ _ _ (s₁.setTop (mkF m 32 #[.val (.ref a1), .val (.int i), .val (.int t), .val (.ref a4), .val (.int (2 : Int32))] [(.int (0 : Int32))]))
              refine own_ret X0 hlk (v := some (.int (0 : Int32))) (fun h => by rw [Bd.returns] at h; cases h) (fun fs hr => retN X0 hx (t := .boolean) Bd.returns (by simp) (hb hby own_d3_32) hr) ?_ (by decide) (by decide)
              try rw [e0]
              exact ⟨by rw [show own_sw4 ys i t = 0 from if_neg fun q => hB2 q.2.2.2.2.2.1], N0, rfl⟩
          · have _h := hA2
            refine own_go (fun _ kont => XS.icmpYes X0.here hx rfl (pc0 := 15) (pc' := 31) rfl (hb hby own_d3_15) rfl (flt hA2).2.1 (by decide) (by decide) kont) ?_
            show own_Go _ _ _ _ (s₁.setTop (mkF m 31 #[.val (.ref a1), .val (.int i), .val (.int t), .val (.ref a4), .val (.int (2 : Int32))] []))
            refine own_go (fun _ kont => XS.iconst X0.here hx rfl (hb hby own_d3_31) kont) ?_
            show own_Go _ _ _ _ (s₁.setTop (mkF m 32 #[.val (.ref a1), .val (.int i), .val (.int t), .val (.ref a4), .val (.int (2 : Int32))] [(.int (0 : Int32))]))
            refine own_ret X0 hlk (v := some (.int (0 : Int32))) (fun h => by rw [Bd.returns] at h; cases h) (fun fs hr => retN X0 hx (t := .boolean) Bd.returns (by simp) (hb hby own_d3_32) hr) ?_ (by decide) (by decide)
            try rw [e0]
            exact ⟨by rw [show own_sw4 ys i t = 0 from if_neg fun q => hA2 q.2.2.2.2.1], N0, rfl⟩
        · have _h := hB1
          refine own_go (fun _ kont => XS.icmpNo X0.here hx rfl (hb hby own_d3_28) rfl (feq hB1).1 kont) ?_
          show own_Go _ _ _ _ (s₁.setTop (mkF m 31 #[.val (.ref a1), .val (.int i), .val (.int t), .val (.ref a4), .val (.int (1 : Int32))] []))
          refine own_go (fun _ kont => XS.iconst X0.here hx rfl (hb hby own_d3_31) kont) ?_
          show own_Go _ _ _ _ (s₁.setTop (mkF m 32 #[.val (.ref a1), .val (.int i), .val (.int t), .val (.ref a4), .val (.int (1 : Int32))] [(.int (0 : Int32))]))
          refine own_ret X0 hlk (v := some (.int (0 : Int32))) (fun h => by rw [Bd.returns] at h; cases h) (fun fs hr => retN X0 hx (t := .boolean) Bd.returns (by simp) (hb hby own_d3_32) hr) ?_ (by decide) (by decide)
          try rw [e0]
          exact ⟨by rw [show own_sw4 ys i t = 0 from if_neg fun q => hB1 q.2.2.2.1], N0, rfl⟩
      · have _h := hA1
        refine own_go (fun _ kont => XS.icmpYes X0.here hx rfl (pc0 := 15) (pc' := 31) rfl (hb hby own_d3_15) rfl (flt hA1).2.1 (by decide) (by decide) kont) ?_
        show own_Go _ _ _ _ (s₁.setTop (mkF m 31 #[.val (.ref a1), .val (.int i), .val (.int t), .val (.ref a4), .val (.int (1 : Int32))] []))
        refine own_go (fun _ kont => XS.iconst X0.here hx rfl (hb hby own_d3_31) kont) ?_
        show own_Go _ _ _ _ (s₁.setTop (mkF m 32 #[.val (.ref a1), .val (.int i), .val (.int t), .val (.ref a4), .val (.int (1 : Int32))] [(.int (0 : Int32))]))
        refine own_ret X0 hlk (v := some (.int (0 : Int32))) (fun h => by rw [Bd.returns] at h; cases h) (fun fs hr => retN X0 hx (t := .boolean) Bd.returns (by simp) (hb hby own_d3_32) hr) ?_ (by decide) (by decide)
        try rw [e0]
        exact ⟨by rw [show own_sw4 ys i t = 0 from if_neg fun q => hA1 q.2.2.1], N0, rfl⟩
    · have _h := hB0
      refine own_go (fun _ kont => XS.icmpNo X0.here hx rfl (hb hby own_d3_28) rfl (feq hB0).1 kont) ?_
      show own_Go _ _ _ _ (s₁.setTop (mkF m 31 #[.val (.ref a1), .val (.int i), .val (.int t), .val (.ref a4), .val (.int (0 : Int32))] []))
      refine own_go (fun _ kont => XS.iconst X0.here hx rfl (hb hby own_d3_31) kont) ?_
      show own_Go _ _ _ _ (s₁.setTop (mkF m 32 #[.val (.ref a1), .val (.int i), .val (.int t), .val (.ref a4), .val (.int (0 : Int32))] [(.int (0 : Int32))]))
      refine own_ret X0 hlk (v := some (.int (0 : Int32))) (fun h => by rw [Bd.returns] at h; cases h) (fun fs hr => retN X0 hx (t := .boolean) Bd.returns (by simp) (hb hby own_d3_32) hr) ?_ (by decide) (by decide)
      try rw [e0]
      exact ⟨by rw [show own_sw4 ys i t = 0 from if_neg fun q => hB0 q.2.1], N0, rfl⟩
  · have _h := hA0
    refine own_go (fun _ kont => XS.icmpYes X0.here hx rfl (pc0 := 15) (pc' := 31) rfl (hb hby own_d3_15) rfl (flt hA0).2.1 (by decide) (by decide) kont) ?_
    show own_Go _ _ _ _ (s₁.setTop (mkF m 31 #[.val (.ref a1), .val (.int i), .val (.int t), .val (.ref a4), .val (.int (0 : Int32))] []))
    refine own_go (fun _ kont => XS.iconst X0.here hx rfl (hb hby own_d3_31) kont) ?_
    show own_Go _ _ _ _ (s₁.setTop (mkF m 32 #[.val (.ref a1), .val (.int i), .val (.int t), .val (.ref a4), .val (.int (0 : Int32))] [(.int (0 : Int32))]))
    refine own_ret X0 hlk (v := some (.int (0 : Int32))) (fun h => by rw [Bd.returns] at h; cases h) (fun fs hr => retN X0 hx (t := .boolean) Bd.returns (by simp) (hb hby own_d3_32) hr) ?_ (by decide) (by decide)
    try rw [e0]
    exact ⟨by rw [show own_sw4 ys i t = 0 from if_neg fun q => hA0 q.1], N0, rfl⟩
theorem own_d2_0 : decode prog_20_method_2_code 0 = .ok (.aload_n 0, 1) := by decide +kernel
theorem own_d2_1 : decode prog_20_method_2_code 1 = .ok (.iload_n 1, 1) := by decide +kernel
theorem own_d2_2 : decode prog_20_method_2_code 2 = .ok (.iload_n 2, 1) := by decide +kernel
theorem own_d2_3 : decode prog_20_method_2_code 3 = .ok (.getstatic 7, 3) := by decide +kernel
theorem own_d2_6 : decode prog_20_method_2_code 6 = .ok (.invokestatic 13, 3) := by decide +kernel
theorem own_d2_9 : decode prog_20_method_2_code 9 = .ok (.ifCond .eq 5, 3) := by decide +kernel
theorem own_d2_12 : decode prog_20_method_2_code 12 = .ok (.iload_n 1, 1) := by decide +kernel
theorem own_d2_13 : decode prog_20_method_2_code 13 = .ok (.ireturn, 1) := by decide +kernel
theorem own_d2_14 : decode prog_20_method_2_code 14 = .ok (.iload_n 1, 1) := by decide +kernel
theorem own_d2_15 : decode prog_20_method_2_code 15 = .ok (.istore_n 3, 1) := by decide +kernel
theorem own_d2_16 : decode prog_20_method_2_code 16 = .ok (.iload_n 3, 1) := by decide +kernel
theorem own_d2_17 : decode prog_20_method_2_code 17 = .ok (.iload_n 2, 1) := by decide +kernel
theorem own_d2_18 : decode prog_20_method_2_code 18 = .ok (.getstatic 17, 3) := by decide +kernel
theorem own_d2_21 : decode prog_20_method_2_code 21 = .ok (.arraylength, 1) := by decide +kernel
theorem own_d2_22 : decode prog_20_method_2_code 22 = .ok (.isub, 1) := by decide +kernel
theorem own_d2_23 : decode prog_20_method_2_code 23 = .ok (.if_icmp .gt 28, 3) := by decide +kernel
theorem own_d2_26 : decode prog_20_method_2_code 26 = .ok (.aload_n 0, 1) := by decide +kernel
theorem own_d2_27 : decode prog_20_method_2_code 27 = .ok (.iload_n 3, 1) := by decide +kernel
theorem own_d2_28 : decode prog_20_method_2_code 28 = .ok (.iload_n 2, 1) := by decide +kernel
theorem own_d2_29 : decode prog_20_method_2_code 29 = .ok (.getstatic 17, 3) := by decide +kernel
theorem own_d2_32 : decode prog_20_method_2_code 32 = .ok (.invokestatic 13, 3) := by decide +kernel
theorem own_d2_35 : decode prog_20_method_2_code 35 = .ok (.ifCond .eq 10, 3) := by decide +kernel
theorem own_d2_38 : decode prog_20_method_2_code 38 = .ok (.iload_n 3, 1) := by decide +kernel
theorem own_d2_39 : decode prog_20_method_2_code 39 = .ok (.getstatic 7, 3) := by decide +kernel
theorem own_d2_42 : decode prog_20_method_2_code 42 = .ok (.arraylength, 1) := by decide +kernel
theorem own_d2_43 : decode prog_20_method_2_code 43 = .ok (.iadd, 1) := by decide +kernel
theorem own_d2_44 : decode prog_20_method_2_code 44 = .ok (.ireturn, 1) := by decide +kernel
theorem own_d2_45 : decode prog_20_method_2_code 45 = .ok (.iinc 3 1, 3) := by decide +kernel
theorem own_d2_48 : decode prog_20_method_2_code 48 = .ok (.goto (-32), 3) := by decide +kernel
theorem own_d2_51 : decode prog_20_method_2_code 51 = .ok (.iconst (-1), 1) := by decide +kernel
theorem own_d2_52 : decode prog_20_method_2_code 52 = .ok (.ireturn, 1) := by decide +kernel
theorem own_pd0 : parseMethodDescriptor "([BII[B)Z" = some ⟨[(.array .byte), .int, .int, (.array .byte)], some .boolean⟩ := by decide +kernel
set_option maxRecDepth 65536 in
set_option maxHeartbeats 40000000 in
theorem own_rmD (l : Launch) (Z : State) (a0 : Array Value) (hw : ∀ d ∈ tables_1, d.before a0 Z = true) (a1 : Addr) (f : Int32) (t : Int32) (aC : Addr) (aB : Addr) (ys : List Int32) (k1 : ClassId) (kC : ClassId) (kB : ClassId) (h0 : Heap) (n0 : Nat) (Z0 : n0 ≤ h0.size) (S_C : Sta Z h0 "com/example/chartpost/chartpost/http/HeaderFields" "CRLF" "[B" (.ref aC)) (S_B : Sta Z h0 "com/example/chartpost/chartpost/http/HeaderFields" "BLANK_LINE" "[B" (.ref aB)) (V1 : Arv Z h0 a1 k1 .byte 8 (ys.map Value.int) (.int 0)) (V_C : Arv Z h0 aC kC .byte 2 [(.int 13), (.int 10)] (.int 0)) (V_B : Arv Z h0 aB kB .byte 4 [(.int 13), (.int 10), (.int 13), (.int 10)] (.int 0)) (h1 : 0 ≤ f.toInt) (h2 : f.toInt ≤ 8) (t1 : 0 ≤ t.toInt) (ht : t.toInt ≤ 8) :
    own_Met l Z [] (⟨"com/example/chartpost/chartpost/http/HeaderFields", "end", "([BII)I"⟩ : MethodName) prog_20_method_2_code 4 (some .int) ({ frames := 1, cells := 0, slots := 0, locals := 16 } : Room) #[(.ref a1), (.int f), (.int t)] h0 (fun v h L => v = some (.int (own_end ys f t)) ∧ Fr n0 L ∧ h = h0) := by
  refine MetFree.of_bodySF (plainFor_of_name own_pn0) hisR ?_
  intro p e s m args below meth c s₁ Bd hml0 hP hK
  obtain ⟨rfl, hZ, hh⟩ := hP
  have hx := Bd.exec
  have hby := Bd.bytes
  have hml : c.maxLocals = 4 := hml0
  have hown : s.vm.findClass "com/example/chartpost/chartpost/http/HeaderFields" = some m.cls := findClass_of_methodNamed Bd.named
  have hnm := (name_of_methodNamed Bd.named Bd.method).1
  have hlk : meth.locks = false := Bd.notSynchronized
  have X0 : Stand p l e ({ frames := 1, cells := 0, slots := 0, locals := 16 } : Room) s m #[(.ref a1), (.int f), (.int t)] below meth c s₁ [] 0 0 := Stand.of_body Bd
  have e0 : s₁.heap = h0 := by rw [← hh, Bd.state]; rfl
  have N0 := Fr.nil n0
  refine own_body (Q := fun v h L => v = some (.int (own_end ys f t)) ∧ Fr n0 L ∧ h = h0) ?_
  refine own_go (fun _ kont => castTop (own_ef m #[(.ref a1), (.int f), (.int t)] 4 #[.val (.ref a1), .val (.int f), .val (.int t), .unset] (own_al [(.ref a1), (.int f), (.int t)] 4 [.val (.ref a1), .val (.int f), .val (.int t), .unset] rfl)) kont) ?_
  show own_Go _ _ _ _ (s₁.setTop (mkF m 0 #[.val (.ref a1), .val (.int f), .val (.int t), .unset] []))
  refine own_go (fun _ kont => XS.aloadN X0.here hx rfl (hb hby own_d2_0) rfl rfl kont) ?_
  show own_Go _ _ _ _ (s₁.setTop (mkF m 1 #[.val (.ref a1), .val (.int f), .val (.int t), .unset] [(.ref a1)]))
  refine own_go (fun _ kont => XS.iloadN X0.here hx rfl (hb hby own_d2_1) rfl kont) ?_
  show own_Go _ _ _ _ (s₁.setTop (mkF m 2 #[.val (.ref a1), .val (.int f), .val (.int t), .unset] [(.int f), (.ref a1)]))
  refine own_go (fun _ kont => XS.iloadN X0.here hx rfl (hb hby own_d2_2) rfl kont) ?_
  show own_Go _ _ _ _ (s₁.setTop (mkF m 3 #[.val (.ref a1), .val (.int f), .val (.int t), .unset] [(.int t), (.int f), (.ref a1)]))
  obtain ⟨T1, X1, e1, st1⟩ := getS2 X0 hx hZ hown (host := "") (Or.inl (hw _ (List.mem_of_getElem? (i := 10) rfl))) Via.refl e0 S_C (g := (mkF m 3 #[.val (.ref a1), .val (.int f), .val (.int t), .unset] [(.int t), (.int f), (.ref a1)])) rfl (hb hby own_d2_3)
  refine own_go st1 ?_
  show own_Go _ _ _ _ (T1.setTop (mkF m 6 #[.val (.ref a1), .val (.int f), .val (.int t), .unset] [(.ref aC), (.int t), (.int f), (.ref a1)]))
  obtain ⟨_, _, ⟨T2, L2, k2, n2⟩, -, X2, ⟨Lc2, hQ2, l2, y2, z2⟩, st2⟩ := Jvm.LawKit.callS X1 hx (y := (⟨"com/example/chartpost/chartpost/http/HeaderFields", "startsWith", "([BII[B)Z"⟩ : MethodName)) hown (mvT hZ (hw _ (List.mem_of_getElem? (i := 12) rfl))) (mvT hZ (hw _ (List.mem_of_getElem? (i := 13) rfl))) (mvT hZ (hw _ (List.mem_of_getElem? (i := 8) rfl))) (mvT hZ (hw _ (List.mem_of_getElem? (i := 14) rfl))) (by decide) (own_back (W := 0) (own_rmW2 l Z a0 hw a1 f t aC ys k1 kC h0 n0 Z0 V1 V_C h1 h2 ht) hZ (hw _ (List.mem_of_getElem? (i := 14) rfl)) (hw _ (List.mem_of_getElem? (i := 8) rfl)) (by decide) (by decide)) (g := (mkF m 6 #[.val (.ref a1), .val (.int f), .val (.int t), .unset] [(.ref aC), (.int t), (.int f), (.ref a1)])) rfl (by rw [hml]; rfl) (argsL := [(.ref a1), (.int f), (.int t), (.ref aC)]) (rest := []) (lenOf own_pd0 rfl) rfl (by show 2 * 0 + _ ≤ _; exact Nat.le_of_eq rfl) (hb hby own_d2_6) (fun _ _ => ⟨rfl, e1, (by decide : 0 + 0 ≤ _), (by decide : 0 + 0 ≤ _)⟩)
  dsimp only [Pt.U, Pt.locs, Pt.cells, Pt.slots] at X2 l2 y2 z2 st2 hQ2
  replace X2 := own_cst X2 l2 y2 z2 (k2 := 0) (n2 := 0) rfl rfl
  clear l2 y2 z2
  obtain ⟨rfl, Nq2, eq2⟩ := hQ2
  have NF2 := Fr.app N0 Nq2
  refine own_go st2 ?_
  show own_Go _ _ _ _ (T2.setTop (mkF m 9 #[.val (.ref a1), .val (.int f), .val (.int t), .unset] [(.int (own_sw2 ys f t))]))
  by_cases hS : (own_sw2 ys f t) = (0 : Int32)
  · have _h := hS
    refine own_go (fun _ kont => XS.ifYes X2.here hx rfl (pc0 := 9) (pc' := 14) rfl (hb hby own_d2_9) rfl ((if0 _ _).trans (teq hS).1) (by decide) (by decide) kont) ?_
    show own_Go _ _ _ _ (T2.setTop (mkF m 14 #[.val (.ref a1), .val (.int f), .val (.int t), .unset] []))
    refine own_go (fun _ kont => XS.iloadN X2.here hx rfl (hb hby own_d2_14) rfl kont) ?_
    show own_Go _ _ _ _ (T2.setTop (mkF m 15 #[.val (.ref a1), .val (.int f), .val (.int t), .unset] [(.int f)]))
    refine own_go (fun _ kont => XS.istoreN X2.here hx rfl (hb hby own_d2_15) rfl (l' := #[.val (.ref a1), .val (.int f), .val (.int t), .val (.int f)]) rfl kont) ?_
    show own_Go _ _ _ _ (T2.setTop (mkF m 16 #[.val (.ref a1), .val (.int f), .val (.int t), .val (.int f)] []))
    obtain ⟨R, hR0⟩ : ∃ R, own_scan ys t 9 f = R := ⟨_, rfl⟩
    have hE : own_end ys f t = R := (if_pos hS).trans hR0
    have loop : ∀ (k : Nat) (i : Int32) (T : State) (L : List Loc) (X : Stand p l e ({ frames := 1, cells := 0, slots := 0, locals := 16 } : Room) s m #[(.ref a1), (.int f), (.int t)] below meth c T L 0 0) (N : Fr n0 L) (eT : T.heap = h0) (i1 : 0 ≤ i.toInt) (i2 : i.toInt ≤ 9) (ik : t.toInt - 3 - i.toInt ≤ k) (hR : own_scan ys t k i = R), own_Go p.tables e below (own_End s below (fun v h L => v = some (.int (own_end ys f t)) ∧ Fr n0 L ∧ h = h0) ({ frames := 1, cells := 0, slots := 0, locals := 16 } : Room).cells ({ frames := 1, cells := 0, slots := 0, locals := 16 } : Room).slots) (T.setTop (mkF m 16 #[.val (.ref a1), .val (.int f), .val (.int t), .val (.int i)] [])) := by
      have a4 := c_isub t 4; have r4 := rng32 (t - 4); have e4 : (4 : Int32).toInt = 4 := rfl
      rw [e4] at a4
      intro k
      induction k with
      | zero =>
        intro i T L X N eT i1 i2 ik hR
        have hR : (-1 : Int32) = R := hR
        refine own_go (fun _ kont => XS.iloadN X.here hx rfl (hb hby own_d2_16) rfl kont) ?_
        show own_Go _ _ _ _ (T.setTop (mkF m 17 #[.val (.ref a1), .val (.int f), .val (.int t), .val (.int i)] [(.int i)]))
        refine own_go (fun _ kont => XS.iloadN X.here hx rfl (hb hby own_d2_17) rfl kont) ?_
        show own_Go _ _ _ _ (T.setTop (mkF m 18 #[.val (.ref a1), .val (.int f), .val (.int t), .val (.int i)] [(.int t), (.int i)]))
        obtain ⟨T3, X3, e3, st3⟩ := getS2 X hx hZ hown (host := "") (Or.inl (hw _ (List.mem_of_getElem? (i := 15) rfl))) Via.refl eT S_B (g := (mkF m 18 #[.val (.ref a1), .val (.int f), .val (.int t), .val (.int i)] [(.int t), (.int i)])) rfl (hb hby own_d2_18)
        refine own_go st3 ?_
        show own_Go _ _ _ _ (T3.setTop (mkF m 21 #[.val (.ref a1), .val (.int f), .val (.int t), .val (.int i)] [(.ref aB), (.int t), (.int i)]))
        obtain ⟨cl4, Ar4, -, Sz4, Ng4, -, -⟩ := id V_B
        refine own_go (X3.arraylength hx (own_hp e3 Ar4.1) (State.isArrayOf_alike hZ.alike Ar4.2.1) (g := (mkF m 21 #[.val (.ref a1), .val (.int f), .val (.int t), .val (.int i)] [(.ref aB), (.int t), (.int i)])) rfl rfl (hb hby own_d2_21)) ?_
        rw [len_of Sz4 Ng4]
        show own_Go _ _ _ _ (T3.setTop (mkF m 22 #[.val (.ref a1), .val (.int f), .val (.int t), .val (.int i)] [(.int (4 : Int32)), (.int t), (.int i)]))
        refine own_go (fun _ kont => XS.isub X3.here hx rfl (hb hby own_d2_22) rfl kont) ?_
        show own_Go _ _ _ _ (T3.setTop (mkF m 23 #[.val (.ref a1), .val (.int f), .val (.int t), .val (.int i)] [(.int (t - (4 : Int32))), (.int i)]))
        refine own_go (fun _ kont => XS.icmpYes X3.here hx rfl (pc0 := 23) (pc' := 51) rfl (hb hby own_d2_23) rfl (tlt (by rw [Int32.lt_iff_toInt_lt]; omega)).2.2.1 (by decide) (by decide) kont) ?_
        show own_Go _ _ _ _ (T3.setTop (mkF m 51 #[.val (.ref a1), .val (.int f), .val (.int t), .val (.int i)] []))
        refine own_go (fun _ kont => XS.iconst X3.here hx rfl (hb hby own_d2_51) kont) ?_
        show own_Go _ _ _ _ (T3.setTop (mkF m 52 #[.val (.ref a1), .val (.int f), .val (.int t), .val (.int i)] [(.int (-1 : Int32))]))
        refine own_ret X3 hlk (v := some (.int (-1 : Int32))) (fun h => by rw [Bd.returns] at h; cases h) (fun fs hr => retOut X3 hx Bd.returns rfl (Or.inl ⟨rfl, Or.inl rfl, _, rfl⟩) (hb hby own_d2_52) hr) ?_ (by decide) (by decide)
        try rw [e3]
        exact ⟨congrArg (fun z => some (Value.int z)) (hR.trans hE.symm), N, rfl⟩
      | succ k ih =>
        intro i T L X N eT i1 i2 ik hR
        rw [own_scanS] at hR
        refine own_go (fun _ kont => XS.iloadN X.here hx rfl (hb hby own_d2_16) rfl kont) ?_
        show own_Go _ _ _ _ (T.setTop (mkF m 17 #[.val (.ref a1), .val (.int f), .val (.int t), .val (.int i)] [(.int i)]))
        refine own_go (fun _ kont => XS.iloadN X.here hx rfl (hb hby own_d2_17) rfl kont) ?_
        show own_Go _ _ _ _ (T.setTop (mkF m 18 #[.val (.ref a1), .val (.int f), .val (.int t), .val (.int i)] [(.int t), (.int i)]))
        obtain ⟨T5, X5, e5, st5⟩ := getS2 X hx hZ hown (host := "") (Or.inl (hw _ (List.mem_of_getElem? (i := 15) rfl))) Via.refl eT S_B (g := (mkF m 18 #[.val (.ref a1), .val (.int f), .val (.int t), .val (.int i)] [(.int t), (.int i)])) rfl (hb hby own_d2_18)
        refine own_go st5 ?_
        show own_Go _ _ _ _ (T5.setTop (mkF m 21 #[.val (.ref a1), .val (.int f), .val (.int t), .val (.int i)] [(.ref aB), (.int t), (.int i)]))
        obtain ⟨cl6, Ar6, -, Sz6, Ng6, -, -⟩ := id V_B
        refine own_go (X5.arraylength hx (own_hp e5 Ar6.1) (State.isArrayOf_alike hZ.alike Ar6.2.1) (g := (mkF m 21 #[.val (.ref a1), .val (.int f), .val (.int t), .val (.int i)] [(.ref aB), (.int t), (.int i)])) rfl rfl (hb hby own_d2_21)) ?_
        rw [len_of Sz6 Ng6]
        show own_Go _ _ _ _ (T5.setTop (mkF m 22 #[.val (.ref a1), .val (.int f), .val (.int t), .val (.int i)] [(.int (4 : Int32)), (.int t), (.int i)]))
        refine own_go (fun _ kont => XS.isub X5.here hx rfl (hb hby own_d2_22) rfl kont) ?_
        show own_Go _ _ _ _ (T5.setTop (mkF m 23 #[.val (.ref a1), .val (.int f), .val (.int t), .val (.int i)] [(.int (t - (4 : Int32))), (.int i)]))
        by_cases hl : (t - (4 : Int32)) < i
        · have _h := hl
          refine own_go (fun _ kont => XS.icmpYes X5.here hx rfl (pc0 := 23) (pc' := 51) rfl (hb hby own_d2_23) rfl (tlt hl).2.2.1 (by decide) (by decide) kont) ?_
          show own_Go _ _ _ _ (T5.setTop (mkF m 51 #[.val (.ref a1), .val (.int f), .val (.int t), .val (.int i)] []))
          refine own_go (fun _ kont => XS.iconst X5.here hx rfl (hb hby own_d2_51) kont) ?_
          show own_Go _ _ _ _ (T5.setTop (mkF m 52 #[.val (.ref a1), .val (.int f), .val (.int t), .val (.int i)] [(.int (-1 : Int32))]))
          refine own_ret X5 hlk (v := some (.int (-1 : Int32))) (fun h => by rw [Bd.returns] at h; cases h) (fun fs hr => retOut X5 hx Bd.returns rfl (Or.inl ⟨rfl, Or.inl rfl, _, rfl⟩) (hb hby own_d2_52) hr) ?_ (by decide) (by decide)
          try rw [e5]
          exact ⟨congrArg (fun z => some (Value.int z)) (((if_pos hl).symm.trans hR).trans hE.symm), N, rfl⟩
        · have _h := hl
          refine own_go (fun _ kont => XS.icmpNo X5.here hx rfl (hb hby own_d2_23) rfl (flt hl).2.2.1 kont) ?_
          show own_Go _ _ _ _ (T5.setTop (mkF m 26 #[.val (.ref a1), .val (.int f), .val (.int t), .val (.int i)] []))
          refine own_go (fun _ kont => XS.aloadN X5.here hx rfl (hb hby own_d2_26) rfl rfl kont) ?_
          show own_Go _ _ _ _ (T5.setTop (mkF m 27 #[.val (.ref a1), .val (.int f), .val (.int t), .val (.int i)] [(.ref a1)]))
          refine own_go (fun _ kont => XS.iloadN X5.here hx rfl (hb hby own_d2_27) rfl kont) ?_
          show own_Go _ _ _ _ (T5.setTop (mkF m 28 #[.val (.ref a1), .val (.int f), .val (.int t), .val (.int i)] [(.int i), (.ref a1)]))
          refine own_go (fun _ kont => XS.iloadN X5.here hx rfl (hb hby own_d2_28) rfl kont) ?_
          show own_Go _ _ _ _ (T5.setTop (mkF m 29 #[.val (.ref a1), .val (.int f), .val (.int t), .val (.int i)] [(.int t), (.int i), (.ref a1)]))
          obtain ⟨T7, X7, e7, st7⟩ := getS2 X5 hx hZ hown (host := "") (Or.inl (hw _ (List.mem_of_getElem? (i := 15) rfl))) Via.refl e5 S_B (g := (mkF m 29 #[.val (.ref a1), .val (.int f), .val (.int t), .val (.int i)] [(.int t), (.int i), (.ref a1)])) rfl (hb hby own_d2_29)
          refine own_go st7 ?_
          show own_Go _ _ _ _ (T7.setTop (mkF m 32 #[.val (.ref a1), .val (.int f), .val (.int t), .val (.int i)] [(.ref aB), (.int t), (.int i), (.ref a1)]))
          have i3 : i.toInt ≤ 8 := by rw [Int32.lt_iff_toInt_lt] at hl; omega
          obtain ⟨_, _, ⟨T8, L8, k8, n8⟩, -, X8, ⟨Lc8, hQ8, l8, y8, z8⟩, st8⟩ := Jvm.LawKit.callS X7 hx (y := (⟨"com/example/chartpost/chartpost/http/HeaderFields", "startsWith", "([BII[B)Z"⟩ : MethodName)) hown (mvT hZ (hw _ (List.mem_of_getElem? (i := 12) rfl))) (mvT hZ (hw _ (List.mem_of_getElem? (i := 13) rfl))) (mvT hZ (hw _ (List.mem_of_getElem? (i := 8) rfl))) (mvT hZ (hw _ (List.mem_of_getElem? (i := 14) rfl))) (by decide) (own_back (W := 0) (own_rmW4 l Z a0 hw a1 i t aB ys k1 kB h0 n0 Z0 V1 V_B i1 i3 ht) hZ (hw _ (List.mem_of_getElem? (i := 14) rfl)) (hw _ (List.mem_of_getElem? (i := 8) rfl)) (by decide) (by decide)) (g := (mkF m 32 #[.val (.ref a1), .val (.int f), .val (.int t), .val (.int i)] [(.ref aB), (.int t), (.int i), (.ref a1)])) rfl (by rw [hml]; rfl) (argsL := [(.ref a1), (.int i), (.int t), (.ref aB)]) (rest := []) (lenOf own_pd0 rfl) rfl (by show 2 * 0 + _ ≤ _; exact Nat.le_of_eq rfl) (hb hby own_d2_32) (fun _ _ => ⟨rfl, e7, (by decide : 0 + 0 ≤ _), (by decide : 0 + 0 ≤ _)⟩)
          dsimp only [Pt.U, Pt.locs, Pt.cells, Pt.slots] at X8 l8 y8 z8 st8 hQ8
          replace X8 := own_cst X8 l8 y8 z8 (k2 := 0) (n2 := 0) rfl rfl
          clear l8 y8 z8
          obtain ⟨rfl, Nq8, eq8⟩ := hQ8
          have NF8 := Fr.app N Nq8
          refine own_go st8 ?_
          show own_Go _ _ _ _ (T8.setTop (mkF m 35 #[.val (.ref a1), .val (.int f), .val (.int t), .val (.int i)] [(.int (own_sw4 ys i t))]))
          by_cases hs4 : (own_sw4 ys i t) = (0 : Int32)
          · have _h := hs4
            refine own_go (fun _ kont => XS.ifYes X8.here hx rfl (pc0 := 35) (pc' := 45) rfl (hb hby own_d2_35) rfl ((if0 _ _).trans (teq hs4).1) (by decide) (by decide) kont) ?_
            show own_Go _ _ _ _ (T8.setTop (mkF m 45 #[.val (.ref a1), .val (.int f), .val (.int t), .val (.int i)] []))
            refine own_go (fun _ kont => XS.iinc X8.here hx rfl (hb hby own_d2_45) rfl (l' := #[.val (.ref a1), .val (.int f), .val (.int t), .val (.int (i + (1 : Int32)))]) rfl kont) ?_
            show own_Go _ _ _ _ (T8.setTop (mkF m 48 #[.val (.ref a1), .val (.int f), .val (.int t), .val (.int (i + (1 : Int32)))] []))
            refine own_go (fun _ kont => XS.goto X8.here hx rfl (pc0 := 48) (pc' := 16) rfl (hb hby own_d2_48) (by decide) (by decide) kont) ?_
            show own_Go _ _ _ _ (T8.setTop (mkF m 16 #[.val (.ref a1), .val (.int f), .val (.int t), .val (.int (i + (1 : Int32)))] []))
            exact ih (i + (1 : Int32)) _ _ X8 NF8 eq8 (by have := c_iadd i 1; have := rng32 (i + 1); have e1 : (1 : Int32).toInt = 1 := rfl; omega) (by have := c_iadd i 1; have := rng32 (i + 1); have e1 : (1 : Int32).toInt = 1 := rfl; omega) (by have := c_iadd i 1; have := rng32 (i + 1); have e1 : (1 : Int32).toInt = 1 := rfl; omega) ((if_pos hs4).symm.trans ((if_neg hl).symm.trans hR))
          · have _h := hs4
            refine own_go (fun _ kont => XS.ifNo X8.here hx rfl (hb hby own_d2_35) rfl ((if0 _ _).trans (feq hs4).1) kont) ?_
            show own_Go _ _ _ _ (T8.setTop (mkF m 38 #[.val (.ref a1), .val (.int f), .val (.int t), .val (.int i)] []))
            refine own_go (fun _ kont => XS.iloadN X8.here hx rfl (hb hby own_d2_38) rfl kont) ?_
            show own_Go _ _ _ _ (T8.setTop (mkF m 39 #[.val (.ref a1), .val (.int f), .val (.int t), .val (.int i)] [(.int i)]))
            obtain ⟨T9, X9, e9, st9⟩ := getS2 X8 hx hZ hown (host := "") (Or.inl (hw _ (List.mem_of_getElem? (i := 10) rfl))) Via.refl eq8 S_C (g := (mkF m 39 #[.val (.ref a1), .val (.int f), .val (.int t), .val (.int i)] [(.int i)])) rfl (hb hby own_d2_39)
            refine own_go st9 ?_
            show own_Go _ _ _ _ (T9.setTop (mkF m 42 #[.val (.ref a1), .val (.int f), .val (.int t), .val (.int i)] [(.ref aC), (.int i)]))
            obtain ⟨cl10, Ar10, -, Sz10, Ng10, -, -⟩ := id V_C
            refine own_go (X9.arraylength hx (own_hp e9 Ar10.1) (State.isArrayOf_alike hZ.alike Ar10.2.1) (g := (mkF m 42 #[.val (.ref a1), .val (.int f), .val (.int t), .val (.int i)] [(.ref aC), (.int i)])) rfl rfl (hb hby own_d2_42)) ?_
            rw [len_of Sz10 Ng10]
            show own_Go _ _ _ _ (T9.setTop (mkF m 43 #[.val (.ref a1), .val (.int f), .val (.int t), .val (.int i)] [(.int (2 : Int32)), (.int i)]))
            refine own_go (fun _ kont => XS.iadd X9.here hx rfl (hb hby own_d2_43) rfl kont) ?_
            show own_Go _ _ _ _ (T9.setTop (mkF m 44 #[.val (.ref a1), .val (.int f), .val (.int t), .val (.int i)] [(.int (i + (2 : Int32)))]))
            refine own_ret X9 hlk (v := some (.int (i + (2 : Int32)))) (fun h => by rw [Bd.returns] at h; cases h) (fun fs hr => retOut X9 hx Bd.returns rfl (Or.inl ⟨rfl, Or.inl rfl, _, rfl⟩) (hb hby own_d2_44) hr) ?_ (by decide) (by decide)
            try rw [e9]
            exact ⟨congrArg (fun z => some (Value.int z)) (((if_neg hs4).symm.trans ((if_neg hl).symm.trans hR)).trans hE.symm), NF8, rfl⟩
    exact loop 9 f _ _ X2 NF2 eq2 h1 (by omega) (by omega) hR0
  · have _h := hS
    refine own_go (fun _ kont => XS.ifNo X2.here hx rfl (hb hby own_d2_9) rfl ((if0 _ _).trans (feq hS).1) kont) ?_
    show own_Go _ _ _ _ (T2.setTop (mkF m 12 #[.val (.ref a1), .val (.int f), .val (.int t), .unset] []))
    refine own_go (fun _ kont => XS.iloadN X2.here hx rfl (hb hby own_d2_12) rfl kont) ?_
    show own_Go _ _ _ _ (T2.setTop (mkF m 13 #[.val (.ref a1), .val (.int f), .val (.int t), .unset] [(.int f)]))
    refine own_ret X2 hlk (v := some (.int f)) (fun h => by rw [Bd.returns] at h; cases h) (fun fs hr => retOut X2 hx Bd.returns rfl (Or.inl ⟨rfl, Or.inl rfl, _, rfl⟩) (hb hby own_d2_13) hr) ?_ (by decide) (by decide)
    try rw [eq2]
    exact ⟨by rw [show own_end ys f t = f from if_neg hS], NF2, rfl⟩
theorem own_d1_0 : decode method_2_code 0 = .ok (.iload_n 0, 1) := by decide +kernel
theorem own_d1_1 : decode method_2_code 1 = .ok (.iconst 2, 1) := by decide +kernel
theorem own_d1_2 : decode method_2_code 2 = .ok (.iload_n 3, 1) := by decide +kernel
theorem own_d1_3 : decode method_2_code 3 = .ok (.imul, 1) := by decide +kernel
theorem own_d1_4 : decode method_2_code 4 = .ok (.iushr, 1) := by decide +kernel
theorem own_d1_5 : decode method_2_code 5 = .ok (.iconst 3, 1) := by decide +kernel
theorem own_d1_6 : decode method_2_code 6 = .ok (.iand, 1) := by decide +kernel
theorem own_d1_7 : decode method_2_code 7 = .ok (.istore 4, 2) := by decide +kernel
theorem own_d1_9 : decode method_2_code 9 = .ok (.iload 4, 2) := by decide +kernel
theorem own_d1_11 : decode method_2_code 11 = .ok (.ifCond .ne 6, 3) := by decide +kernel
theorem own_d1_14 : decode method_2_code 14 = .ok (.bipush 13, 2) := by decide +kernel
theorem own_d1_16 : decode method_2_code 16 = .ok (.ireturn, 1) := by decide +kernel
theorem own_d1_17 : decode method_2_code 17 = .ok (.iload 4, 2) := by decide +kernel
theorem own_d1_19 : decode method_2_code 19 = .ok (.iconst 1, 1) := by decide +kernel
theorem own_d1_20 : decode method_2_code 20 = .ok (.if_icmp .ne 6, 3) := by decide +kernel
theorem own_d1_23 : decode method_2_code 23 = .ok (.bipush 10, 2) := by decide +kernel
theorem own_d1_25 : decode method_2_code 25 = .ok (.ireturn, 1) := by decide +kernel
theorem own_d1_26 : decode method_2_code 26 = .ok (.lload_n 1, 1) := by decide +kernel
theorem own_d1_27 : decode method_2_code 27 = .ok (.bipush 8, 2) := by decide +kernel
theorem own_d1_29 : decode method_2_code 29 = .ok (.iload_n 3, 1) := by decide +kernel
theorem own_d1_30 : decode method_2_code 30 = .ok (.imul, 1) := by decide +kernel
theorem own_d1_31 : decode method_2_code 31 = .ok (.lushr, 1) := by decide +kernel
theorem own_d1_32 : decode method_2_code 32 = .ok (.l2i, 1) := by decide +kernel
theorem own_d1_33 : decode method_2_code 33 = .ok (.i2b, 1) := by decide +kernel
theorem own_d1_34 : decode method_2_code 34 = .ok (.ireturn, 1) := by decide +kernel
theorem own_pn1 : plainName "com/example/chartpost/chartpost/http/HeaderFieldsEndPinLaw" = true := by first | (simp [plainName, overriddenIn]; done) | decide +kernel
set_option maxRecDepth 65536 in
set_option maxHeartbeats 40000000 in
theorem own_rmP (l : Launch) (Z : State) (a0 : Array Value) (hw : ∀ d ∈ tables_1, d.before a0 Z = true) (p1 : Int32) (q2 : Int64) (p4 : Int32) (h0 : Heap) (n0 : Nat) (Z0 : n0 ≤ h0.size)  :
    own_Met l Z [] (⟨"com/example/chartpost/chartpost/http/HeaderFieldsEndPinLaw", "pick", "(IJI)B"⟩ : MethodName) method_2_code 5 (some .byte) ({ frames := 0, cells := 0, slots := 0, locals := 0 } : Room) #[(.int p1), (.long q2), (.int p4)] h0 (fun v h L => ∃ z : Int32, v = some (.int z) ∧ Fr n0 L ∧ h = h0) := by
  refine MetFree.of_bodySF (plainFor_of_name own_pn1) hisR ?_
  intro p e s m args below meth c s₁ Bd hml0 hP hK
  obtain ⟨rfl, hZ, hh⟩ := hP
  have hx := Bd.exec
  have hby := Bd.bytes
  have hml : c.maxLocals = 5 := hml0
  have hown : s.vm.findClass "com/example/chartpost/chartpost/http/HeaderFieldsEndPinLaw" = some m.cls := findClass_of_methodNamed Bd.named
  have hnm := (name_of_methodNamed Bd.named Bd.method).1
  have hlk : meth.locks = false := Bd.notSynchronized
  have X0 : Stand p l e ({ frames := 0, cells := 0, slots := 0, locals := 0 } : Room) s m #[(.int p1), (.long q2), (.int p4)] below meth c s₁ [] 0 0 := Stand.of_body Bd
  have e0 : s₁.heap = h0 := by rw [← hh, Bd.state]; rfl
  have N0 := Fr.nil n0
  refine own_body (Q := fun v h L => ∃ z : Int32, v = some (.int z) ∧ Fr n0 L ∧ h = h0) ?_
  refine own_go (fun _ kont => castTop (own_ef m #[(.int p1), (.long q2), (.int p4)] 5 #[.val (.int p1), .val (.long q2), .second, .val (.int p4), .unset] (own_al [(.int p1), (.long q2), (.int p4)] 5 [.val (.int p1), .val (.long q2), .second, .val (.int p4), .unset] rfl)) kont) ?_
  show own_Go _ _ _ _ (s₁.setTop (mkF m 0 #[.val (.int p1), .val (.long q2), .second, .val (.int p4), .unset] []))
  refine own_go (fun _ kont => XS.iloadN X0.here hx rfl (hb hby own_d1_0) rfl kont) ?_
  show own_Go _ _ _ _ (s₁.setTop (mkF m 1 #[.val (.int p1), .val (.long q2), .second, .val (.int p4), .unset] [(.int p1)]))
  refine own_go (fun _ kont => XS.iconst X0.here hx rfl (hb hby own_d1_1) kont) ?_
  show own_Go _ _ _ _ (s₁.setTop (mkF m 2 #[.val (.int p1), .val (.long q2), .second, .val (.int p4), .unset] [(.int (2 : Int32)), (.int p1)]))
  refine own_go (fun _ kont => XS.iloadN X0.here hx rfl (hb hby own_d1_2) rfl kont) ?_
  show own_Go _ _ _ _ (s₁.setTop (mkF m 3 #[.val (.int p1), .val (.long q2), .second, .val (.int p4), .unset] [(.int p4), (.int (2 : Int32)), (.int p1)]))
  refine own_go (fun _ kont => XS.imul X0.here hx rfl (hb hby own_d1_3) rfl kont) ?_
  show own_Go _ _ _ _ (s₁.setTop (mkF m 4 #[.val (.int p1), .val (.long q2), .second, .val (.int p4), .unset] [(.int ((2 : Int32) * p4)), (.int p1)]))
  refine own_go (fun _ kont => XS.iushr X0.here hx rfl (hb hby own_d1_4) rfl kont) ?_
  show own_Go _ _ _ _ (s₁.setTop (mkF m 5 #[.val (.int p1), .val (.long q2), .second, .val (.int p4), .unset] [(.int ((p1.toUInt32 >>> (((2 : Int32) * p4) &&& 31).toUInt32).toInt32))]))
  refine own_go (fun _ kont => XS.iconst X0.here hx rfl (hb hby own_d1_5) kont) ?_
  show own_Go _ _ _ _ (s₁.setTop (mkF m 6 #[.val (.int p1), .val (.long q2), .second, .val (.int p4), .unset] [(.int (3 : Int32)), (.int ((p1.toUInt32 >>> (((2 : Int32) * p4) &&& 31).toUInt32).toInt32))]))
  refine own_go (fun _ kont => XS.iand X0.here hx rfl (hb hby own_d1_6) rfl kont) ?_
  show own_Go _ _ _ _ (s₁.setTop (mkF m 7 #[.val (.int p1), .val (.long q2), .second, .val (.int p4), .unset] [(.int (((p1.toUInt32 >>> (((2 : Int32) * p4) &&& 31).toUInt32).toInt32) &&& (3 : Int32)))]))
  refine own_go (fun _ kont => XS.istore X0.here hx rfl (hb hby own_d1_7) rfl (l' := #[.val (.int p1), .val (.long q2), .second, .val (.int p4), .val (.int (((p1.toUInt32 >>> (((2 : Int32) * p4) &&& 31).toUInt32).toInt32) &&& (3 : Int32)))]) rfl kont) ?_
  show own_Go _ _ _ _ (s₁.setTop (mkF m 9 #[.val (.int p1), .val (.long q2), .second, .val (.int p4), .val (.int (((p1.toUInt32 >>> (((2 : Int32) * p4) &&& 31).toUInt32).toInt32) &&& (3 : Int32)))] []))
  refine own_go (fun _ kont => XS.iload X0.here hx rfl (hb hby own_d1_9) rfl kont) ?_
  show own_Go _ _ _ _ (s₁.setTop (mkF m 11 #[.val (.int p1), .val (.long q2), .second, .val (.int p4), .val (.int (((p1.toUInt32 >>> (((2 : Int32) * p4) &&& 31).toUInt32).toInt32) &&& (3 : Int32)))] [(.int (((p1.toUInt32 >>> (((2 : Int32) * p4) &&& 31).toUInt32).toInt32) &&& (3 : Int32)))]))
  by_cases hc11 : (((p1.toUInt32 >>> (((2 : Int32) * p4) &&& 31).toUInt32).toInt32) &&& (3 : Int32)) = (0 : Int32)
  · have _h := hc11
    refine own_go (fun _ kont => XS.ifNo X0.here hx rfl (hb hby own_d1_11) rfl ((if0 _ _).trans (teq hc11).2) kont) ?_
    show own_Go _ _ _ _ (s₁.setTop (mkF m 14 #[.val (.int p1), .val (.long q2), .second, .val (.int p4), .val (.int (((p1.toUInt32 >>> (((2 : Int32) * p4) &&& 31).toUInt32).toInt32) &&& (3 : Int32)))] []))
    refine own_go (fun _ kont => XS.bipush X0.here hx rfl (hb hby own_d1_14) kont) ?_
    show own_Go _ _ _ _ (s₁.setTop (mkF m 16 #[.val (.int p1), .val (.long q2), .second, .val (.int p4), .val (.int (((p1.toUInt32 >>> (((2 : Int32) * p4) &&& 31).toUInt32).toInt32) &&& (3 : Int32)))] [(.int (13 : Int32))]))
    refine own_ret X0 hlk (v := some (.int (nar .byte (13 : Int32)))) (fun h => by rw [Bd.returns] at h; cases h) (fun fs hr => retN X0 hx (t := .byte) Bd.returns (by simp) (hb hby own_d1_16) hr) ?_ (by decide) (by decide)
    try rw [e0]
    exact ⟨_, rfl, N0, rfl⟩
  · have _h := hc11
    refine own_go (fun _ kont => XS.ifYes X0.here hx rfl (pc0 := 11) (pc' := 17) rfl (hb hby own_d1_11) rfl ((if0 _ _).trans (feq hc11).2) (by decide) (by decide) kont) ?_
    show own_Go _ _ _ _ (s₁.setTop (mkF m 17 #[.val (.int p1), .val (.long q2), .second, .val (.int p4), .val (.int (((p1.toUInt32 >>> (((2 : Int32) * p4) &&& 31).toUInt32).toInt32) &&& (3 : Int32)))] []))
    refine own_go (fun _ kont => XS.iload X0.here hx rfl (hb hby own_d1_17) rfl kont) ?_
    show own_Go _ _ _ _ (s₁.setTop (mkF m 19 #[.val (.int p1), .val (.long q2), .second, .val (.int p4), .val (.int (((p1.toUInt32 >>> (((2 : Int32) * p4) &&& 31).toUInt32).toInt32) &&& (3 : Int32)))] [(.int (((p1.toUInt32 >>> (((2 : Int32) * p4) &&& 31).toUInt32).toInt32) &&& (3 : Int32)))]))
    refine own_go (fun _ kont => XS.iconst X0.here hx rfl (hb hby own_d1_19) kont) ?_
    show own_Go _ _ _ _ (s₁.setTop (mkF m 20 #[.val (.int p1), .val (.long q2), .second, .val (.int p4), .val (.int (((p1.toUInt32 >>> (((2 : Int32) * p4) &&& 31).toUInt32).toInt32) &&& (3 : Int32)))] [(.int (1 : Int32)), (.int (((p1.toUInt32 >>> (((2 : Int32) * p4) &&& 31).toUInt32).toInt32) &&& (3 : Int32)))]))
    by_cases hc20 : (((p1.toUInt32 >>> (((2 : Int32) * p4) &&& 31).toUInt32).toInt32) &&& (3 : Int32)) = (1 : Int32)
    · have _h := hc20
      refine own_go (fun _ kont => XS.icmpNo X0.here hx rfl (hb hby own_d1_20) rfl (teq hc20).2 kont) ?_
      show own_Go _ _ _ _ (s₁.setTop (mkF m 23 #[.val (.int p1), .val (.long q2), .second, .val (.int p4), .val (.int (((p1.toUInt32 >>> (((2 : Int32) * p4) &&& 31).toUInt32).toInt32) &&& (3 : Int32)))] []))
      refine own_go (fun _ kont => XS.bipush X0.here hx rfl (hb hby own_d1_23) kont) ?_
      show own_Go _ _ _ _ (s₁.setTop (mkF m 25 #[.val (.int p1), .val (.long q2), .second, .val (.int p4), .val (.int (((p1.toUInt32 >>> (((2 : Int32) * p4) &&& 31).toUInt32).toInt32) &&& (3 : Int32)))] [(.int (10 : Int32))]))
      refine own_ret X0 hlk (v := some (.int (nar .byte (10 : Int32)))) (fun h => by rw [Bd.returns] at h; cases h) (fun fs hr => retN X0 hx (t := .byte) Bd.returns (by simp) (hb hby own_d1_25) hr) ?_ (by decide) (by decide)
      try rw [e0]
      exact ⟨_, rfl, N0, rfl⟩
    · have _h := hc20
      refine own_go (fun _ kont => XS.icmpYes X0.here hx rfl (pc0 := 20) (pc' := 26) rfl (hb hby own_d1_20) rfl (feq hc20).2 (by decide) (by decide) kont) ?_
      show own_Go _ _ _ _ (s₁.setTop (mkF m 26 #[.val (.int p1), .val (.long q2), .second, .val (.int p4), .val (.int (((p1.toUInt32 >>> (((2 : Int32) * p4) &&& 31).toUInt32).toInt32) &&& (3 : Int32)))] []))
      refine own_go (fun _ kont => XS.lloadN X0.here hx rfl (hb hby own_d1_26) rfl kont) ?_
      show own_Go _ _ _ _ (s₁.setTop (mkF m 27 #[.val (.int p1), .val (.long q2), .second, .val (.int p4), .val (.int (((p1.toUInt32 >>> (((2 : Int32) * p4) &&& 31).toUInt32).toInt32) &&& (3 : Int32)))] [(.long q2)]))
      refine own_go (fun _ kont => XS.bipush X0.here hx rfl (hb hby own_d1_27) kont) ?_
      show own_Go _ _ _ _ (s₁.setTop (mkF m 29 #[.val (.int p1), .val (.long q2), .second, .val (.int p4), .val (.int (((p1.toUInt32 >>> (((2 : Int32) * p4) &&& 31).toUInt32).toInt32) &&& (3 : Int32)))] [(.int (8 : Int32)), (.long q2)]))
      refine own_go (fun _ kont => XS.iloadN X0.here hx rfl (hb hby own_d1_29) rfl kont) ?_
      show own_Go _ _ _ _ (s₁.setTop (mkF m 30 #[.val (.int p1), .val (.long q2), .second, .val (.int p4), .val (.int (((p1.toUInt32 >>> (((2 : Int32) * p4) &&& 31).toUInt32).toInt32) &&& (3 : Int32)))] [(.int p4), (.int (8 : Int32)), (.long q2)]))
      refine own_go (fun _ kont => XS.imul X0.here hx rfl (hb hby own_d1_30) rfl kont) ?_
      show own_Go _ _ _ _ (s₁.setTop (mkF m 31 #[.val (.int p1), .val (.long q2), .second, .val (.int p4), .val (.int (((p1.toUInt32 >>> (((2 : Int32) * p4) &&& 31).toUInt32).toInt32) &&& (3 : Int32)))] [(.int ((8 : Int32) * p4)), (.long q2)]))
      refine own_go (fun _ kont => XS.lushr X0.here hx rfl (hb hby own_d1_31) rfl kont) ?_
      show own_Go _ _ _ _ (s₁.setTop (mkF m 32 #[.val (.int p1), .val (.long q2), .second, .val (.int p4), .val (.int (((p1.toUInt32 >>> (((2 : Int32) * p4) &&& 31).toUInt32).toInt32) &&& (3 : Int32)))] [(.long ((q2.toUInt64 >>> (((8 : Int32) * p4) &&& 0x3f).toInt64.toUInt64).toInt64))]))
      refine own_go (fun _ kont => XS.l2i X0.here hx rfl (hb hby own_d1_32) rfl kont) ?_
      show own_Go _ _ _ _ (s₁.setTop (mkF m 33 #[.val (.int p1), .val (.long q2), .second, .val (.int p4), .val (.int (((p1.toUInt32 >>> (((2 : Int32) * p4) &&& 31).toUInt32).toInt32) &&& (3 : Int32)))] [(.int (((q2.toUInt64 >>> (((8 : Int32) * p4) &&& 0x3f).toInt64.toUInt64).toInt64).toInt32))]))
      refine own_go (fun _ kont => XS.i2b X0.here hx rfl (hb hby own_d1_33) rfl kont) ?_
      show own_Go _ _ _ _ (s₁.setTop (mkF m 34 #[.val (.int p1), .val (.long q2), .second, .val (.int p4), .val (.int (((p1.toUInt32 >>> (((2 : Int32) * p4) &&& 31).toUInt32).toInt32) &&& (3 : Int32)))] [(.int ((((q2.toUInt64 >>> (((8 : Int32) * p4) &&& 0x3f).toInt64.toUInt64).toInt64).toInt32).toInt8.toInt32))]))
      refine own_ret X0 hlk (v := some (.int (nar .byte ((((q2.toUInt64 >>> (((8 : Int32) * p4) &&& 0x3f).toInt64.toUInt64).toInt64).toInt32).toInt8.toInt32)))) (fun h => by rw [Bd.returns] at h; cases h) (fun fs hr => retN X0 hx (t := .byte) Bd.returns (by simp) (hb hby own_d1_34) hr) ?_ (by decide) (by decide)
      try rw [e0]
      exact ⟨_, rfl, N0, rfl⟩
theorem own_d4_0 : decode method_4_code 0 = .ok (.iload_n 1, 1) := by decide +kernel
theorem own_d4_1 : decode method_4_code 1 = .ok (.iload_n 2, 1) := by decide +kernel
theorem own_d4_2 : decode method_4_code 2 = .ok (.if_icmp .lt 52, 3) := by decide +kernel
theorem own_d4_5 : decode method_4_code 5 = .ok (.iload_n 1, 1) := by decide +kernel
theorem own_d4_6 : decode method_4_code 6 = .ok (.iconst 4, 1) := by decide +kernel
theorem own_d4_7 : decode method_4_code 7 = .ok (.iadd, 1) := by decide +kernel
theorem own_d4_8 : decode method_4_code 8 = .ok (.iload_n 3, 1) := by decide +kernel
theorem own_d4_9 : decode method_4_code 9 = .ok (.if_icmp .gt 45, 3) := by decide +kernel
theorem own_d4_12 : decode method_4_code 12 = .ok (.aload_n 0, 1) := by decide +kernel
theorem own_d4_13 : decode method_4_code 13 = .ok (.iload_n 1, 1) := by decide +kernel
theorem own_d4_14 : decode method_4_code 14 = .ok (.baload, 1) := by decide +kernel
theorem own_d4_15 : decode method_4_code 15 = .ok (.bipush 13, 2) := by decide +kernel
theorem own_d4_17 : decode method_4_code 17 = .ok (.if_icmp .ne 37, 3) := by decide +kernel
theorem own_d4_20 : decode method_4_code 20 = .ok (.aload_n 0, 1) := by decide +kernel
theorem own_d4_21 : decode method_4_code 21 = .ok (.iload_n 1, 1) := by decide +kernel
theorem own_d4_22 : decode method_4_code 22 = .ok (.iconst 1, 1) := by decide +kernel
theorem own_d4_23 : decode method_4_code 23 = .ok (.iadd, 1) := by decide +kernel
theorem own_d4_24 : decode method_4_code 24 = .ok (.baload, 1) := by decide +kernel
theorem own_d4_25 : decode method_4_code 25 = .ok (.bipush 10, 2) := by decide +kernel
theorem own_d4_27 : decode method_4_code 27 = .ok (.if_icmp .ne 27, 3) := by decide +kernel
theorem own_d4_30 : decode method_4_code 30 = .ok (.aload_n 0, 1) := by decide +kernel
theorem own_d4_31 : decode method_4_code 31 = .ok (.iload_n 1, 1) := by decide +kernel
theorem own_d4_32 : decode method_4_code 32 = .ok (.iconst 2, 1) := by decide +kernel
theorem own_d4_33 : decode method_4_code 33 = .ok (.iadd, 1) := by decide +kernel
theorem own_d4_34 : decode method_4_code 34 = .ok (.baload, 1) := by decide +kernel
theorem own_d4_35 : decode method_4_code 35 = .ok (.bipush 13, 2) := by decide +kernel
theorem own_d4_37 : decode method_4_code 37 = .ok (.if_icmp .ne 17, 3) := by decide +kernel
theorem own_d4_40 : decode method_4_code 40 = .ok (.aload_n 0, 1) := by decide +kernel
theorem own_d4_41 : decode method_4_code 41 = .ok (.iload_n 1, 1) := by decide +kernel
theorem own_d4_42 : decode method_4_code 42 = .ok (.iconst 3, 1) := by decide +kernel
theorem own_d4_43 : decode method_4_code 43 = .ok (.iadd, 1) := by decide +kernel
theorem own_d4_44 : decode method_4_code 44 = .ok (.baload, 1) := by decide +kernel
theorem own_d4_45 : decode method_4_code 45 = .ok (.bipush 10, 2) := by decide +kernel
theorem own_d4_47 : decode method_4_code 47 = .ok (.if_icmp .ne 7, 3) := by decide +kernel
theorem own_d4_50 : decode method_4_code 50 = .ok (.iconst 1, 1) := by decide +kernel
theorem own_d4_51 : decode method_4_code 51 = .ok (.goto 4, 3) := by decide +kernel
theorem own_d4_54 : decode method_4_code 54 = .ok (.iconst 0, 1) := by decide +kernel
theorem own_d4_55 : decode method_4_code 55 = .ok (.ireturn, 1) := by decide +kernel
set_option maxRecDepth 65536 in
set_option maxHeartbeats 40000000 in
theorem own_rmB (l : Launch) (Z : State) (a0 : Array Value) (hw : ∀ d ∈ tables_1, d.before a0 Z = true) (a1 : Addr) (k : Int32) (f : Int32) (t : Int32) (ys : List Int32) (k1 : ClassId) (h0 : Heap) (n0 : Nat) (Z0 : n0 ≤ h0.size) (V1 : Arv Z h0 a1 k1 .byte 8 (ys.map Value.int) (.int 0)) (h1 : 0 ≤ k.toInt) (h2 : k.toInt ≤ 4) :
    own_Met l Z [] (⟨"com/example/chartpost/chartpost/http/HeaderFieldsEndPinLaw", "blank", "([BIII)Z"⟩ : MethodName) method_4_code 4 (some .boolean) ({ frames := 0, cells := 0, slots := 0, locals := 0 } : Room) #[(.ref a1), (.int k), (.int f), (.int t)] h0 (fun v h L => v = some (.int (own_bk ys k f t)) ∧ Fr n0 L ∧ h = h0) := by
  refine MetFree.of_bodySF (plainFor_of_name own_pn1) hisR ?_
  intro p e s m args below meth c s₁ Bd hml0 hP hK
  obtain ⟨rfl, hZ, hh⟩ := hP
  have hx := Bd.exec
  have hby := Bd.bytes
  have hml : c.maxLocals = 4 := hml0
  have hown : s.vm.findClass "com/example/chartpost/chartpost/http/HeaderFieldsEndPinLaw" = some m.cls := findClass_of_methodNamed Bd.named
  have hnm := (name_of_methodNamed Bd.named Bd.method).1
  have hlk : meth.locks = false := Bd.notSynchronized
  have X0 : Stand p l e ({ frames := 0, cells := 0, slots := 0, locals := 0 } : Room) s m #[(.ref a1), (.int k), (.int f), (.int t)] below meth c s₁ [] 0 0 := Stand.of_body Bd
  have e0 : s₁.heap = h0 := by rw [← hh, Bd.state]; rfl
  have N0 := Fr.nil n0
  refine own_body (Q := fun v h L => v = some (.int (own_bk ys k f t)) ∧ Fr n0 L ∧ h = h0) ?_
  refine own_go (fun _ kont => castTop (own_ef m #[(.ref a1), (.int k), (.int f), (.int t)] 4 #[.val (.ref a1), .val (.int k), .val (.int f), .val (.int t)] (own_al [(.ref a1), (.int k), (.int f), (.int t)] 4 [.val (.ref a1), .val (.int k), .val (.int f), .val (.int t)] rfl)) kont) ?_
  show own_Go _ _ _ _ (s₁.setTop (mkF m 0 #[.val (.ref a1), .val (.int k), .val (.int f), .val (.int t)] []))
  refine own_go (fun _ kont => XS.iloadN X0.here hx rfl (hb hby own_d4_0) rfl kont) ?_
  show own_Go _ _ _ _ (s₁.setTop (mkF m 1 #[.val (.ref a1), .val (.int k), .val (.int f), .val (.int t)] [(.int k)]))
  refine own_go (fun _ kont => XS.iloadN X0.here hx rfl (hb hby own_d4_1) rfl kont) ?_
  show own_Go _ _ _ _ (s₁.setTop (mkF m 2 #[.val (.ref a1), .val (.int k), .val (.int f), .val (.int t)] [(.int f), (.int k)]))
  by_cases hc2 : k < f
  · have _h := hc2
    refine own_go (fun _ kont => XS.icmpYes X0.here hx rfl (pc0 := 2) (pc' := 54) rfl (hb hby own_d4_2) rfl (tlt hc2).1 (by decide) (by decide) kont) ?_
    show own_Go _ _ _ _ (s₁.setTop (mkF m 54 #[.val (.ref a1), .val (.int k), .val (.int f), .val (.int t)] []))
    refine own_go (fun _ kont => XS.iconst X0.here hx rfl (hb hby own_d4_54) kont) ?_
    show own_Go _ _ _ _ (s₁.setTop (mkF m 55 #[.val (.ref a1), .val (.int k), .val (.int f), .val (.int t)] [(.int (0 : Int32))]))
    refine own_ret X0 hlk (v := some (.int (0 : Int32))) (fun h => by rw [Bd.returns] at h; cases h) (fun fs hr => retN X0 hx (t := .boolean) Bd.returns (by simp) (hb hby own_d4_55) hr) ?_ (by decide) (by decide)
    try rw [e0]
    exact ⟨by rw [show own_bk ys k f t = (0 : Int32) from if_neg fun q => q.1 hc2], N0, rfl⟩
  · have _h := hc2
    refine own_go (fun _ kont => XS.icmpNo X0.here hx rfl (hb hby own_d4_2) rfl (flt hc2).1 kont) ?_
    show own_Go _ _ _ _ (s₁.setTop (mkF m 5 #[.val (.ref a1), .val (.int k), .val (.int f), .val (.int t)] []))
    refine own_go (fun _ kont => XS.iloadN X0.here hx rfl (hb hby own_d4_5) rfl kont) ?_
    show own_Go _ _ _ _ (s₁.setTop (mkF m 6 #[.val (.ref a1), .val (.int k), .val (.int f), .val (.int t)] [(.int k)]))
    refine own_go (fun _ kont => XS.iconst X0.here hx rfl (hb hby own_d4_6) kont) ?_
    show own_Go _ _ _ _ (s₁.setTop (mkF m 7 #[.val (.ref a1), .val (.int k), .val (.int f), .val (.int t)] [(.int (4 : Int32)), (.int k)]))
    refine own_go (fun _ kont => XS.iadd X0.here hx rfl (hb hby own_d4_7) rfl kont) ?_
    show own_Go _ _ _ _ (s₁.setTop (mkF m 8 #[.val (.ref a1), .val (.int k), .val (.int f), .val (.int t)] [(.int (k + (4 : Int32)))]))
    refine own_go (fun _ kont => XS.iloadN X0.here hx rfl (hb hby own_d4_8) rfl kont) ?_
    show own_Go _ _ _ _ (s₁.setTop (mkF m 9 #[.val (.ref a1), .val (.int k), .val (.int f), .val (.int t)] [(.int t), (.int (k + (4 : Int32)))]))
    by_cases hc9 : t < (k + (4 : Int32))
    · have _h := hc9
      refine own_go (fun _ kont => XS.icmpYes X0.here hx rfl (pc0 := 9) (pc' := 54) rfl (hb hby own_d4_9) rfl (tlt hc9).2.2.1 (by decide) (by decide) kont) ?_
      show own_Go _ _ _ _ (s₁.setTop (mkF m 54 #[.val (.ref a1), .val (.int k), .val (.int f), .val (.int t)] []))
      refine own_go (fun _ kont => XS.iconst X0.here hx rfl (hb hby own_d4_54) kont) ?_
      show own_Go _ _ _ _ (s₁.setTop (mkF m 55 #[.val (.ref a1), .val (.int k), .val (.int f), .val (.int t)] [(.int (0 : Int32))]))
      refine own_ret X0 hlk (v := some (.int (0 : Int32))) (fun h => by rw [Bd.returns] at h; cases h) (fun fs hr => retN X0 hx (t := .boolean) Bd.returns (by simp) (hb hby own_d4_55) hr) ?_ (by decide) (by decide)
      try rw [e0]
      exact ⟨by rw [show own_bk ys k f t = (0 : Int32) from if_neg fun q => q.2.1 hc9], N0, rfl⟩
    · have _h := hc9
      refine own_go (fun _ kont => XS.icmpNo X0.here hx rfl (hb hby own_d4_9) rfl (flt hc9).2.2.1 kont) ?_
      show own_Go _ _ _ _ (s₁.setTop (mkF m 12 #[.val (.ref a1), .val (.int k), .val (.int f), .val (.int t)] []))
      refine own_go (fun _ kont => XS.aloadN X0.here hx rfl (hb hby own_d4_12) rfl rfl kont) ?_
      show own_Go _ _ _ _ (s₁.setTop (mkF m 13 #[.val (.ref a1), .val (.int k), .val (.int f), .val (.int t)] [(.ref a1)]))
      refine own_go (fun _ kont => XS.iloadN X0.here hx rfl (hb hby own_d4_13) rfl kont) ?_
      show own_Go _ _ _ _ (s₁.setTop (mkF m 14 #[.val (.ref a1), .val (.int k), .val (.int f), .val (.int t)] [(.int k), (.ref a1)]))
      obtain ⟨cl1, Ar1, q1, Sz1, Ng1, Hs1, Gs1⟩ := id V1
      have hin1 : ¬ (k < 0 ∨ cl1.slots.size ≤ (k).toNatClampNeg) := inb_of Sz1 (own_kb0 h1 (by omega))
      have hat1 : cl1.slots[(k).toNatClampNeg]? = some (.int (own_g ys k)) := Hs1.at hin1 (own_gm ys _)
      refine own_go (X0.baloadBytes hx (j := k) (v := (.int (own_g ys k))) (own_hp e0 Ar1.1) (State.isArrayOf_alike hZ.alike Ar1.2.1) Ar1.2.2 hin1 hat1 (g := (mkF m 14 #[.val (.ref a1), .val (.int k), .val (.int f), .val (.int t)] [(.int k), (.ref a1)])) rfl rfl (hb hby own_d4_14)) ?_
      show own_Go _ _ _ _ (s₁.setTop (mkF m 15 #[.val (.ref a1), .val (.int k), .val (.int f), .val (.int t)] [(.int (own_g ys k))]))
      refine own_go (fun _ kont => XS.bipush X0.here hx rfl (hb hby own_d4_15) kont) ?_
      show own_Go _ _ _ _ (s₁.setTop (mkF m 17 #[.val (.ref a1), .val (.int k), .val (.int f), .val (.int t)] [(.int (13 : Int32)), (.int (own_g ys k))]))
      by_cases hc17 : (own_g ys k) = (13 : Int32)
      · have _h := hc17
        refine own_go (fun _ kont => XS.icmpNo X0.here hx rfl (hb hby own_d4_17) rfl (teq hc17).2 kont) ?_
        show own_Go _ _ _ _ (s₁.setTop (mkF m 20 #[.val (.ref a1), .val (.int k), .val (.int f), .val (.int t)] []))
        refine own_go (fun _ kont => XS.aloadN X0.here hx rfl (hb hby own_d4_20) rfl rfl kont) ?_
        show own_Go _ _ _ _ (s₁.setTop (mkF m 21 #[.val (.ref a1), .val (.int k), .val (.int f), .val (.int t)] [(.ref a1)]))
        refine own_go (fun _ kont => XS.iloadN X0.here hx rfl (hb hby own_d4_21) rfl kont) ?_
        show own_Go _ _ _ _ (s₁.setTop (mkF m 22 #[.val (.ref a1), .val (.int k), .val (.int f), .val (.int t)] [(.int k), (.ref a1)]))
        refine own_go (fun _ kont => XS.iconst X0.here hx rfl (hb hby own_d4_22) kont) ?_
        show own_Go _ _ _ _ (s₁.setTop (mkF m 23 #[.val (.ref a1), .val (.int k), .val (.int f), .val (.int t)] [(.int (1 : Int32)), (.int k), (.ref a1)]))
        refine own_go (fun _ kont => XS.iadd X0.here hx rfl (hb hby own_d4_23) rfl kont) ?_
        show own_Go _ _ _ _ (s₁.setTop (mkF m 24 #[.val (.ref a1), .val (.int k), .val (.int f), .val (.int t)] [(.int (k + (1 : Int32))), (.ref a1)]))
        obtain ⟨cl2, Ar2, q2, Sz2, Ng2, Hs2, Gs2⟩ := id V1
        have hin2 : ¬ ((k + (1 : Int32)) < 0 ∨ cl2.slots.size ≤ ((k + (1 : Int32))).toNatClampNeg) := inb_of Sz2 (own_kb h1 h2 (by decide) (by decide))
        have hat2 : cl2.slots[((k + (1 : Int32))).toNatClampNeg]? = some (.int (own_g ys (k + (1 : Int32)))) := Hs2.at hin2 (own_gm ys _)
        refine own_go (X0.baloadBytes hx (j := (k + (1 : Int32))) (v := (.int (own_g ys (k + (1 : Int32))))) (own_hp e0 Ar2.1) (State.isArrayOf_alike hZ.alike Ar2.2.1) Ar2.2.2 hin2 hat2 (g := (mkF m 24 #[.val (.ref a1), .val (.int k), .val (.int f), .val (.int t)] [(.int (k + (1 : Int32))), (.ref a1)])) rfl rfl (hb hby own_d4_24)) ?_
        show own_Go _ _ _ _ (s₁.setTop (mkF m 25 #[.val (.ref a1), .val (.int k), .val (.int f), .val (.int t)] [(.int (own_g ys (k + (1 : Int32))))]))
        refine own_go (fun _ kont => XS.bipush X0.here hx rfl (hb hby own_d4_25) kont) ?_
        show own_Go _ _ _ _ (s₁.setTop (mkF m 27 #[.val (.ref a1), .val (.int k), .val (.int f), .val (.int t)] [(.int (10 : Int32)), (.int (own_g ys (k + (1 : Int32))))]))
        by_cases hc27 : (own_g ys (k + (1 : Int32))) = (10 : Int32)
        · have _h := hc27
          refine own_go (fun _ kont => XS.icmpNo X0.here hx rfl (hb hby own_d4_27) rfl (teq hc27).2 kont) ?_
          show own_Go _ _ _ _ (s₁.setTop (mkF m 30 #[.val (.ref a1), .val (.int k), .val (.int f), .val (.int t)] []))
          refine own_go (fun _ kont => XS.aloadN X0.here hx rfl (hb hby own_d4_30) rfl rfl kont) ?_
          show own_Go _ _ _ _ (s₁.setTop (mkF m 31 #[.val (.ref a1), .val (.int k), .val (.int f), .val (.int t)] [(.ref a1)]))
          refine own_go (fun _ kont => XS.iloadN X0.here hx rfl (hb hby own_d4_31) rfl kont) ?_
          show own_Go _ _ _ _ (s₁.setTop (mkF m 32 #[.val (.ref a1), .val (.int k), .val (.int f), .val (.int t)] [(.int k), (.ref a1)]))
          refine own_go (fun _ kont => XS.iconst X0.here hx rfl (hb hby own_d4_32) kont) ?_
          show own_Go _ _ _ _ (s₁.setTop (mkF m 33 #[.val (.ref a1), .val (.int k), .val (.int f), .val (.int t)] [(.int (2 : Int32)), (.int k), (.ref a1)]))
          refine own_go (fun _ kont => XS.iadd X0.here hx rfl (hb hby own_d4_33) rfl kont) ?_
          show own_Go _ _ _ _ (s₁.setTop (mkF m 34 #[.val (.ref a1), .val (.int k), .val (.int f), .val (.int t)] [(.int (k + (2 : Int32))), (.ref a1)]))
          obtain ⟨cl3, Ar3, q3, Sz3, Ng3, Hs3, Gs3⟩ := id V1
          have hin3 : ¬ ((k + (2 : Int32)) < 0 ∨ cl3.slots.size ≤ ((k + (2 : Int32))).toNatClampNeg) := inb_of Sz3 (own_kb h1 h2 (by decide) (by decide))
          have hat3 : cl3.slots[((k + (2 : Int32))).toNatClampNeg]? = some (.int (own_g ys (k + (2 : Int32)))) := Hs3.at hin3 (own_gm ys _)
          refine own_go (X0.baloadBytes hx (j := (k + (2 : Int32))) (v := (.int (own_g ys (k + (2 : Int32))))) (own_hp e0 Ar3.1) (State.isArrayOf_alike hZ.alike Ar3.2.1) Ar3.2.2 hin3 hat3 (g := (mkF m 34 #[.val (.ref a1), .val (.int k), .val (.int f), .val (.int t)] [(.int (k + (2 : Int32))), (.ref a1)])) rfl rfl (hb hby own_d4_34)) ?_
          show own_Go _ _ _ _ (s₁.setTop (mkF m 35 #[.val (.ref a1), .val (.int k), .val (.int f), .val (.int t)] [(.int (own_g ys (k + (2 : Int32))))]))
          refine own_go (fun _ kont => XS.bipush X0.here hx rfl (hb hby own_d4_35) kont) ?_
          show own_Go _ _ _ _ (s₁.setTop (mkF m 37 #[.val (.ref a1), .val (.int k), .val (.int f), .val (.int t)] [(.int (13 : Int32)), (.int (own_g ys (k + (2 : Int32))))]))
          by_cases hc37 : (own_g ys (k + (2 : Int32))) = (13 : Int32)
          · have _h := hc37
            refine own_go (fun _ kont => XS.icmpNo X0.here hx rfl (hb hby own_d4_37) rfl (teq hc37).2 kont) ?_
            show own_Go _ _ _ _ (s₁.setTop (mkF m 40 #[.val (.ref a1), .val (.int k), .val (.int f), .val (.int t)] []))
            refine own_go (fun _ kont => XS.aloadN X0.here hx rfl (hb hby own_d4_40) rfl rfl kont) ?_
            show own_Go _ _ _ _ (s₁.setTop (mkF m 41 #[.val (.ref a1), .val (.int k), .val (.int f), .val (.int t)] [(.ref a1)]))
            refine own_go (fun _ kont => XS.iloadN X0.here hx rfl (hb hby own_d4_41) rfl kont) ?_
            show own_Go _ _ _ _ (s₁.setTop (mkF m 42 #[.val (.ref a1), .val (.int k), .val (.int f), .val (.int t)] [(.int k), (.ref a1)]))
            refine own_go (fun _ kont => XS.iconst X0.here hx rfl (hb hby own_d4_42) kont) ?_
            show own_Go _ _ _ _ (s₁.setTop (mkF m 43 #[.val (.ref a1), .val (.int k), .val (.int f), .val (.int t)] [(.int (3 : Int32)), (.int k), (.ref a1)]))
            refine own_go (fun _ kont => XS.iadd X0.here hx rfl (hb hby own_d4_43) rfl kont) ?_
            show own_Go _ _ _ _ (s₁.setTop (mkF m 44 #[.val (.ref a1), .val (.int k), .val (.int f), .val (.int t)] [(.int (k + (3 : Int32))), (.ref a1)]))
            obtain ⟨cl4, Ar4, q4, Sz4, Ng4, Hs4, Gs4⟩ := id V1
            have hin4 : ¬ ((k + (3 : Int32)) < 0 ∨ cl4.slots.size ≤ ((k + (3 : Int32))).toNatClampNeg) := inb_of Sz4 (own_kb h1 h2 (by decide) (by decide))
            have hat4 : cl4.slots[((k + (3 : Int32))).toNatClampNeg]? = some (.int (own_g ys (k + (3 : Int32)))) := Hs4.at hin4 (own_gm ys _)
            refine own_go (X0.baloadBytes hx (j := (k + (3 : Int32))) (v := (.int (own_g ys (k + (3 : Int32))))) (own_hp e0 Ar4.1) (State.isArrayOf_alike hZ.alike Ar4.2.1) Ar4.2.2 hin4 hat4 (g := (mkF m 44 #[.val (.ref a1), .val (.int k), .val (.int f), .val (.int t)] [(.int (k + (3 : Int32))), (.ref a1)])) rfl rfl (hb hby own_d4_44)) ?_
            show own_Go _ _ _ _ (s₁.setTop (mkF m 45 #[.val (.ref a1), .val (.int k), .val (.int f), .val (.int t)] [(.int (own_g ys (k + (3 : Int32))))]))
            refine own_go (fun _ kont => XS.bipush X0.here hx rfl (hb hby own_d4_45) kont) ?_
            show own_Go _ _ _ _ (s₁.setTop (mkF m 47 #[.val (.ref a1), .val (.int k), .val (.int f), .val (.int t)] [(.int (10 : Int32)), (.int (own_g ys (k + (3 : Int32))))]))
            by_cases hc47 : (own_g ys (k + (3 : Int32))) = (10 : Int32)
            · have _h := hc47
              refine own_go (fun _ kont => XS.icmpNo X0.here hx rfl (hb hby own_d4_47) rfl (teq hc47).2 kont) ?_
              show own_Go _ _ _ _ (s₁.setTop (mkF m 50 #[.val (.ref a1), .val (.int k), .val (.int f), .val (.int t)] []))
              refine own_go (fun _ kont => XS.iconst X0.here hx rfl (hb hby own_d4_50) kont) ?_
              show own_Go _ _ _ _ (s₁.setTop (mkF m 51 #[.val (.ref a1), .val (.int k), .val (.int f), .val (.int t)] [(.int (1 : Int32))]))
              refine own_go (fun _ kont => XS.goto X0.here hx rfl (pc0 := 51) (pc' := 55) rfl (hb hby own_d4_51) (by decide) (by decide) kont) ?_
              show own_Go _ _ _ _ (s₁.setTop (mkF m 55 #[.val (.ref a1), .val (.int k), .val (.int f), .val (.int t)] [(.int (1 : Int32))]))
              refine own_ret X0 hlk (v := some (.int (1 : Int32))) (fun h => by rw [Bd.returns] at h; cases h) (fun fs hr => retN X0 hx (t := .boolean) Bd.returns (by simp) (hb hby own_d4_55) hr) ?_ (by decide) (by decide)
              try rw [e0]
              exact ⟨by rw [show own_bk ys k f t = (1 : Int32) from if_pos ⟨hc2, hc9, hc17, hc27, hc37, hc47⟩], N0, rfl⟩
            · have _h := hc47
              refine own_go (fun _ kont => XS.icmpYes X0.here hx rfl (pc0 := 47) (pc' := 54) rfl (hb hby own_d4_47) rfl (feq hc47).2 (by decide) (by decide) kont) ?_
              show own_Go _ _ _ _ (s₁.setTop (mkF m 54 #[.val (.ref a1), .val (.int k), .val (.int f), .val (.int t)] []))
              refine own_go (fun _ kont => XS.iconst X0.here hx rfl (hb hby own_d4_54) kont) ?_
              show own_Go _ _ _ _ (s₁.setTop (mkF m 55 #[.val (.ref a1), .val (.int k), .val (.int f), .val (.int t)] [(.int (0 : Int32))]))
              refine own_ret X0 hlk (v := some (.int (0 : Int32))) (fun h => by rw [Bd.returns] at h; cases h) (fun fs hr => retN X0 hx (t := .boolean) Bd.returns (by simp) (hb hby own_d4_55) hr) ?_ (by decide) (by decide)
              try rw [e0]
              exact ⟨by rw [show own_bk ys k f t = (0 : Int32) from if_neg fun q => hc47 q.2.2.2.2.2], N0, rfl⟩
          · have _h := hc37
            refine own_go (fun _ kont => XS.icmpYes X0.here hx rfl (pc0 := 37) (pc' := 54) rfl (hb hby own_d4_37) rfl (feq hc37).2 (by decide) (by decide) kont) ?_
            show own_Go _ _ _ _ (s₁.setTop (mkF m 54 #[.val (.ref a1), .val (.int k), .val (.int f), .val (.int t)] []))
            refine own_go (fun _ kont => XS.iconst X0.here hx rfl (hb hby own_d4_54) kont) ?_
            show own_Go _ _ _ _ (s₁.setTop (mkF m 55 #[.val (.ref a1), .val (.int k), .val (.int f), .val (.int t)] [(.int (0 : Int32))]))
            refine own_ret X0 hlk (v := some (.int (0 : Int32))) (fun h => by rw [Bd.returns] at h; cases h) (fun fs hr => retN X0 hx (t := .boolean) Bd.returns (by simp) (hb hby own_d4_55) hr) ?_ (by decide) (by decide)
            try rw [e0]
            exact ⟨by rw [show own_bk ys k f t = (0 : Int32) from if_neg fun q => hc37 q.2.2.2.2.1], N0, rfl⟩
        · have _h := hc27
          refine own_go (fun _ kont => XS.icmpYes X0.here hx rfl (pc0 := 27) (pc' := 54) rfl (hb hby own_d4_27) rfl (feq hc27).2 (by decide) (by decide) kont) ?_
          show own_Go _ _ _ _ (s₁.setTop (mkF m 54 #[.val (.ref a1), .val (.int k), .val (.int f), .val (.int t)] []))
          refine own_go (fun _ kont => XS.iconst X0.here hx rfl (hb hby own_d4_54) kont) ?_
          show own_Go _ _ _ _ (s₁.setTop (mkF m 55 #[.val (.ref a1), .val (.int k), .val (.int f), .val (.int t)] [(.int (0 : Int32))]))
          refine own_ret X0 hlk (v := some (.int (0 : Int32))) (fun h => by rw [Bd.returns] at h; cases h) (fun fs hr => retN X0 hx (t := .boolean) Bd.returns (by simp) (hb hby own_d4_55) hr) ?_ (by decide) (by decide)
          try rw [e0]
          exact ⟨by rw [show own_bk ys k f t = (0 : Int32) from if_neg fun q => hc27 q.2.2.2.1], N0, rfl⟩
      · have _h := hc17
        refine own_go (fun _ kont => XS.icmpYes X0.here hx rfl (pc0 := 17) (pc' := 54) rfl (hb hby own_d4_17) rfl (feq hc17).2 (by decide) (by decide) kont) ?_
        show own_Go _ _ _ _ (s₁.setTop (mkF m 54 #[.val (.ref a1), .val (.int k), .val (.int f), .val (.int t)] []))
        refine own_go (fun _ kont => XS.iconst X0.here hx rfl (hb hby own_d4_54) kont) ?_
        show own_Go _ _ _ _ (s₁.setTop (mkF m 55 #[.val (.ref a1), .val (.int k), .val (.int f), .val (.int t)] [(.int (0 : Int32))]))
        refine own_ret X0 hlk (v := some (.int (0 : Int32))) (fun h => by rw [Bd.returns] at h; cases h) (fun fs hr => retN X0 hx (t := .boolean) Bd.returns (by simp) (hb hby own_d4_55) hr) ?_ (by decide) (by decide)
        try rw [e0]
        exact ⟨by rw [show own_bk ys k f t = (0 : Int32) from if_neg fun q => hc17 q.2.2.1], N0, rfl⟩
theorem own_d5_0 : decode method_3_code 0 = .ok (.iload_n 1, 1) := by decide +kernel
theorem own_d5_1 : decode method_3_code 1 = .ok (.iconst 2, 1) := by decide +kernel
theorem own_d5_2 : decode method_3_code 2 = .ok (.iadd, 1) := by decide +kernel
theorem own_d5_3 : decode method_3_code 3 = .ok (.iload_n 2, 1) := by decide +kernel
theorem own_d5_4 : decode method_3_code 4 = .ok (.if_icmp .gt 25, 3) := by decide +kernel
theorem own_d5_7 : decode method_3_code 7 = .ok (.aload_n 0, 1) := by decide +kernel
theorem own_d5_8 : decode method_3_code 8 = .ok (.iload_n 1, 1) := by decide +kernel
theorem own_d5_9 : decode method_3_code 9 = .ok (.baload, 1) := by decide +kernel
theorem own_d5_10 : decode method_3_code 10 = .ok (.bipush 13, 2) := by decide +kernel
theorem own_d5_12 : decode method_3_code 12 = .ok (.if_icmp .ne 17, 3) := by decide +kernel
theorem own_d5_15 : decode method_3_code 15 = .ok (.aload_n 0, 1) := by decide +kernel
theorem own_d5_16 : decode method_3_code 16 = .ok (.iload_n 1, 1) := by decide +kernel
theorem own_d5_17 : decode method_3_code 17 = .ok (.iconst 1, 1) := by decide +kernel
theorem own_d5_18 : decode method_3_code 18 = .ok (.iadd, 1) := by decide +kernel
theorem own_d5_19 : decode method_3_code 19 = .ok (.baload, 1) := by decide +kernel
theorem own_d5_20 : decode method_3_code 20 = .ok (.bipush 10, 2) := by decide +kernel
theorem own_d5_22 : decode method_3_code 22 = .ok (.if_icmp .ne 7, 3) := by decide +kernel
theorem own_d5_25 : decode method_3_code 25 = .ok (.iconst 1, 1) := by decide +kernel
theorem own_d5_26 : decode method_3_code 26 = .ok (.goto 4, 3) := by decide +kernel
theorem own_d5_29 : decode method_3_code 29 = .ok (.iconst 0, 1) := by decide +kernel
theorem own_d5_30 : decode method_3_code 30 = .ok (.ireturn, 1) := by decide +kernel
set_option maxRecDepth 65536 in
set_option maxHeartbeats 40000000 in
theorem own_rmC (l : Launch) (Z : State) (a0 : Array Value) (hw : ∀ d ∈ tables_1, d.before a0 Z = true) (a1 : Addr) (f : Int32) (t : Int32) (ys : List Int32) (k1 : ClassId) (h0 : Heap) (n0 : Nat) (Z0 : n0 ≤ h0.size) (V1 : Arv Z h0 a1 k1 .byte 8 (ys.map Value.int) (.int 0)) (h1 : 0 ≤ f.toInt) (h2 : f.toInt ≤ 8) (ht : t.toInt ≤ 8) :
    own_Met l Z [] (⟨"com/example/chartpost/chartpost/http/HeaderFieldsEndPinLaw", "crlf", "([BII)Z"⟩ : MethodName) method_3_code 3 (some .boolean) ({ frames := 0, cells := 0, slots := 0, locals := 0 } : Room) #[(.ref a1), (.int f), (.int t)] h0 (fun v h L => v = some (.int (own_cr ys f t)) ∧ Fr n0 L ∧ h = h0) := by
  refine MetFree.of_bodySF (plainFor_of_name own_pn1) hisR ?_
  intro p e s m args below meth c s₁ Bd hml0 hP hK
  obtain ⟨rfl, hZ, hh⟩ := hP
  have hx := Bd.exec
  have hby := Bd.bytes
  have hml : c.maxLocals = 3 := hml0
  have hown : s.vm.findClass "com/example/chartpost/chartpost/http/HeaderFieldsEndPinLaw" = some m.cls := findClass_of_methodNamed Bd.named
  have hnm := (name_of_methodNamed Bd.named Bd.method).1
  have hlk : meth.locks = false := Bd.notSynchronized
  have X0 : Stand p l e ({ frames := 0, cells := 0, slots := 0, locals := 0 } : Room) s m #[(.ref a1), (.int f), (.int t)] below meth c s₁ [] 0 0 := Stand.of_body Bd
  have e0 : s₁.heap = h0 := by rw [← hh, Bd.state]; rfl
  have N0 := Fr.nil n0
  refine own_body (Q := fun v h L => v = some (.int (own_cr ys f t)) ∧ Fr n0 L ∧ h = h0) ?_
  refine own_go (fun _ kont => castTop (own_ef m #[(.ref a1), (.int f), (.int t)] 3 #[.val (.ref a1), .val (.int f), .val (.int t)] (own_al [(.ref a1), (.int f), (.int t)] 3 [.val (.ref a1), .val (.int f), .val (.int t)] rfl)) kont) ?_
  show own_Go _ _ _ _ (s₁.setTop (mkF m 0 #[.val (.ref a1), .val (.int f), .val (.int t)] []))
  refine own_go (fun _ kont => XS.iloadN X0.here hx rfl (hb hby own_d5_0) rfl kont) ?_
  show own_Go _ _ _ _ (s₁.setTop (mkF m 1 #[.val (.ref a1), .val (.int f), .val (.int t)] [(.int f)]))
  refine own_go (fun _ kont => XS.iconst X0.here hx rfl (hb hby own_d5_1) kont) ?_
  show own_Go _ _ _ _ (s₁.setTop (mkF m 2 #[.val (.ref a1), .val (.int f), .val (.int t)] [(.int (2 : Int32)), (.int f)]))
  refine own_go (fun _ kont => XS.iadd X0.here hx rfl (hb hby own_d5_2) rfl kont) ?_
  show own_Go _ _ _ _ (s₁.setTop (mkF m 3 #[.val (.ref a1), .val (.int f), .val (.int t)] [(.int (f + (2 : Int32)))]))
  refine own_go (fun _ kont => XS.iloadN X0.here hx rfl (hb hby own_d5_3) rfl kont) ?_
  show own_Go _ _ _ _ (s₁.setTop (mkF m 4 #[.val (.ref a1), .val (.int f), .val (.int t)] [(.int t), (.int (f + (2 : Int32)))]))
  by_cases hc4 : t < (f + (2 : Int32))
  · have _h := hc4
    refine own_go (fun _ kont => XS.icmpYes X0.here hx rfl (pc0 := 4) (pc' := 29) rfl (hb hby own_d5_4) rfl (tlt hc4).2.2.1 (by decide) (by decide) kont) ?_
    show own_Go _ _ _ _ (s₁.setTop (mkF m 29 #[.val (.ref a1), .val (.int f), .val (.int t)] []))
    refine own_go (fun _ kont => XS.iconst X0.here hx rfl (hb hby own_d5_29) kont) ?_
    show own_Go _ _ _ _ (s₁.setTop (mkF m 30 #[.val (.ref a1), .val (.int f), .val (.int t)] [(.int (0 : Int32))]))
    refine own_ret X0 hlk (v := some (.int (0 : Int32))) (fun h => by rw [Bd.returns] at h; cases h) (fun fs hr => retN X0 hx (t := .boolean) Bd.returns (by simp) (hb hby own_d5_30) hr) ?_ (by decide) (by decide)
    try rw [e0]
    exact ⟨by rw [show own_cr ys f t = (0 : Int32) from if_neg fun q => q.1 hc4], N0, rfl⟩
  · have _h := hc4
    refine own_go (fun _ kont => XS.icmpNo X0.here hx rfl (hb hby own_d5_4) rfl (flt hc4).2.2.1 kont) ?_
    show own_Go _ _ _ _ (s₁.setTop (mkF m 7 #[.val (.ref a1), .val (.int f), .val (.int t)] []))
    refine own_go (fun _ kont => XS.aloadN X0.here hx rfl (hb hby own_d5_7) rfl rfl kont) ?_
    show own_Go _ _ _ _ (s₁.setTop (mkF m 8 #[.val (.ref a1), .val (.int f), .val (.int t)] [(.ref a1)]))
    refine own_go (fun _ kont => XS.iloadN X0.here hx rfl (hb hby own_d5_8) rfl kont) ?_
    show own_Go _ _ _ _ (s₁.setTop (mkF m 9 #[.val (.ref a1), .val (.int f), .val (.int t)] [(.int f), (.ref a1)]))
    obtain ⟨cl1, Ar1, q1, Sz1, Ng1, Hs1, Gs1⟩ := id V1
    have hin1 : ¬ (f < 0 ∨ cl1.slots.size ≤ (f).toNatClampNeg) := inb_of Sz1 (by have a2 := c_iadd f 2; have r2 := rng32 (f + 2); have e2 : (2 : Int32).toInt = 2 := rfl; have a1 := c_iadd f 1; have r1 := rng32 (f + 1); have e1 : (1 : Int32).toInt = 1 := rfl; have e0 : (0 : Int32).toInt = 0 := rfl; have e8 : (8 : Int32).toInt = 8 := rfl; simp only [Int32.lt_iff_toInt_lt, e0, e8] at *; omega)
    have hat1 : cl1.slots[(f).toNatClampNeg]? = some (.int (own_g ys f)) := Hs1.at hin1 (own_gm ys _)
    refine own_go (X0.baloadBytes hx (j := f) (v := (.int (own_g ys f))) (own_hp e0 Ar1.1) (State.isArrayOf_alike hZ.alike Ar1.2.1) Ar1.2.2 hin1 hat1 (g := (mkF m 9 #[.val (.ref a1), .val (.int f), .val (.int t)] [(.int f), (.ref a1)])) rfl rfl (hb hby own_d5_9)) ?_
    show own_Go _ _ _ _ (s₁.setTop (mkF m 10 #[.val (.ref a1), .val (.int f), .val (.int t)] [(.int (own_g ys f))]))
    refine own_go (fun _ kont => XS.bipush X0.here hx rfl (hb hby own_d5_10) kont) ?_
    show own_Go _ _ _ _ (s₁.setTop (mkF m 12 #[.val (.ref a1), .val (.int f), .val (.int t)] [(.int (13 : Int32)), (.int (own_g ys f))]))
    by_cases hc12 : (own_g ys f) = (13 : Int32)
    · have _h := hc12
      refine own_go (fun _ kont => XS.icmpNo X0.here hx rfl (hb hby own_d5_12) rfl (teq hc12).2 kont) ?_
      show own_Go _ _ _ _ (s₁.setTop (mkF m 15 #[.val (.ref a1), .val (.int f), .val (.int t)] []))
      refine own_go (fun _ kont => XS.aloadN X0.here hx rfl (hb hby own_d5_15) rfl rfl kont) ?_
      show own_Go _ _ _ _ (s₁.setTop (mkF m 16 #[.val (.ref a1), .val (.int f), .val (.int t)] [(.ref a1)]))
      refine own_go (fun _ kont => XS.iloadN X0.here hx rfl (hb hby own_d5_16) rfl kont) ?_
      show own_Go _ _ _ _ (s₁.setTop (mkF m 17 #[.val (.ref a1), .val (.int f), .val (.int t)] [(.int f), (.ref a1)]))
      refine own_go (fun _ kont => XS.iconst X0.here hx rfl (hb hby own_d5_17) kont) ?_
      show own_Go _ _ _ _ (s₁.setTop (mkF m 18 #[.val (.ref a1), .val (.int f), .val (.int t)] [(.int (1 : Int32)), (.int f), (.ref a1)]))
      refine own_go (fun _ kont => XS.iadd X0.here hx rfl (hb hby own_d5_18) rfl kont) ?_
      show own_Go _ _ _ _ (s₁.setTop (mkF m 19 #[.val (.ref a1), .val (.int f), .val (.int t)] [(.int (f + (1 : Int32))), (.ref a1)]))
      obtain ⟨cl2, Ar2, q2, Sz2, Ng2, Hs2, Gs2⟩ := id V1
      have hin2 : ¬ ((f + (1 : Int32)) < 0 ∨ cl2.slots.size ≤ ((f + (1 : Int32))).toNatClampNeg) := inb_of Sz2 (by have a2 := c_iadd f 2; have r2 := rng32 (f + 2); have e2 : (2 : Int32).toInt = 2 := rfl; have a1 := c_iadd f 1; have r1 := rng32 (f + 1); have e1 : (1 : Int32).toInt = 1 := rfl; have e0 : (0 : Int32).toInt = 0 := rfl; have e8 : (8 : Int32).toInt = 8 := rfl; simp only [Int32.lt_iff_toInt_lt, e0, e8] at *; omega)
      have hat2 : cl2.slots[((f + (1 : Int32))).toNatClampNeg]? = some (.int (own_g ys (f + (1 : Int32)))) := Hs2.at hin2 (own_gm ys _)
      refine own_go (X0.baloadBytes hx (j := (f + (1 : Int32))) (v := (.int (own_g ys (f + (1 : Int32))))) (own_hp e0 Ar2.1) (State.isArrayOf_alike hZ.alike Ar2.2.1) Ar2.2.2 hin2 hat2 (g := (mkF m 19 #[.val (.ref a1), .val (.int f), .val (.int t)] [(.int (f + (1 : Int32))), (.ref a1)])) rfl rfl (hb hby own_d5_19)) ?_
      show own_Go _ _ _ _ (s₁.setTop (mkF m 20 #[.val (.ref a1), .val (.int f), .val (.int t)] [(.int (own_g ys (f + (1 : Int32))))]))
      refine own_go (fun _ kont => XS.bipush X0.here hx rfl (hb hby own_d5_20) kont) ?_
      show own_Go _ _ _ _ (s₁.setTop (mkF m 22 #[.val (.ref a1), .val (.int f), .val (.int t)] [(.int (10 : Int32)), (.int (own_g ys (f + (1 : Int32))))]))
      by_cases hc22 : (own_g ys (f + (1 : Int32))) = (10 : Int32)
      · have _h := hc22
        refine own_go (fun _ kont => XS.icmpNo X0.here hx rfl (hb hby own_d5_22) rfl (teq hc22).2 kont) ?_
        show own_Go _ _ _ _ (s₁.setTop (mkF m 25 #[.val (.ref a1), .val (.int f), .val (.int t)] []))
        refine own_go (fun _ kont => XS.iconst X0.here hx rfl (hb hby own_d5_25) kont) ?_
        show own_Go _ _ _ _ (s₁.setTop (mkF m 26 #[.val (.ref a1), .val (.int f), .val (.int t)] [(.int (1 : Int32))]))
        refine own_go (fun _ kont => XS.goto X0.here hx rfl (pc0 := 26) (pc' := 30) rfl (hb hby own_d5_26) (by decide) (by decide) kont) ?_
        show own_Go _ _ _ _ (s₁.setTop (mkF m 30 #[.val (.ref a1), .val (.int f), .val (.int t)] [(.int (1 : Int32))]))
        refine own_ret X0 hlk (v := some (.int (1 : Int32))) (fun h => by rw [Bd.returns] at h; cases h) (fun fs hr => retN X0 hx (t := .boolean) Bd.returns (by simp) (hb hby own_d5_30) hr) ?_ (by decide) (by decide)
        try rw [e0]
        exact ⟨by rw [show own_cr ys f t = (1 : Int32) from if_pos ⟨hc4, hc12, hc22⟩], N0, rfl⟩
      · have _h := hc22
        refine own_go (fun _ kont => XS.icmpYes X0.here hx rfl (pc0 := 22) (pc' := 29) rfl (hb hby own_d5_22) rfl (feq hc22).2 (by decide) (by decide) kont) ?_
        show own_Go _ _ _ _ (s₁.setTop (mkF m 29 #[.val (.ref a1), .val (.int f), .val (.int t)] []))
        refine own_go (fun _ kont => XS.iconst X0.here hx rfl (hb hby own_d5_29) kont) ?_
        show own_Go _ _ _ _ (s₁.setTop (mkF m 30 #[.val (.ref a1), .val (.int f), .val (.int t)] [(.int (0 : Int32))]))
        refine own_ret X0 hlk (v := some (.int (0 : Int32))) (fun h => by rw [Bd.returns] at h; cases h) (fun fs hr => retN X0 hx (t := .boolean) Bd.returns (by simp) (hb hby own_d5_30) hr) ?_ (by decide) (by decide)
        try rw [e0]
        exact ⟨by rw [show own_cr ys f t = (0 : Int32) from if_neg fun q => hc22 q.2.2], N0, rfl⟩
    · have _h := hc12
      refine own_go (fun _ kont => XS.icmpYes X0.here hx rfl (pc0 := 12) (pc' := 29) rfl (hb hby own_d5_12) rfl (feq hc12).2 (by decide) (by decide) kont) ?_
      show own_Go _ _ _ _ (s₁.setTop (mkF m 29 #[.val (.ref a1), .val (.int f), .val (.int t)] []))
      refine own_go (fun _ kont => XS.iconst X0.here hx rfl (hb hby own_d5_29) kont) ?_
      show own_Go _ _ _ _ (s₁.setTop (mkF m 30 #[.val (.ref a1), .val (.int f), .val (.int t)] [(.int (0 : Int32))]))
      refine own_ret X0 hlk (v := some (.int (0 : Int32))) (fun h => by rw [Bd.returns] at h; cases h) (fun fs hr => retN X0 hx (t := .boolean) Bd.returns (by simp) (hb hby own_d5_30) hr) ?_ (by decide) (by decide)
      try rw [e0]
      exact ⟨by rw [show own_cr ys f t = (0 : Int32) from if_neg fun q => hc12 q.2.1], N0, rfl⟩
theorem own_pd1 : parseMethodDescriptor "(IJI)B" = some ⟨[.int, .long, .int], some .byte⟩ := by decide +kernel
theorem own_pd2 : parseMethodDescriptor "([BII)I" = some ⟨[(.array .byte), .int, .int], some .int⟩ := by decide +kernel
theorem own_pd3 : parseMethodDescriptor "([BIII)Z" = some ⟨[(.array .byte), .int, .int, .int], some .boolean⟩ := by decide +kernel
theorem own_pd4 : parseMethodDescriptor "([BII)Z" = some ⟨[(.array .byte), .int, .int], some .boolean⟩ := by decide +kernel
set_option maxRecDepth 65536 in
set_option maxHeartbeats 40000000 in
theorem own_rm0 (l : Launch) (Z : State) (a0 : Array Value) (hw : ∀ d ∈ tables_1, d.before a0 Z = true) (p1 : Int32) (q2 : Int64) (p3 : Int32) (p4 : Int32) (aC : Addr) (aB : Addr) (kC : ClassId) (kB : ClassId) (h0 : Heap) (n0 : Nat) (Z0 : n0 ≤ h0.size) (S_C : Sta Z h0 "com/example/chartpost/chartpost/http/HeaderFields" "CRLF" "[B" (.ref aC)) (S_B : Sta Z h0 "com/example/chartpost/chartpost/http/HeaderFields" "BLANK_LINE" "[B" (.ref aB)) (V_C : Arv Z h0 aC kC .byte 2 [(.int 13), (.int 10)] (.int 0)) (V_B : Arv Z h0 aB kB .byte 4 [(.int 13), (.int 10), (.int 13), (.int 10)] (.int 0)) :
    own_Met l Z tables_1 x code maxLocals ret room_1 #[(.int p1), (.long q2), (.int p3), (.int p4)] h0 (fun v h L => v = some (.int 1) ∧ Fr n0 L) := by
  refine MetFree.of_bodySF (plainFor_of_name own_pn1) hisR ?_
  intro p e s m args below meth c s₁ Bd hml0 hP hK
  obtain ⟨rfl, hZ, hh⟩ := hP
  have hx := Bd.exec
  have hby := Bd.bytes
  have hml : c.maxLocals = 10 := hml0
  have hown : s.vm.findClass "com/example/chartpost/chartpost/http/HeaderFieldsEndPinLaw" = some m.cls := findClass_of_methodNamed Bd.named
  have hnm := (name_of_methodNamed Bd.named Bd.method).1
  have hlk : meth.locks = false := Bd.notSynchronized
  have X0 : Stand p l e room_1 s m #[(.int p1), (.long q2), (.int p3), (.int p4)] below meth c s₁ [] 0 0 := Stand.of_body Bd
  have e0 : s₁.heap = h0 := by rw [← hh, Bd.state]; rfl
  have N0 := Fr.nil n0
  refine own_body (Q := fun v h L => v = some (.int 1) ∧ Fr n0 L) ?_
  refine own_go (fun _ kont => castTop (own_ef m #[(.int p1), (.long q2), (.int p3), (.int p4)] maxLocals #[.val (.int p1), .val (.long q2), .second, .val (.int p3), .val (.int p4), .unset, .unset, .unset, .unset, .unset] (own_al [(.int p1), (.long q2), (.int p3), (.int p4)] maxLocals [.val (.int p1), .val (.long q2), .second, .val (.int p3), .val (.int p4), .unset, .unset, .unset, .unset, .unset] rfl)) kont) ?_
  show own_Go _ _ _ _ (s₁.setTop (mkF m 0 #[.val (.int p1), .val (.long q2), .second, .val (.int p3), .val (.int p4), .unset, .unset, .unset, .unset, .unset] []))
  have K0 : Keep h0 h0 [] := Keep.refl _ _
  refine own_go (fun _ kont => XS.bipush X0.here hx rfl (hb hby at_0) kont) ?_
  show own_Go _ _ _ _ (s₁.setTop (mkF m 2 #[.val (.int p1), .val (.long q2), .second, .val (.int p3), .val (.int p4), .unset, .unset, .unset, .unset, .unset] [(.int (8 : Int32))]))
  obtain ⟨T1, h1, k1, X1, e1, E1, A1, st1⟩ := newP X0 hx hZ (hw _ (List.mem_of_getElem? (i := 0) rfl)) e0 (g := (mkF m 2 #[.val (.int p1), .val (.long q2), .second, .val (.int p3), .val (.int p4), .unset, .unset, .unset, .unset, .unset] [(.int (8 : Int32))])) rfl (hb hby at_2) rfl (by decide) (cap := 8) (by decide) (by decide) (by decide) (by decide)
  obtain ⟨b1, g1⟩ : ∃ z, z = h0.size := ⟨_, rfl⟩
  rw [← g1] at A1 st1
  refine own_go st1 ?_
  have ge_b1 : n0 ≤ b1 := Nat.le_trans Z0 (Nat.le_of_eq g1.symm)
  have ne_aC_b1 : aC ≠ b1 := Nat.ne_of_lt (Nat.lt_of_lt_of_le V_C.lt (Nat.le_of_eq g1.symm))
  have ne_aB_b1 : aB ≠ b1 := Nat.ne_of_lt (Nat.lt_of_lt_of_le V_B.lt (Nat.le_of_eq g1.symm))
  have sz_b1 : h0.size ≤ b1 := Nat.le_trans K0.1 (Nat.le_of_eq g1.symm)
  replace S_C := S_C.ext E1
  replace S_B := S_B.ext E1
  replace V_C := V_C.ext E1
  replace V_B := V_B.ext E1
  replace Z0 := Nat.le_trans Z0 E1.1
  replace K0 := K0.ext E1
  have V_b1 : Arv Z h1 b1 k1 .byte (8 : Int32) [(.int (0 : Int32)), (.int (0 : Int32)), (.int (0 : Int32)), (.int (0 : Int32)), (.int (0 : Int32)), (.int (0 : Int32)), (.int (0 : Int32)), (.int (0 : Int32))] (.int (0 : Int32)) := (Arv.new A1 (by decide)).pad (pad_rep [] (.int (0 : Int32)) 8)
  show own_Go _ _ _ _ (T1.setTop (mkF m 4 #[.val (.int p1), .val (.long q2), .second, .val (.int p3), .val (.int p4), .unset, .unset, .unset, .unset, .unset] [(.ref b1)]))
  refine own_go (fun _ kont => XS.astore X1.here hx rfl (hb hby at_4) rfl rfl (l' := #[.val (.int p1), .val (.long q2), .second, .val (.int p3), .val (.int p4), .val (.ref b1), .unset, .unset, .unset, .unset]) rfl kont) ?_
  show own_Go _ _ _ _ (T1.setTop (mkF m 6 #[.val (.int p1), .val (.long q2), .second, .val (.int p3), .val (.int p4), .val (.ref b1), .unset, .unset, .unset, .unset] []))
  refine own_go (fun _ kont => XS.aload X1.here hx rfl (hb hby at_6) rfl rfl kont) ?_
  show own_Go _ _ _ _ (T1.setTop (mkF m 8 #[.val (.int p1), .val (.long q2), .second, .val (.int p3), .val (.int p4), .val (.ref b1), .unset, .unset, .unset, .unset] [(.ref b1)]))
  refine own_go (fun _ kont => XS.iconst X1.here hx rfl (hb hby at_8) kont) ?_
  show own_Go _ _ _ _ (T1.setTop (mkF m 9 #[.val (.int p1), .val (.long q2), .second, .val (.int p3), .val (.int p4), .val (.ref b1), .unset, .unset, .unset, .unset] [(.int (0 : Int32)), (.ref b1)]))
  refine own_go (fun _ kont => XS.iloadN X1.here hx rfl (hb hby at_9) rfl kont) ?_
  show own_Go _ _ _ _ (T1.setTop (mkF m 10 #[.val (.int p1), .val (.long q2), .second, .val (.int p3), .val (.int p4), .val (.ref b1), .unset, .unset, .unset, .unset] [(.int p1), (.int (0 : Int32)), (.ref b1)]))
  refine own_go (fun _ kont => XS.lloadN X1.here hx rfl (hb hby at_10) rfl kont) ?_
  show own_Go _ _ _ _ (T1.setTop (mkF m 11 #[.val (.int p1), .val (.long q2), .second, .val (.int p3), .val (.int p4), .val (.ref b1), .unset, .unset, .unset, .unset] [(.long q2), (.int p1), (.int (0 : Int32)), (.ref b1)]))
  refine own_go (fun _ kont => XS.iconst X1.here hx rfl (hb hby at_11) kont) ?_
  show own_Go _ _ _ _ (T1.setTop (mkF m 12 #[.val (.int p1), .val (.long q2), .second, .val (.int p3), .val (.int p4), .val (.ref b1), .unset, .unset, .unset, .unset] [(.int (0 : Int32)), (.long q2), (.int p1), (.int (0 : Int32)), (.ref b1)]))
  obtain ⟨_, _, ⟨T2, L2, k2, n2⟩, -, X2, ⟨Lc2, hQ2, l2, y2, z2⟩, st2⟩ := Jvm.LawKit.callS X1 hx (y := (⟨"com/example/chartpost/chartpost/http/HeaderFieldsEndPinLaw", "pick", "(IJI)B"⟩ : MethodName)) hown (mvT hZ (hw _ (List.mem_of_getElem? (i := 1) rfl))) (mvT hZ (hw _ (List.mem_of_getElem? (i := 2) rfl))) (mvT hZ (hw _ (List.mem_of_getElem? (i := 3) rfl))) (mvT hZ (hw _ (List.mem_of_getElem? (i := 4) rfl))) (by decide) (own_back (W := 2) (own_rmP l Z a0 hw p1 q2 (0 : Int32) h1 n0 Z0) hZ (hw _ (List.mem_of_getElem? (i := 4) rfl)) (hw _ (List.mem_of_getElem? (i := 3) rfl)) (by decide) (by decide)) (g := (mkF m 12 #[.val (.int p1), .val (.long q2), .second, .val (.int p3), .val (.int p4), .val (.ref b1), .unset, .unset, .unset, .unset] [(.int (0 : Int32)), (.long q2), (.int p1), (.int (0 : Int32)), (.ref b1)])) rfl (by rw [hml]; rfl) (argsL := [(.int p1), (.long q2), (.int (0 : Int32))]) (rest := [(.int (0 : Int32)), (.ref b1)]) (lenOf own_pd1 rfl) rfl (by show 2 * 0 + _ ≤ _; exact Nat.le_of_eq rfl) (hb hby at_12) (fun _ _ => ⟨rfl, e1, (by decide : 1 + 0 ≤ _), (by decide : 8 + 0 ≤ _)⟩)
  dsimp only [Pt.U, Pt.locs, Pt.cells, Pt.slots] at X2 l2 y2 z2 st2 hQ2
  replace X2 := own_cst X2 l2 y2 z2 (k2 := 1) (n2 := 8) rfl rfl
  clear l2 y2 z2
  obtain ⟨z0, rfl, Nq2, eq2⟩ := hQ2
  have NF2 := Fr.app N0 Nq2
  refine own_go st2 ?_
  show own_Go _ _ _ _ (T2.setTop (mkF m 15 #[.val (.int p1), .val (.long q2), .second, .val (.int p3), .val (.int p4), .val (.ref b1), .unset, .unset, .unset, .unset] [(.int z0), (.int (0 : Int32)), (.ref b1)]))
  obtain ⟨cl3, Ar3, q3, Sz3, Ng3, Hs3, Gs3⟩ := V_b1
  have hin3 : ¬ ((0 : Int32) < 0 ∨ cl3.slots.size ≤ ((0 : Int32)).toNatClampNeg) := inb_of Sz3 ⟨by decide, by decide⟩
  obtain ⟨T3, h3, X3, e3, W3, st3⟩ := stB X2 hx hZ eq2 Ar3 (j := (0 : Int32)) hin3 (g := (mkF m 15 #[.val (.int p1), .val (.long q2), .second, .val (.int p3), .val (.int p4), .val (.ref b1), .unset, .unset, .unset, .unset] [(.int z0), (.int (0 : Int32)), (.ref b1)])) rfl rfl (hb hby at_15)
  refine own_go st3 ?_
  have NF3 := Fr.snoc X3 NF2 ge_b1
  replace V_b1 : Arv Z h3 b1 k1 .byte (8 : Int32) [(.int (nar .byte z0)), (.int (0 : Int32)), (.int (0 : Int32)), (.int (0 : Int32)), (.int (0 : Int32)), (.int (0 : Int32)), (.int (0 : Int32)), (.int (0 : Int32))] (.int (0 : Int32)) := Arv.set Ar3 q3 Sz3 Ng3 Hs3 Gs3 (fits_nar_byte _) W3 0 rfl (Nat.le_of_ble_eq_true rfl)
  replace S_C := S_C.wr W3
  replace S_B := S_B.wr W3
  replace V_C := V_C.other W3 ne_aC_b1
  replace V_B := V_B.other W3 ne_aB_b1
  replace Z0 := Nat.le_trans Z0 (Keep.of_wr W3).1
  replace K0 := K0.wr W3 (Or.inr sz_b1)
  show own_Go _ _ _ _ (T3.setTop (mkF m 16 #[.val (.int p1), .val (.long q2), .second, .val (.int p3), .val (.int p4), .val (.ref b1), .unset, .unset, .unset, .unset] []))
  refine own_go (fun _ kont => XS.aload X3.here hx rfl (hb hby at_16) rfl rfl kont) ?_
  show own_Go _ _ _ _ (T3.setTop (mkF m 18 #[.val (.int p1), .val (.long q2), .second, .val (.int p3), .val (.int p4), .val (.ref b1), .unset, .unset, .unset, .unset] [(.ref b1)]))
  refine own_go (fun _ kont => XS.iconst X3.here hx rfl (hb hby at_18) kont) ?_
  show own_Go _ _ _ _ (T3.setTop (mkF m 19 #[.val (.int p1), .val (.long q2), .second, .val (.int p3), .val (.int p4), .val (.ref b1), .unset, .unset, .unset, .unset] [(.int (1 : Int32)), (.ref b1)]))
  refine own_go (fun _ kont => XS.iloadN X3.here hx rfl (hb hby at_19) rfl kont) ?_
  show own_Go _ _ _ _ (T3.setTop (mkF m 20 #[.val (.int p1), .val (.long q2), .second, .val (.int p3), .val (.int p4), .val (.ref b1), .unset, .unset, .unset, .unset] [(.int p1), (.int (1 : Int32)), (.ref b1)]))
  refine own_go (fun _ kont => XS.lloadN X3.here hx rfl (hb hby at_20) rfl kont) ?_
  show own_Go _ _ _ _ (T3.setTop (mkF m 21 #[.val (.int p1), .val (.long q2), .second, .val (.int p3), .val (.int p4), .val (.ref b1), .unset, .unset, .unset, .unset] [(.long q2), (.int p1), (.int (1 : Int32)), (.ref b1)]))
  refine own_go (fun _ kont => XS.iconst X3.here hx rfl (hb hby at_21) kont) ?_
  show own_Go _ _ _ _ (T3.setTop (mkF m 22 #[.val (.int p1), .val (.long q2), .second, .val (.int p3), .val (.int p4), .val (.ref b1), .unset, .unset, .unset, .unset] [(.int (1 : Int32)), (.long q2), (.int p1), (.int (1 : Int32)), (.ref b1)]))
  obtain ⟨_, _, ⟨T4, L4, k4, n4⟩, -, X4, ⟨Lc4, hQ4, l4, y4, z4⟩, st4⟩ := Jvm.LawKit.callS X3 hx (y := (⟨"com/example/chartpost/chartpost/http/HeaderFieldsEndPinLaw", "pick", "(IJI)B"⟩ : MethodName)) hown (mvT hZ (hw _ (List.mem_of_getElem? (i := 1) rfl))) (mvT hZ (hw _ (List.mem_of_getElem? (i := 2) rfl))) (mvT hZ (hw _ (List.mem_of_getElem? (i := 3) rfl))) (mvT hZ (hw _ (List.mem_of_getElem? (i := 4) rfl))) (by decide) (own_back (W := 2) (own_rmP l Z a0 hw p1 q2 (1 : Int32) h3 n0 Z0) hZ (hw _ (List.mem_of_getElem? (i := 4) rfl)) (hw _ (List.mem_of_getElem? (i := 3) rfl)) (by decide) (by decide)) (g := (mkF m 22 #[.val (.int p1), .val (.long q2), .second, .val (.int p3), .val (.int p4), .val (.ref b1), .unset, .unset, .unset, .unset] [(.int (1 : Int32)), (.long q2), (.int p1), (.int (1 : Int32)), (.ref b1)])) rfl (by rw [hml]; rfl) (argsL := [(.int p1), (.long q2), (.int (1 : Int32))]) (rest := [(.int (1 : Int32)), (.ref b1)]) (lenOf own_pd1 rfl) rfl (by show 2 * 0 + _ ≤ _; exact Nat.le_of_eq rfl) (hb hby at_22) (fun _ _ => ⟨rfl, e3, (by decide : 1 + 0 ≤ _), (by decide : 8 + 0 ≤ _)⟩)
  dsimp only [Pt.U, Pt.locs, Pt.cells, Pt.slots] at X4 l4 y4 z4 st4 hQ4
  replace X4 := own_cst X4 l4 y4 z4 (k2 := 1) (n2 := 8) rfl rfl
  clear l4 y4 z4
  obtain ⟨z1, rfl, Nq4, eq4⟩ := hQ4
  have NF4 := Fr.app NF3 Nq4
  refine own_go st4 ?_
  show own_Go _ _ _ _ (T4.setTop (mkF m 25 #[.val (.int p1), .val (.long q2), .second, .val (.int p3), .val (.int p4), .val (.ref b1), .unset, .unset, .unset, .unset] [(.int z1), (.int (1 : Int32)), (.ref b1)]))
  obtain ⟨cl5, Ar5, q5, Sz5, Ng5, Hs5, Gs5⟩ := V_b1
  have hin5 : ¬ ((1 : Int32) < 0 ∨ cl5.slots.size ≤ ((1 : Int32)).toNatClampNeg) := inb_of Sz5 ⟨by decide, by decide⟩
  obtain ⟨T5, h5, X5, e5, W5, st5⟩ := stB X4 hx hZ eq4 Ar5 (j := (1 : Int32)) hin5 (g := (mkF m 25 #[.val (.int p1), .val (.long q2), .second, .val (.int p3), .val (.int p4), .val (.ref b1), .unset, .unset, .unset, .unset] [(.int z1), (.int (1 : Int32)), (.ref b1)])) rfl rfl (hb hby at_25)
  refine own_go st5 ?_
  have NF5 := Fr.snoc X5 NF4 ge_b1
  replace V_b1 : Arv Z h5 b1 k1 .byte (8 : Int32) [(.int (nar .byte z0)), (.int (nar .byte z1)), (.int (0 : Int32)), (.int (0 : Int32)), (.int (0 : Int32)), (.int (0 : Int32)), (.int (0 : Int32)), (.int (0 : Int32))] (.int (0 : Int32)) := Arv.set Ar5 q5 Sz5 Ng5 Hs5 Gs5 (fits_nar_byte _) W5 1 rfl (Nat.le_of_ble_eq_true rfl)
  replace S_C := S_C.wr W5
  replace S_B := S_B.wr W5
  replace V_C := V_C.other W5 ne_aC_b1
  replace V_B := V_B.other W5 ne_aB_b1
  replace Z0 := Nat.le_trans Z0 (Keep.of_wr W5).1
  replace K0 := K0.wr W5 (Or.inr sz_b1)
  show own_Go _ _ _ _ (T5.setTop (mkF m 26 #[.val (.int p1), .val (.long q2), .second, .val (.int p3), .val (.int p4), .val (.ref b1), .unset, .unset, .unset, .unset] []))
  refine own_go (fun _ kont => XS.aload X5.here hx rfl (hb hby at_26) rfl rfl kont) ?_
  show own_Go _ _ _ _ (T5.setTop (mkF m 28 #[.val (.int p1), .val (.long q2), .second, .val (.int p3), .val (.int p4), .val (.ref b1), .unset, .unset, .unset, .unset] [(.ref b1)]))
  refine own_go (fun _ kont => XS.iconst X5.here hx rfl (hb hby at_28) kont) ?_
  show own_Go _ _ _ _ (T5.setTop (mkF m 29 #[.val (.int p1), .val (.long q2), .second, .val (.int p3), .val (.int p4), .val (.ref b1), .unset, .unset, .unset, .unset] [(.int (2 : Int32)), (.ref b1)]))
  refine own_go (fun _ kont => XS.iloadN X5.here hx rfl (hb hby at_29) rfl kont) ?_
  show own_Go _ _ _ _ (T5.setTop (mkF m 30 #[.val (.int p1), .val (.long q2), .second, .val (.int p3), .val (.int p4), .val (.ref b1), .unset, .unset, .unset, .unset] [(.int p1), (.int (2 : Int32)), (.ref b1)]))
  refine own_go (fun _ kont => XS.lloadN X5.here hx rfl (hb hby at_30) rfl kont) ?_
  show own_Go _ _ _ _ (T5.setTop (mkF m 31 #[.val (.int p1), .val (.long q2), .second, .val (.int p3), .val (.int p4), .val (.ref b1), .unset, .unset, .unset, .unset] [(.long q2), (.int p1), (.int (2 : Int32)), (.ref b1)]))
  refine own_go (fun _ kont => XS.iconst X5.here hx rfl (hb hby at_31) kont) ?_
  show own_Go _ _ _ _ (T5.setTop (mkF m 32 #[.val (.int p1), .val (.long q2), .second, .val (.int p3), .val (.int p4), .val (.ref b1), .unset, .unset, .unset, .unset] [(.int (2 : Int32)), (.long q2), (.int p1), (.int (2 : Int32)), (.ref b1)]))
  obtain ⟨_, _, ⟨T6, L6, k6, n6⟩, -, X6, ⟨Lc6, hQ6, l6, y6, z6⟩, st6⟩ := Jvm.LawKit.callS X5 hx (y := (⟨"com/example/chartpost/chartpost/http/HeaderFieldsEndPinLaw", "pick", "(IJI)B"⟩ : MethodName)) hown (mvT hZ (hw _ (List.mem_of_getElem? (i := 1) rfl))) (mvT hZ (hw _ (List.mem_of_getElem? (i := 2) rfl))) (mvT hZ (hw _ (List.mem_of_getElem? (i := 3) rfl))) (mvT hZ (hw _ (List.mem_of_getElem? (i := 4) rfl))) (by decide) (own_back (W := 2) (own_rmP l Z a0 hw p1 q2 (2 : Int32) h5 n0 Z0) hZ (hw _ (List.mem_of_getElem? (i := 4) rfl)) (hw _ (List.mem_of_getElem? (i := 3) rfl)) (by decide) (by decide)) (g := (mkF m 32 #[.val (.int p1), .val (.long q2), .second, .val (.int p3), .val (.int p4), .val (.ref b1), .unset, .unset, .unset, .unset] [(.int (2 : Int32)), (.long q2), (.int p1), (.int (2 : Int32)), (.ref b1)])) rfl (by rw [hml]; rfl) (argsL := [(.int p1), (.long q2), (.int (2 : Int32))]) (rest := [(.int (2 : Int32)), (.ref b1)]) (lenOf own_pd1 rfl) rfl (by show 2 * 0 + _ ≤ _; exact Nat.le_of_eq rfl) (hb hby at_32) (fun _ _ => ⟨rfl, e5, (by decide : 1 + 0 ≤ _), (by decide : 8 + 0 ≤ _)⟩)
  dsimp only [Pt.U, Pt.locs, Pt.cells, Pt.slots] at X6 l6 y6 z6 st6 hQ6
  replace X6 := own_cst X6 l6 y6 z6 (k2 := 1) (n2 := 8) rfl rfl
  clear l6 y6 z6
  obtain ⟨z2, rfl, Nq6, eq6⟩ := hQ6
  have NF6 := Fr.app NF5 Nq6
  refine own_go st6 ?_
  show own_Go _ _ _ _ (T6.setTop (mkF m 35 #[.val (.int p1), .val (.long q2), .second, .val (.int p3), .val (.int p4), .val (.ref b1), .unset, .unset, .unset, .unset] [(.int z2), (.int (2 : Int32)), (.ref b1)]))
  obtain ⟨cl7, Ar7, q7, Sz7, Ng7, Hs7, Gs7⟩ := V_b1
  have hin7 : ¬ ((2 : Int32) < 0 ∨ cl7.slots.size ≤ ((2 : Int32)).toNatClampNeg) := inb_of Sz7 ⟨by decide, by decide⟩
  obtain ⟨T7, h7, X7, e7, W7, st7⟩ := stB X6 hx hZ eq6 Ar7 (j := (2 : Int32)) hin7 (g := (mkF m 35 #[.val (.int p1), .val (.long q2), .second, .val (.int p3), .val (.int p4), .val (.ref b1), .unset, .unset, .unset, .unset] [(.int z2), (.int (2 : Int32)), (.ref b1)])) rfl rfl (hb hby at_35)
  refine own_go st7 ?_
  have NF7 := Fr.snoc X7 NF6 ge_b1
  replace V_b1 : Arv Z h7 b1 k1 .byte (8 : Int32) [(.int (nar .byte z0)), (.int (nar .byte z1)), (.int (nar .byte z2)), (.int (0 : Int32)), (.int (0 : Int32)), (.int (0 : Int32)), (.int (0 : Int32)), (.int (0 : Int32))] (.int (0 : Int32)) := Arv.set Ar7 q7 Sz7 Ng7 Hs7 Gs7 (fits_nar_byte _) W7 2 rfl (Nat.le_of_ble_eq_true rfl)
  replace S_C := S_C.wr W7
  replace S_B := S_B.wr W7
  replace V_C := V_C.other W7 ne_aC_b1
  replace V_B := V_B.other W7 ne_aB_b1
  replace Z0 := Nat.le_trans Z0 (Keep.of_wr W7).1
  replace K0 := K0.wr W7 (Or.inr sz_b1)
  show own_Go _ _ _ _ (T7.setTop (mkF m 36 #[.val (.int p1), .val (.long q2), .second, .val (.int p3), .val (.int p4), .val (.ref b1), .unset, .unset, .unset, .unset] []))
  refine own_go (fun _ kont => XS.aload X7.here hx rfl (hb hby at_36) rfl rfl kont) ?_
  show own_Go _ _ _ _ (T7.setTop (mkF m 38 #[.val (.int p1), .val (.long q2), .second, .val (.int p3), .val (.int p4), .val (.ref b1), .unset, .unset, .unset, .unset] [(.ref b1)]))
  refine own_go (fun _ kont => XS.iconst X7.here hx rfl (hb hby at_38) kont) ?_
  show own_Go _ _ _ _ (T7.setTop (mkF m 39 #[.val (.int p1), .val (.long q2), .second, .val (.int p3), .val (.int p4), .val (.ref b1), .unset, .unset, .unset, .unset] [(.int (3 : Int32)), (.ref b1)]))
  refine own_go (fun _ kont => XS.iloadN X7.here hx rfl (hb hby at_39) rfl kont) ?_
  show own_Go _ _ _ _ (T7.setTop (mkF m 40 #[.val (.int p1), .val (.long q2), .second, .val (.int p3), .val (.int p4), .val (.ref b1), .unset, .unset, .unset, .unset] [(.int p1), (.int (3 : Int32)), (.ref b1)]))
  refine own_go (fun _ kont => XS.lloadN X7.here hx rfl (hb hby at_40) rfl kont) ?_
  show own_Go _ _ _ _ (T7.setTop (mkF m 41 #[.val (.int p1), .val (.long q2), .second, .val (.int p3), .val (.int p4), .val (.ref b1), .unset, .unset, .unset, .unset] [(.long q2), (.int p1), (.int (3 : Int32)), (.ref b1)]))
  refine own_go (fun _ kont => XS.iconst X7.here hx rfl (hb hby at_41) kont) ?_
  show own_Go _ _ _ _ (T7.setTop (mkF m 42 #[.val (.int p1), .val (.long q2), .second, .val (.int p3), .val (.int p4), .val (.ref b1), .unset, .unset, .unset, .unset] [(.int (3 : Int32)), (.long q2), (.int p1), (.int (3 : Int32)), (.ref b1)]))
  obtain ⟨_, _, ⟨T8, L8, k8, n8⟩, -, X8, ⟨Lc8, hQ8, l8, y8, z8⟩, st8⟩ := Jvm.LawKit.callS X7 hx (y := (⟨"com/example/chartpost/chartpost/http/HeaderFieldsEndPinLaw", "pick", "(IJI)B"⟩ : MethodName)) hown (mvT hZ (hw _ (List.mem_of_getElem? (i := 1) rfl))) (mvT hZ (hw _ (List.mem_of_getElem? (i := 2) rfl))) (mvT hZ (hw _ (List.mem_of_getElem? (i := 3) rfl))) (mvT hZ (hw _ (List.mem_of_getElem? (i := 4) rfl))) (by decide) (own_back (W := 2) (own_rmP l Z a0 hw p1 q2 (3 : Int32) h7 n0 Z0) hZ (hw _ (List.mem_of_getElem? (i := 4) rfl)) (hw _ (List.mem_of_getElem? (i := 3) rfl)) (by decide) (by decide)) (g := (mkF m 42 #[.val (.int p1), .val (.long q2), .second, .val (.int p3), .val (.int p4), .val (.ref b1), .unset, .unset, .unset, .unset] [(.int (3 : Int32)), (.long q2), (.int p1), (.int (3 : Int32)), (.ref b1)])) rfl (by rw [hml]; rfl) (argsL := [(.int p1), (.long q2), (.int (3 : Int32))]) (rest := [(.int (3 : Int32)), (.ref b1)]) (lenOf own_pd1 rfl) rfl (by show 2 * 0 + _ ≤ _; exact Nat.le_of_eq rfl) (hb hby at_42) (fun _ _ => ⟨rfl, e7, (by decide : 1 + 0 ≤ _), (by decide : 8 + 0 ≤ _)⟩)
  dsimp only [Pt.U, Pt.locs, Pt.cells, Pt.slots] at X8 l8 y8 z8 st8 hQ8
  replace X8 := own_cst X8 l8 y8 z8 (k2 := 1) (n2 := 8) rfl rfl
  clear l8 y8 z8
  obtain ⟨z3, rfl, Nq8, eq8⟩ := hQ8
  have NF8 := Fr.app NF7 Nq8
  refine own_go st8 ?_
  show own_Go _ _ _ _ (T8.setTop (mkF m 45 #[.val (.int p1), .val (.long q2), .second, .val (.int p3), .val (.int p4), .val (.ref b1), .unset, .unset, .unset, .unset] [(.int z3), (.int (3 : Int32)), (.ref b1)]))
  obtain ⟨cl9, Ar9, q9, Sz9, Ng9, Hs9, Gs9⟩ := V_b1
  have hin9 : ¬ ((3 : Int32) < 0 ∨ cl9.slots.size ≤ ((3 : Int32)).toNatClampNeg) := inb_of Sz9 ⟨by decide, by decide⟩
  obtain ⟨T9, h9, X9, e9, W9, st9⟩ := stB X8 hx hZ eq8 Ar9 (j := (3 : Int32)) hin9 (g := (mkF m 45 #[.val (.int p1), .val (.long q2), .second, .val (.int p3), .val (.int p4), .val (.ref b1), .unset, .unset, .unset, .unset] [(.int z3), (.int (3 : Int32)), (.ref b1)])) rfl rfl (hb hby at_45)
  refine own_go st9 ?_
  have NF9 := Fr.snoc X9 NF8 ge_b1
  replace V_b1 : Arv Z h9 b1 k1 .byte (8 : Int32) [(.int (nar .byte z0)), (.int (nar .byte z1)), (.int (nar .byte z2)), (.int (nar .byte z3)), (.int (0 : Int32)), (.int (0 : Int32)), (.int (0 : Int32)), (.int (0 : Int32))] (.int (0 : Int32)) := Arv.set Ar9 q9 Sz9 Ng9 Hs9 Gs9 (fits_nar_byte _) W9 3 rfl (Nat.le_of_ble_eq_true rfl)
  replace S_C := S_C.wr W9
  replace S_B := S_B.wr W9
  replace V_C := V_C.other W9 ne_aC_b1
  replace V_B := V_B.other W9 ne_aB_b1
  replace Z0 := Nat.le_trans Z0 (Keep.of_wr W9).1
  replace K0 := K0.wr W9 (Or.inr sz_b1)
  show own_Go _ _ _ _ (T9.setTop (mkF m 46 #[.val (.int p1), .val (.long q2), .second, .val (.int p3), .val (.int p4), .val (.ref b1), .unset, .unset, .unset, .unset] []))
  refine own_go (fun _ kont => XS.aload X9.here hx rfl (hb hby at_46) rfl rfl kont) ?_
  show own_Go _ _ _ _ (T9.setTop (mkF m 48 #[.val (.int p1), .val (.long q2), .second, .val (.int p3), .val (.int p4), .val (.ref b1), .unset, .unset, .unset, .unset] [(.ref b1)]))
  refine own_go (fun _ kont => XS.iconst X9.here hx rfl (hb hby at_48) kont) ?_
  show own_Go _ _ _ _ (T9.setTop (mkF m 49 #[.val (.int p1), .val (.long q2), .second, .val (.int p3), .val (.int p4), .val (.ref b1), .unset, .unset, .unset, .unset] [(.int (4 : Int32)), (.ref b1)]))
  refine own_go (fun _ kont => XS.iloadN X9.here hx rfl (hb hby at_49) rfl kont) ?_
  show own_Go _ _ _ _ (T9.setTop (mkF m 50 #[.val (.int p1), .val (.long q2), .second, .val (.int p3), .val (.int p4), .val (.ref b1), .unset, .unset, .unset, .unset] [(.int p1), (.int (4 : Int32)), (.ref b1)]))
  refine own_go (fun _ kont => XS.lloadN X9.here hx rfl (hb hby at_50) rfl kont) ?_
  show own_Go _ _ _ _ (T9.setTop (mkF m 51 #[.val (.int p1), .val (.long q2), .second, .val (.int p3), .val (.int p4), .val (.ref b1), .unset, .unset, .unset, .unset] [(.long q2), (.int p1), (.int (4 : Int32)), (.ref b1)]))
  refine own_go (fun _ kont => XS.iconst X9.here hx rfl (hb hby at_51) kont) ?_
  show own_Go _ _ _ _ (T9.setTop (mkF m 52 #[.val (.int p1), .val (.long q2), .second, .val (.int p3), .val (.int p4), .val (.ref b1), .unset, .unset, .unset, .unset] [(.int (4 : Int32)), (.long q2), (.int p1), (.int (4 : Int32)), (.ref b1)]))
  obtain ⟨_, _, ⟨T10, L10, k10, n10⟩, -, X10, ⟨Lc10, hQ10, l10, y10, z10⟩, st10⟩ := Jvm.LawKit.callS X9 hx (y := (⟨"com/example/chartpost/chartpost/http/HeaderFieldsEndPinLaw", "pick", "(IJI)B"⟩ : MethodName)) hown (mvT hZ (hw _ (List.mem_of_getElem? (i := 1) rfl))) (mvT hZ (hw _ (List.mem_of_getElem? (i := 2) rfl))) (mvT hZ (hw _ (List.mem_of_getElem? (i := 3) rfl))) (mvT hZ (hw _ (List.mem_of_getElem? (i := 4) rfl))) (by decide) (own_back (W := 2) (own_rmP l Z a0 hw p1 q2 (4 : Int32) h9 n0 Z0) hZ (hw _ (List.mem_of_getElem? (i := 4) rfl)) (hw _ (List.mem_of_getElem? (i := 3) rfl)) (by decide) (by decide)) (g := (mkF m 52 #[.val (.int p1), .val (.long q2), .second, .val (.int p3), .val (.int p4), .val (.ref b1), .unset, .unset, .unset, .unset] [(.int (4 : Int32)), (.long q2), (.int p1), (.int (4 : Int32)), (.ref b1)])) rfl (by rw [hml]; rfl) (argsL := [(.int p1), (.long q2), (.int (4 : Int32))]) (rest := [(.int (4 : Int32)), (.ref b1)]) (lenOf own_pd1 rfl) rfl (by show 2 * 0 + _ ≤ _; exact Nat.le_of_eq rfl) (hb hby at_52) (fun _ _ => ⟨rfl, e9, (by decide : 1 + 0 ≤ _), (by decide : 8 + 0 ≤ _)⟩)
  dsimp only [Pt.U, Pt.locs, Pt.cells, Pt.slots] at X10 l10 y10 z10 st10 hQ10
  replace X10 := own_cst X10 l10 y10 z10 (k2 := 1) (n2 := 8) rfl rfl
  clear l10 y10 z10
  obtain ⟨z4, rfl, Nq10, eq10⟩ := hQ10
  have NF10 := Fr.app NF9 Nq10
  refine own_go st10 ?_
  show own_Go _ _ _ _ (T10.setTop (mkF m 55 #[.val (.int p1), .val (.long q2), .second, .val (.int p3), .val (.int p4), .val (.ref b1), .unset, .unset, .unset, .unset] [(.int z4), (.int (4 : Int32)), (.ref b1)]))
  obtain ⟨cl11, Ar11, q11, Sz11, Ng11, Hs11, Gs11⟩ := V_b1
  have hin11 : ¬ ((4 : Int32) < 0 ∨ cl11.slots.size ≤ ((4 : Int32)).toNatClampNeg) := inb_of Sz11 ⟨by decide, by decide⟩
  obtain ⟨T11, h11, X11, e11, W11, st11⟩ := stB X10 hx hZ eq10 Ar11 (j := (4 : Int32)) hin11 (g := (mkF m 55 #[.val (.int p1), .val (.long q2), .second, .val (.int p3), .val (.int p4), .val (.ref b1), .unset, .unset, .unset, .unset] [(.int z4), (.int (4 : Int32)), (.ref b1)])) rfl rfl (hb hby at_55)
  refine own_go st11 ?_
  have NF11 := Fr.snoc X11 NF10 ge_b1
  replace V_b1 : Arv Z h11 b1 k1 .byte (8 : Int32) [(.int (nar .byte z0)), (.int (nar .byte z1)), (.int (nar .byte z2)), (.int (nar .byte z3)), (.int (nar .byte z4)), (.int (0 : Int32)), (.int (0 : Int32)), (.int (0 : Int32))] (.int (0 : Int32)) := Arv.set Ar11 q11 Sz11 Ng11 Hs11 Gs11 (fits_nar_byte _) W11 4 rfl (Nat.le_of_ble_eq_true rfl)
  replace S_C := S_C.wr W11
  replace S_B := S_B.wr W11
  replace V_C := V_C.other W11 ne_aC_b1
  replace V_B := V_B.other W11 ne_aB_b1
  replace Z0 := Nat.le_trans Z0 (Keep.of_wr W11).1
  replace K0 := K0.wr W11 (Or.inr sz_b1)
  show own_Go _ _ _ _ (T11.setTop (mkF m 56 #[.val (.int p1), .val (.long q2), .second, .val (.int p3), .val (.int p4), .val (.ref b1), .unset, .unset, .unset, .unset] []))
  refine own_go (fun _ kont => XS.aload X11.here hx rfl (hb hby at_56) rfl rfl kont) ?_
  show own_Go _ _ _ _ (T11.setTop (mkF m 58 #[.val (.int p1), .val (.long q2), .second, .val (.int p3), .val (.int p4), .val (.ref b1), .unset, .unset, .unset, .unset] [(.ref b1)]))
  refine own_go (fun _ kont => XS.iconst X11.here hx rfl (hb hby at_58) kont) ?_
  show own_Go _ _ _ _ (T11.setTop (mkF m 59 #[.val (.int p1), .val (.long q2), .second, .val (.int p3), .val (.int p4), .val (.ref b1), .unset, .unset, .unset, .unset] [(.int (5 : Int32)), (.ref b1)]))
  refine own_go (fun _ kont => XS.iloadN X11.here hx rfl (hb hby at_59) rfl kont) ?_
  show own_Go _ _ _ _ (T11.setTop (mkF m 60 #[.val (.int p1), .val (.long q2), .second, .val (.int p3), .val (.int p4), .val (.ref b1), .unset, .unset, .unset, .unset] [(.int p1), (.int (5 : Int32)), (.ref b1)]))
  refine own_go (fun _ kont => XS.lloadN X11.here hx rfl (hb hby at_60) rfl kont) ?_
  show own_Go _ _ _ _ (T11.setTop (mkF m 61 #[.val (.int p1), .val (.long q2), .second, .val (.int p3), .val (.int p4), .val (.ref b1), .unset, .unset, .unset, .unset] [(.long q2), (.int p1), (.int (5 : Int32)), (.ref b1)]))
  refine own_go (fun _ kont => XS.iconst X11.here hx rfl (hb hby at_61) kont) ?_
  show own_Go _ _ _ _ (T11.setTop (mkF m 62 #[.val (.int p1), .val (.long q2), .second, .val (.int p3), .val (.int p4), .val (.ref b1), .unset, .unset, .unset, .unset] [(.int (5 : Int32)), (.long q2), (.int p1), (.int (5 : Int32)), (.ref b1)]))
  obtain ⟨_, _, ⟨T12, L12, k12, n12⟩, -, X12, ⟨Lc12, hQ12, l12, y12, z12⟩, st12⟩ := Jvm.LawKit.callS X11 hx (y := (⟨"com/example/chartpost/chartpost/http/HeaderFieldsEndPinLaw", "pick", "(IJI)B"⟩ : MethodName)) hown (mvT hZ (hw _ (List.mem_of_getElem? (i := 1) rfl))) (mvT hZ (hw _ (List.mem_of_getElem? (i := 2) rfl))) (mvT hZ (hw _ (List.mem_of_getElem? (i := 3) rfl))) (mvT hZ (hw _ (List.mem_of_getElem? (i := 4) rfl))) (by decide) (own_back (W := 2) (own_rmP l Z a0 hw p1 q2 (5 : Int32) h11 n0 Z0) hZ (hw _ (List.mem_of_getElem? (i := 4) rfl)) (hw _ (List.mem_of_getElem? (i := 3) rfl)) (by decide) (by decide)) (g := (mkF m 62 #[.val (.int p1), .val (.long q2), .second, .val (.int p3), .val (.int p4), .val (.ref b1), .unset, .unset, .unset, .unset] [(.int (5 : Int32)), (.long q2), (.int p1), (.int (5 : Int32)), (.ref b1)])) rfl (by rw [hml]; rfl) (argsL := [(.int p1), (.long q2), (.int (5 : Int32))]) (rest := [(.int (5 : Int32)), (.ref b1)]) (lenOf own_pd1 rfl) rfl (by show 2 * 0 + _ ≤ _; exact Nat.le_of_eq rfl) (hb hby at_62) (fun _ _ => ⟨rfl, e11, (by decide : 1 + 0 ≤ _), (by decide : 8 + 0 ≤ _)⟩)
  dsimp only [Pt.U, Pt.locs, Pt.cells, Pt.slots] at X12 l12 y12 z12 st12 hQ12
  replace X12 := own_cst X12 l12 y12 z12 (k2 := 1) (n2 := 8) rfl rfl
  clear l12 y12 z12
  obtain ⟨z5, rfl, Nq12, eq12⟩ := hQ12
  have NF12 := Fr.app NF11 Nq12
  refine own_go st12 ?_
  show own_Go _ _ _ _ (T12.setTop (mkF m 65 #[.val (.int p1), .val (.long q2), .second, .val (.int p3), .val (.int p4), .val (.ref b1), .unset, .unset, .unset, .unset] [(.int z5), (.int (5 : Int32)), (.ref b1)]))
  obtain ⟨cl13, Ar13, q13, Sz13, Ng13, Hs13, Gs13⟩ := V_b1
  have hin13 : ¬ ((5 : Int32) < 0 ∨ cl13.slots.size ≤ ((5 : Int32)).toNatClampNeg) := inb_of Sz13 ⟨by decide, by decide⟩
  obtain ⟨T13, h13, X13, e13, W13, st13⟩ := stB X12 hx hZ eq12 Ar13 (j := (5 : Int32)) hin13 (g := (mkF m 65 #[.val (.int p1), .val (.long q2), .second, .val (.int p3), .val (.int p4), .val (.ref b1), .unset, .unset, .unset, .unset] [(.int z5), (.int (5 : Int32)), (.ref b1)])) rfl rfl (hb hby at_65)
  refine own_go st13 ?_
  have NF13 := Fr.snoc X13 NF12 ge_b1
  replace V_b1 : Arv Z h13 b1 k1 .byte (8 : Int32) [(.int (nar .byte z0)), (.int (nar .byte z1)), (.int (nar .byte z2)), (.int (nar .byte z3)), (.int (nar .byte z4)), (.int (nar .byte z5)), (.int (0 : Int32)), (.int (0 : Int32))] (.int (0 : Int32)) := Arv.set Ar13 q13 Sz13 Ng13 Hs13 Gs13 (fits_nar_byte _) W13 5 rfl (Nat.le_of_ble_eq_true rfl)
  replace S_C := S_C.wr W13
  replace S_B := S_B.wr W13
  replace V_C := V_C.other W13 ne_aC_b1
  replace V_B := V_B.other W13 ne_aB_b1
  replace Z0 := Nat.le_trans Z0 (Keep.of_wr W13).1
  replace K0 := K0.wr W13 (Or.inr sz_b1)
  show own_Go _ _ _ _ (T13.setTop (mkF m 66 #[.val (.int p1), .val (.long q2), .second, .val (.int p3), .val (.int p4), .val (.ref b1), .unset, .unset, .unset, .unset] []))
  refine own_go (fun _ kont => XS.aload X13.here hx rfl (hb hby at_66) rfl rfl kont) ?_
  show own_Go _ _ _ _ (T13.setTop (mkF m 68 #[.val (.int p1), .val (.long q2), .second, .val (.int p3), .val (.int p4), .val (.ref b1), .unset, .unset, .unset, .unset] [(.ref b1)]))
  refine own_go (fun _ kont => XS.bipush X13.here hx rfl (hb hby at_68) kont) ?_
  show own_Go _ _ _ _ (T13.setTop (mkF m 70 #[.val (.int p1), .val (.long q2), .second, .val (.int p3), .val (.int p4), .val (.ref b1), .unset, .unset, .unset, .unset] [(.int (6 : Int32)), (.ref b1)]))
  refine own_go (fun _ kont => XS.iloadN X13.here hx rfl (hb hby at_70) rfl kont) ?_
  show own_Go _ _ _ _ (T13.setTop (mkF m 71 #[.val (.int p1), .val (.long q2), .second, .val (.int p3), .val (.int p4), .val (.ref b1), .unset, .unset, .unset, .unset] [(.int p1), (.int (6 : Int32)), (.ref b1)]))
  refine own_go (fun _ kont => XS.lloadN X13.here hx rfl (hb hby at_71) rfl kont) ?_
  show own_Go _ _ _ _ (T13.setTop (mkF m 72 #[.val (.int p1), .val (.long q2), .second, .val (.int p3), .val (.int p4), .val (.ref b1), .unset, .unset, .unset, .unset] [(.long q2), (.int p1), (.int (6 : Int32)), (.ref b1)]))
  refine own_go (fun _ kont => XS.bipush X13.here hx rfl (hb hby at_72) kont) ?_
  show own_Go _ _ _ _ (T13.setTop (mkF m 74 #[.val (.int p1), .val (.long q2), .second, .val (.int p3), .val (.int p4), .val (.ref b1), .unset, .unset, .unset, .unset] [(.int (6 : Int32)), (.long q2), (.int p1), (.int (6 : Int32)), (.ref b1)]))
  obtain ⟨_, _, ⟨T14, L14, k14, n14⟩, -, X14, ⟨Lc14, hQ14, l14, y14, z14⟩, st14⟩ := Jvm.LawKit.callS X13 hx (y := (⟨"com/example/chartpost/chartpost/http/HeaderFieldsEndPinLaw", "pick", "(IJI)B"⟩ : MethodName)) hown (mvT hZ (hw _ (List.mem_of_getElem? (i := 1) rfl))) (mvT hZ (hw _ (List.mem_of_getElem? (i := 2) rfl))) (mvT hZ (hw _ (List.mem_of_getElem? (i := 3) rfl))) (mvT hZ (hw _ (List.mem_of_getElem? (i := 4) rfl))) (by decide) (own_back (W := 2) (own_rmP l Z a0 hw p1 q2 (6 : Int32) h13 n0 Z0) hZ (hw _ (List.mem_of_getElem? (i := 4) rfl)) (hw _ (List.mem_of_getElem? (i := 3) rfl)) (by decide) (by decide)) (g := (mkF m 74 #[.val (.int p1), .val (.long q2), .second, .val (.int p3), .val (.int p4), .val (.ref b1), .unset, .unset, .unset, .unset] [(.int (6 : Int32)), (.long q2), (.int p1), (.int (6 : Int32)), (.ref b1)])) rfl (by rw [hml]; rfl) (argsL := [(.int p1), (.long q2), (.int (6 : Int32))]) (rest := [(.int (6 : Int32)), (.ref b1)]) (lenOf own_pd1 rfl) rfl (by show 2 * 0 + _ ≤ _; exact Nat.le_of_eq rfl) (hb hby at_74) (fun _ _ => ⟨rfl, e13, (by decide : 1 + 0 ≤ _), (by decide : 8 + 0 ≤ _)⟩)
  dsimp only [Pt.U, Pt.locs, Pt.cells, Pt.slots] at X14 l14 y14 z14 st14 hQ14
  replace X14 := own_cst X14 l14 y14 z14 (k2 := 1) (n2 := 8) rfl rfl
  clear l14 y14 z14
  obtain ⟨z6, rfl, Nq14, eq14⟩ := hQ14
  have NF14 := Fr.app NF13 Nq14
  refine own_go st14 ?_
  show own_Go _ _ _ _ (T14.setTop (mkF m 77 #[.val (.int p1), .val (.long q2), .second, .val (.int p3), .val (.int p4), .val (.ref b1), .unset, .unset, .unset, .unset] [(.int z6), (.int (6 : Int32)), (.ref b1)]))
  obtain ⟨cl15, Ar15, q15, Sz15, Ng15, Hs15, Gs15⟩ := V_b1
  have hin15 : ¬ ((6 : Int32) < 0 ∨ cl15.slots.size ≤ ((6 : Int32)).toNatClampNeg) := inb_of Sz15 ⟨by decide, by decide⟩
  obtain ⟨T15, h15, X15, e15, W15, st15⟩ := stB X14 hx hZ eq14 Ar15 (j := (6 : Int32)) hin15 (g := (mkF m 77 #[.val (.int p1), .val (.long q2), .second, .val (.int p3), .val (.int p4), .val (.ref b1), .unset, .unset, .unset, .unset] [(.int z6), (.int (6 : Int32)), (.ref b1)])) rfl rfl (hb hby at_77)
  refine own_go st15 ?_
  have NF15 := Fr.snoc X15 NF14 ge_b1
  replace V_b1 : Arv Z h15 b1 k1 .byte (8 : Int32) [(.int (nar .byte z0)), (.int (nar .byte z1)), (.int (nar .byte z2)), (.int (nar .byte z3)), (.int (nar .byte z4)), (.int (nar .byte z5)), (.int (nar .byte z6)), (.int (0 : Int32))] (.int (0 : Int32)) := Arv.set Ar15 q15 Sz15 Ng15 Hs15 Gs15 (fits_nar_byte _) W15 6 rfl (Nat.le_of_ble_eq_true rfl)
  replace S_C := S_C.wr W15
  replace S_B := S_B.wr W15
  replace V_C := V_C.other W15 ne_aC_b1
  replace V_B := V_B.other W15 ne_aB_b1
  replace Z0 := Nat.le_trans Z0 (Keep.of_wr W15).1
  replace K0 := K0.wr W15 (Or.inr sz_b1)
  show own_Go _ _ _ _ (T15.setTop (mkF m 78 #[.val (.int p1), .val (.long q2), .second, .val (.int p3), .val (.int p4), .val (.ref b1), .unset, .unset, .unset, .unset] []))
  refine own_go (fun _ kont => XS.aload X15.here hx rfl (hb hby at_78) rfl rfl kont) ?_
  show own_Go _ _ _ _ (T15.setTop (mkF m 80 #[.val (.int p1), .val (.long q2), .second, .val (.int p3), .val (.int p4), .val (.ref b1), .unset, .unset, .unset, .unset] [(.ref b1)]))
  refine own_go (fun _ kont => XS.bipush X15.here hx rfl (hb hby at_80) kont) ?_
  show own_Go _ _ _ _ (T15.setTop (mkF m 82 #[.val (.int p1), .val (.long q2), .second, .val (.int p3), .val (.int p4), .val (.ref b1), .unset, .unset, .unset, .unset] [(.int (7 : Int32)), (.ref b1)]))
  refine own_go (fun _ kont => XS.iloadN X15.here hx rfl (hb hby at_82) rfl kont) ?_
  show own_Go _ _ _ _ (T15.setTop (mkF m 83 #[.val (.int p1), .val (.long q2), .second, .val (.int p3), .val (.int p4), .val (.ref b1), .unset, .unset, .unset, .unset] [(.int p1), (.int (7 : Int32)), (.ref b1)]))
  refine own_go (fun _ kont => XS.lloadN X15.here hx rfl (hb hby at_83) rfl kont) ?_
  show own_Go _ _ _ _ (T15.setTop (mkF m 84 #[.val (.int p1), .val (.long q2), .second, .val (.int p3), .val (.int p4), .val (.ref b1), .unset, .unset, .unset, .unset] [(.long q2), (.int p1), (.int (7 : Int32)), (.ref b1)]))
  refine own_go (fun _ kont => XS.bipush X15.here hx rfl (hb hby at_84) kont) ?_
  show own_Go _ _ _ _ (T15.setTop (mkF m 86 #[.val (.int p1), .val (.long q2), .second, .val (.int p3), .val (.int p4), .val (.ref b1), .unset, .unset, .unset, .unset] [(.int (7 : Int32)), (.long q2), (.int p1), (.int (7 : Int32)), (.ref b1)]))
  obtain ⟨_, _, ⟨T16, L16, k16, n16⟩, -, X16, ⟨Lc16, hQ16, l16, y16, z16⟩, st16⟩ := Jvm.LawKit.callS X15 hx (y := (⟨"com/example/chartpost/chartpost/http/HeaderFieldsEndPinLaw", "pick", "(IJI)B"⟩ : MethodName)) hown (mvT hZ (hw _ (List.mem_of_getElem? (i := 1) rfl))) (mvT hZ (hw _ (List.mem_of_getElem? (i := 2) rfl))) (mvT hZ (hw _ (List.mem_of_getElem? (i := 3) rfl))) (mvT hZ (hw _ (List.mem_of_getElem? (i := 4) rfl))) (by decide) (own_back (W := 2) (own_rmP l Z a0 hw p1 q2 (7 : Int32) h15 n0 Z0) hZ (hw _ (List.mem_of_getElem? (i := 4) rfl)) (hw _ (List.mem_of_getElem? (i := 3) rfl)) (by decide) (by decide)) (g := (mkF m 86 #[.val (.int p1), .val (.long q2), .second, .val (.int p3), .val (.int p4), .val (.ref b1), .unset, .unset, .unset, .unset] [(.int (7 : Int32)), (.long q2), (.int p1), (.int (7 : Int32)), (.ref b1)])) rfl (by rw [hml]; rfl) (argsL := [(.int p1), (.long q2), (.int (7 : Int32))]) (rest := [(.int (7 : Int32)), (.ref b1)]) (lenOf own_pd1 rfl) rfl (by show 2 * 0 + _ ≤ _; exact Nat.le_of_eq rfl) (hb hby at_86) (fun _ _ => ⟨rfl, e15, (by decide : 1 + 0 ≤ _), (by decide : 8 + 0 ≤ _)⟩)
  dsimp only [Pt.U, Pt.locs, Pt.cells, Pt.slots] at X16 l16 y16 z16 st16 hQ16
  replace X16 := own_cst X16 l16 y16 z16 (k2 := 1) (n2 := 8) rfl rfl
  clear l16 y16 z16
  obtain ⟨z7, rfl, Nq16, eq16⟩ := hQ16
  have NF16 := Fr.app NF15 Nq16
  refine own_go st16 ?_
  show own_Go _ _ _ _ (T16.setTop (mkF m 89 #[.val (.int p1), .val (.long q2), .second, .val (.int p3), .val (.int p4), .val (.ref b1), .unset, .unset, .unset, .unset] [(.int z7), (.int (7 : Int32)), (.ref b1)]))
  obtain ⟨cl17, Ar17, q17, Sz17, Ng17, Hs17, Gs17⟩ := V_b1
  have hin17 : ¬ ((7 : Int32) < 0 ∨ cl17.slots.size ≤ ((7 : Int32)).toNatClampNeg) := inb_of Sz17 ⟨by decide, by decide⟩
  obtain ⟨T17, h17, X17, e17, W17, st17⟩ := stB X16 hx hZ eq16 Ar17 (j := (7 : Int32)) hin17 (g := (mkF m 89 #[.val (.int p1), .val (.long q2), .second, .val (.int p3), .val (.int p4), .val (.ref b1), .unset, .unset, .unset, .unset] [(.int z7), (.int (7 : Int32)), (.ref b1)])) rfl rfl (hb hby at_89)
  refine own_go st17 ?_
  have NF17 := Fr.snoc X17 NF16 ge_b1
  replace V_b1 : Arv Z h17 b1 k1 .byte (8 : Int32) [(.int (nar .byte z0)), (.int (nar .byte z1)), (.int (nar .byte z2)), (.int (nar .byte z3)), (.int (nar .byte z4)), (.int (nar .byte z5)), (.int (nar .byte z6)), (.int (nar .byte z7))] (.int (0 : Int32)) := Arv.set Ar17 q17 Sz17 Ng17 Hs17 Gs17 (fits_nar_byte _) W17 7 rfl (Nat.le_of_ble_eq_true rfl)
  replace S_C := S_C.wr W17
  replace S_B := S_B.wr W17
  replace V_C := V_C.other W17 ne_aC_b1
  replace V_B := V_B.other W17 ne_aB_b1
  replace Z0 := Nat.le_trans Z0 (Keep.of_wr W17).1
  replace K0 := K0.wr W17 (Or.inr sz_b1)
  show own_Go _ _ _ _ (T17.setTop (mkF m 90 #[.val (.int p1), .val (.long q2), .second, .val (.int p3), .val (.int p4), .val (.ref b1), .unset, .unset, .unset, .unset] []))
  refine own_go (fun _ kont => XS.iloadN X17.here hx rfl (hb hby at_90) rfl kont) ?_
  show own_Go _ _ _ _ (T17.setTop (mkF m 91 #[.val (.int p1), .val (.long q2), .second, .val (.int p3), .val (.int p4), .val (.ref b1), .unset, .unset, .unset, .unset] [(.int p3)]))
  refine own_go (X17.ldcInt hx hown (mvT hZ (hw _ (List.mem_of_getElem? (i := 5) rfl))) (g := (mkF m 91 #[.val (.int p1), .val (.long q2), .second, .val (.int p3), .val (.int p4), .val (.ref b1), .unset, .unset, .unset, .unset] [(.int p3)])) rfl (hb hby at_91)) ?_
  show own_Go _ _ _ _ (T17.setTop (mkF m 93 #[.val (.int p1), .val (.long q2), .second, .val (.int p3), .val (.int p4), .val (.ref b1), .unset, .unset, .unset, .unset] [(.int (2147483647 : Int32)), (.int p3)]))
  refine own_go (fun _ kont => XS.iand X17.here hx rfl (hb hby at_93) rfl kont) ?_
  show own_Go _ _ _ _ (T17.setTop (mkF m 94 #[.val (.int p1), .val (.long q2), .second, .val (.int p3), .val (.int p4), .val (.ref b1), .unset, .unset, .unset, .unset] [(.int (p3 &&& (2147483647 : Int32)))]))
  refine own_go (fun _ kont => XS.bipush X17.here hx rfl (hb hby at_94) kont) ?_
  show own_Go _ _ _ _ (T17.setTop (mkF m 96 #[.val (.int p1), .val (.long q2), .second, .val (.int p3), .val (.int p4), .val (.ref b1), .unset, .unset, .unset, .unset] [(.int (9 : Int32)), (.int (p3 &&& (2147483647 : Int32)))]))
  refine own_go (fun _ kont => iremM X17 hx rfl (hb hby at_96) rfl (by decide) kont) ?_
  show own_Go _ _ _ _ (T17.setTop (mkF m 97 #[.val (.int p1), .val (.long q2), .second, .val (.int p3), .val (.int p4), .val (.ref b1), .unset, .unset, .unset, .unset] [(.int ((p3 &&& (2147483647 : Int32)) % (9 : Int32)))]))
  obtain ⟨ys, V1⟩ : ∃ ys : List Int32, Arv Z h17 b1 k1 .byte 8 (ys.map Value.int) (.int 0) := ⟨[nar .byte z0, nar .byte z1, nar .byte z2, nar .byte z3, nar .byte z4, nar .byte z5, nar .byte z6, nar .byte z7], V_b1⟩
  obtain ⟨h1, h2⟩ := own_f p3
  generalize hf : ((p3 &&& (2147483647 : Int32)) % (9 : Int32)) = f
  rw [hf] at h1 h2
  show own_Go _ _ _ _ (T17.setTop (mkF m 97 #[.val (.int p1), .val (.long q2), .second, .val (.int p3), .val (.int p4), .val (.ref b1), .unset, .unset, .unset, .unset] [(.int f)]))
  refine own_go (fun _ kont => XS.istore X17.here hx rfl (hb hby at_97) rfl (l' := #[.val (.int p1), .val (.long q2), .second, .val (.int p3), .val (.int p4), .val (.ref b1), .val (.int f), .unset, .unset, .unset]) rfl kont) ?_
  show own_Go _ _ _ _ (T17.setTop (mkF m 99 #[.val (.int p1), .val (.long q2), .second, .val (.int p3), .val (.int p4), .val (.ref b1), .val (.int f), .unset, .unset, .unset] []))
  refine own_go (fun _ kont => XS.iload X17.here hx rfl (hb hby at_99) rfl kont) ?_
  show own_Go _ _ _ _ (T17.setTop (mkF m 101 #[.val (.int p1), .val (.long q2), .second, .val (.int p3), .val (.int p4), .val (.ref b1), .val (.int f), .unset, .unset, .unset] [(.int f)]))
  refine own_go (fun _ kont => XS.iload X17.here hx rfl (hb hby at_101) rfl kont) ?_
  show own_Go _ _ _ _ (T17.setTop (mkF m 103 #[.val (.int p1), .val (.long q2), .second, .val (.int p3), .val (.int p4), .val (.ref b1), .val (.int f), .unset, .unset, .unset] [(.int p4), (.int f)]))
  refine own_go (X17.ldcInt hx hown (mvT hZ (hw _ (List.mem_of_getElem? (i := 5) rfl))) (g := (mkF m 103 #[.val (.int p1), .val (.long q2), .second, .val (.int p3), .val (.int p4), .val (.ref b1), .val (.int f), .unset, .unset, .unset] [(.int p4), (.int f)])) rfl (hb hby at_103)) ?_
  show own_Go _ _ _ _ (T17.setTop (mkF m 105 #[.val (.int p1), .val (.long q2), .second, .val (.int p3), .val (.int p4), .val (.ref b1), .val (.int f), .unset, .unset, .unset] [(.int (2147483647 : Int32)), (.int p4), (.int f)]))
  refine own_go (fun _ kont => XS.iand X17.here hx rfl (hb hby at_105) rfl kont) ?_
  show own_Go _ _ _ _ (T17.setTop (mkF m 106 #[.val (.int p1), .val (.long q2), .second, .val (.int p3), .val (.int p4), .val (.ref b1), .val (.int f), .unset, .unset, .unset] [(.int (p4 &&& (2147483647 : Int32))), (.int f)]))
  refine own_go (fun _ kont => XS.bipush X17.here hx rfl (hb hby at_106) kont) ?_
  show own_Go _ _ _ _ (T17.setTop (mkF m 108 #[.val (.int p1), .val (.long q2), .second, .val (.int p3), .val (.int p4), .val (.ref b1), .val (.int f), .unset, .unset, .unset] [(.int (9 : Int32)), (.int (p4 &&& (2147483647 : Int32))), (.int f)]))
  refine own_go (fun _ kont => XS.iload X17.here hx rfl (hb hby at_108) rfl kont) ?_
  show own_Go _ _ _ _ (T17.setTop (mkF m 110 #[.val (.int p1), .val (.long q2), .second, .val (.int p3), .val (.int p4), .val (.ref b1), .val (.int f), .unset, .unset, .unset] [(.int f), (.int (9 : Int32)), (.int (p4 &&& (2147483647 : Int32))), (.int f)]))
  refine own_go (fun _ kont => XS.isub X17.here hx rfl (hb hby at_110) rfl kont) ?_
  show own_Go _ _ _ _ (T17.setTop (mkF m 111 #[.val (.int p1), .val (.long q2), .second, .val (.int p3), .val (.int p4), .val (.ref b1), .val (.int f), .unset, .unset, .unset] [(.int ((9 : Int32) - f)), (.int (p4 &&& (2147483647 : Int32))), (.int f)]))
  refine own_go (fun _ kont => iremM X17 hx rfl (hb hby at_111) rfl (own_9 h1 h2) kont) ?_
  show own_Go _ _ _ _ (T17.setTop (mkF m 112 #[.val (.int p1), .val (.long q2), .second, .val (.int p3), .val (.int p4), .val (.ref b1), .val (.int f), .unset, .unset, .unset] [(.int ((p4 &&& (2147483647 : Int32)) % ((9 : Int32) - f))), (.int f)]))
  refine own_go (fun _ kont => XS.iadd X17.here hx rfl (hb hby at_112) rfl kont) ?_
  show own_Go _ _ _ _ (T17.setTop (mkF m 113 #[.val (.int p1), .val (.long q2), .second, .val (.int p3), .val (.int p4), .val (.ref b1), .val (.int f), .unset, .unset, .unset] [(.int (f + ((p4 &&& (2147483647 : Int32)) % ((9 : Int32) - f))))]))
  obtain ⟨h3, h4⟩ := own_t p4 h1 h2
  generalize htt : (f + ((p4 &&& (2147483647 : Int32)) % ((9 : Int32) - f))) = t
  rw [htt] at h3 h4
  show own_Go _ _ _ _ (T17.setTop (mkF m 113 #[.val (.int p1), .val (.long q2), .second, .val (.int p3), .val (.int p4), .val (.ref b1), .val (.int f), .unset, .unset, .unset] [(.int t)]))
  refine own_go (fun _ kont => XS.istore X17.here hx rfl (hb hby at_113) rfl (l' := #[.val (.int p1), .val (.long q2), .second, .val (.int p3), .val (.int p4), .val (.ref b1), .val (.int f), .val (.int t), .unset, .unset]) rfl kont) ?_
  show own_Go _ _ _ _ (T17.setTop (mkF m 115 #[.val (.int p1), .val (.long q2), .second, .val (.int p3), .val (.int p4), .val (.ref b1), .val (.int f), .val (.int t), .unset, .unset] []))
  refine own_go (fun _ kont => XS.aload X17.here hx rfl (hb hby at_115) rfl rfl kont) ?_
  show own_Go _ _ _ _ (T17.setTop (mkF m 117 #[.val (.int p1), .val (.long q2), .second, .val (.int p3), .val (.int p4), .val (.ref b1), .val (.int f), .val (.int t), .unset, .unset] [(.ref b1)]))
  refine own_go (fun _ kont => XS.iload X17.here hx rfl (hb hby at_117) rfl kont) ?_
  show own_Go _ _ _ _ (T17.setTop (mkF m 119 #[.val (.int p1), .val (.long q2), .second, .val (.int p3), .val (.int p4), .val (.ref b1), .val (.int f), .val (.int t), .unset, .unset] [(.int f), (.ref b1)]))
  refine own_go (fun _ kont => XS.iload X17.here hx rfl (hb hby at_119) rfl kont) ?_
  show own_Go _ _ _ _ (T17.setTop (mkF m 121 #[.val (.int p1), .val (.long q2), .second, .val (.int p3), .val (.int p4), .val (.ref b1), .val (.int f), .val (.int t), .unset, .unset] [(.int t), (.int f), (.ref b1)]))
  obtain ⟨_, _, ⟨T18, L18, k18, n18⟩, -, X18, ⟨Lc18, hQ18, l18, y18, z18⟩, st18⟩ := Jvm.LawKit.callS X17 hx (y := (⟨"com/example/chartpost/chartpost/http/HeaderFields", "end", "([BII)I"⟩ : MethodName)) hown (mvT hZ (hw _ (List.mem_of_getElem? (i := 6) rfl))) (mvT hZ (hw _ (List.mem_of_getElem? (i := 7) rfl))) (mvT hZ (hw _ (List.mem_of_getElem? (i := 8) rfl))) (mvT hZ (hw _ (List.mem_of_getElem? (i := 9) rfl))) (by decide) (own_back (W := 0) (own_rmD l Z a0 hw b1 f t aC aB ys k1 kC kB h17 n0 Z0 S_C S_B V1 V_C V_B h1 h2 (by omega) h4) hZ (hw _ (List.mem_of_getElem? (i := 9) rfl)) (hw _ (List.mem_of_getElem? (i := 8) rfl)) (by decide) (by decide)) (g := (mkF m 121 #[.val (.int p1), .val (.long q2), .second, .val (.int p3), .val (.int p4), .val (.ref b1), .val (.int f), .val (.int t), .unset, .unset] [(.int t), (.int f), (.ref b1)])) rfl (by rw [hml]; rfl) (argsL := [(.ref b1), (.int f), (.int t)]) (rest := []) (lenOf own_pd2 rfl) rfl (by show 2 * 0 + _ ≤ _; exact Nat.le_of_eq rfl) (hb hby at_121) (fun _ _ => ⟨rfl, e17, (by decide : 1 + 0 ≤ _), (by decide : 8 + 0 ≤ _)⟩)
  dsimp only [Pt.U, Pt.locs, Pt.cells, Pt.slots] at X18 l18 y18 z18 st18 hQ18
  replace X18 := own_cst X18 l18 y18 z18 (k2 := 1) (n2 := 8) rfl rfl
  clear l18 y18 z18
  obtain ⟨rfl, Nq18, eq18⟩ := hQ18
  have NF18 := Fr.app NF17 Nq18
  refine own_go st18 ?_
  show own_Go _ _ _ _ (T18.setTop (mkF m 124 #[.val (.int p1), .val (.long q2), .second, .val (.int p3), .val (.int p4), .val (.ref b1), .val (.int f), .val (.int t), .unset, .unset] [(.int (own_end ys f t))]))
  refine own_go (fun _ kont => XS.istore X18.here hx rfl (hb hby at_124) rfl (l' := #[.val (.int p1), .val (.long q2), .second, .val (.int p3), .val (.int p4), .val (.ref b1), .val (.int f), .val (.int t), .val (.int (own_end ys f t)), .unset]) rfl kont) ?_
  show own_Go _ _ _ _ (T18.setTop (mkF m 126 #[.val (.int p1), .val (.long q2), .second, .val (.int p3), .val (.int p4), .val (.ref b1), .val (.int f), .val (.int t), .val (.int (own_end ys f t)), .unset] []))
  refine own_go (fun _ kont => XS.iconst X18.here hx rfl (hb hby at_126) kont) ?_
  show own_Go _ _ _ _ (T18.setTop (mkF m 127 #[.val (.int p1), .val (.long q2), .second, .val (.int p3), .val (.int p4), .val (.ref b1), .val (.int f), .val (.int t), .val (.int (own_end ys f t)), .unset] [(.int (-1 : Int32))]))
  refine own_go (fun _ kont => XS.istore X18.here hx rfl (hb hby at_127) rfl (l' := #[.val (.int p1), .val (.long q2), .second, .val (.int p3), .val (.int p4), .val (.ref b1), .val (.int f), .val (.int t), .val (.int (own_end ys f t)), .val (.int (-1 : Int32))]) rfl kont) ?_
  show own_Go _ _ _ _ (T18.setTop (mkF m 129 #[.val (.int p1), .val (.long q2), .second, .val (.int p3), .val (.int p4), .val (.ref b1), .val (.int f), .val (.int t), .val (.int (own_end ys f t)), .val (.int (-1 : Int32))] []))
  refine own_go (fun _ kont => XS.aload X18.here hx rfl (hb hby at_129) rfl rfl kont) ?_
  show own_Go _ _ _ _ (T18.setTop (mkF m 131 #[.val (.int p1), .val (.long q2), .second, .val (.int p3), .val (.int p4), .val (.ref b1), .val (.int f), .val (.int t), .val (.int (own_end ys f t)), .val (.int (-1 : Int32))] [(.ref b1)]))
  refine own_go (fun _ kont => XS.iconst X18.here hx rfl (hb hby at_131) kont) ?_
  show own_Go _ _ _ _ (T18.setTop (mkF m 132 #[.val (.int p1), .val (.long q2), .second, .val (.int p3), .val (.int p4), .val (.ref b1), .val (.int f), .val (.int t), .val (.int (own_end ys f t)), .val (.int (-1 : Int32))] [(.int (4 : Int32)), (.ref b1)]))
  refine own_go (fun _ kont => XS.iload X18.here hx rfl (hb hby at_132) rfl kont) ?_
  show own_Go _ _ _ _ (T18.setTop (mkF m 134 #[.val (.int p1), .val (.long q2), .second, .val (.int p3), .val (.int p4), .val (.ref b1), .val (.int f), .val (.int t), .val (.int (own_end ys f t)), .val (.int (-1 : Int32))] [(.int f), (.int (4 : Int32)), (.ref b1)]))
  refine own_go (fun _ kont => XS.iload X18.here hx rfl (hb hby at_134) rfl kont) ?_
  show own_Go _ _ _ _ (T18.setTop (mkF m 136 #[.val (.int p1), .val (.long q2), .second, .val (.int p3), .val (.int p4), .val (.ref b1), .val (.int f), .val (.int t), .val (.int (own_end ys f t)), .val (.int (-1 : Int32))] [(.int t), (.int f), (.int (4 : Int32)), (.ref b1)]))
  obtain ⟨_, _, ⟨T19, L19, k19, n19⟩, -, X19, ⟨Lc19, hQ19, l19, y19, z19⟩, st19⟩ := Jvm.LawKit.callS X18 hx (y := (⟨"com/example/chartpost/chartpost/http/HeaderFieldsEndPinLaw", "blank", "([BIII)Z"⟩ : MethodName)) hown (mvT hZ (hw _ (List.mem_of_getElem? (i := 17) rfl))) (mvT hZ (hw _ (List.mem_of_getElem? (i := 18) rfl))) (mvT hZ (hw _ (List.mem_of_getElem? (i := 3) rfl))) (mvT hZ (hw _ (List.mem_of_getElem? (i := 19) rfl))) (by decide) (own_back (W := 0) (own_rmB l Z a0 hw b1 (4 : Int32) f t ys k1 h17 n0 Z0 V1 (by decide) (by decide)) hZ (hw _ (List.mem_of_getElem? (i := 19) rfl)) (hw _ (List.mem_of_getElem? (i := 3) rfl)) (by decide) (by decide)) (g := (mkF m 136 #[.val (.int p1), .val (.long q2), .second, .val (.int p3), .val (.int p4), .val (.ref b1), .val (.int f), .val (.int t), .val (.int (own_end ys f t)), .val (.int (-1 : Int32))] [(.int t), (.int f), (.int (4 : Int32)), (.ref b1)])) rfl (by rw [hml]; rfl) (argsL := [(.ref b1), (.int (4 : Int32)), (.int f), (.int t)]) (rest := []) (lenOf own_pd3 rfl) rfl (by show 2 * 0 + _ ≤ _; exact Nat.le_of_eq rfl) (hb hby at_136) (fun _ _ => ⟨rfl, eq18, (by decide : 1 + 0 ≤ _), (by decide : 8 + 0 ≤ _)⟩)
  dsimp only [Pt.U, Pt.locs, Pt.cells, Pt.slots] at X19 l19 y19 z19 st19 hQ19
  replace X19 := own_cst X19 l19 y19 z19 (k2 := 1) (n2 := 8) rfl rfl
  clear l19 y19 z19
  obtain ⟨rfl, Nq19, eq19⟩ := hQ19
  have NF19 := Fr.app NF18 Nq19
  refine own_go st19 ?_
  show own_Go _ _ _ _ (T19.setTop (mkF m 139 #[.val (.int p1), .val (.long q2), .second, .val (.int p3), .val (.int p4), .val (.ref b1), .val (.int f), .val (.int t), .val (.int (own_end ys f t)), .val (.int (-1 : Int32))] [(.int (own_bk ys (4 : Int32) f t))]))
  have J146 : own_Go p.tables e below (own_End s below (fun v h L => v = some (.int 1) ∧ Fr n0 L) room_1.cells room_1.slots) (T19.setTop (mkF m 146 #[.val (.int p1), .val (.long q2), .second, .val (.int p3), .val (.int p4), .val (.ref b1), .val (.int f), .val (.int t), .val (.int (own_end ys f t)), .val (.int (own_pick (own_bk ys (4 : Int32) f t) (6 : Int32) (-1 : Int32)))] [])) := by
    generalize hy146 : (own_pick (own_bk ys (4 : Int32) f t) (6 : Int32) (-1 : Int32)) = y146
    show own_Go _ _ _ _ (T19.setTop (mkF m 146 #[.val (.int p1), .val (.long q2), .second, .val (.int p3), .val (.int p4), .val (.ref b1), .val (.int f), .val (.int t), .val (.int (own_end ys f t)), .val (.int y146)] []))
    refine own_go (fun _ kont => XS.aload X19.here hx rfl (hb hby at_146) rfl rfl kont) ?_
    show own_Go _ _ _ _ (T19.setTop (mkF m 148 #[.val (.int p1), .val (.long q2), .second, .val (.int p3), .val (.int p4), .val (.ref b1), .val (.int f), .val (.int t), .val (.int (own_end ys f t)), .val (.int y146)] [(.ref b1)]))
    refine own_go (fun _ kont => XS.iconst X19.here hx rfl (hb hby at_148) kont) ?_
    show own_Go _ _ _ _ (T19.setTop (mkF m 149 #[.val (.int p1), .val (.long q2), .second, .val (.int p3), .val (.int p4), .val (.ref b1), .val (.int f), .val (.int t), .val (.int (own_end ys f t)), .val (.int y146)] [(.int (3 : Int32)), (.ref b1)]))
    refine own_go (fun _ kont => XS.iload X19.here hx rfl (hb hby at_149) rfl kont) ?_
    show own_Go _ _ _ _ (T19.setTop (mkF m 151 #[.val (.int p1), .val (.long q2), .second, .val (.int p3), .val (.int p4), .val (.ref b1), .val (.int f), .val (.int t), .val (.int (own_end ys f t)), .val (.int y146)] [(.int f), (.int (3 : Int32)), (.ref b1)]))
    refine own_go (fun _ kont => XS.iload X19.here hx rfl (hb hby at_151) rfl kont) ?_
    show own_Go _ _ _ _ (T19.setTop (mkF m 153 #[.val (.int p1), .val (.long q2), .second, .val (.int p3), .val (.int p4), .val (.ref b1), .val (.int f), .val (.int t), .val (.int (own_end ys f t)), .val (.int y146)] [(.int t), (.int f), (.int (3 : Int32)), (.ref b1)]))
    obtain ⟨_, _, ⟨T20, L20, k20, n20⟩, -, X20, ⟨Lc20, hQ20, l20, y20, z20⟩, st20⟩ := Jvm.LawKit.callS X19 hx (y := (⟨"com/example/chartpost/chartpost/http/HeaderFieldsEndPinLaw", "blank", "([BIII)Z"⟩ : MethodName)) hown (mvT hZ (hw _ (List.mem_of_getElem? (i := 17) rfl))) (mvT hZ (hw _ (List.mem_of_getElem? (i := 18) rfl))) (mvT hZ (hw _ (List.mem_of_getElem? (i := 3) rfl))) (mvT hZ (hw _ (List.mem_of_getElem? (i := 19) rfl))) (by decide) (own_back (W := 0) (own_rmB l Z a0 hw b1 (3 : Int32) f t ys k1 h17 n0 Z0 V1 (by decide) (by decide)) hZ (hw _ (List.mem_of_getElem? (i := 19) rfl)) (hw _ (List.mem_of_getElem? (i := 3) rfl)) (by decide) (by decide)) (g := (mkF m 153 #[.val (.int p1), .val (.long q2), .second, .val (.int p3), .val (.int p4), .val (.ref b1), .val (.int f), .val (.int t), .val (.int (own_end ys f t)), .val (.int y146)] [(.int t), (.int f), (.int (3 : Int32)), (.ref b1)])) rfl (by rw [hml]; rfl) (argsL := [(.ref b1), (.int (3 : Int32)), (.int f), (.int t)]) (rest := []) (lenOf own_pd3 rfl) rfl (by show 2 * 0 + _ ≤ _; exact Nat.le_of_eq rfl) (hb hby at_153) (fun _ _ => ⟨rfl, eq19, (by decide : 1 + 0 ≤ _), (by decide : 8 + 0 ≤ _)⟩)
    dsimp only [Pt.U, Pt.locs, Pt.cells, Pt.slots] at X20 l20 y20 z20 st20 hQ20
    replace X20 := own_cst X20 l20 y20 z20 (k2 := 1) (n2 := 8) rfl rfl
    clear l20 y20 z20
    obtain ⟨rfl, Nq20, eq20⟩ := hQ20
    have NF20 := Fr.app NF19 Nq20
    refine own_go st20 ?_
    show own_Go _ _ _ _ (T20.setTop (mkF m 156 #[.val (.int p1), .val (.long q2), .second, .val (.int p3), .val (.int p4), .val (.ref b1), .val (.int f), .val (.int t), .val (.int (own_end ys f t)), .val (.int y146)] [(.int (own_bk ys (3 : Int32) f t))]))
    have J162 : own_Go p.tables e below (own_End s below (fun v h L => v = some (.int 1) ∧ Fr n0 L) room_1.cells room_1.slots) (T20.setTop (mkF m 162 #[.val (.int p1), .val (.long q2), .second, .val (.int p3), .val (.int p4), .val (.ref b1), .val (.int f), .val (.int t), .val (.int (own_end ys f t)), .val (.int (own_pick (own_bk ys (3 : Int32) f t) (5 : Int32) y146))] [])) := by
      generalize hy162 : (own_pick (own_bk ys (3 : Int32) f t) (5 : Int32) y146) = y162
      show own_Go _ _ _ _ (T20.setTop (mkF m 162 #[.val (.int p1), .val (.long q2), .second, .val (.int p3), .val (.int p4), .val (.ref b1), .val (.int f), .val (.int t), .val (.int (own_end ys f t)), .val (.int y162)] []))
      refine own_go (fun _ kont => XS.aload X20.here hx rfl (hb hby at_162) rfl rfl kont) ?_
      show own_Go _ _ _ _ (T20.setTop (mkF m 164 #[.val (.int p1), .val (.long q2), .second, .val (.int p3), .val (.int p4), .val (.ref b1), .val (.int f), .val (.int t), .val (.int (own_end ys f t)), .val (.int y162)] [(.ref b1)]))
      refine own_go (fun _ kont => XS.iconst X20.here hx rfl (hb hby at_164) kont) ?_
      show own_Go _ _ _ _ (T20.setTop (mkF m 165 #[.val (.int p1), .val (.long q2), .second, .val (.int p3), .val (.int p4), .val (.ref b1), .val (.int f), .val (.int t), .val (.int (own_end ys f t)), .val (.int y162)] [(.int (2 : Int32)), (.ref b1)]))
      refine own_go (fun _ kont => XS.iload X20.here hx rfl (hb hby at_165) rfl kont) ?_
      show own_Go _ _ _ _ (T20.setTop (mkF m 167 #[.val (.int p1), .val (.long q2), .second, .val (.int p3), .val (.int p4), .val (.ref b1), .val (.int f), .val (.int t), .val (.int (own_end ys f t)), .val (.int y162)] [(.int f), (.int (2 : Int32)), (.ref b1)]))
      refine own_go (fun _ kont => XS.iload X20.here hx rfl (hb hby at_167) rfl kont) ?_
      show own_Go _ _ _ _ (T20.setTop (mkF m 169 #[.val (.int p1), .val (.long q2), .second, .val (.int p3), .val (.int p4), .val (.ref b1), .val (.int f), .val (.int t), .val (.int (own_end ys f t)), .val (.int y162)] [(.int t), (.int f), (.int (2 : Int32)), (.ref b1)]))
      obtain ⟨_, _, ⟨T21, L21, k21, n21⟩, -, X21, ⟨Lc21, hQ21, l21, y21, z21⟩, st21⟩ := Jvm.LawKit.callS X20 hx (y := (⟨"com/example/chartpost/chartpost/http/HeaderFieldsEndPinLaw", "blank", "([BIII)Z"⟩ : MethodName)) hown (mvT hZ (hw _ (List.mem_of_getElem? (i := 17) rfl))) (mvT hZ (hw _ (List.mem_of_getElem? (i := 18) rfl))) (mvT hZ (hw _ (List.mem_of_getElem? (i := 3) rfl))) (mvT hZ (hw _ (List.mem_of_getElem? (i := 19) rfl))) (by decide) (own_back (W := 0) (own_rmB l Z a0 hw b1 (2 : Int32) f t ys k1 h17 n0 Z0 V1 (by decide) (by decide)) hZ (hw _ (List.mem_of_getElem? (i := 19) rfl)) (hw _ (List.mem_of_getElem? (i := 3) rfl)) (by decide) (by decide)) (g := (mkF m 169 #[.val (.int p1), .val (.long q2), .second, .val (.int p3), .val (.int p4), .val (.ref b1), .val (.int f), .val (.int t), .val (.int (own_end ys f t)), .val (.int y162)] [(.int t), (.int f), (.int (2 : Int32)), (.ref b1)])) rfl (by rw [hml]; rfl) (argsL := [(.ref b1), (.int (2 : Int32)), (.int f), (.int t)]) (rest := []) (lenOf own_pd3 rfl) rfl (by show 2 * 0 + _ ≤ _; exact Nat.le_of_eq rfl) (hb hby at_169) (fun _ _ => ⟨rfl, eq20, (by decide : 1 + 0 ≤ _), (by decide : 8 + 0 ≤ _)⟩)
      dsimp only [Pt.U, Pt.locs, Pt.cells, Pt.slots] at X21 l21 y21 z21 st21 hQ21
      replace X21 := own_cst X21 l21 y21 z21 (k2 := 1) (n2 := 8) rfl rfl
      clear l21 y21 z21
      obtain ⟨rfl, Nq21, eq21⟩ := hQ21
      have NF21 := Fr.app NF20 Nq21
      refine own_go st21 ?_
      show own_Go _ _ _ _ (T21.setTop (mkF m 172 #[.val (.int p1), .val (.long q2), .second, .val (.int p3), .val (.int p4), .val (.ref b1), .val (.int f), .val (.int t), .val (.int (own_end ys f t)), .val (.int y162)] [(.int (own_bk ys (2 : Int32) f t))]))
      have J178 : own_Go p.tables e below (own_End s below (fun v h L => v = some (.int 1) ∧ Fr n0 L) room_1.cells room_1.slots) (T21.setTop (mkF m 178 #[.val (.int p1), .val (.long q2), .second, .val (.int p3), .val (.int p4), .val (.ref b1), .val (.int f), .val (.int t), .val (.int (own_end ys f t)), .val (.int (own_pick (own_bk ys (2 : Int32) f t) (4 : Int32) y162))] [])) := by
        generalize hy178 : (own_pick (own_bk ys (2 : Int32) f t) (4 : Int32) y162) = y178
        show own_Go _ _ _ _ (T21.setTop (mkF m 178 #[.val (.int p1), .val (.long q2), .second, .val (.int p3), .val (.int p4), .val (.ref b1), .val (.int f), .val (.int t), .val (.int (own_end ys f t)), .val (.int y178)] []))
        refine own_go (fun _ kont => XS.aload X21.here hx rfl (hb hby at_178) rfl rfl kont) ?_
        show own_Go _ _ _ _ (T21.setTop (mkF m 180 #[.val (.int p1), .val (.long q2), .second, .val (.int p3), .val (.int p4), .val (.ref b1), .val (.int f), .val (.int t), .val (.int (own_end ys f t)), .val (.int y178)] [(.ref b1)]))
        refine own_go (fun _ kont => XS.iconst X21.here hx rfl (hb hby at_180) kont) ?_
        show own_Go _ _ _ _ (T21.setTop (mkF m 181 #[.val (.int p1), .val (.long q2), .second, .val (.int p3), .val (.int p4), .val (.ref b1), .val (.int f), .val (.int t), .val (.int (own_end ys f t)), .val (.int y178)] [(.int (1 : Int32)), (.ref b1)]))
        refine own_go (fun _ kont => XS.iload X21.here hx rfl (hb hby at_181) rfl kont) ?_
        show own_Go _ _ _ _ (T21.setTop (mkF m 183 #[.val (.int p1), .val (.long q2), .second, .val (.int p3), .val (.int p4), .val (.ref b1), .val (.int f), .val (.int t), .val (.int (own_end ys f t)), .val (.int y178)] [(.int f), (.int (1 : Int32)), (.ref b1)]))
        refine own_go (fun _ kont => XS.iload X21.here hx rfl (hb hby at_183) rfl kont) ?_
        show own_Go _ _ _ _ (T21.setTop (mkF m 185 #[.val (.int p1), .val (.long q2), .second, .val (.int p3), .val (.int p4), .val (.ref b1), .val (.int f), .val (.int t), .val (.int (own_end ys f t)), .val (.int y178)] [(.int t), (.int f), (.int (1 : Int32)), (.ref b1)]))
        obtain ⟨_, _, ⟨T22, L22, k22, n22⟩, -, X22, ⟨Lc22, hQ22, l22, y22, z22⟩, st22⟩ := Jvm.LawKit.callS X21 hx (y := (⟨"com/example/chartpost/chartpost/http/HeaderFieldsEndPinLaw", "blank", "([BIII)Z"⟩ : MethodName)) hown (mvT hZ (hw _ (List.mem_of_getElem? (i := 17) rfl))) (mvT hZ (hw _ (List.mem_of_getElem? (i := 18) rfl))) (mvT hZ (hw _ (List.mem_of_getElem? (i := 3) rfl))) (mvT hZ (hw _ (List.mem_of_getElem? (i := 19) rfl))) (by decide) (own_back (W := 0) (own_rmB l Z a0 hw b1 (1 : Int32) f t ys k1 h17 n0 Z0 V1 (by decide) (by decide)) hZ (hw _ (List.mem_of_getElem? (i := 19) rfl)) (hw _ (List.mem_of_getElem? (i := 3) rfl)) (by decide) (by decide)) (g := (mkF m 185 #[.val (.int p1), .val (.long q2), .second, .val (.int p3), .val (.int p4), .val (.ref b1), .val (.int f), .val (.int t), .val (.int (own_end ys f t)), .val (.int y178)] [(.int t), (.int f), (.int (1 : Int32)), (.ref b1)])) rfl (by rw [hml]; rfl) (argsL := [(.ref b1), (.int (1 : Int32)), (.int f), (.int t)]) (rest := []) (lenOf own_pd3 rfl) rfl (by show 2 * 0 + _ ≤ _; exact Nat.le_of_eq rfl) (hb hby at_185) (fun _ _ => ⟨rfl, eq21, (by decide : 1 + 0 ≤ _), (by decide : 8 + 0 ≤ _)⟩)
        dsimp only [Pt.U, Pt.locs, Pt.cells, Pt.slots] at X22 l22 y22 z22 st22 hQ22
        replace X22 := own_cst X22 l22 y22 z22 (k2 := 1) (n2 := 8) rfl rfl
        clear l22 y22 z22
        obtain ⟨rfl, Nq22, eq22⟩ := hQ22
        have NF22 := Fr.app NF21 Nq22
        refine own_go st22 ?_
        show own_Go _ _ _ _ (T22.setTop (mkF m 188 #[.val (.int p1), .val (.long q2), .second, .val (.int p3), .val (.int p4), .val (.ref b1), .val (.int f), .val (.int t), .val (.int (own_end ys f t)), .val (.int y178)] [(.int (own_bk ys (1 : Int32) f t))]))
        have J194 : own_Go p.tables e below (own_End s below (fun v h L => v = some (.int 1) ∧ Fr n0 L) room_1.cells room_1.slots) (T22.setTop (mkF m 194 #[.val (.int p1), .val (.long q2), .second, .val (.int p3), .val (.int p4), .val (.ref b1), .val (.int f), .val (.int t), .val (.int (own_end ys f t)), .val (.int (own_pick (own_bk ys (1 : Int32) f t) (3 : Int32) y178))] [])) := by
          generalize hy194 : (own_pick (own_bk ys (1 : Int32) f t) (3 : Int32) y178) = y194
          show own_Go _ _ _ _ (T22.setTop (mkF m 194 #[.val (.int p1), .val (.long q2), .second, .val (.int p3), .val (.int p4), .val (.ref b1), .val (.int f), .val (.int t), .val (.int (own_end ys f t)), .val (.int y194)] []))
          refine own_go (fun _ kont => XS.aload X22.here hx rfl (hb hby at_194) rfl rfl kont) ?_
          show own_Go _ _ _ _ (T22.setTop (mkF m 196 #[.val (.int p1), .val (.long q2), .second, .val (.int p3), .val (.int p4), .val (.ref b1), .val (.int f), .val (.int t), .val (.int (own_end ys f t)), .val (.int y194)] [(.ref b1)]))
          refine own_go (fun _ kont => XS.iconst X22.here hx rfl (hb hby at_196) kont) ?_
          show own_Go _ _ _ _ (T22.setTop (mkF m 197 #[.val (.int p1), .val (.long q2), .second, .val (.int p3), .val (.int p4), .val (.ref b1), .val (.int f), .val (.int t), .val (.int (own_end ys f t)), .val (.int y194)] [(.int (0 : Int32)), (.ref b1)]))
          refine own_go (fun _ kont => XS.iload X22.here hx rfl (hb hby at_197) rfl kont) ?_
          show own_Go _ _ _ _ (T22.setTop (mkF m 199 #[.val (.int p1), .val (.long q2), .second, .val (.int p3), .val (.int p4), .val (.ref b1), .val (.int f), .val (.int t), .val (.int (own_end ys f t)), .val (.int y194)] [(.int f), (.int (0 : Int32)), (.ref b1)]))
          refine own_go (fun _ kont => XS.iload X22.here hx rfl (hb hby at_199) rfl kont) ?_
          show own_Go _ _ _ _ (T22.setTop (mkF m 201 #[.val (.int p1), .val (.long q2), .second, .val (.int p3), .val (.int p4), .val (.ref b1), .val (.int f), .val (.int t), .val (.int (own_end ys f t)), .val (.int y194)] [(.int t), (.int f), (.int (0 : Int32)), (.ref b1)]))
          obtain ⟨_, _, ⟨T23, L23, k23, n23⟩, -, X23, ⟨Lc23, hQ23, l23, y23, z23⟩, st23⟩ := Jvm.LawKit.callS X22 hx (y := (⟨"com/example/chartpost/chartpost/http/HeaderFieldsEndPinLaw", "blank", "([BIII)Z"⟩ : MethodName)) hown (mvT hZ (hw _ (List.mem_of_getElem? (i := 17) rfl))) (mvT hZ (hw _ (List.mem_of_getElem? (i := 18) rfl))) (mvT hZ (hw _ (List.mem_of_getElem? (i := 3) rfl))) (mvT hZ (hw _ (List.mem_of_getElem? (i := 19) rfl))) (by decide) (own_back (W := 0) (own_rmB l Z a0 hw b1 (0 : Int32) f t ys k1 h17 n0 Z0 V1 (by decide) (by decide)) hZ (hw _ (List.mem_of_getElem? (i := 19) rfl)) (hw _ (List.mem_of_getElem? (i := 3) rfl)) (by decide) (by decide)) (g := (mkF m 201 #[.val (.int p1), .val (.long q2), .second, .val (.int p3), .val (.int p4), .val (.ref b1), .val (.int f), .val (.int t), .val (.int (own_end ys f t)), .val (.int y194)] [(.int t), (.int f), (.int (0 : Int32)), (.ref b1)])) rfl (by rw [hml]; rfl) (argsL := [(.ref b1), (.int (0 : Int32)), (.int f), (.int t)]) (rest := []) (lenOf own_pd3 rfl) rfl (by show 2 * 0 + _ ≤ _; exact Nat.le_of_eq rfl) (hb hby at_201) (fun _ _ => ⟨rfl, eq22, (by decide : 1 + 0 ≤ _), (by decide : 8 + 0 ≤ _)⟩)
          dsimp only [Pt.U, Pt.locs, Pt.cells, Pt.slots] at X23 l23 y23 z23 st23 hQ23
          replace X23 := own_cst X23 l23 y23 z23 (k2 := 1) (n2 := 8) rfl rfl
          clear l23 y23 z23
          obtain ⟨rfl, Nq23, eq23⟩ := hQ23
          have NF23 := Fr.app NF22 Nq23
          refine own_go st23 ?_
          show own_Go _ _ _ _ (T23.setTop (mkF m 204 #[.val (.int p1), .val (.long q2), .second, .val (.int p3), .val (.int p4), .val (.ref b1), .val (.int f), .val (.int t), .val (.int (own_end ys f t)), .val (.int y194)] [(.int (own_bk ys (0 : Int32) f t))]))
          have J210 : own_Go p.tables e below (own_End s below (fun v h L => v = some (.int 1) ∧ Fr n0 L) room_1.cells room_1.slots) (T23.setTop (mkF m 210 #[.val (.int p1), .val (.long q2), .second, .val (.int p3), .val (.int p4), .val (.ref b1), .val (.int f), .val (.int t), .val (.int (own_end ys f t)), .val (.int (own_pick (own_bk ys (0 : Int32) f t) (2 : Int32) y194))] [])) := by
            generalize hy210 : (own_pick (own_bk ys (0 : Int32) f t) (2 : Int32) y194) = y210
            show own_Go _ _ _ _ (T23.setTop (mkF m 210 #[.val (.int p1), .val (.long q2), .second, .val (.int p3), .val (.int p4), .val (.ref b1), .val (.int f), .val (.int t), .val (.int (own_end ys f t)), .val (.int y210)] []))
            refine own_go (fun _ kont => XS.aload X23.here hx rfl (hb hby at_210) rfl rfl kont) ?_
            show own_Go _ _ _ _ (T23.setTop (mkF m 212 #[.val (.int p1), .val (.long q2), .second, .val (.int p3), .val (.int p4), .val (.ref b1), .val (.int f), .val (.int t), .val (.int (own_end ys f t)), .val (.int y210)] [(.ref b1)]))
            refine own_go (fun _ kont => XS.iload X23.here hx rfl (hb hby at_212) rfl kont) ?_
            show own_Go _ _ _ _ (T23.setTop (mkF m 214 #[.val (.int p1), .val (.long q2), .second, .val (.int p3), .val (.int p4), .val (.ref b1), .val (.int f), .val (.int t), .val (.int (own_end ys f t)), .val (.int y210)] [(.int f), (.ref b1)]))
            refine own_go (fun _ kont => XS.iload X23.here hx rfl (hb hby at_214) rfl kont) ?_
            show own_Go _ _ _ _ (T23.setTop (mkF m 216 #[.val (.int p1), .val (.long q2), .second, .val (.int p3), .val (.int p4), .val (.ref b1), .val (.int f), .val (.int t), .val (.int (own_end ys f t)), .val (.int y210)] [(.int t), (.int f), (.ref b1)]))
            obtain ⟨_, _, ⟨T24, L24, k24, n24⟩, -, X24, ⟨Lc24, hQ24, l24, y24, z24⟩, st24⟩ := Jvm.LawKit.callS X23 hx (y := (⟨"com/example/chartpost/chartpost/http/HeaderFieldsEndPinLaw", "crlf", "([BII)Z"⟩ : MethodName)) hown (mvT hZ (hw _ (List.mem_of_getElem? (i := 20) rfl))) (mvT hZ (hw _ (List.mem_of_getElem? (i := 21) rfl))) (mvT hZ (hw _ (List.mem_of_getElem? (i := 3) rfl))) (mvT hZ (hw _ (List.mem_of_getElem? (i := 22) rfl))) (by decide) (own_back (W := 0) (own_rmC l Z a0 hw b1 f t ys k1 h17 n0 Z0 V1 h1 h2 h4) hZ (hw _ (List.mem_of_getElem? (i := 22) rfl)) (hw _ (List.mem_of_getElem? (i := 3) rfl)) (by decide) (by decide)) (g := (mkF m 216 #[.val (.int p1), .val (.long q2), .second, .val (.int p3), .val (.int p4), .val (.ref b1), .val (.int f), .val (.int t), .val (.int (own_end ys f t)), .val (.int y210)] [(.int t), (.int f), (.ref b1)])) rfl (by rw [hml]; rfl) (argsL := [(.ref b1), (.int f), (.int t)]) (rest := []) (lenOf own_pd4 rfl) rfl (by show 2 * 0 + _ ≤ _; exact Nat.le_of_eq rfl) (hb hby at_216) (fun _ _ => ⟨rfl, eq23, (by decide : 1 + 0 ≤ _), (by decide : 8 + 0 ≤ _)⟩)
            dsimp only [Pt.U, Pt.locs, Pt.cells, Pt.slots] at X24 l24 y24 z24 st24 hQ24
            replace X24 := own_cst X24 l24 y24 z24 (k2 := 1) (n2 := 8) rfl rfl
            clear l24 y24 z24
            obtain ⟨rfl, Nq24, eq24⟩ := hQ24
            have NF24 := Fr.app NF23 Nq24
            refine own_go st24 ?_
            show own_Go _ _ _ _ (T24.setTop (mkF m 219 #[.val (.int p1), .val (.long q2), .second, .val (.int p3), .val (.int p4), .val (.ref b1), .val (.int f), .val (.int t), .val (.int (own_end ys f t)), .val (.int y210)] [(.int (own_cr ys f t))]))
            have J226 : own_Go p.tables e below (own_End s below (fun v h L => v = some (.int 1) ∧ Fr n0 L) room_1.cells room_1.slots) (T24.setTop (mkF m 226 #[.val (.int p1), .val (.long q2), .second, .val (.int p3), .val (.int p4), .val (.ref b1), .val (.int f), .val (.int t), .val (.int (own_end ys f t)), .val (.int (own_pick (own_cr ys f t) f y210))] [])) := by
              generalize hy226 : (own_pick (own_cr ys f t) f y210) = y226
              show own_Go _ _ _ _ (T24.setTop (mkF m 226 #[.val (.int p1), .val (.long q2), .second, .val (.int p3), .val (.int p4), .val (.ref b1), .val (.int f), .val (.int t), .val (.int (own_end ys f t)), .val (.int y226)] []))
              refine own_go (fun _ kont => XS.iload X24.here hx rfl (hb hby at_226) rfl kont) ?_
              show own_Go _ _ _ _ (T24.setTop (mkF m 228 #[.val (.int p1), .val (.long q2), .second, .val (.int p3), .val (.int p4), .val (.ref b1), .val (.int f), .val (.int t), .val (.int (own_end ys f t)), .val (.int y226)] [(.int (own_end ys f t))]))
              refine own_go (fun _ kont => XS.iload X24.here hx rfl (hb hby at_228) rfl kont) ?_
              show own_Go _ _ _ _ (T24.setTop (mkF m 230 #[.val (.int p1), .val (.long q2), .second, .val (.int p3), .val (.int p4), .val (.ref b1), .val (.int f), .val (.int t), .val (.int (own_end ys f t)), .val (.int y226)] [(.int y226), (.int (own_end ys f t))]))
              refine own_go (fun _ kont => XS.icmpNo X24.here hx rfl (hb hby at_230) rfl (teq (by rw [← hy226, ← hy210, ← hy194, ← hy178, ← hy162, ← hy146]; exact own_fin h1 h2 h3 h4)).2 kont) ?_
              show own_Go _ _ _ _ (T24.setTop (mkF m 233 #[.val (.int p1), .val (.long q2), .second, .val (.int p3), .val (.int p4), .val (.ref b1), .val (.int f), .val (.int t), .val (.int (own_end ys f t)), .val (.int y226)] []))
              refine own_go (fun _ kont => XS.iconst X24.here hx rfl (hb hby at_233) kont) ?_
              show own_Go _ _ _ _ (T24.setTop (mkF m 234 #[.val (.int p1), .val (.long q2), .second, .val (.int p3), .val (.int p4), .val (.ref b1), .val (.int f), .val (.int t), .val (.int (own_end ys f t)), .val (.int y226)] [(.int (1 : Int32))]))
              refine own_go (fun _ kont => XS.goto X24.here hx rfl (pc0 := 234) (pc' := 238) rfl (hb hby at_234) (by decide) (by decide) kont) ?_
              show own_Go _ _ _ _ (T24.setTop (mkF m 238 #[.val (.int p1), .val (.long q2), .second, .val (.int p3), .val (.int p4), .val (.ref b1), .val (.int f), .val (.int t), .val (.int (own_end ys f t)), .val (.int y226)] [(.int (1 : Int32))]))
              refine own_ret X24 hlk (v := some (.int (1 : Int32))) (fun h => by rw [Bd.returns] at h; cases h) (fun fs hr => retN X24 hx (t := .boolean) Bd.returns (by simp) (hb hby at_238) hr) ?_ (by decide) (by decide)
              try rw [eq24]
              exact ⟨rfl, NF24⟩
            by_cases hb219 : (own_cr ys f t) = (0 : Int32)
            · have _h := hb219
              refine own_go (fun _ kont => XS.ifYes X24.here hx rfl (pc0 := 219) (pc' := 226) rfl (hb hby at_219) rfl ((if0 _ _).trans (teq hb219).1) (by decide) (by decide) kont) ?_
              show own_Go _ _ _ _ (T24.setTop (mkF m 226 #[.val (.int p1), .val (.long q2), .second, .val (.int p3), .val (.int p4), .val (.ref b1), .val (.int f), .val (.int t), .val (.int (own_end ys f t)), .val (.int y210)] []))
              rw [show (own_pick (own_cr ys f t) f y210) = y210 from if_pos hb219] at J226
              exact J226
            · have _h := hb219
              refine own_go (fun _ kont => XS.ifNo X24.here hx rfl (hb hby at_219) rfl ((if0 _ _).trans (feq hb219).1) kont) ?_
              show own_Go _ _ _ _ (T24.setTop (mkF m 222 #[.val (.int p1), .val (.long q2), .second, .val (.int p3), .val (.int p4), .val (.ref b1), .val (.int f), .val (.int t), .val (.int (own_end ys f t)), .val (.int y210)] []))
              refine own_go (fun _ kont => XS.iload X24.here hx rfl (hb hby at_222) rfl kont) ?_
              show own_Go _ _ _ _ (T24.setTop (mkF m 224 #[.val (.int p1), .val (.long q2), .second, .val (.int p3), .val (.int p4), .val (.ref b1), .val (.int f), .val (.int t), .val (.int (own_end ys f t)), .val (.int y210)] [(.int f)]))
              refine own_go (fun _ kont => XS.istore X24.here hx rfl (hb hby at_224) rfl (l' := #[.val (.int p1), .val (.long q2), .second, .val (.int p3), .val (.int p4), .val (.ref b1), .val (.int f), .val (.int t), .val (.int (own_end ys f t)), .val (.int f)]) rfl kont) ?_
              show own_Go _ _ _ _ (T24.setTop (mkF m 226 #[.val (.int p1), .val (.long q2), .second, .val (.int p3), .val (.int p4), .val (.ref b1), .val (.int f), .val (.int t), .val (.int (own_end ys f t)), .val (.int f)] []))
              rw [show (own_pick (own_cr ys f t) f y210) = f from if_neg hb219] at J226
              exact J226
          by_cases hb204 : (own_bk ys (0 : Int32) f t) = (0 : Int32)
          · have _h := hb204
            refine own_go (fun _ kont => XS.ifYes X23.here hx rfl (pc0 := 204) (pc' := 210) rfl (hb hby at_204) rfl ((if0 _ _).trans (teq hb204).1) (by decide) (by decide) kont) ?_
            show own_Go _ _ _ _ (T23.setTop (mkF m 210 #[.val (.int p1), .val (.long q2), .second, .val (.int p3), .val (.int p4), .val (.ref b1), .val (.int f), .val (.int t), .val (.int (own_end ys f t)), .val (.int y194)] []))
            rw [show (own_pick (own_bk ys (0 : Int32) f t) (2 : Int32) y194) = y194 from if_pos hb204] at J210
            exact J210
          · have _h := hb204
            refine own_go (fun _ kont => XS.ifNo X23.here hx rfl (hb hby at_204) rfl ((if0 _ _).trans (feq hb204).1) kont) ?_
            show own_Go _ _ _ _ (T23.setTop (mkF m 207 #[.val (.int p1), .val (.long q2), .second, .val (.int p3), .val (.int p4), .val (.ref b1), .val (.int f), .val (.int t), .val (.int (own_end ys f t)), .val (.int y194)] []))
            refine own_go (fun _ kont => XS.iconst X23.here hx rfl (hb hby at_207) kont) ?_
            show own_Go _ _ _ _ (T23.setTop (mkF m 208 #[.val (.int p1), .val (.long q2), .second, .val (.int p3), .val (.int p4), .val (.ref b1), .val (.int f), .val (.int t), .val (.int (own_end ys f t)), .val (.int y194)] [(.int (2 : Int32))]))
            refine own_go (fun _ kont => XS.istore X23.here hx rfl (hb hby at_208) rfl (l' := #[.val (.int p1), .val (.long q2), .second, .val (.int p3), .val (.int p4), .val (.ref b1), .val (.int f), .val (.int t), .val (.int (own_end ys f t)), .val (.int (2 : Int32))]) rfl kont) ?_
            show own_Go _ _ _ _ (T23.setTop (mkF m 210 #[.val (.int p1), .val (.long q2), .second, .val (.int p3), .val (.int p4), .val (.ref b1), .val (.int f), .val (.int t), .val (.int (own_end ys f t)), .val (.int (2 : Int32))] []))
            rw [show (own_pick (own_bk ys (0 : Int32) f t) (2 : Int32) y194) = (2 : Int32) from if_neg hb204] at J210
            exact J210
        by_cases hb188 : (own_bk ys (1 : Int32) f t) = (0 : Int32)
        · have _h := hb188
          refine own_go (fun _ kont => XS.ifYes X22.here hx rfl (pc0 := 188) (pc' := 194) rfl (hb hby at_188) rfl ((if0 _ _).trans (teq hb188).1) (by decide) (by decide) kont) ?_
          show own_Go _ _ _ _ (T22.setTop (mkF m 194 #[.val (.int p1), .val (.long q2), .second, .val (.int p3), .val (.int p4), .val (.ref b1), .val (.int f), .val (.int t), .val (.int (own_end ys f t)), .val (.int y178)] []))
          rw [show (own_pick (own_bk ys (1 : Int32) f t) (3 : Int32) y178) = y178 from if_pos hb188] at J194
          exact J194
        · have _h := hb188
          refine own_go (fun _ kont => XS.ifNo X22.here hx rfl (hb hby at_188) rfl ((if0 _ _).trans (feq hb188).1) kont) ?_
          show own_Go _ _ _ _ (T22.setTop (mkF m 191 #[.val (.int p1), .val (.long q2), .second, .val (.int p3), .val (.int p4), .val (.ref b1), .val (.int f), .val (.int t), .val (.int (own_end ys f t)), .val (.int y178)] []))
          refine own_go (fun _ kont => XS.iconst X22.here hx rfl (hb hby at_191) kont) ?_
          show own_Go _ _ _ _ (T22.setTop (mkF m 192 #[.val (.int p1), .val (.long q2), .second, .val (.int p3), .val (.int p4), .val (.ref b1), .val (.int f), .val (.int t), .val (.int (own_end ys f t)), .val (.int y178)] [(.int (3 : Int32))]))
          refine own_go (fun _ kont => XS.istore X22.here hx rfl (hb hby at_192) rfl (l' := #[.val (.int p1), .val (.long q2), .second, .val (.int p3), .val (.int p4), .val (.ref b1), .val (.int f), .val (.int t), .val (.int (own_end ys f t)), .val (.int (3 : Int32))]) rfl kont) ?_
          show own_Go _ _ _ _ (T22.setTop (mkF m 194 #[.val (.int p1), .val (.long q2), .second, .val (.int p3), .val (.int p4), .val (.ref b1), .val (.int f), .val (.int t), .val (.int (own_end ys f t)), .val (.int (3 : Int32))] []))
          rw [show (own_pick (own_bk ys (1 : Int32) f t) (3 : Int32) y178) = (3 : Int32) from if_neg hb188] at J194
          exact J194
      by_cases hb172 : (own_bk ys (2 : Int32) f t) = (0 : Int32)
      · have _h := hb172
        refine own_go (fun _ kont => XS.ifYes X21.here hx rfl (pc0 := 172) (pc' := 178) rfl (hb hby at_172) rfl ((if0 _ _).trans (teq hb172).1) (by decide) (by decide) kont) ?_
        show own_Go _ _ _ _ (T21.setTop (mkF m 178 #[.val (.int p1), .val (.long q2), .second, .val (.int p3), .val (.int p4), .val (.ref b1), .val (.int f), .val (.int t), .val (.int (own_end ys f t)), .val (.int y162)] []))
        rw [show (own_pick (own_bk ys (2 : Int32) f t) (4 : Int32) y162) = y162 from if_pos hb172] at J178
        exact J178
      · have _h := hb172
        refine own_go (fun _ kont => XS.ifNo X21.here hx rfl (hb hby at_172) rfl ((if0 _ _).trans (feq hb172).1) kont) ?_
        show own_Go _ _ _ _ (T21.setTop (mkF m 175 #[.val (.int p1), .val (.long q2), .second, .val (.int p3), .val (.int p4), .val (.ref b1), .val (.int f), .val (.int t), .val (.int (own_end ys f t)), .val (.int y162)] []))
        refine own_go (fun _ kont => XS.iconst X21.here hx rfl (hb hby at_175) kont) ?_
        show own_Go _ _ _ _ (T21.setTop (mkF m 176 #[.val (.int p1), .val (.long q2), .second, .val (.int p3), .val (.int p4), .val (.ref b1), .val (.int f), .val (.int t), .val (.int (own_end ys f t)), .val (.int y162)] [(.int (4 : Int32))]))
        refine own_go (fun _ kont => XS.istore X21.here hx rfl (hb hby at_176) rfl (l' := #[.val (.int p1), .val (.long q2), .second, .val (.int p3), .val (.int p4), .val (.ref b1), .val (.int f), .val (.int t), .val (.int (own_end ys f t)), .val (.int (4 : Int32))]) rfl kont) ?_
        show own_Go _ _ _ _ (T21.setTop (mkF m 178 #[.val (.int p1), .val (.long q2), .second, .val (.int p3), .val (.int p4), .val (.ref b1), .val (.int f), .val (.int t), .val (.int (own_end ys f t)), .val (.int (4 : Int32))] []))
        rw [show (own_pick (own_bk ys (2 : Int32) f t) (4 : Int32) y162) = (4 : Int32) from if_neg hb172] at J178
        exact J178
    by_cases hb156 : (own_bk ys (3 : Int32) f t) = (0 : Int32)
    · have _h := hb156
      refine own_go (fun _ kont => XS.ifYes X20.here hx rfl (pc0 := 156) (pc' := 162) rfl (hb hby at_156) rfl ((if0 _ _).trans (teq hb156).1) (by decide) (by decide) kont) ?_
      show own_Go _ _ _ _ (T20.setTop (mkF m 162 #[.val (.int p1), .val (.long q2), .second, .val (.int p3), .val (.int p4), .val (.ref b1), .val (.int f), .val (.int t), .val (.int (own_end ys f t)), .val (.int y146)] []))
      rw [show (own_pick (own_bk ys (3 : Int32) f t) (5 : Int32) y146) = y146 from if_pos hb156] at J162
      exact J162
    · have _h := hb156
      refine own_go (fun _ kont => XS.ifNo X20.here hx rfl (hb hby at_156) rfl ((if0 _ _).trans (feq hb156).1) kont) ?_
      show own_Go _ _ _ _ (T20.setTop (mkF m 159 #[.val (.int p1), .val (.long q2), .second, .val (.int p3), .val (.int p4), .val (.ref b1), .val (.int f), .val (.int t), .val (.int (own_end ys f t)), .val (.int y146)] []))
      refine own_go (fun _ kont => XS.iconst X20.here hx rfl (hb hby at_159) kont) ?_
      show own_Go _ _ _ _ (T20.setTop (mkF m 160 #[.val (.int p1), .val (.long q2), .second, .val (.int p3), .val (.int p4), .val (.ref b1), .val (.int f), .val (.int t), .val (.int (own_end ys f t)), .val (.int y146)] [(.int (5 : Int32))]))
      refine own_go (fun _ kont => XS.istore X20.here hx rfl (hb hby at_160) rfl (l' := #[.val (.int p1), .val (.long q2), .second, .val (.int p3), .val (.int p4), .val (.ref b1), .val (.int f), .val (.int t), .val (.int (own_end ys f t)), .val (.int (5 : Int32))]) rfl kont) ?_
      show own_Go _ _ _ _ (T20.setTop (mkF m 162 #[.val (.int p1), .val (.long q2), .second, .val (.int p3), .val (.int p4), .val (.ref b1), .val (.int f), .val (.int t), .val (.int (own_end ys f t)), .val (.int (5 : Int32))] []))
      rw [show (own_pick (own_bk ys (3 : Int32) f t) (5 : Int32) y146) = (5 : Int32) from if_neg hb156] at J162
      exact J162
  by_cases hb139 : (own_bk ys (4 : Int32) f t) = (0 : Int32)
  · have _h := hb139
    refine own_go (fun _ kont => XS.ifYes X19.here hx rfl (pc0 := 139) (pc' := 146) rfl (hb hby at_139) rfl ((if0 _ _).trans (teq hb139).1) (by decide) (by decide) kont) ?_
    show own_Go _ _ _ _ (T19.setTop (mkF m 146 #[.val (.int p1), .val (.long q2), .second, .val (.int p3), .val (.int p4), .val (.ref b1), .val (.int f), .val (.int t), .val (.int (own_end ys f t)), .val (.int (-1 : Int32))] []))
    rw [show (own_pick (own_bk ys (4 : Int32) f t) (6 : Int32) (-1 : Int32)) = (-1 : Int32) from if_pos hb139] at J146
    exact J146
  · have _h := hb139
    refine own_go (fun _ kont => XS.ifNo X19.here hx rfl (hb hby at_139) rfl ((if0 _ _).trans (feq hb139).1) kont) ?_
    show own_Go _ _ _ _ (T19.setTop (mkF m 142 #[.val (.int p1), .val (.long q2), .second, .val (.int p3), .val (.int p4), .val (.ref b1), .val (.int f), .val (.int t), .val (.int (own_end ys f t)), .val (.int (-1 : Int32))] []))
    refine own_go (fun _ kont => XS.bipush X19.here hx rfl (hb hby at_142) kont) ?_
    show own_Go _ _ _ _ (T19.setTop (mkF m 144 #[.val (.int p1), .val (.long q2), .second, .val (.int p3), .val (.int p4), .val (.ref b1), .val (.int f), .val (.int t), .val (.int (own_end ys f t)), .val (.int (-1 : Int32))] [(.int (6 : Int32))]))
    refine own_go (fun _ kont => XS.istore X19.here hx rfl (hb hby at_144) rfl (l' := #[.val (.int p1), .val (.long q2), .second, .val (.int p3), .val (.int p4), .val (.ref b1), .val (.int f), .val (.int t), .val (.int (own_end ys f t)), .val (.int (6 : Int32))]) rfl kont) ?_
    show own_Go _ _ _ _ (T19.setTop (mkF m 146 #[.val (.int p1), .val (.long q2), .second, .val (.int p3), .val (.int p4), .val (.ref b1), .val (.int f), .val (.int t), .val (.int (own_end ys f t)), .val (.int (6 : Int32))] []))
    rw [show (own_pick (own_bk ys (4 : Int32) f t) (6 : Int32) (-1 : Int32)) = (6 : Int32) from if_neg hb139] at J146
    exact J146
set_option maxRecDepth 65536 in
set_option maxHeartbeats 40000000 in
theorem own_comes {Post : Tables → Env → Array Value → State → Outcome → State → Prop} (hpost : ∀ tb e args s v u, (limb_1_1.after args s (.returned v) u = true ∧ limb_1_2.after args s (.returned v) u = true ∧ True) → FrameEnd s (.returned v) u (Jvm.fieldLocs frame_1_writes args s ++ Jvm.arrayLocs frame_1_arrays args s ++ Jvm.staticLocs frame_1_statics s) 16 128 → Post tb e args s (.returned v) u) :
    ArmFor flags0 classFile x code maxLocals ret World_1 tables_1 room_1 Calls_1 rest_1 Pre_1 Post := by
  intro l hfl _ _ p e ha hc hk s m args below hf hA hF happ hP
  obtain ⟨hcalls, hrest, hpre⟩ := hP
  obtain ⟨-, -, -, hnamed, -, -, -, hat⟩ := (Spec.applies_iff hf).mp happ
  obtain ⟨hg, hn⟩ := and_e (Cond.before_iff.mp (show (Jvm.Cond.and given_1 narrow_1).before args s = true from hpre))
  obtain ⟨hcount, hg⟩ := and_e hg
  obtain ⟨ha0, hg⟩ := and_e hg
  obtain ⟨ha1, hg⟩ := and_e hg
  obtain ⟨ha2, hg⟩ := and_e hg
  obtain ⟨w0, w1, w2, w3, rfl⟩ : ∃ w0 w1 w2 w3 : Value, args = #[w0, w1, w2, w3] := by
    have hs : args.size = 4 := by simpa [Cond.value, given_1] using hcount
    obtain ⟨L⟩ := args
    match L, hs with
    | [w0, w1, w2, w3], _ => exact ⟨w0, w1, w2, w3, rfl⟩
  have hw := fun d (hd : d ∈ tables_1) => atoms_spec (ws := Jvm.Cond.code x code maxLocals ret :: tables_1) hat d (List.mem_cons_of_mem _ hd)
  have hfit : Fit s := fun {y c} hc i hi => by
    obtain ⟨ha, rfl⟩ := Array.getElem?_eq_some_iff.mp hc
    have q := List.all_eq_true.mp ((Array.all_eq_true_iff_forall_mem.mp hF) _ (Array.getElem_mem ha)) i (List.mem_range.mpr hi)
    simpa [Array.getElem?_eq_getElem hi] using q
  obtain ⟨i0, ei0⟩ := is_v ha0
  obtain rfl : w0 = (.int i0) := Option.some.inj ei0
  obtain ⟨i1, ei1⟩ := isL_v ha1
  obtain rfl : w1 = (.long i1) := Option.some.inj ei1
  obtain ⟨i2, ei2⟩ := is_v ha2
  obtain rfl : w2 = (.int i2) := Option.some.inj ei2
  obtain ⟨i3, ei3⟩ := is_v hg
  obtain rfl : w3 = (.int i3) := Option.some.inj ei3
  obtain ⟨hn0, hn⟩ := and_e hn
  obtain ⟨hn1, hn⟩ := and_e hn
  obtain ⟨hn2, hn⟩ := and_e hn
  obtain ⟨hn3, hn⟩ := and_e hn
  obtain ⟨hn4, hn⟩ := and_e hn
  obtain ⟨hn5, hn⟩ := and_e hn
  obtain ⟨hn6, hn⟩ := and_e hn
  obtain ⟨hn7, hn⟩ := and_e hn
  obtain ⟨hn8, hn⟩ := and_e hn
  have hn9 := hn
  obtain ⟨a_CRLF, ev_CRLF⟩ := arr_v hn0
  have S_CRLF := Sta.start ev_CRLF (Or.inr ⟨(hw _ (List.mem_of_getElem? (i := 8) rfl)), (hw _ (List.mem_of_getElem? (i := 11) rfl))⟩)
  obtain ⟨cl_CRLF, Ar_CRLF⟩ := Arr.start ev_CRLF hn0
  have ln_CRLF := own_len Ar_CRLF ev_CRLF (own_eqi hn1)
  obtain ⟨a_BLANK_LINE, ev_BLANK_LINE⟩ := arr_v hn2
  have S_BLANK_LINE := Sta.start ev_BLANK_LINE (Or.inr ⟨(hw _ (List.mem_of_getElem? (i := 8) rfl)), (hw _ (List.mem_of_getElem? (i := 16) rfl))⟩)
  obtain ⟨cl_BLANK_LINE, Ar_BLANK_LINE⟩ := Arr.start ev_BLANK_LINE hn2
  have ln_BLANK_LINE := own_len Ar_BLANK_LINE ev_BLANK_LINE (own_eqi hn3)
  have el_CRLF_0 := own_elem ev_CRLF Ar_CRLF (own_eqi hn4)
  have el_BLANK_LINE_0 := own_elem ev_BLANK_LINE Ar_BLANK_LINE (own_eqi hn5)
  have el_BLANK_LINE_1 := own_elem ev_BLANK_LINE Ar_BLANK_LINE (own_eqi hn6)
  have el_CRLF_1 := own_elem ev_CRLF Ar_CRLF (own_eqi hn7)
  have el_BLANK_LINE_2 := own_elem ev_BLANK_LINE Ar_BLANK_LINE (own_eqi hn8)
  have el_BLANK_LINE_3 := own_elem ev_BLANK_LINE Ar_BLANK_LINE (own_eqi hn9)
  have V_CRLF : Arv s s.heap a_CRLF cl_CRLF.cls .byte 2 [(.int 13), (.int 10)] (.int 0) := Arv.start hfit Ar_CRLF ln_CRLF.1 ln_CRLF.2 (by decide) rfl ⟨el_CRLF_0, el_CRLF_1, trivial⟩
  have V_BLANK_LINE : Arv s s.heap a_BLANK_LINE cl_BLANK_LINE.cls .byte 4 [(.int 13), (.int 10), (.int 13), (.int 10)] (.int 0) := Arv.start hfit Ar_BLANK_LINE ln_BLANK_LINE.1 ln_BLANK_LINE.2 (by decide) rfl ⟨el_BLANK_LINE_0, el_BLANK_LINE_1, el_BLANK_LINE_2, el_BLANK_LINE_3, trivial⟩
  obtain ⟨n, o, h1, h2, h3, _, L, rfl, ⟨rfl, N⟩, hq⟩ := own_rm0 l s _ hw i0 i1 i2 i3 a_CRLF a_BLANK_LINE cl_CRLF.cls cl_BLANK_LINE.cls s.heap s.heap.size (Nat.le_refl _) S_CRLF S_BLANK_LINE V_CRLF V_BLANK_LINE p e ha hc hk s m _ below hf ((Spec.applies_iff_loose hf).mp happ).1 ⟨rfl, State.Warmed39.refl s, rfl⟩ trivial
  refine ⟨n, _, h1, h2, h3, hpost _ _ _ _ _ _ ⟨Cond.after_iff.mpr rfl, Cond.after_iff.mpr (eq_i res_at (Term.int_eval (1)) rfl), trivial⟩ ⟨hq.1, hq.2.1, (hq.2.2.sift fun y hy => Or.inr (N y hy)).mono (by decide) (by decide)⟩⟩
theorem main_1_1 : Claimed_1_1 := own_comes fun _ _ _ _ _ _ h hF => ⟨h.1, hF⟩
theorem main_1_2 : Claimed_1_2 := own_comes fun _ _ _ _ _ _ h hF => ⟨h.2.1, hF⟩
end Jvm.Pilot.@@N@@
namespace Jvm.Pilot.@@N@@
open Jvm Jvm.ClassFile Sem Op Lib Jvm.Free Jvm.Stand Jvm.Pilot.@@N@@.Jvm.D
/-! MADE BY PROGRAM (witnessworld.py) out of the Statement's table words and the real class files: 9 classes; the members and pool entries that the words name. The judged class is class 1, her method 4. -/
namespace start1
open Jvm.ClassFile
def u (s : String) : CpInfo := .utf8 (stringToUtf16 s)
/-- a pool by its gaps: so many unusable entries, then the entry; so many at the end -/
def gap : Nat → List CpInfo → List CpInfo
  | 0, r => r
  | n + 1, r => .unusable :: gap n r
def poolList (es : List (Nat × CpInfo)) (last : Nat) : List CpInfo := es.foldr (fun e r => gap e.1 (e.2 :: r)) (gap last [])
def pool (es : List (Nat × CpInfo)) (last : Nat) : Array CpInfo := ⟨poolList es last⟩
def fileOf (pool : Array CpInfo) (this : Nat) (attrs : Array Attribute := #[]) (ms : Array MethodInfo := #[]) (fl : Nat := 33) (sup : Nat := 0) (ifs : Array Nat := #[]) (fds : Array FieldInfo := #[]) : ClassFile where
  minorVersion := 0
  majorVersion := 65
  constantPool := pool
  accessFlags := fl
  thisClass := this
  superClass := sup
  interfaces := ifs
  fields := fds
  methods := ms
  attributes := attrs
def plain (name : String) (sup : Option ClassId) : Class where
  name := name
  kind := .ordinary
  loader := none
  accessFlags := 33
  super := sup
  interfaces := #[]
  cf := none
  fields := #[]
  methods := #[]
  instanceTypes := #[]
  staticTypes := #[]
  resolved := #[]
  callSites := []
  init := .initialized
  statics := none
  mirror := none

def pool0 : Array CpInfo := pool [(5, u "<init>"), (0, u "()V"), (1, .class_ 10), (1, u "java/lang/Object")] 113

def k0m0 : Method := { name := "<init>", desc := "()V", sig := { parameters := [], returnType := none }, accessFlags := 1, code := none }
/-- java/lang/Object -/
def k0 : Class := { plain "java/lang/Object" none with
  accessFlags := 33
  interfaces := #[]
  cf := some (fileOf pool0 8 #[] #[{ accessFlags := 1, nameIndex := 5, descriptorIndex := 6, attributes := #[] }] 33 0 #[] #[])
  fields := #[]
  methods := #[k0m0]
  instanceTypes := #[]
  staticTypes := #[]
  resolved := Array.replicate 124 none
  statics := none }

def pool1 : Array CpInfo := pool [(2, .class_ 4), (1, u "java/lang/Object"), (0, u "<init>"), (0, u "()V"), (0, .methodref 8 9), (0, .class_ 10), (0, .nameAndType 11 12), (0, u "com/example/chartpost/chartpost/http/HeaderFieldsEndPinLaw"), (0, u "pick"), (0, u "(IJI)B"), (0, .integer 2147483647), (0, .methodref 15 16), (0, .class_ 17), (0, .nameAndType 18 19), (0, u "com/example/chartpost/chartpost/http/HeaderFields"), (0, u "end"), (0, u "([BII)I"), (0, .methodref 8 21), (0, .nameAndType 22 23), (0, u "blank"), (0, u "([BIII)Z"), (0, .methodref 8 25), (0, .nameAndType 26 27), (0, u "crlf"), (0, u "([BII)Z"), (3, u "law"), (0, u "(IJII)Z")] 4

def k1m0 : Method := { name := "<init>", desc := "()V", sig := { parameters := [], returnType := none }, accessFlags := 2, code := none }
def k1c1 : Code := { maxStack := 4, maxLocals := 5, code := method_2_code, exceptionTable := #[], attributes := #[] }
def k1m1 : Method := { name := "pick", desc := "(IJI)B", sig := { parameters := [.int, .long, .int], returnType := some .byte }, accessFlags := 10, code := some k1c1 }
def k1c2 : Code := { maxStack := 3, maxLocals := 3, code := method_3_code, exceptionTable := #[], attributes := #[] }
def k1m2 : Method := { name := "crlf", desc := "([BII)Z", sig := { parameters := [(.array .byte), .int, .int], returnType := some .boolean }, accessFlags := 10, code := some k1c2 }
def k1c3 : Code := { maxStack := 3, maxLocals := 4, code := method_4_code, exceptionTable := #[], attributes := #[] }
def k1m3 : Method := { name := "blank", desc := "([BIII)Z", sig := { parameters := [(.array .byte), .int, .int, .int], returnType := some .boolean }, accessFlags := 10, code := some k1c3 }
def k1c4 : Code := { maxStack := 6, maxLocals := 10, code := code, exceptionTable := #[], attributes := #[] }
def k1m4 : Method := { name := "law", desc := "(IJII)Z", sig := { parameters := [.int, .long, .int, .int], returnType := some .boolean }, accessFlags := 9, code := some k1c4 }
/-- com/example/chartpost/chartpost/http/HeaderFieldsEndPinLaw -/
def k1 : Class := { plain "com/example/chartpost/chartpost/http/HeaderFieldsEndPinLaw" (some 0) with
  accessFlags := 49
  interfaces := #[]
  cf := some (fileOf pool1 8 #[] #[{ accessFlags := 2, nameIndex := 5, descriptorIndex := 6, attributes := #[] }, { accessFlags := 10, nameIndex := 11, descriptorIndex := 12, attributes := #[] }, { accessFlags := 10, nameIndex := 26, descriptorIndex := 27, attributes := #[] }, { accessFlags := 10, nameIndex := 22, descriptorIndex := 23, attributes := #[] }, { accessFlags := 9, nameIndex := 31, descriptorIndex := 32, attributes := #[] }] 49 2 #[] #[])
  fields := #[]
  methods := #[k1m0, k1m1, k1m2, k1m3, k1m4]
  instanceTypes := #[]
  staticTypes := #[]
  resolved := Array.replicate 37 none
  statics := none }

def pool2 : Array CpInfo := pool [(2, .class_ 4), (1, u "java/lang/Object"), (0, u "<init>"), (0, u "()V"), (0, .fieldref 8 9), (0, .class_ 10), (0, .nameAndType 11 12), (0, u "com/example/chartpost/chartpost/http/HeaderFields"), (0, u "CRLF"), (0, u "[B"), (0, .methodref 8 14), (0, .nameAndType 15 16), (0, u "startsWith"), (0, u "([BII[B)Z"), (0, .fieldref 8 18), (0, .nameAndType 19 12), (0, u "BLANK_LINE"), (124, .class_ 145), (0, u "com/example/chartpost/chartpost/http/HeaderFields$Field"), (14, u "end"), (0, u "([BII)I")] 48

def k2m0 : Method := { name := "<init>", desc := "()V", sig := { parameters := [], returnType := none }, accessFlags := 2, code := none }
def k2c1 : Code := { maxStack := 4, maxLocals := 4, code := prog_20_method_2_code, exceptionTable := #[], attributes := #[] }
def k2m1 : Method := { name := "end", desc := "([BII)I", sig := { parameters := [(.array .byte), .int, .int], returnType := some .int }, accessFlags := 9, code := some k2c1 }
def k2c2 : Code := { maxStack := 3, maxLocals := 5, code := prog_20_method_4_code, exceptionTable := #[], attributes := #[] }
def k2m2 : Method := { name := "startsWith", desc := "([BII[B)Z", sig := { parameters := [(.array .byte), .int, .int, (.array .byte)], returnType := some .boolean }, accessFlags := 10, code := some k2c2 }
/-- com/example/chartpost/chartpost/http/HeaderFields -/
def k2 : Class := { plain "com/example/chartpost/chartpost/http/HeaderFields" (some 0) with
  accessFlags := 49
  interfaces := #[]
  cf := some (fileOf pool2 8 #[.nestMembers #[144]] #[{ accessFlags := 2, nameIndex := 5, descriptorIndex := 6, attributes := #[] }, { accessFlags := 9, nameIndex := 160, descriptorIndex := 161, attributes := #[] }, { accessFlags := 10, nameIndex := 15, descriptorIndex := 16, attributes := #[] }] 49 2 #[] #[{ accessFlags := 26, nameIndex := 11, descriptorIndex := 12, attributes := #[] }, { accessFlags := 26, nameIndex := 19, descriptorIndex := 12, attributes := #[] }])
  fields := #[{ name := "CRLF", type := (.array .byte), accessFlags := 26, slot := 0, constantValue := 0 }, { name := "BLANK_LINE", type := (.array .byte), accessFlags := 26, slot := 1, constantValue := 0 }]
  methods := #[k2m0, k2m1, k2m2]
  instanceTypes := #[]
  staticTypes := #[(.array .byte), (.array .byte)]
  resolved := Array.replicate 210 none
  statics := some 0 }

def pool3 : Array CpInfo := pool [(1, u "java/lang/Cloneable"), (0, .class_ 1), (0, u "java/lang/Object"), (0, .class_ 3)] 3

/-- java/lang/Cloneable -/
def k3 : Class := { plain "java/lang/Cloneable" (some 0) with
  accessFlags := 1537
  interfaces := #[]
  cf := some (fileOf pool3 2 #[] #[] 1537 4 #[] #[])
  fields := #[]
  methods := #[]
  instanceTypes := #[]
  staticTypes := #[]
  resolved := Array.replicate 8 none
  statics := none }

def pool4 : Array CpInfo := pool [(1, u "java/io/Serializable"), (0, .class_ 1), (0, u "java/lang/Object"), (0, .class_ 3)] 3

/-- java/io/Serializable -/
def k4 : Class := { plain "java/io/Serializable" (some 0) with
  accessFlags := 1537
  interfaces := #[]
  cf := some (fileOf pool4 2 #[] #[] 1537 4 #[] #[])
  fields := #[]
  methods := #[]
  instanceTypes := #[]
  staticTypes := #[]
  resolved := Array.replicate 8 none
  statics := none }

/-- the primitive byte -/
def k5 : Class := { plain "byte" none with kind := .primitive 'B', accessFlags := 0x411 }
/-- [B -/
def k6 : Class := { plain "[B" (some 0) with kind := .array 5 .byte, interfaces := #[3, 4], accessFlags := 1041 }

/-- the primitive int -/
def k7 : Class := { plain "int" none with kind := .primitive 'I', accessFlags := 0x411 }
/-- [I -/
def k8 : Class := { plain "[I" (some 0) with kind := .array 7 .int, interfaces := #[3, 4], accessFlags := 1041 }

def heap : Heap := #[{ cls := 2, slots := #[.ref 1, .ref 2], vm := .statics 2 },
  { cls := 6, slots := #[.int 13, .int 10], vm := .none },
  { cls := 6, slots := #[.int 13, .int 10, .int 13, .int 10], vm := .none }]
def classes : Array Class := #[k0, k1, k2, k3, k4, k5, k6, k7, k8]
def interned : List (Array UInt16 × Addr) := []
def slotsUsed : Nat := 8
def theMethod : MethodId := ⟨1, 4⟩
def args0 : Array Value := #[.int 5, .long 6, .int 7, .int 8]
def aboutOver (below : List Frame) : State where
  vm := { classes := classes, interned := interned.toArray }
  heap := heap
  slotsUsed := slotsUsed
  threads := #[{ frames := .invoking theMethod args0 :: below }]
def below0 : List Frame := [.native { method := ⟨0, 0⟩, args := #[] }]
def about1 : State := aboutOver below0
def p0 : Program := .bare "" "" ""
def e0 : Env := launch0.env 0 0 0
theorem w_frames : about1.frames = Frame.invoking theMethod args0 :: below0 := rfl
set_option maxRecDepth 65536 in
theorem w_args : argsFit about1.vm theMethod args0 = true := by decide +kernel
set_option maxRecDepth 65536 in
theorem w_heap : heapFits about1 = true := by decide +kernel
set_option maxRecDepth 65536 in
theorem w_runnable : about1.curStatus? = some .runnable := by decide +kernel
set_option maxRecDepth 65536 in
theorem w_alone : about1.alone = true := by decide +kernel
set_option maxRecDepth 65536 in
theorem w_named : about1.methodNamed? x = some theMethod := by decide +kernel
set_option maxRecDepth 65536 in
theorem w_hears : about1.hears theMethod below0 = true := by decide +kernel
set_option maxRecDepth 65536 in
theorem w_ripe : about1.ripe theMethod args0 below0 = true := by decide +kernel
theorem w_running : about1.status = .running := rfl
set_option maxRecDepth 65536 in
theorem w_room : about1.hasRoom e0.platform room_1 = true :=
  launch0.hasRoom_least _ room_1 (by decide +kernel) (by decide +kernel) (by decide +kernel) (by decide +kernel) (by decide +kernel) (by decide +kernel)
theorem allAtoms_all (ts : List Jvm.Cond) (a : Array Jvm.Value) (st : Jvm.State) : (allAtoms ts).before a st = ts.all (fun c => c.before a st) := by
  induction ts with
  | nil => rfl
  | cons c t ih =>
    show (Jvm.Cond.and c (allAtoms t)).before a st = _
    rw [Jvm.Cond.before_and, ih, List.all_cons]
def words1 : List Jvm.Cond := Jvm.Cond.code x code maxLocals ret :: tables_1
/-- a 'code' word, met by the world's own term for the bytes: nothing is compared byte by byte -/
theorem code_word {y : MethodName} {bytes : ByteArray} {mx : Nat} {rt : Option FieldType} {a : Array Value} {s : State} {m : MethodId} {meth : Method} {c : Code} (h1 : s.methodNamed? y = some m) (h2 : s.vm.method? m = some meth) (h3 : meth.code = some c) (h4 : c.code = bytes)
    (h5 : (c.maxLocals == mx && c.exceptionTable.isEmpty && decide (c.maxStack ≤ mostOperands) && decide (meth.sig.returnType = rt) && !meth.locks && decide (parseMethodDescriptor y.desc = some meth.sig)) = true) : (Jvm.Cond.code y bytes mx rt).before a s = true := by
  simp only [Bool.and_eq_true, beq_iff_eq, Bool.not_eq_true', decide_eq_true_eq] at h5
  obtain ⟨⟨⟨⟨⟨g1, g2⟩, g3⟩, g4⟩, g5⟩, g6⟩ := h5
  simp [Cond.before, Cond.holds, Cond.value, h1, h2, h3, h4, g1, g2, g3, g4, g5, g6]
def isCode : Jvm.Cond → Bool
  | .code _ _ _ _ => true
  | _ => false
theorem all_split {L : List Jvm.Cond} {P : Jvm.Cond → Bool} (h1 : L.all (fun c => isCode c || P c) = true) (h2 : ∀ c ∈ L.filter isCode, P c = true) : L.all P = true := by
  refine List.all_eq_true.mpr fun c hc => ?_
  have h := List.all_eq_true.mp h1 c hc
  rcases Bool.eq_false_or_eq_true (isCode c) with hi | hi
  · exact h2 c (List.mem_filter.mpr ⟨hc, hi⟩)
  · simpa [hi] using h
set_option maxRecDepth 65536 in
theorem w_c0 : (Jvm.Cond.code x code maxLocals ret).before args0 about1 = true := code_word (m := ⟨1, 4⟩) (meth := k1m4) (c := k1c4) (by decide +kernel) rfl rfl rfl (by decide +kernel)
set_option maxRecDepth 65536 in
theorem w_c1 : (Jvm.Cond.code ({ cls := "com/example/chartpost/chartpost/http/HeaderFieldsEndPinLaw", name := "pick", desc := "(IJI)B" } : Jvm.MethodName) method_2_code (5 : Nat) (Option.some Jvm.ClassFile.FieldType.byte)).before args0 about1 = true := code_word (m := ⟨1, 1⟩) (meth := k1m1) (c := k1c1) (by decide +kernel) rfl rfl rfl (by decide +kernel)
set_option maxRecDepth 65536 in
theorem w_c2 : (Jvm.Cond.code ({ cls := "com/example/chartpost/chartpost/http/HeaderFields", name := "end", desc := "([BII)I" } : Jvm.MethodName) prog_20_method_2_code (4 : Nat) (Option.some Jvm.ClassFile.FieldType.int)).before args0 about1 = true := code_word (m := ⟨2, 1⟩) (meth := k2m1) (c := k2c1) (by decide +kernel) rfl rfl rfl (by decide +kernel)
set_option maxRecDepth 65536 in
theorem w_c3 : (Jvm.Cond.code ({ cls := "com/example/chartpost/chartpost/http/HeaderFields", name := "startsWith", desc := "([BII[B)Z" } : Jvm.MethodName) prog_20_method_4_code (5 : Nat) (Option.some Jvm.ClassFile.FieldType.boolean)).before args0 about1 = true := code_word (m := ⟨2, 2⟩) (meth := k2m2) (c := k2c2) (by decide +kernel) rfl rfl rfl (by decide +kernel)
set_option maxRecDepth 65536 in
theorem w_c4 : (Jvm.Cond.code ({ cls := "com/example/chartpost/chartpost/http/HeaderFieldsEndPinLaw", name := "blank", desc := "([BIII)Z" } : Jvm.MethodName) method_4_code (4 : Nat) (Option.some Jvm.ClassFile.FieldType.boolean)).before args0 about1 = true := code_word (m := ⟨1, 3⟩) (meth := k1m3) (c := k1c3) (by decide +kernel) rfl rfl rfl (by decide +kernel)
set_option maxRecDepth 65536 in
theorem w_c5 : (Jvm.Cond.code ({ cls := "com/example/chartpost/chartpost/http/HeaderFieldsEndPinLaw", name := "crlf", desc := "([BII)Z" } : Jvm.MethodName) method_3_code (3 : Nat) (Option.some Jvm.ClassFile.FieldType.boolean)).before args0 about1 = true := code_word (m := ⟨1, 2⟩) (meth := k1m2) (c := k1c2) (by decide +kernel) rfl rfl rfl (by decide +kernel)
def codes1 : List Jvm.Cond := [Jvm.Cond.code x code maxLocals ret, Jvm.Cond.code ({ cls := "com/example/chartpost/chartpost/http/HeaderFieldsEndPinLaw", name := "pick", desc := "(IJI)B" } : Jvm.MethodName) method_2_code (5 : Nat) (Option.some Jvm.ClassFile.FieldType.byte), Jvm.Cond.code ({ cls := "com/example/chartpost/chartpost/http/HeaderFields", name := "end", desc := "([BII)I" } : Jvm.MethodName) prog_20_method_2_code (4 : Nat) (Option.some Jvm.ClassFile.FieldType.int), Jvm.Cond.code ({ cls := "com/example/chartpost/chartpost/http/HeaderFields", name := "startsWith", desc := "([BII[B)Z" } : Jvm.MethodName) prog_20_method_4_code (5 : Nat) (Option.some Jvm.ClassFile.FieldType.boolean), Jvm.Cond.code ({ cls := "com/example/chartpost/chartpost/http/HeaderFieldsEndPinLaw", name := "blank", desc := "([BIII)Z" } : Jvm.MethodName) method_4_code (4 : Nat) (Option.some Jvm.ClassFile.FieldType.boolean), Jvm.Cond.code ({ cls := "com/example/chartpost/chartpost/http/HeaderFieldsEndPinLaw", name := "crlf", desc := "([BII)Z" } : Jvm.MethodName) method_3_code (3 : Nat) (Option.some Jvm.ClassFile.FieldType.boolean)]
set_option maxRecDepth 65536 in
theorem codes_eq : words1.filter isCode = codes1 := rfl
theorem w_codes : ∀ c ∈ words1.filter isCode, c.before args0 about1 = true := by
  rw [codes_eq]
  intro c hc
  simp only [codes1, List.mem_cons, List.not_mem_nil, or_false] at hc
  rcases hc with rfl | rfl | rfl | rfl | rfl | rfl
  · exact w_c0
  · exact w_c1
  · exact w_c2
  · exact w_c3
  · exact w_c4
  · exact w_c5
set_option maxRecDepth 65536 in
theorem w_t1 : words1.all (fun c => isCode c || c.before args0 about1) = true := by decide +kernel
theorem w_tables : (allAtoms (Jvm.Cond.code x code maxLocals ret :: tables_1)).before args0 about1 = true := by
  rw [allAtoms_all]
  show words1.all (fun c => c.before args0 about1) = true
  refine all_split ?_ w_codes
  rw [w_t1]
set_option maxRecDepth 65536 in
theorem w_case : (Jvm.Cond.and given_1 narrow_1).before args0 about1 = true := by decide +kernel
theorem w_applies : (headSpec (Jvm.Cond.code x code maxLocals ret :: tables_1) room_1).applies x e0.platform about1 = true :=
  (Spec.applies_iff w_frames).mpr ⟨w_running, w_runnable, w_alone, w_named, w_hears, w_ripe, w_room, w_tables⟩
theorem atStart : AtStart classFile x code maxLocals ret World_1 tables_1 room_1 Calls_1 rest_1 Pre_1 launch0 p0 e0 about1 theMethod args0 below0 :=
  ⟨lists_1, trivial, launch0.admits_env _ _ _, launch0.least_env, fairChoices_fair.cas, fairChoices_fair.clock, w_frames, w_args, w_heap, w_applies, trivial, trivial, w_case⟩
end start1
theorem witness_1 : WitnessClaimed_1 := ⟨start1.p0, start1.e0, start1.about1, start1.theMethod, start1.args0, start1.below0, start1.atStart⟩
end Jvm.Pilot.@@N@@
